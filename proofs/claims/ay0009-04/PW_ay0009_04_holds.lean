import PyProof.Rows.All
import Wide.All
import OpenK.AllK
import Wide.FinOn
import PySem.Challenge.RW_ay0009_04
open PySem PySem.W PySem.Calls PyProof.Rows
set_option Elab.async false
set_option rowWalk.seconds 0
set_option linter.all false
set_option compiler.extract_closed false
namespace Mine
section
abbrev tabObj (ps : Array Value) : Obj := { cls := .none, data := .fields ps }
def hookTab (H : Hook) : Hook where
  α := H.α × (Option Obj × Option Obj)
  obs := fun s => (H.obs s, (s.heap.get? 86, s.heap.get? 93))
  val := fun w => (H.val w, (some (tabObj #[]), some (tabObj #[])))
  says := fun w h => H.says w h ∧ h.get? 86 = some (tabObj #[]) ∧ h.get? 93 = some (tabObj #[])
  of := fun w s e => ⟨H.of w s (congrArg Prod.fst e), congrArg (fun x => x.2.1) e, congrArg (fun x => x.2.2) e⟩
  keeps := fun w h h' x k => ⟨H.keeps w h h' x.1 k, k _ _ x.2.1, k _ _ x.2.2⟩
local macro_rules | `(tactic| o_head (kHook $a $b $c)) => `(tactic| o_head (hookTab (kHook $a $b $c)))
noncomputable def topFromF (p : Program) (w : World) (N : Nat) (s₀ : Shared) : Option Shared :=
  match s₀.heap.isNs mainGlobals && s₀.gens.size == 0 with
  | true => (Fast.tw14082659384304107361 Fast.tw14364793385576792824 p w s₀.heap.objs.size (s₀.heap.nsMap mainGlobals "__annotations__") N s₀ (topStub p)).bind fun s₁ => match staticsOk (Fast.tw5923862056798008813 p.main.body) s₀.heap s₁.heap && namesBound p s₁.heap && gensDone s₁ && laidKept s₀.heap s₁.heap with
      | true => some s₁
      | false => none
  | false => none
theorem topFromF_eq (p : Program) (w : World) (N : Nat) (s₀ : Shared) : topFromF p w N s₀ = topFrom treeTable p w N s₀ := by
  unfold topFromF topFrom
  rw [← Fast.te14082659384304107361, ← Fast.te14364793385576792824, ← Fast.te5923862056798008813]
  cases s₀.heap.isNs mainGlobals && s₀.gens.size == 0 <;> rfl
abbrev LeftQ (p q : Program) (loose : List Str) (Xt : Shared → Bool) {α : Type} (Yf : Shared → α) (Ya : World → α) (N : Nat) : Prop :=
  ∀ w : World, (fun os : OsState => (topFromF p w N ⟨boot_heap w.params, { toList := [] }, boot_drawn, boot_toks, os⟩).map (fun s => (Fast.tw4187177175401517315 q loose (Fast.tw5923862056798008813 p.main.body) Xt true s, Yf s))) = fun _ => some (openGood q loose, Ya w)
theorem left_of {p q : Program} {loose : List Str} {Xt : Shared → Bool} {α : Type} {Yf : Shared → α} {Ya : World → α} {N : Nat} (h : LeftQ p q loose Xt Yf Ya N)
    (e : opening p = plainProg p.main.scope.names) (f : ∀ s, fenceModules? p s = some s) (le : Nat.ble 600 N = true) : LeftO p q loose Xt Yf Ya N := fun w => by
  obtain ⟨s, hs, hv⟩ := Option.map_eq_some_iff.mp (boot_open e le f w)
  have h1 := congrFun (h w) s.os
  rw [topFromF_eq, ← Fast.te4187177175401517315, ← Fast.te5923862056798008813] at h1
  have h2 : s = ⟨boot_heap w.params, { toList := [] }, boot_drawn, boot_toks, s.os⟩ := by
    cases s
    simp only [Prod.mk.injEq] at hv
    obtain ⟨a, b, c, d⟩ := hv
    subst a; subst b; subst c; subst d
    rfl
  rw [← h2] at h1
  unfold openEnds
  rw [hs]
  exact h1
theorem PySem.W.holds_open {r : OpenRow} {q : Program} {loose : List Str} {Xt : Shared → Bool} {XP : (Str → Option Value) → Heap → Prop} {α : Type} {Yf : Shared → α} {Ya : World → α} {YP : World → Heap → Prop} {d : DefRec} {kwd : List (Str × Expr)} {N : Nat}
    (left : LeftQ r.prog q loose Xt Yf Ya N) (hY : ∀ w s, Yf s = Ya w → YP w s.heap) (hYk : ∀ w h h', YP w h → (∀ b o, h.get? b = some o → h'.get? b = some o) → YP w h')
    (hX : ∀ s, Xt s = true → XP (s.heap.nsMap mainGlobals) s.heap) (hXk : ∀ mg h h', XP mg h → (∀ b o, h.get? b = some o → h'.get? b = some o) → XP mg h')
    (hdef : defOf q r.name = some (d, kwd)) (hp : r.prog.theDef r.name = some (d.params, d.body, d.scope)) (hk : kwWritten? d.params.kwonlyargs d.params.kw_defaults = some kwd) (hRf : ∀ s, Xt s = true → RecFacts r.records s.heap) (hwr : (!r.writes || r.records.isEmpty) = true)
    (k1 : r.wellSaid = true) (ok : (chainsOk q && opensWell r.prog && (frees r.toRowW && r.within.isEmpty)) = true) (hb : r.prog.bare) (hw : r.toRowW.promised)
    (call : WalkO q loose XP YP r.toRowW d kwd fun f vs => PySem.call f vs)
    (e : opening r.prog = plainProg r.prog.main.scope.names := by kernel_rfl) (f : ∀ s, fenceModules? r.prog s = some s := by exact fun _ => rfl) (le : Nat.ble 600 N = true := by decide) : r.Holds :=
  _root_.PySem.W.holds_open (left_of left e f le) hY hYk hX hXk hdef hp hk hRf hwr k1 ok hb hw call
local macro_rules | `(tactic| o_law) => `(tactic| refine holds_law (by rw [Fast.te9446332074065402090]; decide +kernel) fun said => ?_)
set_option maxRecDepth 100000 in
set_option maxHeartbeats 8000000 in
open_top hd for PySem.Challenge.rw_ay0009_04

end
section
theorem codeAny_le {M : Model} {A A' : Around} {c : Code} {R : Result → Shared → Prop} {s : Shared} (h : codeAny M A c R s)
    (h1 : A'.handled = A.handled) (h2 : A'.depth ≤ A.depth) (h3 : A'.frames = A.frames) (h4 : A'.guards = A.guards) (h5 : A'.units ≤ A.units) : codeAny M A' c R s :=
  fun Γ p hc hΓ => h Γ p hc ⟨hΓ.1.trans h1, Nat.le_trans hΓ.2.1 h2, fun l hl => hΓ.2.2.1 l (h3.trans hl), fun g hg => hΓ.2.2.2.1 g (h4.trans hg), Nat.le_trans hΓ.2.2.2.2 h5⟩

abbrev arA (dp un : Nat) (gd : Option (List Code)) (env : Env) (outer : List Env) : Around := { handled := none, depth := dp, frames := some (env :: outer), guards := gd, units := un }
theorem codeAny_ar {M : Model} {A : Around} {env : Env} {outer : List Env} {c : Code} {R : Result → Shared → Prop} {s : Shared} {D U : Nat}
    (hA : A.frames = some (env :: outer)) (hH : A.handled = none) (hd : A.depth ≤ D) (hu : A.units ≤ U) (h : codeAny M (arA D U A.guards env outer) c R s) : codeAny M A c R s :=
  codeAny_le h hH hd hA rfl hu

abbrev ringD (w : World) (t1 t2 : Tok) (q : Int) (n : Int) (u1 u2 : Tok) : Obj :=
  dictOf [⟨PyData.keyHash w.params "q", .str "q" t1, .int q u1⟩, ⟨PyData.keyHash w.params "n", .str "n" t2, .int n u2⟩] 2
abbrev polyD (w : World) (t1 t2 : Tok) (r l : Addr) : Obj :=
  dictOf [⟨PyData.keyHash w.params "parent", .str "parent" t1, .ref r⟩, ⟨PyData.keyHash w.params "coeffs", .str "coeffs" t2, .ref l⟩] 2

structure IsRing (w : World) (news : List (Addr × Obj)) (r : Addr) (q n : Int) : Prop where
  out : ∃ dr t1 t2 u1 u2, (r, instObj 66 dr) ∈ news ∧ (dr, ringD w t1 t2 q n u1 u2) ∈ news
structure IsInts (news : List (Addr × Obj)) (l : Addr) (cs : List Int) : Prop where
  out : ∃ vs n, (l, W.listOf vs.toArray n) ∈ news ∧ IntsAre vs cs
structure IsPoly (w : World) (news : List (Addr × Obj)) (r x : Addr) (cs : List Int) : Prop where
  out : ∃ dx lx t1 t2, (x, instObj 227 dx) ∈ news ∧ (dx, polyD w t1 t2 r lx) ∈ news ∧ IsInts news lx cs
theorem IsRing.mono {w : World} {news news' : List (Addr × Obj)} {r : Addr} {q n : Int} (h : IsRing w news r q n) (hs : ∀ p ∈ news, p ∈ news') : IsRing w news' r q n :=
  let ⟨dr, t1, t2, u1, u2, a, b⟩ := h.out; ⟨dr, t1, t2, u1, u2, hs _ a, hs _ b⟩
theorem IsInts.mono {news news' : List (Addr × Obj)} {l : Addr} {cs : List Int} (h : IsInts news l cs) (hs : ∀ p ∈ news, p ∈ news') : IsInts news' l cs :=
  let ⟨vs, n, a, b⟩ := h.out; ⟨vs, n, hs _ a, b⟩
theorem IsPoly.cast {w : World} {news : List (Addr × Obj)} {r x : Addr} {cs ds : List Int} (h : IsPoly w news r x cs) (e : cs = ds) : IsPoly w news r x ds := e ▸ h
theorem IsPoly.mono {w : World} {news news' : List (Addr × Obj)} {r x : Addr} {cs : List Int} (h : IsPoly w news r x cs) (hs : ∀ p ∈ news, p ∈ news') : IsPoly w news' r x cs :=
  let ⟨dx, lx, t1, t2, a, b, c⟩ := h.out; ⟨dx, lx, t1, t2, hs _ a, hs _ b, c.mono hs⟩

theorem ints1 {ys : List Value} {x : Int} (h : IntsAre ys [x]) : ∃ t0, ys = [.int x t0] := by
  cases h with | cons _ _ h => cases h; exact ⟨_, rfl⟩
theorem ints2 {ys : List Value} {x y : Int} (h : IntsAre ys [x, y]) : ∃ t0 t1, ys = [.int x t0, .int y t1] := by
  cases h with | cons _ _ h => cases h with | cons _ _ h => cases h; exact ⟨_, _, rfl⟩
theorem ints4 {ys : List Value} {x y z u : Int} (h : IntsAre ys [x, y, z, u]) : ∃ t0 t1 t2 t3, ys = [.int x t0, .int y t1, .int z t2, .int u t3] := by
  cases h with | cons _ _ h => cases h with | cons _ _ h => cases h with | cons _ _ h => cases h with | cons _ _ h => cases h; exact ⟨_, _, _, _, rfl⟩

theorem off1_all {D : Addr} : ∀ {l : List (Addr × Obj)}, LCg.Off1 D l → ∀ p ∈ l, p.1 ≠ D
  | [], _, _, h => (nomatch h)
  | _ :: _, h, p, hp => by
    rcases List.mem_cons.mp hp with rfl | hp
    · exact h.1
    · exact off1_all h.2 p hp
theorem news_sub {h₀ h : Heap} {L : Addr} {news news' : List (Addr × Obj)} (N : News h₀ L h news') (hs : ∀ p ∈ news, p ∈ news') : News h₀ L h news := fun p hp => N p (hs p hp)
theorem news_cons {h₀ h : Heap} {L : Addr} {news : List (Addr × Obj)} {q : Addr × Obj} (hq : q ∈ news) (N : News h₀ L h news) : News h₀ L h (q :: news) := fun p hp => by
  rcases List.mem_cons.mp hp with rfl | hp
  · exact N _ hq
  · exact N _ hp
theorem sub_cons {q : Addr × Obj} {l l' : List (Addr × Obj)} (h : ∀ p ∈ l, p ∈ l') (hq : q ∈ l') : ∀ p ∈ q :: l, p ∈ l' := fun p hp => by
  rcases List.mem_cons.mp hp with rfl | hp
  · exact hq
  · exact h p hp
theorem sub_skip {q : Addr × Obj} {l l' : List (Addr × Obj)} (h : ∀ p ∈ l, p ∈ l') : ∀ p ∈ l, p ∈ q :: l' := fun p hp => List.mem_cons_of_mem _ (h p hp)
theorem sub_trans {a b c : List (Addr × Obj)} (h : ∀ p ∈ a, p ∈ b) (k : ∀ p ∈ b, p ∈ c) : ∀ p ∈ a, p ∈ c := fun p hp => k p (h p hp)
theorem sub_trans2 {a b c : List (Addr × Obj)} (k : ∀ p ∈ b, p ∈ c) (h : ∀ p ∈ a, p ∈ b) : ∀ p ∈ a, p ∈ c := fun p hp => k p (h p hp)
theorem sub_mem {a b : List (Addr × Obj)} {q : Addr × Obj} (h : ∀ p ∈ a, p ∈ b) (k : q ∈ a) : q ∈ b := h q k
theorem sub_refl {l : List (Addr × Obj)} : ∀ p ∈ l, p ∈ l := fun _ h => h
theorem cons_congr {x y : Int} {a b : List Int} (h : x = y) (e : a = b) : x :: a = y :: b := h ▸ e ▸ rfl
theorem ints_cast {vs : List Value} {a b : List Int} (h : IntsAre vs a) (e : a = b) : IntsAre vs b := e ▸ h
theorem off1_of {d : Addr} : ∀ {l : List (Addr × Obj)}, AllLt d l → LCg.Off1 d l
  | [], _ => trivial
  | _ :: _, h => ⟨Nat.ne_of_lt h.1, off1_of h.2⟩
theorem off1_lt {d x : Addr} (hx : @LT.lt Nat _ d x) {l : List (Addr × Obj)} (h : AllLt d l) : LCg.Off1 x l := off1_of (tbn_up hx h)
theorem my_unrEnd {h₀ : Heap} {L I : Addr} {it : Obj} {rest : (Str → Option Value) → List (Addr × Obj) → Prop} {s₁ : Shared} {h' : Heap} {tk : Nat} {m' : Str → Option Value} {news' : List (Addr × Obj)} (F : Fr h₀ L h' m') (N : News h₀ L h' ((I, it) :: news'))
    (off : AllLt I news') (r : rest m' news') : UnrEnd h₀ L s₁ I it rest { s₁ with heap := h', toks := tk } :=
  UnrEnd.intro F N news' (fun _ hp => hp) (tbn_neAll off) r
theorem my_sub {prog : Program} {w : World} {A : Around} {E : Value → Shared → Prop} {s : Shared} {h₀ : Heap} {L l : Addr} {news : List (Addr × Obj)} {value slice : PySem.Expr} {vs : List Value} {n : Nat} {k : Int} {u : Tok} {v : Value} {Q : Value → Shared → Prop}
    (N : News h₀ L s.heap news) (hm : (l, W.listOf vs.toArray n) ∈ news) (h0 : 0 ≤ k) (hhi : k < 2 ^ 63) (hx : vs[k.toNat]? = some v) (h : Q v s)
    (hs : subscripted slice false (.ref l) (.int k u) = operate [.ref l, .int k u] (getItem (.ref l) (.int k u)) := by with_unfolding_all rfl) :
    wpAny (model prog w) A (subscriptTail value slice (.ref l) (.int k u)) Q E s :=
  have hl := News.isList N hm
  tail_any hl.typeIs slot_list_getitem.lookup (wpAny_getItem_list hl h0 hhi (by simpa using hx) h) hs
theorem my_copy {prog : Program} {w : World} {A : Around} {E : Value → Shared → Prop} {s : Shared} {h₀ : Heap} {L l : Addr} {m : Str → Option Value} {news : List (Addr × Obj)} {vs : List Value} {Q : Value → Shared → Prop}
    (F : Fr h₀ L s.heap m) (N : News h₀ L s.heap news) (hl : s.heap.IsList l vs.toArray)
    (h : ∀ D h', Fr h₀ L h' m → News h₀ L h' ((D, W.listOf vs.toArray 0) :: news) → (∀ q ∈ news, q.1 < D) → Q (.ref D) { s with heap := h' }) (hsz : vs.length ≤ sizeLine) :
    wpAny (model prog w) A (call (.builtin "list.copy") [.ref l]) Q E s :=
  copy_list F N hl (fun h' F' N' => h _ h' F' N' fun q hq => Heap.lt_size (N q hq).1) hsz
theorem my_pow1 {prog : Program} {w : World} {A : Around} {E : Value → Shared → Prop} {s : Shared} {Q : Value → Shared → Prop} {a n : Int} {t u : Tok} (hn : 0 ≤ n) (hn2 : n ≤ 1000000) (ha : a.natAbs < 2 ^ 64) (e : a ^ n.toNat = 1) (h : Q (.int 1 s.toks) { s with toks := s.toks + 1 }) :
    wpAny (model prog w) A (binaryOp .Pow (.int a t) (.int n u)) Q E s := pow_int_small hn hn2 ha (by rw [e]; exact h)
theorem my_powm {prog : Program} {w : World} {A : Around} {E : Value → Shared → Prop} {s : Shared} {Q : Value → Shared → Prop} {a n : Int} {t u : Tok} (hn : 0 ≤ n) (hn2 : n ≤ 1000000) (ha : a.natAbs < 2 ^ 64) (e : a ^ n.toNat = -1) (h : Q (.int (-1) s.toks) { s with toks := s.toks + 1 }) :
    wpAny (model prog w) A (binaryOp .Pow (.int a t) (.int n u)) Q E s := pow_int_small hn hn2 ha (by rw [e]; exact h)
theorem int_cast9 {R : Result → Shared → Prop} {a b : Int} {tk : Tok} {s : Shared} (h : R (.ok (.ret (.int a tk))) s) (e : a = b) : R (.ok (.ret (.int b tk))) s := e ▸ h
theorem my_get {prog : Program} {w : World} {A : Around} {E : Value → Shared → Prop} {s : Shared} {h₀ : Heap} {L l : Addr} {news : List (Addr × Obj)} {vs : List Value} {n : Nat} {k : Int} {u : Tok} {v : Value} {Q : Value → Shared → Prop}
    (N : News h₀ L s.heap news) (hm : (l, W.listOf vs.toArray n) ∈ news) (h0 : 0 ≤ k) (hhi : k < 2 ^ 63) (hx : vs[k.toNat]? = some v) (h : Q v s) :
    wpAny (model prog w) A (getItem (.ref l) (.int k u)) Q E s :=
  have hl := News.isList N hm
  wpAny_getItem_list hl h0 hhi (by simpa using hx) h


def mulL (q : Int) : List Int → List Int → List Int
  | [a0, a1], [b0, b1] => [(a0 * b0 - a1 * b1) % q, (a0 * b1 + a1 * b0) % q]
  | [a0, a1, a2, a3], [b0, b1, b2, b3] => [(a0 * b0 - a1 * b3 - a2 * b2 - a3 * b1) % q, (a0 * b1 + a1 * b0 - a2 * b3 - a3 * b2) % q, (a0 * b2 + a1 * b1 + a2 * b0 - a3 * b3) % q, (a0 * b3 + a1 * b2 + a2 * b1 + a3 * b0) % q]
  | _, _ => []
def oneL (n : Nat) : List Int := 1 :: List.replicate (n - 1) 0
def powSM (q : Int) (k : Nat) (f g : List Int) : List Int :=
  if k = 0 then g else powSM q (k / 2) (mulL q f f) (if k % 2 = 1 then mulL q g f else g)
termination_by k
decreasing_by omega
def addI (q v : Int) : List Int → List Int
  | [] => []
  | c :: r => (c + v) % q :: r
def subI (q v : Int) : List Int → List Int
  | [] => []
  | c :: r => (c - v) % q :: r
def mulI (q v : Int) (cs : List Int) : List Int := cs.map fun c => (c * v) % q
def negL (q : Int) (cs : List Int) : List Int := cs.map fun c => (-c) % q
def addL (q : Int) : List Int → List Int → List Int
  | a :: r, b :: t => (a + b) % q :: addL q r t
  | _, _ => []
def eqI (q v : Int) : List Int → Bool
  | [] => false
  | c :: r => r.all (· == 0) && (v % q == c)
def normL : List Int → Int
  | [a0, a1] => a0 * a0 + a1 * a1
  | [a0, a1, a2, a3] =>
    let e0 := a0 * a0 - a2 * a2 + 2 * (a1 * a3)
    let e1 := 2 * (a0 * a2) - a1 * a1 + a3 * a3
    e0 * e0 + e1 * e1
  | _ => 0
structure Good (q : Int) (n : Nat) (cs : List Int) : Prop where
  len : cs.length = n
  red : ∀ c ∈ cs, 0 ≤ c ∧ c < q
theorem bits_red {q c : Int} {b : Nat} (hq : Builtin.Int.intBits q ≤ b) (h : 0 ≤ c ∧ c < q) : Builtin.Int.intBits c ≤ b := bits_of_natAbs_le (by omega) hq
theorem len_two {cs : List Int} (h : cs.length = 2) : ∃ a0 a1, cs = [a0, a1] := by
  match cs, h with
  | [a0, a1], _ => exact ⟨_, _, rfl⟩
theorem len_four {cs : List Int} (h : cs.length = 4) : ∃ a0 a1 a2 a3, cs = [a0, a1, a2, a3] := by
  match cs, h with
  | [a0, a1, a2, a3], _ => exact ⟨_, _, _, _, rfl⟩
theorem bits_good {q : Int} {n b : Nat} {cs : List Int} (hq : Builtin.Int.intBits q ≤ b) (h : Good q n cs) : ∀ c ∈ cs, Builtin.Int.intBits c ≤ b := fun c hc => bits_red hq (h.red c hc)
theorem Good.two {q : Int} {cs : List Int} (h : Good q 2 cs) : ∃ a0 a1, cs = [a0, a1] := by
  match cs, h.len with
  | [a0, a1], _ => exact ⟨_, _, rfl⟩
theorem Good.four {q : Int} {cs : List Int} (h : Good q 4 cs) : ∃ a0 a1 a2 a3, cs = [a0, a1, a2, a3] := by
  match cs, h.len with
  | [a0, a1, a2, a3], _ => exact ⟨_, _, _, _, rfl⟩
theorem Good.mul {q : Int} {n : Nat} {cs ds : List Int} (hq : 2 ≤ q) (hn : n = 2 ∨ n = 4) (h : Good q n cs) (k : Good q n ds) : Good q n (mulL q cs ds) := by
  have hm : ∀ a : Int, 0 ≤ a % q ∧ a % q < q := fun a => ⟨Int.emod_nonneg a (by omega), Int.emod_lt_of_pos a (by omega)⟩
  rcases hn with rfl | rfl
  · obtain ⟨a0, a1, rfl⟩ := h.two
    obtain ⟨b0, b1, rfl⟩ := k.two
    refine ⟨rfl, ?_⟩
    intro c hc
    simp only [mulL, List.mem_cons, List.not_mem_nil, or_false] at hc
    rcases hc with rfl | rfl <;> exact hm _
  · obtain ⟨a0, a1, a2, a3, rfl⟩ := h.four
    obtain ⟨b0, b1, b2, b3, rfl⟩ := k.four
    refine ⟨rfl, ?_⟩
    intro c hc
    simp only [mulL, List.mem_cons, List.not_mem_nil, or_false] at hc
    rcases hc with rfl | rfl | rfl | rfl <;> exact hm _
theorem Good.mod {q : Int} (hq : 2 ≤ q) (a : Int) : 0 ≤ a % q ∧ a % q < q := ⟨Int.emod_nonneg a (by omega), Int.emod_lt_of_pos a (by omega)⟩
theorem Good.addI {q v : Int} {n : Nat} {cs : List Int} (hq : 2 ≤ q) (h : Good q n cs) : Good q n (addI q v cs) := by
  obtain ⟨hl, hr⟩ := h
  cases cs with
  | nil => exact ⟨hl, hr⟩
  | cons c r =>
    refine ⟨hl, fun a ha => ?_⟩
    rcases List.mem_cons.mp ha with rfl | ha
    · exact Good.mod hq _
    · exact hr a (List.mem_cons_of_mem _ ha)
theorem Good.subI {q v : Int} {n : Nat} {cs : List Int} (hq : 2 ≤ q) (h : Good q n cs) : Good q n (subI q v cs) := by
  obtain ⟨hl, hr⟩ := h
  cases cs with
  | nil => exact ⟨hl, hr⟩
  | cons c r =>
    refine ⟨hl, fun a ha => ?_⟩
    rcases List.mem_cons.mp ha with rfl | ha
    · exact Good.mod hq _
    · exact hr a (List.mem_cons_of_mem _ ha)
theorem Good.neg {q : Int} {n : Nat} {cs : List Int} (hq : 2 ≤ q) (h : Good q n cs) : Good q n (negL q cs) := by
  refine ⟨by rw [negL, List.length_map]; exact h.len, fun a ha => ?_⟩
  obtain ⟨b, _, rfl⟩ := List.mem_map.mp ha
  exact Good.mod hq _
theorem Good.mulI {q v : Int} {n : Nat} {cs : List Int} (hq : 2 ≤ q) (h : Good q n cs) : Good q n (mulI q v cs) := by
  refine ⟨by rw [Mine.mulI, List.length_map]; exact h.len, fun a ha => ?_⟩
  obtain ⟨b, _, rfl⟩ := List.mem_map.mp ha
  exact Good.mod hq _
theorem addL_good {q : Int} (hq : 2 ≤ q) : ∀ (a b : List Int), a.length = b.length → (addL q a b).length = a.length ∧ ∀ c ∈ addL q a b, 0 ≤ c ∧ c < q
  | [], [], _ => ⟨rfl, fun _ h => nomatch h⟩
  | x :: r, y :: t, h => by
    have ih := addL_good hq r t (by simpa using h)
    refine ⟨by simp [addL, ih.1], fun c hc => ?_⟩
    rcases List.mem_cons.mp hc with rfl | hc
    · exact Good.mod hq _
    · exact ih.2 c hc
theorem Good.addL {q : Int} {n : Nat} {cs ds : List Int} (hq : 2 ≤ q) (h : Good q n cs) (k : Good q n ds) : Good q n (addL q cs ds) := by
  have := addL_good hq cs ds (h.len.trans k.len.symm)
  exact ⟨this.1.trans h.len, this.2⟩
theorem Good.one {q : Int} {n : Nat} (hq : 2 ≤ q) (hn : n = 2 ∨ n = 4) : Good q n (oneL n) := by
  rcases hn with rfl | rfl
  · refine ⟨rfl, ?_⟩
    intro c hc
    simp only [oneL, List.replicate, List.mem_cons, List.not_mem_nil, or_false] at hc
    rcases hc with rfl | rfl <;> omega
  · refine ⟨rfl, ?_⟩
    intro c hc
    simp only [oneL, List.replicate, List.mem_cons, List.not_mem_nil, or_false] at hc
    rcases hc with rfl | rfl | rfl | rfl <;> omega
theorem Good.powSM {q : Int} {n : Nat} (hq : 2 ≤ q) (hn : n = 2 ∨ n = 4) : ∀ (k : Nat) {f g : List Int}, Good q n f → Good q n g → Good q n (Mine.powSM q k f g) := by
  intro k
  induction k using Nat.strongRecOn with
  | _ k ih =>
    intro f g hf hg
    rw [Mine.powSM]
    split
    · exact hg
    · refine ih _ (by omega) (Good.mul hq hn hf hf) ?_
      split
      · exact Good.mul hq hn hg hf
      · exact hg
theorem Good.pow {q : Int} {n k : Nat} {f : List Int} (hq : 2 ≤ q) (hn : n = 2 ∨ n = 4) (h : Good q n f) : Good q n (Mine.powSM q k f (oneL n)) := Good.powSM hq hn k h (Good.one hq hn)
theorem eqI_tt {q v c : Int} {r : List Int} (h1 : ((c :: r).tail.all fun x => x == 0) = true) (h2 : v.fmod q = c) (hq : 0 ≤ q) : eqI q v (c :: r) = true := by
  rw [Int.fmod_eq_emod_of_nonneg _ hq] at h2
  simp only [List.tail_cons] at h1
  simp [eqI, h2, h1]
theorem eqI_tf {q v c : Int} {r : List Int} (h2 : v.fmod q ≠ c) (hq : 0 ≤ q) : eqI q v (c :: r) = false := by
  rw [Int.fmod_eq_emod_of_nonneg _ hq] at h2
  simp [eqI, h2]
theorem eqI_ff {q v c : Int} {r : List Int} (h1 : ((c :: r).tail.all fun x => x == 0) = false) : eqI q v (c :: r) = false := by
  simp only [List.tail_cons] at h1
  simp [eqI, h1]
theorem powSM_zero {q : Int} {f g : List Int} : powSM q 0 f g = g := by rw [powSM]; simp
theorem powSM_odd {q : Int} {k : Nat} {f g : List Int} (h : k % 2 = 1) : powSM q k f g = powSM q (k / 2) (mulL q f f) (mulL q g f) := by
  rw [powSM]; rw [if_neg (by omega), if_pos h]
theorem powSM_even {q : Int} {k : Nat} {f g : List Int} (h0 : k ≠ 0) (h : ¬ k % 2 = 1) : powSM q k f g = powSM q (k / 2) (mulL q f f) g := by
  rw [powSM]; rw [if_neg h0, if_neg h]

abbrev upd3 (n f g : Value) (m : Str → Option Value) : Str → Option Value := fun y => if y = Str.ofString "n" then some n else if y = Str.ofString "f" then some f else if y = Str.ofString "g" then some g else m y
structure PowInv (w : World) (q : Int) (n : Nat) (r : Addr) (base nx : List (Addr × Obj)) (res : List Int) (m₀ : Str → Option Value) (k : Nat) (m : Str → Option Value) : Prop where
  out : ∃ (tk : Tok) (fx gx : Addr) (F G : List Int), m = upd3 (.int (k : Int) tk) (.ref fx) (.ref gx) m₀ ∧ IsPoly w nx r fx F ∧ IsPoly w nx r gx G ∧ Good q n F ∧ Good q n G ∧ powSM q k F G = res ∧ ∀ p ∈ base, p ∈ nx
theorem pow_while {prog : Program} {w : World} {A : Around} {E : Value → Shared → Prop} {Q : Flow → Shared → Prop} {s : Shared} {env : Env} {h₀ : Heap} {L : Addr} {test : Expr} {body : List Stmt} {pos : Pos} {m₀ : Str → Option Value} {news : List (Addr × Obj)}
    {q k : Int} {n : Nat} {r fx gx : Addr} {tk : Tok} {F0 G0 : List Int}
    (F : Fr h₀ L s.heap (fun y => if y = Str.ofString "g" then some (.ref gx) else if y = Str.ofString "f" then some (.ref fx) else m₀ y)) (N : News h₀ L s.heap news)
    (hm : m₀ (Str.ofString "n") = some (.int k tk)) (hk : 0 ≤ k) (hf : IsPoly w news r fx F0) (hg : IsPoly w news r gx G0) (gf : Good q n F0) (gg : Good q n G0)
    (turn : ∀ (tk' : Tok) (fx gx : Addr) (F G : List Int) (k' : Int) (nx : List (Addr × Obj)) h₁ tk₁, (∀ p ∈ news, p ∈ nx) → IsPoly w nx r fx F → IsPoly w nx r gx G → Good q n F → Good q n G → 0 ≤ k' →
      powSM q k'.toNat F G = powSM q k.toNat F0 G0 → Fr h₀ L h₁ (upd3 (.int k' tk') (.ref fx) (.ref gx) m₀) → News h₀ L h₁ nx →
      wpAny (model prog w) A (isTrue test env (eval test env)) (fun b s₂ =>
        if b = true then wpAny (model prog w) A (execs body env) (WhileStep2 h₀ L s (fun k' m nx => PowInv w q n r news nx (powSM q k.toNat F0 G0) m₀ k' m) Q k'.toNat) E s₂ else Q .next s₂) E { s with heap := h₁, toks := tk₁ })
    (hE : PassesOwn (model prog w) A env E) :
    wpAny (model prog w) A (exec (.While test body [] pos) env) Q E s := by
  refine While_inv2 (fun k' m nx => PowInv w q n r news nx (powSM q k.toNat F0 G0) m₀ k' m) (n₀ := k.toNat) F N ⟨tk, fx, gx, F0, G0, ?_, hf, hg, gf, gg, rfl, fun _ h => h⟩ ?_ hE
  · funext y
    by_cases h1 : y = Str.ofString "g"
    · subst h1; rfl
    · by_cases h2 : y = Str.ofString "f"
      · subst h2; rfl
      · by_cases h3 : y = Str.ofString "n"
        · subst h3
          show m₀ _ = some (Value.int (k.toNat : Int) tk)
          rw [hm, Int.toNat_of_nonneg hk]
        · simp only [upd3, if_neg h1, if_neg h2, if_neg h3]
  · intro k' m₁ nx h₁ tk₁ F₁ N₁ hi
    obtain ⟨tk', fx', gx', F', G', rfl, i1, i2, i3, i4, i5, i6⟩ := hi.out
    have := turn tk' fx' gx' F' G' (k' : Int) nx h₁ tk₁ i6 i1 i2 i3 i4 (by omega) (by simpa using i5) F₁ N₁
    simpa using this
theorem upd3_eq {m' m₀ : Str → Option Value} {n f g : Value} (h1 : m' (Str.ofString "n") = some n) (h2 : m' (Str.ofString "f") = some f) (h3 : m' (Str.ofString "g") = some g)
    (h4 : ∀ y, ¬ y = Str.ofString "n" → ¬ y = Str.ofString "f" → ¬ y = Str.ofString "g" → m' y = m₀ y) : m' = upd3 n f g m₀ := by
  funext y
  by_cases a : y = Str.ofString "n"
  · subst a; rw [h1]; rfl
  · by_cases b : y = Str.ofString "f"
    · subst b; rw [h2]; rfl
    · by_cases c : y = Str.ofString "g"
      · subst c; rw [h3]; rfl
      · rw [h4 y a b c]; simp only [upd3, if_neg a, if_neg b, if_neg c]
theorem pow_odd {q k : Int} {F G res : List Int} (h0 : 0 < k) (h1 : k.fmod 2 = 1) (e : powSM q k.toNat F G = res) : powSM q (k.fdiv 2).toNat (mulL q F F) (mulL q G F) = res := by
  rw [Int.fmod_eq_emod_of_nonneg _ (by decide)] at h1
  rw [Int.fdiv_eq_ediv_of_nonneg _ (by decide), ← e, powSM_odd (k := k.toNat) (by omega), show (k / 2).toNat = k.toNat / 2 by omega]
theorem pow_even {q k : Int} {F G res : List Int} (h0 : 0 < k) (h1 : k.fmod 2 ≠ 1) (e : powSM q k.toNat F G = res) : powSM q (k.fdiv 2).toNat (mulL q F F) G = res := by
  rw [Int.fmod_eq_emod_of_nonneg _ (by decide)] at h1
  rw [Int.fdiv_eq_ediv_of_nonneg _ (by decide), ← e, powSM_even (k := k.toNat) (by omega) (by omega), show (k / 2).toNat = k.toNat / 2 by omega]
theorem pow_fin {q k : Int} {F G res : List Int} (h0 : 0 ≤ k) (h1 : ¬ 0 < k) (e : powSM q k.toNat F G = res) : G = res := by
  rw [show k.toNat = 0 by omega, powSM_zero] at e; exact e
theorem pow_end {w : World} {h₀ : Heap} {L : Addr} {s : Shared} {Q : Flow → Shared → Prop} {m₀ : Str → Option Value} {news nx : List (Addr × Obj)} {q : Int} {n : Nat} {r : Addr} {res F G : List Int} {k : Nat} {k' : Int} {h' : Heap} {tk tk' : Tok} {fx gx : Addr} {m' : Str → Option Value}
    (F' : Fr h₀ L h' m') (N' : News h₀ L h' nx) (hm : m' = upd3 (.int k' tk') (.ref fx) (.ref gx) m₀) (h0 : 0 ≤ k') (hk : k'.toNat < k) (hf : IsPoly w nx r fx F) (hg : IsPoly w nx r gx G) (gf : Good q n F) (gg : Good q n G) (e : powSM q k'.toNat F G = res) (sub : ∀ p ∈ news, p ∈ nx) :
    WhileStep2 h₀ L s (fun k' m nx => PowInv w q n r news nx res m₀ k' m) Q k .next { s with heap := h', toks := tk } := by
  refine ⟨h', tk, m', nx, k'.toNat, rfl, F', N', hk, ⟨tk', fx, gx, F, G, ?_, hf, hg, gf, gg, e, sub⟩⟩
  rw [hm, Int.toNat_of_nonneg h0]
theorem IsPoly.at_ {w : World} {news : List (Addr × Obj)} {r x : Addr} {cs : List Int} (h : IsPoly w news r x cs) : ∃ dx lx t1 t2 vs n, (x, instObj 227 dx) ∈ news ∧ (dx, polyD w t1 t2 r lx) ∈ news ∧ (lx, W.listOf vs.toArray n) ∈ news ∧ IntsAre vs cs :=
  let ⟨dx, lx, t1, t2, a, b, c⟩ := h.out; let ⟨vs, n, d, e⟩ := c.out; ⟨dx, lx, t1, t2, vs, n, a, b, d, e⟩


section
variable {prog : Program} {w : World} {M : Model} {A : Around} {E : Value → Shared → Prop} {s : Shared}
theorem code_any {env : Env} {c P : Addr} {ps : Array Value} {pos : Pos} {qualname : Str} {scope : Scope}
    {Q : Value → Shared → Prop} (hc : env.code = .ref c) (hok : s.heap.IsCode c P ps) (htab : s.heap.TableAt c P ps)
    (hQ : ∀ c' h' tk ps', Heap.ExtBut P s.heap h' → s.heap.objs.size ≤ h'.objs.size → h'.IsCode c P ps' → h'.TableAt c P ps' → Q c' { s with heap := h', toks := tk }) :
    wpAny M A (genexprCode env pos qualname scope) Q E s := by
  cases hnf : codeAmong pos ps.toList with
  | none =>
    exact wpAny_genexprCodeX hc hok htab hnf fun c' h' tk hx hge hlt hcode _ htab' _ => hQ (.ref c') h' tk _ hx (Nat.le_trans hge (Nat.le_of_lt hlt)) hcode htab'
  | some cv =>
    obtain ⟨o, vs, file, tf, flags, tg, inF, text, tt, op, ho, hd, h11, h2, h7, h9, h10, hop, hpd, htr, hne⟩ := id hok
    unfold genexprCode codeAt
    rw [hc, if_neg (show ¬ ((Value.ref c == Value.none) = true) from Bool.false_ne_true)]
    refine wpAny_bind (wpAny_fieldsOf ho hd ?_)
    rw [h11]
    refine wpAny_bind (wpAny_fieldsOf hop hpd ?_)
    rw [hnf]
    exact wpAny_pure (hQ cv s.heap s.toks ps (fun _ _ _ e => e) (Nat.le_refl _) hok htab)

theorem ints_get {vs : List Value} {ns : List Int} (h : IntsAre vs ns) : ∀ {i : Nat} {v : Value}, vs[i]? = some v → ∃ k, ns[i]? = some k ∧ ∃ tk, v = .int k tk := by
  induction h with
  | nil => intro i v e; simp at e
  | cons n t _ ih =>
    intro i v e
    cases i with
    | zero => simp at e; exact ⟨n, by simp, t, e.symm⟩
    | succ i => simp at e; obtain ⟨k, hk, r⟩ := ih e; exact ⟨k, by simpa using hk, r⟩
def GxPost (prog : Program) (w : World) (A : Around) (c P gl : Addr) (Q : Value → Shared → Prop) (xv : Value) (s₁ : Shared) : Prop :=
  ∃ (l : Addr) (vs : List Value) (ns : List Int) (ps : Array Value) (mg : Str → Option Value) (bm : Addr) (ob : Obj), xv = .ref l ∧ s₁.heap.IsList l vs.toArray ∧ IntsAre vs ns ∧ s₁.heap.IsCode c P ps ∧ s₁.heap.TableAt c P ps ∧ P ≠ cStatics ∧
      AllBare s₁.gens ∧ s₁.heap.NoLimit ∧ BMod s₁.heap gl mg bm ob ∧ 2 < s₁.heap.objs.size ∧
      (∀ (a : Addr) (s₅ : Shared) (ps' : Array Value), (∀ b o, b ≠ P → s₁.heap.get? b = some o → s₅.heap.get? b = some o) → s₅.heap.IsCode c P ps' → s₅.heap.TableAt c P ps' → AllBare s₅.gens → s₅.os = s₁.os →
        GenOnD prog w A (s₁.heap.objs.size - 1) a ns (fun _ => true) (fun k => .bool (k == 0)) s₅ → Q (.ref a) s₅)
theorem my_genexp {env : Env} {elt iter : Expr} {x : Str} {px : Pos} {scope : Scope} {cl : List (Str × Addr)} {pos : Pos} {Q : Value → Shared → Prop} {c P : Addr}
    (hh : A.handled = none) (hco : scope.isCoroutine = false) (hclos : closureFor scope env = pure cl) (hcell : ∀ y ∈ scope.names, y.2 ≠ .cell) (h0 : scope.names.lookup (".0" : Str) = some NameKind.local)
    (hx : scope.names.lookup x = some .local) (hkind : scope.kind = .function) (hroom : A.depth < recursionLimit) (hcode : env.code = .ref c)
    (helt : ∀ (C : Addr) (code : Value) (A' : Around) E' (k : Int) (tk : Tok) (t : Shared) m₂, A'.handled = none → t.heap.Ns C m₂ → m₂ x = some (.int k tk) →
      wpAny (model prog w) A' (eval elt (genEnv scope cl C code builtinsNs env)) (fun y s₃ => y = .bool (k == 0) ∧ Keeps t s₃) E' t)
    (h : wpAny (model prog w) A (eval iter env) (fun xv s₁ => GxPost prog w A c P env.globals Q xv s₁) E s)
    (hs : ∀ x, genFold iter env x = pure x) :
    wpAny (model prog w) A (eval (.GeneratorExp elt [⟨.Name x px, iter, [], 0⟩] scope pos) env) Q E s := by
  refine wpAny_GeneratorExp_walksQD hh hco hclos hcell h0 hx hkind hroom (wpAny_mono h (fun xv s₁ h₁ => ?_) fun _ _ e => e) hs
  obtain ⟨l, vs, ns, ps, mg, bm, ob, rfl, hl, hi, hcd, htb, hPs, G, hlim, M₁, h2, hQ⟩ := h₁
  have hlt : l < s₁.heap.objs.size := by obtain ⟨_, e, _⟩ := hl; exact Heap.lt_size e
  have hPlt : P < s₁.heap.objs.size := Heap.lt_size htb.2
  have hlP : l ≠ P := fun e => by
    obtain ⟨o, ho, hc, _⟩ := hl
    rw [e, htb.2] at ho; cases ho; exact absurd hc (by simp)
  refine wpAny_pyIter_list hl ?_
  generalize hI : s₁.heap.objs.size = I at *
  refine ⟨hlim.push _, code_any hcode (hcd.push _) (htb.push _) fun c' h₃ tk₃ ps' hx₃ hge hcode₃ htab₃ => ?_⟩
  have hge' : I + 1 ≤ h₃.objs.size := by rw [Heap.size_push, hI] at hge; exact hge
  have k₃ : ∀ b o, b ≠ P → s₁.heap.get? b = some o → h₃.get? b = some o := fun b o hb e => hx₃ b o hb (Heap.get?_push_of_some _ e)
  have M₃ : BMod h₃ env.globals mg bm ob := (M₁.keeps fun _ _ e => Heap.get?_push_of_some _ e).extBut (htb.push _) hx₃
  have hl₃ : h₃.NoLimit := (hlim.push _).extBut hx₃ (Ne.symm hPs)
  refine wpAny_builtinsFor M₃.ns M₃.name M₃.ne M₃.obj M₃.cls M₃.dict M₃.data ?_
  have W₀ : ∀ A' : Around, A'.handled = none → Walks prog w A' I [I, l] [I] vs.toArray.size (fun i v => vs.toArray[i]? = some v) (fun i h => h.IsListIter I l i ∧ h.IsList l vs.toArray) :=
    fun A' hA => Walks.list hA _ _ (Nat.ne_of_lt hlt) vs.toArray
  have hIP : I ≠ P := fun e => Nat.lt_irrefl _ (e ▸ hPlt)
  have hst : h₃.IsListIter I l 0 ∧ h₃.IsList l vs.toArray := by
    refine ⟨⟨_, hx₃ I _ hIP (by rw [← hI]; exact Heap.get?_push_size _ rfl), rfl, rfl⟩, ?_⟩
    obtain ⟨o, ho, r⟩ := hl
    exact ⟨o, k₃ l o hlP ho, r⟩
  have hcw : cStatics ∉ [I] := fun hm => by
    have e1 : cStatics = I := List.mem_singleton.mp hm
    have e2 : cStatics < I := by rw [← hI]; exact let ⟨_, hn, _⟩ := hlim; hn.lt
    exact absurd e2 (by rw [e1]; exact Nat.lt_irrefl _)
  refine ⟨I, [I, l], [I], vs.toArray.size, _, _, (fun _ => true), (fun i y => ∃ b, ns[i]? = some b ∧ Carried y (.bool (b == 0))), rfl, W₀, hst, ?_, hl₃, hcw, ?_, ?_⟩
  · intro b hb
    rcases List.mem_cons.mp hb with rfl | hb
    · exact hge'
    · rw [List.mem_singleton.mp hb]; exact Nat.lt_of_lt_of_le (Nat.lt_succ_of_lt hlt) hge'
  · intro href hhref
    constructor
    · intro A' E' i v t m₂ hA hD hU hP hn hm hkp
      exact wpAny_pure ⟨rfl, _, _, rfl, fun _ _ e => e⟩
    · intro A' E' i v t m₂ hA hD hU hP _ hn hm hkp
      obtain ⟨k, hk, tk, hv⟩ : ∃ k, ns[i]? = some k ∧ ∃ tk, v = .int k tk := ints_get hi (by simpa using hP)
      subst hv
      refine wpAny_mono (helt _ c' A' E' k tk t m₂ hA hn hm) (fun y s₃ q => ⟨⟨k, hk, ?_⟩, q.2⟩) fun _ _ e => e
      rw [q.1]; exact .bool _
  · intro a h₅ tk gs hgb hag hsz₅ hk₅ W hat
    refine hQ a _ ps' (fun b o hb e => hk₅ b o (k₃ b o hb e)) (hcode₃.keeps hk₅) (htab₃.keeps hk₅) (G.push hgb) rfl ?_
    have hlen : vs.length = ns.length := hi.length
    have hpass : passing (fun _ => true) vs.toArray.size 0 = List.range ns.length := by simp [passing, hlen]
    have e1 : (ns.filter fun _ => true).length = (passing (fun _ => true) vs.toArray.size 0).length := by rw [hpass]; simp
    unfold GenOnD
    rw [e1]
    refine Gen.imp (F := fun j y => ∃ i, (passing (fun _ => true) vs.toArray.size 0)[j]? = some i ∧ ∃ b, ns[i]? = some b ∧ Carried y (.bool (b == 0))) ?_ fun j y hy => ?_
    · refine ⟨_, _, _, _, W, hat, (fun i s' st => st.1.typeIs), List.mem_cons_self, ?_, ?_⟩
      · intro b hb
        show b < h₅.objs.size
        rw [hsz₅]
        rcases List.mem_cons.mp hb with rfl | hb
        · exact Nat.lt_succ_self _
        · rcases List.mem_cons.mp hb with rfl | hb
          · exact Nat.lt_succ_of_lt hag
          · exact Nat.lt_succ_of_lt (Nat.lt_trans (List.mem_range.mp hb) hag)
      · intro b hb
        rcases List.mem_cons.mp hb with rfl | hb
        · show I - 1 < h₃.objs.size
          omega
        · have : b = I := List.mem_singleton.mp hb
          rw [this]
          exact Nat.sub_lt (Nat.lt_trans (by decide) h2) (by decide)
    rw [hpass] at hy
    obtain ⟨i, hij, b, hb, hc⟩ := hy
    refine ⟨b, ?_, hc⟩
    have : i = j := by
      rw [List.getElem?_range] at hij
      · exact (Option.some.inj hij).symm
      · false_or_by_contra
        rename_i hc
        rw [List.getElem?_eq_none (by simpa using hc)] at hij
        cases hij
    subst this
    rw [List.filter_eq_self.mpr (fun _ _ => rfl)]
    exact hb

def OffT (a : Addr) (p : Addr × Obj) : Prop := p.1 ≠ a ∨ ∀ ps, p.2 ≠ tabObj ps
theorem subT_mem {t : Addr} {a b : List (Addr × Obj)} {q : Addr × Obj} (h : ∀ p ∈ a, OffT t p → p ∈ b) (k : q ∈ a) (o : OffT t q) : q ∈ b := h q k o
theorem off_cell {t a : Addr} {o : Obj} {v : Option Value} (h : o.data = .cell v) : OffT t (a, o) := Or.inr fun ps e => by subst e; cases h
theorem my_all {g : Heap} {L a S : Addr} {m : Str → Option Value} {nx : List (Addr × Obj)} {ns : List Int} {Q : Value → Shared → Prop}
    (F : Fr g L s.heap m) (N : News g L s.heap nx) (G : AllBare s.gens) (X : GenOnD prog w A (S - 1) a ns (fun _ => true) (fun k => .bool (k == 0)) s) (hL : @LT.lt Nat _ L S) (hn : ∀ p ∈ nx, @LT.lt Nat _ p.1 S)
    (h : ∀ s', Fr g L s'.heap m → News g L s'.heap nx → AllBare s'.gens → s'.os = s.os → Q (.bool (ns.all (· == 0))) s') : wpAny (model prog w) A (call (.builtin "all") [.ref a]) Q E s := by
  refine all_genD F G X (Nat.le_sub_one_of_lt hL) fun s' F' G' hos hk => ?_
  have := h s' F' (fun p hp => ⟨hk p.1 p.2 (Nat.le_sub_one_of_lt (hn p hp)) (N p hp).1, (N p hp).2⟩) G' hos
  rwa [List.filter_eq_self.mpr (fun _ _ => rfl)]

theorem genexp_post {g : Heap} {K : Frag} {L lx c P bm : Addr} {ob : Obj} {m mg : Str → Option Value} {news : List (Addr × Obj)} {ns : List Int} {vs : List Value} {n : Nat} {ps cvs : Array Value} {Q : Value → Shared → Prop} {gl : Addr} {file : Str} {tf tg tt : Tok} {flags text : Int} {inF : Bool}
    (F : Fr g L s.heap m) (N : News g L s.heap news) (X : K.In g) (hlim : g.NoLimit) (M : BMod g gl mg bm ob) (ht : (P, tabObj ps) ∈ news) (htr : TriplesOk ps.toList) (hl : (lx, W.listOf vs.toArray n) ∈ news) (hi : IntsAre vs ns) (hG : AllBare s.gens)
    (hk : K.lookup c = some ⟨.type "code", none, .fields cvs, #[]⟩) (h11 : cvs[11]? = some (.ref P)) (h18 : cvs.getD 18 .none = .str file tf) (h7 : cvs.getD 7 .none = .int flags tg) (h9 : cvs.getD 9 .none = .bool inF) (h10 : cvs.getD 10 .none = .int text tt)
    (hcP : c ≠ P) (hPs : P ≠ cStatics) (h2 : 2 < P)
    (cont : ∀ a s₅ ps' nx S, Fr g L s₅.heap m → News g L s₅.heap nx → (P, tabObj ps') ∈ nx → TriplesOk ps'.toList → (∀ p ∈ news, OffT P p → p ∈ nx) → AllBare s₅.gens → s₅.os = s.os → @LT.lt Nat _ L S → (∀ p ∈ nx, @LT.lt Nat _ p.1 S) →
      GenOnD prog w A (S - 1) a ns (fun _ => true) (fun k => .bool (k == 0)) s₅ → Q (.ref a) s₅) :
    GxPost prog w A c P gl Q (.ref lx) s := by
  have hP := N _ ht
  have hgc := F.keep _ _ (X _ _ hk)
  have hgD : cvs.getD 11 .none = .ref P := by
    rw [Array.getD_eq_getD_getElem?, h11]; rfl
  refine ⟨lx, vs, ns, ps, mg, bm, ob, rfl, News.isList N hl, hi, ⟨_, cvs, file, tf, flags, tg, inF, text, tt, _, hgc, rfl, hgD, h18, h7, h9, h10, hP.1, rfl, htr, hcP⟩,
    ⟨⟨_, cvs, hgc, rfl, rfl, h11⟩, hP.1⟩, hPs, hG, hlim.keeps F.keep, M.keeps F.keep, Nat.lt_trans h2 (Heap.lt_size hP.1), ?_⟩
  intro a s₅ ps' hk5 hc5 ht5 hG5 hos hX
  have hLP : L ≠ P := Ne.symm hP.2.1
  obtain ⟨oL, es, ep, hL, hd⟩ := F.ns
  refine cont a s₅ ps' ((P, tabObj ps') :: news.filter (fun p => p.1 != P)) s.heap.objs.size ⟨⟨oL, es, ep, hk5 _ _ hLP hL, hd⟩, fun b o e => hk5 b o (fun e' => by rw [e', hP.2.2] at e; cases e) (F.keep b o e), F.above⟩ ?_ List.mem_cons_self ?_ ?_ hG5 hos (Heap.lt_size hL) ?_ hX
  · intro p hp
    rcases List.mem_cons.mp hp with rfl | hp
    · exact ⟨ht5.2, hP.2⟩
    · obtain ⟨h1, h3⟩ := List.mem_filter.mp hp
      exact ⟨hk5 _ _ (by simpa using h3) (N p h1).1, (N p h1).2⟩
  · obtain ⟨_, _, _, _, _, _, _, _, _, op, _, _, _, _, _, _, _, hop, hpd, htr', _⟩ := hc5
    exact htr'
  · intro p hp ho
    refine List.mem_cons_of_mem _ (List.mem_filter.mpr ⟨hp, ?_⟩)
    rcases ho with ho | ho
    · simpa using ho
    · by_cases e : p.1 = P
      · have h1 := (N p hp).1
        rw [e, hP.1] at h1
        exact absurd (Option.some.inj h1).symm (ho ps)
      · simpa using e
  · intro p hp
    rcases List.mem_cons.mp hp with rfl | hp
    · exact Heap.lt_size hP.1
    · exact Heap.lt_size (N p (List.mem_filter.mp hp).1).1
theorem elt_zero {x : Str} {px pz pc : Pos} {z : Nat} {scope : Scope} {cl : List (Str × Addr)} {env : Env} {C : Addr} {code : Value} {k : Int} {tk : Tok} {m₂ : Str → Option Value}
    (hn : s.heap.Ns C m₂) (hm : m₂ x = some (.int k tk)) (hk : scope.kind = .function) (hl : (genEnv scope cl C code builtinsNs env).kindOf x = some .local) (hd : (x == ("__debug__" : Str)) = false) :
    wpAny (model prog w) A (eval (.Compare (.Name x px) [.Eq] [.Constant (.int 0) z pz] pc) (genEnv scope cl C code builtinsNs env)) (fun y s₃ => y = .bool (k == 0) ∧ Keeps s s₃) E s := by
  refine wpAny_Compare1 ?_
  refine ldVarG (h₀ := {}) ⟨hn, fun b o e => (by simp [Heap.get?] at e), Nat.zero_le _⟩ hm ?_ hk hl hd
  refine wpAny_Constant_int ?_
  refine eq_int ?_
  exact ⟨by congr 1, _, _, rfl, fun _ _ e => e⟩
end

section
theorem hide_get {h : Heap} {a b : Addr} {o : Obj} (e : h.get? b = some o) (n : b ≠ a) : (h.hide a).get? b = some o := (Heap.hide_ne h n).trans e
theorem hide2_of {h : Heap} {a c b : Addr} {o : Obj} (e : ((h.hide a).hide c).get? b = some o) : h.get? b = some o := Heap.of_hide (Heap.of_hide e)
theorem hide2_get {h : Heap} {a c b : Addr} {o : Obj} (e : h.get? b = some o) (n : b ≠ a) (k : b ≠ c) : ((h.hide a).hide c).get? b = some o := hide_get (hide_get e n) k
theorem hide2_none {h : Heap} {a c b : Addr} (n : b = a ∨ b = c) : ((h.hide a).hide c).get? b = none := by
  cases e : ((h.hide a).hide c).get? b with
  | none => rfl
  | some o =>
    rcases n with rfl | rfl
    · have := Heap.of_hide e; rw [Heap.hide_self] at this; cases this
    · rw [Heap.hide_self] at e; cases e
theorem in_hide2 {K : Frag} {h : Heap} {a c : Addr} (X : K.In h) (ka : K.lookup a = none) (kc : K.lookup c = none) : K.In ((h.hide a).hide c) := fun b o e =>
  hide2_get (X b o e) (fun q => by rw [q, ka] at e; cases e) (fun q => by rw [q, kc] at e; cases e)
theorem fr_hide2 {h₀ h : Heap} {L a c : Addr} {m : Str → Option Value} (F : Fr h₀ L h m) : Fr ((h₀.hide a).hide c) L h m :=
  ⟨F.ns, fun b o e => F.keep b o (hide2_of e), by rw [Heap.hide_size, Heap.hide_size]; exact F.above⟩
theorem news_hide2 {h₀ h : Heap} {L a c : Addr} {m : Str → Option Value} {news : List (Addr × Obj)} {oa oc : Obj} (F : Fr h₀ L h m) (N : News h₀ L h news) (ha : h₀.get? a = some oa) (hc : h₀.get? c = some oc) :
    News ((h₀.hide a).hide c) L h (news ++ [(a, oa), (c, oc)]) := by
  intro p hp
  rcases List.mem_append.mp hp with hp | hp
  · refine ⟨(N p hp).1, (N p hp).2.1, ?_⟩
    cases e : ((h₀.hide a).hide c).get? p.1 with
    | none => rfl
    | some o => have := hide2_of e; rw [(N p hp).2.2] at this; cases this
  · rcases List.mem_cons.mp hp with rfl | hp
    · exact ⟨F.keep _ _ ha, Nat.ne_of_lt (Nat.lt_of_lt_of_le (Heap.lt_size ha) F.above), hide2_none (.inl rfl)⟩
    · obtain rfl := List.mem_singleton.mp hp
      exact ⟨F.keep _ _ hc, Nat.ne_of_lt (Nat.lt_of_lt_of_le (Heap.lt_size hc) F.above), hide2_none (.inr rfl)⟩
theorem ns_hide2 {h : Heap} {L a c : Addr} {m : Str → Option Value} {pa pc : Array Value} (H : h.Ns L m) (ha : h.get? a = some (tabObj pa)) (hc : h.get? c = some (tabObj pc)) : ((h.hide a).hide c).Ns L m := by
  obtain ⟨o, es, ep, ho, hd, r⟩ := H
  refine ⟨o, es, ep, hide2_get ho (fun q => ?_) (fun q => ?_), hd, r⟩
  · rw [q, ha] at ho; cases ho; cases hd
  · rw [q, hc] at ho; cases ho; cases hd

theorem list_hide2 {h : Heap} {l a c : Addr} {items : Array Value} {pa pc : Array Value} (H : h.IsList l items) (ha : h.get? a = some (tabObj pa)) (hc : h.get? c = some (tabObj pc)) : ((h.hide a).hide c).IsList l items := by
  obtain ⟨o, ho, h1, n, hd⟩ := H
  exact ⟨o, hide2_get ho (fun q => by rw [q, ha] at ho; cases ho; cases hd) (fun q => by rw [q, hc] at ho; cases ho; cases hd), h1, n, hd⟩
theorem triples_nil : TriplesOk (#[] : Array Value).toList := trivial
theorem fr_small {h₀ h : Heap} {L : Addr} {m : Str → Option Value} {x : Str} {v : Value} (F : Fr h₀ L h m) (hx : m x = some v) : ∃ m0 : Str → Option Value, Fr h₀ L h (fun y => if y = x then some v else m0 y) := by
  refine ⟨m, ?_⟩
  have e : m = fun y => if y = x then some v else m y := by
    funext y
    split
    · rename_i e; rw [e, hx]
    · rfl
  rw [← e]; exact F
theorem cell_none {o : Obj} {v : Option Value} (h : o.data = .cell v) (e : v = none) : o.data = .cell none := by rw [h, e]
def dumProg (p : Program) : Program := { p with main := { p.main with body := [Stmt.Import [⟨"sys", none, ⟨1, 0, 1, 10⟩⟩] ⟨1, 0, 1, 10⟩] } }
theorem nolimit_hide2 {h : Heap} {a c : Addr} {pa pc : Array Value} (H : h.NoLimit) (ha : h.get? a = some (tabObj pa)) (hc : h.get? c = some (tabObj pc)) : ((h.hide a).hide c).NoLimit := by
  obtain ⟨mc, hn, r⟩ := H
  exact ⟨mc, ns_hide2 hn ha hc, r⟩
theorem top_hide2 {p : Program} {loose : List Str} {mean : ExcName → Option Value} {mg mb : Str → Option Value} {h : Heap} {a c : Addr} {pa pc : Array Value} (T : Top p loose mean mg mb h)
    (ha : h.get? a = some (tabObj pa)) (hc : h.get? c = some (tabObj pc)) :
    Top (dumProg p) (loose ++ (recsOf p).map (·.name) ++ (litsOf p).map (·.1) ++ (clssOf p loose).map (·.name)) mean mg mb ((h.hide a).hide c) where
  g := ns_hide2 T.g ha hc
  b := ns_hide2 T.b ha hc
  nolimit := nolimit_hide2 T.nolimit ha hc
  nodigits := let ⟨mc, h1, h2⟩ := T.nodigits; ⟨mc, ns_hide2 h1 ha hc, h2⟩
  fn := fun d hd => nomatch (show d ∈ ([] : List DefRec) from hd)
  own := fun o ho => nomatch (show o ∈ ([] : List OwnSpec) from ho)
  const := fun x d e => by
    have : valOf (dumProg p) x = none := rfl
    rw [this] at e; cases e
  free := fun x h1 h2 _ _ _ => by
    simp only [List.mem_append, not_or] at h2
    exact T.free x h1 h2.1.1.1 h2.1.1.2 h2.1.2 h2.2
  builtins := T.builtins
  tab := fun d hd => nomatch (show d ∈ ([] : List DefRec) from hd)
  bmain := by
    obtain ⟨bm, ob, h1, h2, h3, h4, h5, h6⟩ := T.bmain
    exact ⟨bm, ob, h1, h2, hide2_get h3 (fun q => by rw [q, ha] at h3; cases h3; cases h6) (fun q => by rw [q, hc] at h3; cases h3; cases h6), h4, h5, h6⟩
  seer := fun e => by
    have : importsNone (dumProg p) = false := rfl
    rw [this] at e; cases e
theorem law_end {cl : ClaimW} {clA : Str → Option Addr} {mean : ExcName → Option Value} {args : List WData} {s₁ s' : Shared} {K : Frag} {h : Heap} {L a c ca cc : Addr} {m : Str → Option Value} {nx : List (Addr × Obj)} {pa pc cva cvc : Array Value}
    (hh : s₁.heap = h) (F : Fr ((h.hide a).hide c) L s'.heap m) (N : News ((h.hide a).hide c) L s'.heap nx) (ta : (a, tabObj pa) ∈ nx) (tc : (c, tabObj pc) ∈ nx) (ha : h.get? a = some (tabObj #[])) (hc : h.get? c = some (tabObj #[]))
    (X : K.In h) (ka : K.lookup ca = some ⟨.type "code", none, .fields cva, #[]⟩) (kc : K.lookup cc = some ⟨.type "code", none, .fields cvc, #[]⟩) (ea : cva[11]? = some (.ref a)) (ec : cvc[11]? = some (.ref c))
    (hG : AllBare s'.gens) (hos : s'.os = s₁.os) (hr : ∀ x, cl.raises args x = false) (hp : cl.post args (.bool true) args = true) : GoodWG cl clA mean args s₁ (.ok (.ret (.bool true))) s' := by
  subst hh
  refine ⟨.inl ⟨.bool true, .bool true, [], rfl, hr, .bool true, hp, fun _ => ⟨.nil, fun _ hx => nomatch hx⟩⟩, ⟨fun b o e => ?_, fun b o e => ?_⟩, hos, hG⟩
  · by_cases h1 : b = a
    · subst h1
      rw [ha] at e; cases e
      exact .inr (.inl ⟨⟨ca, _, cva, X _ _ ka, rfl, rfl, ea⟩, rfl, #[], pa, rfl, by rw [(N _ ta).1]; simp⟩)
    · by_cases h2 : b = c
      · subst h2
        rw [hc] at e; cases e
        exact .inr (.inl ⟨⟨cc, _, cvc, X _ _ kc, rfl, rfl, ec⟩, rfl, #[], pc, rfl, by rw [(N _ tc).1]; simp⟩)
      · exact .inl (F.keep b o (hide2_get e h1 h2))
  · by_cases h1 : b = a
    · subst h1; exact ⟨_, (N _ ta).1⟩
    · by_cases h2 : b = c
      · subst h2; exact ⟨_, (N _ tc).1⟩
      · exact ⟨o, F.keep b o (hide2_get e h1 h2)⟩
end

end
section
def Stays (p : Addr × Obj) : Prop := (∀ ps, p.2 ≠ tabObj ps) ∧ ∀ v, p.2.data ≠ .cell v
def Ext (a b : List (Addr × Obj)) : Prop := ∀ p ∈ a, Stays p → p ∈ b
theorem ext_refl {l : List (Addr × Obj)} : Ext l l := fun _ h _ => h
theorem ext_trans {a b c : List (Addr × Obj)} (h : Ext a b) (k : Ext b c) : Ext a c := fun p hp h1 => k p (h p hp h1) h1
theorem ext_of {a b : List (Addr × Obj)} (h : ∀ p ∈ a, p ∈ b) : Ext a b := fun p hp _ => h p hp
theorem ext_of1 {a b : List (Addr × Obj)} {t : Addr} (h : ∀ p ∈ a, OffT t p → p ∈ b) : Ext a b := fun p hp h1 => h p hp (Or.inr h1.1)
theorem ext_cons {a b : List (Addr × Obj)} {q : Addr × Obj} (h : Ext a b) : Ext a (q :: b) := fun p hp h1 => List.mem_cons_of_mem _ (h p hp h1)
theorem ext_mem {a b : List (Addr × Obj)} {x : Addr} {o : Obj} (h : Ext a b) (hm : (x, o) ∈ a) (ho : ∀ ps, o ≠ tabObj ps) (hc : ∀ v, o.data ≠ .cell v) : (x, o) ∈ b := h _ hm ⟨ho, hc⟩
theorem ne_cons {n : Nat} {cs : List Int} (hn : n = 2 ∨ n = 4) (h : cs.length = n) : ∃ c r, cs = c :: r := by
  cases cs with
  | nil => simp at h; omega
  | cons c r => exact ⟨c, r, rfl⟩
theorem ints_cons {vs : List Value} {c : Int} {r : List Int} (h : IntsAre vs (c :: r)) : ∃ t vr, vs = .int c t :: vr ∧ IntsAre vr r := by
  cases h with | cons _ _ h => exact ⟨_, _, rfl, h⟩
theorem mulL_len {n : Nat} {q : Int} {a b : List Int} (hn : n = 2 ∨ n = 4) (ha : a.length = n) (hb : b.length = n) : (mulL q a b).length = n := by
  rcases hn with rfl | rfl
  · obtain ⟨a0, a1, rfl⟩ := len_two ha
    obtain ⟨b0, b1, rfl⟩ := len_two hb
    rfl
  · obtain ⟨a0, a1, a2, a3, rfl⟩ := len_four ha
    obtain ⟨b0, b1, b2, b3, rfl⟩ := len_four hb
    rfl
theorem IsRing.ext {w : World} {a b : List (Addr × Obj)} {r : Addr} {q n : Int} (h : IsRing w a r q n) (e : Ext a b) : IsRing w b r q n :=
  let ⟨dr, t1, t2, u1, u2, x, y⟩ := h.out; ⟨dr, t1, t2, u1, u2, ext_mem e x (fun _ e => by cases e) (fun _ e => by cases e), ext_mem e y (fun _ e => by cases e) (fun _ e => by cases e)⟩
theorem IsInts.ext {a b : List (Addr × Obj)} {l : Addr} {cs : List Int} (h : IsInts a l cs) (e : Ext a b) : IsInts b l cs :=
  let ⟨vs, n, x, y⟩ := h.out; ⟨vs, n, ext_mem e x (fun _ e => by cases e) (fun _ e => by cases e), y⟩
theorem IsPoly.ext {w : World} {a b : List (Addr × Obj)} {r x : Addr} {cs : List Int} (h : IsPoly w a r x cs) (e : Ext a b) : IsPoly w b r x cs :=
  let ⟨dx, lx, t1, t2, y, z, c⟩ := h.out; ⟨dx, lx, t1, t2, ext_mem e y (fun _ e => by cases e) (fun _ e => by cases e), ext_mem e z (fun _ e => by cases e) (fun _ e => by cases e), c.ext e⟩
structure Tabs (nx : List (Addr × Obj)) : Prop where
  z : ∃ pa, (86, tabObj pa) ∈ nx ∧ TriplesOk pa.toList
  c : ∃ pa, (93, tabObj pa) ∈ nx ∧ TriplesOk pa.toList
theorem Tabs.sub {a b : List (Addr × Obj)} (h : Tabs a) (k : ∀ p ∈ a, p ∈ b) : Tabs b :=
  let ⟨p, x, y⟩ := h.z; let ⟨q, u, v⟩ := h.c; ⟨⟨p, k _ x, y⟩, ⟨q, k _ u, v⟩⟩
theorem Tabs.of1 {a b : List (Addr × Obj)} {ps : Array Value} (h : Tabs a) (k : ∀ p ∈ a, OffT 86 p → p ∈ b) (m : (86, tabObj ps) ∈ b) (t : TriplesOk ps.toList) : Tabs b :=
  let ⟨q, u, v⟩ := h.c; ⟨⟨ps, m, t⟩, ⟨q, k _ u (Or.inl (show (93 : Addr) ≠ 86 from by decide)), v⟩⟩
theorem Tabs.of2 {a b : List (Addr × Obj)} {ps : Array Value} (h : Tabs a) (k : ∀ p ∈ a, OffT 93 p → p ∈ b) (m : (93, tabObj ps) ∈ b) (t : TriplesOk ps.toList) : Tabs b :=
  let ⟨q, u, v⟩ := h.z; ⟨⟨q, k _ u (Or.inl (show (86 : Addr) ≠ 93 from by decide)), v⟩, ⟨ps, m, t⟩⟩
/-- the cells' values -/
def Cells (cs : List (Addr × Option Value)) (nx : List (Addr × Obj)) : Prop := ∀ p ∈ cs, ∃ o, (p.1, o) ∈ nx ∧ o.data = .cell p.2
theorem Cells.sub {cs : List (Addr × Option Value)} {a b : List (Addr × Obj)} (h : Cells cs a) (k : ∀ p ∈ a, p ∈ b) : Cells cs b := fun p hp =>
  let ⟨o, x, y⟩ := h p hp; ⟨o, k _ x, y⟩
theorem Cells.of1 {cs : List (Addr × Option Value)} {a b : List (Addr × Obj)} {t : Addr} (h : Cells cs a) (k : ∀ p ∈ a, OffT t p → p ∈ b) : Cells cs b := fun p hp =>
  let ⟨o, x, y⟩ := h p hp; ⟨o, k _ x (off_cell y), y⟩
/-- locals written out over a letter -/
def lk : List (Str × Value) → (Str → Option Value) → Str → Option Value
  | [], m => m
  | (x, v) :: r, m => fun y => if y = x then some v else lk r m y
theorem lk_same : ∀ (vs : List (Str × Value)) {m : Str → Option Value}, (∀ p ∈ vs, m p.1 = some p.2) → lk vs m = m
  | [], _, _ => rfl
  | (x, v) :: r, m, h => by
    funext y
    show (if y = x then some v else lk r m y) = m y
    rw [lk_same r fun p hp => h p (List.mem_cons_of_mem _ hp)]
    split
    · rename_i e; subst e; exact (h _ List.mem_cons_self).symm
    · rfl
theorem fr_lk {h₀ h : Heap} {L : Addr} {m : Str → Option Value} (F : Fr h₀ L h m) (vs : List (Str × Value)) (hv : ∀ p ∈ vs, m p.1 = some p.2) : ∃ m0, Fr h₀ L h (lk vs m0) :=
  ⟨m, by rw [lk_same vs hv]; exact F⟩
/-- the law's state between two statements -/
structure St (h₀ : Heap) (L : Addr) (os0 : OsState) (vs : List (Str × Value)) (cs : List (Addr × Option Value)) (nx : List (Addr × Obj)) (s : Shared) : Prop where
  F : ∃ m0, Fr h₀ L s.heap (lk vs m0)
  N : News h₀ L s.heap nx
  T : Tabs nx
  C : Cells cs nx
  G : AllBare s.gens
  O : s.os = os0
def lawDef (p : Program) : List Stmt × Scope := match p.main.body.getLast? with
  | some (.FunctionDef _ _ b _ _ _ sc _ _ _) => (b, sc)
  | _ => ([], { kind := .function, names := [], isGenerator := false, isCoroutine := false, more := [] })
def stm (p : Program) (i : Nat) : Stmt := ((lawDef p).1.drop i).headD (.Pass ⟨0, 0, 0, 0⟩)
/-- how many twos (at most k) a number holds -/
theorem bits_good2 {q : Int} {n b : Nat} {cs : List Int} (h : Good q n cs) (hq : Builtin.Int.intBits q ≤ b) : ∀ c ∈ cs, Builtin.Int.intBits c ≤ b := bits_good hq h
theorem fm_lo {x y : Int} (h : 0 < y) : 0 ≤ x.fmod y := by rw [Int.fmod_eq_emod_of_nonneg _ (by omega)]; exact Int.emod_nonneg _ (by omega)
theorem fm_hi {x y : Int} (h : 0 < y) : x.fmod y < y := by rw [Int.fmod_eq_emod_of_nonneg _ (by omega)]; exact Int.emod_lt_of_pos _ h
def CellsTo (cells : List (Addr × Option Value)) (c : Addr) (v : Value) (nx : List (Addr × Obj)) : Prop := ∀ cs', (∀ p ∈ cs', p = (c, some v) ∨ (p ∈ cells ∧ p.1 ≠ c)) → Cells cs' nx
theorem my_storeC {M : Model} {A : Around} {E : Value → Shared → Prop} {s : Shared} {h₀ : Heap} {L a : Addr} {m : Str → Option Value} {cn : Str} {cs : Scope} {ccd : Value} {cl : List (Str × Addr)} {x : Str} {v : Value} {v₀ : Option Value} {Q : Unit → Shared → Prop} {nx : List (Addr × Obj)} {cells : List (Addr × Option Value)} {c : Addr}
    (F : Fr h₀ L s.heap m) (N : News h₀ L s.heap nx) (TT : Tabs nx) (CC : Cells cells nx) (hc : cl.lookup x = some c) (hi : (c, v₀) ∈ cells)
    (h : ∀ h' nx', Fr h₀ L h' m → News h₀ L h' nx' → Tabs nx' → CellsTo cells c v nx' → Ext nx nx' → Q () { s with heap := h' })
    (hk : cs.kind = .function) (hx : (envX cn cs L a ccd cl).kindOf x = some .cell) : wpAny M A (storeName (envX cn cs L a ccd cl) x v) Q E s := by
  obtain ⟨o, hm, hd⟩ := CC _ hi
  dsimp only at hm hd
  have hmem := N _ hm
  refine wpAny_storeName_cell hk hx hc ⟨o, hmem.1, hd⟩ fun h' hv hs => ?_
  obtain ⟨o', ho', hd'⟩ := hv
  have keep : ∀ p ∈ nx, (∀ v, p.2.data ≠ .cell v) → p ∈ (c, o') :: nx.filter (fun p => p.1 != c) := fun p hp hn => by
    refine List.mem_cons_of_mem _ (List.mem_filter.mpr ⟨hp, ?_⟩)
    by_cases e : p.1 = c
    · have h1 := (N p hp).1
      rw [e, hmem.1] at h1
      have h2 : o = p.2 := Option.some.inj h1
      exact absurd hd (by rw [h2]; exact hn _)
    · simpa using e
  refine h h' ((c, o') :: nx.filter (fun p => p.1 != c)) ⟨F.ns.sameBut hs (Ne.symm hmem.2.1), fun b ob e => (hs.2 b (fun q => ?_)).trans (F.keep b ob e), F.above⟩ ?_ ?_ ?_ fun p hp h1 => keep p hp h1.2
  · rw [q, hmem.2.2] at e; cases e
  · intro p hp
    rcases List.mem_cons.mp hp with rfl | hp
    · exact ⟨ho', hmem.2⟩
    · obtain ⟨h1, h2⟩ := List.mem_filter.mp hp
      exact ⟨(hs.2 p.1 (by simpa using h2)).trans (N p h1).1, (N p h1).2⟩
  · obtain ⟨⟨pa, h1, h2⟩, ⟨pc, h3, h4⟩⟩ := TT
    exact ⟨⟨pa, keep _ h1 (fun _ e => by cases e), h2⟩, ⟨pc, keep _ h3 (fun _ e => by cases e), h4⟩⟩
  · intro cs' hcs p hp
    rcases hcs p hp with rfl | ⟨h1, h2⟩
    · exact ⟨o', List.mem_cons_self, hd'⟩
    · obtain ⟨o2, h3, h4⟩ := CC p h1
      exact ⟨o2, List.mem_cons_of_mem _ (List.mem_filter.mpr ⟨h3, by simpa using h2⟩), h4⟩
theorem Good.fmap {q : Int} {n : Nat} (hq : 2 ≤ q) {l : List Int} (h : (l.map fun k' => k'.fmod q).length = n) : Good q n (l.map fun k' => k'.fmod q) :=
  ⟨h, fun c hc => by obtain ⟨a, _, rfl⟩ := List.mem_map.mp hc; exact ⟨fm_lo (by omega), fm_hi (by omega)⟩⟩
theorem subI_fmod {q v c : Int} {r : List Int} (hq : 2 ≤ q) : (c - v).fmod q :: r = subI q v (c :: r) := by rw [subI, Int.fmod_eq_emod_of_nonneg _ (by omega)]
theorem negL_fmod {q : Int} {cs : List Int} (hq : 2 ≤ q) : cs.map (fun k' => (-k').fmod q) = negL q cs := by
  refine List.map_congr_left fun c _ => Int.fmod_eq_emod_of_nonneg _ (by omega)
section
variable {prog : Program} {w : World} {M : Model} {A : Around} {E : Value → Shared → Prop} {s : Shared} {K : Frag} {x C L f : Addr} {h₀ : Heap} {m : Str → Option Value}
theorem call_sub_inst {a : Int} {t : Tok} {dx : Addr} {Q : Value → Shared → Prop} (ho : s.heap.get? x = some (instObj C dx)) (h : Q .notImplemented s) :
    wpAny (model prog w) A (call (.builtin "int.__sub__") [.int a t, .ref x]) Q E s := by
  refine wpAny_call_entry F.slot_int_sub (typeIs_int s a t) F.entry_int_sub ?_ (F.args_int_sub_2 _ _)
  show wpAny _ _ (asInt? (.ref x) >>= _) _ _ _
  refine wpAny_bind ?_
  unfold asInt?
  refine wpAny_bind (wpAny_load ho ?_)
  exact wpAny_pure (wpAny_bind (wpAny_rule (wpAny_pure ⟨_, rfl, h⟩)))
theorem try_sub_inst {a : Int} {t : Tok} {dx : Addr} {Q : Option Value → Shared → Prop} (ho : s.heap.get? x = some (instObj C dx)) (h : Q none s) :
    wpAny (model prog w) A (tryMethod (.int a t) (PySem.dunder "sub") (.ref x)) Q E s := by
  have h1 : wpAny (model prog w) A (callSpecial? (.int a t) (PySem.dunder "sub") [.ref x]) (fun r s' => r = some .notImplemented ∧ s' = s) E s :=
    @wpAny_callSpecial?_slot (model prog w) A E s (.int a t) "int" (PySem.dunder "sub") "int.__sub__" [.ref x] [] (fun r s' => r = some .notImplemented ∧ s' = s) (typeIs_int s a t) PySem.F.slot_int_sub (call_sub_inst ho ⟨rfl, rfl⟩)
  unfold tryMethod
  refine wpAny_bind (wpAny_mono h1 (fun r s' e => ?_) fun _ _ e => e)
  obtain ⟨rfl, rfl⟩ := e
  exact wpAny_pure h
set_option maxHeartbeats 2000000 in
theorem rsub_inst {a : Int} {t : Tok} {dx : Addr} {od : Option Obj} {g : Addr} {Q : Value → Shared → Prop} (F0 : Fr h₀ L s.heap m) (X₀ : K.In h₀) (I : InstAt s.heap x (instObj C dx) C od) (hc : selfFirst K C = true)
    (hs : findIn K (.ref C) (PySem.dunder "sub") = some (some (.ref g))) (hr : findIn K (.ref C) (dunderR "sub") = some (some (.ref f))) (hf : isFn K (.ref f) = true) (hsub : subIn K (.ref C) (.type "int") = some false)
    (h : wpAny (model prog w) A (call (.ref f) [.ref x, .int a t]) (PySem.W.CmpBack Q) E s) : wpAny (model prog w) A (binaryOp .Sub (.int a t) (.ref x)) Q E s := by
  have X := X₀.keeps F0.keep
  obtain ⟨cd, rest, hcd, hm⟩ := ksp_first hc
  have one := ksp_try X I hr hf h
  have none_ := fun Q h => try_sub_inst (prog := prog) (w := w) (A := A) (E := E) (s := s) (x := x) (C := C) (a := a) (t := t) (dx := dx) (Q := Q) I.at_ h
  obtain ⟨hh, gg, d, tt, os⟩ := s
  have L1 : Looks (model prog w) hh (typeOf (.int a t)) (.type "int") := Looks.of_pure rfl
  have L2 : Looks (model prog w) hh (typeOf (.ref x)) (.ref C) := I.type
  have L3 : Looks (model prog w) hh (fillsNumberSlot (.type "int") "sub") true := Looks.of_pure F.fills_int_sub
  have L4 : Looks (model prog w) hh (fillsNumberSlot (.ref C) "sub") true := fills_K X hcd hm hs
  have L5 : Looks (model prog w) hh (isSubtype (.ref C) (.type "int")) false := looks_subIn X hsub
  have L7 : Looks (model prog w) hh (numberSlotInPython (.type "int") "sub") false := Looks.of_pure rfl
  have hne : (Value.type "int" == Value.ref C) = false := Bool.eq_false_iff.mpr fun q => by cases beq_iff_eq.mp q
  have hi : Operator.Sub.info = ("-", "sub") := rfl
  simp only [binaryOp, hi]
  refine wpAny_holding (wpAny_bind ?_)
  unfold binaryOp1
  refine wpAny_bind (L1.at (wpAny_bind (L2.at (wpAny_bind (L3.at ?_)))))
  simp only [hne, Bool.false_eq_true, if_false]
  ksp_lk
  refine none_ _ ?_
  ksp_lk
  refine wpAny_mono one (fun r s' hr' => ?_) fun _ _ e => e
  obtain ⟨v, rfl, hq⟩ := hr'
  ksp_lk
  exact hq
end

end
section
section
variable {prog : Program} {w : World} {A : Around} {E : Value → Shared → Prop} {s : Shared} {Q : Flow → Shared → Prop}
theorem whl_split {b : Bool} {T F : Prop} (ht : b = true → T) (hf : b = false → F) : WhlIf b T F := by
  cases b
  · exact WhlIf.no rfl (hf rfl)
  · exact WhlIf.yes rfl (ht rfl)
end
def TimesP (p : Int) (n : Nat) (T : Int) : Prop := (p = 2 ∧ T = 2 ^ ((n : Int) - 1).toNat) ∨ (p ≠ 2 ∧ ∃ d : Int, (d = 1 ∨ d = 2) ∧ Int.fmod (p ^ d.toNat - 1) (2 * (n : Int)) = 0 ∧ T = p ^ d.toNat - 1)
theorem times_pos {p T : Int} {n : Nat} (hp : 2 ≤ p) (h : TimesP p n T) : 0 ≤ T - 1 := by
  rcases h with ⟨_, rfl⟩ | ⟨_, d, hd, _, rfl⟩
  · have : (0 : Int) < 2 ^ ((n : Int) - 1).toNat := Int.pow_pos (by decide)
    omega
  · rcases hd with rfl | rfl
    · show 0 ≤ p ^ 1 - 1 - 1
      rw [Int.pow_succ, Int.pow_zero]; omega
    · show 0 ≤ p ^ 2 - 1 - 1
      rw [Int.pow_succ, Int.pow_succ, Int.pow_zero, Int.one_mul]
      have := Int.mul_le_mul hp hp (by decide) (by omega)
      omega
theorem k27 (x : Int) : 2 ≤ 2 + x.fmod 7 ∧ 2 + x.fmod 7 ≤ 8 := by
  have h1 := fm_lo (x := x) (y := 7) (by decide)
  have h2 := fm_hi (x := x) (y := 7) (by decide)
  omega
theorem menu6 (x : Int) : [2, 3, 5, 7, 17, (257 : Int)].getD (x.fmod 6).toNat 0 ∈ [2, 3, 5, 7, 17, (257 : Int)] := by
  have h1 := fm_lo (x := x) (y := 6) (by decide)
  have h2 := fm_hi (x := x) (y := 6) (by decide)
  have h3 : (x.fmod 6).toNat < 6 := by omega
  generalize (x.fmod 6).toNat = i at h3
  revert i
  decide
theorem cut_len7 {q : Int} {n : Nat} {ns : List Int} (h : ns.length = 7) (hn : n = 2 ∨ n = 4) : ((List.take (min (3 + (n : Int)).toNat ns.length - 3) (List.drop 3 ns)).map fun k' => k'.fmod q).length = n := by
  rw [List.length_map, List.length_take, List.length_drop, h]
  rcases hn with rfl | rfl <;> rfl
section
open PyProof.Rows.LCg
variable {prog : Program} {w : World} {A : Around} {E : Value → Shared → Prop} {s : Shared} {h₀ : Heap} {L : Addr} {m : Str → Option Value} {env : Env}
def EltEnd (h₀ : Heap) (L : Addr) (m : Str → Option Value) (s₁ : Shared) (nw : List (Addr × Obj)) (b : Bool) (y : Value) (s₂ : Shared) : Prop :=
  ∃ h' tk, s₂ = { s₁ with heap := h', toks := tk } ∧ Fr h₀ L h' m ∧ News h₀ L h' nw ∧ y = .bool b
theorem ints_at {xs : List Value} {cs : List Int} {i : Nat} {a : Value} (h : IntsAre xs cs) (e : xs[i]? = some a) : ∃ c t, a = .int c t ∧ cs[i]? = some c := by
  induction h generalizing i with
  | nil => simp at e
  | cons c t h ih =>
    cases i with
    | zero => exact ⟨c, t, by simpa using e.symm, rfl⟩
    | succ i =>
      obtain ⟨c', t', h1, h2⟩ := ih (by simpa using e)
      exact ⟨c', t', h1, by simpa using h2⟩
theorem boolsAre_append {a b : List Value} {x y : List Bool} (h : LSm.BoolsAre a x) (k : LSm.BoolsAre b y) : LSm.BoolsAre (a ++ b) (x ++ y) := by
  induction h with
  | nil => exact k
  | cons b _ ih => exact .cons b ih
theorem comp_bools {elt : Expr} {x : Str} {scope : Scope} {cl : List (Str × Addr)} {Q : Value → Shared → Prop} {ax : Addr} {its : List Value} {k : Nat} {cs : List Int} {news : List (Addr × Obj)} (f : Int → Bool)
    (hh : A.handled = none) (F : Fr h₀ L s.heap m) (N : News h₀ L s.heap news) (hm : (ax, W.listOf its.toArray k) ∈ news) (hi : IntsAre its cs) (hsz : its.length ≤ sizeLine)
    (elts : ∀ c t nw C oC m₂ h tk (s₁ : Shared) (E' : Value → Shared → Prop), NsObj oC m₂ → m₂ x = some (.int c t) → (C, oC) ∈ nw → (∀ p ∈ news, p ∈ nw) → Fr h₀ L h m → News h₀ L h nw → s₁.gens = s.gens → s₁.os = s.os →
      wpAny (model prog w) A (eval elt (compEnvC scope cl C env)) (EltEnd h₀ L m { s₁ with heap := h, toks := tk } nw (f c)) E' { s₁ with heap := h, toks := tk })
    (fin : ∀ D out g h tk, LSm.BoolsAre out (cs.map f) → Fr h₀ L h m → News h₀ L h ((D, lst out) :: news) → Off1 D news → Q (.ref D) { { s with heap := g } with heap := h, toks := tk }) :
    CompSrc prog w A h₀ L m env elt x scope cl (fun s₂ => FinE h₀ L m s₂ Q) (.ref ax) s := by
  refine CompSrc.ledger hh F N hm (by rw [List.size_toArray]; exact hsz) fun g => ?_
  have hlen := hi.length
  have go : ∀ (r i : Nat) (ys : List Value), i + r = its.length → LSm.BoolsAre ys ((cs.take i).map f) →
      CompRest prog w A h₀ L m env elt x scope cl { s with heap := g } (SrcAt h₀ ax its.toArray) (fun i v => its.toArray[i]? = some v) (FinE h₀ L m { s with heap := g } Q) r i ys news := by
    intro r
    induction r with
    | zero =>
      intro i ys e hb
      refine CompRest.zero fun D h tk F' N' o1 => fin D ys g h tk ?_ F' N' o1
      rw [List.take_of_length_le (by omega)] at hb
      exact hb
    | succ r ih =>
      intro i ys e hb
      refine CompRest.succ fun v I oI C oC D m₂ h tk E' hv hC hx F' N' off ne => ?_
      obtain ⟨c, t, rfl, hc⟩ := ints_at hi (by simpa using hv)
      refine wpAny_mono (elts c t _ C oC m₂ h tk { s with heap := g } E' hC hx (List.mem_cons_of_mem _ List.mem_cons_self) (fun p hp => List.mem_cons_of_mem _ (List.mem_cons_of_mem _ (List.mem_cons_of_mem _ hp))) F' N' rfl rfl) (fun y s₄ h₄ => ?_) fun _ _ e => e
      obtain ⟨h₄, tk₄, rfl, F₄, N₄, rfl⟩ := h₄
      refine CompEnd.intro F₄ N₄ news (fun p hp => hp) off (.inr ⟨_, hm, rfl, _, rfl⟩) ?_
      refine ih (i + 1) _ (by omega) ?_
      have : cs.take (i + 1) = cs.take i ++ [c] := by rw [List.take_succ, hc]; rfl
      rw [this, List.map_append]
      exact boolsAre_append hb (.cons _ .nil)
  simpa using go its.length 0 [] (by omega) .nil
def EltEndI (h₀ : Heap) (L : Addr) (m : Str → Option Value) (s₁ : Shared) (nw : List (Addr × Obj)) (b : Int) (y : Value) (s₂ : Shared) : Prop :=
  ∃ h' tk, s₂ = { s₁ with heap := h', toks := tk } ∧ Fr h₀ L h' m ∧ News h₀ L h' nw ∧ ∃ t, y = .int b t
def ModOf (M : Int) : Prop := 2 ≤ M
theorem comp_ints {elt : Expr} {x : Str} {scope : Scope} {cl : List (Str × Addr)} {Q : Value → Shared → Prop} {ax : Addr} {its : List Value} {k : Nat} {cs : List Int} {news : List (Addr × Obj)} {M : Int} (_hM : ModOf M)
    (hh : A.handled = none) (F : Fr h₀ L s.heap m) (N : News h₀ L s.heap news) (hm : (ax, W.listOf its.toArray k) ∈ news) (hi : IntsAre its cs) (hsz : its.length ≤ sizeLine)
    (elts : ∀ c t nw C oC m₂ h tk (s₁ : Shared) (E' : Value → Shared → Prop), NsObj oC m₂ → m₂ x = some (.int c t) → (C, oC) ∈ nw → (∀ p ∈ news, p ∈ nw) → Fr h₀ L h m → News h₀ L h nw → s₁.gens = s.gens → s₁.os = s.os →
      wpAny (model prog w) A (eval elt (compEnvC scope cl C env)) (EltEndI h₀ L m { s₁ with heap := h, toks := tk } nw (Int.fmod c M)) E' { s₁ with heap := h, toks := tk })
    (fin : ∀ D out g h tk, IntsAre out (cs.map fun c => Int.fmod c M) → Fr h₀ L h m → News h₀ L h ((D, lst out) :: news) → Off1 D news → Q (.ref D) { { s with heap := g } with heap := h, toks := tk }) :
    CompSrc prog w A h₀ L m env elt x scope cl (fun s₂ => FinE h₀ L m s₂ Q) (.ref ax) s := by
  refine CompSrc.ledger hh F N hm (by rw [List.size_toArray]; exact hsz) fun g => ?_
  have hlen := hi.length
  have go : ∀ (r i : Nat) (ys : List Value), i + r = its.length → IntsAre ys ((cs.take i).map fun c => Int.fmod c M) →
      CompRest prog w A h₀ L m env elt x scope cl { s with heap := g } (SrcAt h₀ ax its.toArray) (fun i v => its.toArray[i]? = some v) (FinE h₀ L m { s with heap := g } Q) r i ys news := by
    intro r
    induction r with
    | zero =>
      intro i ys e hb
      refine CompRest.zero fun D h tk F' N' o1 => fin D ys g h tk ?_ F' N' o1
      rw [List.take_of_length_le (by omega)] at hb
      exact hb
    | succ r ih =>
      intro i ys e hb
      refine CompRest.succ fun v I oI C oC D m₂ h tk E' hv hC hx F' N' off ne => ?_
      obtain ⟨c, t, rfl, hc⟩ := ints_at hi (by simpa using hv)
      refine wpAny_mono (elts c t _ C oC m₂ h tk { s with heap := g } E' hC hx (List.mem_cons_of_mem _ List.mem_cons_self) (fun p hp => List.mem_cons_of_mem _ (List.mem_cons_of_mem _ (List.mem_cons_of_mem _ hp))) F' N' rfl rfl) (fun y s₄ h₄ => ?_) fun _ _ e => e
      obtain ⟨h₄, tk₄, rfl, F₄, N₄, t₄, rfl⟩ := h₄
      refine CompEnd.intro F₄ N₄ news (fun p hp => hp) off (.inr ⟨_, hm, rfl, _, rfl⟩) ?_
      refine ih (i + 1) _ (by omega) ?_
      have : cs.take (i + 1) = cs.take i ++ [c] := by rw [List.take_succ, hc]; rfl
      rw [this, List.map_append]
      exact IntsAre.append hb (.cons _ _ .nil)
  simpa using go its.length 0 [] (by omega) .nil
end
theorem fits_good {its : List Value} {cs : List Int} {q : Int} {n : Nat} (hi : IntsAre its cs) (g : Good q n cs) (hn : n = 2 ∨ n = 4) : its.length ≤ sizeLine := by
  have h1 := hi.length
  have h2 := g.len
  exact Nat.le_trans (show its.length ≤ 4 by omega) (Nat.le_of_ble_eq_true rfl)
theorem my_any0 {prog : Program} {w : World} {A : Around} {E : Value → Shared → Prop} {s : Shared} {h₀ : Heap} {L l : Addr} {m : Str → Option Value} {news : List (Addr × Obj)} {vs : List Value} {cs : List Int} {M : Int} {Q : Value → Shared → Prop}
    (F : Fr h₀ L s.heap m) (N : News h₀ L s.heap news) (hh : A.handled = none) (hl : s.heap.IsList l vs.toArray) (hb : LSm.BoolsAre vs (cs.map fun c => Int.fmod c M != 0)) (hz : ∀ c ∈ cs, Int.fmod c M = 0)
    (h : ∀ h' tk, Fr h₀ L h' m → News h₀ L h' news → Q (.bool false) { s with heap := h', toks := tk }) : wpAny (model prog w) A (call (.builtin "any") [.ref l]) Q E s := by
  refine LSm.any_bools F N hh hl hb fun h' tk F' N' => ?_
  have : (cs.map fun c => Int.fmod c M != 0).any id = false := by
    rw [List.any_eq_false]
    intro b hb
    obtain ⟨c, hc, rfl⟩ := List.mem_map.mp hb
    rw [hz c hc]; decide
  rw [this]
  exact h h' tk F' N'
theorem cells_first {c0 c : Addr} {v0 : Option Value} {v : Value} {r : List (Addr × Option Value)} {nx : List (Addr × Obj)} (h : CellsTo ((c0, v0) :: r) c v nx) (hn : c0 ≠ c) : ∃ o, (c0, o) ∈ nx ∧ o.data = .cell v0 := by
  have := h [(c0, v0)] (List.forall_mem_cons.mpr ⟨.inr ⟨List.mem_cons_self, hn⟩, List.forall_mem_nil _⟩)
  exact this _ List.mem_cons_self
structure NwInv (w : World) (r : Addr) (vs : List (Str × Value)) (cp cq ch : Addr) (vp vq : Value) (kk : Int) (Rel : Int → List Int → Prop) (nx0 : List (Addr × Obj)) (k' : Nat) (m : Str → Option Value) (nx : List (Addr × Obj)) : Prop where
  out : ∃ (gx : Addr) (G : List Int) (h : Int) (th : Tok), (∀ p ∈ vs ++ [(Str.ofString "g", Value.ref gx)], m p.1 = some p.2) ∧ Ext nx0 nx ∧ Tabs nx ∧ Cells [(cp, some vp), (cq, some vq), (ch, some (.int h th))] nx ∧ IsPoly w nx r gx G ∧ Rel h G ∧ (kk - h).toNat = k'
theorem newton_while {prog : Program} {w : World} {A : Around} {E : Value → Shared → Prop} {Q : Flow → Shared → Prop} {s : Shared} {env : Env} {h₀ : Heap} {L : Addr} {test : Expr} {body : List Stmt} {pos : Pos} {m : Str → Option Value} {nx0 : List (Addr × Obj)}
    {r gx : Addr} {cp cq ch : Addr} {vp vq : Value} {kk : Int} {th : Tok} {G0 : List Int} (vs : List (Str × Value)) {Rel : Int → List Int → Prop} {p q : Int} {n : Nat} {rc fc : List Int} {r1 r2 x1 x2 : Addr} (p1 : IsPoly w nx0 r1 x1 rc) (p2 : IsPoly w nx0 r2 x2 fc) (rel : Rel 1 G0) (hkk : kk ≤ 8) (hp2 : 2 ≤ p) (R1 : ∀ h G, Rel h G → 1 ≤ h) (RG : ∀ h G, Rel h G → Good q n G) (RA : ∀ h G, Rel h G → h < kk → ∀ c ∈ subI q 1 (mulL q rc G), Int.fmod c (p ^ h.toNat) = 0) (RB : ∀ h G, Rel h G → h < kk → Rel (2 * h) (mulL q G (negL q (subI q 2 (mulL q rc G))))) (RC : ∀ h G, Rel h G → h < kk → ((mulL q G (negL q (subI q 2 (mulL q rc G)))).map fun k' => Int.fmod k' p) = fc)
    (F : Fr h₀ L s.heap m) (Nw : News h₀ L s.heap nx0) (hv : ∀ p ∈ vs ++ [(Str.ofString "g", Value.ref gx)], m p.1 = some p.2) (t : Tabs nx0) (c : Cells [(cp, some vp), (cq, some vq), (ch, some (.int 1 th))] nx0) (hg : IsPoly w nx0 r gx G0)
    (turn : ∀ (d1 l1 d2 l2 gx dgx lgx : Addr) (u1 u2 u3 u4 t1 t2 th : Tok) (nv nv1 nv2 : Nat) (vg vg1 vg2 : List Value) (G : List Int) (h : Int) (op oq oh : Obj) (m : Str → Option Value) (nx : List (Addr × Obj)) h₁ tk₁, (x1, instObj 227 d1) ∈ nx → (d1, polyD w u1 u2 r1 l1) ∈ nx → (l1, W.listOf vg1.toArray nv1) ∈ nx → IntsAre vg1 rc → (x2, instObj 227 d2) ∈ nx → (d2, polyD w u3 u4 r2 l2) ∈ nx → (l2, W.listOf vg2.toArray nv2) ∈ nx → IntsAre vg2 fc → (gx, instObj 227 dgx) ∈ nx → (dgx, polyD w t1 t2 r lgx) ∈ nx → (lgx, W.listOf vg.toArray nv) ∈ nx → IntsAre vg G →
      (cp, op) ∈ nx → op.data = .cell (some vp) → (cq, oq) ∈ nx → oq.data = .cell (some vq) → (ch, oh) ∈ nx → oh.data = .cell (some (.int h th)) →
      Ext nx0 nx → Tabs nx → Cells [(cp, some vp), (cq, some vq), (ch, some (.int h th))] nx → IsPoly w nx r gx G → Rel h G → 1 ≤ h → p ^ h.toNat ≠ 0 → ModOf p → Good q n G → (h < kk → ∀ c ∈ subI q 1 (mulL q rc G), Int.fmod c (p ^ h.toNat) = 0) → (h < kk → ((mulL q G (negL q (subI q 2 (mulL q rc G)))).map fun k' => Int.fmod k' p) = fc) →
      (∀ gx' th' m' nx', (∀ p ∈ vs ++ [(Str.ofString "g", Value.ref gx')], m' p.1 = some p.2) → Ext nx0 nx' → Tabs nx' → Cells [(cp, some vp), (cq, some vq), (ch, some (.int (2 * h) th'))] nx' → IsPoly w nx' r gx' (mulL q G (negL q (subI q 2 (mulL q rc G)))) → h < kk →
        (kk - 2 * h).toNat < (kk - h).toNat ∧ NwInv w r vs cp cq ch vp vq kk Rel nx0 (kk - 2 * h).toNat m' nx') →
      Fr h₀ L h₁ (lk (vs ++ [(Str.ofString "g", Value.ref gx)]) m) → News h₀ L h₁ nx →
      wpAny (model prog w) A (isTrue test env (eval test env)) (fun b s₂ =>
        if b = true then wpAny (model prog w) A (execs body env) (WhileStep2 h₀ L s (NwInv w r vs cp cq ch vp vq kk Rel nx0) Q (kk - h).toNat) E s₂ else Q .next s₂) E { s with heap := h₁, toks := tk₁ })
    (hE : PassesOwn (model prog w) A env E) :
    wpAny (model prog w) A (exec (.While test body [] pos) env) Q E s := by
  refine While_inv2 (NwInv w r vs cp cq ch vp vq kk Rel nx0) (n₀ := (kk - 1).toNat) F Nw ⟨gx, G0, 1, th, hv, ext_refl, t, c, hg, rel, rfl⟩ ?_ hE
  rintro n m₁ nx h₁ tk₁ F₁ N₁ ⟨gx, G, h, th, i1, i2, i3, i4, i5, i6, i7⟩
  subst i7
  rw [← lk_same _ i1] at F₁
  obtain ⟨dg, lg, t1, t2, vg, ng, g1, g2, g3, g4⟩ := i5.at_
  obtain ⟨o1, c1, d1⟩ := i4 _ (List.mem_cons_self)
  obtain ⟨o2, c2, d2⟩ := i4 _ (List.mem_cons_of_mem _ List.mem_cons_self)
  obtain ⟨o3, c3, d3⟩ := i4 _ (List.mem_cons_of_mem _ (List.mem_cons_of_mem _ List.mem_cons_self))
  obtain ⟨da, la, ta1, ta2, va, na, a1, a2, a3, a4⟩ := (p1.ext i2).at_
  obtain ⟨db, lb, tb1, tb2, vb, nb, b1, b2, b3, b4⟩ := (p2.ext i2).at_
  exact turn da la db lb gx dg lg ta1 ta2 tb1 tb2 t1 t2 th ng na nb vg va vb G h o1 o2 o3 m₁ nx h₁ tk₁ a1 a2 a3 a4 b1 b2 b3 b4 g1 g2 g3 g4 c1 d1 c2 d2 c3 d3 i2 i3 i4 i5 i6 (R1 _ _ i6) (Int.ne_of_gt (Int.pow_pos (by omega))) hp2 (RG _ _ i6) (RA _ _ i6) (RC _ _ i6)
    (fun gx' th' m' nx' a1 a2 a3 a4 a5 a8 => ⟨by have := R1 _ _ i6; omega, ⟨gx', _, _, th', a1, a2, a3, a4, a5, RB _ _ i6 a8, rfl⟩⟩) F₁ N₁
theorem newton_end {h₀ : Heap} {L : Addr} {s : Shared} {Q : Flow → Shared → Prop} {J : Nat → (Str → Option Value) → List (Addr × Obj) → Prop} {k k' : Nat} {h' : Heap} {tk : Nat} {m' : Str → Option Value} {nx : List (Addr × Obj)}
    (F' : Fr h₀ L h' m') (N' : News h₀ L h' nx) (j : k' < k ∧ J k' m' nx) : WhileStep2 h₀ L s J Q k .next { s with heap := h', toks := tk } := ⟨h', tk, m', nx, _, rfl, F', N', j.1, j.2⟩
theorem bne_no {x : Int} (h : x = 0) : (x != 0) = false := by rw [h]; rfl
theorem bne_no' {x : Int} (h : (x != 0) = false) : x = 0 := by simpa using h

end
local macro_rules | `(tactic| kas_types) => `(tactic| (intro x9 nx9 h9 tk9 F9 N9 hk9 hp9; (have hp9' := hp9.at_; obtain ⟨dx9, lx9, t91, t92, vx9, n9, hx91, hx92, hx93, hx94⟩ := hp9'); (try dsimp only); (try dsimp only [PySem.W.CmpBack]); (try k_sweep)))
local macro_rules | `(tactic| kba_ints) => `(tactic| ((case hq => (first | with_reducible assumption | assumption | omega)); (case hqb => (first | with_reducible assumption | assumption)); (case hcs => tb_rel)))
local macro_rules | `(tactic| kat_tups) => `(tactic| ((case hA => exact rfl); (case hH => exact rfl); (case hd => kwd_less); (case hu => kwd_less); (case B => k_asm); (case F => k_asm); (case X => k_asm); (case N => k_asm); (case T => k_asm); (case hf => exact rfl); (case hke => first | exact rfl | assumption)))
local macro_rules | `(tactic| kfm_turns) => `(tactic| ((repeat (first | with_reducible assumption | refine Tabs.sub ?_ (by with_reducible assumption) | refine Tabs.of1 ?_ (by with_reducible assumption) (by with_reducible assumption) (by with_reducible assumption) | refine Tabs.of2 ?_ (by with_reducible assumption) (by with_reducible assumption) (by with_reducible assumption) | refine Tabs.sub ?_ (fun p hp => List.mem_cons_of_mem _ hp)))))
local macro_rules | `(tactic| kqd_sub) => `(tactic| ((repeat (first | with_reducible assumption | exact Cells.sub (by with_reducible assumption) (fun p hp => List.mem_cons_of_mem _ hp) | exact Cells.sub (by with_reducible assumption) (fun p hp => List.mem_cons_of_mem _ (List.mem_cons_of_mem _ hp)) | exact Cells.sub (by with_reducible assumption) (fun p hp => List.mem_cons_of_mem _ (List.mem_cons_of_mem _ (List.mem_cons_of_mem _ hp))) | exact Cells.sub (by with_reducible assumption) (fun p hp => List.mem_cons_of_mem _ (List.mem_cons_of_mem _ (List.mem_cons_of_mem _ (List.mem_cons_of_mem _ hp)))) | refine Cells.sub ?_ (by with_reducible assumption) | refine Cells.of1 ?_ (by with_reducible assumption) | refine Cells.sub ?_ (fun p hp => List.mem_cons_of_mem _ hp)))))
local macro_rules | `(tactic| kct_strs) => `(tactic| (((repeat (first | with_reducible assumption | exact sub_refl | exact fun _ h => h | refine sub_skip ?_ | refine sub_trans2 (by with_reducible assumption) ?_)); done)))
local macro_rules | `(tactic| kpt_turns) => `(tactic| ((repeat (first | exact ext_refl | with_reducible assumption | refine ext_trans ?_ (by with_reducible assumption) | refine ext_cons ?_ | refine ext_trans ?_ (ext_of (by with_reducible assumption)) | refine ext_trans ?_ (ext_of1 (by with_reducible assumption))))))
local macro_rules | `(tactic| kpc_turns) => `(tactic| ((try dsimp only); (try dsimp only [PySem.W.CmpBack]); (try k_sweep)))
local macro_rules | `(tactic| regstrif_slice) => `(tactic| ((with_reducible show wpAny _ _ (subscriptTail _ _ (Value.ref _) (Value.int _ _)) _ _ _); k_dflt (refine' my_sub ?k0 ?k1 ?k2 ?k3 ?k4 ?_ ?k6; (case k0 => k_asm); (case k1 => k_mem); (case k2 => decide); (case k3 => decide); (case k4 => exact rfl); (case k6 => with_unfolding_all rfl); k_whole)))
local macro_rules | `(tactic| kaf_suf) => `(tactic| ((try dsimp only [List.cons_append, List.nil_append])))
local macro_rules | `(tactic| kaf_pre) => `(tactic| ((case kX => k_in); (case kI => k_inst); (case kD => exact rfl); (case k1 => k_is); (case k2 => k_is); (case k3 => k_is)))
local macro_rules | `(tactic| k_mem) => `(tactic| ((repeat (first | (with_reducible assumption) | (with_reducible exact List.mem_cons_self) | (refine' List.mem_cons_of_mem _ ?_) | (refine' sub_mem (by with_reducible assumption) ?_) | (refine' subT_mem (by with_reducible assumption) ?_ ?o9; (case o9 => kwd_inv)))); done))
local macro_rules | `(tactic| walk_at "call builtin:list.copy") => `(tactic| (k_here; (with_reducible show wpAny _ _ (call (Value.builtin _) [Value.ref _]) _ _ _); k_dflt (refine' my_copy ?F ?N ?l ?_ ?z; (case F => k_asm); (case N => k_asm); (case l => is_list); (case z => first | exact Nat.le_of_ble_eq_true rfl | with_reducible assumption); k_whole); intro D' h' F' N' l1; (try k_lt l1); (try k_sweep)))
local macro_rules | `(tactic| size_fits) => `(tactic| ((simp only [List.size_toArray, List.length_cons, List.length_nil]); decide))
local macro_rules | `(tactic| kcf_size) => `(tactic| ((simp only [List.size_toArray, List.length_cons, List.length_nil]); decide))
local macro_rules | `(tactic| news_mem) => `(tactic| k_mem)
local macro_rules | `(tactic| mul_fits) => `(tactic| exact IntMulOk.of_right (by with_reducible assumption))
local macro_rules | `(tactic| bits_by_make) => `(tactic| with_reducible assumption)
local macro_rules | `(tactic| k_all) => `(tactic| (tbn_letter; first
  | with_reducible exact off1_all (by with_reducible assumption)
  | with_reducible exact off1_all (And.right (by with_reducible assumption))
  | with_reducible exact off1_all (And.right (And.right (by with_reducible assumption)))
  | with_reducible exact off1_all (And.right (And.right (And.right (by with_reducible assumption))))
  | with_reducible exact off1_all (And.right (And.right (And.right (And.right (by with_reducible assumption)))))
  | with_reducible exact tbn_neAll (by with_reducible assumption)
  | fail "no order"))
local macro_rules | `(tactic| walk_at "CmpBack ref") => `(tactic| (dsimp only [PySem.W.CmpBack]))
local macro_rules | `(tactic| walk_at "UnrEnd") => `(tactic| (refine' my_unrEnd ?k1 ?k2 ?k3 ?_; (case k1 => assumption); (case k2 => assumption); (case k3 => (simp only [AllLt, and_true]; assumption)); walk_say "UNREND"))
local macro_rules | `(tactic| walk_at "subscriptTail") => `(tactic| (k_here; regstrif_slice))
local macro_rules | `(tactic| walk_at "subscriptTail Name Name ref int") => `(tactic| (k_here; regstrif_slice))
local macro_rules | `(tactic| walk_at "subscriptTail Name Constant ref int") => `(tactic| (k_here; regstrif_slice))
local macro_rules | `(tactic| walk_at "subscriptTail Name BinOp ref int") => `(tactic| (k_here; regstrif_slice))
local macro_rules | `(tactic| walk_at "getItem ref int") => `(tactic| (k_here; (with_reducible show wpAny _ _ (getItem (Value.ref _) (Value.int _ _)) _ _ _); k_dflt (refine' my_get ?k0 ?k1 ?k2 ?k3 ?k4 ?_; (case k0 => k_asm); (case k1 => k_mem); (case k2 => decide); (case k3 => decide); (case k4 => exact rfl); k_whole)))
local macro_rules | `(tactic| kwd_inv) => `(tactic| (first | exact Or.inr (fun _ e => by cases e) | exact off_cell (by assumption) | exact Or.inl (by decide)))
local macro_rules | `(tactic| kwd_less) => `(tactic| (first | (with_unfolding_all exact Nat.le_of_ble_eq_true rfl) | (simp only [depth_under_make, depth_under_kw, depth_in1, depth_deeper, depth_caller, units_in1, units_deeper, Around.mark_units, units_caller]; omega)))
local macro_rules | `(tactic| kst_mem) => `(tactic| (first | with_reducible assumption | assumption | exact IntsAre.nil | exact .cons _ _ .nil | exact .cons _ _ (.cons _ _ .nil) | exact .cons _ _ (.cons _ _ (.cons _ _ .nil)) | exact .cons _ _ (.cons _ _ (.cons _ _ (.cons _ _ .nil)))))
section
local macro_rules | `(tactic| walk_at "getItem ref int") => `(tactic| ((rename IntsAre _ (List.map (fun _ => (0:Int)) (rangeKs 0 _)) => hI9); (have hI7 := ints2 (x := 0) (y := 0) hI9); clear hI9; (obtain ⟨t70, t71, e7⟩ := hI7); subst e7; walk_say "CONCRETE"; (rename News _ _ _ _ => hN7); dsimp only [LCg.lst] at hN7))
local macro_rules | `(tactic| walk_at "getItem ref int") => `(tactic| ((rename IntsAre _ (List.map (fun _ => (0:Int)) (rangeKs 0 _)) => hI9); (have hI7 := ints4 (x := 0) (y := 0) (z := 0) (u := 0) hI9); clear hI9; (obtain ⟨t70, t71, t72, t73, e7⟩ := hI7); subst e7; walk_say "CONCRETE"; (rename News _ _ _ _ => hN7); dsimp only [LCg.lst] at hN7))

set_option maxRecDepth 100000 in
set_option maxHeartbeats 8000000 in
theorem C_school2 {A : Around} {env : Env} {outer : List Env} {A₀ : Around} {base h₀ : Heap} {L : Addr} {m : Str → Option Value} {news : List (Addr × Obj)} {s : Shared}
    {w : World} {p : Program} {loose : List Str} {mean : ExcName → Option Value} {mg mb : Str → Option Value} {R : Result → Shared → Prop}
    (hA : A.frames = some (env :: outer)) (hH : A.handled = none) (hd : A.depth ≤ 500) (hu : A.units ≤ 500)
    (B : Below A₀ base outer h₀) (F : Fr h₀ L s.heap m) (X : (Mine.hd.heap_1 w.params).In h₀) (N : News h₀ L s.heap news) (T : Top p loose mean mg mb h₀)
    (hf : env.frame = some L) (hke : env.scope.kind = .function)
    {x y r : Addr} {q : Int} {a0 a1 b0 b1 : Int} (hr : IsRing w news r q 2) (hx : IsPoly w news r x [a0, a1]) (hy : IsPoly w news r y [b0, b1])
    (hq : 2 ≤ q) (ha0 : Builtin.Int.intBits a0 ≤ 100) (ha1 : Builtin.Int.intBits a1 ≤ 100) (hb0 : Builtin.Int.intBits b0 ≤ 100) (hb1 : Builtin.Int.intBits b1 ≤ 100)
    (ret : ∀ l h' tk' vs n', Fr h₀ L h' m → News h₀ L h' ((l, W.listOf vs.toArray n') :: news) → IntsAre vs [(a0 * b0 - a1 * b1) % q, (a0 * b1 + a1 * b0) % q] → LCg.Off1 l news → R (.ok (.ret (.ref l))) { s with heap := h', toks := tk' }) :
    codeAny (model PySem.Challenge.rw_ay0009_04.row.prog w) A (.call (.ref 127) ⟨[.ref x, .ref y], []⟩) R s := by
  obtain ⟨dr, t1, t2, u1, u2, hr1, hr2⟩ := hr.out
  obtain ⟨dx, lx, t3, t4, hx1, hx2, hx3⟩ := hx.out
  obtain ⟨dy, ly, t5, t6, hy1, hy2, hy3⟩ := hy.out
  obtain ⟨vx, nx, hx4, hx5⟩ := hx3.out
  obtain ⟨vy, ny, hy4, hy5⟩ := hy3.out
  obtain ⟨p0, p1, e⟩ := ints2 hx5
  subst e
  obtain ⟨r0, r1, e⟩ := ints2 hy5
  subst e
  clear hr hx hy hx3 hy3 hx5 hy5
  refine codeAny_ar hA hH hd hu ?_
  revert X
  k_fill
  intro X
  k_dflt (refine' code_defC ?k1 ?k2 ?k3 ?k4 ?k5 ?kA ?kF ?kK ?k6 ?k7 ?k8 ?k9 ?kB ?kD ?_ ?c2 ?c3 ?c4; (case kA => exact rfl); (case kF => assumption); (case kK => assumption); (case k1 => k_asm); (case k2 => k_asm); (case k3 => k_asm); (case k4 => k_asm); (case k5 => k_asm); (case k6 => k_is); (case k7 => k_is); (case k8 => k_room); (case k9 => first | exact BindsTo.of_eq rfl | exact binds_K (by k_in) rfl (by k_is) rfl rfl rfl | fail "no rule for these arguments"); (case kB => exact rfl); (case kD => decide +kernel); (case c2 => exact rfl); (case c3 => exact rfl); (case c4 => exact rfl); k_whole; intro g' L' h' tk' cells' FG' F' N' Y' B' X' T' l1; (try k_lt l1); k_cells Y'; (try simp only [List.cons_append, List.nil_append] at N'); (try dsimp only); (try k_lift B'); (try k_fold))
  k_steps
  (all_goals (try k_data))
  (rename IntsAre _ (List.map (fun k' => Int.fmod k' q) _) => hI9)
  (rename News h₀ L _ _ => hN9)
  refine' ret _ _ _ _ _ (by k_asm) (news_sub hN9 (sub_cons ?s1 (by k_mem))) (ints_cast hI9 ?e1) ?o1
  case s1 => repeat (first | exact sub_refl | exact fun _ h => h | refine sub_skip ?_)
  case e1 =>
    simp only [List.map_cons, List.map_nil, Int.fmod_eq_emod_of_nonneg _ (show (0:Int) ≤ q by omega)]
    (repeat' (first | rfl | (refine cons_congr ?_ ?_))) <;> (refine congrArg (· % q) ?_; omega)
  case o1 => (first | assumption | exact off1_lt (by assumption) (by (first | exact allLt_of (by assumption) | exact (by assumption) | exact (And.right (by assumption)) | exact (And.right (And.right (by assumption))) | exact (And.right (And.right (And.right (by assumption)))) | exact (And.right (And.right (And.right (And.right (by assumption))))) | exact (And.right (And.right (And.right (And.right (And.right (by assumption)))))) | exact (And.right (And.right (And.right (And.right (And.right (And.right (by assumption))))))) | exact (And.right (And.right (And.right (And.right (And.right (And.right (And.right (by assumption)))))))))) | exact off1_of (by (first | exact allLt_of (by assumption) | exact (by assumption) | exact (And.right (by assumption)) | exact (And.right (And.right (by assumption))) | exact (And.right (And.right (And.right (by assumption)))) | exact (And.right (And.right (And.right (And.right (by assumption))))) | exact (And.right (And.right (And.right (And.right (And.right (by assumption)))))) | exact (And.right (And.right (And.right (And.right (And.right (And.right (by assumption))))))) | exact (And.right (And.right (And.right (And.right (And.right (And.right (And.right (by assumption)))))))))) | exact (And.right (by assumption)) | exact (And.right (And.right (by assumption))) | exact (And.right (And.right (And.right (by assumption)))) | exact (And.right (And.right (And.right (And.right (by assumption))))) | exact (And.right (And.right (And.right (And.right (And.right (by assumption)))))) | exact (And.right (And.right (And.right (And.right (And.right (And.right (by assumption))))))) | exact (And.right (And.right (And.right (And.right (And.right (And.right (And.right (by assumption)))))))))


set_option maxRecDepth 100000 in
set_option maxHeartbeats 8000000 in
theorem C_school4 {A : Around} {env : Env} {outer : List Env} {A₀ : Around} {base h₀ : Heap} {L : Addr} {m : Str → Option Value} {news : List (Addr × Obj)} {s : Shared}
    {w : World} {p : Program} {loose : List Str} {mean : ExcName → Option Value} {mg mb : Str → Option Value} {R : Result → Shared → Prop}
    (hA : A.frames = some (env :: outer)) (hH : A.handled = none) (hd : A.depth ≤ 500) (hu : A.units ≤ 500)
    (B : Below A₀ base outer h₀) (F : Fr h₀ L s.heap m) (X : (Mine.hd.heap_1 w.params).In h₀) (N : News h₀ L s.heap news) (T : Top p loose mean mg mb h₀)
    (hf : env.frame = some L) (hke : env.scope.kind = .function)
    {x y r : Addr} {q : Int} {a0 a1 a2 a3 b0 b1 b2 b3 : Int} (hr : IsRing w news r q 4) (hx : IsPoly w news r x [a0, a1, a2, a3]) (hy : IsPoly w news r y [b0, b1, b2, b3])
    (hq : 2 ≤ q) (ha0 : Builtin.Int.intBits a0 ≤ 100) (ha1 : Builtin.Int.intBits a1 ≤ 100) (ha2 : Builtin.Int.intBits a2 ≤ 100) (ha3 : Builtin.Int.intBits a3 ≤ 100) (hb0 : Builtin.Int.intBits b0 ≤ 100) (hb1 : Builtin.Int.intBits b1 ≤ 100) (hb2 : Builtin.Int.intBits b2 ≤ 100) (hb3 : Builtin.Int.intBits b3 ≤ 100)
    (ret : ∀ l h' tk' vs n', Fr h₀ L h' m → News h₀ L h' ((l, W.listOf vs.toArray n') :: news) → IntsAre vs [(a0 * b0 - a1 * b3 - a2 * b2 - a3 * b1) % q, (a0 * b1 + a1 * b0 - a2 * b3 - a3 * b2) % q, (a0 * b2 + a1 * b1 + a2 * b0 - a3 * b3) % q, (a0 * b3 + a1 * b2 + a2 * b1 + a3 * b0) % q] → LCg.Off1 l news → R (.ok (.ret (.ref l))) { s with heap := h', toks := tk' }) :
    codeAny (model PySem.Challenge.rw_ay0009_04.row.prog w) A (.call (.ref 127) ⟨[.ref x, .ref y], []⟩) R s := by
  obtain ⟨dr, t1, t2, u1, u2, hr1, hr2⟩ := hr.out
  obtain ⟨dx, lx, t3, t4, hx1, hx2, hx3⟩ := hx.out
  obtain ⟨dy, ly, t5, t6, hy1, hy2, hy3⟩ := hy.out
  obtain ⟨vx, nx, hx4, hx5⟩ := hx3.out
  obtain ⟨vy, ny, hy4, hy5⟩ := hy3.out
  obtain ⟨p0, p1, p2, p3, e⟩ := ints4 hx5
  subst e
  obtain ⟨r0, r1, r2, r3, e⟩ := ints4 hy5
  subst e
  clear hr hx hy hx3 hy3 hx5 hy5
  refine codeAny_ar hA hH hd hu ?_
  revert X
  k_fill
  intro X
  k_dflt (refine' code_defC ?k1 ?k2 ?k3 ?k4 ?k5 ?kA ?kF ?kK ?k6 ?k7 ?k8 ?k9 ?kB ?kD ?_ ?c2 ?c3 ?c4; (case kA => exact rfl); (case kF => assumption); (case kK => assumption); (case k1 => k_asm); (case k2 => k_asm); (case k3 => k_asm); (case k4 => k_asm); (case k5 => k_asm); (case k6 => k_is); (case k7 => k_is); (case k8 => k_room); (case k9 => first | exact BindsTo.of_eq rfl | exact binds_K (by k_in) rfl (by k_is) rfl rfl rfl | fail "no rule for these arguments"); (case kB => exact rfl); (case kD => decide +kernel); (case c2 => exact rfl); (case c3 => exact rfl); (case c4 => exact rfl); k_whole; intro g' L' h' tk' cells' FG' F' N' Y' B' X' T' l1; (try k_lt l1); k_cells Y'; (try simp only [List.cons_append, List.nil_append] at N'); (try dsimp only); (try k_lift B'); (try k_fold))
  k_steps
  (all_goals (try k_data))
  (rename IntsAre _ (List.map (fun k' => Int.fmod k' q) _) => hI9)
  (rename News h₀ L _ _ => hN9)
  refine' ret _ _ _ _ _ (by k_asm) (news_sub hN9 (sub_cons ?s1 (by k_mem))) (ints_cast hI9 ?e1) ?o1
  case s1 => repeat (first | exact sub_refl | exact fun _ h => h | refine sub_skip ?_)
  case e1 =>
    simp only [List.map_cons, List.map_nil, Int.fmod_eq_emod_of_nonneg _ (show (0:Int) ≤ q by omega)]
    (repeat' (first | rfl | (refine cons_congr ?_ ?_))) <;> (refine congrArg (· % q) ?_; omega)
  case o1 => (first | assumption | exact off1_lt (by assumption) (by (first | exact allLt_of (by assumption) | exact (by assumption) | exact (And.right (by assumption)) | exact (And.right (And.right (by assumption))) | exact (And.right (And.right (And.right (by assumption)))) | exact (And.right (And.right (And.right (And.right (by assumption))))) | exact (And.right (And.right (And.right (And.right (And.right (by assumption)))))) | exact (And.right (And.right (And.right (And.right (And.right (And.right (by assumption))))))) | exact (And.right (And.right (And.right (And.right (And.right (And.right (And.right (by assumption)))))))))) | exact off1_of (by (first | exact allLt_of (by assumption) | exact (by assumption) | exact (And.right (by assumption)) | exact (And.right (And.right (by assumption))) | exact (And.right (And.right (And.right (by assumption)))) | exact (And.right (And.right (And.right (And.right (by assumption))))) | exact (And.right (And.right (And.right (And.right (And.right (by assumption)))))) | exact (And.right (And.right (And.right (And.right (And.right (And.right (by assumption))))))) | exact (And.right (And.right (And.right (And.right (And.right (And.right (And.right (by assumption)))))))))) | exact (And.right (by assumption)) | exact (And.right (And.right (by assumption))) | exact (And.right (And.right (And.right (by assumption)))) | exact (And.right (And.right (And.right (And.right (by assumption))))) | exact (And.right (And.right (And.right (And.right (And.right (by assumption)))))) | exact (And.right (And.right (And.right (And.right (And.right (And.right (by assumption))))))) | exact (And.right (And.right (And.right (And.right (And.right (And.right (And.right (by assumption)))))))))

end
section
local macro_rules | `(tactic| walk_at "binaryOp Pow int int") => `(tactic| (k_here; k_dflt (first | (refine' my_pow1 ?k1 ?k2 ?k3 ?k4 ?_; (case k1 => decide); (case k2 => decide); (case k3 => decide); (case k4 => decide)) | (refine' my_powm ?k1 ?k2 ?k3 ?k4 ?_; (case k1 => decide); (case k2 => decide); (case k3 => decide); (case k4 => decide)))))
local macro_rules | `(tactic| walk_at "exec While Compare cons nil") => `(tactic| (k_here; k_dflt (refine whl_start 100 ?_)))
local macro_rules | `(tactic| walk_at "getItem ref int") => `(tactic| ((rename IntsAre _ (List.map (fun _ => (0:Int)) (rangeKs 0 _)) => hI9); (first | (have hI7 := ints2 (x := 0) (y := 0) hI9; clear hI9; (obtain ⟨t70, t71, e7⟩ := hI7); subst e7) | (have hI7 := ints1 (x := 0) hI9; clear hI9; (obtain ⟨t70, e7⟩ := hI7); subst e7)); walk_say "CONCRETE"; (rename News _ _ _ _ => hN7); dsimp only [LCg.lst] at hN7))

set_option maxRecDepth 100000 in
set_option maxHeartbeats 8000000 in
theorem C_norm2 {A : Around} {env : Env} {outer : List Env} {A₀ : Around} {base h₀ : Heap} {L : Addr} {m : Str → Option Value} {news : List (Addr × Obj)} {s : Shared}
    {w : World} {p : Program} {loose : List Str} {mean : ExcName → Option Value} {mg mb : Str → Option Value} {R : Result → Shared → Prop}
    (hA : A.frames = some (env :: outer)) (hH : A.handled = none) (hd : A.depth ≤ 500) (hu : A.units ≤ 500)
    (B : Below A₀ base outer h₀) (F : Fr h₀ L s.heap m) (X : (Mine.hd.heap_1 w.params).In h₀) (N : News h₀ L s.heap news) (T : Top p loose mean mg mb h₀)
    (hf : env.frame = some L) (hke : env.scope.kind = .function)
    {l : Addr} {cs : List Int} (hl : IsInts news l cs) (hlen : cs.length = 2) (hbs : ∀ c ∈ cs, Builtin.Int.intBits c ≤ 100)
    (ret : ∀ h' tk' tk, Fr h₀ L h' m → News h₀ L h' news → R (.ok (.ret (.int (normL cs) tk))) { s with heap := h', toks := tk' }) :
    codeAny (model PySem.Challenge.rw_ay0009_04.row.prog w) A (.call (.ref 236) ⟨[.ref l], []⟩) R s := by
  have hl' := hl.out
  obtain ⟨vl, nl, hl1, hl2⟩ := hl'
  obtain ⟨a0, a1, e⟩ := len_two hlen
  subst e
  obtain ⟨px0, px1, e⟩ := ints2 hl2
  subst e
  replace N := news_cons hl1 N
  have hba0 := hbs a0 (by simp)
  have hba1 := hbs a1 (by simp)

  refine codeAny_ar hA hH hd hu ?_
  revert X
  k_fill
  intro X
  k_dflt (refine' code_def ?k1 ?k2 ?k3 ?k4 ?k5 ?kA ?kF ?kK ?k6 ?k7 ?k8 ?k9 ?kB ?_ ?c2 ?c3 ?c4 ?c5; (case kA => exact rfl); (case kF => assumption); (case kK => assumption); (case k1 => k_asm); (case k2 => k_asm); (case k3 => k_asm); (case k4 => k_asm); (case k5 => k_asm); (case k6 => k_is); (case k7 => k_is); (case k8 => k_room); (case k9 => first | exact BindsTo.of_eq rfl | exact binds_K (by k_in) rfl (by k_is) rfl rfl rfl | fail "no rule for these arguments"); (case c5 => decide); (case kB => exact locs rfl); (case c2 => exact rfl); (case c3 => exact rfl); (case c4 => exact rfl); k_whole; intro g' L' h' FG' F' N' B' X' T'; (try dsimp only); (try k_lift B'); (try k_fold))
  k_steps
  (all_goals (try k_data))
  refine' int_cast9 (ret _ _ _ (by k_asm) (news_sub (by k_asm) ?s1)) ?e1
  case s1 => (repeat (first | exact sub_refl | exact fun _ h => h | refine sub_skip ?_))
  case e1 => (simp only [normL]; grind)


set_option maxRecDepth 100000 in
set_option maxHeartbeats 8000000 in
theorem C_norm4 {A : Around} {env : Env} {outer : List Env} {A₀ : Around} {base h₀ : Heap} {L : Addr} {m : Str → Option Value} {news : List (Addr × Obj)} {s : Shared}
    {w : World} {p : Program} {loose : List Str} {mean : ExcName → Option Value} {mg mb : Str → Option Value} {R : Result → Shared → Prop}
    (hA : A.frames = some (env :: outer)) (hH : A.handled = none) (hd : A.depth ≤ 500) (hu : A.units ≤ 500)
    (B : Below A₀ base outer h₀) (F : Fr h₀ L s.heap m) (X : (Mine.hd.heap_1 w.params).In h₀) (N : News h₀ L s.heap news) (T : Top p loose mean mg mb h₀)
    (hf : env.frame = some L) (hke : env.scope.kind = .function)
    {l : Addr} {cs : List Int} (hl : IsInts news l cs) (hlen : cs.length = 4) (hbs : ∀ c ∈ cs, Builtin.Int.intBits c ≤ 100)
    (ret : ∀ h' tk' tk, Fr h₀ L h' m → News h₀ L h' news → R (.ok (.ret (.int (normL cs) tk))) { s with heap := h', toks := tk' }) :
    codeAny (model PySem.Challenge.rw_ay0009_04.row.prog w) A (.call (.ref 236) ⟨[.ref l], []⟩) R s := by
  have hl' := hl.out
  obtain ⟨vl, nl, hl1, hl2⟩ := hl'
  obtain ⟨a0, a1, a2, a3, e⟩ := len_four hlen
  subst e
  obtain ⟨px0, px1, px2, px3, e⟩ := ints4 hl2
  subst e
  replace N := news_cons hl1 N
  have hba0 := hbs a0 (by simp)
  have hba1 := hbs a1 (by simp)
  have hba2 := hbs a2 (by simp)
  have hba3 := hbs a3 (by simp)

  refine codeAny_ar hA hH hd hu ?_
  revert X
  k_fill
  intro X
  k_dflt (refine' code_def ?k1 ?k2 ?k3 ?k4 ?k5 ?kA ?kF ?kK ?k6 ?k7 ?k8 ?k9 ?kB ?_ ?c2 ?c3 ?c4 ?c5; (case kA => exact rfl); (case kF => assumption); (case kK => assumption); (case k1 => k_asm); (case k2 => k_asm); (case k3 => k_asm); (case k4 => k_asm); (case k5 => k_asm); (case k6 => k_is); (case k7 => k_is); (case k8 => k_room); (case k9 => first | exact BindsTo.of_eq rfl | exact binds_K (by k_in) rfl (by k_is) rfl rfl rfl | fail "no rule for these arguments"); (case c5 => decide); (case kB => exact locs rfl); (case c2 => exact rfl); (case c3 => exact rfl); (case c4 => exact rfl); k_whole; intro g' L' h' FG' F' N' B' X' T'; (try dsimp only); (try k_lift B'); (try k_fold))
  k_steps
  (all_goals (try k_data))
  refine' int_cast9 (ret _ _ _ (by k_asm) (news_sub (by k_asm) ?s1)) ?e1
  case s1 => (repeat (first | exact sub_refl | exact fun _ h => h | refine sub_skip ?_))
  case e1 => (simp only [normL]; grind)

end
local macro_rules | `(tactic| walk_at "GxPost ref") => `(tactic| (k_here; k_dflt (refine' genexp_post (K := Mine.hd.heap_1 _) ?F ?N ?X ?hlim ?M ?ht ?htr ?hl ?hi ?hG ?hk ?h11 ?h18 ?h7 ?h9 ?h10 ?hcP ?hPs ?h2 ?_; (case F => k_asm); (case N => k_asm); (case X => k_asm); (case hlim => exact Top.nolimit (by k_asm)); (case M => first | k_asm | exact BMod.keeps (by assumption) (Fr.keep (by assumption))); (case ht => k_mem); (case htr => k_asm); (case hl => k_mem); (case hi => kst_mem); (case hG => k_asm); (case hk => k_is); (case h11 => exact rfl); (case h18 => exact rfl); (case h7 => exact rfl); (case h9 => exact rfl); (case h10 => exact rfl); (case hcP => decide); (case hPs => decide); (case h2 => decide); k_whole); intro a5 s5 ps5 nx5 S5 F5 N5 ht5 htr5 hk5 hG5 hos5 hL5 hS5 hX5; (try k_sweep); walk_say "GENPOST"))
local macro_rules | `(tactic| walk_at "call builtin:all") => `(tactic| (k_here; k_dflt (refine' my_all ?F ?N ?G ?X ?hL ?hn ?_; (case F => k_asm); (case N => k_asm); (case G => k_asm); (case X => k_asm); (case hL => k_asm); (case hn => k_asm); k_whole); intro s6 F6 N6 hG6 hos6; (try k_sweep); walk_say "ALL"))
section
local macro_rules | `(tactic| walk_at "eval GeneratorExp Compare cons") => `(tactic| (k_here; k_dflt (refine' my_genexp (c := 97) (P := 93) ?hh ?hco ?hclos ?hcell ?h0 ?hx ?hkind ?hroom ?hcode ?helt ?_ ?hs; (case hh => exact rfl); (case hco => with_unfolding_all rfl); (case hclos => with_unfolding_all rfl); (case hcell => decide); (case h0 => with_unfolding_all rfl); (case hx => with_unfolding_all rfl); (case hkind => with_unfolding_all rfl); (case hroom => k_room); (case hcode => with_unfolding_all rfl); (case helt => (intros; exact elt_zero (by assumption) (by assumption) (by with_unfolding_all rfl) (by with_unfolding_all rfl) (by decide))); (case hs => (intro _; with_unfolding_all rfl)); k_whole); walk_say "GENEXP"))
local macro_rules | `(tactic| walk_at "zz none") => `(tactic| fail)
set_option maxRecDepth 100000 in
set_option maxHeartbeats 8000000 in
theorem C_isc2 {A : Around} {env : Env} {outer : List Env} {A₀ : Around} {base h₀ : Heap} {L : Addr} {m : Str → Option Value} {news : List (Addr × Obj)} {s : Shared}
    {w : World} {p : Program} {loose : List Str} {mean : ExcName → Option Value} {mg mb : Str → Option Value} {R : Result → Shared → Prop}
    (hA : A.frames = some (env :: outer)) (hH : A.handled = none) (hd : A.depth ≤ 500) (hu : A.units ≤ 500)
    (B : Below A₀ base outer h₀) (F : Fr h₀ L s.heap m) (X : (Mine.hd.heap_1 w.params).In h₀) (N : News h₀ L s.heap news) (T : Top p loose mean mg mb h₀)
    (hf : env.frame = some L) (hke : env.scope.kind = .function)
    {x r : Addr} {cs : List Int} {ps : Array Value} (hx : IsPoly w news r x cs) (hlen : cs.length = 2) (ht : (93, tabObj ps) ∈ news) (htr : TriplesOk ps.toList) (hG : AllBare s.gens)
    (ret : ∀ nx s' ps', Fr h₀ L s'.heap m → News h₀ L s'.heap nx → (93, tabObj ps') ∈ nx → TriplesOk ps'.toList → (∀ p ∈ news, OffT 93 p → p ∈ nx) → AllBare s'.gens → s'.os = s.os → R (.ok (.ret (.bool (cs.tail.all (· == 0))))) s') :
    codeAny (model PySem.Challenge.rw_ay0009_04.row.prog w) A (.call (.ref 98) ⟨[.ref x], []⟩) R s := by
  obtain ⟨bm0, ob0, hM0⟩ := bmod_of_top T
  have hx' := hx.at_
  obtain ⟨dx, lx, t3, t4, vx, nx, hx1, hx2, hx3, hx4⟩ := hx'
  obtain ⟨a0, a1, e⟩ := len_two hlen
  subst e
  obtain ⟨px0, px1, e⟩ := ints2 hx4
  subst e

  refine codeAny_ar hA hH hd hu ?_
  revert X
  k_fill
  intro X
  k_dflt (refine' code_def ?k1 ?k2 ?k3 ?k4 ?k5 ?kA ?kF ?kK ?k6 ?k7 ?k8 ?k9 ?kB ?_ ?c2 ?c3 ?c4 ?c5; (case kA => exact rfl); (case kF => assumption); (case kK => assumption); (case k1 => k_asm); (case k2 => k_asm); (case k3 => k_asm); (case k4 => k_asm); (case k5 => k_asm); (case k6 => k_is); (case k7 => k_is); (case k8 => k_room); (case k9 => first | exact BindsTo.of_eq rfl | exact binds_K (by k_in) rfl (by k_is) rfl rfl rfl | fail "no rule for these arguments"); (case c5 => decide); (case kB => exact locs rfl); (case c2 => exact rfl); (case c3 => exact rfl); (case c4 => exact rfl); k_whole; intro g' L' h' FG' F' N' B' X' T'; (try dsimp only); (try k_lift B'); (try k_fold))
  k_steps
  (all_goals (try k_data))
  refine' ret _ _ _ (by k_asm) (by k_asm) (by k_asm) (by k_asm) ?e1 (by k_asm) ?e2
  case e1 => first | assumption | (intro p hp ho; first | exact (by assumption : ∀ p ∈ _, OffT _ p → p ∈ _) _ hp ho | exact (by assumption : ∀ p ∈ _, OffT _ p → p ∈ _) _ (List.mem_cons_of_mem _ hp) ho)
  case e2 => first | assumption | exact Eq.trans (by assumption) (by assumption)

set_option maxRecDepth 100000 in
set_option maxHeartbeats 8000000 in
theorem C_isc4 {A : Around} {env : Env} {outer : List Env} {A₀ : Around} {base h₀ : Heap} {L : Addr} {m : Str → Option Value} {news : List (Addr × Obj)} {s : Shared}
    {w : World} {p : Program} {loose : List Str} {mean : ExcName → Option Value} {mg mb : Str → Option Value} {R : Result → Shared → Prop}
    (hA : A.frames = some (env :: outer)) (hH : A.handled = none) (hd : A.depth ≤ 500) (hu : A.units ≤ 500)
    (B : Below A₀ base outer h₀) (F : Fr h₀ L s.heap m) (X : (Mine.hd.heap_1 w.params).In h₀) (N : News h₀ L s.heap news) (T : Top p loose mean mg mb h₀)
    (hf : env.frame = some L) (hke : env.scope.kind = .function)
    {x r : Addr} {cs : List Int} {ps : Array Value} (hx : IsPoly w news r x cs) (hlen : cs.length = 4) (ht : (93, tabObj ps) ∈ news) (htr : TriplesOk ps.toList) (hG : AllBare s.gens)
    (ret : ∀ nx s' ps', Fr h₀ L s'.heap m → News h₀ L s'.heap nx → (93, tabObj ps') ∈ nx → TriplesOk ps'.toList → (∀ p ∈ news, OffT 93 p → p ∈ nx) → AllBare s'.gens → s'.os = s.os → R (.ok (.ret (.bool (cs.tail.all (· == 0))))) s') :
    codeAny (model PySem.Challenge.rw_ay0009_04.row.prog w) A (.call (.ref 98) ⟨[.ref x], []⟩) R s := by
  obtain ⟨bm0, ob0, hM0⟩ := bmod_of_top T
  have hx' := hx.at_
  obtain ⟨dx, lx, t3, t4, vx, nx, hx1, hx2, hx3, hx4⟩ := hx'
  obtain ⟨a0, a1, a2, a3, e⟩ := len_four hlen
  subst e
  obtain ⟨px0, px1, px2, px3, e⟩ := ints4 hx4
  subst e

  refine codeAny_ar hA hH hd hu ?_
  revert X
  k_fill
  intro X
  k_dflt (refine' code_def ?k1 ?k2 ?k3 ?k4 ?k5 ?kA ?kF ?kK ?k6 ?k7 ?k8 ?k9 ?kB ?_ ?c2 ?c3 ?c4 ?c5; (case kA => exact rfl); (case kF => assumption); (case kK => assumption); (case k1 => k_asm); (case k2 => k_asm); (case k3 => k_asm); (case k4 => k_asm); (case k5 => k_asm); (case k6 => k_is); (case k7 => k_is); (case k8 => k_room); (case k9 => first | exact BindsTo.of_eq rfl | exact binds_K (by k_in) rfl (by k_is) rfl rfl rfl | fail "no rule for these arguments"); (case c5 => decide); (case kB => exact locs rfl); (case c2 => exact rfl); (case c3 => exact rfl); (case c4 => exact rfl); k_whole; intro g' L' h' FG' F' N' B' X' T'; (try dsimp only); (try k_lift B'); (try k_fold))
  k_steps
  (all_goals (try k_data))
  refine' ret _ _ _ (by k_asm) (by k_asm) (by k_asm) (by k_asm) ?e1 (by k_asm) ?e2
  case e1 => first | assumption | (intro p hp ho; first | exact (by assumption : ∀ p ∈ _, OffT _ p → p ∈ _) _ hp ho | exact (by assumption : ∀ p ∈ _, OffT _ p → p ∈ _) _ (List.mem_cons_of_mem _ hp) ho)
  case e2 => first | assumption | exact Eq.trans (by assumption) (by assumption)

end
local macro_rules | `(tactic| ktr_rel) => `(tactic| first | (with_reducible assumption) | (with_reducible exact List.mem_cons_self) | (refine' List.mem_cons_of_mem _ ?_; ktr_rel) | (refine' sub_mem (by with_reducible assumption) ?_; ktr_rel) | (refine' subT_mem (by with_reducible assumption) ?k9 ?o9; (case k9 => ktr_rel); (case o9 => kwd_inv)))
local macro_rules | `(tactic| k_mem) => `(tactic| ktr_rel)
local macro_rules | `(tactic| kcf_size) => `(tactic| first | ((simp only [List.size_toArray, List.length_cons, List.length_nil]); decide) | ((simp only [List.size_toArray]); with_reducible assumption))
local macro_rules | `(tactic| walk_at "CompEnd") => `(tactic| (k_here; (rename News _ _ _ _ => hN9); (rename Fr _ _ _ _ => hF9); (refine LCg.CompEnd.intro hF9 hN9 _ (fun _ h => h) ?off ?hS ?_); (case off => first | assumption | ((simp only [LCg.Off3, and_true]); first | done | assumption)); (case hS => k_dflt lcg_src); (try dsimp only [List.nil_append, List.cons_append]); walk_say "COMPEND"))
local macro_rules | `(tactic| walk_at "storeName") => `(tactic| (k_here; k_dflt (refine' my_storeC ?F ?N ?T ?C ?c ?i ?_ ?a ?b; (case a => rfl); (case b => rfl); (case F => k_asm); (case N => k_asm); (case T => kfm_turns); (case C => kqd_sub); (case c => rfl); (case i => first | exact List.mem_cons_self | exact List.mem_cons_of_mem _ List.mem_cons_self | exact List.mem_cons_of_mem _ (List.mem_cons_of_mem _ List.mem_cons_self) | exact List.mem_cons_of_mem _ (List.mem_cons_of_mem _ (List.mem_cons_of_mem _ List.mem_cons_self))); k_whole); intro h8 nx8 F8 N8 T8 C8 X8; (try k_sweep); walk_say "STOREC"))
local macro_rules | `(tactic| kwd_inv) => `(tactic| (first | exact off_cell (by with_reducible assumption) | exact Or.inr (fun _ e => by cases e) | exact Or.inl (by decide)))
local macro_rules | `(tactic| kst_mem) => `(tactic| (first | with_reducible assumption | assumption | exact IntsAre.nil | exact .cons _ _ .nil | exact .cons _ _ (.cons _ _ .nil) | exact .cons _ _ (.cons _ _ (.cons _ _ .nil)) | exact .cons _ _ (.cons _ _ (.cons _ _ (.cons _ _ .nil))) | exact .cons _ _ (by with_reducible assumption)))
local macro_rules | `(tactic| ktd_rel) => `(tactic| (first | with_reducible assumption | (refine IsRing.mono (by with_reducible assumption) ?_; kct_strs) | (refine IsRing.ext (by with_reducible assumption) ?_; (kpt_turns; done)) | exact ⟨⟨_, _, _, _, _, by k_mem, by k_mem⟩⟩))
local macro_rules | `(tactic| kwd_rel) => `(tactic| (first | with_reducible assumption | (refine IsInts.mono (by with_reducible assumption) ?_; kct_strs) | (refine IsInts.ext (by with_reducible assumption) ?_; (kpt_turns; done)) | exact ⟨⟨_, _, by k_mem, by kst_mem⟩⟩ | (refine IsInts.ext ?_ (by with_reducible assumption); exact ⟨⟨_, _, by k_mem, by kst_mem⟩⟩)))
local macro_rules | `(tactic| tb_start) => `(tactic| (first | with_reducible assumption | (refine IsPoly.mono (by with_reducible assumption) ?_; kct_strs) | (refine IsPoly.ext (by with_reducible assumption) ?_; (kpt_turns; done)) | exact ⟨⟨_, _, _, _, by k_mem, by k_mem, ⟨⟨_, _, by k_mem, by kst_mem⟩⟩⟩⟩))
local macro_rules | `(tactic| tb_rel) => `(tactic| (first | with_reducible assumption | exact Good.mul (by assumption) (by assumption) (by tb_rel) (by tb_rel) | exact Good.subI (by assumption) (by tb_rel) | exact Good.addI (by assumption) (by tb_rel) | exact Good.neg (by assumption) (by tb_rel) | exact Good.mulI (by assumption) (by tb_rel) | exact Good.addL (by assumption) (by tb_rel) (by tb_rel) | exact Good.one (by assumption) (by assumption) | exact Good.pow (by assumption) (by assumption) (by tb_rel)))
local macro_rules | `(tactic| kst_p) => `(tactic| (first | with_reducible assumption | exact rfl | exact Good.len (by with_reducible assumption) | ((have h97 : _ ∨ _ := (by assumption : _ = 2 ∨ _ = 4)); (simp only [List.length_map, List.length_take, List.length_drop]); omega)))
section
local macro_rules | `(tactic| walk_at "zz none") => `(tactic| fail)
set_option maxRecDepth 100000 in
set_option maxHeartbeats 8000000 in
theorem C_rcallG {A : Around} {env : Env} {outer : List Env} {A₀ : Around} {base h₀ : Heap} {L : Addr} {m : Str → Option Value} {news : List (Addr × Obj)} {s : Shared}
    {w : World} {p : Program} {loose : List Str} {mean : ExcName → Option Value} {mg mb : Str → Option Value} {R : Result → Shared → Prop}
    (hA : A.frames = some (env :: outer)) (hH : A.handled = none) (hd : A.depth ≤ 600) (hu : A.units ≤ 600)
    (B : Below A₀ base outer h₀) (F : Fr h₀ L s.heap m) (X : (Mine.hd.heap_1 w.params).In h₀) (N : News h₀ L s.heap news) (T : Top p loose mean mg mb h₀)
    (hf : env.frame = some L) (hke : env.scope.kind = .function)
    {n : Nat} (hn : n = 2 ∨ n = 4) {l r : Addr} {q : Int} {cs : List Int} (hr : IsRing w news r q n) (hl : IsInts news l cs) (hcs : cs.length = n)
    (ret : ∀ x dx h' tk' t1 t2, Fr h₀ L h' m → News h₀ L h' ((x, instObj 227 dx) :: (dx, polyD w t1 t2 r l) :: news) → AllLt dx news → @LT.lt Nat _ dx x → R (.ok (.ret (.ref x))) { s with heap := h', toks := tk' }) :
    codeAny (model PySem.Challenge.rw_ay0009_04.row.prog w) A (.call (.ref 56) ⟨[.ref r, .ref l], []⟩) R s := by
  obtain ⟨vl, nl, hl1, hl2⟩ := hl.out
  have hvl : vl.length = n := hl2.length.trans hcs
  have hr' := hr.out
  obtain ⟨dr, t1, t2, u1, u2, hr1, hr2⟩ := hr'

  refine codeAny_ar hA hH hd hu ?_
  revert X
  k_fill
  intro X
  k_dflt (refine' code_def ?k1 ?k2 ?k3 ?k4 ?k5 ?kA ?kF ?kK ?k6 ?k7 ?k8 ?k9 ?kB ?_ ?c2 ?c3 ?c4 ?c5; (case kA => exact rfl); (case kF => assumption); (case kK => assumption); (case k1 => k_asm); (case k2 => k_asm); (case k3 => k_asm); (case k4 => k_asm); (case k5 => k_asm); (case k6 => k_is); (case k7 => k_is); (case k8 => k_room); (case k9 => first | exact BindsTo.of_eq rfl | exact binds_K (by k_in) rfl (by k_is) rfl rfl rfl | fail "no rule for these arguments"); (case c5 => decide); (case kB => exact locs rfl); (case c2 => exact rfl); (case c3 => exact rfl); (case c4 => exact rfl); k_whole; intro g' L' h' FG' F' N' B' X' T'; (try dsimp only); (try k_lift B'); (try k_fold))
  k_steps
  (all_goals (try k_data))
  refine' ret _ _ _ _ _ _ (by k_asm) (by k_asm) ?o1 ?o2
  case o1 => (first | exact allLt_of (by assumption) | ((try simp only [AllLt, and_true]); (repeat' (refine And.intro ?_ ?_)) <;> first | assumption | omega | exact (And.right (by assumption)) | exact (And.right (And.right (by assumption))) | exact (And.right (And.right (And.right (by assumption)))) | exact (And.right (And.right (And.right (And.right (by assumption))))) | exact (And.right (And.right (And.right (And.right (And.right (by assumption)))))) | exact (And.right (And.right (And.right (And.right (And.right (And.right (by assumption))))))) | exact (And.right (And.right (And.right (And.right (And.right (And.right (And.right (by assumption))))))))))
  case o2 => first | assumption | omega

end
section
set_option maxRecDepth 100000 in
set_option maxHeartbeats 8000000 in
theorem C_rcallIG {A : Around} {env : Env} {outer : List Env} {A₀ : Around} {base h₀ : Heap} {L : Addr} {m : Str → Option Value} {news : List (Addr × Obj)} {s : Shared}
    {w : World} {p : Program} {loose : List Str} {mean : ExcName → Option Value} {mg mb : Str → Option Value} {R : Result → Shared → Prop}
    (hA : A.frames = some (env :: outer)) (hH : A.handled = none) (hd : A.depth ≤ 600) (hu : A.units ≤ 600)
    (B : Below A₀ base outer h₀) (F : Fr h₀ L s.heap m) (X : (Mine.hd.heap_1 w.params).In h₀) (N : News h₀ L s.heap news) (T : Top p loose mean mg mb h₀)
    (hf : env.frame = some L) (hke : env.scope.kind = .function)
    {n : Nat} (hn : n = 2 ∨ n = 4) {r : Addr} {q v : Int} {u : Tok} (hr : IsRing w news r q n)
    (ret : ∀ x' nx h' tk', Fr h₀ L h' m → News h₀ L h' nx → (∀ p ∈ news, p ∈ nx) → IsPoly w nx r x' (v :: List.replicate (n - 1) 0) → R (.ok (.ret (.ref x'))) { s with heap := h', toks := tk' }) :
    codeAny (model PySem.Challenge.rw_ay0009_04.row.prog w) A (.call (.ref 56) ⟨[.ref r, .int v u], []⟩) R s := by
  have hr' := hr.out
  obtain ⟨dr, t1, t2, u1, u2, hr1, hr2⟩ := hr'
  have hpad : ([v] ++ List.map (fun _ => (0 : Int)) (rangeKs 0 ((n : Int) - 1 - 0).toNat)) = v :: List.replicate (n - 1) 0 := by
    rw [List.map_const', rangeKs_length, show ((n : Int) - 1 - 0).toNat = n - 1 by omega]
    rfl

  refine codeAny_ar hA hH hd hu ?_
  revert X
  k_fill
  intro X
  k_dflt (refine' code_def ?k1 ?k2 ?k3 ?k4 ?k5 ?kA ?kF ?kK ?k6 ?k7 ?k8 ?k9 ?kB ?_ ?c2 ?c3 ?c4 ?c5; (case kA => exact rfl); (case kF => assumption); (case kK => assumption); (case k1 => k_asm); (case k2 => k_asm); (case k3 => k_asm); (case k4 => k_asm); (case k5 => k_asm); (case k6 => k_is); (case k7 => k_is); (case k8 => k_room); (case k9 => first | exact BindsTo.of_eq rfl | exact binds_K (by k_in) rfl (by k_is) rfl rfl rfl | fail "no rule for these arguments"); (case c5 => decide); (case kB => exact locs rfl); (case c2 => exact rfl); (case c3 => exact rfl); (case c4 => exact rfl); k_whole; intro g' L' h' FG' F' N' B' X' T'; (try dsimp only); (try k_lift B'); (try k_fold))
  k_steps
  (all_goals (try k_data))
  (rename News h₀ L _ _ => hN9)
  (try dsimp only [LCg.lst] at hN9)
  refine' ret _ _ _ _ (by k_asm) hN9 ?zs ?zp
  case zs => (repeat (first | exact sub_refl | exact fun _ h => h | refine sub_skip ?_))
  case zp => exact IsPoly.cast (by tb_start) hpad

end
section
theorem G_school {A : Around} {env : Env} {outer : List Env} {A₀ : Around} {base h₀ : Heap} {L : Addr} {m : Str → Option Value} {news : List (Addr × Obj)} {s : Shared}
    {w : World} {p : Program} {loose : List Str} {mean : ExcName → Option Value} {mg mb : Str → Option Value} {R : Result → Shared → Prop}
    (hA : A.frames = some (env :: outer)) (hH : A.handled = none) (hd : A.depth ≤ 500) (hu : A.units ≤ 500)
    (B : Below A₀ base outer h₀) (F : Fr h₀ L s.heap m) (X : (Mine.hd.heap_1 w.params).In h₀) (N : News h₀ L s.heap news) (T : Top p loose mean mg mb h₀)
    (hf : env.frame = some L) (hke : env.scope.kind = .function)
    {n : Nat} (hn : n = 2 ∨ n = 4) {x y r : Addr} {q : Int} {cs ds : List Int} (hr : IsRing w news r q n) (hx : IsPoly w news r x cs) (hy : IsPoly w news r y ds)
    (hq : 2 ≤ q) (hqb : Builtin.Int.intBits q ≤ 100) (hcs : Good q n cs) (hds : Good q n ds)
    (ret : ∀ l nx h' tk', Fr h₀ L h' m → News h₀ L h' nx → (∀ p ∈ news, p ∈ nx) → IsInts nx l (mulL q cs ds) → R (.ok (.ret (.ref l))) { s with heap := h', toks := tk' }) :
    codeAny (model PySem.Challenge.rw_ay0009_04.row.prog w) A (.call (.ref 127) ⟨[.ref x, .ref y], []⟩) R s := by
  rcases hn with rfl | rfl
  · obtain ⟨a0, a1, rfl⟩ := hcs.two
    obtain ⟨b0, b1, rfl⟩ := hds.two
    exact C_school2 hA hH hd hu B F X N T hf hke hr hx hy hq (bits_red hqb (hcs.red a0 (by simp))) (bits_red hqb (hcs.red a1 (by simp))) (bits_red hqb (hds.red b0 (by simp))) (bits_red hqb (hds.red b1 (by simp))) (fun l h' tk' vs n' F' N' hi _ => ret l _ h' tk' F' N' (fun p hp => List.mem_cons_of_mem _ hp) ⟨⟨vs, n', List.mem_cons_self, hi⟩⟩)
  · obtain ⟨a0, a1, a2, a3, rfl⟩ := hcs.four
    obtain ⟨b0, b1, b2, b3, rfl⟩ := hds.four
    exact C_school4 hA hH hd hu B F X N T hf hke hr hx hy hq (bits_red hqb (hcs.red a0 (by simp))) (bits_red hqb (hcs.red a1 (by simp))) (bits_red hqb (hcs.red a2 (by simp))) (bits_red hqb (hcs.red a3 (by simp))) (bits_red hqb (hds.red b0 (by simp))) (bits_red hqb (hds.red b1 (by simp))) (bits_red hqb (hds.red b2 (by simp))) (bits_red hqb (hds.red b3 (by simp))) (fun l h' tk' vs n' F' N' hi _ => ret l _ h' tk' F' N' (fun p hp => List.mem_cons_of_mem _ hp) ⟨⟨vs, n', List.mem_cons_self, hi⟩⟩)
theorem G_rcall {A : Around} {env : Env} {outer : List Env} {A₀ : Around} {base h₀ : Heap} {L : Addr} {m : Str → Option Value} {news : List (Addr × Obj)} {s : Shared}
    {w : World} {p : Program} {loose : List Str} {mean : ExcName → Option Value} {mg mb : Str → Option Value} {R : Result → Shared → Prop}
    (hA : A.frames = some (env :: outer)) (hH : A.handled = none) (hd : A.depth ≤ 600) (hu : A.units ≤ 600)
    (B : Below A₀ base outer h₀) (F : Fr h₀ L s.heap m) (X : (Mine.hd.heap_1 w.params).In h₀) (N : News h₀ L s.heap news) (T : Top p loose mean mg mb h₀)
    (hf : env.frame = some L) (hke : env.scope.kind = .function)
    {n : Nat} (hn : n = 2 ∨ n = 4) {l r : Addr} {q : Int} {cs : List Int} (hr : IsRing w news r q n) (hl : IsInts news l cs) (hcs : cs.length = n)
    (ret : ∀ x' nx h' tk', Fr h₀ L h' m → News h₀ L h' nx → (∀ p ∈ news, p ∈ nx) → IsPoly w nx r x' (cs) → R (.ok (.ret (.ref x'))) { s with heap := h', toks := tk' }) :
    codeAny (model PySem.Challenge.rw_ay0009_04.row.prog w) A (.call (.ref 56) ⟨[.ref r, .ref l], []⟩) R s :=
  C_rcallG hA hH hd hu B F X N T hf hke hn hr hl hcs (fun x' dx h' tk' t1 t2 F' N' _ _ => ret x' _ h' tk' F' N' (fun p hp => List.mem_cons_of_mem _ (List.mem_cons_of_mem _ hp)) ⟨⟨dx, l, t1, t2, List.mem_cons_self, List.mem_cons_of_mem _ List.mem_cons_self, hl.mono fun p hp => List.mem_cons_of_mem _ (List.mem_cons_of_mem _ hp)⟩⟩)
theorem G_rcallI {A : Around} {env : Env} {outer : List Env} {A₀ : Around} {base h₀ : Heap} {L : Addr} {m : Str → Option Value} {news : List (Addr × Obj)} {s : Shared}
    {w : World} {p : Program} {loose : List Str} {mean : ExcName → Option Value} {mg mb : Str → Option Value} {R : Result → Shared → Prop}
    (hA : A.frames = some (env :: outer)) (hH : A.handled = none) (hd : A.depth ≤ 600) (hu : A.units ≤ 600)
    (B : Below A₀ base outer h₀) (F : Fr h₀ L s.heap m) (X : (Mine.hd.heap_1 w.params).In h₀) (N : News h₀ L s.heap news) (T : Top p loose mean mg mb h₀)
    (hf : env.frame = some L) (hke : env.scope.kind = .function)
    {n : Nat} (hn : n = 2 ∨ n = 4)
    {r : Addr} {q v : Int} {u : Tok} (hr : IsRing w news r q n)
    (ret : ∀ x' nx h' tk', Fr h₀ L h' m → News h₀ L h' nx → (∀ p ∈ news, p ∈ nx) → IsPoly w nx r x' (v :: List.replicate (n - 1) 0) → R (.ok (.ret (.ref x'))) { s with heap := h', toks := tk' }) :
    codeAny (model PySem.Challenge.rw_ay0009_04.row.prog w) A (.call (.ref 56) ⟨[.ref r, .int v u], []⟩) R s :=
  C_rcallIG hA hH hd hu B F X N T hf hke hn hr ret
theorem G_norm {A : Around} {env : Env} {outer : List Env} {A₀ : Around} {base h₀ : Heap} {L : Addr} {m : Str → Option Value} {news : List (Addr × Obj)} {s : Shared}
    {w : World} {p : Program} {loose : List Str} {mean : ExcName → Option Value} {mg mb : Str → Option Value} {R : Result → Shared → Prop}
    (hA : A.frames = some (env :: outer)) (hH : A.handled = none) (hd : A.depth ≤ 500) (hu : A.units ≤ 500)
    (B : Below A₀ base outer h₀) (F : Fr h₀ L s.heap m) (X : (Mine.hd.heap_1 w.params).In h₀) (N : News h₀ L s.heap news) (T : Top p loose mean mg mb h₀)
    (hf : env.frame = some L) (hke : env.scope.kind = .function)
    {n : Nat} (hn : n = 2 ∨ n = 4)
    {l : Addr} {cs : List Int} (hl : IsInts news l cs) (hlen : cs.length = n) (hbs : ∀ c ∈ cs, Builtin.Int.intBits c ≤ 100)
    (ret : ∀ h' tk' tk, Fr h₀ L h' m → News h₀ L h' news → R (.ok (.ret (.int (normL cs) tk))) { s with heap := h', toks := tk' }) :
    codeAny (model PySem.Challenge.rw_ay0009_04.row.prog w) A (.call (.ref 236) ⟨[.ref l], []⟩) R s := by
  rcases hn with rfl | rfl
  · exact C_norm2 hA hH hd hu B F X N T hf hke hl hlen hbs ret
  · exact C_norm4 hA hH hd hu B F X N T hf hke hl hlen hbs ret
theorem G_isc {A : Around} {env : Env} {outer : List Env} {A₀ : Around} {base h₀ : Heap} {L : Addr} {m : Str → Option Value} {news : List (Addr × Obj)} {s : Shared}
    {w : World} {p : Program} {loose : List Str} {mean : ExcName → Option Value} {mg mb : Str → Option Value} {R : Result → Shared → Prop}
    (hA : A.frames = some (env :: outer)) (hH : A.handled = none) (hd : A.depth ≤ 500) (hu : A.units ≤ 500)
    (B : Below A₀ base outer h₀) (F : Fr h₀ L s.heap m) (X : (Mine.hd.heap_1 w.params).In h₀) (N : News h₀ L s.heap news) (T : Top p loose mean mg mb h₀)
    (hf : env.frame = some L) (hke : env.scope.kind = .function)
    {n : Nat} (hn : n = 2 ∨ n = 4)
    {x r : Addr} {cs : List Int} {ps : Array Value} (hx : IsPoly w news r x cs) (hlen : cs.length = n) (ht : (93, tabObj ps) ∈ news) (htr : TriplesOk ps.toList) (hG : AllBare s.gens)
    (ret : ∀ nx s' ps', Fr h₀ L s'.heap m → News h₀ L s'.heap nx → (93, tabObj ps') ∈ nx → TriplesOk ps'.toList → (∀ p ∈ news, OffT 93 p → p ∈ nx) → AllBare s'.gens → s'.os = s.os → R (.ok (.ret (.bool (cs.tail.all (· == 0))))) s') :
    codeAny (model PySem.Challenge.rw_ay0009_04.row.prog w) A (.call (.ref 98) ⟨[.ref x], []⟩) R s := by
  rcases hn with rfl | rfl
  · exact C_isc2 hA hH hd hu B F X N T hf hke hx hlen ht htr hG ret
  · exact C_isc4 hA hH hd hu B F X N T hf hke hx hlen ht htr hG ret

end
section
local macro_rules | `(tactic| walk_at "subscriptTail List cons BinOp ref int") => `(tactic| (k_here; (rename News _ _ _ _ => hN6); k_dflt (refine' item_list_intsR (vs := [_, _, _, _, _, _]) (ns := [2, 3, 5, 7, 17, 257]) ?l ?i ?h0 ?h1 ?z ?_ ?s; (case l => first | is_list | exact News.isList hN6 (by k_mem)); (case i => exact .cons _ _ (.cons _ _ (.cons _ _ (.cons _ _ (.cons _ _ (.cons _ _ .nil)))))); (case h0 => exact fm_lo (by decide)); (case h1 => exact fm_hi (by decide)); (case z => exact Int.lt_trans (fm_hi (by decide)) (by decide)); (case s => with_unfolding_all rfl)); (intro t6; try dsimp only); walk_say "MENU"))
local macro_rules | `(tactic| walk_at "binaryOp Pow int int") => `(tactic| (k_here; k_dflt (refine' pow_int_small ?p1 ?p2 ?p3 ?_; (case p1 => omega); (case p2 => omega); (case p3 => omega); k_whole); (try dsimp only); walk_say "POW"))
set_option maxRecDepth 100000 in
set_option maxHeartbeats 8000000 in
theorem st4_0 {w : World} {p : Program} {loose : List Str} {mean : ExcName → Option Value} {mg mb : Str → Option Value} {h₀ : Heap} {L fa : Addr} {cd : Value} {os0 : OsState} {s : Shared} {Q : Flow → Shared → Prop} {E : Value → Shared → Prop}
    (B : Below callerA h₀ [] h₀) (X : (Mine.hd.heap_1 w.params).In h₀) (T : Top p loose mean mg mb h₀) {nx : List (Addr × Obj)}
    {l0 : Addr} {vs : List Value} {ns : List Int} (hl : h₀.IsList l0 vs.toArray) (hi : IntsAre vs ns) (h63 : ns.length ≤ 63) (S : St h₀ L os0 [(Str.ofString "script", .ref l0)] [(L + 1, none), (L + 2, none), (L + 3, none)] nx s)
    (k : ∀ s' nx' ln ns', St h₀ L os0 [(Str.ofString "numbers", .ref ln)] [(L + 1, none), (L + 2, none), (L + 3, none)] nx' s' → Ext nx nx' → IsInts nx' ln ns' → ns'.length = 7 → Q .next s') :
    wpAny (model PySem.Challenge.rw_ay0009_04.row.prog w) (callerA.deeper (envOfC (Str.ofString "law") (lawDef PySem.Challenge.rw_ay0009_04.row.prog).2 L fa cd)) (exec (stm PySem.Challenge.rw_ay0009_04.row.prog 0) (envOfC (Str.ofString "law") (lawDef PySem.Challenge.rw_ay0009_04.row.prog).2 L fa cd)) Q E s := by
  obtain ⟨⟨m0, F⟩, N, ⟨⟨pa, ta, tra⟩, ⟨pc, tc, trc⟩⟩, CL, G, O⟩ := S
  simp only [lk] at F
  have TT : Tabs nx := ⟨⟨_, ta, tra⟩, ⟨_, tc, trc⟩⟩
  revert X
  k_fill
  intro X
  conv =>
    arg 3
    arg 1
    whnf
  k_steps
  (all_goals (try k_data))
  refine' k _ _ _ _ ?Sz1 ?Xz1 ?E0z1 ?E1z1
  case Sz1 =>
    refine ⟨fr_lk (by k_asm) _ ?l9z1, ?n9z1, ?t9z1, ?c9z1, ?g9z1, ?o9z1⟩
    case l9z1 => (repeat (first | exact List.forall_mem_nil _ | (refine List.forall_mem_cons.mpr ⟨?_, ?_⟩; exact rfl)))
    case n9z1 => k_asm
    case t9z1 => (repeat (first | with_reducible assumption | refine Tabs.sub ?_ (by with_reducible assumption) | refine Tabs.of1 ?_ (by with_reducible assumption) (by with_reducible assumption) (by with_reducible assumption) | refine Tabs.of2 ?_ (by with_reducible assumption) (by with_reducible assumption) (by with_reducible assumption) | refine Tabs.sub ?_ (fun p hp => List.mem_cons_of_mem _ hp)))
    case c9z1 => first | ((repeat (first | with_reducible assumption | exact Cells.sub (by with_reducible assumption) (fun p hp => List.mem_cons_of_mem _ hp) | exact Cells.sub (by with_reducible assumption) (fun p hp => List.mem_cons_of_mem _ (List.mem_cons_of_mem _ hp)) | exact Cells.sub (by with_reducible assumption) (fun p hp => List.mem_cons_of_mem _ (List.mem_cons_of_mem _ (List.mem_cons_of_mem _ hp))) | exact Cells.sub (by with_reducible assumption) (fun p hp => List.mem_cons_of_mem _ (List.mem_cons_of_mem _ (List.mem_cons_of_mem _ (List.mem_cons_of_mem _ hp)))) | refine Cells.sub ?_ (by with_reducible assumption) | refine Cells.of1 ?_ (by with_reducible assumption) | refine Cells.sub ?_ (fun p hp => List.mem_cons_of_mem _ hp))); done) | ((rename CellsTo _ _ _ _ => hC8); refine hC8 _ ?_; (repeat (first | exact List.forall_mem_nil _ | (refine List.forall_mem_cons.mpr ⟨?_, ?_⟩; first | (refine .inl ?_; exact rfl) | (refine .inr ⟨by simp, ?_⟩; first | exact Nat.ne_of_lt (by omega) | exact Nat.ne_of_gt (by omega))))))
    case g9z1 => first | assumption | exact G
    case o9z1 => (repeat (first | exact O | refine Eq.trans (by with_reducible assumption) ?_))
  case Xz1 => (repeat (first | exact ext_refl | with_reducible assumption | refine ext_trans ?_ (by with_reducible assumption) | refine ext_cons ?_ | refine ext_trans ?_ (ext_of (by with_reducible assumption)) | refine ext_trans ?_ (ext_of1 (by with_reducible assumption))))
  case E0z1 => kwd_rel
  case E1z1 => (simp only [List.length_take, List.length_append, List.length_cons, List.length_nil]; omega)

set_option maxRecDepth 100000 in
set_option maxHeartbeats 8000000 in
theorem st4_1 {w : World} {p : Program} {loose : List Str} {mean : ExcName → Option Value} {mg mb : Str → Option Value} {h₀ : Heap} {L fa : Addr} {cd : Value} {os0 : OsState} {s : Shared} {Q : Flow → Shared → Prop} {E : Value → Shared → Prop}
    (B : Below callerA h₀ [] h₀) (X : (Mine.hd.heap_1 w.params).In h₀) (T : Top p loose mean mg mb h₀) {nx : List (Addr × Obj)}
    {ln : Addr} {ns : List Int} (hl : IsInts nx ln ns) (hlen : ns.length = 7) (S : St h₀ L os0 [(Str.ofString "numbers", .ref ln)] [(L + 1, none), (L + 2, none), (L + 3, none)] nx s)
    (k : ∀ s' nx' p tp kk tk, St h₀ L os0 [(Str.ofString "numbers", .ref ln), (Str.ofString "k", .int kk tk)] [(L + 1, some (.int p tp)), (L + 2, none), (L + 3, none)] nx' s' → Ext nx nx' → p ∈ [2, 3, 5, 7, 17, (257 : Int)] → 2 ≤ kk → kk ≤ 8 → Q .next s') :
    wpAny (model PySem.Challenge.rw_ay0009_04.row.prog w) (callerA.deeper (envOfC (Str.ofString "law") (lawDef PySem.Challenge.rw_ay0009_04.row.prog).2 L fa cd)) (exec (stm PySem.Challenge.rw_ay0009_04.row.prog 1) (envOfC (Str.ofString "law") (lawDef PySem.Challenge.rw_ay0009_04.row.prog).2 L fa cd)) Q E s := by
  obtain ⟨⟨m0, F⟩, N, ⟨⟨pa, ta, tra⟩, ⟨pc, tc, trc⟩⟩, CL, G, O⟩ := S
  simp only [lk] at F
  have TT : Tabs nx := ⟨⟨_, ta, tra⟩, ⟨_, tc, trc⟩⟩
  obtain ⟨vl, nl, hl1, hl2⟩ := hl.out
  have hvl : vl.length = 7 := hl2.length.trans hlen
  revert X
  k_fill
  intro X
  conv =>
    arg 3
    arg 1
    whnf
  k_steps
  (all_goals (try k_data))
  refine' k _ _ _ _ _ _ ?Sz1 ?Xz1 ?E0z1 ?E1z1 ?E2z1
  case Sz1 =>
    refine ⟨fr_lk (by k_asm) _ ?l9z1, ?n9z1, ?t9z1, ?c9z1, ?g9z1, ?o9z1⟩
    case l9z1 => (repeat (first | exact List.forall_mem_nil _ | (refine List.forall_mem_cons.mpr ⟨?_, ?_⟩; exact rfl)))
    case n9z1 => k_asm
    case t9z1 => (repeat (first | with_reducible assumption | refine Tabs.sub ?_ (by with_reducible assumption) | refine Tabs.of1 ?_ (by with_reducible assumption) (by with_reducible assumption) (by with_reducible assumption) | refine Tabs.of2 ?_ (by with_reducible assumption) (by with_reducible assumption) (by with_reducible assumption) | refine Tabs.sub ?_ (fun p hp => List.mem_cons_of_mem _ hp)))
    case c9z1 => first | ((repeat (first | with_reducible assumption | exact Cells.sub (by with_reducible assumption) (fun p hp => List.mem_cons_of_mem _ hp) | exact Cells.sub (by with_reducible assumption) (fun p hp => List.mem_cons_of_mem _ (List.mem_cons_of_mem _ hp)) | exact Cells.sub (by with_reducible assumption) (fun p hp => List.mem_cons_of_mem _ (List.mem_cons_of_mem _ (List.mem_cons_of_mem _ hp))) | exact Cells.sub (by with_reducible assumption) (fun p hp => List.mem_cons_of_mem _ (List.mem_cons_of_mem _ (List.mem_cons_of_mem _ (List.mem_cons_of_mem _ hp)))) | refine Cells.sub ?_ (by with_reducible assumption) | refine Cells.of1 ?_ (by with_reducible assumption) | refine Cells.sub ?_ (fun p hp => List.mem_cons_of_mem _ hp))); done) | ((rename CellsTo _ _ _ _ => hC8); refine hC8 _ ?_; (repeat (first | exact List.forall_mem_nil _ | (refine List.forall_mem_cons.mpr ⟨?_, ?_⟩; first | (refine .inl ?_; exact rfl) | (refine .inr ⟨by simp, ?_⟩; first | exact Nat.ne_of_lt (by omega) | exact Nat.ne_of_gt (by omega))))))
    case g9z1 => first | assumption | exact G
    case o9z1 => (repeat (first | exact O | refine Eq.trans (by with_reducible assumption) ?_))
  case Xz1 => (repeat (first | exact ext_refl | with_reducible assumption | refine ext_trans ?_ (by with_reducible assumption) | refine ext_cons ?_ | refine ext_trans ?_ (ext_of (by with_reducible assumption)) | refine ext_trans ?_ (ext_of1 (by with_reducible assumption))))
  case E0z1 => exact menu6 _
  case E1z1 => exact (k27 _).1
  case E2z1 => exact (k27 _).2

set_option maxRecDepth 100000 in
set_option maxHeartbeats 8000000 in
theorem st4_2 {w : World} {p : Program} {loose : List Str} {mean : ExcName → Option Value} {mg mb : Str → Option Value} {h₀ : Heap} {L fa : Addr} {cd : Value} {os0 : OsState} {s : Shared} {Q : Flow → Shared → Prop} {E : Value → Shared → Prop}
    (B : Below callerA h₀ [] h₀) (X : (Mine.hd.heap_1 w.params).In h₀) (T : Top p loose mean mg mb h₀) {nx : List (Addr × Obj)}
    {p : Int} {tp : Tok} (hp : 2 ≤ p) (hpm : p ≤ 257) (hpb : Builtin.Int.intBits p ≤ 100) {kk : Int} {tk : Tok} (hk2 : 2 ≤ kk) (hk8 : kk ≤ 8) {ln : Addr} {ns : List Int} (hl : IsInts nx ln ns) (hlen : ns.length = 7) (S : St h₀ L os0 [(Str.ofString "numbers", .ref ln), (Str.ofString "k", .int kk tk)] [(L + 1, some (.int p tp)), (L + 2, none), (L + 3, none)] nx s)
    (k : ∀ s' nx' (n : Nat) tn, St h₀ L os0 [(Str.ofString "numbers", .ref ln), (Str.ofString "k", .int kk tk), (Str.ofString "n", .int (n : Int) tn)] [(L + 1, some (.int p tp)), (L + 2, none), (L + 3, none)] nx' s' → Ext nx nx' → (n = 2 ∨ (n = 4 ∧ p < 257)) → Q .next s') :
    wpAny (model PySem.Challenge.rw_ay0009_04.row.prog w) (callerA.deeper (envOfC (Str.ofString "law") (lawDef PySem.Challenge.rw_ay0009_04.row.prog).2 L fa cd)) (exec (stm PySem.Challenge.rw_ay0009_04.row.prog 2) (envOfC (Str.ofString "law") (lawDef PySem.Challenge.rw_ay0009_04.row.prog).2 L fa cd)) Q E s := by
  obtain ⟨⟨m0, F⟩, N, ⟨⟨pa, ta, tra⟩, ⟨pc, tc, trc⟩⟩, CL, G, O⟩ := S
  simp only [lk] at F
  have TT : Tabs nx := ⟨⟨_, ta, tra⟩, ⟨_, tc, trc⟩⟩
  obtain ⟨vl, nl, hl1, hl2⟩ := hl.out
  have hvl : vl.length = 7 := hl2.length.trans hlen
  obtain ⟨op9, hcp, hdp⟩ := CL (L + 1, some (.int p tp)) List.mem_cons_self
  dsimp only at hcp hdp
  revert X
  k_fill
  intro X
  conv =>
    arg 3
    arg 1
    whnf
  k_steps
  (all_goals (try k_data))
  · refine' k _ _ 4 _ ?Sz1 ?Xz1 ?E0z1
    case Sz1 =>
      refine ⟨fr_lk (by k_asm) _ ?l9z1, ?n9z1, ?t9z1, ?c9z1, ?g9z1, ?o9z1⟩
      case l9z1 => (repeat (first | exact List.forall_mem_nil _ | (refine List.forall_mem_cons.mpr ⟨?_, ?_⟩; exact rfl)))
      case n9z1 => k_asm
      case t9z1 => (repeat (first | with_reducible assumption | refine Tabs.sub ?_ (by with_reducible assumption) | refine Tabs.of1 ?_ (by with_reducible assumption) (by with_reducible assumption) (by with_reducible assumption) | refine Tabs.of2 ?_ (by with_reducible assumption) (by with_reducible assumption) (by with_reducible assumption) | refine Tabs.sub ?_ (fun p hp => List.mem_cons_of_mem _ hp)))
      case c9z1 => first | ((repeat (first | with_reducible assumption | exact Cells.sub (by with_reducible assumption) (fun p hp => List.mem_cons_of_mem _ hp) | exact Cells.sub (by with_reducible assumption) (fun p hp => List.mem_cons_of_mem _ (List.mem_cons_of_mem _ hp)) | exact Cells.sub (by with_reducible assumption) (fun p hp => List.mem_cons_of_mem _ (List.mem_cons_of_mem _ (List.mem_cons_of_mem _ hp))) | exact Cells.sub (by with_reducible assumption) (fun p hp => List.mem_cons_of_mem _ (List.mem_cons_of_mem _ (List.mem_cons_of_mem _ (List.mem_cons_of_mem _ hp)))) | refine Cells.sub ?_ (by with_reducible assumption) | refine Cells.of1 ?_ (by with_reducible assumption) | refine Cells.sub ?_ (fun p hp => List.mem_cons_of_mem _ hp))); done) | ((rename CellsTo _ _ _ _ => hC8); refine hC8 _ ?_; (repeat (first | exact List.forall_mem_nil _ | (refine List.forall_mem_cons.mpr ⟨?_, ?_⟩; first | (refine .inl ?_; exact rfl) | (refine .inr ⟨by simp, ?_⟩; first | exact Nat.ne_of_lt (by omega) | exact Nat.ne_of_gt (by omega))))))
      case g9z1 => first | assumption | exact G
      case o9z1 => (repeat (first | exact O | refine Eq.trans (by with_reducible assumption) ?_))
    case Xz1 => (repeat (first | exact ext_refl | with_reducible assumption | refine ext_trans ?_ (by with_reducible assumption) | refine ext_cons ?_ | refine ext_trans ?_ (ext_of (by with_reducible assumption)) | refine ext_trans ?_ (ext_of1 (by with_reducible assumption))))
    case E0z1 => exact .inr ⟨rfl, by assumption⟩
  · refine' k _ _ 2 _ ?Sz2 ?Xz2 ?E0z2
    case Sz2 =>
      refine ⟨fr_lk (by k_asm) _ ?l9z2, ?n9z2, ?t9z2, ?c9z2, ?g9z2, ?o9z2⟩
      case l9z2 => (repeat (first | exact List.forall_mem_nil _ | (refine List.forall_mem_cons.mpr ⟨?_, ?_⟩; exact rfl)))
      case n9z2 => k_asm
      case t9z2 => (repeat (first | with_reducible assumption | refine Tabs.sub ?_ (by with_reducible assumption) | refine Tabs.of1 ?_ (by with_reducible assumption) (by with_reducible assumption) (by with_reducible assumption) | refine Tabs.of2 ?_ (by with_reducible assumption) (by with_reducible assumption) (by with_reducible assumption) | refine Tabs.sub ?_ (fun p hp => List.mem_cons_of_mem _ hp)))
      case c9z2 => first | ((repeat (first | with_reducible assumption | exact Cells.sub (by with_reducible assumption) (fun p hp => List.mem_cons_of_mem _ hp) | exact Cells.sub (by with_reducible assumption) (fun p hp => List.mem_cons_of_mem _ (List.mem_cons_of_mem _ hp)) | exact Cells.sub (by with_reducible assumption) (fun p hp => List.mem_cons_of_mem _ (List.mem_cons_of_mem _ (List.mem_cons_of_mem _ hp))) | exact Cells.sub (by with_reducible assumption) (fun p hp => List.mem_cons_of_mem _ (List.mem_cons_of_mem _ (List.mem_cons_of_mem _ (List.mem_cons_of_mem _ hp)))) | refine Cells.sub ?_ (by with_reducible assumption) | refine Cells.of1 ?_ (by with_reducible assumption) | refine Cells.sub ?_ (fun p hp => List.mem_cons_of_mem _ hp))); done) | ((rename CellsTo _ _ _ _ => hC8); refine hC8 _ ?_; (repeat (first | exact List.forall_mem_nil _ | (refine List.forall_mem_cons.mpr ⟨?_, ?_⟩; first | (refine .inl ?_; exact rfl) | (refine .inr ⟨by simp, ?_⟩; first | exact Nat.ne_of_lt (by omega) | exact Nat.ne_of_gt (by omega))))))
      case g9z2 => first | assumption | exact G
      case o9z2 => (repeat (first | exact O | refine Eq.trans (by with_reducible assumption) ?_))
    case Xz2 => (repeat (first | exact ext_refl | with_reducible assumption | refine ext_trans ?_ (by with_reducible assumption) | refine ext_cons ?_ | refine ext_trans ?_ (ext_of (by with_reducible assumption)) | refine ext_trans ?_ (ext_of1 (by with_reducible assumption))))
    case E0z2 => exact .inl rfl
  · refine' k _ _ 2 _ ?Sz3 ?Xz3 ?E0z3
    case Sz3 =>
      refine ⟨fr_lk (by k_asm) _ ?l9z3, ?n9z3, ?t9z3, ?c9z3, ?g9z3, ?o9z3⟩
      case l9z3 => (repeat (first | exact List.forall_mem_nil _ | (refine List.forall_mem_cons.mpr ⟨?_, ?_⟩; exact rfl)))
      case n9z3 => k_asm
      case t9z3 => (repeat (first | with_reducible assumption | refine Tabs.sub ?_ (by with_reducible assumption) | refine Tabs.of1 ?_ (by with_reducible assumption) (by with_reducible assumption) (by with_reducible assumption) | refine Tabs.of2 ?_ (by with_reducible assumption) (by with_reducible assumption) (by with_reducible assumption) | refine Tabs.sub ?_ (fun p hp => List.mem_cons_of_mem _ hp)))
      case c9z3 => first | ((repeat (first | with_reducible assumption | exact Cells.sub (by with_reducible assumption) (fun p hp => List.mem_cons_of_mem _ hp) | exact Cells.sub (by with_reducible assumption) (fun p hp => List.mem_cons_of_mem _ (List.mem_cons_of_mem _ hp)) | exact Cells.sub (by with_reducible assumption) (fun p hp => List.mem_cons_of_mem _ (List.mem_cons_of_mem _ (List.mem_cons_of_mem _ hp))) | exact Cells.sub (by with_reducible assumption) (fun p hp => List.mem_cons_of_mem _ (List.mem_cons_of_mem _ (List.mem_cons_of_mem _ (List.mem_cons_of_mem _ hp)))) | refine Cells.sub ?_ (by with_reducible assumption) | refine Cells.of1 ?_ (by with_reducible assumption) | refine Cells.sub ?_ (fun p hp => List.mem_cons_of_mem _ hp))); done) | ((rename CellsTo _ _ _ _ => hC8); refine hC8 _ ?_; (repeat (first | exact List.forall_mem_nil _ | (refine List.forall_mem_cons.mpr ⟨?_, ?_⟩; first | (refine .inl ?_; exact rfl) | (refine .inr ⟨by simp, ?_⟩; first | exact Nat.ne_of_lt (by omega) | exact Nat.ne_of_gt (by omega))))))
      case g9z3 => first | assumption | exact G
      case o9z3 => (repeat (first | exact O | refine Eq.trans (by with_reducible assumption) ?_))
    case Xz3 => (repeat (first | exact ext_refl | with_reducible assumption | refine ext_trans ?_ (by with_reducible assumption) | refine ext_cons ?_ | refine ext_trans ?_ (ext_of (by with_reducible assumption)) | refine ext_trans ?_ (ext_of1 (by with_reducible assumption))))
    case E0z3 => exact .inl rfl

set_option maxRecDepth 100000 in
set_option maxHeartbeats 8000000 in
theorem st4_3 {w : World} {p : Program} {loose : List Str} {mean : ExcName → Option Value} {mg mb : Str → Option Value} {h₀ : Heap} {L fa : Addr} {cd : Value} {os0 : OsState} {s : Shared} {Q : Flow → Shared → Prop} {E : Value → Shared → Prop}
    (B : Below callerA h₀ [] h₀) (X : (Mine.hd.heap_1 w.params).In h₀) (T : Top p loose mean mg mb h₀) {nx : List (Addr × Obj)}
    {n : Nat} {tn : Tok} (hn : n = 2 ∨ n = 4) {p : Int} {tp : Tok} (hp : 2 ≤ p) (hpm : p ≤ 257) (hpb : Builtin.Int.intBits p ≤ 100) {kk : Int} {tk : Tok} (hk2 : 2 ≤ kk) (hk8 : kk ≤ 8) {ln : Addr} {ns : List Int} (hl : IsInts nx ln ns) (hlen : ns.length = 7) (S : St h₀ L os0 [(Str.ofString "numbers", .ref ln), (Str.ofString "k", .int kk tk), (Str.ofString "n", .int (n : Int) tn)] [(L + 1, some (.int p tp)), (L + 2, none), (L + 3, none)] nx s)
    (k : ∀ s' nx' tq, St h₀ L os0 [(Str.ofString "numbers", .ref ln), (Str.ofString "k", .int kk tk), (Str.ofString "n", .int (n : Int) tn)] [(L + 1, some (.int p tp)), (L + 2, some (.int (p ^ kk.toNat) tq)), (L + 3, none)] nx' s' → Ext nx nx' → Q .next s') :
    wpAny (model PySem.Challenge.rw_ay0009_04.row.prog w) (callerA.deeper (envOfC (Str.ofString "law") (lawDef PySem.Challenge.rw_ay0009_04.row.prog).2 L fa cd)) (exec (stm PySem.Challenge.rw_ay0009_04.row.prog 3) (envOfC (Str.ofString "law") (lawDef PySem.Challenge.rw_ay0009_04.row.prog).2 L fa cd)) Q E s := by
  obtain ⟨⟨m0, F⟩, N, ⟨⟨pa, ta, tra⟩, ⟨pc, tc, trc⟩⟩, CL, G, O⟩ := S
  simp only [lk] at F
  have TT : Tabs nx := ⟨⟨_, ta, tra⟩, ⟨_, tc, trc⟩⟩
  obtain ⟨op9, hcp, hdp⟩ := CL (L + 1, some (.int p tp)) List.mem_cons_self
  dsimp only at hcp hdp
  revert X
  k_fill
  intro X
  conv =>
    arg 3
    arg 1
    whnf
  k_steps
  (all_goals (try k_data))
  refine' k _ _ _ ?Sz1 ?Xz1 
  case Sz1 =>
    refine ⟨fr_lk (by k_asm) _ ?l9z1, ?n9z1, ?t9z1, ?c9z1, ?g9z1, ?o9z1⟩
    case l9z1 => (repeat (first | exact List.forall_mem_nil _ | (refine List.forall_mem_cons.mpr ⟨?_, ?_⟩; exact rfl)))
    case n9z1 => k_asm
    case t9z1 => (repeat (first | with_reducible assumption | refine Tabs.sub ?_ (by with_reducible assumption) | refine Tabs.of1 ?_ (by with_reducible assumption) (by with_reducible assumption) (by with_reducible assumption) | refine Tabs.of2 ?_ (by with_reducible assumption) (by with_reducible assumption) (by with_reducible assumption) | refine Tabs.sub ?_ (fun p hp => List.mem_cons_of_mem _ hp)))
    case c9z1 => first | ((repeat (first | with_reducible assumption | exact Cells.sub (by with_reducible assumption) (fun p hp => List.mem_cons_of_mem _ hp) | exact Cells.sub (by with_reducible assumption) (fun p hp => List.mem_cons_of_mem _ (List.mem_cons_of_mem _ hp)) | exact Cells.sub (by with_reducible assumption) (fun p hp => List.mem_cons_of_mem _ (List.mem_cons_of_mem _ (List.mem_cons_of_mem _ hp))) | exact Cells.sub (by with_reducible assumption) (fun p hp => List.mem_cons_of_mem _ (List.mem_cons_of_mem _ (List.mem_cons_of_mem _ (List.mem_cons_of_mem _ hp)))) | refine Cells.sub ?_ (by with_reducible assumption) | refine Cells.of1 ?_ (by with_reducible assumption) | refine Cells.sub ?_ (fun p hp => List.mem_cons_of_mem _ hp))); done) | ((rename CellsTo _ _ _ _ => hC8); refine hC8 _ ?_; (repeat (first | exact List.forall_mem_nil _ | (refine List.forall_mem_cons.mpr ⟨?_, ?_⟩; first | (refine .inl ?_; exact rfl) | (refine .inr ⟨by simp, ?_⟩; first | exact Nat.ne_of_lt (by omega) | exact Nat.ne_of_gt (by omega))))))
    case g9z1 => first | assumption | exact G
    case o9z1 => (repeat (first | exact O | refine Eq.trans (by with_reducible assumption) ?_))
  case Xz1 => (repeat (first | exact ext_refl | with_reducible assumption | refine ext_trans ?_ (by with_reducible assumption) | refine ext_cons ?_ | refine ext_trans ?_ (ext_of (by with_reducible assumption)) | refine ext_trans ?_ (ext_of1 (by with_reducible assumption))))

set_option maxRecDepth 100000 in
set_option maxHeartbeats 8000000 in
theorem st4_4 {w : World} {p : Program} {loose : List Str} {mean : ExcName → Option Value} {mg mb : Str → Option Value} {h₀ : Heap} {L fa : Addr} {cd : Value} {os0 : OsState} {s : Shared} {Q : Flow → Shared → Prop} {E : Value → Shared → Prop}
    (B : Below callerA h₀ [] h₀) (X : (Mine.hd.heap_1 w.params).In h₀) (T : Top p loose mean mg mb h₀) {nx : List (Addr × Obj)}
    {n : Nat} {tn : Tok} (hn : n = 2 ∨ n = 4) {p : Int} {tp : Tok} (hp : 2 ≤ p) (hpm : p ≤ 257) (hpb : Builtin.Int.intBits p ≤ 100) {kk : Int} {tk : Tok} (hk2 : 2 ≤ kk) (hk8 : kk ≤ 8) {q : Int} {tq : Tok} (hq : 2 ≤ q) (hqb : Builtin.Int.intBits q ≤ 100) {ln : Addr} {ns : List Int} (hl : IsInts nx ln ns) (hlen : ns.length = 7) (S : St h₀ L os0 [(Str.ofString "numbers", .ref ln), (Str.ofString "k", .int kk tk), (Str.ofString "n", .int (n : Int) tn)] [(L + 1, some (.int p tp)), (L + 2, some (.int q tq)), (L + 3, none)] nx s)
    (k : ∀ s' nx' lr rc, St h₀ L os0 [(Str.ofString "k", .int kk tk), (Str.ofString "n", .int (n : Int) tn), (Str.ofString "row", .ref lr)] [(L + 1, some (.int p tp)), (L + 2, some (.int q tq)), (L + 3, none)] nx' s' → Ext nx nx' → IsInts nx' lr rc → Good q n rc → Q .next s') :
    wpAny (model PySem.Challenge.rw_ay0009_04.row.prog w) (callerA.deeper (envOfC (Str.ofString "law") (lawDef PySem.Challenge.rw_ay0009_04.row.prog).2 L fa cd)) (exec (stm PySem.Challenge.rw_ay0009_04.row.prog 4) (envOfC (Str.ofString "law") (lawDef PySem.Challenge.rw_ay0009_04.row.prog).2 L fa cd)) Q E s := by
  obtain ⟨⟨m0, F⟩, N, ⟨⟨pa, ta, tra⟩, ⟨pc, tc, trc⟩⟩, CL, G, O⟩ := S
  simp only [lk] at F
  have TT : Tabs nx := ⟨⟨_, ta, tra⟩, ⟨_, tc, trc⟩⟩
  obtain ⟨vl, nl, hl1, hl2⟩ := hl.out
  have hvl : vl.length = 7 := hl2.length.trans hlen
  obtain ⟨op9, hcp, hdp⟩ := CL (L + 1, some (.int p tp)) List.mem_cons_self
  dsimp only at hcp hdp
  obtain ⟨oq9, hcq, hdq⟩ := CL (L + 2, some (.int q tq)) (List.mem_cons_of_mem _ List.mem_cons_self)
  dsimp only at hcq hdq
  have hc6 := cut_len7 (q := q) hlen hn
  revert X
  k_fill
  intro X
  conv =>
    arg 3
    arg 1
    whnf
  k_steps
  (all_goals (try k_data))
  refine' k _ _ _ _ ?Sz1 ?Xz1 ?E0z1 ?E1z1
  case Sz1 =>
    refine ⟨fr_lk (by k_asm) _ ?l9z1, ?n9z1, ?t9z1, ?c9z1, ?g9z1, ?o9z1⟩
    case l9z1 => (repeat (first | exact List.forall_mem_nil _ | (refine List.forall_mem_cons.mpr ⟨?_, ?_⟩; exact rfl)))
    case n9z1 => k_asm
    case t9z1 => (repeat (first | with_reducible assumption | refine Tabs.sub ?_ (by with_reducible assumption) | refine Tabs.of1 ?_ (by with_reducible assumption) (by with_reducible assumption) (by with_reducible assumption) | refine Tabs.of2 ?_ (by with_reducible assumption) (by with_reducible assumption) (by with_reducible assumption) | refine Tabs.sub ?_ (fun p hp => List.mem_cons_of_mem _ hp)))
    case c9z1 => first | ((repeat (first | with_reducible assumption | exact Cells.sub (by with_reducible assumption) (fun p hp => List.mem_cons_of_mem _ hp) | exact Cells.sub (by with_reducible assumption) (fun p hp => List.mem_cons_of_mem _ (List.mem_cons_of_mem _ hp)) | exact Cells.sub (by with_reducible assumption) (fun p hp => List.mem_cons_of_mem _ (List.mem_cons_of_mem _ (List.mem_cons_of_mem _ hp))) | exact Cells.sub (by with_reducible assumption) (fun p hp => List.mem_cons_of_mem _ (List.mem_cons_of_mem _ (List.mem_cons_of_mem _ (List.mem_cons_of_mem _ hp)))) | refine Cells.sub ?_ (by with_reducible assumption) | refine Cells.of1 ?_ (by with_reducible assumption) | refine Cells.sub ?_ (fun p hp => List.mem_cons_of_mem _ hp))); done) | ((rename CellsTo _ _ _ _ => hC8); refine hC8 _ ?_; (repeat (first | exact List.forall_mem_nil _ | (refine List.forall_mem_cons.mpr ⟨?_, ?_⟩; first | (refine .inl ?_; exact rfl) | (refine .inr ⟨by simp, ?_⟩; first | exact Nat.ne_of_lt (by omega) | exact Nat.ne_of_gt (by omega))))))
    case g9z1 => first | assumption | exact G
    case o9z1 => (repeat (first | exact O | refine Eq.trans (by with_reducible assumption) ?_))
  case Xz1 => (repeat (first | exact ext_refl | with_reducible assumption | refine ext_trans ?_ (by with_reducible assumption) | refine ext_cons ?_ | refine ext_trans ?_ (ext_of (by with_reducible assumption)) | refine ext_trans ?_ (ext_of1 (by with_reducible assumption))))
  case E0z1 => kwd_rel
  case E1z1 => exact Good.fmap hq (cut_len7 hlen hn)

set_option maxRecDepth 100000 in
set_option maxHeartbeats 8000000 in
theorem st4_5 {w : World} {p : Program} {loose : List Str} {mean : ExcName → Option Value} {mg mb : Str → Option Value} {h₀ : Heap} {L fa : Addr} {cd : Value} {os0 : OsState} {s : Shared} {Q : Flow → Shared → Prop} {E : Value → Shared → Prop}
    (B : Below callerA h₀ [] h₀) (X : (Mine.hd.heap_1 w.params).In h₀) (T : Top p loose mean mg mb h₀) {nx : List (Addr × Obj)}
    {n : Nat} {tn : Tok} (hn : n = 2 ∨ n = 4) {p : Int} {tp : Tok} (hp : 2 ≤ p) (hpm : p ≤ 257) (hpb : Builtin.Int.intBits p ≤ 100) {kk : Int} {tk : Tok} (hk2 : 2 ≤ kk) (hk8 : kk ≤ 8) {q : Int} {tq : Tok} (hq : 2 ≤ q) (hqb : Builtin.Int.intBits q ≤ 100) {lr : Addr} {rc : List Int} (hrow : IsInts nx lr rc) (gr : Good q n rc) (S : St h₀ L os0 [(Str.ofString "k", .int kk tk), (Str.ofString "n", .int (n : Int) tn), (Str.ofString "row", .ref lr)] [(L + 1, some (.int p tp)), (L + 2, some (.int q tq)), (L + 3, none)] nx s)
    (k : ∀ s' nx' sm gr', St h₀ L os0 [(Str.ofString "k", .int kk tk), (Str.ofString "n", .int (n : Int) tn), (Str.ofString "row", .ref lr), (Str.ofString "small", .ref sm), (Str.ofString "great", .ref gr')] [(L + 1, some (.int p tp)), (L + 2, some (.int q tq)), (L + 3, none)] nx' s' → Ext nx nx' → IsRing w nx' sm p n → IsRing w nx' gr' q n → Q .next s') :
    wpAny (model PySem.Challenge.rw_ay0009_04.row.prog w) (callerA.deeper (envOfC (Str.ofString "law") (lawDef PySem.Challenge.rw_ay0009_04.row.prog).2 L fa cd)) (exec (stm PySem.Challenge.rw_ay0009_04.row.prog 5) (envOfC (Str.ofString "law") (lawDef PySem.Challenge.rw_ay0009_04.row.prog).2 L fa cd)) Q E s := by
  obtain ⟨⟨m0, F⟩, N, ⟨⟨pa, ta, tra⟩, ⟨pc, tc, trc⟩⟩, CL, G, O⟩ := S
  simp only [lk] at F
  have TT : Tabs nx := ⟨⟨_, ta, tra⟩, ⟨_, tc, trc⟩⟩
  obtain ⟨op9, hcp, hdp⟩ := CL (L + 1, some (.int p tp)) List.mem_cons_self
  dsimp only at hcp hdp
  obtain ⟨oq9, hcq, hdq⟩ := CL (L + 2, some (.int q tq)) (List.mem_cons_of_mem _ List.mem_cons_self)
  dsimp only at hcq hdq
  obtain ⟨vr, nr, hrow1, hrow2⟩ := hrow.out
  have hvr : vr.length = n := hrow2.length.trans gr.len
  have hrl := gr.len
  revert X
  k_fill
  intro X
  conv =>
    arg 3
    arg 1
    whnf
  k_steps
  (all_goals (try k_data))
  refine' k _ _ _ _ ?Sz1 ?Xz1 ?E0z1 ?E1z1
  case Sz1 =>
    refine ⟨fr_lk (by k_asm) _ ?l9z1, ?n9z1, ?t9z1, ?c9z1, ?g9z1, ?o9z1⟩
    case l9z1 => (repeat (first | exact List.forall_mem_nil _ | (refine List.forall_mem_cons.mpr ⟨?_, ?_⟩; exact rfl)))
    case n9z1 => k_asm
    case t9z1 => (repeat (first | with_reducible assumption | refine Tabs.sub ?_ (by with_reducible assumption) | refine Tabs.of1 ?_ (by with_reducible assumption) (by with_reducible assumption) (by with_reducible assumption) | refine Tabs.of2 ?_ (by with_reducible assumption) (by with_reducible assumption) (by with_reducible assumption) | refine Tabs.sub ?_ (fun p hp => List.mem_cons_of_mem _ hp)))
    case c9z1 => first | ((repeat (first | with_reducible assumption | exact Cells.sub (by with_reducible assumption) (fun p hp => List.mem_cons_of_mem _ hp) | exact Cells.sub (by with_reducible assumption) (fun p hp => List.mem_cons_of_mem _ (List.mem_cons_of_mem _ hp)) | exact Cells.sub (by with_reducible assumption) (fun p hp => List.mem_cons_of_mem _ (List.mem_cons_of_mem _ (List.mem_cons_of_mem _ hp))) | exact Cells.sub (by with_reducible assumption) (fun p hp => List.mem_cons_of_mem _ (List.mem_cons_of_mem _ (List.mem_cons_of_mem _ (List.mem_cons_of_mem _ hp)))) | refine Cells.sub ?_ (by with_reducible assumption) | refine Cells.of1 ?_ (by with_reducible assumption) | refine Cells.sub ?_ (fun p hp => List.mem_cons_of_mem _ hp))); done) | ((rename CellsTo _ _ _ _ => hC8); refine hC8 _ ?_; (repeat (first | exact List.forall_mem_nil _ | (refine List.forall_mem_cons.mpr ⟨?_, ?_⟩; first | (refine .inl ?_; exact rfl) | (refine .inr ⟨by simp, ?_⟩; first | exact Nat.ne_of_lt (by omega) | exact Nat.ne_of_gt (by omega))))))
    case g9z1 => first | assumption | exact G
    case o9z1 => (repeat (first | exact O | refine Eq.trans (by with_reducible assumption) ?_))
  case Xz1 => (repeat (first | exact ext_refl | with_reducible assumption | refine ext_trans ?_ (by with_reducible assumption) | refine ext_cons ?_ | refine ext_trans ?_ (ext_of (by with_reducible assumption)) | refine ext_trans ?_ (ext_of1 (by with_reducible assumption))))
  case E0z1 => ktd_rel
  case E1z1 => ktd_rel

end
local macro_rules | `(tactic| walk_at "call ref") => `(tactic| (k_here; kaf_suf; (with_reducible show wpAny _ _ (call (Value.ref _) [Value.ref _]) _ _ _); refine wpAny_call ?_; k_dflt (refine' kco_code (C := 66) (f := 56) (K := Mine.hd.heap_1 _) ?kX ?kI ?kD ?k1 ?k2 ?k3 ?_; kaf_pre); k_dflt (refine' G_rcall ?hA ?hH ?hd ?hu ?B ?F ?X ?N ?T ?hf ?hke ?hn ?hr ?hl ?hcs ?_; kat_tups; (case hn => assumption); (case hr => ktd_rel); (case hl => kwd_rel); (case hcs => kst_p); k_whole); kas_types; walk_say "USED G_rcall"))
section
local macro_rules | `(tactic| walk_at "call ref") => `(tactic| (k_here; (with_reducible show wpAny _ _ (call (Value.ref 127) _ _) _ _ _); kaf_suf; (with_reducible show wpAny _ _ (call (Value.ref 127) [Value.ref _, Value.ref _]) _ _ _); refine wpAny_call ?_; k_dflt (refine' G_school ?hA ?hH ?hd ?hu ?B ?F ?X ?N ?T ?hf ?hke ?hn ?hr ?hx ?hy ?hq ?hqb ?hcs ?hds ?_; kat_tups; (case hn => assumption); (case hr => ktd_rel); (case hx => tb_start); (case hy => tb_start); (case hq => assumption); (case hqb => assumption); (case hcs => assumption); (case hds => assumption); k_whole); intro l9 nx9 h9 tk9 F9 N9 hk9 hi9; (have hi9' := hi9.out; obtain ⟨vs9, n9, hx91, hx92⟩ := hi9'); (try dsimp only); (try k_sweep); walk_say "USED G_school"))
local macro_rules | `(tactic| walk_at "zz none") => `(tactic| fail)
set_option maxRecDepth 100000 in
set_option maxHeartbeats 8000000 in
theorem G_mul {A : Around} {env : Env} {outer : List Env} {A₀ : Around} {base h₀ : Heap} {L : Addr} {m : Str → Option Value} {news : List (Addr × Obj)} {s : Shared}
    {w : World} {p : Program} {loose : List Str} {mean : ExcName → Option Value} {mg mb : Str → Option Value} {R : Result → Shared → Prop}
    (hA : A.frames = some (env :: outer)) (hH : A.handled = none) (hd : A.depth ≤ 450) (hu : A.units ≤ 450)
    (B : Below A₀ base outer h₀) (F : Fr h₀ L s.heap m) (X : (Mine.hd.heap_1 w.params).In h₀) (N : News h₀ L s.heap news) (T : Top p loose mean mg mb h₀)
    (hf : env.frame = some L) (hke : env.scope.kind = .function)
    {n : Nat} (hn : n = 2 ∨ n = 4)
    {x y r : Addr} {q : Int} {cs ds : List Int} (hr : IsRing w news r q n) (hx : IsPoly w news r x cs) (hy : IsPoly w news r y ds) (hq : 2 ≤ q) (hqb : Builtin.Int.intBits q ≤ 100) (hcs : Good q n cs) (hds : Good q n ds)
    (ret : ∀ x' nx h' tk', Fr h₀ L h' m → News h₀ L h' nx → (∀ p ∈ news, p ∈ nx) → IsPoly w nx r x' (mulL q cs ds) → R (.ok (.ret (.ref x'))) { s with heap := h', toks := tk' }) :
    codeAny (model PySem.Challenge.rw_ay0009_04.row.prog w) A (.call (.ref 189) ⟨[.ref x, .ref y], []⟩) R s := by
  have hr' := hr.out
  obtain ⟨dr, t1, t2, u1, u2, hr1, hr2⟩ := hr'
  have hhx := hx.at_
  obtain ⟨dx, lx, t3x, t4x, vx, nx, hx1, hx2, hx3, hx4⟩ := hhx
  have hhy := hy.at_
  obtain ⟨dy, ly, t3y, t4y, vy, ny, hy1, hy2, hy3, hy4⟩ := hhy
  have hml := mulL_len (q := q) hn hcs.len hds.len

  refine codeAny_ar hA hH hd hu ?_
  revert X
  k_fill
  intro X
  k_dflt (refine' code_defC ?k1 ?k2 ?k3 ?k4 ?k5 ?kA ?kF ?kK ?k6 ?k7 ?k8 ?k9 ?kB ?kD ?_ ?c2 ?c3 ?c4; (case kA => exact rfl); (case kF => assumption); (case kK => assumption); (case k1 => k_asm); (case k2 => k_asm); (case k3 => k_asm); (case k4 => k_asm); (case k5 => k_asm); (case k6 => k_is); (case k7 => k_is); (case k8 => k_room); (case k9 => first | exact BindsTo.of_eq rfl | exact binds_K (by k_in) rfl (by k_is) rfl rfl rfl | fail "no rule for these arguments"); (case kB => exact rfl); (case kD => decide +kernel); (case c2 => exact rfl); (case c3 => exact rfl); (case c4 => exact rfl); k_whole; intro g' L' h' tk' cells' FG' F' N' Y' B' X' T' l1; (try k_lt l1); k_cells Y'; (try simp only [List.cons_append, List.nil_append] at N'); (try dsimp only); (try k_lift B'); (try k_fold))
  k_steps
  (all_goals (try k_data))
  refine' ret _ _ _ _ (by k_asm) (by k_asm) ?zs ?zp
  case zs => (repeat (first | with_reducible assumption | exact sub_refl | exact fun _ h => h | refine sub_skip ?_ | refine sub_trans2 (by with_reducible assumption) ?_))
  case zp => tb_start

end
section
set_option maxRecDepth 100000 in
set_option maxHeartbeats 8000000 in
theorem G_subI {A : Around} {env : Env} {outer : List Env} {A₀ : Around} {base h₀ : Heap} {L : Addr} {m : Str → Option Value} {news : List (Addr × Obj)} {s : Shared}
    {w : World} {p : Program} {loose : List Str} {mean : ExcName → Option Value} {mg mb : Str → Option Value} {R : Result → Shared → Prop}
    (hA : A.frames = some (env :: outer)) (hH : A.handled = none) (hd : A.depth ≤ 450) (hu : A.units ≤ 450)
    (B : Below A₀ base outer h₀) (F : Fr h₀ L s.heap m) (X : (Mine.hd.heap_1 w.params).In h₀) (N : News h₀ L s.heap news) (T : Top p loose mean mg mb h₀)
    (hf : env.frame = some L) (hke : env.scope.kind = .function)
    {n : Nat} (hn : n = 2 ∨ n = 4)
    {x r : Addr} {q v : Int} {u : Tok} {cs : List Int} (hr : IsRing w news r q n) (hx : IsPoly w news r x cs) (hq : 2 ≤ q) (hqb : Builtin.Int.intBits q ≤ 100) (hcs : Good q n cs) (hvb : Builtin.Int.intBits v ≤ 100)
    (ret : ∀ x' nx h' tk', Fr h₀ L h' m → News h₀ L h' nx → (∀ p ∈ news, p ∈ nx) → IsPoly w nx r x' (subI q v cs) → R (.ok (.ret (.ref x'))) { s with heap := h', toks := tk' }) :
    codeAny (model PySem.Challenge.rw_ay0009_04.row.prog w) A (.call (.ref 170) ⟨[.ref x, .int v u], []⟩) R s := by
  obtain ⟨c0, cr, e⟩ := ne_cons hn hcs.len
  subst e
  have hhx := hx.at_
  obtain ⟨dx, lx, t3x, t4x, vx, nx, hx1, hx2, hx3, hx4⟩ := hhx
  obtain ⟨px0, vr, e, hxr⟩ := ints_cons hx4
  subst e
  replace N := news_cons hx3 N
  have hba0 := bits_red hqb (hcs.red c0 (by simp))
  have hza0 := hcs.red c0 (by simp)
  have hlen0 : (c0 :: cr).length = n := hcs.len
  have hvr : vr.length ≤ 3 := by
    have h1 := hxr.length
    have h2 := hcs.len
    rw [List.length_cons] at h2
    omega
  have hsz9 : (Value.int c0 px0 :: vr).length ≤ sizeLine := Nat.le_trans (Nat.succ_le_succ hvr) (Nat.le_of_ble_eq_true rfl)
  have hr' := hr.out
  obtain ⟨dr, t1, t2, u1, u2, hr1, hr2⟩ := hr'

  refine codeAny_ar hA hH hd hu ?_
  revert X
  k_fill
  intro X
  k_dflt (refine' code_def ?k1 ?k2 ?k3 ?k4 ?k5 ?kA ?kF ?kK ?k6 ?k7 ?k8 ?k9 ?kB ?_ ?c2 ?c3 ?c4 ?c5; (case kA => exact rfl); (case kF => assumption); (case kK => assumption); (case k1 => k_asm); (case k2 => k_asm); (case k3 => k_asm); (case k4 => k_asm); (case k5 => k_asm); (case k6 => k_is); (case k7 => k_is); (case k8 => k_room); (case k9 => first | exact BindsTo.of_eq rfl | exact binds_K (by k_in) rfl (by k_is) rfl rfl rfl | fail "no rule for these arguments"); (case c5 => decide); (case kB => exact locs rfl); (case c2 => exact rfl); (case c3 => exact rfl); (case c4 => exact rfl); k_whole; intro g' L' h' FG' F' N' B' X' T'; (try dsimp only); (try k_lift B'); (try k_fold))
  k_steps
  (all_goals (try k_data))
  refine' ret _ _ _ _ (by k_asm) (by k_asm) ?zs ?zp
  case zs => (repeat (first | with_reducible assumption | exact sub_refl | exact fun _ h => h | refine sub_skip ?_ | refine sub_trans2 (by with_reducible assumption) ?_))
  case zp => exact IsPoly.cast (by tb_start) (subI_fmod (by assumption))

end
section
local macro_rules | `(tactic| walk_at "exec Assign cons ListComp") => `(tactic| (k_here; k_dflt (refine LCg.Assign_ListComp_U (F₀ := by k_asm) (by rfl) (by with_unfolding_all rfl) (by with_unfolding_all rfl) (by decide) (by rfl) (by decide) (by rfl) (by rfl) (by rfl) ?_)))
set_option maxRecDepth 100000 in
set_option maxHeartbeats 8000000 in
theorem G_neg {A : Around} {env : Env} {outer : List Env} {A₀ : Around} {base h₀ : Heap} {L : Addr} {m : Str → Option Value} {news : List (Addr × Obj)} {s : Shared}
    {w : World} {p : Program} {loose : List Str} {mean : ExcName → Option Value} {mg mb : Str → Option Value} {R : Result → Shared → Prop}
    (hA : A.frames = some (env :: outer)) (hH : A.handled = none) (hd : A.depth ≤ 450) (hu : A.units ≤ 450)
    (B : Below A₀ base outer h₀) (F : Fr h₀ L s.heap m) (X : (Mine.hd.heap_1 w.params).In h₀) (N : News h₀ L s.heap news) (T : Top p loose mean mg mb h₀)
    (hf : env.frame = some L) (hke : env.scope.kind = .function)
    {n : Nat} (hn : n = 2 ∨ n = 4)
    {x r : Addr} {q : Int} {cs : List Int} (hr : IsRing w news r q n) (hx : IsPoly w news r x cs) (hq : 2 ≤ q) (hqb : Builtin.Int.intBits q ≤ 100) (hcs : Good q n cs)
    (ret : ∀ x' nx h' tk', Fr h₀ L h' m → News h₀ L h' nx → (∀ p ∈ news, p ∈ nx) → IsPoly w nx r x' (negL q cs) → R (.ok (.ret (.ref x'))) { s with heap := h', toks := tk' }) :
    codeAny (model PySem.Challenge.rw_ay0009_04.row.prog w) A (.call (.ref 132) ⟨[.ref x], []⟩) R s := by
  have hhx := hx.at_
  obtain ⟨dx, lx, t3x, t4x, vx, nx, hx1, hx2, hx3, hx4⟩ := hhx
  replace N := news_cons hx3 N
  have hcl := hcs.len
  have hszx : vx.length ≤ sizeLine := by
    have h1 := hx4.length
    have h2 := hcs.len
    exact Nat.le_trans (show vx.length ≤ 4 by omega) (Nat.le_of_ble_eq_true rfl)
  have hr' := hr.out
  obtain ⟨dr, t1, t2, u1, u2, hr1, hr2⟩ := hr'

  refine codeAny_ar hA hH hd hu ?_
  revert X
  k_fill
  intro X
  k_dflt (refine' code_defC ?k1 ?k2 ?k3 ?k4 ?k5 ?kA ?kF ?kK ?k6 ?k7 ?k8 ?k9 ?kB ?kD ?_ ?c2 ?c3 ?c4; (case kA => exact rfl); (case kF => assumption); (case kK => assumption); (case k1 => k_asm); (case k2 => k_asm); (case k3 => k_asm); (case k4 => k_asm); (case k5 => k_asm); (case k6 => k_is); (case k7 => k_is); (case k8 => k_room); (case k9 => first | exact BindsTo.of_eq rfl | exact binds_K (by k_in) rfl (by k_is) rfl rfl rfl | fail "no rule for these arguments"); (case kB => exact rfl); (case kD => decide +kernel); (case c2 => exact rfl); (case c3 => exact rfl); (case c4 => exact rfl); k_whole; intro g' L' h' tk' cells' FG' F' N' Y' B' X' T' l1; (try k_lt l1); k_cells Y'; (try simp only [List.cons_append, List.nil_append] at N'); (try dsimp only); (try k_lift B'); (try k_fold))
  k_steps
  (all_goals (try k_data))
  refine' ret _ _ _ _ (by k_asm) (by k_asm) ?zs ?zp
  case zs => (repeat (first | with_reducible assumption | exact sub_refl | exact fun _ h => h | refine sub_skip ?_ | refine sub_trans2 (by with_reducible assumption) ?_))
  case zp => exact IsPoly.cast (by tb_start) (negL_fmod (by assumption))

end
local macro_rules | `(tactic| walk_at "call ref") => `(tactic| (k_here; (with_reducible show wpAny _ _ (call (Value.ref 98) _ _) _ _ _); kaf_suf; (with_reducible show wpAny _ _ (call (Value.ref 98) [Value.ref _]) _ _ _); refine wpAny_call ?_; k_dflt (refine' G_isc ?hA ?hH ?hd ?hu ?B ?F ?X ?N ?T ?hf ?hke ?hn ?hx ?hlen ?ht ?htr ?hG ?_; kat_tups; (case hn => assumption); (case hx => tb_start); (case hlen => exact Good.len (by tb_rel)); (case ht => k_mem); (case htr => k_asm); (case hG => k_asm); k_whole); intro nx9 s9 ps9 F9 N9 ht9 htr9 hk9 hG9 hos9; kpc_turns; walk_say "USED G_isc"))
section
local macro_rules | `(tactic| walk_at "zz none") => `(tactic| fail)
set_option maxRecDepth 100000 in
set_option maxHeartbeats 8000000 in
theorem G_eqI {A : Around} {env : Env} {outer : List Env} {A₀ : Around} {base h₀ : Heap} {L : Addr} {m : Str → Option Value} {news : List (Addr × Obj)} {s : Shared}
    {w : World} {p : Program} {loose : List Str} {mean : ExcName → Option Value} {mg mb : Str → Option Value} {R : Result → Shared → Prop}
    (hA : A.frames = some (env :: outer)) (hH : A.handled = none) (hd : A.depth ≤ 420) (hu : A.units ≤ 420)
    (B : Below A₀ base outer h₀) (F : Fr h₀ L s.heap m) (X : (Mine.hd.heap_1 w.params).In h₀) (N : News h₀ L s.heap news) (T : Top p loose mean mg mb h₀)
    (hf : env.frame = some L) (hke : env.scope.kind = .function)
    {n : Nat} (hn : n = 2 ∨ n = 4)
    {x r : Addr} {q v : Int} {u : Tok} {cs : List Int} {ps : Array Value} (hr : IsRing w news r q n) (hx : IsPoly w news r x cs) (hq : 2 ≤ q) (hqb : Builtin.Int.intBits q ≤ 100) (hcs : Good q n cs) (hvb : Builtin.Int.intBits v ≤ 100) (ht : (93, tabObj ps) ∈ news) (htr : TriplesOk ps.toList) (hG : AllBare s.gens)
    (ret : ∀ nx s' ps', Fr h₀ L s'.heap m → News h₀ L s'.heap nx → (93, tabObj ps') ∈ nx → TriplesOk ps'.toList → (∀ p ∈ news, OffT 93 p → p ∈ nx) → AllBare s'.gens → s'.os = s.os → R (.ok (.ret (.bool (eqI q v cs)))) s') :
    codeAny (model PySem.Challenge.rw_ay0009_04.row.prog w) A (.call (.ref 217) ⟨[.ref x, .int v u], []⟩) R s := by
  obtain ⟨c0, cr, e⟩ := ne_cons hn hcs.len
  subst e
  have hhx := hx.at_
  obtain ⟨dx, lx, t3x, t4x, vx, nx, hx1, hx2, hx3, hx4⟩ := hhx
  obtain ⟨px0, vr, e, hxr⟩ := ints_cons hx4
  subst e
  replace N := news_cons hx3 N
  have hba0 := bits_red hqb (hcs.red c0 (by simp))
  have hza0 := hcs.red c0 (by simp)
  have hr' := hr.out
  obtain ⟨dr, t1, t2, u1, u2, hr1, hr2⟩ := hr'

  refine codeAny_ar hA hH hd hu ?_
  revert X
  k_fill
  intro X
  k_dflt (refine' code_def ?k1 ?k2 ?k3 ?k4 ?k5 ?kA ?kF ?kK ?k6 ?k7 ?k8 ?k9 ?kB ?_ ?c2 ?c3 ?c4 ?c5; (case kA => exact rfl); (case kF => assumption); (case kK => assumption); (case k1 => k_asm); (case k2 => k_asm); (case k3 => k_asm); (case k4 => k_asm); (case k5 => k_asm); (case k6 => k_is); (case k7 => k_is); (case k8 => k_room); (case k9 => first | exact BindsTo.of_eq rfl | exact binds_K (by k_in) rfl (by k_is) rfl rfl rfl | fail "no rule for these arguments"); (case c5 => decide); (case kB => exact locs rfl); (case c2 => exact rfl); (case c3 => exact rfl); (case c4 => exact rfl); k_whole; intro g' L' h' FG' F' N' B' X' T'; (try dsimp only); (try k_lift B'); (try k_fold))
  k_steps
  (all_goals (try k_data))
  all_goals (first | have e9 : eqI q v (c0 :: cr) = true := eqI_tt (by assumption) (by assumption) (by omega) | have e9 : eqI q v (c0 :: cr) = false := eqI_tf (by assumption) (by omega) | have e9 : eqI q v (c0 :: cr) = false := eqI_ff (by assumption))
  all_goals (simp only [e9] at ret)
  all_goals (refine' ret _ _ _ (by k_asm) (by k_asm) (by k_asm) (by k_asm) ?_ (by k_asm) ?_)
  all_goals first | assumption | (intro p hp ho; exact (by assumption : ∀ p ∈ _, OffT _ p → p ∈ _) _ (List.mem_cons_of_mem _ hp) ho)

end
local macro_rules | `(tactic| walk_at "call ref") => `(tactic| (k_here; (with_reducible show wpAny _ _ (call (Value.ref 189) _ _) _ _ _); kaf_suf; (with_reducible show wpAny _ _ (call (Value.ref 189) [Value.ref _, Value.ref _]) _ _ _); refine wpAny_call ?_; k_dflt (refine' G_mul ?hA ?hH ?hd ?hu ?B ?F ?X ?N ?T ?hf ?hke ?hn ?hr ?hx ?hy ?hq ?hqb ?hcs ?hds ?_; kat_tups; (case hn => assumption); (case hr => ktd_rel); (case hx => tb_start); (case hy => tb_start); kba_ints; (case hds => tb_rel); k_whole); kas_types; walk_say "USED G_mul"))
section
local macro_rules | `(tactic| walk_at "call ref") => `(tactic| (k_here; kaf_suf; (with_reducible show wpAny _ _ (call (Value.ref _) [Value.int _ _]) _ _ _); refine wpAny_call ?_; k_dflt (refine' kco_code (C := 66) (f := 56) (K := Mine.hd.heap_1 _) ?kX ?kI ?kD ?k1 ?k2 ?k3 ?_; kaf_pre); k_dflt (refine' G_rcallI ?hA ?hH ?hd ?hu ?B ?F ?X ?N ?T ?hf ?hke ?hn ?hr ?_; kat_tups; (case hn => assumption); (case hr => ktd_rel); k_whole); kas_types; walk_say "USED G_rcallI"))
local macro_rules | `(tactic| walk_at "exec While Compare cons nil") => `(tactic| (k_here; k_dflt (refine' pow_while  (G0 := oneL _) ?F ?N ?hm ?hk ?hf ?hg ?gf ?gg ?_ ?hE; (case F => k_asm); (case N => k_asm); (case hm => exact rfl); (case hk => assumption); (case gf => assumption); (case hf => tb_start); (case gg => exact Good.one (by assumption) (by assumption)); (case hg => assumption); (case hE => passes_own); k_whole); intro tk8 fx8 gx8 F8 G8 k8 nx8 h8 tk81 hs8 hf8 hg8 gf8 gg8 hk8 e8 F8' N8'; (have hf8' := hf8.at_; obtain ⟨dx8, lx8, t83, t84, vx8, n8, hx81, hx82, hx83, hx84⟩ := hf8'); (have hg8' := hg8.at_; obtain ⟨dy8, ly8, t85, t86, vy8, m8, hy81, hy82, hy83, hy84⟩ := hg8'); (have hr8 := IsRing.mono (by with_reducible assumption) (sub_trans (by kct_strs) hs8)); (have hr8' := hr8.out; obtain ⟨dr8, t87, t88, u81, u82, hr81, hr82⟩ := hr8'); walk_say "POWWHILE"))
local macro_rules | `(tactic| walk_at "WhileStep2 next") => `(tactic| (k_here; k_dflt (refine' pow_end ?F ?N ?hm ?h0 ?hk ?hf ?hg ?gf ?gg ?e ?sub; (case F => k_asm); (case N => k_asm); (case hm => exact upd3_eq rfl rfl rfl (fun y a b c => by simp only [if_neg a, if_neg b, if_neg c])); (case hf => tb_start); (case hg => tb_start); (case gf => exact Good.mul (by assumption) (by assumption) (by assumption) (by assumption)); (case gg => first | assumption | exact Good.mul (by assumption) (by assumption) (by assumption) (by assumption)); (case e => first | exact pow_odd (by omega) (by assumption) (by assumption) | exact pow_even (by omega) (by assumption) (by assumption)); (case h0 => (rw [Int.fdiv_eq_ediv_of_nonneg _ (by decide)]; omega)); (case hk => (rw [Int.fdiv_eq_ediv_of_nonneg _ (by decide)]; omega)); (case sub => first | assumption | exact sub_trans (by assumption) (by kct_strs))); walk_say "POWEND"))
set_option maxRecDepth 100000 in
set_option maxHeartbeats 8000000 in
theorem G_pow {A : Around} {env : Env} {outer : List Env} {A₀ : Around} {base h₀ : Heap} {L : Addr} {m : Str → Option Value} {news : List (Addr × Obj)} {s : Shared}
    {w : World} {p : Program} {loose : List Str} {mean : ExcName → Option Value} {mg mb : Str → Option Value} {R : Result → Shared → Prop}
    (hA : A.frames = some (env :: outer)) (hH : A.handled = none) (hd : A.depth ≤ 400) (hu : A.units ≤ 400)
    (B : Below A₀ base outer h₀) (F : Fr h₀ L s.heap m) (X : (Mine.hd.heap_1 w.params).In h₀) (N : News h₀ L s.heap news) (T : Top p loose mean mg mb h₀)
    (hf : env.frame = some L) (hke : env.scope.kind = .function)
    {n : Nat} (hn : n = 2 ∨ n = 4)
    {x r : Addr} {q k : Int} {u : Tok} {cs : List Int} (hr : IsRing w news r q n) (hx : IsPoly w news r x cs) (hq : 2 ≤ q) (hqb : Builtin.Int.intBits q ≤ 100) (hcs : Good q n cs) (hk : 0 ≤ k)
    (ret : ∀ x' nx h' tk', Fr h₀ L h' m → News h₀ L h' nx → (∀ p ∈ news, p ∈ nx) → IsPoly w nx r x' (powSM q k.toNat cs (oneL n)) → R (.ok (.ret (.ref x'))) { s with heap := h', toks := tk' }) :
    codeAny (model PySem.Challenge.rw_ay0009_04.row.prog w) A (.call (.ref 210) ⟨[.ref x, .int k u], []⟩) R s := by
  have hr' := hr.out
  obtain ⟨dr, t1, t2, u1, u2, hr1, hr2⟩ := hr'
  have hhx := hx.at_
  obtain ⟨dx, lx, t3x, t4x, vx, nx, hx1, hx2, hx3, hx4⟩ := hhx

  refine codeAny_ar hA hH hd hu ?_
  revert X
  k_fill
  intro X
  k_dflt (refine' code_def ?k1 ?k2 ?k3 ?k4 ?k5 ?kA ?kF ?kK ?k6 ?k7 ?k8 ?k9 ?kB ?_ ?c2 ?c3 ?c4 ?c5; (case kA => exact rfl); (case kF => assumption); (case kK => assumption); (case k1 => k_asm); (case k2 => k_asm); (case k3 => k_asm); (case k4 => k_asm); (case k5 => k_asm); (case k6 => k_is); (case k7 => k_is); (case k8 => k_room); (case k9 => first | exact BindsTo.of_eq rfl | exact binds_K (by k_in) rfl (by k_is) rfl rfl rfl | fail "no rule for these arguments"); (case c5 => decide); (case kB => exact locs rfl); (case c2 => exact rfl); (case c3 => exact rfl); (case c4 => exact rfl); k_whole; intro g' L' h' FG' F' N' B' X' T'; (try dsimp only); (try k_lift B'); (try k_fold))
  k_steps
  (all_goals (try k_data))
  refine' ret _ _ _ _ (by k_asm) (by k_asm) ?zs ?zp
  case zs => ((repeat (first | with_reducible assumption | exact sub_refl | exact fun _ h => h | refine sub_skip ?_ | refine sub_trans2 (by with_reducible assumption) ?_)); done)
  case zp => exact (IsPoly.cast (by assumption) (pow_fin (by assumption) (by assumption) (by assumption)))

end
section
local macro_rules | `(tactic| walk_at "call ref") => `(tactic| (k_here; (with_reducible show wpAny _ _ (call (Value.ref 170) _ _) _ _ _); kaf_suf; (with_reducible show wpAny _ _ (call (Value.ref 170) [Value.ref _, Value.int _ _]) _ _ _); refine wpAny_call ?_; k_dflt (refine' G_subI ?hA ?hH ?hd ?hu ?B ?F ?X ?N ?T ?hf ?hke ?hn ?hr ?hx ?hq ?hqb ?hcs ?hvb ?_; kat_tups; (case hn => assumption); (case hr => ktd_rel); (case hx => tb_start); kba_ints; (case hvb => (first | with_reducible assumption | assumption | decide)); k_whole); kas_types; walk_say "USED G_subI"))
local macro_rules | `(tactic| walk_at "call ref") => `(tactic| (k_here; (with_reducible show wpAny _ _ (call (Value.ref 132) _ _) _ _ _); kaf_suf; (with_reducible show wpAny _ _ (call (Value.ref 132) [Value.ref _]) _ _ _); refine wpAny_call ?_; k_dflt (refine' G_neg ?hA ?hH ?hd ?hu ?B ?F ?X ?N ?T ?hf ?hke ?hn ?hr ?hx ?hq ?hqb ?hcs ?_; kat_tups; (case hn => assumption); (case hr => ktd_rel); (case hx => tb_start); kba_ints; k_whole); kas_types; walk_say "USED G_neg"))
set_option maxRecDepth 100000 in
set_option maxHeartbeats 8000000 in
theorem G_rsubI {A : Around} {env : Env} {outer : List Env} {A₀ : Around} {base h₀ : Heap} {L : Addr} {m : Str → Option Value} {news : List (Addr × Obj)} {s : Shared}
    {w : World} {p : Program} {loose : List Str} {mean : ExcName → Option Value} {mg mb : Str → Option Value} {R : Result → Shared → Prop}
    (hA : A.frames = some (env :: outer)) (hH : A.handled = none) (hd : A.depth ≤ 420) (hu : A.units ≤ 420)
    (B : Below A₀ base outer h₀) (F : Fr h₀ L s.heap m) (X : (Mine.hd.heap_1 w.params).In h₀) (N : News h₀ L s.heap news) (T : Top p loose mean mg mb h₀)
    (hf : env.frame = some L) (hke : env.scope.kind = .function)
    {n : Nat} (hn : n = 2 ∨ n = 4)
    {x r : Addr} {q v : Int} {u : Tok} {cs : List Int} (hr : IsRing w news r q n) (hx : IsPoly w news r x cs) (hq : 2 ≤ q) (hqb : Builtin.Int.intBits q ≤ 100) (hcs : Good q n cs) (hvb : Builtin.Int.intBits v ≤ 100)
    (ret : ∀ x' nx h' tk', Fr h₀ L h' m → News h₀ L h' nx → (∀ p ∈ news, p ∈ nx) → IsPoly w nx r x' (negL q (subI q v cs)) → R (.ok (.ret (.ref x'))) { s with heap := h', toks := tk' }) :
    codeAny (model PySem.Challenge.rw_ay0009_04.row.prog w) A (.call (.ref 177) ⟨[.ref x, .int v u], []⟩) R s := by
  have hr' := hr.out
  obtain ⟨dr, t1, t2, u1, u2, hr1, hr2⟩ := hr'
  have hhx := hx.at_
  obtain ⟨dx, lx, t3x, t4x, vx, nx, hx1, hx2, hx3, hx4⟩ := hhx

  refine codeAny_ar hA hH hd hu ?_
  revert X
  k_fill
  intro X
  k_dflt (refine' code_def ?k1 ?k2 ?k3 ?k4 ?k5 ?kA ?kF ?kK ?k6 ?k7 ?k8 ?k9 ?kB ?_ ?c2 ?c3 ?c4 ?c5; (case kA => exact rfl); (case kF => assumption); (case kK => assumption); (case k1 => k_asm); (case k2 => k_asm); (case k3 => k_asm); (case k4 => k_asm); (case k5 => k_asm); (case k6 => k_is); (case k7 => k_is); (case k8 => k_room); (case k9 => first | exact BindsTo.of_eq rfl | exact binds_K (by k_in) rfl (by k_is) rfl rfl rfl | fail "no rule for these arguments"); (case c5 => decide); (case kB => exact locs rfl); (case c2 => exact rfl); (case c3 => exact rfl); (case c4 => exact rfl); k_whole; intro g' L' h' FG' F' N' B' X' T'; (try dsimp only); (try k_lift B'); (try k_fold))
  k_steps
  (all_goals (try k_data))
  refine' ret _ _ _ _ (by k_asm) (by k_asm) ?zs ?zp
  case zs => (repeat (first | with_reducible assumption | exact sub_refl | exact fun _ h => h | refine sub_skip ?_ | refine sub_trans2 (by with_reducible assumption) ?_))
  case zp => tb_start

end
section
local macro_rules | `(tactic| walk_at "WhlIf") => `(tactic| (first | (refine WhlIf.no (bne_no (by with_reducible assumption)) ?_; (try dsimp only)) | (refine whl_split (fun h8 => ?_) (fun h8 => ?_) <;> (try dsimp only)); walk_say "WHLIF"))
local macro_rules | `(tactic| walk_at "exec While Compare cons nil") => `(tactic| (k_here; k_dflt (refine whl_start 100 ?_)))
local macro_rules | `(tactic| walk_at "binaryOp Pow int int") => `(tactic| (k_here; k_dflt (refine' pow_int_small ?p1 ?p2 ?p3 ?_; (case p1 => first | decide | omega); (case p2 => first | decide | omega); (case p3 => first | decide | omega); k_whole); (try dsimp only); walk_say "POW"))
set_option maxRecDepth 100000 in
set_option maxHeartbeats 8000000 in
theorem C_timesA {A : Around} {env : Env} {outer : List Env} {A₀ : Around} {base h₀ : Heap} {L : Addr} {m : Str → Option Value} {news : List (Addr × Obj)} {s : Shared}
    {w : World} {p : Program} {loose : List Str} {mean : ExcName → Option Value} {mg mb : Str → Option Value} {R : Result → Shared → Prop}
    (hA : A.frames = some (env :: outer)) (hH : A.handled = none) (hd : A.depth ≤ 450) (hu : A.units ≤ 450)
    (B : Below A₀ base outer h₀) (F : Fr h₀ L s.heap m) (X : (Mine.hd.heap_1 w.params).In h₀) (N : News h₀ L s.heap news) (T : Top p loose mean mg mb h₀)
    (hf : env.frame = some L) (hke : env.scope.kind = .function)
    {n : Nat} (hn : n = 2 ∨ n = 4) {tq tn : Tok}
    (ret : ∀ h' tk' tk (T : Int), T = 2 ^ ((n : Int) - 1).toNat → Fr h₀ L h' m → News h₀ L h' news → R (.ok (.ret (.int T tk))) { s with heap := h', toks := tk' }) :
    codeAny (model PySem.Challenge.rw_ay0009_04.row.prog w) A (.call (.ref 243) ⟨[.int 2 tq, .int (n : Int) tn], []⟩) R s := by

  refine codeAny_ar hA hH hd hu ?_
  revert X
  k_fill
  intro X
  k_dflt (refine' code_def ?k1 ?k2 ?k3 ?k4 ?k5 ?kA ?kF ?kK ?k6 ?k7 ?k8 ?k9 ?kB ?_ ?c2 ?c3 ?c4 ?c5; (case kA => exact rfl); (case kF => assumption); (case kK => assumption); (case k1 => k_asm); (case k2 => k_asm); (case k3 => k_asm); (case k4 => k_asm); (case k5 => k_asm); (case k6 => k_is); (case k7 => k_is); (case k8 => k_room); (case k9 => first | exact BindsTo.of_eq rfl | exact binds_K (by k_in) rfl (by k_is) rfl rfl rfl | fail "no rule for these arguments"); (case c5 => decide); (case kB => exact locs rfl); (case c2 => exact rfl); (case c3 => exact rfl); (case c4 => exact rfl); k_whole; intro g' L' h' FG' F' N' B' X' T'; (try dsimp only); (try k_lift B'); (try k_fold))
  k_steps
  (all_goals (try k_data))
  refine ret _ _ _ _ rfl (by k_asm) (news_sub (by k_asm) (by (repeat (first | exact sub_refl | exact fun _ h => h | refine sub_skip ?_))))
set_option maxRecDepth 100000 in
set_option maxHeartbeats 8000000 in
theorem C_timesB {A : Around} {env : Env} {outer : List Env} {A₀ : Around} {base h₀ : Heap} {L : Addr} {m : Str → Option Value} {news : List (Addr × Obj)} {s : Shared}
    {w : World} {p : Program} {loose : List Str} {mean : ExcName → Option Value} {mg mb : Str → Option Value} {R : Result → Shared → Prop}
    (hA : A.frames = some (env :: outer)) (hH : A.handled = none) (hd : A.depth ≤ 450) (hu : A.units ≤ 450)
    (B : Below A₀ base outer h₀) (F : Fr h₀ L s.heap m) (X : (Mine.hd.heap_1 w.params).In h₀) (N : News h₀ L s.heap news) (T : Top p loose mean mg mb h₀)
    (hf : env.frame = some L) (hke : env.scope.kind = .function)
    {n : Nat} (hn : n = 2 ∨ n = 4) {q : Int} {tq tn : Tok} (hq : 2 ≤ q) (hqm : q ≤ 257) (hne : q ≠ 2) (P2 : Int.fmod (q ^ 2 - 1) (2 * (n : Int)) = 0)
    (ret : ∀ h' tk' tk (T : Int), (∃ d : Int, (d = 1 ∨ d = 2) ∧ Int.fmod (q ^ d.toNat - 1) (2 * (n : Int)) = 0 ∧ T = q ^ d.toNat - 1) → Fr h₀ L h' m → News h₀ L h' news → R (.ok (.ret (.int T tk))) { s with heap := h', toks := tk' }) :
    codeAny (model PySem.Challenge.rw_ay0009_04.row.prog w) A (.call (.ref 243) ⟨[.int q tq, .int (n : Int) tn], []⟩) R s := by
  have P3 : Int.fmod (q ^ Int.toNat (1 + 1) - 1) (2 * (n : Int)) = 0 := P2
  have P4 : Int.fmod (q ^ Int.toNat 2 - 1) (2 * (n : Int)) = 0 := P2

  refine codeAny_ar hA hH hd hu ?_
  revert X
  k_fill
  intro X
  k_dflt (refine' code_def ?k1 ?k2 ?k3 ?k4 ?k5 ?kA ?kF ?kK ?k6 ?k7 ?k8 ?k9 ?kB ?_ ?c2 ?c3 ?c4 ?c5; (case kA => exact rfl); (case kF => assumption); (case kK => assumption); (case k1 => k_asm); (case k2 => k_asm); (case k3 => k_asm); (case k4 => k_asm); (case k5 => k_asm); (case k6 => k_is); (case k7 => k_is); (case k8 => k_room); (case k9 => first | exact BindsTo.of_eq rfl | exact binds_K (by k_in) rfl (by k_is) rfl rfl rfl | fail "no rule for these arguments"); (case c5 => decide); (case kB => exact locs rfl); (case c2 => exact rfl); (case c3 => exact rfl); (case c4 => exact rfl); k_whole; intro g' L' h' FG' F' N' B' X' T'; (try dsimp only); (try k_lift B'); (try k_fold))
  k_steps
  (all_goals (try k_data))
  all_goals try (exact absurd (by assumption) hne)
  all_goals (refine ret _ _ _ _ ?_ (by k_asm) (news_sub (by k_asm) (by (repeat (first | exact sub_refl | exact fun _ h => h | refine sub_skip ?_)))))
  all_goals first | exact ⟨2, .inr rfl, P2, rfl⟩ | exact ⟨1, .inl rfl, bne_no' (by assumption), rfl⟩
theorem G_times {A : Around} {env : Env} {outer : List Env} {A₀ : Around} {base h₀ : Heap} {L : Addr} {m : Str → Option Value} {news : List (Addr × Obj)} {s : Shared}
    {w : World} {p : Program} {loose : List Str} {mean : ExcName → Option Value} {mg mb : Str → Option Value} {R : Result → Shared → Prop}
    (hA : A.frames = some (env :: outer)) (hH : A.handled = none) (hd : A.depth ≤ 450) (hu : A.units ≤ 450)
    (B : Below A₀ base outer h₀) (F : Fr h₀ L s.heap m) (X : (Mine.hd.heap_1 w.params).In h₀) (N : News h₀ L s.heap news) (T : Top p loose mean mg mb h₀)
    (hf : env.frame = some L) (hke : env.scope.kind = .function)
    {n : Nat} (hn : n = 2 ∨ n = 4) {q : Int} {tq tn : Tok} (hq : 2 ≤ q) (hqm : q ≤ 257) (hqo : q = 2 ∨ (q ≠ 2 ∧ Int.fmod (q ^ 2 - 1) (2 * (n : Int)) = 0))
    (ret : ∀ h' tk' tk (T : Int), TimesP q n T → Fr h₀ L h' m → News h₀ L h' news → R (.ok (.ret (.int T tk))) { s with heap := h', toks := tk' }) :
    codeAny (model PySem.Challenge.rw_ay0009_04.row.prog w) A (.call (.ref 243) ⟨[.int q tq, .int (n : Int) tn], []⟩) R s := by
  rcases hqo with h | ⟨h1, h2⟩
  · subst h
    exact C_timesA hA hH hd hu B F X N T hf hke hn fun h' tk' tk T hT => ret h' tk' tk T (Or.inl ⟨rfl, hT⟩)
  · exact C_timesB hA hH hd hu B F X N T hf hke hn hq hqm h1 h2 fun h' tk' tk T hT => ret h' tk' tk T (Or.inr ⟨h1, hT⟩)

end
section
set_option maxRecDepth 100000 in
set_option maxHeartbeats 8000000 in
theorem G_reduce {x dx l r : Addr} {t1 t2 : Tok} {A : Around} {env : Env} {outer : List Env} {A₀ : Around} {base h₀ : Heap} {L : Addr} {m : Str → Option Value} {news : List (Addr × Obj)} {s : Shared}
    {w : World} {p : Program} {loose : List Str} {mean : ExcName → Option Value} {mg mb : Str → Option Value} {R : Result → Shared → Prop}
    (hA : A.frames = some (env :: outer)) (hH : A.handled = none) (hd : A.depth ≤ 450) (hu : A.units ≤ 450)
    (B : Below A₀ base outer h₀) (F : Fr h₀ L s.heap m) (X : (Mine.hd.heap_1 w.params).In h₀) (N : News h₀ L s.heap ((x, instObj 227 dx) :: (dx, polyD w t1 t2 r l) :: news)) (T : Top p loose mean mg mb h₀)
    (hf : env.frame = some L) (hke : env.scope.kind = .function)
    {n : Nat} (hn : n = 2 ∨ n = 4) {q : Int} {cs : List Int} (hr : IsRing w news r q n) (hl : IsInts news l cs) (hcs : cs.length = n) (hq : 2 ≤ q) (o1 : AllLt dx news) (o2 : @LT.lt Nat _ dx x)
    (ret : ∀ nx h' tk', Fr h₀ L h' m → News h₀ L h' nx → (∀ p ∈ news, p ∈ nx) → IsPoly w nx r x (cs.map fun k' => Int.fmod k' q) → R (.ok (.ret (.ref x))) { s with heap := h', toks := tk' }) :
    codeAny (model PySem.Challenge.rw_ay0009_04.row.prog w) A (.call (.ref 108) ⟨[.ref x], []⟩) R s := by
  obtain ⟨vl, nl, hl1, hl2⟩ := hl.out
  have hr' := hr.out
  obtain ⟨dr, t1, t2, u1, u2, hr1, hr2⟩ := hr'

  refine codeAny_ar hA hH hd hu ?_
  revert X
  k_fill
  intro X
  k_dflt (refine' code_defC ?k1 ?k2 ?k3 ?k4 ?k5 ?kA ?kF ?kK ?k6 ?k7 ?k8 ?k9 ?kB ?kD ?_ ?c2 ?c3 ?c4; (case kA => exact rfl); (case kF => assumption); (case kK => assumption); (case k1 => k_asm); (case k2 => k_asm); (case k3 => k_asm); (case k4 => k_asm); (case k5 => k_asm); (case k6 => k_is); (case k7 => k_is); (case k8 => k_room); (case k9 => first | exact BindsTo.of_eq rfl | exact binds_K (by k_in) rfl (by k_is) rfl rfl rfl | fail "no rule for these arguments"); (case kB => exact rfl); (case kD => decide +kernel); (case c2 => exact rfl); (case c3 => exact rfl); (case c4 => exact rfl); k_whole; intro g' L' h' tk' cells' FG' F' N' Y' B' X' T' l1; (try k_lt l1); k_cells Y'; (try simp only [List.cons_append, List.nil_append] at N'); (try dsimp only); (try k_lift B'); (try k_fold))
  k_steps
  (all_goals (try k_data))
  (rename News h₀ L _ _ => hN9)
  (try dsimp only [LCg.lst] at hN9)
  refine' ret _ _ _ (by k_asm) hN9 ?zs ?zp
  case zs => (repeat (first | exact sub_refl | exact fun _ h => h | refine sub_skip ?_))
  case zp => tb_start
theorem G_rcallF {A : Around} {env : Env} {outer : List Env} {A₀ : Around} {base h₀ : Heap} {L : Addr} {m : Str → Option Value} {news : List (Addr × Obj)} {s : Shared}
    {w : World} {p : Program} {loose : List Str} {mean : ExcName → Option Value} {mg mb : Str → Option Value} {R : Result → Shared → Prop}
    (hA : A.frames = some (env :: outer)) (hH : A.handled = none) (hd : A.depth ≤ 600) (hu : A.units ≤ 600)
    (B : Below A₀ base outer h₀) (F : Fr h₀ L s.heap m) (X : (Mine.hd.heap_1 w.params).In h₀) (N : News h₀ L s.heap news) (T : Top p loose mean mg mb h₀)
    (hf : env.frame = some L) (hke : env.scope.kind = .function)
    {n : Nat} (hn : n = 2 ∨ n = 4) {l r : Addr} {q : Int} {cs : List Int} (hr : IsRing w news r q n) (hl : IsInts news l cs) (hcs : cs.length = n)
    (ret : ∀ x dx h' tk' t1 t2, Fr h₀ L h' m → News h₀ L h' ((x, instObj 227 dx) :: (dx, polyD w t1 t2 r l) :: news) → AllLt dx news → @LT.lt Nat _ dx x → R (.ok (.ret (.ref x))) { s with heap := h', toks := tk' }) :
    codeAny (model PySem.Challenge.rw_ay0009_04.row.prog w) A (.call (.ref 56) ⟨[.ref r, .ref l], []⟩) R s :=
  C_rcallG hA hH hd hu B F X N T hf hke hn hr hl hcs ret

end
local macro_rules | `(tactic| walk_at "call ref") => `(tactic| (k_here; (with_reducible show wpAny _ _ (call (Value.ref 189) _ _) _ _ _); kaf_suf; (with_reducible show wpAny _ _ (call (Value.ref 189) [Value.ref _, Value.ref _]) _ _ _); refine wpAny_call ?_; k_dflt (refine' G_mul ?hA ?hH ?hd ?hu ?B ?F ?X ?N ?T ?hf ?hke ?hn ?hr ?hx ?hy ?hq ?hqb ?hcs ?hds ?_; kat_tups; (case hn => assumption); (case hx => tb_start); (case hr => ktd_rel); (case hy => tb_start); kba_ints; (case hds => tb_rel); k_whole); kas_types; walk_say "USED G_mul"))
section
local macro_rules | `(tactic| walk_at "call ref") => `(tactic| (k_here; (with_reducible show wpAny _ _ (call (Value.ref 243) _ _) _ _ _); kaf_suf; (with_reducible show wpAny _ _ (call (Value.ref 243) [Value.int _ _, Value.int _ _]) _ _ _); refine wpAny_call ?_; k_dflt (refine' G_times ?hA ?hH ?hd ?hu ?B ?F ?X ?N ?T ?hf ?hke ?hn ?hq ?hqm ?hqo ?_; kat_tups; (case hn => assumption); (case hq => assumption); (case hqm => assumption); (case hqo => assumption); k_whole); intro h9 tk9 t9 T9 hT9 F9 N9; (have hT8 := times_pos (by assumption) hT9); (try dsimp only); (try k_sweep); walk_say "USED G_times"))
local macro_rules | `(tactic| walk_at "call ref") => `(tactic| (k_here; (with_reducible show wpAny _ _ (call (Value.ref 210) _ _) _ _ _); kaf_suf; (with_reducible show wpAny _ _ (call (Value.ref 210) [Value.ref _, Value.int _ _]) _ _ _); refine wpAny_call ?_; k_dflt (refine' G_pow ?hA ?hH ?hd ?hu ?B ?F ?X ?N ?T ?hf ?hke ?hn ?hr ?hx ?hq ?hqb ?hcs ?hk ?_; kat_tups; (case hn => assumption); (case hx => tb_start); (case hr => ktd_rel); kba_ints; (case hk => first | assumption | omega); k_whole); kas_types; walk_say "USED G_pow"))
local macro_rules | `(tactic| walk_at "call ref") => `(tactic| (k_here; (with_reducible show wpAny _ _ (call (Value.ref 236) _ _) _ _ _); kaf_suf; (with_reducible show wpAny _ _ (call (Value.ref 236) [Value.ref _]) _ _ _); refine wpAny_call ?_; k_dflt (refine' G_norm ?hA ?hH ?hd ?hu ?B ?F ?X ?N ?T ?hf ?hke ?hn ?hl ?hlen ?hbs ?_; kat_tups; (case hn => assumption); (case hl => kwd_rel); (case hlen => first | with_reducible assumption | exact Good.len (by tb_rel)); (case hbs => first | with_reducible assumption | exact bits_good2 (by tb_rel) (by assumption)); k_whole); intro h9 tk9 t9 F9 N9; (try dsimp only); (try k_sweep); walk_say "USED G_norm"))
local macro_rules | `(tactic| walk_at "call ref") => `(tactic| (k_here; (with_reducible show wpAny _ _ (call (Value.ref 217) _ _) _ _ _); kaf_suf; (with_reducible show wpAny _ _ (call (Value.ref 217) [Value.ref _, Value.int _ _]) _ _ _); refine wpAny_call ?_; k_dflt (refine' G_eqI ?hA ?hH ?hd ?hu ?B ?F ?X ?N ?T ?hf ?hke ?hn ?hr ?hx ?hq ?hqb ?hcs ?hvb ?ht ?htr ?hG ?_; kat_tups; (case hn => assumption); (case hx => tb_start); (case hr => ktd_rel); kba_ints; (case hvb => (first | with_reducible assumption | assumption | decide)); (case ht => k_mem); (case htr => k_asm); (case hG => k_asm); k_whole); intro nx9 s9 ps9 F9 N9 ht9 htr9 hk9 hG9 hos9; kpc_turns; walk_say "USED G_eqI"))
set_option maxRecDepth 100000 in
set_option maxHeartbeats 8000000 in
theorem st4_7 {w : World} {p : Program} {loose : List Str} {mean : ExcName → Option Value} {mg mb : Str → Option Value} {h₀ : Heap} {L fa : Addr} {cd : Value} {os0 : OsState} {s : Shared} {Q : Flow → Shared → Prop} {E : Value → Shared → Prop}
    (B : Below callerA h₀ [] h₀) (X : (Mine.hd.heap_1 w.params).In h₀) (T : Top p loose mean mg mb h₀) {nx : List (Addr × Obj)}
    {n : Nat} {tn : Tok} (hn : n = 2 ∨ n = 4) {p : Int} {tp : Tok} (hp : 2 ≤ p) (hpm : p ≤ 257) (hpb : Builtin.Int.intBits p ≤ 100) {kk : Int} {tk : Tok} (hk2 : 2 ≤ kk) (hk8 : kk ≤ 8) {q : Int} {tq : Tok} (hq : 2 ≤ q) (hqb : Builtin.Int.intBits q ≤ 100) {lr : Addr} {rc : List Int} (hrow : IsInts nx lr rc) (gr : Good q n rc) {sm gt : Addr} (hs : IsRing w nx sm p n) (hg : IsRing w nx gt q n) {bx fx : Addr} {bc : List Int} (hb : IsPoly w nx sm bx bc) (hf : IsPoly w nx gt fx rc) (gb : Good p n bc) (hpo : p = 2 ∨ (p ≠ 2 ∧ Int.fmod (p ^ 2 - 1) (2 * (n : Int)) = 0)) (S : St h₀ L os0 [(Str.ofString "k", .int kk tk), (Str.ofString "n", .int (n : Int) tn), (Str.ofString "row", .ref lr), (Str.ofString "great", .ref gt), (Str.ofString "below", .ref bx), (Str.ofString "f", .ref fx)] [(L + 1, some (.int p tp)), (L + 2, some (.int q tq)), (L + 3, none)] nx s)
    (k : ∀ s' nx' fi (T : Int), St h₀ L os0 [(Str.ofString "k", .int kk tk), (Str.ofString "n", .int (n : Int) tn), (Str.ofString "row", .ref lr), (Str.ofString "great", .ref gt), (Str.ofString "below", .ref bx), (Str.ofString "f", .ref fx), (Str.ofString "first", .ref fi)] [(L + 1, some (.int p tp)), (L + 2, some (.int q tq)), (L + 3, none)] nx' s' → Ext nx nx' → IsPoly w nx' sm fi (powSM p (T - 1).toNat bc (oneL n)) → TimesP p n T → Q .next s') :
    wpAny (model PySem.Challenge.rw_ay0009_04.row.prog w) (callerA.deeper (envOfC (Str.ofString "law") (lawDef PySem.Challenge.rw_ay0009_04.row.prog).2 L fa cd)) (exec (stm PySem.Challenge.rw_ay0009_04.row.prog 7) (envOfC (Str.ofString "law") (lawDef PySem.Challenge.rw_ay0009_04.row.prog).2 L fa cd)) Q E s := by
  obtain ⟨⟨m0, F⟩, N, ⟨⟨pa, ta, tra⟩, ⟨pc, tc, trc⟩⟩, CL, G, O⟩ := S
  simp only [lk] at F
  have TT : Tabs nx := ⟨⟨_, ta, tra⟩, ⟨_, tc, trc⟩⟩
  obtain ⟨op9, hcp, hdp⟩ := CL (L + 1, some (.int p tp)) List.mem_cons_self
  dsimp only at hcp hdp
  have hs' := hs.out
  obtain ⟨ds, t1s, t2s, u1s, u2s, hs1, hs2⟩ := hs'
  have hb' := hb.at_
  obtain ⟨db, lb, t3b, t4b, vb, nb, hb1, hb2, hb3, hb4⟩ := hb'
  revert X
  k_fill
  intro X
  conv =>
    arg 3
    arg 1
    whnf
  k_steps
  (all_goals (try k_data))
  refine' k _ _ _ _ ?Sz1 ?Xz1 ?E0z1 ?E1z1
  case Sz1 =>
    refine ⟨fr_lk (by k_asm) _ ?l9z1, ?n9z1, ?t9z1, ?c9z1, ?g9z1, ?o9z1⟩
    case l9z1 => (repeat (first | exact List.forall_mem_nil _ | (refine List.forall_mem_cons.mpr ⟨?_, ?_⟩; exact rfl)))
    case n9z1 => k_asm
    case t9z1 => (repeat (first | with_reducible assumption | refine Tabs.sub ?_ (by with_reducible assumption) | refine Tabs.of1 ?_ (by with_reducible assumption) (by with_reducible assumption) (by with_reducible assumption) | refine Tabs.of2 ?_ (by with_reducible assumption) (by with_reducible assumption) (by with_reducible assumption) | refine Tabs.sub ?_ (fun p hp => List.mem_cons_of_mem _ hp)))
    case c9z1 => first | ((repeat (first | with_reducible assumption | exact Cells.sub (by with_reducible assumption) (fun p hp => List.mem_cons_of_mem _ hp) | exact Cells.sub (by with_reducible assumption) (fun p hp => List.mem_cons_of_mem _ (List.mem_cons_of_mem _ hp)) | exact Cells.sub (by with_reducible assumption) (fun p hp => List.mem_cons_of_mem _ (List.mem_cons_of_mem _ (List.mem_cons_of_mem _ hp))) | exact Cells.sub (by with_reducible assumption) (fun p hp => List.mem_cons_of_mem _ (List.mem_cons_of_mem _ (List.mem_cons_of_mem _ (List.mem_cons_of_mem _ hp)))) | refine Cells.sub ?_ (by with_reducible assumption) | refine Cells.of1 ?_ (by with_reducible assumption) | refine Cells.sub ?_ (fun p hp => List.mem_cons_of_mem _ hp))); done) | ((rename CellsTo _ _ _ _ => hC8); refine hC8 _ ?_; (repeat (first | exact List.forall_mem_nil _ | (refine List.forall_mem_cons.mpr ⟨?_, ?_⟩; first | (refine .inl ?_; exact rfl) | (refine .inr ⟨by simp, ?_⟩; first | exact Nat.ne_of_lt (by omega) | exact Nat.ne_of_gt (by omega))))))
    case g9z1 => first | assumption | exact G
    case o9z1 => (repeat (first | exact O | refine Eq.trans (by with_reducible assumption) ?_))
  case Xz1 => (repeat (first | exact ext_refl | with_reducible assumption | refine ext_trans ?_ (by with_reducible assumption) | refine ext_cons ?_ | refine ext_trans ?_ (ext_of (by with_reducible assumption)) | refine ext_trans ?_ (ext_of1 (by with_reducible assumption))))
  case E0z1 => tb_start
  case E1z1 => assumption

set_option maxRecDepth 100000 in
set_option maxHeartbeats 8000000 in
theorem st4_8 {w : World} {p : Program} {loose : List Str} {mean : ExcName → Option Value} {mg mb : Str → Option Value} {h₀ : Heap} {L fa : Addr} {cd : Value} {os0 : OsState} {s : Shared} {Q : Flow → Shared → Prop} {E : Value → Shared → Prop}
    (B : Below callerA h₀ [] h₀) (X : (Mine.hd.heap_1 w.params).In h₀) (T : Top p loose mean mg mb h₀) {nx : List (Addr × Obj)}
    {n : Nat} {tn : Tok} (hn : n = 2 ∨ n = 4) {p : Int} {tp : Tok} (hp : 2 ≤ p) (hpm : p ≤ 257) (hpb : Builtin.Int.intBits p ≤ 100) {kk : Int} {tk : Tok} (hk2 : 2 ≤ kk) (hk8 : kk ≤ 8) {q : Int} {tq : Tok} (hq : 2 ≤ q) (hqb : Builtin.Int.intBits q ≤ 100) {lr : Addr} {rc : List Int} (hrow : IsInts nx lr rc) (gr : Good q n rc) {sm gt : Addr} (hs : IsRing w nx sm p n) (hg : IsRing w nx gt q n) {bx fx : Addr} {bc : List Int} (hb : IsPoly w nx sm bx bc) (hf : IsPoly w nx gt fx rc) (gb : Good p n bc) {fi : Addr} {fc : List Int} (hi : IsPoly w nx sm fi fc) (gi : Good p n fc) (P1 : eqI p 1 (mulL p bc fc) = (Int.fmod (normL rc) p != 0)) (S : St h₀ L os0 [(Str.ofString "k", .int kk tk), (Str.ofString "n", .int (n : Int) tn), (Str.ofString "row", .ref lr), (Str.ofString "great", .ref gt), (Str.ofString "below", .ref bx), (Str.ofString "f", .ref fx), (Str.ofString "first", .ref fi)] [(L + 1, some (.int p tp)), (L + 2, some (.int q tq)), (L + 3, none)] nx s)
    (k : ∀ s' nx', St h₀ L os0 [(Str.ofString "k", .int kk tk), (Str.ofString "n", .int (n : Int) tn), (Str.ofString "row", .ref lr), (Str.ofString "great", .ref gt), (Str.ofString "below", .ref bx), (Str.ofString "f", .ref fx), (Str.ofString "first", .ref fi)] [(L + 1, some (.int p tp)), (L + 2, some (.int q tq)), (L + 3, none)] nx' s' → Ext nx nx' → Q .next s') :
    wpAny (model PySem.Challenge.rw_ay0009_04.row.prog w) (callerA.deeper (envOfC (Str.ofString "law") (lawDef PySem.Challenge.rw_ay0009_04.row.prog).2 L fa cd)) (exec (stm PySem.Challenge.rw_ay0009_04.row.prog 8) (envOfC (Str.ofString "law") (lawDef PySem.Challenge.rw_ay0009_04.row.prog).2 L fa cd)) Q E s := by
  obtain ⟨⟨m0, F⟩, N, ⟨⟨pa, ta, tra⟩, ⟨pc, tc, trc⟩⟩, CL, G, O⟩ := S
  simp only [lk] at F
  have TT : Tabs nx := ⟨⟨_, ta, tra⟩, ⟨_, tc, trc⟩⟩
  obtain ⟨op9, hcp, hdp⟩ := CL (L + 1, some (.int p tp)) List.mem_cons_self
  dsimp only at hcp hdp
  obtain ⟨vr, nr, hrow1, hrow2⟩ := hrow.out
  have hvr : vr.length = n := hrow2.length.trans gr.len
  have hrl := gr.len
  have hs' := hs.out
  obtain ⟨ds, t1s, t2s, u1s, u2s, hs1, hs2⟩ := hs'
  have hb' := hb.at_
  obtain ⟨db, lb, t3b, t4b, vb, nb, hb1, hb2, hb3, hb4⟩ := hb'
  have hi' := hi.at_
  obtain ⟨di, li, t3i, t4i, vi, ni, hi1, hi2, hi3, hi4⟩ := hi'
  revert X
  k_fill
  intro X
  conv =>
    arg 3
    arg 1
    whnf
  k_steps
  (all_goals (try k_data))
  all_goals try (exfalso; (rename (_ != (_ != _)) = true => hb9); exact absurd hb9 (by rw [P1]; simp))
  refine' k _ _ ?Sz1 ?Xz1 
  case Sz1 =>
    refine ⟨fr_lk (by k_asm) _ ?l9z1, ?n9z1, ?t9z1, ?c9z1, ?g9z1, ?o9z1⟩
    case l9z1 => (repeat (first | exact List.forall_mem_nil _ | (refine List.forall_mem_cons.mpr ⟨?_, ?_⟩; exact rfl)))
    case n9z1 => k_asm
    case t9z1 => (repeat (first | with_reducible assumption | refine Tabs.sub ?_ (by with_reducible assumption) | refine Tabs.of1 ?_ (by with_reducible assumption) (by with_reducible assumption) (by with_reducible assumption) | refine Tabs.of2 ?_ (by with_reducible assumption) (by with_reducible assumption) (by with_reducible assumption) | refine Tabs.sub ?_ (fun p hp => List.mem_cons_of_mem _ hp)))
    case c9z1 => first | ((repeat (first | with_reducible assumption | exact Cells.sub (by with_reducible assumption) (fun p hp => List.mem_cons_of_mem _ hp) | exact Cells.sub (by with_reducible assumption) (fun p hp => List.mem_cons_of_mem _ (List.mem_cons_of_mem _ hp)) | exact Cells.sub (by with_reducible assumption) (fun p hp => List.mem_cons_of_mem _ (List.mem_cons_of_mem _ (List.mem_cons_of_mem _ hp))) | exact Cells.sub (by with_reducible assumption) (fun p hp => List.mem_cons_of_mem _ (List.mem_cons_of_mem _ (List.mem_cons_of_mem _ (List.mem_cons_of_mem _ hp)))) | refine Cells.sub ?_ (by with_reducible assumption) | refine Cells.of1 ?_ (by with_reducible assumption) | refine Cells.sub ?_ (fun p hp => List.mem_cons_of_mem _ hp))); done) | ((rename CellsTo _ _ _ _ => hC8); refine hC8 _ ?_; (repeat (first | exact List.forall_mem_nil _ | (refine List.forall_mem_cons.mpr ⟨?_, ?_⟩; first | (refine .inl ?_; exact rfl) | (refine .inr ⟨by simp, ?_⟩; first | exact Nat.ne_of_lt (by omega) | exact Nat.ne_of_gt (by omega))))))
    case g9z1 => first | assumption | exact G
    case o9z1 => (repeat (first | exact O | refine Eq.trans (by with_reducible assumption) ?_))
  case Xz1 => (repeat (first | exact ext_refl | with_reducible assumption | refine ext_trans ?_ (by with_reducible assumption) | refine ext_cons ?_ | refine ext_trans ?_ (ext_of (by with_reducible assumption)) | refine ext_trans ?_ (ext_of1 (by with_reducible assumption))))

set_option maxRecDepth 100000 in
set_option maxHeartbeats 8000000 in
theorem st4_9 {w : World} {p : Program} {loose : List Str} {mean : ExcName → Option Value} {mg mb : Str → Option Value} {h₀ : Heap} {L fa : Addr} {cd : Value} {os0 : OsState} {s : Shared} {Q : Flow → Shared → Prop} {E : Value → Shared → Prop}
    (B : Below callerA h₀ [] h₀) (X : (Mine.hd.heap_1 w.params).In h₀) (T : Top p loose mean mg mb h₀) {nx : List (Addr × Obj)}
    {n : Nat} {tn : Tok} (hn : n = 2 ∨ n = 4) {p : Int} {tp : Tok} (hp : 2 ≤ p) (hpm : p ≤ 257) (hpb : Builtin.Int.intBits p ≤ 100) {kk : Int} {tk : Tok} (hk2 : 2 ≤ kk) (hk8 : kk ≤ 8) {q : Int} {tq : Tok} (hq : 2 ≤ q) (hqb : Builtin.Int.intBits q ≤ 100) {lr : Addr} {rc : List Int} (hrow : IsInts nx lr rc) (gr : Good q n rc) {sm gt : Addr} (hs : IsRing w nx sm p n) (hg : IsRing w nx gt q n) {bx fx : Addr} {bc : List Int} (hb : IsPoly w nx sm bx bc) (hf : IsPoly w nx gt fx rc) (gb : Good p n bc) {fi : Addr} {fc : List Int} (hi : IsPoly w nx sm fi fc) (gi : Good p n fc) (k1 : ∀ s' nx', St h₀ L os0 [] [(L + 1, some (.int p tp)), (L + 2, some (.int q tq)), (L + 3, none)] nx' s' → Ext nx nx' → Q (.ret (.bool true)) s') (S : St h₀ L os0 [(Str.ofString "k", .int kk tk), (Str.ofString "n", .int (n : Int) tn), (Str.ofString "row", .ref lr), (Str.ofString "great", .ref gt), (Str.ofString "below", .ref bx), (Str.ofString "f", .ref fx), (Str.ofString "first", .ref fi)] [(L + 1, some (.int p tp)), (L + 2, some (.int q tq)), (L + 3, none)] nx s)
    (k : ∀ s' nx', Int.fmod (normL rc) p ≠ 0 → St h₀ L os0 [(Str.ofString "k", .int kk tk), (Str.ofString "row", .ref lr), (Str.ofString "great", .ref gt), (Str.ofString "f", .ref fx), (Str.ofString "first", .ref fi)] [(L + 1, some (.int p tp)), (L + 2, some (.int q tq)), (L + 3, none)] nx' s' → Ext nx nx' → Q .next s') :
    wpAny (model PySem.Challenge.rw_ay0009_04.row.prog w) (callerA.deeper (envOfC (Str.ofString "law") (lawDef PySem.Challenge.rw_ay0009_04.row.prog).2 L fa cd)) (exec (stm PySem.Challenge.rw_ay0009_04.row.prog 9) (envOfC (Str.ofString "law") (lawDef PySem.Challenge.rw_ay0009_04.row.prog).2 L fa cd)) Q E s := by
  obtain ⟨⟨m0, F⟩, N, ⟨⟨pa, ta, tra⟩, ⟨pc, tc, trc⟩⟩, CL, G, O⟩ := S
  simp only [lk] at F
  have TT : Tabs nx := ⟨⟨_, ta, tra⟩, ⟨_, tc, trc⟩⟩
  obtain ⟨op9, hcp, hdp⟩ := CL (L + 1, some (.int p tp)) List.mem_cons_self
  dsimp only at hcp hdp
  obtain ⟨vr, nr, hrow1, hrow2⟩ := hrow.out
  have hvr : vr.length = n := hrow2.length.trans gr.len
  have hrl := gr.len
  have hf' := hf.at_
  obtain ⟨df, lf, t3f, t4f, vf, nf, hf1, hf2, hf3, hf4⟩ := hf'
  revert X
  k_fill
  intro X
  conv =>
    arg 3
    arg 1
    whnf
  k_steps
  (all_goals (try k_data))
  · refine' k1 _ _ ?Sz1 ?Xz1 
    case Sz1 =>
      refine ⟨fr_lk (by k_asm) _ ?l9z1, ?n9z1, ?t9z1, ?c9z1, ?g9z1, ?o9z1⟩
      case l9z1 => (repeat (first | exact List.forall_mem_nil _ | (refine List.forall_mem_cons.mpr ⟨?_, ?_⟩; exact rfl)))
      case n9z1 => k_asm
      case t9z1 => (repeat (first | with_reducible assumption | refine Tabs.sub ?_ (by with_reducible assumption) | refine Tabs.of1 ?_ (by with_reducible assumption) (by with_reducible assumption) (by with_reducible assumption) | refine Tabs.of2 ?_ (by with_reducible assumption) (by with_reducible assumption) (by with_reducible assumption) | refine Tabs.sub ?_ (fun p hp => List.mem_cons_of_mem _ hp)))
      case c9z1 => first | ((repeat (first | with_reducible assumption | exact Cells.sub (by with_reducible assumption) (fun p hp => List.mem_cons_of_mem _ hp) | exact Cells.sub (by with_reducible assumption) (fun p hp => List.mem_cons_of_mem _ (List.mem_cons_of_mem _ hp)) | exact Cells.sub (by with_reducible assumption) (fun p hp => List.mem_cons_of_mem _ (List.mem_cons_of_mem _ (List.mem_cons_of_mem _ hp))) | exact Cells.sub (by with_reducible assumption) (fun p hp => List.mem_cons_of_mem _ (List.mem_cons_of_mem _ (List.mem_cons_of_mem _ (List.mem_cons_of_mem _ hp)))) | refine Cells.sub ?_ (by with_reducible assumption) | refine Cells.of1 ?_ (by with_reducible assumption) | refine Cells.sub ?_ (fun p hp => List.mem_cons_of_mem _ hp))); done) | ((rename CellsTo _ _ _ _ => hC8); refine hC8 _ ?_; (repeat (first | exact List.forall_mem_nil _ | (refine List.forall_mem_cons.mpr ⟨?_, ?_⟩; first | (refine .inl ?_; exact rfl) | (refine .inr ⟨by simp, ?_⟩; first | exact Nat.ne_of_lt (by omega) | exact Nat.ne_of_gt (by omega))))))
      case g9z1 => first | assumption | exact G
      case o9z1 => (repeat (first | exact O | refine Eq.trans (by with_reducible assumption) ?_))
    case Xz1 => (repeat (first | exact ext_refl | with_reducible assumption | refine ext_trans ?_ (by with_reducible assumption) | refine ext_cons ?_ | refine ext_trans ?_ (ext_of (by with_reducible assumption)) | refine ext_trans ?_ (ext_of1 (by with_reducible assumption))))
  · refine' k _ _ (by assumption) ?Sz2 ?Xz2 
    case Sz2 =>
      refine ⟨fr_lk (by k_asm) _ ?l9z2, ?n9z2, ?t9z2, ?c9z2, ?g9z2, ?o9z2⟩
      case l9z2 => (repeat (first | exact List.forall_mem_nil _ | (refine List.forall_mem_cons.mpr ⟨?_, ?_⟩; exact rfl)))
      case n9z2 => k_asm
      case t9z2 => (repeat (first | with_reducible assumption | refine Tabs.sub ?_ (by with_reducible assumption) | refine Tabs.of1 ?_ (by with_reducible assumption) (by with_reducible assumption) (by with_reducible assumption) | refine Tabs.of2 ?_ (by with_reducible assumption) (by with_reducible assumption) (by with_reducible assumption) | refine Tabs.sub ?_ (fun p hp => List.mem_cons_of_mem _ hp)))
      case c9z2 => first | ((repeat (first | with_reducible assumption | exact Cells.sub (by with_reducible assumption) (fun p hp => List.mem_cons_of_mem _ hp) | exact Cells.sub (by with_reducible assumption) (fun p hp => List.mem_cons_of_mem _ (List.mem_cons_of_mem _ hp)) | exact Cells.sub (by with_reducible assumption) (fun p hp => List.mem_cons_of_mem _ (List.mem_cons_of_mem _ (List.mem_cons_of_mem _ hp))) | exact Cells.sub (by with_reducible assumption) (fun p hp => List.mem_cons_of_mem _ (List.mem_cons_of_mem _ (List.mem_cons_of_mem _ (List.mem_cons_of_mem _ hp)))) | refine Cells.sub ?_ (by with_reducible assumption) | refine Cells.of1 ?_ (by with_reducible assumption) | refine Cells.sub ?_ (fun p hp => List.mem_cons_of_mem _ hp))); done) | ((rename CellsTo _ _ _ _ => hC8); refine hC8 _ ?_; (repeat (first | exact List.forall_mem_nil _ | (refine List.forall_mem_cons.mpr ⟨?_, ?_⟩; first | (refine .inl ?_; exact rfl) | (refine .inr ⟨by simp, ?_⟩; first | exact Nat.ne_of_lt (by omega) | exact Nat.ne_of_gt (by omega))))))
      case g9z2 => first | assumption | exact G
      case o9z2 => (repeat (first | exact O | refine Eq.trans (by with_reducible assumption) ?_))
    case Xz2 => (repeat (first | exact ext_refl | with_reducible assumption | refine ext_trans ?_ (by with_reducible assumption) | refine ext_cons ?_ | refine ext_trans ?_ (ext_of (by with_reducible assumption)) | refine ext_trans ?_ (ext_of1 (by with_reducible assumption))))

set_option maxRecDepth 100000 in
set_option maxHeartbeats 8000000 in
theorem st4_12 {w : World} {p : Program} {loose : List Str} {mean : ExcName → Option Value} {mg mb : Str → Option Value} {h₀ : Heap} {L fa : Addr} {cd : Value} {os0 : OsState} {s : Shared} {Q : Flow → Shared → Prop} {E : Value → Shared → Prop}
    (B : Below callerA h₀ [] h₀) (X : (Mine.hd.heap_1 w.params).In h₀) (T : Top p loose mean mg mb h₀) {nx : List (Addr × Obj)}
    {n : Nat} {tn : Tok} (hn : n = 2 ∨ n = 4) {p : Int} {tp : Tok} (hp : 2 ≤ p) (hpm : p ≤ 257) (hpb : Builtin.Int.intBits p ≤ 100) {kk : Int} {tk : Tok} (hk2 : 2 ≤ kk) (hk8 : kk ≤ 8) {q : Int} {tq : Tok} (hq : 2 ≤ q) (hqb : Builtin.Int.intBits q ≤ 100) {lr : Addr} {rc : List Int} (hrow : IsInts nx lr rc) (gr : Good q n rc) {sm gt : Addr} (hs : IsRing w nx sm p n) (hg : IsRing w nx gt q n) {fx gx : Addr} {gc : List Int} {h : Int} {th : Tok} (hf : IsPoly w nx gt fx rc) (hx : IsPoly w nx gt gx gc) (gx' : Good q n gc) (P1 : eqI q 1 (mulL q rc gc) = true) (S : St h₀ L os0 [(Str.ofString "row", .ref lr), (Str.ofString "f", .ref fx), (Str.ofString "g", .ref gx)] [(L + 1, some (.int p tp)), (L + 2, some (.int q tq)), (L + 3, some (.int h th))] nx s)
    (k : ∀ s' nx', St h₀ L os0 [] [(L + 1, some (.int p tp)), (L + 2, some (.int q tq)), (L + 3, some (.int h th))] nx' s' → Ext nx nx' → Q (.ret (.bool true)) s') :
    wpAny (model PySem.Challenge.rw_ay0009_04.row.prog w) (callerA.deeper (envOfC (Str.ofString "law") (lawDef PySem.Challenge.rw_ay0009_04.row.prog).2 L fa cd)) (exec (stm PySem.Challenge.rw_ay0009_04.row.prog 12) (envOfC (Str.ofString "law") (lawDef PySem.Challenge.rw_ay0009_04.row.prog).2 L fa cd)) Q E s := by
  obtain ⟨⟨m0, F⟩, N, ⟨⟨pa, ta, tra⟩, ⟨pc, tc, trc⟩⟩, CL, G, O⟩ := S
  simp only [lk] at F
  have TT : Tabs nx := ⟨⟨_, ta, tra⟩, ⟨_, tc, trc⟩⟩
  obtain ⟨vr, nr, hrow1, hrow2⟩ := hrow.out
  have hvr : vr.length = n := hrow2.length.trans gr.len
  have hrl := gr.len
  have hg' := hg.out
  obtain ⟨dg, t1g, t2g, u1g, u2g, hg1, hg2⟩ := hg'
  have hf' := hf.at_
  obtain ⟨df, lf, t3f, t4f, vf, nf, hf1, hf2, hf3, hf4⟩ := hf'
  have hx' := hx.at_
  obtain ⟨dx, lx, t3x, t4x, vx, nx, hx1, hx2, hx3, hx4⟩ := hx'
  revert X
  k_fill
  intro X
  conv =>
    arg 3
    arg 1
    whnf
  k_steps
  (all_goals (try k_data))
  refine' k _ _ ?Sz1 ?Xz1 
  case Sz1 =>
    refine ⟨fr_lk (by k_asm) _ ?l9z1, ?n9z1, ?t9z1, ?c9z1, ?g9z1, ?o9z1⟩
    case l9z1 => (repeat (first | exact List.forall_mem_nil _ | (refine List.forall_mem_cons.mpr ⟨?_, ?_⟩; exact rfl)))
    case n9z1 => k_asm
    case t9z1 => (repeat (first | with_reducible assumption | refine Tabs.sub ?_ (by with_reducible assumption) | refine Tabs.of1 ?_ (by with_reducible assumption) (by with_reducible assumption) (by with_reducible assumption) | refine Tabs.of2 ?_ (by with_reducible assumption) (by with_reducible assumption) (by with_reducible assumption) | refine Tabs.sub ?_ (fun p hp => List.mem_cons_of_mem _ hp)))
    case c9z1 => first | ((repeat (first | with_reducible assumption | exact Cells.sub (by with_reducible assumption) (fun p hp => List.mem_cons_of_mem _ hp) | exact Cells.sub (by with_reducible assumption) (fun p hp => List.mem_cons_of_mem _ (List.mem_cons_of_mem _ hp)) | exact Cells.sub (by with_reducible assumption) (fun p hp => List.mem_cons_of_mem _ (List.mem_cons_of_mem _ (List.mem_cons_of_mem _ hp))) | exact Cells.sub (by with_reducible assumption) (fun p hp => List.mem_cons_of_mem _ (List.mem_cons_of_mem _ (List.mem_cons_of_mem _ (List.mem_cons_of_mem _ hp)))) | refine Cells.sub ?_ (by with_reducible assumption) | refine Cells.of1 ?_ (by with_reducible assumption) | refine Cells.sub ?_ (fun p hp => List.mem_cons_of_mem _ hp))); done) | ((rename CellsTo _ _ _ _ => hC8); refine hC8 _ ?_; (repeat (first | exact List.forall_mem_nil _ | (refine List.forall_mem_cons.mpr ⟨?_, ?_⟩; first | (refine .inl ?_; exact rfl) | (refine .inr ⟨by simp, ?_⟩; first | exact Nat.ne_of_lt (by omega) | exact Nat.ne_of_gt (by omega))))))
    case g9z1 => first | assumption | exact G
    case o9z1 => (repeat (first | exact O | refine Eq.trans (by with_reducible assumption) ?_))
  case Xz1 => (repeat (first | exact ext_refl | with_reducible assumption | refine ext_trans ?_ (by with_reducible assumption) | refine ext_cons ?_ | refine ext_trans ?_ (ext_of (by with_reducible assumption)) | refine ext_trans ?_ (ext_of1 (by with_reducible assumption))))

end
section
local macro_rules | `(tactic| walk_at "storeName") => `(tactic| (k_here; (rename Cells _ _ => hC0); k_dflt (refine' my_storeC ?F ?N ?T (Cells.sub hC0 ?C) ?c ?i ?_ ?a ?b; (case a => rfl); (case b => rfl); (case F => k_asm); (case N => k_asm); (case T => kfm_turns); (case C => kct_strs); (case c => rfl); (case i => first | exact List.mem_cons_self | exact List.mem_cons_of_mem _ List.mem_cons_self | exact List.mem_cons_of_mem _ (List.mem_cons_of_mem _ List.mem_cons_self)); k_whole); clear hC0; intro h8 nx8 F8 N8 T8 C8 X8; (try k_sweep); walk_say "STOREC4"))
set_option maxRecDepth 100000 in
set_option maxHeartbeats 8000000 in
theorem st4_10 {w : World} {p : Program} {loose : List Str} {mean : ExcName → Option Value} {mg mb : Str → Option Value} {h₀ : Heap} {L fa : Addr} {cd : Value} {os0 : OsState} {s : Shared} {Q : Flow → Shared → Prop} {E : Value → Shared → Prop}
    (B : Below callerA h₀ [] h₀) (X : (Mine.hd.heap_1 w.params).In h₀) (T : Top p loose mean mg mb h₀) {nx : List (Addr × Obj)}
    {n : Nat} {tn : Tok} (hn : n = 2 ∨ n = 4) {p : Int} {tp : Tok} (hp : 2 ≤ p) (hpm : p ≤ 257) (hpb : Builtin.Int.intBits p ≤ 100) {kk : Int} {tk : Tok} (hk2 : 2 ≤ kk) (hk8 : kk ≤ 8) {q : Int} {tq : Tok} (hq : 2 ≤ q) (hqb : Builtin.Int.intBits q ≤ 100) {lr : Addr} {rc : List Int} (hrow : IsInts nx lr rc) (gr : Good q n rc) {sm gt : Addr} (hs : IsRing w nx sm p n) (hg : IsRing w nx gt q n) {fx : Addr} (hf : IsPoly w nx gt fx rc) {fi : Addr} {fc : List Int} (hi : IsPoly w nx sm fi fc) (gi : Good p n fc) (S : St h₀ L os0 [(Str.ofString "k", .int kk tk), (Str.ofString "row", .ref lr), (Str.ofString "great", .ref gt), (Str.ofString "f", .ref fx), (Str.ofString "first", .ref fi)] [(L + 1, some (.int p tp)), (L + 2, some (.int q tq)), (L + 3, none)] nx s)
    (k : ∀ s' nx' gx th, St h₀ L os0 [(Str.ofString "k", .int kk tk), (Str.ofString "row", .ref lr), (Str.ofString "f", .ref fx), (Str.ofString "first", .ref fi), (Str.ofString "g", .ref gx)] [(L + 1, some (.int p tp)), (L + 2, some (.int q tq)), (L + 3, some (.int 1 th))] nx' s' → Ext nx nx' → IsPoly w nx' gt gx fc → Q .next s') :
    wpAny (model PySem.Challenge.rw_ay0009_04.row.prog w) (callerA.deeper (envOfC (Str.ofString "law") (lawDef PySem.Challenge.rw_ay0009_04.row.prog).2 L fa cd)) (exec (stm PySem.Challenge.rw_ay0009_04.row.prog 10) (envOfC (Str.ofString "law") (lawDef PySem.Challenge.rw_ay0009_04.row.prog).2 L fa cd)) Q E s := by
  obtain ⟨⟨m0, F⟩, N, ⟨⟨pa, ta, tra⟩, ⟨pc, tc, trc⟩⟩, CL, G, O⟩ := S
  simp only [lk] at F
  have TT : Tabs nx := ⟨⟨_, ta, tra⟩, ⟨_, tc, trc⟩⟩
  obtain ⟨op9, hcp, hdp⟩ := CL (L + 1, some (.int p tp)) List.mem_cons_self
  dsimp only at hcp hdp
  obtain ⟨oq9, hcq, hdq⟩ := CL (L + 2, some (.int q tq)) (List.mem_cons_of_mem _ List.mem_cons_self)
  dsimp only at hcq hdq
  have hg' := hg.out
  obtain ⟨dg, t1g, t2g, u1g, u2g, hg1, hg2⟩ := hg'
  have hi' := hi.at_
  obtain ⟨di, li, t3i, t4i, vi, ni, hi1, hi2, hi3, hi4⟩ := hi'
  have hvi : vi.length = n := hi4.length.trans gi.len
  have hil := gi.len
  revert X
  k_fill
  intro X
  conv =>
    arg 3
    arg 1
    whnf
  k_steps
  (all_goals (try k_data))
  refine' k _ _ _ _ ?Sz1 ?Xz1 ?E0z1
  case Sz1 =>
    refine ⟨fr_lk (by k_asm) _ ?l9z1, ?n9z1, ?t9z1, ?c9z1, ?g9z1, ?o9z1⟩
    case l9z1 => (repeat (first | exact List.forall_mem_nil _ | (refine List.forall_mem_cons.mpr ⟨?_, ?_⟩; exact rfl)))
    case n9z1 => k_asm
    case t9z1 => (repeat (first | with_reducible assumption | refine Tabs.sub ?_ (by with_reducible assumption) | refine Tabs.of1 ?_ (by with_reducible assumption) (by with_reducible assumption) (by with_reducible assumption) | refine Tabs.of2 ?_ (by with_reducible assumption) (by with_reducible assumption) (by with_reducible assumption) | refine Tabs.sub ?_ (fun p hp => List.mem_cons_of_mem _ hp)))
    case c9z1 => first | ((repeat (first | with_reducible assumption | exact Cells.sub (by with_reducible assumption) (fun p hp => List.mem_cons_of_mem _ hp) | exact Cells.sub (by with_reducible assumption) (fun p hp => List.mem_cons_of_mem _ (List.mem_cons_of_mem _ hp)) | exact Cells.sub (by with_reducible assumption) (fun p hp => List.mem_cons_of_mem _ (List.mem_cons_of_mem _ (List.mem_cons_of_mem _ hp))) | exact Cells.sub (by with_reducible assumption) (fun p hp => List.mem_cons_of_mem _ (List.mem_cons_of_mem _ (List.mem_cons_of_mem _ (List.mem_cons_of_mem _ hp)))) | refine Cells.sub ?_ (by with_reducible assumption) | refine Cells.of1 ?_ (by with_reducible assumption) | refine Cells.sub ?_ (fun p hp => List.mem_cons_of_mem _ hp))); done) | ((rename CellsTo _ _ _ _ => hC8); refine hC8 _ ?_; (repeat (first | exact List.forall_mem_nil _ | (refine List.forall_mem_cons.mpr ⟨?_, ?_⟩; first | (refine .inl ?_; exact rfl) | (refine .inr ⟨by simp, ?_⟩; first | exact Nat.ne_of_lt (by omega) | exact Nat.ne_of_gt (by omega))))))
    case g9z1 => first | assumption | exact G
    case o9z1 => (repeat (first | exact O | refine Eq.trans (by with_reducible assumption) ?_))
  case Xz1 => (repeat (first | exact ext_refl | with_reducible assumption | refine ext_trans ?_ (by with_reducible assumption) | refine ext_cons ?_ | refine ext_trans ?_ (ext_of (by with_reducible assumption)) | refine ext_trans ?_ (ext_of1 (by with_reducible assumption))))
  case E0z1 => tb_start

end
section
local macro_rules | `(tactic| walk_at "call ref") => `(tactic| (k_here; kaf_suf; (with_reducible show wpAny _ _ (call (Value.ref _) [Value.ref _]) _ _ _); refine wpAny_call ?_; k_dflt (refine' kco_code (C := 66) (f := 56) (K := Mine.hd.heap_1 _) ?kX ?kI ?kD ?k1 ?k2 ?k3 ?_; kaf_pre); k_dflt (refine' G_rcallF ?hA ?hH ?hd ?hu ?B ?F ?X ?N ?T ?hf ?hke ?hn ?hr ?hl ?hcs ?_; kat_tups; (case hn => assumption); (case hr => ktd_rel); (case hl => kwd_rel); (case hcs => kst_p); k_whole); intro x9 dx9 h9 tk9 t91 t92 F9 N9 o91 o92; (try dsimp only); (try k_sweep); walk_say "USED G_rcallF"))
local macro_rules | `(tactic| walk_at "call ref") => `(tactic| (k_here; (with_reducible show wpAny _ _ (call (Value.ref 108) _ _) _ _ _); kaf_suf; (with_reducible show wpAny _ _ (call (Value.ref 108) [Value.ref _]) _ _ _); refine wpAny_call ?_; k_dflt (refine' G_reduce ?hA ?hH ?hd ?hu ?B ?F ?X ?N ?T ?hf ?hke ?hn ?hr ?hl ?hcs ?hq ?o1 ?o2 ?_; kat_tups; (case hn => assumption); (case hr => ktd_rel); (case hl => kwd_rel); (case hcs => kst_p); (case hq => assumption); (case o1 => assumption); (case o2 => assumption); k_whole); intro nx9 h9 tk9 F9 N9 hk9 hp9; (try dsimp only); (try k_sweep); walk_say "USED G_reduce"))
set_option maxRecDepth 100000 in
set_option maxHeartbeats 8000000 in
theorem st4_6 {w : World} {p : Program} {loose : List Str} {mean : ExcName → Option Value} {mg mb : Str → Option Value} {h₀ : Heap} {L fa : Addr} {cd : Value} {os0 : OsState} {s : Shared} {Q : Flow → Shared → Prop} {E : Value → Shared → Prop}
    (B : Below callerA h₀ [] h₀) (X : (Mine.hd.heap_1 w.params).In h₀) (T : Top p loose mean mg mb h₀) {nx : List (Addr × Obj)}
    {n : Nat} {tn : Tok} (hn : n = 2 ∨ n = 4) {p : Int} {tp : Tok} (hp : 2 ≤ p) (hpm : p ≤ 257) (hpb : Builtin.Int.intBits p ≤ 100) {kk : Int} {tk : Tok} (hk2 : 2 ≤ kk) (hk8 : kk ≤ 8) {q : Int} {tq : Tok} (hq : 2 ≤ q) (hqb : Builtin.Int.intBits q ≤ 100) {lr : Addr} {rc : List Int} (hrow : IsInts nx lr rc) (gr : Good q n rc) {sm gt : Addr} (hs : IsRing w nx sm p n) (hg : IsRing w nx gt q n) (S : St h₀ L os0 [(Str.ofString "k", .int kk tk), (Str.ofString "n", .int (n : Int) tn), (Str.ofString "row", .ref lr), (Str.ofString "small", .ref sm), (Str.ofString "great", .ref gt)] [(L + 1, some (.int p tp)), (L + 2, some (.int q tq)), (L + 3, none)] nx s)
    (k : ∀ s' nx' bx fx, St h₀ L os0 [(Str.ofString "k", .int kk tk), (Str.ofString "n", .int (n : Int) tn), (Str.ofString "row", .ref lr), (Str.ofString "great", .ref gt), (Str.ofString "below", .ref bx), (Str.ofString "f", .ref fx)] [(L + 1, some (.int p tp)), (L + 2, some (.int q tq)), (L + 3, none)] nx' s' → Ext nx nx' → IsPoly w nx' sm bx (rc.map fun k' => Int.fmod k' p) → IsPoly w nx' gt fx rc → Q .next s') :
    wpAny (model PySem.Challenge.rw_ay0009_04.row.prog w) (callerA.deeper (envOfC (Str.ofString "law") (lawDef PySem.Challenge.rw_ay0009_04.row.prog).2 L fa cd)) (exec (stm PySem.Challenge.rw_ay0009_04.row.prog 6) (envOfC (Str.ofString "law") (lawDef PySem.Challenge.rw_ay0009_04.row.prog).2 L fa cd)) Q E s := by
  obtain ⟨⟨m0, F⟩, N, ⟨⟨pa, ta, tra⟩, ⟨pc, tc, trc⟩⟩, CL, G, O⟩ := S
  simp only [lk] at F
  have TT : Tabs nx := ⟨⟨_, ta, tra⟩, ⟨_, tc, trc⟩⟩
  obtain ⟨op9, hcp, hdp⟩ := CL (L + 1, some (.int p tp)) List.mem_cons_self
  dsimp only at hcp hdp
  obtain ⟨oq9, hcq, hdq⟩ := CL (L + 2, some (.int q tq)) (List.mem_cons_of_mem _ List.mem_cons_self)
  dsimp only at hcq hdq
  obtain ⟨vr, nr, hrow1, hrow2⟩ := hrow.out
  have hvr : vr.length = n := hrow2.length.trans gr.len
  have hrl := gr.len
  have hs' := hs.out
  obtain ⟨ds, t1s, t2s, u1s, u2s, hs1, hs2⟩ := hs'
  have hg' := hg.out
  obtain ⟨dg, t1g, t2g, u1g, u2g, hg1, hg2⟩ := hg'
  revert X
  k_fill
  intro X
  conv =>
    arg 3
    arg 1
    whnf
  k_steps
  (all_goals (try k_data))
  refine' k _ _ _ _ ?Sz1 ?Xz1 ?E0z1 ?E1z1
  case Sz1 =>
    refine ⟨fr_lk (by k_asm) _ ?l9z1, ?n9z1, ?t9z1, ?c9z1, ?g9z1, ?o9z1⟩
    case l9z1 => (repeat (first | exact List.forall_mem_nil _ | (refine List.forall_mem_cons.mpr ⟨?_, ?_⟩; exact rfl)))
    case n9z1 => k_asm
    case t9z1 => (repeat (first | with_reducible assumption | refine Tabs.sub ?_ (by with_reducible assumption) | refine Tabs.of1 ?_ (by with_reducible assumption) (by with_reducible assumption) (by with_reducible assumption) | refine Tabs.of2 ?_ (by with_reducible assumption) (by with_reducible assumption) (by with_reducible assumption) | refine Tabs.sub ?_ (fun p hp => List.mem_cons_of_mem _ hp)))
    case c9z1 => first | ((repeat (first | with_reducible assumption | exact Cells.sub (by with_reducible assumption) (fun p hp => List.mem_cons_of_mem _ hp) | exact Cells.sub (by with_reducible assumption) (fun p hp => List.mem_cons_of_mem _ (List.mem_cons_of_mem _ hp)) | exact Cells.sub (by with_reducible assumption) (fun p hp => List.mem_cons_of_mem _ (List.mem_cons_of_mem _ (List.mem_cons_of_mem _ hp))) | exact Cells.sub (by with_reducible assumption) (fun p hp => List.mem_cons_of_mem _ (List.mem_cons_of_mem _ (List.mem_cons_of_mem _ (List.mem_cons_of_mem _ hp)))) | refine Cells.sub ?_ (by with_reducible assumption) | refine Cells.of1 ?_ (by with_reducible assumption) | refine Cells.sub ?_ (fun p hp => List.mem_cons_of_mem _ hp))); done) | ((rename CellsTo _ _ _ _ => hC8); refine hC8 _ ?_; (repeat (first | exact List.forall_mem_nil _ | (refine List.forall_mem_cons.mpr ⟨?_, ?_⟩; first | (refine .inl ?_; exact rfl) | (refine .inr ⟨by simp, ?_⟩; first | exact Nat.ne_of_lt (by omega) | exact Nat.ne_of_gt (by omega))))))
    case g9z1 => first | assumption | exact G
    case o9z1 => (repeat (first | exact O | refine Eq.trans (by with_reducible assumption) ?_))
  case Xz1 => (repeat (first | exact ext_refl | with_reducible assumption | refine ext_trans ?_ (by with_reducible assumption) | refine ext_cons ?_ | refine ext_trans ?_ (ext_of (by with_reducible assumption)) | refine ext_trans ?_ (ext_of1 (by with_reducible assumption))))
  case E0z1 => tb_start
  case E1z1 => tb_start

end
section
local macro_rules | `(tactic| walk_at "call ref") => `(tactic| (k_here; (with_reducible show wpAny _ _ (call (Value.ref 170) _ _) _ _ _); kaf_suf; (with_reducible show wpAny _ _ (call (Value.ref 170) [Value.ref _, Value.int _ _]) _ _ _); refine wpAny_call ?_; k_dflt (refine' G_subI ?hA ?hH ?hd ?hu ?B ?F ?X ?N ?T ?hf ?hke ?hn ?hr ?hx ?hq ?hqb ?hcs ?hvb ?_; kat_tups; (case hn => assumption); (case hx => tb_start); (case hr => ktd_rel); kba_ints; (case hvb => (first | with_reducible assumption | assumption | decide)); k_whole); kas_types; walk_say "USED G_subI"))
local macro_rules | `(tactic| walk_at "call ref") => `(tactic| (k_here; (with_reducible show wpAny _ _ (call (Value.ref 177) _ _) _ _ _); kaf_suf; (with_reducible show wpAny _ _ (call (Value.ref 177) [Value.ref _, Value.int _ _]) _ _ _); refine wpAny_call ?_; k_dflt (refine' G_rsubI ?hA ?hH ?hd ?hu ?B ?F ?X ?N ?T ?hf ?hke ?hn ?hr ?hx ?hq ?hqb ?hcs ?hvb ?_; kat_tups; (case hn => assumption); (case hx => tb_start); (case hr => ktd_rel); kba_ints; (case hvb => (first | with_reducible assumption | assumption | decide)); k_whole); kas_types; walk_say "USED G_rsubI"))
local macro_rules | `(tactic| walk_at "binaryOp Sub int ref") => `(tactic| (k_here; (with_reducible show wpAny _ _ (binaryOp Operator.Sub (Value.int _ _) (Value.ref _)) _ _ _); k_dflt (refine' rsub_inst ?F ?X ?I ?hC ?hS ?hR ?hF ?hU ?_; (case F => k_asm); (case X => k_asm); (case I => k_inst); (case hS => k_is); (case hR => k_is); (case hF => k_is); (case hC => k_is); (case hU => k_is); k_whole); walk_say "RSUB"))
local macro_rules | `(tactic| walk_at "storeName") => `(tactic| (k_here; (rename Cells _ _ => hC0); k_dflt (refine' my_storeC ?F ?N ?T (Cells.sub hC0 ?C) ?c ?i ?_ ?a ?b; (case a => rfl); (case b => rfl); (case F => k_asm); (case N => k_asm); (case T => kfm_turns); (case C => kct_strs); (case c => rfl); (case i => first | exact List.mem_cons_self | exact List.mem_cons_of_mem _ List.mem_cons_self | exact List.mem_cons_of_mem _ (List.mem_cons_of_mem _ List.mem_cons_self)); k_whole); clear hC0; intro h8 nx8 F8 N8 T8 C8 X8; (obtain ⟨oP8, hcP8, hdP8⟩ := cells_first C8 (Nat.ne_of_lt (by omega))); (try k_sweep); walk_say "STOREC4"))
local macro_rules | `(tactic| walk_at "binaryOp Pow int int") => `(tactic| (k_here; k_dflt (refine' pow_int_small ?p1 ?p2 ?p3 ?_; (case p1 => omega); (case p2 => omega); (case p3 => omega); k_whole); (try dsimp only); walk_say "POW"))
local macro_rules | `(tactic| ktr_rel) => `(tactic| first | (with_reducible assumption) | (with_reducible exact List.mem_cons_self) | (refine' List.mem_cons_of_mem _ ?_; ktr_rel) | (refine' sub_mem (by with_reducible assumption) ?_; ktr_rel) | (refine' subT_mem (by with_reducible assumption) ?k9 ?o9; (case k9 => ktr_rel); (case o9 => kwd_inv)) | (refine' ext_mem (by with_reducible assumption) ?k9 ?o8 ?o9; (case k9 => ktr_rel); (case o8 => (intro _ e; cases e)); (case o9 => (intro _ e; cases e))))
local macro_rules | `(tactic| walk_at "exec While Compare cons nil") => `(tactic| (k_here; k_dflt (refine' newton_while [(Str.ofString "k", _), (Str.ofString "row", _), (Str.ofString "f", _), (Str.ofString "first", _)] (vp := Value.int _ _) (vq := Value.int _ _) ?p1 ?p2 ?rel ?hkk ?hp2 ?R1 ?RG ?RA ?RB ?RC ?F ?N ?hv ?t ?c ?hg ?_ ?hE; (case F => k_asm); (case N => k_asm); (case hv => (repeat (first | exact List.forall_mem_nil _ | (refine List.forall_mem_cons.mpr ⟨?_, ?_⟩; exact rfl)))); (case hg => assumption); (case rel => assumption); (case hkk => assumption); (case R1 => assumption); (case RG => assumption); (case RA => assumption); (case RB => assumption); (case RC => assumption); (case hp2 => assumption); (case p1 => assumption); (case p2 => assumption); (case t => kfm_turns); (case c => with_reducible assumption); (case hE => passes_own)); k_dflt (simp only [lk, List.cons_append, List.nil_append]); intros; (try dsimp only); (try k_sweep); walk_say "NEWTON"))
local macro_rules | `(tactic| walk_at "WhileStep2 next") => `(tactic| (k_here; (rename (∀ _ _ _ _, _ → _ → _ → _ → _ → _ → _ ∧ NwInv _ _ _ _ _ _ _ _ _ _ _ _ _ _) => hJ8); k_dflt (refine' newton_end ?F ?N (hJ8 _ _ _ _ ?hv ?e ?t ?c ?hp (by assumption)); (case c => ((rename CellsTo _ _ _ _ => hC8); refine hC8 _ ?_; (repeat (first | exact List.forall_mem_nil _ | (refine List.forall_mem_cons.mpr ⟨?_, ?_⟩; first | (refine .inl ?_; exact rfl) | (refine .inr ⟨by simp, ?_⟩; first | exact Nat.ne_of_lt (by omega) | exact Nat.ne_of_gt (by omega))))))); (case F => k_asm); (case N => exact news_sub (by k_asm) (by kct_strs)); (case hv => (repeat (first | exact List.forall_mem_nil _ | (refine List.forall_mem_cons.mpr ⟨?_, ?_⟩; exact rfl)))); (case e => kpt_turns); (case t => kfm_turns); (case hp => tb_start)); walk_say "NEWTONEND"))
local macro_rules | `(tactic| walk_at "eval ListComp") => `(tactic| (k_here; (with_reducible show wpAny _ _ (eval (PySem.Expr.ListComp (PySem.Expr.Compare _ _ _ _) _ _ _) _) _ _ _); k_dflt (refine LCg.ListComp_U (F₀ := by k_asm) (by with_unfolding_all rfl) (by decide) (by rfl) (by decide) (by rfl) ?_); walk_say "COMPB"))
local macro_rules | `(tactic| walk_at "CompSrc") => `(tactic| (k_here; (with_reducible show LCg.CompSrc _ _ _ _ _ _ _ (PySem.Expr.Compare _ _ _ _) _ _ _ _ _ _); k_dflt (refine' comp_bools (fun c9 => Int.fmod c9 _ != 0) ?hh ?F ?N ?m ?i ?z ?_ ?_; (case hh => exact rfl); (case F => k_asm); (case N => k_asm); (case m => k_mem); (case i => assumption); (case z => exact fits_good (by assumption) (by tb_rel) (by assumption))); (first | (intro c1 t1 nw1 C1 oC1 m21 h1 tk1 s1 E1 hNs1 hx1 hC1 hsub1 F1 N1 hg1 ho1) | skip); (try dsimp only); walk_say "COMPSRC"))
local macro_rules | `(tactic| walk_at "eval ListComp") => `(tactic| (k_here; (with_reducible show wpAny _ _ (eval (PySem.Expr.ListComp (PySem.Expr.BinOp _ _ _ _) _ _ _) _) _ _ _); k_dflt (refine LCg.ListComp_U (F₀ := by k_asm) (by with_unfolding_all rfl) (by decide) (by rfl) (by decide) (by rfl) ?_); walk_say "COMPI"))
local macro_rules | `(tactic| walk_at "CompSrc") => `(tactic| (k_here; (with_reducible show LCg.CompSrc _ _ _ _ _ _ _ (PySem.Expr.BinOp _ _ _ _) _ _ _ _ _ _); k_dflt (refine' comp_ints ?hM ?hh ?F ?N ?m ?i ?z ?_ ?_; (case hM => with_reducible assumption); (case hh => exact rfl); (case F => k_asm); (case N => k_asm); (case m => k_mem); (case i => assumption); (case z => exact fits_good (by assumption) (by tb_rel) (by assumption))); all_goals (intros; (try dsimp only)); walk_say "COMPSRCI"))
local macro_rules | `(tactic| walk_at "EltEndI") => `(tactic| (k_dflt (refine' ⟨_, _, rfl, ?F, ?N, _, ?e⟩; (case F => k_asm); (case N => k_asm); (case e => exact rfl)); walk_say "ELTENDI"))
local macro_rules | `(tactic| walk_at "EltEnd") => `(tactic| (k_dflt (refine' ⟨_, _, rfl, ?F, ?N, ?e⟩; (case F => k_asm); (case N => k_asm); (case e => exact rfl)); walk_say "ELTEND"))
local macro_rules | `(tactic| walk_at "call builtin:any") => `(tactic| (k_here; (with_reducible show wpAny _ _ (call (Value.builtin _) [Value.ref _]) _ _ _); k_dflt (refine' my_any0 ?F ?N ?hh ?hl ?hb ?hz ?_; (case hh => exact rfl); (case F => k_asm); (case N => k_asm); (case hl => lsm_list); (case hb => assumption); (case hz => exact (by assumption : _ < _ → ∀ c ∈ _, Int.fmod c _ = 0) (by assumption))); intro h' tk' F' N'; (try k_sweep); walk_say "ANY"))
set_option maxRecDepth 100000 in
set_option maxHeartbeats 8000000 in
theorem st4_11 {w : World} {p : Program} {loose : List Str} {mean : ExcName → Option Value} {mg mb : Str → Option Value} {h₀ : Heap} {L fa : Addr} {cd : Value} {os0 : OsState} {s : Shared} {Q : Flow → Shared → Prop} {E : Value → Shared → Prop}
    (B : Below callerA h₀ [] h₀) (X : (Mine.hd.heap_1 w.params).In h₀) (T : Top p loose mean mg mb h₀) {nx : List (Addr × Obj)}
    (hE9 : PassesOwn (model PySem.Challenge.rw_ay0009_04.row.prog w) (callerA.deeper (envOfC (Str.ofString "law") (lawDef PySem.Challenge.rw_ay0009_04.row.prog).2 L fa cd)) (envOfC (Str.ofString "law") (lawDef PySem.Challenge.rw_ay0009_04.row.prog).2 L fa cd) E) {n : Nat} {tn : Tok} (hn : n = 2 ∨ n = 4) {p : Int} {tp : Tok} (hp : 2 ≤ p) (hpm : p ≤ 257) (hpb : Builtin.Int.intBits p ≤ 100) {kk : Int} {tk : Tok} (hk2 : 2 ≤ kk) (hk8 : kk ≤ 8) {q : Int} {tq : Tok} (hq : 2 ≤ q) (hqb : Builtin.Int.intBits q ≤ 100) {lr : Addr} {rc : List Int} (gr : Good q n rc) {sm gt : Addr} (hs : IsRing w nx sm p n) (hg : IsRing w nx gt q n) {fx gx fi : Addr} {gc : List Int} (hf : IsPoly w nx gt fx rc) {fc : List Int} (hi : IsPoly w nx sm fi fc) (gi : Good p n fc) (hx : IsPoly w nx gt gx gc) {Rel : Int → List Int → Prop} (rel : Rel 1 gc) (R1 : ∀ h G, Rel h G → 1 ≤ h) (RG : ∀ h G, Rel h G → Good q n G) (RA : ∀ h G, Rel h G → h < kk → ∀ c ∈ subI q 1 (mulL q rc G), Int.fmod c (p ^ h.toNat) = 0) (RB : ∀ h G, Rel h G → h < kk → Rel (2 * h) (mulL q G (negL q (subI q 2 (mulL q rc G))))) (RC : ∀ h G, Rel h G → h < kk → ((mulL q G (negL q (subI q 2 (mulL q rc G)))).map fun k' => Int.fmod k' p) = fc) (S : St h₀ L os0 [(Str.ofString "k", .int kk tk), (Str.ofString "row", .ref lr), (Str.ofString "f", .ref fx), (Str.ofString "first", .ref fi), (Str.ofString "g", .ref gx)] [(L + 1, some (.int p tp)), (L + 2, some (.int q tq)), (L + 3, some (.int 1 th))] nx s)
    (k : ∀ s' nx' gx' G h th, Rel h G → kk ≤ h → St h₀ L os0 [(Str.ofString "row", .ref lr), (Str.ofString "f", .ref fx), (Str.ofString "g", .ref gx')] [(L + 1, some (.int p tp)), (L + 2, some (.int q tq)), (L + 3, some (.int h th))] nx' s' → Ext nx nx' → IsPoly w nx' gt gx' G → Q .next s') :
    wpAny (model PySem.Challenge.rw_ay0009_04.row.prog w) (callerA.deeper (envOfC (Str.ofString "law") (lawDef PySem.Challenge.rw_ay0009_04.row.prog).2 L fa cd)) (exec (stm PySem.Challenge.rw_ay0009_04.row.prog 11) (envOfC (Str.ofString "law") (lawDef PySem.Challenge.rw_ay0009_04.row.prog).2 L fa cd)) Q E s := by
  obtain ⟨⟨m0, F⟩, N, ⟨⟨pa, ta, tra⟩, ⟨pc, tc, trc⟩⟩, CL, G, O⟩ := S
  simp only [lk] at F
  have TT : Tabs nx := ⟨⟨_, ta, tra⟩, ⟨_, tc, trc⟩⟩
  have hg' := hg.out
  obtain ⟨dg, t1g, t2g, u1g, u2g, hg1, hg2⟩ := hg'
  have hf' := hf.at_
  obtain ⟨df, lf, t3f, t4f, vf, nf, hf1, hf2, hf3, hf4⟩ := hf'
  have hi' := hi.at_
  obtain ⟨di, li, t3i, t4i, vi, ni, hi1, hi2, hi3, hi4⟩ := hi'
  revert X
  k_fill
  intro X
  conv =>
    arg 3
    arg 1
    whnf
  k_steps
  (all_goals (try k_data))
  all_goals try (exfalso; (rename (¬ List.map _ _ = _) => hb9); exact hb9 (RC _ _ (by assumption) (by assumption)))
  refine' k _ _ _ _ _ _ (by assumption) (by omega) ?Sz1 ?Xz1 ?E0z1
  case Sz1 =>
    refine ⟨fr_lk (by k_asm) _ ?l9z1, ?n9z1, ?t9z1, ?c9z1, ?g9z1, ?o9z1⟩
    case l9z1 => (repeat (first | exact List.forall_mem_nil _ | (refine List.forall_mem_cons.mpr ⟨?_, ?_⟩; exact rfl)))
    case n9z1 => k_asm
    case t9z1 => (repeat (first | with_reducible assumption | refine Tabs.sub ?_ (by with_reducible assumption) | refine Tabs.of1 ?_ (by with_reducible assumption) (by with_reducible assumption) (by with_reducible assumption) | refine Tabs.of2 ?_ (by with_reducible assumption) (by with_reducible assumption) (by with_reducible assumption) | refine Tabs.sub ?_ (fun p hp => List.mem_cons_of_mem _ hp)))
    case c9z1 => first | ((repeat (first | with_reducible assumption | exact Cells.sub (by with_reducible assumption) (fun p hp => List.mem_cons_of_mem _ hp) | exact Cells.sub (by with_reducible assumption) (fun p hp => List.mem_cons_of_mem _ (List.mem_cons_of_mem _ hp)) | exact Cells.sub (by with_reducible assumption) (fun p hp => List.mem_cons_of_mem _ (List.mem_cons_of_mem _ (List.mem_cons_of_mem _ hp))) | exact Cells.sub (by with_reducible assumption) (fun p hp => List.mem_cons_of_mem _ (List.mem_cons_of_mem _ (List.mem_cons_of_mem _ (List.mem_cons_of_mem _ hp)))) | refine Cells.sub ?_ (by with_reducible assumption) | refine Cells.of1 ?_ (by with_reducible assumption) | refine Cells.sub ?_ (fun p hp => List.mem_cons_of_mem _ hp))); done) | ((rename CellsTo _ _ _ _ => hC8); refine hC8 _ ?_; (repeat (first | exact List.forall_mem_nil _ | (refine List.forall_mem_cons.mpr ⟨?_, ?_⟩; first | (refine .inl ?_; exact rfl) | (refine .inr ⟨by simp, ?_⟩; first | exact Nat.ne_of_lt (by omega) | exact Nat.ne_of_gt (by omega))))))
    case g9z1 => first | assumption | exact G
    case o9z1 => (repeat (first | exact O | refine Eq.trans (by with_reducible assumption) ?_))
  case Xz1 => (repeat (first | exact ext_refl | with_reducible assumption | refine ext_trans ?_ (by with_reducible assumption) | refine ext_cons ?_ | refine ext_trans ?_ (ext_of (by with_reducible assumption)) | refine ext_trans ?_ (ext_of1 (by with_reducible assumption))))
  case E0z1 => tb_start

end
section
open Lean.Grind
structure P2 where
  a : Int
  b : Int
structure P4 where
  a : Int
  b : Int
  c : Int
  d : Int
theorem P2.ext' {x y : P2} (h1 : x.a = y.a) (h2 : x.b = y.b) : x = y := by cases x; cases y; simp_all
theorem P4.ext' {x y : P4} (h1 : x.a = y.a) (h2 : x.b = y.b) (h3 : x.c = y.c) (h4 : x.d = y.d) : x = y := by cases x; cases y; simp_all
def P2.mul (x y : P2) : P2 := ⟨x.a * y.a - x.b * y.b, x.a * y.b + x.b * y.a⟩
def P4.mul (x y : P4) : P4 := ⟨x.a * y.a - x.b * y.d - x.c * y.c - x.d * y.b, x.a * y.b + x.b * y.a - x.c * y.d - x.d * y.c, x.a * y.c + x.b * y.b + x.c * y.a - x.d * y.d, x.a * y.d + x.b * y.c + x.c * y.b + x.d * y.a⟩
def P2.pow (x : P2) : Nat → P2
  | 0 => ⟨1, 0⟩
  | n + 1 => (P2.pow x n).mul x
def P4.pow (x : P4) : Nat → P4
  | 0 => ⟨1, 0, 0, 0⟩
  | n + 1 => (P4.pow x n).mul x
abbrev P2.ring : CommRing P2 where
  add x y := ⟨x.a + y.a, x.b + y.b⟩
  mul := P2.mul
  natCast := ⟨fun n => ⟨n, 0⟩⟩
  ofNat n := ⟨⟨n, 0⟩⟩
  nsmul := ⟨fun n x => P2.mul ⟨n, 0⟩ x⟩
  npow := ⟨P2.pow⟩
  add_zero x := P2.ext' (Int.add_zero _) (Int.add_zero _)
  add_comm x y := P2.ext' (Int.add_comm _ _) (Int.add_comm _ _)
  add_assoc x y z := P2.ext' (Int.add_assoc _ _ _) (Int.add_assoc _ _ _)
  mul_assoc x y z := P2.ext' (show (P2.mul (P2.mul x y) z).a = (P2.mul x (P2.mul y z)).a from by simp only [P2.mul]; grind) (show (P2.mul (P2.mul x y) z).b = (P2.mul x (P2.mul y z)).b from by simp only [P2.mul]; grind)
  mul_one x := P2.ext' (show (P2.mul x ⟨1, 0⟩).a = (x).a from by simp only [P2.mul]; grind) (show (P2.mul x ⟨1, 0⟩).b = (x).b from by simp only [P2.mul]; grind)
  one_mul x := P2.ext' (show (P2.mul ⟨1, 0⟩ x).a = (x).a from by simp only [P2.mul]; grind) (show (P2.mul ⟨1, 0⟩ x).b = (x).b from by simp only [P2.mul]; grind)
  left_distrib x y z := P2.ext' (show (P2.mul x ⟨y.a + z.a, y.b + z.b⟩).a = ((⟨(P2.mul x y).a + (P2.mul x z).a, (P2.mul x y).b + (P2.mul x z).b⟩ : P2)).a from by simp only [P2.mul]; grind) (show (P2.mul x ⟨y.a + z.a, y.b + z.b⟩).b = ((⟨(P2.mul x y).a + (P2.mul x z).a, (P2.mul x y).b + (P2.mul x z).b⟩ : P2)).b from by simp only [P2.mul]; grind)
  right_distrib x y z := P2.ext' (show (P2.mul ⟨x.a + y.a, x.b + y.b⟩ z).a = ((⟨(P2.mul x z).a + (P2.mul y z).a, (P2.mul x z).b + (P2.mul y z).b⟩ : P2)).a from by simp only [P2.mul]; grind) (show (P2.mul ⟨x.a + y.a, x.b + y.b⟩ z).b = ((⟨(P2.mul x z).a + (P2.mul y z).a, (P2.mul x z).b + (P2.mul y z).b⟩ : P2)).b from by simp only [P2.mul]; grind)
  zero_mul x := P2.ext' (show (P2.mul ⟨0, 0⟩ x).a = ((⟨0, 0⟩ : P2)).a from by simp only [P2.mul]; grind) (show (P2.mul ⟨0, 0⟩ x).b = ((⟨0, 0⟩ : P2)).b from by simp only [P2.mul]; grind)
  mul_zero x := P2.ext' (show (P2.mul x ⟨0, 0⟩).a = ((⟨0, 0⟩ : P2)).a from by simp only [P2.mul]; grind) (show (P2.mul x ⟨0, 0⟩).b = ((⟨0, 0⟩ : P2)).b from by simp only [P2.mul]; grind)
  pow_zero x := rfl
  pow_succ x n := rfl
  ofNat_succ n := P2.ext' (show ((n + 1 : Nat) : Int) = (n : Int) + 1 from rfl) rfl
  neg x := ⟨-x.a, -x.b⟩
  sub x y := ⟨x.a - y.a, x.b - y.b⟩
  intCast := ⟨fun n => ⟨n, 0⟩⟩
  zsmul := ⟨fun n x => P2.mul ⟨n, 0⟩ x⟩
  neg_add_cancel x := P2.ext' (Int.add_left_neg _) (Int.add_left_neg _)
  sub_eq_add_neg x y := P2.ext' Int.sub_eq_add_neg Int.sub_eq_add_neg
  neg_zsmul i x := P2.ext' (show (P2.mul ⟨-i, 0⟩ x).a = ((⟨-(P2.mul ⟨i, 0⟩ x).a, -(P2.mul ⟨i, 0⟩ x).b⟩ : P2)).a from by simp only [P2.mul]; grind) (show (P2.mul ⟨-i, 0⟩ x).b = ((⟨-(P2.mul ⟨i, 0⟩ x).a, -(P2.mul ⟨i, 0⟩ x).b⟩ : P2)).b from by simp only [P2.mul]; grind)
  intCast_neg i := P2.ext' rfl (show (0:Int) = -0 from rfl)
  mul_comm x y := P2.ext' (show (P2.mul x y).a = (P2.mul y x).a from by simp only [P2.mul]; grind) (show (P2.mul x y).b = (P2.mul y x).b from by simp only [P2.mul]; grind)
abbrev P4.ring : CommRing P4 where
  add x y := ⟨x.a + y.a, x.b + y.b, x.c + y.c, x.d + y.d⟩
  mul := P4.mul
  natCast := ⟨fun n => ⟨n, 0, 0, 0⟩⟩
  ofNat n := ⟨⟨n, 0, 0, 0⟩⟩
  nsmul := ⟨fun n x => P4.mul ⟨n, 0, 0, 0⟩ x⟩
  npow := ⟨P4.pow⟩
  add_zero x := P4.ext' (Int.add_zero _) (Int.add_zero _) (Int.add_zero _) (Int.add_zero _)
  add_comm x y := P4.ext' (Int.add_comm _ _) (Int.add_comm _ _) (Int.add_comm _ _) (Int.add_comm _ _)
  add_assoc x y z := P4.ext' (Int.add_assoc _ _ _) (Int.add_assoc _ _ _) (Int.add_assoc _ _ _) (Int.add_assoc _ _ _)
  mul_assoc x y z := P4.ext' (show (P4.mul (P4.mul x y) z).a = (P4.mul x (P4.mul y z)).a from by simp only [P4.mul]; grind) (show (P4.mul (P4.mul x y) z).b = (P4.mul x (P4.mul y z)).b from by simp only [P4.mul]; grind) (show (P4.mul (P4.mul x y) z).c = (P4.mul x (P4.mul y z)).c from by simp only [P4.mul]; grind) (show (P4.mul (P4.mul x y) z).d = (P4.mul x (P4.mul y z)).d from by simp only [P4.mul]; grind)
  mul_one x := P4.ext' (show (P4.mul x ⟨1, 0, 0, 0⟩).a = (x).a from by simp only [P4.mul]; grind) (show (P4.mul x ⟨1, 0, 0, 0⟩).b = (x).b from by simp only [P4.mul]; grind) (show (P4.mul x ⟨1, 0, 0, 0⟩).c = (x).c from by simp only [P4.mul]; grind) (show (P4.mul x ⟨1, 0, 0, 0⟩).d = (x).d from by simp only [P4.mul]; grind)
  one_mul x := P4.ext' (show (P4.mul ⟨1, 0, 0, 0⟩ x).a = (x).a from by simp only [P4.mul]; grind) (show (P4.mul ⟨1, 0, 0, 0⟩ x).b = (x).b from by simp only [P4.mul]; grind) (show (P4.mul ⟨1, 0, 0, 0⟩ x).c = (x).c from by simp only [P4.mul]; grind) (show (P4.mul ⟨1, 0, 0, 0⟩ x).d = (x).d from by simp only [P4.mul]; grind)
  left_distrib x y z := P4.ext' (show (P4.mul x ⟨y.a + z.a, y.b + z.b, y.c + z.c, y.d + z.d⟩).a = ((⟨(P4.mul x y).a + (P4.mul x z).a, (P4.mul x y).b + (P4.mul x z).b, (P4.mul x y).c + (P4.mul x z).c, (P4.mul x y).d + (P4.mul x z).d⟩ : P4)).a from by simp only [P4.mul]; grind) (show (P4.mul x ⟨y.a + z.a, y.b + z.b, y.c + z.c, y.d + z.d⟩).b = ((⟨(P4.mul x y).a + (P4.mul x z).a, (P4.mul x y).b + (P4.mul x z).b, (P4.mul x y).c + (P4.mul x z).c, (P4.mul x y).d + (P4.mul x z).d⟩ : P4)).b from by simp only [P4.mul]; grind) (show (P4.mul x ⟨y.a + z.a, y.b + z.b, y.c + z.c, y.d + z.d⟩).c = ((⟨(P4.mul x y).a + (P4.mul x z).a, (P4.mul x y).b + (P4.mul x z).b, (P4.mul x y).c + (P4.mul x z).c, (P4.mul x y).d + (P4.mul x z).d⟩ : P4)).c from by simp only [P4.mul]; grind) (show (P4.mul x ⟨y.a + z.a, y.b + z.b, y.c + z.c, y.d + z.d⟩).d = ((⟨(P4.mul x y).a + (P4.mul x z).a, (P4.mul x y).b + (P4.mul x z).b, (P4.mul x y).c + (P4.mul x z).c, (P4.mul x y).d + (P4.mul x z).d⟩ : P4)).d from by simp only [P4.mul]; grind)
  right_distrib x y z := P4.ext' (show (P4.mul ⟨x.a + y.a, x.b + y.b, x.c + y.c, x.d + y.d⟩ z).a = ((⟨(P4.mul x z).a + (P4.mul y z).a, (P4.mul x z).b + (P4.mul y z).b, (P4.mul x z).c + (P4.mul y z).c, (P4.mul x z).d + (P4.mul y z).d⟩ : P4)).a from by simp only [P4.mul]; grind) (show (P4.mul ⟨x.a + y.a, x.b + y.b, x.c + y.c, x.d + y.d⟩ z).b = ((⟨(P4.mul x z).a + (P4.mul y z).a, (P4.mul x z).b + (P4.mul y z).b, (P4.mul x z).c + (P4.mul y z).c, (P4.mul x z).d + (P4.mul y z).d⟩ : P4)).b from by simp only [P4.mul]; grind) (show (P4.mul ⟨x.a + y.a, x.b + y.b, x.c + y.c, x.d + y.d⟩ z).c = ((⟨(P4.mul x z).a + (P4.mul y z).a, (P4.mul x z).b + (P4.mul y z).b, (P4.mul x z).c + (P4.mul y z).c, (P4.mul x z).d + (P4.mul y z).d⟩ : P4)).c from by simp only [P4.mul]; grind) (show (P4.mul ⟨x.a + y.a, x.b + y.b, x.c + y.c, x.d + y.d⟩ z).d = ((⟨(P4.mul x z).a + (P4.mul y z).a, (P4.mul x z).b + (P4.mul y z).b, (P4.mul x z).c + (P4.mul y z).c, (P4.mul x z).d + (P4.mul y z).d⟩ : P4)).d from by simp only [P4.mul]; grind)
  zero_mul x := P4.ext' (show (P4.mul ⟨0, 0, 0, 0⟩ x).a = ((⟨0, 0, 0, 0⟩ : P4)).a from by simp only [P4.mul]; grind) (show (P4.mul ⟨0, 0, 0, 0⟩ x).b = ((⟨0, 0, 0, 0⟩ : P4)).b from by simp only [P4.mul]; grind) (show (P4.mul ⟨0, 0, 0, 0⟩ x).c = ((⟨0, 0, 0, 0⟩ : P4)).c from by simp only [P4.mul]; grind) (show (P4.mul ⟨0, 0, 0, 0⟩ x).d = ((⟨0, 0, 0, 0⟩ : P4)).d from by simp only [P4.mul]; grind)
  mul_zero x := P4.ext' (show (P4.mul x ⟨0, 0, 0, 0⟩).a = ((⟨0, 0, 0, 0⟩ : P4)).a from by simp only [P4.mul]; grind) (show (P4.mul x ⟨0, 0, 0, 0⟩).b = ((⟨0, 0, 0, 0⟩ : P4)).b from by simp only [P4.mul]; grind) (show (P4.mul x ⟨0, 0, 0, 0⟩).c = ((⟨0, 0, 0, 0⟩ : P4)).c from by simp only [P4.mul]; grind) (show (P4.mul x ⟨0, 0, 0, 0⟩).d = ((⟨0, 0, 0, 0⟩ : P4)).d from by simp only [P4.mul]; grind)
  pow_zero x := rfl
  pow_succ x n := rfl
  ofNat_succ n := P4.ext' (show ((n + 1 : Nat) : Int) = (n : Int) + 1 from rfl) rfl rfl rfl
  neg x := ⟨-x.a, -x.b, -x.c, -x.d⟩
  sub x y := ⟨x.a - y.a, x.b - y.b, x.c - y.c, x.d - y.d⟩
  intCast := ⟨fun n => ⟨n, 0, 0, 0⟩⟩
  zsmul := ⟨fun n x => P4.mul ⟨n, 0, 0, 0⟩ x⟩
  neg_add_cancel x := P4.ext' (Int.add_left_neg _) (Int.add_left_neg _) (Int.add_left_neg _) (Int.add_left_neg _)
  sub_eq_add_neg x y := P4.ext' Int.sub_eq_add_neg Int.sub_eq_add_neg Int.sub_eq_add_neg Int.sub_eq_add_neg
  neg_zsmul i x := P4.ext' (show (P4.mul ⟨-i, 0, 0, 0⟩ x).a = ((⟨-(P4.mul ⟨i, 0, 0, 0⟩ x).a, -(P4.mul ⟨i, 0, 0, 0⟩ x).b, -(P4.mul ⟨i, 0, 0, 0⟩ x).c, -(P4.mul ⟨i, 0, 0, 0⟩ x).d⟩ : P4)).a from by simp only [P4.mul]; grind) (show (P4.mul ⟨-i, 0, 0, 0⟩ x).b = ((⟨-(P4.mul ⟨i, 0, 0, 0⟩ x).a, -(P4.mul ⟨i, 0, 0, 0⟩ x).b, -(P4.mul ⟨i, 0, 0, 0⟩ x).c, -(P4.mul ⟨i, 0, 0, 0⟩ x).d⟩ : P4)).b from by simp only [P4.mul]; grind) (show (P4.mul ⟨-i, 0, 0, 0⟩ x).c = ((⟨-(P4.mul ⟨i, 0, 0, 0⟩ x).a, -(P4.mul ⟨i, 0, 0, 0⟩ x).b, -(P4.mul ⟨i, 0, 0, 0⟩ x).c, -(P4.mul ⟨i, 0, 0, 0⟩ x).d⟩ : P4)).c from by simp only [P4.mul]; grind) (show (P4.mul ⟨-i, 0, 0, 0⟩ x).d = ((⟨-(P4.mul ⟨i, 0, 0, 0⟩ x).a, -(P4.mul ⟨i, 0, 0, 0⟩ x).b, -(P4.mul ⟨i, 0, 0, 0⟩ x).c, -(P4.mul ⟨i, 0, 0, 0⟩ x).d⟩ : P4)).d from by simp only [P4.mul]; grind)
  intCast_neg i := P4.ext' rfl (show (0:Int) = -0 from rfl) (show (0:Int) = -0 from rfl) (show (0:Int) = -0 from rfl)
  mul_comm x y := P4.ext' (show (P4.mul x y).a = (P4.mul y x).a from by simp only [P4.mul]; grind) (show (P4.mul x y).b = (P4.mul y x).b from by simp only [P4.mul]; grind) (show (P4.mul x y).c = (P4.mul y x).c from by simp only [P4.mul]; grind) (show (P4.mul x y).d = (P4.mul y x).d from by simp only [P4.mul]; grind)

end
section
abbrev ic {R : Type} [Lean.Grind.CommRing R] (z : Int) : R := (Lean.Grind.Ring.intCast (α := R)).intCast z
open Lean.Grind in
structure IsKit (n : Nat) {R : Type} [CommRing R] (φ : List Int → R) (N : R → Int) (X : R) : Prop where
  mulL : ∀ (q : Int) (a b : List Int), a.length = n → b.length = n → ∃ z, φ (mulL q a b) = φ a * φ b + ic q * z
  addI : ∀ (q v : Int) (a : List Int), a.length = n → ∃ z, φ (addI q v a) = φ a + ic v + ic q * z
  one : φ (oneL n) = 1
  gen : φ (0 :: 1 :: List.replicate (n - 2) 0) = X
  norm : ∀ a : List Int, a.length = n → normL a = N (φ a)
  Nmul : ∀ x y, N (x * y) = N x * N y
  N1 : N 1 = 1
  conj : ∀ x, ∃ y, x * y = ic (N x)
  Nmod : ∀ x (q : Int) z, ∃ k, N (x + ic q * z) = N x + q * k
  cong : ∀ (q : Int) (a b : List Int), Good q n a → Good q n b → (∃ z, φ a = φ b + ic q * z) → a = b
  eqI : ∀ (q v : Int) (a : List Int), 0 < q → Good q n a → (eqI q v a = true ↔ ∃ z, φ a = ic v + ic q * z)
  zero : ∀ (q : Int) (a : List Int), Good q n a → (a.all (· == 0) = true ↔ ∃ z, φ a = ic q * z)
def φ2 : List Int → P2
  | [a, b] => ⟨a, b⟩
  | _ => ⟨0, 0⟩
def φ4 : List Int → P4
  | [a, b, c, d] => ⟨a, b, c, d⟩
  | _ => ⟨0, 0, 0, 0⟩
def N2 (x : P2) : Int := x.a * x.a + x.b * x.b
def P4.u (x : P4) : Int := x.a * x.a - x.c * x.c + 2 * (x.b * x.d)
def P4.v (x : P4) : Int := 2 * (x.a * x.c) - x.b * x.b + x.d * x.d
def N4 (x : P4) : Int := x.u * x.u + x.v * x.v
theorem emod_ex (q a : Int) : ∃ t, a % q = a + q * t := ⟨-(a / q), by rw [Int.emod_def]; grind⟩
theorem red_eq {q a b t : Int} (h1 : 0 ≤ a ∧ a < q) (h2 : 0 ≤ b ∧ b < q) (e : a = b + q * t) : a = b := by
  have h3 := Int.emod_eq_of_lt h1.1 h1.2
  have h4 := Int.emod_eq_of_lt h2.1 h2.2
  rw [← h3, ← h4, e, Int.add_mul_emod_self_left]
theorem kit2 : @IsKit 2 P2 P2.ring φ2 N2 ⟨0, 1⟩ := by
  letI := P2.ring
  refine @IsKit.mk 2 P2 P2.ring φ2 N2 ⟨0, 1⟩ ?_ ?_ ?_ ?_ ?_ ?_ ?_ ?_ ?_ ?_ ?_ ?_
  · intro q a b ha hb
    obtain ⟨a0, a1, rfl⟩ := len_two ha
    obtain ⟨b0, b1, rfl⟩ := len_two hb
    obtain ⟨t0, h0⟩ := emod_ex q (a0 * b0 - a1 * b1)
    obtain ⟨t1, h1⟩ := emod_ex q (a0 * b1 + a1 * b0)
    refine ⟨⟨t0, t1⟩, P2.ext' ?_ ?_⟩
    · show (a0 * b0 - a1 * b1) % q = (a0 * b0 - a1 * b1) + (q * t0 - 0 * t1)
      rw [h0]; grind
    · show (a0 * b1 + a1 * b0) % q = (a0 * b1 + a1 * b0) + (q * t1 + 0 * t0)
      rw [h1]; grind
  · intro q v a ha
    obtain ⟨a0, a1, rfl⟩ := len_two ha
    obtain ⟨t0, h0⟩ := emod_ex q (a0 + v)
    refine ⟨⟨t0, 0⟩, P2.ext' ?_ ?_⟩
    · show (a0 + v) % q = a0 + v + (q * t0 - 0 * 0)
      rw [h0]; grind
    · show a1 = a1 + 0 + (q * 0 + 0 * t0)
      grind
  · rfl
  · rfl
  · intro a ha
    obtain ⟨a0, a1, rfl⟩ := len_two ha
    rfl
  · intro x y
    show (P2.mul x y).a * (P2.mul x y).a + (P2.mul x y).b * (P2.mul x y).b = (x.a * x.a + x.b * x.b) * (y.a * y.a + y.b * y.b)
    simp only [P2.mul]; grind
  · rfl
  · intro x
    refine ⟨⟨x.a, -x.b⟩, P2.ext' ?_ ?_⟩
    · show x.a * x.a - x.b * (-x.b) = x.a * x.a + x.b * x.b
      grind
    · show x.a * (-x.b) + x.b * x.a = 0
      grind
  · intro x q z
    refine ⟨2 * (x.a * z.a + x.b * z.b) + q * (z.a * z.a + z.b * z.b), ?_⟩
    show (x.a + (q * z.a - 0 * z.b)) * (x.a + (q * z.a - 0 * z.b)) + (x.b + (q * z.b + 0 * z.a)) * (x.b + (q * z.b + 0 * z.a)) = x.a * x.a + x.b * x.b + _
    grind
  · rintro q a b ga gb ⟨z, h⟩
    obtain ⟨a0, a1, rfl⟩ := ga.two
    obtain ⟨b0, b1, rfl⟩ := gb.two
    have e0 : a0 = b0 + (q * z.a - 0 * z.b) := congrArg P2.a h
    have e1 : a1 = b1 + (q * z.b + 0 * z.a) := congrArg P2.b h
    rw [red_eq (ga.red a0 (by simp)) (gb.red b0 (by simp)) (t := z.a) (by rw [e0]; grind), red_eq (ga.red a1 (by simp)) (gb.red b1 (by simp)) (t := z.b) (by rw [e1]; grind)]
  · intro q v a hq ga
    obtain ⟨a0, a1, rfl⟩ := ga.two
    have g0 := ga.red a0 (by simp)
    have g1 := ga.red a1 (by simp)
    obtain ⟨t0, h0⟩ := emod_ex q v
    have hv : 0 ≤ v % q ∧ v % q < q := ⟨Int.emod_nonneg _ (by omega), Int.emod_lt_of_pos _ hq⟩
    simp only [Mine.eqI, List.all_cons, List.all_nil, Bool.and_true, Bool.and_eq_true, beq_iff_eq]
    constructor
    · rintro ⟨rfl, h⟩
      refine ⟨⟨t0, 0⟩, P2.ext' ?_ ?_⟩
      · show a0 = v + (q * t0 - 0 * 0)
        rw [← h, h0]; grind
      · show (0:Int) = 0 + (q * 0 + 0 * t0)
        grind
    · rintro ⟨z, h⟩
      have e0 : a0 = v + (q * z.a - 0 * z.b) := congrArg P2.a h
      have e1 : a1 = 0 + (q * z.b + 0 * z.a) := congrArg P2.b h
      refine ⟨red_eq g1 ⟨Int.le_refl 0, hq⟩ (t := z.b) (by rw [e1]; grind), red_eq hv g0 (t := t0 - z.a) (by rw [h0, e0]; grind)⟩
  · intro q a ga
    obtain ⟨a0, a1, rfl⟩ := ga.two
    have g0 := ga.red a0 (by simp)
    have g1 := ga.red a1 (by simp)
    simp only [List.all_cons, List.all_nil, Bool.and_true, Bool.and_eq_true, beq_iff_eq]
    constructor
    · rintro ⟨rfl, rfl⟩
      exact ⟨⟨0, 0⟩, P2.ext' (show (0:Int) = q * 0 - 0 * 0 by simp) (show (0:Int) = q * 0 + 0 * 0 by simp)⟩
    · rintro ⟨z, h⟩
      have e0 : a0 = (q * z.a - 0 * z.b) := congrArg P2.a h
      have e1 : a1 = (q * z.b + 0 * z.a) := congrArg P2.b h
      have hq : 0 < q := by omega
      exact ⟨red_eq g0 ⟨Int.le_refl 0, hq⟩ (t := z.a) (by rw [e0]; grind), red_eq g1 ⟨Int.le_refl 0, hq⟩ (t := z.b) (by rw [e1]; grind)⟩
theorem P4.u_mul (x y : P4) : (P4.mul x y).u = x.u * y.u - x.v * y.v := by simp only [P4.mul, P4.u, P4.v]; grind
theorem P4.v_mul (x y : P4) : (P4.mul x y).v = x.u * y.v + x.v * y.u := by simp only [P4.mul, P4.u, P4.v]; grind
theorem kit4 : @IsKit 4 P4 P4.ring φ4 N4 ⟨0, 1, 0, 0⟩ := by
  letI := P4.ring
  refine @IsKit.mk 4 P4 P4.ring φ4 N4 ⟨0, 1, 0, 0⟩ ?_ ?_ ?_ ?_ ?_ ?_ ?_ ?_ ?_ ?_ ?_ ?_
  · intro q a b ha hb
    obtain ⟨a0, a1, a2, a3, rfl⟩ := len_four ha
    obtain ⟨b0, b1, b2, b3, rfl⟩ := len_four hb
    obtain ⟨t0, h0⟩ := emod_ex q (a0 * b0 - a1 * b3 - a2 * b2 - a3 * b1)
    obtain ⟨t1, h1⟩ := emod_ex q (a0 * b1 + a1 * b0 - a2 * b3 - a3 * b2)
    obtain ⟨t2, h2⟩ := emod_ex q (a0 * b2 + a1 * b1 + a2 * b0 - a3 * b3)
    obtain ⟨t3, h3⟩ := emod_ex q (a0 * b3 + a1 * b2 + a2 * b1 + a3 * b0)
    refine ⟨⟨t0, t1, t2, t3⟩, P4.ext' ?_ ?_ ?_ ?_⟩
    · show (a0 * b0 - a1 * b3 - a2 * b2 - a3 * b1) % q = (a0 * b0 - a1 * b3 - a2 * b2 - a3 * b1) + (q * t0 - 0 * t3 - 0 * t2 - 0 * t1)
      rw [h0]; grind
    · show (a0 * b1 + a1 * b0 - a2 * b3 - a3 * b2) % q = (a0 * b1 + a1 * b0 - a2 * b3 - a3 * b2) + (q * t1 + 0 * t0 - 0 * t3 - 0 * t2)
      rw [h1]; grind
    · show (a0 * b2 + a1 * b1 + a2 * b0 - a3 * b3) % q = (a0 * b2 + a1 * b1 + a2 * b0 - a3 * b3) + (q * t2 + 0 * t1 + 0 * t0 - 0 * t3)
      rw [h2]; grind
    · show (a0 * b3 + a1 * b2 + a2 * b1 + a3 * b0) % q = (a0 * b3 + a1 * b2 + a2 * b1 + a3 * b0) + (q * t3 + 0 * t2 + 0 * t1 + 0 * t0)
      rw [h3]; grind
  · intro q v a ha
    obtain ⟨a0, a1, a2, a3, rfl⟩ := len_four ha
    obtain ⟨t0, h0⟩ := emod_ex q (a0 + v)
    refine ⟨⟨t0, 0, 0, 0⟩, P4.ext' ?_ ?_ ?_ ?_⟩
    · show (a0 + v) % q = a0 + v + (q * t0 - 0 * 0 - 0 * 0 - 0 * 0)
      rw [h0]; grind
    · show a1 = a1 + 0 + (q * 0 + 0 * t0 - 0 * 0 - 0 * 0)
      grind
    · show a2 = a2 + 0 + (q * 0 + 0 * 0 + 0 * t0 - 0 * 0)
      grind
    · show a3 = a3 + 0 + (q * 0 + 0 * 0 + 0 * 0 + 0 * t0)
      grind
  · rfl
  · rfl
  · intro a ha
    obtain ⟨a0, a1, a2, a3, rfl⟩ := len_four ha
    rfl
  · intro x y
    show (P4.mul x y).u * (P4.mul x y).u + (P4.mul x y).v * (P4.mul x y).v = (x.u * x.u + x.v * x.v) * (y.u * y.u + y.v * y.v)
    rw [P4.u_mul, P4.v_mul]; grind
  · rfl
  · intro x
    -- x(X) x(-X) = u + v X^2; times u - v X^2
    refine ⟨P4.mul ⟨x.a, -x.b, x.c, -x.d⟩ ⟨x.u, 0, -x.v, 0⟩, P4.ext' ?_ ?_ ?_ ?_⟩
    · show (P4.mul x (P4.mul ⟨x.a, -x.b, x.c, -x.d⟩ ⟨x.u, 0, -x.v, 0⟩)).a = x.u * x.u + x.v * x.v
      simp only [P4.mul, P4.u, P4.v]; grind
    · show (P4.mul x (P4.mul ⟨x.a, -x.b, x.c, -x.d⟩ ⟨x.u, 0, -x.v, 0⟩)).b = 0
      simp only [P4.mul, P4.u, P4.v]; grind
    · show (P4.mul x (P4.mul ⟨x.a, -x.b, x.c, -x.d⟩ ⟨x.u, 0, -x.v, 0⟩)).c = 0
      simp only [P4.mul, P4.u, P4.v]; grind
    · show (P4.mul x (P4.mul ⟨x.a, -x.b, x.c, -x.d⟩ ⟨x.u, 0, -x.v, 0⟩)).d = 0
      simp only [P4.mul, P4.u, P4.v]; grind
  · intro x q z
    have e1 : (P4.mk (x.a + (q * z.a - 0 * z.d - 0 * z.c - 0 * z.b)) (x.b + (q * z.b + 0 * z.a - 0 * z.d - 0 * z.c)) (x.c + (q * z.c + 0 * z.b + 0 * z.a - 0 * z.d)) (x.d + (q * z.d + 0 * z.c + 0 * z.b + 0 * z.a))).u = x.u + q * (2 * x.a * z.a + q * (z.a * z.a) - 2 * x.c * z.c - q * (z.c * z.c) + 2 * (x.b * z.d + z.b * x.d) + 2 * q * (z.b * z.d)) := by
      simp only [P4.u]; grind
    have e2 : (P4.mk (x.a + (q * z.a - 0 * z.d - 0 * z.c - 0 * z.b)) (x.b + (q * z.b + 0 * z.a - 0 * z.d - 0 * z.c)) (x.c + (q * z.c + 0 * z.b + 0 * z.a - 0 * z.d)) (x.d + (q * z.d + 0 * z.c + 0 * z.b + 0 * z.a))).v = x.v + q * (2 * (x.a * z.c + z.a * x.c) + 2 * q * (z.a * z.c) - 2 * x.b * z.b - q * (z.b * z.b) + 2 * x.d * z.d + q * (z.d * z.d)) := by
      simp only [P4.v]; grind
    generalize (2 * x.a * z.a + q * (z.a * z.a) - 2 * x.c * z.c - q * (z.c * z.c) + 2 * (x.b * z.d + z.b * x.d) + 2 * q * (z.b * z.d)) = U at e1
    generalize (2 * (x.a * z.c + z.a * x.c) + 2 * q * (z.a * z.c) - 2 * x.b * z.b - q * (z.b * z.b) + 2 * x.d * z.d + q * (z.d * z.d)) = W at e2
    refine ⟨2 * x.u * U + q * (U * U) + 2 * x.v * W + q * (W * W), ?_⟩
    show (P4.mk (x.a + (q * z.a - 0 * z.d - 0 * z.c - 0 * z.b)) (x.b + (q * z.b + 0 * z.a - 0 * z.d - 0 * z.c)) (x.c + (q * z.c + 0 * z.b + 0 * z.a - 0 * z.d)) (x.d + (q * z.d + 0 * z.c + 0 * z.b + 0 * z.a))).u * (P4.mk (x.a + (q * z.a - 0 * z.d - 0 * z.c - 0 * z.b)) (x.b + (q * z.b + 0 * z.a - 0 * z.d - 0 * z.c)) (x.c + (q * z.c + 0 * z.b + 0 * z.a - 0 * z.d)) (x.d + (q * z.d + 0 * z.c + 0 * z.b + 0 * z.a))).u + (P4.mk (x.a + (q * z.a - 0 * z.d - 0 * z.c - 0 * z.b)) (x.b + (q * z.b + 0 * z.a - 0 * z.d - 0 * z.c)) (x.c + (q * z.c + 0 * z.b + 0 * z.a - 0 * z.d)) (x.d + (q * z.d + 0 * z.c + 0 * z.b + 0 * z.a))).v * (P4.mk (x.a + (q * z.a - 0 * z.d - 0 * z.c - 0 * z.b)) (x.b + (q * z.b + 0 * z.a - 0 * z.d - 0 * z.c)) (x.c + (q * z.c + 0 * z.b + 0 * z.a - 0 * z.d)) (x.d + (q * z.d + 0 * z.c + 0 * z.b + 0 * z.a))).v = x.u * x.u + x.v * x.v + _
    rw [e1, e2]
    grind
  · rintro q a b ga gb ⟨z, h⟩
    obtain ⟨a0, a1, a2, a3, rfl⟩ := ga.four
    obtain ⟨b0, b1, b2, b3, rfl⟩ := gb.four
    have e0 : a0 = b0 + (q * z.a - 0 * z.d - 0 * z.c - 0 * z.b) := congrArg P4.a h
    have e1 : a1 = b1 + (q * z.b + 0 * z.a - 0 * z.d - 0 * z.c) := congrArg P4.b h
    have e2 : a2 = b2 + (q * z.c + 0 * z.b + 0 * z.a - 0 * z.d) := congrArg P4.c h
    have e3 : a3 = b3 + (q * z.d + 0 * z.c + 0 * z.b + 0 * z.a) := congrArg P4.d h
    rw [red_eq (ga.red a0 (by simp)) (gb.red b0 (by simp)) (t := z.a) (by rw [e0]; grind), red_eq (ga.red a1 (by simp)) (gb.red b1 (by simp)) (t := z.b) (by rw [e1]; grind),
      red_eq (ga.red a2 (by simp)) (gb.red b2 (by simp)) (t := z.c) (by rw [e2]; grind), red_eq (ga.red a3 (by simp)) (gb.red b3 (by simp)) (t := z.d) (by rw [e3]; grind)]
  · intro q v a hq ga
    obtain ⟨a0, a1, a2, a3, rfl⟩ := ga.four
    have g0 := ga.red a0 (by simp)
    have g1 := ga.red a1 (by simp)
    have g2 := ga.red a2 (by simp)
    have g3 := ga.red a3 (by simp)
    obtain ⟨t0, h0⟩ := emod_ex q v
    have hv : 0 ≤ v % q ∧ v % q < q := ⟨Int.emod_nonneg _ (by omega), Int.emod_lt_of_pos _ hq⟩
    simp only [Mine.eqI, List.all_cons, List.all_nil, Bool.and_true, Bool.and_eq_true, beq_iff_eq]
    constructor
    · rintro ⟨⟨rfl, rfl, rfl⟩, h⟩
      refine ⟨⟨t0, 0, 0, 0⟩, P4.ext' ?_ ?_ ?_ ?_⟩
      · show a0 = v + (q * t0 - 0 * 0 - 0 * 0 - 0 * 0)
        rw [← h, h0]; grind
      · show (0:Int) = 0 + (q * 0 + 0 * t0 - 0 * 0 - 0 * 0)
        grind
      · show (0:Int) = 0 + (q * 0 + 0 * 0 + 0 * t0 - 0 * 0)
        grind
      · show (0:Int) = 0 + (q * 0 + 0 * 0 + 0 * 0 + 0 * t0)
        grind
    · rintro ⟨z, h⟩
      have e0 : a0 = v + (q * z.a - 0 * z.d - 0 * z.c - 0 * z.b) := congrArg P4.a h
      have e1 : a1 = 0 + (q * z.b + 0 * z.a - 0 * z.d - 0 * z.c) := congrArg P4.b h
      have e2 : a2 = 0 + (q * z.c + 0 * z.b + 0 * z.a - 0 * z.d) := congrArg P4.c h
      have e3 : a3 = 0 + (q * z.d + 0 * z.c + 0 * z.b + 0 * z.a) := congrArg P4.d h
      have z0 : 0 ≤ (0:Int) ∧ 0 < q := ⟨Int.le_refl 0, hq⟩
      exact ⟨⟨red_eq g1 z0 (t := z.b) (by rw [e1]; grind), red_eq g2 z0 (t := z.c) (by rw [e2]; grind), red_eq g3 z0 (t := z.d) (by rw [e3]; grind)⟩, red_eq hv g0 (t := t0 - z.a) (by rw [h0, e0]; grind)⟩
  · intro q a ga
    obtain ⟨a0, a1, a2, a3, rfl⟩ := ga.four
    have g0 := ga.red a0 (by simp)
    have g1 := ga.red a1 (by simp)
    have g2 := ga.red a2 (by simp)
    have g3 := ga.red a3 (by simp)
    have z0 : 0 ≤ (0:Int) ∧ 0 < q := ⟨Int.le_refl 0, by omega⟩
    simp only [List.all_cons, List.all_nil, Bool.and_true, Bool.and_eq_true, beq_iff_eq]
    constructor
    · rintro ⟨rfl, rfl, rfl, rfl⟩
      exact ⟨⟨0, 0, 0, 0⟩, P4.ext' (show (0:Int) = q * 0 - 0 * 0 - 0 * 0 - 0 * 0 by simp) (show (0:Int) = q * 0 + 0 * 0 - 0 * 0 - 0 * 0 by simp) (show (0:Int) = q * 0 + 0 * 0 + 0 * 0 - 0 * 0 by simp) (show (0:Int) = q * 0 + 0 * 0 + 0 * 0 + 0 * 0 by simp)⟩
    · rintro ⟨z, h⟩
      have e0 : a0 = (q * z.a - 0 * z.d - 0 * z.c - 0 * z.b) := congrArg P4.a h
      have e1 : a1 = (q * z.b + 0 * z.a - 0 * z.d - 0 * z.c) := congrArg P4.b h
      have e2 : a2 = (q * z.c + 0 * z.b + 0 * z.a - 0 * z.d) := congrArg P4.c h
      have e3 : a3 = (q * z.d + 0 * z.c + 0 * z.b + 0 * z.a) := congrArg P4.d h
      exact ⟨red_eq g0 z0 (t := z.a) (by rw [e0]; grind), red_eq g1 z0 (t := z.b) (by rw [e1]; grind), red_eq g2 z0 (t := z.c) (by rw [e2]; grind), red_eq g3 z0 (t := z.d) (by rw [e3]; grind)⟩

end
section
section
open Lean.Grind
variable {n : Nat} {R : Type} [CommRing R] {φ : List Int → R} {N : R → Int} {X : R}
theorem ic_mul (a b : Int) : (ic (a * b) : R) = ic a * ic b := Ring.intCast_mul a b
theorem ic_add (a b : Int) : (ic (a + b) : R) = ic a + ic b := Ring.intCast_add a b
theorem ic_one : (ic 1 : R) = 1 := Ring.intCast_one
theorem ic_zero : (ic 0 : R) = 0 := Ring.intCast_zero
theorem ic_pow (a : Int) (k : Nat) : (ic (a ^ k) : R) = ic a ^ k := Ring.intCast_pow a k
theorem ic_neg (a : Int) : (ic (-a) : R) = - ic a := Ring.intCast_neg a
theorem ic_two : (ic 2 : R) = 2 := Ring.intCast_ofNat 2
theorem r_mul_pow (x y : R) (k : Nat) : (x * y) ^ k = x ^ k * y ^ k := CommSemiring.mul_pow x y k
theorem r_pow_mul (x : R) (a : Nat) : ∀ b : Nat, x ^ (a * b) = (x ^ a) ^ b
  | 0 => by rw [Nat.mul_zero, Semiring.pow_zero, Semiring.pow_zero]
  | b + 1 => by rw [Nat.mul_succ, Semiring.pow_add, r_pow_mul x a b, Semiring.pow_succ]
theorem r_one_pow (k : Nat) : (1 : R) ^ k = 1 := by
  induction k with
  | zero => exact Semiring.pow_zero _
  | succ k ih => rw [Semiring.pow_succ, ih, Semiring.mul_one]
theorem powSM_spec (K : IsKit n φ N X) (hn : n = 2 ∨ n = 4) (q : Int) : ∀ (k : Nat) (f g : List Int), f.length = n → g.length = n → ∃ z, φ (powSM q k f g) = φ g * φ f ^ k + ic q * z := by
  intro k
  induction k using Nat.strongRecOn with
  | _ k ih =>
    intro f g hf hg
    by_cases h0 : k = 0
    · subst h0
      rw [powSM_zero]
      exact ⟨0, by rw [Semiring.pow_zero]; grind⟩
    · obtain ⟨z1, h1⟩ := K.mulL q f f hf hf
      by_cases h1 : k % 2 = 1
      · rw [powSM_odd h1]
        obtain ⟨z2, h2⟩ := K.mulL q g f hg hf
        obtain ⟨z3, h3⟩ := ih (k / 2) (by omega) (mulL q f f) (mulL q g f) (mulL_len hn hf hf) (mulL_len hn hg hf)
        obtain ⟨z4, h4⟩ := pow_cong (φ f * φ f) z1 (ic q) (k / 2)
        rename_i h1'
        refine ⟨φ g * φ f * z4 + z2 * (φ f * φ f + ic q * z1) ^ (k / 2) + z3, ?_⟩
        rw [h3, h2, h1', h4]
        have e : φ f ^ k = φ f * (φ f * φ f) ^ (k / 2) := by
          have : k = 1 + 2 * (k / 2) := by omega
          conv => lhs; rw [this, Semiring.pow_add, r_pow_mul]
          have e2 : φ f ^ 2 = φ f * φ f := by grind
          have e1 : φ f ^ 1 = φ f := by grind
          rw [e2, e1]
        rw [e]
        grind
      · rw [powSM_even h0 h1]
        obtain ⟨z3, h3⟩ := ih (k / 2) (by omega) (mulL q f f) g (mulL_len hn hf hf) hg
        obtain ⟨z4, h4⟩ := pow_cong (φ f * φ f) z1 (ic q) (k / 2)
        rename_i h1'
        refine ⟨φ g * z4 + z3, ?_⟩
        rw [h3, h1', h4]
        have e : φ f ^ k = (φ f * φ f) ^ (k / 2) := by
          have : k = 2 * (k / 2) := by omega
          conv => lhs; rw [this, r_pow_mul]
          have e2 : φ f ^ 2 = φ f * φ f := by grind
          rw [e2]
        rw [e]
        grind
where pow_cong (x z c : R) : ∀ k : Nat, ∃ w, (x + c * z) ^ k = x ^ k + c * w
  | 0 => ⟨0, by rw [Semiring.pow_zero, Semiring.pow_zero]; grind⟩
  | k + 1 => by
    obtain ⟨w, h⟩ := pow_cong x z c k
    exact ⟨x ^ k * z + w * x + c * w * z, by rw [Semiring.pow_succ, h, Semiring.pow_succ]; grind⟩
theorem powSM_len (hn : n = 2 ∨ n = 4) {q : Int} : ∀ (k : Nat) (f g : List Int), f.length = n → g.length = n → (powSM q k f g).length = n := by
  intro k
  induction k using Nat.strongRecOn with
  | _ k ih =>
    intro f g hf hg
    rw [powSM]
    split
    · exact hg
    · refine ih _ (by omega) _ _ (mulL_len hn hf hf) ?_
      split
      · exact mulL_len hn hg hf
      · exact hg
theorem pow_spec (K : IsKit n φ N X) (hn : n = 2 ∨ n = 4) (q : Int) (k : Nat) (f : List Int) (hf : f.length = n) : ∃ z, φ (powSM q k f (oneL n)) = φ f ^ k + ic q * z := by
  obtain ⟨z, h⟩ := powSM_spec K hn q k f (oneL n) hf (by rcases hn with rfl | rfl <;> rfl)
  exact ⟨z, by rw [h, K.one, Semiring.one_mul]⟩
end

end
section
section
open Lean.Grind
/-- Pascal's numbers -/
def bin : Nat → Nat → Nat
  | _, 0 => 1
  | 0, _ + 1 => 0
  | n + 1, k + 1 => bin n k + bin n (k + 1)
theorem bin_zero (n : Nat) : bin n 0 = 1 := by cases n <;> rfl
theorem bin_ss (n k : Nat) : bin (n + 1) (k + 1) = bin n k + bin n (k + 1) := rfl
theorem bin_lt : ∀ {n k : Nat}, n < k → bin n k = 0
  | 0, k + 1, _ => rfl
  | n + 1, k + 1, h => by rw [bin_ss, bin_lt (show n < k by omega), bin_lt (show n < k + 1 by omega)]
theorem bin_self : ∀ n : Nat, bin n n = 1
  | 0 => rfl
  | n + 1 => by rw [bin_ss, bin_self n, bin_lt (Nat.lt_succ_self n)]
theorem bin_mul : ∀ n k : Nat, (k + 1) * bin (n + 1) (k + 1) = (n + 1) * bin n k
  | 0, 0 => rfl
  | 0, k + 1 => by rw [bin_ss, bin_lt (show 0 < k + 1 by omega), bin_lt (show 0 < k + 1 + 1 by omega)]; simp
  | n + 1, 0 => by
    have h := bin_mul n 0
    rw [bin_zero] at h
    rw [bin_ss, bin_zero]
    omega
  | n + 1, k + 1 => by
    have h1 := bin_mul n k
    have h2 := bin_mul n (k + 1)
    have e1 := bin_ss (n + 1) (k + 1)
    have e2 := bin_ss n k
    rw [e1, Nat.mul_add, h2]
    have e3 : (k + 1 + 1) * bin (n + 1) (k + 1) = (n + 1) * bin n k + bin (n + 1) (k + 1) := by rw [← h1]; grind
    rw [e3]
    grind
def PrimeN (p : Nat) : Prop := 2 ≤ p ∧ ∀ i, 0 < i → i < p → Nat.Coprime p i
theorem bin_dvd {p i : Nat} (hp : PrimeN p) (h0 : 0 < i) (hi : i < p) : p ∣ bin p i := by
  obtain ⟨k, rfl⟩ : ∃ k, i = k + 1 := ⟨i - 1, by omega⟩
  obtain ⟨n, rfl⟩ : ∃ n, p = n + 1 := ⟨p - 1, by omega⟩
  have h := bin_mul n k
  exact Nat.Coprime.dvd_of_dvd_mul_left (hp.2 _ h0 hi) (h ▸ Nat.dvd_mul_right _ _)
variable {n : Nat} {R : Type} [CommRing R] {φ : List Int → R} {N : R → Int} {X : R}
/-- alike but for a multiple of c -/
def Cg (c x y : R) : Prop := ∃ z, x = y + c * z
theorem Cg.refl (c x : R) : Cg c x x := ⟨0, by grind⟩
theorem Cg.of_eq {c x y : R} (h : x = y) : Cg c x y := ⟨0, by grind⟩
theorem Cg.symm {c x y : R} : Cg c x y → Cg c y x := fun ⟨z, h⟩ => ⟨-z, by rw [h]; grind⟩
theorem Cg.trans {c x y z : R} : Cg c x y → Cg c y z → Cg c x z := fun ⟨a, h⟩ ⟨b, k⟩ => ⟨a + b, by rw [h, k]; grind⟩
theorem Cg.add {c x y u v : R} : Cg c x y → Cg c u v → Cg c (x + u) (y + v) := fun ⟨a, h⟩ ⟨b, k⟩ => ⟨a + b, by rw [h, k]; grind⟩
theorem Cg.mul {c x y u v : R} : Cg c x y → Cg c u v → Cg c (x * u) (y * v) := fun ⟨a, h⟩ ⟨b, k⟩ => ⟨a * v + b * y + c * a * b, by rw [h, k]; grind⟩
theorem Cg.neg {c x y : R} : Cg c x y → Cg c (-x) (-y) := fun ⟨a, h⟩ => ⟨-a, by rw [h]; grind⟩
theorem Cg.pow {c x y : R} (h : Cg c x y) : ∀ k : Nat, Cg c (x ^ k) (y ^ k)
  | 0 => .of_eq (by rw [Semiring.pow_zero, Semiring.pow_zero])
  | k + 1 => by rw [Semiring.pow_succ, Semiring.pow_succ]; exact (h.pow k).mul h
def sumB (x y : R) (n : Nat) : Nat → R
  | 0 => y ^ n
  | k + 1 => sumB x y n k + ic (bin n (k + 1) : Int) * x ^ (k + 1) * y ^ (n - (k + 1))
theorem sumB_step (x y : R) (n : Nat) : ∀ k, k ≤ n → sumB x y (n + 1) (k + 1) = x * sumB x y n k + y * sumB x y n (k + 1)
  | 0, h => by
    show y ^ (n + 1) + ic (bin (n + 1) 1 : Int) * x ^ 1 * y ^ (n + 1 - 1) = x * y ^ n + y * (y ^ n + ic (bin n 1 : Int) * x ^ 1 * y ^ (n - 1))
    rw [bin_ss, bin_zero, Semiring.pow_succ y n, Int.natCast_add, ic_add, show ((1 : Nat) : Int) = 1 from rfl, ic_one, Nat.add_sub_cancel]
    rcases Nat.eq_zero_or_pos n with h0 | h0
    · subst h0
      rw [show bin 0 (0 + 1) = 0 from rfl, show ((0 : Nat) : Int) = 0 from rfl, ic_zero]; grind
    · have : y ^ n = y * y ^ (n - 1) := by
        obtain ⟨m, rfl⟩ : ∃ m, n = m + 1 := ⟨n - 1, by omega⟩
        rw [Semiring.pow_succ, Nat.add_sub_cancel]; grind
      rw [this]; grind
  | k + 1, h => by
    have ih := sumB_step x y n k (by omega)
    show sumB x y (n + 1) (k + 1) + ic (bin (n + 1) (k + 1 + 1) : Int) * x ^ (k + 1 + 1) * y ^ (n + 1 - (k + 1 + 1)) = x * (sumB x y n k + ic (bin n (k + 1) : Int) * x ^ (k + 1) * y ^ (n - (k + 1))) + y * (sumB x y n (k + 1) + ic (bin n (k + 1 + 1) : Int) * x ^ (k + 1 + 1) * y ^ (n - (k + 1 + 1)))
    rw [ih, bin_ss, Int.natCast_add, ic_add, show n + 1 - (k + 1 + 1) = n - (k + 1) by omega, Semiring.pow_succ x (k + 1)]
    rcases Nat.lt_or_ge n (k + 1 + 1) with h0 | h0
    · rw [bin_lt h0, show ((0 : Nat) : Int) = 0 from rfl, ic_zero]; grind
    · have : y ^ (n - (k + 1)) = y * y ^ (n - (k + 1 + 1)) := by
        obtain ⟨m, e⟩ : ∃ m, n - (k + 1) = m + 1 := ⟨n - (k + 1) - 1, by omega⟩
        rw [e, show n - (k + 1 + 1) = m by omega, Semiring.pow_succ]; grind
      rw [this]; grind
theorem sumB_eq (x y : R) : ∀ n : Nat, (x + y) ^ n = sumB x y n n
  | 0 => by rw [Semiring.pow_zero]; exact (Semiring.pow_zero y).symm
  | n + 1 => by
    rw [Semiring.pow_succ, sumB_eq x y n, sumB_step x y n n (Nat.le_refl n)]
    have : sumB x y n (n + 1) = sumB x y n n := by
      show sumB x y n n + ic (bin n (n + 1) : Int) * x ^ (n + 1) * y ^ (n - (n + 1)) = _
      rw [bin_lt (Nat.lt_succ_self n), show ((0 : Nat) : Int) = 0 from rfl, ic_zero]; grind
    rw [this]; grind
theorem sumB_mod {p : Nat} (hp : PrimeN p) (x y : R) : ∀ k, k < p → Cg (ic (p : Int)) (sumB x y p k) (y ^ p)
  | 0, _ => .refl _ _
  | k + 1, h => by
    obtain ⟨c, hc⟩ := bin_dvd hp (Nat.succ_pos k) h
    obtain ⟨z, hz⟩ := sumB_mod hp x y k (by omega)
    refine ⟨z + ic (c : Int) * x ^ (k + 1) * y ^ (p - (k + 1)), ?_⟩
    show sumB x y p k + ic (bin p (k + 1) : Int) * x ^ (k + 1) * y ^ (p - (k + 1)) = _
    rw [hz, hc, Int.natCast_mul, ic_mul]; grind
theorem frob {p : Nat} (hp : PrimeN p) (x y : R) : Cg (ic (p : Int)) ((x + y) ^ p) (x ^ p + y ^ p) := by
  obtain ⟨m, rfl⟩ : ∃ m, p = m + 1 := ⟨p - 1, by have := hp.1; omega⟩
  rw [sumB_eq]
  obtain ⟨z, hz⟩ := sumB_mod hp x y m (Nat.lt_succ_self m)
  refine ⟨z, ?_⟩
  show sumB x y (m + 1) m + ic (bin (m + 1) (m + 1) : Int) * x ^ (m + 1) * y ^ (m + 1 - (m + 1)) = _
  rw [hz, bin_self, Nat.sub_self, Semiring.pow_zero, show ((1 : Nat) : Int) = 1 from rfl, ic_one]; grind
theorem r_zero_pow {k : Nat} (h : 0 < k) : (0 : R) ^ k = 0 := by
  obtain ⟨m, rfl⟩ : ∃ m, k = m + 1 := ⟨k - 1, by omega⟩
  rw [Semiring.pow_succ]; grind
theorem fermat {p : Nat} (hp : PrimeN p) : ∀ a : Nat, Cg (R := R) (ic (p : Int)) (ic (a : Int) ^ p) (ic (a : Int))
  | 0 => .of_eq (by rw [show ((0 : Nat) : Int) = 0 from rfl, ic_zero, r_zero_pow (by have := hp.1; omega)])
  | a + 1 => by
    rw [show ((a + 1 : Nat) : Int) = (a : Int) + 1 from rfl, ic_add, ic_one]
    exact (frob hp _ _).trans ((fermat hp a).add (.of_eq (r_one_pow p)))
/-- a list as a polynomial at X -/
def ev (Y : R) : List Int → R
  | [] => 0
  | c :: r => ic c + Y * ev Y r
theorem ev_frob {p : Nat} (hp : PrimeN p) (Y : R) : ∀ l : List Int, (∀ c ∈ l, 0 ≤ c) → Cg (ic (p : Int)) (ev Y l ^ p) (ev (Y ^ p) l)
  | [], _ => .of_eq (r_zero_pow (by have := hp.1; omega))
  | c :: r, h => by
    show Cg _ ((ic c + Y * ev Y r) ^ p) (ic c + Y ^ p * ev (Y ^ p) r)
    refine (frob hp _ _).trans (Cg.add ?_ ?_)
    · obtain ⟨a, rfl⟩ : ∃ a : Nat, c = a := ⟨c.toNat, by have := h c (by simp); omega⟩
      exact fermat hp a
    · rw [r_mul_pow]
      exact (Cg.refl _ _).mul (ev_frob hp Y r fun c hc => h c (List.mem_cons_of_mem _ hc))
theorem ev_frobs {p : Nat} (hp : PrimeN p) (Y : R) {l : List Int} (hl : ∀ c ∈ l, 0 ≤ c) : ∀ d : Nat, Cg (ic (p : Int)) (ev Y l ^ (p ^ d)) (ev (Y ^ (p ^ d)) l)
  | 0 => .of_eq (by rw [Nat.pow_zero, show Y ^ 1 = Y by grind]; grind)
  | d + 1 => by
    rw [Nat.pow_succ, r_pow_mul, r_pow_mul]
    exact ((ev_frobs hp Y hl d).pow p).trans (ev_frob hp _ l hl)
/-- f ^ (q ^ d) is f where X ^ (q ^ d) is X -/
theorem ev_fix {p d : Nat} (hp : PrimeN p) {Y : R} {l : List Int} (hl : ∀ c ∈ l, 0 ≤ c) (hY : Y ^ (p ^ d) = Y) : Cg (ic (p : Int)) (ev Y l ^ (p ^ d)) (ev Y l) := by
  have h := ev_frobs hp Y hl d
  rw [hY] at h
  exact h
theorem pow_turn {m k : Nat} {Y : R} (hY : Y ^ m = -1) (r : Nat) : Y ^ (m * k + r) = (-1) ^ k * Y ^ r := by
  rw [Semiring.pow_add, r_pow_mul, hY]
theorem m1_sq (k : Nat) : ((-1 : R)) ^ (2 * k) = 1 := by
  rw [r_pow_mul, show (-1 : R) ^ 2 = 1 by grind, r_one_pow]
theorem X_fix {m Q : Nat} {Y : R} (hY : Y ^ m = -1) (hQ : Q % (2 * m) = 1) : Y ^ Q = Y := by
  have : Q = m * (2 * (Q / (2 * m))) + 1 := by
    have := Nat.div_add_mod Q (2 * m)
    rw [hQ] at this
    rw [← Nat.mul_assoc, Nat.mul_comm m 2]
    exact this.symm
  rw [this, pow_turn hY, m1_sq]
  grind
end
section
open Lean.Grind
variable {n : Nat} {R : Type} [CommRing R] {φ : List Int → R} {N : R → Int} {X : R}
theorem subI_addI (q v : Int) : ∀ a : List Int, subI q v a = addI q (-v) a
  | [] => rfl
  | c :: r => by show ((c - v) % q) :: r = ((c + -v) % q) :: r; rw [Int.sub_eq_add_neg]
structure Kit1 (n : Nat) {R : Type} [CommRing R] (φ : List Int → R) (N : R → Int) (X : R) : Prop extends IsKit n φ N X where
  neg : ∀ (q : Int) (a : List Int), a.length = n → ∃ z, φ (negL q a) = - φ a + ic q * z
  ev : ∀ a : List Int, a.length = n → φ a = ev X a
  Xn : X ^ n = -1
theorem N_pow' (K : IsKit n φ N X) (x : R) : ∀ m : Nat, N (x ^ m) = N x ^ m
  | 0 => by rw [Semiring.pow_zero, K.N1]; exact (Int.pow_zero _).symm
  | m + 1 => by rw [Semiring.pow_succ, K.Nmul, N_pow' K x m, Int.pow_succ]
theorem inv_mod {p : Nat} (hp : PrimeN p) {a : Int} (h : a % (p : Int) ≠ 0) : ∃ b t : Int, b * a = 1 + (p : Int) * t := by
  -- a ^ (p - 2) by Fermat, in the ring of ints
  have hp0 : 0 < p := by have := hp.1; omega
  let r := (a % (p : Int)).toNat
  have hr : ((r : Nat) : Int) = a % (p : Int) := Int.toNat_of_nonneg (Int.emod_nonneg _ (by omega))
  have hr0 : 0 < r := by omega
  have hrp : r < p := by have := Int.emod_lt_of_pos a (show (0 : Int) < p by omega); omega
  have hc := hp.2 r hr0 hrp
  obtain ⟨z, hz⟩ := fermat (R := Int) hp r
  have e1 : (ic (r : Int) : Int) = (r : Int) := rfl
  have e2 : (ic (p : Int) : Int) = (p : Int) := rfl
  rw [e1, e2] at hz
  obtain ⟨m, rfl⟩ : ∃ m, p = m + 1 + 1 := ⟨p - 2, by have := hp.1; omega⟩
  have h1 : (((m + 1 + 1 : Nat)) : Int) ∣ (r : Int) * ((r : Int) ^ (m + 1) - 1) := ⟨z, by
    have : (r : Int) * ((r : Int) ^ (m + 1) - 1) = (r : Int) ^ (m + 1 + 1) - r := by rw [Int.pow_succ _ (m + 1)]; grind
    rw [this, hz]; grind⟩
  have h2 : (((m + 1 + 1 : Nat)) : Int) ∣ (r : Int) ^ (m + 1) - 1 := by
    have h3 := Int.natAbs_dvd_natAbs.mpr h1
    rw [Int.natAbs_mul, Int.natAbs_natCast, Int.natAbs_natCast] at h3
    exact Int.natAbs_dvd_natAbs.mp (by rw [Int.natAbs_natCast]; exact Nat.Coprime.dvd_of_dvd_mul_left hc h3)
  obtain ⟨t, ht⟩ := h2
  obtain ⟨s, hs⟩ := emod_ex ((m + 1 + 1 : Nat) : Int) a
  refine ⟨(r : Int) ^ m, t - (r : Int) ^ m * s, ?_⟩
  have e3 : a = r - ((m + 1 + 1 : Nat) : Int) * s := by rw [hr, hs]; grind
  rw [Int.pow_succ] at ht
  have e4 : (r : Int) ^ m * a = (r : Int) ^ m * r - ((m + 1 + 1 : Nat) : Int) * ((r : Int) ^ m * s) := by
    conv => lhs; rw [e3]
    grind
  rw [e4]
  grind
variable {p d : Nat} {rc : List Int}
theorem k_fix (K : Kit1 n φ N X) (hp : PrimeN p) (hQ : p ^ d % (2 * n) = 1) (g : Good (p : Int) n rc) : Cg (ic (p : Int)) (φ rc ^ (p ^ d)) (φ rc) := by
  rw [K.ev rc g.len]
  exact ev_fix hp (fun c hc => (g.red c hc).1) (X_fix K.Xn hQ)
/-- kept = f ^ (Q - 1) -/
theorem k_kept (K : Kit1 n φ N X) (hn : n = 2 ∨ n = 4) (g : Good (p : Int) n rc) (k : Nat) : Cg (ic (p : Int)) (φ (mulL p rc (powSM p k rc (oneL n)))) (φ rc ^ (k + 1)) := by
  obtain ⟨z1, h1⟩ := pow_spec K.toIsKit hn p k rc g.len
  obtain ⟨z2, h2⟩ := K.mulL p rc (powSM p k rc (oneL n)) g.len (powSM_len hn k rc _ g.len (by rcases hn with rfl | rfl <;> rfl))
  refine ⟨φ rc * z1 + z2, ?_⟩
  rw [h2, h1, Semiring.pow_succ]; grind
theorem k_rest (K : Kit1 n φ N X) {kc : List Int} (gk : Good (p : Int) n kc) : Cg (ic (p : Int)) (φ (negL p (subI p 1 kc))) (1 - φ kc) := by
  obtain ⟨z1, h1⟩ := K.addI p (-1) kc gk.len
  have hl : (subI p 1 kc).length = n := by rw [subI_addI]; cases kc with | nil => exact gk.len | cons c r => exact gk.len
  obtain ⟨z2, h2⟩ := K.neg p (subI p 1 kc) hl
  refine ⟨z2 - z1, ?_⟩
  rw [h2, subI_addI, h1, ic_neg, ic_one]; grind
section
variable {kc ec : List Int}
theorem k_P2 (K : Kit1 n φ N X) (hn : n = 2 ∨ n = 4) (hp : PrimeN p) (hQ : p ^ d % (2 * n) = 1) (hQ2 : 2 ≤ p ^ d) (g : Good (p : Int) n rc) (gk : Good (p : Int) n kc) (hk : Cg (ic (p : Int)) (φ kc) (φ rc ^ (p ^ d - 2 + 1))) : mulL p kc kc = kc := by
  have hp2 : (2 : Int) ≤ p := by have := hp.1; omega
  refine K.cong p _ _ (Good.mul hp2 hn gk gk) gk ?_
  obtain ⟨z, h⟩ := K.mulL p kc kc gk.len gk.len
  refine Cg.trans ⟨z, h⟩ ((hk.mul hk).trans (Cg.trans ?_ hk.symm))
  have h1 := k_fix K hp hQ g
  have e1 : φ rc ^ (p ^ d - 2 + 1) * φ rc ^ (p ^ d - 2 + 1) = φ rc ^ (p ^ d) * φ rc ^ (p ^ d - 2) := by
    rw [← Semiring.pow_add, ← Semiring.pow_add]
    congr 1
    omega
  have e2 : φ rc ^ (p ^ d - 2 + 1) = φ rc * φ rc ^ (p ^ d - 2) := by rw [Semiring.pow_succ]; grind
  rw [e1, e2]
  exact h1.mul (.refl _ _)
theorem k_ef (K : Kit1 n φ N X) (hp : PrimeN p) (hQ : p ^ d % (2 * n) = 1) (hQ2 : 2 ≤ p ^ d) (g : Good (p : Int) n rc) : Cg (ic (p : Int)) (φ rc ^ (p ^ d - 2 + 1) * φ rc) (φ rc) := by
  have h1 := k_fix K hp hQ g
  have e1 : φ rc ^ (p ^ d - 2 + 1) * φ rc = φ rc ^ (p ^ d) := by
    rw [← Semiring.pow_succ]
    congr 1
    omega
  rw [e1]
  exact h1
theorem k_P3 (K : Kit1 n φ N X) (hn : n = 2 ∨ n = 4) (hp : PrimeN p) (hQ : p ^ d % (2 * n) = 1) (hQ2 : 2 ≤ p ^ d) (g : Good (p : Int) n rc) (gk : Good (p : Int) n kc) (hk : Cg (ic (p : Int)) (φ kc) (φ rc ^ (p ^ d - 2 + 1))) : mulL p kc rc = rc := by
  have hp2 : (2 : Int) ≤ p := by have := hp.1; omega
  refine K.cong p _ _ (Good.mul hp2 hn gk g) g ?_
  obtain ⟨z, h⟩ := K.mulL p kc rc gk.len g.len
  exact Cg.trans ⟨z, h⟩ ((hk.mul (.refl _ _)).trans (k_ef K hp hQ hQ2 g))
theorem k_P4 (K : Kit1 n φ N X) (hn : n = 2 ∨ n = 4) (hp : PrimeN p) (hQ : p ^ d % (2 * n) = 1) (hQ2 : 2 ≤ p ^ d) (g : Good (p : Int) n rc) (gk : Good (p : Int) n kc) (hk : Cg (ic (p : Int)) (φ kc) (φ rc ^ (p ^ d - 2 + 1))) :
    (mulL p (negL p (subI p 1 kc)) rc).all (· == 0) = true := by
  have hp2 : (2 : Int) ≤ p := by have := hp.1; omega
  have ge : Good (p : Int) n (negL p (subI p 1 kc)) := Good.neg hp2 (Good.subI hp2 gk)
  refine (K.zero p _ (Good.mul hp2 hn ge g)).mpr ?_
  obtain ⟨z, h⟩ := K.mulL p _ rc ge.len g.len
  have h1 : Cg (ic (p : Int)) (φ (mulL p (negL p (subI p 1 kc)) rc)) 0 := by
    refine Cg.trans ⟨z, h⟩ (((k_rest K gk).mul (.refl _ _)).trans ?_)
    have h2 := (hk.mul (Cg.refl _ (φ rc))).trans (k_ef K hp hQ hQ2 g)
    refine (Cg.of_eq (show (1 - φ kc) * φ rc = φ rc + -(φ kc * φ rc) by grind)).trans ?_
    refine ((Cg.refl _ (φ rc)).add h2.neg).trans (.of_eq (by grind))
  obtain ⟨y, hy⟩ := h1
  exact ⟨y, by rw [hy]; grind⟩
theorem k_P1 (K : Kit1 n φ N X) (hn : n = 2 ∨ n = 4) (hp : PrimeN p) (hQ : p ^ d % (2 * n) = 1) (hQ2 : 2 ≤ p ^ d) (g : Good (p : Int) n rc) (gk : Good (p : Int) n kc) (hk : Cg (ic (p : Int)) (φ kc) (φ rc ^ (p ^ d - 2 + 1))) :
    (Int.fmod (normL rc) p != 0) = (negL p (subI p 1 kc)).all (· == 0) := by
  have hp2 : (2 : Int) ≤ p := by have := hp.1; omega
  have ge : Good (p : Int) n (negL p (subI p 1 kc)) := Good.neg hp2 (Good.subI hp2 gk)
  rw [K.norm rc g.len, Int.fmod_eq_emod_of_nonneg _ (by omega)]
  rw [Bool.eq_iff_iff, K.zero p _ ge]
  simp only [bne_iff_ne, ne_eq]
  constructor
  · intro h
    -- f is invertible modulo p
    obtain ⟨b, t, hb⟩ := inv_mod hp h
    obtain ⟨y, hy⟩ := K.conj (φ rc)
    have hf : Cg (ic (p : Int)) (φ rc * (y * ic b)) 1 := ⟨ic t, by
      have e : φ rc * (y * ic b) = ic (b * N (φ rc)) := by rw [ic_mul, ← hy]; grind
      rw [e, hb, ic_add, ic_mul, ic_one]⟩
    have h1 := (k_ef K hp hQ hQ2 g).mul (Cg.refl _ (y * ic b))
    have h2 : Cg (ic (p : Int)) (φ rc ^ (p ^ d - 2 + 1)) 1 := by
      refine Cg.trans ?_ (h1.trans hf)
      refine Cg.symm ((Cg.of_eq (show φ rc ^ (p ^ d - 2 + 1) * φ rc * (y * ic b) = φ rc ^ (p ^ d - 2 + 1) * (φ rc * (y * ic b)) by grind)).trans ?_)
      exact ((Cg.refl _ _).mul hf).trans (.of_eq (by grind))
    obtain ⟨z, hz⟩ := (k_rest K gk).trans ((Cg.refl _ 1).add (hk.trans h2).neg |> fun h => (Cg.of_eq (show 1 - φ kc = 1 + -φ kc by grind)).trans h)
    exact ⟨z, by rw [hz]; grind⟩
  · rintro ⟨z, hz⟩ h
    have h1 : Cg (ic (p : Int)) (1 - φ kc) 0 := (k_rest K gk).symm.trans ⟨z, by rw [hz]; grind⟩
    have h2 : Cg (ic (p : Int)) (φ rc ^ (p ^ d - 2 + 1)) 1 := by
      refine hk.symm.trans ?_
      obtain ⟨y, hy⟩ := h1
      exact ⟨-y, by
        have : φ kc = 1 - (1 - φ kc) := by grind
        rw [this, hy]; grind⟩
    obtain ⟨y, hy⟩ := h2
    obtain ⟨k, hk2⟩ := K.Nmod 1 p y
    have h3 := congrArg N hy
    rw [hk2, K.N1, N_pow' K.toIsKit, Int.pow_succ] at h3
    have h4 : (p : Int) ∣ 1 := by
      have h5 : (p : Int) ∣ N (φ rc) := Int.dvd_of_emod_eq_zero h
      have h6 : (p : Int) ∣ 1 + p * k := h3 ▸ Int.dvd_mul_of_dvd_right h5
      exact (Int.dvd_add_left (Int.dvd_mul_right _ _)).mp h6
    have := Int.le_of_dvd (by decide) h4
    omega
end
end

end
section
theorem kit1_2 : @Kit1 2 P2 P2.ring φ2 N2 ⟨0, 1⟩ := by
  letI := P2.ring
  refine @Kit1.mk 2 P2 P2.ring φ2 N2 ⟨0, 1⟩ kit2 ?_ ?_ ?_
  · intro q a ha
    obtain ⟨a0, a1, rfl⟩ := len_two ha
    obtain ⟨t0, h0⟩ := emod_ex q (-a0)
    obtain ⟨t1, h1⟩ := emod_ex q (-a1)
    refine ⟨⟨t0, t1⟩, P2.ext' ?_ ?_⟩
    · show (-a0) % q = -a0 + (q * t0 - 0 * t1)
      rw [h0]; grind
    · show (-a1) % q = -a1 + (q * t1 + 0 * t0)
      rw [h1]; grind
  · intro a ha
    obtain ⟨a0, a1, rfl⟩ := len_two ha
    refine P2.ext' ?_ ?_
    · show a0 = a0 + (0 * (a1 + (0 * 0 - 1 * 0)) - 1 * (0 + (0 * 0 + 1 * 0)))
      grind
    · show a1 = 0 + (0 * (0 + (0 * 0 + 1 * 0)) + 1 * (a1 + (0 * 0 - 1 * 0)))
      grind
  · rfl
theorem kit1_4 : @Kit1 4 P4 P4.ring φ4 N4 ⟨0, 1, 0, 0⟩ := by
  letI := P4.ring
  refine @Kit1.mk 4 P4 P4.ring φ4 N4 ⟨0, 1, 0, 0⟩ kit4 ?_ ?_ ?_
  · intro q a ha
    obtain ⟨a0, a1, a2, a3, rfl⟩ := len_four ha
    obtain ⟨t0, h0⟩ := emod_ex q (-a0)
    obtain ⟨t1, h1⟩ := emod_ex q (-a1)
    obtain ⟨t2, h2⟩ := emod_ex q (-a2)
    obtain ⟨t3, h3⟩ := emod_ex q (-a3)
    refine ⟨⟨t0, t1, t2, t3⟩, P4.ext' ?_ ?_ ?_ ?_⟩
    · show (-a0) % q = -a0 + (q * t0 - 0 * t3 - 0 * t2 - 0 * t1)
      rw [h0]; grind
    · show (-a1) % q = -a1 + (q * t1 + 0 * t0 - 0 * t3 - 0 * t2)
      rw [h1]; grind
    · show (-a2) % q = -a2 + (q * t2 + 0 * t1 + 0 * t0 - 0 * t3)
      rw [h2]; grind
    · show (-a3) % q = -a3 + (q * t3 + 0 * t2 + 0 * t1 + 0 * t0)
      rw [h3]; grind
  · intro a ha
    obtain ⟨a0, a1, a2, a3, rfl⟩ := len_four ha
    have hX : ∀ c : Int, ∀ y : P4, (ic c : P4) + (⟨0, 1, 0, 0⟩ : P4) * y = ⟨c - y.d, y.a, y.b, y.c⟩ := fun c y => P4.ext'
      (show c + (0 * y.a - 1 * y.d - 0 * y.c - 0 * y.b) = c - y.d by grind) (show 0 + (0 * y.b + 1 * y.a - 0 * y.d - 0 * y.c) = y.a by grind)
      (show 0 + (0 * y.c + 1 * y.b + 0 * y.a - 0 * y.d) = y.b by grind) (show 0 + (0 * y.d + 1 * y.c + 0 * y.b + 0 * y.a) = y.c by grind)
    show (⟨a0, a1, a2, a3⟩ : P4) = ic a0 + (⟨0, 1, 0, 0⟩ : P4) * (ic a1 + (⟨0, 1, 0, 0⟩ : P4) * (ic a2 + (⟨0, 1, 0, 0⟩ : P4) * (ic a3 + (⟨0, 1, 0, 0⟩ : P4) * (⟨0, 0, 0, 0⟩ : P4))))
    rw [hX, hX, hX, hX]
    refine P4.ext' ?_ ?_ ?_ ?_ <;> simp
  · rfl
section
open Lean.Grind
variable {n : Nat} {R : Type} [CommRing R] {φ : List Int → R} {N : R → Int} {X : R}
end
def primeB (p : Nat) (k : Nat) : Bool := (List.range k).all fun d => d < 2 || p % d != 0
theorem primeN_of {p k : Nat} (h2 : 2 ≤ p) (hk : p < k * k) (h : primeB p k = true) : PrimeN p := by
  refine ⟨h2, fun i h0 hi => ?_⟩
  have hall : ∀ d, 2 ≤ d → d < k → ¬ d ∣ p := fun d hd hdk hdp => by
    have := List.all_eq_true.mp h d (List.mem_range.mpr hdk)
    have h9 := Nat.mod_eq_zero_of_dvd hdp
    simp at this
    omega
  have no : ∀ d, 2 ≤ d → d < p → ¬ d ∣ p := fun d hd hdp ⟨e, he⟩ => by
    rcases Nat.lt_or_ge d k with h1 | h1
    · exact hall d hd h1 ⟨e, he⟩
    · have he2 : 2 ≤ e := by
        rcases e with _ | _ | e
        · omega
        · omega
        · omega
      have hek : e < k := by
        rcases Nat.lt_or_ge e k with h3 | h3
        · exact h3
        · have := Nat.mul_le_mul h1 h3
          omega
      exact hall e he2 hek ⟨d, by rw [he, Nat.mul_comm]⟩
  have hg1 : Nat.gcd p i ∣ p := Nat.gcd_dvd_left p i
  have hg2 := Nat.gcd_le_right p h0
  have hg3 : 0 < Nat.gcd p i := Nat.gcd_pos_of_pos_right p h0
  rcases Nat.lt_or_ge (Nat.gcd p i) 2 with h1 | h1
  · exact show Nat.gcd p i = 1 by omega
  · exact absurd hg1 (no _ h1 (by omega))
def menu : List Int := [3, 5, 7, 17, 257, 7681, 12289, 8380417]
theorem menu_prime {q : Int} (h : q ∈ menu) : ∃ p : Nat, q = p ∧ PrimeN p ∧ p % 2 = 1 := by
  simp only [menu, List.mem_cons, List.not_mem_nil, or_false] at h
  rcases h with rfl | rfl | rfl | rfl | rfl | rfl | rfl | rfl
  · exact ⟨3, rfl, primeN_of (k := 2) (by decide) (by decide) (by decide +kernel), rfl⟩
  · exact ⟨5, rfl, primeN_of (k := 3) (by decide) (by decide) (by decide +kernel), rfl⟩
  · exact ⟨7, rfl, primeN_of (k := 3) (by decide) (by decide) (by decide +kernel), rfl⟩
  · exact ⟨17, rfl, primeN_of (k := 5) (by decide) (by decide) (by decide +kernel), rfl⟩
  · exact ⟨257, rfl, primeN_of (k := 17) (by decide) (by decide) (by decide +kernel), rfl⟩
  · exact ⟨7681, rfl, primeN_of (k := 88) (by decide) (by decide) (by decide +kernel), rfl⟩
  · exact ⟨12289, rfl, primeN_of (k := 111) (by decide) (by decide) (by decide +kernel), rfl⟩
  · exact ⟨8380417, rfl, primeN_of (k := 2895) (by decide) (by decide) (by decide +kernel), rfl⟩
theorem menu_two {q : Int} (h : q ∈ menu) : 2 ≤ q := by obtain ⟨p, rfl, hp, _⟩ := menu_prime h; have := hp.1; omega
theorem menu_odd {q : Int} (h : q ∈ menu) : q.fmod 2 = 1 := by
  obtain ⟨p, rfl, _, h2⟩ := menu_prime h
  rw [Int.fmod_eq_emod_of_nonneg _ (by decide)]; omega
theorem menu_sq {q : Int} {n : Nat} (h : q ∈ menu) (hn : n = 2 ∨ n = 4) : Int.fmod (q ^ 2 - 1) (2 * (n : Int)) = 0 := by
  simp only [menu, List.mem_cons, List.not_mem_nil, or_false] at h
  rcases hn with rfl | rfl <;> rcases h with rfl | rfl | rfl | rfl | rfl | rfl | rfl | rfl <;> decide
section
variable {n : Nat} {q d : Int} {rc kc : List Int}
theorem q_kit (hn : n = 2 ∨ n = 4) {P : Prop} (h2 : n = 2 → @Kit1 2 P2 P2.ring φ2 N2 ⟨0, 1⟩ → P) (h4 : n = 4 → @Kit1 4 P4 P4.ring φ4 N4 ⟨0, 1, 0, 0⟩ → P) : P := by
  rcases hn with h | h
  · exact h2 h kit1_2
  · exact h4 h kit1_4
theorem Q_facts {p : Nat} (hp : PrimeN p) (hn : n = 2 ∨ n = 4) (hd : d = 1 ∨ d = 2) (hz : Int.fmod ((p : Int) ^ d.toNat - 1) (2 * (n : Int)) = 0) :
    p ^ d.toNat % (2 * n) = 1 ∧ 2 ≤ p ^ d.toNat ∧ ((p : Int) ^ d.toNat - 2).toNat = p ^ d.toNat - 2 := by
  have h2 := hp.1
  have hQ : 2 ≤ p ^ d.toNat := by
    rcases hd with rfl | rfl
    · show 2 ≤ p ^ 1
      rw [Nat.pow_one]; exact h2
    · show 2 ≤ p ^ 2
      have := Nat.mul_le_mul h2 h2
      rw [Nat.pow_two]; omega
  have e : ((p : Int) ^ d.toNat) = ((p ^ d.toNat : Nat) : Int) := (Int.natCast_pow p d.toNat).symm
  rw [e] at hz ⊢
  generalize p ^ d.toNat = Q at *
  rw [Int.fmod_eq_emod_of_nonneg _ (by omega)] at hz
  refine ⟨?_, hQ, by omega⟩
  rcases hn with rfl | rfl <;> omega
abbrev keptL (q d : Int) (n : Nat) (rc : List Int) : List Int := mulL q rc (powSM q (q ^ d.toNat - 2).toNat rc (oneL n))
theorem m1_all (hn : n = 2 ∨ n = 4) (h : q ∈ menu) (g : Good q n rc) (hd : d = 1 ∨ d = 2) (hz : Int.fmod (q ^ d.toNat - 1) (2 * (n : Int)) = 0) :
    (Int.fmod (normL rc) q != 0) = (negL q (subI q 1 (keptL q d n rc))).all (· == 0) ∧ mulL q (keptL q d n rc) (keptL q d n rc) = keptL q d n rc ∧
      (mulL q (negL q (subI q 1 (keptL q d n rc))) rc).all (· == 0) = true ∧ mulL q (keptL q d n rc) rc = rc := by
  obtain ⟨p, rfl, hp, ho⟩ := menu_prime h
  obtain ⟨hQ, hQ2, e⟩ := Q_facts hp hn hd hz
  have hp2 : (2 : Int) ≤ p := by have := hp.1; omega
  have gk : Good (p : Int) n (keptL p d n rc) := Good.mul hp2 hn g (Good.pow hp2 hn g)
  have e8 : keptL p d n rc = mulL p rc (powSM p (p ^ d.toNat - 2) rc (oneL n)) := by unfold keptL; rw [e]
  refine q_kit hn (fun e9 K => ?_) (fun e9 K => ?_)
  · subst e9
    have hk := @k_kept 2 P2 P2.ring φ2 N2 ⟨0, 1⟩ p rc K hn g (p ^ d.toNat - 2)
    rw [← e8] at hk
    exact ⟨@k_P1 2 P2 P2.ring φ2 N2 ⟨0, 1⟩ p d.toNat rc _ K hn hp hQ hQ2 g gk hk, @k_P2 2 P2 P2.ring φ2 N2 ⟨0, 1⟩ p d.toNat rc _ K hn hp hQ hQ2 g gk hk, @k_P4 2 P2 P2.ring φ2 N2 ⟨0, 1⟩ p d.toNat rc _ K hn hp hQ hQ2 g gk hk, @k_P3 2 P2 P2.ring φ2 N2 ⟨0, 1⟩ p d.toNat rc _ K hn hp hQ hQ2 g gk hk⟩
  · subst e9
    have hk := @k_kept 4 P4 P4.ring φ4 N4 ⟨0, 1, 0, 0⟩ p rc K hn g (p ^ d.toNat - 2)
    rw [← e8] at hk
    exact ⟨@k_P1 4 P4 P4.ring φ4 N4 ⟨0, 1, 0, 0⟩ p d.toNat rc _ K hn hp hQ hQ2 g gk hk, @k_P2 4 P4 P4.ring φ4 N4 ⟨0, 1, 0, 0⟩ p d.toNat rc _ K hn hp hQ hQ2 g gk hk, @k_P4 4 P4 P4.ring φ4 N4 ⟨0, 1, 0, 0⟩ p d.toNat rc _ K hn hp hQ hQ2 g gk hk, @k_P3 4 P4 P4.ring φ4 N4 ⟨0, 1, 0, 0⟩ p d.toNat rc _ K hn hp hQ hQ2 g gk hk⟩
end

end
section
section
open Lean.Grind
structure Kit4 (n : Nat) {R : Type} [CommRing R] (φ : List Int → R) (N : R → Int) (X : R) : Prop extends Kit1 n φ N X where
  red : ∀ (M : Int) (a : List Int), 0 < M → a.length = n → ∃ z, φ (a.map fun k' => Int.fmod k' M) = φ a + ic M * z
end
theorem kit4_2 : @Kit4 2 P2 P2.ring φ2 N2 ⟨0, 1⟩ := by
  letI := P2.ring
  refine @Kit4.mk 2 P2 P2.ring φ2 N2 ⟨0, 1⟩ kit1_2 ?_
  intro M a hM ha
  obtain ⟨a0, a1, rfl⟩ := len_two ha
  obtain ⟨t0, h0⟩ := emod_ex M a0
  obtain ⟨t1, h1⟩ := emod_ex M a1
  refine ⟨⟨t0, t1⟩, P2.ext' ?_ ?_⟩
  · show Int.fmod a0 M = a0 + (M * t0 - 0 * t1)
    rw [Int.fmod_eq_emod_of_nonneg _ (by omega), h0]; grind
  · show Int.fmod a1 M = a1 + (M * t1 + 0 * t0)
    rw [Int.fmod_eq_emod_of_nonneg _ (by omega), h1]; grind
theorem kit4_4 : @Kit4 4 P4 P4.ring φ4 N4 ⟨0, 1, 0, 0⟩ := by
  letI := P4.ring
  refine @Kit4.mk 4 P4 P4.ring φ4 N4 ⟨0, 1, 0, 0⟩ kit1_4 ?_
  intro M a hM ha
  obtain ⟨a0, a1, a2, a3, rfl⟩ := len_four ha
  obtain ⟨t0, h0⟩ := emod_ex M a0
  obtain ⟨t1, h1⟩ := emod_ex M a1
  obtain ⟨t2, h2⟩ := emod_ex M a2
  obtain ⟨t3, h3⟩ := emod_ex M a3
  refine ⟨⟨t0, t1, t2, t3⟩, P4.ext' ?_ ?_ ?_ ?_⟩
  · show Int.fmod a0 M = a0 + (M * t0 - 0 * t3 - 0 * t2 - 0 * t1)
    rw [Int.fmod_eq_emod_of_nonneg _ (by omega), h0]; grind
  · show Int.fmod a1 M = a1 + (M * t1 + 0 * t0 - 0 * t3 - 0 * t2)
    rw [Int.fmod_eq_emod_of_nonneg _ (by omega), h1]; grind
  · show Int.fmod a2 M = a2 + (M * t2 + 0 * t1 + 0 * t0 - 0 * t3)
    rw [Int.fmod_eq_emod_of_nonneg _ (by omega), h2]; grind
  · show Int.fmod a3 M = a3 + (M * t3 + 0 * t2 + 0 * t1 + 0 * t0)
    rw [Int.fmod_eq_emod_of_nonneg _ (by omega), h3]; grind
section
open Lean.Grind
variable {n : Nat} {R : Type} [CommRing R] {φ : List Int → R} {N : R → Int} {X : R} {p q kk h : Int} {F G fc : List Int}
abbrev stepL (q : Int) (F G : List Int) : List Int := mulL q G (negL q (subI q 2 (mulL q F G)))
abbrev NwRel (φ : List Int → R) (p q : Int) (n : Nat) (F fc : List Int) (h : Int) (G : List Int) : Prop :=
  1 ≤ h ∧ Good q n G ∧ (G.map fun k' => Int.fmod k' p) = fc ∧ ∃ z y : R, φ F * φ G = 1 + ic (p ^ h.toNat) * z + ic q * y
theorem step_good (hn : n = 2 ∨ n = 4) (hq : 2 ≤ q) (gF : Good q n F) (gG : Good q n G) : Good q n (stepL q F G) :=
  Good.mul hq hn gG (Good.neg hq (Good.subI hq (Good.mul hq hn gF gG)))
theorem sub_phi (K : Kit4 n φ N X) {v : Int} {P : List Int} (hl : P.length = n) : ∃ z, φ (subI q v P) = φ P - ic v + ic q * z := by
  obtain ⟨z, e⟩ := K.addI q (-v) P hl
  exact ⟨z, by rw [subI_addI, e, ic_neg]; grind⟩
theorem step_cg (K : Kit4 n φ N X) (hn : n = 2 ∨ n = 4) (hq : 2 ≤ q) (gF : Good q n F) (gG : Good q n G) : ∃ z, φ (stepL q F G) = φ G * (2 - φ F * φ G) + ic q * z := by
  have gP := Good.mul hq hn gF gG
  obtain ⟨z1, h1⟩ := K.mulL q F G gF.len gG.len
  obtain ⟨z2, h2⟩ := sub_phi (q := q) K (v := 2) gP.len
  obtain ⟨z3, h3⟩ := K.neg q (subI q 2 (mulL q F G)) (Good.subI hq gP).len
  obtain ⟨z4, h4⟩ := K.mulL q G (negL q (subI q 2 (mulL q F G))) gG.len (Good.neg hq (Good.subI hq gP)).len
  refine ⟨φ G * (z3 - z2 - z1) + z4, ?_⟩
  rw [h4, h3, h2, h1, ic_two]; grind
theorem pow_split (hk : 0 ≤ h) (hl : h ≤ kk) : p ^ kk.toNat = p ^ h.toNat * p ^ (kk - h).toNat := by
  rw [← Int.pow_add]
  congr 1
  omega
theorem pow_ge (hp : 2 ≤ p) (h1 : 1 ≤ h) : 2 ≤ p ^ h.toNat := by
  obtain ⟨m, e⟩ : ∃ m, h.toNat = m + 1 := ⟨h.toNat - 1, by omega⟩
  rw [e, Int.pow_succ]
  have : 0 < p ^ m := Int.pow_pos (by omega)
  have := Int.mul_le_mul (show (1 : Int) ≤ p ^ m by omega) hp (by decide) (by omega)
  omega
theorem nw_RA (K : Kit4 n φ N X) (hn : n = 2 ∨ n = 4) (hp : 2 ≤ p) (hk2 : 2 ≤ kk) (hq : q = p ^ kk.toNat) (gF : Good q n F) (r : NwRel φ p q n F fc h G) (hl : h < kk) : ∀ c ∈ subI q 1 (mulL q F G), Int.fmod c (p ^ h.toNat) = 0 := by
  obtain ⟨r1, gG, _, z, y, e⟩ := r
  have hq2 : 2 ≤ q := by rw [hq]; exact pow_ge hp (by omega)
  have hM := pow_ge hp r1
  have hs := pow_split (p := p) (h := h) (kk := kk) (by omega) (by omega)
  rw [← hq] at hs
  have gP := Good.mul hq2 hn gF gG
  obtain ⟨z1, h1⟩ := K.mulL q F G gF.len gG.len
  obtain ⟨z2, h2⟩ := sub_phi (q := q) K (v := 1) gP.len
  have hl9 := (Good.subI (v := 1) hq2 gP).len
  generalize subI q 1 (mulL q F G) = S at *
  obtain ⟨z3, h3⟩ := K.red (p ^ h.toNat) S (by omega) hl9
  have gS : Good (p ^ h.toNat) n (S.map fun k' => Int.fmod k' (p ^ h.toNat)) := Good.fmap hM (by rw [List.length_map]; exact hl9)
  have all := (K.zero (p ^ h.toNat) _ gS).mpr ⟨z + ic (p ^ (kk - h).toNat) * (y + z1 + z2) + z3, by rw [h3, h2, h1, e, ic_one, hs, ic_mul]; grind⟩
  intro c hc
  have := List.all_eq_true.mp all _ (List.mem_map.mpr ⟨c, hc, rfl⟩)
  simpa using this
theorem nw_RC (K : Kit4 n φ N X) (hn : n = 2 ∨ n = 4) (hp : 2 ≤ p) (hk2 : 2 ≤ kk) (hq : q = p ^ kk.toNat) (gF : Good q n F) (r : NwRel φ p q n F fc h G) : ((stepL q F G).map fun k' => Int.fmod k' p) = fc := by
  obtain ⟨r1, gG, r3, z, y, e⟩ := r
  have hq2 : 2 ≤ q := by rw [hq]; exact pow_ge hp (by omega)
  have s1 := pow_split (p := p) (h := 1) (kk := kk) (by omega) (by omega)
  have s2 := pow_split (p := p) (h := 1) (kk := h) (by omega) (by omega)
  rw [← hq] at s1
  rw [show p ^ (1 : Int).toNat = p from Int.pow_one p] at s1 s2
  have gS := step_good hn hq2 gF gG
  obtain ⟨z2, h2⟩ := step_cg K hn hq2 gF gG
  obtain ⟨z3, h3⟩ := K.red p (stepL q F G) (by omega) gS.len
  obtain ⟨z4, h4⟩ := K.red p G (by omega) gG.len
  rw [← r3]
  refine K.cong p _ _ (Good.fmap hp (by rw [List.length_map]; exact gS.len)) (Good.fmap hp (by rw [List.length_map]; exact gG.len)) ⟨z3 - z4 + ic (p ^ (kk - 1).toNat) * z2 - φ G * (ic (p ^ (h - 1).toNat) * z + ic (p ^ (kk - 1).toNat) * y), ?_⟩
  rw [h3, h2, h4, e, s2, s1, ic_mul, ic_mul]; grind
theorem nw_RB (K : Kit4 n φ N X) (hn : n = 2 ∨ n = 4) (hp : 2 ≤ p) (hk2 : 2 ≤ kk) (hq : q = p ^ kk.toNat) (gF : Good q n F) (r : NwRel φ p q n F fc h G) : NwRel φ p q n F fc (2 * h) (stepL q F G) := by
  have hc := nw_RC K hn hp hk2 hq gF r
  obtain ⟨r1, gG, r3, z, y, e⟩ := r
  have hq2 : 2 ≤ q := by rw [hq]; exact pow_ge hp (by omega)
  obtain ⟨z2, h2⟩ := step_cg K hn hq2 gF gG
  refine ⟨by omega, step_good hn hq2 gF gG, hc, -(z * z), φ F * z2 - (2 * (ic (p ^ h.toNat) * z) * y + ic q * (y * y)), ?_⟩
  have s : p ^ (2 * h).toNat = p ^ h.toNat * p ^ h.toNat := by
    rw [← Int.pow_add]
    congr 1
    omega
  rw [s, ic_mul, h2]
  have : φ F * (φ G * (2 - φ F * φ G) + ic q * z2) = (φ F * φ G) * (2 - φ F * φ G) + ic q * (φ F * z2) := by grind
  rw [this, e]
  generalize (ic (p ^ h.toNat) : R) = m
  generalize (ic q : R) = Q
  grind
theorem nw_end (K : Kit4 n φ N X) (hn : n = 2 ∨ n = 4) (hp : 2 ≤ p) (hk2 : 2 ≤ kk) (hq : q = p ^ kk.toNat) (gF : Good q n F) (r : NwRel φ p q n F fc h G) (hl : kk ≤ h) : eqI q 1 (mulL q F G) = true := by
  obtain ⟨r1, gG, r3, z, y, e⟩ := r
  have hq2 : 2 ≤ q := by rw [hq]; exact pow_ge hp (by omega)
  have s := pow_split (p := p) (h := kk) (kk := h) (by omega) hl
  rw [← hq] at s
  obtain ⟨z1, h1⟩ := K.mulL q F G gF.len gG.len
  refine (K.eqI q 1 _ (by omega) (Good.mul hq2 hn gF gG)).mpr ⟨ic (p ^ (h - kk).toNat) * z + y + z1, ?_⟩
  rw [h1, e, s, ic_mul, ic_one]; grind
theorem nw_start (K : Kit4 n φ N X) (hn : n = 2 ∨ n = 4) (hp : 2 ≤ p) (hk2 : 2 ≤ kk) (hq : q = p ^ kk.toNat) (gF : Good q n F) (gi : Good p n fc) (h1 : eqI p 1 (mulL p (F.map fun k' => Int.fmod k' p) fc) = true) : NwRel φ p q n F fc 1 fc := by
  have s1 := pow_split (p := p) (h := 1) (kk := kk) (by omega) (by omega)
  rw [← hq, show p ^ (1 : Int).toNat = p from Int.pow_one p] at s1
  have hpk : 0 < p ^ (kk - 1).toNat := Int.pow_pos (by omega)
  have hpq : p ≤ q := by
    rw [s1]
    have := Int.mul_le_mul_of_nonneg_left (show 1 ≤ p ^ (kk - 1).toNat by omega) (show 0 ≤ p by omega)
    omega
  have gb : Good p n (F.map fun k' => Int.fmod k' p) := Good.fmap hp (by rw [List.length_map]; exact gF.len)
  obtain ⟨z, e⟩ := (K.eqI p 1 _ (by omega) (Good.mul hp hn gb gi)).mp h1
  obtain ⟨z1, e1⟩ := K.mulL p _ fc gb.len gi.len
  obtain ⟨z2, e2⟩ := K.red p F (by omega) gF.len
  refine ⟨by omega, ⟨gi.len, fun c hc => ⟨(gi.red c hc).1, Int.lt_of_lt_of_le (gi.red c hc).2 hpq⟩⟩, ?_, z - z1 - z2 * φ fc, 0, ?_⟩
  · have : ∀ c ∈ fc, Int.fmod c p = c := fun c hc => by
      rw [Int.fmod_eq_emod_of_nonneg _ (by omega)]
      exact Int.emod_eq_of_lt (gi.red c hc).1 (gi.red c hc).2
    exact (List.map_congr_left this).trans (List.map_id fc)
  · rw [show p ^ (1 : Int).toNat = p from Int.pow_one p]
    rw [e1, e2, ic_one] at e
    grind
theorem norm_red (K : Kit4 n φ N X) (hp : 2 ≤ p) {rc : List Int} (hl : rc.length = n) : Int.fmod (normL (rc.map fun k' => Int.fmod k' p)) p = Int.fmod (normL rc) p := by
  obtain ⟨z, e⟩ := K.red p rc (by omega) hl
  obtain ⟨k, h⟩ := K.Nmod (φ rc) p z
  rw [K.norm _ (by rw [List.length_map]; exact hl), K.norm rc hl, e, h, Int.fmod_eq_emod_of_nonneg _ (by omega), Int.fmod_eq_emod_of_nonneg _ (by omega), Int.add_mul_emod_self_left]
theorem rest_one {p : Nat} (K : Kit4 n φ N X) (hp : (2 : Int) ≤ p) {kc : List Int} (gk : Good (p : Int) n kc) : (negL p (subI p 1 kc)).all (· == 0) = eqI p 1 kc := by
  have ge : Good (p : Int) n (negL p (subI p 1 kc)) := Good.neg hp (Good.subI hp gk)
  obtain ⟨z, e⟩ := k_rest K.toKit1 gk
  rw [Bool.eq_iff_iff, K.zero p _ ge, K.eqI p 1 kc (by omega) gk]
  constructor
  · rintro ⟨y, hy⟩
    refine ⟨z - y, ?_⟩
    rw [ic_one]
    rw [hy] at e
    grind
  · rintro ⟨y, hy⟩
    refine ⟨z - y, ?_⟩
    rw [e, hy, ic_one]
    grind
end

end
section
section
variable {n : Nat} {p q kk : Int} {F fc : List Int}
theorem q4_kit (hn : n = 2 ∨ n = 4) {P : Prop} (h2 : n = 2 → @Kit4 2 P2 P2.ring φ2 N2 ⟨0, 1⟩ → P) (h4 : n = 4 → @Kit4 4 P4 P4.ring φ4 N4 ⟨0, 1, 0, 0⟩ → P) : P := by
  rcases hn with h | h
  · exact h2 h kit4_2
  · exact h4 h kit4_4
theorem m4_newton (hn : n = 2 ∨ n = 4) (hp : 2 ≤ p) (hk2 : 2 ≤ kk) (hq : q = p ^ kk.toNat) (gF : Good q n F) (gi : Good p n fc) (h1 : eqI p 1 (mulL p (F.map fun k' => Int.fmod k' p) fc) = true) :
    ∃ Rel : Int → List Int → Prop, Rel 1 fc ∧ (∀ h G, Rel h G → 1 ≤ h) ∧ (∀ h G, Rel h G → Good q n G) ∧ (∀ h G, Rel h G → h < kk → ∀ c ∈ subI q 1 (mulL q F G), Int.fmod c (p ^ h.toNat) = 0) ∧
      (∀ h G, Rel h G → h < kk → Rel (2 * h) (mulL q G (negL q (subI q 2 (mulL q F G))))) ∧ (∀ h G, Rel h G → h < kk → ((mulL q G (negL q (subI q 2 (mulL q F G)))).map fun k' => Int.fmod k' p) = fc) ∧
      (∀ h G, Rel h G → kk ≤ h → eqI q 1 (mulL q F G) = true) := by
  refine q4_kit hn (fun e K => ?_) (fun e K => ?_)
  · subst e
    exact ⟨@NwRel P2 P2.ring φ2 p q 2 F fc, @nw_start 2 P2 P2.ring φ2 N2 ⟨0, 1⟩ p q kk F fc K hn hp hk2 hq gF gi h1, fun h G r => r.1, fun h G r => r.2.1,
      fun h G r hl => @nw_RA 2 P2 P2.ring φ2 N2 ⟨0, 1⟩ p q kk h F G fc K hn hp hk2 hq gF r hl, fun h G r _ => @nw_RB 2 P2 P2.ring φ2 N2 ⟨0, 1⟩ p q kk h F G fc K hn hp hk2 hq gF r,
      fun h G r _ => @nw_RC 2 P2 P2.ring φ2 N2 ⟨0, 1⟩ p q kk h F G fc K hn hp hk2 hq gF r, fun h G r hl => @nw_end 2 P2 P2.ring φ2 N2 ⟨0, 1⟩ p q kk h F G fc K hn hp hk2 hq gF r hl⟩
  · subst e
    exact ⟨@NwRel P4 P4.ring φ4 p q 4 F fc, @nw_start 4 P4 P4.ring φ4 N4 ⟨0, 1, 0, 0⟩ p q kk F fc K hn hp hk2 hq gF gi h1, fun h G r => r.1, fun h G r => r.2.1,
      fun h G r hl => @nw_RA 4 P4 P4.ring φ4 N4 ⟨0, 1, 0, 0⟩ p q kk h F G fc K hn hp hk2 hq gF r hl, fun h G r _ => @nw_RB 4 P4 P4.ring φ4 N4 ⟨0, 1, 0, 0⟩ p q kk h F G fc K hn hp hk2 hq gF r,
      fun h G r _ => @nw_RC 4 P4 P4.ring φ4 N4 ⟨0, 1, 0, 0⟩ p q kk h F G fc K hn hp hk2 hq gF r, fun h G r hl => @nw_end 4 P4 P4.ring φ4 N4 ⟨0, 1, 0, 0⟩ p q kk h F G fc K hn hp hk2 hq gF r hl⟩
theorem m4_norm (hn : n = 2 ∨ n = 4) (hp : 2 ≤ p) {rc : List Int} (hl : rc.length = n) : Int.fmod (normL (rc.map fun k' => Int.fmod k' p)) p = Int.fmod (normL rc) p := by
  refine q4_kit hn (fun e K => ?_) (fun e K => ?_)
  · subst e; exact @norm_red 2 P2 P2.ring φ2 N2 ⟨0, 1⟩ p K hp rc hl
  · subst e; exact @norm_red 4 P4 P4.ring φ4 N4 ⟨0, 1, 0, 0⟩ p K hp rc hl
theorem two_cases {c : Int} (h : 0 ≤ c ∧ c < 2) : c = 0 ∨ c = 1 := by omega
theorem m4_two2 {bc : List Int} (g : Good 2 2 bc) : eqI 2 1 (mulL 2 bc (powSM 2 1 bc (oneL 2))) = (Int.fmod (normL bc) 2 != 0) := by
  rw [powSM_odd (by decide), show 1 / 2 = 0 from rfl, powSM_zero]
  obtain ⟨a, b, rfl⟩ := g.two
  rcases two_cases (g.red a (by simp)) with rfl | rfl <;> rcases two_cases (g.red b (by simp)) with rfl | rfl <;> decide
theorem m4_two4 {bc : List Int} (g : Good 2 4 bc) : eqI 2 1 (mulL 2 bc (powSM 2 7 bc (oneL 4))) = (Int.fmod (normL bc) 2 != 0) := by
  rw [powSM_odd (by decide), show 7 / 2 = 3 from rfl, powSM_odd (by decide), show 3 / 2 = 1 from rfl, powSM_odd (by decide), show 1 / 2 = 0 from rfl, powSM_zero]
  obtain ⟨a, b, c, d, rfl⟩ := g.four
  rcases two_cases (g.red a (by simp)) with rfl | rfl <;> rcases two_cases (g.red b (by simp)) with rfl | rfl <;> rcases two_cases (g.red c (by simp)) with rfl | rfl <;> rcases two_cases (g.red d (by simp)) with rfl | rfl <;> decide
theorem m4_one (hn : n = 2 ∨ n = 4) (h : q ∈ menu) {kc : List Int} (gk : Good q n kc) : (negL q (subI q 1 kc)).all (· == 0) = eqI q 1 kc := by
  obtain ⟨p, rfl, hp, ho⟩ := menu_prime h
  have hp2 : (2 : Int) ≤ p := by have := hp.1; omega
  refine q4_kit hn (fun e K => ?_) (fun e K => ?_)
  · subst e; exact @rest_one 2 P2 P2.ring φ2 N2 ⟨0, 1⟩ p K hp2 kc gk
  · subst e; exact @rest_one 4 P4 P4.ring φ4 N4 ⟨0, 1, 0, 0⟩ p K hp2 kc gk
def menu4 : List Int := [2, 3, 5, 7, 17, 257]
theorem menu4_of (h : p ∈ [2, 3, 5, 7, 17, (257 : Int)]) : p = 2 ∨ (p ≠ 2 ∧ p ∈ menu) := by
  simp only [List.mem_cons, List.not_mem_nil, or_false] at h
  rcases h with rfl | rfl | rfl | rfl | rfl | rfl
  · exact .inl rfl
  all_goals exact .inr (by decide)
theorem m4_first (hn : n = 2 ∨ n = 4) (hm : p ∈ [2, 3, 5, 7, 17, (257 : Int)]) (hp : 2 ≤ p) {rc : List Int} (hl : rc.length = n) {T : Int} (hT : TimesP p n T) :
    eqI p 1 (mulL p (rc.map fun k' => Int.fmod k' p) (powSM p (T - 1).toNat (rc.map fun k' => Int.fmod k' p) (oneL n))) = (Int.fmod (normL rc) p != 0) := by
  have gb : Good p n (rc.map fun k' => Int.fmod k' p) := Good.fmap hp (by rw [List.length_map]; exact hl)
  rw [← m4_norm hn hp hl]
  generalize (rc.map fun k' => Int.fmod k' p) = bc at *
  rcases hT with ⟨h2, hT⟩ | ⟨h2, d, hd, hz, hT⟩
  · subst h2; subst hT
    rcases hn with e | e
    · subst e; exact m4_two2 gb
    · subst e; exact m4_two4 gb
  · subst hT
    rcases menu4_of hm with e | ⟨_, hm'⟩
    · exact absurd e h2
    · have A := (m1_all hn hm' gb hd hz).1
      have gk : Good p n (keptL p d n bc) := Good.mul hp hn gb (Good.pow hp hn gb)
      rw [m4_one hn hm' gk] at A
      rw [A, show p ^ d.toNat - 1 - 1 = p ^ d.toNat - 2 by omega]
theorem m4_po (hn : n = 2 ∨ n = 4) (hm : p ∈ [2, 3, 5, 7, 17, (257 : Int)]) : p = 2 ∨ (p ≠ 2 ∧ Int.fmod (p ^ 2 - 1) (2 * (n : Int)) = 0) := by
  rcases menu4_of hm with e | ⟨h, hm'⟩
  · exact .inl e
  · exact .inr ⟨h, menu_sq hm' hn⟩
theorem m4_rng (hm : p ∈ [2, 3, 5, 7, 17, (257 : Int)]) : 2 ≤ p ∧ p ≤ 257 ∧ Builtin.Int.intBits p ≤ 100 := by
  simp only [List.mem_cons, List.not_mem_nil, or_false] at hm
  rcases hm with rfl | rfl | rfl | rfl | rfl | rfl <;> decide
theorem m4_q (hm : p ∈ [2, 3, 5, 7, 17, (257 : Int)]) (h2 : 2 ≤ kk) (h8 : kk ≤ 8) : 2 ≤ p ^ kk.toNat ∧ Builtin.Int.intBits (p ^ kk.toNat) ≤ 100 := by
  obtain ⟨m, e⟩ : ∃ m : Nat, kk.toNat = m := ⟨_, rfl⟩
  have hm2 : 2 ≤ m ∧ m ≤ 8 := by omega
  rw [e]
  obtain ⟨h3, h4⟩ := hm2
  have : m = 2 ∨ m = 3 ∨ m = 4 ∨ m = 5 ∨ m = 6 ∨ m = 7 ∨ m = 8 := by omega
  simp only [List.mem_cons, List.not_mem_nil, or_false] at hm
  rcases hm with rfl | rfl | rfl | rfl | rfl | rfl <;> rcases this with rfl | rfl | rfl | rfl | rfl | rfl | rfl <;> decide
end

end

end Mine
open Mine
set_option maxRecDepth 100000 in
set_option maxHeartbeats 8000000 in
theorem PySem.Challenge.cw_ay0009_04_holds : PySem.Challenge.rw_ay0009_04.Holds := by
  refine Mine.hd (?_)
  k_fill
  intro w s₀ s₁ mg mb G Y fa o pm cd doc dV kV ho hd hcd hD hmg hg args vals as hpre hlay hrd hwl hlo
  have KX := kIn_of Y.1
  have hT1 := Y.2.1
  have hT2 := Y.2.2
  clear Y
  refine Ground.open G ?_
  intro T B D TE TW
  try (refine guard_noD D (by decide +kernel) ?_; clear D)
  clear hmg
  wrow_args hpre hlay hrd hwl hlo
  first | refine callC_kw (enter_call ?_) | refine enter_call ?_ | refine callC_kw (enter_callW ?_) | refine enter_callW ?_ | w_how
  w_top on
  w_call any ho hd hcd hD T F
  clear hd
  (rename News _ _ _ _ => N0)
  (rename Heap.IsList _ _ _ => hL0)
  (rename IntsAre _ _ => hI0)
  have F1 := fr_hide2 (a := 86) (c := 93) F
  have N1 := news_hide2 F N0 hT1 hT2
  have X1 := in_hide2 (a := 86) (c := 93) KX rfl rfl
  have T1 := top_hide2 T hT1 hT2
  have hL1 := list_hide2 hL0 hT1 hT2
  have B1 := below_caller ((s₁.heap.hide 86).hide 93)
  have hG1 : AllBare s₁.gens := AllBare.of_eq hg
  have hlt1 : @LT.lt Nat _ 86 s₁.heap.objs.size := Heap.lt_size hT1
  have hlt2 : @LT.lt Nat _ 93 s₁.heap.objs.size := Heap.lt_size hT2
  have htr : TriplesOk (#[] : Array Value).toList := triples_nil
  clear F N0 T TE TW B hL0 hD hcd G
  simp only [List.cons_append, List.nil_append] at N1
  clear ho hg
  dsimp only at F1 ⊢
  try ((rename CellsAre _ _ _ => hX0); clear hX0)
  repeat ((rename Obj.data _ = Data.cell (bindC _ _ _ _) => hcA); (have hcA' := cell_none hcA rfl); clear hcA)
  obtain ⟨m0, F2⟩ := fr_small (x := Str.ofString "script") F1 rfl
  clear F1

  have hlen63 := hI0.length
  refine wpAny_execs_cons (st4_0 B1 X1 T1 (os0 := s₁.os) hL1 hI0 (by omega) ⟨⟨m0, F2⟩, N1, ⟨⟨#[], by simp, htr⟩, ⟨#[], by simp, htr⟩⟩, List.forall_mem_cons.mpr ⟨⟨_, (List.mem_cons_of_mem _ (List.mem_cons_of_mem _ List.mem_cons_self)), ?_⟩, List.forall_mem_cons.mpr ⟨⟨_, (List.mem_cons_of_mem _ List.mem_cons_self), ?_⟩, List.forall_mem_cons.mpr ⟨⟨_, List.mem_cons_self, ?_⟩, List.forall_mem_nil _⟩⟩⟩, hG1, rfl⟩ fun s1 nx1 ln ns1 S1 e1 hl1 hlen1 => ?_)
  · assumption
  · assumption
  · assumption
  clear F2 N1
  refine wpAny_execs_cons (st4_1 B1 X1 T1 hl1 hlen1 S1 fun s2 nx2 p tp kk tk S2 e2 hpm hk2 hk8 => ?_)
  obtain ⟨hp2, hp8, hpb⟩ := m4_rng hpm
  refine wpAny_execs_cons (st4_2 B1 X1 T1 hp2 hp8 hpb hk2 hk8 (hl1.ext e2) hlen1 S2 fun s3 nx3 n tn S3 e3 hn' => ?_)
  have hn : n = 2 ∨ n = 4 := hn'.imp id And.left
  have e13 := ext_trans e2 e3
  refine wpAny_execs_cons (st4_3 B1 X1 T1 hn hp2 hp8 hpb hk2 hk8 (hl1.ext e13) hlen1 S3 fun s4 nx4 tq S4 e4 => ?_)
  have e14 := ext_trans e13 e4
  obtain ⟨hq2, hqb⟩ := m4_q hpm hk2 hk8
  obtain ⟨q, hq⟩ : ∃ q : Int, q = p ^ kk.toNat := ⟨_, rfl⟩
  rw [← hq] at hq2 hqb S4
  refine wpAny_execs_cons (st4_4 B1 X1 T1 hn hp2 hp8 hpb hk2 hk8 hq2 hqb (hl1.ext e14) hlen1 S4 fun s5 nx5 lr rc S5 e5 hrow5 gr => ?_)
  refine wpAny_execs_cons (st4_5 B1 X1 T1 hn hp2 hp8 hpb hk2 hk8 hq2 hqb hrow5 gr S5 fun s6 nx6 sm gt S6 e6 hs6 hg6 => ?_)
  refine wpAny_execs_cons (st4_6 B1 X1 T1 hn hp2 hp8 hpb hk2 hk8 hq2 hqb (hrow5.ext e6) gr hs6 hg6 S6 fun s7 nx7 bx fx S7 e7 hb7 hf7 => ?_)
  have hrow7 := hrow5.ext (ext_trans e6 e7)
  have gb : Good p n (rc.map fun k' => Int.fmod k' p) := Good.fmap hp2 (by rw [List.length_map]; exact gr.len)
  refine wpAny_execs_cons (st4_7 B1 X1 T1 hn hp2 hp8 hpb hk2 hk8 hq2 hqb hrow7 gr (hs6.ext e7) (hg6.ext e7) hb7 hf7 gb (m4_po hn hpm) S7 fun s8 nx8 fi T S8 e8 hi8 hT => ?_)
  have gi : Good p n (powSM p (T - 1).toNat (rc.map fun k' => Int.fmod k' p) (oneL n)) := Good.pow hp2 hn gb
  have hfi := m4_first hn hpm hp2 gr.len hT
  have e78 := ext_trans e7 e8
  refine wpAny_execs_cons (st4_8 B1 X1 T1 hn hp2 hp8 hpb hk2 hk8 hq2 hqb (hrow7.ext e8) gr (hs6.ext e78) (hg6.ext e78) (hb7.ext e8) (hf7.ext e8) gb hi8 gi hfi S8 fun s9 nx9 S9 e9 => ?_)
  have e79 := ext_trans e78 e9
  have e89 := ext_trans e8 e9
  refine wpAny_execs_cons (st4_9 B1 X1 T1 hn hp2 hp8 hpb hk2 hk8 hq2 hqb (hrow7.ext e89) gr (hs6.ext e79) (hg6.ext e79) (hb7.ext e89) (hf7.ext e89) gb (hi8.ext e9) gi (fun s10 nx10 S10 e10 => ?_) S9 fun s10 nx10 hne S10 e10 => ?_)
  · obtain ⟨⟨m13, F13⟩, N13, ⟨⟨pa, ta, _⟩, ⟨pc, tc, _⟩⟩, _, G13, O13⟩ := S10
    (dsimp only; exact law_end (ca := 90) (cc := 97) rfl F13 N13 ta tc hT1 hT2 KX rfl rfl rfl rfl G13 O13 (fun _ => rfl) (postW_of rfl (w_eq_bool (w_res rfl) w_lit) rfl))
  have hone := hfi.trans (bne_iff_ne.mpr hne)
  have e710 := ext_trans e79 e10
  have e810 := ext_trans e89 e10
  refine wpAny_execs_cons (st4_10 (tn := tn) B1 X1 T1 hn hp2 hp8 hpb hk2 hk8 hq2 hqb (hrow7.ext e810) gr (hs6.ext e710) (hg6.ext e710) (hf7.ext e810) (hi8.ext (ext_trans e9 e10)) gi S10 fun s11 nx11 gx th S11 e11 hx11 => ?_)
  have e711 := ext_trans e710 e11
  have e811 := ext_trans e810 e11
  obtain ⟨Rel, rel, R1, RG, RA, RB, RC, RE⟩ := m4_newton hn hp2 hk2 hq gr gi hone
  refine wpAny_execs_cons (st4_11 (tn := tn) B1 X1 T1 (by passes_own) hn hp2 hp8 hpb hk2 hk8 hq2 hqb gr (hs6.ext e711) (hg6.ext e711) (hf7.ext e811) (hi8.ext (ext_trans e9 (ext_trans e10 e11))) gi hx11 rel R1 RG RA RB RC S11 fun s12 nx12 gx2 G9 h9 th2 hR hkh S12 e12 hx12 => ?_)
  have e712 := ext_trans e711 e12
  have e812 := ext_trans e811 e12
  refine wpAny_execs_cons (st4_12 (tn := tn) (tk := tk) B1 X1 T1 hn hp2 hp8 hpb hk2 hk8 hq2 hqb (hrow7.ext e812) gr (hs6.ext e712) (hg6.ext e712) (hf7.ext e812) hx12 (RG _ _ hR) (RE _ _ hR hkh) S12 fun s13 nx13 S13 e13 => ?_)
  obtain ⟨⟨m13, F13⟩, N13, ⟨⟨pa, ta, _⟩, ⟨pc, tc, _⟩⟩, _, G13, O13⟩ := S13
  (dsimp only; exact law_end (ca := 90) (cc := 97) rfl F13 N13 ta tc hT1 hT2 KX rfl rfl rfl rfl G13 O13 (fun _ => rfl) (postW_of rfl (w_eq_bool (w_res rfl) w_lit) rfl))
