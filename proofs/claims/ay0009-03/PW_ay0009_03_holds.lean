import PyProof.Rows.All
import Wide.All
import OpenK.AllK
import Wide.FinOn
import PySem.Challenge.RW_ay0009_03
open PySem PySem.W PySem.Calls PyProof.Rows
set_option Elab.async false
set_option rowWalk.seconds 0
set_option linter.all false
namespace Mine
section
abbrev tabObj (ps : Array Value) : Obj := { cls := .none, data := .fields ps }
def hookTab (H : Hook) : Hook where
  α := H.α × (Option Obj × Option Obj)
  obs := fun s => (H.obs s, (s.heap.get? 86, s.heap.get? 93))
  val := fun w => (H.val w, (some (tabObj #[]), some (tabObj #[])))
  says := fun w h => H.says w h ∧ h.get? 86 = some (tabObj #[]) ∧ h.get? 93 = some (tabObj #[])
  of := fun w s e => ⟨H.of w s (congrArg Prod.fst e), congrArg (fun x => x.2.1) e, congrArg (fun x => x.2.2) e⟩
  keeps := fun w h h' x k => ⟨H.keeps w h h' x.1 k, k _ _ x.2.1, k _ _ x.2.2⟩
local macro_rules | `(tactic| o_head (kHook $a $b $c)) => `(tactic| o_head (hookTab (kHook $a $b $c)))
noncomputable def topFromF (p : Program) (w : World) (N : Nat) (s₀ : Shared) : Option Shared :=
  match s₀.heap.isNs mainGlobals && s₀.gens.size == 0 with
  | true => (Fast.tw14082659384304107361 Fast.tw14364793385576792824 p w s₀.heap.objs.size (s₀.heap.nsMap mainGlobals "__annotations__") N s₀ (topStub p)).bind fun s₁ => match staticsOk (Fast.tw5923862056798008813 p.main.body) s₀.heap s₁.heap && namesBound p s₁.heap && gensDone s₁ && laidKept s₀.heap s₁.heap with
      | true => some s₁
      | false => none
  | false => none
theorem topFromF_eq (p : Program) (w : World) (N : Nat) (s₀ : Shared) : topFromF p w N s₀ = topFrom treeTable p w N s₀ := by
  unfold topFromF topFrom
  rw [← Fast.te14082659384304107361, ← Fast.te14364793385576792824, ← Fast.te5923862056798008813]
  cases s₀.heap.isNs mainGlobals && s₀.gens.size == 0 <;> rfl
abbrev LeftQ (p q : Program) (loose : List Str) (Xt : Shared → Bool) {α : Type} (Yf : Shared → α) (Ya : World → α) (N : Nat) : Prop :=
  ∀ w : World, (fun os : OsState => (topFromF p w N ⟨boot_heap w.params, { toList := [] }, boot_drawn, boot_toks, os⟩).map (fun s => (Fast.tw4187177175401517315 q loose (Fast.tw5923862056798008813 p.main.body) Xt true s, Yf s))) = fun _ => some (openGood q loose, Ya w)
theorem left_of {p q : Program} {loose : List Str} {Xt : Shared → Bool} {α : Type} {Yf : Shared → α} {Ya : World → α} {N : Nat} (h : LeftQ p q loose Xt Yf Ya N)
    (e : opening p = plainProg p.main.scope.names) (f : ∀ s, fenceModules? p s = some s) (le : Nat.ble 600 N = true) : LeftO p q loose Xt Yf Ya N := fun w => by
  obtain ⟨s, hs, hv⟩ := Option.map_eq_some_iff.mp (boot_open e le f w)
  have h1 := congrFun (h w) s.os
  rw [topFromF_eq, ← Fast.te4187177175401517315, ← Fast.te5923862056798008813] at h1
  have h2 : s = ⟨boot_heap w.params, { toList := [] }, boot_drawn, boot_toks, s.os⟩ := by
    cases s
    simp only [Prod.mk.injEq] at hv
    obtain ⟨a, b, c, d⟩ := hv
    subst a; subst b; subst c; subst d
    rfl
  rw [← h2] at h1
  unfold openEnds
  rw [hs]
  exact h1
theorem PySem.W.holds_open {r : OpenRow} {q : Program} {loose : List Str} {Xt : Shared → Bool} {XP : (Str → Option Value) → Heap → Prop} {α : Type} {Yf : Shared → α} {Ya : World → α} {YP : World → Heap → Prop} {d : DefRec} {kwd : List (Str × Expr)} {N : Nat}
    (left : LeftQ r.prog q loose Xt Yf Ya N) (hY : ∀ w s, Yf s = Ya w → YP w s.heap) (hYk : ∀ w h h', YP w h → (∀ b o, h.get? b = some o → h'.get? b = some o) → YP w h')
    (hX : ∀ s, Xt s = true → XP (s.heap.nsMap mainGlobals) s.heap) (hXk : ∀ mg h h', XP mg h → (∀ b o, h.get? b = some o → h'.get? b = some o) → XP mg h')
    (hdef : defOf q r.name = some (d, kwd)) (hp : r.prog.theDef r.name = some (d.params, d.body, d.scope)) (hk : kwWritten? d.params.kwonlyargs d.params.kw_defaults = some kwd) (hRf : ∀ s, Xt s = true → RecFacts r.records s.heap) (hwr : (!r.writes || r.records.isEmpty) = true)
    (k1 : r.wellSaid = true) (ok : (chainsOk q && opensWell r.prog && (frees r.toRowW && r.within.isEmpty)) = true) (hb : r.prog.bare) (hw : r.toRowW.promised)
    (call : WalkO q loose XP YP r.toRowW d kwd fun f vs => PySem.call f vs)
    (e : opening r.prog = plainProg r.prog.main.scope.names := by kernel_rfl) (f : ∀ s, fenceModules? r.prog s = some s := by exact fun _ => rfl) (le : Nat.ble 600 N = true := by decide) : r.Holds :=
  _root_.PySem.W.holds_open (left_of left e f le) hY hYk hX hXk hdef hp hk hRf hwr k1 ok hb hw call
local macro_rules | `(tactic| o_law) => `(tactic| refine holds_law (by rw [Fast.te9446332074065402090]; decide +kernel) fun said => ?_)
set_option maxRecDepth 100000 in
set_option maxHeartbeats 8000000 in
open_top hd for PySem.Challenge.rw_ay0009_03

end
section
theorem codeAny_le {M : Model} {A A' : Around} {c : Code} {R : Result → Shared → Prop} {s : Shared} (h : codeAny M A c R s)
    (h1 : A'.handled = A.handled) (h2 : A'.depth ≤ A.depth) (h3 : A'.frames = A.frames) (h4 : A'.guards = A.guards) (h5 : A'.units ≤ A.units) : codeAny M A' c R s :=
  fun Γ p hc hΓ => h Γ p hc ⟨hΓ.1.trans h1, Nat.le_trans hΓ.2.1 h2, fun l hl => hΓ.2.2.1 l (h3.trans hl), fun g hg => hΓ.2.2.2.1 g (h4.trans hg), Nat.le_trans hΓ.2.2.2.2 h5⟩

abbrev arA (dp un : Nat) (gd : Option (List Code)) (env : Env) (outer : List Env) : Around := { handled := none, depth := dp, frames := some (env :: outer), guards := gd, units := un }
theorem codeAny_ar {M : Model} {A : Around} {env : Env} {outer : List Env} {c : Code} {R : Result → Shared → Prop} {s : Shared} {D U : Nat}
    (hA : A.frames = some (env :: outer)) (hH : A.handled = none) (hd : A.depth ≤ D) (hu : A.units ≤ U) (h : codeAny M (arA D U A.guards env outer) c R s) : codeAny M A c R s :=
  codeAny_le h hH hd hA rfl hu

abbrev ringD (w : World) (t1 t2 : Tok) (q : Int) (n : Int) (u1 u2 : Tok) : Obj :=
  dictOf [⟨PyData.keyHash w.params "q", .str "q" t1, .int q u1⟩, ⟨PyData.keyHash w.params "n", .str "n" t2, .int n u2⟩] 2
abbrev polyD (w : World) (t1 t2 : Tok) (r l : Addr) : Obj :=
  dictOf [⟨PyData.keyHash w.params "parent", .str "parent" t1, .ref r⟩, ⟨PyData.keyHash w.params "coeffs", .str "coeffs" t2, .ref l⟩] 2

structure IsRing (w : World) (news : List (Addr × Obj)) (r : Addr) (q n : Int) : Prop where
  out : ∃ dr t1 t2 u1 u2, (r, instObj 66 dr) ∈ news ∧ (dr, ringD w t1 t2 q n u1 u2) ∈ news
structure IsInts (news : List (Addr × Obj)) (l : Addr) (cs : List Int) : Prop where
  out : ∃ vs n, (l, W.listOf vs.toArray n) ∈ news ∧ IntsAre vs cs
structure IsPoly (w : World) (news : List (Addr × Obj)) (r x : Addr) (cs : List Int) : Prop where
  out : ∃ dx lx t1 t2, (x, instObj 229 dx) ∈ news ∧ (dx, polyD w t1 t2 r lx) ∈ news ∧ IsInts news lx cs
theorem IsRing.mono {w : World} {news news' : List (Addr × Obj)} {r : Addr} {q n : Int} (h : IsRing w news r q n) (hs : ∀ p ∈ news, p ∈ news') : IsRing w news' r q n :=
  let ⟨dr, t1, t2, u1, u2, a, b⟩ := h.out; ⟨dr, t1, t2, u1, u2, hs _ a, hs _ b⟩
theorem IsInts.mono {news news' : List (Addr × Obj)} {l : Addr} {cs : List Int} (h : IsInts news l cs) (hs : ∀ p ∈ news, p ∈ news') : IsInts news' l cs :=
  let ⟨vs, n, a, b⟩ := h.out; ⟨vs, n, hs _ a, b⟩
theorem IsPoly.cast {w : World} {news : List (Addr × Obj)} {r x : Addr} {cs ds : List Int} (h : IsPoly w news r x cs) (e : cs = ds) : IsPoly w news r x ds := e ▸ h
theorem IsPoly.mono {w : World} {news news' : List (Addr × Obj)} {r x : Addr} {cs : List Int} (h : IsPoly w news r x cs) (hs : ∀ p ∈ news, p ∈ news') : IsPoly w news' r x cs :=
  let ⟨dx, lx, t1, t2, a, b, c⟩ := h.out; ⟨dx, lx, t1, t2, hs _ a, hs _ b, c.mono hs⟩

theorem ints1 {ys : List Value} {x : Int} (h : IntsAre ys [x]) : ∃ t0, ys = [.int x t0] := by
  cases h with | cons _ _ h => cases h; exact ⟨_, rfl⟩
theorem ints2 {ys : List Value} {x y : Int} (h : IntsAre ys [x, y]) : ∃ t0 t1, ys = [.int x t0, .int y t1] := by
  cases h with | cons _ _ h => cases h with | cons _ _ h => cases h; exact ⟨_, _, rfl⟩
theorem ints3 {ys : List Value} {x y z : Int} (h : IntsAre ys [x, y, z]) : ∃ t0 t1 t2, ys = [.int x t0, .int y t1, .int z t2] := by
  cases h with | cons _ _ h => cases h with | cons _ _ h => cases h with | cons _ _ h => cases h; exact ⟨_, _, _, rfl⟩
theorem ints4 {ys : List Value} {x y z u : Int} (h : IntsAre ys [x, y, z, u]) : ∃ t0 t1 t2 t3, ys = [.int x t0, .int y t1, .int z t2, .int u t3] := by
  cases h with | cons _ _ h => cases h with | cons _ _ h => cases h with | cons _ _ h => cases h with | cons _ _ h => cases h; exact ⟨_, _, _, _, rfl⟩

theorem off1_all {D : Addr} : ∀ {l : List (Addr × Obj)}, LCg.Off1 D l → ∀ p ∈ l, p.1 ≠ D
  | [], _, _, h => (nomatch h)
  | _ :: _, h, p, hp => by
    rcases List.mem_cons.mp hp with rfl | hp
    · exact h.1
    · exact off1_all h.2 p hp
theorem news_sub {h₀ h : Heap} {L : Addr} {news news' : List (Addr × Obj)} (N : News h₀ L h news') (hs : ∀ p ∈ news, p ∈ news') : News h₀ L h news := fun p hp => N p (hs p hp)
theorem news_cons {h₀ h : Heap} {L : Addr} {news : List (Addr × Obj)} {q : Addr × Obj} (hq : q ∈ news) (N : News h₀ L h news) : News h₀ L h (q :: news) := fun p hp => by
  rcases List.mem_cons.mp hp with rfl | hp
  · exact N _ hq
  · exact N _ hp
theorem sub_cons {q : Addr × Obj} {l l' : List (Addr × Obj)} (h : ∀ p ∈ l, p ∈ l') (hq : q ∈ l') : ∀ p ∈ q :: l, p ∈ l' := fun p hp => by
  rcases List.mem_cons.mp hp with rfl | hp
  · exact hq
  · exact h p hp
theorem sub_skip {q : Addr × Obj} {l l' : List (Addr × Obj)} (h : ∀ p ∈ l, p ∈ l') : ∀ p ∈ l, p ∈ q :: l' := fun p hp => List.mem_cons_of_mem _ (h p hp)
theorem sub_trans {a b c : List (Addr × Obj)} (h : ∀ p ∈ a, p ∈ b) (k : ∀ p ∈ b, p ∈ c) : ∀ p ∈ a, p ∈ c := fun p hp => k p (h p hp)
theorem sub_trans2 {a b c : List (Addr × Obj)} (k : ∀ p ∈ b, p ∈ c) (h : ∀ p ∈ a, p ∈ b) : ∀ p ∈ a, p ∈ c := fun p hp => k p (h p hp)
theorem sub_mem {a b : List (Addr × Obj)} {q : Addr × Obj} (h : ∀ p ∈ a, p ∈ b) (k : q ∈ a) : q ∈ b := h q k
theorem sub_refl {l : List (Addr × Obj)} : ∀ p ∈ l, p ∈ l := fun _ h => h
theorem cons_congr {x y : Int} {a b : List Int} (h : x = y) (e : a = b) : x :: a = y :: b := h ▸ e ▸ rfl
theorem ints_cast {vs : List Value} {a b : List Int} (h : IntsAre vs a) (e : a = b) : IntsAre vs b := e ▸ h
theorem off1_of {d : Addr} : ∀ {l : List (Addr × Obj)}, AllLt d l → LCg.Off1 d l
  | [], _ => trivial
  | _ :: _, h => ⟨Nat.ne_of_lt h.1, off1_of h.2⟩
theorem off1_lt {d x : Addr} (hx : @LT.lt Nat _ d x) {l : List (Addr × Obj)} (h : AllLt d l) : LCg.Off1 x l := off1_of (tbn_up hx h)
theorem my_unrEnd {h₀ : Heap} {L I : Addr} {it : Obj} {rest : (Str → Option Value) → List (Addr × Obj) → Prop} {s₁ : Shared} {h' : Heap} {tk : Nat} {m' : Str → Option Value} {news' : List (Addr × Obj)} (F : Fr h₀ L h' m') (N : News h₀ L h' ((I, it) :: news'))
    (off : AllLt I news') (r : rest m' news') : UnrEnd h₀ L s₁ I it rest { s₁ with heap := h', toks := tk } :=
  UnrEnd.intro F N news' (fun _ hp => hp) (tbn_neAll off) r
theorem my_sub {prog : Program} {w : World} {A : Around} {E : Value → Shared → Prop} {s : Shared} {h₀ : Heap} {L l : Addr} {news : List (Addr × Obj)} {value slice : PySem.Expr} {vs : List Value} {n : Nat} {k : Int} {u : Tok} {v : Value} {Q : Value → Shared → Prop}
    (N : News h₀ L s.heap news) (hm : (l, W.listOf vs.toArray n) ∈ news) (h0 : 0 ≤ k) (hhi : k < 2 ^ 63) (hx : vs[k.toNat]? = some v) (h : Q v s)
    (hs : subscripted slice false (.ref l) (.int k u) = operate [.ref l, .int k u] (getItem (.ref l) (.int k u)) := by with_unfolding_all rfl) :
    wpAny (model prog w) A (subscriptTail value slice (.ref l) (.int k u)) Q E s :=
  have hl := News.isList N hm
  tail_any hl.typeIs slot_list_getitem.lookup (wpAny_getItem_list hl h0 hhi (by simpa using hx) h) hs
theorem my_copy {prog : Program} {w : World} {A : Around} {E : Value → Shared → Prop} {s : Shared} {h₀ : Heap} {L l : Addr} {m : Str → Option Value} {news : List (Addr × Obj)} {vs : List Value} {Q : Value → Shared → Prop}
    (F : Fr h₀ L s.heap m) (N : News h₀ L s.heap news) (hl : s.heap.IsList l vs.toArray)
    (h : ∀ D h', Fr h₀ L h' m → News h₀ L h' ((D, W.listOf vs.toArray 0) :: news) → (∀ q ∈ news, q.1 < D) → Q (.ref D) { s with heap := h' }) (hsz : vs.length ≤ sizeLine) :
    wpAny (model prog w) A (call (.builtin "list.copy") [.ref l]) Q E s :=
  copy_list F N hl (fun h' F' N' => h _ h' F' N' fun q hq => Heap.lt_size (N q hq).1) hsz
theorem my_pow1 {prog : Program} {w : World} {A : Around} {E : Value → Shared → Prop} {s : Shared} {Q : Value → Shared → Prop} {a n : Int} {t u : Tok} (hn : 0 ≤ n) (hn2 : n ≤ 1000000) (ha : a.natAbs < 2 ^ 64) (e : a ^ n.toNat = 1) (h : Q (.int 1 s.toks) { s with toks := s.toks + 1 }) :
    wpAny (model prog w) A (binaryOp .Pow (.int a t) (.int n u)) Q E s := pow_int_small hn hn2 ha (by rw [e]; exact h)
theorem my_powm {prog : Program} {w : World} {A : Around} {E : Value → Shared → Prop} {s : Shared} {Q : Value → Shared → Prop} {a n : Int} {t u : Tok} (hn : 0 ≤ n) (hn2 : n ≤ 1000000) (ha : a.natAbs < 2 ^ 64) (e : a ^ n.toNat = -1) (h : Q (.int (-1) s.toks) { s with toks := s.toks + 1 }) :
    wpAny (model prog w) A (binaryOp .Pow (.int a t) (.int n u)) Q E s := pow_int_small hn hn2 ha (by rw [e]; exact h)
theorem int_cast9 {R : Result → Shared → Prop} {a b : Int} {tk : Tok} {s : Shared} (h : R (.ok (.ret (.int a tk))) s) (e : a = b) : R (.ok (.ret (.int b tk))) s := e ▸ h
theorem my_get {prog : Program} {w : World} {A : Around} {E : Value → Shared → Prop} {s : Shared} {h₀ : Heap} {L l : Addr} {news : List (Addr × Obj)} {vs : List Value} {n : Nat} {k : Int} {u : Tok} {v : Value} {Q : Value → Shared → Prop}
    (N : News h₀ L s.heap news) (hm : (l, W.listOf vs.toArray n) ∈ news) (h0 : 0 ≤ k) (hhi : k < 2 ^ 63) (hx : vs[k.toNat]? = some v) (h : Q v s) :
    wpAny (model prog w) A (getItem (.ref l) (.int k u)) Q E s :=
  have hl := News.isList N hm
  wpAny_getItem_list hl h0 hhi (by simpa using hx) h


def mulL (q : Int) : List Int → List Int → List Int
  | [a0, a1], [b0, b1] => [(a0 * b0 - a1 * b1) % q, (a0 * b1 + a1 * b0) % q]
  | [a0, a1, a2, a3], [b0, b1, b2, b3] => [(a0 * b0 - a1 * b3 - a2 * b2 - a3 * b1) % q, (a0 * b1 + a1 * b0 - a2 * b3 - a3 * b2) % q, (a0 * b2 + a1 * b1 + a2 * b0 - a3 * b3) % q, (a0 * b3 + a1 * b2 + a2 * b1 + a3 * b0) % q]
  | _, _ => []
def oneL (n : Nat) : List Int := 1 :: List.replicate (n - 1) 0
def powSM (q : Int) (k : Nat) (f g : List Int) : List Int :=
  if k = 0 then g else powSM q (k / 2) (mulL q f f) (if k % 2 = 1 then mulL q g f else g)
termination_by k
decreasing_by omega
def addI (q v : Int) : List Int → List Int
  | [] => []
  | c :: r => (c + v) % q :: r
def subI (q v : Int) : List Int → List Int
  | [] => []
  | c :: r => (c - v) % q :: r
def mulI (q v : Int) (cs : List Int) : List Int := cs.map fun c => (c * v) % q
def negL (q : Int) (cs : List Int) : List Int := cs.map fun c => (-c) % q
def addL (q : Int) : List Int → List Int → List Int
  | a :: r, b :: t => (a + b) % q :: addL q r t
  | _, _ => []
def eqI (q v : Int) : List Int → Bool
  | [] => false
  | c :: r => r.all (· == 0) && (v % q == c)
def normL : List Int → Int
  | [a0, a1] => a0 * a0 + a1 * a1
  | [a0, a1, a2, a3] =>
    let e0 := a0 * a0 - a2 * a2 + 2 * (a1 * a3)
    let e1 := 2 * (a0 * a2) - a1 * a1 + a3 * a3
    e0 * e0 + e1 * e1
  | _ => 0
structure Good (q : Int) (n : Nat) (cs : List Int) : Prop where
  len : cs.length = n
  red : ∀ c ∈ cs, 0 ≤ c ∧ c < q
theorem bits_red {q c : Int} {b : Nat} (hq : Builtin.Int.intBits q ≤ b) (h : 0 ≤ c ∧ c < q) : Builtin.Int.intBits c ≤ b := bits_of_natAbs_le (by omega) hq
theorem len_two {cs : List Int} (h : cs.length = 2) : ∃ a0 a1, cs = [a0, a1] := by
  match cs, h with
  | [a0, a1], _ => exact ⟨_, _, rfl⟩
theorem len_four {cs : List Int} (h : cs.length = 4) : ∃ a0 a1 a2 a3, cs = [a0, a1, a2, a3] := by
  match cs, h with
  | [a0, a1, a2, a3], _ => exact ⟨_, _, _, _, rfl⟩
theorem bits_good {q : Int} {n b : Nat} {cs : List Int} (hq : Builtin.Int.intBits q ≤ b) (h : Good q n cs) : ∀ c ∈ cs, Builtin.Int.intBits c ≤ b := fun c hc => bits_red hq (h.red c hc)
theorem Good.two {q : Int} {cs : List Int} (h : Good q 2 cs) : ∃ a0 a1, cs = [a0, a1] := by
  match cs, h.len with
  | [a0, a1], _ => exact ⟨_, _, rfl⟩
theorem Good.four {q : Int} {cs : List Int} (h : Good q 4 cs) : ∃ a0 a1 a2 a3, cs = [a0, a1, a2, a3] := by
  match cs, h.len with
  | [a0, a1, a2, a3], _ => exact ⟨_, _, _, _, rfl⟩
theorem Good.mul {q : Int} {n : Nat} {cs ds : List Int} (hq : 2 ≤ q) (hn : n = 2 ∨ n = 4) (h : Good q n cs) (k : Good q n ds) : Good q n (mulL q cs ds) := by
  have hm : ∀ a : Int, 0 ≤ a % q ∧ a % q < q := fun a => ⟨Int.emod_nonneg a (by omega), Int.emod_lt_of_pos a (by omega)⟩
  rcases hn with rfl | rfl
  · obtain ⟨a0, a1, rfl⟩ := h.two
    obtain ⟨b0, b1, rfl⟩ := k.two
    refine ⟨rfl, ?_⟩
    intro c hc
    simp only [mulL, List.mem_cons, List.not_mem_nil, or_false] at hc
    rcases hc with rfl | rfl <;> exact hm _
  · obtain ⟨a0, a1, a2, a3, rfl⟩ := h.four
    obtain ⟨b0, b1, b2, b3, rfl⟩ := k.four
    refine ⟨rfl, ?_⟩
    intro c hc
    simp only [mulL, List.mem_cons, List.not_mem_nil, or_false] at hc
    rcases hc with rfl | rfl | rfl | rfl <;> exact hm _
theorem Good.mod {q : Int} (hq : 2 ≤ q) (a : Int) : 0 ≤ a % q ∧ a % q < q := ⟨Int.emod_nonneg a (by omega), Int.emod_lt_of_pos a (by omega)⟩
theorem Good.addI {q v : Int} {n : Nat} {cs : List Int} (hq : 2 ≤ q) (h : Good q n cs) : Good q n (addI q v cs) := by
  obtain ⟨hl, hr⟩ := h
  cases cs with
  | nil => exact ⟨hl, hr⟩
  | cons c r =>
    refine ⟨hl, fun a ha => ?_⟩
    rcases List.mem_cons.mp ha with rfl | ha
    · exact Good.mod hq _
    · exact hr a (List.mem_cons_of_mem _ ha)
theorem Good.subI {q v : Int} {n : Nat} {cs : List Int} (hq : 2 ≤ q) (h : Good q n cs) : Good q n (subI q v cs) := by
  obtain ⟨hl, hr⟩ := h
  cases cs with
  | nil => exact ⟨hl, hr⟩
  | cons c r =>
    refine ⟨hl, fun a ha => ?_⟩
    rcases List.mem_cons.mp ha with rfl | ha
    · exact Good.mod hq _
    · exact hr a (List.mem_cons_of_mem _ ha)
theorem Good.neg {q : Int} {n : Nat} {cs : List Int} (hq : 2 ≤ q) (h : Good q n cs) : Good q n (negL q cs) := by
  refine ⟨by rw [negL, List.length_map]; exact h.len, fun a ha => ?_⟩
  obtain ⟨b, _, rfl⟩ := List.mem_map.mp ha
  exact Good.mod hq _
theorem Good.mulI {q v : Int} {n : Nat} {cs : List Int} (hq : 2 ≤ q) (h : Good q n cs) : Good q n (mulI q v cs) := by
  refine ⟨by rw [Mine.mulI, List.length_map]; exact h.len, fun a ha => ?_⟩
  obtain ⟨b, _, rfl⟩ := List.mem_map.mp ha
  exact Good.mod hq _
theorem addL_good {q : Int} (hq : 2 ≤ q) : ∀ (a b : List Int), a.length = b.length → (addL q a b).length = a.length ∧ ∀ c ∈ addL q a b, 0 ≤ c ∧ c < q
  | [], [], _ => ⟨rfl, fun _ h => nomatch h⟩
  | x :: r, y :: t, h => by
    have ih := addL_good hq r t (by simpa using h)
    refine ⟨by simp [addL, ih.1], fun c hc => ?_⟩
    rcases List.mem_cons.mp hc with rfl | hc
    · exact Good.mod hq _
    · exact ih.2 c hc
theorem Good.addL {q : Int} {n : Nat} {cs ds : List Int} (hq : 2 ≤ q) (h : Good q n cs) (k : Good q n ds) : Good q n (addL q cs ds) := by
  have := addL_good hq cs ds (h.len.trans k.len.symm)
  exact ⟨this.1.trans h.len, this.2⟩
theorem Good.one {q : Int} {n : Nat} (hq : 2 ≤ q) (hn : n = 2 ∨ n = 4) : Good q n (oneL n) := by
  rcases hn with rfl | rfl
  · refine ⟨rfl, ?_⟩
    intro c hc
    simp only [oneL, List.replicate, List.mem_cons, List.not_mem_nil, or_false] at hc
    rcases hc with rfl | rfl <;> omega
  · refine ⟨rfl, ?_⟩
    intro c hc
    simp only [oneL, List.replicate, List.mem_cons, List.not_mem_nil, or_false] at hc
    rcases hc with rfl | rfl | rfl | rfl <;> omega
theorem Good.powSM {q : Int} {n : Nat} (hq : 2 ≤ q) (hn : n = 2 ∨ n = 4) : ∀ (k : Nat) {f g : List Int}, Good q n f → Good q n g → Good q n (Mine.powSM q k f g) := by
  intro k
  induction k using Nat.strongRecOn with
  | _ k ih =>
    intro f g hf hg
    rw [Mine.powSM]
    split
    · exact hg
    · refine ih _ (by omega) (Good.mul hq hn hf hf) ?_
      split
      · exact Good.mul hq hn hg hf
      · exact hg
theorem Good.pow {q : Int} {n k : Nat} {f : List Int} (hq : 2 ≤ q) (hn : n = 2 ∨ n = 4) (h : Good q n f) : Good q n (Mine.powSM q k f (oneL n)) := Good.powSM hq hn k h (Good.one hq hn)
theorem eqI_tt {q v c : Int} {r : List Int} (h1 : ((c :: r).tail.all fun x => x == 0) = true) (h2 : v.fmod q = c) (hq : 0 ≤ q) : eqI q v (c :: r) = true := by
  rw [Int.fmod_eq_emod_of_nonneg _ hq] at h2
  simp only [List.tail_cons] at h1
  simp [eqI, h2, h1]
theorem eqI_tf {q v c : Int} {r : List Int} (h2 : v.fmod q ≠ c) (hq : 0 ≤ q) : eqI q v (c :: r) = false := by
  rw [Int.fmod_eq_emod_of_nonneg _ hq] at h2
  simp [eqI, h2]
theorem eqI_ff {q v c : Int} {r : List Int} (h1 : ((c :: r).tail.all fun x => x == 0) = false) : eqI q v (c :: r) = false := by
  simp only [List.tail_cons] at h1
  simp [eqI, h1]
theorem powSM_zero {q : Int} {f g : List Int} : powSM q 0 f g = g := by rw [powSM]; simp
theorem powSM_odd {q : Int} {k : Nat} {f g : List Int} (h : k % 2 = 1) : powSM q k f g = powSM q (k / 2) (mulL q f f) (mulL q g f) := by
  rw [powSM]; rw [if_neg (by omega), if_pos h]
theorem powSM_even {q : Int} {k : Nat} {f g : List Int} (h0 : k ≠ 0) (h : ¬ k % 2 = 1) : powSM q k f g = powSM q (k / 2) (mulL q f f) g := by
  rw [powSM]; rw [if_neg h0, if_neg h]

abbrev upd3 (n f g : Value) (m : Str → Option Value) : Str → Option Value := fun y => if y = Str.ofString "n" then some n else if y = Str.ofString "f" then some f else if y = Str.ofString "g" then some g else m y
structure PowInv (w : World) (q : Int) (n : Nat) (r : Addr) (base nx : List (Addr × Obj)) (res : List Int) (m₀ : Str → Option Value) (k : Nat) (m : Str → Option Value) : Prop where
  out : ∃ (tk : Tok) (fx gx : Addr) (F G : List Int), m = upd3 (.int (k : Int) tk) (.ref fx) (.ref gx) m₀ ∧ IsPoly w nx r fx F ∧ IsPoly w nx r gx G ∧ Good q n F ∧ Good q n G ∧ powSM q k F G = res ∧ ∀ p ∈ base, p ∈ nx
theorem pow_while {prog : Program} {w : World} {A : Around} {E : Value → Shared → Prop} {Q : Flow → Shared → Prop} {s : Shared} {env : Env} {h₀ : Heap} {L : Addr} {test : Expr} {body : List Stmt} {pos : Pos} {m₀ : Str → Option Value} {news : List (Addr × Obj)}
    {q k : Int} {n : Nat} {r fx gx : Addr} {tk : Tok} {F0 G0 : List Int}
    (F : Fr h₀ L s.heap (fun y => if y = Str.ofString "g" then some (.ref gx) else if y = Str.ofString "f" then some (.ref fx) else m₀ y)) (N : News h₀ L s.heap news)
    (hm : m₀ (Str.ofString "n") = some (.int k tk)) (hk : 0 ≤ k) (hf : IsPoly w news r fx F0) (hg : IsPoly w news r gx G0) (gf : Good q n F0) (gg : Good q n G0)
    (turn : ∀ (tk' : Tok) (fx gx : Addr) (F G : List Int) (k' : Int) (nx : List (Addr × Obj)) h₁ tk₁, (∀ p ∈ news, p ∈ nx) → IsPoly w nx r fx F → IsPoly w nx r gx G → Good q n F → Good q n G → 0 ≤ k' →
      powSM q k'.toNat F G = powSM q k.toNat F0 G0 → Fr h₀ L h₁ (upd3 (.int k' tk') (.ref fx) (.ref gx) m₀) → News h₀ L h₁ nx →
      wpAny (model prog w) A (isTrue test env (eval test env)) (fun b s₂ =>
        if b = true then wpAny (model prog w) A (execs body env) (WhileStep2 h₀ L s (fun k' m nx => PowInv w q n r news nx (powSM q k.toNat F0 G0) m₀ k' m) Q k'.toNat) E s₂ else Q .next s₂) E { s with heap := h₁, toks := tk₁ })
    (hE : PassesOwn (model prog w) A env E) :
    wpAny (model prog w) A (exec (.While test body [] pos) env) Q E s := by
  refine While_inv2 (fun k' m nx => PowInv w q n r news nx (powSM q k.toNat F0 G0) m₀ k' m) (n₀ := k.toNat) F N ⟨tk, fx, gx, F0, G0, ?_, hf, hg, gf, gg, rfl, fun _ h => h⟩ ?_ hE
  · funext y
    by_cases h1 : y = Str.ofString "g"
    · subst h1; rfl
    · by_cases h2 : y = Str.ofString "f"
      · subst h2; rfl
      · by_cases h3 : y = Str.ofString "n"
        · subst h3
          show m₀ _ = some (Value.int (k.toNat : Int) tk)
          rw [hm, Int.toNat_of_nonneg hk]
        · simp only [upd3, if_neg h1, if_neg h2, if_neg h3]
  · intro k' m₁ nx h₁ tk₁ F₁ N₁ hi
    obtain ⟨tk', fx', gx', F', G', rfl, i1, i2, i3, i4, i5, i6⟩ := hi.out
    have := turn tk' fx' gx' F' G' (k' : Int) nx h₁ tk₁ i6 i1 i2 i3 i4 (by omega) (by simpa using i5) F₁ N₁
    simpa using this
theorem upd3_eq {m' m₀ : Str → Option Value} {n f g : Value} (h1 : m' (Str.ofString "n") = some n) (h2 : m' (Str.ofString "f") = some f) (h3 : m' (Str.ofString "g") = some g)
    (h4 : ∀ y, ¬ y = Str.ofString "n" → ¬ y = Str.ofString "f" → ¬ y = Str.ofString "g" → m' y = m₀ y) : m' = upd3 n f g m₀ := by
  funext y
  by_cases a : y = Str.ofString "n"
  · subst a; rw [h1]; rfl
  · by_cases b : y = Str.ofString "f"
    · subst b; rw [h2]; rfl
    · by_cases c : y = Str.ofString "g"
      · subst c; rw [h3]; rfl
      · rw [h4 y a b c]; simp only [upd3, if_neg a, if_neg b, if_neg c]
theorem pow_odd {q k : Int} {F G res : List Int} (h0 : 0 < k) (h1 : k.fmod 2 = 1) (e : powSM q k.toNat F G = res) : powSM q (k.fdiv 2).toNat (mulL q F F) (mulL q G F) = res := by
  rw [Int.fmod_eq_emod_of_nonneg _ (by decide)] at h1
  rw [Int.fdiv_eq_ediv_of_nonneg _ (by decide), ← e, powSM_odd (k := k.toNat) (by omega), show (k / 2).toNat = k.toNat / 2 by omega]
theorem pow_even {q k : Int} {F G res : List Int} (h0 : 0 < k) (h1 : k.fmod 2 ≠ 1) (e : powSM q k.toNat F G = res) : powSM q (k.fdiv 2).toNat (mulL q F F) G = res := by
  rw [Int.fmod_eq_emod_of_nonneg _ (by decide)] at h1
  rw [Int.fdiv_eq_ediv_of_nonneg _ (by decide), ← e, powSM_even (k := k.toNat) (by omega) (by omega), show (k / 2).toNat = k.toNat / 2 by omega]
theorem pow_fin {q k : Int} {F G res : List Int} (h0 : 0 ≤ k) (h1 : ¬ 0 < k) (e : powSM q k.toNat F G = res) : G = res := by
  rw [show k.toNat = 0 by omega, powSM_zero] at e; exact e
theorem pow_end {w : World} {h₀ : Heap} {L : Addr} {s : Shared} {Q : Flow → Shared → Prop} {m₀ : Str → Option Value} {news nx : List (Addr × Obj)} {q : Int} {n : Nat} {r : Addr} {res F G : List Int} {k : Nat} {k' : Int} {h' : Heap} {tk tk' : Tok} {fx gx : Addr} {m' : Str → Option Value}
    (F' : Fr h₀ L h' m') (N' : News h₀ L h' nx) (hm : m' = upd3 (.int k' tk') (.ref fx) (.ref gx) m₀) (h0 : 0 ≤ k') (hk : k'.toNat < k) (hf : IsPoly w nx r fx F) (hg : IsPoly w nx r gx G) (gf : Good q n F) (gg : Good q n G) (e : powSM q k'.toNat F G = res) (sub : ∀ p ∈ news, p ∈ nx) :
    WhileStep2 h₀ L s (fun k' m nx => PowInv w q n r news nx res m₀ k' m) Q k .next { s with heap := h', toks := tk } := by
  refine ⟨h', tk, m', nx, k'.toNat, rfl, F', N', hk, ⟨tk', fx, gx, F, G, ?_, hf, hg, gf, gg, e, sub⟩⟩
  rw [hm, Int.toNat_of_nonneg h0]
theorem IsPoly.at_ {w : World} {news : List (Addr × Obj)} {r x : Addr} {cs : List Int} (h : IsPoly w news r x cs) : ∃ dx lx t1 t2 vs n, (x, instObj 229 dx) ∈ news ∧ (dx, polyD w t1 t2 r lx) ∈ news ∧ (lx, W.listOf vs.toArray n) ∈ news ∧ IntsAre vs cs :=
  let ⟨dx, lx, t1, t2, a, b, c⟩ := h.out; let ⟨vs, n, d, e⟩ := c.out; ⟨dx, lx, t1, t2, vs, n, a, b, d, e⟩


section
variable {prog : Program} {w : World} {M : Model} {A : Around} {E : Value → Shared → Prop} {s : Shared}
theorem code_any {env : Env} {c P : Addr} {ps : Array Value} {pos : Pos} {qualname : Str} {scope : Scope}
    {Q : Value → Shared → Prop} (hc : env.code = .ref c) (hok : s.heap.IsCode c P ps) (htab : s.heap.TableAt c P ps)
    (hQ : ∀ c' h' tk ps', Heap.ExtBut P s.heap h' → s.heap.objs.size ≤ h'.objs.size → h'.IsCode c P ps' → h'.TableAt c P ps' → Q c' { s with heap := h', toks := tk }) :
    wpAny M A (genexprCode env pos qualname scope) Q E s := by
  cases hnf : codeAmong pos ps.toList with
  | none =>
    exact wpAny_genexprCodeX hc hok htab hnf fun c' h' tk hx hge hlt hcode _ htab' _ => hQ (.ref c') h' tk _ hx (Nat.le_trans hge (Nat.le_of_lt hlt)) hcode htab'
  | some cv =>
    obtain ⟨o, vs, file, tf, flags, tg, inF, text, tt, op, ho, hd, h11, h2, h7, h9, h10, hop, hpd, htr, hne⟩ := id hok
    unfold genexprCode codeAt
    rw [hc, if_neg (show ¬ ((Value.ref c == Value.none) = true) from Bool.false_ne_true)]
    refine wpAny_bind (wpAny_fieldsOf ho hd ?_)
    rw [h11]
    refine wpAny_bind (wpAny_fieldsOf hop hpd ?_)
    rw [hnf]
    exact wpAny_pure (hQ cv s.heap s.toks ps (fun _ _ _ e => e) (Nat.le_refl _) hok htab)

theorem ints_get {vs : List Value} {ns : List Int} (h : IntsAre vs ns) : ∀ {i : Nat} {v : Value}, vs[i]? = some v → ∃ k, ns[i]? = some k ∧ ∃ tk, v = .int k tk := by
  induction h with
  | nil => intro i v e; simp at e
  | cons n t _ ih =>
    intro i v e
    cases i with
    | zero => simp at e; exact ⟨n, by simp, t, e.symm⟩
    | succ i => simp at e; obtain ⟨k, hk, r⟩ := ih e; exact ⟨k, by simpa using hk, r⟩
def GxPost (prog : Program) (w : World) (A : Around) (c P gl : Addr) (Q : Value → Shared → Prop) (xv : Value) (s₁ : Shared) : Prop :=
  ∃ (l : Addr) (vs : List Value) (ns : List Int) (ps : Array Value) (mg : Str → Option Value) (bm : Addr) (ob : Obj), xv = .ref l ∧ s₁.heap.IsList l vs.toArray ∧ IntsAre vs ns ∧ s₁.heap.IsCode c P ps ∧ s₁.heap.TableAt c P ps ∧ P ≠ cStatics ∧
      AllBare s₁.gens ∧ s₁.heap.NoLimit ∧ BMod s₁.heap gl mg bm ob ∧ 2 < s₁.heap.objs.size ∧
      (∀ (a : Addr) (s₅ : Shared) (ps' : Array Value), (∀ b o, b ≠ P → s₁.heap.get? b = some o → s₅.heap.get? b = some o) → s₅.heap.IsCode c P ps' → s₅.heap.TableAt c P ps' → AllBare s₅.gens → s₅.os = s₁.os →
        GenOnD prog w A (s₁.heap.objs.size - 1) a ns (fun _ => true) (fun k => .bool (k == 0)) s₅ → Q (.ref a) s₅)
theorem my_genexp {env : Env} {elt iter : Expr} {x : Str} {px : Pos} {scope : Scope} {cl : List (Str × Addr)} {pos : Pos} {Q : Value → Shared → Prop} {c P : Addr}
    (hh : A.handled = none) (hco : scope.isCoroutine = false) (hclos : closureFor scope env = pure cl) (hcell : ∀ y ∈ scope.names, y.2 ≠ .cell) (h0 : scope.names.lookup (".0" : Str) = some NameKind.local)
    (hx : scope.names.lookup x = some .local) (hkind : scope.kind = .function) (hroom : A.depth < recursionLimit) (hcode : env.code = .ref c)
    (helt : ∀ (C : Addr) (code : Value) (A' : Around) E' (k : Int) (tk : Tok) (t : Shared) m₂, A'.handled = none → t.heap.Ns C m₂ → m₂ x = some (.int k tk) →
      wpAny (model prog w) A' (eval elt (genEnv scope cl C code builtinsNs env)) (fun y s₃ => y = .bool (k == 0) ∧ Keeps t s₃) E' t)
    (h : wpAny (model prog w) A (eval iter env) (fun xv s₁ => GxPost prog w A c P env.globals Q xv s₁) E s)
    (hs : ∀ x, genFold iter env x = pure x) :
    wpAny (model prog w) A (eval (.GeneratorExp elt [⟨.Name x px, iter, [], 0⟩] scope pos) env) Q E s := by
  refine wpAny_GeneratorExp_walksQD hh hco hclos hcell h0 hx hkind hroom (wpAny_mono h (fun xv s₁ h₁ => ?_) fun _ _ e => e) hs
  obtain ⟨l, vs, ns, ps, mg, bm, ob, rfl, hl, hi, hcd, htb, hPs, G, hlim, M₁, h2, hQ⟩ := h₁
  have hlt : l < s₁.heap.objs.size := by obtain ⟨_, e, _⟩ := hl; exact Heap.lt_size e
  have hPlt : P < s₁.heap.objs.size := Heap.lt_size htb.2
  have hlP : l ≠ P := fun e => by
    obtain ⟨o, ho, hc, _⟩ := hl
    rw [e, htb.2] at ho; cases ho; exact absurd hc (by simp)
  refine wpAny_pyIter_list hl ?_
  generalize hI : s₁.heap.objs.size = I at *
  refine ⟨hlim.push _, code_any hcode (hcd.push _) (htb.push _) fun c' h₃ tk₃ ps' hx₃ hge hcode₃ htab₃ => ?_⟩
  have hge' : I + 1 ≤ h₃.objs.size := by rw [Heap.size_push, hI] at hge; exact hge
  have k₃ : ∀ b o, b ≠ P → s₁.heap.get? b = some o → h₃.get? b = some o := fun b o hb e => hx₃ b o hb (Heap.get?_push_of_some _ e)
  have M₃ : BMod h₃ env.globals mg bm ob := (M₁.keeps fun _ _ e => Heap.get?_push_of_some _ e).extBut (htb.push _) hx₃
  have hl₃ : h₃.NoLimit := (hlim.push _).extBut hx₃ (Ne.symm hPs)
  refine wpAny_builtinsFor M₃.ns M₃.name M₃.ne M₃.obj M₃.cls M₃.dict M₃.data ?_
  have W₀ : ∀ A' : Around, A'.handled = none → Walks prog w A' I [I, l] [I] vs.toArray.size (fun i v => vs.toArray[i]? = some v) (fun i h => h.IsListIter I l i ∧ h.IsList l vs.toArray) :=
    fun A' hA => Walks.list hA _ _ (Nat.ne_of_lt hlt) vs.toArray
  have hIP : I ≠ P := fun e => Nat.lt_irrefl _ (e ▸ hPlt)
  have hst : h₃.IsListIter I l 0 ∧ h₃.IsList l vs.toArray := by
    refine ⟨⟨_, hx₃ I _ hIP (by rw [← hI]; exact Heap.get?_push_size _ rfl), rfl, rfl⟩, ?_⟩
    obtain ⟨o, ho, r⟩ := hl
    exact ⟨o, k₃ l o hlP ho, r⟩
  have hcw : cStatics ∉ [I] := fun hm => by
    have e1 : cStatics = I := List.mem_singleton.mp hm
    have e2 : cStatics < I := by rw [← hI]; exact let ⟨_, hn, _⟩ := hlim; hn.lt
    exact absurd e2 (by rw [e1]; exact Nat.lt_irrefl _)
  refine ⟨I, [I, l], [I], vs.toArray.size, _, _, (fun _ => true), (fun i y => ∃ b, ns[i]? = some b ∧ Carried y (.bool (b == 0))), rfl, W₀, hst, ?_, hl₃, hcw, ?_, ?_⟩
  · intro b hb
    rcases List.mem_cons.mp hb with rfl | hb
    · exact hge'
    · rw [List.mem_singleton.mp hb]; exact Nat.lt_of_lt_of_le (Nat.lt_succ_of_lt hlt) hge'
  · intro href hhref
    constructor
    · intro A' E' i v t m₂ hA hD hU hP hn hm hkp
      exact wpAny_pure ⟨rfl, _, _, rfl, fun _ _ e => e⟩
    · intro A' E' i v t m₂ hA hD hU hP _ hn hm hkp
      obtain ⟨k, hk, tk, hv⟩ : ∃ k, ns[i]? = some k ∧ ∃ tk, v = .int k tk := ints_get hi (by simpa using hP)
      subst hv
      refine wpAny_mono (helt _ c' A' E' k tk t m₂ hA hn hm) (fun y s₃ q => ⟨⟨k, hk, ?_⟩, q.2⟩) fun _ _ e => e
      rw [q.1]; exact .bool _
  · intro a h₅ tk gs hgb hag hsz₅ hk₅ W hat
    refine hQ a _ ps' (fun b o hb e => hk₅ b o (k₃ b o hb e)) (hcode₃.keeps hk₅) (htab₃.keeps hk₅) (G.push hgb) rfl ?_
    have hlen : vs.length = ns.length := hi.length
    have hpass : passing (fun _ => true) vs.toArray.size 0 = List.range ns.length := by simp [passing, hlen]
    have e1 : (ns.filter fun _ => true).length = (passing (fun _ => true) vs.toArray.size 0).length := by rw [hpass]; simp
    unfold GenOnD
    rw [e1]
    refine Gen.imp (F := fun j y => ∃ i, (passing (fun _ => true) vs.toArray.size 0)[j]? = some i ∧ ∃ b, ns[i]? = some b ∧ Carried y (.bool (b == 0))) ?_ fun j y hy => ?_
    · refine ⟨_, _, _, _, W, hat, (fun i s' st => st.1.typeIs), List.mem_cons_self, ?_, ?_⟩
      · intro b hb
        show b < h₅.objs.size
        rw [hsz₅]
        rcases List.mem_cons.mp hb with rfl | hb
        · exact Nat.lt_succ_self _
        · rcases List.mem_cons.mp hb with rfl | hb
          · exact Nat.lt_succ_of_lt hag
          · exact Nat.lt_succ_of_lt (Nat.lt_trans (List.mem_range.mp hb) hag)
      · intro b hb
        rcases List.mem_cons.mp hb with rfl | hb
        · show I - 1 < h₃.objs.size
          omega
        · have : b = I := List.mem_singleton.mp hb
          rw [this]
          exact Nat.sub_lt (Nat.lt_trans (by decide) h2) (by decide)
    rw [hpass] at hy
    obtain ⟨i, hij, b, hb, hc⟩ := hy
    refine ⟨b, ?_, hc⟩
    have : i = j := by
      rw [List.getElem?_range] at hij
      · exact (Option.some.inj hij).symm
      · false_or_by_contra
        rename_i hc
        rw [List.getElem?_eq_none (by simpa using hc)] at hij
        cases hij
    subst this
    rw [List.filter_eq_self.mpr (fun _ _ => rfl)]
    exact hb

def OffT (a : Addr) (p : Addr × Obj) : Prop := p.1 ≠ a ∨ ∀ ps, p.2 ≠ tabObj ps
theorem subT_mem {t : Addr} {a b : List (Addr × Obj)} {q : Addr × Obj} (h : ∀ p ∈ a, OffT t p → p ∈ b) (k : q ∈ a) (o : OffT t q) : q ∈ b := h q k o
theorem off_cell {t a : Addr} {o : Obj} {v : Option Value} (h : o.data = .cell v) : OffT t (a, o) := Or.inr fun ps e => by subst e; cases h
theorem my_all {g : Heap} {L a S : Addr} {m : Str → Option Value} {nx : List (Addr × Obj)} {ns : List Int} {Q : Value → Shared → Prop}
    (F : Fr g L s.heap m) (N : News g L s.heap nx) (G : AllBare s.gens) (X : GenOnD prog w A (S - 1) a ns (fun _ => true) (fun k => .bool (k == 0)) s) (hL : @LT.lt Nat _ L S) (hn : ∀ p ∈ nx, @LT.lt Nat _ p.1 S)
    (h : ∀ s', Fr g L s'.heap m → News g L s'.heap nx → AllBare s'.gens → s'.os = s.os → Q (.bool (ns.all (· == 0))) s') : wpAny (model prog w) A (call (.builtin "all") [.ref a]) Q E s := by
  refine all_genD F G X (Nat.le_sub_one_of_lt hL) fun s' F' G' hos hk => ?_
  have := h s' F' (fun p hp => ⟨hk p.1 p.2 (Nat.le_sub_one_of_lt (hn p hp)) (N p hp).1, (N p hp).2⟩) G' hos
  rwa [List.filter_eq_self.mpr (fun _ _ => rfl)]

theorem genexp_post {g : Heap} {K : Frag} {L lx c P bm : Addr} {ob : Obj} {m mg : Str → Option Value} {news : List (Addr × Obj)} {ns : List Int} {vs : List Value} {n : Nat} {ps cvs : Array Value} {Q : Value → Shared → Prop} {gl : Addr} {file : Str} {tf tg tt : Tok} {flags text : Int} {inF : Bool}
    (F : Fr g L s.heap m) (N : News g L s.heap news) (X : K.In g) (hlim : g.NoLimit) (M : BMod g gl mg bm ob) (ht : (P, tabObj ps) ∈ news) (htr : TriplesOk ps.toList) (hl : (lx, W.listOf vs.toArray n) ∈ news) (hi : IntsAre vs ns) (hG : AllBare s.gens)
    (hk : K.lookup c = some ⟨.type "code", none, .fields cvs, #[]⟩) (h11 : cvs[11]? = some (.ref P)) (h18 : cvs.getD 18 .none = .str file tf) (h7 : cvs.getD 7 .none = .int flags tg) (h9 : cvs.getD 9 .none = .bool inF) (h10 : cvs.getD 10 .none = .int text tt)
    (hcP : c ≠ P) (hPs : P ≠ cStatics) (h2 : 2 < P)
    (cont : ∀ a s₅ ps' nx S, Fr g L s₅.heap m → News g L s₅.heap nx → (P, tabObj ps') ∈ nx → TriplesOk ps'.toList → (∀ p ∈ news, OffT P p → p ∈ nx) → AllBare s₅.gens → s₅.os = s.os → @LT.lt Nat _ L S → (∀ p ∈ nx, @LT.lt Nat _ p.1 S) →
      GenOnD prog w A (S - 1) a ns (fun _ => true) (fun k => .bool (k == 0)) s₅ → Q (.ref a) s₅) :
    GxPost prog w A c P gl Q (.ref lx) s := by
  have hP := N _ ht
  have hgc := F.keep _ _ (X _ _ hk)
  have hgD : cvs.getD 11 .none = .ref P := by
    rw [Array.getD_eq_getD_getElem?, h11]; rfl
  refine ⟨lx, vs, ns, ps, mg, bm, ob, rfl, News.isList N hl, hi, ⟨_, cvs, file, tf, flags, tg, inF, text, tt, _, hgc, rfl, hgD, h18, h7, h9, h10, hP.1, rfl, htr, hcP⟩,
    ⟨⟨_, cvs, hgc, rfl, rfl, h11⟩, hP.1⟩, hPs, hG, hlim.keeps F.keep, M.keeps F.keep, Nat.lt_trans h2 (Heap.lt_size hP.1), ?_⟩
  intro a s₅ ps' hk5 hc5 ht5 hG5 hos hX
  have hLP : L ≠ P := Ne.symm hP.2.1
  obtain ⟨oL, es, ep, hL, hd⟩ := F.ns
  refine cont a s₅ ps' ((P, tabObj ps') :: news.filter (fun p => p.1 != P)) s.heap.objs.size ⟨⟨oL, es, ep, hk5 _ _ hLP hL, hd⟩, fun b o e => hk5 b o (fun e' => by rw [e', hP.2.2] at e; cases e) (F.keep b o e), F.above⟩ ?_ List.mem_cons_self ?_ ?_ hG5 hos (Heap.lt_size hL) ?_ hX
  · intro p hp
    rcases List.mem_cons.mp hp with rfl | hp
    · exact ⟨ht5.2, hP.2⟩
    · obtain ⟨h1, h3⟩ := List.mem_filter.mp hp
      exact ⟨hk5 _ _ (by simpa using h3) (N p h1).1, (N p h1).2⟩
  · obtain ⟨_, _, _, _, _, _, _, _, _, op, _, _, _, _, _, _, _, hop, hpd, htr', _⟩ := hc5
    exact htr'
  · intro p hp ho
    refine List.mem_cons_of_mem _ (List.mem_filter.mpr ⟨hp, ?_⟩)
    rcases ho with ho | ho
    · simpa using ho
    · by_cases e : p.1 = P
      · have h1 := (N p hp).1
        rw [e, hP.1] at h1
        exact absurd (Option.some.inj h1).symm (ho ps)
      · simpa using e
  · intro p hp
    rcases List.mem_cons.mp hp with rfl | hp
    · exact Heap.lt_size hP.1
    · exact Heap.lt_size (N p (List.mem_filter.mp hp).1).1
theorem elt_zero {x : Str} {px pz pc : Pos} {z : Nat} {scope : Scope} {cl : List (Str × Addr)} {env : Env} {C : Addr} {code : Value} {k : Int} {tk : Tok} {m₂ : Str → Option Value}
    (hn : s.heap.Ns C m₂) (hm : m₂ x = some (.int k tk)) (hk : scope.kind = .function) (hl : (genEnv scope cl C code builtinsNs env).kindOf x = some .local) (hd : (x == ("__debug__" : Str)) = false) :
    wpAny (model prog w) A (eval (.Compare (.Name x px) [.Eq] [.Constant (.int 0) z pz] pc) (genEnv scope cl C code builtinsNs env)) (fun y s₃ => y = .bool (k == 0) ∧ Keeps s s₃) E s := by
  refine wpAny_Compare1 ?_
  refine ldVarG (h₀ := {}) ⟨hn, fun b o e => (by simp [Heap.get?] at e), Nat.zero_le _⟩ hm ?_ hk hl hd
  refine wpAny_Constant_int ?_
  refine eq_int ?_
  exact ⟨by congr 1, _, _, rfl, fun _ _ e => e⟩
end

section
theorem hide_get {h : Heap} {a b : Addr} {o : Obj} (e : h.get? b = some o) (n : b ≠ a) : (h.hide a).get? b = some o := (Heap.hide_ne h n).trans e
theorem hide2_of {h : Heap} {a c b : Addr} {o : Obj} (e : ((h.hide a).hide c).get? b = some o) : h.get? b = some o := Heap.of_hide (Heap.of_hide e)
theorem hide2_get {h : Heap} {a c b : Addr} {o : Obj} (e : h.get? b = some o) (n : b ≠ a) (k : b ≠ c) : ((h.hide a).hide c).get? b = some o := hide_get (hide_get e n) k
theorem hide2_none {h : Heap} {a c b : Addr} (n : b = a ∨ b = c) : ((h.hide a).hide c).get? b = none := by
  cases e : ((h.hide a).hide c).get? b with
  | none => rfl
  | some o =>
    rcases n with rfl | rfl
    · have := Heap.of_hide e; rw [Heap.hide_self] at this; cases this
    · rw [Heap.hide_self] at e; cases e
theorem in_hide2 {K : Frag} {h : Heap} {a c : Addr} (X : K.In h) (ka : K.lookup a = none) (kc : K.lookup c = none) : K.In ((h.hide a).hide c) := fun b o e =>
  hide2_get (X b o e) (fun q => by rw [q, ka] at e; cases e) (fun q => by rw [q, kc] at e; cases e)
theorem fr_hide2 {h₀ h : Heap} {L a c : Addr} {m : Str → Option Value} (F : Fr h₀ L h m) : Fr ((h₀.hide a).hide c) L h m :=
  ⟨F.ns, fun b o e => F.keep b o (hide2_of e), by rw [Heap.hide_size, Heap.hide_size]; exact F.above⟩
theorem news_hide2 {h₀ h : Heap} {L a c : Addr} {m : Str → Option Value} {news : List (Addr × Obj)} {oa oc : Obj} (F : Fr h₀ L h m) (N : News h₀ L h news) (ha : h₀.get? a = some oa) (hc : h₀.get? c = some oc) :
    News ((h₀.hide a).hide c) L h (news ++ [(a, oa), (c, oc)]) := by
  intro p hp
  rcases List.mem_append.mp hp with hp | hp
  · refine ⟨(N p hp).1, (N p hp).2.1, ?_⟩
    cases e : ((h₀.hide a).hide c).get? p.1 with
    | none => rfl
    | some o => have := hide2_of e; rw [(N p hp).2.2] at this; cases this
  · rcases List.mem_cons.mp hp with rfl | hp
    · exact ⟨F.keep _ _ ha, Nat.ne_of_lt (Nat.lt_of_lt_of_le (Heap.lt_size ha) F.above), hide2_none (.inl rfl)⟩
    · obtain rfl := List.mem_singleton.mp hp
      exact ⟨F.keep _ _ hc, Nat.ne_of_lt (Nat.lt_of_lt_of_le (Heap.lt_size hc) F.above), hide2_none (.inr rfl)⟩
theorem ns_hide2 {h : Heap} {L a c : Addr} {m : Str → Option Value} {pa pc : Array Value} (H : h.Ns L m) (ha : h.get? a = some (tabObj pa)) (hc : h.get? c = some (tabObj pc)) : ((h.hide a).hide c).Ns L m := by
  obtain ⟨o, es, ep, ho, hd, r⟩ := H
  refine ⟨o, es, ep, hide2_get ho (fun q => ?_) (fun q => ?_), hd, r⟩
  · rw [q, ha] at ho; cases ho; cases hd
  · rw [q, hc] at ho; cases ho; cases hd

theorem list_hide2 {h : Heap} {l a c : Addr} {items : Array Value} {pa pc : Array Value} (H : h.IsList l items) (ha : h.get? a = some (tabObj pa)) (hc : h.get? c = some (tabObj pc)) : ((h.hide a).hide c).IsList l items := by
  obtain ⟨o, ho, h1, n, hd⟩ := H
  exact ⟨o, hide2_get ho (fun q => by rw [q, ha] at ho; cases ho; cases hd) (fun q => by rw [q, hc] at ho; cases ho; cases hd), h1, n, hd⟩
theorem triples_nil : TriplesOk (#[] : Array Value).toList := trivial
theorem fr_small {h₀ h : Heap} {L : Addr} {m : Str → Option Value} {x : Str} {v : Value} (F : Fr h₀ L h m) (hx : m x = some v) : ∃ m0 : Str → Option Value, Fr h₀ L h (fun y => if y = x then some v else m0 y) := by
  refine ⟨m, ?_⟩
  have e : m = fun y => if y = x then some v else m y := by
    funext y
    split
    · rename_i e; rw [e, hx]
    · rfl
  rw [← e]; exact F
theorem cell_none {o : Obj} {v : Option Value} (h : o.data = .cell v) (e : v = none) : o.data = .cell none := by rw [h, e]
theorem my_n2 {a : Int} {P : Int → Prop} (h2 : P 2) (h4 : P 4) : P (2 + a.fmod 2 * 2) := by
  have f := fdiv_fmod_facts a 2
  have f1 := f.2.2.1 (by decide)
  rcases (show a.fmod 2 = 0 ∨ a.fmod 2 = 1 by omega) with e | e <;> rw [e]
  · exact h2
  · exact h4
def dumProg (p : Program) : Program := { p with main := { p.main with body := [Stmt.Import [⟨"sys", none, ⟨1, 0, 1, 10⟩⟩] ⟨1, 0, 1, 10⟩] } }
theorem nolimit_hide2 {h : Heap} {a c : Addr} {pa pc : Array Value} (H : h.NoLimit) (ha : h.get? a = some (tabObj pa)) (hc : h.get? c = some (tabObj pc)) : ((h.hide a).hide c).NoLimit := by
  obtain ⟨mc, hn, r⟩ := H
  exact ⟨mc, ns_hide2 hn ha hc, r⟩
theorem top_hide2 {p : Program} {loose : List Str} {mean : ExcName → Option Value} {mg mb : Str → Option Value} {h : Heap} {a c : Addr} {pa pc : Array Value} (T : Top p loose mean mg mb h)
    (ha : h.get? a = some (tabObj pa)) (hc : h.get? c = some (tabObj pc)) :
    Top (dumProg p) (loose ++ (recsOf p).map (·.name) ++ (litsOf p).map (·.1) ++ (clssOf p loose).map (·.name)) mean mg mb ((h.hide a).hide c) where
  g := ns_hide2 T.g ha hc
  b := ns_hide2 T.b ha hc
  nolimit := nolimit_hide2 T.nolimit ha hc
  nodigits := let ⟨mc, h1, h2⟩ := T.nodigits; ⟨mc, ns_hide2 h1 ha hc, h2⟩
  fn := fun d hd => nomatch (show d ∈ ([] : List DefRec) from hd)
  own := fun o ho => nomatch (show o ∈ ([] : List OwnSpec) from ho)
  const := fun x d e => by
    have : valOf (dumProg p) x = none := rfl
    rw [this] at e; cases e
  free := fun x h1 h2 _ _ _ => by
    simp only [List.mem_append, not_or] at h2
    exact T.free x h1 h2.1.1.1 h2.1.1.2 h2.1.2 h2.2
  builtins := T.builtins
  tab := fun d hd => nomatch (show d ∈ ([] : List DefRec) from hd)
  bmain := by
    obtain ⟨bm, ob, h1, h2, h3, h4, h5, h6⟩ := T.bmain
    exact ⟨bm, ob, h1, h2, hide2_get h3 (fun q => by rw [q, ha] at h3; cases h3; cases h6) (fun q => by rw [q, hc] at h3; cases h3; cases h6), h4, h5, h6⟩
  seer := fun e => by
    have : importsNone (dumProg p) = false := rfl
    rw [this] at e; cases e
theorem law_end {cl : ClaimW} {clA : Str → Option Addr} {mean : ExcName → Option Value} {args : List WData} {s₁ s' : Shared} {K : Frag} {h : Heap} {L a c ca cc : Addr} {m : Str → Option Value} {nx : List (Addr × Obj)} {pa pc cva cvc : Array Value}
    (hh : s₁.heap = h) (F : Fr ((h.hide a).hide c) L s'.heap m) (N : News ((h.hide a).hide c) L s'.heap nx) (ta : (a, tabObj pa) ∈ nx) (tc : (c, tabObj pc) ∈ nx) (ha : h.get? a = some (tabObj #[])) (hc : h.get? c = some (tabObj #[]))
    (X : K.In h) (ka : K.lookup ca = some ⟨.type "code", none, .fields cva, #[]⟩) (kc : K.lookup cc = some ⟨.type "code", none, .fields cvc, #[]⟩) (ea : cva[11]? = some (.ref a)) (ec : cvc[11]? = some (.ref c))
    (hG : AllBare s'.gens) (hos : s'.os = s₁.os) (hr : ∀ x, cl.raises args x = false) (hp : cl.post args (.bool true) args = true) : GoodWG cl clA mean args s₁ (.ok (.ret (.bool true))) s' := by
  subst hh
  refine ⟨.inl ⟨.bool true, .bool true, [], rfl, hr, .bool true, hp, fun _ => ⟨.nil, fun _ hx => nomatch hx⟩⟩, ⟨fun b o e => ?_, fun b o e => ?_⟩, hos, hG⟩
  · by_cases h1 : b = a
    · subst h1
      rw [ha] at e; cases e
      exact .inr (.inl ⟨⟨ca, _, cva, X _ _ ka, rfl, rfl, ea⟩, rfl, #[], pa, rfl, by rw [(N _ ta).1]; simp⟩)
    · by_cases h2 : b = c
      · subst h2
        rw [hc] at e; cases e
        exact .inr (.inl ⟨⟨cc, _, cvc, X _ _ kc, rfl, rfl, ec⟩, rfl, #[], pc, rfl, by rw [(N _ tc).1]; simp⟩)
      · exact .inl (F.keep b o (hide2_get e h1 h2))
  · by_cases h1 : b = a
    · subst h1; exact ⟨_, (N _ ta).1⟩
    · by_cases h2 : b = c
      · subst h2; exact ⟨_, (N _ tc).1⟩
      · exact ⟨o, F.keep b o (hide2_get e h1 h2)⟩
end

end
local macro_rules | `(tactic| k_mem) => `(tactic| ((repeat (first | (with_reducible assumption) | (with_reducible exact List.mem_cons_self) | (refine' List.mem_cons_of_mem _ ?_) | (refine' sub_mem (by with_reducible assumption) ?_) | (refine' subT_mem (by with_reducible assumption) ?_ ?o9; (case o9 => kwd_inv)))); done))
local macro_rules | `(tactic| walk_at "call builtin:list.copy") => `(tactic| (k_here; (with_reducible show wpAny _ _ (call (Value.builtin _) [Value.ref _]) _ _ _); k_dflt (refine' my_copy ?F ?N ?l ?_ ?z; (case F => k_asm); (case N => k_asm); (case l => is_list); (case z => exact Nat.le_of_ble_eq_true rfl); k_whole); intro D' h' F' N' l1; (try k_lt l1); (try k_sweep)))
local macro_rules | `(tactic| size_fits) => `(tactic| ((simp only [List.size_toArray, List.length_cons, List.length_nil]); decide))
local macro_rules | `(tactic| kcf_size) => `(tactic| ((simp only [List.size_toArray, List.length_cons, List.length_nil]); decide))
local macro_rules | `(tactic| news_mem) => `(tactic| k_mem)
local macro_rules | `(tactic| mul_fits) => `(tactic| exact IntMulOk.of_right (by with_reducible assumption))
local macro_rules | `(tactic| bits_by_make) => `(tactic| with_reducible assumption)
local macro_rules | `(tactic| k_all) => `(tactic| (tbn_letter; first
  | with_reducible exact off1_all (by with_reducible assumption)
  | with_reducible exact off1_all (And.right (by with_reducible assumption))
  | with_reducible exact off1_all (And.right (And.right (by with_reducible assumption)))
  | with_reducible exact off1_all (And.right (And.right (And.right (by with_reducible assumption))))
  | with_reducible exact off1_all (And.right (And.right (And.right (And.right (by with_reducible assumption)))))
  | with_reducible exact tbn_neAll (by with_reducible assumption)
  | fail "no order"))
local macro_rules | `(tactic| walk_at "CmpBack ref") => `(tactic| (dsimp only [PySem.W.CmpBack]))
local macro_rules | `(tactic| walk_at "UnrEnd") => `(tactic| (refine' my_unrEnd ?k1 ?k2 ?k3 ?_; (case k1 => assumption); (case k2 => assumption); (case k3 => (simp only [AllLt, and_true]; assumption)); walk_say "UNREND"))
local macro_rules | `(tactic| walk_at "subscriptTail") => `(tactic| (k_here; (with_reducible show wpAny _ _ (subscriptTail _ _ (Value.ref _) (Value.int _ _)) _ _ _); k_dflt (refine' my_sub ?k0 ?k1 ?k2 ?k3 ?k4 ?_ ?k6; (case k0 => k_asm); (case k1 => k_mem); (case k2 => decide); (case k3 => decide); (case k4 => exact rfl); (case k6 => with_unfolding_all rfl); k_whole)))
local macro_rules | `(tactic| walk_at "subscriptTail Name Name ref int") => `(tactic| (k_here; (with_reducible show wpAny _ _ (subscriptTail _ _ (Value.ref _) (Value.int _ _)) _ _ _); k_dflt (refine' my_sub ?k0 ?k1 ?k2 ?k3 ?k4 ?_ ?k6; (case k0 => k_asm); (case k1 => k_mem); (case k2 => decide); (case k3 => decide); (case k4 => exact rfl); (case k6 => with_unfolding_all rfl); k_whole)))
local macro_rules | `(tactic| walk_at "subscriptTail Name Constant ref int") => `(tactic| (k_here; (with_reducible show wpAny _ _ (subscriptTail _ _ (Value.ref _) (Value.int _ _)) _ _ _); k_dflt (refine' my_sub ?k0 ?k1 ?k2 ?k3 ?k4 ?_ ?k6; (case k0 => k_asm); (case k1 => k_mem); (case k2 => decide); (case k3 => decide); (case k4 => exact rfl); (case k6 => with_unfolding_all rfl); k_whole)))
local macro_rules | `(tactic| walk_at "subscriptTail Name BinOp ref int") => `(tactic| (k_here; (with_reducible show wpAny _ _ (subscriptTail _ _ (Value.ref _) (Value.int _ _)) _ _ _); k_dflt (refine' my_sub ?k0 ?k1 ?k2 ?k3 ?k4 ?_ ?k6; (case k0 => k_asm); (case k1 => k_mem); (case k2 => decide); (case k3 => decide); (case k4 => exact rfl); (case k6 => with_unfolding_all rfl); k_whole)))
local macro_rules | `(tactic| walk_at "getItem ref int") => `(tactic| (k_here; (with_reducible show wpAny _ _ (getItem (Value.ref _) (Value.int _ _)) _ _ _); k_dflt (refine' my_get ?k0 ?k1 ?k2 ?k3 ?k4 ?_; (case k0 => k_asm); (case k1 => k_mem); (case k2 => decide); (case k3 => decide); (case k4 => exact rfl); k_whole)))
local macro_rules | `(tactic| kwd_inv) => `(tactic| (first | exact Or.inr (fun _ e => by cases e) | exact off_cell (by assumption) | exact Or.inl (by decide)))
local macro_rules | `(tactic| kwd_less) => `(tactic| (first | (with_unfolding_all exact Nat.le_of_ble_eq_true rfl) | (simp only [depth_under_make, depth_under_kw, depth_in1, depth_deeper, depth_caller, units_in1, units_deeper, Around.mark_units, units_caller]; omega)))
local macro_rules | `(tactic| kst_mem) => `(tactic| (first | with_reducible assumption | assumption | exact IntsAre.nil | exact .cons _ _ .nil | exact .cons _ _ (.cons _ _ .nil) | exact .cons _ _ (.cons _ _ (.cons _ _ .nil)) | exact .cons _ _ (.cons _ _ (.cons _ _ (.cons _ _ .nil)))))
local macro_rules | `(tactic| ktd_rel) => `(tactic| (first | exact IsRing.mono (by with_reducible assumption) (by (repeat (first | exact sub_refl | exact fun _ h => h | refine sub_skip ?_))) | exact ⟨⟨_, _, _, _, _, by k_mem, by k_mem⟩⟩))
local macro_rules | `(tactic| kwd_rel) => `(tactic| (first | with_reducible assumption | exact IsInts.mono (by with_reducible assumption) (by (repeat (first | exact sub_refl | exact fun _ h => h | refine sub_skip ?_))) | exact ⟨⟨_, _, by k_mem, by kst_mem⟩⟩))
local macro_rules | `(tactic| tb_start) => `(tactic| (first | with_reducible assumption | exact IsPoly.mono (by with_reducible assumption) (by (repeat (first | exact sub_refl | exact fun _ h => h | refine sub_skip ?_))) | exact ⟨⟨_, _, _, _, by k_mem, by k_mem, ⟨⟨_, _, by k_mem, by kst_mem⟩⟩⟩⟩))
local macro_rules | `(tactic| tb_rel) => `(tactic| (first | with_reducible assumption | exact Good.mul (by assumption) (by decide) (by tb_rel) (by tb_rel) | exact Good.subI (by assumption) (by tb_rel) | exact Good.addI (by assumption) (by tb_rel) | exact Good.neg (by assumption) (by tb_rel) | exact Good.mulI (by assumption) (by tb_rel) | exact Good.addL (by assumption) (by tb_rel) (by tb_rel) | exact Good.one (by assumption) (by decide) | exact Good.pow (by assumption) (by decide) (by tb_rel)))
section
local macro_rules | `(tactic| walk_at "getItem ref int") => `(tactic| ((rename IntsAre _ (List.map (fun _ => (0:Int)) (rangeKs 0 _)) => hI9); (have hI7 := ints2 (x := 0) (y := 0) hI9); clear hI9; (obtain ⟨t70, t71, e7⟩ := hI7); subst e7; walk_say "CONCRETE"; (rename News _ _ _ _ => hN7); dsimp only [LCg.lst] at hN7))

set_option maxRecDepth 100000 in
set_option maxHeartbeats 8000000 in
theorem C_school2 {A : Around} {env : Env} {outer : List Env} {A₀ : Around} {base h₀ : Heap} {L : Addr} {m : Str → Option Value} {news : List (Addr × Obj)} {s : Shared}
    {w : World} {p : Program} {loose : List Str} {mean : ExcName → Option Value} {mg mb : Str → Option Value} {R : Result → Shared → Prop}
    (hA : A.frames = some (env :: outer)) (hH : A.handled = none) (hd : A.depth ≤ 500) (hu : A.units ≤ 500)
    (B : Below A₀ base outer h₀) (F : Fr h₀ L s.heap m) (X : (Mine.hd.heap_1 w.params).In h₀) (N : News h₀ L s.heap news) (T : Top p loose mean mg mb h₀)
    (hf : env.frame = some L) (hke : env.scope.kind = .function)
    {x y r : Addr} {q : Int} {a0 a1 b0 b1 : Int} (hr : IsRing w news r q 2) (hx : IsPoly w news r x [a0, a1]) (hy : IsPoly w news r y [b0, b1])
    (hq : 2 ≤ q) (ha0 : Builtin.Int.intBits a0 ≤ 100) (ha1 : Builtin.Int.intBits a1 ≤ 100) (hb0 : Builtin.Int.intBits b0 ≤ 100) (hb1 : Builtin.Int.intBits b1 ≤ 100)
    (ret : ∀ l h' tk' vs n', Fr h₀ L h' m → News h₀ L h' ((l, W.listOf vs.toArray n') :: news) → IntsAre vs [(a0 * b0 - a1 * b1) % q, (a0 * b1 + a1 * b0) % q] → LCg.Off1 l news → R (.ok (.ret (.ref l))) { s with heap := h', toks := tk' }) :
    codeAny (model PySem.Challenge.rw_ay0009_03.row.prog w) A (.call (.ref 129) ⟨[.ref x, .ref y], []⟩) R s := by
  obtain ⟨dr, t1, t2, u1, u2, hr1, hr2⟩ := hr.out
  obtain ⟨dx, lx, t3, t4, hx1, hx2, hx3⟩ := hx.out
  obtain ⟨dy, ly, t5, t6, hy1, hy2, hy3⟩ := hy.out
  obtain ⟨vx, nx, hx4, hx5⟩ := hx3.out
  obtain ⟨vy, ny, hy4, hy5⟩ := hy3.out
  obtain ⟨p0, p1, e⟩ := ints2 hx5
  subst e
  obtain ⟨r0, r1, e⟩ := ints2 hy5
  subst e
  clear hr hx hy hx3 hy3 hx5 hy5
  refine codeAny_ar hA hH hd hu ?_
  revert X
  k_fill
  intro X
  k_dflt (refine' code_defC ?k1 ?k2 ?k3 ?k4 ?k5 ?kA ?kF ?kK ?k6 ?k7 ?k8 ?k9 ?kB ?kD ?_ ?c2 ?c3 ?c4; (case kA => exact rfl); (case kF => assumption); (case kK => assumption); (case k1 => k_asm); (case k2 => k_asm); (case k3 => k_asm); (case k4 => k_asm); (case k5 => k_asm); (case k6 => k_is); (case k7 => k_is); (case k8 => k_room); (case k9 => first | exact BindsTo.of_eq rfl | exact binds_K (by k_in) rfl (by k_is) rfl rfl rfl | fail "no rule for these arguments"); (case kB => exact rfl); (case kD => decide +kernel); (case c2 => exact rfl); (case c3 => exact rfl); (case c4 => exact rfl); k_whole; intro g' L' h' tk' cells' FG' F' N' Y' B' X' T' l1; (try k_lt l1); k_cells Y'; (try simp only [List.cons_append, List.nil_append] at N'); (try dsimp only); (try k_lift B'); (try k_fold))
  k_steps
  (all_goals (try k_data))
  (rename IntsAre _ (List.map (fun k' => Int.fmod k' q) _) => hI9)
  (rename News h₀ L _ _ => hN9)
  refine' ret _ _ _ _ _ (by k_asm) (news_sub hN9 (sub_cons ?s1 (by k_mem))) (ints_cast hI9 ?e1) ?o1
  case s1 => repeat (first | exact sub_refl | exact fun _ h => h | refine sub_skip ?_)
  case e1 =>
    simp only [List.map_cons, List.map_nil, Int.fmod_eq_emod_of_nonneg _ (show (0:Int) ≤ q by omega)]
    (repeat' (first | rfl | (refine cons_congr ?_ ?_))) <;> (refine congrArg (· % q) ?_; omega)
  case o1 => (first | assumption | exact off1_lt (by assumption) (by (first | exact allLt_of (by assumption) | exact (by assumption) | exact (And.right (by assumption)) | exact (And.right (And.right (by assumption))) | exact (And.right (And.right (And.right (by assumption)))) | exact (And.right (And.right (And.right (And.right (by assumption))))) | exact (And.right (And.right (And.right (And.right (And.right (by assumption)))))) | exact (And.right (And.right (And.right (And.right (And.right (And.right (by assumption))))))) | exact (And.right (And.right (And.right (And.right (And.right (And.right (And.right (by assumption)))))))))) | exact off1_of (by (first | exact allLt_of (by assumption) | exact (by assumption) | exact (And.right (by assumption)) | exact (And.right (And.right (by assumption))) | exact (And.right (And.right (And.right (by assumption)))) | exact (And.right (And.right (And.right (And.right (by assumption))))) | exact (And.right (And.right (And.right (And.right (And.right (by assumption)))))) | exact (And.right (And.right (And.right (And.right (And.right (And.right (by assumption))))))) | exact (And.right (And.right (And.right (And.right (And.right (And.right (And.right (by assumption)))))))))) | exact (And.right (by assumption)) | exact (And.right (And.right (by assumption))) | exact (And.right (And.right (And.right (by assumption)))) | exact (And.right (And.right (And.right (And.right (by assumption))))) | exact (And.right (And.right (And.right (And.right (And.right (by assumption)))))) | exact (And.right (And.right (And.right (And.right (And.right (And.right (by assumption))))))) | exact (And.right (And.right (And.right (And.right (And.right (And.right (And.right (by assumption)))))))))

end
section
local macro_rules | `(tactic| walk_at "getItem ref int") => `(tactic| ((rename IntsAre _ (List.map (fun _ => (0:Int)) (rangeKs 0 _)) => hI9); (have hI7 := ints4 (x := 0) (y := 0) (z := 0) (u := 0) hI9); clear hI9; (obtain ⟨t70, t71, t72, t73, e7⟩ := hI7); subst e7; walk_say "CONCRETE"; (rename News _ _ _ _ => hN7); dsimp only [LCg.lst] at hN7))
local macro_rules | `(tactic| walk_at "zz none") => `(tactic| fail)

set_option maxRecDepth 100000 in
set_option maxHeartbeats 8000000 in
theorem C_school4 {A : Around} {env : Env} {outer : List Env} {A₀ : Around} {base h₀ : Heap} {L : Addr} {m : Str → Option Value} {news : List (Addr × Obj)} {s : Shared}
    {w : World} {p : Program} {loose : List Str} {mean : ExcName → Option Value} {mg mb : Str → Option Value} {R : Result → Shared → Prop}
    (hA : A.frames = some (env :: outer)) (hH : A.handled = none) (hd : A.depth ≤ 500) (hu : A.units ≤ 500)
    (B : Below A₀ base outer h₀) (F : Fr h₀ L s.heap m) (X : (Mine.hd.heap_1 w.params).In h₀) (N : News h₀ L s.heap news) (T : Top p loose mean mg mb h₀)
    (hf : env.frame = some L) (hke : env.scope.kind = .function)
    {x y r : Addr} {q : Int} {a0 a1 a2 a3 b0 b1 b2 b3 : Int} (hr : IsRing w news r q 4) (hx : IsPoly w news r x [a0, a1, a2, a3]) (hy : IsPoly w news r y [b0, b1, b2, b3])
    (hq : 2 ≤ q) (ha0 : Builtin.Int.intBits a0 ≤ 100) (ha1 : Builtin.Int.intBits a1 ≤ 100) (ha2 : Builtin.Int.intBits a2 ≤ 100) (ha3 : Builtin.Int.intBits a3 ≤ 100) (hb0 : Builtin.Int.intBits b0 ≤ 100) (hb1 : Builtin.Int.intBits b1 ≤ 100) (hb2 : Builtin.Int.intBits b2 ≤ 100) (hb3 : Builtin.Int.intBits b3 ≤ 100)
    (ret : ∀ l h' tk' vs n', Fr h₀ L h' m → News h₀ L h' ((l, W.listOf vs.toArray n') :: news) → IntsAre vs [(a0 * b0 - a1 * b3 - a2 * b2 - a3 * b1) % q, (a0 * b1 + a1 * b0 - a2 * b3 - a3 * b2) % q, (a0 * b2 + a1 * b1 + a2 * b0 - a3 * b3) % q, (a0 * b3 + a1 * b2 + a2 * b1 + a3 * b0) % q] → LCg.Off1 l news → R (.ok (.ret (.ref l))) { s with heap := h', toks := tk' }) :
    codeAny (model PySem.Challenge.rw_ay0009_03.row.prog w) A (.call (.ref 129) ⟨[.ref x, .ref y], []⟩) R s := by
  obtain ⟨dr, t1, t2, u1, u2, hr1, hr2⟩ := hr.out
  obtain ⟨dx, lx, t3, t4, hx1, hx2, hx3⟩ := hx.out
  obtain ⟨dy, ly, t5, t6, hy1, hy2, hy3⟩ := hy.out
  obtain ⟨vx, nx, hx4, hx5⟩ := hx3.out
  obtain ⟨vy, ny, hy4, hy5⟩ := hy3.out
  obtain ⟨p0, p1, p2, p3, e⟩ := ints4 hx5
  subst e
  obtain ⟨r0, r1, r2, r3, e⟩ := ints4 hy5
  subst e
  clear hr hx hy hx3 hy3 hx5 hy5
  refine codeAny_ar hA hH hd hu ?_
  revert X
  k_fill
  intro X
  k_dflt (refine' code_defC ?k1 ?k2 ?k3 ?k4 ?k5 ?kA ?kF ?kK ?k6 ?k7 ?k8 ?k9 ?kB ?kD ?_ ?c2 ?c3 ?c4; (case kA => exact rfl); (case kF => assumption); (case kK => assumption); (case k1 => k_asm); (case k2 => k_asm); (case k3 => k_asm); (case k4 => k_asm); (case k5 => k_asm); (case k6 => k_is); (case k7 => k_is); (case k8 => k_room); (case k9 => first | exact BindsTo.of_eq rfl | exact binds_K (by k_in) rfl (by k_is) rfl rfl rfl | fail "no rule for these arguments"); (case kB => exact rfl); (case kD => decide +kernel); (case c2 => exact rfl); (case c3 => exact rfl); (case c4 => exact rfl); k_whole; intro g' L' h' tk' cells' FG' F' N' Y' B' X' T' l1; (try k_lt l1); k_cells Y'; (try simp only [List.cons_append, List.nil_append] at N'); (try dsimp only); (try k_lift B'); (try k_fold))
  k_steps
  (all_goals (try k_data))
  (rename IntsAre _ (List.map (fun k' => Int.fmod k' q) _) => hI9)
  (rename News h₀ L _ _ => hN9)
  refine' ret _ _ _ _ _ (by k_asm) (news_sub hN9 (sub_cons ?s1 (by k_mem))) (ints_cast hI9 ?e1) ?o1
  case s1 => repeat (first | exact sub_refl | exact fun _ h => h | refine sub_skip ?_)
  case e1 =>
    simp only [List.map_cons, List.map_nil, Int.fmod_eq_emod_of_nonneg _ (show (0:Int) ≤ q by omega)]
    (repeat' (first | rfl | (refine cons_congr ?_ ?_))) <;> (refine congrArg (· % q) ?_; omega)
  case o1 => (first | assumption | exact off1_lt (by assumption) (by (first | exact allLt_of (by assumption) | exact (by assumption) | exact (And.right (by assumption)) | exact (And.right (And.right (by assumption))) | exact (And.right (And.right (And.right (by assumption)))) | exact (And.right (And.right (And.right (And.right (by assumption))))) | exact (And.right (And.right (And.right (And.right (And.right (by assumption)))))) | exact (And.right (And.right (And.right (And.right (And.right (And.right (by assumption))))))) | exact (And.right (And.right (And.right (And.right (And.right (And.right (And.right (by assumption)))))))))) | exact off1_of (by (first | exact allLt_of (by assumption) | exact (by assumption) | exact (And.right (by assumption)) | exact (And.right (And.right (by assumption))) | exact (And.right (And.right (And.right (by assumption)))) | exact (And.right (And.right (And.right (And.right (by assumption))))) | exact (And.right (And.right (And.right (And.right (And.right (by assumption)))))) | exact (And.right (And.right (And.right (And.right (And.right (And.right (by assumption))))))) | exact (And.right (And.right (And.right (And.right (And.right (And.right (And.right (by assumption)))))))))) | exact (And.right (by assumption)) | exact (And.right (And.right (by assumption))) | exact (And.right (And.right (And.right (by assumption)))) | exact (And.right (And.right (And.right (And.right (by assumption))))) | exact (And.right (And.right (And.right (And.right (And.right (by assumption)))))) | exact (And.right (And.right (And.right (And.right (And.right (And.right (by assumption))))))) | exact (And.right (And.right (And.right (And.right (And.right (And.right (And.right (by assumption)))))))))

end
section
set_option maxRecDepth 100000 in
set_option maxHeartbeats 8000000 in
theorem C_rcall2 {A : Around} {env : Env} {outer : List Env} {A₀ : Around} {base h₀ : Heap} {L : Addr} {m : Str → Option Value} {news : List (Addr × Obj)} {s : Shared}
    {w : World} {p : Program} {loose : List Str} {mean : ExcName → Option Value} {mg mb : Str → Option Value} {R : Result → Shared → Prop}
    (hA : A.frames = some (env :: outer)) (hH : A.handled = none) (hd : A.depth ≤ 600) (hu : A.units ≤ 600)
    (B : Below A₀ base outer h₀) (F : Fr h₀ L s.heap m) (X : (Mine.hd.heap_1 w.params).In h₀) (N : News h₀ L s.heap news) (T : Top p loose mean mg mb h₀)
    (hf : env.frame = some L) (hke : env.scope.kind = .function)
    {l r : Addr} {q : Int} {c0 c1 : Int} (hr : IsRing w news r q 2) (hl : IsInts news l [c0, c1])
    (ret : ∀ x dx h' tk' t1 t2, Fr h₀ L h' m → News h₀ L h' ((x, instObj 229 dx) :: (dx, polyD w t1 t2 r l) :: news) → AllLt dx news → @LT.lt Nat _ dx x → R (.ok (.ret (.ref x))) { s with heap := h', toks := tk' }) :
    codeAny (model PySem.Challenge.rw_ay0009_03.row.prog w) A (.call (.ref 56) ⟨[.ref r, .ref l], []⟩) R s := by
  obtain ⟨dr, t1, t2, u1, u2, hr1, hr2⟩ := hr.out
  clear hr
  obtain ⟨vl, nl, hl4, hl5⟩ := hl.out
  obtain ⟨p0, p1, e⟩ := ints2 hl5
  subst e
  clear hl hl5
  refine codeAny_ar hA hH hd hu ?_
  revert X
  k_fill
  intro X
  k_dflt (refine' code_def ?k1 ?k2 ?k3 ?k4 ?k5 ?kA ?kF ?kK ?k6 ?k7 ?k8 ?k9 ?kB ?_ ?c2 ?c3 ?c4 ?c5; (case kA => exact rfl); (case kF => assumption); (case kK => assumption); (case k1 => k_asm); (case k2 => k_asm); (case k3 => k_asm); (case k4 => k_asm); (case k5 => k_asm); (case k6 => k_is); (case k7 => k_is); (case k8 => k_room); (case k9 => first | exact BindsTo.of_eq rfl | exact binds_K (by k_in) rfl (by k_is) rfl rfl rfl | fail "no rule for these arguments"); (case c5 => decide); (case kB => exact locs rfl); (case c2 => exact rfl); (case c3 => exact rfl); (case c4 => exact rfl); k_whole; intro g' L' h' FG' F' N' B' X' T'; (try dsimp only); (try k_lift B'); (try k_fold))
  k_steps
  (all_goals (try k_data))
  refine' ret _ _ _ _ _ _ (by k_asm) (by k_asm) ?o1 ?o2
  case o1 => (first | exact allLt_of (by assumption) | ((try simp only [AllLt, and_true]); (repeat' (refine And.intro ?_ ?_)) <;> first | assumption | omega | exact (And.right (by assumption)) | exact (And.right (And.right (by assumption))) | exact (And.right (And.right (And.right (by assumption)))) | exact (And.right (And.right (And.right (And.right (by assumption))))) | exact (And.right (And.right (And.right (And.right (And.right (by assumption)))))) | exact (And.right (And.right (And.right (And.right (And.right (And.right (by assumption))))))) | exact (And.right (And.right (And.right (And.right (And.right (And.right (And.right (by assumption))))))))))
  case o2 => first | assumption | omega

set_option maxRecDepth 100000 in
set_option maxHeartbeats 8000000 in
theorem C_rcall4 {A : Around} {env : Env} {outer : List Env} {A₀ : Around} {base h₀ : Heap} {L : Addr} {m : Str → Option Value} {news : List (Addr × Obj)} {s : Shared}
    {w : World} {p : Program} {loose : List Str} {mean : ExcName → Option Value} {mg mb : Str → Option Value} {R : Result → Shared → Prop}
    (hA : A.frames = some (env :: outer)) (hH : A.handled = none) (hd : A.depth ≤ 600) (hu : A.units ≤ 600)
    (B : Below A₀ base outer h₀) (F : Fr h₀ L s.heap m) (X : (Mine.hd.heap_1 w.params).In h₀) (N : News h₀ L s.heap news) (T : Top p loose mean mg mb h₀)
    (hf : env.frame = some L) (hke : env.scope.kind = .function)
    {l r : Addr} {q : Int} {c0 c1 c2 c3 : Int} (hr : IsRing w news r q 4) (hl : IsInts news l [c0, c1, c2, c3])
    (ret : ∀ x dx h' tk' t1 t2, Fr h₀ L h' m → News h₀ L h' ((x, instObj 229 dx) :: (dx, polyD w t1 t2 r l) :: news) → AllLt dx news → @LT.lt Nat _ dx x → R (.ok (.ret (.ref x))) { s with heap := h', toks := tk' }) :
    codeAny (model PySem.Challenge.rw_ay0009_03.row.prog w) A (.call (.ref 56) ⟨[.ref r, .ref l], []⟩) R s := by
  obtain ⟨dr, t1, t2, u1, u2, hr1, hr2⟩ := hr.out
  clear hr
  obtain ⟨vl, nl, hl4, hl5⟩ := hl.out
  obtain ⟨p0, p1, p2, p3, e⟩ := ints4 hl5
  subst e
  clear hl hl5
  refine codeAny_ar hA hH hd hu ?_
  revert X
  k_fill
  intro X
  k_dflt (refine' code_def ?k1 ?k2 ?k3 ?k4 ?k5 ?kA ?kF ?kK ?k6 ?k7 ?k8 ?k9 ?kB ?_ ?c2 ?c3 ?c4 ?c5; (case kA => exact rfl); (case kF => assumption); (case kK => assumption); (case k1 => k_asm); (case k2 => k_asm); (case k3 => k_asm); (case k4 => k_asm); (case k5 => k_asm); (case k6 => k_is); (case k7 => k_is); (case k8 => k_room); (case k9 => first | exact BindsTo.of_eq rfl | exact binds_K (by k_in) rfl (by k_is) rfl rfl rfl | fail "no rule for these arguments"); (case c5 => decide); (case kB => exact locs rfl); (case c2 => exact rfl); (case c3 => exact rfl); (case c4 => exact rfl); k_whole; intro g' L' h' FG' F' N' B' X' T'; (try dsimp only); (try k_lift B'); (try k_fold))
  k_steps
  (all_goals (try k_data))
  refine' ret _ _ _ _ _ _ (by k_asm) (by k_asm) ?o1 ?o2
  case o1 => (first | exact allLt_of (by assumption) | ((try simp only [AllLt, and_true]); (repeat' (refine And.intro ?_ ?_)) <;> first | assumption | omega | exact (And.right (by assumption)) | exact (And.right (And.right (by assumption))) | exact (And.right (And.right (And.right (by assumption)))) | exact (And.right (And.right (And.right (And.right (by assumption))))) | exact (And.right (And.right (And.right (And.right (And.right (by assumption)))))) | exact (And.right (And.right (And.right (And.right (And.right (And.right (by assumption))))))) | exact (And.right (And.right (And.right (And.right (And.right (And.right (And.right (by assumption))))))))))
  case o2 => first | assumption | omega

end
section
local macro_rules | `(tactic| walk_at "binaryOp Add ref ref") => `(tactic| ((rename IntsAre _ (List.map (fun _ => (0:Int)) (rangeKs 0 _)) => hI9); (have hI7 := ints1 (x := 0) hI9); clear hI9; (obtain ⟨t70, e7⟩ := hI7); subst e7; walk_say "CONCRETE"; (rename News _ _ _ _ => hN7); dsimp only [LCg.lst] at hN7))

set_option maxRecDepth 100000 in
set_option maxHeartbeats 8000000 in
theorem C_rcallI2 {A : Around} {env : Env} {outer : List Env} {A₀ : Around} {base h₀ : Heap} {L : Addr} {m : Str → Option Value} {news : List (Addr × Obj)} {s : Shared}
    {w : World} {p : Program} {loose : List Str} {mean : ExcName → Option Value} {mg mb : Str → Option Value} {R : Result → Shared → Prop}
    (hA : A.frames = some (env :: outer)) (hH : A.handled = none) (hd : A.depth ≤ 600) (hu : A.units ≤ 600)
    (B : Below A₀ base outer h₀) (F : Fr h₀ L s.heap m) (X : (Mine.hd.heap_1 w.params).In h₀) (N : News h₀ L s.heap news) (T : Top p loose mean mg mb h₀)
    (hf : env.frame = some L) (hke : env.scope.kind = .function)
    {r : Addr} {q v : Int} {u : Tok} (hr : IsRing w news r q 2)
    (ret : ∀ x dx l h' tk' t1 t2 vs n', Fr h₀ L h' m → News h₀ L h' ((x, instObj 229 dx) :: (dx, polyD w t1 t2 r l) :: (l, W.listOf vs.toArray n') :: news) → IntsAre vs ([v, 0]) → LCg.Off1 l news → LCg.Off1 dx news → LCg.Off1 x news → (@Ne Nat l dx) ∧ (@Ne Nat l x) ∧ (@Ne Nat dx x) → R (.ok (.ret (.ref x))) { s with heap := h', toks := tk' }) :
    codeAny (model PySem.Challenge.rw_ay0009_03.row.prog w) A (.call (.ref 56) ⟨[.ref r, .int v u], []⟩) R s := by
  have hr' := hr.out
  obtain ⟨dr, t1, t2, u1, u2, hr1, hr2⟩ := hr'

  refine codeAny_ar hA hH hd hu ?_
  revert X
  k_fill
  intro X
  k_dflt (refine' code_def ?k1 ?k2 ?k3 ?k4 ?k5 ?kA ?kF ?kK ?k6 ?k7 ?k8 ?k9 ?kB ?_ ?c2 ?c3 ?c4 ?c5; (case kA => exact rfl); (case kF => assumption); (case kK => assumption); (case k1 => k_asm); (case k2 => k_asm); (case k3 => k_asm); (case k4 => k_asm); (case k5 => k_asm); (case k6 => k_is); (case k7 => k_is); (case k8 => k_room); (case k9 => first | exact BindsTo.of_eq rfl | exact binds_K (by k_in) rfl (by k_is) rfl rfl rfl | fail "no rule for these arguments"); (case c5 => decide); (case kB => exact locs rfl); (case c2 => exact rfl); (case c3 => exact rfl); (case c4 => exact rfl); k_whole; intro g' L' h' FG' F' N' B' X' T'; (try dsimp only); (try k_lift B'); (try k_fold))
  k_steps
  (all_goals (try k_data))
  (rename News h₀ L _ _ => hN9)
  refine' ret _ _ _ _ _ _ _ _ _ (by k_asm) (news_sub hN9 (sub_cons (sub_cons (sub_cons ?s1 (by k_mem)) (by k_mem)) (by k_mem))) ?e1 ?o1 ?o2 ?o3 ⟨?o4, ?o5, ?o6⟩
  case s1 => (repeat (first | exact sub_refl | exact fun _ h => h | refine sub_skip ?_))
  case e1 => kst_mem
  case o1 => (first | assumption | exact off1_lt (by assumption) (by (first | exact allLt_of (by assumption) | exact (by assumption) | exact (And.right (by assumption)) | exact (And.right (And.right (by assumption))) | exact (And.right (And.right (And.right (by assumption)))) | exact (And.right (And.right (And.right (And.right (by assumption))))) | exact (And.right (And.right (And.right (And.right (And.right (by assumption)))))) | exact (And.right (And.right (And.right (And.right (And.right (And.right (by assumption))))))) | exact (And.right (And.right (And.right (And.right (And.right (And.right (And.right (by assumption)))))))))) | exact off1_of (by (first | exact allLt_of (by assumption) | exact (by assumption) | exact (And.right (by assumption)) | exact (And.right (And.right (by assumption))) | exact (And.right (And.right (And.right (by assumption)))) | exact (And.right (And.right (And.right (And.right (by assumption))))) | exact (And.right (And.right (And.right (And.right (And.right (by assumption)))))) | exact (And.right (And.right (And.right (And.right (And.right (And.right (by assumption))))))) | exact (And.right (And.right (And.right (And.right (And.right (And.right (And.right (by assumption)))))))))) | exact (And.right (by assumption)) | exact (And.right (And.right (by assumption))) | exact (And.right (And.right (And.right (by assumption)))) | exact (And.right (And.right (And.right (And.right (by assumption))))) | exact (And.right (And.right (And.right (And.right (And.right (by assumption)))))) | exact (And.right (And.right (And.right (And.right (And.right (And.right (by assumption))))))) | exact (And.right (And.right (And.right (And.right (And.right (And.right (And.right (by assumption)))))))))
  case o2 => (first | assumption | exact off1_lt (by assumption) (by (first | exact allLt_of (by assumption) | exact (by assumption) | exact (And.right (by assumption)) | exact (And.right (And.right (by assumption))) | exact (And.right (And.right (And.right (by assumption)))) | exact (And.right (And.right (And.right (And.right (by assumption))))) | exact (And.right (And.right (And.right (And.right (And.right (by assumption)))))) | exact (And.right (And.right (And.right (And.right (And.right (And.right (by assumption))))))) | exact (And.right (And.right (And.right (And.right (And.right (And.right (And.right (by assumption)))))))))) | exact off1_of (by (first | exact allLt_of (by assumption) | exact (by assumption) | exact (And.right (by assumption)) | exact (And.right (And.right (by assumption))) | exact (And.right (And.right (And.right (by assumption)))) | exact (And.right (And.right (And.right (And.right (by assumption))))) | exact (And.right (And.right (And.right (And.right (And.right (by assumption)))))) | exact (And.right (And.right (And.right (And.right (And.right (And.right (by assumption))))))) | exact (And.right (And.right (And.right (And.right (And.right (And.right (And.right (by assumption)))))))))) | exact (And.right (by assumption)) | exact (And.right (And.right (by assumption))) | exact (And.right (And.right (And.right (by assumption)))) | exact (And.right (And.right (And.right (And.right (by assumption))))) | exact (And.right (And.right (And.right (And.right (And.right (by assumption)))))) | exact (And.right (And.right (And.right (And.right (And.right (And.right (by assumption))))))) | exact (And.right (And.right (And.right (And.right (And.right (And.right (And.right (by assumption)))))))))
  case o3 => (first | assumption | exact off1_lt (by assumption) (by (first | exact allLt_of (by assumption) | exact (by assumption) | exact (And.right (by assumption)) | exact (And.right (And.right (by assumption))) | exact (And.right (And.right (And.right (by assumption)))) | exact (And.right (And.right (And.right (And.right (by assumption))))) | exact (And.right (And.right (And.right (And.right (And.right (by assumption)))))) | exact (And.right (And.right (And.right (And.right (And.right (And.right (by assumption))))))) | exact (And.right (And.right (And.right (And.right (And.right (And.right (And.right (by assumption)))))))))) | exact off1_of (by (first | exact allLt_of (by assumption) | exact (by assumption) | exact (And.right (by assumption)) | exact (And.right (And.right (by assumption))) | exact (And.right (And.right (And.right (by assumption)))) | exact (And.right (And.right (And.right (And.right (by assumption))))) | exact (And.right (And.right (And.right (And.right (And.right (by assumption)))))) | exact (And.right (And.right (And.right (And.right (And.right (And.right (by assumption))))))) | exact (And.right (And.right (And.right (And.right (And.right (And.right (And.right (by assumption)))))))))) | exact (And.right (by assumption)) | exact (And.right (And.right (by assumption))) | exact (And.right (And.right (And.right (by assumption)))) | exact (And.right (And.right (And.right (And.right (by assumption))))) | exact (And.right (And.right (And.right (And.right (And.right (by assumption)))))) | exact (And.right (And.right (And.right (And.right (And.right (And.right (by assumption))))))) | exact (And.right (And.right (And.right (And.right (And.right (And.right (And.right (by assumption)))))))))
  case o4 => first | assumption | k_ne
  case o5 => first | assumption | k_ne
  case o6 => first | assumption | k_ne

end
section
local macro_rules | `(tactic| walk_at "binaryOp Add ref ref") => `(tactic| ((rename IntsAre _ (List.map (fun _ => (0:Int)) (rangeKs 0 _)) => hI9); (have hI7 := ints3 (x := 0) (y := 0) (z := 0) hI9); clear hI9; (obtain ⟨t70, t71, t72, e7⟩ := hI7); subst e7; walk_say "CONCRETE"; (rename News _ _ _ _ => hN7); dsimp only [LCg.lst] at hN7))
local macro_rules | `(tactic| walk_at "zz none") => `(tactic| fail)

set_option maxRecDepth 100000 in
set_option maxHeartbeats 8000000 in
theorem C_rcallI4 {A : Around} {env : Env} {outer : List Env} {A₀ : Around} {base h₀ : Heap} {L : Addr} {m : Str → Option Value} {news : List (Addr × Obj)} {s : Shared}
    {w : World} {p : Program} {loose : List Str} {mean : ExcName → Option Value} {mg mb : Str → Option Value} {R : Result → Shared → Prop}
    (hA : A.frames = some (env :: outer)) (hH : A.handled = none) (hd : A.depth ≤ 600) (hu : A.units ≤ 600)
    (B : Below A₀ base outer h₀) (F : Fr h₀ L s.heap m) (X : (Mine.hd.heap_1 w.params).In h₀) (N : News h₀ L s.heap news) (T : Top p loose mean mg mb h₀)
    (hf : env.frame = some L) (hke : env.scope.kind = .function)
    {r : Addr} {q v : Int} {u : Tok} (hr : IsRing w news r q 4)
    (ret : ∀ x dx l h' tk' t1 t2 vs n', Fr h₀ L h' m → News h₀ L h' ((x, instObj 229 dx) :: (dx, polyD w t1 t2 r l) :: (l, W.listOf vs.toArray n') :: news) → IntsAre vs ([v, 0, 0, 0]) → LCg.Off1 l news → LCg.Off1 dx news → LCg.Off1 x news → (@Ne Nat l dx) ∧ (@Ne Nat l x) ∧ (@Ne Nat dx x) → R (.ok (.ret (.ref x))) { s with heap := h', toks := tk' }) :
    codeAny (model PySem.Challenge.rw_ay0009_03.row.prog w) A (.call (.ref 56) ⟨[.ref r, .int v u], []⟩) R s := by
  have hr' := hr.out
  obtain ⟨dr, t1, t2, u1, u2, hr1, hr2⟩ := hr'

  refine codeAny_ar hA hH hd hu ?_
  revert X
  k_fill
  intro X
  k_dflt (refine' code_def ?k1 ?k2 ?k3 ?k4 ?k5 ?kA ?kF ?kK ?k6 ?k7 ?k8 ?k9 ?kB ?_ ?c2 ?c3 ?c4 ?c5; (case kA => exact rfl); (case kF => assumption); (case kK => assumption); (case k1 => k_asm); (case k2 => k_asm); (case k3 => k_asm); (case k4 => k_asm); (case k5 => k_asm); (case k6 => k_is); (case k7 => k_is); (case k8 => k_room); (case k9 => first | exact BindsTo.of_eq rfl | exact binds_K (by k_in) rfl (by k_is) rfl rfl rfl | fail "no rule for these arguments"); (case c5 => decide); (case kB => exact locs rfl); (case c2 => exact rfl); (case c3 => exact rfl); (case c4 => exact rfl); k_whole; intro g' L' h' FG' F' N' B' X' T'; (try dsimp only); (try k_lift B'); (try k_fold))
  k_steps
  (all_goals (try k_data))
  (rename News h₀ L _ _ => hN9)
  refine' ret _ _ _ _ _ _ _ _ _ (by k_asm) (news_sub hN9 (sub_cons (sub_cons (sub_cons ?s1 (by k_mem)) (by k_mem)) (by k_mem))) ?e1 ?o1 ?o2 ?o3 ⟨?o4, ?o5, ?o6⟩
  case s1 => (repeat (first | exact sub_refl | exact fun _ h => h | refine sub_skip ?_))
  case e1 => kst_mem
  case o1 => (first | assumption | exact off1_lt (by assumption) (by (first | exact allLt_of (by assumption) | exact (by assumption) | exact (And.right (by assumption)) | exact (And.right (And.right (by assumption))) | exact (And.right (And.right (And.right (by assumption)))) | exact (And.right (And.right (And.right (And.right (by assumption))))) | exact (And.right (And.right (And.right (And.right (And.right (by assumption)))))) | exact (And.right (And.right (And.right (And.right (And.right (And.right (by assumption))))))) | exact (And.right (And.right (And.right (And.right (And.right (And.right (And.right (by assumption)))))))))) | exact off1_of (by (first | exact allLt_of (by assumption) | exact (by assumption) | exact (And.right (by assumption)) | exact (And.right (And.right (by assumption))) | exact (And.right (And.right (And.right (by assumption)))) | exact (And.right (And.right (And.right (And.right (by assumption))))) | exact (And.right (And.right (And.right (And.right (And.right (by assumption)))))) | exact (And.right (And.right (And.right (And.right (And.right (And.right (by assumption))))))) | exact (And.right (And.right (And.right (And.right (And.right (And.right (And.right (by assumption)))))))))) | exact (And.right (by assumption)) | exact (And.right (And.right (by assumption))) | exact (And.right (And.right (And.right (by assumption)))) | exact (And.right (And.right (And.right (And.right (by assumption))))) | exact (And.right (And.right (And.right (And.right (And.right (by assumption)))))) | exact (And.right (And.right (And.right (And.right (And.right (And.right (by assumption))))))) | exact (And.right (And.right (And.right (And.right (And.right (And.right (And.right (by assumption)))))))))
  case o2 => (first | assumption | exact off1_lt (by assumption) (by (first | exact allLt_of (by assumption) | exact (by assumption) | exact (And.right (by assumption)) | exact (And.right (And.right (by assumption))) | exact (And.right (And.right (And.right (by assumption)))) | exact (And.right (And.right (And.right (And.right (by assumption))))) | exact (And.right (And.right (And.right (And.right (And.right (by assumption)))))) | exact (And.right (And.right (And.right (And.right (And.right (And.right (by assumption))))))) | exact (And.right (And.right (And.right (And.right (And.right (And.right (And.right (by assumption)))))))))) | exact off1_of (by (first | exact allLt_of (by assumption) | exact (by assumption) | exact (And.right (by assumption)) | exact (And.right (And.right (by assumption))) | exact (And.right (And.right (And.right (by assumption)))) | exact (And.right (And.right (And.right (And.right (by assumption))))) | exact (And.right (And.right (And.right (And.right (And.right (by assumption)))))) | exact (And.right (And.right (And.right (And.right (And.right (And.right (by assumption))))))) | exact (And.right (And.right (And.right (And.right (And.right (And.right (And.right (by assumption)))))))))) | exact (And.right (by assumption)) | exact (And.right (And.right (by assumption))) | exact (And.right (And.right (And.right (by assumption)))) | exact (And.right (And.right (And.right (And.right (by assumption))))) | exact (And.right (And.right (And.right (And.right (And.right (by assumption)))))) | exact (And.right (And.right (And.right (And.right (And.right (And.right (by assumption))))))) | exact (And.right (And.right (And.right (And.right (And.right (And.right (And.right (by assumption)))))))))
  case o3 => (first | assumption | exact off1_lt (by assumption) (by (first | exact allLt_of (by assumption) | exact (by assumption) | exact (And.right (by assumption)) | exact (And.right (And.right (by assumption))) | exact (And.right (And.right (And.right (by assumption)))) | exact (And.right (And.right (And.right (And.right (by assumption))))) | exact (And.right (And.right (And.right (And.right (And.right (by assumption)))))) | exact (And.right (And.right (And.right (And.right (And.right (And.right (by assumption))))))) | exact (And.right (And.right (And.right (And.right (And.right (And.right (And.right (by assumption)))))))))) | exact off1_of (by (first | exact allLt_of (by assumption) | exact (by assumption) | exact (And.right (by assumption)) | exact (And.right (And.right (by assumption))) | exact (And.right (And.right (And.right (by assumption)))) | exact (And.right (And.right (And.right (And.right (by assumption))))) | exact (And.right (And.right (And.right (And.right (And.right (by assumption)))))) | exact (And.right (And.right (And.right (And.right (And.right (And.right (by assumption))))))) | exact (And.right (And.right (And.right (And.right (And.right (And.right (And.right (by assumption)))))))))) | exact (And.right (by assumption)) | exact (And.right (And.right (by assumption))) | exact (And.right (And.right (And.right (by assumption)))) | exact (And.right (And.right (And.right (And.right (by assumption))))) | exact (And.right (And.right (And.right (And.right (And.right (by assumption)))))) | exact (And.right (And.right (And.right (And.right (And.right (And.right (by assumption))))))) | exact (And.right (And.right (And.right (And.right (And.right (And.right (And.right (by assumption)))))))))
  case o4 => first | assumption | k_ne
  case o5 => first | assumption | k_ne
  case o6 => first | assumption | k_ne

end
section
local macro_rules | `(tactic| walk_at "binaryOp Pow int int") => `(tactic| (k_here; k_dflt (first | (refine' my_pow1 ?k1 ?k2 ?k3 ?k4 ?_; (case k1 => decide); (case k2 => decide); (case k3 => decide); (case k4 => decide)) | (refine' my_powm ?k1 ?k2 ?k3 ?k4 ?_; (case k1 => decide); (case k2 => decide); (case k3 => decide); (case k4 => decide)))))
local macro_rules | `(tactic| walk_at "exec While Compare cons nil") => `(tactic| (k_here; k_dflt (refine whl_start 100 ?_)))
local macro_rules | `(tactic| walk_at "getItem ref int") => `(tactic| ((rename IntsAre _ (List.map (fun _ => (0:Int)) (rangeKs 0 _)) => hI9); (first | (have hI7 := ints2 (x := 0) (y := 0) hI9; clear hI9; (obtain ⟨t70, t71, e7⟩ := hI7); subst e7) | (have hI7 := ints1 (x := 0) hI9; clear hI9; (obtain ⟨t70, e7⟩ := hI7); subst e7)); walk_say "CONCRETE"; (rename News _ _ _ _ => hN7); dsimp only [LCg.lst] at hN7))

set_option maxRecDepth 100000 in
set_option maxHeartbeats 8000000 in
theorem C_norm2 {A : Around} {env : Env} {outer : List Env} {A₀ : Around} {base h₀ : Heap} {L : Addr} {m : Str → Option Value} {news : List (Addr × Obj)} {s : Shared}
    {w : World} {p : Program} {loose : List Str} {mean : ExcName → Option Value} {mg mb : Str → Option Value} {R : Result → Shared → Prop}
    (hA : A.frames = some (env :: outer)) (hH : A.handled = none) (hd : A.depth ≤ 500) (hu : A.units ≤ 500)
    (B : Below A₀ base outer h₀) (F : Fr h₀ L s.heap m) (X : (Mine.hd.heap_1 w.params).In h₀) (N : News h₀ L s.heap news) (T : Top p loose mean mg mb h₀)
    (hf : env.frame = some L) (hke : env.scope.kind = .function)
    {l : Addr} {cs : List Int} (hl : IsInts news l cs) (hlen : cs.length = 2) (hbs : ∀ c ∈ cs, Builtin.Int.intBits c ≤ 100)
    (ret : ∀ h' tk' tk, Fr h₀ L h' m → News h₀ L h' news → R (.ok (.ret (.int (normL cs) tk))) { s with heap := h', toks := tk' }) :
    codeAny (model PySem.Challenge.rw_ay0009_03.row.prog w) A (.call (.ref 238) ⟨[.ref l], []⟩) R s := by
  have hl' := hl.out
  obtain ⟨vl, nl, hl1, hl2⟩ := hl'
  obtain ⟨a0, a1, e⟩ := len_two hlen
  subst e
  obtain ⟨px0, px1, e⟩ := ints2 hl2
  subst e
  replace N := news_cons hl1 N
  have hba0 := hbs a0 (by simp)
  have hba1 := hbs a1 (by simp)

  refine codeAny_ar hA hH hd hu ?_
  revert X
  k_fill
  intro X
  k_dflt (refine' code_def ?k1 ?k2 ?k3 ?k4 ?k5 ?kA ?kF ?kK ?k6 ?k7 ?k8 ?k9 ?kB ?_ ?c2 ?c3 ?c4 ?c5; (case kA => exact rfl); (case kF => assumption); (case kK => assumption); (case k1 => k_asm); (case k2 => k_asm); (case k3 => k_asm); (case k4 => k_asm); (case k5 => k_asm); (case k6 => k_is); (case k7 => k_is); (case k8 => k_room); (case k9 => first | exact BindsTo.of_eq rfl | exact binds_K (by k_in) rfl (by k_is) rfl rfl rfl | fail "no rule for these arguments"); (case c5 => decide); (case kB => exact locs rfl); (case c2 => exact rfl); (case c3 => exact rfl); (case c4 => exact rfl); k_whole; intro g' L' h' FG' F' N' B' X' T'; (try dsimp only); (try k_lift B'); (try k_fold))
  k_steps
  (all_goals (try k_data))
  refine' int_cast9 (ret _ _ _ (by k_asm) (news_sub (by k_asm) ?s1)) ?e1
  case s1 => (repeat (first | exact sub_refl | exact fun _ h => h | refine sub_skip ?_))
  case e1 => (simp only [normL]; grind)


set_option maxRecDepth 100000 in
set_option maxHeartbeats 8000000 in
theorem C_norm4 {A : Around} {env : Env} {outer : List Env} {A₀ : Around} {base h₀ : Heap} {L : Addr} {m : Str → Option Value} {news : List (Addr × Obj)} {s : Shared}
    {w : World} {p : Program} {loose : List Str} {mean : ExcName → Option Value} {mg mb : Str → Option Value} {R : Result → Shared → Prop}
    (hA : A.frames = some (env :: outer)) (hH : A.handled = none) (hd : A.depth ≤ 500) (hu : A.units ≤ 500)
    (B : Below A₀ base outer h₀) (F : Fr h₀ L s.heap m) (X : (Mine.hd.heap_1 w.params).In h₀) (N : News h₀ L s.heap news) (T : Top p loose mean mg mb h₀)
    (hf : env.frame = some L) (hke : env.scope.kind = .function)
    {l : Addr} {cs : List Int} (hl : IsInts news l cs) (hlen : cs.length = 4) (hbs : ∀ c ∈ cs, Builtin.Int.intBits c ≤ 100)
    (ret : ∀ h' tk' tk, Fr h₀ L h' m → News h₀ L h' news → R (.ok (.ret (.int (normL cs) tk))) { s with heap := h', toks := tk' }) :
    codeAny (model PySem.Challenge.rw_ay0009_03.row.prog w) A (.call (.ref 238) ⟨[.ref l], []⟩) R s := by
  have hl' := hl.out
  obtain ⟨vl, nl, hl1, hl2⟩ := hl'
  obtain ⟨a0, a1, a2, a3, e⟩ := len_four hlen
  subst e
  obtain ⟨px0, px1, px2, px3, e⟩ := ints4 hl2
  subst e
  replace N := news_cons hl1 N
  have hba0 := hbs a0 (by simp)
  have hba1 := hbs a1 (by simp)
  have hba2 := hbs a2 (by simp)
  have hba3 := hbs a3 (by simp)

  refine codeAny_ar hA hH hd hu ?_
  revert X
  k_fill
  intro X
  k_dflt (refine' code_def ?k1 ?k2 ?k3 ?k4 ?k5 ?kA ?kF ?kK ?k6 ?k7 ?k8 ?k9 ?kB ?_ ?c2 ?c3 ?c4 ?c5; (case kA => exact rfl); (case kF => assumption); (case kK => assumption); (case k1 => k_asm); (case k2 => k_asm); (case k3 => k_asm); (case k4 => k_asm); (case k5 => k_asm); (case k6 => k_is); (case k7 => k_is); (case k8 => k_room); (case k9 => first | exact BindsTo.of_eq rfl | exact binds_K (by k_in) rfl (by k_is) rfl rfl rfl | fail "no rule for these arguments"); (case c5 => decide); (case kB => exact locs rfl); (case c2 => exact rfl); (case c3 => exact rfl); (case c4 => exact rfl); k_whole; intro g' L' h' FG' F' N' B' X' T'; (try dsimp only); (try k_lift B'); (try k_fold))
  k_steps
  (all_goals (try k_data))
  refine' int_cast9 (ret _ _ _ (by k_asm) (news_sub (by k_asm) ?s1)) ?e1
  case s1 => (repeat (first | exact sub_refl | exact fun _ h => h | refine sub_skip ?_))
  case e1 => (simp only [normL]; grind)

end
section
local macro_rules | `(tactic| walk_at "eval GeneratorExp Compare cons") => `(tactic| (k_here; k_dflt (refine' my_genexp (c := 90) (P := 86) ?hh ?hco ?hclos ?hcell ?h0 ?hx ?hkind ?hroom ?hcode ?helt ?_ ?hs; (case hh => exact rfl); (case hco => with_unfolding_all rfl); (case hclos => with_unfolding_all rfl); (case hcell => decide); (case h0 => with_unfolding_all rfl); (case hx => with_unfolding_all rfl); (case hkind => with_unfolding_all rfl); (case hroom => k_room); (case hcode => with_unfolding_all rfl); (case helt => (intros; exact elt_zero (by assumption) (by assumption) (by with_unfolding_all rfl) (by with_unfolding_all rfl) (by decide))); (case hs => (intro _; with_unfolding_all rfl)); k_whole); walk_say "GENEXP"))
local macro_rules | `(tactic| walk_at "GxPost ref") => `(tactic| (k_here; k_dflt (refine' genexp_post (K := Mine.hd.heap_1 _) ?F ?N ?X ?hlim ?M ?ht ?htr ?hl ?hi ?hG ?hk ?h11 ?h18 ?h7 ?h9 ?h10 ?hcP ?hPs ?h2 ?_; (case F => k_asm); (case N => k_asm); (case X => k_asm); (case hlim => exact Top.nolimit (by k_asm)); (case M => first | k_asm | exact BMod.keeps (by assumption) (Fr.keep (by assumption))); (case ht => k_mem); (case htr => k_asm); (case hl => k_mem); (case hi => kst_mem); (case hG => k_asm); (case hk => k_is); (case h11 => exact rfl); (case h18 => exact rfl); (case h7 => exact rfl); (case h9 => exact rfl); (case h10 => exact rfl); (case hcP => decide); (case hPs => decide); (case h2 => decide); k_whole); intro a5 s5 ps5 nx5 S5 F5 N5 ht5 htr5 hk5 hG5 hos5 hL5 hS5 hX5; (try k_sweep); walk_say "GENPOST"))
local macro_rules | `(tactic| walk_at "call builtin:all") => `(tactic| (k_here; k_dflt (refine' my_all ?F ?N ?G ?X ?hL ?hn ?_; (case F => k_asm); (case N => k_asm); (case G => k_asm); (case X => k_asm); (case hL => k_asm); (case hn => k_asm); k_whole); intro s6 F6 N6 hG6 hos6; (try k_sweep); walk_say "ALL"))
local macro_rules | `(tactic| walk_at "zz none") => `(tactic| fail)
set_option maxRecDepth 100000 in
set_option maxHeartbeats 8000000 in
theorem C_isz {A : Around} {env : Env} {outer : List Env} {A₀ : Around} {base h₀ : Heap} {L : Addr} {m : Str → Option Value} {news : List (Addr × Obj)} {s : Shared}
    {w : World} {p : Program} {loose : List Str} {mean : ExcName → Option Value} {mg mb : Str → Option Value} {R : Result → Shared → Prop}
    (hA : A.frames = some (env :: outer)) (hH : A.handled = none) (hd : A.depth ≤ 500) (hu : A.units ≤ 500)
    (B : Below A₀ base outer h₀) (F : Fr h₀ L s.heap m) (X : (Mine.hd.heap_1 w.params).In h₀) (N : News h₀ L s.heap news) (T : Top p loose mean mg mb h₀)
    (hf : env.frame = some L) (hke : env.scope.kind = .function)
    {x r : Addr} {cs : List Int} {ps : Array Value} (hx : IsPoly w news r x cs) (ht : (86, tabObj ps) ∈ news) (htr : TriplesOk ps.toList) (hG : AllBare s.gens)
    (ret : ∀ nx s' ps', Fr h₀ L s'.heap m → News h₀ L s'.heap nx → (86, tabObj ps') ∈ nx → TriplesOk ps'.toList → (∀ p ∈ news, OffT 86 p → p ∈ nx) → AllBare s'.gens → s'.os = s.os → R (.ok (.ret (.bool (cs.all (· == 0))))) s') :
    codeAny (model PySem.Challenge.rw_ay0009_03.row.prog w) A (.call (.ref 91) ⟨[.ref x], []⟩) R s := by
  obtain ⟨bm0, ob0, hM0⟩ := bmod_of_top T
  have hx' := hx.at_
  obtain ⟨dx, lx, t3, t4, vx, nx, hx1, hx2, hx3, hx4⟩ := hx'

  refine codeAny_ar hA hH hd hu ?_
  revert X
  k_fill
  intro X
  k_dflt (refine' code_def ?k1 ?k2 ?k3 ?k4 ?k5 ?kA ?kF ?kK ?k6 ?k7 ?k8 ?k9 ?kB ?_ ?c2 ?c3 ?c4 ?c5; (case kA => exact rfl); (case kF => assumption); (case kK => assumption); (case k1 => k_asm); (case k2 => k_asm); (case k3 => k_asm); (case k4 => k_asm); (case k5 => k_asm); (case k6 => k_is); (case k7 => k_is); (case k8 => k_room); (case k9 => first | exact BindsTo.of_eq rfl | exact binds_K (by k_in) rfl (by k_is) rfl rfl rfl | fail "no rule for these arguments"); (case c5 => decide); (case kB => exact locs rfl); (case c2 => exact rfl); (case c3 => exact rfl); (case c4 => exact rfl); k_whole; intro g' L' h' FG' F' N' B' X' T'; (try dsimp only); (try k_lift B'); (try k_fold))
  k_steps
  (all_goals (try k_data))
  refine' ret _ _ _ (by k_asm) (by k_asm) (by k_asm) (by k_asm) ?e1 (by k_asm) ?e2
  case e1 => first | assumption | (intro p hp ho; first | exact (by assumption : ∀ p ∈ _, OffT _ p → p ∈ _) _ hp ho | exact (by assumption : ∀ p ∈ _, OffT _ p → p ∈ _) _ (List.mem_cons_of_mem _ hp) ho)
  case e2 => first | assumption | exact Eq.trans (by assumption) (by assumption)

end
section
local macro_rules | `(tactic| walk_at "eval GeneratorExp Compare cons") => `(tactic| (k_here; k_dflt (refine' my_genexp (c := 97) (P := 93) ?hh ?hco ?hclos ?hcell ?h0 ?hx ?hkind ?hroom ?hcode ?helt ?_ ?hs; (case hh => exact rfl); (case hco => with_unfolding_all rfl); (case hclos => with_unfolding_all rfl); (case hcell => decide); (case h0 => with_unfolding_all rfl); (case hx => with_unfolding_all rfl); (case hkind => with_unfolding_all rfl); (case hroom => k_room); (case hcode => with_unfolding_all rfl); (case helt => (intros; exact elt_zero (by assumption) (by assumption) (by with_unfolding_all rfl) (by with_unfolding_all rfl) (by decide))); (case hs => (intro _; with_unfolding_all rfl)); k_whole); walk_say "GENEXP"))
local macro_rules | `(tactic| walk_at "GxPost ref") => `(tactic| (k_here; k_dflt (refine' genexp_post (K := Mine.hd.heap_1 _) ?F ?N ?X ?hlim ?M ?ht ?htr ?hl ?hi ?hG ?hk ?h11 ?h18 ?h7 ?h9 ?h10 ?hcP ?hPs ?h2 ?_; (case F => k_asm); (case N => k_asm); (case X => k_asm); (case hlim => exact Top.nolimit (by k_asm)); (case M => first | k_asm | exact BMod.keeps (by assumption) (Fr.keep (by assumption))); (case ht => k_mem); (case htr => k_asm); (case hl => k_mem); (case hi => kst_mem); (case hG => k_asm); (case hk => k_is); (case h11 => exact rfl); (case h18 => exact rfl); (case h7 => exact rfl); (case h9 => exact rfl); (case h10 => exact rfl); (case hcP => decide); (case hPs => decide); (case h2 => decide); k_whole); intro a5 s5 ps5 nx5 S5 F5 N5 ht5 htr5 hk5 hG5 hos5 hL5 hS5 hX5; (try k_sweep); walk_say "GENPOST"))
local macro_rules | `(tactic| walk_at "call builtin:all") => `(tactic| (k_here; k_dflt (refine' my_all ?F ?N ?G ?X ?hL ?hn ?_; (case F => k_asm); (case N => k_asm); (case G => k_asm); (case X => k_asm); (case hL => k_asm); (case hn => k_asm); k_whole); intro s6 F6 N6 hG6 hos6; (try k_sweep); walk_say "ALL"))
set_option maxRecDepth 100000 in
set_option maxHeartbeats 8000000 in
theorem C_isc2 {A : Around} {env : Env} {outer : List Env} {A₀ : Around} {base h₀ : Heap} {L : Addr} {m : Str → Option Value} {news : List (Addr × Obj)} {s : Shared}
    {w : World} {p : Program} {loose : List Str} {mean : ExcName → Option Value} {mg mb : Str → Option Value} {R : Result → Shared → Prop}
    (hA : A.frames = some (env :: outer)) (hH : A.handled = none) (hd : A.depth ≤ 500) (hu : A.units ≤ 500)
    (B : Below A₀ base outer h₀) (F : Fr h₀ L s.heap m) (X : (Mine.hd.heap_1 w.params).In h₀) (N : News h₀ L s.heap news) (T : Top p loose mean mg mb h₀)
    (hf : env.frame = some L) (hke : env.scope.kind = .function)
    {x r : Addr} {cs : List Int} {ps : Array Value} (hx : IsPoly w news r x cs) (hlen : cs.length = 2) (ht : (93, tabObj ps) ∈ news) (htr : TriplesOk ps.toList) (hG : AllBare s.gens)
    (ret : ∀ nx s' ps', Fr h₀ L s'.heap m → News h₀ L s'.heap nx → (93, tabObj ps') ∈ nx → TriplesOk ps'.toList → (∀ p ∈ news, OffT 93 p → p ∈ nx) → AllBare s'.gens → s'.os = s.os → R (.ok (.ret (.bool (cs.tail.all (· == 0))))) s') :
    codeAny (model PySem.Challenge.rw_ay0009_03.row.prog w) A (.call (.ref 98) ⟨[.ref x], []⟩) R s := by
  obtain ⟨bm0, ob0, hM0⟩ := bmod_of_top T
  have hx' := hx.at_
  obtain ⟨dx, lx, t3, t4, vx, nx, hx1, hx2, hx3, hx4⟩ := hx'
  obtain ⟨a0, a1, e⟩ := len_two hlen
  subst e
  obtain ⟨px0, px1, e⟩ := ints2 hx4
  subst e

  refine codeAny_ar hA hH hd hu ?_
  revert X
  k_fill
  intro X
  k_dflt (refine' code_def ?k1 ?k2 ?k3 ?k4 ?k5 ?kA ?kF ?kK ?k6 ?k7 ?k8 ?k9 ?kB ?_ ?c2 ?c3 ?c4 ?c5; (case kA => exact rfl); (case kF => assumption); (case kK => assumption); (case k1 => k_asm); (case k2 => k_asm); (case k3 => k_asm); (case k4 => k_asm); (case k5 => k_asm); (case k6 => k_is); (case k7 => k_is); (case k8 => k_room); (case k9 => first | exact BindsTo.of_eq rfl | exact binds_K (by k_in) rfl (by k_is) rfl rfl rfl | fail "no rule for these arguments"); (case c5 => decide); (case kB => exact locs rfl); (case c2 => exact rfl); (case c3 => exact rfl); (case c4 => exact rfl); k_whole; intro g' L' h' FG' F' N' B' X' T'; (try dsimp only); (try k_lift B'); (try k_fold))
  k_steps
  (all_goals (try k_data))
  refine' ret _ _ _ (by k_asm) (by k_asm) (by k_asm) (by k_asm) ?e1 (by k_asm) ?e2
  case e1 => first | assumption | (intro p hp ho; first | exact (by assumption : ∀ p ∈ _, OffT _ p → p ∈ _) _ hp ho | exact (by assumption : ∀ p ∈ _, OffT _ p → p ∈ _) _ (List.mem_cons_of_mem _ hp) ho)
  case e2 => first | assumption | exact Eq.trans (by assumption) (by assumption)

set_option maxRecDepth 100000 in
set_option maxHeartbeats 8000000 in
theorem C_isc4 {A : Around} {env : Env} {outer : List Env} {A₀ : Around} {base h₀ : Heap} {L : Addr} {m : Str → Option Value} {news : List (Addr × Obj)} {s : Shared}
    {w : World} {p : Program} {loose : List Str} {mean : ExcName → Option Value} {mg mb : Str → Option Value} {R : Result → Shared → Prop}
    (hA : A.frames = some (env :: outer)) (hH : A.handled = none) (hd : A.depth ≤ 500) (hu : A.units ≤ 500)
    (B : Below A₀ base outer h₀) (F : Fr h₀ L s.heap m) (X : (Mine.hd.heap_1 w.params).In h₀) (N : News h₀ L s.heap news) (T : Top p loose mean mg mb h₀)
    (hf : env.frame = some L) (hke : env.scope.kind = .function)
    {x r : Addr} {cs : List Int} {ps : Array Value} (hx : IsPoly w news r x cs) (hlen : cs.length = 4) (ht : (93, tabObj ps) ∈ news) (htr : TriplesOk ps.toList) (hG : AllBare s.gens)
    (ret : ∀ nx s' ps', Fr h₀ L s'.heap m → News h₀ L s'.heap nx → (93, tabObj ps') ∈ nx → TriplesOk ps'.toList → (∀ p ∈ news, OffT 93 p → p ∈ nx) → AllBare s'.gens → s'.os = s.os → R (.ok (.ret (.bool (cs.tail.all (· == 0))))) s') :
    codeAny (model PySem.Challenge.rw_ay0009_03.row.prog w) A (.call (.ref 98) ⟨[.ref x], []⟩) R s := by
  obtain ⟨bm0, ob0, hM0⟩ := bmod_of_top T
  have hx' := hx.at_
  obtain ⟨dx, lx, t3, t4, vx, nx, hx1, hx2, hx3, hx4⟩ := hx'
  obtain ⟨a0, a1, a2, a3, e⟩ := len_four hlen
  subst e
  obtain ⟨px0, px1, px2, px3, e⟩ := ints4 hx4
  subst e

  refine codeAny_ar hA hH hd hu ?_
  revert X
  k_fill
  intro X
  k_dflt (refine' code_def ?k1 ?k2 ?k3 ?k4 ?k5 ?kA ?kF ?kK ?k6 ?k7 ?k8 ?k9 ?kB ?_ ?c2 ?c3 ?c4 ?c5; (case kA => exact rfl); (case kF => assumption); (case kK => assumption); (case k1 => k_asm); (case k2 => k_asm); (case k3 => k_asm); (case k4 => k_asm); (case k5 => k_asm); (case k6 => k_is); (case k7 => k_is); (case k8 => k_room); (case k9 => first | exact BindsTo.of_eq rfl | exact binds_K (by k_in) rfl (by k_is) rfl rfl rfl | fail "no rule for these arguments"); (case c5 => decide); (case kB => exact locs rfl); (case c2 => exact rfl); (case c3 => exact rfl); (case c4 => exact rfl); k_whole; intro g' L' h' FG' F' N' B' X' T'; (try dsimp only); (try k_lift B'); (try k_fold))
  k_steps
  (all_goals (try k_data))
  refine' ret _ _ _ (by k_asm) (by k_asm) (by k_asm) (by k_asm) ?e1 (by k_asm) ?e2
  case e1 => first | assumption | (intro p hp ho; first | exact (by assumption : ∀ p ∈ _, OffT _ p → p ∈ _) _ hp ho | exact (by assumption : ∀ p ∈ _, OffT _ p → p ∈ _) _ (List.mem_cons_of_mem _ hp) ho)
  case e2 => first | assumption | exact Eq.trans (by assumption) (by assumption)

end
section
set_option maxRecDepth 100000 in
set_option maxHeartbeats 8000000 in
theorem C_rgen2 {A : Around} {env : Env} {outer : List Env} {A₀ : Around} {base h₀ : Heap} {L : Addr} {m : Str → Option Value} {news : List (Addr × Obj)} {s : Shared}
    {w : World} {p : Program} {loose : List Str} {mean : ExcName → Option Value} {mg mb : Str → Option Value} {R : Result → Shared → Prop}
    (hA : A.frames = some (env :: outer)) (hH : A.handled = none) (hd : A.depth ≤ 550) (hu : A.units ≤ 550)
    (B : Below A₀ base outer h₀) (F : Fr h₀ L s.heap m) (X : (Mine.hd.heap_1 w.params).In h₀) (N : News h₀ L s.heap news) (T : Top p loose mean mg mb h₀)
    (hf : env.frame = some L) (hke : env.scope.kind = .function)
    {r : Addr} {q : Int} (hr : IsRing w news r q 2)
    (ret : ∀ x dx l h' tk' t1 t2 vs n', Fr h₀ L h' m → News h₀ L h' ((x, instObj 229 dx) :: (dx, polyD w t1 t2 r l) :: (l, W.listOf vs.toArray n') :: news) → IntsAre vs ([0, 1]) → LCg.Off1 l news → LCg.Off1 dx news → LCg.Off1 x news → (@Ne Nat l dx) ∧ (@Ne Nat l x) ∧ (@Ne Nat dx x) → R (.ok (.ret (.ref x))) { s with heap := h', toks := tk' }) :
    codeAny (model PySem.Challenge.rw_ay0009_03.row.prog w) A (.call (.ref 49) ⟨[.ref r], []⟩) R s := by
  have hr' := hr.out
  obtain ⟨dr, t1, t2, u1, u2, hr1, hr2⟩ := hr'

  refine codeAny_ar hA hH hd hu ?_
  revert X
  k_fill
  intro X
  k_dflt (refine' code_def ?k1 ?k2 ?k3 ?k4 ?k5 ?kA ?kF ?kK ?k6 ?k7 ?k8 ?k9 ?kB ?_ ?c2 ?c3 ?c4 ?c5; (case kA => exact rfl); (case kF => assumption); (case kK => assumption); (case k1 => k_asm); (case k2 => k_asm); (case k3 => k_asm); (case k4 => k_asm); (case k5 => k_asm); (case k6 => k_is); (case k7 => k_is); (case k8 => k_room); (case k9 => first | exact BindsTo.of_eq rfl | exact binds_K (by k_in) rfl (by k_is) rfl rfl rfl | fail "no rule for these arguments"); (case c5 => decide); (case kB => exact locs rfl); (case c2 => exact rfl); (case c3 => exact rfl); (case c4 => exact rfl); k_whole; intro g' L' h' FG' F' N' B' X' T'; (try dsimp only); (try k_lift B'); (try k_fold))
  k_steps
  (all_goals (try k_data))
  (rename News h₀ L _ _ => hN9)
  refine' ret _ _ _ _ _ _ _ _ _ (by k_asm) (news_sub hN9 (sub_cons (sub_cons (sub_cons ?s1 (by k_mem)) (by k_mem)) (by k_mem))) ?e1 ?o1 ?o2 ?o3 ⟨?o4, ?o5, ?o6⟩
  case s1 => (repeat (first | exact sub_refl | exact fun _ h => h | refine sub_skip ?_))
  case e1 => kst_mem
  case o1 => (first | assumption | exact off1_lt (by assumption) (by (first | exact allLt_of (by assumption) | exact (by assumption) | exact (And.right (by assumption)) | exact (And.right (And.right (by assumption))) | exact (And.right (And.right (And.right (by assumption)))) | exact (And.right (And.right (And.right (And.right (by assumption))))) | exact (And.right (And.right (And.right (And.right (And.right (by assumption)))))) | exact (And.right (And.right (And.right (And.right (And.right (And.right (by assumption))))))) | exact (And.right (And.right (And.right (And.right (And.right (And.right (And.right (by assumption)))))))))) | exact off1_of (by (first | exact allLt_of (by assumption) | exact (by assumption) | exact (And.right (by assumption)) | exact (And.right (And.right (by assumption))) | exact (And.right (And.right (And.right (by assumption)))) | exact (And.right (And.right (And.right (And.right (by assumption))))) | exact (And.right (And.right (And.right (And.right (And.right (by assumption)))))) | exact (And.right (And.right (And.right (And.right (And.right (And.right (by assumption))))))) | exact (And.right (And.right (And.right (And.right (And.right (And.right (And.right (by assumption)))))))))) | exact (And.right (by assumption)) | exact (And.right (And.right (by assumption))) | exact (And.right (And.right (And.right (by assumption)))) | exact (And.right (And.right (And.right (And.right (by assumption))))) | exact (And.right (And.right (And.right (And.right (And.right (by assumption)))))) | exact (And.right (And.right (And.right (And.right (And.right (And.right (by assumption))))))) | exact (And.right (And.right (And.right (And.right (And.right (And.right (And.right (by assumption)))))))))
  case o2 => (first | assumption | exact off1_lt (by assumption) (by (first | exact allLt_of (by assumption) | exact (by assumption) | exact (And.right (by assumption)) | exact (And.right (And.right (by assumption))) | exact (And.right (And.right (And.right (by assumption)))) | exact (And.right (And.right (And.right (And.right (by assumption))))) | exact (And.right (And.right (And.right (And.right (And.right (by assumption)))))) | exact (And.right (And.right (And.right (And.right (And.right (And.right (by assumption))))))) | exact (And.right (And.right (And.right (And.right (And.right (And.right (And.right (by assumption)))))))))) | exact off1_of (by (first | exact allLt_of (by assumption) | exact (by assumption) | exact (And.right (by assumption)) | exact (And.right (And.right (by assumption))) | exact (And.right (And.right (And.right (by assumption)))) | exact (And.right (And.right (And.right (And.right (by assumption))))) | exact (And.right (And.right (And.right (And.right (And.right (by assumption)))))) | exact (And.right (And.right (And.right (And.right (And.right (And.right (by assumption))))))) | exact (And.right (And.right (And.right (And.right (And.right (And.right (And.right (by assumption)))))))))) | exact (And.right (by assumption)) | exact (And.right (And.right (by assumption))) | exact (And.right (And.right (And.right (by assumption)))) | exact (And.right (And.right (And.right (And.right (by assumption))))) | exact (And.right (And.right (And.right (And.right (And.right (by assumption)))))) | exact (And.right (And.right (And.right (And.right (And.right (And.right (by assumption))))))) | exact (And.right (And.right (And.right (And.right (And.right (And.right (And.right (by assumption)))))))))
  case o3 => (first | assumption | exact off1_lt (by assumption) (by (first | exact allLt_of (by assumption) | exact (by assumption) | exact (And.right (by assumption)) | exact (And.right (And.right (by assumption))) | exact (And.right (And.right (And.right (by assumption)))) | exact (And.right (And.right (And.right (And.right (by assumption))))) | exact (And.right (And.right (And.right (And.right (And.right (by assumption)))))) | exact (And.right (And.right (And.right (And.right (And.right (And.right (by assumption))))))) | exact (And.right (And.right (And.right (And.right (And.right (And.right (And.right (by assumption)))))))))) | exact off1_of (by (first | exact allLt_of (by assumption) | exact (by assumption) | exact (And.right (by assumption)) | exact (And.right (And.right (by assumption))) | exact (And.right (And.right (And.right (by assumption)))) | exact (And.right (And.right (And.right (And.right (by assumption))))) | exact (And.right (And.right (And.right (And.right (And.right (by assumption)))))) | exact (And.right (And.right (And.right (And.right (And.right (And.right (by assumption))))))) | exact (And.right (And.right (And.right (And.right (And.right (And.right (And.right (by assumption)))))))))) | exact (And.right (by assumption)) | exact (And.right (And.right (by assumption))) | exact (And.right (And.right (And.right (by assumption)))) | exact (And.right (And.right (And.right (And.right (by assumption))))) | exact (And.right (And.right (And.right (And.right (And.right (by assumption)))))) | exact (And.right (And.right (And.right (And.right (And.right (And.right (by assumption))))))) | exact (And.right (And.right (And.right (And.right (And.right (And.right (And.right (by assumption)))))))))
  case o4 => first | assumption | k_ne
  case o5 => first | assumption | k_ne
  case o6 => first | assumption | k_ne

end
section
local macro_rules | `(tactic| walk_at "binaryOp Add ref ref") => `(tactic| ((rename IntsAre _ (List.map (fun _ => (0:Int)) (rangeKs 0 _)) => hI9); (have hI7 := ints2 (x := 0) (y := 0) hI9); clear hI9; (obtain ⟨t70, t71, e7⟩ := hI7); subst e7; walk_say "CONCRETE"; (rename News _ _ _ _ => hN7); dsimp only [LCg.lst] at hN7))

set_option maxRecDepth 100000 in
set_option maxHeartbeats 8000000 in
theorem C_rgen4 {A : Around} {env : Env} {outer : List Env} {A₀ : Around} {base h₀ : Heap} {L : Addr} {m : Str → Option Value} {news : List (Addr × Obj)} {s : Shared}
    {w : World} {p : Program} {loose : List Str} {mean : ExcName → Option Value} {mg mb : Str → Option Value} {R : Result → Shared → Prop}
    (hA : A.frames = some (env :: outer)) (hH : A.handled = none) (hd : A.depth ≤ 550) (hu : A.units ≤ 550)
    (B : Below A₀ base outer h₀) (F : Fr h₀ L s.heap m) (X : (Mine.hd.heap_1 w.params).In h₀) (N : News h₀ L s.heap news) (T : Top p loose mean mg mb h₀)
    (hf : env.frame = some L) (hke : env.scope.kind = .function)
    {r : Addr} {q : Int} (hr : IsRing w news r q 4)
    (ret : ∀ x dx l h' tk' t1 t2 vs n', Fr h₀ L h' m → News h₀ L h' ((x, instObj 229 dx) :: (dx, polyD w t1 t2 r l) :: (l, W.listOf vs.toArray n') :: news) → IntsAre vs ([0, 1, 0, 0]) → LCg.Off1 l news → LCg.Off1 dx news → LCg.Off1 x news → (@Ne Nat l dx) ∧ (@Ne Nat l x) ∧ (@Ne Nat dx x) → R (.ok (.ret (.ref x))) { s with heap := h', toks := tk' }) :
    codeAny (model PySem.Challenge.rw_ay0009_03.row.prog w) A (.call (.ref 49) ⟨[.ref r], []⟩) R s := by
  have hr' := hr.out
  obtain ⟨dr, t1, t2, u1, u2, hr1, hr2⟩ := hr'

  refine codeAny_ar hA hH hd hu ?_
  revert X
  k_fill
  intro X
  k_dflt (refine' code_def ?k1 ?k2 ?k3 ?k4 ?k5 ?kA ?kF ?kK ?k6 ?k7 ?k8 ?k9 ?kB ?_ ?c2 ?c3 ?c4 ?c5; (case kA => exact rfl); (case kF => assumption); (case kK => assumption); (case k1 => k_asm); (case k2 => k_asm); (case k3 => k_asm); (case k4 => k_asm); (case k5 => k_asm); (case k6 => k_is); (case k7 => k_is); (case k8 => k_room); (case k9 => first | exact BindsTo.of_eq rfl | exact binds_K (by k_in) rfl (by k_is) rfl rfl rfl | fail "no rule for these arguments"); (case c5 => decide); (case kB => exact locs rfl); (case c2 => exact rfl); (case c3 => exact rfl); (case c4 => exact rfl); k_whole; intro g' L' h' FG' F' N' B' X' T'; (try dsimp only); (try k_lift B'); (try k_fold))
  k_steps
  (all_goals (try k_data))
  (rename News h₀ L _ _ => hN9)
  refine' ret _ _ _ _ _ _ _ _ _ (by k_asm) (news_sub hN9 (sub_cons (sub_cons (sub_cons ?s1 (by k_mem)) (by k_mem)) (by k_mem))) ?e1 ?o1 ?o2 ?o3 ⟨?o4, ?o5, ?o6⟩
  case s1 => (repeat (first | exact sub_refl | exact fun _ h => h | refine sub_skip ?_))
  case e1 => kst_mem
  case o1 => (first | assumption | exact off1_lt (by assumption) (by (first | exact allLt_of (by assumption) | exact (by assumption) | exact (And.right (by assumption)) | exact (And.right (And.right (by assumption))) | exact (And.right (And.right (And.right (by assumption)))) | exact (And.right (And.right (And.right (And.right (by assumption))))) | exact (And.right (And.right (And.right (And.right (And.right (by assumption)))))) | exact (And.right (And.right (And.right (And.right (And.right (And.right (by assumption))))))) | exact (And.right (And.right (And.right (And.right (And.right (And.right (And.right (by assumption)))))))))) | exact off1_of (by (first | exact allLt_of (by assumption) | exact (by assumption) | exact (And.right (by assumption)) | exact (And.right (And.right (by assumption))) | exact (And.right (And.right (And.right (by assumption)))) | exact (And.right (And.right (And.right (And.right (by assumption))))) | exact (And.right (And.right (And.right (And.right (And.right (by assumption)))))) | exact (And.right (And.right (And.right (And.right (And.right (And.right (by assumption))))))) | exact (And.right (And.right (And.right (And.right (And.right (And.right (And.right (by assumption)))))))))) | exact (And.right (by assumption)) | exact (And.right (And.right (by assumption))) | exact (And.right (And.right (And.right (by assumption)))) | exact (And.right (And.right (And.right (And.right (by assumption))))) | exact (And.right (And.right (And.right (And.right (And.right (by assumption)))))) | exact (And.right (And.right (And.right (And.right (And.right (And.right (by assumption))))))) | exact (And.right (And.right (And.right (And.right (And.right (And.right (And.right (by assumption)))))))))
  case o2 => (first | assumption | exact off1_lt (by assumption) (by (first | exact allLt_of (by assumption) | exact (by assumption) | exact (And.right (by assumption)) | exact (And.right (And.right (by assumption))) | exact (And.right (And.right (And.right (by assumption)))) | exact (And.right (And.right (And.right (And.right (by assumption))))) | exact (And.right (And.right (And.right (And.right (And.right (by assumption)))))) | exact (And.right (And.right (And.right (And.right (And.right (And.right (by assumption))))))) | exact (And.right (And.right (And.right (And.right (And.right (And.right (And.right (by assumption)))))))))) | exact off1_of (by (first | exact allLt_of (by assumption) | exact (by assumption) | exact (And.right (by assumption)) | exact (And.right (And.right (by assumption))) | exact (And.right (And.right (And.right (by assumption)))) | exact (And.right (And.right (And.right (And.right (by assumption))))) | exact (And.right (And.right (And.right (And.right (And.right (by assumption)))))) | exact (And.right (And.right (And.right (And.right (And.right (And.right (by assumption))))))) | exact (And.right (And.right (And.right (And.right (And.right (And.right (And.right (by assumption)))))))))) | exact (And.right (by assumption)) | exact (And.right (And.right (by assumption))) | exact (And.right (And.right (And.right (by assumption)))) | exact (And.right (And.right (And.right (And.right (by assumption))))) | exact (And.right (And.right (And.right (And.right (And.right (by assumption)))))) | exact (And.right (And.right (And.right (And.right (And.right (And.right (by assumption))))))) | exact (And.right (And.right (And.right (And.right (And.right (And.right (And.right (by assumption)))))))))
  case o3 => (first | assumption | exact off1_lt (by assumption) (by (first | exact allLt_of (by assumption) | exact (by assumption) | exact (And.right (by assumption)) | exact (And.right (And.right (by assumption))) | exact (And.right (And.right (And.right (by assumption)))) | exact (And.right (And.right (And.right (And.right (by assumption))))) | exact (And.right (And.right (And.right (And.right (And.right (by assumption)))))) | exact (And.right (And.right (And.right (And.right (And.right (And.right (by assumption))))))) | exact (And.right (And.right (And.right (And.right (And.right (And.right (And.right (by assumption)))))))))) | exact off1_of (by (first | exact allLt_of (by assumption) | exact (by assumption) | exact (And.right (by assumption)) | exact (And.right (And.right (by assumption))) | exact (And.right (And.right (And.right (by assumption)))) | exact (And.right (And.right (And.right (And.right (by assumption))))) | exact (And.right (And.right (And.right (And.right (And.right (by assumption)))))) | exact (And.right (And.right (And.right (And.right (And.right (And.right (by assumption))))))) | exact (And.right (And.right (And.right (And.right (And.right (And.right (And.right (by assumption)))))))))) | exact (And.right (by assumption)) | exact (And.right (And.right (by assumption))) | exact (And.right (And.right (And.right (by assumption)))) | exact (And.right (And.right (And.right (And.right (by assumption))))) | exact (And.right (And.right (And.right (And.right (And.right (by assumption)))))) | exact (And.right (And.right (And.right (And.right (And.right (And.right (by assumption))))))) | exact (And.right (And.right (And.right (And.right (And.right (And.right (And.right (by assumption)))))))))
  case o4 => first | assumption | k_ne
  case o5 => first | assumption | k_ne
  case o6 => first | assumption | k_ne

end
section
def Stays (p : Addr × Obj) : Prop := (∀ ps, p.2 ≠ tabObj ps) ∧ ∀ v, p.2.data ≠ .cell v
def Ext (a b : List (Addr × Obj)) : Prop := ∀ p ∈ a, Stays p → p ∈ b
theorem ext_refl {l : List (Addr × Obj)} : Ext l l := fun _ h _ => h
theorem ext_trans {a b c : List (Addr × Obj)} (h : Ext a b) (k : Ext b c) : Ext a c := fun p hp h1 => k p (h p hp h1) h1
theorem ext_of {a b : List (Addr × Obj)} (h : ∀ p ∈ a, p ∈ b) : Ext a b := fun p hp _ => h p hp
theorem ext_of1 {a b : List (Addr × Obj)} {t : Addr} (h : ∀ p ∈ a, OffT t p → p ∈ b) : Ext a b := fun p hp h1 => h p hp (Or.inr h1.1)
theorem ext_cons {a b : List (Addr × Obj)} {q : Addr × Obj} (h : Ext a b) : Ext a (q :: b) := fun p hp h1 => List.mem_cons_of_mem _ (h p hp h1)
theorem ext_mem {a b : List (Addr × Obj)} {x : Addr} {o : Obj} (h : Ext a b) (hm : (x, o) ∈ a) (ho : ∀ ps, o ≠ tabObj ps) (hc : ∀ v, o.data ≠ .cell v) : (x, o) ∈ b := h _ hm ⟨ho, hc⟩
theorem ne_cons {n : Nat} {cs : List Int} (hn : n = 2 ∨ n = 4) (h : cs.length = n) : ∃ c r, cs = c :: r := by
  cases cs with
  | nil => simp at h; omega
  | cons c r => exact ⟨c, r, rfl⟩
theorem ints_cons {vs : List Value} {c : Int} {r : List Int} (h : IntsAre vs (c :: r)) : ∃ t vr, vs = .int c t :: vr ∧ IntsAre vr r := by
  cases h with | cons _ _ h => exact ⟨_, _, rfl, h⟩
theorem mulL_len {n : Nat} {q : Int} {a b : List Int} (hn : n = 2 ∨ n = 4) (ha : a.length = n) (hb : b.length = n) : (mulL q a b).length = n := by
  rcases hn with rfl | rfl
  · obtain ⟨a0, a1, rfl⟩ := len_two ha
    obtain ⟨b0, b1, rfl⟩ := len_two hb
    rfl
  · obtain ⟨a0, a1, a2, a3, rfl⟩ := len_four ha
    obtain ⟨b0, b1, b2, b3, rfl⟩ := len_four hb
    rfl
theorem IsRing.ext {w : World} {a b : List (Addr × Obj)} {r : Addr} {q n : Int} (h : IsRing w a r q n) (e : Ext a b) : IsRing w b r q n :=
  let ⟨dr, t1, t2, u1, u2, x, y⟩ := h.out; ⟨dr, t1, t2, u1, u2, ext_mem e x (fun _ e => by cases e) (fun _ e => by cases e), ext_mem e y (fun _ e => by cases e) (fun _ e => by cases e)⟩
theorem IsInts.ext {a b : List (Addr × Obj)} {l : Addr} {cs : List Int} (h : IsInts a l cs) (e : Ext a b) : IsInts b l cs :=
  let ⟨vs, n, x, y⟩ := h.out; ⟨vs, n, ext_mem e x (fun _ e => by cases e) (fun _ e => by cases e), y⟩
theorem IsPoly.ext {w : World} {a b : List (Addr × Obj)} {r x : Addr} {cs : List Int} (h : IsPoly w a r x cs) (e : Ext a b) : IsPoly w b r x cs :=
  let ⟨dx, lx, t1, t2, y, z, c⟩ := h.out; ⟨dx, lx, t1, t2, ext_mem e y (fun _ e => by cases e) (fun _ e => by cases e), ext_mem e z (fun _ e => by cases e) (fun _ e => by cases e), c.ext e⟩
structure Tabs (nx : List (Addr × Obj)) : Prop where
  z : ∃ pa, (86, tabObj pa) ∈ nx ∧ TriplesOk pa.toList
  c : ∃ pa, (93, tabObj pa) ∈ nx ∧ TriplesOk pa.toList
theorem Tabs.sub {a b : List (Addr × Obj)} (h : Tabs a) (k : ∀ p ∈ a, p ∈ b) : Tabs b :=
  let ⟨p, x, y⟩ := h.z; let ⟨q, u, v⟩ := h.c; ⟨⟨p, k _ x, y⟩, ⟨q, k _ u, v⟩⟩
theorem Tabs.of1 {a b : List (Addr × Obj)} {ps : Array Value} (h : Tabs a) (k : ∀ p ∈ a, OffT 86 p → p ∈ b) (m : (86, tabObj ps) ∈ b) (t : TriplesOk ps.toList) : Tabs b :=
  let ⟨q, u, v⟩ := h.c; ⟨⟨ps, m, t⟩, ⟨q, k _ u (Or.inl (show (93 : Addr) ≠ 86 from by decide)), v⟩⟩
theorem Tabs.of2 {a b : List (Addr × Obj)} {ps : Array Value} (h : Tabs a) (k : ∀ p ∈ a, OffT 93 p → p ∈ b) (m : (93, tabObj ps) ∈ b) (t : TriplesOk ps.toList) : Tabs b :=
  let ⟨q, u, v⟩ := h.z; ⟨⟨q, k _ u (Or.inl (show (86 : Addr) ≠ 93 from by decide)), v⟩, ⟨ps, m, t⟩⟩
/-- the cells' values -/
def Cells (cs : List (Addr × Option Value)) (nx : List (Addr × Obj)) : Prop := ∀ p ∈ cs, ∃ o, (p.1, o) ∈ nx ∧ o.data = .cell p.2
theorem Cells.sub {cs : List (Addr × Option Value)} {a b : List (Addr × Obj)} (h : Cells cs a) (k : ∀ p ∈ a, p ∈ b) : Cells cs b := fun p hp =>
  let ⟨o, x, y⟩ := h p hp; ⟨o, k _ x, y⟩
theorem Cells.of1 {cs : List (Addr × Option Value)} {a b : List (Addr × Obj)} {t : Addr} (h : Cells cs a) (k : ∀ p ∈ a, OffT t p → p ∈ b) : Cells cs b := fun p hp =>
  let ⟨o, x, y⟩ := h p hp; ⟨o, k _ x (off_cell y), y⟩
/-- locals written out over a letter -/
def lk : List (Str × Value) → (Str → Option Value) → Str → Option Value
  | [], m => m
  | (x, v) :: r, m => fun y => if y = x then some v else lk r m y
theorem lk_same : ∀ (vs : List (Str × Value)) {m : Str → Option Value}, (∀ p ∈ vs, m p.1 = some p.2) → lk vs m = m
  | [], _, _ => rfl
  | (x, v) :: r, m, h => by
    funext y
    show (if y = x then some v else lk r m y) = m y
    rw [lk_same r fun p hp => h p (List.mem_cons_of_mem _ hp)]
    split
    · rename_i e; subst e; exact (h _ List.mem_cons_self).symm
    · rfl
theorem fr_lk {h₀ h : Heap} {L : Addr} {m : Str → Option Value} (F : Fr h₀ L h m) (vs : List (Str × Value)) (hv : ∀ p ∈ vs, m p.1 = some p.2) : ∃ m0, Fr h₀ L h (lk vs m0) :=
  ⟨m, by rw [lk_same vs hv]; exact F⟩
/-- the law's state between two statements -/
structure St (h₀ : Heap) (L : Addr) (os0 : OsState) (vs : List (Str × Value)) (cs : List (Addr × Option Value)) (nx : List (Addr × Obj)) (s : Shared) : Prop where
  F : ∃ m0, Fr h₀ L s.heap (lk vs m0)
  N : News h₀ L s.heap nx
  T : Tabs nx
  C : Cells cs nx
  G : AllBare s.gens
  O : s.os = os0
def lawDef (p : Program) : List Stmt × Scope := match p.main.body.getLast? with
  | some (.FunctionDef _ _ b _ _ _ sc _ _ _) => (b, sc)
  | _ => ([], { kind := .function, names := [], isGenerator := false, isCoroutine := false, more := [] })
def stm (p : Program) (i : Nat) : Stmt := ((lawDef p).1.drop i).headD (.Pass ⟨0, 0, 0, 0⟩)
/-- how many twos (at most k) a number holds -/
def worthN : Nat → Int → Nat
  | 0, _ => 0
  | k + 1, N => if N % 2 = 0 then worthN k (N / 2) + 1 else 0
structure WorthInv (news : List (Addr × Obj)) (M : Int) (tm : Tok) (res : Int) (n : Nat) (m : Str → Option Value) (nx : List (Addr × Obj)) : Prop where
  out : ∃ (N W : Int) (tk tk' : Tok), m (Str.ofString "norm") = some (.int N tk) ∧ m (Str.ofString "worth") = some (.int W tk') ∧ m (Str.ofString "most") = some (.int M tm) ∧
    0 ≤ W ∧ W + worthN (M - W).toNat N = res ∧ (M - W).toNat = n ∧ ∀ p ∈ news, p ∈ nx
theorem worth_while {prog : Program} {w : World} {A : Around} {E : Value → Shared → Prop} {Q : Flow → Shared → Prop} {s : Shared} {env : Env} {h₀ : Heap} {L : Addr} {test : Expr} {body : List Stmt} {pos : Pos} {m : Str → Option Value} {news : List (Addr × Obj)}
    {N M : Int} {tk tk' tm : Tok}
    (F : Fr h₀ L s.heap m) (Nw : News h₀ L s.heap news)
    (hN : m (Str.ofString "norm") = some (.int N tk)) (hW : m (Str.ofString "worth") = some (.int 0 tk')) (hM : m (Str.ofString "most") = some (.int M tm))
    (turn : ∀ (N' W' : Int) (tk tk' : Tok) (m₀ : Str → Option Value) (nx : List (Addr × Obj)) h₁ tk₁, (∀ p ∈ news, p ∈ nx) → 0 ≤ W' → W' + worthN (M - W').toNat N' = worthN M.toNat N →
      Fr h₀ L h₁ (fun y => if y = Str.ofString "norm" then some (.int N' tk) else if y = Str.ofString "worth" then some (.int W' tk') else if y = Str.ofString "most" then some (.int M tm) else m₀ y) → News h₀ L h₁ nx →
      wpAny (model prog w) A (isTrue test env (eval test env)) (fun b s₂ =>
        if b = true then wpAny (model prog w) A (execs body env) (WhileStep2 h₀ L s (WorthInv news M tm (worthN M.toNat N)) Q (M - W').toNat) E s₂ else Q .next s₂) E { s with heap := h₁, toks := tk₁ })
    (hE : PassesOwn (model prog w) A env E) :
    wpAny (model prog w) A (exec (.While test body [] pos) env) Q E s := by
  refine While_inv2 (WorthInv news M tm (worthN M.toNat N)) (n₀ := M.toNat) F Nw ⟨N, 0, tk, tk', hN, hW, hM, Int.le_refl 0, by simp, by simp, fun _ h => h⟩ ?_ hE
  rintro n m₁ nx h₁ tk₁ F₁ N₁ ⟨N', W', t1, t2, i1, i2, i3, i4, i5, i6, i7⟩
  subst i6
  have e : lk [(Str.ofString "norm", .int N' t1), (Str.ofString "worth", .int W' t2), (Str.ofString "most", .int M tm)] m₁ = m₁ := lk_same _ (by simp [i1, i2, i3])
  rw [← e] at F₁
  exact turn N' W' t1 t2 m₁ nx h₁ tk₁ i7 i4 i5 F₁ N₁
theorem worth_more {M W N : Int} (h1 : W < M) (h2 : N.fmod 2 = 0) {res : Int} (e : W + worthN (M - W).toNat N = res) : W + 1 + worthN (M - (W + 1)).toNat (N.fdiv 2) = res := by
  rw [Int.fmod_eq_emod_of_nonneg _ (by decide)] at h2
  rw [Int.fdiv_eq_ediv_of_nonneg _ (by decide), ← e, show (M - W).toNat = (M - (W + 1)).toNat + 1 by omega, worthN, if_pos h2]
  omega
theorem worth_full {M W N : Int} (h1 : ¬ W < M) {res : Int} (e : W + worthN (M - W).toNat N = res) : W = res := by
  rw [← e, show (M - W).toNat = 0 by omega, worthN]; omega
theorem worth_odd {M W N : Int} (h2 : N.fmod 2 ≠ 0) {res : Int} (e : W + worthN (M - W).toNat N = res) : W = res := by
  rw [Int.fmod_eq_emod_of_nonneg _ (by decide)] at h2
  rw [← e]
  cases (M - W).toNat with
  | zero => simp [worthN]
  | succ k => rw [worthN, if_neg h2]; omega
theorem worth_end {h₀ : Heap} {L : Addr} {s : Shared} {Q : Flow → Shared → Prop} {news nx : List (Addr × Obj)} {M : Int} {tm : Tok} {res N W : Int} {k : Nat} {h' : Heap} {tk : Nat} {t1 t2 : Tok} {m' : Str → Option Value}
    (F' : Fr h₀ L h' m') (N' : News h₀ L h' nx) (hN : m' (Str.ofString "norm") = some (.int N t1)) (hW : m' (Str.ofString "worth") = some (.int W t2)) (hM : m' (Str.ofString "most") = some (.int M tm))
    (h0 : 0 ≤ W) (hk : (M - W).toNat < k) (e : W + worthN (M - W).toNat N = res) (sub : ∀ p ∈ news, p ∈ nx) :
    WhileStep2 h₀ L s (WorthInv news M tm res) Q k .next { s with heap := h', toks := tk } :=
  ⟨h', tk, m', nx, _, rfl, F', N', hk, ⟨N, W, t1, t2, hN, hW, hM, h0, e, rfl, sub⟩⟩
theorem Good.gen {q : Int} {n : Nat} (hq : 2 ≤ q) (hn : n = 2 ∨ n = 4) : Good q n (0 :: 1 :: List.replicate (n - 2) 0) := by
  rcases hn with rfl | rfl
  · refine ⟨rfl, (show ∀ c ∈ ([0, 1] : List Int), 0 ≤ c ∧ c < q from fun c hc => ?_)⟩
    simp only [List.mem_cons, List.not_mem_nil, or_false] at hc
    rcases hc with rfl | rfl <;> omega
  · refine ⟨rfl, (show ∀ c ∈ ([0, 1, 0, 0] : List Int), 0 ≤ c ∧ c < q from fun c hc => ?_)⟩
    simp only [List.mem_cons, List.not_mem_nil, or_false] at hc
    rcases hc with rfl | rfl | rfl | rfl <;> omega
theorem bits_good2 {q : Int} {n b : Nat} {cs : List Int} (h : Good q n cs) (hq : Builtin.Int.intBits q ≤ b) : ∀ c ∈ cs, Builtin.Int.intBits c ≤ b := bits_good hq h
theorem worthN_le : ∀ (k : Nat) (N : Int), worthN k N ≤ k
  | 0, _ => Nat.le_refl _
  | k + 1, N => by
    rw [worthN]
    split
    · exact Nat.succ_le_succ (worthN_le k _)
    · exact Nat.zero_le _
theorem fm_lo {x y : Int} (h : 0 < y) : 0 ≤ x.fmod y := by rw [Int.fmod_eq_emod_of_nonneg _ (by omega)]; exact Int.emod_nonneg _ (by omega)
theorem fm_hi {x y : Int} (h : 0 < y) : x.fmod y < y := by rw [Int.fmod_eq_emod_of_nonneg _ (by omega)]; exact Int.emod_lt_of_pos _ h
def n2 (x : Int) : Nat := if x.fmod 2 = 0 then 2 else 4
theorem n2_eq (x : Int) : 2 + x.fmod 2 * 2 = ((n2 x : Nat) : Int) := by
  have h1 := fm_lo (x := x) (y := 2) (by decide)
  have h2 := fm_hi (x := x) (y := 2) (by decide)
  unfold n2
  split
  · rename_i h; rw [h]; rfl
  · have : x.fmod 2 = 1 := by omega
    rw [this]; rfl
theorem n2_or (x : Int) : n2 x = 2 ∨ n2 x = 4 := by unfold n2; split; exact .inl rfl; exact .inr rfl
def CellsTo (cells : List (Addr × Option Value)) (c : Addr) (v : Value) (nx : List (Addr × Obj)) : Prop := ∀ cs', (∀ p ∈ cs', p = (c, some v) ∨ (p ∈ cells ∧ p.1 ≠ c)) → Cells cs' nx
theorem my_storeC {M : Model} {A : Around} {E : Value → Shared → Prop} {s : Shared} {h₀ : Heap} {L a : Addr} {m : Str → Option Value} {cn : Str} {cs : Scope} {ccd : Value} {cl : List (Str × Addr)} {x : Str} {v : Value} {v₀ : Option Value} {Q : Unit → Shared → Prop} {nx : List (Addr × Obj)} {cells : List (Addr × Option Value)} {c : Addr}
    (F : Fr h₀ L s.heap m) (N : News h₀ L s.heap nx) (TT : Tabs nx) (CC : Cells cells nx) (hc : cl.lookup x = some c) (hi : (c, v₀) ∈ cells)
    (h : ∀ h' nx', Fr h₀ L h' m → News h₀ L h' nx' → Tabs nx' → CellsTo cells c v nx' → Ext nx nx' → Q () { s with heap := h' })
    (hk : cs.kind = .function) (hx : (envX cn cs L a ccd cl).kindOf x = some .cell) : wpAny M A (storeName (envX cn cs L a ccd cl) x v) Q E s := by
  obtain ⟨o, hm, hd⟩ := CC _ hi
  dsimp only at hm hd
  have hmem := N _ hm
  refine wpAny_storeName_cell hk hx hc ⟨o, hmem.1, hd⟩ fun h' hv hs => ?_
  obtain ⟨o', ho', hd'⟩ := hv
  have keep : ∀ p ∈ nx, (∀ v, p.2.data ≠ .cell v) → p ∈ (c, o') :: nx.filter (fun p => p.1 != c) := fun p hp hn => by
    refine List.mem_cons_of_mem _ (List.mem_filter.mpr ⟨hp, ?_⟩)
    by_cases e : p.1 = c
    · have h1 := (N p hp).1
      rw [e, hmem.1] at h1
      have h2 : o = p.2 := Option.some.inj h1
      exact absurd hd (by rw [h2]; exact hn _)
    · simpa using e
  refine h h' ((c, o') :: nx.filter (fun p => p.1 != c)) ⟨F.ns.sameBut hs (Ne.symm hmem.2.1), fun b ob e => (hs.2 b (fun q => ?_)).trans (F.keep b ob e), F.above⟩ ?_ ?_ ?_ fun p hp h1 => keep p hp h1.2
  · rw [q, hmem.2.2] at e; cases e
  · intro p hp
    rcases List.mem_cons.mp hp with rfl | hp
    · exact ⟨ho', hmem.2⟩
    · obtain ⟨h1, h2⟩ := List.mem_filter.mp hp
      exact ⟨(hs.2 p.1 (by simpa using h2)).trans (N p h1).1, (N p h1).2⟩
  · obtain ⟨⟨pa, h1, h2⟩, ⟨pc, h3, h4⟩⟩ := TT
    exact ⟨⟨pa, keep _ h1 (fun _ e => by cases e), h2⟩, ⟨pc, keep _ h3 (fun _ e => by cases e), h4⟩⟩
  · intro cs' hcs p hp
    rcases hcs p hp with rfl | ⟨h1, h2⟩
    · exact ⟨o', List.mem_cons_self, hd'⟩
    · obtain ⟨o2, h3, h4⟩ := CC p h1
      exact ⟨o2, List.mem_cons_of_mem _ (List.mem_filter.mpr ⟨h3, by simpa using h2⟩), h4⟩
theorem most_ok {n : Nat} (hn : n = 2 ∨ n = 4) (x : Int) : ∃ kk : Nat, 1 ≤ kk ∧ (n : Int) * (1 + x.fmod ((12 : Int).fdiv n)) = ((n * kk : Nat) : Int) ∧ n * kk ≤ 12 := by
  have h : 0 < (12 : Int).fdiv n ∧ (n : Int) * (12 : Int).fdiv n ≤ 12 := by rcases hn with rfl | rfl <;> decide
  have h1 := fm_lo (x := x) h.1
  have h2 := fm_hi (x := x) h.1
  refine ⟨(1 + x.fmod ((12 : Int).fdiv n)).toNat, by omega, ?_, ?_⟩
  · rw [Int.natCast_mul, Int.toNat_of_nonneg (by omega)]
  · have : (n : Int) * (1 + x.fmod ((12 : Int).fdiv n)) ≤ 12 := by
      refine Int.le_trans ?_ h.2
      exact Int.mul_le_mul_of_nonneg_left (by omega) (by omega)
    rw [← Int.ofNat_le, Int.natCast_mul, Int.toNat_of_nonneg (by omega)]
    exact this
theorem fd12 {n : Nat} (hn : n = 2 ∨ n = 4) : (12 : Int).fdiv n ≠ 0 := by rcases hn with rfl | rfl <;> decide
theorem fdk {n kk : Nat} (hn : n = 2 ∨ n = 4) : ((n * kk : Nat) : Int).fdiv n = kk := by
  rw [Int.natCast_mul, Int.mul_comm, Int.mul_fdiv_cancel _ (by omega)]
theorem pow2_nonneg (k : Nat) : 0 ≤ (2 : Int) ^ k - 1 := by
  have : 0 < (2 : Int) ^ k := Int.pow_pos (by decide)
  omega
theorem Good.fmap {q : Int} {n : Nat} (hq : 2 ≤ q) {l : List Int} (h : (l.map fun k' => k'.fmod q).length = n) : Good q n (l.map fun k' => k'.fmod q) :=
  ⟨h, fun c hc => by obtain ⟨a, _, rfl⟩ := List.mem_map.mp hc; exact ⟨fm_lo (by omega), fm_hi (by omega)⟩⟩
theorem cut_len1 {q : Int} {n : Nat} {ns : List Int} (h : ns.length = 12) (hn : n = 2 ∨ n = 4) : ((List.take (min (4 + (n : Int)).toNat ns.length - 4) (List.drop 4 ns)).map fun k' => k'.fmod q).length = n := by
  rw [List.length_map, List.length_take, List.length_drop, h]
  rcases hn with rfl | rfl <;> rfl
theorem cut_len2 {q : Int} {n : Nat} {ns : List Int} (h : ns.length = 12) (hn : n = 2 ∨ n = 4) : ((List.take (min (4 + 2 * (n : Int)).toNat ns.length - (4 + (n : Int)).toNat) (List.drop (4 + (n : Int)).toNat ns)).map fun k' => k'.fmod q).length = n := by
  rw [List.length_map, List.length_take, List.length_drop, h]
  rcases hn with rfl | rfl <;> rfl
theorem p4_int {a b : Nat} (h : (a = 0 ∧ b ≠ 0) ∨ (a ≠ 0 ∧ b = 0)) : ((a : Int) = 0 ∧ (b : Int) ≠ 0) ∨ ((a : Int) ≠ 0 ∧ (b : Int) = 0) := by omega
theorem menu8 (x : Int) : [3, 5, 7, 17, 257, 7681, 12289, (8380417 : Int)].getD (x.fmod 8).toNat 0 ∈ [3, 5, 7, 17, 257, 7681, 12289, (8380417 : Int)] := by
  have h1 := fm_lo (x := x) (y := 8) (by decide)
  have h2 := fm_hi (x := x) (y := 8) (by decide)
  have h3 : (x.fmod 8).toNat < 8 := by omega
  generalize (x.fmod 8).toNat = i at h3
  revert i
  decide
theorem cut_len6 {q : Int} {n : Nat} {ns : List Int} (h : ns.length = 6) (hn : n = 2 ∨ n = 4) : ((List.take (min (2 + (n : Int)).toNat ns.length - 2) (List.drop 2 ns)).map fun k' => k'.fmod q).length = n := by
  rw [List.length_map, List.length_take, List.length_drop, h]
  rcases hn with rfl | rfl <;> rfl
theorem addI_fmod {q v c : Int} {r : List Int} (hq : 2 ≤ q) : (c + v).fmod q :: r = addI q v (c :: r) := by rw [addI, Int.fmod_eq_emod_of_nonneg _ (by omega)]
theorem subI_fmod {q v c : Int} {r : List Int} (hq : 2 ≤ q) : (c - v).fmod q :: r = subI q v (c :: r) := by rw [subI, Int.fmod_eq_emod_of_nonneg _ (by omega)]
theorem negL_fmod {q : Int} {cs : List Int} (hq : 2 ≤ q) : cs.map (fun k' => (-k').fmod q) = negL q cs := by
  refine List.map_congr_left fun c _ => Int.fmod_eq_emod_of_nonneg _ (by omega)
theorem mulI_fmod {q v : Int} {cs : List Int} (hq : 2 ≤ q) : cs.map (fun k' => (k' * v).fmod q) = mulI q v cs := by
  refine List.map_congr_left fun c _ => Int.fmod_eq_emod_of_nonneg _ (by omega)

end
section
theorem G_school {A : Around} {env : Env} {outer : List Env} {A₀ : Around} {base h₀ : Heap} {L : Addr} {m : Str → Option Value} {news : List (Addr × Obj)} {s : Shared}
    {w : World} {p : Program} {loose : List Str} {mean : ExcName → Option Value} {mg mb : Str → Option Value} {R : Result → Shared → Prop}
    (hA : A.frames = some (env :: outer)) (hH : A.handled = none) (hd : A.depth ≤ 500) (hu : A.units ≤ 500)
    (B : Below A₀ base outer h₀) (F : Fr h₀ L s.heap m) (X : (Mine.hd.heap_1 w.params).In h₀) (N : News h₀ L s.heap news) (T : Top p loose mean mg mb h₀)
    (hf : env.frame = some L) (hke : env.scope.kind = .function)
    {n : Nat} (hn : n = 2 ∨ n = 4) {x y r : Addr} {q : Int} {cs ds : List Int} (hr : IsRing w news r q n) (hx : IsPoly w news r x cs) (hy : IsPoly w news r y ds)
    (hq : 2 ≤ q) (hqb : Builtin.Int.intBits q ≤ 100) (hcs : Good q n cs) (hds : Good q n ds)
    (ret : ∀ l nx h' tk', Fr h₀ L h' m → News h₀ L h' nx → (∀ p ∈ news, p ∈ nx) → IsInts nx l (mulL q cs ds) → R (.ok (.ret (.ref l))) { s with heap := h', toks := tk' }) :
    codeAny (model PySem.Challenge.rw_ay0009_03.row.prog w) A (.call (.ref 129) ⟨[.ref x, .ref y], []⟩) R s := by
  rcases hn with rfl | rfl
  · obtain ⟨a0, a1, rfl⟩ := hcs.two
    obtain ⟨b0, b1, rfl⟩ := hds.two
    exact C_school2 hA hH hd hu B F X N T hf hke hr hx hy hq (bits_red hqb (hcs.red a0 (by simp))) (bits_red hqb (hcs.red a1 (by simp))) (bits_red hqb (hds.red b0 (by simp))) (bits_red hqb (hds.red b1 (by simp))) (fun l h' tk' vs n' F' N' hi _ => ret l _ h' tk' F' N' (fun p hp => List.mem_cons_of_mem _ hp) ⟨⟨vs, n', List.mem_cons_self, hi⟩⟩)
  · obtain ⟨a0, a1, a2, a3, rfl⟩ := hcs.four
    obtain ⟨b0, b1, b2, b3, rfl⟩ := hds.four
    exact C_school4 hA hH hd hu B F X N T hf hke hr hx hy hq (bits_red hqb (hcs.red a0 (by simp))) (bits_red hqb (hcs.red a1 (by simp))) (bits_red hqb (hcs.red a2 (by simp))) (bits_red hqb (hcs.red a3 (by simp))) (bits_red hqb (hds.red b0 (by simp))) (bits_red hqb (hds.red b1 (by simp))) (bits_red hqb (hds.red b2 (by simp))) (bits_red hqb (hds.red b3 (by simp))) (fun l h' tk' vs n' F' N' hi _ => ret l _ h' tk' F' N' (fun p hp => List.mem_cons_of_mem _ hp) ⟨⟨vs, n', List.mem_cons_self, hi⟩⟩)
theorem G_rcall {A : Around} {env : Env} {outer : List Env} {A₀ : Around} {base h₀ : Heap} {L : Addr} {m : Str → Option Value} {news : List (Addr × Obj)} {s : Shared}
    {w : World} {p : Program} {loose : List Str} {mean : ExcName → Option Value} {mg mb : Str → Option Value} {R : Result → Shared → Prop}
    (hA : A.frames = some (env :: outer)) (hH : A.handled = none) (hd : A.depth ≤ 600) (hu : A.units ≤ 600)
    (B : Below A₀ base outer h₀) (F : Fr h₀ L s.heap m) (X : (Mine.hd.heap_1 w.params).In h₀) (N : News h₀ L s.heap news) (T : Top p loose mean mg mb h₀)
    (hf : env.frame = some L) (hke : env.scope.kind = .function)
    {n : Nat} (hn : n = 2 ∨ n = 4) {l r : Addr} {q : Int} {cs : List Int} (hr : IsRing w news r q n) (hl : IsInts news l cs) (hcs : cs.length = n)
    (ret : ∀ x' nx h' tk', Fr h₀ L h' m → News h₀ L h' nx → (∀ p ∈ news, p ∈ nx) → IsPoly w nx r x' (cs) → R (.ok (.ret (.ref x'))) { s with heap := h', toks := tk' }) :
    codeAny (model PySem.Challenge.rw_ay0009_03.row.prog w) A (.call (.ref 56) ⟨[.ref r, .ref l], []⟩) R s := by
  rcases hn with rfl | rfl
  · obtain ⟨a, b, rfl⟩ := len_two hcs
    exact C_rcall2 hA hH hd hu B F X N T hf hke hr hl (fun x' dx h' tk' t1 t2 F' N' _ _ => ret x' _ h' tk' F' N' (fun p hp => List.mem_cons_of_mem _ (List.mem_cons_of_mem _ hp)) ⟨⟨dx, l, t1, t2, List.mem_cons_self, List.mem_cons_of_mem _ List.mem_cons_self, hl.mono fun p hp => List.mem_cons_of_mem _ (List.mem_cons_of_mem _ hp)⟩⟩)
  · obtain ⟨a, b, d, e, rfl⟩ := len_four hcs
    exact C_rcall4 hA hH hd hu B F X N T hf hke hr hl (fun x' dx h' tk' t1 t2 F' N' _ _ => ret x' _ h' tk' F' N' (fun p hp => List.mem_cons_of_mem _ (List.mem_cons_of_mem _ hp)) ⟨⟨dx, l, t1, t2, List.mem_cons_self, List.mem_cons_of_mem _ List.mem_cons_self, hl.mono fun p hp => List.mem_cons_of_mem _ (List.mem_cons_of_mem _ hp)⟩⟩)
theorem G_rcallI {A : Around} {env : Env} {outer : List Env} {A₀ : Around} {base h₀ : Heap} {L : Addr} {m : Str → Option Value} {news : List (Addr × Obj)} {s : Shared}
    {w : World} {p : Program} {loose : List Str} {mean : ExcName → Option Value} {mg mb : Str → Option Value} {R : Result → Shared → Prop}
    (hA : A.frames = some (env :: outer)) (hH : A.handled = none) (hd : A.depth ≤ 600) (hu : A.units ≤ 600)
    (B : Below A₀ base outer h₀) (F : Fr h₀ L s.heap m) (X : (Mine.hd.heap_1 w.params).In h₀) (N : News h₀ L s.heap news) (T : Top p loose mean mg mb h₀)
    (hf : env.frame = some L) (hke : env.scope.kind = .function)
    {n : Nat} (hn : n = 2 ∨ n = 4)
    {r : Addr} {q v : Int} {u : Tok} (hr : IsRing w news r q n)
    (ret : ∀ x' nx h' tk', Fr h₀ L h' m → News h₀ L h' nx → (∀ p ∈ news, p ∈ nx) → IsPoly w nx r x' (v :: List.replicate (n - 1) 0) → R (.ok (.ret (.ref x'))) { s with heap := h', toks := tk' }) :
    codeAny (model PySem.Challenge.rw_ay0009_03.row.prog w) A (.call (.ref 56) ⟨[.ref r, .int v u], []⟩) R s := by
  rcases hn with rfl | rfl
  · exact C_rcallI2 hA hH hd hu B F X N T hf hke hr (fun x' dx l h' tk' t1 t2 vs n' F' N' hi _ _ _ _ => ret x' _ h' tk' F' N' (fun p hp => List.mem_cons_of_mem _ (List.mem_cons_of_mem _ (List.mem_cons_of_mem _ hp))) ⟨⟨dx, l, t1, t2, List.mem_cons_self, List.mem_cons_of_mem _ List.mem_cons_self, ⟨⟨vs, n', List.mem_cons_of_mem _ (List.mem_cons_of_mem _ List.mem_cons_self), hi⟩⟩⟩⟩)
  · exact C_rcallI4 hA hH hd hu B F X N T hf hke hr (fun x' dx l h' tk' t1 t2 vs n' F' N' hi _ _ _ _ => ret x' _ h' tk' F' N' (fun p hp => List.mem_cons_of_mem _ (List.mem_cons_of_mem _ (List.mem_cons_of_mem _ hp))) ⟨⟨dx, l, t1, t2, List.mem_cons_self, List.mem_cons_of_mem _ List.mem_cons_self, ⟨⟨vs, n', List.mem_cons_of_mem _ (List.mem_cons_of_mem _ List.mem_cons_self), hi⟩⟩⟩⟩)
theorem G_norm {A : Around} {env : Env} {outer : List Env} {A₀ : Around} {base h₀ : Heap} {L : Addr} {m : Str → Option Value} {news : List (Addr × Obj)} {s : Shared}
    {w : World} {p : Program} {loose : List Str} {mean : ExcName → Option Value} {mg mb : Str → Option Value} {R : Result → Shared → Prop}
    (hA : A.frames = some (env :: outer)) (hH : A.handled = none) (hd : A.depth ≤ 500) (hu : A.units ≤ 500)
    (B : Below A₀ base outer h₀) (F : Fr h₀ L s.heap m) (X : (Mine.hd.heap_1 w.params).In h₀) (N : News h₀ L s.heap news) (T : Top p loose mean mg mb h₀)
    (hf : env.frame = some L) (hke : env.scope.kind = .function)
    {n : Nat} (hn : n = 2 ∨ n = 4)
    {l : Addr} {cs : List Int} (hl : IsInts news l cs) (hlen : cs.length = n) (hbs : ∀ c ∈ cs, Builtin.Int.intBits c ≤ 100)
    (ret : ∀ h' tk' tk, Fr h₀ L h' m → News h₀ L h' news → R (.ok (.ret (.int (normL cs) tk))) { s with heap := h', toks := tk' }) :
    codeAny (model PySem.Challenge.rw_ay0009_03.row.prog w) A (.call (.ref 238) ⟨[.ref l], []⟩) R s := by
  rcases hn with rfl | rfl
  · exact C_norm2 hA hH hd hu B F X N T hf hke hl hlen hbs ret
  · exact C_norm4 hA hH hd hu B F X N T hf hke hl hlen hbs ret
theorem G_rgen {A : Around} {env : Env} {outer : List Env} {A₀ : Around} {base h₀ : Heap} {L : Addr} {m : Str → Option Value} {news : List (Addr × Obj)} {s : Shared}
    {w : World} {p : Program} {loose : List Str} {mean : ExcName → Option Value} {mg mb : Str → Option Value} {R : Result → Shared → Prop}
    (hA : A.frames = some (env :: outer)) (hH : A.handled = none) (hd : A.depth ≤ 550) (hu : A.units ≤ 550)
    (B : Below A₀ base outer h₀) (F : Fr h₀ L s.heap m) (X : (Mine.hd.heap_1 w.params).In h₀) (N : News h₀ L s.heap news) (T : Top p loose mean mg mb h₀)
    (hf : env.frame = some L) (hke : env.scope.kind = .function)
    {n : Nat} (hn : n = 2 ∨ n = 4)
    {r : Addr} {q : Int} (hr : IsRing w news r q n)
    (ret : ∀ x' nx h' tk', Fr h₀ L h' m → News h₀ L h' nx → (∀ p ∈ news, p ∈ nx) → IsPoly w nx r x' (0 :: 1 :: List.replicate (n - 2) 0) → R (.ok (.ret (.ref x'))) { s with heap := h', toks := tk' }) :
    codeAny (model PySem.Challenge.rw_ay0009_03.row.prog w) A (.call (.ref 49) ⟨[.ref r], []⟩) R s := by
  rcases hn with rfl | rfl
  · exact C_rgen2 hA hH hd hu B F X N T hf hke hr (fun x' dx l h' tk' t1 t2 vs n' F' N' hi _ _ _ _ => ret x' _ h' tk' F' N' (fun p hp => List.mem_cons_of_mem _ (List.mem_cons_of_mem _ (List.mem_cons_of_mem _ hp))) ⟨⟨dx, l, t1, t2, List.mem_cons_self, List.mem_cons_of_mem _ List.mem_cons_self, ⟨⟨vs, n', List.mem_cons_of_mem _ (List.mem_cons_of_mem _ List.mem_cons_self), hi⟩⟩⟩⟩)
  · exact C_rgen4 hA hH hd hu B F X N T hf hke hr (fun x' dx l h' tk' t1 t2 vs n' F' N' hi _ _ _ _ => ret x' _ h' tk' F' N' (fun p hp => List.mem_cons_of_mem _ (List.mem_cons_of_mem _ (List.mem_cons_of_mem _ hp))) ⟨⟨dx, l, t1, t2, List.mem_cons_self, List.mem_cons_of_mem _ List.mem_cons_self, ⟨⟨vs, n', List.mem_cons_of_mem _ (List.mem_cons_of_mem _ List.mem_cons_self), hi⟩⟩⟩⟩)
theorem G_isc {A : Around} {env : Env} {outer : List Env} {A₀ : Around} {base h₀ : Heap} {L : Addr} {m : Str → Option Value} {news : List (Addr × Obj)} {s : Shared}
    {w : World} {p : Program} {loose : List Str} {mean : ExcName → Option Value} {mg mb : Str → Option Value} {R : Result → Shared → Prop}
    (hA : A.frames = some (env :: outer)) (hH : A.handled = none) (hd : A.depth ≤ 500) (hu : A.units ≤ 500)
    (B : Below A₀ base outer h₀) (F : Fr h₀ L s.heap m) (X : (Mine.hd.heap_1 w.params).In h₀) (N : News h₀ L s.heap news) (T : Top p loose mean mg mb h₀)
    (hf : env.frame = some L) (hke : env.scope.kind = .function)
    {n : Nat} (hn : n = 2 ∨ n = 4)
    {x r : Addr} {cs : List Int} {ps : Array Value} (hx : IsPoly w news r x cs) (hlen : cs.length = n) (ht : (93, tabObj ps) ∈ news) (htr : TriplesOk ps.toList) (hG : AllBare s.gens)
    (ret : ∀ nx s' ps', Fr h₀ L s'.heap m → News h₀ L s'.heap nx → (93, tabObj ps') ∈ nx → TriplesOk ps'.toList → (∀ p ∈ news, OffT 93 p → p ∈ nx) → AllBare s'.gens → s'.os = s.os → R (.ok (.ret (.bool (cs.tail.all (· == 0))))) s') :
    codeAny (model PySem.Challenge.rw_ay0009_03.row.prog w) A (.call (.ref 98) ⟨[.ref x], []⟩) R s := by
  rcases hn with rfl | rfl
  · exact C_isc2 hA hH hd hu B F X N T hf hke hx hlen ht htr hG ret
  · exact C_isc4 hA hH hd hu B F X N T hf hke hx hlen ht htr hG ret

end
section
local macro_rules | `(tactic| walk_at "call builtin:list.copy") => `(tactic| (k_here; (with_reducible show wpAny _ _ (call (Value.builtin _) [Value.ref _]) _ _ _); k_dflt (refine' my_copy ?F ?N ?l ?_ ?z; (case F => k_asm); (case N => k_asm); (case l => is_list); (case z => first | exact Nat.le_of_ble_eq_true rfl | with_reducible assumption); k_whole); intro D' h' F' N' l1; (try k_lt l1); (try k_sweep)))
local macro_rules | `(tactic| ktr_rel) => `(tactic| first | (with_reducible assumption) | (with_reducible exact List.mem_cons_self) | (refine' List.mem_cons_of_mem _ ?_; ktr_rel) | (refine' sub_mem (by with_reducible assumption) ?_; ktr_rel) | (refine' subT_mem (by with_reducible assumption) ?k9 ?o9; (case k9 => ktr_rel); (case o9 => kwd_inv)))
local macro_rules | `(tactic| k_mem) => `(tactic| ktr_rel)
local macro_rules | `(tactic| walk_at "CompEnd") => `(tactic| (k_here; (rename News _ _ _ _ => hN9); (rename Fr _ _ _ _ => hF9); (refine LCg.CompEnd.intro hF9 hN9 _ (fun _ h => h) ?off ?hS ?_); (case off => first | assumption | ((simp only [LCg.Off3, and_true]); first | done | assumption)); (case hS => k_dflt lcg_src); (try dsimp only [List.nil_append, List.cons_append]); walk_say "COMPEND"))
local macro_rules | `(tactic| walk_at "storeName") => `(tactic| (k_here; k_dflt (refine' my_storeC ?F ?N ?T ?C ?c ?i ?_ ?a ?b; (case a => rfl); (case b => rfl); (case F => k_asm); (case N => k_asm); (case T => (repeat (first | with_reducible assumption | refine Tabs.sub ?_ (by with_reducible assumption) | refine Tabs.of1 ?_ (by with_reducible assumption) (by with_reducible assumption) (by with_reducible assumption) | refine Tabs.of2 ?_ (by with_reducible assumption) (by with_reducible assumption) (by with_reducible assumption) | refine Tabs.sub ?_ (fun p hp => List.mem_cons_of_mem _ hp)))); (case C => (repeat (first | with_reducible assumption | exact Cells.sub (by with_reducible assumption) (fun p hp => List.mem_cons_of_mem _ hp) | exact Cells.sub (by with_reducible assumption) (fun p hp => List.mem_cons_of_mem _ (List.mem_cons_of_mem _ hp)) | exact Cells.sub (by with_reducible assumption) (fun p hp => List.mem_cons_of_mem _ (List.mem_cons_of_mem _ (List.mem_cons_of_mem _ hp))) | exact Cells.sub (by with_reducible assumption) (fun p hp => List.mem_cons_of_mem _ (List.mem_cons_of_mem _ (List.mem_cons_of_mem _ (List.mem_cons_of_mem _ hp)))) | refine Cells.sub ?_ (by with_reducible assumption) | refine Cells.of1 ?_ (by with_reducible assumption) | refine Cells.sub ?_ (fun p hp => List.mem_cons_of_mem _ hp)))); (case c => rfl); (case i => first | exact List.mem_cons_self | exact List.mem_cons_of_mem _ List.mem_cons_self | exact List.mem_cons_of_mem _ (List.mem_cons_of_mem _ List.mem_cons_self) | exact List.mem_cons_of_mem _ (List.mem_cons_of_mem _ (List.mem_cons_of_mem _ List.mem_cons_self))); k_whole); intro h8 nx8 F8 N8 T8 C8 X8; (try k_sweep); walk_say "STOREC"))
local macro_rules | `(tactic| kwd_inv) => `(tactic| (first | exact off_cell (by with_reducible assumption) | exact Or.inr (fun _ e => by cases e) | exact Or.inl (by decide)))
local macro_rules | `(tactic| kst_mem) => `(tactic| (first | with_reducible assumption | assumption | exact IntsAre.nil | exact .cons _ _ .nil | exact .cons _ _ (.cons _ _ .nil) | exact .cons _ _ (.cons _ _ (.cons _ _ .nil)) | exact .cons _ _ (.cons _ _ (.cons _ _ (.cons _ _ .nil))) | exact .cons _ _ (by with_reducible assumption)))
local macro_rules | `(tactic| ktd_rel) => `(tactic| (first | with_reducible assumption | exact IsRing.mono (by with_reducible assumption) (by (repeat (first | with_reducible assumption | exact sub_refl | exact fun _ h => h | refine sub_skip ?_ | refine sub_trans2 (by with_reducible assumption) ?_))) | exact ⟨⟨_, _, _, _, _, by k_mem, by k_mem⟩⟩))
local macro_rules | `(tactic| kwd_rel) => `(tactic| (first | with_reducible assumption | exact IsInts.mono (by with_reducible assumption) (by (repeat (first | with_reducible assumption | exact sub_refl | exact fun _ h => h | refine sub_skip ?_ | refine sub_trans2 (by with_reducible assumption) ?_))) | exact ⟨⟨_, _, by k_mem, by kst_mem⟩⟩ | exact IsInts.ext ⟨⟨_, _, by k_mem, by kst_mem⟩⟩ (by with_reducible assumption)))
local macro_rules | `(tactic| tb_start) => `(tactic| (first | with_reducible assumption | exact IsPoly.mono (by with_reducible assumption) (by (repeat (first | with_reducible assumption | exact sub_refl | exact fun _ h => h | refine sub_skip ?_ | refine sub_trans2 (by with_reducible assumption) ?_))) | exact ⟨⟨_, _, _, _, by k_mem, by k_mem, ⟨⟨_, _, by k_mem, by kst_mem⟩⟩⟩⟩))
local macro_rules | `(tactic| tb_rel) => `(tactic| (first | with_reducible assumption | exact Good.mul (by assumption) (by assumption) (by tb_rel) (by tb_rel) | exact Good.subI (by assumption) (by tb_rel) | exact Good.addI (by assumption) (by tb_rel) | exact Good.neg (by assumption) (by tb_rel) | exact Good.mulI (by assumption) (by tb_rel) | exact Good.addL (by assumption) (by tb_rel) (by tb_rel) | exact Good.one (by assumption) (by assumption) | exact Good.pow (by assumption) (by assumption) (by tb_rel)))
local macro_rules | `(tactic| kst_p) => `(tactic| (first | with_reducible assumption | exact Good.len (by with_reducible assumption) | ((have h97 : _ ∨ _ := (by assumption : _ = 2 ∨ _ = 4)); (simp only [List.length_map, List.length_take, List.length_drop]); omega)))
local macro_rules | `(tactic| walk_at "call ref") => `(tactic| (k_here; (with_reducible show wpAny _ _ (call (Value.ref 129) _ _) _ _ _); (try dsimp only [List.cons_append, List.nil_append]); (with_reducible show wpAny _ _ (call (Value.ref 129) [Value.ref _, Value.ref _]) _ _ _); refine wpAny_call ?_; k_dflt (refine' G_school ?hA ?hH ?hd ?hu ?B ?F ?X ?N ?T ?hf ?hke ?hn ?hr ?hx ?hy ?hq ?hqb ?hcs ?hds ?_; (case hA => exact rfl); (case hH => exact rfl); (case hd => kwd_less); (case hu => kwd_less); (case B => k_asm); (case F => k_asm); (case X => k_asm); (case N => k_asm); (case T => k_asm); (case hf => exact rfl); (case hke => first | exact rfl | assumption); (case hn => assumption); (case hr => ktd_rel); (case hx => tb_start); (case hy => tb_start); (case hq => assumption); (case hqb => assumption); (case hcs => assumption); (case hds => assumption); k_whole); intro l9 nx9 h9 tk9 F9 N9 hk9 hi9; (have hi9' := hi9.out; obtain ⟨vs9, n9, hx91, hx92⟩ := hi9'); (try dsimp only); (try k_sweep); walk_say "USED G_school"))
local macro_rules | `(tactic| walk_at "call ref") => `(tactic| (k_here; (try dsimp only [List.cons_append, List.nil_append]); (with_reducible show wpAny _ _ (call (Value.ref _) [Value.ref _]) _ _ _); refine wpAny_call ?_; k_dflt (refine' kco_code (C := 66) (f := 56) (K := Mine.hd.heap_1 _) ?kX ?kI ?kD ?k1 ?k2 ?k3 ?_; (case kX => k_in); (case kI => k_inst); (case kD => exact rfl); (case k1 => k_is); (case k2 => k_is); (case k3 => k_is)); k_dflt (refine' G_rcall ?hA ?hH ?hd ?hu ?B ?F ?X ?N ?T ?hf ?hke ?hn ?hr ?hl ?hcs ?_; (case hA => exact rfl); (case hH => exact rfl); (case hd => kwd_less); (case hu => kwd_less); (case B => k_asm); (case F => k_asm); (case X => k_asm); (case N => k_asm); (case T => k_asm); (case hf => exact rfl); (case hke => first | exact rfl | assumption); (case hn => assumption); (case hr => ktd_rel); (case hl => kwd_rel); (case hcs => kst_p); k_whole); intro x9 nx9 h9 tk9 F9 N9 hk9 hp9; (have hp9' := hp9.at_; obtain ⟨dx9, lx9, t91, t92, vx9, n9, hx91, hx92, hx93, hx94⟩ := hp9'); (try dsimp only); (try dsimp only [PySem.W.CmpBack]); (try k_sweep); walk_say "USED G_rcall"))
set_option maxRecDepth 100000 in
set_option maxHeartbeats 8000000 in
theorem G_mul {A : Around} {env : Env} {outer : List Env} {A₀ : Around} {base h₀ : Heap} {L : Addr} {m : Str → Option Value} {news : List (Addr × Obj)} {s : Shared}
    {w : World} {p : Program} {loose : List Str} {mean : ExcName → Option Value} {mg mb : Str → Option Value} {R : Result → Shared → Prop}
    (hA : A.frames = some (env :: outer)) (hH : A.handled = none) (hd : A.depth ≤ 450) (hu : A.units ≤ 450)
    (B : Below A₀ base outer h₀) (F : Fr h₀ L s.heap m) (X : (Mine.hd.heap_1 w.params).In h₀) (N : News h₀ L s.heap news) (T : Top p loose mean mg mb h₀)
    (hf : env.frame = some L) (hke : env.scope.kind = .function)
    {n : Nat} (hn : n = 2 ∨ n = 4)
    {x y r : Addr} {q : Int} {cs ds : List Int} (hr : IsRing w news r q n) (hx : IsPoly w news r x cs) (hy : IsPoly w news r y ds) (hq : 2 ≤ q) (hqb : Builtin.Int.intBits q ≤ 100) (hcs : Good q n cs) (hds : Good q n ds)
    (ret : ∀ x' nx h' tk', Fr h₀ L h' m → News h₀ L h' nx → (∀ p ∈ news, p ∈ nx) → IsPoly w nx r x' (mulL q cs ds) → R (.ok (.ret (.ref x'))) { s with heap := h', toks := tk' }) :
    codeAny (model PySem.Challenge.rw_ay0009_03.row.prog w) A (.call (.ref 191) ⟨[.ref x, .ref y], []⟩) R s := by
  have hr' := hr.out
  obtain ⟨dr, t1, t2, u1, u2, hr1, hr2⟩ := hr'
  have hhx := hx.at_
  obtain ⟨dx, lx, t3x, t4x, vx, nx, hx1, hx2, hx3, hx4⟩ := hhx
  have hhy := hy.at_
  obtain ⟨dy, ly, t3y, t4y, vy, ny, hy1, hy2, hy3, hy4⟩ := hhy
  have hml := mulL_len (q := q) hn hcs.len hds.len

  refine codeAny_ar hA hH hd hu ?_
  revert X
  k_fill
  intro X
  k_dflt (refine' code_defC ?k1 ?k2 ?k3 ?k4 ?k5 ?kA ?kF ?kK ?k6 ?k7 ?k8 ?k9 ?kB ?kD ?_ ?c2 ?c3 ?c4; (case kA => exact rfl); (case kF => assumption); (case kK => assumption); (case k1 => k_asm); (case k2 => k_asm); (case k3 => k_asm); (case k4 => k_asm); (case k5 => k_asm); (case k6 => k_is); (case k7 => k_is); (case k8 => k_room); (case k9 => first | exact BindsTo.of_eq rfl | exact binds_K (by k_in) rfl (by k_is) rfl rfl rfl | fail "no rule for these arguments"); (case kB => exact rfl); (case kD => decide +kernel); (case c2 => exact rfl); (case c3 => exact rfl); (case c4 => exact rfl); k_whole; intro g' L' h' tk' cells' FG' F' N' Y' B' X' T' l1; (try k_lt l1); k_cells Y'; (try simp only [List.cons_append, List.nil_append] at N'); (try dsimp only); (try k_lift B'); (try k_fold))
  k_steps
  (all_goals (try k_data))
  refine' ret _ _ _ _ (by k_asm) (by k_asm) ?zs ?zp
  case zs => (repeat (first | with_reducible assumption | exact sub_refl | exact fun _ h => h | refine sub_skip ?_ | refine sub_trans2 (by with_reducible assumption) ?_))
  case zp => tb_start

end
section
local macro_rules | `(tactic| walk_at "call builtin:list.copy") => `(tactic| (k_here; (with_reducible show wpAny _ _ (call (Value.builtin _) [Value.ref _]) _ _ _); k_dflt (refine' my_copy ?F ?N ?l ?_ ?z; (case F => k_asm); (case N => k_asm); (case l => is_list); (case z => first | exact Nat.le_of_ble_eq_true rfl | with_reducible assumption); k_whole); intro D' h' F' N' l1; (try k_lt l1); (try k_sweep)))
local macro_rules | `(tactic| ktr_rel) => `(tactic| first | (with_reducible assumption) | (with_reducible exact List.mem_cons_self) | (refine' List.mem_cons_of_mem _ ?_; ktr_rel) | (refine' sub_mem (by with_reducible assumption) ?_; ktr_rel) | (refine' subT_mem (by with_reducible assumption) ?k9 ?o9; (case k9 => ktr_rel); (case o9 => kwd_inv)))
local macro_rules | `(tactic| k_mem) => `(tactic| ktr_rel)
local macro_rules | `(tactic| walk_at "CompEnd") => `(tactic| (k_here; (rename News _ _ _ _ => hN9); (rename Fr _ _ _ _ => hF9); (refine LCg.CompEnd.intro hF9 hN9 _ (fun _ h => h) ?off ?hS ?_); (case off => first | assumption | ((simp only [LCg.Off3, and_true]); first | done | assumption)); (case hS => k_dflt lcg_src); (try dsimp only [List.nil_append, List.cons_append]); walk_say "COMPEND"))
local macro_rules | `(tactic| walk_at "storeName") => `(tactic| (k_here; k_dflt (refine' my_storeC ?F ?N ?T ?C ?c ?i ?_ ?a ?b; (case a => rfl); (case b => rfl); (case F => k_asm); (case N => k_asm); (case T => (repeat (first | with_reducible assumption | refine Tabs.sub ?_ (by with_reducible assumption) | refine Tabs.of1 ?_ (by with_reducible assumption) (by with_reducible assumption) (by with_reducible assumption) | refine Tabs.of2 ?_ (by with_reducible assumption) (by with_reducible assumption) (by with_reducible assumption) | refine Tabs.sub ?_ (fun p hp => List.mem_cons_of_mem _ hp)))); (case C => (repeat (first | with_reducible assumption | exact Cells.sub (by with_reducible assumption) (fun p hp => List.mem_cons_of_mem _ hp) | exact Cells.sub (by with_reducible assumption) (fun p hp => List.mem_cons_of_mem _ (List.mem_cons_of_mem _ hp)) | exact Cells.sub (by with_reducible assumption) (fun p hp => List.mem_cons_of_mem _ (List.mem_cons_of_mem _ (List.mem_cons_of_mem _ hp))) | exact Cells.sub (by with_reducible assumption) (fun p hp => List.mem_cons_of_mem _ (List.mem_cons_of_mem _ (List.mem_cons_of_mem _ (List.mem_cons_of_mem _ hp)))) | refine Cells.sub ?_ (by with_reducible assumption) | refine Cells.of1 ?_ (by with_reducible assumption) | refine Cells.sub ?_ (fun p hp => List.mem_cons_of_mem _ hp)))); (case c => rfl); (case i => first | exact List.mem_cons_self | exact List.mem_cons_of_mem _ List.mem_cons_self | exact List.mem_cons_of_mem _ (List.mem_cons_of_mem _ List.mem_cons_self) | exact List.mem_cons_of_mem _ (List.mem_cons_of_mem _ (List.mem_cons_of_mem _ List.mem_cons_self))); k_whole); intro h8 nx8 F8 N8 T8 C8 X8; (try k_sweep); walk_say "STOREC"))
local macro_rules | `(tactic| kwd_inv) => `(tactic| (first | exact off_cell (by with_reducible assumption) | exact Or.inr (fun _ e => by cases e) | exact Or.inl (by decide)))
local macro_rules | `(tactic| kst_mem) => `(tactic| (first | with_reducible assumption | assumption | exact IntsAre.nil | exact .cons _ _ .nil | exact .cons _ _ (.cons _ _ .nil) | exact .cons _ _ (.cons _ _ (.cons _ _ .nil)) | exact .cons _ _ (.cons _ _ (.cons _ _ (.cons _ _ .nil))) | exact .cons _ _ (by with_reducible assumption)))
local macro_rules | `(tactic| ktd_rel) => `(tactic| (first | with_reducible assumption | exact IsRing.mono (by with_reducible assumption) (by (repeat (first | with_reducible assumption | exact sub_refl | exact fun _ h => h | refine sub_skip ?_ | refine sub_trans2 (by with_reducible assumption) ?_))) | exact ⟨⟨_, _, _, _, _, by k_mem, by k_mem⟩⟩))
local macro_rules | `(tactic| kwd_rel) => `(tactic| (first | with_reducible assumption | exact IsInts.mono (by with_reducible assumption) (by (repeat (first | with_reducible assumption | exact sub_refl | exact fun _ h => h | refine sub_skip ?_ | refine sub_trans2 (by with_reducible assumption) ?_))) | exact ⟨⟨_, _, by k_mem, by kst_mem⟩⟩ | exact IsInts.ext ⟨⟨_, _, by k_mem, by kst_mem⟩⟩ (by with_reducible assumption)))
local macro_rules | `(tactic| tb_start) => `(tactic| (first | with_reducible assumption | exact IsPoly.mono (by with_reducible assumption) (by (repeat (first | with_reducible assumption | exact sub_refl | exact fun _ h => h | refine sub_skip ?_ | refine sub_trans2 (by with_reducible assumption) ?_))) | exact ⟨⟨_, _, _, _, by k_mem, by k_mem, ⟨⟨_, _, by k_mem, by kst_mem⟩⟩⟩⟩))
local macro_rules | `(tactic| tb_rel) => `(tactic| (first | with_reducible assumption | exact Good.mul (by assumption) (by assumption) (by tb_rel) (by tb_rel) | exact Good.subI (by assumption) (by tb_rel) | exact Good.addI (by assumption) (by tb_rel) | exact Good.neg (by assumption) (by tb_rel) | exact Good.mulI (by assumption) (by tb_rel) | exact Good.addL (by assumption) (by tb_rel) (by tb_rel) | exact Good.one (by assumption) (by assumption) | exact Good.pow (by assumption) (by assumption) (by tb_rel)))
local macro_rules | `(tactic| kst_p) => `(tactic| (first | with_reducible assumption | exact Good.len (by with_reducible assumption) | ((have h97 : _ ∨ _ := (by assumption : _ = 2 ∨ _ = 4)); (simp only [List.length_map, List.length_take, List.length_drop]); omega)))
local macro_rules | `(tactic| walk_at "call ref") => `(tactic| (k_here; (with_reducible show wpAny _ _ (call (Value.ref 238) _ _) _ _ _); (try dsimp only [List.cons_append, List.nil_append]); (with_reducible show wpAny _ _ (call (Value.ref 238) [Value.ref _]) _ _ _); refine wpAny_call ?_; k_dflt (refine' G_norm ?hA ?hH ?hd ?hu ?B ?F ?X ?N ?T ?hf ?hke ?hn ?hl ?hlen ?hbs ?_; (case hA => exact rfl); (case hH => exact rfl); (case hd => kwd_less); (case hu => kwd_less); (case B => k_asm); (case F => k_asm); (case X => k_asm); (case N => k_asm); (case T => k_asm); (case hf => exact rfl); (case hke => first | exact rfl | assumption); (case hn => assumption); (case hl => kwd_rel); (case hlen => first | with_reducible assumption | exact Good.len (by tb_rel)); (case hbs => first | with_reducible assumption | exact bits_good2 (by tb_rel) (by assumption)); k_whole); intro h9 tk9 t9 F9 N9; (try dsimp only); (try k_sweep); walk_say "USED G_norm"))
local macro_rules | `(tactic| walk_at "exec While") => `(tactic| (k_here; k_dflt (refine' worth_while ?F ?N ?hN ?hW ?hM ?_ ?hE; (case F => k_asm); (case N => k_asm); (case hN => exact rfl); (case hW => exact rfl); (case hM => exact rfl); (case hE => passes_own); k_whole); intro n8 w8 tk81 tk82 m8 nx8 h8 tk83 hs8 hw8 e8 F8' N8'; (try k_sweep); walk_say "WORTHWHILE"))
local macro_rules | `(tactic| walk_at "WhileStep2 next") => `(tactic| (k_here; k_dflt (refine' worth_end ?F ?N ?hN ?hW ?hM ?h0 ?hk ?e ?sub; (case F => k_asm); (case N => k_asm); (case hN => exact rfl); (case hW => exact rfl); (case hM => exact rfl); (case h0 => omega); (case hk => omega); (case e => exact worth_more (by assumption) (by assumption) (by assumption)); (case sub => first | assumption | exact sub_trans (by assumption) (by (repeat (first | exact sub_refl | exact fun _ h => h | refine sub_skip ?_))))); walk_say "WORTHEND"))
set_option maxRecDepth 100000 in
set_option maxHeartbeats 8000000 in
theorem G_worth {A : Around} {env : Env} {outer : List Env} {A₀ : Around} {base h₀ : Heap} {L : Addr} {m : Str → Option Value} {news : List (Addr × Obj)} {s : Shared}
    {w : World} {p : Program} {loose : List Str} {mean : ExcName → Option Value} {mg mb : Str → Option Value} {R : Result → Shared → Prop}
    (hA : A.frames = some (env :: outer)) (hH : A.handled = none) (hd : A.depth ≤ 450) (hu : A.units ≤ 450)
    (B : Below A₀ base outer h₀) (F : Fr h₀ L s.heap m) (X : (Mine.hd.heap_1 w.params).In h₀) (N : News h₀ L s.heap news) (T : Top p loose mean mg mb h₀)
    (hf : env.frame = some L) (hke : env.scope.kind = .function)
    {n : Nat} (hn : n = 2 ∨ n = 4)
    {x r : Addr} {M : Int} {u : Tok} {cs : List Int} (hx : IsPoly w news r x cs) (hlen : cs.length = n) (hbs : ∀ c ∈ cs, Builtin.Int.intBits c ≤ 100) (hM : 0 ≤ M)
    (ret : ∀ h' tk' tk, Fr h₀ L h' m → News h₀ L h' news → R (.ok (.ret (.int (worthN M.toNat (normL cs)) tk))) { s with heap := h', toks := tk' }) :
    codeAny (model PySem.Challenge.rw_ay0009_03.row.prog w) A (.call (.ref 245) ⟨[.ref x, .int M u], []⟩) R s := by
  have hhx := hx.at_
  obtain ⟨dx, lx, t3x, t4x, vx, nx, hx1, hx2, hx3, hx4⟩ := hhx

  refine codeAny_ar hA hH hd hu ?_
  revert X
  k_fill
  intro X
  k_dflt (refine' code_def ?k1 ?k2 ?k3 ?k4 ?k5 ?kA ?kF ?kK ?k6 ?k7 ?k8 ?k9 ?kB ?_ ?c2 ?c3 ?c4 ?c5; (case kA => exact rfl); (case kF => assumption); (case kK => assumption); (case k1 => k_asm); (case k2 => k_asm); (case k3 => k_asm); (case k4 => k_asm); (case k5 => k_asm); (case k6 => k_is); (case k7 => k_is); (case k8 => k_room); (case k9 => first | exact BindsTo.of_eq rfl | exact binds_K (by k_in) rfl (by k_is) rfl rfl rfl | fail "no rule for these arguments"); (case c5 => decide); (case kB => exact locs rfl); (case c2 => exact rfl); (case c3 => exact rfl); (case c4 => exact rfl); k_whole; intro g' L' h' FG' F' N' B' X' T'; (try dsimp only); (try k_lift B'); (try k_fold))
  k_steps
  (all_goals (try k_data))
  all_goals (refine' int_cast9 (ret _ _ _ (by k_asm) (news_sub (by k_asm) ?_)) ?_)
  all_goals first | (first | assumption | exact sub_trans2 (by assumption) (by (repeat (first | exact sub_refl | exact fun _ h => h | refine sub_skip ?_)))) | (first | exact (worth_full (by assumption) (by assumption)).symm | exact (worth_odd (by assumption) (by assumption)).symm)

end
section
local macro_rules | `(tactic| walk_at "call builtin:list.copy") => `(tactic| (k_here; (with_reducible show wpAny _ _ (call (Value.builtin _) [Value.ref _]) _ _ _); k_dflt (refine' my_copy ?F ?N ?l ?_ ?z; (case F => k_asm); (case N => k_asm); (case l => is_list); (case z => first | exact Nat.le_of_ble_eq_true rfl | with_reducible assumption); k_whole); intro D' h' F' N' l1; (try k_lt l1); (try k_sweep)))
local macro_rules | `(tactic| ktr_rel) => `(tactic| first | (with_reducible assumption) | (with_reducible exact List.mem_cons_self) | (refine' List.mem_cons_of_mem _ ?_; ktr_rel) | (refine' sub_mem (by with_reducible assumption) ?_; ktr_rel) | (refine' subT_mem (by with_reducible assumption) ?k9 ?o9; (case k9 => ktr_rel); (case o9 => kwd_inv)))
local macro_rules | `(tactic| k_mem) => `(tactic| ktr_rel)
local macro_rules | `(tactic| walk_at "CompEnd") => `(tactic| (k_here; (rename News _ _ _ _ => hN9); (rename Fr _ _ _ _ => hF9); (refine LCg.CompEnd.intro hF9 hN9 _ (fun _ h => h) ?off ?hS ?_); (case off => first | assumption | ((simp only [LCg.Off3, and_true]); first | done | assumption)); (case hS => k_dflt lcg_src); (try dsimp only [List.nil_append, List.cons_append]); walk_say "COMPEND"))
local macro_rules | `(tactic| walk_at "storeName") => `(tactic| (k_here; k_dflt (refine' my_storeC ?F ?N ?T ?C ?c ?i ?_ ?a ?b; (case a => rfl); (case b => rfl); (case F => k_asm); (case N => k_asm); (case T => (repeat (first | with_reducible assumption | refine Tabs.sub ?_ (by with_reducible assumption) | refine Tabs.of1 ?_ (by with_reducible assumption) (by with_reducible assumption) (by with_reducible assumption) | refine Tabs.of2 ?_ (by with_reducible assumption) (by with_reducible assumption) (by with_reducible assumption) | refine Tabs.sub ?_ (fun p hp => List.mem_cons_of_mem _ hp)))); (case C => (repeat (first | with_reducible assumption | exact Cells.sub (by with_reducible assumption) (fun p hp => List.mem_cons_of_mem _ hp) | exact Cells.sub (by with_reducible assumption) (fun p hp => List.mem_cons_of_mem _ (List.mem_cons_of_mem _ hp)) | exact Cells.sub (by with_reducible assumption) (fun p hp => List.mem_cons_of_mem _ (List.mem_cons_of_mem _ (List.mem_cons_of_mem _ hp))) | exact Cells.sub (by with_reducible assumption) (fun p hp => List.mem_cons_of_mem _ (List.mem_cons_of_mem _ (List.mem_cons_of_mem _ (List.mem_cons_of_mem _ hp)))) | refine Cells.sub ?_ (by with_reducible assumption) | refine Cells.of1 ?_ (by with_reducible assumption) | refine Cells.sub ?_ (fun p hp => List.mem_cons_of_mem _ hp)))); (case c => rfl); (case i => first | exact List.mem_cons_self | exact List.mem_cons_of_mem _ List.mem_cons_self | exact List.mem_cons_of_mem _ (List.mem_cons_of_mem _ List.mem_cons_self) | exact List.mem_cons_of_mem _ (List.mem_cons_of_mem _ (List.mem_cons_of_mem _ List.mem_cons_self))); k_whole); intro h8 nx8 F8 N8 T8 C8 X8; (try k_sweep); walk_say "STOREC"))
local macro_rules | `(tactic| kwd_inv) => `(tactic| (first | exact off_cell (by with_reducible assumption) | exact Or.inr (fun _ e => by cases e) | exact Or.inl (by decide)))
local macro_rules | `(tactic| kst_mem) => `(tactic| (first | with_reducible assumption | assumption | exact IntsAre.nil | exact .cons _ _ .nil | exact .cons _ _ (.cons _ _ .nil) | exact .cons _ _ (.cons _ _ (.cons _ _ .nil)) | exact .cons _ _ (.cons _ _ (.cons _ _ (.cons _ _ .nil))) | exact .cons _ _ (by with_reducible assumption)))
local macro_rules | `(tactic| ktd_rel) => `(tactic| (first | with_reducible assumption | exact IsRing.mono (by with_reducible assumption) (by (repeat (first | with_reducible assumption | exact sub_refl | exact fun _ h => h | refine sub_skip ?_ | refine sub_trans2 (by with_reducible assumption) ?_))) | exact ⟨⟨_, _, _, _, _, by k_mem, by k_mem⟩⟩))
local macro_rules | `(tactic| kwd_rel) => `(tactic| (first | with_reducible assumption | exact IsInts.mono (by with_reducible assumption) (by (repeat (first | with_reducible assumption | exact sub_refl | exact fun _ h => h | refine sub_skip ?_ | refine sub_trans2 (by with_reducible assumption) ?_))) | exact ⟨⟨_, _, by k_mem, by kst_mem⟩⟩ | exact IsInts.ext ⟨⟨_, _, by k_mem, by kst_mem⟩⟩ (by with_reducible assumption)))
local macro_rules | `(tactic| tb_start) => `(tactic| (first | with_reducible assumption | exact IsPoly.mono (by with_reducible assumption) (by (repeat (first | with_reducible assumption | exact sub_refl | exact fun _ h => h | refine sub_skip ?_ | refine sub_trans2 (by with_reducible assumption) ?_))) | exact ⟨⟨_, _, _, _, by k_mem, by k_mem, ⟨⟨_, _, by k_mem, by kst_mem⟩⟩⟩⟩))
local macro_rules | `(tactic| tb_rel) => `(tactic| (first | with_reducible assumption | exact Good.mul (by assumption) (by assumption) (by tb_rel) (by tb_rel) | exact Good.subI (by assumption) (by tb_rel) | exact Good.addI (by assumption) (by tb_rel) | exact Good.neg (by assumption) (by tb_rel) | exact Good.mulI (by assumption) (by tb_rel) | exact Good.addL (by assumption) (by tb_rel) (by tb_rel) | exact Good.one (by assumption) (by assumption) | exact Good.pow (by assumption) (by assumption) (by tb_rel)))
local macro_rules | `(tactic| kst_p) => `(tactic| (first | with_reducible assumption | exact Good.len (by with_reducible assumption) | ((have h97 : _ ∨ _ := (by assumption : _ = 2 ∨ _ = 4)); (simp only [List.length_map, List.length_take, List.length_drop]); omega)))
local macro_rules | `(tactic| walk_at "call ref") => `(tactic| (k_here; (try dsimp only [List.cons_append, List.nil_append]); (with_reducible show wpAny _ _ (call (Value.ref _) [Value.ref _]) _ _ _); refine wpAny_call ?_; k_dflt (refine' kco_code (C := 66) (f := 56) (K := Mine.hd.heap_1 _) ?kX ?kI ?kD ?k1 ?k2 ?k3 ?_; (case kX => k_in); (case kI => k_inst); (case kD => exact rfl); (case k1 => k_is); (case k2 => k_is); (case k3 => k_is)); k_dflt (refine' G_rcall ?hA ?hH ?hd ?hu ?B ?F ?X ?N ?T ?hf ?hke ?hn ?hr ?hl ?hcs ?_; (case hA => exact rfl); (case hH => exact rfl); (case hd => kwd_less); (case hu => kwd_less); (case B => k_asm); (case F => k_asm); (case X => k_asm); (case N => k_asm); (case T => k_asm); (case hf => exact rfl); (case hke => first | exact rfl | assumption); (case hn => assumption); (case hr => ktd_rel); (case hl => kwd_rel); (case hcs => kst_p); k_whole); intro x9 nx9 h9 tk9 F9 N9 hk9 hp9; (have hp9' := hp9.at_; obtain ⟨dx9, lx9, t91, t92, vx9, n9, hx91, hx92, hx93, hx94⟩ := hp9'); (try dsimp only); (try dsimp only [PySem.W.CmpBack]); (try k_sweep); walk_say "USED G_rcall"))
set_option maxRecDepth 100000 in
set_option maxHeartbeats 8000000 in
theorem G_addI {A : Around} {env : Env} {outer : List Env} {A₀ : Around} {base h₀ : Heap} {L : Addr} {m : Str → Option Value} {news : List (Addr × Obj)} {s : Shared}
    {w : World} {p : Program} {loose : List Str} {mean : ExcName → Option Value} {mg mb : Str → Option Value} {R : Result → Shared → Prop}
    (hA : A.frames = some (env :: outer)) (hH : A.handled = none) (hd : A.depth ≤ 450) (hu : A.units ≤ 450)
    (B : Below A₀ base outer h₀) (F : Fr h₀ L s.heap m) (X : (Mine.hd.heap_1 w.params).In h₀) (N : News h₀ L s.heap news) (T : Top p loose mean mg mb h₀)
    (hf : env.frame = some L) (hke : env.scope.kind = .function)
    {n : Nat} (hn : n = 2 ∨ n = 4)
    {x r : Addr} {q v : Int} {u : Tok} {cs : List Int} (hr : IsRing w news r q n) (hx : IsPoly w news r x cs) (hq : 2 ≤ q) (hqb : Builtin.Int.intBits q ≤ 100) (hcs : Good q n cs) (hvb : Builtin.Int.intBits v ≤ 100)
    (ret : ∀ x' nx h' tk', Fr h₀ L h' m → News h₀ L h' nx → (∀ p ∈ news, p ∈ nx) → IsPoly w nx r x' (addI q v cs) → R (.ok (.ret (.ref x'))) { s with heap := h', toks := tk' }) :
    codeAny (model PySem.Challenge.rw_ay0009_03.row.prog w) A (.call (.ref 146) ⟨[.ref x, .int v u], []⟩) R s := by
  obtain ⟨c0, cr, e⟩ := ne_cons hn hcs.len
  subst e
  have hhx := hx.at_
  obtain ⟨dx, lx, t3x, t4x, vx, nx, hx1, hx2, hx3, hx4⟩ := hhx
  obtain ⟨px0, vr, e, hxr⟩ := ints_cons hx4
  subst e
  replace N := news_cons hx3 N
  have hba0 := bits_red hqb (hcs.red c0 (by simp))
  have hza0 := hcs.red c0 (by simp)
  have hlen0 : (c0 :: cr).length = n := hcs.len
  have hvr : vr.length ≤ 3 := by
    have h1 := hxr.length
    have h2 := hcs.len
    rw [List.length_cons] at h2
    omega
  have hsz9 : (Value.int c0 px0 :: vr).length ≤ sizeLine := Nat.le_trans (Nat.succ_le_succ hvr) (Nat.le_of_ble_eq_true rfl)
  have hr' := hr.out
  obtain ⟨dr, t1, t2, u1, u2, hr1, hr2⟩ := hr'

  refine codeAny_ar hA hH hd hu ?_
  revert X
  k_fill
  intro X
  k_dflt (refine' code_def ?k1 ?k2 ?k3 ?k4 ?k5 ?kA ?kF ?kK ?k6 ?k7 ?k8 ?k9 ?kB ?_ ?c2 ?c3 ?c4 ?c5; (case kA => exact rfl); (case kF => assumption); (case kK => assumption); (case k1 => k_asm); (case k2 => k_asm); (case k3 => k_asm); (case k4 => k_asm); (case k5 => k_asm); (case k6 => k_is); (case k7 => k_is); (case k8 => k_room); (case k9 => first | exact BindsTo.of_eq rfl | exact binds_K (by k_in) rfl (by k_is) rfl rfl rfl | fail "no rule for these arguments"); (case c5 => decide); (case kB => exact locs rfl); (case c2 => exact rfl); (case c3 => exact rfl); (case c4 => exact rfl); k_whole; intro g' L' h' FG' F' N' B' X' T'; (try dsimp only); (try k_lift B'); (try k_fold))
  k_steps
  (all_goals (try k_data))
  refine' ret _ _ _ _ (by k_asm) (by k_asm) ?zs ?zp
  case zs => (repeat (first | with_reducible assumption | exact sub_refl | exact fun _ h => h | refine sub_skip ?_ | refine sub_trans2 (by with_reducible assumption) ?_))
  case zp => exact IsPoly.cast (by tb_start) (addI_fmod (by assumption))

end
section
local macro_rules | `(tactic| walk_at "call builtin:list.copy") => `(tactic| (k_here; (with_reducible show wpAny _ _ (call (Value.builtin _) [Value.ref _]) _ _ _); k_dflt (refine' my_copy ?F ?N ?l ?_ ?z; (case F => k_asm); (case N => k_asm); (case l => is_list); (case z => first | exact Nat.le_of_ble_eq_true rfl | with_reducible assumption); k_whole); intro D' h' F' N' l1; (try k_lt l1); (try k_sweep)))
local macro_rules | `(tactic| ktr_rel) => `(tactic| first | (with_reducible assumption) | (with_reducible exact List.mem_cons_self) | (refine' List.mem_cons_of_mem _ ?_; ktr_rel) | (refine' sub_mem (by with_reducible assumption) ?_; ktr_rel) | (refine' subT_mem (by with_reducible assumption) ?k9 ?o9; (case k9 => ktr_rel); (case o9 => kwd_inv)))
local macro_rules | `(tactic| k_mem) => `(tactic| ktr_rel)
local macro_rules | `(tactic| walk_at "CompEnd") => `(tactic| (k_here; (rename News _ _ _ _ => hN9); (rename Fr _ _ _ _ => hF9); (refine LCg.CompEnd.intro hF9 hN9 _ (fun _ h => h) ?off ?hS ?_); (case off => first | assumption | ((simp only [LCg.Off3, and_true]); first | done | assumption)); (case hS => k_dflt lcg_src); (try dsimp only [List.nil_append, List.cons_append]); walk_say "COMPEND"))
local macro_rules | `(tactic| walk_at "storeName") => `(tactic| (k_here; k_dflt (refine' my_storeC ?F ?N ?T ?C ?c ?i ?_ ?a ?b; (case a => rfl); (case b => rfl); (case F => k_asm); (case N => k_asm); (case T => (repeat (first | with_reducible assumption | refine Tabs.sub ?_ (by with_reducible assumption) | refine Tabs.of1 ?_ (by with_reducible assumption) (by with_reducible assumption) (by with_reducible assumption) | refine Tabs.of2 ?_ (by with_reducible assumption) (by with_reducible assumption) (by with_reducible assumption) | refine Tabs.sub ?_ (fun p hp => List.mem_cons_of_mem _ hp)))); (case C => (repeat (first | with_reducible assumption | exact Cells.sub (by with_reducible assumption) (fun p hp => List.mem_cons_of_mem _ hp) | exact Cells.sub (by with_reducible assumption) (fun p hp => List.mem_cons_of_mem _ (List.mem_cons_of_mem _ hp)) | exact Cells.sub (by with_reducible assumption) (fun p hp => List.mem_cons_of_mem _ (List.mem_cons_of_mem _ (List.mem_cons_of_mem _ hp))) | exact Cells.sub (by with_reducible assumption) (fun p hp => List.mem_cons_of_mem _ (List.mem_cons_of_mem _ (List.mem_cons_of_mem _ (List.mem_cons_of_mem _ hp)))) | refine Cells.sub ?_ (by with_reducible assumption) | refine Cells.of1 ?_ (by with_reducible assumption) | refine Cells.sub ?_ (fun p hp => List.mem_cons_of_mem _ hp)))); (case c => rfl); (case i => first | exact List.mem_cons_self | exact List.mem_cons_of_mem _ List.mem_cons_self | exact List.mem_cons_of_mem _ (List.mem_cons_of_mem _ List.mem_cons_self) | exact List.mem_cons_of_mem _ (List.mem_cons_of_mem _ (List.mem_cons_of_mem _ List.mem_cons_self))); k_whole); intro h8 nx8 F8 N8 T8 C8 X8; (try k_sweep); walk_say "STOREC"))
local macro_rules | `(tactic| kwd_inv) => `(tactic| (first | exact off_cell (by with_reducible assumption) | exact Or.inr (fun _ e => by cases e) | exact Or.inl (by decide)))
local macro_rules | `(tactic| kst_mem) => `(tactic| (first | with_reducible assumption | assumption | exact IntsAre.nil | exact .cons _ _ .nil | exact .cons _ _ (.cons _ _ .nil) | exact .cons _ _ (.cons _ _ (.cons _ _ .nil)) | exact .cons _ _ (.cons _ _ (.cons _ _ (.cons _ _ .nil))) | exact .cons _ _ (by with_reducible assumption)))
local macro_rules | `(tactic| ktd_rel) => `(tactic| (first | with_reducible assumption | exact IsRing.mono (by with_reducible assumption) (by (repeat (first | with_reducible assumption | exact sub_refl | exact fun _ h => h | refine sub_skip ?_ | refine sub_trans2 (by with_reducible assumption) ?_))) | exact ⟨⟨_, _, _, _, _, by k_mem, by k_mem⟩⟩))
local macro_rules | `(tactic| kwd_rel) => `(tactic| (first | with_reducible assumption | exact IsInts.mono (by with_reducible assumption) (by (repeat (first | with_reducible assumption | exact sub_refl | exact fun _ h => h | refine sub_skip ?_ | refine sub_trans2 (by with_reducible assumption) ?_))) | exact ⟨⟨_, _, by k_mem, by kst_mem⟩⟩ | exact IsInts.ext ⟨⟨_, _, by k_mem, by kst_mem⟩⟩ (by with_reducible assumption)))
local macro_rules | `(tactic| tb_start) => `(tactic| (first | with_reducible assumption | exact IsPoly.mono (by with_reducible assumption) (by (repeat (first | with_reducible assumption | exact sub_refl | exact fun _ h => h | refine sub_skip ?_ | refine sub_trans2 (by with_reducible assumption) ?_))) | exact ⟨⟨_, _, _, _, by k_mem, by k_mem, ⟨⟨_, _, by k_mem, by kst_mem⟩⟩⟩⟩))
local macro_rules | `(tactic| tb_rel) => `(tactic| (first | with_reducible assumption | exact Good.mul (by assumption) (by assumption) (by tb_rel) (by tb_rel) | exact Good.subI (by assumption) (by tb_rel) | exact Good.addI (by assumption) (by tb_rel) | exact Good.neg (by assumption) (by tb_rel) | exact Good.mulI (by assumption) (by tb_rel) | exact Good.addL (by assumption) (by tb_rel) (by tb_rel) | exact Good.one (by assumption) (by assumption) | exact Good.pow (by assumption) (by assumption) (by tb_rel)))
local macro_rules | `(tactic| kst_p) => `(tactic| (first | with_reducible assumption | exact Good.len (by with_reducible assumption) | ((have h97 : _ ∨ _ := (by assumption : _ = 2 ∨ _ = 4)); (simp only [List.length_map, List.length_take, List.length_drop]); omega)))
local macro_rules | `(tactic| walk_at "call ref") => `(tactic| (k_here; (with_reducible show wpAny _ _ (call (Value.ref 98) _ _) _ _ _); (try dsimp only [List.cons_append, List.nil_append]); (with_reducible show wpAny _ _ (call (Value.ref 98) [Value.ref _]) _ _ _); refine wpAny_call ?_; k_dflt (refine' G_isc ?hA ?hH ?hd ?hu ?B ?F ?X ?N ?T ?hf ?hke ?hn ?hx ?hlen ?ht ?htr ?hG ?_; (case hA => exact rfl); (case hH => exact rfl); (case hd => kwd_less); (case hu => kwd_less); (case B => k_asm); (case F => k_asm); (case X => k_asm); (case N => k_asm); (case T => k_asm); (case hf => exact rfl); (case hke => first | exact rfl | assumption); (case hn => assumption); (case hx => tb_start); (case hlen => exact Good.len (by tb_rel)); (case ht => k_mem); (case htr => k_asm); (case hG => k_asm); k_whole); intro nx9 s9 ps9 F9 N9 ht9 htr9 hk9 hG9 hos9; (try dsimp only); (try dsimp only [PySem.W.CmpBack]); (try k_sweep); walk_say "USED G_isc"))
local macro_rules | `(tactic| walk_at "zz none") => `(tactic| fail)
set_option maxRecDepth 100000 in
set_option maxHeartbeats 8000000 in
theorem G_eqI {A : Around} {env : Env} {outer : List Env} {A₀ : Around} {base h₀ : Heap} {L : Addr} {m : Str → Option Value} {news : List (Addr × Obj)} {s : Shared}
    {w : World} {p : Program} {loose : List Str} {mean : ExcName → Option Value} {mg mb : Str → Option Value} {R : Result → Shared → Prop}
    (hA : A.frames = some (env :: outer)) (hH : A.handled = none) (hd : A.depth ≤ 420) (hu : A.units ≤ 420)
    (B : Below A₀ base outer h₀) (F : Fr h₀ L s.heap m) (X : (Mine.hd.heap_1 w.params).In h₀) (N : News h₀ L s.heap news) (T : Top p loose mean mg mb h₀)
    (hf : env.frame = some L) (hke : env.scope.kind = .function)
    {n : Nat} (hn : n = 2 ∨ n = 4)
    {x r : Addr} {q v : Int} {u : Tok} {cs : List Int} {ps : Array Value} (hr : IsRing w news r q n) (hx : IsPoly w news r x cs) (hq : 2 ≤ q) (hqb : Builtin.Int.intBits q ≤ 100) (hcs : Good q n cs) (hvb : Builtin.Int.intBits v ≤ 100) (ht : (93, tabObj ps) ∈ news) (htr : TriplesOk ps.toList) (hG : AllBare s.gens)
    (ret : ∀ nx s' ps', Fr h₀ L s'.heap m → News h₀ L s'.heap nx → (93, tabObj ps') ∈ nx → TriplesOk ps'.toList → (∀ p ∈ news, OffT 93 p → p ∈ nx) → AllBare s'.gens → s'.os = s.os → R (.ok (.ret (.bool (eqI q v cs)))) s') :
    codeAny (model PySem.Challenge.rw_ay0009_03.row.prog w) A (.call (.ref 219) ⟨[.ref x, .int v u], []⟩) R s := by
  obtain ⟨c0, cr, e⟩ := ne_cons hn hcs.len
  subst e
  have hhx := hx.at_
  obtain ⟨dx, lx, t3x, t4x, vx, nx, hx1, hx2, hx3, hx4⟩ := hhx
  obtain ⟨px0, vr, e, hxr⟩ := ints_cons hx4
  subst e
  replace N := news_cons hx3 N
  have hba0 := bits_red hqb (hcs.red c0 (by simp))
  have hza0 := hcs.red c0 (by simp)
  have hr' := hr.out
  obtain ⟨dr, t1, t2, u1, u2, hr1, hr2⟩ := hr'

  refine codeAny_ar hA hH hd hu ?_
  revert X
  k_fill
  intro X
  k_dflt (refine' code_def ?k1 ?k2 ?k3 ?k4 ?k5 ?kA ?kF ?kK ?k6 ?k7 ?k8 ?k9 ?kB ?_ ?c2 ?c3 ?c4 ?c5; (case kA => exact rfl); (case kF => assumption); (case kK => assumption); (case k1 => k_asm); (case k2 => k_asm); (case k3 => k_asm); (case k4 => k_asm); (case k5 => k_asm); (case k6 => k_is); (case k7 => k_is); (case k8 => k_room); (case k9 => first | exact BindsTo.of_eq rfl | exact binds_K (by k_in) rfl (by k_is) rfl rfl rfl | fail "no rule for these arguments"); (case c5 => decide); (case kB => exact locs rfl); (case c2 => exact rfl); (case c3 => exact rfl); (case c4 => exact rfl); k_whole; intro g' L' h' FG' F' N' B' X' T'; (try dsimp only); (try k_lift B'); (try k_fold))
  k_steps
  (all_goals (try k_data))
  all_goals (first | have e9 : eqI q v (c0 :: cr) = true := eqI_tt (by assumption) (by assumption) (by omega) | have e9 : eqI q v (c0 :: cr) = false := eqI_tf (by assumption) (by omega) | have e9 : eqI q v (c0 :: cr) = false := eqI_ff (by assumption))
  all_goals (simp only [e9] at ret)
  all_goals (refine' ret _ _ _ (by k_asm) (by k_asm) (by k_asm) (by k_asm) ?_ (by k_asm) ?_)
  all_goals first | assumption | (intro p hp ho; exact (by assumption : ∀ p ∈ _, OffT _ p → p ∈ _) _ (List.mem_cons_of_mem _ hp) ho)

end
section
local macro_rules | `(tactic| walk_at "call builtin:list.copy") => `(tactic| (k_here; (with_reducible show wpAny _ _ (call (Value.builtin _) [Value.ref _]) _ _ _); k_dflt (refine' my_copy ?F ?N ?l ?_ ?z; (case F => k_asm); (case N => k_asm); (case l => is_list); (case z => first | exact Nat.le_of_ble_eq_true rfl | with_reducible assumption); k_whole); intro D' h' F' N' l1; (try k_lt l1); (try k_sweep)))
local macro_rules | `(tactic| ktr_rel) => `(tactic| first | (with_reducible assumption) | (with_reducible exact List.mem_cons_self) | (refine' List.mem_cons_of_mem _ ?_; ktr_rel) | (refine' sub_mem (by with_reducible assumption) ?_; ktr_rel) | (refine' subT_mem (by with_reducible assumption) ?k9 ?o9; (case k9 => ktr_rel); (case o9 => kwd_inv)))
local macro_rules | `(tactic| k_mem) => `(tactic| ktr_rel)
local macro_rules | `(tactic| walk_at "CompEnd") => `(tactic| (k_here; (rename News _ _ _ _ => hN9); (rename Fr _ _ _ _ => hF9); (refine LCg.CompEnd.intro hF9 hN9 _ (fun _ h => h) ?off ?hS ?_); (case off => first | assumption | ((simp only [LCg.Off3, and_true]); first | done | assumption)); (case hS => k_dflt lcg_src); (try dsimp only [List.nil_append, List.cons_append]); walk_say "COMPEND"))
local macro_rules | `(tactic| walk_at "storeName") => `(tactic| (k_here; k_dflt (refine' my_storeC ?F ?N ?T ?C ?c ?i ?_ ?a ?b; (case a => rfl); (case b => rfl); (case F => k_asm); (case N => k_asm); (case T => (repeat (first | with_reducible assumption | refine Tabs.sub ?_ (by with_reducible assumption) | refine Tabs.of1 ?_ (by with_reducible assumption) (by with_reducible assumption) (by with_reducible assumption) | refine Tabs.of2 ?_ (by with_reducible assumption) (by with_reducible assumption) (by with_reducible assumption) | refine Tabs.sub ?_ (fun p hp => List.mem_cons_of_mem _ hp)))); (case C => (repeat (first | with_reducible assumption | exact Cells.sub (by with_reducible assumption) (fun p hp => List.mem_cons_of_mem _ hp) | exact Cells.sub (by with_reducible assumption) (fun p hp => List.mem_cons_of_mem _ (List.mem_cons_of_mem _ hp)) | exact Cells.sub (by with_reducible assumption) (fun p hp => List.mem_cons_of_mem _ (List.mem_cons_of_mem _ (List.mem_cons_of_mem _ hp))) | exact Cells.sub (by with_reducible assumption) (fun p hp => List.mem_cons_of_mem _ (List.mem_cons_of_mem _ (List.mem_cons_of_mem _ (List.mem_cons_of_mem _ hp)))) | refine Cells.sub ?_ (by with_reducible assumption) | refine Cells.of1 ?_ (by with_reducible assumption) | refine Cells.sub ?_ (fun p hp => List.mem_cons_of_mem _ hp)))); (case c => rfl); (case i => first | exact List.mem_cons_self | exact List.mem_cons_of_mem _ List.mem_cons_self | exact List.mem_cons_of_mem _ (List.mem_cons_of_mem _ List.mem_cons_self) | exact List.mem_cons_of_mem _ (List.mem_cons_of_mem _ (List.mem_cons_of_mem _ List.mem_cons_self))); k_whole); intro h8 nx8 F8 N8 T8 C8 X8; (try k_sweep); walk_say "STOREC"))
local macro_rules | `(tactic| kwd_inv) => `(tactic| (first | exact off_cell (by with_reducible assumption) | exact Or.inr (fun _ e => by cases e) | exact Or.inl (by decide)))
local macro_rules | `(tactic| kst_mem) => `(tactic| (first | with_reducible assumption | assumption | exact IntsAre.nil | exact .cons _ _ .nil | exact .cons _ _ (.cons _ _ .nil) | exact .cons _ _ (.cons _ _ (.cons _ _ .nil)) | exact .cons _ _ (.cons _ _ (.cons _ _ (.cons _ _ .nil))) | exact .cons _ _ (by with_reducible assumption)))
local macro_rules | `(tactic| ktd_rel) => `(tactic| (first | with_reducible assumption | exact IsRing.mono (by with_reducible assumption) (by (repeat (first | with_reducible assumption | exact sub_refl | exact fun _ h => h | refine sub_skip ?_ | refine sub_trans2 (by with_reducible assumption) ?_))) | exact ⟨⟨_, _, _, _, _, by k_mem, by k_mem⟩⟩))
local macro_rules | `(tactic| kwd_rel) => `(tactic| (first | with_reducible assumption | exact IsInts.mono (by with_reducible assumption) (by (repeat (first | with_reducible assumption | exact sub_refl | exact fun _ h => h | refine sub_skip ?_ | refine sub_trans2 (by with_reducible assumption) ?_))) | exact ⟨⟨_, _, by k_mem, by kst_mem⟩⟩ | exact IsInts.ext ⟨⟨_, _, by k_mem, by kst_mem⟩⟩ (by with_reducible assumption)))
local macro_rules | `(tactic| tb_start) => `(tactic| (first | with_reducible assumption | exact IsPoly.mono (by with_reducible assumption) (by (repeat (first | with_reducible assumption | exact sub_refl | exact fun _ h => h | refine sub_skip ?_ | refine sub_trans2 (by with_reducible assumption) ?_))) | exact ⟨⟨_, _, _, _, by k_mem, by k_mem, ⟨⟨_, _, by k_mem, by kst_mem⟩⟩⟩⟩))
local macro_rules | `(tactic| tb_rel) => `(tactic| (first | with_reducible assumption | exact Good.mul (by assumption) (by assumption) (by tb_rel) (by tb_rel) | exact Good.subI (by assumption) (by tb_rel) | exact Good.addI (by assumption) (by tb_rel) | exact Good.neg (by assumption) (by tb_rel) | exact Good.mulI (by assumption) (by tb_rel) | exact Good.addL (by assumption) (by tb_rel) (by tb_rel) | exact Good.one (by assumption) (by assumption) | exact Good.pow (by assumption) (by assumption) (by tb_rel)))
local macro_rules | `(tactic| kst_p) => `(tactic| (first | with_reducible assumption | exact Good.len (by with_reducible assumption) | ((have h97 : _ ∨ _ := (by assumption : _ = 2 ∨ _ = 4)); (simp only [List.length_map, List.length_take, List.length_drop]); omega)))
local macro_rules | `(tactic| walk_at "call ref") => `(tactic| (k_here; (with_reducible show wpAny _ _ (call (Value.ref 191) _ _) _ _ _); (try dsimp only [List.cons_append, List.nil_append]); (with_reducible show wpAny _ _ (call (Value.ref 191) [Value.ref _, Value.ref _]) _ _ _); refine wpAny_call ?_; k_dflt (refine' G_mul ?hA ?hH ?hd ?hu ?B ?F ?X ?N ?T ?hf ?hke ?hn ?hr ?hx ?hy ?hq ?hqb ?hcs ?hds ?_; (case hA => exact rfl); (case hH => exact rfl); (case hd => kwd_less); (case hu => kwd_less); (case B => k_asm); (case F => k_asm); (case X => k_asm); (case N => k_asm); (case T => k_asm); (case hf => exact rfl); (case hke => first | exact rfl | assumption); (case hn => assumption); (case hr => ktd_rel); (case hx => tb_start); (case hy => tb_start); (case hq => (first | with_reducible assumption | assumption | omega)); (case hqb => (first | with_reducible assumption | assumption)); (case hcs => tb_rel); (case hds => tb_rel); k_whole); intro x9 nx9 h9 tk9 F9 N9 hk9 hp9; (have hp9' := hp9.at_; obtain ⟨dx9, lx9, t91, t92, vx9, n9, hx91, hx92, hx93, hx94⟩ := hp9'); (try dsimp only); (try dsimp only [PySem.W.CmpBack]); (try k_sweep); walk_say "USED G_mul"))
local macro_rules | `(tactic| walk_at "call ref") => `(tactic| (k_here; (try dsimp only [List.cons_append, List.nil_append]); (with_reducible show wpAny _ _ (call (Value.ref _) [Value.int _ _]) _ _ _); refine wpAny_call ?_; k_dflt (refine' kco_code (C := 66) (f := 56) (K := Mine.hd.heap_1 _) ?kX ?kI ?kD ?k1 ?k2 ?k3 ?_; (case kX => k_in); (case kI => k_inst); (case kD => exact rfl); (case k1 => k_is); (case k2 => k_is); (case k3 => k_is)); k_dflt (refine' G_rcallI ?hA ?hH ?hd ?hu ?B ?F ?X ?N ?T ?hf ?hke ?hn ?hr ?_; (case hA => exact rfl); (case hH => exact rfl); (case hd => kwd_less); (case hu => kwd_less); (case B => k_asm); (case F => k_asm); (case X => k_asm); (case N => k_asm); (case T => k_asm); (case hf => exact rfl); (case hke => first | exact rfl | assumption); (case hn => assumption); (case hr => ktd_rel); k_whole); intro x9 nx9 h9 tk9 F9 N9 hk9 hp9; (have hp9' := hp9.at_; obtain ⟨dx9, lx9, t91, t92, vx9, n9, hx91, hx92, hx93, hx94⟩ := hp9'); (try dsimp only); (try dsimp only [PySem.W.CmpBack]); (try k_sweep); walk_say "USED G_rcallI"))
local macro_rules | `(tactic| walk_at "exec While Compare cons nil") => `(tactic| (k_here; k_dflt (refine' pow_while  (G0 := oneL _) ?F ?N ?hm ?hk ?hf ?hg ?gf ?gg ?_ ?hE; (case F => k_asm); (case N => k_asm); (case hm => exact rfl); (case hk => assumption); (case gf => assumption); (case hf => tb_start); (case gg => exact Good.one (by assumption) (by assumption)); (case hg => assumption); (case hE => passes_own); k_whole); intro tk8 fx8 gx8 F8 G8 k8 nx8 h8 tk81 hs8 hf8 hg8 gf8 gg8 hk8 e8 F8' N8'; (have hf8' := hf8.at_; obtain ⟨dx8, lx8, t83, t84, vx8, n8, hx81, hx82, hx83, hx84⟩ := hf8'); (have hg8' := hg8.at_; obtain ⟨dy8, ly8, t85, t86, vy8, m8, hy81, hy82, hy83, hy84⟩ := hg8'); (have hr8 := IsRing.mono (by with_reducible assumption) (sub_trans (by (repeat (first | with_reducible assumption | exact sub_refl | exact fun _ h => h | refine sub_skip ?_ | refine sub_trans2 (by with_reducible assumption) ?_))) hs8)); (have hr8' := hr8.out; obtain ⟨dr8, t87, t88, u81, u82, hr81, hr82⟩ := hr8'); walk_say "POWWHILE"))
local macro_rules | `(tactic| walk_at "WhileStep2 next") => `(tactic| (k_here; k_dflt (refine' pow_end ?F ?N ?hm ?h0 ?hk ?hf ?hg ?gf ?gg ?e ?sub; (case F => k_asm); (case N => k_asm); (case hm => exact upd3_eq rfl rfl rfl (fun y a b c => by simp only [if_neg a, if_neg b, if_neg c])); (case hf => tb_start); (case hg => tb_start); (case gf => exact Good.mul (by assumption) (by assumption) (by assumption) (by assumption)); (case gg => first | assumption | exact Good.mul (by assumption) (by assumption) (by assumption) (by assumption)); (case e => first | exact pow_odd (by omega) (by assumption) (by assumption) | exact pow_even (by omega) (by assumption) (by assumption)); (case h0 => (rw [Int.fdiv_eq_ediv_of_nonneg _ (by decide)]; omega)); (case hk => (rw [Int.fdiv_eq_ediv_of_nonneg _ (by decide)]; omega)); (case sub => first | assumption | exact sub_trans (by assumption) (by (repeat (first | with_reducible assumption | exact sub_refl | exact fun _ h => h | refine sub_skip ?_ | refine sub_trans2 (by with_reducible assumption) ?_))))); walk_say "POWEND"))
set_option maxRecDepth 100000 in
set_option maxHeartbeats 8000000 in
theorem G_pow {A : Around} {env : Env} {outer : List Env} {A₀ : Around} {base h₀ : Heap} {L : Addr} {m : Str → Option Value} {news : List (Addr × Obj)} {s : Shared}
    {w : World} {p : Program} {loose : List Str} {mean : ExcName → Option Value} {mg mb : Str → Option Value} {R : Result → Shared → Prop}
    (hA : A.frames = some (env :: outer)) (hH : A.handled = none) (hd : A.depth ≤ 400) (hu : A.units ≤ 400)
    (B : Below A₀ base outer h₀) (F : Fr h₀ L s.heap m) (X : (Mine.hd.heap_1 w.params).In h₀) (N : News h₀ L s.heap news) (T : Top p loose mean mg mb h₀)
    (hf : env.frame = some L) (hke : env.scope.kind = .function)
    {n : Nat} (hn : n = 2 ∨ n = 4)
    {x r : Addr} {q k : Int} {u : Tok} {cs : List Int} (hr : IsRing w news r q n) (hx : IsPoly w news r x cs) (hq : 2 ≤ q) (hqb : Builtin.Int.intBits q ≤ 100) (hcs : Good q n cs) (hk : 0 ≤ k)
    (ret : ∀ x' nx h' tk', Fr h₀ L h' m → News h₀ L h' nx → (∀ p ∈ news, p ∈ nx) → IsPoly w nx r x' (powSM q k.toNat cs (oneL n)) → R (.ok (.ret (.ref x'))) { s with heap := h', toks := tk' }) :
    codeAny (model PySem.Challenge.rw_ay0009_03.row.prog w) A (.call (.ref 212) ⟨[.ref x, .int k u], []⟩) R s := by
  have hr' := hr.out
  obtain ⟨dr, t1, t2, u1, u2, hr1, hr2⟩ := hr'
  have hhx := hx.at_
  obtain ⟨dx, lx, t3x, t4x, vx, nx, hx1, hx2, hx3, hx4⟩ := hhx

  refine codeAny_ar hA hH hd hu ?_
  revert X
  k_fill
  intro X
  k_dflt (refine' code_def ?k1 ?k2 ?k3 ?k4 ?k5 ?kA ?kF ?kK ?k6 ?k7 ?k8 ?k9 ?kB ?_ ?c2 ?c3 ?c4 ?c5; (case kA => exact rfl); (case kF => assumption); (case kK => assumption); (case k1 => k_asm); (case k2 => k_asm); (case k3 => k_asm); (case k4 => k_asm); (case k5 => k_asm); (case k6 => k_is); (case k7 => k_is); (case k8 => k_room); (case k9 => first | exact BindsTo.of_eq rfl | exact binds_K (by k_in) rfl (by k_is) rfl rfl rfl | fail "no rule for these arguments"); (case c5 => decide); (case kB => exact locs rfl); (case c2 => exact rfl); (case c3 => exact rfl); (case c4 => exact rfl); k_whole; intro g' L' h' FG' F' N' B' X' T'; (try dsimp only); (try k_lift B'); (try k_fold))
  k_steps
  (all_goals (try k_data))
  refine' ret _ _ _ _ (by k_asm) (by k_asm) ?zs ?zp
  case zs => (repeat (first | with_reducible assumption | exact sub_refl | exact fun _ h => h | refine sub_skip ?_ | refine sub_trans2 (by with_reducible assumption) ?_))
  case zp => exact (IsPoly.cast (by assumption) (pow_fin (by assumption) (by assumption) (by assumption)))

end
section
local macro_rules | `(tactic| ktr_rel) => `(tactic| first | (with_reducible assumption) | (with_reducible exact List.mem_cons_self) | (refine' List.mem_cons_of_mem _ ?_; ktr_rel) | (refine' sub_mem (by with_reducible assumption) ?_; ktr_rel) | (refine' subT_mem (by with_reducible assumption) ?k9 ?o9; (case k9 => ktr_rel); (case o9 => kwd_inv)))
local macro_rules | `(tactic| k_mem) => `(tactic| ktr_rel)
local macro_rules | `(tactic| walk_at "CompEnd") => `(tactic| (k_here; (rename News _ _ _ _ => hN9); (rename Fr _ _ _ _ => hF9); (refine LCg.CompEnd.intro hF9 hN9 _ (fun _ h => h) ?off ?hS ?_); (case off => first | assumption | ((simp only [LCg.Off3, and_true]); first | done | assumption)); (case hS => k_dflt lcg_src); (try dsimp only [List.nil_append, List.cons_append]); walk_say "COMPEND"))
local macro_rules | `(tactic| walk_at "storeName") => `(tactic| (k_here; k_dflt (refine' my_storeC ?F ?N ?T ?C ?c ?i ?_ ?a ?b; (case a => rfl); (case b => rfl); (case F => k_asm); (case N => k_asm); (case T => (repeat (first | with_reducible assumption | refine Tabs.sub ?_ (by with_reducible assumption) | refine Tabs.of1 ?_ (by with_reducible assumption) (by with_reducible assumption) (by with_reducible assumption) | refine Tabs.of2 ?_ (by with_reducible assumption) (by with_reducible assumption) (by with_reducible assumption) | refine Tabs.sub ?_ (fun p hp => List.mem_cons_of_mem _ hp)))); (case C => (repeat (first | with_reducible assumption | refine Cells.sub ?_ (by with_reducible assumption) | refine Cells.of1 ?_ (by with_reducible assumption) | refine Cells.sub ?_ (fun p hp => List.mem_cons_of_mem _ hp)))); (case c => rfl); (case i => first | exact List.mem_cons_self | exact List.mem_cons_of_mem _ List.mem_cons_self | exact List.mem_cons_of_mem _ (List.mem_cons_of_mem _ List.mem_cons_self) | exact List.mem_cons_of_mem _ (List.mem_cons_of_mem _ (List.mem_cons_of_mem _ List.mem_cons_self))); k_whole); intro h8 nx8 F8 N8 T8 C8 X8; (try k_sweep); walk_say "STOREC"))
local macro_rules | `(tactic| kwd_inv) => `(tactic| (first | exact off_cell (by with_reducible assumption) | exact Or.inr (fun _ e => by cases e) | exact Or.inl (by decide)))
local macro_rules | `(tactic| ktd_rel) => `(tactic| (first | with_reducible assumption | exact IsRing.mono (by with_reducible assumption) (by (repeat (first | with_reducible assumption | exact sub_refl | exact fun _ h => h | refine sub_skip ?_ | refine sub_trans2 (by with_reducible assumption) ?_))) | exact ⟨⟨_, _, _, _, _, by k_mem, by k_mem⟩⟩))
local macro_rules | `(tactic| kwd_rel) => `(tactic| (first | with_reducible assumption | exact IsInts.mono (by with_reducible assumption) (by (repeat (first | with_reducible assumption | exact sub_refl | exact fun _ h => h | refine sub_skip ?_ | refine sub_trans2 (by with_reducible assumption) ?_))) | exact ⟨⟨_, _, by k_mem, by kst_mem⟩⟩))
local macro_rules | `(tactic| tb_start) => `(tactic| (first | with_reducible assumption | exact IsPoly.mono (by with_reducible assumption) (by (repeat (first | with_reducible assumption | exact sub_refl | exact fun _ h => h | refine sub_skip ?_ | refine sub_trans2 (by with_reducible assumption) ?_))) | exact ⟨⟨_, _, _, _, by k_mem, by k_mem, ⟨⟨_, _, by k_mem, by kst_mem⟩⟩⟩⟩))
local macro_rules | `(tactic| tb_rel) => `(tactic| (first | with_reducible assumption | exact Good.mul (by assumption) (by assumption) (by tb_rel) (by tb_rel) | exact Good.subI (by assumption) (by tb_rel) | exact Good.addI (by assumption) (by tb_rel) | exact Good.neg (by assumption) (by tb_rel) | exact Good.mulI (by assumption) (by tb_rel) | exact Good.addL (by assumption) (by tb_rel) (by tb_rel) | exact Good.one (by assumption) (by assumption) | exact Good.pow (by assumption) (by assumption) (by tb_rel)))
local macro_rules | `(tactic| kst_p) => `(tactic| (first | with_reducible assumption | exact Good.len (by with_reducible assumption) | ((have h97 : _ ∨ _ := (by assumption : _ = 2 ∨ _ = 4)); (simp only [List.length_map, List.length_take, List.length_drop]); omega)))
local macro_rules | `(tactic| walk_at "binaryOp Pow int int") => `(tactic| (k_here; k_dflt (refine' pow_int_small ?p1 ?p2 ?p3 ?_; (case p1 => (rw [fdk (by assumption)]; omega)); (case p2 => (rw [fdk (by assumption)]; have h7 : _ ∨ _ := (by assumption); rcases h7 with h7 | h7 <;> subst h7 <;> omega)); (case p3 => decide); k_whole); walk_say "POW"))
local macro_rules | `(tactic| walk_at "call ref") => `(tactic| (k_here; (try dsimp only [List.cons_append, List.nil_append]); (with_reducible show wpAny _ _ (call (Value.ref _) [Value.ref _]) _ _ _); refine wpAny_call ?_; k_dflt (refine' kco_code (C := 66) (f := 56) (K := Mine.hd.heap_1 _) ?kX ?kI ?kD ?k1 ?k2 ?k3 ?_; (case kX => k_in); (case kI => k_inst); (case kD => exact rfl); (case k1 => k_is); (case k2 => k_is); (case k3 => k_is)); k_dflt (refine' G_rcall ?hA ?hH ?hd ?hu ?B ?F ?X ?N ?T ?hf ?hke ?hn ?hr ?hl ?hcs ?_; (case hA => exact rfl); (case hH => exact rfl); (case hd => kwd_less); (case hu => kwd_less); (case B => k_asm); (case F => k_asm); (case X => k_asm); (case N => k_asm); (case T => k_asm); (case hf => exact rfl); (case hke => first | exact rfl | assumption); (case hn => assumption); (case hr => ktd_rel); (case hl => kwd_rel); (case hcs => kst_p); k_whole); intro x9 nx9 h9 tk9 F9 N9 hk9 hp9; (have hp9' := hp9.at_; obtain ⟨dx9, lx9, t91, t92, vx9, n9, hx91, hx92, hx93, hx94⟩ := hp9'); (try dsimp only); (try dsimp only [PySem.W.CmpBack]); (try k_sweep); walk_say "USED G_rcall"))
local macro_rules | `(tactic| walk_at "call ref") => `(tactic| (k_here; (with_reducible show wpAny _ _ (call (Value.ref 49) _ _) _ _ _); (try dsimp only [List.cons_append, List.nil_append]); (with_reducible show wpAny _ _ (call (Value.ref 49) [Value.ref _]) _ _ _); refine wpAny_call ?_; k_dflt (refine' G_rgen ?hA ?hH ?hd ?hu ?B ?F ?X ?N ?T ?hf ?hke ?hn ?hr ?_; (case hA => exact rfl); (case hH => exact rfl); (case hd => kwd_less); (case hu => kwd_less); (case B => k_asm); (case F => k_asm); (case X => k_asm); (case N => k_asm); (case T => k_asm); (case hf => exact rfl); (case hke => first | exact rfl | assumption); (case hn => assumption); (case hr => ktd_rel); k_whole); intro x9 nx9 h9 tk9 F9 N9 hk9 hp9; (have hp9' := hp9.at_; obtain ⟨dx9, lx9, t91, t92, vx9, n9, hx91, hx92, hx93, hx94⟩ := hp9'); (try dsimp only); (try dsimp only [PySem.W.CmpBack]); (try k_sweep); walk_say "USED G_rgen"))
local macro_rules | `(tactic| walk_at "call ref") => `(tactic| (k_here; (with_reducible show wpAny _ _ (call (Value.ref 191) _ _) _ _ _); (try dsimp only [List.cons_append, List.nil_append]); (with_reducible show wpAny _ _ (call (Value.ref 191) [Value.ref _, Value.ref _]) _ _ _); refine wpAny_call ?_; k_dflt (refine' G_mul ?hA ?hH ?hd ?hu ?B ?F ?X ?N ?T ?hf ?hke ?hn ?hr ?hx ?hy ?hq ?hqb ?hcs ?hds ?_; (case hA => exact rfl); (case hH => exact rfl); (case hd => kwd_less); (case hu => kwd_less); (case B => k_asm); (case F => k_asm); (case X => k_asm); (case N => k_asm); (case T => k_asm); (case hf => exact rfl); (case hke => first | exact rfl | assumption); (case hn => assumption); (case hr => ktd_rel); (case hx => tb_start); (case hy => tb_start); (case hq => (first | with_reducible assumption | assumption | omega)); (case hqb => (first | with_reducible assumption | assumption)); (case hcs => tb_rel); (case hds => tb_rel); k_whole); intro x9 nx9 h9 tk9 F9 N9 hk9 hp9; (have hp9' := hp9.at_; obtain ⟨dx9, lx9, t91, t92, vx9, n9, hx91, hx92, hx93, hx94⟩ := hp9'); (try dsimp only); (try dsimp only [PySem.W.CmpBack]); (try k_sweep); walk_say "USED G_mul"))
local macro_rules | `(tactic| walk_at "call ref") => `(tactic| (k_here; (with_reducible show wpAny _ _ (call (Value.ref 212) _ _) _ _ _); (try dsimp only [List.cons_append, List.nil_append]); (with_reducible show wpAny _ _ (call (Value.ref 212) [Value.ref _, Value.int _ _]) _ _ _); refine wpAny_call ?_; k_dflt (refine' G_pow ?hA ?hH ?hd ?hu ?B ?F ?X ?N ?T ?hf ?hke ?hn ?hr ?hx ?hq ?hqb ?hcs ?hk ?_; (case hA => exact rfl); (case hH => exact rfl); (case hd => kwd_less); (case hu => kwd_less); (case B => k_asm); (case F => k_asm); (case X => k_asm); (case N => k_asm); (case T => k_asm); (case hf => exact rfl); (case hke => first | exact rfl | assumption); (case hn => assumption); (case hr => ktd_rel); (case hx => tb_start); (case hq => (first | with_reducible assumption | assumption | omega)); (case hqb => (first | with_reducible assumption | assumption)); (case hcs => tb_rel); (case hk => first | assumption | omega); k_whole); intro x9 nx9 h9 tk9 F9 N9 hk9 hp9; (have hp9' := hp9.at_; obtain ⟨dx9, lx9, t91, t92, vx9, n9, hx91, hx92, hx93, hx94⟩ := hp9'); (try dsimp only); (try dsimp only [PySem.W.CmpBack]); (try k_sweep); walk_say "USED G_pow"))
local macro_rules | `(tactic| walk_at "call ref") => `(tactic| (k_here; (with_reducible show wpAny _ _ (call (Value.ref 146) _ _) _ _ _); (try dsimp only [List.cons_append, List.nil_append]); (with_reducible show wpAny _ _ (call (Value.ref 146) [Value.ref _, Value.int _ _]) _ _ _); refine wpAny_call ?_; k_dflt (refine' G_addI ?hA ?hH ?hd ?hu ?B ?F ?X ?N ?T ?hf ?hke ?hn ?hr ?hx ?hq ?hqb ?hcs ?hvb ?_; (case hA => exact rfl); (case hH => exact rfl); (case hd => kwd_less); (case hu => kwd_less); (case B => k_asm); (case F => k_asm); (case X => k_asm); (case N => k_asm); (case T => k_asm); (case hf => exact rfl); (case hke => first | exact rfl | assumption); (case hn => assumption); (case hr => ktd_rel); (case hx => tb_start); (case hq => (first | with_reducible assumption | assumption | omega)); (case hqb => (first | with_reducible assumption | assumption)); (case hcs => tb_rel); (case hvb => (first | with_reducible assumption | assumption | decide)); k_whole); intro x9 nx9 h9 tk9 F9 N9 hk9 hp9; (have hp9' := hp9.at_; obtain ⟨dx9, lx9, t91, t92, vx9, n9, hx91, hx92, hx93, hx94⟩ := hp9'); (try dsimp only); (try dsimp only [PySem.W.CmpBack]); (try k_sweep); walk_say "USED G_addI"))
local macro_rules | `(tactic| walk_at "call ref") => `(tactic| (k_here; (with_reducible show wpAny _ _ (call (Value.ref 245) _ _) _ _ _); (try dsimp only [List.cons_append, List.nil_append]); (with_reducible show wpAny _ _ (call (Value.ref 245) [Value.ref _, Value.int _ _]) _ _ _); refine wpAny_call ?_; k_dflt (refine' G_worth ?hA ?hH ?hd ?hu ?B ?F ?X ?N ?T ?hf ?hke ?hn ?hx ?hlen ?hbs ?hM ?_; (case hA => exact rfl); (case hH => exact rfl); (case hd => kwd_less); (case hu => kwd_less); (case B => k_asm); (case F => k_asm); (case X => k_asm); (case N => k_asm); (case T => k_asm); (case hf => exact rfl); (case hke => first | exact rfl | assumption); (case hn => assumption); (case hx => tb_start); (case hlen => exact Good.len (by tb_rel)); (case hbs => exact bits_good2 (by tb_rel) (by assumption)); (case hM => first | assumption | omega); k_whole); intro h9 tk9 t9 F9 N9; (try dsimp only); (try dsimp only [PySem.W.CmpBack]); (try k_sweep); walk_say "USED G_worth"))
local macro_rules | `(tactic| walk_at "call ref") => `(tactic| (k_here; (with_reducible show wpAny _ _ (call (Value.ref 91) _ _) _ _ _); (try dsimp only [List.cons_append, List.nil_append]); (with_reducible show wpAny _ _ (call (Value.ref 91) [Value.ref _]) _ _ _); refine wpAny_call ?_; k_dflt (refine' C_isz ?hA ?hH ?hd ?hu ?B ?F ?X ?N ?T ?hf ?hke ?hx ?ht ?htr ?hG ?_; (case hA => exact rfl); (case hH => exact rfl); (case hd => kwd_less); (case hu => kwd_less); (case B => k_asm); (case F => k_asm); (case X => k_asm); (case N => k_asm); (case T => k_asm); (case hf => exact rfl); (case hke => first | exact rfl | assumption); (case hx => tb_start); (case ht => k_mem); (case htr => k_asm); (case hG => k_asm); k_whole); intro nx9 s9 ps9 F9 N9 ht9 htr9 hk9 hG9 hos9; (try dsimp only); (try dsimp only [PySem.W.CmpBack]); (try k_sweep); walk_say "USED C_isz"))
local macro_rules | `(tactic| walk_at "call ref") => `(tactic| (k_here; (with_reducible show wpAny _ _ (call (Value.ref 219) _ _) _ _ _); (try dsimp only [List.cons_append, List.nil_append]); (with_reducible show wpAny _ _ (call (Value.ref 219) [Value.ref _, Value.int _ _]) _ _ _); refine wpAny_call ?_; k_dflt (refine' G_eqI ?hA ?hH ?hd ?hu ?B ?F ?X ?N ?T ?hf ?hke ?hn ?hr ?hx ?hq ?hqb ?hcs ?hvb ?ht ?htr ?hG ?_; (case hA => exact rfl); (case hH => exact rfl); (case hd => kwd_less); (case hu => kwd_less); (case B => k_asm); (case F => k_asm); (case X => k_asm); (case N => k_asm); (case T => k_asm); (case hf => exact rfl); (case hke => first | exact rfl | assumption); (case hn => assumption); (case hr => ktd_rel); (case hx => tb_start); (case hq => (first | with_reducible assumption | assumption | omega)); (case hqb => (first | with_reducible assumption | assumption)); (case hcs => tb_rel); (case hvb => (first | with_reducible assumption | assumption | decide)); (case ht => k_mem); (case htr => k_asm); (case hG => k_asm); k_whole); intro nx9 s9 ps9 F9 N9 ht9 htr9 hk9 hG9 hos9; (try dsimp only); (try dsimp only [PySem.W.CmpBack]); (try k_sweep); walk_say "USED G_eqI"))
set_option maxRecDepth 100000 in
set_option maxHeartbeats 8000000 in
theorem st3_0 {w : World} {p : Program} {loose : List Str} {mean : ExcName → Option Value} {mg mb : Str → Option Value} {h₀ : Heap} {L fa : Addr} {cd : Value} {os0 : OsState} {s : Shared} {Q : Flow → Shared → Prop} {E : Value → Shared → Prop}
    (B : Below callerA h₀ [] h₀) (X : (Mine.hd.heap_1 w.params).In h₀) (T : Top p loose mean mg mb h₀) {nx : List (Addr × Obj)}
    {l0 : Addr} {vs : List Value} {ns : List Int} (hl : h₀.IsList l0 vs.toArray) (hi : IntsAre vs ns) (h63 : ns.length ≤ 63) (S : St h₀ L os0 [(Str.ofString "script", .ref l0)] [(L + 1, none), (L + 2, none)] nx s)
    (k : ∀ s' nx' ln ns', St h₀ L os0 [(Str.ofString "numbers", .ref ln)] [(L + 1, none), (L + 2, none)] nx' s' → Ext nx nx' → IsInts nx' ln ns' → ns'.length = 12 → Q .next s') :
    wpAny (model PySem.Challenge.rw_ay0009_03.row.prog w) (callerA.deeper (envOfC (Str.ofString "law") (lawDef PySem.Challenge.rw_ay0009_03.row.prog).2 L fa cd)) (exec (stm PySem.Challenge.rw_ay0009_03.row.prog 0) (envOfC (Str.ofString "law") (lawDef PySem.Challenge.rw_ay0009_03.row.prog).2 L fa cd)) Q E s := by
  obtain ⟨⟨m0, F⟩, N, ⟨⟨pa, ta, tra⟩, ⟨pc, tc, trc⟩⟩, CL, G, O⟩ := S
  simp only [lk] at F
  have TT : Tabs nx := ⟨⟨_, ta, tra⟩, ⟨_, tc, trc⟩⟩
  revert X
  k_fill
  intro X
  conv =>
    arg 3
    arg 1
    whnf
  k_steps
  (all_goals (try k_data))
  refine' k _ _ _ _ ?Sz1 ?Xz1 ?E0z1 ?E1z1
  case Sz1 =>
    refine ⟨fr_lk (by k_asm) _ ?l9z1, ?n9z1, ?t9z1, ?c9z1, ?g9z1, ?o9z1⟩
    case l9z1 => (repeat (first | exact List.forall_mem_nil _ | (refine List.forall_mem_cons.mpr ⟨?_, ?_⟩; exact rfl)))
    case n9z1 => k_asm
    case t9z1 => (repeat (first | with_reducible assumption | refine Tabs.sub ?_ (by with_reducible assumption) | refine Tabs.of1 ?_ (by with_reducible assumption) (by with_reducible assumption) (by with_reducible assumption) | refine Tabs.of2 ?_ (by with_reducible assumption) (by with_reducible assumption) (by with_reducible assumption) | refine Tabs.sub ?_ (fun p hp => List.mem_cons_of_mem _ hp)))
    case c9z1 => first | ((repeat (first | with_reducible assumption | refine Cells.sub ?_ (by with_reducible assumption) | refine Cells.of1 ?_ (by with_reducible assumption) | refine Cells.sub ?_ (fun p hp => List.mem_cons_of_mem _ hp))); done) | ((rename CellsTo _ _ _ _ => hC8); refine hC8 _ ?_; (repeat (first | exact List.forall_mem_nil _ | (refine List.forall_mem_cons.mpr ⟨?_, ?_⟩; first | (refine .inl ?_; exact rfl) | (refine .inr ⟨by simp, ?_⟩; first | exact Nat.ne_of_lt (by omega) | exact Nat.ne_of_gt (by omega))))))
    case g9z1 => first | assumption | exact G
    case o9z1 => (repeat (first | exact O | refine Eq.trans (by with_reducible assumption) ?_))
  case Xz1 => (repeat (first | exact ext_refl | with_reducible assumption | refine ext_trans ?_ (by with_reducible assumption) | refine ext_cons ?_ | refine ext_trans ?_ (ext_of (by with_reducible assumption)) | refine ext_trans ?_ (ext_of1 (by with_reducible assumption))))
  case E0z1 => kwd_rel
  case E1z1 => (simp only [List.length_take, List.length_append, List.length_map, rangeKs_length]; omega)

set_option maxRecDepth 100000 in
set_option maxHeartbeats 8000000 in
theorem st3_1 {w : World} {p : Program} {loose : List Str} {mean : ExcName → Option Value} {mg mb : Str → Option Value} {h₀ : Heap} {L fa : Addr} {cd : Value} {os0 : OsState} {s : Shared} {Q : Flow → Shared → Prop} {E : Value → Shared → Prop}
    (B : Below callerA h₀ [] h₀) (X : (Mine.hd.heap_1 w.params).In h₀) (T : Top p loose mean mg mb h₀) {nx : List (Addr × Obj)}
    {ln : Addr} {ns : List Int} (hl : IsInts nx ln ns) (hlen : ns.length = 12) (S : St h₀ L os0 [(Str.ofString "numbers", .ref ln)] [(L + 1, none), (L + 2, none)] nx s)
    (k : ∀ s' nx' (n : Nat) tn, St h₀ L os0 [(Str.ofString "numbers", .ref ln), (Str.ofString "n", .int n tn)] [(L + 1, none), (L + 2, none)] nx' s' → Ext nx nx' → (n = 2 ∨ n = 4) → Q .next s') :
    wpAny (model PySem.Challenge.rw_ay0009_03.row.prog w) (callerA.deeper (envOfC (Str.ofString "law") (lawDef PySem.Challenge.rw_ay0009_03.row.prog).2 L fa cd)) (exec (stm PySem.Challenge.rw_ay0009_03.row.prog 1) (envOfC (Str.ofString "law") (lawDef PySem.Challenge.rw_ay0009_03.row.prog).2 L fa cd)) Q E s := by
  obtain ⟨⟨m0, F⟩, N, ⟨⟨pa, ta, tra⟩, ⟨pc, tc, trc⟩⟩, CL, G, O⟩ := S
  simp only [lk] at F
  have TT : Tabs nx := ⟨⟨_, ta, tra⟩, ⟨_, tc, trc⟩⟩
  obtain ⟨vl, nl, hl1, hl2⟩ := hl.out
  have hvl : vl.length = 12 := hl2.length.trans hlen
  revert X
  k_fill
  intro X
  conv =>
    arg 3
    arg 1
    whnf
  k_steps
  (all_goals (try k_data))
  (rename Fr h₀ L _ _ => hF)
  rw [n2_eq] at hF
  refine' k _ _ _ _ ?Sz1 ?Xz1 ?E0z1
  case Sz1 =>
    refine ⟨fr_lk (by k_asm) _ ?l9z1, ?n9z1, ?t9z1, ?c9z1, ?g9z1, ?o9z1⟩
    case l9z1 => (repeat (first | exact List.forall_mem_nil _ | (refine List.forall_mem_cons.mpr ⟨?_, ?_⟩; exact rfl)))
    case n9z1 => k_asm
    case t9z1 => (repeat (first | with_reducible assumption | refine Tabs.sub ?_ (by with_reducible assumption) | refine Tabs.of1 ?_ (by with_reducible assumption) (by with_reducible assumption) (by with_reducible assumption) | refine Tabs.of2 ?_ (by with_reducible assumption) (by with_reducible assumption) (by with_reducible assumption) | refine Tabs.sub ?_ (fun p hp => List.mem_cons_of_mem _ hp)))
    case c9z1 => first | ((repeat (first | with_reducible assumption | refine Cells.sub ?_ (by with_reducible assumption) | refine Cells.of1 ?_ (by with_reducible assumption) | refine Cells.sub ?_ (fun p hp => List.mem_cons_of_mem _ hp))); done) | ((rename CellsTo _ _ _ _ => hC8); refine hC8 _ ?_; (repeat (first | exact List.forall_mem_nil _ | (refine List.forall_mem_cons.mpr ⟨?_, ?_⟩; first | (refine .inl ?_; exact rfl) | (refine .inr ⟨by simp, ?_⟩; first | exact Nat.ne_of_lt (by omega) | exact Nat.ne_of_gt (by omega))))))
    case g9z1 => first | assumption | exact G
    case o9z1 => (repeat (first | exact O | refine Eq.trans (by with_reducible assumption) ?_))
  case Xz1 => (repeat (first | exact ext_refl | with_reducible assumption | refine ext_trans ?_ (by with_reducible assumption) | refine ext_cons ?_ | refine ext_trans ?_ (ext_of (by with_reducible assumption)) | refine ext_trans ?_ (ext_of1 (by with_reducible assumption))))
  case E0z1 => exact n2_or _

set_option maxRecDepth 100000 in
set_option maxHeartbeats 8000000 in
theorem st3_2 {w : World} {p : Program} {loose : List Str} {mean : ExcName → Option Value} {mg mb : Str → Option Value} {h₀ : Heap} {L fa : Addr} {cd : Value} {os0 : OsState} {s : Shared} {Q : Flow → Shared → Prop} {E : Value → Shared → Prop}
    (B : Below callerA h₀ [] h₀) (X : (Mine.hd.heap_1 w.params).In h₀) (T : Top p loose mean mg mb h₀) {nx : List (Addr × Obj)}
    {n : Nat} (hn : n = 2 ∨ n = 4) {ln : Addr} {ns : List Int} {tn : Tok} (hl : IsInts nx ln ns) (hlen : ns.length = 12) (S : St h₀ L os0 [(Str.ofString "numbers", .ref ln), (Str.ofString "n", .int n tn)] [(L + 1, none), (L + 2, none)] nx s)
    (k : ∀ s' nx' (kk : Nat) tM, St h₀ L os0 [(Str.ofString "numbers", .ref ln), (Str.ofString "n", .int n tn)] [(L + 1, some (.int ((n * kk : Nat) : Int) tM)), (L + 2, none)] nx' s' → Ext nx nx' → 1 ≤ kk → n * kk ≤ 12 → Q .next s') :
    wpAny (model PySem.Challenge.rw_ay0009_03.row.prog w) (callerA.deeper (envOfC (Str.ofString "law") (lawDef PySem.Challenge.rw_ay0009_03.row.prog).2 L fa cd)) (exec (stm PySem.Challenge.rw_ay0009_03.row.prog 2) (envOfC (Str.ofString "law") (lawDef PySem.Challenge.rw_ay0009_03.row.prog).2 L fa cd)) Q E s := by
  obtain ⟨⟨m0, F⟩, N, ⟨⟨pa, ta, tra⟩, ⟨pc, tc, trc⟩⟩, CL, G, O⟩ := S
  simp only [lk] at F
  have TT : Tabs nx := ⟨⟨_, ta, tra⟩, ⟨_, tc, trc⟩⟩
  obtain ⟨vl, nl, hl1, hl2⟩ := hl.out
  have hvl : vl.length = 12 := hl2.length.trans hlen
  have hfd := fd12 hn
  revert X
  k_fill
  intro X
  conv =>
    arg 3
    arg 1
    whnf
  k_steps
  (all_goals (try k_data))
  obtain ⟨kk, hk1, hk2, hk3⟩ := most_ok hn (ns.getD (Int.toNat 1) 0)
  (rename CellsTo _ _ _ _ => hC7)
  rw [hk2] at hC7
  refine' k _ _ kk _ ?Sz1 ?Xz1 ?E0z1 ?E1z1
  case Sz1 =>
    refine ⟨fr_lk (by k_asm) _ ?l9z1, ?n9z1, ?t9z1, ?c9z1, ?g9z1, ?o9z1⟩
    case l9z1 => (repeat (first | exact List.forall_mem_nil _ | (refine List.forall_mem_cons.mpr ⟨?_, ?_⟩; exact rfl)))
    case n9z1 => k_asm
    case t9z1 => (repeat (first | with_reducible assumption | refine Tabs.sub ?_ (by with_reducible assumption) | refine Tabs.of1 ?_ (by with_reducible assumption) (by with_reducible assumption) (by with_reducible assumption) | refine Tabs.of2 ?_ (by with_reducible assumption) (by with_reducible assumption) (by with_reducible assumption) | refine Tabs.sub ?_ (fun p hp => List.mem_cons_of_mem _ hp)))
    case c9z1 => first | ((repeat (first | with_reducible assumption | refine Cells.sub ?_ (by with_reducible assumption) | refine Cells.of1 ?_ (by with_reducible assumption) | refine Cells.sub ?_ (fun p hp => List.mem_cons_of_mem _ hp))); done) | ((rename CellsTo _ _ _ _ => hC8); refine hC8 _ ?_; (repeat (first | exact List.forall_mem_nil _ | (refine List.forall_mem_cons.mpr ⟨?_, ?_⟩; first | (refine .inl ?_; exact rfl) | (refine .inr ⟨by simp, ?_⟩; first | exact Nat.ne_of_lt (by omega) | exact Nat.ne_of_gt (by omega))))))
    case g9z1 => first | assumption | exact G
    case o9z1 => (repeat (first | exact O | refine Eq.trans (by with_reducible assumption) ?_))
  case Xz1 => (repeat (first | exact ext_refl | with_reducible assumption | refine ext_trans ?_ (by with_reducible assumption) | refine ext_cons ?_ | refine ext_trans ?_ (ext_of (by with_reducible assumption)) | refine ext_trans ?_ (ext_of1 (by with_reducible assumption))))
  case E0z1 => exact hk1
  case E1z1 => exact hk3

set_option maxRecDepth 100000 in
set_option maxHeartbeats 8000000 in
theorem st3_3 {w : World} {p : Program} {loose : List Str} {mean : ExcName → Option Value} {mg mb : Str → Option Value} {h₀ : Heap} {L fa : Addr} {cd : Value} {os0 : OsState} {s : Shared} {Q : Flow → Shared → Prop} {E : Value → Shared → Prop}
    (B : Below callerA h₀ [] h₀) (X : (Mine.hd.heap_1 w.params).In h₀) (T : Top p loose mean mg mb h₀) {nx : List (Addr × Obj)}
    {n kk : Nat} {tM : Tok} (hn : n = 2 ∨ n = 4) (h1 : 1 ≤ kk) (h12 : n * kk ≤ 12) {vn : Value} {tn : Tok} (S : St h₀ L os0 [(Str.ofString "numbers", vn), (Str.ofString "n", .int n tn)] [(L + 1, some (.int ((n * kk : Nat) : Int) tM)), (L + 2, none)] nx s)
    (k : ∀ s' nx' tq, St h₀ L os0 [(Str.ofString "numbers", vn), (Str.ofString "n", .int n tn)] [(L + 1, some (.int ((n * kk : Nat) : Int) tM)), (L + 2, some (.int (2 ^ kk) tq))] nx' s' → Ext nx nx' → Q .next s') :
    wpAny (model PySem.Challenge.rw_ay0009_03.row.prog w) (callerA.deeper (envOfC (Str.ofString "law") (lawDef PySem.Challenge.rw_ay0009_03.row.prog).2 L fa cd)) (exec (stm PySem.Challenge.rw_ay0009_03.row.prog 3) (envOfC (Str.ofString "law") (lawDef PySem.Challenge.rw_ay0009_03.row.prog).2 L fa cd)) Q E s := by
  obtain ⟨⟨m0, F⟩, N, ⟨⟨pa, ta, tra⟩, ⟨pc, tc, trc⟩⟩, CL, G, O⟩ := S
  simp only [lk] at F
  have TT : Tabs nx := ⟨⟨_, ta, tra⟩, ⟨_, tc, trc⟩⟩
  obtain ⟨om, hcm, hdm⟩ := CL (L + 1, _) List.mem_cons_self
  dsimp only at hcm hdm
  revert X
  k_fill
  intro X
  conv =>
    arg 3
    arg 1
    whnf
  k_steps
  (all_goals (try k_data))
  (rename CellsTo _ _ _ _ => hC7)
  rw [fdk hn, Int.toNat_natCast] at hC7
  refine' k _ _ _ ?Sz1 ?Xz1 
  case Sz1 =>
    refine ⟨fr_lk (by k_asm) _ ?l9z1, ?n9z1, ?t9z1, ?c9z1, ?g9z1, ?o9z1⟩
    case l9z1 => (repeat (first | exact List.forall_mem_nil _ | (refine List.forall_mem_cons.mpr ⟨?_, ?_⟩; exact rfl)))
    case n9z1 => k_asm
    case t9z1 => (repeat (first | with_reducible assumption | refine Tabs.sub ?_ (by with_reducible assumption) | refine Tabs.of1 ?_ (by with_reducible assumption) (by with_reducible assumption) (by with_reducible assumption) | refine Tabs.of2 ?_ (by with_reducible assumption) (by with_reducible assumption) (by with_reducible assumption) | refine Tabs.sub ?_ (fun p hp => List.mem_cons_of_mem _ hp)))
    case c9z1 => first | ((repeat (first | with_reducible assumption | refine Cells.sub ?_ (by with_reducible assumption) | refine Cells.of1 ?_ (by with_reducible assumption) | refine Cells.sub ?_ (fun p hp => List.mem_cons_of_mem _ hp))); done) | ((rename CellsTo _ _ _ _ => hC8); refine hC8 _ ?_; (repeat (first | exact List.forall_mem_nil _ | (refine List.forall_mem_cons.mpr ⟨?_, ?_⟩; first | (refine .inl ?_; exact rfl) | (refine .inr ⟨by simp, ?_⟩; first | exact Nat.ne_of_lt (by omega) | exact Nat.ne_of_gt (by omega))))))
    case g9z1 => first | assumption | exact G
    case o9z1 => (repeat (first | exact O | refine Eq.trans (by with_reducible assumption) ?_))
  case Xz1 => (repeat (first | exact ext_refl | with_reducible assumption | refine ext_trans ?_ (by with_reducible assumption) | refine ext_cons ?_ | refine ext_trans ?_ (ext_of (by with_reducible assumption)) | refine ext_trans ?_ (ext_of1 (by with_reducible assumption))))

set_option maxRecDepth 100000 in
set_option maxHeartbeats 8000000 in
theorem st3_4 {w : World} {p : Program} {loose : List Str} {mean : ExcName → Option Value} {mg mb : Str → Option Value} {h₀ : Heap} {L fa : Addr} {cd : Value} {os0 : OsState} {s : Shared} {Q : Flow → Shared → Prop} {E : Value → Shared → Prop}
    (B : Below callerA h₀ [] h₀) (X : (Mine.hd.heap_1 w.params).In h₀) (T : Top p loose mean mg mb h₀) {nx : List (Addr × Obj)}
    {n : Nat} (hn : n = 2 ∨ n = 4) {q : Int} (hq : 2 ≤ q) (hqb : Builtin.Int.intBits q ≤ 100) {M : Int} {tM tq : Tok} {ln : Value} {tn : Tok} (S : St h₀ L os0 [(Str.ofString "numbers", ln), (Str.ofString "n", .int n tn)] [(L + 1, some (.int M tM)), (L + 2, some (.int q tq))] nx s)
    (k : ∀ s' nx' r, St h₀ L os0 [(Str.ofString "numbers", ln), (Str.ofString "n", .int n tn), (Str.ofString "ring", .ref r)] [(L + 1, some (.int M tM)), (L + 2, some (.int q tq))] nx' s' → Ext nx nx' → IsRing w nx' r q n → Q .next s') :
    wpAny (model PySem.Challenge.rw_ay0009_03.row.prog w) (callerA.deeper (envOfC (Str.ofString "law") (lawDef PySem.Challenge.rw_ay0009_03.row.prog).2 L fa cd)) (exec (stm PySem.Challenge.rw_ay0009_03.row.prog 4) (envOfC (Str.ofString "law") (lawDef PySem.Challenge.rw_ay0009_03.row.prog).2 L fa cd)) Q E s := by
  obtain ⟨⟨m0, F⟩, N, ⟨⟨pa, ta, tra⟩, ⟨pc, tc, trc⟩⟩, CL, G, O⟩ := S
  simp only [lk] at F
  have TT : Tabs nx := ⟨⟨_, ta, tra⟩, ⟨_, tc, trc⟩⟩
  obtain ⟨om, hcm, hdm⟩ := CL (L + 1, some (.int M tM)) List.mem_cons_self
  obtain ⟨oq, hcq, hdq⟩ := CL (L + 2, some (.int q tq)) (List.mem_cons_of_mem _ List.mem_cons_self)
  dsimp only at hcm hdm hcq hdq
  revert X
  k_fill
  intro X
  conv =>
    arg 3
    arg 1
    whnf
  k_steps
  (all_goals (try k_data))
  refine' k _ _ _ ?Sz1 ?Xz1 ?E0z1
  case Sz1 =>
    refine ⟨fr_lk (by k_asm) _ ?l9z1, ?n9z1, ?t9z1, ?c9z1, ?g9z1, ?o9z1⟩
    case l9z1 => (repeat (first | exact List.forall_mem_nil _ | (refine List.forall_mem_cons.mpr ⟨?_, ?_⟩; exact rfl)))
    case n9z1 => k_asm
    case t9z1 => (repeat (first | with_reducible assumption | refine Tabs.sub ?_ (by with_reducible assumption) | refine Tabs.of1 ?_ (by with_reducible assumption) (by with_reducible assumption) (by with_reducible assumption) | refine Tabs.of2 ?_ (by with_reducible assumption) (by with_reducible assumption) (by with_reducible assumption) | refine Tabs.sub ?_ (fun p hp => List.mem_cons_of_mem _ hp)))
    case c9z1 => first | ((repeat (first | with_reducible assumption | refine Cells.sub ?_ (by with_reducible assumption) | refine Cells.of1 ?_ (by with_reducible assumption) | refine Cells.sub ?_ (fun p hp => List.mem_cons_of_mem _ hp))); done) | ((rename CellsTo _ _ _ _ => hC8); refine hC8 _ ?_; (repeat (first | exact List.forall_mem_nil _ | (refine List.forall_mem_cons.mpr ⟨?_, ?_⟩; first | (refine .inl ?_; exact rfl) | (refine .inr ⟨by simp, ?_⟩; first | exact Nat.ne_of_lt (by omega) | exact Nat.ne_of_gt (by omega))))))
    case g9z1 => first | assumption | exact G
    case o9z1 => (repeat (first | exact O | refine Eq.trans (by with_reducible assumption) ?_))
  case Xz1 => (repeat (first | exact ext_refl | with_reducible assumption | refine ext_trans ?_ (by with_reducible assumption) | refine ext_cons ?_ | refine ext_trans ?_ (ext_of (by with_reducible assumption)) | refine ext_trans ?_ (ext_of1 (by with_reducible assumption))))
  case E0z1 => ktd_rel

set_option maxRecDepth 100000 in
set_option maxHeartbeats 8000000 in
theorem st3_5 {w : World} {p : Program} {loose : List Str} {mean : ExcName → Option Value} {mg mb : Str → Option Value} {h₀ : Heap} {L fa : Addr} {cd : Value} {os0 : OsState} {s : Shared} {Q : Flow → Shared → Prop} {E : Value → Shared → Prop}
    (B : Below callerA h₀ [] h₀) (X : (Mine.hd.heap_1 w.params).In h₀) (T : Top p loose mean mg mb h₀) {nx : List (Addr × Obj)}
    {n : Nat} (hn : n = 2 ∨ n = 4) {q : Int} (hq : 2 ≤ q) (hqb : Builtin.Int.intBits q ≤ 100) {M : Int} {tM tq : Tok} {vr : Value} {ln : Addr} {ns : List Int} {tn : Tok} (hM : 0 ≤ M) (hM12 : M ≤ 12) (hl : IsInts nx ln ns) (hlen : ns.length = 12) (S : St h₀ L os0 [(Str.ofString "numbers", .ref ln), (Str.ofString "n", .int n tn), (Str.ofString "ring", vr)] [(L + 1, some (.int M tM)), (L + 2, some (.int q tq))] nx s)
    (k : ∀ s' nx' (e j : Int) te tj, St h₀ L os0 [(Str.ofString "numbers", .ref ln), (Str.ofString "n", .int n tn), (Str.ofString "ring", vr), (Str.ofString "e", .int e te), (Str.ofString "j", .int j tj)] [(L + 1, some (.int M tM)), (L + 2, some (.int q tq))] nx' s' → Ext nx nx' → 0 ≤ e → e ≤ M → 0 ≤ j → j < 9 → Q .next s') :
    wpAny (model PySem.Challenge.rw_ay0009_03.row.prog w) (callerA.deeper (envOfC (Str.ofString "law") (lawDef PySem.Challenge.rw_ay0009_03.row.prog).2 L fa cd)) (exec (stm PySem.Challenge.rw_ay0009_03.row.prog 5) (envOfC (Str.ofString "law") (lawDef PySem.Challenge.rw_ay0009_03.row.prog).2 L fa cd)) Q E s := by
  obtain ⟨⟨m0, F⟩, N, ⟨⟨pa, ta, tra⟩, ⟨pc, tc, trc⟩⟩, CL, G, O⟩ := S
  simp only [lk] at F
  have TT : Tabs nx := ⟨⟨_, ta, tra⟩, ⟨_, tc, trc⟩⟩
  obtain ⟨om, hcm, hdm⟩ := CL (L + 1, some (.int M tM)) List.mem_cons_self
  obtain ⟨oq, hcq, hdq⟩ := CL (L + 2, some (.int q tq)) (List.mem_cons_of_mem _ List.mem_cons_self)
  dsimp only at hcm hdm hcq hdq
  obtain ⟨vl, nl, hl1, hl2⟩ := hl.out
  have hvl : vl.length = 12 := hl2.length.trans hlen
  revert X
  k_fill
  intro X
  conv =>
    arg 3
    arg 1
    whnf
  k_steps
  (all_goals (try k_data))
  refine' k _ _ _ _ _ _ ?Sz1 ?Xz1 ?E0z1 ?E1z1 ?E2z1 ?E3z1
  case Sz1 =>
    refine ⟨fr_lk (by k_asm) _ ?l9z1, ?n9z1, ?t9z1, ?c9z1, ?g9z1, ?o9z1⟩
    case l9z1 => (repeat (first | exact List.forall_mem_nil _ | (refine List.forall_mem_cons.mpr ⟨?_, ?_⟩; exact rfl)))
    case n9z1 => k_asm
    case t9z1 => (repeat (first | with_reducible assumption | refine Tabs.sub ?_ (by with_reducible assumption) | refine Tabs.of1 ?_ (by with_reducible assumption) (by with_reducible assumption) (by with_reducible assumption) | refine Tabs.of2 ?_ (by with_reducible assumption) (by with_reducible assumption) (by with_reducible assumption) | refine Tabs.sub ?_ (fun p hp => List.mem_cons_of_mem _ hp)))
    case c9z1 => first | ((repeat (first | with_reducible assumption | refine Cells.sub ?_ (by with_reducible assumption) | refine Cells.of1 ?_ (by with_reducible assumption) | refine Cells.sub ?_ (fun p hp => List.mem_cons_of_mem _ hp))); done) | ((rename CellsTo _ _ _ _ => hC8); refine hC8 _ ?_; (repeat (first | exact List.forall_mem_nil _ | (refine List.forall_mem_cons.mpr ⟨?_, ?_⟩; first | (refine .inl ?_; exact rfl) | (refine .inr ⟨by simp, ?_⟩; first | exact Nat.ne_of_lt (by omega) | exact Nat.ne_of_gt (by omega))))))
    case g9z1 => first | assumption | exact G
    case o9z1 => (repeat (first | exact O | refine Eq.trans (by with_reducible assumption) ?_))
  case Xz1 => (repeat (first | exact ext_refl | with_reducible assumption | refine ext_trans ?_ (by with_reducible assumption) | refine ext_cons ?_ | refine ext_trans ?_ (ext_of (by with_reducible assumption)) | refine ext_trans ?_ (ext_of1 (by with_reducible assumption))))
  case E0z1 => exact fm_lo (by omega)
  case E1z1 => exact Int.le_of_lt_add_one (fm_hi (by omega))
  case E2z1 => exact fm_lo (by decide)
  case E3z1 => exact fm_hi (by decide)

set_option maxRecDepth 100000 in
set_option maxHeartbeats 8000000 in
theorem st3_6 {w : World} {p : Program} {loose : List Str} {mean : ExcName → Option Value} {mg mb : Str → Option Value} {h₀ : Heap} {L fa : Addr} {cd : Value} {os0 : OsState} {s : Shared} {Q : Flow → Shared → Prop} {E : Value → Shared → Prop}
    (B : Below callerA h₀ [] h₀) (X : (Mine.hd.heap_1 w.params).In h₀) (T : Top p loose mean mg mb h₀) {nx : List (Addr × Obj)}
    {n : Nat} (hn : n = 2 ∨ n = 4) {q : Int} (hq : 2 ≤ q) (hqb : Builtin.Int.intBits q ≤ 100) {M : Int} {tM tq : Tok} {e j : Value} {r : Addr} {ln : Addr} {ns : List Int} {tn : Tok} (hl : IsInts nx ln ns) (hlen : ns.length = 12) (hr : IsRing w nx r q n) (S : St h₀ L os0 [(Str.ofString "numbers", .ref ln), (Str.ofString "n", .int n tn), (Str.ofString "ring", .ref r), (Str.ofString "e", e), (Str.ofString "j", j)] [(L + 1, some (.int M tM)), (L + 2, some (.int q tq))] nx s)
    (k : ∀ s' nx' fx gx Fc Gc, St h₀ L os0 [(Str.ofString "ring", .ref r), (Str.ofString "e", e), (Str.ofString "j", j), (Str.ofString "f", .ref fx), (Str.ofString "g", .ref gx)] [(L + 1, some (.int M tM)), (L + 2, some (.int q tq))] nx' s' → Ext nx nx' → IsPoly w nx' r fx Fc → IsPoly w nx' r gx Gc → Good q n Fc → Good q n Gc → Q .next s') :
    wpAny (model PySem.Challenge.rw_ay0009_03.row.prog w) (callerA.deeper (envOfC (Str.ofString "law") (lawDef PySem.Challenge.rw_ay0009_03.row.prog).2 L fa cd)) (exec (stm PySem.Challenge.rw_ay0009_03.row.prog 6) (envOfC (Str.ofString "law") (lawDef PySem.Challenge.rw_ay0009_03.row.prog).2 L fa cd)) Q E s := by
  obtain ⟨⟨m0, F⟩, N, ⟨⟨pa, ta, tra⟩, ⟨pc, tc, trc⟩⟩, CL, G, O⟩ := S
  simp only [lk] at F
  have TT : Tabs nx := ⟨⟨_, ta, tra⟩, ⟨_, tc, trc⟩⟩
  obtain ⟨om, hcm, hdm⟩ := CL (L + 1, some (.int M tM)) List.mem_cons_self
  obtain ⟨oq, hcq, hdq⟩ := CL (L + 2, some (.int q tq)) (List.mem_cons_of_mem _ List.mem_cons_self)
  dsimp only at hcm hdm hcq hdq
  obtain ⟨vl, nl, hl1, hl2⟩ := hl.out
  have hvl : vl.length = 12 := hl2.length.trans hlen
  have hr' := hr.out
  obtain ⟨dr, t1, t2, u1, u2, hr1, hr2⟩ := hr'
  have hc1 := cut_len1 (q := q) hlen hn
  have hc2 := cut_len2 (q := q) hlen hn
  revert X
  k_fill
  intro X
  conv =>
    arg 3
    arg 1
    whnf
  k_steps
  (all_goals (try k_data))
  refine' k _ _ _ _ _ _ ?Sz1 ?Xz1 ?E0z1 ?E1z1 ?E2z1 ?E3z1
  case Sz1 =>
    refine ⟨fr_lk (by k_asm) _ ?l9z1, ?n9z1, ?t9z1, ?c9z1, ?g9z1, ?o9z1⟩
    case l9z1 => (repeat (first | exact List.forall_mem_nil _ | (refine List.forall_mem_cons.mpr ⟨?_, ?_⟩; exact rfl)))
    case n9z1 => k_asm
    case t9z1 => (repeat (first | with_reducible assumption | refine Tabs.sub ?_ (by with_reducible assumption) | refine Tabs.of1 ?_ (by with_reducible assumption) (by with_reducible assumption) (by with_reducible assumption) | refine Tabs.of2 ?_ (by with_reducible assumption) (by with_reducible assumption) (by with_reducible assumption) | refine Tabs.sub ?_ (fun p hp => List.mem_cons_of_mem _ hp)))
    case c9z1 => first | ((repeat (first | with_reducible assumption | refine Cells.sub ?_ (by with_reducible assumption) | refine Cells.of1 ?_ (by with_reducible assumption) | refine Cells.sub ?_ (fun p hp => List.mem_cons_of_mem _ hp))); done) | ((rename CellsTo _ _ _ _ => hC8); refine hC8 _ ?_; (repeat (first | exact List.forall_mem_nil _ | (refine List.forall_mem_cons.mpr ⟨?_, ?_⟩; first | (refine .inl ?_; exact rfl) | (refine .inr ⟨by simp, ?_⟩; first | exact Nat.ne_of_lt (by omega) | exact Nat.ne_of_gt (by omega))))))
    case g9z1 => first | assumption | exact G
    case o9z1 => (repeat (first | exact O | refine Eq.trans (by with_reducible assumption) ?_))
  case Xz1 => (repeat (first | exact ext_refl | with_reducible assumption | refine ext_trans ?_ (by with_reducible assumption) | refine ext_cons ?_ | refine ext_trans ?_ (ext_of (by with_reducible assumption)) | refine ext_trans ?_ (ext_of1 (by with_reducible assumption))))
  case E0z1 => tb_start
  case E1z1 => tb_start
  case E2z1 => exact Good.fmap hq (cut_len1 hlen hn)
  case E3z1 => exact Good.fmap hq (cut_len2 hlen hn)

set_option maxRecDepth 100000 in
set_option maxHeartbeats 8000000 in
theorem st3_7 {w : World} {p : Program} {loose : List Str} {mean : ExcName → Option Value} {mg mb : Str → Option Value} {h₀ : Heap} {L fa : Addr} {cd : Value} {os0 : OsState} {s : Shared} {Q : Flow → Shared → Prop} {E : Value → Shared → Prop}
    (B : Below callerA h₀ [] h₀) (X : (Mine.hd.heap_1 w.params).In h₀) (T : Top p loose mean mg mb h₀) {nx : List (Addr × Obj)}
    {n : Nat} (hn : n = 2 ∨ n = 4) {q : Int} (hq : 2 ≤ q) (hqb : Builtin.Int.intBits q ≤ 100) {M : Int} {tM tq : Tok} {e : Int} {r fx : Addr} {F : List Int} {te : Tok} {vj vg : Value} (hr : IsRing w nx r q n) (hf : IsPoly w nx r fx F) (gf : Good q n F) (he : 0 ≤ e) (S : St h₀ L os0 [(Str.ofString "ring", .ref r), (Str.ofString "e", .int e te), (Str.ofString "j", vj), (Str.ofString "f", .ref fx), (Str.ofString "g", vg)] [(L + 1, some (.int M tM)), (L + 2, some (.int q tq))] nx s)
    (k : ∀ s' nx' hx, St h₀ L os0 [(Str.ofString "e", .int e te), (Str.ofString "j", vj), (Str.ofString "f", .ref fx), (Str.ofString "g", vg), (Str.ofString "h", .ref hx)] [(L + 1, some (.int M tM)), (L + 2, some (.int q tq))] nx' s' → Ext nx nx' → IsPoly w nx' r hx (mulL q F (powSM q e.toNat (addI q 1 (0 :: 1 :: List.replicate (n - 2) 0)) (oneL n))) → Q .next s') :
    wpAny (model PySem.Challenge.rw_ay0009_03.row.prog w) (callerA.deeper (envOfC (Str.ofString "law") (lawDef PySem.Challenge.rw_ay0009_03.row.prog).2 L fa cd)) (exec (stm PySem.Challenge.rw_ay0009_03.row.prog 7) (envOfC (Str.ofString "law") (lawDef PySem.Challenge.rw_ay0009_03.row.prog).2 L fa cd)) Q E s := by
  obtain ⟨⟨m0, F⟩, N, ⟨⟨pa, ta, tra⟩, ⟨pc, tc, trc⟩⟩, CL, G, O⟩ := S
  simp only [lk] at F
  have TT : Tabs nx := ⟨⟨_, ta, tra⟩, ⟨_, tc, trc⟩⟩
  have hr' := hr.out
  obtain ⟨dr, t1, t2, u1, u2, hr1, hr2⟩ := hr'
  have hf' := hf.at_
  obtain ⟨df, lf, t3, t4, vf, nf, hf1, hf2, hf3, hf4⟩ := hf'
  have g1 : Good q n (0 :: 1 :: List.replicate (n - 2) 0) := Good.gen hq hn
  revert X
  k_fill
  intro X
  conv =>
    arg 3
    arg 1
    whnf
  k_steps
  (all_goals (try k_data))
  refine' k _ _ _ ?Sz1 ?Xz1 ?E0z1
  case Sz1 =>
    refine ⟨fr_lk (by k_asm) _ ?l9z1, ?n9z1, ?t9z1, ?c9z1, ?g9z1, ?o9z1⟩
    case l9z1 => (repeat (first | exact List.forall_mem_nil _ | (refine List.forall_mem_cons.mpr ⟨?_, ?_⟩; exact rfl)))
    case n9z1 => k_asm
    case t9z1 => (repeat (first | with_reducible assumption | refine Tabs.sub ?_ (by with_reducible assumption) | refine Tabs.of1 ?_ (by with_reducible assumption) (by with_reducible assumption) (by with_reducible assumption) | refine Tabs.of2 ?_ (by with_reducible assumption) (by with_reducible assumption) (by with_reducible assumption) | refine Tabs.sub ?_ (fun p hp => List.mem_cons_of_mem _ hp)))
    case c9z1 => first | ((repeat (first | with_reducible assumption | refine Cells.sub ?_ (by with_reducible assumption) | refine Cells.of1 ?_ (by with_reducible assumption) | refine Cells.sub ?_ (fun p hp => List.mem_cons_of_mem _ hp))); done) | ((rename CellsTo _ _ _ _ => hC8); refine hC8 _ ?_; (repeat (first | exact List.forall_mem_nil _ | (refine List.forall_mem_cons.mpr ⟨?_, ?_⟩; first | (refine .inl ?_; exact rfl) | (refine .inr ⟨by simp, ?_⟩; first | exact Nat.ne_of_lt (by omega) | exact Nat.ne_of_gt (by omega))))))
    case g9z1 => first | assumption | exact G
    case o9z1 => (repeat (first | exact O | refine Eq.trans (by with_reducible assumption) ?_))
  case Xz1 => (repeat (first | exact ext_refl | with_reducible assumption | refine ext_trans ?_ (by with_reducible assumption) | refine ext_cons ?_ | refine ext_trans ?_ (ext_of (by with_reducible assumption)) | refine ext_trans ?_ (ext_of1 (by with_reducible assumption))))
  case E0z1 => tb_start

set_option maxRecDepth 100000 in
set_option maxHeartbeats 8000000 in
theorem st3_8 {w : World} {p : Program} {loose : List Str} {mean : ExcName → Option Value} {mg mb : Str → Option Value} {h₀ : Heap} {L fa : Addr} {cd : Value} {os0 : OsState} {s : Shared} {Q : Flow → Shared → Prop} {E : Value → Shared → Prop}
    (B : Below callerA h₀ [] h₀) (X : (Mine.hd.heap_1 w.params).In h₀) (T : Top p loose mean mg mb h₀) {nx : List (Addr × Obj)}
    {n : Nat} (hn : n = 2 ∨ n = 4) {q : Int} (hq : 2 ≤ q) (hqb : Builtin.Int.intBits q ≤ 100) {M : Int} {tM tq : Tok} {fx gx : Value} {x r : Addr} {Hc : List Int} {ve vj : Value} (hM : 0 ≤ M) (hM12 : M ≤ 12) (hh : IsPoly w nx r x Hc) (gh : Good q n Hc) (S : St h₀ L os0 [(Str.ofString "e", ve), (Str.ofString "j", vj), (Str.ofString "f", fx), (Str.ofString "g", gx), (Str.ofString "h", .ref x)] [(L + 1, some (.int M tM)), (L + 2, some (.int q tq))] nx s)
    (k : ∀ s' nx' tw, St h₀ L os0 [(Str.ofString "e", ve), (Str.ofString "j", vj), (Str.ofString "f", fx), (Str.ofString "g", gx), (Str.ofString "h", .ref x), (Str.ofString "worth", .int (worthN M.toNat (normL Hc)) tw)] [(L + 1, some (.int M tM)), (L + 2, some (.int q tq))] nx' s' → Ext nx nx' → Q .next s') :
    wpAny (model PySem.Challenge.rw_ay0009_03.row.prog w) (callerA.deeper (envOfC (Str.ofString "law") (lawDef PySem.Challenge.rw_ay0009_03.row.prog).2 L fa cd)) (exec (stm PySem.Challenge.rw_ay0009_03.row.prog 8) (envOfC (Str.ofString "law") (lawDef PySem.Challenge.rw_ay0009_03.row.prog).2 L fa cd)) Q E s := by
  obtain ⟨⟨m0, F⟩, N, ⟨⟨pa, ta, tra⟩, ⟨pc, tc, trc⟩⟩, CL, G, O⟩ := S
  simp only [lk] at F
  have TT : Tabs nx := ⟨⟨_, ta, tra⟩, ⟨_, tc, trc⟩⟩
  obtain ⟨om, hcm, hdm⟩ := CL (L + 1, some (.int M tM)) List.mem_cons_self
  obtain ⟨oq, hcq, hdq⟩ := CL (L + 2, some (.int q tq)) (List.mem_cons_of_mem _ List.mem_cons_self)
  dsimp only at hcm hdm hcq hdq
  have hh' := hh.at_
  obtain ⟨dh, lh, t3h, t4h, vh, nh, hh1, hh2, hh3, hh4⟩ := hh'
  revert X
  k_fill
  intro X
  conv =>
    arg 3
    arg 1
    whnf
  k_steps
  (all_goals (try k_data))
  refine' k _ _ _ ?Sz1 ?Xz1 
  case Sz1 =>
    refine ⟨fr_lk (by k_asm) _ ?l9z1, ?n9z1, ?t9z1, ?c9z1, ?g9z1, ?o9z1⟩
    case l9z1 => (repeat (first | exact List.forall_mem_nil _ | (refine List.forall_mem_cons.mpr ⟨?_, ?_⟩; exact rfl)))
    case n9z1 => k_asm
    case t9z1 => (repeat (first | with_reducible assumption | refine Tabs.sub ?_ (by with_reducible assumption) | refine Tabs.of1 ?_ (by with_reducible assumption) (by with_reducible assumption) (by with_reducible assumption) | refine Tabs.of2 ?_ (by with_reducible assumption) (by with_reducible assumption) (by with_reducible assumption) | refine Tabs.sub ?_ (fun p hp => List.mem_cons_of_mem _ hp)))
    case c9z1 => first | ((repeat (first | with_reducible assumption | refine Cells.sub ?_ (by with_reducible assumption) | refine Cells.of1 ?_ (by with_reducible assumption) | refine Cells.sub ?_ (fun p hp => List.mem_cons_of_mem _ hp))); done) | ((rename CellsTo _ _ _ _ => hC8); refine hC8 _ ?_; (repeat (first | exact List.forall_mem_nil _ | (refine List.forall_mem_cons.mpr ⟨?_, ?_⟩; first | (refine .inl ?_; exact rfl) | (refine .inr ⟨by simp, ?_⟩; first | exact Nat.ne_of_lt (by omega) | exact Nat.ne_of_gt (by omega))))))
    case g9z1 => first | assumption | exact G
    case o9z1 => (repeat (first | exact O | refine Eq.trans (by with_reducible assumption) ?_))
  case Xz1 => (repeat (first | exact ext_refl | with_reducible assumption | refine ext_trans ?_ (by with_reducible assumption) | refine ext_cons ?_ | refine ext_trans ?_ (ext_of (by with_reducible assumption)) | refine ext_trans ?_ (ext_of1 (by with_reducible assumption))))

set_option maxRecDepth 100000 in
set_option maxHeartbeats 8000000 in
theorem st3_9 {w : World} {p : Program} {loose : List Str} {mean : ExcName → Option Value} {mg mb : Str → Option Value} {h₀ : Heap} {L fa : Addr} {cd : Value} {os0 : OsState} {s : Shared} {Q : Flow → Shared → Prop} {E : Value → Shared → Prop}
    (B : Below callerA h₀ [] h₀) (X : (Mine.hd.heap_1 w.params).In h₀) (T : Top p loose mean mg mb h₀) {nx : List (Addr × Obj)}
    {n : Nat} (hn : n = 2 ∨ n = 4) {q : Int} (hq : 2 ≤ q) (hqb : Builtin.Int.intBits q ≤ 100) {M : Int} {tM tq : Tok} {e j : Int} {te tj tw : Tok} {fx gx hx r : Addr} {Fc Gc Hc : List Int} (hM : 0 ≤ M) (hM12 : M ≤ 12) (he : 0 ≤ e) (hj : 0 ≤ j) (hr : IsRing w nx r q n) (hf : IsPoly w nx r fx Fc) (hg : IsPoly w nx r gx Gc) (hh : IsPoly w nx r hx Hc) (gf : Good q n Fc) (gg : Good q n Gc) (gh : Good q n Hc) (P1 : (worthN M.toNat (normL Hc) : Int) = min M (worthN M.toNat (normL Fc) + e)) (P2 : (worthN M.toNat (normL (mulL q Hc Gc)) : Int) = min M (worthN M.toNat (normL Hc) + worthN M.toNat (normL Gc))) (S : St h₀ L os0 [(Str.ofString "e", .int e te), (Str.ofString "j", .int j tj), (Str.ofString "f", .ref fx), (Str.ofString "g", .ref gx), (Str.ofString "h", .ref hx), (Str.ofString "worth", .int (worthN M.toNat (normL Hc)) tw)] [(L + 1, some (.int M tM)), (L + 2, some (.int q tq))] nx s)
    (k : ∀ s' nx', St h₀ L os0 [(Str.ofString "e", .int e te), (Str.ofString "j", .int j tj), (Str.ofString "f", .ref fx), (Str.ofString "g", .ref gx), (Str.ofString "h", .ref hx), (Str.ofString "worth", .int (worthN M.toNat (normL Hc)) tw)] [(L + 1, some (.int M tM)), (L + 2, some (.int q tq))] nx' s' → Ext nx nx' → Q .next s') :
    wpAny (model PySem.Challenge.rw_ay0009_03.row.prog w) (callerA.deeper (envOfC (Str.ofString "law") (lawDef PySem.Challenge.rw_ay0009_03.row.prog).2 L fa cd)) (exec (stm PySem.Challenge.rw_ay0009_03.row.prog 9) (envOfC (Str.ofString "law") (lawDef PySem.Challenge.rw_ay0009_03.row.prog).2 L fa cd)) Q E s := by
  obtain ⟨⟨m0, F⟩, N, ⟨⟨pa, ta, tra⟩, ⟨pc, tc, trc⟩⟩, CL, G, O⟩ := S
  simp only [lk] at F
  have TT : Tabs nx := ⟨⟨_, ta, tra⟩, ⟨_, tc, trc⟩⟩
  obtain ⟨om, hcm, hdm⟩ := CL (L + 1, some (.int M tM)) List.mem_cons_self
  obtain ⟨oq, hcq, hdq⟩ := CL (L + 2, some (.int q tq)) (List.mem_cons_of_mem _ List.mem_cons_self)
  dsimp only at hcm hdm hcq hdq
  have hh' := hh.at_
  obtain ⟨dh, lh, t3h, t4h, vh, nh, hh1, hh2, hh3, hh4⟩ := hh'
  have hf' := hf.at_
  obtain ⟨df, lf, t3f, t4f, vf, nf, hf1, hf2, hf3, hf4⟩ := hf'
  have hg' := hg.at_
  obtain ⟨dg, lg, t3g, t4g, vg, ng, hg1, hg2, hg3, hg4⟩ := hg'
  have hr' := hr.out
  obtain ⟨dr, t1, t2, u1, u2, hr1, hr2⟩ := hr'
  revert X
  k_fill
  intro X
  conv =>
    arg 3
    arg 1
    whnf
  k_steps
  (all_goals (try k_data))
  all_goals try (exfalso; omega)
  refine' k _ _ ?Sz1 ?Xz1 
  case Sz1 =>
    refine ⟨fr_lk (by k_asm) _ ?l9z1, ?n9z1, ?t9z1, ?c9z1, ?g9z1, ?o9z1⟩
    case l9z1 => (repeat (first | exact List.forall_mem_nil _ | (refine List.forall_mem_cons.mpr ⟨?_, ?_⟩; exact rfl)))
    case n9z1 => k_asm
    case t9z1 => (repeat (first | with_reducible assumption | refine Tabs.sub ?_ (by with_reducible assumption) | refine Tabs.of1 ?_ (by with_reducible assumption) (by with_reducible assumption) (by with_reducible assumption) | refine Tabs.of2 ?_ (by with_reducible assumption) (by with_reducible assumption) (by with_reducible assumption) | refine Tabs.sub ?_ (fun p hp => List.mem_cons_of_mem _ hp)))
    case c9z1 => first | ((repeat (first | with_reducible assumption | refine Cells.sub ?_ (by with_reducible assumption) | refine Cells.of1 ?_ (by with_reducible assumption) | refine Cells.sub ?_ (fun p hp => List.mem_cons_of_mem _ hp))); done) | ((rename CellsTo _ _ _ _ => hC8); refine hC8 _ ?_; (repeat (first | exact List.forall_mem_nil _ | (refine List.forall_mem_cons.mpr ⟨?_, ?_⟩; first | (refine .inl ?_; exact rfl) | (refine .inr ⟨by simp, ?_⟩; first | exact Nat.ne_of_lt (by omega) | exact Nat.ne_of_gt (by omega))))))
    case g9z1 => first | assumption | exact G
    case o9z1 => (repeat (first | exact O | refine Eq.trans (by with_reducible assumption) ?_))
  case Xz1 => (repeat (first | exact ext_refl | with_reducible assumption | refine ext_trans ?_ (by with_reducible assumption) | refine ext_cons ?_ | refine ext_trans ?_ (ext_of (by with_reducible assumption)) | refine ext_trans ?_ (ext_of1 (by with_reducible assumption))))

set_option maxRecDepth 100000 in
set_option maxHeartbeats 8000000 in
theorem st3_10 {w : World} {p : Program} {loose : List Str} {mean : ExcName → Option Value} {mg mb : Str → Option Value} {h₀ : Heap} {L fa : Addr} {cd : Value} {os0 : OsState} {s : Shared} {Q : Flow → Shared → Prop} {E : Value → Shared → Prop}
    (B : Below callerA h₀ [] h₀) (X : (Mine.hd.heap_1 w.params).In h₀) (T : Top p loose mean mg mb h₀) {nx : List (Addr × Obj)}
    {n : Nat} (hn : n = 2 ∨ n = 4) {q : Int} (hq : 2 ≤ q) (hqb : Builtin.Int.intBits q ≤ 100) {M : Int} {tM tq : Tok} {e j : Int} {te tj tw : Tok} {fx gx hx r : Addr} {Fc Gc Hc : List Int} (hM : 0 ≤ M) (hM12 : M ≤ 12) (he : 0 ≤ e) (hj : 0 ≤ j) (hr : IsRing w nx r q n) (hf : IsPoly w nx r fx Fc) (hg : IsPoly w nx r gx Gc) (hh : IsPoly w nx r hx Hc) (gf : Good q n Fc) (gg : Good q n Gc) (gh : Good q n Hc) (P3 : (powSM q j.toNat Hc (oneL n)).all (· == 0) = decide (j * worthN M.toNat (normL Hc) ≥ M)) (S : St h₀ L os0 [(Str.ofString "e", .int e te), (Str.ofString "j", .int j tj), (Str.ofString "f", .ref fx), (Str.ofString "g", .ref gx), (Str.ofString "h", .ref hx), (Str.ofString "worth", .int (worthN M.toNat (normL Hc)) tw)] [(L + 1, some (.int M tM)), (L + 2, some (.int q tq))] nx s)
    (k : ∀ s' nx', St h₀ L os0 [(Str.ofString "e", .int e te), (Str.ofString "j", .int j tj), (Str.ofString "f", .ref fx), (Str.ofString "g", .ref gx), (Str.ofString "h", .ref hx), (Str.ofString "worth", .int (worthN M.toNat (normL Hc)) tw)] [(L + 1, some (.int M tM)), (L + 2, some (.int q tq))] nx' s' → Ext nx nx' → Q .next s') :
    wpAny (model PySem.Challenge.rw_ay0009_03.row.prog w) (callerA.deeper (envOfC (Str.ofString "law") (lawDef PySem.Challenge.rw_ay0009_03.row.prog).2 L fa cd)) (exec (stm PySem.Challenge.rw_ay0009_03.row.prog 10) (envOfC (Str.ofString "law") (lawDef PySem.Challenge.rw_ay0009_03.row.prog).2 L fa cd)) Q E s := by
  obtain ⟨⟨m0, F⟩, N, ⟨⟨pa, ta, tra⟩, ⟨pc, tc, trc⟩⟩, CL, G, O⟩ := S
  simp only [lk] at F
  have TT : Tabs nx := ⟨⟨_, ta, tra⟩, ⟨_, tc, trc⟩⟩
  have hw64 : Builtin.Int.intBits (worthN M.toNat (normL Hc) : Int) ≤ 64 := by
    have hw12 := worthN_le M.toNat (normL Hc)
    exact intBits_le_64 (by omega) (by omega)
  obtain ⟨om, hcm, hdm⟩ := CL (L + 1, some (.int M tM)) List.mem_cons_self
  obtain ⟨oq, hcq, hdq⟩ := CL (L + 2, some (.int q tq)) (List.mem_cons_of_mem _ List.mem_cons_self)
  dsimp only at hcm hdm hcq hdq
  have hh' := hh.at_
  obtain ⟨dh, lh, t3h, t4h, vh, nh, hh1, hh2, hh3, hh4⟩ := hh'
  have hf' := hf.at_
  obtain ⟨df, lf, t3f, t4f, vf, nf, hf1, hf2, hf3, hf4⟩ := hf'
  have hg' := hg.at_
  obtain ⟨dg, lg, t3g, t4g, vg, ng, hg1, hg2, hg3, hg4⟩ := hg'
  have hr' := hr.out
  obtain ⟨dr, t1, t2, u1, u2, hr1, hr2⟩ := hr'
  revert X
  k_fill
  intro X
  conv =>
    arg 3
    arg 1
    whnf
  k_steps
  (all_goals (try k_data))
  all_goals try (exfalso; (rename (_ != _) = true => hb9); rw [P3] at hb9; simp at hb9)
  refine' k _ _ ?Sz1 ?Xz1 
  case Sz1 =>
    refine ⟨fr_lk (by k_asm) _ ?l9z1, ?n9z1, ?t9z1, ?c9z1, ?g9z1, ?o9z1⟩
    case l9z1 => (repeat (first | exact List.forall_mem_nil _ | (refine List.forall_mem_cons.mpr ⟨?_, ?_⟩; exact rfl)))
    case n9z1 => k_asm
    case t9z1 => (repeat (first | with_reducible assumption | refine Tabs.sub ?_ (by with_reducible assumption) | refine Tabs.of1 ?_ (by with_reducible assumption) (by with_reducible assumption) (by with_reducible assumption) | refine Tabs.of2 ?_ (by with_reducible assumption) (by with_reducible assumption) (by with_reducible assumption) | refine Tabs.sub ?_ (fun p hp => List.mem_cons_of_mem _ hp)))
    case c9z1 => first | ((repeat (first | with_reducible assumption | refine Cells.sub ?_ (by with_reducible assumption) | refine Cells.of1 ?_ (by with_reducible assumption) | refine Cells.sub ?_ (fun p hp => List.mem_cons_of_mem _ hp))); done) | ((rename CellsTo _ _ _ _ => hC8); refine hC8 _ ?_; (repeat (first | exact List.forall_mem_nil _ | (refine List.forall_mem_cons.mpr ⟨?_, ?_⟩; first | (refine .inl ?_; exact rfl) | (refine .inr ⟨by simp, ?_⟩; first | exact Nat.ne_of_lt (by omega) | exact Nat.ne_of_gt (by omega))))))
    case g9z1 => first | assumption | exact G
    case o9z1 => (repeat (first | exact O | refine Eq.trans (by with_reducible assumption) ?_))
  case Xz1 => (repeat (first | exact ext_refl | with_reducible assumption | refine ext_trans ?_ (by with_reducible assumption) | refine ext_cons ?_ | refine ext_trans ?_ (ext_of (by with_reducible assumption)) | refine ext_trans ?_ (ext_of1 (by with_reducible assumption))))

set_option maxRecDepth 100000 in
set_option maxHeartbeats 8000000 in
theorem st3_11 {w : World} {p : Program} {loose : List Str} {mean : ExcName → Option Value} {mg mb : Str → Option Value} {h₀ : Heap} {L fa : Addr} {cd : Value} {os0 : OsState} {s : Shared} {Q : Flow → Shared → Prop} {E : Value → Shared → Prop}
    (B : Below callerA h₀ [] h₀) (X : (Mine.hd.heap_1 w.params).In h₀) (T : Top p loose mean mg mb h₀) {nx : List (Addr × Obj)}
    {n : Nat} (hn : n = 2 ∨ n = 4) {q : Int} (hq : 2 ≤ q) (hqb : Builtin.Int.intBits q ≤ 100) {M : Int} {tM tq : Tok} {e j : Int} {te tj tw : Tok} {fx gx hx r : Addr} {Fc Gc Hc : List Int} (hM : 0 ≤ M) (hM12 : M ≤ 12) (he : 0 ≤ e) (hj : 0 ≤ j) (hr : IsRing w nx r q n) (hf : IsPoly w nx r fx Fc) (hg : IsPoly w nx r gx Gc) (hh : IsPoly w nx r hx Hc) (gf : Good q n Fc) (gg : Good q n Gc) (gh : Good q n Hc) (P4 : ((worthN M.toNat (normL Gc) : Int) = 0 ∧ (worthN M.toNat (normL (addI q 1 Gc)) : Int) ≠ 0) ∨ ((worthN M.toNat (normL Gc) : Int) ≠ 0 ∧ (worthN M.toNat (normL (addI q 1 Gc)) : Int) = 0)) (S : St h₀ L os0 [(Str.ofString "e", .int e te), (Str.ofString "j", .int j tj), (Str.ofString "f", .ref fx), (Str.ofString "g", .ref gx), (Str.ofString "h", .ref hx), (Str.ofString "worth", .int (worthN M.toNat (normL Hc)) tw)] [(L + 1, some (.int M tM)), (L + 2, some (.int q tq))] nx s)
    (k : ∀ s' nx' ls ox Dc, St h₀ L os0 [(Str.ofString "sides", .ref ls)] [(L + 1, some (.int M tM)), (L + 2, some (.int q tq))] nx' s' → Ext nx nx' → IsRing w nx' r q n → IsPoly w nx' r ox Dc → Good q n Dc → (Dc = Gc ∨ Dc = addI q 1 Gc) → (worthN M.toNat (normL Dc) : Int) = 0 → (∃ nl, (ls, W.listOf #[.ref ox] nl) ∈ nx') → Q .next s') :
    wpAny (model PySem.Challenge.rw_ay0009_03.row.prog w) (callerA.deeper (envOfC (Str.ofString "law") (lawDef PySem.Challenge.rw_ay0009_03.row.prog).2 L fa cd)) (exec (stm PySem.Challenge.rw_ay0009_03.row.prog 11) (envOfC (Str.ofString "law") (lawDef PySem.Challenge.rw_ay0009_03.row.prog).2 L fa cd)) Q E s := by
  obtain ⟨⟨m0, F⟩, N, ⟨⟨pa, ta, tra⟩, ⟨pc, tc, trc⟩⟩, CL, G, O⟩ := S
  simp only [lk] at F
  have TT : Tabs nx := ⟨⟨_, ta, tra⟩, ⟨_, tc, trc⟩⟩
  obtain ⟨om, hcm, hdm⟩ := CL (L + 1, some (.int M tM)) List.mem_cons_self
  obtain ⟨oq, hcq, hdq⟩ := CL (L + 2, some (.int q tq)) (List.mem_cons_of_mem _ List.mem_cons_self)
  dsimp only at hcm hdm hcq hdq
  have hg' := hg.at_
  obtain ⟨dg, lg, t3g, t4g, vg, ng, hg1, hg2, hg3, hg4⟩ := hg'
  have hr' := hr.out
  obtain ⟨dr, t1, t2, u1, u2, hr1, hr2⟩ := hr'
  revert X
  k_fill
  intro X
  conv =>
    arg 3
    arg 1
    whnf
  k_steps
  (all_goals (try k_data))
  all_goals try (exfalso; rcases P4 with ⟨p1, p2⟩ | ⟨p1, p2⟩ <;> first | exact absurd p1 (by assumption) | exact absurd p2 (by assumption) | exact absurd (by assumption) p1 | exact absurd (by assumption) p2)
  · refine' k _ _ _ gx Gc ?Sz1 ?Xz1 ?E0z1 ?E1z1 ?E2z1 ?E3z1 ?E4z1 ?E5z1
    case Sz1 =>
      refine ⟨fr_lk (by k_asm) _ ?l9z1, ?n9z1, ?t9z1, ?c9z1, ?g9z1, ?o9z1⟩
      case l9z1 => (repeat (first | exact List.forall_mem_nil _ | (refine List.forall_mem_cons.mpr ⟨?_, ?_⟩; exact rfl)))
      case n9z1 => k_asm
      case t9z1 => (repeat (first | with_reducible assumption | refine Tabs.sub ?_ (by with_reducible assumption) | refine Tabs.of1 ?_ (by with_reducible assumption) (by with_reducible assumption) (by with_reducible assumption) | refine Tabs.of2 ?_ (by with_reducible assumption) (by with_reducible assumption) (by with_reducible assumption) | refine Tabs.sub ?_ (fun p hp => List.mem_cons_of_mem _ hp)))
      case c9z1 => first | ((repeat (first | with_reducible assumption | refine Cells.sub ?_ (by with_reducible assumption) | refine Cells.of1 ?_ (by with_reducible assumption) | refine Cells.sub ?_ (fun p hp => List.mem_cons_of_mem _ hp))); done) | ((rename CellsTo _ _ _ _ => hC8); refine hC8 _ ?_; (repeat (first | exact List.forall_mem_nil _ | (refine List.forall_mem_cons.mpr ⟨?_, ?_⟩; first | (refine .inl ?_; exact rfl) | (refine .inr ⟨by simp, ?_⟩; first | exact Nat.ne_of_lt (by omega) | exact Nat.ne_of_gt (by omega))))))
      case g9z1 => first | assumption | exact G
      case o9z1 => (repeat (first | exact O | refine Eq.trans (by with_reducible assumption) ?_))
    case Xz1 => (repeat (first | exact ext_refl | with_reducible assumption | refine ext_trans ?_ (by with_reducible assumption) | refine ext_cons ?_ | refine ext_trans ?_ (ext_of (by with_reducible assumption)) | refine ext_trans ?_ (ext_of1 (by with_reducible assumption))))
    case E0z1 => ktd_rel
    case E1z1 => tb_start
    case E2z1 => assumption
    case E3z1 => exact .inl rfl
    case E4z1 => assumption
    case E5z1 => exact ⟨_, List.mem_cons_self⟩
  · refine' k _ _ _ _ _ ?Sz2 ?Xz2 ?E0z2 ?E1z2 ?E2z2 ?E3z2 ?E4z2 ?E5z2
    case Sz2 =>
      refine ⟨fr_lk (by k_asm) _ ?l9z2, ?n9z2, ?t9z2, ?c9z2, ?g9z2, ?o9z2⟩
      case l9z2 => (repeat (first | exact List.forall_mem_nil _ | (refine List.forall_mem_cons.mpr ⟨?_, ?_⟩; exact rfl)))
      case n9z2 => k_asm
      case t9z2 => (repeat (first | with_reducible assumption | refine Tabs.sub ?_ (by with_reducible assumption) | refine Tabs.of1 ?_ (by with_reducible assumption) (by with_reducible assumption) (by with_reducible assumption) | refine Tabs.of2 ?_ (by with_reducible assumption) (by with_reducible assumption) (by with_reducible assumption) | refine Tabs.sub ?_ (fun p hp => List.mem_cons_of_mem _ hp)))
      case c9z2 => first | ((repeat (first | with_reducible assumption | refine Cells.sub ?_ (by with_reducible assumption) | refine Cells.of1 ?_ (by with_reducible assumption) | refine Cells.sub ?_ (fun p hp => List.mem_cons_of_mem _ hp))); done) | ((rename CellsTo _ _ _ _ => hC8); refine hC8 _ ?_; (repeat (first | exact List.forall_mem_nil _ | (refine List.forall_mem_cons.mpr ⟨?_, ?_⟩; first | (refine .inl ?_; exact rfl) | (refine .inr ⟨by simp, ?_⟩; first | exact Nat.ne_of_lt (by omega) | exact Nat.ne_of_gt (by omega))))))
      case g9z2 => first | assumption | exact G
      case o9z2 => (repeat (first | exact O | refine Eq.trans (by with_reducible assumption) ?_))
    case Xz2 => (repeat (first | exact ext_refl | with_reducible assumption | refine ext_trans ?_ (by with_reducible assumption) | refine ext_cons ?_ | refine ext_trans ?_ (ext_of (by with_reducible assumption)) | refine ext_trans ?_ (ext_of1 (by with_reducible assumption))))
    case E0z2 => ktd_rel
    case E1z2 => tb_start
    case E2z2 => tb_rel
    case E3z2 => exact .inr rfl
    case E4z2 => assumption
    case E5z2 => exact ⟨_, List.mem_cons_self⟩

set_option maxRecDepth 100000 in
set_option maxHeartbeats 8000000 in
theorem st3_12 {w : World} {p : Program} {loose : List Str} {mean : ExcName → Option Value} {mg mb : Str → Option Value} {h₀ : Heap} {L fa : Addr} {cd : Value} {os0 : OsState} {s : Shared} {Q : Flow → Shared → Prop} {E : Value → Shared → Prop}
    (B : Below callerA h₀ [] h₀) (X : (Mine.hd.heap_1 w.params).In h₀) (T : Top p loose mean mg mb h₀) {nx : List (Addr × Obj)}
    {n : Nat} (hn : n = 2 ∨ n = 4) {q : Int} (hq : 2 ≤ q) (hqb : Builtin.Int.intBits q ≤ 100) {M : Int} {tM tq : Tok} {ls ox r : Addr} {nl : Nat} {Dc : List Int} (hM : 1 ≤ M) (hM12 : M ≤ 12) (hr : IsRing w nx r q n) (hl : (ls, W.listOf #[.ref ox] nl) ∈ nx) (hy : IsPoly w nx r ox Dc) (go : Good q n Dc) (P5 : eqI q 1 (mulL q Dc (powSM q ((2 : Int) ^ (M - 1).toNat - 1).toNat Dc (oneL n))) = true) (S : St h₀ L os0 [(Str.ofString "sides", .ref ls)] [(L + 1, some (.int M tM)), (L + 2, some (.int q tq))] nx s)
    (k : ∀ s' nx', St h₀ L os0 [] [(L + 1, some (.int M tM)), (L + 2, some (.int q tq))] nx' s' → Ext nx nx' → Q (.ret (.bool true)) s') :
    wpAny (model PySem.Challenge.rw_ay0009_03.row.prog w) (callerA.deeper (envOfC (Str.ofString "law") (lawDef PySem.Challenge.rw_ay0009_03.row.prog).2 L fa cd)) (exec (stm PySem.Challenge.rw_ay0009_03.row.prog 12) (envOfC (Str.ofString "law") (lawDef PySem.Challenge.rw_ay0009_03.row.prog).2 L fa cd)) Q E s := by
  obtain ⟨⟨m0, F⟩, N, ⟨⟨pa, ta, tra⟩, ⟨pc, tc, trc⟩⟩, CL, G, O⟩ := S
  simp only [lk] at F
  have TT : Tabs nx := ⟨⟨_, ta, tra⟩, ⟨_, tc, trc⟩⟩
  obtain ⟨om, hcm, hdm⟩ := CL (L + 1, some (.int M tM)) List.mem_cons_self
  obtain ⟨oq, hcq, hdq⟩ := CL (L + 2, some (.int q tq)) (List.mem_cons_of_mem _ List.mem_cons_self)
  dsimp only at hcm hdm hcq hdq
  have hy' := hy.at_
  obtain ⟨dy, ly, t3y, t4y, vy, ny, hy1, hy2, hy3, hy4⟩ := hy'
  have hr' := hr.out
  obtain ⟨dr, t1, t2, u1, u2, hr1, hr2⟩ := hr'
  have hpk := pow2_nonneg (M - 1).toNat
  revert X
  k_fill
  intro X
  conv =>
    arg 3
    arg 1
    whnf
  k_steps
  (all_goals (try k_data))
  rw [P5]
  refine' k _ _ ?Sz1 ?Xz1 
  case Sz1 =>
    refine ⟨fr_lk (by k_asm) _ ?l9z1, ?n9z1, ?t9z1, ?c9z1, ?g9z1, ?o9z1⟩
    case l9z1 => (repeat (first | exact List.forall_mem_nil _ | (refine List.forall_mem_cons.mpr ⟨?_, ?_⟩; exact rfl)))
    case n9z1 => k_asm
    case t9z1 => (repeat (first | with_reducible assumption | refine Tabs.sub ?_ (by with_reducible assumption) | refine Tabs.of1 ?_ (by with_reducible assumption) (by with_reducible assumption) (by with_reducible assumption) | refine Tabs.of2 ?_ (by with_reducible assumption) (by with_reducible assumption) (by with_reducible assumption) | refine Tabs.sub ?_ (fun p hp => List.mem_cons_of_mem _ hp)))
    case c9z1 => first | ((repeat (first | with_reducible assumption | refine Cells.sub ?_ (by with_reducible assumption) | refine Cells.of1 ?_ (by with_reducible assumption) | refine Cells.sub ?_ (fun p hp => List.mem_cons_of_mem _ hp))); done) | ((rename CellsTo _ _ _ _ => hC8); refine hC8 _ ?_; (repeat (first | exact List.forall_mem_nil _ | (refine List.forall_mem_cons.mpr ⟨?_, ?_⟩; first | (refine .inl ?_; exact rfl) | (refine .inr ⟨by simp, ?_⟩; first | exact Nat.ne_of_lt (by omega) | exact Nat.ne_of_gt (by omega))))))
    case g9z1 => first | assumption | exact G
    case o9z1 => (repeat (first | exact O | refine Eq.trans (by with_reducible assumption) ?_))
  case Xz1 => (repeat (first | exact ext_refl | with_reducible assumption | refine ext_trans ?_ (by with_reducible assumption) | refine ext_cons ?_ | refine ext_trans ?_ (ext_of (by with_reducible assumption)) | refine ext_trans ?_ (ext_of1 (by with_reducible assumption))))

end
section
open Lean.Grind
structure P2 where
  a : Int
  b : Int
structure P4 where
  a : Int
  b : Int
  c : Int
  d : Int
theorem P2.ext' {x y : P2} (h1 : x.a = y.a) (h2 : x.b = y.b) : x = y := by cases x; cases y; simp_all
theorem P4.ext' {x y : P4} (h1 : x.a = y.a) (h2 : x.b = y.b) (h3 : x.c = y.c) (h4 : x.d = y.d) : x = y := by cases x; cases y; simp_all
def P2.mul (x y : P2) : P2 := ⟨x.a * y.a - x.b * y.b, x.a * y.b + x.b * y.a⟩
def P4.mul (x y : P4) : P4 := ⟨x.a * y.a - x.b * y.d - x.c * y.c - x.d * y.b, x.a * y.b + x.b * y.a - x.c * y.d - x.d * y.c, x.a * y.c + x.b * y.b + x.c * y.a - x.d * y.d, x.a * y.d + x.b * y.c + x.c * y.b + x.d * y.a⟩
def P2.pow (x : P2) : Nat → P2
  | 0 => ⟨1, 0⟩
  | n + 1 => (P2.pow x n).mul x
def P4.pow (x : P4) : Nat → P4
  | 0 => ⟨1, 0, 0, 0⟩
  | n + 1 => (P4.pow x n).mul x
abbrev P2.ring : CommRing P2 where
  add x y := ⟨x.a + y.a, x.b + y.b⟩
  mul := P2.mul
  natCast := ⟨fun n => ⟨n, 0⟩⟩
  ofNat n := ⟨⟨n, 0⟩⟩
  nsmul := ⟨fun n x => P2.mul ⟨n, 0⟩ x⟩
  npow := ⟨P2.pow⟩
  add_zero x := P2.ext' (Int.add_zero _) (Int.add_zero _)
  add_comm x y := P2.ext' (Int.add_comm _ _) (Int.add_comm _ _)
  add_assoc x y z := P2.ext' (Int.add_assoc _ _ _) (Int.add_assoc _ _ _)
  mul_assoc x y z := P2.ext' (show (P2.mul (P2.mul x y) z).a = (P2.mul x (P2.mul y z)).a from by simp only [P2.mul]; grind) (show (P2.mul (P2.mul x y) z).b = (P2.mul x (P2.mul y z)).b from by simp only [P2.mul]; grind)
  mul_one x := P2.ext' (show (P2.mul x ⟨1, 0⟩).a = (x).a from by simp only [P2.mul]; grind) (show (P2.mul x ⟨1, 0⟩).b = (x).b from by simp only [P2.mul]; grind)
  one_mul x := P2.ext' (show (P2.mul ⟨1, 0⟩ x).a = (x).a from by simp only [P2.mul]; grind) (show (P2.mul ⟨1, 0⟩ x).b = (x).b from by simp only [P2.mul]; grind)
  left_distrib x y z := P2.ext' (show (P2.mul x ⟨y.a + z.a, y.b + z.b⟩).a = ((⟨(P2.mul x y).a + (P2.mul x z).a, (P2.mul x y).b + (P2.mul x z).b⟩ : P2)).a from by simp only [P2.mul]; grind) (show (P2.mul x ⟨y.a + z.a, y.b + z.b⟩).b = ((⟨(P2.mul x y).a + (P2.mul x z).a, (P2.mul x y).b + (P2.mul x z).b⟩ : P2)).b from by simp only [P2.mul]; grind)
  right_distrib x y z := P2.ext' (show (P2.mul ⟨x.a + y.a, x.b + y.b⟩ z).a = ((⟨(P2.mul x z).a + (P2.mul y z).a, (P2.mul x z).b + (P2.mul y z).b⟩ : P2)).a from by simp only [P2.mul]; grind) (show (P2.mul ⟨x.a + y.a, x.b + y.b⟩ z).b = ((⟨(P2.mul x z).a + (P2.mul y z).a, (P2.mul x z).b + (P2.mul y z).b⟩ : P2)).b from by simp only [P2.mul]; grind)
  zero_mul x := P2.ext' (show (P2.mul ⟨0, 0⟩ x).a = ((⟨0, 0⟩ : P2)).a from by simp only [P2.mul]; grind) (show (P2.mul ⟨0, 0⟩ x).b = ((⟨0, 0⟩ : P2)).b from by simp only [P2.mul]; grind)
  mul_zero x := P2.ext' (show (P2.mul x ⟨0, 0⟩).a = ((⟨0, 0⟩ : P2)).a from by simp only [P2.mul]; grind) (show (P2.mul x ⟨0, 0⟩).b = ((⟨0, 0⟩ : P2)).b from by simp only [P2.mul]; grind)
  pow_zero x := rfl
  pow_succ x n := rfl
  ofNat_succ n := P2.ext' (show ((n + 1 : Nat) : Int) = (n : Int) + 1 from rfl) rfl
  neg x := ⟨-x.a, -x.b⟩
  sub x y := ⟨x.a - y.a, x.b - y.b⟩
  intCast := ⟨fun n => ⟨n, 0⟩⟩
  zsmul := ⟨fun n x => P2.mul ⟨n, 0⟩ x⟩
  neg_add_cancel x := P2.ext' (Int.add_left_neg _) (Int.add_left_neg _)
  sub_eq_add_neg x y := P2.ext' Int.sub_eq_add_neg Int.sub_eq_add_neg
  neg_zsmul i x := P2.ext' (show (P2.mul ⟨-i, 0⟩ x).a = ((⟨-(P2.mul ⟨i, 0⟩ x).a, -(P2.mul ⟨i, 0⟩ x).b⟩ : P2)).a from by simp only [P2.mul]; grind) (show (P2.mul ⟨-i, 0⟩ x).b = ((⟨-(P2.mul ⟨i, 0⟩ x).a, -(P2.mul ⟨i, 0⟩ x).b⟩ : P2)).b from by simp only [P2.mul]; grind)
  intCast_neg i := P2.ext' rfl (show (0:Int) = -0 from rfl)
  mul_comm x y := P2.ext' (show (P2.mul x y).a = (P2.mul y x).a from by simp only [P2.mul]; grind) (show (P2.mul x y).b = (P2.mul y x).b from by simp only [P2.mul]; grind)
abbrev P4.ring : CommRing P4 where
  add x y := ⟨x.a + y.a, x.b + y.b, x.c + y.c, x.d + y.d⟩
  mul := P4.mul
  natCast := ⟨fun n => ⟨n, 0, 0, 0⟩⟩
  ofNat n := ⟨⟨n, 0, 0, 0⟩⟩
  nsmul := ⟨fun n x => P4.mul ⟨n, 0, 0, 0⟩ x⟩
  npow := ⟨P4.pow⟩
  add_zero x := P4.ext' (Int.add_zero _) (Int.add_zero _) (Int.add_zero _) (Int.add_zero _)
  add_comm x y := P4.ext' (Int.add_comm _ _) (Int.add_comm _ _) (Int.add_comm _ _) (Int.add_comm _ _)
  add_assoc x y z := P4.ext' (Int.add_assoc _ _ _) (Int.add_assoc _ _ _) (Int.add_assoc _ _ _) (Int.add_assoc _ _ _)
  mul_assoc x y z := P4.ext' (show (P4.mul (P4.mul x y) z).a = (P4.mul x (P4.mul y z)).a from by simp only [P4.mul]; grind) (show (P4.mul (P4.mul x y) z).b = (P4.mul x (P4.mul y z)).b from by simp only [P4.mul]; grind) (show (P4.mul (P4.mul x y) z).c = (P4.mul x (P4.mul y z)).c from by simp only [P4.mul]; grind) (show (P4.mul (P4.mul x y) z).d = (P4.mul x (P4.mul y z)).d from by simp only [P4.mul]; grind)
  mul_one x := P4.ext' (show (P4.mul x ⟨1, 0, 0, 0⟩).a = (x).a from by simp only [P4.mul]; grind) (show (P4.mul x ⟨1, 0, 0, 0⟩).b = (x).b from by simp only [P4.mul]; grind) (show (P4.mul x ⟨1, 0, 0, 0⟩).c = (x).c from by simp only [P4.mul]; grind) (show (P4.mul x ⟨1, 0, 0, 0⟩).d = (x).d from by simp only [P4.mul]; grind)
  one_mul x := P4.ext' (show (P4.mul ⟨1, 0, 0, 0⟩ x).a = (x).a from by simp only [P4.mul]; grind) (show (P4.mul ⟨1, 0, 0, 0⟩ x).b = (x).b from by simp only [P4.mul]; grind) (show (P4.mul ⟨1, 0, 0, 0⟩ x).c = (x).c from by simp only [P4.mul]; grind) (show (P4.mul ⟨1, 0, 0, 0⟩ x).d = (x).d from by simp only [P4.mul]; grind)
  left_distrib x y z := P4.ext' (show (P4.mul x ⟨y.a + z.a, y.b + z.b, y.c + z.c, y.d + z.d⟩).a = ((⟨(P4.mul x y).a + (P4.mul x z).a, (P4.mul x y).b + (P4.mul x z).b, (P4.mul x y).c + (P4.mul x z).c, (P4.mul x y).d + (P4.mul x z).d⟩ : P4)).a from by simp only [P4.mul]; grind) (show (P4.mul x ⟨y.a + z.a, y.b + z.b, y.c + z.c, y.d + z.d⟩).b = ((⟨(P4.mul x y).a + (P4.mul x z).a, (P4.mul x y).b + (P4.mul x z).b, (P4.mul x y).c + (P4.mul x z).c, (P4.mul x y).d + (P4.mul x z).d⟩ : P4)).b from by simp only [P4.mul]; grind) (show (P4.mul x ⟨y.a + z.a, y.b + z.b, y.c + z.c, y.d + z.d⟩).c = ((⟨(P4.mul x y).a + (P4.mul x z).a, (P4.mul x y).b + (P4.mul x z).b, (P4.mul x y).c + (P4.mul x z).c, (P4.mul x y).d + (P4.mul x z).d⟩ : P4)).c from by simp only [P4.mul]; grind) (show (P4.mul x ⟨y.a + z.a, y.b + z.b, y.c + z.c, y.d + z.d⟩).d = ((⟨(P4.mul x y).a + (P4.mul x z).a, (P4.mul x y).b + (P4.mul x z).b, (P4.mul x y).c + (P4.mul x z).c, (P4.mul x y).d + (P4.mul x z).d⟩ : P4)).d from by simp only [P4.mul]; grind)
  right_distrib x y z := P4.ext' (show (P4.mul ⟨x.a + y.a, x.b + y.b, x.c + y.c, x.d + y.d⟩ z).a = ((⟨(P4.mul x z).a + (P4.mul y z).a, (P4.mul x z).b + (P4.mul y z).b, (P4.mul x z).c + (P4.mul y z).c, (P4.mul x z).d + (P4.mul y z).d⟩ : P4)).a from by simp only [P4.mul]; grind) (show (P4.mul ⟨x.a + y.a, x.b + y.b, x.c + y.c, x.d + y.d⟩ z).b = ((⟨(P4.mul x z).a + (P4.mul y z).a, (P4.mul x z).b + (P4.mul y z).b, (P4.mul x z).c + (P4.mul y z).c, (P4.mul x z).d + (P4.mul y z).d⟩ : P4)).b from by simp only [P4.mul]; grind) (show (P4.mul ⟨x.a + y.a, x.b + y.b, x.c + y.c, x.d + y.d⟩ z).c = ((⟨(P4.mul x z).a + (P4.mul y z).a, (P4.mul x z).b + (P4.mul y z).b, (P4.mul x z).c + (P4.mul y z).c, (P4.mul x z).d + (P4.mul y z).d⟩ : P4)).c from by simp only [P4.mul]; grind) (show (P4.mul ⟨x.a + y.a, x.b + y.b, x.c + y.c, x.d + y.d⟩ z).d = ((⟨(P4.mul x z).a + (P4.mul y z).a, (P4.mul x z).b + (P4.mul y z).b, (P4.mul x z).c + (P4.mul y z).c, (P4.mul x z).d + (P4.mul y z).d⟩ : P4)).d from by simp only [P4.mul]; grind)
  zero_mul x := P4.ext' (show (P4.mul ⟨0, 0, 0, 0⟩ x).a = ((⟨0, 0, 0, 0⟩ : P4)).a from by simp only [P4.mul]; grind) (show (P4.mul ⟨0, 0, 0, 0⟩ x).b = ((⟨0, 0, 0, 0⟩ : P4)).b from by simp only [P4.mul]; grind) (show (P4.mul ⟨0, 0, 0, 0⟩ x).c = ((⟨0, 0, 0, 0⟩ : P4)).c from by simp only [P4.mul]; grind) (show (P4.mul ⟨0, 0, 0, 0⟩ x).d = ((⟨0, 0, 0, 0⟩ : P4)).d from by simp only [P4.mul]; grind)
  mul_zero x := P4.ext' (show (P4.mul x ⟨0, 0, 0, 0⟩).a = ((⟨0, 0, 0, 0⟩ : P4)).a from by simp only [P4.mul]; grind) (show (P4.mul x ⟨0, 0, 0, 0⟩).b = ((⟨0, 0, 0, 0⟩ : P4)).b from by simp only [P4.mul]; grind) (show (P4.mul x ⟨0, 0, 0, 0⟩).c = ((⟨0, 0, 0, 0⟩ : P4)).c from by simp only [P4.mul]; grind) (show (P4.mul x ⟨0, 0, 0, 0⟩).d = ((⟨0, 0, 0, 0⟩ : P4)).d from by simp only [P4.mul]; grind)
  pow_zero x := rfl
  pow_succ x n := rfl
  ofNat_succ n := P4.ext' (show ((n + 1 : Nat) : Int) = (n : Int) + 1 from rfl) rfl rfl rfl
  neg x := ⟨-x.a, -x.b, -x.c, -x.d⟩
  sub x y := ⟨x.a - y.a, x.b - y.b, x.c - y.c, x.d - y.d⟩
  intCast := ⟨fun n => ⟨n, 0, 0, 0⟩⟩
  zsmul := ⟨fun n x => P4.mul ⟨n, 0, 0, 0⟩ x⟩
  neg_add_cancel x := P4.ext' (Int.add_left_neg _) (Int.add_left_neg _) (Int.add_left_neg _) (Int.add_left_neg _)
  sub_eq_add_neg x y := P4.ext' Int.sub_eq_add_neg Int.sub_eq_add_neg Int.sub_eq_add_neg Int.sub_eq_add_neg
  neg_zsmul i x := P4.ext' (show (P4.mul ⟨-i, 0, 0, 0⟩ x).a = ((⟨-(P4.mul ⟨i, 0, 0, 0⟩ x).a, -(P4.mul ⟨i, 0, 0, 0⟩ x).b, -(P4.mul ⟨i, 0, 0, 0⟩ x).c, -(P4.mul ⟨i, 0, 0, 0⟩ x).d⟩ : P4)).a from by simp only [P4.mul]; grind) (show (P4.mul ⟨-i, 0, 0, 0⟩ x).b = ((⟨-(P4.mul ⟨i, 0, 0, 0⟩ x).a, -(P4.mul ⟨i, 0, 0, 0⟩ x).b, -(P4.mul ⟨i, 0, 0, 0⟩ x).c, -(P4.mul ⟨i, 0, 0, 0⟩ x).d⟩ : P4)).b from by simp only [P4.mul]; grind) (show (P4.mul ⟨-i, 0, 0, 0⟩ x).c = ((⟨-(P4.mul ⟨i, 0, 0, 0⟩ x).a, -(P4.mul ⟨i, 0, 0, 0⟩ x).b, -(P4.mul ⟨i, 0, 0, 0⟩ x).c, -(P4.mul ⟨i, 0, 0, 0⟩ x).d⟩ : P4)).c from by simp only [P4.mul]; grind) (show (P4.mul ⟨-i, 0, 0, 0⟩ x).d = ((⟨-(P4.mul ⟨i, 0, 0, 0⟩ x).a, -(P4.mul ⟨i, 0, 0, 0⟩ x).b, -(P4.mul ⟨i, 0, 0, 0⟩ x).c, -(P4.mul ⟨i, 0, 0, 0⟩ x).d⟩ : P4)).d from by simp only [P4.mul]; grind)
  intCast_neg i := P4.ext' rfl (show (0:Int) = -0 from rfl) (show (0:Int) = -0 from rfl) (show (0:Int) = -0 from rfl)
  mul_comm x y := P4.ext' (show (P4.mul x y).a = (P4.mul y x).a from by simp only [P4.mul]; grind) (show (P4.mul x y).b = (P4.mul y x).b from by simp only [P4.mul]; grind) (show (P4.mul x y).c = (P4.mul y x).c from by simp only [P4.mul]; grind) (show (P4.mul x y).d = (P4.mul y x).d from by simp only [P4.mul]; grind)

end
section
abbrev ic {R : Type} [Lean.Grind.CommRing R] (z : Int) : R := (Lean.Grind.Ring.intCast (α := R)).intCast z
open Lean.Grind in
structure IsKit (n : Nat) {R : Type} [CommRing R] (φ : List Int → R) (N : R → Int) (X : R) : Prop where
  mulL : ∀ (q : Int) (a b : List Int), a.length = n → b.length = n → ∃ z, φ (mulL q a b) = φ a * φ b + ic q * z
  addI : ∀ (q v : Int) (a : List Int), a.length = n → ∃ z, φ (addI q v a) = φ a + ic v + ic q * z
  one : φ (oneL n) = 1
  gen : φ (0 :: 1 :: List.replicate (n - 2) 0) = X
  norm : ∀ a : List Int, a.length = n → normL a = N (φ a)
  Nmul : ∀ x y, N (x * y) = N x * N y
  N1 : N 1 = 1
  conj : ∀ x, ∃ y, x * y = ic (N x)
  Nmod : ∀ x (q : Int) z, ∃ k, N (x + ic q * z) = N x + q * k
  cong : ∀ (q : Int) (a b : List Int), Good q n a → Good q n b → (∃ z, φ a = φ b + ic q * z) → a = b
  eqI : ∀ (q v : Int) (a : List Int), 0 < q → Good q n a → (eqI q v a = true ↔ ∃ z, φ a = ic v + ic q * z)
  zero : ∀ (q : Int) (a : List Int), Good q n a → (a.all (· == 0) = true ↔ ∃ z, φ a = ic q * z)
  Np : N (1 + X) = 2
  div : ∀ x, (2 : Int) ∣ N x → ∃ y, x = (1 + X) * y
  unit : ∃ u v : R, 2 = u * (1 + X) ^ n ∧ u * v = 1
  par : ∀ x, (N (x + 1) + N x) % 2 = 1
def φ2 : List Int → P2
  | [a, b] => ⟨a, b⟩
  | _ => ⟨0, 0⟩
def φ4 : List Int → P4
  | [a, b, c, d] => ⟨a, b, c, d⟩
  | _ => ⟨0, 0, 0, 0⟩
def N2 (x : P2) : Int := x.a * x.a + x.b * x.b
def P4.u (x : P4) : Int := x.a * x.a - x.c * x.c + 2 * (x.b * x.d)
def P4.v (x : P4) : Int := 2 * (x.a * x.c) - x.b * x.b + x.d * x.d
def N4 (x : P4) : Int := x.u * x.u + x.v * x.v
theorem emod_ex (q a : Int) : ∃ t, a % q = a + q * t := ⟨-(a / q), by rw [Int.emod_def]; grind⟩
theorem red_eq {q a b t : Int} (h1 : 0 ≤ a ∧ a < q) (h2 : 0 ≤ b ∧ b < q) (e : a = b + q * t) : a = b := by
  have h3 := Int.emod_eq_of_lt h1.1 h1.2
  have h4 := Int.emod_eq_of_lt h2.1 h2.2
  rw [← h3, ← h4, e, Int.add_mul_emod_self_left]
theorem kit2 : @IsKit 2 P2 P2.ring φ2 N2 ⟨0, 1⟩ := by
  letI := P2.ring
  refine @IsKit.mk 2 P2 P2.ring φ2 N2 ⟨0, 1⟩ ?_ ?_ ?_ ?_ ?_ ?_ ?_ ?_ ?_ ?_ ?_ ?_ ?_ ?_ ?_ ?_
  · intro q a b ha hb
    obtain ⟨a0, a1, rfl⟩ := len_two ha
    obtain ⟨b0, b1, rfl⟩ := len_two hb
    obtain ⟨t0, h0⟩ := emod_ex q (a0 * b0 - a1 * b1)
    obtain ⟨t1, h1⟩ := emod_ex q (a0 * b1 + a1 * b0)
    refine ⟨⟨t0, t1⟩, P2.ext' ?_ ?_⟩
    · show (a0 * b0 - a1 * b1) % q = (a0 * b0 - a1 * b1) + (q * t0 - 0 * t1)
      rw [h0]; grind
    · show (a0 * b1 + a1 * b0) % q = (a0 * b1 + a1 * b0) + (q * t1 + 0 * t0)
      rw [h1]; grind
  · intro q v a ha
    obtain ⟨a0, a1, rfl⟩ := len_two ha
    obtain ⟨t0, h0⟩ := emod_ex q (a0 + v)
    refine ⟨⟨t0, 0⟩, P2.ext' ?_ ?_⟩
    · show (a0 + v) % q = a0 + v + (q * t0 - 0 * 0)
      rw [h0]; grind
    · show a1 = a1 + 0 + (q * 0 + 0 * t0)
      grind
  · rfl
  · rfl
  · intro a ha
    obtain ⟨a0, a1, rfl⟩ := len_two ha
    rfl
  · intro x y
    show (P2.mul x y).a * (P2.mul x y).a + (P2.mul x y).b * (P2.mul x y).b = (x.a * x.a + x.b * x.b) * (y.a * y.a + y.b * y.b)
    simp only [P2.mul]; grind
  · rfl
  · intro x
    refine ⟨⟨x.a, -x.b⟩, P2.ext' ?_ ?_⟩
    · show x.a * x.a - x.b * (-x.b) = x.a * x.a + x.b * x.b
      grind
    · show x.a * (-x.b) + x.b * x.a = 0
      grind
  · intro x q z
    refine ⟨2 * (x.a * z.a + x.b * z.b) + q * (z.a * z.a + z.b * z.b), ?_⟩
    show (x.a + (q * z.a - 0 * z.b)) * (x.a + (q * z.a - 0 * z.b)) + (x.b + (q * z.b + 0 * z.a)) * (x.b + (q * z.b + 0 * z.a)) = x.a * x.a + x.b * x.b + _
    grind
  · rintro q a b ga gb ⟨z, h⟩
    obtain ⟨a0, a1, rfl⟩ := ga.two
    obtain ⟨b0, b1, rfl⟩ := gb.two
    have e0 : a0 = b0 + (q * z.a - 0 * z.b) := congrArg P2.a h
    have e1 : a1 = b1 + (q * z.b + 0 * z.a) := congrArg P2.b h
    rw [red_eq (ga.red a0 (by simp)) (gb.red b0 (by simp)) (t := z.a) (by rw [e0]; grind), red_eq (ga.red a1 (by simp)) (gb.red b1 (by simp)) (t := z.b) (by rw [e1]; grind)]
  · intro q v a hq ga
    obtain ⟨a0, a1, rfl⟩ := ga.two
    have g0 := ga.red a0 (by simp)
    have g1 := ga.red a1 (by simp)
    obtain ⟨t0, h0⟩ := emod_ex q v
    have hv : 0 ≤ v % q ∧ v % q < q := ⟨Int.emod_nonneg _ (by omega), Int.emod_lt_of_pos _ hq⟩
    simp only [Mine.eqI, List.all_cons, List.all_nil, Bool.and_true, Bool.and_eq_true, beq_iff_eq]
    constructor
    · rintro ⟨rfl, h⟩
      refine ⟨⟨t0, 0⟩, P2.ext' ?_ ?_⟩
      · show a0 = v + (q * t0 - 0 * 0)
        rw [← h, h0]; grind
      · show (0:Int) = 0 + (q * 0 + 0 * t0)
        grind
    · rintro ⟨z, h⟩
      have e0 : a0 = v + (q * z.a - 0 * z.b) := congrArg P2.a h
      have e1 : a1 = 0 + (q * z.b + 0 * z.a) := congrArg P2.b h
      refine ⟨red_eq g1 ⟨Int.le_refl 0, hq⟩ (t := z.b) (by rw [e1]; grind), red_eq hv g0 (t := t0 - z.a) (by rw [h0, e0]; grind)⟩
  · intro q a ga
    obtain ⟨a0, a1, rfl⟩ := ga.two
    have g0 := ga.red a0 (by simp)
    have g1 := ga.red a1 (by simp)
    simp only [List.all_cons, List.all_nil, Bool.and_true, Bool.and_eq_true, beq_iff_eq]
    constructor
    · rintro ⟨rfl, rfl⟩
      exact ⟨⟨0, 0⟩, P2.ext' (show (0:Int) = q * 0 - 0 * 0 by simp) (show (0:Int) = q * 0 + 0 * 0 by simp)⟩
    · rintro ⟨z, h⟩
      have e0 : a0 = (q * z.a - 0 * z.b) := congrArg P2.a h
      have e1 : a1 = (q * z.b + 0 * z.a) := congrArg P2.b h
      have hq : 0 < q := by omega
      exact ⟨red_eq g0 ⟨Int.le_refl 0, hq⟩ (t := z.a) (by rw [e0]; grind), red_eq g1 ⟨Int.le_refl 0, hq⟩ (t := z.b) (by rw [e1]; grind)⟩
  · rfl
  · intro x hx
    have hx : (2 : Int) ∣ x.a * x.a + x.b * x.b := hx
    have : (x.a + x.b) % 2 = 0 := by
      rcases Int.emod_two_eq x.a with h | h <;> rcases Int.emod_two_eq x.b with k | k
      all_goals first | omega | skip
      all_goals exfalso
      · obtain ⟨s, hs⟩ : ∃ s, x.a = 2 * s := ⟨x.a / 2, by omega⟩
        obtain ⟨t, ht⟩ : ∃ t, x.b = 2 * t + 1 := ⟨x.b / 2, by omega⟩
        have : x.a * x.a + x.b * x.b = 2 * (2 * (s * s) + 2 * (t * t) + 2 * t) + 1 := by rw [hs, ht]; grind
        omega
      · obtain ⟨s, hs⟩ : ∃ s, x.b = 2 * s := ⟨x.b / 2, by omega⟩
        obtain ⟨t, ht⟩ : ∃ t, x.a = 2 * t + 1 := ⟨x.a / 2, by omega⟩
        have : x.a * x.a + x.b * x.b = 2 * (2 * (s * s) + 2 * (t * t) + 2 * t) + 1 := by rw [hs, ht]; grind
        omega
    refine ⟨⟨(x.a + x.b) / 2, (x.b - x.a) / 2⟩, P2.ext' ?_ ?_⟩
    · show x.a = (1 + 0) * ((x.a + x.b) / 2) - (0 + 1) * ((x.b - x.a) / 2)
      omega
    · show x.b = (1 + 0) * ((x.b - x.a) / 2) + (0 + 1) * ((x.a + x.b) / 2)
      omega
  · exact ⟨⟨0, -1⟩, ⟨0, 1⟩, rfl, rfl⟩
  · intro x
    show ((x.a + 1) * (x.a + 1) + (x.b + 0) * (x.b + 0) + (x.a * x.a + x.b * x.b)) % 2 = 1
    have : (x.a + 1) * (x.a + 1) + (x.b + 0) * (x.b + 0) + (x.a * x.a + x.b * x.b) = 2 * (x.a * x.a + x.b * x.b + x.a) + 1 := by grind
    omega
theorem P4.u_mul (x y : P4) : (P4.mul x y).u = x.u * y.u - x.v * y.v := by simp only [P4.mul, P4.u, P4.v]; grind
theorem P4.v_mul (x y : P4) : (P4.mul x y).v = x.u * y.v + x.v * y.u := by simp only [P4.mul, P4.u, P4.v]; grind
theorem sq_par (a : Int) : (a * a) % 2 = a % 2 := by
  rcases Int.emod_two_eq a with h | h
  · obtain ⟨s, hs⟩ : ∃ s, a = 2 * s := ⟨a / 2, by omega⟩
    have : a * a = 2 * (2 * (s * s)) := by rw [hs]; grind
    omega
  · obtain ⟨s, hs⟩ : ∃ s, a = 2 * s + 1 := ⟨a / 2, by omega⟩
    have : a * a = 2 * (2 * (s * s) + 2 * s) + 1 := by rw [hs]; grind
    omega
theorem N4_par (x : P4) : N4 x % 2 = (x.a + x.b + x.c + x.d) % 2 := by
  have h1 := sq_par x.u
  have h2 := sq_par x.v
  have h3 := sq_par x.a
  have h4 := sq_par x.b
  have h5 := sq_par x.c
  have h6 := sq_par x.d
  have e1 : x.u = x.a * x.a - x.c * x.c + 2 * (x.b * x.d) := rfl
  have e2 : x.v = 2 * (x.a * x.c) - x.b * x.b + x.d * x.d := rfl
  have e3 : N4 x = x.u * x.u + x.v * x.v := rfl
  omega
theorem kit4 : @IsKit 4 P4 P4.ring φ4 N4 ⟨0, 1, 0, 0⟩ := by
  letI := P4.ring
  refine @IsKit.mk 4 P4 P4.ring φ4 N4 ⟨0, 1, 0, 0⟩ ?_ ?_ ?_ ?_ ?_ ?_ ?_ ?_ ?_ ?_ ?_ ?_ ?_ ?_ ?_ ?_
  · intro q a b ha hb
    obtain ⟨a0, a1, a2, a3, rfl⟩ := len_four ha
    obtain ⟨b0, b1, b2, b3, rfl⟩ := len_four hb
    obtain ⟨t0, h0⟩ := emod_ex q (a0 * b0 - a1 * b3 - a2 * b2 - a3 * b1)
    obtain ⟨t1, h1⟩ := emod_ex q (a0 * b1 + a1 * b0 - a2 * b3 - a3 * b2)
    obtain ⟨t2, h2⟩ := emod_ex q (a0 * b2 + a1 * b1 + a2 * b0 - a3 * b3)
    obtain ⟨t3, h3⟩ := emod_ex q (a0 * b3 + a1 * b2 + a2 * b1 + a3 * b0)
    refine ⟨⟨t0, t1, t2, t3⟩, P4.ext' ?_ ?_ ?_ ?_⟩
    · show (a0 * b0 - a1 * b3 - a2 * b2 - a3 * b1) % q = (a0 * b0 - a1 * b3 - a2 * b2 - a3 * b1) + (q * t0 - 0 * t3 - 0 * t2 - 0 * t1)
      rw [h0]; grind
    · show (a0 * b1 + a1 * b0 - a2 * b3 - a3 * b2) % q = (a0 * b1 + a1 * b0 - a2 * b3 - a3 * b2) + (q * t1 + 0 * t0 - 0 * t3 - 0 * t2)
      rw [h1]; grind
    · show (a0 * b2 + a1 * b1 + a2 * b0 - a3 * b3) % q = (a0 * b2 + a1 * b1 + a2 * b0 - a3 * b3) + (q * t2 + 0 * t1 + 0 * t0 - 0 * t3)
      rw [h2]; grind
    · show (a0 * b3 + a1 * b2 + a2 * b1 + a3 * b0) % q = (a0 * b3 + a1 * b2 + a2 * b1 + a3 * b0) + (q * t3 + 0 * t2 + 0 * t1 + 0 * t0)
      rw [h3]; grind
  · intro q v a ha
    obtain ⟨a0, a1, a2, a3, rfl⟩ := len_four ha
    obtain ⟨t0, h0⟩ := emod_ex q (a0 + v)
    refine ⟨⟨t0, 0, 0, 0⟩, P4.ext' ?_ ?_ ?_ ?_⟩
    · show (a0 + v) % q = a0 + v + (q * t0 - 0 * 0 - 0 * 0 - 0 * 0)
      rw [h0]; grind
    · show a1 = a1 + 0 + (q * 0 + 0 * t0 - 0 * 0 - 0 * 0)
      grind
    · show a2 = a2 + 0 + (q * 0 + 0 * 0 + 0 * t0 - 0 * 0)
      grind
    · show a3 = a3 + 0 + (q * 0 + 0 * 0 + 0 * 0 + 0 * t0)
      grind
  · rfl
  · rfl
  · intro a ha
    obtain ⟨a0, a1, a2, a3, rfl⟩ := len_four ha
    rfl
  · intro x y
    show (P4.mul x y).u * (P4.mul x y).u + (P4.mul x y).v * (P4.mul x y).v = (x.u * x.u + x.v * x.v) * (y.u * y.u + y.v * y.v)
    rw [P4.u_mul, P4.v_mul]; grind
  · rfl
  · intro x
    -- x(X) x(-X) = u + v X^2; times u - v X^2
    refine ⟨P4.mul ⟨x.a, -x.b, x.c, -x.d⟩ ⟨x.u, 0, -x.v, 0⟩, P4.ext' ?_ ?_ ?_ ?_⟩
    · show (P4.mul x (P4.mul ⟨x.a, -x.b, x.c, -x.d⟩ ⟨x.u, 0, -x.v, 0⟩)).a = x.u * x.u + x.v * x.v
      simp only [P4.mul, P4.u, P4.v]; grind
    · show (P4.mul x (P4.mul ⟨x.a, -x.b, x.c, -x.d⟩ ⟨x.u, 0, -x.v, 0⟩)).b = 0
      simp only [P4.mul, P4.u, P4.v]; grind
    · show (P4.mul x (P4.mul ⟨x.a, -x.b, x.c, -x.d⟩ ⟨x.u, 0, -x.v, 0⟩)).c = 0
      simp only [P4.mul, P4.u, P4.v]; grind
    · show (P4.mul x (P4.mul ⟨x.a, -x.b, x.c, -x.d⟩ ⟨x.u, 0, -x.v, 0⟩)).d = 0
      simp only [P4.mul, P4.u, P4.v]; grind
  · intro x q z
    have e1 : (P4.mk (x.a + (q * z.a - 0 * z.d - 0 * z.c - 0 * z.b)) (x.b + (q * z.b + 0 * z.a - 0 * z.d - 0 * z.c)) (x.c + (q * z.c + 0 * z.b + 0 * z.a - 0 * z.d)) (x.d + (q * z.d + 0 * z.c + 0 * z.b + 0 * z.a))).u = x.u + q * (2 * x.a * z.a + q * (z.a * z.a) - 2 * x.c * z.c - q * (z.c * z.c) + 2 * (x.b * z.d + z.b * x.d) + 2 * q * (z.b * z.d)) := by
      simp only [P4.u]; grind
    have e2 : (P4.mk (x.a + (q * z.a - 0 * z.d - 0 * z.c - 0 * z.b)) (x.b + (q * z.b + 0 * z.a - 0 * z.d - 0 * z.c)) (x.c + (q * z.c + 0 * z.b + 0 * z.a - 0 * z.d)) (x.d + (q * z.d + 0 * z.c + 0 * z.b + 0 * z.a))).v = x.v + q * (2 * (x.a * z.c + z.a * x.c) + 2 * q * (z.a * z.c) - 2 * x.b * z.b - q * (z.b * z.b) + 2 * x.d * z.d + q * (z.d * z.d)) := by
      simp only [P4.v]; grind
    generalize (2 * x.a * z.a + q * (z.a * z.a) - 2 * x.c * z.c - q * (z.c * z.c) + 2 * (x.b * z.d + z.b * x.d) + 2 * q * (z.b * z.d)) = U at e1
    generalize (2 * (x.a * z.c + z.a * x.c) + 2 * q * (z.a * z.c) - 2 * x.b * z.b - q * (z.b * z.b) + 2 * x.d * z.d + q * (z.d * z.d)) = W at e2
    refine ⟨2 * x.u * U + q * (U * U) + 2 * x.v * W + q * (W * W), ?_⟩
    show (P4.mk (x.a + (q * z.a - 0 * z.d - 0 * z.c - 0 * z.b)) (x.b + (q * z.b + 0 * z.a - 0 * z.d - 0 * z.c)) (x.c + (q * z.c + 0 * z.b + 0 * z.a - 0 * z.d)) (x.d + (q * z.d + 0 * z.c + 0 * z.b + 0 * z.a))).u * (P4.mk (x.a + (q * z.a - 0 * z.d - 0 * z.c - 0 * z.b)) (x.b + (q * z.b + 0 * z.a - 0 * z.d - 0 * z.c)) (x.c + (q * z.c + 0 * z.b + 0 * z.a - 0 * z.d)) (x.d + (q * z.d + 0 * z.c + 0 * z.b + 0 * z.a))).u + (P4.mk (x.a + (q * z.a - 0 * z.d - 0 * z.c - 0 * z.b)) (x.b + (q * z.b + 0 * z.a - 0 * z.d - 0 * z.c)) (x.c + (q * z.c + 0 * z.b + 0 * z.a - 0 * z.d)) (x.d + (q * z.d + 0 * z.c + 0 * z.b + 0 * z.a))).v * (P4.mk (x.a + (q * z.a - 0 * z.d - 0 * z.c - 0 * z.b)) (x.b + (q * z.b + 0 * z.a - 0 * z.d - 0 * z.c)) (x.c + (q * z.c + 0 * z.b + 0 * z.a - 0 * z.d)) (x.d + (q * z.d + 0 * z.c + 0 * z.b + 0 * z.a))).v = x.u * x.u + x.v * x.v + _
    rw [e1, e2]
    grind
  · rintro q a b ga gb ⟨z, h⟩
    obtain ⟨a0, a1, a2, a3, rfl⟩ := ga.four
    obtain ⟨b0, b1, b2, b3, rfl⟩ := gb.four
    have e0 : a0 = b0 + (q * z.a - 0 * z.d - 0 * z.c - 0 * z.b) := congrArg P4.a h
    have e1 : a1 = b1 + (q * z.b + 0 * z.a - 0 * z.d - 0 * z.c) := congrArg P4.b h
    have e2 : a2 = b2 + (q * z.c + 0 * z.b + 0 * z.a - 0 * z.d) := congrArg P4.c h
    have e3 : a3 = b3 + (q * z.d + 0 * z.c + 0 * z.b + 0 * z.a) := congrArg P4.d h
    rw [red_eq (ga.red a0 (by simp)) (gb.red b0 (by simp)) (t := z.a) (by rw [e0]; grind), red_eq (ga.red a1 (by simp)) (gb.red b1 (by simp)) (t := z.b) (by rw [e1]; grind),
      red_eq (ga.red a2 (by simp)) (gb.red b2 (by simp)) (t := z.c) (by rw [e2]; grind), red_eq (ga.red a3 (by simp)) (gb.red b3 (by simp)) (t := z.d) (by rw [e3]; grind)]
  · intro q v a hq ga
    obtain ⟨a0, a1, a2, a3, rfl⟩ := ga.four
    have g0 := ga.red a0 (by simp)
    have g1 := ga.red a1 (by simp)
    have g2 := ga.red a2 (by simp)
    have g3 := ga.red a3 (by simp)
    obtain ⟨t0, h0⟩ := emod_ex q v
    have hv : 0 ≤ v % q ∧ v % q < q := ⟨Int.emod_nonneg _ (by omega), Int.emod_lt_of_pos _ hq⟩
    simp only [Mine.eqI, List.all_cons, List.all_nil, Bool.and_true, Bool.and_eq_true, beq_iff_eq]
    constructor
    · rintro ⟨⟨rfl, rfl, rfl⟩, h⟩
      refine ⟨⟨t0, 0, 0, 0⟩, P4.ext' ?_ ?_ ?_ ?_⟩
      · show a0 = v + (q * t0 - 0 * 0 - 0 * 0 - 0 * 0)
        rw [← h, h0]; grind
      · show (0:Int) = 0 + (q * 0 + 0 * t0 - 0 * 0 - 0 * 0)
        grind
      · show (0:Int) = 0 + (q * 0 + 0 * 0 + 0 * t0 - 0 * 0)
        grind
      · show (0:Int) = 0 + (q * 0 + 0 * 0 + 0 * 0 + 0 * t0)
        grind
    · rintro ⟨z, h⟩
      have e0 : a0 = v + (q * z.a - 0 * z.d - 0 * z.c - 0 * z.b) := congrArg P4.a h
      have e1 : a1 = 0 + (q * z.b + 0 * z.a - 0 * z.d - 0 * z.c) := congrArg P4.b h
      have e2 : a2 = 0 + (q * z.c + 0 * z.b + 0 * z.a - 0 * z.d) := congrArg P4.c h
      have e3 : a3 = 0 + (q * z.d + 0 * z.c + 0 * z.b + 0 * z.a) := congrArg P4.d h
      have z0 : 0 ≤ (0:Int) ∧ 0 < q := ⟨Int.le_refl 0, hq⟩
      exact ⟨⟨red_eq g1 z0 (t := z.b) (by rw [e1]; grind), red_eq g2 z0 (t := z.c) (by rw [e2]; grind), red_eq g3 z0 (t := z.d) (by rw [e3]; grind)⟩, red_eq hv g0 (t := t0 - z.a) (by rw [h0, e0]; grind)⟩
  · intro q a ga
    obtain ⟨a0, a1, a2, a3, rfl⟩ := ga.four
    have g0 := ga.red a0 (by simp)
    have g1 := ga.red a1 (by simp)
    have g2 := ga.red a2 (by simp)
    have g3 := ga.red a3 (by simp)
    have z0 : 0 ≤ (0:Int) ∧ 0 < q := ⟨Int.le_refl 0, by omega⟩
    simp only [List.all_cons, List.all_nil, Bool.and_true, Bool.and_eq_true, beq_iff_eq]
    constructor
    · rintro ⟨rfl, rfl, rfl, rfl⟩
      exact ⟨⟨0, 0, 0, 0⟩, P4.ext' (show (0:Int) = q * 0 - 0 * 0 - 0 * 0 - 0 * 0 by simp) (show (0:Int) = q * 0 + 0 * 0 - 0 * 0 - 0 * 0 by simp) (show (0:Int) = q * 0 + 0 * 0 + 0 * 0 - 0 * 0 by simp) (show (0:Int) = q * 0 + 0 * 0 + 0 * 0 + 0 * 0 by simp)⟩
    · rintro ⟨z, h⟩
      have e0 : a0 = (q * z.a - 0 * z.d - 0 * z.c - 0 * z.b) := congrArg P4.a h
      have e1 : a1 = (q * z.b + 0 * z.a - 0 * z.d - 0 * z.c) := congrArg P4.b h
      have e2 : a2 = (q * z.c + 0 * z.b + 0 * z.a - 0 * z.d) := congrArg P4.c h
      have e3 : a3 = (q * z.d + 0 * z.c + 0 * z.b + 0 * z.a) := congrArg P4.d h
      exact ⟨red_eq g0 z0 (t := z.a) (by rw [e0]; grind), red_eq g1 z0 (t := z.b) (by rw [e1]; grind), red_eq g2 z0 (t := z.c) (by rw [e2]; grind), red_eq g3 z0 (t := z.d) (by rw [e3]; grind)⟩
  · rfl
  · intro x hx
    have hx : (2 : Int) ∣ N4 x := hx
    have hp := N4_par x
    refine ⟨⟨(x.a + x.b - x.c + x.d) / 2, (x.b - x.a + x.c - x.d) / 2, (x.c - x.b + x.a + x.d) / 2, (x.d - x.c + x.b - x.a) / 2⟩, P4.ext' ?_ ?_ ?_ ?_⟩
    · show x.a = (1 + 0) * ((x.a + x.b - x.c + x.d) / 2) - (0 + 1) * ((x.d - x.c + x.b - x.a) / 2) - (0 + 0) * ((x.c - x.b + x.a + x.d) / 2) - (0 + 0) * ((x.b - x.a + x.c - x.d) / 2)
      omega
    · show x.b = (1 + 0) * ((x.b - x.a + x.c - x.d) / 2) + (0 + 1) * ((x.a + x.b - x.c + x.d) / 2) - (0 + 0) * ((x.d - x.c + x.b - x.a) / 2) - (0 + 0) * ((x.c - x.b + x.a + x.d) / 2)
      omega
    · show x.c = (1 + 0) * ((x.c - x.b + x.a + x.d) / 2) + (0 + 1) * ((x.b - x.a + x.c - x.d) / 2) + (0 + 0) * ((x.a + x.b - x.c + x.d) / 2) - (0 + 0) * ((x.d - x.c + x.b - x.a) / 2)
      omega
    · show x.d = (1 + 0) * ((x.d - x.c + x.b - x.a) / 2) + (0 + 1) * ((x.c - x.b + x.a + x.d) / 2) + (0 + 0) * ((x.b - x.a + x.c - x.d) / 2) + (0 + 0) * ((x.a + x.b - x.c + x.d) / 2)
      omega
  · exact ⟨⟨0, 2, -3, 2⟩, ⟨0, 2, 3, 2⟩, rfl, rfl⟩
  · intro x
    have h1 := N4_par x
    have h2 := N4_par ⟨x.a + 1, x.b + 0, x.c + 0, x.d + 0⟩
    have h3 : N4 (x + 1) = N4 ⟨x.a + 1, x.b + 0, x.c + 0, x.d + 0⟩ := rfl
    rw [h3]
    simp only at h2
    omega

end
section
section
open Lean.Grind
variable {n : Nat} {R : Type} [CommRing R] {φ : List Int → R} {N : R → Int} {X : R}
theorem ic_mul (a b : Int) : (ic (a * b) : R) = ic a * ic b := Ring.intCast_mul a b
theorem ic_add (a b : Int) : (ic (a + b) : R) = ic a + ic b := Ring.intCast_add a b
theorem ic_one : (ic 1 : R) = 1 := Ring.intCast_one
theorem ic_zero : (ic 0 : R) = 0 := Ring.intCast_zero
theorem ic_pow (a : Int) (k : Nat) : (ic (a ^ k) : R) = ic a ^ k := Ring.intCast_pow a k
theorem ic_neg (a : Int) : (ic (-a) : R) = - ic a := Ring.intCast_neg a
theorem ic_two : (ic 2 : R) = 2 := Ring.intCast_ofNat 2
theorem r_mul_pow (x y : R) (k : Nat) : (x * y) ^ k = x ^ k * y ^ k := CommSemiring.mul_pow x y k
theorem r_pow_mul (x : R) (a : Nat) : ∀ b : Nat, x ^ (a * b) = (x ^ a) ^ b
  | 0 => by rw [Nat.mul_zero, Semiring.pow_zero, Semiring.pow_zero]
  | b + 1 => by rw [Nat.mul_succ, Semiring.pow_add, r_pow_mul x a b, Semiring.pow_succ]
theorem r_one_pow (k : Nat) : (1 : R) ^ k = 1 := by
  induction k with
  | zero => exact Semiring.pow_zero _
  | succ k ih => rw [Semiring.pow_succ, ih, Semiring.mul_one]
theorem powSM_spec (K : IsKit n φ N X) (hn : n = 2 ∨ n = 4) (q : Int) : ∀ (k : Nat) (f g : List Int), f.length = n → g.length = n → ∃ z, φ (powSM q k f g) = φ g * φ f ^ k + ic q * z := by
  intro k
  induction k using Nat.strongRecOn with
  | _ k ih =>
    intro f g hf hg
    by_cases h0 : k = 0
    · subst h0
      rw [powSM_zero]
      exact ⟨0, by rw [Semiring.pow_zero]; grind⟩
    · obtain ⟨z1, h1⟩ := K.mulL q f f hf hf
      by_cases h1 : k % 2 = 1
      · rw [powSM_odd h1]
        obtain ⟨z2, h2⟩ := K.mulL q g f hg hf
        obtain ⟨z3, h3⟩ := ih (k / 2) (by omega) (mulL q f f) (mulL q g f) (mulL_len hn hf hf) (mulL_len hn hg hf)
        obtain ⟨z4, h4⟩ := pow_cong (φ f * φ f) z1 (ic q) (k / 2)
        rename_i h1'
        refine ⟨φ g * φ f * z4 + z2 * (φ f * φ f + ic q * z1) ^ (k / 2) + z3, ?_⟩
        rw [h3, h2, h1', h4]
        have e : φ f ^ k = φ f * (φ f * φ f) ^ (k / 2) := by
          have : k = 1 + 2 * (k / 2) := by omega
          conv => lhs; rw [this, Semiring.pow_add, r_pow_mul]
          have e2 : φ f ^ 2 = φ f * φ f := by grind
          have e1 : φ f ^ 1 = φ f := by grind
          rw [e2, e1]
        rw [e]
        grind
      · rw [powSM_even h0 h1]
        obtain ⟨z3, h3⟩ := ih (k / 2) (by omega) (mulL q f f) g (mulL_len hn hf hf) hg
        obtain ⟨z4, h4⟩ := pow_cong (φ f * φ f) z1 (ic q) (k / 2)
        rename_i h1'
        refine ⟨φ g * z4 + z3, ?_⟩
        rw [h3, h1', h4]
        have e : φ f ^ k = (φ f * φ f) ^ (k / 2) := by
          have : k = 2 * (k / 2) := by omega
          conv => lhs; rw [this, r_pow_mul]
          have e2 : φ f ^ 2 = φ f * φ f := by grind
          rw [e2]
        rw [e]
        grind
where pow_cong (x z c : R) : ∀ k : Nat, ∃ w, (x + c * z) ^ k = x ^ k + c * w
  | 0 => ⟨0, by rw [Semiring.pow_zero, Semiring.pow_zero]; grind⟩
  | k + 1 => by
    obtain ⟨w, h⟩ := pow_cong x z c k
    exact ⟨x ^ k * z + w * x + c * w * z, by rw [Semiring.pow_succ, h, Semiring.pow_succ]; grind⟩
theorem powSM_len (hn : n = 2 ∨ n = 4) {q : Int} : ∀ (k : Nat) (f g : List Int), f.length = n → g.length = n → (powSM q k f g).length = n := by
  intro k
  induction k using Nat.strongRecOn with
  | _ k ih =>
    intro f g hf hg
    rw [powSM]
    split
    · exact hg
    · refine ih _ (by omega) _ _ (mulL_len hn hf hf) ?_
      split
      · exact mulL_len hn hg hf
      · exact hg
theorem pow_spec (K : IsKit n φ N X) (hn : n = 2 ∨ n = 4) (q : Int) (k : Nat) (f : List Int) (hf : f.length = n) : ∃ z, φ (powSM q k f (oneL n)) = φ f ^ k + ic q * z := by
  obtain ⟨z, h⟩ := powSM_spec K hn q k f (oneL n) hf (by rcases hn with rfl | rfl <;> rfl)
  exact ⟨z, by rw [h, K.one, Semiring.one_mul]⟩
end

end
section
theorem p2_pos (k : Nat) : 0 < (2 : Int) ^ k := Int.pow_pos (by decide)
theorem p2_succ (k : Nat) : (2 : Int) ^ (k + 1) = 2 * 2 ^ k := by rw [Int.pow_succ, Int.mul_comm]
theorem p2_dvd {j k : Nat} (h : j ≤ k) : (2 : Int) ^ j ∣ 2 ^ k := by
  obtain ⟨d, rfl⟩ := Nat.exists_eq_add_of_le h
  exact ⟨2 ^ d, Int.pow_add 2 j d⟩
theorem worthN_dvd : ∀ (k : Nat) (N : Int) (j : Nat), j ≤ k → (j ≤ worthN k N ↔ (2 : Int) ^ j ∣ N)
  | 0, N, j, h => by
    obtain rfl : j = 0 := by omega
    simp [worthN]
  | k + 1, N, j, h => by
    rw [worthN]
    split
    · rename_i h2
      cases j with
      | zero => simp
      | succ j =>
        rw [Nat.succ_le_succ_iff, worthN_dvd k (N / 2) j (by omega), p2_succ]
        constructor
        · rintro ⟨c, hc⟩
          exact ⟨c, by rw [Int.mul_assoc, ← hc]; omega⟩
        · rintro ⟨c, hc⟩
          exact ⟨c, by rw [hc, Int.mul_assoc]; omega⟩
    · rename_i h2
      cases j with
      | zero => simp
      | succ j =>
        constructor
        · intro h; omega
        · rintro ⟨c, hc⟩
          rw [p2_succ, Int.mul_assoc] at hc
          omega
theorem worth_uniq {M w : Nat} {N : Int} (hw : w ≤ M) (h : ∀ j, j ≤ M → (j ≤ w ↔ (2 : Int) ^ j ∣ N)) : worthN M N = w := by
  have h1 := worthN_le M N
  have h2 := (h _ h1).mpr ((worthN_dvd M N _ h1).mp (Nat.le_refl _))
  have h3 := (worthN_dvd M N _ hw).mpr ((h _ hw).mp (Nat.le_refl _))
  omega
theorem worth_congr {M : Nat} {a b : Int} (h : ∀ j, j ≤ M → ((2 : Int) ^ j ∣ a ↔ (2 : Int) ^ j ∣ b)) : worthN M a = worthN M b :=
  worth_uniq (worthN_le M b) fun j hj => (worthN_dvd M b j hj).trans (h j hj).symm
theorem odd_mul {a b : Int} (h : ¬ (2 : Int) ∣ a) (k : ¬ (2 : Int) ∣ b) : ¬ (2 : Int) ∣ a * b := by
  obtain ⟨s, hs⟩ : ∃ s, a = 2 * s + 1 := ⟨a / 2, by omega⟩
  obtain ⟨t, ht⟩ : ∃ t, b = 2 * t + 1 := ⟨b / 2, by omega⟩
  rw [hs, ht, show (2 * s + 1) * (2 * t + 1) = 2 * (2 * (s * t) + s + t) + 1 by grind]
  omega
theorem worth_mul (M : Nat) (a b : Int) : worthN M (a * b) = min M (worthN M a + worthN M b) := by
  have hA := worthN_le M a
  have hB := worthN_le M b
  have dA := (worthN_dvd M a _ hA).mp (Nat.le_refl _)
  have dB := (worthN_dvd M b _ hB).mp (Nat.le_refl _)
  refine worth_uniq (Nat.min_le_left _ _) fun j hj => ?_
  by_cases hA' : worthN M a = M
  · rw [hA'] at dA
    exact ⟨fun _ => Int.dvd_trans (p2_dvd hj) (Int.dvd_trans dA (Int.dvd_mul_right _ _)), fun _ => by omega⟩
  by_cases hB' : worthN M b = M
  · rw [hB'] at dB
    exact ⟨fun _ => Int.dvd_trans (p2_dvd hj) (Int.dvd_trans dB (Int.dvd_mul_left _ _)), fun _ => by omega⟩
  have nA : ¬ (2 : Int) ^ (worthN M a + 1) ∣ a := fun d => by
    have := (worthN_dvd M a _ (by omega)).mpr d
    omega
  have nB : ¬ (2 : Int) ^ (worthN M b + 1) ∣ b := fun d => by
    have := (worthN_dvd M b _ (by omega)).mpr d
    omega
  generalize worthN M a = A at *
  generalize worthN M b = B at *
  obtain ⟨a', rfl⟩ := dA
  obtain ⟨b', rfl⟩ := dB
  have oa : ¬ (2 : Int) ∣ a' := fun ⟨c, hc⟩ => nA ⟨c, by rw [hc, p2_succ]; grind⟩
  have ob : ¬ (2 : Int) ∣ b' := fun ⟨c, hc⟩ => nB ⟨c, by rw [hc, p2_succ]; grind⟩
  have e : (2 : Int) ^ A * a' * (2 ^ B * b') = 2 ^ (A + B) * (a' * b') := by rw [Int.pow_add]; grind
  rw [e]
  constructor
  · intro h
    exact Int.dvd_trans (p2_dvd (show j ≤ A + B by omega)) (Int.dvd_mul_right _ _)
  · intro h
    have : j ≤ A + B := by
      false_or_by_contra
      rename_i hn
      obtain ⟨c, hc⟩ := Int.dvd_trans (p2_dvd (show A + B + 1 ≤ j by omega)) h
      rw [p2_succ] at hc
      refine odd_mul oa ob ⟨c, ?_⟩
      exact Int.eq_of_mul_eq_mul_left (Int.ne_of_gt (p2_pos (A + B))) (by rw [hc]; grind)
    omega
theorem worth_one (M : Nat) : worthN M 1 = 0 := by
  cases M with
  | zero => rfl
  | succ k => rw [worthN]; simp
theorem worth_pow (M : Nat) (a : Int) (j : Nat) : worthN M (a ^ j) = min M (j * worthN M a) := by
  induction j with
  | zero => rw [Int.pow_zero, worth_one]; omega
  | succ j ih =>
    rw [Int.pow_succ, worth_mul, ih, Nat.succ_mul]
    omega
theorem worth_p2 (M e : Nat) : worthN M (2 ^ e) = min M e := by
  rw [worth_pow]
  have : worthN M 2 = min M 1 := by
    cases M with
    | zero => rfl
    | succ k =>
      rw [worthN]
      simp [worth_one]
  rw [this]
  cases M with
  | zero => simp
  | succ k => rw [show min (k + 1) 1 = 1 by omega, Nat.mul_one]
section
open Lean.Grind
variable {n : Nat} {R : Type} [CommRing R] {φ : List Int → R} {N : R → Int} {X : R}
theorem N_pow (K : IsKit n φ N X) (x : R) : ∀ m : Nat, N (x ^ m) = N x ^ m
  | 0 => by rw [Semiring.pow_zero, K.N1, Int.pow_zero]
  | m + 1 => by rw [Semiring.pow_succ, K.Nmul, N_pow K x m, Int.pow_succ]
theorem dvdN (K : IsKit n φ N X) : ∀ (m : Nat) (x : R), (2 : Int) ^ m ∣ N x ↔ ∃ y, x = (1 + X) ^ m * y
  | 0, x => by simp [Semiring.pow_zero]; exact ⟨x, (Semiring.one_mul x).symm⟩
  | m + 1, x => by
    constructor
    · intro h
      obtain ⟨y, hy⟩ := K.div x (Int.dvd_trans ⟨2 ^ m, p2_succ m⟩ h)
      have h2 : (2 : Int) ^ m ∣ N y := by
        obtain ⟨c, hc⟩ := h
        rw [hy, K.Nmul, K.Np, p2_succ, Int.mul_assoc] at hc
        exact ⟨c, by omega⟩
      obtain ⟨z, hz⟩ := (dvdN K m y).mp h2
      exact ⟨z, by rw [hy, hz, Semiring.pow_succ]; grind⟩
    · rintro ⟨y, hy⟩
      rw [hy, K.Nmul, N_pow K, K.Np]
      exact Int.dvd_mul_right _ _
theorem two_pow (K : IsKit n φ N X) (k : Nat) : ∃ u v : R, ic (2 ^ k) = u * (1 + X) ^ (n * k) ∧ u * v = 1 := by
  obtain ⟨u, v, h1, h2⟩ := K.unit
  refine ⟨u ^ k, v ^ k, ?_, ?_⟩
  · rw [ic_pow, ic_two, h1, r_mul_pow, r_pow_mul]
  · rw [← r_mul_pow, h2, r_one_pow]
theorem N_cong (K : IsKit n φ N X) {k m : Nat} (hm : m ≤ n * k) (x z : R) : (2 : Int) ^ m ∣ N (x + ic (2 ^ k) * z) ↔ (2 : Int) ^ m ∣ N x := by
  obtain ⟨u, v, h1, h2⟩ := two_pow K k
  obtain ⟨d, hd⟩ := Nat.exists_eq_add_of_le hm
  rw [dvdN K, dvdN K, h1, hd, Semiring.pow_add]
  constructor
  · rintro ⟨y, h⟩
    exact ⟨y - u * (1 + X) ^ d * z, by rw [show x = x + u * ((1 + X) ^ m * (1 + X) ^ d) * z - u * ((1 + X) ^ m * (1 + X) ^ d) * z by grind, h]; grind⟩
  · rintro ⟨y, h⟩
    exact ⟨y + u * (1 + X) ^ d * z, by rw [h]; grind⟩
theorem worth_cong (K : IsKit n φ N X) {k : Nat} (x z : R) : worthN (n * k) (N (x + ic (2 ^ k) * z)) = worthN (n * k) (N x) :=
  worth_congr fun _ hj => N_cong K hj x z
theorem k_P1 (K : IsKit n φ N X) (hn : n = 2 ∨ n = 4) (k e : Nat) (F : List Int) (hF : F.length = n) :
    worthN (n * k) (normL (mulL (2 ^ k) F (powSM (2 ^ k) e (addI (2 ^ k) 1 (0 :: 1 :: List.replicate (n - 2) 0)) (oneL n)))) = min (n * k) (worthN (n * k) (normL F) + e) := by
  have hg : (0 :: 1 :: List.replicate (n - 2) 0 : List Int).length = n := by rcases hn with rfl | rfl <;> rfl
  have ha : (addI (2 ^ k) 1 (0 :: 1 :: List.replicate (n - 2) 0)).length = n := hg
  obtain ⟨z1, h1⟩ := K.addI (2 ^ k) 1 _ hg
  obtain ⟨z2, h2⟩ := pow_spec K hn (2 ^ k) e _ ha
  have hp := powSM_len hn (q := 2 ^ k) e _ (oneL n) ha (by rcases hn with rfl | rfl <;> rfl)
  obtain ⟨z3, h3⟩ := K.mulL (2 ^ k) F _ hF hp
  obtain ⟨z4, h4⟩ := powSM_spec.pow_cong (1 + X) z1 (ic (2 ^ k)) e
  rw [K.gen, ic_one] at h1
  rw [h1, show X + 1 + ic (2 ^ k) * z1 = 1 + X + ic (2 ^ k) * z1 by grind, h4] at h2
  rw [h2] at h3
  rw [K.norm _ (mulL_len hn hF hp), h3, show φ F * ((1 + X) ^ e + ic (2 ^ k) * z4 + ic (2 ^ k) * z2) + ic (2 ^ k) * z3 = φ F * (1 + X) ^ e + ic (2 ^ k) * (φ F * z4 + φ F * z2 + z3) by grind,
    worth_cong K, K.Nmul, worth_mul, N_pow K, K.Np, worth_p2, ← K.norm F hF]
  omega
theorem k_P2 (K : IsKit n φ N X) (hn : n = 2 ∨ n = 4) (k : Nat) (H G : List Int) (hH : H.length = n) (hG : G.length = n) :
    worthN (n * k) (normL (mulL (2 ^ k) H G)) = min (n * k) (worthN (n * k) (normL H) + worthN (n * k) (normL G)) := by
  obtain ⟨z3, h3⟩ := K.mulL (2 ^ k) H G hH hG
  rw [K.norm _ (mulL_len hn hH hG), h3, worth_cong K, K.Nmul, worth_mul, ← K.norm H hH, ← K.norm G hG]
theorem dvd_iff (K : IsKit n φ N X) (k : Nat) (x : R) : (∃ z, x = ic (2 ^ k) * z) ↔ worthN (n * k) (N x) = n * k := by
  obtain ⟨u, v, h1, h2⟩ := two_pow K k
  constructor
  · rintro ⟨z, rfl⟩
    refine worth_uniq (Nat.le_refl _) fun j hj => ⟨fun _ => ?_, fun _ => hj⟩
    rw [h1, K.Nmul, K.Nmul, N_pow K, K.Np]
    exact Int.dvd_trans (p2_dvd hj) (Int.dvd_trans (Int.dvd_mul_left _ _) (Int.dvd_mul_right _ _))
  · intro h
    obtain ⟨y, hy⟩ := (dvdN K (n * k) x).mp ((worthN_dvd (n * k) (N x) (n * k) (Nat.le_refl _)).mp (by omega))
    exact ⟨v * y, by rw [hy, h1]; grind⟩
theorem k_P3 (K : IsKit n φ N X) (hn : n = 2 ∨ n = 4) (k : Nat) (hk : 1 ≤ k) (j : Nat) (H : List Int) (gH : Good (2 ^ k) n H) :
    (powSM (2 ^ k) j H (oneL n)).all (· == 0) = decide (j * worthN (n * k) (normL H) ≥ n * k) := by
  have hq : (2 : Int) ≤ 2 ^ k := by
    obtain ⟨j, rfl⟩ : ∃ j, k = j + 1 := ⟨k - 1, by omega⟩
    have := p2_pos j
    rw [p2_succ]; omega
  obtain ⟨z, h⟩ := pow_spec K hn (2 ^ k) j H gH.len
  have h1 := K.zero (2 ^ k) _ (Good.pow (k := j) hq hn gH)
  have h2 : (∃ y, φ (powSM (2 ^ k) j H (oneL n)) = ic (2 ^ k) * y) ↔ ∃ y, φ H ^ j = ic (2 ^ k) * y := by
    rw [h]
    constructor
    · rintro ⟨y, hy⟩; exact ⟨y - z, by rw [show φ H ^ j = φ H ^ j + ic (2 ^ k) * z - ic (2 ^ k) * z by grind, hy]; grind⟩
    · rintro ⟨y, hy⟩; exact ⟨y + z, by rw [hy]; grind⟩
  have h3 := h1.trans (h2.trans (dvd_iff K k _))
  rw [N_pow K, worth_pow, ← K.norm H gH.len] at h3
  rw [Bool.eq_iff_iff, h3, decide_eq_true_iff]
  omega
theorem k_P4 (K : IsKit n φ N X) (hn : n = 2 ∨ n = 4) (k : Nat) (hk : 1 ≤ k) (G : List Int) (hG : G.length = n) :
    (worthN (n * k) (normL G) = 0 ∧ worthN (n * k) (normL (addI (2 ^ k) 1 G)) ≠ 0) ∨ (worthN (n * k) (normL G) ≠ 0 ∧ worthN (n * k) (normL (addI (2 ^ k) 1 G)) = 0) := by
  have hM : 1 ≤ n * k := by rcases hn with rfl | rfl <;> omega
  obtain ⟨z, h⟩ := K.addI (2 ^ k) 1 G hG
  have hl : (addI (2 ^ k) 1 G).length = n := by
    rcases hn with rfl | rfl
    · obtain ⟨a, b, rfl⟩ := len_two hG; rfl
    · obtain ⟨a, b, c, d, rfl⟩ := len_four hG; rfl
  rw [K.norm _ hl, K.norm _ hG, h, ic_one, worth_cong K]
  have hp := K.par (φ G)
  have w0 : ∀ a : Int, worthN (n * k) a = 0 ↔ a % 2 = 1 := fun a => by
    have := worthN_dvd (n * k) a 1 hM
    rw [Int.pow_succ, Int.pow_zero, Int.one_mul] at this
    constructor
    · intro h0
      have : ¬ (2 : Int) ∣ a := fun d => by have := this.mpr d; omega
      omega
    · intro h0
      false_or_by_contra
      have := this.mp (by omega)
      omega
  rw [Ne, Ne, w0, w0]
  omega
theorem unit_pow (K : IsKit n φ N X) (hn : n = 2 ∨ n = 4) {d : R} (hd : ¬ (2 : Int) ∣ N d) : ∀ j : Nat, ∃ s, d ^ (2 ^ j) = 1 + (1 + X) ^ (j + 1) * s
  | 0 => by
    have hp := K.par (d - 1)
    rw [show d - 1 + 1 = d by grind] at hp
    obtain ⟨y, hy⟩ := K.div (d - 1) (by omega)
    exact ⟨y, by rw [show (1 + X) ^ (0 + 1) * y = (1 + X) * y by grind, ← hy]; grind⟩
  | j + 1 => by
    obtain ⟨s, h⟩ := unit_pow K hn hd j
    obtain ⟨u, v, h1, h2⟩ := K.unit
    refine ⟨u * (1 + X) ^ (n - 1) * s + (1 + X) ^ j * s * s, ?_⟩
    rw [Nat.pow_succ, r_pow_mul, h]
    have e1 : (1 + X) ^ n = (1 + X) ^ (n - 1) * (1 + X) := by
      conv => lhs; rw [show n = n - 1 + 1 by omega, Semiring.pow_succ]
    have e2 : (1 + (1 + X) ^ (j + 1) * s) ^ 2 = 1 + 2 * ((1 + X) ^ (j + 1) * s) + (1 + X) ^ (j + 1) * (1 + X) ^ (j + 1) * s * s := by grind
    rw [e2, h1, e1]
    simp only [Semiring.pow_succ]
    grind
theorem k_P5 (K : IsKit n φ N X) (hn : n = 2 ∨ n = 4) (k : Nat) (hk : 1 ≤ k) (D : List Int) (gD : Good (2 ^ k) n D) (hw : worthN (n * k) (normL D) = 0) :
    eqI (2 ^ k) 1 (mulL (2 ^ k) D (powSM (2 ^ k) (2 ^ (n * k - 1) - 1) D (oneL n))) = true := by
  have hM : 1 ≤ n * k := by rcases hn with rfl | rfl <;> omega
  have hq : (2 : Int) ≤ 2 ^ k := by
    obtain ⟨j, rfl⟩ : ∃ j, k = j + 1 := ⟨k - 1, by omega⟩
    have := p2_pos j
    rw [p2_succ]; omega
  rw [K.eqI (2 ^ k) 1 _ (p2_pos k) (Good.mul hq hn gD (Good.pow hq hn gD))]
  obtain ⟨z, h⟩ := pow_spec K hn (2 ^ k) (2 ^ (n * k - 1) - 1) D gD.len
  obtain ⟨z2, h2⟩ := K.mulL (2 ^ k) D _ gD.len (Good.pow (k := 2 ^ (n * k - 1) - 1) hq hn gD).len
  have hodd : ¬ (2 : Int) ∣ N (φ D) := fun d => by
    have := (worthN_dvd (n * k) (N (φ D)) 1 hM).mpr (by simpa using d)
    rw [← K.norm D gD.len] at this
    omega
  obtain ⟨s, hs⟩ := unit_pow K hn hodd (n * k - 1)
  obtain ⟨u, v, h3, h4⟩ := two_pow K k
  rw [show n * k - 1 + 1 = n * k by omega] at hs
  have e1 : φ D * φ D ^ (2 ^ (n * k - 1) - 1) = φ D ^ (2 ^ (n * k - 1)) := by
    have : 0 < 2 ^ (n * k - 1) := Nat.pow_pos (by decide)
    conv => rhs; rw [show 2 ^ (n * k - 1) = 2 ^ (n * k - 1) - 1 + 1 by omega, Semiring.pow_succ]
    grind
  have e2 : (1 + X) ^ (n * k) = ic (2 ^ k) * v := by rw [h3]; grind
  exact ⟨v * s + φ D * z + z2, by
    rw [h2, h, ic_one, show φ D * (φ D ^ (2 ^ (n * k - 1) - 1) + ic (2 ^ k) * z) = φ D * φ D ^ (2 ^ (n * k - 1) - 1) + ic (2 ^ k) * (φ D * z) by grind, e1, hs, e2]; grind⟩
end
theorem m3_P1 {n kk : Nat} {q e : Int} {F : List Int} (hn : n = 2 ∨ n = 4) (h1 : 1 ≤ kk) (hq : q = 2 ^ kk) (gf : Good q n F) (he : 0 ≤ e) :
    (worthN ((n * kk : Nat) : Int).toNat (normL (mulL q F (powSM q e.toNat (addI q 1 (0 :: 1 :: List.replicate (n - 2) 0)) (oneL n)))) : Int) = min ((n * kk : Nat) : Int) (worthN ((n * kk : Nat) : Int).toNat (normL F) + e) := by
  subst hq
  rw [Int.toNat_natCast]
  have : worthN (n * kk) (normL (mulL (2 ^ kk) F (powSM (2 ^ kk) e.toNat (addI (2 ^ kk) 1 (0 :: 1 :: List.replicate (n - 2) 0)) (oneL n)))) = min (n * kk) (worthN (n * kk) (normL F) + e.toNat) := by
    rcases hn with rfl | rfl
    · exact @k_P1 2 P2 P2.ring φ2 N2 _ kit2 (.inl rfl) kk e.toNat F gf.len
    · exact @k_P1 4 P4 P4.ring φ4 N4 _ kit4 (.inr rfl) kk e.toNat F gf.len
  rw [this]
  omega
theorem m3_P2 {n kk : Nat} {q : Int} {H G : List Int} (hn : n = 2 ∨ n = 4) (h1 : 1 ≤ kk) (hq : q = 2 ^ kk) (gh : Good q n H) (gg : Good q n G) :
    (worthN ((n * kk : Nat) : Int).toNat (normL (mulL q H G)) : Int) = min ((n * kk : Nat) : Int) (worthN ((n * kk : Nat) : Int).toNat (normL H) + worthN ((n * kk : Nat) : Int).toNat (normL G)) := by
  subst hq
  rw [Int.toNat_natCast]
  have : worthN (n * kk) (normL (mulL (2 ^ kk) H G)) = min (n * kk) (worthN (n * kk) (normL H) + worthN (n * kk) (normL G)) := by
    rcases hn with rfl | rfl
    · exact @k_P2 2 P2 P2.ring φ2 N2 _ kit2 (.inl rfl) kk H G gh.len gg.len
    · exact @k_P2 4 P4 P4.ring φ4 N4 _ kit4 (.inr rfl) kk H G gh.len gg.len
  rw [this]
  omega
theorem m3_P3 {n kk : Nat} {q j : Int} {H : List Int} (hn : n = 2 ∨ n = 4) (h1 : 1 ≤ kk) (hq : q = 2 ^ kk) (gh : Good q n H) (hj : 0 ≤ j) :
    (powSM q j.toNat H (oneL n)).all (· == 0) = decide (j * worthN ((n * kk : Nat) : Int).toNat (normL H) ≥ ((n * kk : Nat) : Int)) := by
  subst hq
  rw [Int.toNat_natCast]
  have : (powSM (2 ^ kk) j.toNat H (oneL n)).all (· == 0) = decide (j.toNat * worthN (n * kk) (normL H) ≥ n * kk) := by
    rcases hn with rfl | rfl
    · exact @k_P3 2 P2 P2.ring φ2 N2 _ kit2 (.inl rfl) kk h1 j.toNat H gh
    · exact @k_P3 4 P4 P4.ring φ4 N4 _ kit4 (.inr rfl) kk h1 j.toNat H gh
  rw [this, decide_eq_decide, ge_iff_le, ge_iff_le, ← Int.ofNat_le, Int.natCast_mul, Int.natCast_mul, Int.toNat_of_nonneg hj]
theorem m3_P4 {n kk : Nat} {q : Int} {G : List Int} (hn : n = 2 ∨ n = 4) (h1 : 1 ≤ kk) (hq : q = 2 ^ kk) (gg : Good q n G) :
    (worthN ((n * kk : Nat) : Int).toNat (normL G) = 0 ∧ worthN ((n * kk : Nat) : Int).toNat (normL (addI q 1 G)) ≠ 0) ∨ (worthN ((n * kk : Nat) : Int).toNat (normL G) ≠ 0 ∧ worthN ((n * kk : Nat) : Int).toNat (normL (addI q 1 G)) = 0) := by
  subst hq
  rw [Int.toNat_natCast]
  rcases hn with rfl | rfl
  · exact @k_P4 2 P2 P2.ring φ2 N2 _ kit2 (.inl rfl) kk h1 G gg.len
  · exact @k_P4 4 P4 P4.ring φ4 N4 _ kit4 (.inr rfl) kk h1 G gg.len
theorem m3_P5 {n kk : Nat} {q : Int} {D : List Int} (hn : n = 2 ∨ n = 4) (h1 : 1 ≤ kk) (hq : q = 2 ^ kk) (gd : Good q n D) (hw : worthN ((n * kk : Nat) : Int).toNat (normL D) = 0) :
    eqI q 1 (mulL q D (powSM q ((2 : Int) ^ (((n * kk : Nat) : Int) - 1).toNat - 1).toNat D (oneL n))) = true := by
  subst hq
  rw [Int.toNat_natCast] at hw
  have hM : 1 ≤ n * kk := by rcases hn with rfl | rfl <;> omega
  have e : ((2 : Int) ^ (((n * kk : Nat) : Int) - 1).toNat - 1).toNat = 2 ^ (n * kk - 1) - 1 := by
    rw [show (((n * kk : Nat) : Int) - 1).toNat = n * kk - 1 by omega]
    have : ((2 ^ (n * kk - 1) : Nat) : Int) = (2 : Int) ^ (n * kk - 1) := by rw [Int.natCast_pow]; rfl
    rw [← this]
    have : 0 < 2 ^ (n * kk - 1) := Nat.pow_pos (by decide)
    omega
  rw [e]
  rcases hn with rfl | rfl
  · exact @k_P5 2 P2 P2.ring φ2 N2 _ kit2 (.inl rfl) kk h1 D gd hw
  · exact @k_P5 4 P4 P4.ring φ4 N4 _ kit4 (.inr rfl) kk h1 D gd hw

end
theorem two_le_pow {k : Nat} (h : 1 ≤ k) : (2 : Int) ≤ 2 ^ k := by
  obtain ⟨j, rfl⟩ : ∃ j, k = j + 1 := ⟨k - 1, by omega⟩
  have : 0 < (2 : Int) ^ j := Int.pow_pos (by decide)
  rw [Int.pow_succ]; omega
theorem bits_pow2 {k : Nat} (h : k ≤ 60) : Builtin.Int.intBits ((2 : Int) ^ k) ≤ 100 := by
  have h9 : (2 : Nat) ^ k ≤ 2 ^ 60 := Nat.pow_le_pow_right (by decide) h
  have h1 : (2 : Int) ^ k ≤ 2 ^ 60 := by exact_mod_cast h9
  have h0 : 0 < (2 : Int) ^ k := Int.pow_pos (by decide)
  refine Nat.le_trans (intBits_le_64 (by omega) (by omega)) (by decide)

end Mine
open Mine

set_option maxRecDepth 100000 in
set_option maxHeartbeats 8000000 in
theorem PySem.Challenge.cw_ay0009_03_holds : PySem.Challenge.rw_ay0009_03.Holds := by
  refine Mine.hd (?_)
  k_fill
  intro w s₀ s₁ mg mb G Y fa o pm cd doc dV kV ho hd hcd hD hmg hg args vals as hpre hlay hrd hwl hlo
  have KX := kIn_of Y.1
  have hT1 := Y.2.1
  have hT2 := Y.2.2
  clear Y
  refine Ground.open G ?_
  intro T B D TE TW
  try (refine guard_noD D (by decide +kernel) ?_; clear D)
  clear hmg
  wrow_args hpre hlay hrd hwl hlo
  first | refine callC_kw (enter_call ?_) | refine enter_call ?_ | refine callC_kw (enter_callW ?_) | refine enter_callW ?_ | w_how
  w_top on
  w_call any ho hd hcd hD T F
  clear hd
  (rename News _ _ _ _ => N0)
  (rename Heap.IsList _ _ _ => hL0)
  (rename IntsAre _ _ => hI0)
  have F1 := fr_hide2 (a := 86) (c := 93) F
  have N1 := news_hide2 F N0 hT1 hT2
  have X1 := in_hide2 (a := 86) (c := 93) KX rfl rfl
  have T1 := top_hide2 T hT1 hT2
  have hL1 := list_hide2 hL0 hT1 hT2
  have B1 := below_caller ((s₁.heap.hide 86).hide 93)
  have hG1 : AllBare s₁.gens := AllBare.of_eq hg
  have hlt1 : @LT.lt Nat _ 86 s₁.heap.objs.size := Heap.lt_size hT1
  have hlt2 : @LT.lt Nat _ 93 s₁.heap.objs.size := Heap.lt_size hT2
  have htr : TriplesOk (#[] : Array Value).toList := triples_nil
  clear F N0 T TE TW B hL0 hD hcd G
  simp only [List.cons_append, List.nil_append] at N1
  clear ho hg
  dsimp only at F1 ⊢
  try ((rename CellsAre _ _ _ => hX0); clear hX0)
  repeat ((rename Obj.data _ = Data.cell (bindC _ _ _ _) => hcA); (have hcA' := cell_none hcA rfl); clear hcA)
  obtain ⟨m0, F2⟩ := fr_small (x := Str.ofString "script") F1 rfl
  clear F1

  have hlen63 := hI0.length
  refine wpAny_execs_cons (st3_0 B1 X1 T1 (os0 := s₁.os) hL1 hI0 (by omega) ⟨⟨m0, F2⟩, N1, ⟨⟨#[], by simp, htr⟩, ⟨#[], by simp, htr⟩⟩, List.forall_mem_cons.mpr ⟨⟨_, List.mem_cons_of_mem _ List.mem_cons_self, ?_⟩, List.forall_mem_cons.mpr ⟨⟨_, List.mem_cons_self, ?_⟩, List.forall_mem_nil _⟩⟩, hG1, rfl⟩ fun s1 nx1 ln ns1 S1 e1 hl1 hlen1 => ?_)
  · assumption
  · assumption
  clear F2 N1
  refine wpAny_execs_cons (st3_1 B1 X1 T1 hl1 hlen1 S1 fun s2 nx2 n tn S2 e2 hn => ?_)
  refine wpAny_execs_cons (st3_2 B1 X1 T1 hn (hl1.ext e2) hlen1 S2 fun s3 nx3 kk tM S3 e3 hk1 hk12 => ?_)
  refine wpAny_execs_cons (st3_3 B1 X1 T1 hn hk1 hk12 S3 fun s4 nx4 tq S4 e4 => ?_)
  have hq2 : (2 : Int) ≤ 2 ^ kk := two_le_pow hk1
  have hkk : kk ≤ 6 := by rcases hn with h | h <;> subst h <;> omega
  have hM1 : (1 : Int) ≤ ((n * kk : Nat) : Int) := by rcases hn with h | h <;> subst h <;> omega
  have hqb : Builtin.Int.intBits ((2 : Int) ^ kk) ≤ 100 := bits_pow2 (by omega)
  refine wpAny_execs_cons (st3_4 B1 X1 T1 hn hq2 hqb S4 fun s5 nx5 r S5 e5 hr => ?_)
  have e25 := ext_trans e2 (ext_trans e3 (ext_trans e4 e5))
  refine wpAny_execs_cons (st3_5 B1 X1 T1 hn hq2 hqb (by omega) (by omega) (hl1.ext e25) hlen1 S5 fun s6 nx6 e j te tj S6 e6 he he' hj hj' => ?_)
  refine wpAny_execs_cons (st3_6 B1 X1 T1 hn hq2 hqb (hl1.ext (ext_trans e25 e6)) hlen1 (hr.ext e6) S6 fun s7 nx7 fx gx Fc Gc S7 e7 hf hg gf gg => ?_)
  have hr7 := hr.ext (ext_trans e6 e7)
  refine wpAny_execs_cons (st3_7 B1 X1 T1 hn hq2 hqb hr7 hf gf he S7 fun s8 nx8 hx S8 e8 hh => ?_)
  have gh : Good (2 ^ kk) n _ := Good.mul (cs := Fc) hq2 hn gf (Good.pow (k := e.toNat) hq2 hn (Good.addI (v := 1) hq2 (Good.gen hq2 hn)))
  have hr8 := hr7.ext e8
  have hf8 := hf.ext e8
  have hg8 := hg.ext e8
  refine wpAny_execs_cons (st3_8 B1 X1 T1 hn hq2 hqb (by omega) (by omega) hh gh S8 fun s9 nx9 tw S9 e9 => ?_)
  have P1 := m3_P1 hn hk1 rfl gf he
  have P2 := m3_P2 hn hk1 rfl gh gg
  refine wpAny_execs_cons (st3_9 B1 X1 T1 hn hq2 hqb (by omega) (by omega) he hj (hr8.ext e9) (hf8.ext e9) (hg8.ext e9) (hh.ext e9) gf gg gh P1 P2 S9 fun s10 nx10 S10 e10 => ?_)
  have e910 := ext_trans e9 e10
  refine wpAny_execs_cons (st3_10 B1 X1 T1 hn hq2 hqb (by omega) (by omega) he hj (hr8.ext e910) (hf8.ext e910) (hg8.ext e910) (hh.ext e910) gf gg gh (m3_P3 hn hk1 rfl gh hj) S10 fun s11 nx11 S11 e11 => ?_)
  have e911 := ext_trans e910 e11
  refine wpAny_execs_cons (st3_11 B1 X1 T1 hn hq2 hqb (by omega) (by omega) he hj (hr8.ext e911) (hf8.ext e911) (hg8.ext e911) (hh.ext e911) gf gg gh (p4_int (m3_P4 hn hk1 rfl gg)) S11 fun s12 nx12 ls ox Dc S12 e12 hr12 ho hgo _ hw hls => ?_)
  obtain ⟨nl, hls⟩ := hls
  refine wpAny_execs_cons (st3_12 B1 X1 T1 hn hq2 hqb (by omega) (by omega) hr12 hls ho hgo (m3_P5 hn hk1 rfl hgo (Int.ofNat.inj hw)) S12 fun s13 nx13 S13 e13 => ?_)
  obtain ⟨⟨m13, F13⟩, N13, ⟨⟨pa, ta, _⟩, ⟨pc, tc, _⟩⟩, _, G13, O13⟩ := S13
  dsimp only
  exact law_end (ca := 90) (cc := 97) rfl F13 N13 ta tc hT1 hT2 KX rfl rfl rfl rfl G13 O13 (fun _ => rfl) (postW_of rfl (w_eq_bool (w_res rfl) w_lit) rfl)
