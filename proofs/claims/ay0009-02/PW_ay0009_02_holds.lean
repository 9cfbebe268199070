import PyProof.Rows.All
import Wide.All
import OpenK.AllK
import Wide.FinOn
import PySem.Challenge.RW_ay0009_02
open PySem PySem.W PySem.Calls PyProof.Rows
set_option Elab.async false
set_option rowWalk.seconds 0
set_option linter.all false
set_option compiler.extract_closed false
namespace Mine
section
abbrev tabObj (ps : Array Value) : Obj := { cls := .none, data := .fields ps }
def hookTab (H : Hook) : Hook where
  α := H.α × (Option Obj × Option Obj)
  obs := fun s => (H.obs s, (s.heap.get? 86, s.heap.get? 93))
  val := fun w => (H.val w, (some (tabObj #[]), some (tabObj #[])))
  says := fun w h => H.says w h ∧ h.get? 86 = some (tabObj #[]) ∧ h.get? 93 = some (tabObj #[])
  of := fun w s e => ⟨H.of w s (congrArg Prod.fst e), congrArg (fun x => x.2.1) e, congrArg (fun x => x.2.2) e⟩
  keeps := fun w h h' x k => ⟨H.keeps w h h' x.1 k, k _ _ x.2.1, k _ _ x.2.2⟩
local macro_rules | `(tactic| o_head (kHook $a $b $c)) => `(tactic| o_head (hookTab (kHook $a $b $c)))
noncomputable def topFromF (p : Program) (w : World) (N : Nat) (s₀ : Shared) : Option Shared :=
  match s₀.heap.isNs mainGlobals && s₀.gens.size == 0 with
  | true => (Fast.tw14082659384304107361 Fast.tw14364793385576792824 p w s₀.heap.objs.size (s₀.heap.nsMap mainGlobals "__annotations__") N s₀ (topStub p)).bind fun s₁ => match staticsOk (Fast.tw5923862056798008813 p.main.body) s₀.heap s₁.heap && namesBound p s₁.heap && gensDone s₁ && laidKept s₀.heap s₁.heap with
      | true => some s₁
      | false => none
  | false => none
theorem topFromF_eq (p : Program) (w : World) (N : Nat) (s₀ : Shared) : topFromF p w N s₀ = topFrom treeTable p w N s₀ := by
  unfold topFromF topFrom
  rw [← Fast.te14082659384304107361, ← Fast.te14364793385576792824, ← Fast.te5923862056798008813]
  cases s₀.heap.isNs mainGlobals && s₀.gens.size == 0 <;> rfl
abbrev LeftQ (p q : Program) (loose : List Str) (Xt : Shared → Bool) {α : Type} (Yf : Shared → α) (Ya : World → α) (N : Nat) : Prop :=
  ∀ w : World, (fun os : OsState => (topFromF p w N ⟨boot_heap w.params, { toList := [] }, boot_drawn, boot_toks, os⟩).map (fun s => (Fast.tw4187177175401517315 q loose (Fast.tw5923862056798008813 p.main.body) Xt true s, Yf s))) = fun _ => some (openGood q loose, Ya w)
theorem left_of {p q : Program} {loose : List Str} {Xt : Shared → Bool} {α : Type} {Yf : Shared → α} {Ya : World → α} {N : Nat} (h : LeftQ p q loose Xt Yf Ya N)
    (e : opening p = plainProg p.main.scope.names) (f : ∀ s, fenceModules? p s = some s) (le : Nat.ble 600 N = true) : LeftO p q loose Xt Yf Ya N := fun w => by
  obtain ⟨s, hs, hv⟩ := Option.map_eq_some_iff.mp (boot_open e le f w)
  have h1 := congrFun (h w) s.os
  rw [topFromF_eq, ← Fast.te4187177175401517315, ← Fast.te5923862056798008813] at h1
  have h2 : s = ⟨boot_heap w.params, { toList := [] }, boot_drawn, boot_toks, s.os⟩ := by
    cases s
    simp only [Prod.mk.injEq] at hv
    obtain ⟨a, b, c, d⟩ := hv
    subst a; subst b; subst c; subst d
    rfl
  rw [← h2] at h1
  unfold openEnds
  rw [hs]
  exact h1
theorem PySem.W.holds_open {r : OpenRow} {q : Program} {loose : List Str} {Xt : Shared → Bool} {XP : (Str → Option Value) → Heap → Prop} {α : Type} {Yf : Shared → α} {Ya : World → α} {YP : World → Heap → Prop} {d : DefRec} {kwd : List (Str × Expr)} {N : Nat}
    (left : LeftQ r.prog q loose Xt Yf Ya N) (hY : ∀ w s, Yf s = Ya w → YP w s.heap) (hYk : ∀ w h h', YP w h → (∀ b o, h.get? b = some o → h'.get? b = some o) → YP w h')
    (hX : ∀ s, Xt s = true → XP (s.heap.nsMap mainGlobals) s.heap) (hXk : ∀ mg h h', XP mg h → (∀ b o, h.get? b = some o → h'.get? b = some o) → XP mg h')
    (hdef : defOf q r.name = some (d, kwd)) (hp : r.prog.theDef r.name = some (d.params, d.body, d.scope)) (hk : kwWritten? d.params.kwonlyargs d.params.kw_defaults = some kwd) (hRf : ∀ s, Xt s = true → RecFacts r.records s.heap) (hwr : (!r.writes || r.records.isEmpty) = true)
    (k1 : r.wellSaid = true) (ok : (chainsOk q && opensWell r.prog && (frees r.toRowW && r.within.isEmpty)) = true) (hb : r.prog.bare) (hw : r.toRowW.promised)
    (call : WalkO q loose XP YP r.toRowW d kwd fun f vs => PySem.call f vs)
    (e : opening r.prog = plainProg r.prog.main.scope.names := by kernel_rfl) (f : ∀ s, fenceModules? r.prog s = some s := by exact fun _ => rfl) (le : Nat.ble 600 N = true := by decide) : r.Holds :=
  _root_.PySem.W.holds_open (left_of left e f le) hY hYk hX hXk hdef hp hk hRf hwr k1 ok hb hw call
local macro_rules | `(tactic| o_law) => `(tactic| refine holds_law (by rw [Fast.te9446332074065402090]; decide +kernel) fun said => ?_)
set_option maxRecDepth 100000 in
set_option maxHeartbeats 8000000 in
open_top hd for PySem.Challenge.rw_ay0009_02

end
section
theorem codeAny_le {M : Model} {A A' : Around} {c : Code} {R : Result → Shared → Prop} {s : Shared} (h : codeAny M A c R s)
    (h1 : A'.handled = A.handled) (h2 : A'.depth ≤ A.depth) (h3 : A'.frames = A.frames) (h4 : A'.guards = A.guards) (h5 : A'.units ≤ A.units) : codeAny M A' c R s :=
  fun Γ p hc hΓ => h Γ p hc ⟨hΓ.1.trans h1, Nat.le_trans hΓ.2.1 h2, fun l hl => hΓ.2.2.1 l (h3.trans hl), fun g hg => hΓ.2.2.2.1 g (h4.trans hg), Nat.le_trans hΓ.2.2.2.2 h5⟩

abbrev arA (dp un : Nat) (gd : Option (List Code)) (env : Env) (outer : List Env) : Around := { handled := none, depth := dp, frames := some (env :: outer), guards := gd, units := un }
theorem codeAny_ar {M : Model} {A : Around} {env : Env} {outer : List Env} {c : Code} {R : Result → Shared → Prop} {s : Shared} {D U : Nat}
    (hA : A.frames = some (env :: outer)) (hH : A.handled = none) (hd : A.depth ≤ D) (hu : A.units ≤ U) (h : codeAny M (arA D U A.guards env outer) c R s) : codeAny M A c R s :=
  codeAny_le h hH hd hA rfl hu

abbrev ringD (w : World) (t1 t2 : Tok) (q : Int) (n : Int) (u1 u2 : Tok) : Obj :=
  dictOf [⟨PyData.keyHash w.params "q", .str "q" t1, .int q u1⟩, ⟨PyData.keyHash w.params "n", .str "n" t2, .int n u2⟩] 2
abbrev polyD (w : World) (t1 t2 : Tok) (r l : Addr) : Obj :=
  dictOf [⟨PyData.keyHash w.params "parent", .str "parent" t1, .ref r⟩, ⟨PyData.keyHash w.params "coeffs", .str "coeffs" t2, .ref l⟩] 2

structure IsRing (w : World) (news : List (Addr × Obj)) (r : Addr) (q n : Int) : Prop where
  out : ∃ dr t1 t2 u1 u2, (r, instObj 66 dr) ∈ news ∧ (dr, ringD w t1 t2 q n u1 u2) ∈ news
structure IsInts (news : List (Addr × Obj)) (l : Addr) (cs : List Int) : Prop where
  out : ∃ vs n, (l, W.listOf vs.toArray n) ∈ news ∧ IntsAre vs cs
structure IsPoly (w : World) (news : List (Addr × Obj)) (r x : Addr) (cs : List Int) : Prop where
  out : ∃ dx lx t1 t2, (x, instObj 229 dx) ∈ news ∧ (dx, polyD w t1 t2 r lx) ∈ news ∧ IsInts news lx cs
theorem IsRing.mono {w : World} {news news' : List (Addr × Obj)} {r : Addr} {q n : Int} (h : IsRing w news r q n) (hs : ∀ p ∈ news, p ∈ news') : IsRing w news' r q n :=
  let ⟨dr, t1, t2, u1, u2, a, b⟩ := h.out; ⟨dr, t1, t2, u1, u2, hs _ a, hs _ b⟩
theorem IsInts.mono {news news' : List (Addr × Obj)} {l : Addr} {cs : List Int} (h : IsInts news l cs) (hs : ∀ p ∈ news, p ∈ news') : IsInts news' l cs :=
  let ⟨vs, n, a, b⟩ := h.out; ⟨vs, n, hs _ a, b⟩
theorem IsPoly.cast {w : World} {news : List (Addr × Obj)} {r x : Addr} {cs ds : List Int} (h : IsPoly w news r x cs) (e : cs = ds) : IsPoly w news r x ds := e ▸ h
theorem IsPoly.mono {w : World} {news news' : List (Addr × Obj)} {r x : Addr} {cs : List Int} (h : IsPoly w news r x cs) (hs : ∀ p ∈ news, p ∈ news') : IsPoly w news' r x cs :=
  let ⟨dx, lx, t1, t2, a, b, c⟩ := h.out; ⟨dx, lx, t1, t2, hs _ a, hs _ b, c.mono hs⟩

theorem ints1 {ys : List Value} {x : Int} (h : IntsAre ys [x]) : ∃ t0, ys = [.int x t0] := by
  cases h with | cons _ _ h => cases h; exact ⟨_, rfl⟩
theorem ints2 {ys : List Value} {x y : Int} (h : IntsAre ys [x, y]) : ∃ t0 t1, ys = [.int x t0, .int y t1] := by
  cases h with | cons _ _ h => cases h with | cons _ _ h => cases h; exact ⟨_, _, rfl⟩
theorem ints4 {ys : List Value} {x y z u : Int} (h : IntsAre ys [x, y, z, u]) : ∃ t0 t1 t2 t3, ys = [.int x t0, .int y t1, .int z t2, .int u t3] := by
  cases h with | cons _ _ h => cases h with | cons _ _ h => cases h with | cons _ _ h => cases h with | cons _ _ h => cases h; exact ⟨_, _, _, _, rfl⟩

theorem off1_all {D : Addr} : ∀ {l : List (Addr × Obj)}, LCg.Off1 D l → ∀ p ∈ l, p.1 ≠ D
  | [], _, _, h => (nomatch h)
  | _ :: _, h, p, hp => by
    rcases List.mem_cons.mp hp with rfl | hp
    · exact h.1
    · exact off1_all h.2 p hp
theorem news_sub {h₀ h : Heap} {L : Addr} {news news' : List (Addr × Obj)} (N : News h₀ L h news') (hs : ∀ p ∈ news, p ∈ news') : News h₀ L h news := fun p hp => N p (hs p hp)
theorem news_cons {h₀ h : Heap} {L : Addr} {news : List (Addr × Obj)} {q : Addr × Obj} (hq : q ∈ news) (N : News h₀ L h news) : News h₀ L h (q :: news) := fun p hp => by
  rcases List.mem_cons.mp hp with rfl | hp
  · exact N _ hq
  · exact N _ hp
theorem sub_cons {q : Addr × Obj} {l l' : List (Addr × Obj)} (h : ∀ p ∈ l, p ∈ l') (hq : q ∈ l') : ∀ p ∈ q :: l, p ∈ l' := fun p hp => by
  rcases List.mem_cons.mp hp with rfl | hp
  · exact hq
  · exact h p hp
theorem sub_skip {q : Addr × Obj} {l l' : List (Addr × Obj)} (h : ∀ p ∈ l, p ∈ l') : ∀ p ∈ l, p ∈ q :: l' := fun p hp => List.mem_cons_of_mem _ (h p hp)
theorem sub_trans2 {a b c : List (Addr × Obj)} (k : ∀ p ∈ b, p ∈ c) (h : ∀ p ∈ a, p ∈ b) : ∀ p ∈ a, p ∈ c := fun p hp => k p (h p hp)
theorem sub_mem {a b : List (Addr × Obj)} {q : Addr × Obj} (h : ∀ p ∈ a, p ∈ b) (k : q ∈ a) : q ∈ b := h q k
theorem sub_refl {l : List (Addr × Obj)} : ∀ p ∈ l, p ∈ l := fun _ h => h
theorem cons_congr {x y : Int} {a b : List Int} (h : x = y) (e : a = b) : x :: a = y :: b := h ▸ e ▸ rfl
theorem ints_cast {vs : List Value} {a b : List Int} (h : IntsAre vs a) (e : a = b) : IntsAre vs b := e ▸ h
theorem off1_of {d : Addr} : ∀ {l : List (Addr × Obj)}, AllLt d l → LCg.Off1 d l
  | [], _ => trivial
  | _ :: _, h => ⟨Nat.ne_of_lt h.1, off1_of h.2⟩
theorem off1_lt {d x : Addr} (hx : @LT.lt Nat _ d x) {l : List (Addr × Obj)} (h : AllLt d l) : LCg.Off1 x l := off1_of (tbn_up hx h)
theorem my_unrEnd {h₀ : Heap} {L I : Addr} {it : Obj} {rest : (Str → Option Value) → List (Addr × Obj) → Prop} {s₁ : Shared} {h' : Heap} {tk : Nat} {m' : Str → Option Value} {news' : List (Addr × Obj)} (F : Fr h₀ L h' m') (N : News h₀ L h' ((I, it) :: news'))
    (off : AllLt I news') (r : rest m' news') : UnrEnd h₀ L s₁ I it rest { s₁ with heap := h', toks := tk } :=
  UnrEnd.intro F N news' (fun _ hp => hp) (tbn_neAll off) r
theorem my_sub {prog : Program} {w : World} {A : Around} {E : Value → Shared → Prop} {s : Shared} {h₀ : Heap} {L l : Addr} {news : List (Addr × Obj)} {value slice : PySem.Expr} {vs : List Value} {n : Nat} {k : Int} {u : Tok} {v : Value} {Q : Value → Shared → Prop}
    (N : News h₀ L s.heap news) (hm : (l, W.listOf vs.toArray n) ∈ news) (h0 : 0 ≤ k) (hhi : k < 2 ^ 63) (hx : vs[k.toNat]? = some v) (h : Q v s)
    (hs : subscripted slice false (.ref l) (.int k u) = operate [.ref l, .int k u] (getItem (.ref l) (.int k u)) := by with_unfolding_all rfl) :
    wpAny (model prog w) A (subscriptTail value slice (.ref l) (.int k u)) Q E s :=
  have hl := News.isList N hm
  tail_any hl.typeIs slot_list_getitem.lookup (wpAny_getItem_list hl h0 hhi (by simpa using hx) h) hs
theorem my_pow1 {prog : Program} {w : World} {A : Around} {E : Value → Shared → Prop} {s : Shared} {Q : Value → Shared → Prop} {a n : Int} {t u : Tok} (hn : 0 ≤ n) (hn2 : n ≤ 1000000) (ha : a.natAbs < 2 ^ 64) (e : a ^ n.toNat = 1) (h : Q (.int 1 s.toks) { s with toks := s.toks + 1 }) :
    wpAny (model prog w) A (binaryOp .Pow (.int a t) (.int n u)) Q E s := pow_int_small hn hn2 ha (by rw [e]; exact h)
theorem my_powm {prog : Program} {w : World} {A : Around} {E : Value → Shared → Prop} {s : Shared} {Q : Value → Shared → Prop} {a n : Int} {t u : Tok} (hn : 0 ≤ n) (hn2 : n ≤ 1000000) (ha : a.natAbs < 2 ^ 64) (e : a ^ n.toNat = -1) (h : Q (.int (-1) s.toks) { s with toks := s.toks + 1 }) :
    wpAny (model prog w) A (binaryOp .Pow (.int a t) (.int n u)) Q E s := pow_int_small hn hn2 ha (by rw [e]; exact h)
theorem int_cast9 {R : Result → Shared → Prop} {a b : Int} {tk : Tok} {s : Shared} (h : R (.ok (.ret (.int a tk))) s) (e : a = b) : R (.ok (.ret (.int b tk))) s := e ▸ h
theorem my_get {prog : Program} {w : World} {A : Around} {E : Value → Shared → Prop} {s : Shared} {h₀ : Heap} {L l : Addr} {news : List (Addr × Obj)} {vs : List Value} {n : Nat} {k : Int} {u : Tok} {v : Value} {Q : Value → Shared → Prop}
    (N : News h₀ L s.heap news) (hm : (l, W.listOf vs.toArray n) ∈ news) (h0 : 0 ≤ k) (hhi : k < 2 ^ 63) (hx : vs[k.toNat]? = some v) (h : Q v s) :
    wpAny (model prog w) A (getItem (.ref l) (.int k u)) Q E s :=
  have hl := News.isList N hm
  wpAny_getItem_list hl h0 hhi (by simpa using hx) h


def mulL (q : Int) : List Int → List Int → List Int
  | [a0, a1], [b0, b1] => [(a0 * b0 - a1 * b1) % q, (a0 * b1 + a1 * b0) % q]
  | [a0, a1, a2, a3], [b0, b1, b2, b3] => [(a0 * b0 - a1 * b3 - a2 * b2 - a3 * b1) % q, (a0 * b1 + a1 * b0 - a2 * b3 - a3 * b2) % q, (a0 * b2 + a1 * b1 + a2 * b0 - a3 * b3) % q, (a0 * b3 + a1 * b2 + a2 * b1 + a3 * b0) % q]
  | _, _ => []
def oneL (n : Nat) : List Int := 1 :: List.replicate (n - 1) 0
def addI (q v : Int) : List Int → List Int
  | [] => []
  | c :: r => (c + v) % q :: r
def subI (q v : Int) : List Int → List Int
  | [] => []
  | c :: r => (c - v) % q :: r
def mulI (q v : Int) (cs : List Int) : List Int := cs.map fun c => (c * v) % q
def negL (q : Int) (cs : List Int) : List Int := cs.map fun c => (-c) % q
def addL (q : Int) : List Int → List Int → List Int
  | a :: r, b :: t => (a + b) % q :: addL q r t
  | _, _ => []
def eqI (q v : Int) : List Int → Bool
  | [] => false
  | c :: r => r.all (· == 0) && (v % q == c)
def normL : List Int → Int
  | [a0, a1] => a0 * a0 + a1 * a1
  | [a0, a1, a2, a3] =>
    let e0 := a0 * a0 - a2 * a2 + 2 * (a1 * a3)
    let e1 := 2 * (a0 * a2) - a1 * a1 + a3 * a3
    e0 * e0 + e1 * e1
  | _ => 0
structure Good (q : Int) (n : Nat) (cs : List Int) : Prop where
  len : cs.length = n
  red : ∀ c ∈ cs, 0 ≤ c ∧ c < q
theorem bits_red {q c : Int} {b : Nat} (hq : Builtin.Int.intBits q ≤ b) (h : 0 ≤ c ∧ c < q) : Builtin.Int.intBits c ≤ b := bits_of_natAbs_le (by omega) hq
theorem len_two {cs : List Int} (h : cs.length = 2) : ∃ a0 a1, cs = [a0, a1] := by
  match cs, h with
  | [a0, a1], _ => exact ⟨_, _, rfl⟩
theorem len_four {cs : List Int} (h : cs.length = 4) : ∃ a0 a1 a2 a3, cs = [a0, a1, a2, a3] := by
  match cs, h with
  | [a0, a1, a2, a3], _ => exact ⟨_, _, _, _, rfl⟩
theorem bits_good {q : Int} {n b : Nat} {cs : List Int} (hq : Builtin.Int.intBits q ≤ b) (h : Good q n cs) : ∀ c ∈ cs, Builtin.Int.intBits c ≤ b := fun c hc => bits_red hq (h.red c hc)
theorem Good.two {q : Int} {cs : List Int} (h : Good q 2 cs) : ∃ a0 a1, cs = [a0, a1] := by
  match cs, h.len with
  | [a0, a1], _ => exact ⟨_, _, rfl⟩
theorem Good.four {q : Int} {cs : List Int} (h : Good q 4 cs) : ∃ a0 a1 a2 a3, cs = [a0, a1, a2, a3] := by
  match cs, h.len with
  | [a0, a1, a2, a3], _ => exact ⟨_, _, _, _, rfl⟩
theorem Good.mul {q : Int} {n : Nat} {cs ds : List Int} (hq : 2 ≤ q) (hn : n = 2 ∨ n = 4) (h : Good q n cs) (k : Good q n ds) : Good q n (mulL q cs ds) := by
  have hm : ∀ a : Int, 0 ≤ a % q ∧ a % q < q := fun a => ⟨Int.emod_nonneg a (by omega), Int.emod_lt_of_pos a (by omega)⟩
  rcases hn with rfl | rfl
  · obtain ⟨a0, a1, rfl⟩ := h.two
    obtain ⟨b0, b1, rfl⟩ := k.two
    refine ⟨rfl, ?_⟩
    intro c hc
    simp only [mulL, List.mem_cons, List.not_mem_nil, or_false] at hc
    rcases hc with rfl | rfl <;> exact hm _
  · obtain ⟨a0, a1, a2, a3, rfl⟩ := h.four
    obtain ⟨b0, b1, b2, b3, rfl⟩ := k.four
    refine ⟨rfl, ?_⟩
    intro c hc
    simp only [mulL, List.mem_cons, List.not_mem_nil, or_false] at hc
    rcases hc with rfl | rfl | rfl | rfl <;> exact hm _
theorem Good.mod {q : Int} (hq : 2 ≤ q) (a : Int) : 0 ≤ a % q ∧ a % q < q := ⟨Int.emod_nonneg a (by omega), Int.emod_lt_of_pos a (by omega)⟩
theorem Good.mulI {q v : Int} {n : Nat} {cs : List Int} (hq : 2 ≤ q) (h : Good q n cs) : Good q n (mulI q v cs) := by
  refine ⟨by rw [Mine.mulI, List.length_map]; exact h.len, fun a ha => ?_⟩
  obtain ⟨b, _, rfl⟩ := List.mem_map.mp ha
  exact Good.mod hq _
theorem addL_good {q : Int} (hq : 2 ≤ q) : ∀ (a b : List Int), a.length = b.length → (addL q a b).length = a.length ∧ ∀ c ∈ addL q a b, 0 ≤ c ∧ c < q
  | [], [], _ => ⟨rfl, fun _ h => nomatch h⟩
  | x :: r, y :: t, h => by
    have ih := addL_good hq r t (by simpa using h)
    refine ⟨by simp [addL, ih.1], fun c hc => ?_⟩
    rcases List.mem_cons.mp hc with rfl | hc
    · exact Good.mod hq _
    · exact ih.2 c hc
theorem Good.addL {q : Int} {n : Nat} {cs ds : List Int} (hq : 2 ≤ q) (h : Good q n cs) (k : Good q n ds) : Good q n (addL q cs ds) := by
  have := addL_good hq cs ds (h.len.trans k.len.symm)
  exact ⟨this.1.trans h.len, this.2⟩
theorem Good.one {q : Int} {n : Nat} (hq : 2 ≤ q) (hn : n = 2 ∨ n = 4) : Good q n (oneL n) := by
  rcases hn with rfl | rfl
  · refine ⟨rfl, ?_⟩
    intro c hc
    simp only [oneL, List.replicate, List.mem_cons, List.not_mem_nil, or_false] at hc
    rcases hc with rfl | rfl <;> omega
  · refine ⟨rfl, ?_⟩
    intro c hc
    simp only [oneL, List.replicate, List.mem_cons, List.not_mem_nil, or_false] at hc
    rcases hc with rfl | rfl | rfl | rfl <;> omega
theorem eqI_tt {q v c : Int} {r : List Int} (h1 : ((c :: r).tail.all fun x => x == 0) = true) (h2 : v.fmod q = c) (hq : 0 ≤ q) : eqI q v (c :: r) = true := by
  rw [Int.fmod_eq_emod_of_nonneg _ hq] at h2
  simp only [List.tail_cons] at h1
  simp [eqI, h2, h1]
theorem eqI_tf {q v c : Int} {r : List Int} (h2 : v.fmod q ≠ c) (hq : 0 ≤ q) : eqI q v (c :: r) = false := by
  rw [Int.fmod_eq_emod_of_nonneg _ hq] at h2
  simp [eqI, h2]
theorem eqI_ff {q v c : Int} {r : List Int} (h1 : ((c :: r).tail.all fun x => x == 0) = false) : eqI q v (c :: r) = false := by
  simp only [List.tail_cons] at h1
  simp [eqI, h1]
theorem IsPoly.at_ {w : World} {news : List (Addr × Obj)} {r x : Addr} {cs : List Int} (h : IsPoly w news r x cs) : ∃ dx lx t1 t2 vs n, (x, instObj 229 dx) ∈ news ∧ (dx, polyD w t1 t2 r lx) ∈ news ∧ (lx, W.listOf vs.toArray n) ∈ news ∧ IntsAre vs cs :=
  let ⟨dx, lx, t1, t2, a, b, c⟩ := h.out; let ⟨vs, n, d, e⟩ := c.out; ⟨dx, lx, t1, t2, vs, n, a, b, d, e⟩


section
variable {prog : Program} {w : World} {M : Model} {A : Around} {E : Value → Shared → Prop} {s : Shared}
theorem code_any {env : Env} {c P : Addr} {ps : Array Value} {pos : Pos} {qualname : Str} {scope : Scope}
    {Q : Value → Shared → Prop} (hc : env.code = .ref c) (hok : s.heap.IsCode c P ps) (htab : s.heap.TableAt c P ps)
    (hQ : ∀ c' h' tk ps', Heap.ExtBut P s.heap h' → s.heap.objs.size ≤ h'.objs.size → h'.IsCode c P ps' → h'.TableAt c P ps' → Q c' { s with heap := h', toks := tk }) :
    wpAny M A (genexprCode env pos qualname scope) Q E s := by
  cases hnf : codeAmong pos ps.toList with
  | none =>
    exact wpAny_genexprCodeX hc hok htab hnf fun c' h' tk hx hge hlt hcode _ htab' _ => hQ (.ref c') h' tk _ hx (Nat.le_trans hge (Nat.le_of_lt hlt)) hcode htab'
  | some cv =>
    obtain ⟨o, vs, file, tf, flags, tg, inF, text, tt, op, ho, hd, h11, h2, h7, h9, h10, hop, hpd, htr, hne⟩ := id hok
    unfold genexprCode codeAt
    rw [hc, if_neg (show ¬ ((Value.ref c == Value.none) = true) from Bool.false_ne_true)]
    refine wpAny_bind (wpAny_fieldsOf ho hd ?_)
    rw [h11]
    refine wpAny_bind (wpAny_fieldsOf hop hpd ?_)
    rw [hnf]
    exact wpAny_pure (hQ cv s.heap s.toks ps (fun _ _ _ e => e) (Nat.le_refl _) hok htab)

theorem ints_get {vs : List Value} {ns : List Int} (h : IntsAre vs ns) : ∀ {i : Nat} {v : Value}, vs[i]? = some v → ∃ k, ns[i]? = some k ∧ ∃ tk, v = .int k tk := by
  induction h with
  | nil => intro i v e; simp at e
  | cons n t _ ih =>
    intro i v e
    cases i with
    | zero => simp at e; exact ⟨n, by simp, t, e.symm⟩
    | succ i => simp at e; obtain ⟨k, hk, r⟩ := ih e; exact ⟨k, by simpa using hk, r⟩
def GxPost (prog : Program) (w : World) (A : Around) (c P gl : Addr) (Q : Value → Shared → Prop) (xv : Value) (s₁ : Shared) : Prop :=
  ∃ (l : Addr) (vs : List Value) (ns : List Int) (ps : Array Value) (mg : Str → Option Value) (bm : Addr) (ob : Obj), xv = .ref l ∧ s₁.heap.IsList l vs.toArray ∧ IntsAre vs ns ∧ s₁.heap.IsCode c P ps ∧ s₁.heap.TableAt c P ps ∧ P ≠ cStatics ∧
      AllBare s₁.gens ∧ s₁.heap.NoLimit ∧ BMod s₁.heap gl mg bm ob ∧ 2 < s₁.heap.objs.size ∧
      (∀ (a : Addr) (s₅ : Shared) (ps' : Array Value), (∀ b o, b ≠ P → s₁.heap.get? b = some o → s₅.heap.get? b = some o) → s₅.heap.IsCode c P ps' → s₅.heap.TableAt c P ps' → AllBare s₅.gens → s₅.os = s₁.os →
        GenOnD prog w A (s₁.heap.objs.size - 1) a ns (fun _ => true) (fun k => .bool (k == 0)) s₅ → Q (.ref a) s₅)
theorem my_genexp {env : Env} {elt iter : Expr} {x : Str} {px : Pos} {scope : Scope} {cl : List (Str × Addr)} {pos : Pos} {Q : Value → Shared → Prop} {c P : Addr}
    (hh : A.handled = none) (hco : scope.isCoroutine = false) (hclos : closureFor scope env = pure cl) (hcell : ∀ y ∈ scope.names, y.2 ≠ .cell) (h0 : scope.names.lookup (".0" : Str) = some NameKind.local)
    (hx : scope.names.lookup x = some .local) (hkind : scope.kind = .function) (hroom : A.depth < recursionLimit) (hcode : env.code = .ref c)
    (helt : ∀ (C : Addr) (code : Value) (A' : Around) E' (k : Int) (tk : Tok) (t : Shared) m₂, A'.handled = none → t.heap.Ns C m₂ → m₂ x = some (.int k tk) →
      wpAny (model prog w) A' (eval elt (genEnv scope cl C code builtinsNs env)) (fun y s₃ => y = .bool (k == 0) ∧ Keeps t s₃) E' t)
    (h : wpAny (model prog w) A (eval iter env) (fun xv s₁ => GxPost prog w A c P env.globals Q xv s₁) E s)
    (hs : ∀ x, genFold iter env x = pure x) :
    wpAny (model prog w) A (eval (.GeneratorExp elt [⟨.Name x px, iter, [], 0⟩] scope pos) env) Q E s := by
  refine wpAny_GeneratorExp_walksQD hh hco hclos hcell h0 hx hkind hroom (wpAny_mono h (fun xv s₁ h₁ => ?_) fun _ _ e => e) hs
  obtain ⟨l, vs, ns, ps, mg, bm, ob, rfl, hl, hi, hcd, htb, hPs, G, hlim, M₁, h2, hQ⟩ := h₁
  have hlt : l < s₁.heap.objs.size := by obtain ⟨_, e, _⟩ := hl; exact Heap.lt_size e
  have hPlt : P < s₁.heap.objs.size := Heap.lt_size htb.2
  have hlP : l ≠ P := fun e => by
    obtain ⟨o, ho, hc, _⟩ := hl
    rw [e, htb.2] at ho; cases ho; exact absurd hc (by simp)
  refine wpAny_pyIter_list hl ?_
  generalize hI : s₁.heap.objs.size = I at *
  refine ⟨hlim.push _, code_any hcode (hcd.push _) (htb.push _) fun c' h₃ tk₃ ps' hx₃ hge hcode₃ htab₃ => ?_⟩
  have hge' : I + 1 ≤ h₃.objs.size := by rw [Heap.size_push, hI] at hge; exact hge
  have k₃ : ∀ b o, b ≠ P → s₁.heap.get? b = some o → h₃.get? b = some o := fun b o hb e => hx₃ b o hb (Heap.get?_push_of_some _ e)
  have M₃ : BMod h₃ env.globals mg bm ob := (M₁.keeps fun _ _ e => Heap.get?_push_of_some _ e).extBut (htb.push _) hx₃
  have hl₃ : h₃.NoLimit := (hlim.push _).extBut hx₃ (Ne.symm hPs)
  refine wpAny_builtinsFor M₃.ns M₃.name M₃.ne M₃.obj M₃.cls M₃.dict M₃.data ?_
  have W₀ : ∀ A' : Around, A'.handled = none → Walks prog w A' I [I, l] [I] vs.toArray.size (fun i v => vs.toArray[i]? = some v) (fun i h => h.IsListIter I l i ∧ h.IsList l vs.toArray) :=
    fun A' hA => Walks.list hA _ _ (Nat.ne_of_lt hlt) vs.toArray
  have hIP : I ≠ P := fun e => Nat.lt_irrefl _ (e ▸ hPlt)
  have hst : h₃.IsListIter I l 0 ∧ h₃.IsList l vs.toArray := by
    refine ⟨⟨_, hx₃ I _ hIP (by rw [← hI]; exact Heap.get?_push_size _ rfl), rfl, rfl⟩, ?_⟩
    obtain ⟨o, ho, r⟩ := hl
    exact ⟨o, k₃ l o hlP ho, r⟩
  have hcw : cStatics ∉ [I] := fun hm => by
    have e1 : cStatics = I := List.mem_singleton.mp hm
    have e2 : cStatics < I := by rw [← hI]; exact let ⟨_, hn, _⟩ := hlim; hn.lt
    exact absurd e2 (by rw [e1]; exact Nat.lt_irrefl _)
  refine ⟨I, [I, l], [I], vs.toArray.size, _, _, (fun _ => true), (fun i y => ∃ b, ns[i]? = some b ∧ Carried y (.bool (b == 0))), rfl, W₀, hst, ?_, hl₃, hcw, ?_, ?_⟩
  · intro b hb
    rcases List.mem_cons.mp hb with rfl | hb
    · exact hge'
    · rw [List.mem_singleton.mp hb]; exact Nat.lt_of_lt_of_le (Nat.lt_succ_of_lt hlt) hge'
  · intro href hhref
    constructor
    · intro A' E' i v t m₂ hA hD hU hP hn hm hkp
      exact wpAny_pure ⟨rfl, _, _, rfl, fun _ _ e => e⟩
    · intro A' E' i v t m₂ hA hD hU hP _ hn hm hkp
      obtain ⟨k, hk, tk, hv⟩ : ∃ k, ns[i]? = some k ∧ ∃ tk, v = .int k tk := ints_get hi (by simpa using hP)
      subst hv
      refine wpAny_mono (helt _ c' A' E' k tk t m₂ hA hn hm) (fun y s₃ q => ⟨⟨k, hk, ?_⟩, q.2⟩) fun _ _ e => e
      rw [q.1]; exact .bool _
  · intro a h₅ tk gs hgb hag hsz₅ hk₅ W hat
    refine hQ a _ ps' (fun b o hb e => hk₅ b o (k₃ b o hb e)) (hcode₃.keeps hk₅) (htab₃.keeps hk₅) (G.push hgb) rfl ?_
    have hlen : vs.length = ns.length := hi.length
    have hpass : passing (fun _ => true) vs.toArray.size 0 = List.range ns.length := by simp [passing, hlen]
    have e1 : (ns.filter fun _ => true).length = (passing (fun _ => true) vs.toArray.size 0).length := by rw [hpass]; simp
    unfold GenOnD
    rw [e1]
    refine Gen.imp (F := fun j y => ∃ i, (passing (fun _ => true) vs.toArray.size 0)[j]? = some i ∧ ∃ b, ns[i]? = some b ∧ Carried y (.bool (b == 0))) ?_ fun j y hy => ?_
    · refine ⟨_, _, _, _, W, hat, (fun i s' st => st.1.typeIs), List.mem_cons_self, ?_, ?_⟩
      · intro b hb
        show b < h₅.objs.size
        rw [hsz₅]
        rcases List.mem_cons.mp hb with rfl | hb
        · exact Nat.lt_succ_self _
        · rcases List.mem_cons.mp hb with rfl | hb
          · exact Nat.lt_succ_of_lt hag
          · exact Nat.lt_succ_of_lt (Nat.lt_trans (List.mem_range.mp hb) hag)
      · intro b hb
        rcases List.mem_cons.mp hb with rfl | hb
        · show I - 1 < h₃.objs.size
          omega
        · have : b = I := List.mem_singleton.mp hb
          rw [this]
          exact Nat.sub_lt (Nat.lt_trans (by decide) h2) (by decide)
    rw [hpass] at hy
    obtain ⟨i, hij, b, hb, hc⟩ := hy
    refine ⟨b, ?_, hc⟩
    have : i = j := by
      rw [List.getElem?_range] at hij
      · exact (Option.some.inj hij).symm
      · false_or_by_contra
        rename_i hc
        rw [List.getElem?_eq_none (by simpa using hc)] at hij
        cases hij
    subst this
    rw [List.filter_eq_self.mpr (fun _ _ => rfl)]
    exact hb

def OffT (a : Addr) (p : Addr × Obj) : Prop := p.1 ≠ a ∨ ∀ ps, p.2 ≠ tabObj ps
theorem subT_mem {t : Addr} {a b : List (Addr × Obj)} {q : Addr × Obj} (h : ∀ p ∈ a, OffT t p → p ∈ b) (k : q ∈ a) (o : OffT t q) : q ∈ b := h q k o
theorem off_cell {t a : Addr} {o : Obj} {v : Option Value} (h : o.data = .cell v) : OffT t (a, o) := Or.inr fun ps e => by subst e; cases h
theorem my_all {g : Heap} {L a S : Addr} {m : Str → Option Value} {nx : List (Addr × Obj)} {ns : List Int} {Q : Value → Shared → Prop}
    (F : Fr g L s.heap m) (N : News g L s.heap nx) (G : AllBare s.gens) (X : GenOnD prog w A (S - 1) a ns (fun _ => true) (fun k => .bool (k == 0)) s) (hL : @LT.lt Nat _ L S) (hn : ∀ p ∈ nx, @LT.lt Nat _ p.1 S)
    (h : ∀ s', Fr g L s'.heap m → News g L s'.heap nx → AllBare s'.gens → s'.os = s.os → Q (.bool (ns.all (· == 0))) s') : wpAny (model prog w) A (call (.builtin "all") [.ref a]) Q E s := by
  refine all_genD F G X (Nat.le_sub_one_of_lt hL) fun s' F' G' hos hk => ?_
  have := h s' F' (fun p hp => ⟨hk p.1 p.2 (Nat.le_sub_one_of_lt (hn p hp)) (N p hp).1, (N p hp).2⟩) G' hos
  rwa [List.filter_eq_self.mpr (fun _ _ => rfl)]

theorem genexp_post {g : Heap} {K : Frag} {L lx c P bm : Addr} {ob : Obj} {m mg : Str → Option Value} {news : List (Addr × Obj)} {ns : List Int} {vs : List Value} {n : Nat} {ps cvs : Array Value} {Q : Value → Shared → Prop} {gl : Addr} {file : Str} {tf tg tt : Tok} {flags text : Int} {inF : Bool}
    (F : Fr g L s.heap m) (N : News g L s.heap news) (X : K.In g) (hlim : g.NoLimit) (M : BMod g gl mg bm ob) (ht : (P, tabObj ps) ∈ news) (htr : TriplesOk ps.toList) (hl : (lx, W.listOf vs.toArray n) ∈ news) (hi : IntsAre vs ns) (hG : AllBare s.gens)
    (hk : K.lookup c = some ⟨.type "code", none, .fields cvs, #[]⟩) (h11 : cvs[11]? = some (.ref P)) (h18 : cvs.getD 18 .none = .str file tf) (h7 : cvs.getD 7 .none = .int flags tg) (h9 : cvs.getD 9 .none = .bool inF) (h10 : cvs.getD 10 .none = .int text tt)
    (hcP : c ≠ P) (hPs : P ≠ cStatics) (h2 : 2 < P)
    (cont : ∀ a s₅ ps' nx S, Fr g L s₅.heap m → News g L s₅.heap nx → (P, tabObj ps') ∈ nx → TriplesOk ps'.toList → (∀ p ∈ news, OffT P p → p ∈ nx) → AllBare s₅.gens → s₅.os = s.os → @LT.lt Nat _ L S → (∀ p ∈ nx, @LT.lt Nat _ p.1 S) →
      GenOnD prog w A (S - 1) a ns (fun _ => true) (fun k => .bool (k == 0)) s₅ → Q (.ref a) s₅) :
    GxPost prog w A c P gl Q (.ref lx) s := by
  have hP := N _ ht
  have hgc := F.keep _ _ (X _ _ hk)
  have hgD : cvs.getD 11 .none = .ref P := by
    rw [Array.getD_eq_getD_getElem?, h11]; rfl
  refine ⟨lx, vs, ns, ps, mg, bm, ob, rfl, News.isList N hl, hi, ⟨_, cvs, file, tf, flags, tg, inF, text, tt, _, hgc, rfl, hgD, h18, h7, h9, h10, hP.1, rfl, htr, hcP⟩,
    ⟨⟨_, cvs, hgc, rfl, rfl, h11⟩, hP.1⟩, hPs, hG, hlim.keeps F.keep, M.keeps F.keep, Nat.lt_trans h2 (Heap.lt_size hP.1), ?_⟩
  intro a s₅ ps' hk5 hc5 ht5 hG5 hos hX
  have hLP : L ≠ P := Ne.symm hP.2.1
  obtain ⟨oL, es, ep, hL, hd⟩ := F.ns
  refine cont a s₅ ps' ((P, tabObj ps') :: news.filter (fun p => p.1 != P)) s.heap.objs.size ⟨⟨oL, es, ep, hk5 _ _ hLP hL, hd⟩, fun b o e => hk5 b o (fun e' => by rw [e', hP.2.2] at e; cases e) (F.keep b o e), F.above⟩ ?_ List.mem_cons_self ?_ ?_ hG5 hos (Heap.lt_size hL) ?_ hX
  · intro p hp
    rcases List.mem_cons.mp hp with rfl | hp
    · exact ⟨ht5.2, hP.2⟩
    · obtain ⟨h1, h3⟩ := List.mem_filter.mp hp
      exact ⟨hk5 _ _ (by simpa using h3) (N p h1).1, (N p h1).2⟩
  · obtain ⟨_, _, _, _, _, _, _, _, _, op, _, _, _, _, _, _, _, hop, hpd, htr', _⟩ := hc5
    exact htr'
  · intro p hp ho
    refine List.mem_cons_of_mem _ (List.mem_filter.mpr ⟨hp, ?_⟩)
    rcases ho with ho | ho
    · simpa using ho
    · by_cases e : p.1 = P
      · have h1 := (N p hp).1
        rw [e, hP.1] at h1
        exact absurd (Option.some.inj h1).symm (ho ps)
      · simpa using e
  · intro p hp
    rcases List.mem_cons.mp hp with rfl | hp
    · exact Heap.lt_size hP.1
    · exact Heap.lt_size (N p (List.mem_filter.mp hp).1).1
theorem elt_zero {x : Str} {px pz pc : Pos} {z : Nat} {scope : Scope} {cl : List (Str × Addr)} {env : Env} {C : Addr} {code : Value} {k : Int} {tk : Tok} {m₂ : Str → Option Value}
    (hn : s.heap.Ns C m₂) (hm : m₂ x = some (.int k tk)) (hk : scope.kind = .function) (hl : (genEnv scope cl C code builtinsNs env).kindOf x = some .local) (hd : (x == ("__debug__" : Str)) = false) :
    wpAny (model prog w) A (eval (.Compare (.Name x px) [.Eq] [.Constant (.int 0) z pz] pc) (genEnv scope cl C code builtinsNs env)) (fun y s₃ => y = .bool (k == 0) ∧ Keeps s s₃) E s := by
  refine wpAny_Compare1 ?_
  refine ldVarG (h₀ := {}) ⟨hn, fun b o e => (by simp [Heap.get?] at e), Nat.zero_le _⟩ hm ?_ hk hl hd
  refine wpAny_Constant_int ?_
  refine eq_int ?_
  exact ⟨by congr 1, _, _, rfl, fun _ _ e => e⟩
end

section
theorem hide_get {h : Heap} {a b : Addr} {o : Obj} (e : h.get? b = some o) (n : b ≠ a) : (h.hide a).get? b = some o := (Heap.hide_ne h n).trans e
theorem hide2_of {h : Heap} {a c b : Addr} {o : Obj} (e : ((h.hide a).hide c).get? b = some o) : h.get? b = some o := Heap.of_hide (Heap.of_hide e)
theorem hide2_get {h : Heap} {a c b : Addr} {o : Obj} (e : h.get? b = some o) (n : b ≠ a) (k : b ≠ c) : ((h.hide a).hide c).get? b = some o := hide_get (hide_get e n) k
theorem hide2_none {h : Heap} {a c b : Addr} (n : b = a ∨ b = c) : ((h.hide a).hide c).get? b = none := by
  cases e : ((h.hide a).hide c).get? b with
  | none => rfl
  | some o =>
    rcases n with rfl | rfl
    · have := Heap.of_hide e; rw [Heap.hide_self] at this; cases this
    · rw [Heap.hide_self] at e; cases e
theorem in_hide2 {K : Frag} {h : Heap} {a c : Addr} (X : K.In h) (ka : K.lookup a = none) (kc : K.lookup c = none) : K.In ((h.hide a).hide c) := fun b o e =>
  hide2_get (X b o e) (fun q => by rw [q, ka] at e; cases e) (fun q => by rw [q, kc] at e; cases e)
theorem fr_hide2 {h₀ h : Heap} {L a c : Addr} {m : Str → Option Value} (F : Fr h₀ L h m) : Fr ((h₀.hide a).hide c) L h m :=
  ⟨F.ns, fun b o e => F.keep b o (hide2_of e), by rw [Heap.hide_size, Heap.hide_size]; exact F.above⟩
theorem news_hide2 {h₀ h : Heap} {L a c : Addr} {m : Str → Option Value} {news : List (Addr × Obj)} {oa oc : Obj} (F : Fr h₀ L h m) (N : News h₀ L h news) (ha : h₀.get? a = some oa) (hc : h₀.get? c = some oc) :
    News ((h₀.hide a).hide c) L h (news ++ [(a, oa), (c, oc)]) := by
  intro p hp
  rcases List.mem_append.mp hp with hp | hp
  · refine ⟨(N p hp).1, (N p hp).2.1, ?_⟩
    cases e : ((h₀.hide a).hide c).get? p.1 with
    | none => rfl
    | some o => have := hide2_of e; rw [(N p hp).2.2] at this; cases this
  · rcases List.mem_cons.mp hp with rfl | hp
    · exact ⟨F.keep _ _ ha, Nat.ne_of_lt (Nat.lt_of_lt_of_le (Heap.lt_size ha) F.above), hide2_none (.inl rfl)⟩
    · obtain rfl := List.mem_singleton.mp hp
      exact ⟨F.keep _ _ hc, Nat.ne_of_lt (Nat.lt_of_lt_of_le (Heap.lt_size hc) F.above), hide2_none (.inr rfl)⟩
theorem ns_hide2 {h : Heap} {L a c : Addr} {m : Str → Option Value} {pa pc : Array Value} (H : h.Ns L m) (ha : h.get? a = some (tabObj pa)) (hc : h.get? c = some (tabObj pc)) : ((h.hide a).hide c).Ns L m := by
  obtain ⟨o, es, ep, ho, hd, r⟩ := H
  refine ⟨o, es, ep, hide2_get ho (fun q => ?_) (fun q => ?_), hd, r⟩
  · rw [q, ha] at ho; cases ho; cases hd
  · rw [q, hc] at ho; cases ho; cases hd

theorem list_hide2 {h : Heap} {l a c : Addr} {items : Array Value} {pa pc : Array Value} (H : h.IsList l items) (ha : h.get? a = some (tabObj pa)) (hc : h.get? c = some (tabObj pc)) : ((h.hide a).hide c).IsList l items := by
  obtain ⟨o, ho, h1, n, hd⟩ := H
  exact ⟨o, hide2_get ho (fun q => by rw [q, ha] at ho; cases ho; cases hd) (fun q => by rw [q, hc] at ho; cases ho; cases hd), h1, n, hd⟩
theorem triples_nil : TriplesOk (#[] : Array Value).toList := trivial
theorem fr_small {h₀ h : Heap} {L : Addr} {m : Str → Option Value} {x : Str} {v : Value} (F : Fr h₀ L h m) (hx : m x = some v) : ∃ m0 : Str → Option Value, Fr h₀ L h (fun y => if y = x then some v else m0 y) := by
  refine ⟨m, ?_⟩
  have e : m = fun y => if y = x then some v else m y := by
    funext y
    split
    · rename_i e; rw [e, hx]
    · rfl
  rw [← e]; exact F
theorem cell_none {o : Obj} {v : Option Value} (h : o.data = .cell v) (e : v = none) : o.data = .cell none := by rw [h, e]
def dumProg (p : Program) : Program := { p with main := { p.main with body := [Stmt.Import [⟨"sys", none, ⟨1, 0, 1, 10⟩⟩] ⟨1, 0, 1, 10⟩] } }
theorem nolimit_hide2 {h : Heap} {a c : Addr} {pa pc : Array Value} (H : h.NoLimit) (ha : h.get? a = some (tabObj pa)) (hc : h.get? c = some (tabObj pc)) : ((h.hide a).hide c).NoLimit := by
  obtain ⟨mc, hn, r⟩ := H
  exact ⟨mc, ns_hide2 hn ha hc, r⟩
theorem top_hide2 {p : Program} {loose : List Str} {mean : ExcName → Option Value} {mg mb : Str → Option Value} {h : Heap} {a c : Addr} {pa pc : Array Value} (T : Top p loose mean mg mb h)
    (ha : h.get? a = some (tabObj pa)) (hc : h.get? c = some (tabObj pc)) :
    Top (dumProg p) (loose ++ (recsOf p).map (·.name) ++ (litsOf p).map (·.1) ++ (clssOf p loose).map (·.name)) mean mg mb ((h.hide a).hide c) where
  g := ns_hide2 T.g ha hc
  b := ns_hide2 T.b ha hc
  nolimit := nolimit_hide2 T.nolimit ha hc
  nodigits := let ⟨mc, h1, h2⟩ := T.nodigits; ⟨mc, ns_hide2 h1 ha hc, h2⟩
  fn := fun d hd => nomatch (show d ∈ ([] : List DefRec) from hd)
  own := fun o ho => nomatch (show o ∈ ([] : List OwnSpec) from ho)
  const := fun x d e => by
    have : valOf (dumProg p) x = none := rfl
    rw [this] at e; cases e
  free := fun x h1 h2 _ _ _ => by
    simp only [List.mem_append, not_or] at h2
    exact T.free x h1 h2.1.1.1 h2.1.1.2 h2.1.2 h2.2
  builtins := T.builtins
  tab := fun d hd => nomatch (show d ∈ ([] : List DefRec) from hd)
  bmain := by
    obtain ⟨bm, ob, h1, h2, h3, h4, h5, h6⟩ := T.bmain
    exact ⟨bm, ob, h1, h2, hide2_get h3 (fun q => by rw [q, ha] at h3; cases h3; cases h6) (fun q => by rw [q, hc] at h3; cases h3; cases h6), h4, h5, h6⟩
  seer := fun e => by
    have : importsNone (dumProg p) = false := rfl
    rw [this] at e; cases e
theorem law_end {cl : ClaimW} {clA : Str → Option Addr} {mean : ExcName → Option Value} {args : List WData} {s₁ s' : Shared} {K : Frag} {h : Heap} {L a c ca cc : Addr} {m : Str → Option Value} {nx : List (Addr × Obj)} {pa pc cva cvc : Array Value}
    (hh : s₁.heap = h) (F : Fr ((h.hide a).hide c) L s'.heap m) (N : News ((h.hide a).hide c) L s'.heap nx) (ta : (a, tabObj pa) ∈ nx) (tc : (c, tabObj pc) ∈ nx) (ha : h.get? a = some (tabObj #[])) (hc : h.get? c = some (tabObj #[]))
    (X : K.In h) (ka : K.lookup ca = some ⟨.type "code", none, .fields cva, #[]⟩) (kc : K.lookup cc = some ⟨.type "code", none, .fields cvc, #[]⟩) (ea : cva[11]? = some (.ref a)) (ec : cvc[11]? = some (.ref c))
    (hG : AllBare s'.gens) (hos : s'.os = s₁.os) (hr : ∀ x, cl.raises args x = false) (hp : cl.post args (.bool true) args = true) : GoodWG cl clA mean args s₁ (.ok (.ret (.bool true))) s' := by
  subst hh
  refine ⟨.inl ⟨.bool true, .bool true, [], rfl, hr, .bool true, hp, fun _ => ⟨.nil, fun _ hx => nomatch hx⟩⟩, ⟨fun b o e => ?_, fun b o e => ?_⟩, hos, hG⟩
  · by_cases h1 : b = a
    · subst h1
      rw [ha] at e; cases e
      exact .inr (.inl ⟨⟨ca, _, cva, X _ _ ka, rfl, rfl, ea⟩, rfl, #[], pa, rfl, by rw [(N _ ta).1]; simp⟩)
    · by_cases h2 : b = c
      · subst h2
        rw [hc] at e; cases e
        exact .inr (.inl ⟨⟨cc, _, cvc, X _ _ kc, rfl, rfl, ec⟩, rfl, #[], pc, rfl, by rw [(N _ tc).1]; simp⟩)
      · exact .inl (F.keep b o (hide2_get e h1 h2))
  · by_cases h1 : b = a
    · subst h1; exact ⟨_, (N _ ta).1⟩
    · by_cases h2 : b = c
      · subst h2; exact ⟨_, (N _ tc).1⟩
      · exact ⟨o, F.keep b o (hide2_get e h1 h2)⟩
end

end
section
def Stays (p : Addr × Obj) : Prop := ((∀ ps, p.2 ≠ tabObj ps) ∧ p.2.cls ≠ .type "range_iterator") ∧ ∀ v, p.2.data ≠ .cell v
def Ext (a b : List (Addr × Obj)) : Prop := ∀ p ∈ a, Stays p → p ∈ b
theorem ext_refl {l : List (Addr × Obj)} : Ext l l := fun _ h _ => h
theorem ext_trans {a b c : List (Addr × Obj)} (h : Ext a b) (k : Ext b c) : Ext a c := fun p hp h1 => k p (h p hp h1) h1
theorem ext_of {a b : List (Addr × Obj)} (h : ∀ p ∈ a, p ∈ b) : Ext a b := fun p hp _ => h p hp
theorem ext_of1 {a b : List (Addr × Obj)} {t : Addr} (h : ∀ p ∈ a, OffT t p → p ∈ b) : Ext a b := fun p hp h1 => h p hp (Or.inr h1.1.1)
theorem ext_cons {a b : List (Addr × Obj)} {q : Addr × Obj} (h : Ext a b) : Ext a (q :: b) := fun p hp h1 => List.mem_cons_of_mem _ (h p hp h1)
theorem ext_mem {a b : List (Addr × Obj)} {x : Addr} {o : Obj} (h : Ext a b) (hm : (x, o) ∈ a) (ho : ∀ ps, o ≠ tabObj ps) (hc : ∀ v, o.data ≠ .cell v) (hi : o.cls ≠ .type "range_iterator" := by first | (intro e; cases e; done) | (intro e; exact absurd (Value.type.inj e) (by decide))) : (x, o) ∈ b := h _ hm ⟨⟨ho, hi⟩, hc⟩
theorem ne_cons {n : Nat} {cs : List Int} (hn : n = 2 ∨ n = 4) (h : cs.length = n) : ∃ c r, cs = c :: r := by
  cases cs with
  | nil => simp at h; omega
  | cons c r => exact ⟨c, r, rfl⟩
theorem ints_cons {vs : List Value} {c : Int} {r : List Int} (h : IntsAre vs (c :: r)) : ∃ t vr, vs = .int c t :: vr ∧ IntsAre vr r := by
  cases h with | cons _ _ h => exact ⟨_, _, rfl, h⟩
theorem mulL_len {n : Nat} {q : Int} {a b : List Int} (hn : n = 2 ∨ n = 4) (ha : a.length = n) (hb : b.length = n) : (mulL q a b).length = n := by
  rcases hn with rfl | rfl
  · obtain ⟨a0, a1, rfl⟩ := len_two ha
    obtain ⟨b0, b1, rfl⟩ := len_two hb
    rfl
  · obtain ⟨a0, a1, a2, a3, rfl⟩ := len_four ha
    obtain ⟨b0, b1, b2, b3, rfl⟩ := len_four hb
    rfl
theorem IsRing.ext {w : World} {a b : List (Addr × Obj)} {r : Addr} {q n : Int} (h : IsRing w a r q n) (e : Ext a b) : IsRing w b r q n :=
  let ⟨dr, t1, t2, u1, u2, x, y⟩ := h.out; ⟨dr, t1, t2, u1, u2, ext_mem e x (fun _ e => by cases e) (fun _ e => by cases e), ext_mem e y (fun _ e => by cases e) (fun _ e => by cases e)⟩
theorem IsInts.ext {a b : List (Addr × Obj)} {l : Addr} {cs : List Int} (h : IsInts a l cs) (e : Ext a b) : IsInts b l cs :=
  let ⟨vs, n, x, y⟩ := h.out; ⟨vs, n, ext_mem e x (fun _ e => by cases e) (fun _ e => by cases e), y⟩
theorem IsPoly.ext {w : World} {a b : List (Addr × Obj)} {r x : Addr} {cs : List Int} (h : IsPoly w a r x cs) (e : Ext a b) : IsPoly w b r x cs :=
  let ⟨dx, lx, t1, t2, y, z, c⟩ := h.out; ⟨dx, lx, t1, t2, ext_mem e y (fun _ e => by cases e) (fun _ e => by cases e), ext_mem e z (fun _ e => by cases e) (fun _ e => by cases e), c.ext e⟩
structure Tabs (nx : List (Addr × Obj)) : Prop where
  z : ∃ pa, (86, tabObj pa) ∈ nx ∧ TriplesOk pa.toList
  c : ∃ pa, (93, tabObj pa) ∈ nx ∧ TriplesOk pa.toList
theorem Tabs.sub {a b : List (Addr × Obj)} (h : Tabs a) (k : ∀ p ∈ a, p ∈ b) : Tabs b :=
  let ⟨p, x, y⟩ := h.z; let ⟨q, u, v⟩ := h.c; ⟨⟨p, k _ x, y⟩, ⟨q, k _ u, v⟩⟩
theorem Tabs.of1 {a b : List (Addr × Obj)} {ps : Array Value} (h : Tabs a) (k : ∀ p ∈ a, OffT 86 p → p ∈ b) (m : (86, tabObj ps) ∈ b) (t : TriplesOk ps.toList) : Tabs b :=
  let ⟨q, u, v⟩ := h.c; ⟨⟨ps, m, t⟩, ⟨q, k _ u (Or.inl (show (93 : Addr) ≠ 86 from by decide)), v⟩⟩
theorem Tabs.of2 {a b : List (Addr × Obj)} {ps : Array Value} (h : Tabs a) (k : ∀ p ∈ a, OffT 93 p → p ∈ b) (m : (93, tabObj ps) ∈ b) (t : TriplesOk ps.toList) : Tabs b :=
  let ⟨q, u, v⟩ := h.z; ⟨⟨q, k _ u (Or.inl (show (86 : Addr) ≠ 93 from by decide)), v⟩, ⟨ps, m, t⟩⟩
/-- the cells' values -/
def Cells (cs : List (Addr × Option Value)) (nx : List (Addr × Obj)) : Prop := ∀ p ∈ cs, ∃ o, (p.1, o) ∈ nx ∧ o.data = .cell p.2
theorem Cells.sub {cs : List (Addr × Option Value)} {a b : List (Addr × Obj)} (h : Cells cs a) (k : ∀ p ∈ a, p ∈ b) : Cells cs b := fun p hp =>
  let ⟨o, x, y⟩ := h p hp; ⟨o, k _ x, y⟩
theorem Cells.of1 {cs : List (Addr × Option Value)} {a b : List (Addr × Obj)} {t : Addr} (h : Cells cs a) (k : ∀ p ∈ a, OffT t p → p ∈ b) : Cells cs b := fun p hp =>
  let ⟨o, x, y⟩ := h p hp; ⟨o, k _ x (off_cell y), y⟩
/-- locals written out over a letter -/
def lk : List (Str × Value) → (Str → Option Value) → Str → Option Value
  | [], m => m
  | (x, v) :: r, m => fun y => if y = x then some v else lk r m y
theorem lk_same : ∀ (vs : List (Str × Value)) {m : Str → Option Value}, (∀ p ∈ vs, m p.1 = some p.2) → lk vs m = m
  | [], _, _ => rfl
  | (x, v) :: r, m, h => by
    funext y
    show (if y = x then some v else lk r m y) = m y
    rw [lk_same r fun p hp => h p (List.mem_cons_of_mem _ hp)]
    split
    · rename_i e; subst e; exact (h _ List.mem_cons_self).symm
    · rfl
theorem fr_lk {h₀ h : Heap} {L : Addr} {m : Str → Option Value} (F : Fr h₀ L h m) (vs : List (Str × Value)) (hv : ∀ p ∈ vs, m p.1 = some p.2) : ∃ m0, Fr h₀ L h (lk vs m0) :=
  ⟨m, by rw [lk_same vs hv]; exact F⟩
/-- the law's state between two statements -/
structure St (h₀ : Heap) (L : Addr) (os0 : OsState) (vs : List (Str × Value)) (cs : List (Addr × Option Value)) (nx : List (Addr × Obj)) (s : Shared) : Prop where
  F : ∃ m0, Fr h₀ L s.heap (lk vs m0)
  N : News h₀ L s.heap nx
  T : Tabs nx
  C : Cells cs nx
  G : AllBare s.gens
  O : s.os = os0
def lawDef (p : Program) : List Stmt × Scope := match p.main.body.getLast? with
  | some (.FunctionDef _ _ b _ _ _ sc _ _ _) => (b, sc)
  | _ => ([], { kind := .function, names := [], isGenerator := false, isCoroutine := false, more := [] })
def stm (p : Program) (i : Nat) : Stmt := ((lawDef p).1.drop i).headD (.Pass ⟨0, 0, 0, 0⟩)
/-- how many twos (at most k) a number holds -/
theorem bits_good2 {q : Int} {n b : Nat} {cs : List Int} (h : Good q n cs) (hq : Builtin.Int.intBits q ≤ b) : ∀ c ∈ cs, Builtin.Int.intBits c ≤ b := bits_good hq h
theorem fm_lo {x y : Int} (h : 0 < y) : 0 ≤ x.fmod y := by rw [Int.fmod_eq_emod_of_nonneg _ (by omega)]; exact Int.emod_nonneg _ (by omega)
theorem fm_hi {x y : Int} (h : 0 < y) : x.fmod y < y := by rw [Int.fmod_eq_emod_of_nonneg _ (by omega)]; exact Int.emod_lt_of_pos _ h
def n2 (x : Int) : Nat := if x.fmod 2 = 0 then 2 else 4
theorem n2_eq (x : Int) : 2 + x.fmod 2 * 2 = ((n2 x : Nat) : Int) := by
  have h1 := fm_lo (x := x) (y := 2) (by decide)
  have h2 := fm_hi (x := x) (y := 2) (by decide)
  unfold n2
  split
  · rename_i h; rw [h]; rfl
  · have : x.fmod 2 = 1 := by omega
    rw [this]; rfl
theorem n2_or (x : Int) : n2 x = 2 ∨ n2 x = 4 := by unfold n2; split; exact .inl rfl; exact .inr rfl
def CellsTo (cells : List (Addr × Option Value)) (c : Addr) (v : Value) (nx : List (Addr × Obj)) : Prop := ∀ cs', (∀ p ∈ cs', p = (c, some v) ∨ (p ∈ cells ∧ p.1 ≠ c)) → Cells cs' nx
theorem my_storeC {M : Model} {A : Around} {E : Value → Shared → Prop} {s : Shared} {h₀ : Heap} {L a : Addr} {m : Str → Option Value} {cn : Str} {cs : Scope} {ccd : Value} {cl : List (Str × Addr)} {x : Str} {v : Value} {v₀ : Option Value} {Q : Unit → Shared → Prop} {nx : List (Addr × Obj)} {cells : List (Addr × Option Value)} {c : Addr}
    (F : Fr h₀ L s.heap m) (N : News h₀ L s.heap nx) (TT : Tabs nx) (CC : Cells cells nx) (hc : cl.lookup x = some c) (hi : (c, v₀) ∈ cells)
    (h : ∀ h' nx', Fr h₀ L h' m → News h₀ L h' nx' → Tabs nx' → CellsTo cells c v nx' → Ext nx nx' → Q () { s with heap := h' })
    (hk : cs.kind = .function) (hx : (envX cn cs L a ccd cl).kindOf x = some .cell) : wpAny M A (storeName (envX cn cs L a ccd cl) x v) Q E s := by
  obtain ⟨o, hm, hd⟩ := CC _ hi
  dsimp only at hm hd
  have hmem := N _ hm
  refine wpAny_storeName_cell hk hx hc ⟨o, hmem.1, hd⟩ fun h' hv hs => ?_
  obtain ⟨o', ho', hd'⟩ := hv
  have keep : ∀ p ∈ nx, (∀ v, p.2.data ≠ .cell v) → p ∈ (c, o') :: nx.filter (fun p => p.1 != c) := fun p hp hn => by
    refine List.mem_cons_of_mem _ (List.mem_filter.mpr ⟨hp, ?_⟩)
    by_cases e : p.1 = c
    · have h1 := (N p hp).1
      rw [e, hmem.1] at h1
      have h2 : o = p.2 := Option.some.inj h1
      exact absurd hd (by rw [h2]; exact hn _)
    · simpa using e
  refine h h' ((c, o') :: nx.filter (fun p => p.1 != c)) ⟨F.ns.sameBut hs (Ne.symm hmem.2.1), fun b ob e => (hs.2 b (fun q => ?_)).trans (F.keep b ob e), F.above⟩ ?_ ?_ ?_ fun p hp h1 => keep p hp h1.2
  · rw [q, hmem.2.2] at e; cases e
  · intro p hp
    rcases List.mem_cons.mp hp with rfl | hp
    · exact ⟨ho', hmem.2⟩
    · obtain ⟨h1, h2⟩ := List.mem_filter.mp hp
      exact ⟨(hs.2 p.1 (by simpa using h2)).trans (N p h1).1, (N p h1).2⟩
  · obtain ⟨⟨pa, h1, h2⟩, ⟨pc, h3, h4⟩⟩ := TT
    exact ⟨⟨pa, keep _ h1 (fun _ e => by cases e), h2⟩, ⟨pc, keep _ h3 (fun _ e => by cases e), h4⟩⟩
  · intro cs' hcs p hp
    rcases hcs p hp with rfl | ⟨h1, h2⟩
    · exact ⟨o', List.mem_cons_self, hd'⟩
    · obtain ⟨o2, h3, h4⟩ := CC p h1
      exact ⟨o2, List.mem_cons_of_mem _ (List.mem_filter.mpr ⟨h3, by simpa using h2⟩), h4⟩
theorem Good.fmap {q : Int} {n : Nat} (hq : 2 ≤ q) {l : List Int} (h : (l.map fun k' => k'.fmod q).length = n) : Good q n (l.map fun k' => k'.fmod q) :=
  ⟨h, fun c hc => by obtain ⟨a, _, rfl⟩ := List.mem_map.mp hc; exact ⟨fm_lo (by omega), fm_hi (by omega)⟩⟩
theorem mulI_fmod {q v : Int} {cs : List Int} (hq : 2 ≤ q) : cs.map (fun k' => (k' * v).fmod q) = mulI q v cs := by
  refine List.map_congr_left fun c _ => Int.fmod_eq_emod_of_nonneg _ (by omega)
section
variable {prog : Program} {w : World} {M : Model} {A : Around} {E : Value → Shared → Prop} {s : Shared} {K : Frag} {x C L f : Addr} {h₀ : Heap} {m : Str → Option Value}
end
theorem my_unrEndL {h₀ : Heap} {L I : Addr} {it : Obj} {rest : (Str → Option Value) → List (Addr × Obj) → Prop} {s₁ : Shared} {h' : Heap} {tk : Nat} {m' : Str → Option Value} {all : List (Addr × Obj)} (F : Fr h₀ L h' m') (N : News h₀ L h' all)
    (hI : (I, it) ∈ all) (hc : it.cls = .type "range_iterator") (hd : ∃ a, it.data = .fields a)
    (r : ∀ nx', Ext all nx' → (Tabs all → Tabs nx') → (∀ cs, Cells cs all → Cells cs nx') → rest m' nx') : UnrEnd h₀ L s₁ I it rest { s₁ with heap := h', toks := tk } := by
  have back : ∀ p ∈ all, p.2 ≠ it → p ∈ all.filter (fun p => p.1 != I) := fun p hp hn => List.mem_filter.mpr ⟨hp, by
    simp only [bne_iff_ne, ne_eq]
    intro e
    have h1 := (N p hp).1
    have h2 := (N _ hI).1
    rw [e] at h1
    exact hn (Option.some.inj (h1.symm.trans h2))⟩
  refine UnrEnd.intro F N (all.filter (fun p => p.1 != I)) (fun p hp => ?_) (fun p hp => by simpa using (List.mem_filter.mp hp).2) (r _ ?_ ?_ ?_)
  · rcases List.mem_cons.mp hp with rfl | hp
    · exact hI
    · exact (List.mem_filter.mp hp).1
  · exact fun p hp h1 => back p hp fun e => h1.1.2 (by rw [e]; exact hc)
  · rintro ⟨⟨pa, h1, h2⟩, ⟨pc, h3, h4⟩⟩
    exact ⟨⟨pa, back _ h1 (fun e => by have e2 := congrArg Obj.cls e; dsimp only at e2; rw [hc] at e2; cases e2), h2⟩, ⟨pc, back _ h3 (fun e => by have e2 := congrArg Obj.cls e; dsimp only at e2; rw [hc] at e2; cases e2), h4⟩⟩
  · intro cs hC p hp
    obtain ⟨o, h1, h2⟩ := hC p hp
    obtain ⟨a, ha⟩ := hd
    exact ⟨o, back _ h1 (fun e => by have e2 := congrArg Obj.data e; dsimp only at e2; rw [ha, h2] at e2; cases e2), h2⟩

end
section
theorem kind_pow : builtinKind "pow" = none := by decide +kernel
theorem plain_pow : plainId "pow" = true := by decide +kernel
theorem entry_pow : entryFor table "pow" = some Builtin.«pow» := entryFor_of_fast (by kernel_rfl)
theorem args_pow3 (a b c : Value) : argsOk "pow" ⟨[a, b, c], []⟩ := by unfold argsOk; kernel_rfl
section
variable {prog : Program} {w : World} {A : Around} {E : Value → Shared → Prop} {s : Shared} {Q : Value → Shared → Prop}
theorem call_pow_mod {b e m : Int} {t u v : Tok}
    (h : ∀ A', wpAny (model prog w) A' (Builtin.«int.__pow__» ⟨[.int b t, .int e u, .int m v], []⟩) (fun fin s' => ∃ r, fin = .done (.ret r) ∧ r ≠ .notImplemented ∧ Q r s') E s) :
    wpAny (model prog w) A (call (.builtin "pow") [.int b t, .int e u, .int m v]) Q E s := by
  refine call_function_tree kind_pow plain_pow entry_pow (args_pow3 _ _ _) ?_
  unfold Builtin.«pow»
  refine wpAny_bind (wpAny_of_eq (show Builtin.Builtins.bindParams "pow" ["base", "exp", "mod"] 2 ⟨[.int b t, .int e u, .int m v], []⟩ = pure [some (.int b t), some (.int e u), some (.int m v)] from rfl) ?_)
  dsimp only [Option.getD]
  refine wpAny_bind (wpAny_rule ?_)
  refine wpAny_bind (wpAny_of_eq (show typeOf (.int b t) = pure (.type "int") from rfl) ?_)
  dsimp only
  refine wpAny_bind (wpAny_of_eq PySem.F.slot_int_pow.lookup ?_)
  dsimp only
  have hs : Slot "int" ("__pow__" : Str) "int.__pow__" := PySem.F.slot_int_pow
  refine wpAny_bind (wpAny_callSpecial?_slot (name := "__pow__") (T := "int") (id := "int.__pow__") (typeIs_int s b t) hs ?_)
  refine wpAny_call_entry PySem.F.slot_int_pow (typeIs_int s b t) PySem.F.entry_int_pow (wpAny_mono (h _) (fun fin s' hr => ?_) fun _ _ e => e) (PySem.F.args_int_pow_3 _ _ _)
  obtain ⟨r, rfl, hn, hq⟩ := hr
  refine ⟨r, rfl, ?_⟩
  dsimp only
  rw [if_pos (by simpa using hn)]
  exact wpAny_pure hq
end

end
section
open PyProof.Rows.LCg PyProof.Rows.LCp
section
variable {prog : Program} {w : World} {A : Around} {E : Value → Shared → Prop} {s : Shared} {h₀ : Heap} {L : Addr} {m : Str → Option Value} {env : Env}
theorem fr_wr {h h' : Heap} {wr : List Addr} (F : Fr h₀ L h m) (hk : ∀ b o, b ∉ wr → h.get? b = some o → h'.get? b = some o) (hL : L ∉ wr) (hI : ∀ b ∈ wr, h₀.get? b = none) : Fr h₀ L h' m :=
  ⟨F.ns.at' fun o e => hk L o hL e, fun b o e => hk b o (fun hm => by rw [hI b hm] at e; cases e) (F.keep b o e), F.above⟩
theorem news_wr {h h' : Heap} {wr : List Addr} {news : List (Addr × Obj)} (N : News h₀ L h news) (hk : ∀ b o, b ∉ wr → h.get? b = some o → h'.get? b = some o) (off : ∀ p ∈ news, p.1 ∉ wr) : News h₀ L h' news :=
  fun p hp => ⟨hk _ _ (off p hp) (N p hp).1, (N p hp).2⟩
def ZEnd (h₀ : Heap) (L : Addr) (m : Str → Option Value) (s₁ : Shared) (nw : List (Addr × Obj)) (G : Value → Prop) (y : Value) (s₂ : Shared) : Prop :=
  ∃ h' tk, s₂ = { s₁ with heap := h', toks := tk } ∧ Fr h₀ L h' m ∧ News h₀ L h' nw ∧ G y
theorem block_Z {elt iter : Expr} {x x₂ : Str} {px px₂ tp : Pos} {tk} {scope : Scope} {cl : List (Str × Addr)} {pos : Pos} {s₂ : Shared} {I : Addr} {fp wr fpn : List Addr} {n : Nat} {Pt : Nat → Array Value → Prop} {St : Nat → Heap → Prop} {Mid : Nat → Addr → Heap → Prop} {news : List (Addr × Obj)}
    {xs ys : List Value} {GI : Nat → List Value → Prop} {RR : Value → Addr → Result → Shared → Prop}
    (W : WalksU prog w A I fp wr n Pt St Mid) (hsz : n ≤ sizeLine) (hPt : ∀ i vals, Pt i vals → ∃ a b, xs[i]? = some a ∧ ys[i]? = some b ∧ vals = #[a, b])
    (hown : ∀ i h, St i h → ∃ own : List (Addr × Obj), (∀ p ∈ own, h.get? p.1 = some p.2 ∧ p.1 ∈ fpn) ∧ ∀ b ∈ fp, (∃ o, (b, o) ∈ own) ∨ ∃ o, (b, o) ∈ news)
    (hfr : ∀ b ∈ fpn, h₀.get? b = none ∧ L ≠ b ∧ ∀ p ∈ news, p.1 ≠ b) (hwr : ∀ b ∈ wr, b ∈ fpn) (hfn : ∀ b ∈ fpn, b ∈ fp)
    (hcell : ∀ y ∈ scope.names, y.2 ≠ .cell) (hkind : scope.kind = .function) (hx : scope.names.lookup x = some .local) (hx₂ : scope.names.lookup x₂ = some .local) (hxx : x ≠ x₂) (hh : A.handled = none) (hst : St 0 s₂.heap) (hfp : ∀ b ∈ fp, b < s₂.heap.objs.size)
    (F : Fr h₀ L s₂.heap m) (N : News h₀ L s₂.heap news) (g0 : GI 0 [])
    (helt : ∀ i a b acc nw C oC m₂ h tk (E' : Value → Shared → Prop), i < n → xs[i]? = some a → ys[i]? = some b → GI i acc → NsObj oC m₂ → m₂ x = some a → m₂ x₂ = some b → (C, oC) ∈ nw → (∀ p ∈ news, p ∈ nw) → Fr h₀ L h m → News h₀ L h nw →
      wpAny (model prog w) A (eval elt (compEnvC scope cl C env)) (ZEnd h₀ L m { s₂ with heap := h, toks := tk } nw fun y => GI (i + 1) (acc ++ [y])) E' { s₂ with heap := h, toks := tk })
    (hRR : ∀ D C h tk m' acc, Fr h₀ L h m → News h₀ L h ((D, lst acc) :: news) → Off1 D news → h.Ns C m' → h₀.get? C = none → h₀.get? D = none → C ≠ L → D ≠ L → C ≠ D → (∀ p ∈ news, p.1 ≠ C) → GI n acc → RR (.ref D) C (.ok .next) { s₂ with heap := h, toks := tk }) :
    wpAny (model prog w) A (newList []) (fun acc s₃ => wpAny (model prog w) A (newFunctionEnv scope env.globals cl [] env.qual none .none (some env)) (fun cenv s₄ =>
      codeAny (model prog w) A (.compStart (.ListComp elt [⟨.Tuple [.Name x px, .Name x₂ px₂] tk tp, iter, [], 0⟩] scope pos) 0 (.ref I) acc { cenv with scope := relabel scope env }) (RR acc cenv.locals) s₄) E s₃) E s₂ := by
  refine wpAny_newObj_type (wpAny_newFunctionEnv hcell (by intro y hy; simp at hy) (fun h₁ hns₁ hsb₁ => ?_) hkind)
  dsimp only at hns₁ hsb₁ ⊢
  generalize hH2 : s₂.heap.push { cls := .type "list", dict := none, data := .seq ([] : List Value).toArray } = H2 at hns₁ hsb₁ ⊢
  have hC : H2.objs.size = s₂.heap.objs.size + 1 := by rw [← hH2, Heap.size_push]
  have hDC : s₂.heap.objs.size ≠ H2.objs.size := by rw [hC]; exact Nat.ne_of_lt (Nat.lt_succ_self _)
  have below : ∀ b, b < s₂.heap.objs.size → b ≠ H2.objs.size ∧ b ≠ s₂.heap.objs.size := fun b hb => ⟨by rw [hC]; exact Nat.ne_of_lt (Nat.lt_succ_of_lt hb), Nat.ne_of_lt hb⟩
  have hDf : s₂.heap.objs.size ∉ fp := fun hm => Nat.lt_irrefl _ (hfp _ hm)
  have hCf : H2.objs.size ∉ fp := fun hm => by have := hfp _ hm; rw [hC] at this; exact Nat.lt_irrefl _ (Nat.lt_of_succ_lt this)
  have old : ∀ b o, s₂.heap.get? b = some o → h₁.get? b = some o := fun b o e => hsb₁.extBut b o (below b (Heap.lt_size e)).1 (Heap.get?_push_of_some _ (hH2 ▸ Heap.get?_push_of_some _ e))
  have hacc : h₁.get? s₂.heap.objs.size = some (lst []) := hsb₁.extBut _ _ hDC (Heap.get?_push_of_some _ (hH2 ▸ Heap.get?_push_size _ rfl))
  have hst₁ : St 0 h₁ := W.frame _ _ _ hst fun b _ o e => old b o e
  have fresh₀ : ∀ a, s₂.heap.objs.size ≤ a → h₀.get? a = none := fun a ha => by
    cases e : h₀.get? a with
    | none => rfl
    | some o' => exact absurd (Heap.lt_size (F.keep a o' e)) (Nat.not_lt.mpr ha)
  have hD₀ : h₀.get? s₂.heap.objs.size = none := fresh₀ _ (Nat.le_refl _)
  have hC₀ : h₀.get? H2.objs.size = none := fresh₀ _ (by rw [hC]; exact Nat.le_succ _)
  have hLlt : L < s₂.heap.objs.size := F.ns.lt
  have hDL : s₂.heap.objs.size ≠ L := Ne.symm (below L hLlt).2
  have hCL : H2.objs.size ≠ L := Ne.symm (below L hLlt).1
  have offC : ∀ p ∈ news, p.1 ≠ H2.objs.size := fun p hp => (below _ (Heap.lt_size (N p hp).1)).1
  have offD : ∀ p ∈ news, p.1 ≠ s₂.heap.objs.size := fun p hp => (below _ (Heap.lt_size (N p hp).1)).2
  have off1 : ∀ l : List (Addr × Obj), (∀ p ∈ l, p.1 ≠ s₂.heap.objs.size) → Off1 s₂.heap.objs.size l := fun l => by
    induction l with
    | nil => intro _; trivial
    | cons q l ih => intro h; exact ⟨h q List.mem_cons_self, ih fun p hp => h p (List.mem_cons_of_mem _ hp)⟩
  have hwrL : L ∉ wr := fun h => (hfr _ (hwr _ h)).2.1 rfl
  have hwr0 : ∀ b ∈ wr, h₀.get? b = none := fun b hb => (hfr _ (hwr _ hb)).1
  have hwrN : ∀ p ∈ news, p.1 ∉ wr := fun p hp h => (hfr _ (hwr _ h)).2.2 p hp rfl
  have hCw : H2.objs.size ∉ wr := fun h => hCf (W.sub _ h)
  have hDw : s₂.heap.objs.size ∉ wr := fun h => hDf (W.sub _ h)
  have loop : ∀ s₃ : Shared, s₃ = { s₂ with heap := h₁, toks := s₂.toks + ([] : List (Str × Value)).length } →
      codeAny (model prog w) A (.compLoop (.ListComp elt [⟨.Tuple [.Name x px, .Name x₂ px₂] tk tp, iter, [], 0⟩] scope pos) 0 (.ref I) (.ref s₂.heap.objs.size) (compEnvC scope cl H2.objs.size env))
        (RR (.ref s₂.heap.objs.size) H2.objs.size) s₃ := by
    rintro s₃ rfl
    refine codeAny_compLoop_pair
      (fun k s' => ∃ h' tk i acc m', s' = { s₂ with heap := h', toks := tk } ∧ i ≤ n ∧ k = n + 1 - i ∧ acc.length = i ∧ St i h' ∧ Fr h₀ L h' m ∧ h'.Ns H2.objs.size m' ∧ News h₀ L h' ((s₂.heap.objs.size, lst acc) :: news) ∧ GI i acc) ?_ (n + 1)
      ⟨h₁, _, 0, [], _, rfl, Nat.zero_le _, rfl, rfl, hst₁, F.keeps old, hns₁, fun p hp => ?_, g0⟩
    · rintro k s' ⟨h', tk, i, acc, m', rfl, hi, rfl, hyl, hst', F', hn', N', hG⟩
      have offDN : ∀ p ∈ (s₂.heap.objs.size, lst acc) :: news, p.1 ∉ wr := fun p hp => by
        rcases List.mem_cons.mp hp with rfl | hp
        · exact hDw
        · exact hwrN p hp
      by_cases hlt : i < n
      · refine W.item i _ _ _ hlt hst' fun T vals h₂ tk₂ hP hT hmid hk₂ => ?_
        obtain ⟨a, b, ha, hb, rfl⟩ := hPt i vals hP
        refine W.go _ _ _ i T _ _ _ hmid fun h₂' hst₂ hk₂' => ?_
        have ht : IsTup h₂' T #[a, b] := by
          obtain ⟨o, e, r⟩ := hT
          exact ⟨o, hk₂' T o (W.apart i T _ hmid) e, r⟩
        refine assign_Tuple_tuple hh ht rfl rfl fun h₅ he => ?_
        have he' : ∀ b o, h₂'.get? b = some o → h₅.get? b = some o := fun b o e => he b o (Nat.ne_of_lt (Heap.lt_size e)) e
        have hn₂ : h₂'.Ns H2.objs.size m' := (hn'.at' fun o e => hk₂ _ o hCw e).at' fun o e => hk₂' _ o hCw e
        refine assignInOrder_cons (wpAny_assign_Name (wpAny_storeName_local (lookup_relabel_local hx) (hn₂.at' fun o e => he' _ o e) (fun h₆ hn₆ hs₆ => ?_) (by simp [compEnvC, relabel, hkind])))
        refine assignInOrder_cons (wpAny_assign_Name (wpAny_storeName_local (lookup_relabel_local hx₂) hn₆ (fun h₃ hn₃ hs₃ => ?_) (by simp [compEnvC, relabel, hkind])))
        refine assignInOrder_nil ?_
        have old3 : ∀ b o, b ≠ H2.objs.size → h₂'.get? b = some o → h₃.get? b = some o := fun b o hb e => hs₃.extBut b o hb (hs₆.extBut b o hb (he' b o e))
        have hst₃ : St (i + 1) h₃ := W.frame _ _ _ hst₂ fun b hb o e => old3 b o (fun q => hCf (by rw [← q]; exact hb)) e
        obtain ⟨own, ho1, ho2⟩ := hown _ _ hst₃
        obtain ⟨oC, heC, hoC⟩ := ns_obj hn₃
        have F₂ : Fr h₀ L h₂' m := fr_wr (fr_wr F' hk₂ hwrL hwr0) hk₂' hwrL hwr0
        have F₃ : Fr h₀ L h₃ m := ((F₂.keeps he').change hs₆ hCL hC₀).change hs₃ hCL hC₀
        have N₂ := news_wr (news_wr N' hk₂ offDN) hk₂' offDN
        have N₃ : News h₀ L h₃ (own ++ (H2.objs.size, oC) :: (s₂.heap.objs.size, lst acc) :: news) := fun p hp => by
          rcases List.mem_append.mp hp with hp | hp
          · exact ⟨(ho1 p hp).1, Ne.symm (hfr _ (ho1 p hp).2).2.1, (hfr _ (ho1 p hp).2).1⟩
          rcases List.mem_cons.mp hp with rfl | hp
          · exact ⟨heC, hCL, hC₀⟩
          · have z := N₂ p hp
            refine ⟨old3 _ _ ?_ z.1, z.2⟩
            rcases List.mem_cons.mp hp with rfl | hp
            · exact hDC
            · exact offC p hp
        refine wpAny_mono (helt i a b acc _ H2.objs.size oC _ h₃ _ _ hlt ha hb hG hoC (by simp [hxx]) (by simp) (List.mem_append_right _ List.mem_cons_self) (fun p hp => List.mem_append_right _ (List.mem_cons_of_mem _ (List.mem_cons_of_mem _ hp))) F₃ N₃) (fun y s₄ h₄ => ?_) fun _ _ e => e
        obtain ⟨h₄, tk₄, rfl, F₄, N₄, hG₄⟩ := h₄
        have zC := (N₄ (H2.objs.size, oC) (List.mem_append_right _ List.mem_cons_self)).1
        have zD := (N₄ (s₂.heap.objs.size, lst acc) (List.mem_append_right _ (List.mem_cons_of_mem _ List.mem_cons_self))).1
        have hst₄ : St (i + 1) h₄ := W.frame _ _ _ hst₃ fun b hb o e => by
          rcases ho2 b hb with ⟨o', hm'⟩ | ⟨o', hm'⟩
          · have e1 := (ho1 _ hm').1
            have e2 := (N₄ _ (List.mem_append_left _ hm')).1
            dsimp only at e1 e2
            rw [e] at e1
            cases e1
            exact e2
          · have hm9 : (b, o') ∈ own ++ (H2.objs.size, oC) :: (s₂.heap.objs.size, lst acc) :: news := List.mem_append_right _ (List.mem_cons_of_mem _ (List.mem_cons_of_mem _ hm'))
            have e1 := (N₃ _ hm9).1
            have e2 := (N₄ _ hm9).1
            dsimp only at e1 e2
            rw [e] at e1
            cases e1
            exact e2
        refine append_at (hsz := by show acc.toArray.size ≤ sizeLine; rw [List.size_toArray, hyl]; exact Nat.le_trans hi hsz) zD fun h₅ hs₅ hD₅ => ?_
        refine ⟨n + 1 - (i + 1), by omega, h₅, tk₄, i + 1, acc ++ [y], _, rfl, hlt, rfl, by rw [List.length_append, List.length_singleton, hyl], W.frame _ _ _ hst₄ fun b hb o e => hs₅.extBut b o (fun q => hDf (q ▸ hb)) e, F₄.change hs₅ hDL hD₀,
          (hoC.ns zC).sameBut hs₅ (Ne.symm hDC), fun p hp => ?_, hG₄⟩
        rcases List.mem_cons.mp hp with rfl | hp
        · exact ⟨hD₅.trans (congrArg some (lst_snoc acc y)), hDL, hD₀⟩
        · have z := N₄ p (List.mem_append_right _ (List.mem_cons_of_mem _ (List.mem_cons_of_mem _ hp)))
          exact ⟨hs₅.extBut _ _ (offD p hp) z.1, z.2⟩
      · obtain rfl : i = n := Nat.le_antisymm hi (Nat.not_lt.mp hlt)
        refine W.done _ _ _ hst' fun h₂ tk₂ hk₂ => ?_
        exact hRR _ _ h₂ tk₂ _ acc (fr_wr F' hk₂ hwrL hwr0) (news_wr N' hk₂ offDN) (off1 _ offD) (hn'.at' fun o e => hk₂ _ o hCw e) hC₀ hD₀ hCL hDL (Ne.symm hDC) offC hG
    · rcases List.mem_cons.mp hp with rfl | hp
      · exact ⟨hacc, hDL, hD₀⟩
      · exact ⟨old _ _ (N p hp).1, (N p hp).2⟩
  exact codeAny_compStart_list (loop _ rfl) (W.self 0 _ _ _ hst₁ (loop _ rfl))

theorem intsZ_get : ∀ {xs : List Value} {cs : List Int} {i : Nat} {a : Value}, IntsAre xs cs → xs[i]? = some a → ∃ c t, a = .int c t ∧ cs[i]? = some c
  | _, _, i, a, .nil, e => by simp at e
  | _, _, 0, a, .cons c t h, e => ⟨c, t, by simpa using e.symm, rfl⟩
  | _, _, i + 1, a, .cons c t h, e => by
    obtain ⟨c', t', h1, h2⟩ := intsZ_get h (i := i) (a := a) (by simpa using e)
    exact ⟨c', t', h1, by simpa using h2⟩
def SrcZ (prog : Program) (w : World) (A : Around) (h₀ : Heap) (L : Addr) (m : Str → Option Value) (env : Env) (elt : Expr) (x x₂ : Str) (scope : Scope) (cl : List (Str × Addr)) (y : Str) (Q : Flow → Shared → Prop) (xv : Value) (s₁ : Shared) : Prop :=
  ∃ (g : Nat) (l1 l2 : Addr) (n1 n2 n : Nat) (xs ys : List Value) (news : List (Addr × Obj)) (GI : Nat → List Value → Prop), A.handled = none ∧ xv = .ref (g + 4) ∧
    IsZip s₁.heap (g + 4) (g + 2) (g + 3) .none ∧ IsPair s₁.heap (g + 2) (.ref g) (.ref (g + 1)) ∧ IsPair s₁.heap (g + 3) .none .none ∧ s₁.heap.IsListIter g l1 0 ∧ s₁.heap.IsListIter (g + 1) l2 0 ∧ s₁.heap.objs.size = g + 5 ∧
    Fr h₀ L s₁.heap m ∧ News h₀ L s₁.heap news ∧ @LT.lt Nat _ L g ∧ (∀ b : Addr, @LE.le Nat _ g b → h₀.get? b = none) ∧ (∀ p ∈ news, @LT.lt Nat _ p.1 g) ∧ (l1, W.listOf xs.toArray n1) ∈ news ∧ (l2, W.listOf ys.toArray n2) ∈ news ∧ xs.length = n ∧ ys.length = n ∧ n ≤ sizeLine ∧ GI 0 [] ∧
    (∀ i a b acc nw C oC m₂ h tk (E' : Value → Shared → Prop), i < n → xs[i]? = some a → ys[i]? = some b → GI i acc → NsObj oC m₂ → m₂ x = some a → m₂ x₂ = some b → (C, oC) ∈ nw → (∀ p ∈ news, p ∈ nw) → Fr h₀ L h m → News h₀ L h nw →
      wpAny (model prog w) A (eval elt (compEnvC scope cl C env)) (ZEnd h₀ L m { s₁ with heap := h, toks := tk } nw fun y => GI (i + 1) (acc ++ [y])) E' { s₁ with heap := h, toks := tk }) ∧
    ∀ out D h tk, GI n out → Fr h₀ L h (fun z => if z = y then some (.ref D) else m z) → News h₀ L h ((D, lst out) :: news) → Off1 D news → Q .next { s₁ with heap := h, toks := tk }
theorem zip_srcZ {elt : Expr} {x x₂ y : Str} {scope : Scope} {cl : List (Str × Addr)} {Q : Flow → Shared → Prop} {l1 l2 : Addr} {n1 n2 : Nat} {xs ys : List Value} {cs ds : List Int} {news : List (Addr × Obj)} (fn : Int → Int → Int)
    (hh : A.handled = none) (F : Fr h₀ L s.heap m) (N : News h₀ L s.heap news) (hm1 : (l1, W.listOf xs.toArray n1) ∈ news) (hm2 : (l2, W.listOf ys.toArray n2) ∈ news) (hi1 : IntsAre xs cs) (hi2 : IntsAre ys ds) (hl : cs.length = ds.length) (hsz : cs.length ≤ sizeLine)
    (elts : ∀ a b t u nw C oC m₂ h tk (E' : Value → Shared → Prop), NsObj oC m₂ → m₂ x = some (.int a t) → m₂ x₂ = some (.int b u) → (C, oC) ∈ nw → (∀ p ∈ news, p ∈ nw) → Fr h₀ L h m → News h₀ L h nw →
      wpAny (model prog w) A (eval elt (compEnvC scope cl C env)) (ZEnd h₀ L m { s with heap := h, toks := tk } nw fun y => ∃ t', y = .int (fn a b) t') E' { s with heap := h, toks := tk })
    (fin : ∀ out D h tk, IntsAre out (List.zipWith fn cs ds) → Fr h₀ L h (fun z => if z = y then some (.ref D) else m z) → News h₀ L h ((D, lst out) :: news) → Off1 D news → Q .next { s with heap := h, toks := tk }) :
    wpAny (model prog w) A (call (.type "zip") [.ref l1, .ref l2]) (SrcZ prog w A h₀ L m env elt x x₂ scope cl y Q) E s := by
  have hL1 : s.heap.IsList l1 xs.toArray := ⟨_, (N _ hm1).1, rfl, n1, rfl⟩
  have hL2 : s.heap.IsList l2 ys.toArray := ⟨_, (N _ hm2).1, rfl, n2, rfl⟩
  have e1 := hi1.length
  have e2 := hi2.length
  refine call_zip_2 hL1 hL2 fun h' hz hTI hTO hi1' hi2' hsz' hk => ?_
  refine ⟨s.heap.objs.size, l1, l2, n1, n2, cs.length, xs, ys, news, fun i acc => IntsAre acc ((List.zipWith fn cs ds).take i), hh, rfl, hz, hTI, hTO, hi1', hi2', hsz', F.keeps hk, N.grown hk, F.ns.lt, fun b hb => ?_, fun p hp => Heap.lt_size (N p hp).1, hm1, hm2, e1, by omega, hsz, .nil, ?_, ?_⟩
  · cases e : h₀.get? b with
    | none => rfl
    | some o => exact absurd (Heap.lt_size (F.keep _ _ e)) (Nat.not_lt.mpr hb)
  · intro i a b acc nw C oC m₂ h tk E' hi ha hb hG hoC hx hx2 hC hn F' N'
    obtain ⟨c, t, rfl, hc⟩ := intsZ_get hi1 ha
    obtain ⟨d, u, rfl, hd⟩ := intsZ_get hi2 hb
    refine wpAny_mono (elts c d t u nw C oC m₂ h tk E' hoC hx hx2 hC hn F' N') (fun y s₄ h₄ => ?_) fun _ _ e => e
    obtain ⟨h₄, tk₄, rfl, F₄, N₄, t', rfl⟩ := h₄
    refine ⟨h₄, tk₄, rfl, F₄, N₄, ?_⟩
    have hz' : (List.zipWith fn cs ds)[i]? = some (fn c d) := by rw [List.getElem?_zipWith, hc, hd]
    have : (List.zipWith fn cs ds).take (i + 1) = (List.zipWith fn cs ds).take i ++ [fn c d] := by
      rw [List.take_succ, hz']; rfl
    show IntsAre (acc ++ [_]) (List.take (i + 1) (List.zipWith fn cs ds))
    rw [this]
    exact IntsAre.append hG (.cons _ _ .nil)
  · intro out D h tk hG
    refine fin out D h tk ?_
    have : (List.zipWith fn cs ds).take cs.length = List.zipWith fn cs ds := List.take_of_length_le (by rw [List.length_zipWith]; omega)
    have hG' : IntsAre out ((List.zipWith fn cs ds).take cs.length) := hG
    rw [this] at hG'
    exact hG'
theorem Assign_ListComp_Z {elt iter : Expr} {x x₂ y : Str} {px px₂ tp py : Pos} {tk} {scope : Scope} {cl : List (Str × Addr)} {pos spos : Pos} {Q : Flow → Shared → Prop} (F₀ : Fr h₀ L s.heap m) (hLe : env.locals = L)
    (hsw : swapsWith (.ListComp elt [⟨.Tuple [.Name x px, .Name x₂ px₂] tk tp, iter, [], 0⟩] scope pos) (some (.Name y py)) spos.line env = pure true)
    (hclos : closureFor scope env = pure cl) (hcell : ∀ z ∈ scope.names, z.2 ≠ .cell) (hkind : scope.kind = .function)
    (hnames : ∀ z ∈ scope.names, z.2 = .local → scope.names.lookup z.1 = some .local) (hx : scope.names.lookup x = some .local) (hx₂ : scope.names.lookup x₂ = some .local) (hxx : x ≠ x₂)
    (hy : env.kindOf y = some .local) (hp : (env.scope.kind == .class || (env.scope.kind == .module && env.locals != env.globals)) = false)
    (h : wpAny (model prog w) A (eval iter env) (SrcZ prog w A h₀ L m env elt x x₂ scope cl y Q) E s)
    (hs : ∀ x, foldedSetIterable iter env x = pure x := by intro _; rfl) :
    wpAny (model prog w) A (exec (.Assign [.Name y py] (.ListComp elt [⟨.Tuple [.Name x px, .Name x₂ px₂] tk tp, iter, [], 0⟩] scope pos) spos) env) Q E s := by
  subst hLe
  rw [exec_Assign_Name_used _ _ _ _ hsw]
  refine wpAny_bind (wpAny_standAt (wpAny_bind ?_))
  show wpAny _ A (do let _ ← comprehension (.ListComp elt [⟨.Tuple [.Name x px, .Name x₂ px₂] tk tp, iter, [], 0⟩] scope pos) scope env _ (newList []) false (eval iter env) (some (assign (.Name y py) env))) _ _ s
  refine wpAny_bind (wpAny_mono (wpAny_comprehension_free (use := some (assign (.Name y py) env)) (Q := fun _ s' => Q .next s') rfl hs hclos hkind hnames
    (wpAny_mono h (fun xv s₁ h₁ => ?_) fun _ _ e => e)) (fun _ s' hq => wpAny_pure (wpAny_pure hq)) fun _ _ e => e)
  obtain ⟨g, l1, l2, n1, n2, n, xs, ys, news, GI, hh, rfl, hz, hTI, hTO, hi1, hi2, hsz', F, N, hLg, hg0, hlt, hm1, hm2, e1, e2, hsz, g0, helt, fin⟩ := h₁
  refine wpAny_pyIter_zip hz ?_
  have hL1 : s₁.heap.IsList l1 xs.toArray := ⟨_, (N _ hm1).1, rfl, n1, rfl⟩
  have hL2 : s₁.heap.IsList l2 ys.toArray := ⟨_, (N _ hm2).1, rfl, n2, rfl⟩
  have h1 := hlt _ hm1
  have h2 := hlt _ hm2
  have D : ZipApart (g + 4) (g + 2) (g + 3) g (g + 1) l1 l2 := ktu_apart _ _ _ h1 h2
  have hmin : min xs.toArray.size ys.toArray.size = n := by rw [List.size_toArray, List.size_toArray, e1, e2]; exact Nat.min_self n
  have W := (WalksT.zip2 (prog := prog) (w := w) hh _ _ _ _ _ _ _ D xs.toArray ys.toArray).toU
  rw [hmin] at W
  refine block_Z (fpn := [g + 4, g + 2, g + 3, g, g + 1]) (xs := xs) (ys := ys) (GI := GI) W hsz ?_ ?_ ?_ ?_ ?_ hcell hkind hx hx₂ hxx hh ⟨hz, hTI, ⟨_, _, hTO⟩, hi1, hi2, hL1, hL2⟩ ?_ F N g0 helt ?_
  · rintro i vals ⟨a, b, ha, hb, rfl⟩
    exact ⟨a, b, by simpa using ha, by simpa using hb, rfl⟩
  · rintro i h ⟨hz, hTI, ⟨a, b, hTO⟩, ⟨o1, ho1, _⟩, ⟨o2, ho2, _⟩, _⟩
    have e1 : ∃ o : Obj, h.get? (g + 4) = some o := ⟨_, hz⟩
    have e2 : ∃ o : Obj, h.get? (g + 2) = some o := ⟨_, hTI⟩
    have e3 : ∃ o : Obj, h.get? (g + 3) = some o := ⟨_, hTO⟩
    obtain ⟨q1, g1⟩ := e1
    obtain ⟨q2, g2⟩ := e2
    obtain ⟨q3, g3⟩ := e3
    refine ⟨[(g + 4, q1), (g + 2, q2), (g + 3, q3), (g, o1), (g + 1, o2)], ?_, ?_⟩
    · intro p hp
      simp only [List.mem_cons, List.not_mem_nil, or_false] at hp
      rcases hp with rfl | rfl | rfl | rfl | rfl
      · exact ⟨g1, by simp⟩
      · exact ⟨g2, by simp⟩
      · exact ⟨g3, by simp⟩
      · exact ⟨ho1, by simp⟩
      · exact ⟨ho2, by simp⟩
    · intro b hb
      simp only [List.mem_cons, List.not_mem_nil, or_false] at hb
      rcases hb with rfl | rfl | rfl | rfl | rfl | rfl | rfl
      · exact .inl ⟨q1, by simp⟩
      · exact .inl ⟨q2, by simp⟩
      · exact .inl ⟨q3, by simp⟩
      · exact .inl ⟨o1, by simp⟩
      · exact .inl ⟨o2, by simp⟩
      · exact .inr ⟨_, hm1⟩
      · exact .inr ⟨_, hm2⟩
  · intro b hb
    have hb' : @LE.le Nat _ g b := by
      simp only [List.mem_cons, List.not_mem_nil, or_false] at hb
      rcases hb with rfl | rfl | rfl | rfl | rfl <;> omega
    exact ⟨hg0 b hb', Nat.ne_of_lt (Nat.lt_of_lt_of_le hLg hb'), fun p hp => Nat.ne_of_lt (Nat.lt_of_lt_of_le (hlt p hp) hb')⟩
  · intro b hb
    simp only [List.mem_cons, List.not_mem_nil, or_false] at hb ⊢
    rcases hb with rfl | rfl | rfl | rfl <;> simp
  · intro b hb
    simp only [List.mem_cons, List.not_mem_nil, or_false] at hb ⊢
    rcases hb with rfl | rfl | rfl | rfl | rfl <;> simp
  · intro b hb
    rw [hsz']
    simp only [List.mem_cons, List.not_mem_nil, or_false] at hb
    rcases hb with rfl | rfl | rfl | rfl | rfl | rfl | rfl
    · exact Nat.lt_succ_self _
    · exact Nat.add_lt_add_left (by decide) _
    · exact Nat.add_lt_add_left (by decide) _
    · exact Nat.lt_add_of_pos_right (by decide)
    · exact Nat.add_lt_add_left (by decide) _
    · exact Nat.lt_of_lt_of_le h1 (Nat.le_add_right _ _)
    · exact Nat.lt_of_lt_of_le h2 (Nat.le_add_right _ _)
  · intro D' C h' tk m' out F' N' o1 hn hC₀ hD₀ hCL hDL hCD offC hG
    show wpAny _ A (assign (.Name y py) env (.ref D')) _ _ _
    refine wpAny_assign_Name (wpAny_storeName_local hy F'.ns (fun h₂ hn₂ hs₂ => ?_) hp)
    have hL₀ : h₀.get? env.locals = none := Heap.get?_none_of_le F'.above
    have F₂ : Fr h₀ env.locals h₂ (fun z => if z = y then some (.ref D') else m z) := ⟨hn₂, fun b o e => hs₂.extBut b o (fun q => by rw [q, hL₀] at e; cases e) (F'.keep b o e), F'.above⟩
    refine ⟨m', hn.sameBut hs₂ hCL, fun h'' hs'' => fin out D' h'' _ hG (F₂.change hs'' hCL hC₀) (fun p hp => ?_) o1⟩
    have z : h₂.get? p.1 = some p.2 := hs₂.extBut _ _ (N' p hp).2.1 (N' p hp).1
    refine ⟨hs''.extBut _ _ ?_ z, (N' p hp).2⟩
    rcases List.mem_cons.mp hp with rfl | hp
    · exact Ne.symm hCD
    · exact offC p hp
end

end
section
def sgn (q n i c : Int) : Int := Int.fmod ((-1) ^ (Int.fdiv (i * q) n).toNat * c) q
def sgnK (q k n i c : Int) : Int := Int.fmod ((-1) ^ (Int.fdiv (i * k) n).toNat * c) q
def turnK (q k : Int) : List Int → List Int
  | [a, b] => [sgnK q k 2 0 a, sgnK q k 2 1 b]
  | [a, b, c, d] => if k.fmod 4 = 1 then [sgnK q k 4 0 a, sgnK q k 4 1 b, sgnK q k 4 2 c, sgnK q k 4 3 d] else [sgnK q k 4 0 a, sgnK q k 4 3 d, sgnK q k 4 2 c, sgnK q k 4 1 b]
  | _ => []
def turnL (q : Int) : List Int → List Int
  | [a, b] => [sgn q 2 0 a, sgn q 2 1 b]
  | [a, b, c, d] => if q.fmod 4 = 1 then [sgn q 4 0 a, sgn q 4 1 b, sgn q 4 2 c, sgn q 4 3 d] else [sgn q 4 0 a, sgn q 4 3 d, sgn q 4 2 c, sgn q 4 1 b]
  | _ => []
theorem ix0 {q n : Int} : Int.fmod (0 * q) n = 0 := by rw [Int.zero_mul]; exact Int.zero_fmod _
theorem ix21 {q : Int} (h : q.fmod 2 = 1) : Int.fmod (1 * q) 2 = 1 := by rw [Int.one_mul]; exact h
theorem ix41 {q k : Int} (h : q.fmod 4 = k) : Int.fmod (1 * q) 4 = k := by rw [Int.one_mul]; exact h
theorem ix42 {q k : Int} (h : q.fmod 4 = k) (hk : k = 1 ∨ k = 3) : Int.fmod (2 * q) 4 = 2 := by
  rw [Int.fmod_eq_emod_of_nonneg _ (by decide)] at h ⊢
  omega
theorem ix431 {q : Int} (h : q.fmod 4 = 1) : Int.fmod (3 * q) 4 = 3 := by
  rw [Int.fmod_eq_emod_of_nonneg _ (by decide)] at h ⊢
  omega
theorem ix433 {q : Int} (h : q.fmod 4 = 3) : Int.fmod (3 * q) 4 = 1 := by
  rw [Int.fmod_eq_emod_of_nonneg _ (by decide)] at h ⊢
  omega

theorem bits_sg (k : Nat) : Builtin.Int.intBits ((-1) ^ k) ≤ 64 := by
  have h : (-1 : Int) ^ k = 1 ∨ (-1 : Int) ^ k = -1 := by
    induction k with
    | zero => exact .inl rfl
    | succ k ih => rw [Int.pow_succ]; rcases ih with h | h <;> rw [h] <;> decide
  rcases h with h | h <;> rw [h] <;> decide
section
variable {prog : Program} {w : World} {A : Around} {E : Value → Shared → Prop} {s : Shared} {Q : Value → Shared → Prop}
theorem mod_ix {a b k : Int} {t u : Tok} (e : a.fmod b = k) (hb : b ≠ 0) (h : Q (.int k s.toks) { s with toks := s.toks + 1 }) : wpAny (model prog w) A (binaryOp .Mod (.int a t) (.int b u)) Q E s := mod_int hb (by rw [e]; exact h)
theorem mul_sg {k : Nat} {b : Int} {t u : Tok} (h : Q (.int ((-1) ^ k * b) s.toks) { s with toks := s.toks + 1 }) : wpAny (model prog w) A (binaryOp .Mult (.int ((-1) ^ k) t) (.int b u)) Q E s := PyProof.Rows.mul_int h (IntMulOk.of_left (bits_sg k))
theorem pow_sg {i q n : Int} {t u : Tok} (hi : 0 ≤ i) (hi4 : i ≤ 4) (hn : 2 ≤ n) (hq : 2 ≤ q) (hqm : q ≤ 8380417) (h : Q (.int ((-1) ^ (Int.fdiv (i * q) n).toNat) s.toks) { s with toks := s.toks + 1 }) :
    wpAny (model prog w) A (binaryOp .Pow (.int (-1) t) (.int (Int.fdiv (i * q) n) u)) Q E s := by
  have h0 : 0 ≤ i * q := Int.mul_nonneg hi (by omega)
  have h1 : i * q ≤ 4 * 8380417 := Int.mul_le_mul hi4 hqm (by omega) (by decide)
  have h2 : 0 ≤ Int.fdiv (i * q) n := by rw [Int.fdiv_eq_ediv_of_nonneg _ (by omega)]; exact Int.ediv_nonneg h0 (by omega)
  have h3 : Int.fdiv (i * q) n ≤ i * q := by rw [Int.fdiv_eq_ediv_of_nonneg _ (by omega)]; exact Int.ediv_le_self _ h0
  refine pow_int h2 ?_ h
  rw [show Builtin.Int.intBits (-1) = 1 from by decide]
  omega
end
theorem fmod4 {q : Int} (h : q.fmod 2 = 1) : q.fmod 4 = 1 ∨ q.fmod 4 = 3 := by
  rw [Int.fmod_eq_emod_of_nonneg _ (by decide)] at h ⊢
  omega

end
section
theorem euclid_ok : ∀ (j : Nat) (r0 r1 s0 s1 : Int), 0 ≤ r1 → r1 < r0 → r0 < 2 ^ j → ∀ k, ∃ g s, Builtin.euclid (2 * j + 1 + k) r0 r1 s0 s1 = some (g, s)
  | 0, r0, r1, s0, s1, h0, h1, h2, k => by
    have : r0 < 1 := h2
    omega
  | j + 1, r0, r1, s0, s1, h0, h1, h2, k => by
    rw [show 2 * (j + 1) + 1 + k = (2 * j + 1 + k + 1) + 1 by omega]
    rw [Builtin.euclid]
    by_cases e : r1 = 0
    · rw [if_pos (by simpa using e)]; exact ⟨_, _, rfl⟩
    · rw [if_neg (by simpa using e), Builtin.euclid]
      have hp : 0 < r1 := by omega
      have a1 := Int.emod_nonneg r0 e
      have a2 := Int.emod_lt_of_pos r0 hp
      by_cases e2 : r0 % r1 = 0
      · rw [if_pos (by simpa using e2)]; exact ⟨_, _, rfl⟩
      · rw [if_neg (by simpa using e2)]
        have hp2 : 0 < r0 % r1 := by omega
        refine euclid_ok j _ _ _ _ (Int.emod_nonneg r1 e2) (Int.emod_lt_of_pos r1 hp2) ?_ k
        have h3 : (2 : Int) ^ (j + 1) = 2 * 2 ^ j := by rw [Int.pow_succ, Int.mul_comm]
        have h4 := Int.emod_add_mul_ediv r0 r1
        have h5 : 1 ≤ r0 / r1 := by
          rcases Int.lt_or_le (r0 / r1) 1 with h | h
          · have h6 : 0 ≤ r0 / r1 := Int.ediv_nonneg (by omega) (by omega)
            have h7 : r0 / r1 = 0 := by omega
            rw [h7, Int.mul_zero] at h4
            omega
          · exact h
        have h8 : r1 * 1 ≤ r1 * (r0 / r1) := Int.mul_le_mul_of_nonneg_left h5 (by omega)
        omega
theorem euclid_inv {n b : Int} : ∀ (k : Nat) (r0 r1 s0 s1 g s : Int), Builtin.euclid k r0 r1 s0 s1 = some (g, s) → (∃ c, s0 * b = r0 + n * c) → (∃ c, s1 * b = r1 + n * c) → (∃ c, s * b = g + n * c)
  | 0, _, _, _, _, _, _, e, _, _ => by simp [Builtin.euclid] at e
  | k + 1, r0, r1, s0, s1, g, s, e, ⟨c0, h0⟩, ⟨c1, h1⟩ => by
    rw [Builtin.euclid] at e
    split at e
    · injection e with e
      injection e with e1 e2
      subst e1; subst e2
      exact ⟨c0, h0⟩
    · refine euclid_inv k _ _ _ _ g s e ⟨c1, h1⟩ ⟨c0 - r0 / r1 * c1, ?_⟩
      have h4 := Int.emod_add_mul_ediv r0 r1
      generalize r0 % r1 = m at *
      generalize r0 / r1 = d at *
      rw [Int.sub_mul, Int.mul_assoc, h0, h1]
      grind
theorem euclid_dvd : ∀ (k : Nat) (r0 r1 s0 s1 g s : Int), Builtin.euclid k r0 r1 s0 s1 = some (g, s) → 0 ≤ r1 → 0 < r0 → 0 < g ∧ g ∣ r0 ∧ g ∣ r1
  | 0, _, _, _, _, _, _, e, _, _ => by simp [Builtin.euclid] at e
  | k + 1, r0, r1, s0, s1, g, s, e, h0, h1 => by
    rw [Builtin.euclid] at e
    split at e
    · rename_i hz
      injection e with e
      injection e with e1 e2
      subst e1
      have hz' : r1 = 0 := by simpa using hz
      subst hz'
      exact ⟨h1, Int.dvd_refl _, Int.dvd_zero _⟩
    · rename_i hz
      have hz' : r1 ≠ 0 := by simpa using hz
      obtain ⟨a1, a2, a3⟩ := euclid_dvd k _ _ _ _ g s e (Int.emod_nonneg r0 hz') (by omega)
      refine ⟨a1, ?_, a2⟩
      have h4 := Int.emod_add_mul_ediv r0 r1
      rw [← h4]
      exact Int.dvd_add a3 (Int.dvd_mul_of_dvd_left a2)
section
variable {prog : Program} {w : World} {A : Around} {E : Value → Shared → Prop} {s : Shared} {Q : Value → Shared → Prop}
theorem log_small {m : Nat} (h : m ≤ 4294967297) : m.log2 / 30 + 1 ≤ 2 := by
  by_cases h0 : m = 0
  · subst h0; decide
  · have := (Nat.log2_lt h0 (k := 34)).mpr (by omega)
    omega
theorem bits_lt (m : Int) (h : 0 < m) : m < 2 ^ (Builtin.Int.intBits m) := by
  unfold Builtin.Int.intBits
  rw [if_neg (by simp; omega)]
  have h1 := (Nat.log2_lt (n := m.natAbs) (by omega) (k := m.natAbs.log2 + 1)).mp (Nat.lt_succ_self _)
  have h2 : ((m.natAbs : Nat) : Int) < ((2 ^ (m.natAbs.log2 + 1) : Nat) : Int) := Int.ofNat_lt.mpr h1
  rw [Int.natCast_pow] at h2
  have h3 : ((m.natAbs : Nat) : Int) = m := by omega
  rw [h3] at h2
  exact h2
theorem powMod_one {b m : Nat} (hm : 2 ≤ m) : Builtin.powMod b 1 m = b % m := by
  have h1 : 1 % m = 1 := Nat.mod_eq_of_lt hm
  show (if (1 : Nat).testBit 0 then (1 % m) * (1 % m) % m * b % m else (1 % m) * (1 % m) % m) = b % m
  rw [if_pos (by decide), h1, Nat.mul_one, h1, Nat.one_mul]
theorem pow_mod_inv {b m : Int} {t u v : Tok} (hb0 : 0 ≤ b) (hbm : b < m) (hm : 2 ≤ m) (hm9 : m ≤ 4294967297) (hg : ∀ d : Int, 0 < d → d ∣ m → d ∣ b → d = 1)
    (h : ∀ r : Int, 0 ≤ r → r < m → (∃ k, r * b = 1 + m * k) → Q (.int r s.toks) { s with toks := s.toks + 1 }) :
    wpAny (model prog w) A (Builtin.«int.__pow__» ⟨[.int b t, .int (-1) u, .int m v], []⟩) (fun fin s' => ∃ r, fin = .done (.ret r) ∧ r ≠ .notImplemented ∧ Q r s') E s := by
  show wpAny _ _ (if (m == 0) = true then _ else _) _ _ s
  rw [if_neg (by simp; omega)]
  show wpAny _ _ (if (m.natAbs == 1) = true then _ else _) _ _ s
  rw [if_neg (by simp; omega)]
  rw [if_pos (by decide)]
  have hn : ((m.natAbs : Nat) : Int) = m := by omega
  refine wpAny_bind (wpAny_rule ?_)
  have hb2 : (b % (m.natAbs : Int)) = b := by rw [hn]; exact Int.emod_eq_of_lt hb0 hbm
  have hb3 : (((b % (m.natAbs : Int)).toNat : Nat) : Int) = b := by rw [hb2]; omega
  have q1 : Builtin.divisionGoesByPylong b (m.natAbs : Int) = false := by
    unfold Builtin.divisionGoesByPylong
    have := log_small (m := m.natAbs) (by omega)
    dsimp only
    rw [Bool.and_eq_false_iff]
    left
    rw [decide_eq_false_iff_not, Int.natAbs_natCast]
    split <;> omega
  refine wpAny_bind ?_
  unfold Builtin.roomForPylong
  rw [q1]
  refine wpAny_pure ?_
  refine wpAny_bind ?_
  unfold Builtin.roomForPylongsInverse
  rw [if_neg (by have := log_small (m := m.natAbs) (by omega); omega)]
  refine wpAny_pure ?_
  rw [hb3, hn]
  obtain ⟨g, sg, he⟩ := euclid_ok (Builtin.Int.intBits m) m b 0 1 hb0 hbm (bits_lt m (by omega)) 1
  rw [show 2 * Builtin.Int.intBits m + 1 + 1 = 2 * Builtin.Int.intBits m + 2 from rfl] at he
  rw [he]
  obtain ⟨d1, d2, d3⟩ := euclid_dvd _ _ _ _ _ _ _ he hb0 (by omega)
  obtain ⟨c, hc⟩ := euclid_inv (n := m) (b := b) _ _ _ _ _ _ _ he ⟨-1, by grind⟩ ⟨0, by grind⟩
  have hg1 := hg g d1 d2 d3
  subst hg1
  dsimp only
  rw [if_neg (by decide)]
  rw [show (-1 : Int).natAbs = 1 from rfl, powMod_one (by omega)]
  have s0 := Int.emod_nonneg sg (show m ≠ 0 by omega)
  have s1 := Int.emod_lt_of_pos sg (show 0 < m by omega)
  have hmod : ((((sg % m).toNat % m.natAbs : Nat)) : Int) = sg % m := by
    rw [Nat.mod_eq_of_lt (by omega)]; omega
  rw [hmod, if_neg (by simp only [Bool.and_eq_true, decide_eq_true_eq]; omega)]
  unfold retInt
  refine wpAny_bind (wpAny_mkInt ?_)
  refine wpAny_pure ⟨_, rfl, by simp, h _ s0 s1 ⟨c - sg / m * b, ?_⟩⟩
  rw [Int.emod_def, Int.sub_mul, hc]
  grind
end

end
section
theorem addL_fmod {q : Int} (hq : 2 ≤ q) : ∀ {cs ds : List Int}, List.zipWith (fun a b => Int.fmod (a + b) q) cs ds = addL q cs ds
  | [], _ => by cases ‹List Int› <;> rfl
  | _ :: _, [] => rfl
  | a :: r, b :: t => by
    show Int.fmod (a + b) q :: List.zipWith _ r t = (a + b) % q :: addL q r t
    rw [addL_fmod hq, Int.fmod_eq_emod_of_nonneg _ (by omega)]
theorem turnK_good {q k : Int} {n : Nat} {rc : List Int} (hn : n = 2 ∨ n = 4) (hq : 2 ≤ q) (g : Good q n rc) : Good q n (turnK q k rc) := by
  have red : ∀ {m i c : Int}, 0 ≤ sgnK q k m i c ∧ sgnK q k m i c < q := fun {m i c} => ⟨fm_lo (by omega), fm_hi (by omega)⟩
  rcases hn with rfl | rfl
  · obtain ⟨a, b, rfl⟩ := g.two
    refine ⟨rfl, fun c hc => ?_⟩
    simp only [turnK, List.mem_cons, List.not_mem_nil, or_false] at hc
    rcases hc with rfl | rfl <;> exact red
  · obtain ⟨a, b, c, d, rfl⟩ := g.four
    have aux : ∀ x y z u : Int, (0 ≤ x ∧ x < q) → (0 ≤ y ∧ y < q) → (0 ≤ z ∧ z < q) → (0 ≤ u ∧ u < q) → Good q 4 [x, y, z, u] := fun x y z u hx hy hz hu => by
      refine ⟨rfl, fun e he => ?_⟩
      simp only [List.mem_cons, List.not_mem_nil, or_false] at he
      rcases he with rfl | rfl | rfl | rfl <;> assumption
    by_cases h : k.fmod 4 = 1
    · rw [turnK, if_pos h]; exact aux _ _ _ _ red red red red
    · rw [turnK, if_neg h]; exact aux _ _ _ _ red red red red
theorem Good.one1 {q : Int} {n : Nat} (hq : 2 ≤ q) (hn : n = 2 ∨ n = 4) : Good q n (1 :: List.replicate (n - 1) 0) := by
  rcases hn with rfl | rfl
  · exact Good.one (n := 2) hq (.inl rfl)
  · exact Good.one (n := 4) hq (.inr rfl)
theorem q32 (x : Int) : 2 ≤ 2 + x.fmod (2 ^ 32) ∧ 2 + x.fmod (2 ^ 32) ≤ 4294967297 := by
  have h1 := fm_lo (x := x) (y := 2 ^ 32) (by decide)
  have h2 := fm_hi (x := x) (y := 2 ^ 32) (by decide)
  omega
theorem cut10a {q : Int} {n : Nat} {ns : List Int} (h : ns.length = 10) (hn : n = 2 ∨ n = 4) : ((List.take (min (2 + (n : Int)).toNat ns.length - 2) (List.drop 2 ns)).map fun k' => k'.fmod q).length = n := by
  rw [List.length_map, List.length_take, List.length_drop, h]
  rcases hn with rfl | rfl <;> rfl
theorem cut10b {q : Int} {n : Nat} {ns : List Int} (h : ns.length = 10) (hn : n = 2 ∨ n = 4) : ((List.take (min (2 + 2 * (n : Int)).toNat ns.length - (2 + (n : Int)).toNat) (List.drop (2 + (n : Int)).toNat ns)).map fun k' => k'.fmod q).length = n := by
  rw [List.length_map, List.length_take, List.length_drop, h]
  rcases hn with rfl | rfl <;> rfl
theorem bits_up {r q : Int} (h0 : 0 ≤ r) (h1 : r < q) (hq : q ≤ 4294967297) : Builtin.Int.intBits r ≤ 64 := intBits_le_64 (by omega) (by omega)
theorem bits_div {q c : Int} (h0 : 2 ≤ q) (hq : q ≤ 4294967297) (hc : 1 ≤ c) : Builtin.Int.intBits (Int.fdiv q c) ≤ 64 := by
  rw [Int.fdiv_eq_ediv_of_nonneg _ (by omega)]
  have h1 : 0 ≤ q / c := Int.ediv_nonneg (by omega) (by omega)
  have h2 : q / c ≤ q := Int.ediv_le_self _ (by omega)
  exact intBits_le_64 (by omega) (by omega)
theorem nopy {a b : Int} (h0 : 0 ≤ a) (h : a ≤ 4294967297) : Builtin.divisionGoesByPylong a b = false := by
  unfold Builtin.divisionGoesByPylong
  have h1 := log_small (m := a.natAbs) (by omega)
  dsimp only
  rw [Bool.and_eq_false_iff]
  right
  rw [decide_eq_false_iff_not]
  generalize (if (b == 0) = true then 0 else b.natAbs.log2 / 30 + 1) = y
  split <;> omega
section
variable {prog : Program} {w : World} {A : Around} {E : Value → Shared → Prop} {s : Shared} {Q : Value → Shared → Prop}
theorem fd_small {a b : Int} {t u : Tok} (hb : b ≠ 0) (h0 : 0 ≤ a) (h1 : a ≤ 4294967297) (h : Q (.int (a.fdiv b) s.toks) { s with toks := s.toks + 1 }) : wpAny (model prog w) A (binaryOp .FloorDiv (.int a t) (.int b u)) Q E s :=
  PyProof.Rows.floordiv_int hb h (Or.inl (nopy h0 h1))
end
/-- what Euclid's loop keeps: the same common divisors -/
def EucInv (q N c r : Int) : Prop := ∀ d : Int, (d ∣ q ∧ d ∣ N) ↔ (d ∣ c ∧ d ∣ r)
theorem EucInv.start (q N : Int) : EucInv q N q N := fun _ => Iff.rfl
theorem EucInv.step {q N c r : Int} (h : EucInv q N c r) (hr : 0 < r) : EucInv q N r (c.fmod r) := fun d => by
  rw [h d, Int.fmod_eq_emod_of_nonneg _ (by omega)]
  have h4 := Int.emod_add_mul_ediv c r
  constructor
  · rintro ⟨a, b⟩
    refine ⟨b, ?_⟩
    have : c % r = c - r * (c / r) := by omega
    rw [this]
    exact Int.dvd_sub a (Int.dvd_mul_of_dvd_left b)
  · rintro ⟨a, b⟩
    refine ⟨?_, a⟩
    rw [← h4]
    exact Int.dvd_add b (Int.dvd_mul_of_dvd_left a)
structure EucJ (news : List (Addr × Obj)) (q N : Int) (bs : List (Str × Value)) (n : Nat) (m : Str → Option Value) (nx : List (Addr × Obj)) : Prop where
  out : ∃ (c r : Int) (tk tk' : Tok), m (Str.ofString "common") = some (.int c tk) ∧ m (Str.ofString "rest") = some (.int r tk') ∧ (∀ p ∈ bs, m p.1 = some p.2) ∧ 1 ≤ c ∧ 0 ≤ r ∧ EucInv q N c r ∧ r.toNat = n ∧ nx = news
theorem euclid_while {prog : Program} {w : World} {A : Around} {E : Value → Shared → Prop} {Q : Flow → Shared → Prop} {s : Shared} {env : Env} {h₀ : Heap} {L : Addr} {test : Expr} {body : List Stmt} {pos : Pos} {m : Str → Option Value} {news : List (Addr × Obj)}
    {q N : Int} {t1 t2 : Tok} (bs : List (Str × Value))
    (F : Fr h₀ L s.heap m) (Nw : News h₀ L s.heap news) (hC : m (Str.ofString "common") = some (.int q t1)) (hR : m (Str.ofString "rest") = some (.int N t2)) (hb : ∀ p ∈ bs, m p.1 = some p.2) (h1 : 1 ≤ q) (h0 : 0 ≤ N)
    (turn : ∀ (c r : Int) (tk tk' : Tok) (m₀ : Str → Option Value) h₁ tk₁, 1 ≤ c → 0 ≤ r → EucInv q N c r →
      Fr h₀ L h₁ (lk ([(Str.ofString "common", .int c tk), (Str.ofString "rest", .int r tk')] ++ bs) m₀) → News h₀ L h₁ news →
      wpAny (model prog w) A (isTrue test env (eval test env)) (fun b s₂ =>
        if b = true then wpAny (model prog w) A (execs body env) (WhileStep2 h₀ L s (EucJ news q N bs) Q r.toNat) E s₂ else Q .next s₂) E { s with heap := h₁, toks := tk₁ })
    (hE : PassesOwn (model prog w) A env E) :
    wpAny (model prog w) A (exec (.While test body [] pos) env) Q E s := by
  refine While_inv2 (EucJ news q N bs) (n₀ := N.toNat) F Nw ⟨q, N, t1, t2, hC, hR, hb, h1, h0, .start q N, rfl, rfl⟩ ?_ hE
  rintro n m₁ nx h₁ tk₁ F₁ N₁ ⟨c, r, k1, k2, i1, i2, i3, i4, i5, i6, i7, i8⟩
  subst i7; subst i8
  have e : lk ([(Str.ofString "common", .int c k1), (Str.ofString "rest", .int r k2)] ++ bs) m₁ = m₁ := lk_same _ fun p hp => by
    rcases List.mem_cons.mp hp with rfl | hp
    · exact i1
    · rcases List.mem_cons.mp hp with rfl | hp
      · exact i2
      · exact i3 p hp
  rw [← e] at F₁
  exact turn c r k1 k2 m₁ h₁ tk₁ i4 i5 i6 F₁ N₁
theorem euclid_end {h₀ : Heap} {L : Addr} {s : Shared} {Q : Flow → Shared → Prop} {news : List (Addr × Obj)} {q N c r : Int} {bs : List (Str × Value)} {h' : Heap} {tk : Nat} {t1 t2 : Tok} {m' : Str → Option Value}
    (F' : Fr h₀ L h' m') (N' : News h₀ L h' news) (hC : m' (Str.ofString "common") = some (.int r t1)) (hR : m' (Str.ofString "rest") = some (.int (c.fmod r) t2)) (hb : ∀ p ∈ bs, m' p.1 = some p.2)
    (hr : 0 < r) (i : EucInv q N c r) :
    WhileStep2 h₀ L s (EucJ news q N bs) Q r.toNat .next { s with heap := h', toks := tk } := by
  have h1 := fm_lo (x := c) hr
  have h2 := fm_hi (x := c) hr
  exact ⟨h', tk, m', news, (c.fmod r).toNat, rfl, F', N', by omega, ⟨r, c.fmod r, t1, t2, hC, hR, hb, by omega, h1, i.step hr, rfl, rfl⟩⟩
theorem EucInv.at0 {q N c r : Int} (h : EucInv q N c r) (h0 : 0 ≤ r) (h1 : ¬ 0 < r) : EucInv q N c 0 := by
  obtain rfl : r = 0 := by omega
  exact h

end
section
def totL (q : Int) (F : List Int) : Nat → List Int
  | 0 => F
  | i + 1 => addL q (totL q F i) (turnK q (3 + (i : Int) * 2) F)
def othL (q : Int) (F O : List Int) : Nat → List Int
  | 0 => O
  | i + 1 => mulL q (othL q F O i) (turnK q (3 + (i : Int) * 2) F)
theorem totL_good {q : Int} {n : Nat} {F : List Int} (hn : n = 2 ∨ n = 4) (hq : 2 ≤ q) (g : Good q n F) : ∀ i, Good q n (totL q F i)
  | 0 => g
  | i + 1 => Good.addL hq (totL_good hn hq g i) (turnK_good hn hq g)
theorem othL_good {q : Int} {n : Nat} {F O : List Int} (hn : n = 2 ∨ n = 4) (hq : 2 ≤ q) (g : Good q n F) (o : Good q n O) : ∀ i, Good q n (othL q F O i)
  | 0 => o
  | i + 1 => Good.mul hq hn (othL_good hn hq g o i) (turnK_good hn hq g)
structure J5 (w : World) (q : Int) (r : Addr) (vs : List (Str × Value)) (cs : List (Addr × Option Value)) (nx0 : List (Addr × Obj)) (Fc Oc : List Int) (i : Nat) (m : Str → Option Value) (nx : List (Addr × Obj)) : Prop where
  out : ∃ tx ox, (∀ p ∈ vs ++ [(Str.ofString "total", Value.ref tx), (Str.ofString "others", Value.ref ox)], m p.1 = some p.2) ∧ Ext nx0 nx ∧ Tabs nx ∧ Cells cs nx ∧ IsPoly w nx r tx (totL q Fc i) ∧ IsPoly w nx r ox (othL q Fc Oc i)
theorem J5.next {w : World} {q : Int} {r tx ox : Addr} {vs : List (Str × Value)} {cs : List (Addr × Option Value)} {nx0 nx : List (Addr × Obj)} {Fc Oc : List Int} {i : Nat} {m : Str → Option Value}
    (hv : ∀ p ∈ vs ++ [(Str.ofString "total", Value.ref tx), (Str.ofString "others", Value.ref ox)], m p.1 = some p.2) (e : Ext nx0 nx) (t : Tabs nx) (c : Cells cs nx)
    (h1 : IsPoly w nx r tx (addL q (totL q Fc i) (turnK q (3 + (i : Int) * 2) Fc))) (h2 : IsPoly w nx r ox (mulL q (othL q Fc Oc i) (turnK q (3 + (i : Int) * 2) Fc))) : J5 w q r vs cs nx0 Fc Oc (i + 1) m nx :=
  ⟨tx, ox, hv, e, t, c, h1, h2⟩
section
variable {prog : Program} {w : World} {A : Around} {E : Value → Shared → Prop} {s : Shared} {env : Env} {h₀ : Heap} {x : Str} {body : List Stmt} {Q : Flow → Shared → Prop}
theorem krs_inv {J : Nat → (Str → Option Value) → List (Addr × Obj) → Prop} {I : Addr} {a c : Int} {n : Nat}
    (turn : ∀ (it : Obj) (i : Nat) m nx t h tk, it.cls = .type "range_iterator" → (∃ d, it.data = .fields d) → i < n → J i m nx → Fr h₀ env.locals h (fun y => if y = x then some (.int (a + (i : Int) * c) t) else m y) → News h₀ env.locals h ((I, it) :: nx) →
      wpAny (model prog w) A (execs body env) (UnrPost h₀ env.locals { s with heap := h, toks := tk } I it (J (i + 1)) Q) E { s with heap := h, toks := tk })
    (done : ∀ m nx h tk, J n m nx → Fr h₀ env.locals h m → News h₀ env.locals h nx → Q .next { s with heap := h, toks := tk }) :
    ∀ (k i : Nat) m nx, i + k = n → J i m nx → KrsRest prog w A E h₀ env x body Q s I a c n k i m nx
  | 0, i, m, nx, e, hJ => KrsRest.zero fun h tk F N => done m nx h tk (by rw [← e]; exact hJ) F N
  | k + 1, i, m, nx, e, hJ => KrsRest.succ rfl fun t h tk F N => by
    refine wpAny_mono (turn _ i m nx t h tk rfl ⟨_, rfl⟩ (by omega) hJ F N) (fun f s₂ hf => ?_) fun _ _ e => e
    cases f with
    | ret v => exact hf
    | brk => exact hf
    | next =>
      obtain ⟨h', tk', m', news', rfl, F', N', off, hJ'⟩ := hf
      exact ⟨h', tk', m', _, rfl, F', N', off, krs_inv turn done k (i + 1) m' news' (by omega) hJ'⟩
    | cont =>
      obtain ⟨h', tk', m', news', rfl, F', N', off, hJ'⟩ := hf
      exact ⟨h', tk', m', _, rfl, F', N', off, krs_inv turn done k (i + 1) m' news' (by omega) hJ'⟩
theorem krs5 {q : Int} {n : Nat} {r : Addr} (vs : List (Str × Value)) {cs : List (Addr × Option Value)} {nx0 : List (Addr × Obj)} {Bc Fc Gc Oc : List Int} {I : Addr} (hn : n = 2 ∨ n = 4) (hq : 2 ≤ q) (gf : Good q n Fc) (go : Good q n Oc)
    (P : ∀ i : Nat, turnK q (3 + (i : Int) * 2) Bc = mulL q (turnK q (3 + (i : Int) * 2) Fc) (turnK q (3 + (i : Int) * 2) Gc))
    (turn : ∀ (it : Obj) (i : Nat) (tx ox dtx dox ltx lox : Addr) (t1 t2 t3 t4 : Tok) (Tc Oi : List Int) (k : Int) m nx t h tk, (tx, instObj 229 dtx) ∈ nx → (dtx, polyD w t1 t2 r ltx) ∈ nx → (ox, instObj 229 dox) ∈ nx → (dox, polyD w t3 t4 r lox) ∈ nx → it.cls = .type "range_iterator" → (∃ d, it.data = .fields d) → Ext nx0 nx → Tabs nx → Cells cs nx → IsPoly w nx r tx Tc → IsPoly w nx r ox Oi → Good q n Tc → Good q n Oi →
      2 ≤ k → k ≤ 8380417 → k.fmod 2 = 1 → turnK q k Bc = mulL q (turnK q k Fc) (turnK q k Gc) →
      (∀ tx' ox' m' nx', (∀ p ∈ vs ++ [(Str.ofString "total", Value.ref tx'), (Str.ofString "others", Value.ref ox')], m' p.1 = some p.2) → Ext nx0 nx' → Tabs nx' → Cells cs nx' → IsPoly w nx' r tx' (addL q Tc (turnK q k Fc)) → IsPoly w nx' r ox' (mulL q Oi (turnK q k Fc)) → J5 w q r vs cs nx0 Fc Oc (i + 1) m' nx') →
      Fr h₀ env.locals h (fun y => if y = x then some (.int k t) else lk (vs ++ [(Str.ofString "total", Value.ref tx), (Str.ofString "others", Value.ref ox)]) m y) → News h₀ env.locals h ((I, it) :: nx) →
      wpAny (model prog w) A (execs body env) (UnrPost h₀ env.locals { s with heap := h, toks := tk } I it (J5 w q r vs cs nx0 Fc Oc (i + 1)) Q) E { s with heap := h, toks := tk })
    (done : ∀ tx ox m nx h tk, Ext nx0 nx → Tabs nx → Cells cs nx → IsPoly w nx r tx (totL q Fc (n - 1)) → IsPoly w nx r ox (othL q Fc Oc (n - 1)) → Fr h₀ env.locals h (lk (vs ++ [(Str.ofString "total", Value.ref tx), (Str.ofString "others", Value.ref ox)]) m) → News h₀ env.locals h nx → Q .next { s with heap := h, toks := tk })
    {m : Str → Option Value} {nx : List (Addr × Obj)} {tx ox : Addr} (hv : ∀ p ∈ vs ++ [(Str.ofString "total", Value.ref tx), (Str.ofString "others", Value.ref ox)], m p.1 = some p.2) (e : Ext nx0 nx) (t : Tabs nx) (c : Cells cs nx) (h1 : IsPoly w nx r tx Fc) (h2 : IsPoly w nx r ox Oc) :
    KrsRest prog w A E h₀ env x body Q s I 3 2 (n - 1) (n - 1) 0 m nx := by
  refine krs_inv (J := J5 w q r vs cs nx0 Fc Oc) ?_ ?_ (n - 1) 0 m nx (by omega) ⟨tx, ox, hv, e, t, c, h1, h2⟩
  · intro it i m nx t h tk hc hd hi hJ F N
    obtain ⟨tx, ox, hv, e, tt, c, h1, h2⟩ := hJ.out
    have hi4 : i < 4 := by omega
    obtain ⟨dt, _, _, _, _, _, m1, n1, _, _⟩ := h1.at_
    obtain ⟨do', _, _, _, _, _, m2, n2, _, _⟩ := h2.at_
    refine turn it i tx ox dt do' _ _ _ _ _ _ _ _ (3 + (i : Int) * 2) m nx t h tk m1 n1 m2 n2 hc hd e tt c h1 h2 (totL_good hn hq gf i) (othL_good hn hq gf go i) (by omega) (by omega) ?_ (P i) ?_ ?_ N
    · rw [Int.fmod_eq_emod_of_nonneg _ (by decide)]; omega
    · intro tx' ox' m' nx' a1 a2 a3 a4 a5 a6
      exact J5.next a1 a2 a3 a4 a5 a6
    · rw [lk_same _ hv]; exact F
  · intro m nx h tk hJ F N
    obtain ⟨tx, ox, hv, e, tt, c, h1, h2⟩ := hJ.out
    exact done tx ox m nx h tk e tt c h1 h2 (by rw [lk_same _ hv]; exact F) N
end
theorem n2_at {a : Int} {P : Int → Prop} (h : P ((n2 a : Nat) : Int)) : P (2 + a.fmod 2 * 2) := by rw [n2_eq]; exact h
theorem rs5 {n : Nat} (hn : n = 2 ∨ n = 4) : Builtin.Range.rangeSize 3 (2 * (n : Int)) 2 = ((n - 1 : Nat) : Int) := by rcases hn with rfl | rfl <;> decide
theorem rsm5 {n : Nat} (hn : n = 2 ∨ n = 4) : Builtin.Range.small 3 (2 * (n : Int)) 2 = true := by rcases hn with rfl | rfl <;> decide

end
local macro_rules | `(tactic| kas_types) => `(tactic| (intro x9 nx9 h9 tk9 F9 N9 hk9 hp9; (have hp9' := hp9.at_; obtain ⟨dx9, lx9, t91, t92, vx9, n9, hx91, hx92, hx93, hx94⟩ := hp9'); (try dsimp only); (try dsimp only [PySem.W.CmpBack]); (try k_sweep)))
local macro_rules | `(tactic| kba_ints) => `(tactic| ((case hq => (first | with_reducible assumption | assumption | omega)); (case hqb => (first | with_reducible assumption | assumption)); (case hcs => tb_rel)))
local macro_rules | `(tactic| kat_tups) => `(tactic| ((case hA => exact rfl); (case hH => exact rfl); (case hd => kwd_less); (case hu => kwd_less); (case B => k_asm); (case F => k_asm); (case X => k_asm); (case N => k_asm); (case T => k_asm); (case hf => exact rfl); (case hke => first | exact rfl | assumption)))
local macro_rules | `(tactic| kfm_turns) => `(tactic| ((repeat (first | with_reducible assumption | refine Tabs.sub ?_ (by with_reducible assumption) | refine Tabs.of1 ?_ (by with_reducible assumption) (by with_reducible assumption) (by with_reducible assumption) | refine Tabs.of2 ?_ (by with_reducible assumption) (by with_reducible assumption) (by with_reducible assumption) | refine Tabs.sub ?_ (fun p hp => List.mem_cons_of_mem _ hp)))))
local macro_rules | `(tactic| kqd_sub) => `(tactic| ((repeat (first | with_reducible assumption | exact Cells.sub (by with_reducible assumption) (fun p hp => List.mem_cons_of_mem _ hp) | exact Cells.sub (by with_reducible assumption) (fun p hp => List.mem_cons_of_mem _ (List.mem_cons_of_mem _ hp)) | exact Cells.sub (by with_reducible assumption) (fun p hp => List.mem_cons_of_mem _ (List.mem_cons_of_mem _ (List.mem_cons_of_mem _ hp))) | exact Cells.sub (by with_reducible assumption) (fun p hp => List.mem_cons_of_mem _ (List.mem_cons_of_mem _ (List.mem_cons_of_mem _ (List.mem_cons_of_mem _ hp)))) | refine Cells.sub ?_ (by with_reducible assumption) | refine Cells.of1 ?_ (by with_reducible assumption) | refine Cells.sub ?_ (fun p hp => List.mem_cons_of_mem _ hp)))))
local macro_rules | `(tactic| kct_strs) => `(tactic| (((repeat (first | with_reducible assumption | exact sub_refl | exact fun _ h => h | refine sub_skip ?_ | refine sub_trans2 (by with_reducible assumption) ?_)); done)))
local macro_rules | `(tactic| kpt_turns) => `(tactic| ((repeat (first | exact ext_refl | with_reducible assumption | refine ext_trans ?_ (by with_reducible assumption) | refine ext_cons ?_ | refine ext_trans ?_ (ext_of (by with_reducible assumption)) | refine ext_trans ?_ (ext_of1 (by with_reducible assumption))))))
local macro_rules | `(tactic| kpc_turns) => `(tactic| ((try dsimp only); (try dsimp only [PySem.W.CmpBack]); (try k_sweep)))
local macro_rules | `(tactic| regstrif_slice) => `(tactic| ((with_reducible show wpAny _ _ (subscriptTail _ _ (Value.ref _) (Value.int _ _)) _ _ _); k_dflt (refine' my_sub ?k0 ?k1 ?k2 ?k3 ?k4 ?_ ?k6; (case k0 => k_asm); (case k1 => k_mem); (case k2 => decide); (case k3 => decide); (case k4 => exact rfl); (case k6 => with_unfolding_all rfl); k_whole)))
local macro_rules | `(tactic| kaf_suf) => `(tactic| ((try dsimp only [List.cons_append, List.nil_append])))
local macro_rules | `(tactic| kaf_pre) => `(tactic| ((case kX => k_in); (case kI => k_inst); (case kD => exact rfl); (case k1 => k_is); (case k2 => k_is); (case k3 => k_is)))
local macro_rules | `(tactic| k_mem) => `(tactic| ((repeat (first | (with_reducible assumption) | (with_reducible exact List.mem_cons_self) | (refine' List.mem_cons_of_mem _ ?_) | (refine' sub_mem (by with_reducible assumption) ?_) | (refine' subT_mem (by with_reducible assumption) ?_ ?o9; (case o9 => kwd_inv)))); done))
local macro_rules | `(tactic| walk_at "call builtin:list.copy") => `(tactic| (k_here; (with_reducible show wpAny _ _ (call (Value.builtin _) [Value.ref _]) _ _ _); k_dflt (refine' my_copy ?F ?N ?l ?_ ?z; (case F => k_asm); (case N => k_asm); (case l => is_list); (case z => first | exact Nat.le_of_ble_eq_true rfl | with_reducible assumption); k_whole); intro D' h' F' N' l1; (try k_lt l1); (try k_sweep)))
local macro_rules | `(tactic| size_fits) => `(tactic| ((simp only [List.size_toArray, List.length_cons, List.length_nil]); decide))
local macro_rules | `(tactic| kcf_size) => `(tactic| ((simp only [List.size_toArray, List.length_cons, List.length_nil]); decide))
local macro_rules | `(tactic| news_mem) => `(tactic| k_mem)
local macro_rules | `(tactic| mul_fits) => `(tactic| exact IntMulOk.of_right (by with_reducible assumption))
local macro_rules | `(tactic| bits_by_make) => `(tactic| with_reducible assumption)
local macro_rules | `(tactic| k_all) => `(tactic| (tbn_letter; first
  | with_reducible exact off1_all (by with_reducible assumption)
  | with_reducible exact off1_all (And.right (by with_reducible assumption))
  | with_reducible exact off1_all (And.right (And.right (by with_reducible assumption)))
  | with_reducible exact off1_all (And.right (And.right (And.right (by with_reducible assumption))))
  | with_reducible exact off1_all (And.right (And.right (And.right (And.right (by with_reducible assumption)))))
  | with_reducible exact tbn_neAll (by with_reducible assumption)
  | fail "no order"))
local macro_rules | `(tactic| walk_at "CmpBack ref") => `(tactic| (dsimp only [PySem.W.CmpBack]))
local macro_rules | `(tactic| walk_at "UnrEnd") => `(tactic| (refine' my_unrEnd ?k1 ?k2 ?k3 ?_; (case k1 => assumption); (case k2 => assumption); (case k3 => (simp only [AllLt, and_true]; assumption)); walk_say "UNREND"))
local macro_rules | `(tactic| walk_at "subscriptTail") => `(tactic| (k_here; regstrif_slice))
local macro_rules | `(tactic| walk_at "subscriptTail Name Name ref int") => `(tactic| (k_here; regstrif_slice))
local macro_rules | `(tactic| walk_at "subscriptTail Name Constant ref int") => `(tactic| (k_here; regstrif_slice))
local macro_rules | `(tactic| walk_at "subscriptTail Name BinOp ref int") => `(tactic| (k_here; regstrif_slice))
local macro_rules | `(tactic| walk_at "getItem ref int") => `(tactic| (k_here; (with_reducible show wpAny _ _ (getItem (Value.ref _) (Value.int _ _)) _ _ _); k_dflt (refine' my_get ?k0 ?k1 ?k2 ?k3 ?k4 ?_; (case k0 => k_asm); (case k1 => k_mem); (case k2 => decide); (case k3 => decide); (case k4 => exact rfl); k_whole)))
local macro_rules | `(tactic| kwd_inv) => `(tactic| (first | exact Or.inr (fun _ e => by cases e) | exact off_cell (by assumption) | exact Or.inl (by decide)))
local macro_rules | `(tactic| kwd_less) => `(tactic| (first | (with_unfolding_all exact Nat.le_of_ble_eq_true rfl) | (simp only [depth_under_make, depth_under_kw, depth_in1, depth_deeper, depth_caller, units_in1, units_deeper, Around.mark_units, units_caller]; omega)))
local macro_rules | `(tactic| kst_mem) => `(tactic| (first | with_reducible assumption | assumption | exact IntsAre.nil | exact .cons _ _ .nil | exact .cons _ _ (.cons _ _ .nil) | exact .cons _ _ (.cons _ _ (.cons _ _ .nil)) | exact .cons _ _ (.cons _ _ (.cons _ _ (.cons _ _ .nil)))))
section
local macro_rules | `(tactic| walk_at "getItem ref int") => `(tactic| ((rename IntsAre _ (List.map (fun _ => (0:Int)) (rangeKs 0 _)) => hI9); (have hI7 := ints2 (x := 0) (y := 0) hI9); clear hI9; (obtain ⟨t70, t71, e7⟩ := hI7); subst e7; walk_say "CONCRETE"; (rename News _ _ _ _ => hN7); dsimp only [LCg.lst] at hN7))
local macro_rules | `(tactic| walk_at "getItem ref int") => `(tactic| ((rename IntsAre _ (List.map (fun _ => (0:Int)) (rangeKs 0 _)) => hI9); (have hI7 := ints4 (x := 0) (y := 0) (z := 0) (u := 0) hI9); clear hI9; (obtain ⟨t70, t71, t72, t73, e7⟩ := hI7); subst e7; walk_say "CONCRETE"; (rename News _ _ _ _ => hN7); dsimp only [LCg.lst] at hN7))

set_option maxRecDepth 100000 in
set_option maxHeartbeats 8000000 in
theorem C_school2 {A : Around} {env : Env} {outer : List Env} {A₀ : Around} {base h₀ : Heap} {L : Addr} {m : Str → Option Value} {news : List (Addr × Obj)} {s : Shared}
    {w : World} {p : Program} {loose : List Str} {mean : ExcName → Option Value} {mg mb : Str → Option Value} {R : Result → Shared → Prop}
    (hA : A.frames = some (env :: outer)) (hH : A.handled = none) (hd : A.depth ≤ 500) (hu : A.units ≤ 500)
    (B : Below A₀ base outer h₀) (F : Fr h₀ L s.heap m) (X : (Mine.hd.heap_1 w.params).In h₀) (N : News h₀ L s.heap news) (T : Top p loose mean mg mb h₀)
    (hf : env.frame = some L) (hke : env.scope.kind = .function)
    {x y r : Addr} {q : Int} {a0 a1 b0 b1 : Int} (hr : IsRing w news r q 2) (hx : IsPoly w news r x [a0, a1]) (hy : IsPoly w news r y [b0, b1])
    (hq : 2 ≤ q) (ha0 : Builtin.Int.intBits a0 ≤ 100) (ha1 : Builtin.Int.intBits a1 ≤ 100) (hb0 : Builtin.Int.intBits b0 ≤ 100) (hb1 : Builtin.Int.intBits b1 ≤ 100)
    (ret : ∀ l h' tk' vs n', Fr h₀ L h' m → News h₀ L h' ((l, W.listOf vs.toArray n') :: news) → IntsAre vs [(a0 * b0 - a1 * b1) % q, (a0 * b1 + a1 * b0) % q] → LCg.Off1 l news → R (.ok (.ret (.ref l))) { s with heap := h', toks := tk' }) :
    codeAny (model PySem.Challenge.rw_ay0009_02.row.prog w) A (.call (.ref 129) ⟨[.ref x, .ref y], []⟩) R s := by
  obtain ⟨dr, t1, t2, u1, u2, hr1, hr2⟩ := hr.out
  obtain ⟨dx, lx, t3, t4, hx1, hx2, hx3⟩ := hx.out
  obtain ⟨dy, ly, t5, t6, hy1, hy2, hy3⟩ := hy.out
  obtain ⟨vx, nx, hx4, hx5⟩ := hx3.out
  obtain ⟨vy, ny, hy4, hy5⟩ := hy3.out
  obtain ⟨p0, p1, e⟩ := ints2 hx5
  subst e
  obtain ⟨r0, r1, e⟩ := ints2 hy5
  subst e
  clear hr hx hy hx3 hy3 hx5 hy5
  refine codeAny_ar hA hH hd hu ?_
  revert X
  k_fill
  intro X
  k_dflt (refine' code_defC ?k1 ?k2 ?k3 ?k4 ?k5 ?kA ?kF ?kK ?k6 ?k7 ?k8 ?k9 ?kB ?kD ?_ ?c2 ?c3 ?c4; (case kA => exact rfl); (case kF => assumption); (case kK => assumption); (case k1 => k_asm); (case k2 => k_asm); (case k3 => k_asm); (case k4 => k_asm); (case k5 => k_asm); (case k6 => k_is); (case k7 => k_is); (case k8 => k_room); (case k9 => first | exact BindsTo.of_eq rfl | exact binds_K (by k_in) rfl (by k_is) rfl rfl rfl | fail "no rule for these arguments"); (case kB => exact rfl); (case kD => decide +kernel); (case c2 => exact rfl); (case c3 => exact rfl); (case c4 => exact rfl); k_whole; intro g' L' h' tk' cells' FG' F' N' Y' B' X' T' l1; (try k_lt l1); k_cells Y'; (try simp only [List.cons_append, List.nil_append] at N'); (try dsimp only); (try k_lift B'); (try k_fold))
  k_steps
  (all_goals (try k_data))
  (rename IntsAre _ (List.map (fun k' => Int.fmod k' q) _) => hI9)
  (rename News h₀ L _ _ => hN9)
  refine' ret _ _ _ _ _ (by k_asm) (news_sub hN9 (sub_cons ?s1 (by k_mem))) (ints_cast hI9 ?e1) ?o1
  case s1 => repeat (first | exact sub_refl | exact fun _ h => h | refine sub_skip ?_)
  case e1 =>
    simp only [List.map_cons, List.map_nil, Int.fmod_eq_emod_of_nonneg _ (show (0:Int) ≤ q by omega)]
    (repeat' (first | rfl | (refine cons_congr ?_ ?_))) <;> (refine congrArg (· % q) ?_; omega)
  case o1 => (first | assumption | exact off1_lt (by assumption) (by (first | exact allLt_of (by assumption) | exact (by assumption) | exact (And.right (by assumption)) | exact (And.right (And.right (by assumption))) | exact (And.right (And.right (And.right (by assumption)))) | exact (And.right (And.right (And.right (And.right (by assumption))))) | exact (And.right (And.right (And.right (And.right (And.right (by assumption)))))) | exact (And.right (And.right (And.right (And.right (And.right (And.right (by assumption))))))) | exact (And.right (And.right (And.right (And.right (And.right (And.right (And.right (by assumption)))))))))) | exact off1_of (by (first | exact allLt_of (by assumption) | exact (by assumption) | exact (And.right (by assumption)) | exact (And.right (And.right (by assumption))) | exact (And.right (And.right (And.right (by assumption)))) | exact (And.right (And.right (And.right (And.right (by assumption))))) | exact (And.right (And.right (And.right (And.right (And.right (by assumption)))))) | exact (And.right (And.right (And.right (And.right (And.right (And.right (by assumption))))))) | exact (And.right (And.right (And.right (And.right (And.right (And.right (And.right (by assumption)))))))))) | exact (And.right (by assumption)) | exact (And.right (And.right (by assumption))) | exact (And.right (And.right (And.right (by assumption)))) | exact (And.right (And.right (And.right (And.right (by assumption))))) | exact (And.right (And.right (And.right (And.right (And.right (by assumption)))))) | exact (And.right (And.right (And.right (And.right (And.right (And.right (by assumption))))))) | exact (And.right (And.right (And.right (And.right (And.right (And.right (And.right (by assumption)))))))))


set_option maxRecDepth 100000 in
set_option maxHeartbeats 8000000 in
theorem C_school4 {A : Around} {env : Env} {outer : List Env} {A₀ : Around} {base h₀ : Heap} {L : Addr} {m : Str → Option Value} {news : List (Addr × Obj)} {s : Shared}
    {w : World} {p : Program} {loose : List Str} {mean : ExcName → Option Value} {mg mb : Str → Option Value} {R : Result → Shared → Prop}
    (hA : A.frames = some (env :: outer)) (hH : A.handled = none) (hd : A.depth ≤ 500) (hu : A.units ≤ 500)
    (B : Below A₀ base outer h₀) (F : Fr h₀ L s.heap m) (X : (Mine.hd.heap_1 w.params).In h₀) (N : News h₀ L s.heap news) (T : Top p loose mean mg mb h₀)
    (hf : env.frame = some L) (hke : env.scope.kind = .function)
    {x y r : Addr} {q : Int} {a0 a1 a2 a3 b0 b1 b2 b3 : Int} (hr : IsRing w news r q 4) (hx : IsPoly w news r x [a0, a1, a2, a3]) (hy : IsPoly w news r y [b0, b1, b2, b3])
    (hq : 2 ≤ q) (ha0 : Builtin.Int.intBits a0 ≤ 100) (ha1 : Builtin.Int.intBits a1 ≤ 100) (ha2 : Builtin.Int.intBits a2 ≤ 100) (ha3 : Builtin.Int.intBits a3 ≤ 100) (hb0 : Builtin.Int.intBits b0 ≤ 100) (hb1 : Builtin.Int.intBits b1 ≤ 100) (hb2 : Builtin.Int.intBits b2 ≤ 100) (hb3 : Builtin.Int.intBits b3 ≤ 100)
    (ret : ∀ l h' tk' vs n', Fr h₀ L h' m → News h₀ L h' ((l, W.listOf vs.toArray n') :: news) → IntsAre vs [(a0 * b0 - a1 * b3 - a2 * b2 - a3 * b1) % q, (a0 * b1 + a1 * b0 - a2 * b3 - a3 * b2) % q, (a0 * b2 + a1 * b1 + a2 * b0 - a3 * b3) % q, (a0 * b3 + a1 * b2 + a2 * b1 + a3 * b0) % q] → LCg.Off1 l news → R (.ok (.ret (.ref l))) { s with heap := h', toks := tk' }) :
    codeAny (model PySem.Challenge.rw_ay0009_02.row.prog w) A (.call (.ref 129) ⟨[.ref x, .ref y], []⟩) R s := by
  obtain ⟨dr, t1, t2, u1, u2, hr1, hr2⟩ := hr.out
  obtain ⟨dx, lx, t3, t4, hx1, hx2, hx3⟩ := hx.out
  obtain ⟨dy, ly, t5, t6, hy1, hy2, hy3⟩ := hy.out
  obtain ⟨vx, nx, hx4, hx5⟩ := hx3.out
  obtain ⟨vy, ny, hy4, hy5⟩ := hy3.out
  obtain ⟨p0, p1, p2, p3, e⟩ := ints4 hx5
  subst e
  obtain ⟨r0, r1, r2, r3, e⟩ := ints4 hy5
  subst e
  clear hr hx hy hx3 hy3 hx5 hy5
  refine codeAny_ar hA hH hd hu ?_
  revert X
  k_fill
  intro X
  k_dflt (refine' code_defC ?k1 ?k2 ?k3 ?k4 ?k5 ?kA ?kF ?kK ?k6 ?k7 ?k8 ?k9 ?kB ?kD ?_ ?c2 ?c3 ?c4; (case kA => exact rfl); (case kF => assumption); (case kK => assumption); (case k1 => k_asm); (case k2 => k_asm); (case k3 => k_asm); (case k4 => k_asm); (case k5 => k_asm); (case k6 => k_is); (case k7 => k_is); (case k8 => k_room); (case k9 => first | exact BindsTo.of_eq rfl | exact binds_K (by k_in) rfl (by k_is) rfl rfl rfl | fail "no rule for these arguments"); (case kB => exact rfl); (case kD => decide +kernel); (case c2 => exact rfl); (case c3 => exact rfl); (case c4 => exact rfl); k_whole; intro g' L' h' tk' cells' FG' F' N' Y' B' X' T' l1; (try k_lt l1); k_cells Y'; (try simp only [List.cons_append, List.nil_append] at N'); (try dsimp only); (try k_lift B'); (try k_fold))
  k_steps
  (all_goals (try k_data))
  (rename IntsAre _ (List.map (fun k' => Int.fmod k' q) _) => hI9)
  (rename News h₀ L _ _ => hN9)
  refine' ret _ _ _ _ _ (by k_asm) (news_sub hN9 (sub_cons ?s1 (by k_mem))) (ints_cast hI9 ?e1) ?o1
  case s1 => repeat (first | exact sub_refl | exact fun _ h => h | refine sub_skip ?_)
  case e1 =>
    simp only [List.map_cons, List.map_nil, Int.fmod_eq_emod_of_nonneg _ (show (0:Int) ≤ q by omega)]
    (repeat' (first | rfl | (refine cons_congr ?_ ?_))) <;> (refine congrArg (· % q) ?_; omega)
  case o1 => (first | assumption | exact off1_lt (by assumption) (by (first | exact allLt_of (by assumption) | exact (by assumption) | exact (And.right (by assumption)) | exact (And.right (And.right (by assumption))) | exact (And.right (And.right (And.right (by assumption)))) | exact (And.right (And.right (And.right (And.right (by assumption))))) | exact (And.right (And.right (And.right (And.right (And.right (by assumption)))))) | exact (And.right (And.right (And.right (And.right (And.right (And.right (by assumption))))))) | exact (And.right (And.right (And.right (And.right (And.right (And.right (And.right (by assumption)))))))))) | exact off1_of (by (first | exact allLt_of (by assumption) | exact (by assumption) | exact (And.right (by assumption)) | exact (And.right (And.right (by assumption))) | exact (And.right (And.right (And.right (by assumption)))) | exact (And.right (And.right (And.right (And.right (by assumption))))) | exact (And.right (And.right (And.right (And.right (And.right (by assumption)))))) | exact (And.right (And.right (And.right (And.right (And.right (And.right (by assumption))))))) | exact (And.right (And.right (And.right (And.right (And.right (And.right (And.right (by assumption)))))))))) | exact (And.right (by assumption)) | exact (And.right (And.right (by assumption))) | exact (And.right (And.right (And.right (by assumption)))) | exact (And.right (And.right (And.right (And.right (by assumption))))) | exact (And.right (And.right (And.right (And.right (And.right (by assumption)))))) | exact (And.right (And.right (And.right (And.right (And.right (And.right (by assumption))))))) | exact (And.right (And.right (And.right (And.right (And.right (And.right (And.right (by assumption)))))))))

end
section
local macro_rules | `(tactic| walk_at "binaryOp Pow int int") => `(tactic| (k_here; k_dflt (first | (refine' my_pow1 ?k1 ?k2 ?k3 ?k4 ?_; (case k1 => decide); (case k2 => decide); (case k3 => decide); (case k4 => decide)) | (refine' my_powm ?k1 ?k2 ?k3 ?k4 ?_; (case k1 => decide); (case k2 => decide); (case k3 => decide); (case k4 => decide)))))
local macro_rules | `(tactic| walk_at "exec While Compare cons nil") => `(tactic| (k_here; k_dflt (refine whl_start 100 ?_)))
local macro_rules | `(tactic| walk_at "getItem ref int") => `(tactic| ((rename IntsAre _ (List.map (fun _ => (0:Int)) (rangeKs 0 _)) => hI9); (first | (have hI7 := ints2 (x := 0) (y := 0) hI9; clear hI9; (obtain ⟨t70, t71, e7⟩ := hI7); subst e7) | (have hI7 := ints1 (x := 0) hI9; clear hI9; (obtain ⟨t70, e7⟩ := hI7); subst e7)); walk_say "CONCRETE"; (rename News _ _ _ _ => hN7); dsimp only [LCg.lst] at hN7))

set_option maxRecDepth 100000 in
set_option maxHeartbeats 8000000 in
theorem C_norm2 {A : Around} {env : Env} {outer : List Env} {A₀ : Around} {base h₀ : Heap} {L : Addr} {m : Str → Option Value} {news : List (Addr × Obj)} {s : Shared}
    {w : World} {p : Program} {loose : List Str} {mean : ExcName → Option Value} {mg mb : Str → Option Value} {R : Result → Shared → Prop}
    (hA : A.frames = some (env :: outer)) (hH : A.handled = none) (hd : A.depth ≤ 500) (hu : A.units ≤ 500)
    (B : Below A₀ base outer h₀) (F : Fr h₀ L s.heap m) (X : (Mine.hd.heap_1 w.params).In h₀) (N : News h₀ L s.heap news) (T : Top p loose mean mg mb h₀)
    (hf : env.frame = some L) (hke : env.scope.kind = .function)
    {l : Addr} {cs : List Int} (hl : IsInts news l cs) (hlen : cs.length = 2) (hbs : ∀ c ∈ cs, Builtin.Int.intBits c ≤ 100)
    (ret : ∀ h' tk' tk, Fr h₀ L h' m → News h₀ L h' news → R (.ok (.ret (.int (normL cs) tk))) { s with heap := h', toks := tk' }) :
    codeAny (model PySem.Challenge.rw_ay0009_02.row.prog w) A (.call (.ref 238) ⟨[.ref l], []⟩) R s := by
  have hl' := hl.out
  obtain ⟨vl, nl, hl1, hl2⟩ := hl'
  obtain ⟨a0, a1, e⟩ := len_two hlen
  subst e
  obtain ⟨px0, px1, e⟩ := ints2 hl2
  subst e
  replace N := news_cons hl1 N
  have hba0 := hbs a0 (by simp)
  have hba1 := hbs a1 (by simp)

  refine codeAny_ar hA hH hd hu ?_
  revert X
  k_fill
  intro X
  k_dflt (refine' code_def ?k1 ?k2 ?k3 ?k4 ?k5 ?kA ?kF ?kK ?k6 ?k7 ?k8 ?k9 ?kB ?_ ?c2 ?c3 ?c4 ?c5; (case kA => exact rfl); (case kF => assumption); (case kK => assumption); (case k1 => k_asm); (case k2 => k_asm); (case k3 => k_asm); (case k4 => k_asm); (case k5 => k_asm); (case k6 => k_is); (case k7 => k_is); (case k8 => k_room); (case k9 => first | exact BindsTo.of_eq rfl | exact binds_K (by k_in) rfl (by k_is) rfl rfl rfl | fail "no rule for these arguments"); (case c5 => decide); (case kB => exact locs rfl); (case c2 => exact rfl); (case c3 => exact rfl); (case c4 => exact rfl); k_whole; intro g' L' h' FG' F' N' B' X' T'; (try dsimp only); (try k_lift B'); (try k_fold))
  k_steps
  (all_goals (try k_data))
  refine' int_cast9 (ret _ _ _ (by k_asm) (news_sub (by k_asm) ?s1)) ?e1
  case s1 => (repeat (first | exact sub_refl | exact fun _ h => h | refine sub_skip ?_))
  case e1 => (simp only [normL]; grind)


set_option maxRecDepth 100000 in
set_option maxHeartbeats 8000000 in
theorem C_norm4 {A : Around} {env : Env} {outer : List Env} {A₀ : Around} {base h₀ : Heap} {L : Addr} {m : Str → Option Value} {news : List (Addr × Obj)} {s : Shared}
    {w : World} {p : Program} {loose : List Str} {mean : ExcName → Option Value} {mg mb : Str → Option Value} {R : Result → Shared → Prop}
    (hA : A.frames = some (env :: outer)) (hH : A.handled = none) (hd : A.depth ≤ 500) (hu : A.units ≤ 500)
    (B : Below A₀ base outer h₀) (F : Fr h₀ L s.heap m) (X : (Mine.hd.heap_1 w.params).In h₀) (N : News h₀ L s.heap news) (T : Top p loose mean mg mb h₀)
    (hf : env.frame = some L) (hke : env.scope.kind = .function)
    {l : Addr} {cs : List Int} (hl : IsInts news l cs) (hlen : cs.length = 4) (hbs : ∀ c ∈ cs, Builtin.Int.intBits c ≤ 100)
    (ret : ∀ h' tk' tk, Fr h₀ L h' m → News h₀ L h' news → R (.ok (.ret (.int (normL cs) tk))) { s with heap := h', toks := tk' }) :
    codeAny (model PySem.Challenge.rw_ay0009_02.row.prog w) A (.call (.ref 238) ⟨[.ref l], []⟩) R s := by
  have hl' := hl.out
  obtain ⟨vl, nl, hl1, hl2⟩ := hl'
  obtain ⟨a0, a1, a2, a3, e⟩ := len_four hlen
  subst e
  obtain ⟨px0, px1, px2, px3, e⟩ := ints4 hl2
  subst e
  replace N := news_cons hl1 N
  have hba0 := hbs a0 (by simp)
  have hba1 := hbs a1 (by simp)
  have hba2 := hbs a2 (by simp)
  have hba3 := hbs a3 (by simp)

  refine codeAny_ar hA hH hd hu ?_
  revert X
  k_fill
  intro X
  k_dflt (refine' code_def ?k1 ?k2 ?k3 ?k4 ?k5 ?kA ?kF ?kK ?k6 ?k7 ?k8 ?k9 ?kB ?_ ?c2 ?c3 ?c4 ?c5; (case kA => exact rfl); (case kF => assumption); (case kK => assumption); (case k1 => k_asm); (case k2 => k_asm); (case k3 => k_asm); (case k4 => k_asm); (case k5 => k_asm); (case k6 => k_is); (case k7 => k_is); (case k8 => k_room); (case k9 => first | exact BindsTo.of_eq rfl | exact binds_K (by k_in) rfl (by k_is) rfl rfl rfl | fail "no rule for these arguments"); (case c5 => decide); (case kB => exact locs rfl); (case c2 => exact rfl); (case c3 => exact rfl); (case c4 => exact rfl); k_whole; intro g' L' h' FG' F' N' B' X' T'; (try dsimp only); (try k_lift B'); (try k_fold))
  k_steps
  (all_goals (try k_data))
  refine' int_cast9 (ret _ _ _ (by k_asm) (news_sub (by k_asm) ?s1)) ?e1
  case s1 => (repeat (first | exact sub_refl | exact fun _ h => h | refine sub_skip ?_))
  case e1 => (simp only [normL]; grind)

end
local macro_rules | `(tactic| walk_at "GxPost ref") => `(tactic| (k_here; k_dflt (refine' genexp_post (K := Mine.hd.heap_1 _) ?F ?N ?X ?hlim ?M ?ht ?htr ?hl ?hi ?hG ?hk ?h11 ?h18 ?h7 ?h9 ?h10 ?hcP ?hPs ?h2 ?_; (case F => k_asm); (case N => k_asm); (case X => k_asm); (case hlim => exact Top.nolimit (by k_asm)); (case M => first | k_asm | exact BMod.keeps (by assumption) (Fr.keep (by assumption))); (case ht => k_mem); (case htr => k_asm); (case hl => k_mem); (case hi => kst_mem); (case hG => k_asm); (case hk => k_is); (case h11 => exact rfl); (case h18 => exact rfl); (case h7 => exact rfl); (case h9 => exact rfl); (case h10 => exact rfl); (case hcP => decide); (case hPs => decide); (case h2 => decide); k_whole); intro a5 s5 ps5 nx5 S5 F5 N5 ht5 htr5 hk5 hG5 hos5 hL5 hS5 hX5; (try k_sweep); walk_say "GENPOST"))
local macro_rules | `(tactic| walk_at "call builtin:all") => `(tactic| (k_here; k_dflt (refine' my_all ?F ?N ?G ?X ?hL ?hn ?_; (case F => k_asm); (case N => k_asm); (case G => k_asm); (case X => k_asm); (case hL => k_asm); (case hn => k_asm); k_whole); intro s6 F6 N6 hG6 hos6; (try k_sweep); walk_say "ALL"))
section
local macro_rules | `(tactic| walk_at "eval GeneratorExp Compare cons") => `(tactic| (k_here; k_dflt (refine' my_genexp (c := 90) (P := 86) ?hh ?hco ?hclos ?hcell ?h0 ?hx ?hkind ?hroom ?hcode ?helt ?_ ?hs; (case hh => exact rfl); (case hco => with_unfolding_all rfl); (case hclos => with_unfolding_all rfl); (case hcell => decide); (case h0 => with_unfolding_all rfl); (case hx => with_unfolding_all rfl); (case hkind => with_unfolding_all rfl); (case hroom => k_room); (case hcode => with_unfolding_all rfl); (case helt => (intros; exact elt_zero (by assumption) (by assumption) (by with_unfolding_all rfl) (by with_unfolding_all rfl) (by decide))); (case hs => (intro _; with_unfolding_all rfl)); k_whole); walk_say "GENEXP"))
local macro_rules | `(tactic| walk_at "zz none") => `(tactic| fail)
set_option maxRecDepth 100000 in
set_option maxHeartbeats 8000000 in
theorem C_isz {A : Around} {env : Env} {outer : List Env} {A₀ : Around} {base h₀ : Heap} {L : Addr} {m : Str → Option Value} {news : List (Addr × Obj)} {s : Shared}
    {w : World} {p : Program} {loose : List Str} {mean : ExcName → Option Value} {mg mb : Str → Option Value} {R : Result → Shared → Prop}
    (hA : A.frames = some (env :: outer)) (hH : A.handled = none) (hd : A.depth ≤ 500) (hu : A.units ≤ 500)
    (B : Below A₀ base outer h₀) (F : Fr h₀ L s.heap m) (X : (Mine.hd.heap_1 w.params).In h₀) (N : News h₀ L s.heap news) (T : Top p loose mean mg mb h₀)
    (hf : env.frame = some L) (hke : env.scope.kind = .function)
    {x r : Addr} {cs : List Int} {ps : Array Value} (hx : IsPoly w news r x cs) (ht : (86, tabObj ps) ∈ news) (htr : TriplesOk ps.toList) (hG : AllBare s.gens)
    (ret : ∀ nx s' ps', Fr h₀ L s'.heap m → News h₀ L s'.heap nx → (86, tabObj ps') ∈ nx → TriplesOk ps'.toList → (∀ p ∈ news, OffT 86 p → p ∈ nx) → AllBare s'.gens → s'.os = s.os → R (.ok (.ret (.bool (cs.all (· == 0))))) s') :
    codeAny (model PySem.Challenge.rw_ay0009_02.row.prog w) A (.call (.ref 91) ⟨[.ref x], []⟩) R s := by
  obtain ⟨bm0, ob0, hM0⟩ := bmod_of_top T
  have hx' := hx.at_
  obtain ⟨dx, lx, t3, t4, vx, nx, hx1, hx2, hx3, hx4⟩ := hx'

  refine codeAny_ar hA hH hd hu ?_
  revert X
  k_fill
  intro X
  k_dflt (refine' code_def ?k1 ?k2 ?k3 ?k4 ?k5 ?kA ?kF ?kK ?k6 ?k7 ?k8 ?k9 ?kB ?_ ?c2 ?c3 ?c4 ?c5; (case kA => exact rfl); (case kF => assumption); (case kK => assumption); (case k1 => k_asm); (case k2 => k_asm); (case k3 => k_asm); (case k4 => k_asm); (case k5 => k_asm); (case k6 => k_is); (case k7 => k_is); (case k8 => k_room); (case k9 => first | exact BindsTo.of_eq rfl | exact binds_K (by k_in) rfl (by k_is) rfl rfl rfl | fail "no rule for these arguments"); (case c5 => decide); (case kB => exact locs rfl); (case c2 => exact rfl); (case c3 => exact rfl); (case c4 => exact rfl); k_whole; intro g' L' h' FG' F' N' B' X' T'; (try dsimp only); (try k_lift B'); (try k_fold))
  k_steps
  (all_goals (try k_data))
  refine' ret _ _ _ (by k_asm) (by k_asm) (by k_asm) (by k_asm) ?e1 (by k_asm) ?e2
  case e1 => first | assumption | (intro p hp ho; first | exact (by assumption : ∀ p ∈ _, OffT _ p → p ∈ _) _ hp ho | exact (by assumption : ∀ p ∈ _, OffT _ p → p ∈ _) _ (List.mem_cons_of_mem _ hp) ho)
  case e2 => first | assumption | exact Eq.trans (by assumption) (by assumption)

end
section
local macro_rules | `(tactic| walk_at "eval GeneratorExp Compare cons") => `(tactic| (k_here; k_dflt (refine' my_genexp (c := 97) (P := 93) ?hh ?hco ?hclos ?hcell ?h0 ?hx ?hkind ?hroom ?hcode ?helt ?_ ?hs; (case hh => exact rfl); (case hco => with_unfolding_all rfl); (case hclos => with_unfolding_all rfl); (case hcell => decide); (case h0 => with_unfolding_all rfl); (case hx => with_unfolding_all rfl); (case hkind => with_unfolding_all rfl); (case hroom => k_room); (case hcode => with_unfolding_all rfl); (case helt => (intros; exact elt_zero (by assumption) (by assumption) (by with_unfolding_all rfl) (by with_unfolding_all rfl) (by decide))); (case hs => (intro _; with_unfolding_all rfl)); k_whole); walk_say "GENEXP"))
set_option maxRecDepth 100000 in
set_option maxHeartbeats 8000000 in
theorem C_isc2 {A : Around} {env : Env} {outer : List Env} {A₀ : Around} {base h₀ : Heap} {L : Addr} {m : Str → Option Value} {news : List (Addr × Obj)} {s : Shared}
    {w : World} {p : Program} {loose : List Str} {mean : ExcName → Option Value} {mg mb : Str → Option Value} {R : Result → Shared → Prop}
    (hA : A.frames = some (env :: outer)) (hH : A.handled = none) (hd : A.depth ≤ 500) (hu : A.units ≤ 500)
    (B : Below A₀ base outer h₀) (F : Fr h₀ L s.heap m) (X : (Mine.hd.heap_1 w.params).In h₀) (N : News h₀ L s.heap news) (T : Top p loose mean mg mb h₀)
    (hf : env.frame = some L) (hke : env.scope.kind = .function)
    {x r : Addr} {cs : List Int} {ps : Array Value} (hx : IsPoly w news r x cs) (hlen : cs.length = 2) (ht : (93, tabObj ps) ∈ news) (htr : TriplesOk ps.toList) (hG : AllBare s.gens)
    (ret : ∀ nx s' ps', Fr h₀ L s'.heap m → News h₀ L s'.heap nx → (93, tabObj ps') ∈ nx → TriplesOk ps'.toList → (∀ p ∈ news, OffT 93 p → p ∈ nx) → AllBare s'.gens → s'.os = s.os → R (.ok (.ret (.bool (cs.tail.all (· == 0))))) s') :
    codeAny (model PySem.Challenge.rw_ay0009_02.row.prog w) A (.call (.ref 98) ⟨[.ref x], []⟩) R s := by
  obtain ⟨bm0, ob0, hM0⟩ := bmod_of_top T
  have hx' := hx.at_
  obtain ⟨dx, lx, t3, t4, vx, nx, hx1, hx2, hx3, hx4⟩ := hx'
  obtain ⟨a0, a1, e⟩ := len_two hlen
  subst e
  obtain ⟨px0, px1, e⟩ := ints2 hx4
  subst e

  refine codeAny_ar hA hH hd hu ?_
  revert X
  k_fill
  intro X
  k_dflt (refine' code_def ?k1 ?k2 ?k3 ?k4 ?k5 ?kA ?kF ?kK ?k6 ?k7 ?k8 ?k9 ?kB ?_ ?c2 ?c3 ?c4 ?c5; (case kA => exact rfl); (case kF => assumption); (case kK => assumption); (case k1 => k_asm); (case k2 => k_asm); (case k3 => k_asm); (case k4 => k_asm); (case k5 => k_asm); (case k6 => k_is); (case k7 => k_is); (case k8 => k_room); (case k9 => first | exact BindsTo.of_eq rfl | exact binds_K (by k_in) rfl (by k_is) rfl rfl rfl | fail "no rule for these arguments"); (case c5 => decide); (case kB => exact locs rfl); (case c2 => exact rfl); (case c3 => exact rfl); (case c4 => exact rfl); k_whole; intro g' L' h' FG' F' N' B' X' T'; (try dsimp only); (try k_lift B'); (try k_fold))
  k_steps
  (all_goals (try k_data))
  refine' ret _ _ _ (by k_asm) (by k_asm) (by k_asm) (by k_asm) ?e1 (by k_asm) ?e2
  case e1 => first | assumption | (intro p hp ho; first | exact (by assumption : ∀ p ∈ _, OffT _ p → p ∈ _) _ hp ho | exact (by assumption : ∀ p ∈ _, OffT _ p → p ∈ _) _ (List.mem_cons_of_mem _ hp) ho)
  case e2 => first | assumption | exact Eq.trans (by assumption) (by assumption)

set_option maxRecDepth 100000 in
set_option maxHeartbeats 8000000 in
theorem C_isc4 {A : Around} {env : Env} {outer : List Env} {A₀ : Around} {base h₀ : Heap} {L : Addr} {m : Str → Option Value} {news : List (Addr × Obj)} {s : Shared}
    {w : World} {p : Program} {loose : List Str} {mean : ExcName → Option Value} {mg mb : Str → Option Value} {R : Result → Shared → Prop}
    (hA : A.frames = some (env :: outer)) (hH : A.handled = none) (hd : A.depth ≤ 500) (hu : A.units ≤ 500)
    (B : Below A₀ base outer h₀) (F : Fr h₀ L s.heap m) (X : (Mine.hd.heap_1 w.params).In h₀) (N : News h₀ L s.heap news) (T : Top p loose mean mg mb h₀)
    (hf : env.frame = some L) (hke : env.scope.kind = .function)
    {x r : Addr} {cs : List Int} {ps : Array Value} (hx : IsPoly w news r x cs) (hlen : cs.length = 4) (ht : (93, tabObj ps) ∈ news) (htr : TriplesOk ps.toList) (hG : AllBare s.gens)
    (ret : ∀ nx s' ps', Fr h₀ L s'.heap m → News h₀ L s'.heap nx → (93, tabObj ps') ∈ nx → TriplesOk ps'.toList → (∀ p ∈ news, OffT 93 p → p ∈ nx) → AllBare s'.gens → s'.os = s.os → R (.ok (.ret (.bool (cs.tail.all (· == 0))))) s') :
    codeAny (model PySem.Challenge.rw_ay0009_02.row.prog w) A (.call (.ref 98) ⟨[.ref x], []⟩) R s := by
  obtain ⟨bm0, ob0, hM0⟩ := bmod_of_top T
  have hx' := hx.at_
  obtain ⟨dx, lx, t3, t4, vx, nx, hx1, hx2, hx3, hx4⟩ := hx'
  obtain ⟨a0, a1, a2, a3, e⟩ := len_four hlen
  subst e
  obtain ⟨px0, px1, px2, px3, e⟩ := ints4 hx4
  subst e

  refine codeAny_ar hA hH hd hu ?_
  revert X
  k_fill
  intro X
  k_dflt (refine' code_def ?k1 ?k2 ?k3 ?k4 ?k5 ?kA ?kF ?kK ?k6 ?k7 ?k8 ?k9 ?kB ?_ ?c2 ?c3 ?c4 ?c5; (case kA => exact rfl); (case kF => assumption); (case kK => assumption); (case k1 => k_asm); (case k2 => k_asm); (case k3 => k_asm); (case k4 => k_asm); (case k5 => k_asm); (case k6 => k_is); (case k7 => k_is); (case k8 => k_room); (case k9 => first | exact BindsTo.of_eq rfl | exact binds_K (by k_in) rfl (by k_is) rfl rfl rfl | fail "no rule for these arguments"); (case c5 => decide); (case kB => exact locs rfl); (case c2 => exact rfl); (case c3 => exact rfl); (case c4 => exact rfl); k_whole; intro g' L' h' FG' F' N' B' X' T'; (try dsimp only); (try k_lift B'); (try k_fold))
  k_steps
  (all_goals (try k_data))
  refine' ret _ _ _ (by k_asm) (by k_asm) (by k_asm) (by k_asm) ?e1 (by k_asm) ?e2
  case e1 => first | assumption | (intro p hp ho; first | exact (by assumption : ∀ p ∈ _, OffT _ p → p ∈ _) _ hp ho | exact (by assumption : ∀ p ∈ _, OffT _ p → p ∈ _) _ (List.mem_cons_of_mem _ hp) ho)
  case e2 => first | assumption | exact Eq.trans (by assumption) (by assumption)

end
section
local macro_rules | `(tactic| ktr_rel) => `(tactic| first | (with_reducible assumption) | (with_reducible exact List.mem_cons_self) | (refine' List.mem_cons_of_mem _ ?_; ktr_rel) | (refine' sub_mem (by with_reducible assumption) ?_; ktr_rel) | (refine' subT_mem (by with_reducible assumption) ?k9 ?o9; (case k9 => ktr_rel); (case o9 => kwd_inv)))
local macro_rules | `(tactic| k_mem) => `(tactic| ktr_rel)
local macro_rules | `(tactic| kcf_size) => `(tactic| first | ((simp only [List.size_toArray, List.length_cons, List.length_nil]); decide) | ((simp only [List.size_toArray]); with_reducible assumption))
local macro_rules | `(tactic| walk_at "CompEnd") => `(tactic| (k_here; (rename News _ _ _ _ => hN9); (rename Fr _ _ _ _ => hF9); (refine LCg.CompEnd.intro hF9 hN9 _ (fun _ h => h) ?off ?hS ?_); (case off => first | assumption | ((simp only [LCg.Off3, and_true]); first | done | assumption)); (case hS => k_dflt lcg_src); (try dsimp only [List.nil_append, List.cons_append]); walk_say "COMPEND"))
local macro_rules | `(tactic| walk_at "storeName") => `(tactic| (k_here; k_dflt (refine' my_storeC ?F ?N ?T ?C ?c ?i ?_ ?a ?b; (case a => rfl); (case b => rfl); (case F => k_asm); (case N => k_asm); (case T => kfm_turns); (case C => kqd_sub); (case c => rfl); (case i => first | exact List.mem_cons_self | exact List.mem_cons_of_mem _ List.mem_cons_self | exact List.mem_cons_of_mem _ (List.mem_cons_of_mem _ List.mem_cons_self) | exact List.mem_cons_of_mem _ (List.mem_cons_of_mem _ (List.mem_cons_of_mem _ List.mem_cons_self))); k_whole); intro h8 nx8 F8 N8 T8 C8 X8; (try k_sweep); walk_say "STOREC"))
local macro_rules | `(tactic| kwd_inv) => `(tactic| (first | exact off_cell (by with_reducible assumption) | exact Or.inr (fun _ e => by cases e) | exact Or.inl (by decide)))
local macro_rules | `(tactic| kst_mem) => `(tactic| (first | with_reducible assumption | assumption | exact IntsAre.nil | exact .cons _ _ .nil | exact .cons _ _ (.cons _ _ .nil) | exact .cons _ _ (.cons _ _ (.cons _ _ .nil)) | exact .cons _ _ (.cons _ _ (.cons _ _ (.cons _ _ .nil))) | exact .cons _ _ (by with_reducible assumption)))
local macro_rules | `(tactic| ktd_rel) => `(tactic| (first | with_reducible assumption | (refine IsRing.mono (by with_reducible assumption) ?_; kct_strs) | (refine IsRing.ext (by with_reducible assumption) ?_; (kpt_turns; done)) | exact ⟨⟨_, _, _, _, _, by k_mem, by k_mem⟩⟩))
local macro_rules | `(tactic| kwd_rel) => `(tactic| (first | with_reducible assumption | (refine IsInts.mono (by with_reducible assumption) ?_; kct_strs) | (refine IsInts.ext (by with_reducible assumption) ?_; (kpt_turns; done)) | exact ⟨⟨_, _, by k_mem, by kst_mem⟩⟩ | (refine IsInts.ext ?_ (by with_reducible assumption); exact ⟨⟨_, _, by k_mem, by kst_mem⟩⟩)))
local macro_rules | `(tactic| tb_start) => `(tactic| (first | with_reducible assumption | (refine IsPoly.mono (by with_reducible assumption) ?_; kct_strs) | (refine IsPoly.ext (by with_reducible assumption) ?_; (kpt_turns; done)) | exact ⟨⟨_, _, _, _, by k_mem, by k_mem, ⟨⟨_, _, by k_mem, by kst_mem⟩⟩⟩⟩))
local macro_rules | `(tactic| tb_rel) => `(tactic| (first | with_reducible assumption | exact Good.mul (by assumption) (by assumption) (by tb_rel) (by tb_rel) | exact Good.subI (by assumption) (by tb_rel) | exact Good.addI (by assumption) (by tb_rel) | exact Good.neg (by assumption) (by tb_rel) | exact Good.mulI (by assumption) (by tb_rel) | exact Good.addL (by assumption) (by tb_rel) (by tb_rel) | exact Good.one (by assumption) (by assumption) | exact Good.pow (by assumption) (by assumption) (by tb_rel)))
local macro_rules | `(tactic| kst_p) => `(tactic| (first | with_reducible assumption | exact rfl | exact Good.len (by with_reducible assumption) | ((have h97 : _ ∨ _ := (by assumption : _ = 2 ∨ _ = 4)); (simp only [List.length_map, List.length_take, List.length_drop]); omega)))
set_option maxRecDepth 100000 in
set_option maxHeartbeats 8000000 in
theorem C_rcallG {A : Around} {env : Env} {outer : List Env} {A₀ : Around} {base h₀ : Heap} {L : Addr} {m : Str → Option Value} {news : List (Addr × Obj)} {s : Shared}
    {w : World} {p : Program} {loose : List Str} {mean : ExcName → Option Value} {mg mb : Str → Option Value} {R : Result → Shared → Prop}
    (hA : A.frames = some (env :: outer)) (hH : A.handled = none) (hd : A.depth ≤ 600) (hu : A.units ≤ 600)
    (B : Below A₀ base outer h₀) (F : Fr h₀ L s.heap m) (X : (Mine.hd.heap_1 w.params).In h₀) (N : News h₀ L s.heap news) (T : Top p loose mean mg mb h₀)
    (hf : env.frame = some L) (hke : env.scope.kind = .function)
    {n : Nat} (hn : n = 2 ∨ n = 4) {l r : Addr} {q : Int} {cs : List Int} (hr : IsRing w news r q n) (hl : IsInts news l cs) (hcs : cs.length = n)
    (ret : ∀ x dx h' tk' t1 t2, Fr h₀ L h' m → News h₀ L h' ((x, instObj 229 dx) :: (dx, polyD w t1 t2 r l) :: news) → AllLt dx news → @LT.lt Nat _ dx x → R (.ok (.ret (.ref x))) { s with heap := h', toks := tk' }) :
    codeAny (model PySem.Challenge.rw_ay0009_02.row.prog w) A (.call (.ref 56) ⟨[.ref r, .ref l], []⟩) R s := by
  obtain ⟨vl, nl, hl1, hl2⟩ := hl.out
  have hvl : vl.length = n := hl2.length.trans hcs
  have hr' := hr.out
  obtain ⟨dr, t1, t2, u1, u2, hr1, hr2⟩ := hr'

  refine codeAny_ar hA hH hd hu ?_
  revert X
  k_fill
  intro X
  k_dflt (refine' code_def ?k1 ?k2 ?k3 ?k4 ?k5 ?kA ?kF ?kK ?k6 ?k7 ?k8 ?k9 ?kB ?_ ?c2 ?c3 ?c4 ?c5; (case kA => exact rfl); (case kF => assumption); (case kK => assumption); (case k1 => k_asm); (case k2 => k_asm); (case k3 => k_asm); (case k4 => k_asm); (case k5 => k_asm); (case k6 => k_is); (case k7 => k_is); (case k8 => k_room); (case k9 => first | exact BindsTo.of_eq rfl | exact binds_K (by k_in) rfl (by k_is) rfl rfl rfl | fail "no rule for these arguments"); (case c5 => decide); (case kB => exact locs rfl); (case c2 => exact rfl); (case c3 => exact rfl); (case c4 => exact rfl); k_whole; intro g' L' h' FG' F' N' B' X' T'; (try dsimp only); (try k_lift B'); (try k_fold))
  k_steps
  (all_goals (try k_data))
  refine' ret _ _ _ _ _ _ (by k_asm) (by k_asm) ?o1 ?o2
  case o1 => (first | exact allLt_of (by assumption) | ((try simp only [AllLt, and_true]); (repeat' (refine And.intro ?_ ?_)) <;> first | assumption | omega | exact (And.right (by assumption)) | exact (And.right (And.right (by assumption))) | exact (And.right (And.right (And.right (by assumption)))) | exact (And.right (And.right (And.right (And.right (by assumption))))) | exact (And.right (And.right (And.right (And.right (And.right (by assumption)))))) | exact (And.right (And.right (And.right (And.right (And.right (And.right (by assumption))))))) | exact (And.right (And.right (And.right (And.right (And.right (And.right (And.right (by assumption))))))))))
  case o2 => first | assumption | omega

end
section
local macro_rules | `(tactic| ktr_rel) => `(tactic| first | (with_reducible assumption) | (with_reducible exact List.mem_cons_self) | (refine' List.mem_cons_of_mem _ ?_; ktr_rel) | (refine' sub_mem (by with_reducible assumption) ?_; ktr_rel) | (refine' subT_mem (by with_reducible assumption) ?k9 ?o9; (case k9 => ktr_rel); (case o9 => kwd_inv)))
local macro_rules | `(tactic| k_mem) => `(tactic| ktr_rel)
local macro_rules | `(tactic| kcf_size) => `(tactic| first | ((simp only [List.size_toArray, List.length_cons, List.length_nil]); decide) | ((simp only [List.size_toArray]); with_reducible assumption))
local macro_rules | `(tactic| walk_at "CompEnd") => `(tactic| (k_here; (rename News _ _ _ _ => hN9); (rename Fr _ _ _ _ => hF9); (refine LCg.CompEnd.intro hF9 hN9 _ (fun _ h => h) ?off ?hS ?_); (case off => first | assumption | ((simp only [LCg.Off3, and_true]); first | done | assumption)); (case hS => k_dflt lcg_src); (try dsimp only [List.nil_append, List.cons_append]); walk_say "COMPEND"))
local macro_rules | `(tactic| walk_at "storeName") => `(tactic| (k_here; k_dflt (refine' my_storeC ?F ?N ?T ?C ?c ?i ?_ ?a ?b; (case a => rfl); (case b => rfl); (case F => k_asm); (case N => k_asm); (case T => kfm_turns); (case C => kqd_sub); (case c => rfl); (case i => first | exact List.mem_cons_self | exact List.mem_cons_of_mem _ List.mem_cons_self | exact List.mem_cons_of_mem _ (List.mem_cons_of_mem _ List.mem_cons_self) | exact List.mem_cons_of_mem _ (List.mem_cons_of_mem _ (List.mem_cons_of_mem _ List.mem_cons_self))); k_whole); intro h8 nx8 F8 N8 T8 C8 X8; (try k_sweep); walk_say "STOREC"))
local macro_rules | `(tactic| kwd_inv) => `(tactic| (first | exact off_cell (by with_reducible assumption) | exact Or.inr (fun _ e => by cases e) | exact Or.inl (by decide)))
local macro_rules | `(tactic| kst_mem) => `(tactic| (first | with_reducible assumption | assumption | exact IntsAre.nil | exact .cons _ _ .nil | exact .cons _ _ (.cons _ _ .nil) | exact .cons _ _ (.cons _ _ (.cons _ _ .nil)) | exact .cons _ _ (.cons _ _ (.cons _ _ (.cons _ _ .nil))) | exact .cons _ _ (by with_reducible assumption)))
local macro_rules | `(tactic| ktd_rel) => `(tactic| (first | with_reducible assumption | (refine IsRing.mono (by with_reducible assumption) ?_; kct_strs) | (refine IsRing.ext (by with_reducible assumption) ?_; (kpt_turns; done)) | exact ⟨⟨_, _, _, _, _, by k_mem, by k_mem⟩⟩))
local macro_rules | `(tactic| kwd_rel) => `(tactic| (first | with_reducible assumption | (refine IsInts.mono (by with_reducible assumption) ?_; kct_strs) | (refine IsInts.ext (by with_reducible assumption) ?_; (kpt_turns; done)) | exact ⟨⟨_, _, by k_mem, by kst_mem⟩⟩ | (refine IsInts.ext ?_ (by with_reducible assumption); exact ⟨⟨_, _, by k_mem, by kst_mem⟩⟩)))
local macro_rules | `(tactic| tb_start) => `(tactic| (first | with_reducible assumption | (refine IsPoly.mono (by with_reducible assumption) ?_; kct_strs) | (refine IsPoly.ext (by with_reducible assumption) ?_; (kpt_turns; done)) | exact ⟨⟨_, _, _, _, by k_mem, by k_mem, ⟨⟨_, _, by k_mem, by kst_mem⟩⟩⟩⟩))
local macro_rules | `(tactic| tb_rel) => `(tactic| (first | with_reducible assumption | exact Good.mul (by assumption) (by assumption) (by tb_rel) (by tb_rel) | exact Good.subI (by assumption) (by tb_rel) | exact Good.addI (by assumption) (by tb_rel) | exact Good.neg (by assumption) (by tb_rel) | exact Good.mulI (by assumption) (by tb_rel) | exact Good.addL (by assumption) (by tb_rel) (by tb_rel) | exact Good.one (by assumption) (by assumption) | exact Good.pow (by assumption) (by assumption) (by tb_rel)))
local macro_rules | `(tactic| kst_p) => `(tactic| (first | with_reducible assumption | exact rfl | exact Good.len (by with_reducible assumption) | ((have h97 : _ ∨ _ := (by assumption : _ = 2 ∨ _ = 4)); (simp only [List.length_map, List.length_take, List.length_drop]); omega)))
local macro_rules | `(tactic| walk_at "zz none") => `(tactic| fail)
set_option maxRecDepth 100000 in
set_option maxHeartbeats 8000000 in
theorem C_rcallIG {A : Around} {env : Env} {outer : List Env} {A₀ : Around} {base h₀ : Heap} {L : Addr} {m : Str → Option Value} {news : List (Addr × Obj)} {s : Shared}
    {w : World} {p : Program} {loose : List Str} {mean : ExcName → Option Value} {mg mb : Str → Option Value} {R : Result → Shared → Prop}
    (hA : A.frames = some (env :: outer)) (hH : A.handled = none) (hd : A.depth ≤ 600) (hu : A.units ≤ 600)
    (B : Below A₀ base outer h₀) (F : Fr h₀ L s.heap m) (X : (Mine.hd.heap_1 w.params).In h₀) (N : News h₀ L s.heap news) (T : Top p loose mean mg mb h₀)
    (hf : env.frame = some L) (hke : env.scope.kind = .function)
    {n : Nat} (hn : n = 2 ∨ n = 4) {r : Addr} {q v : Int} {u : Tok} (hr : IsRing w news r q n)
    (ret : ∀ x' nx h' tk', Fr h₀ L h' m → News h₀ L h' nx → (∀ p ∈ news, p ∈ nx) → IsPoly w nx r x' (v :: List.replicate (n - 1) 0) → R (.ok (.ret (.ref x'))) { s with heap := h', toks := tk' }) :
    codeAny (model PySem.Challenge.rw_ay0009_02.row.prog w) A (.call (.ref 56) ⟨[.ref r, .int v u], []⟩) R s := by
  have hr' := hr.out
  obtain ⟨dr, t1, t2, u1, u2, hr1, hr2⟩ := hr'
  have hpad : ([v] ++ List.map (fun _ => (0 : Int)) (rangeKs 0 ((n : Int) - 1 - 0).toNat)) = v :: List.replicate (n - 1) 0 := by
    rw [List.map_const', rangeKs_length, show ((n : Int) - 1 - 0).toNat = n - 1 by omega]
    rfl

  refine codeAny_ar hA hH hd hu ?_
  revert X
  k_fill
  intro X
  k_dflt (refine' code_def ?k1 ?k2 ?k3 ?k4 ?k5 ?kA ?kF ?kK ?k6 ?k7 ?k8 ?k9 ?kB ?_ ?c2 ?c3 ?c4 ?c5; (case kA => exact rfl); (case kF => assumption); (case kK => assumption); (case k1 => k_asm); (case k2 => k_asm); (case k3 => k_asm); (case k4 => k_asm); (case k5 => k_asm); (case k6 => k_is); (case k7 => k_is); (case k8 => k_room); (case k9 => first | exact BindsTo.of_eq rfl | exact binds_K (by k_in) rfl (by k_is) rfl rfl rfl | fail "no rule for these arguments"); (case c5 => decide); (case kB => exact locs rfl); (case c2 => exact rfl); (case c3 => exact rfl); (case c4 => exact rfl); k_whole; intro g' L' h' FG' F' N' B' X' T'; (try dsimp only); (try k_lift B'); (try k_fold))
  k_steps
  (all_goals (try k_data))
  (rename News h₀ L _ _ => hN9)
  (try dsimp only [LCg.lst] at hN9)
  refine' ret _ _ _ _ (by k_asm) hN9 ?zs ?zp
  case zs => (repeat (first | exact sub_refl | exact fun _ h => h | refine sub_skip ?_))
  case zp => exact IsPoly.cast (by tb_start) hpad

end
section
theorem G_school {A : Around} {env : Env} {outer : List Env} {A₀ : Around} {base h₀ : Heap} {L : Addr} {m : Str → Option Value} {news : List (Addr × Obj)} {s : Shared}
    {w : World} {p : Program} {loose : List Str} {mean : ExcName → Option Value} {mg mb : Str → Option Value} {R : Result → Shared → Prop}
    (hA : A.frames = some (env :: outer)) (hH : A.handled = none) (hd : A.depth ≤ 500) (hu : A.units ≤ 500)
    (B : Below A₀ base outer h₀) (F : Fr h₀ L s.heap m) (X : (Mine.hd.heap_1 w.params).In h₀) (N : News h₀ L s.heap news) (T : Top p loose mean mg mb h₀)
    (hf : env.frame = some L) (hke : env.scope.kind = .function)
    {n : Nat} (hn : n = 2 ∨ n = 4) {x y r : Addr} {q : Int} {cs ds : List Int} (hr : IsRing w news r q n) (hx : IsPoly w news r x cs) (hy : IsPoly w news r y ds)
    (hq : 2 ≤ q) (hqb : Builtin.Int.intBits q ≤ 100) (hcs : Good q n cs) (hds : Good q n ds)
    (ret : ∀ l nx h' tk', Fr h₀ L h' m → News h₀ L h' nx → (∀ p ∈ news, p ∈ nx) → IsInts nx l (mulL q cs ds) → R (.ok (.ret (.ref l))) { s with heap := h', toks := tk' }) :
    codeAny (model PySem.Challenge.rw_ay0009_02.row.prog w) A (.call (.ref 129) ⟨[.ref x, .ref y], []⟩) R s := by
  rcases hn with rfl | rfl
  · obtain ⟨a0, a1, rfl⟩ := hcs.two
    obtain ⟨b0, b1, rfl⟩ := hds.two
    exact C_school2 hA hH hd hu B F X N T hf hke hr hx hy hq (bits_red hqb (hcs.red a0 (by simp))) (bits_red hqb (hcs.red a1 (by simp))) (bits_red hqb (hds.red b0 (by simp))) (bits_red hqb (hds.red b1 (by simp))) (fun l h' tk' vs n' F' N' hi _ => ret l _ h' tk' F' N' (fun p hp => List.mem_cons_of_mem _ hp) ⟨⟨vs, n', List.mem_cons_self, hi⟩⟩)
  · obtain ⟨a0, a1, a2, a3, rfl⟩ := hcs.four
    obtain ⟨b0, b1, b2, b3, rfl⟩ := hds.four
    exact C_school4 hA hH hd hu B F X N T hf hke hr hx hy hq (bits_red hqb (hcs.red a0 (by simp))) (bits_red hqb (hcs.red a1 (by simp))) (bits_red hqb (hcs.red a2 (by simp))) (bits_red hqb (hcs.red a3 (by simp))) (bits_red hqb (hds.red b0 (by simp))) (bits_red hqb (hds.red b1 (by simp))) (bits_red hqb (hds.red b2 (by simp))) (bits_red hqb (hds.red b3 (by simp))) (fun l h' tk' vs n' F' N' hi _ => ret l _ h' tk' F' N' (fun p hp => List.mem_cons_of_mem _ hp) ⟨⟨vs, n', List.mem_cons_self, hi⟩⟩)
theorem G_rcall {A : Around} {env : Env} {outer : List Env} {A₀ : Around} {base h₀ : Heap} {L : Addr} {m : Str → Option Value} {news : List (Addr × Obj)} {s : Shared}
    {w : World} {p : Program} {loose : List Str} {mean : ExcName → Option Value} {mg mb : Str → Option Value} {R : Result → Shared → Prop}
    (hA : A.frames = some (env :: outer)) (hH : A.handled = none) (hd : A.depth ≤ 600) (hu : A.units ≤ 600)
    (B : Below A₀ base outer h₀) (F : Fr h₀ L s.heap m) (X : (Mine.hd.heap_1 w.params).In h₀) (N : News h₀ L s.heap news) (T : Top p loose mean mg mb h₀)
    (hf : env.frame = some L) (hke : env.scope.kind = .function)
    {n : Nat} (hn : n = 2 ∨ n = 4) {l r : Addr} {q : Int} {cs : List Int} (hr : IsRing w news r q n) (hl : IsInts news l cs) (hcs : cs.length = n)
    (ret : ∀ x' nx h' tk', Fr h₀ L h' m → News h₀ L h' nx → (∀ p ∈ news, p ∈ nx) → IsPoly w nx r x' (cs) → R (.ok (.ret (.ref x'))) { s with heap := h', toks := tk' }) :
    codeAny (model PySem.Challenge.rw_ay0009_02.row.prog w) A (.call (.ref 56) ⟨[.ref r, .ref l], []⟩) R s :=
  C_rcallG hA hH hd hu B F X N T hf hke hn hr hl hcs (fun x' dx h' tk' t1 t2 F' N' _ _ => ret x' _ h' tk' F' N' (fun p hp => List.mem_cons_of_mem _ (List.mem_cons_of_mem _ hp)) ⟨⟨dx, l, t1, t2, List.mem_cons_self, List.mem_cons_of_mem _ List.mem_cons_self, hl.mono fun p hp => List.mem_cons_of_mem _ (List.mem_cons_of_mem _ hp)⟩⟩)
theorem G_rcallI {A : Around} {env : Env} {outer : List Env} {A₀ : Around} {base h₀ : Heap} {L : Addr} {m : Str → Option Value} {news : List (Addr × Obj)} {s : Shared}
    {w : World} {p : Program} {loose : List Str} {mean : ExcName → Option Value} {mg mb : Str → Option Value} {R : Result → Shared → Prop}
    (hA : A.frames = some (env :: outer)) (hH : A.handled = none) (hd : A.depth ≤ 600) (hu : A.units ≤ 600)
    (B : Below A₀ base outer h₀) (F : Fr h₀ L s.heap m) (X : (Mine.hd.heap_1 w.params).In h₀) (N : News h₀ L s.heap news) (T : Top p loose mean mg mb h₀)
    (hf : env.frame = some L) (hke : env.scope.kind = .function)
    {n : Nat} (hn : n = 2 ∨ n = 4)
    {r : Addr} {q v : Int} {u : Tok} (hr : IsRing w news r q n)
    (ret : ∀ x' nx h' tk', Fr h₀ L h' m → News h₀ L h' nx → (∀ p ∈ news, p ∈ nx) → IsPoly w nx r x' (v :: List.replicate (n - 1) 0) → R (.ok (.ret (.ref x'))) { s with heap := h', toks := tk' }) :
    codeAny (model PySem.Challenge.rw_ay0009_02.row.prog w) A (.call (.ref 56) ⟨[.ref r, .int v u], []⟩) R s :=
  C_rcallIG hA hH hd hu B F X N T hf hke hn hr ret
theorem G_norm {A : Around} {env : Env} {outer : List Env} {A₀ : Around} {base h₀ : Heap} {L : Addr} {m : Str → Option Value} {news : List (Addr × Obj)} {s : Shared}
    {w : World} {p : Program} {loose : List Str} {mean : ExcName → Option Value} {mg mb : Str → Option Value} {R : Result → Shared → Prop}
    (hA : A.frames = some (env :: outer)) (hH : A.handled = none) (hd : A.depth ≤ 500) (hu : A.units ≤ 500)
    (B : Below A₀ base outer h₀) (F : Fr h₀ L s.heap m) (X : (Mine.hd.heap_1 w.params).In h₀) (N : News h₀ L s.heap news) (T : Top p loose mean mg mb h₀)
    (hf : env.frame = some L) (hke : env.scope.kind = .function)
    {n : Nat} (hn : n = 2 ∨ n = 4)
    {l : Addr} {cs : List Int} (hl : IsInts news l cs) (hlen : cs.length = n) (hbs : ∀ c ∈ cs, Builtin.Int.intBits c ≤ 100)
    (ret : ∀ h' tk' tk, Fr h₀ L h' m → News h₀ L h' news → R (.ok (.ret (.int (normL cs) tk))) { s with heap := h', toks := tk' }) :
    codeAny (model PySem.Challenge.rw_ay0009_02.row.prog w) A (.call (.ref 238) ⟨[.ref l], []⟩) R s := by
  rcases hn with rfl | rfl
  · exact C_norm2 hA hH hd hu B F X N T hf hke hl hlen hbs ret
  · exact C_norm4 hA hH hd hu B F X N T hf hke hl hlen hbs ret
theorem G_isc {A : Around} {env : Env} {outer : List Env} {A₀ : Around} {base h₀ : Heap} {L : Addr} {m : Str → Option Value} {news : List (Addr × Obj)} {s : Shared}
    {w : World} {p : Program} {loose : List Str} {mean : ExcName → Option Value} {mg mb : Str → Option Value} {R : Result → Shared → Prop}
    (hA : A.frames = some (env :: outer)) (hH : A.handled = none) (hd : A.depth ≤ 500) (hu : A.units ≤ 500)
    (B : Below A₀ base outer h₀) (F : Fr h₀ L s.heap m) (X : (Mine.hd.heap_1 w.params).In h₀) (N : News h₀ L s.heap news) (T : Top p loose mean mg mb h₀)
    (hf : env.frame = some L) (hke : env.scope.kind = .function)
    {n : Nat} (hn : n = 2 ∨ n = 4)
    {x r : Addr} {cs : List Int} {ps : Array Value} (hx : IsPoly w news r x cs) (hlen : cs.length = n) (ht : (93, tabObj ps) ∈ news) (htr : TriplesOk ps.toList) (hG : AllBare s.gens)
    (ret : ∀ nx s' ps', Fr h₀ L s'.heap m → News h₀ L s'.heap nx → (93, tabObj ps') ∈ nx → TriplesOk ps'.toList → (∀ p ∈ news, OffT 93 p → p ∈ nx) → AllBare s'.gens → s'.os = s.os → R (.ok (.ret (.bool (cs.tail.all (· == 0))))) s') :
    codeAny (model PySem.Challenge.rw_ay0009_02.row.prog w) A (.call (.ref 98) ⟨[.ref x], []⟩) R s := by
  rcases hn with rfl | rfl
  · exact C_isc2 hA hH hd hu B F X N T hf hke hx hlen ht htr hG ret
  · exact C_isc4 hA hH hd hu B F X N T hf hke hx hlen ht htr hG ret

end
section
theorem ownEq_K {K : Frag} {h : Heap} {x C f N : Addr} {ox oN of : Obj} {nm q : Str} {bs : List Value} {hdct : Bool} {sn : List Str} {sub : List Value} {ab : Bool} {col : Option Bool} {dd : Option Addr} {k0 k1 k2 k3 k5 : Option Value} {newId : String} {es ep} {y : Option Value}
    (X : K.In h) (hx : h.get? x = some ox) (hc : ox.cls = .ref C) (hC : K.lookup C = some (excClassObj nm q C N bs [.type "object"] hdct sn sub ab col dd k0 k1 k2 k3 k5 newId)) (hN : K.lookup N = some oN) (hd : oN.data = .dict es ep) (hk : StrKeys es)
    (he : nsFind es "__eq__" = some (.ref f)) (hn : nsFind es "__ne__" = none) (hf : K.lookup f = some of) (hfc : of.cls = .type "function") (hB : typeLookup (.type "object") ("__eq__" : Str) = pure y) : h.OwnEqNoNe x C f "object" [.type "object"] :=
  ⟨ox, of, nm, q, N, bs, hdct, sn, sub, ab, col, dd, k0, k1, k2, k3, k5, newId, fun n => nsFind es n, y, hx, hc, X _ _ hC, ⟨oN, es, ep, X _ _ hN, hd, hk, fun _ => rfl⟩, he, X _ _ hf, hfc, PySem.F.mro_object, hB, hn⟩
theorem obj_eq : ∃ y, typeLookup (.type "object") ("__eq__" : Str) = pure y := ⟨_, by with_unfolding_all rfl⟩
set_option maxRecDepth 100000 in
set_option maxHeartbeats 2000000 in
theorem poly_ownEq {w : World} {h : Heap} {x dx : Addr} (X : (Mine.hd.heap_1 w.params).In h) (hx : h.get? x = some (instObj 229 dx)) : h.OwnEqNoNe x 229 219 "object" [.type "object"] := by
  obtain ⟨y, hB⟩ := obj_eq
  refine ownEq_K X hx rfl (hC := rfl) (hN := rfl) (hd := rfl) ?_ ?_ ?_ (hf := rfl) rfl hB
  · first | exact rfl | decide | (intro e he; simp only [List.mem_cons, List.not_mem_nil, or_false, List.mem_toArray] at he; (repeat (rcases he with rfl | he; exact ⟨_, _, rfl⟩)))
  · exact rfl
  · exact rfl
theorem ne_use {w : World} {prog : Program} {A : Around} {E : Value → Shared → Prop} {s : Shared} {h₀ : Heap} {L x y dx dy : Addr} {m : Str → Option Value} {Q : Value → Shared → Prop}
    (X : (Mine.hd.heap_1 w.params).In h₀) (F : Fr h₀ L s.heap m) (hx : s.heap.get? x = some (instObj 229 dx)) (hy : s.heap.get? y = some (instObj 229 dy)) (hu : A.units + 1 < cLine)
    (h : wpAny (model prog w) A.in1 (call (.ref 219) [.ref x, .ref y]) (NeBack Q) E s) : wpAny (model prog w) A (compareOp .NotEq (.ref x) (.ref y)) Q E s := by
  obtain ⟨hh, g, d, t, os⟩ := s
  exact compareOp_ne_ownEq PySem.F.cmp_object (poly_ownEq (X.keeps F.keep) hx) hy rfl hu h

end
local macro_rules | `(tactic| ktr_rel) => `(tactic| first | (with_reducible assumption) | (with_reducible exact List.mem_cons_self) | (refine' List.mem_cons_of_mem _ ?_; ktr_rel) | (refine' sub_mem (by with_reducible assumption) ?_; ktr_rel) | (refine' subT_mem (by with_reducible assumption) ?k9 ?o9; (case k9 => ktr_rel); (case o9 => kwd_inv)))
local macro_rules | `(tactic| k_mem) => `(tactic| ktr_rel)
local macro_rules | `(tactic| kcf_size) => `(tactic| first | ((simp only [List.size_toArray, List.length_cons, List.length_nil]); decide) | ((simp only [List.size_toArray]); with_reducible assumption))
local macro_rules | `(tactic| walk_at "CompEnd") => `(tactic| (k_here; (rename News _ _ _ _ => hN9); (rename Fr _ _ _ _ => hF9); (refine LCg.CompEnd.intro hF9 hN9 _ (fun _ h => h) ?off ?hS ?_); (case off => first | assumption | ((simp only [LCg.Off3, and_true]); first | done | assumption)); (case hS => k_dflt lcg_src); (try dsimp only [List.nil_append, List.cons_append]); walk_say "COMPEND"))
local macro_rules | `(tactic| walk_at "storeName") => `(tactic| (k_here; k_dflt (refine' my_storeC ?F ?N ?T ?C ?c ?i ?_ ?a ?b; (case a => rfl); (case b => rfl); (case F => k_asm); (case N => k_asm); (case T => kfm_turns); (case C => kqd_sub); (case c => rfl); (case i => first | exact List.mem_cons_self | exact List.mem_cons_of_mem _ List.mem_cons_self | exact List.mem_cons_of_mem _ (List.mem_cons_of_mem _ List.mem_cons_self) | exact List.mem_cons_of_mem _ (List.mem_cons_of_mem _ (List.mem_cons_of_mem _ List.mem_cons_self))); k_whole); intro h8 nx8 F8 N8 T8 C8 X8; (try k_sweep); walk_say "STOREC"))
local macro_rules | `(tactic| kwd_inv) => `(tactic| (first | exact off_cell (by with_reducible assumption) | exact Or.inr (fun _ e => by cases e) | exact Or.inl (by decide)))
local macro_rules | `(tactic| kst_mem) => `(tactic| (first | with_reducible assumption | assumption | exact IntsAre.nil | exact .cons _ _ .nil | exact .cons _ _ (.cons _ _ .nil) | exact .cons _ _ (.cons _ _ (.cons _ _ .nil)) | exact .cons _ _ (.cons _ _ (.cons _ _ (.cons _ _ .nil))) | exact .cons _ _ (by with_reducible assumption)))
local macro_rules | `(tactic| ktd_rel) => `(tactic| (first | with_reducible assumption | (refine IsRing.mono (by with_reducible assumption) ?_; kct_strs) | (refine IsRing.ext (by with_reducible assumption) ?_; (kpt_turns; done)) | exact ⟨⟨_, _, _, _, _, by k_mem, by k_mem⟩⟩))
local macro_rules | `(tactic| kwd_rel) => `(tactic| (first | with_reducible assumption | (refine IsInts.mono (by with_reducible assumption) ?_; kct_strs) | (refine IsInts.ext (by with_reducible assumption) ?_; (kpt_turns; done)) | exact ⟨⟨_, _, by k_mem, by kst_mem⟩⟩ | (refine IsInts.ext ?_ (by with_reducible assumption); exact ⟨⟨_, _, by k_mem, by kst_mem⟩⟩)))
local macro_rules | `(tactic| tb_start) => `(tactic| (first | with_reducible assumption | (refine IsPoly.mono (by with_reducible assumption) ?_; kct_strs) | (refine IsPoly.ext (by with_reducible assumption) ?_; (kpt_turns; done)) | exact ⟨⟨_, _, _, _, by k_mem, by k_mem, ⟨⟨_, _, by k_mem, by kst_mem⟩⟩⟩⟩))
local macro_rules | `(tactic| tb_rel) => `(tactic| (first | with_reducible assumption | exact Good.mul (by assumption) (by assumption) (by tb_rel) (by tb_rel) | exact Good.subI (by assumption) (by tb_rel) | exact Good.addI (by assumption) (by tb_rel) | exact Good.neg (by assumption) (by tb_rel) | exact Good.mulI (by assumption) (by tb_rel) | exact Good.addL (by assumption) (by tb_rel) (by tb_rel) | exact Good.one (by assumption) (by assumption) | exact Good.pow (by assumption) (by assumption) (by tb_rel)))
local macro_rules | `(tactic| kst_p) => `(tactic| (first | with_reducible assumption | exact rfl | exact Good.len (by with_reducible assumption) | ((have h97 : _ ∨ _ := (by assumption : _ = 2 ∨ _ = 4)); (simp only [List.length_map, List.length_take, List.length_drop]); omega)))
section
local macro_rules | `(tactic| walk_at "storeName") => `(tactic| (k_here; (with_reducible show wpAny _ _ (storeName _ _ (Value.int (2 + Int.fmod _ 2 * 2) _)) _ _ _); refine n2_at (P := fun v9 => wpAny _ _ (storeName _ _ (Value.int v9 _)) _ _ _) ?_; (try dsimp only); walk_say "N2"))
local macro_rules | `(tactic| walk_at "zz none") => `(tactic| fail)
set_option maxRecDepth 100000 in
set_option maxHeartbeats 8000000 in
theorem st2_0 {w : World} {p : Program} {loose : List Str} {mean : ExcName → Option Value} {mg mb : Str → Option Value} {h₀ : Heap} {L fa : Addr} {cd : Value} {os0 : OsState} {s : Shared} {Q : Flow → Shared → Prop} {E : Value → Shared → Prop}
    (B : Below callerA h₀ [] h₀) (X : (Mine.hd.heap_1 w.params).In h₀) (T : Top p loose mean mg mb h₀) {nx : List (Addr × Obj)}
    {l0 : Addr} {vs : List Value} {ns : List Int} (hl : h₀.IsList l0 vs.toArray) (hi : IntsAre vs ns) (h63 : ns.length ≤ 63) (S : St h₀ L os0 [(Str.ofString "script", .ref l0)] [(L + 1, none)] nx s)
    (k : ∀ s' nx' ln ns', St h₀ L os0 [(Str.ofString "numbers", .ref ln)] [(L + 1, none)] nx' s' → Ext nx nx' → IsInts nx' ln ns' → ns'.length = 10 → Q .next s') :
    wpAny (model PySem.Challenge.rw_ay0009_02.row.prog w) (callerA.deeper (envOfC (Str.ofString "law") (lawDef PySem.Challenge.rw_ay0009_02.row.prog).2 L fa cd)) (exec (stm PySem.Challenge.rw_ay0009_02.row.prog 0) (envOfC (Str.ofString "law") (lawDef PySem.Challenge.rw_ay0009_02.row.prog).2 L fa cd)) Q E s := by
  obtain ⟨⟨m0, F⟩, N, ⟨⟨pa, ta, tra⟩, ⟨pc, tc, trc⟩⟩, CL, G, O⟩ := S
  simp only [lk] at F
  have TT : Tabs nx := ⟨⟨_, ta, tra⟩, ⟨_, tc, trc⟩⟩
  revert X
  k_fill
  intro X
  conv =>
    arg 3
    arg 1
    whnf
  k_steps
  (all_goals (try k_data))
  refine' k _ _ _ _ ?Sz1 ?Xz1 ?E0z1 ?E1z1
  case Sz1 =>
    refine ⟨fr_lk (by k_asm) _ ?l9z1, ?n9z1, ?t9z1, ?c9z1, ?g9z1, ?o9z1⟩
    case l9z1 => (repeat (first | exact List.forall_mem_nil _ | (refine List.forall_mem_cons.mpr ⟨?_, ?_⟩; exact rfl)))
    case n9z1 => k_asm
    case t9z1 => (repeat (first | with_reducible assumption | refine Tabs.sub ?_ (by with_reducible assumption) | refine Tabs.of1 ?_ (by with_reducible assumption) (by with_reducible assumption) (by with_reducible assumption) | refine Tabs.of2 ?_ (by with_reducible assumption) (by with_reducible assumption) (by with_reducible assumption) | refine Tabs.sub ?_ (fun p hp => List.mem_cons_of_mem _ hp)))
    case c9z1 => first | ((repeat (first | with_reducible assumption | exact Cells.sub (by with_reducible assumption) (fun p hp => List.mem_cons_of_mem _ hp) | exact Cells.sub (by with_reducible assumption) (fun p hp => List.mem_cons_of_mem _ (List.mem_cons_of_mem _ hp)) | exact Cells.sub (by with_reducible assumption) (fun p hp => List.mem_cons_of_mem _ (List.mem_cons_of_mem _ (List.mem_cons_of_mem _ hp))) | exact Cells.sub (by with_reducible assumption) (fun p hp => List.mem_cons_of_mem _ (List.mem_cons_of_mem _ (List.mem_cons_of_mem _ (List.mem_cons_of_mem _ hp)))) | refine Cells.sub ?_ (by with_reducible assumption) | refine Cells.of1 ?_ (by with_reducible assumption) | refine Cells.sub ?_ (fun p hp => List.mem_cons_of_mem _ hp))); done) | ((rename CellsTo _ _ _ _ => hC8); refine hC8 _ ?_; (repeat (first | exact List.forall_mem_nil _ | (refine List.forall_mem_cons.mpr ⟨?_, ?_⟩; first | (refine .inl ?_; exact rfl) | (refine .inr ⟨by simp, ?_⟩; first | exact Nat.ne_of_lt (by omega) | exact Nat.ne_of_gt (by omega))))))
    case g9z1 => first | assumption | exact G
    case o9z1 => (repeat (first | exact O | refine Eq.trans (by with_reducible assumption) ?_))
  case Xz1 => (repeat (first | exact ext_refl | with_reducible assumption | refine ext_trans ?_ (by with_reducible assumption) | refine ext_cons ?_ | refine ext_trans ?_ (ext_of (by with_reducible assumption)) | refine ext_trans ?_ (ext_of1 (by with_reducible assumption))))
  case E0z1 => kwd_rel
  case E1z1 => (simp only [List.length_take, List.length_append, List.length_map, rangeKs_length]; omega)

set_option maxRecDepth 100000 in
set_option maxHeartbeats 8000000 in
theorem st2_1 {w : World} {p : Program} {loose : List Str} {mean : ExcName → Option Value} {mg mb : Str → Option Value} {h₀ : Heap} {L fa : Addr} {cd : Value} {os0 : OsState} {s : Shared} {Q : Flow → Shared → Prop} {E : Value → Shared → Prop}
    (B : Below callerA h₀ [] h₀) (X : (Mine.hd.heap_1 w.params).In h₀) (T : Top p loose mean mg mb h₀) {nx : List (Addr × Obj)}
    {ln : Addr} {ns : List Int} (hl : IsInts nx ln ns) (hlen : ns.length = 10) (S : St h₀ L os0 [(Str.ofString "numbers", .ref ln)] [(L + 1, none)] nx s)
    (k : ∀ s' nx' q tq (n : Nat) tn, St h₀ L os0 [(Str.ofString "numbers", .ref ln), (Str.ofString "n", .int (n : Int) tn)] [(L + 1, some (.int q tq))] nx' s' → Ext nx nx' → 2 ≤ q → q ≤ 4294967297 → (n = 2 ∨ n = 4) → Q .next s') :
    wpAny (model PySem.Challenge.rw_ay0009_02.row.prog w) (callerA.deeper (envOfC (Str.ofString "law") (lawDef PySem.Challenge.rw_ay0009_02.row.prog).2 L fa cd)) (exec (stm PySem.Challenge.rw_ay0009_02.row.prog 1) (envOfC (Str.ofString "law") (lawDef PySem.Challenge.rw_ay0009_02.row.prog).2 L fa cd)) Q E s := by
  obtain ⟨⟨m0, F⟩, N, ⟨⟨pa, ta, tra⟩, ⟨pc, tc, trc⟩⟩, CL, G, O⟩ := S
  simp only [lk] at F
  have TT : Tabs nx := ⟨⟨_, ta, tra⟩, ⟨_, tc, trc⟩⟩
  obtain ⟨vl, nl, hl1, hl2⟩ := hl.out
  have hvl : vl.length = 10 := hl2.length.trans hlen
  revert X
  k_fill
  intro X
  conv =>
    arg 3
    arg 1
    whnf
  k_steps
  (all_goals (try k_data))
  refine' k _ _ _ _ _ _ ?Sz1 ?Xz1 ?E0z1 ?E1z1 ?E2z1
  case Sz1 =>
    refine ⟨fr_lk (by k_asm) _ ?l9z1, ?n9z1, ?t9z1, ?c9z1, ?g9z1, ?o9z1⟩
    case l9z1 => (repeat (first | exact List.forall_mem_nil _ | (refine List.forall_mem_cons.mpr ⟨?_, ?_⟩; exact rfl)))
    case n9z1 => k_asm
    case t9z1 => (repeat (first | with_reducible assumption | refine Tabs.sub ?_ (by with_reducible assumption) | refine Tabs.of1 ?_ (by with_reducible assumption) (by with_reducible assumption) (by with_reducible assumption) | refine Tabs.of2 ?_ (by with_reducible assumption) (by with_reducible assumption) (by with_reducible assumption) | refine Tabs.sub ?_ (fun p hp => List.mem_cons_of_mem _ hp)))
    case c9z1 => first | ((repeat (first | with_reducible assumption | exact Cells.sub (by with_reducible assumption) (fun p hp => List.mem_cons_of_mem _ hp) | exact Cells.sub (by with_reducible assumption) (fun p hp => List.mem_cons_of_mem _ (List.mem_cons_of_mem _ hp)) | exact Cells.sub (by with_reducible assumption) (fun p hp => List.mem_cons_of_mem _ (List.mem_cons_of_mem _ (List.mem_cons_of_mem _ hp))) | exact Cells.sub (by with_reducible assumption) (fun p hp => List.mem_cons_of_mem _ (List.mem_cons_of_mem _ (List.mem_cons_of_mem _ (List.mem_cons_of_mem _ hp)))) | refine Cells.sub ?_ (by with_reducible assumption) | refine Cells.of1 ?_ (by with_reducible assumption) | refine Cells.sub ?_ (fun p hp => List.mem_cons_of_mem _ hp))); done) | ((rename CellsTo _ _ _ _ => hC8); refine hC8 _ ?_; (repeat (first | exact List.forall_mem_nil _ | (refine List.forall_mem_cons.mpr ⟨?_, ?_⟩; first | (refine .inl ?_; exact rfl) | (refine .inr ⟨by simp, ?_⟩; first | exact Nat.ne_of_lt (by omega) | exact Nat.ne_of_gt (by omega))))))
    case g9z1 => first | assumption | exact G
    case o9z1 => (repeat (first | exact O | refine Eq.trans (by with_reducible assumption) ?_))
  case Xz1 => (repeat (first | exact ext_refl | with_reducible assumption | refine ext_trans ?_ (by with_reducible assumption) | refine ext_cons ?_ | refine ext_trans ?_ (ext_of (by with_reducible assumption)) | refine ext_trans ?_ (ext_of1 (by with_reducible assumption))))
  case E0z1 => exact (q32 _).1
  case E1z1 => exact (q32 _).2
  case E2z1 => exact n2_or _

set_option maxRecDepth 100000 in
set_option maxHeartbeats 8000000 in
theorem st2_2 {w : World} {p : Program} {loose : List Str} {mean : ExcName → Option Value} {mg mb : Str → Option Value} {h₀ : Heap} {L fa : Addr} {cd : Value} {os0 : OsState} {s : Shared} {Q : Flow → Shared → Prop} {E : Value → Shared → Prop}
    (B : Below callerA h₀ [] h₀) (X : (Mine.hd.heap_1 w.params).In h₀) (T : Top p loose mean mg mb h₀) {nx : List (Addr × Obj)}
    {n : Nat} {tn : Tok} (hn : n = 2 ∨ n = 4) {q : Int} {tq : Tok} (hq : 2 ≤ q) (hqm : q ≤ 4294967297) (hqb : Builtin.Int.intBits q ≤ 100) {ln : Addr} {ns : List Int} (hl : IsInts nx ln ns) (hlen : ns.length = 10) (S : St h₀ L os0 [(Str.ofString "numbers", .ref ln), (Str.ofString "n", .int (n : Int) tn)] [(L + 1, some (.int q tq))] nx s)
    (k : ∀ s' nx' r, St h₀ L os0 [(Str.ofString "numbers", .ref ln), (Str.ofString "n", .int (n : Int) tn), (Str.ofString "ring", .ref r)] [(L + 1, some (.int q tq))] nx' s' → Ext nx nx' → IsRing w nx' r q n → Q .next s') :
    wpAny (model PySem.Challenge.rw_ay0009_02.row.prog w) (callerA.deeper (envOfC (Str.ofString "law") (lawDef PySem.Challenge.rw_ay0009_02.row.prog).2 L fa cd)) (exec (stm PySem.Challenge.rw_ay0009_02.row.prog 2) (envOfC (Str.ofString "law") (lawDef PySem.Challenge.rw_ay0009_02.row.prog).2 L fa cd)) Q E s := by
  obtain ⟨⟨m0, F⟩, N, ⟨⟨pa, ta, tra⟩, ⟨pc, tc, trc⟩⟩, CL, G, O⟩ := S
  simp only [lk] at F
  have TT : Tabs nx := ⟨⟨_, ta, tra⟩, ⟨_, tc, trc⟩⟩
  obtain ⟨oq9, hcq, hdq⟩ := CL (L + 1, some (.int q tq)) List.mem_cons_self
  dsimp only at hcq hdq
  revert X
  k_fill
  intro X
  conv =>
    arg 3
    arg 1
    whnf
  k_steps
  (all_goals (try k_data))
  refine' k _ _ _ ?Sz1 ?Xz1 ?E0z1
  case Sz1 =>
    refine ⟨fr_lk (by k_asm) _ ?l9z1, ?n9z1, ?t9z1, ?c9z1, ?g9z1, ?o9z1⟩
    case l9z1 => (repeat (first | exact List.forall_mem_nil _ | (refine List.forall_mem_cons.mpr ⟨?_, ?_⟩; exact rfl)))
    case n9z1 => k_asm
    case t9z1 => (repeat (first | with_reducible assumption | refine Tabs.sub ?_ (by with_reducible assumption) | refine Tabs.of1 ?_ (by with_reducible assumption) (by with_reducible assumption) (by with_reducible assumption) | refine Tabs.of2 ?_ (by with_reducible assumption) (by with_reducible assumption) (by with_reducible assumption) | refine Tabs.sub ?_ (fun p hp => List.mem_cons_of_mem _ hp)))
    case c9z1 => first | ((repeat (first | with_reducible assumption | exact Cells.sub (by with_reducible assumption) (fun p hp => List.mem_cons_of_mem _ hp) | exact Cells.sub (by with_reducible assumption) (fun p hp => List.mem_cons_of_mem _ (List.mem_cons_of_mem _ hp)) | exact Cells.sub (by with_reducible assumption) (fun p hp => List.mem_cons_of_mem _ (List.mem_cons_of_mem _ (List.mem_cons_of_mem _ hp))) | exact Cells.sub (by with_reducible assumption) (fun p hp => List.mem_cons_of_mem _ (List.mem_cons_of_mem _ (List.mem_cons_of_mem _ (List.mem_cons_of_mem _ hp)))) | refine Cells.sub ?_ (by with_reducible assumption) | refine Cells.of1 ?_ (by with_reducible assumption) | refine Cells.sub ?_ (fun p hp => List.mem_cons_of_mem _ hp))); done) | ((rename CellsTo _ _ _ _ => hC8); refine hC8 _ ?_; (repeat (first | exact List.forall_mem_nil _ | (refine List.forall_mem_cons.mpr ⟨?_, ?_⟩; first | (refine .inl ?_; exact rfl) | (refine .inr ⟨by simp, ?_⟩; first | exact Nat.ne_of_lt (by omega) | exact Nat.ne_of_gt (by omega))))))
    case g9z1 => first | assumption | exact G
    case o9z1 => (repeat (first | exact O | refine Eq.trans (by with_reducible assumption) ?_))
  case Xz1 => (repeat (first | exact ext_refl | with_reducible assumption | refine ext_trans ?_ (by with_reducible assumption) | refine ext_cons ?_ | refine ext_trans ?_ (ext_of (by with_reducible assumption)) | refine ext_trans ?_ (ext_of1 (by with_reducible assumption))))
  case E0z1 => ktd_rel

set_option maxRecDepth 100000 in
set_option maxHeartbeats 8000000 in
theorem st2_9 {w : World} {p : Program} {loose : List Str} {mean : ExcName → Option Value} {mg mb : Str → Option Value} {h₀ : Heap} {L fa : Addr} {cd : Value} {os0 : OsState} {s : Shared} {Q : Flow → Shared → Prop} {E : Value → Shared → Prop}
    (B : Below callerA h₀ [] h₀) (X : (Mine.hd.heap_1 w.params).In h₀) (T : Top p loose mean mg mb h₀) {nx : List (Addr × Obj)}
    {n : Nat} {tn : Tok} (hn : n = 2 ∨ n = 4) {q : Int} {tq : Tok} (hq : 2 ≤ q) (hqm : q ≤ 4294967297) (hqb : Builtin.Int.intBits q ≤ 100) {r fx ox : Addr} {Fc Oc : List Int} (hr : IsRing w nx r q n) (hf : IsPoly w nx r fx Fc) (hu : IsPoly w nx r ox Oc) (gf : Good q n Fc) (go : Good q n Oc) {NN : Int} {tN : Tok} (hN0 : 0 ≤ NN) (hNq : NN < q) (S : St h₀ L os0 [(Str.ofString "f", .ref fx), (Str.ofString "others", .ref ox), (Str.ofString "norm", .int NN tN)] [(L + 1, some (.int q tq))] nx s)
    (k : ∀ s' nx' tc tr, St h₀ L os0 [(Str.ofString "f", .ref fx), (Str.ofString "others", .ref ox), (Str.ofString "norm", .int NN tN), (Str.ofString "common", .int q tc), (Str.ofString "rest", .int NN tr)] [(L + 1, some (.int q tq))] nx' s' → Ext nx nx' → Q .next s') :
    wpAny (model PySem.Challenge.rw_ay0009_02.row.prog w) (callerA.deeper (envOfC (Str.ofString "law") (lawDef PySem.Challenge.rw_ay0009_02.row.prog).2 L fa cd)) (exec (stm PySem.Challenge.rw_ay0009_02.row.prog 9) (envOfC (Str.ofString "law") (lawDef PySem.Challenge.rw_ay0009_02.row.prog).2 L fa cd)) Q E s := by
  obtain ⟨⟨m0, F⟩, N, ⟨⟨pa, ta, tra⟩, ⟨pc, tc, trc⟩⟩, CL, G, O⟩ := S
  simp only [lk] at F
  have TT : Tabs nx := ⟨⟨_, ta, tra⟩, ⟨_, tc, trc⟩⟩
  obtain ⟨oq9, hcq, hdq⟩ := CL (L + 1, some (.int q tq)) List.mem_cons_self
  dsimp only at hcq hdq
  revert X
  k_fill
  intro X
  conv =>
    arg 3
    arg 1
    whnf
  k_steps
  (all_goals (try k_data))
  refine' k _ _ _ _ ?Sz1 ?Xz1 
  case Sz1 =>
    refine ⟨fr_lk (by k_asm) _ ?l9z1, ?n9z1, ?t9z1, ?c9z1, ?g9z1, ?o9z1⟩
    case l9z1 => (repeat (first | exact List.forall_mem_nil _ | (refine List.forall_mem_cons.mpr ⟨?_, ?_⟩; exact rfl)))
    case n9z1 => k_asm
    case t9z1 => (repeat (first | with_reducible assumption | refine Tabs.sub ?_ (by with_reducible assumption) | refine Tabs.of1 ?_ (by with_reducible assumption) (by with_reducible assumption) (by with_reducible assumption) | refine Tabs.of2 ?_ (by with_reducible assumption) (by with_reducible assumption) (by with_reducible assumption) | refine Tabs.sub ?_ (fun p hp => List.mem_cons_of_mem _ hp)))
    case c9z1 => first | ((repeat (first | with_reducible assumption | exact Cells.sub (by with_reducible assumption) (fun p hp => List.mem_cons_of_mem _ hp) | exact Cells.sub (by with_reducible assumption) (fun p hp => List.mem_cons_of_mem _ (List.mem_cons_of_mem _ hp)) | exact Cells.sub (by with_reducible assumption) (fun p hp => List.mem_cons_of_mem _ (List.mem_cons_of_mem _ (List.mem_cons_of_mem _ hp))) | exact Cells.sub (by with_reducible assumption) (fun p hp => List.mem_cons_of_mem _ (List.mem_cons_of_mem _ (List.mem_cons_of_mem _ (List.mem_cons_of_mem _ hp)))) | refine Cells.sub ?_ (by with_reducible assumption) | refine Cells.of1 ?_ (by with_reducible assumption) | refine Cells.sub ?_ (fun p hp => List.mem_cons_of_mem _ hp))); done) | ((rename CellsTo _ _ _ _ => hC8); refine hC8 _ ?_; (repeat (first | exact List.forall_mem_nil _ | (refine List.forall_mem_cons.mpr ⟨?_, ?_⟩; first | (refine .inl ?_; exact rfl) | (refine .inr ⟨by simp, ?_⟩; first | exact Nat.ne_of_lt (by omega) | exact Nat.ne_of_gt (by omega))))))
    case g9z1 => first | assumption | exact G
    case o9z1 => (repeat (first | exact O | refine Eq.trans (by with_reducible assumption) ?_))
  case Xz1 => (repeat (first | exact ext_refl | with_reducible assumption | refine ext_trans ?_ (by with_reducible assumption) | refine ext_cons ?_ | refine ext_trans ?_ (ext_of (by with_reducible assumption)) | refine ext_trans ?_ (ext_of1 (by with_reducible assumption))))

end
section
local macro_rules | `(tactic| walk_at "exec While Compare cons nil") => `(tactic| (k_here; k_dflt (refine' euclid_while [(Str.ofString "f", _), (Str.ofString "others", _), (Str.ofString "norm", _)] ?F ?N ?hC ?hR ?hb ?h1 ?h0 ?_ ?hE; (case F => k_asm); (case N => k_asm); (case hC => exact rfl); (case hR => exact rfl); (case hb => (refine List.forall_mem_cons.mpr ⟨?_, List.forall_mem_cons.mpr ⟨?_, List.forall_mem_cons.mpr ⟨?_, List.forall_mem_nil _⟩⟩⟩; (with_unfolding_all exact rfl); (with_unfolding_all exact rfl); (with_unfolding_all exact rfl))); (case h1 => omega); (case h0 => assumption); (case hE => passes_own)); k_dflt (simp only [lk, List.cons_append, List.nil_append]); intro c8 r8 tk81 tk82 m8 h8 tk83 hc8 hr8 hi8 F8' N8'; (try dsimp only); (try k_sweep); walk_say "EUCLID"))
local macro_rules | `(tactic| walk_at "WhileStep2 next") => `(tactic| (k_here; k_dflt (refine' euclid_end ?F ?N ?hC ?hR ?hb ?hr ?i; (case F => k_asm); (case N => ((rename News _ _ _ _ => hN6); exact news_sub hN6 (fun _ h => List.mem_cons_of_mem _ h))); (case hC => exact rfl); (case hR => exact rfl); (case hb => (refine List.forall_mem_cons.mpr ⟨?_, List.forall_mem_cons.mpr ⟨?_, List.forall_mem_cons.mpr ⟨?_, List.forall_mem_nil _⟩⟩⟩; (with_unfolding_all exact rfl); (with_unfolding_all exact rfl); (with_unfolding_all exact rfl))); (case hr => assumption); (case i => assumption)); walk_say "EUCLIDEND"))
local macro_rules | `(tactic| walk_at "zz none") => `(tactic| fail)
set_option maxRecDepth 100000 in
set_option maxHeartbeats 8000000 in
theorem st2_10 {w : World} {p : Program} {loose : List Str} {mean : ExcName → Option Value} {mg mb : Str → Option Value} {h₀ : Heap} {L fa : Addr} {cd : Value} {os0 : OsState} {s : Shared} {Q : Flow → Shared → Prop} {E : Value → Shared → Prop}
    (B : Below callerA h₀ [] h₀) (X : (Mine.hd.heap_1 w.params).In h₀) (T : Top p loose mean mg mb h₀) {nx : List (Addr × Obj)}
    (hE9 : PassesOwn (model PySem.Challenge.rw_ay0009_02.row.prog w) (callerA.deeper (envOfC (Str.ofString "law") (lawDef PySem.Challenge.rw_ay0009_02.row.prog).2 L fa cd)) (envOfC (Str.ofString "law") (lawDef PySem.Challenge.rw_ay0009_02.row.prog).2 L fa cd) E) {n : Nat} {tn : Tok} (hn : n = 2 ∨ n = 4) {q : Int} {tq : Tok} (hq : 2 ≤ q) (hqm : q ≤ 4294967297) (hqb : Builtin.Int.intBits q ≤ 100) {r fx ox : Addr} {Fc Oc : List Int} (hr : IsRing w nx r q n) (hf : IsPoly w nx r fx Fc) (hu : IsPoly w nx r ox Oc) (gf : Good q n Fc) (go : Good q n Oc) {NN : Int} {tN tc tr : Tok} (hN0 : 0 ≤ NN) (hNq : NN < q) (S : St h₀ L os0 [(Str.ofString "f", .ref fx), (Str.ofString "others", .ref ox), (Str.ofString "norm", .int NN tN), (Str.ofString "common", .int q tc), (Str.ofString "rest", .int NN tr)] [(L + 1, some (.int q tq))] nx s)
    (k : ∀ s' nx' (cc : Int) tc, St h₀ L os0 [(Str.ofString "f", .ref fx), (Str.ofString "others", .ref ox), (Str.ofString "norm", .int NN tN), (Str.ofString "common", .int cc tc)] [(L + 1, some (.int q tq))] nx' s' → Ext nx nx' → 1 ≤ cc → EucInv q NN cc 0 → Q .next s') :
    wpAny (model PySem.Challenge.rw_ay0009_02.row.prog w) (callerA.deeper (envOfC (Str.ofString "law") (lawDef PySem.Challenge.rw_ay0009_02.row.prog).2 L fa cd)) (exec (stm PySem.Challenge.rw_ay0009_02.row.prog 10) (envOfC (Str.ofString "law") (lawDef PySem.Challenge.rw_ay0009_02.row.prog).2 L fa cd)) Q E s := by
  obtain ⟨⟨m0, F⟩, N, ⟨⟨pa, ta, tra⟩, ⟨pc, tc, trc⟩⟩, CL, G, O⟩ := S
  simp only [lk] at F
  have TT : Tabs nx := ⟨⟨_, ta, tra⟩, ⟨_, tc, trc⟩⟩
  obtain ⟨oq9, hcq, hdq⟩ := CL (L + 1, some (.int q tq)) List.mem_cons_self
  dsimp only at hcq hdq
  revert X
  k_fill
  intro X
  conv =>
    arg 3
    arg 1
    whnf
  k_steps
  (all_goals (try k_data))
  refine' k _ _ _ _ ?Sz1 ?Xz1 ?E0z1 ?E1z1
  case Sz1 =>
    refine ⟨fr_lk (by k_asm) _ ?l9z1, ?n9z1, ?t9z1, ?c9z1, ?g9z1, ?o9z1⟩
    case l9z1 => (repeat (first | exact List.forall_mem_nil _ | (refine List.forall_mem_cons.mpr ⟨?_, ?_⟩; exact rfl)))
    case n9z1 => k_asm
    case t9z1 => (repeat (first | with_reducible assumption | refine Tabs.sub ?_ (by with_reducible assumption) | refine Tabs.of1 ?_ (by with_reducible assumption) (by with_reducible assumption) (by with_reducible assumption) | refine Tabs.of2 ?_ (by with_reducible assumption) (by with_reducible assumption) (by with_reducible assumption) | refine Tabs.sub ?_ (fun p hp => List.mem_cons_of_mem _ hp)))
    case c9z1 => first | ((repeat (first | with_reducible assumption | exact Cells.sub (by with_reducible assumption) (fun p hp => List.mem_cons_of_mem _ hp) | exact Cells.sub (by with_reducible assumption) (fun p hp => List.mem_cons_of_mem _ (List.mem_cons_of_mem _ hp)) | exact Cells.sub (by with_reducible assumption) (fun p hp => List.mem_cons_of_mem _ (List.mem_cons_of_mem _ (List.mem_cons_of_mem _ hp))) | exact Cells.sub (by with_reducible assumption) (fun p hp => List.mem_cons_of_mem _ (List.mem_cons_of_mem _ (List.mem_cons_of_mem _ (List.mem_cons_of_mem _ hp)))) | refine Cells.sub ?_ (by with_reducible assumption) | refine Cells.of1 ?_ (by with_reducible assumption) | refine Cells.sub ?_ (fun p hp => List.mem_cons_of_mem _ hp))); done) | ((rename CellsTo _ _ _ _ => hC8); refine hC8 _ ?_; (repeat (first | exact List.forall_mem_nil _ | (refine List.forall_mem_cons.mpr ⟨?_, ?_⟩; first | (refine .inl ?_; exact rfl) | (refine .inr ⟨by simp, ?_⟩; first | exact Nat.ne_of_lt (by omega) | exact Nat.ne_of_gt (by omega))))))
    case g9z1 => first | assumption | exact G
    case o9z1 => (repeat (first | exact O | refine Eq.trans (by with_reducible assumption) ?_))
  case Xz1 => (repeat (first | exact ext_refl | with_reducible assumption | refine ext_trans ?_ (by with_reducible assumption) | refine ext_cons ?_ | refine ext_trans ?_ (ext_of (by with_reducible assumption)) | refine ext_trans ?_ (ext_of1 (by with_reducible assumption))))
  case E0z1 => assumption
  case E1z1 => exact EucInv.at0 (by assumption) (by assumption) (by assumption)

end
local macro_rules | `(tactic| walk_at "call ref") => `(tactic| (k_here; kaf_suf; (with_reducible show wpAny _ _ (call (Value.ref _) [Value.ref _]) _ _ _); refine wpAny_call ?_; k_dflt (refine' kco_code (C := 66) (f := 56) (K := Mine.hd.heap_1 _) ?kX ?kI ?kD ?k1 ?k2 ?k3 ?_; kaf_pre); k_dflt (refine' G_rcall ?hA ?hH ?hd ?hu ?B ?F ?X ?N ?T ?hf ?hke ?hn ?hr ?hl ?hcs ?_; kat_tups; (case hn => assumption); (case hr => ktd_rel); (case hl => kwd_rel); (case hcs => kst_p); k_whole); kas_types; walk_say "USED G_rcall"))
section
local macro_rules | `(tactic| walk_at "call ref") => `(tactic| (k_here; (with_reducible show wpAny _ _ (call (Value.ref 129) _ _) _ _ _); kaf_suf; (with_reducible show wpAny _ _ (call (Value.ref 129) [Value.ref _, Value.ref _]) _ _ _); refine wpAny_call ?_; k_dflt (refine' G_school ?hA ?hH ?hd ?hu ?B ?F ?X ?N ?T ?hf ?hke ?hn ?hr ?hx ?hy ?hq ?hqb ?hcs ?hds ?_; kat_tups; (case hn => assumption); (case hr => ktd_rel); (case hx => tb_start); (case hy => tb_start); (case hq => assumption); (case hqb => assumption); (case hcs => assumption); (case hds => assumption); k_whole); intro l9 nx9 h9 tk9 F9 N9 hk9 hi9; (have hi9' := hi9.out; obtain ⟨vs9, n9, hx91, hx92⟩ := hi9'); (try dsimp only); (try k_sweep); walk_say "USED G_school"))
set_option maxRecDepth 100000 in
set_option maxHeartbeats 8000000 in
theorem G_mul {A : Around} {env : Env} {outer : List Env} {A₀ : Around} {base h₀ : Heap} {L : Addr} {m : Str → Option Value} {news : List (Addr × Obj)} {s : Shared}
    {w : World} {p : Program} {loose : List Str} {mean : ExcName → Option Value} {mg mb : Str → Option Value} {R : Result → Shared → Prop}
    (hA : A.frames = some (env :: outer)) (hH : A.handled = none) (hd : A.depth ≤ 450) (hu : A.units ≤ 450)
    (B : Below A₀ base outer h₀) (F : Fr h₀ L s.heap m) (X : (Mine.hd.heap_1 w.params).In h₀) (N : News h₀ L s.heap news) (T : Top p loose mean mg mb h₀)
    (hf : env.frame = some L) (hke : env.scope.kind = .function)
    {n : Nat} (hn : n = 2 ∨ n = 4)
    {x y r : Addr} {q : Int} {cs ds : List Int} (hr : IsRing w news r q n) (hx : IsPoly w news r x cs) (hy : IsPoly w news r y ds) (hq : 2 ≤ q) (hqb : Builtin.Int.intBits q ≤ 100) (hcs : Good q n cs) (hds : Good q n ds)
    (ret : ∀ x' nx h' tk', Fr h₀ L h' m → News h₀ L h' nx → (∀ p ∈ news, p ∈ nx) → IsPoly w nx r x' (mulL q cs ds) → R (.ok (.ret (.ref x'))) { s with heap := h', toks := tk' }) :
    codeAny (model PySem.Challenge.rw_ay0009_02.row.prog w) A (.call (.ref 191) ⟨[.ref x, .ref y], []⟩) R s := by
  have hr' := hr.out
  obtain ⟨dr, t1, t2, u1, u2, hr1, hr2⟩ := hr'
  have hhx := hx.at_
  obtain ⟨dx, lx, t3x, t4x, vx, nx, hx1, hx2, hx3, hx4⟩ := hhx
  have hhy := hy.at_
  obtain ⟨dy, ly, t3y, t4y, vy, ny, hy1, hy2, hy3, hy4⟩ := hhy
  have hml := mulL_len (q := q) hn hcs.len hds.len

  refine codeAny_ar hA hH hd hu ?_
  revert X
  k_fill
  intro X
  k_dflt (refine' code_defC ?k1 ?k2 ?k3 ?k4 ?k5 ?kA ?kF ?kK ?k6 ?k7 ?k8 ?k9 ?kB ?kD ?_ ?c2 ?c3 ?c4; (case kA => exact rfl); (case kF => assumption); (case kK => assumption); (case k1 => k_asm); (case k2 => k_asm); (case k3 => k_asm); (case k4 => k_asm); (case k5 => k_asm); (case k6 => k_is); (case k7 => k_is); (case k8 => k_room); (case k9 => first | exact BindsTo.of_eq rfl | exact binds_K (by k_in) rfl (by k_is) rfl rfl rfl | fail "no rule for these arguments"); (case kB => exact rfl); (case kD => decide +kernel); (case c2 => exact rfl); (case c3 => exact rfl); (case c4 => exact rfl); k_whole; intro g' L' h' tk' cells' FG' F' N' Y' B' X' T' l1; (try k_lt l1); k_cells Y'; (try simp only [List.cons_append, List.nil_append] at N'); (try dsimp only); (try k_lift B'); (try k_fold))
  k_steps
  (all_goals (try k_data))
  refine' ret _ _ _ _ (by k_asm) (by k_asm) ?zs ?zp
  case zs => (repeat (first | with_reducible assumption | exact sub_refl | exact fun _ h => h | refine sub_skip ?_ | refine sub_trans2 (by with_reducible assumption) ?_))
  case zp => tb_start

end
section
local macro_rules | `(tactic| walk_at "exec Assign cons ListComp") => `(tactic| (k_here; k_dflt (refine LCg.Assign_ListComp_U (F₀ := by k_asm) (by rfl) (by with_unfolding_all rfl) (by with_unfolding_all rfl) (by decide) (by rfl) (by decide) (by rfl) (by rfl) (by rfl) ?_)))
local macro_rules | `(tactic| walk_at "zz none") => `(tactic| fail)
set_option maxRecDepth 100000 in
set_option maxHeartbeats 8000000 in
theorem G_mulI {A : Around} {env : Env} {outer : List Env} {A₀ : Around} {base h₀ : Heap} {L : Addr} {m : Str → Option Value} {news : List (Addr × Obj)} {s : Shared}
    {w : World} {p : Program} {loose : List Str} {mean : ExcName → Option Value} {mg mb : Str → Option Value} {R : Result → Shared → Prop}
    (hA : A.frames = some (env :: outer)) (hH : A.handled = none) (hd : A.depth ≤ 450) (hu : A.units ≤ 450)
    (B : Below A₀ base outer h₀) (F : Fr h₀ L s.heap m) (X : (Mine.hd.heap_1 w.params).In h₀) (N : News h₀ L s.heap news) (T : Top p loose mean mg mb h₀)
    (hf : env.frame = some L) (hke : env.scope.kind = .function)
    {n : Nat} (hn : n = 2 ∨ n = 4)
    {x r : Addr} {q v : Int} {u : Tok} {cs : List Int} (hr : IsRing w news r q n) (hx : IsPoly w news r x cs) (hq : 2 ≤ q) (hqb : Builtin.Int.intBits q ≤ 100) (hcs : Good q n cs) (hvb : Builtin.Int.intBits v ≤ 64)
    (ret : ∀ x' nx h' tk', Fr h₀ L h' m → News h₀ L h' nx → (∀ p ∈ news, p ∈ nx) → IsPoly w nx r x' (mulI q v cs) → R (.ok (.ret (.ref x'))) { s with heap := h', toks := tk' }) :
    codeAny (model PySem.Challenge.rw_ay0009_02.row.prog w) A (.call (.ref 191) ⟨[.ref x, .int v u], []⟩) R s := by
  have hhx := hx.at_
  obtain ⟨dx, lx, t3x, t4x, vx, nx, hx1, hx2, hx3, hx4⟩ := hhx
  replace N := news_cons hx3 N
  have hcl := hcs.len
  have hszx : vx.length ≤ sizeLine := by
    have h1 := hx4.length
    have h2 := hcs.len
    exact Nat.le_trans (show vx.length ≤ 4 by omega) (Nat.le_of_ble_eq_true rfl)
  have hr' := hr.out
  obtain ⟨dr, t1, t2, u1, u2, hr1, hr2⟩ := hr'

  refine codeAny_ar hA hH hd hu ?_
  revert X
  k_fill
  intro X
  k_dflt (refine' code_defC ?k1 ?k2 ?k3 ?k4 ?k5 ?kA ?kF ?kK ?k6 ?k7 ?k8 ?k9 ?kB ?kD ?_ ?c2 ?c3 ?c4; (case kA => exact rfl); (case kF => assumption); (case kK => assumption); (case k1 => k_asm); (case k2 => k_asm); (case k3 => k_asm); (case k4 => k_asm); (case k5 => k_asm); (case k6 => k_is); (case k7 => k_is); (case k8 => k_room); (case k9 => first | exact BindsTo.of_eq rfl | exact binds_K (by k_in) rfl (by k_is) rfl rfl rfl | fail "no rule for these arguments"); (case kB => exact rfl); (case kD => decide +kernel); (case c2 => exact rfl); (case c3 => exact rfl); (case c4 => exact rfl); k_whole; intro g' L' h' tk' cells' FG' F' N' Y' B' X' T' l1; (try k_lt l1); k_cells Y'; (try simp only [List.cons_append, List.nil_append] at N'); (try dsimp only); (try k_lift B'); (try k_fold))
  k_steps
  (all_goals (try k_data))
  refine' ret _ _ _ _ (by k_asm) (by k_asm) ?zs ?zp
  case zs => (repeat (first | with_reducible assumption | exact sub_refl | exact fun _ h => h | refine sub_skip ?_ | refine sub_trans2 (by with_reducible assumption) ?_))
  case zp => exact IsPoly.cast (by tb_start) (mulI_fmod (by assumption))

end
section
local macro_rules | `(tactic| walk_at "subscriptTail Name Name ref int") => `(tactic| (k_here; k_dflt (refine' my_sub ?N ?m (by decide) (by decide) (by rfl) ?_ ?s; (case N => k_asm); (case m => k_mem); (case s => with_unfolding_all rfl)); (try dsimp only); walk_say "GETITEM"))
local macro_rules | `(tactic| walk_at "subscriptTail Attribute Name ref int") => `(tactic| (k_here; k_dflt (refine' my_sub ?N ?m (by decide) (by decide) (by rfl) ?_ ?s; (case N => k_asm); (case m => k_mem); (case s => with_unfolding_all rfl)); (try dsimp only); walk_say "GETITEM"))
local macro_rules | `(tactic| walk_at "zz none") => `(tactic| fail)
set_option maxRecDepth 100000 in
set_option maxHeartbeats 8000000 in
theorem G_getitem {A : Around} {env : Env} {outer : List Env} {A₀ : Around} {base h₀ : Heap} {L : Addr} {m : Str → Option Value} {news : List (Addr × Obj)} {s : Shared}
    {w : World} {p : Program} {loose : List Str} {mean : ExcName → Option Value} {mg mb : Str → Option Value} {R : Result → Shared → Prop}
    (hA : A.frames = some (env :: outer)) (hH : A.handled = none) (hd : A.depth ≤ 450) (hu : A.units ≤ 450)
    (B : Below A₀ base outer h₀) (F : Fr h₀ L s.heap m) (X : (Mine.hd.heap_1 w.params).In h₀) (N : News h₀ L s.heap news) (T : Top p loose mean mg mb h₀)
    (hf : env.frame = some L) (hke : env.scope.kind = .function)
    {n : Nat} (hn : n = 2 ∨ n = 4)
    {x r : Addr} {cs : List Int} {u : Tok} (hx : IsPoly w news r x cs) (hlen : cs.length = n)
    (ret : ∀ h' tk' tk, Fr h₀ L h' m → News h₀ L h' news → R (.ok (.ret (.int (cs.getD 0 0) tk))) { s with heap := h', toks := tk' }) :
    codeAny (model PySem.Challenge.rw_ay0009_02.row.prog w) A (.call (.ref 226) ⟨[.ref x, .int 0 u], []⟩) R s := by
  obtain ⟨c0, cr, e⟩ := ne_cons hn hlen
  subst e
  have hhx := hx.at_
  obtain ⟨dx, lx, t3x, t4x, vx, nx, hx1, hx2, hx3, hx4⟩ := hhx
  obtain ⟨px0, vr, e, hxr⟩ := ints_cons hx4
  subst e
  replace N := news_cons hx3 N

  refine codeAny_ar hA hH hd hu ?_
  revert X
  k_fill
  intro X
  k_dflt (refine' code_def ?k1 ?k2 ?k3 ?k4 ?k5 ?kA ?kF ?kK ?k6 ?k7 ?k8 ?k9 ?kB ?_ ?c2 ?c3 ?c4 ?c5; (case kA => exact rfl); (case kF => assumption); (case kK => assumption); (case k1 => k_asm); (case k2 => k_asm); (case k3 => k_asm); (case k4 => k_asm); (case k5 => k_asm); (case k6 => k_is); (case k7 => k_is); (case k8 => k_room); (case k9 => first | exact BindsTo.of_eq rfl | exact binds_K (by k_in) rfl (by k_is) rfl rfl rfl | fail "no rule for these arguments"); (case c5 => decide); (case kB => exact locs rfl); (case c2 => exact rfl); (case c3 => exact rfl); (case c4 => exact rfl); k_whole; intro g' L' h' FG' F' N' B' X' T'; (try dsimp only); (try k_lift B'); (try k_fold))
  k_steps
  (all_goals (try k_data))
  refine ret _ _ _ (by k_asm) (news_sub (by k_asm) (by (repeat (first | exact sub_refl | exact fun _ h => h | refine sub_skip ?_))))

end
section
local macro_rules | `(tactic| walk_at "exec Assign cons ListComp") => `(tactic| (k_here; k_dflt (refine Assign_ListComp_Z (F₀ := by k_asm) (by rfl) (by with_unfolding_all rfl) (by with_unfolding_all rfl) (by decide) (by rfl) (by decide) (by rfl) (by rfl) (by decide) (by rfl) (by rfl) ?_); walk_say "ZIPCOMP"))
local macro_rules | `(tactic| walk_at "call type:zip") => `(tactic| (k_here; (with_reducible show wpAny _ _ (call (Value.type _) [Value.ref _, Value.ref _]) (SrcZ _ _ _ _ _ _ _ _ _ _ _ _ _ _) _ _); k_dflt (refine' zip_srcZ (fun a b => Int.fmod (a + b) _) ?hh ?F ?N ?m1 ?m2 ?i1 ?i2 ?hl ?hz ?_ ?_; (case hh => exact rfl); (case F => k_asm); (case N => k_asm); (case m1 => k_mem); (case m2 => k_mem); (case i1 => assumption); (case i2 => assumption); (case hl => assumption); (case hz => assumption)); (first | (intro a1 b1 t1 u1 nw1 C1 oC1 m21 h1 tk1 E1 hNs1 hx1 hx21 hC1 hsub1 F1 N1) | skip); (try dsimp only); walk_say "ZIP"))
local macro_rules | `(tactic| walk_at "ZEnd") => `(tactic| (k_dflt (refine' ⟨_, _, rfl, ?F, ?N, _, ?e⟩; (case F => k_asm); (case N => k_asm); (case e => exact rfl)); walk_say "ZEND"))
local macro_rules | `(tactic| walk_at "zz none") => `(tactic| fail)
set_option maxRecDepth 100000 in
set_option maxHeartbeats 8000000 in
theorem G_addP {A : Around} {env : Env} {outer : List Env} {A₀ : Around} {base h₀ : Heap} {L : Addr} {m : Str → Option Value} {news : List (Addr × Obj)} {s : Shared}
    {w : World} {p : Program} {loose : List Str} {mean : ExcName → Option Value} {mg mb : Str → Option Value} {R : Result → Shared → Prop}
    (hA : A.frames = some (env :: outer)) (hH : A.handled = none) (hd : A.depth ≤ 450) (hu : A.units ≤ 450)
    (B : Below A₀ base outer h₀) (F : Fr h₀ L s.heap m) (X : (Mine.hd.heap_1 w.params).In h₀) (N : News h₀ L s.heap news) (T : Top p loose mean mg mb h₀)
    (hf : env.frame = some L) (hke : env.scope.kind = .function)
    {n : Nat} (hn : n = 2 ∨ n = 4)
    {x y r : Addr} {q : Int} {cs ds : List Int} (hr : IsRing w news r q n) (hx : IsPoly w news r x cs) (hy : IsPoly w news r y ds) (hq : 2 ≤ q) (hqb : Builtin.Int.intBits q ≤ 100) (hcs : Good q n cs) (hds : Good q n ds)
    (ret : ∀ x' nx h' tk', Fr h₀ L h' m → News h₀ L h' nx → (∀ p ∈ news, p ∈ nx) → IsPoly w nx r x' (addL q cs ds) → R (.ok (.ret (.ref x'))) { s with heap := h', toks := tk' }) :
    codeAny (model PySem.Challenge.rw_ay0009_02.row.prog w) A (.call (.ref 146) ⟨[.ref x, .ref y], []⟩) R s := by
  have hhx := hx.at_
  obtain ⟨dx, lx, t3x, t4x, vx, nx, hx1, hx2, hx3, hx4⟩ := hhx
  have hhy := hy.at_
  obtain ⟨dy, ly, t3y, t4y, vy, ny, hy1, hy2, hy3, hy4⟩ := hhy
  have hr' := hr.out
  obtain ⟨dr, t1, t2, u1, u2, hr1, hr2⟩ := hr'
  have hl9 : cs.length = ds.length := hcs.len.trans hds.len.symm
  have hsz9 : cs.length ≤ sizeLine := by
    have h2 := hcs.len
    exact Nat.le_trans (show cs.length ≤ 4 by omega) (Nat.le_of_ble_eq_true rfl)
  have hzl : (List.zipWith (fun a b => Int.fmod (a + b) q) cs ds).length = n := by
    have h2 := hcs.len
    have h3 := hds.len
    rw [List.length_zipWith]
    omega

  refine codeAny_ar hA hH hd hu ?_
  revert X
  k_fill
  intro X
  k_dflt (refine' code_def ?k1 ?k2 ?k3 ?k4 ?k5 ?kA ?kF ?kK ?k6 ?k7 ?k8 ?k9 ?kB ?_ ?c2 ?c3 ?c4 ?c5; (case kA => exact rfl); (case kF => assumption); (case kK => assumption); (case k1 => k_asm); (case k2 => k_asm); (case k3 => k_asm); (case k4 => k_asm); (case k5 => k_asm); (case k6 => k_is); (case k7 => k_is); (case k8 => k_room); (case k9 => first | exact BindsTo.of_eq rfl | exact binds_K (by k_in) rfl (by k_is) rfl rfl rfl | fail "no rule for these arguments"); (case c5 => decide); (case kB => exact locs rfl); (case c2 => exact rfl); (case c3 => exact rfl); (case c4 => exact rfl); k_whole; intro g' L' h' FG' F' N' B' X' T'; (try dsimp only); (try k_lift B'); (try k_fold))
  k_steps
  (all_goals (try k_data))
  refine' ret _ _ _ _ (by k_asm) (by k_asm) ?zs ?zp
  case zs => (repeat (first | with_reducible assumption | exact sub_refl | exact fun _ h => h | refine sub_skip ?_ | refine sub_trans2 (by with_reducible assumption) ?_))
  case zp => exact IsPoly.cast (by tb_start) (addL_fmod (by assumption))

end
section
set_option maxRecDepth 100000 in
set_option maxHeartbeats 8000000 in
theorem G_eqP {A : Around} {env : Env} {outer : List Env} {A₀ : Around} {base h₀ : Heap} {L : Addr} {m : Str → Option Value} {news : List (Addr × Obj)} {s : Shared}
    {w : World} {p : Program} {loose : List Str} {mean : ExcName → Option Value} {mg mb : Str → Option Value} {R : Result → Shared → Prop}
    (hA : A.frames = some (env :: outer)) (hH : A.handled = none) (hd : A.depth ≤ 450) (hu : A.units ≤ 450)
    (B : Below A₀ base outer h₀) (F : Fr h₀ L s.heap m) (X : (Mine.hd.heap_1 w.params).In h₀) (N : News h₀ L s.heap news) (T : Top p loose mean mg mb h₀)
    (hf : env.frame = some L) (hke : env.scope.kind = .function)
    {n : Nat} (hn : n = 2 ∨ n = 4)
    {x y r : Addr} {q : Int} {cs ds : List Int} (hr : IsRing w news r q n) (hx : IsPoly w news r x cs) (hy : IsPoly w news r y ds) (hq : 2 ≤ q) (hqb : Builtin.Int.intBits q ≤ 100) (hcs : Good q n cs) (hds : Good q n ds)
    (ret : ∀ h' tk', Fr h₀ L h' m → News h₀ L h' news → R (.ok (.ret (.bool (decide (cs = ds))))) { s with heap := h', toks := tk' }) :
    codeAny (model PySem.Challenge.rw_ay0009_02.row.prog w) A (.call (.ref 219) ⟨[.ref x, .ref y], []⟩) R s := by
  have hhx := hx.at_
  obtain ⟨dx, lx, t3x, t4x, vx, nx, hx1, hx2, hx3, hx4⟩ := hhx
  replace N := news_cons hx3 N
  have hcl := hcs.len
  have hszx : vx.length ≤ sizeLine := by
    have h1 := hx4.length
    have h2 := hcs.len
    exact Nat.le_trans (show vx.length ≤ 4 by omega) (Nat.le_of_ble_eq_true rfl)
  have hhy := hy.at_
  obtain ⟨dy, ly, t3y, t4y, vy, ny, hy1, hy2, hy3, hy4⟩ := hhy
  have hr' := hr.out
  obtain ⟨dr, t1, t2, u1, u2, hr1, hr2⟩ := hr'

  refine codeAny_ar hA hH hd hu ?_
  revert X
  k_fill
  intro X
  k_dflt (refine' code_def ?k1 ?k2 ?k3 ?k4 ?k5 ?kA ?kF ?kK ?k6 ?k7 ?k8 ?k9 ?kB ?_ ?c2 ?c3 ?c4 ?c5; (case kA => exact rfl); (case kF => assumption); (case kK => assumption); (case k1 => k_asm); (case k2 => k_asm); (case k3 => k_asm); (case k4 => k_asm); (case k5 => k_asm); (case k6 => k_is); (case k7 => k_is); (case k8 => k_room); (case k9 => first | exact BindsTo.of_eq rfl | exact binds_K (by k_in) rfl (by k_is) rfl rfl rfl | fail "no rule for these arguments"); (case c5 => decide); (case kB => exact locs rfl); (case c2 => exact rfl); (case c3 => exact rfl); (case c4 => exact rfl); k_whole; intro g' L' h' FG' F' N' B' X' T'; (try dsimp only); (try k_lift B'); (try k_fold))
  k_steps
  (all_goals (try k_data))
  refine' ret _ _ (by k_asm) (news_sub (by k_asm) (by (repeat (first | exact sub_refl | exact fun _ h => h | refine sub_skip ?_))))

end
local macro_rules | `(tactic| walk_at "call ref") => `(tactic| (k_here; (with_reducible show wpAny _ _ (call (Value.ref 98) _ _) _ _ _); kaf_suf; (with_reducible show wpAny _ _ (call (Value.ref 98) [Value.ref _]) _ _ _); refine wpAny_call ?_; k_dflt (refine' G_isc ?hA ?hH ?hd ?hu ?B ?F ?X ?N ?T ?hf ?hke ?hn ?hx ?hlen ?ht ?htr ?hG ?_; kat_tups; (case hn => assumption); (case hx => tb_start); (case hlen => exact Good.len (by tb_rel)); (case ht => k_mem); (case htr => k_asm); (case hG => k_asm); k_whole); intro nx9 s9 ps9 F9 N9 ht9 htr9 hk9 hG9 hos9; kpc_turns; walk_say "USED G_isc"))
section
set_option maxRecDepth 100000 in
set_option maxHeartbeats 8000000 in
theorem G_eqI {A : Around} {env : Env} {outer : List Env} {A₀ : Around} {base h₀ : Heap} {L : Addr} {m : Str → Option Value} {news : List (Addr × Obj)} {s : Shared}
    {w : World} {p : Program} {loose : List Str} {mean : ExcName → Option Value} {mg mb : Str → Option Value} {R : Result → Shared → Prop}
    (hA : A.frames = some (env :: outer)) (hH : A.handled = none) (hd : A.depth ≤ 420) (hu : A.units ≤ 420)
    (B : Below A₀ base outer h₀) (F : Fr h₀ L s.heap m) (X : (Mine.hd.heap_1 w.params).In h₀) (N : News h₀ L s.heap news) (T : Top p loose mean mg mb h₀)
    (hf : env.frame = some L) (hke : env.scope.kind = .function)
    {n : Nat} (hn : n = 2 ∨ n = 4)
    {x r : Addr} {q v : Int} {u : Tok} {cs : List Int} {ps : Array Value} (hr : IsRing w news r q n) (hx : IsPoly w news r x cs) (hq : 2 ≤ q) (hqb : Builtin.Int.intBits q ≤ 100) (hcs : Good q n cs) (hvb : Builtin.Int.intBits v ≤ 100) (ht : (93, tabObj ps) ∈ news) (htr : TriplesOk ps.toList) (hG : AllBare s.gens)
    (ret : ∀ nx s' ps', Fr h₀ L s'.heap m → News h₀ L s'.heap nx → (93, tabObj ps') ∈ nx → TriplesOk ps'.toList → (∀ p ∈ news, OffT 93 p → p ∈ nx) → AllBare s'.gens → s'.os = s.os → R (.ok (.ret (.bool (eqI q v cs)))) s') :
    codeAny (model PySem.Challenge.rw_ay0009_02.row.prog w) A (.call (.ref 219) ⟨[.ref x, .int v u], []⟩) R s := by
  obtain ⟨c0, cr, e⟩ := ne_cons hn hcs.len
  subst e
  have hhx := hx.at_
  obtain ⟨dx, lx, t3x, t4x, vx, nx, hx1, hx2, hx3, hx4⟩ := hhx
  obtain ⟨px0, vr, e, hxr⟩ := ints_cons hx4
  subst e
  replace N := news_cons hx3 N
  have hba0 := bits_red hqb (hcs.red c0 (by simp))
  have hza0 := hcs.red c0 (by simp)
  have hr' := hr.out
  obtain ⟨dr, t1, t2, u1, u2, hr1, hr2⟩ := hr'

  refine codeAny_ar hA hH hd hu ?_
  revert X
  k_fill
  intro X
  k_dflt (refine' code_def ?k1 ?k2 ?k3 ?k4 ?k5 ?kA ?kF ?kK ?k6 ?k7 ?k8 ?k9 ?kB ?_ ?c2 ?c3 ?c4 ?c5; (case kA => exact rfl); (case kF => assumption); (case kK => assumption); (case k1 => k_asm); (case k2 => k_asm); (case k3 => k_asm); (case k4 => k_asm); (case k5 => k_asm); (case k6 => k_is); (case k7 => k_is); (case k8 => k_room); (case k9 => first | exact BindsTo.of_eq rfl | exact binds_K (by k_in) rfl (by k_is) rfl rfl rfl | fail "no rule for these arguments"); (case c5 => decide); (case kB => exact locs rfl); (case c2 => exact rfl); (case c3 => exact rfl); (case c4 => exact rfl); k_whole; intro g' L' h' FG' F' N' B' X' T'; (try dsimp only); (try k_lift B'); (try k_fold))
  k_steps
  (all_goals (try k_data))
  all_goals (first | have e9 : eqI q v (c0 :: cr) = true := eqI_tt (by assumption) (by assumption) (by omega) | have e9 : eqI q v (c0 :: cr) = false := eqI_tf (by assumption) (by omega) | have e9 : eqI q v (c0 :: cr) = false := eqI_ff (by assumption))
  all_goals (simp only [e9] at ret)
  all_goals (refine' ret _ _ _ (by k_asm) (by k_asm) (by k_asm) (by k_asm) ?_ (by k_asm) ?_)
  all_goals first | assumption | (intro p hp ho; exact (by assumption : ∀ p ∈ _, OffT _ p → p ∈ _) _ (List.mem_cons_of_mem _ hp) ho)

end
section
local macro_rules | `(tactic| walk_at "RangeRest") => `(tactic| (with_unfolding_all refine RangeRest.succ (fun t' h' tk' F' N' => ?_); (simp only [Int.zero_add, Int.cast_ofNat_Int, Nat.reduceAdd, Int.reduceAdd, Int.reduceSub] at F' N'); walk_say "TURN"))
local macro_rules | `(tactic| walk_at "binaryOp Mod int int") => `(tactic| (k_here; (with_reducible first | refine mod_ix ix0 (by decide) ?_ | refine mod_ix (ix21 (by assumption)) (by decide) ?_ | refine mod_ix (ix41 (by assumption)) (by decide) ?_ | refine mod_ix (ix42 (by assumption) (by decide)) (by decide) ?_ | refine mod_ix (ix431 (by assumption)) (by decide) ?_ | refine mod_ix (ix433 (by assumption)) (by decide) ?_); (try dsimp only); walk_say "INDEX"))
local macro_rules | `(tactic| walk_at "binaryOp Pow int int") => `(tactic| (k_here; with_reducible refine pow_sg (by decide) (by decide) (by decide) (by assumption) (by assumption) ?_; (try dsimp only); walk_say "POW"))
local macro_rules | `(tactic| walk_at "binaryOp Mult int int") => `(tactic| (k_here; with_reducible refine mul_sg ?_; (try dsimp only); walk_say "MUL"))
local macro_rules | `(tactic| walk_at "exec For Name Call cons nil") => `(tactic| (k_here; ((rename IntsAre _ (List.map (fun _ => (0:Int)) (rangeKs 0 _)) => hI9); (first | (have hI7 := ints2 (x := 0) (y := 0) hI9; clear hI9; (obtain ⟨t70, t71, e7⟩ := hI7); subst e7) | (have hI7 := ints4 (x := 0) (y := 0) (z := 0) (u := 0) hI9; clear hI9; (obtain ⟨t70, t71, t72, t73, e7⟩ := hI7); subst e7)); (rename News _ _ _ _ => hN7); k_dflt (dsimp only [LCg.lst] at hN7)); (rename Fr _ _ _ _ => lF'); (with_unfolding_all refine' For_invVF lF' ?k1 ?k2 ?_; (case k1 => exact rfl); (case k2 => exact rfl); k_whole); walk_say "FOR"))
set_option maxRecDepth 100000 in
set_option maxHeartbeats 8000000 in
theorem C_turned21 {A : Around} {env : Env} {outer : List Env} {A₀ : Around} {base h₀ : Heap} {L : Addr} {m : Str → Option Value} {news : List (Addr × Obj)} {s : Shared}
    {w : World} {p : Program} {loose : List Str} {mean : ExcName → Option Value} {mg mb : Str → Option Value} {R : Result → Shared → Prop}
    (hA : A.frames = some (env :: outer)) (hH : A.handled = none) (hd : A.depth ≤ 500) (hu : A.units ≤ 500)
    (B : Below A₀ base outer h₀) (F : Fr h₀ L s.heap m) (X : (Mine.hd.heap_1 w.params).In h₀) (N : News h₀ L s.heap news) (T : Top p loose mean mg mb h₀)
    (hf : env.frame = some L) (hke : env.scope.kind = .function)
    {x r : Addr} {q k : Int} {u : Tok} {a b : Int} (hn : 2 = 2 ∨ 2 = 4) (hr : IsRing w news r q 2) (hx : IsPoly w news r x [a, b]) (hq : 2 ≤ q) (hqb : Builtin.Int.intBits q ≤ 100) (hcs : Good q 2 [a, b]) (hk : 2 ≤ k) (hk8 : k ≤ 8380417) (hkm : k.fmod 2 = 1)
    (ret : ∀ x' nx h' tk', Fr h₀ L h' m → News h₀ L h' nx → (∀ p ∈ news, p ∈ nx) → IsPoly w nx r x' ([sgnK q k 2 0 a, sgnK q k 2 1 b]) → R (.ok (.ret (.ref x'))) { s with heap := h', toks := tk' }) :
    codeAny (model PySem.Challenge.rw_ay0009_02.row.prog w) A (.call (.ref 243) ⟨[.ref x, .int k u], []⟩) R s := by
  have hhx := hx.at_
  obtain ⟨dx, lx, t3x, t4x, vx, nx, hx1, hx2, hx3, hx4⟩ := hhx
  obtain ⟨pa, pb, e9⟩ := ints2 hx4
  subst e9
  replace N := news_cons hx3 N
  have hr' := hr.out
  obtain ⟨dr, t1, t2, u1, u2, hr1, hr2⟩ := hr'

  refine codeAny_ar hA hH hd hu ?_
  revert X
  k_fill
  intro X
  k_dflt (refine' code_def ?k1 ?k2 ?k3 ?k4 ?k5 ?kA ?kF ?kK ?k6 ?k7 ?k8 ?k9 ?kB ?_ ?c2 ?c3 ?c4 ?c5; (case kA => exact rfl); (case kF => assumption); (case kK => assumption); (case k1 => k_asm); (case k2 => k_asm); (case k3 => k_asm); (case k4 => k_asm); (case k5 => k_asm); (case k6 => k_is); (case k7 => k_is); (case k8 => k_room); (case k9 => first | exact BindsTo.of_eq rfl | exact binds_K (by k_in) rfl (by k_is) rfl rfl rfl | fail "no rule for these arguments"); (case c5 => decide); (case kB => exact locs rfl); (case c2 => exact rfl); (case c3 => exact rfl); (case c4 => exact rfl); k_whole; intro g' L' h' FG' F' N' B' X' T'; (try dsimp only); (try k_lift B'); (try k_fold))
  k_steps
  (all_goals (try k_data))
  refine' ret _ _ _ _ (by k_asm) (by k_asm) ?zs ?zp
  case zs => (repeat (first | with_reducible assumption | exact sub_refl | exact fun _ h => h | refine sub_skip ?_ | refine sub_trans2 (by with_reducible assumption) ?_))
  case zp => exact IsPoly.cast (by tb_start) rfl
set_option maxRecDepth 100000 in
set_option maxHeartbeats 8000000 in
theorem C_turned41 {A : Around} {env : Env} {outer : List Env} {A₀ : Around} {base h₀ : Heap} {L : Addr} {m : Str → Option Value} {news : List (Addr × Obj)} {s : Shared}
    {w : World} {p : Program} {loose : List Str} {mean : ExcName → Option Value} {mg mb : Str → Option Value} {R : Result → Shared → Prop}
    (hA : A.frames = some (env :: outer)) (hH : A.handled = none) (hd : A.depth ≤ 500) (hu : A.units ≤ 500)
    (B : Below A₀ base outer h₀) (F : Fr h₀ L s.heap m) (X : (Mine.hd.heap_1 w.params).In h₀) (N : News h₀ L s.heap news) (T : Top p loose mean mg mb h₀)
    (hf : env.frame = some L) (hke : env.scope.kind = .function)
    {x r : Addr} {q k : Int} {u : Tok} {a b c d : Int} (hn : 4 = 2 ∨ 4 = 4) (hr : IsRing w news r q 4) (hx : IsPoly w news r x [a, b, c, d]) (hq : 2 ≤ q) (hqb : Builtin.Int.intBits q ≤ 100) (hcs : Good q 4 [a, b, c, d]) (hk : 2 ≤ k) (hk8 : k ≤ 8380417) (hkm : k.fmod 4 = 1)
    (ret : ∀ x' nx h' tk', Fr h₀ L h' m → News h₀ L h' nx → (∀ p ∈ news, p ∈ nx) → IsPoly w nx r x' ([sgnK q k 4 0 a, sgnK q k 4 1 b, sgnK q k 4 2 c, sgnK q k 4 3 d]) → R (.ok (.ret (.ref x'))) { s with heap := h', toks := tk' }) :
    codeAny (model PySem.Challenge.rw_ay0009_02.row.prog w) A (.call (.ref 243) ⟨[.ref x, .int k u], []⟩) R s := by
  have hhx := hx.at_
  obtain ⟨dx, lx, t3x, t4x, vx, nx, hx1, hx2, hx3, hx4⟩ := hhx
  obtain ⟨pa, pb, pc, pd, e9⟩ := ints4 hx4
  subst e9
  replace N := news_cons hx3 N
  have hr' := hr.out
  obtain ⟨dr, t1, t2, u1, u2, hr1, hr2⟩ := hr'

  refine codeAny_ar hA hH hd hu ?_
  revert X
  k_fill
  intro X
  k_dflt (refine' code_def ?k1 ?k2 ?k3 ?k4 ?k5 ?kA ?kF ?kK ?k6 ?k7 ?k8 ?k9 ?kB ?_ ?c2 ?c3 ?c4 ?c5; (case kA => exact rfl); (case kF => assumption); (case kK => assumption); (case k1 => k_asm); (case k2 => k_asm); (case k3 => k_asm); (case k4 => k_asm); (case k5 => k_asm); (case k6 => k_is); (case k7 => k_is); (case k8 => k_room); (case k9 => first | exact BindsTo.of_eq rfl | exact binds_K (by k_in) rfl (by k_is) rfl rfl rfl | fail "no rule for these arguments"); (case c5 => decide); (case kB => exact locs rfl); (case c2 => exact rfl); (case c3 => exact rfl); (case c4 => exact rfl); k_whole; intro g' L' h' FG' F' N' B' X' T'; (try dsimp only); (try k_lift B'); (try k_fold))
  k_steps
  (all_goals (try k_data))
  refine' ret _ _ _ _ (by k_asm) (by k_asm) ?zs ?zp
  case zs => (repeat (first | with_reducible assumption | exact sub_refl | exact fun _ h => h | refine sub_skip ?_ | refine sub_trans2 (by with_reducible assumption) ?_))
  case zp => exact IsPoly.cast (by tb_start) rfl
set_option maxRecDepth 100000 in
set_option maxHeartbeats 8000000 in
theorem C_turned43 {A : Around} {env : Env} {outer : List Env} {A₀ : Around} {base h₀ : Heap} {L : Addr} {m : Str → Option Value} {news : List (Addr × Obj)} {s : Shared}
    {w : World} {p : Program} {loose : List Str} {mean : ExcName → Option Value} {mg mb : Str → Option Value} {R : Result → Shared → Prop}
    (hA : A.frames = some (env :: outer)) (hH : A.handled = none) (hd : A.depth ≤ 500) (hu : A.units ≤ 500)
    (B : Below A₀ base outer h₀) (F : Fr h₀ L s.heap m) (X : (Mine.hd.heap_1 w.params).In h₀) (N : News h₀ L s.heap news) (T : Top p loose mean mg mb h₀)
    (hf : env.frame = some L) (hke : env.scope.kind = .function)
    {x r : Addr} {q k : Int} {u : Tok} {a b c d : Int} (hn : 4 = 2 ∨ 4 = 4) (hr : IsRing w news r q 4) (hx : IsPoly w news r x [a, b, c, d]) (hq : 2 ≤ q) (hqb : Builtin.Int.intBits q ≤ 100) (hcs : Good q 4 [a, b, c, d]) (hk : 2 ≤ k) (hk8 : k ≤ 8380417) (hkm : k.fmod 4 = 3)
    (ret : ∀ x' nx h' tk', Fr h₀ L h' m → News h₀ L h' nx → (∀ p ∈ news, p ∈ nx) → IsPoly w nx r x' ([sgnK q k 4 0 a, sgnK q k 4 3 d, sgnK q k 4 2 c, sgnK q k 4 1 b]) → R (.ok (.ret (.ref x'))) { s with heap := h', toks := tk' }) :
    codeAny (model PySem.Challenge.rw_ay0009_02.row.prog w) A (.call (.ref 243) ⟨[.ref x, .int k u], []⟩) R s := by
  have hhx := hx.at_
  obtain ⟨dx, lx, t3x, t4x, vx, nx, hx1, hx2, hx3, hx4⟩ := hhx
  obtain ⟨pa, pb, pc, pd, e9⟩ := ints4 hx4
  subst e9
  replace N := news_cons hx3 N
  have hr' := hr.out
  obtain ⟨dr, t1, t2, u1, u2, hr1, hr2⟩ := hr'

  refine codeAny_ar hA hH hd hu ?_
  revert X
  k_fill
  intro X
  k_dflt (refine' code_def ?k1 ?k2 ?k3 ?k4 ?k5 ?kA ?kF ?kK ?k6 ?k7 ?k8 ?k9 ?kB ?_ ?c2 ?c3 ?c4 ?c5; (case kA => exact rfl); (case kF => assumption); (case kK => assumption); (case k1 => k_asm); (case k2 => k_asm); (case k3 => k_asm); (case k4 => k_asm); (case k5 => k_asm); (case k6 => k_is); (case k7 => k_is); (case k8 => k_room); (case k9 => first | exact BindsTo.of_eq rfl | exact binds_K (by k_in) rfl (by k_is) rfl rfl rfl | fail "no rule for these arguments"); (case c5 => decide); (case kB => exact locs rfl); (case c2 => exact rfl); (case c3 => exact rfl); (case c4 => exact rfl); k_whole; intro g' L' h' FG' F' N' B' X' T'; (try dsimp only); (try k_lift B'); (try k_fold))
  k_steps
  (all_goals (try k_data))
  refine' ret _ _ _ _ (by k_asm) (by k_asm) ?zs ?zp
  case zs => (repeat (first | with_reducible assumption | exact sub_refl | exact fun _ h => h | refine sub_skip ?_ | refine sub_trans2 (by with_reducible assumption) ?_))
  case zp => exact IsPoly.cast (by tb_start) rfl
theorem G_turned {A : Around} {env : Env} {outer : List Env} {A₀ : Around} {base h₀ : Heap} {L : Addr} {m : Str → Option Value} {news : List (Addr × Obj)} {s : Shared}
    {w : World} {p : Program} {loose : List Str} {mean : ExcName → Option Value} {mg mb : Str → Option Value} {R : Result → Shared → Prop}
    (hA : A.frames = some (env :: outer)) (hH : A.handled = none) (hd : A.depth ≤ 500) (hu : A.units ≤ 500)
    (B : Below A₀ base outer h₀) (F : Fr h₀ L s.heap m) (X : (Mine.hd.heap_1 w.params).In h₀) (N : News h₀ L s.heap news) (T : Top p loose mean mg mb h₀)
    (hf : env.frame = some L) (hke : env.scope.kind = .function)
    {n : Nat} (hn : n = 2 ∨ n = 4) {x r : Addr} {q k : Int} {u : Tok} {cs : List Int} (hr : IsRing w news r q n) (hx : IsPoly w news r x cs) (hq : 2 ≤ q) (hqb : Builtin.Int.intBits q ≤ 100) (hcs : Good q n cs) (hk : 2 ≤ k) (hk8 : k ≤ 8380417) (hko : k.fmod 2 = 1)
    (ret : ∀ x' nx h' tk', Fr h₀ L h' m → News h₀ L h' nx → (∀ p ∈ news, p ∈ nx) → IsPoly w nx r x' (turnK q k cs) → R (.ok (.ret (.ref x'))) { s with heap := h', toks := tk' }) :
    codeAny (model PySem.Challenge.rw_ay0009_02.row.prog w) A (.call (.ref 243) ⟨[.ref x, .int k u], []⟩) R s := by
  rcases hn with rfl | rfl
  · obtain ⟨a, b, e⟩ := hcs.two
    subst e
    exact C_turned21 hA hH hd hu B F X N T hf hke (.inl rfl) hr hx hq hqb hcs hk hk8 hko (fun x' nx h' tk' F' N' hs hp => ret x' nx h' tk' F' N' hs (IsPoly.cast hp rfl))
  · obtain ⟨a, b, c, d, e⟩ := hcs.four
    subst e
    rcases fmod4 hko with h | h
    · exact C_turned41 hA hH hd hu B F X N T hf hke (.inr rfl) hr hx hq hqb hcs hk hk8 h (fun x' nx h' tk' F' N' hs hp => ret x' nx h' tk' F' N' hs (IsPoly.cast hp (by rw [turnK, if_pos h])))
    · exact C_turned43 hA hH hd hu B F X N T hf hke (.inr rfl) hr hx hq hqb hcs hk hk8 h (fun x' nx h' tk' F' N' hs hp => ret x' nx h' tk' F' N' hs (IsPoly.cast hp (by rw [turnK, if_neg (by rw [h]; decide)])))

end
local macro_rules | `(tactic| walk_at "call ref") => `(tactic| (k_here; (with_reducible show wpAny _ _ (call (Value.ref 191) _ _) _ _ _); kaf_suf; (with_reducible show wpAny _ _ (call (Value.ref 191) [Value.ref _, Value.ref _]) _ _ _); refine wpAny_call ?_; k_dflt (refine' G_mul ?hA ?hH ?hd ?hu ?B ?F ?X ?N ?T ?hf ?hke ?hn ?hr ?hx ?hy ?hq ?hqb ?hcs ?hds ?_; kat_tups; (case hn => assumption); (case hr => ktd_rel); (case hx => tb_start); (case hy => tb_start); kba_ints; (case hds => tb_rel); k_whole); kas_types; walk_say "USED G_mul"))
section
local macro_rules | `(tactic| walk_at "call ref") => `(tactic| (k_here; kaf_suf; (with_reducible show wpAny _ _ (call (Value.ref _) [Value.int _ _]) _ _ _); refine wpAny_call ?_; k_dflt (refine' kco_code (C := 66) (f := 56) (K := Mine.hd.heap_1 _) ?kX ?kI ?kD ?k1 ?k2 ?k3 ?_; kaf_pre); k_dflt (refine' G_rcallI ?hA ?hH ?hd ?hu ?B ?F ?X ?N ?T ?hf ?hke ?hn ?hr ?_; kat_tups; (case hn => assumption); (case hr => ktd_rel); k_whole); kas_types; walk_say "USED G_rcallI"))
local macro_rules | `(tactic| walk_at "call ref") => `(tactic| (k_here; (with_reducible show wpAny _ _ (call (Value.ref 238) _ _) _ _ _); kaf_suf; (with_reducible show wpAny _ _ (call (Value.ref 238) [Value.ref _]) _ _ _); refine wpAny_call ?_; k_dflt (refine' G_norm ?hA ?hH ?hd ?hu ?B ?F ?X ?N ?T ?hf ?hke ?hn ?hl ?hlen ?hbs ?_; kat_tups; (case hn => assumption); (case hl => kwd_rel); (case hlen => first | with_reducible assumption | exact Good.len (by tb_rel)); (case hbs => first | with_reducible assumption | exact bits_good2 (by tb_rel) (by assumption)); k_whole); intro h9 tk9 t9 F9 N9; (try dsimp only); (try k_sweep); walk_say "USED G_norm"))
local macro_rules | `(tactic| walk_at "call ref") => `(tactic| (k_here; (with_reducible show wpAny _ _ (call (Value.ref 226) _ _) _ _ _); kaf_suf; (with_reducible show wpAny _ _ (call (Value.ref 226) [Value.ref _, Value.int _ _]) _ _ _); refine wpAny_call ?_; k_dflt (refine' G_getitem ?hA ?hH ?hd ?hu ?B ?F ?X ?N ?T ?hf ?hke ?hn ?hx ?hlen ?_; kat_tups; (case hn => assumption); (case hx => tb_start); (case hlen => exact Good.len (by tb_rel)); k_whole); intro h9 tk9 t9 F9 N9; (try dsimp only); (try k_sweep); walk_say "USED G_getitem"))
local macro_rules | `(tactic| walk_at "call ref") => `(tactic| (k_here; (with_reducible show wpAny _ _ (call (Value.ref 191) _ _) _ _ _); kaf_suf; (with_reducible show wpAny _ _ (call (Value.ref 191) [Value.ref _, Value.int _ _]) _ _ _); refine wpAny_call ?_; k_dflt (refine' G_mulI ?hA ?hH ?hd ?hu ?B ?F ?X ?N ?T ?hf ?hke ?hn ?hr ?hx ?hq ?hqb ?hcs ?hvb ?_; kat_tups; (case hn => assumption); (case hr => ktd_rel); (case hx => tb_start); kba_ints; (case hvb => (first | with_reducible assumption | assumption | decide)); k_whole); kas_types; walk_say "USED G_mulI"))
local macro_rules | `(tactic| walk_at "call ref") => `(tactic| (k_here; (with_reducible show wpAny _ _ (call (Value.ref 219) _ _) _ _ _); kaf_suf; (with_reducible show wpAny _ _ (call (Value.ref 219) [Value.ref _, Value.int _ _]) _ _ _); refine wpAny_call ?_; k_dflt (refine' G_eqI ?hA ?hH ?hd ?hu ?B ?F ?X ?N ?T ?hf ?hke ?hn ?hr ?hx ?hq ?hqb ?hcs ?hvb ?ht ?htr ?hG ?_; kat_tups; (case hn => assumption); (case hr => ktd_rel); (case hx => tb_start); kba_ints; (case hvb => (first | with_reducible assumption | assumption | decide)); (case ht => k_mem); (case htr => k_asm); (case hG => k_asm); k_whole); intro nx9 s9 ps9 F9 N9 ht9 htr9 hk9 hG9 hos9; kpc_turns; walk_say "USED G_eqI"))
local macro_rules | `(tactic| walk_at "call builtin:pow") => `(tactic| (k_here; k_dflt (refine' call_pow_mod (fun _ => pow_mod_inv ?a ?b ?c ?d ?e ?_); (case a => assumption); (case b => assumption); (case c => assumption); (case d => assumption); (case e => ((rename (_ → ∀ d : Int, 0 < d → d ∣ _ → d ∣ _ → d = 1) => hPg); exact hPg (by assumption))); k_whole); intro r9 h91 h92 h93; (have h94 := bits_up h91 h92 (by assumption)); (try dsimp only); walk_say "POWINV"))
local macro_rules | `(tactic| walk_at "call ref") => `(tactic| (k_here; (with_reducible show wpAny _ _ (call (Value.ref 91) _ _) _ _ _); kaf_suf; (with_reducible show wpAny _ _ (call (Value.ref 91) [Value.ref _]) _ _ _); refine wpAny_call ?_; k_dflt (refine' C_isz ?hA ?hH ?hd ?hu ?B ?F ?X ?N ?T ?hf ?hke ?hx ?ht ?htr ?hG ?_; kat_tups; (case hx => tb_start); (case ht => k_mem); (case htr => k_asm); (case hG => k_asm); k_whole); intro nx9 s9 ps9 F9 N9 ht9 htr9 hk9 hG9 hos9; kpc_turns; walk_say "USED C_isz"))
local macro_rules | `(tactic| walk_at "binaryOp FloorDiv int int") => `(tactic| (k_here; k_dflt (refine' fd_small ?a ?b ?c ?_; (case a => assumption); (case b => omega); (case c => assumption); k_whole); (try dsimp only); walk_say "FDIV"))
set_option maxRecDepth 100000 in
set_option maxHeartbeats 8000000 in
theorem st2_3 {w : World} {p : Program} {loose : List Str} {mean : ExcName → Option Value} {mg mb : Str → Option Value} {h₀ : Heap} {L fa : Addr} {cd : Value} {os0 : OsState} {s : Shared} {Q : Flow → Shared → Prop} {E : Value → Shared → Prop}
    (B : Below callerA h₀ [] h₀) (X : (Mine.hd.heap_1 w.params).In h₀) (T : Top p loose mean mg mb h₀) {nx : List (Addr × Obj)}
    {n : Nat} {tn : Tok} (hn : n = 2 ∨ n = 4) {q : Int} {tq : Tok} (hq : 2 ≤ q) (hqm : q ≤ 4294967297) (hqb : Builtin.Int.intBits q ≤ 100) {ln : Addr} {ns : List Int} (hl : IsInts nx ln ns) (hlen : ns.length = 10) {r : Addr} (hr : IsRing w nx r q n) (S : St h₀ L os0 [(Str.ofString "numbers", .ref ln), (Str.ofString "n", .int (n : Int) tn), (Str.ofString "ring", .ref r)] [(L + 1, some (.int q tq))] nx s)
    (k : ∀ s' nx' fx gx Fc Gc, St h₀ L os0 [(Str.ofString "n", .int (n : Int) tn), (Str.ofString "ring", .ref r), (Str.ofString "f", .ref fx), (Str.ofString "g", .ref gx)] [(L + 1, some (.int q tq))] nx' s' → Ext nx nx' → IsPoly w nx' r fx Fc → IsPoly w nx' r gx Gc → Good q n Fc → Good q n Gc → Q .next s') :
    wpAny (model PySem.Challenge.rw_ay0009_02.row.prog w) (callerA.deeper (envOfC (Str.ofString "law") (lawDef PySem.Challenge.rw_ay0009_02.row.prog).2 L fa cd)) (exec (stm PySem.Challenge.rw_ay0009_02.row.prog 3) (envOfC (Str.ofString "law") (lawDef PySem.Challenge.rw_ay0009_02.row.prog).2 L fa cd)) Q E s := by
  obtain ⟨⟨m0, F⟩, N, ⟨⟨pa, ta, tra⟩, ⟨pc, tc, trc⟩⟩, CL, G, O⟩ := S
  simp only [lk] at F
  have TT : Tabs nx := ⟨⟨_, ta, tra⟩, ⟨_, tc, trc⟩⟩
  obtain ⟨oq9, hcq, hdq⟩ := CL (L + 1, some (.int q tq)) List.mem_cons_self
  dsimp only at hcq hdq
  obtain ⟨vl, nl, hl1, hl2⟩ := hl.out
  have hvl : vl.length = 10 := hl2.length.trans hlen
  have hr' := hr.out
  obtain ⟨dr, t1, t2, u1, u2, hr1, hr2⟩ := hr'
  have hc1 := cut10a (q := q) hlen hn
  have hc2 := cut10b (q := q) hlen hn
  revert X
  k_fill
  intro X
  conv =>
    arg 3
    arg 1
    whnf
  k_steps
  (all_goals (try k_data))
  refine' k _ _ _ _ _ _ ?Sz1 ?Xz1 ?E0z1 ?E1z1 ?E2z1 ?E3z1
  case Sz1 =>
    refine ⟨fr_lk (by k_asm) _ ?l9z1, ?n9z1, ?t9z1, ?c9z1, ?g9z1, ?o9z1⟩
    case l9z1 => (repeat (first | exact List.forall_mem_nil _ | (refine List.forall_mem_cons.mpr ⟨?_, ?_⟩; exact rfl)))
    case n9z1 => k_asm
    case t9z1 => (repeat (first | with_reducible assumption | refine Tabs.sub ?_ (by with_reducible assumption) | refine Tabs.of1 ?_ (by with_reducible assumption) (by with_reducible assumption) (by with_reducible assumption) | refine Tabs.of2 ?_ (by with_reducible assumption) (by with_reducible assumption) (by with_reducible assumption) | refine Tabs.sub ?_ (fun p hp => List.mem_cons_of_mem _ hp)))
    case c9z1 => first | ((repeat (first | with_reducible assumption | exact Cells.sub (by with_reducible assumption) (fun p hp => List.mem_cons_of_mem _ hp) | exact Cells.sub (by with_reducible assumption) (fun p hp => List.mem_cons_of_mem _ (List.mem_cons_of_mem _ hp)) | exact Cells.sub (by with_reducible assumption) (fun p hp => List.mem_cons_of_mem _ (List.mem_cons_of_mem _ (List.mem_cons_of_mem _ hp))) | exact Cells.sub (by with_reducible assumption) (fun p hp => List.mem_cons_of_mem _ (List.mem_cons_of_mem _ (List.mem_cons_of_mem _ (List.mem_cons_of_mem _ hp)))) | refine Cells.sub ?_ (by with_reducible assumption) | refine Cells.of1 ?_ (by with_reducible assumption) | refine Cells.sub ?_ (fun p hp => List.mem_cons_of_mem _ hp))); done) | ((rename CellsTo _ _ _ _ => hC8); refine hC8 _ ?_; (repeat (first | exact List.forall_mem_nil _ | (refine List.forall_mem_cons.mpr ⟨?_, ?_⟩; first | (refine .inl ?_; exact rfl) | (refine .inr ⟨by simp, ?_⟩; first | exact Nat.ne_of_lt (by omega) | exact Nat.ne_of_gt (by omega))))))
    case g9z1 => first | assumption | exact G
    case o9z1 => (repeat (first | exact O | refine Eq.trans (by with_reducible assumption) ?_))
  case Xz1 => (repeat (first | exact ext_refl | with_reducible assumption | refine ext_trans ?_ (by with_reducible assumption) | refine ext_cons ?_ | refine ext_trans ?_ (ext_of (by with_reducible assumption)) | refine ext_trans ?_ (ext_of1 (by with_reducible assumption))))
  case E0z1 => tb_start
  case E1z1 => tb_start
  case E2z1 => exact Good.fmap hq (cut10a hlen hn)
  case E3z1 => exact Good.fmap hq (cut10b hlen hn)

set_option maxRecDepth 100000 in
set_option maxHeartbeats 8000000 in
theorem st2_4 {w : World} {p : Program} {loose : List Str} {mean : ExcName → Option Value} {mg mb : Str → Option Value} {h₀ : Heap} {L fa : Addr} {cd : Value} {os0 : OsState} {s : Shared} {Q : Flow → Shared → Prop} {E : Value → Shared → Prop}
    (B : Below callerA h₀ [] h₀) (X : (Mine.hd.heap_1 w.params).In h₀) (T : Top p loose mean mg mb h₀) {nx : List (Addr × Obj)}
    {n : Nat} {tn : Tok} (hn : n = 2 ∨ n = 4) {q : Int} {tq : Tok} (hq : 2 ≤ q) (hqm : q ≤ 4294967297) (hqb : Builtin.Int.intBits q ≤ 100) {r fx gx : Addr} {Fc Gc : List Int} (hr : IsRing w nx r q n) (hf : IsPoly w nx r fx Fc) (hg : IsPoly w nx r gx Gc) (gf : Good q n Fc) (gg : Good q n Gc) (S : St h₀ L os0 [(Str.ofString "n", .int (n : Int) tn), (Str.ofString "ring", .ref r), (Str.ofString "f", .ref fx), (Str.ofString "g", .ref gx)] [(L + 1, some (.int q tq))] nx s)
    (k : ∀ s' nx' bx ox, St h₀ L os0 [(Str.ofString "n", .int (n : Int) tn), (Str.ofString "f", .ref fx), (Str.ofString "g", .ref gx), (Str.ofString "both", .ref bx), (Str.ofString "total", .ref fx), (Str.ofString "others", .ref ox)] [(L + 1, some (.int q tq))] nx' s' → Ext nx nx' → IsPoly w nx' r bx (mulL q Fc Gc) → IsPoly w nx' r ox (1 :: List.replicate (n - 1) 0) → Q .next s') :
    wpAny (model PySem.Challenge.rw_ay0009_02.row.prog w) (callerA.deeper (envOfC (Str.ofString "law") (lawDef PySem.Challenge.rw_ay0009_02.row.prog).2 L fa cd)) (exec (stm PySem.Challenge.rw_ay0009_02.row.prog 4) (envOfC (Str.ofString "law") (lawDef PySem.Challenge.rw_ay0009_02.row.prog).2 L fa cd)) Q E s := by
  obtain ⟨⟨m0, F⟩, N, ⟨⟨pa, ta, tra⟩, ⟨pc, tc, trc⟩⟩, CL, G, O⟩ := S
  simp only [lk] at F
  have TT : Tabs nx := ⟨⟨_, ta, tra⟩, ⟨_, tc, trc⟩⟩
  obtain ⟨oq9, hcq, hdq⟩ := CL (L + 1, some (.int q tq)) List.mem_cons_self
  dsimp only at hcq hdq
  have hr' := hr.out
  obtain ⟨dr, t1, t2, u1, u2, hr1, hr2⟩ := hr'
  have hf' := hf.at_
  obtain ⟨df, lf, t3f, t4f, vf, nf, hf1, hf2, hf3, hf4⟩ := hf'
  have hg' := hg.at_
  obtain ⟨dg, lg, t3g, t4g, vg, ng, hg1, hg2, hg3, hg4⟩ := hg'
  revert X
  k_fill
  intro X
  conv =>
    arg 3
    arg 1
    whnf
  k_steps
  (all_goals (try k_data))
  refine' k _ _ _ _ ?Sz1 ?Xz1 ?E0z1 ?E1z1
  case Sz1 =>
    refine ⟨fr_lk (by k_asm) _ ?l9z1, ?n9z1, ?t9z1, ?c9z1, ?g9z1, ?o9z1⟩
    case l9z1 => (repeat (first | exact List.forall_mem_nil _ | (refine List.forall_mem_cons.mpr ⟨?_, ?_⟩; exact rfl)))
    case n9z1 => k_asm
    case t9z1 => (repeat (first | with_reducible assumption | refine Tabs.sub ?_ (by with_reducible assumption) | refine Tabs.of1 ?_ (by with_reducible assumption) (by with_reducible assumption) (by with_reducible assumption) | refine Tabs.of2 ?_ (by with_reducible assumption) (by with_reducible assumption) (by with_reducible assumption) | refine Tabs.sub ?_ (fun p hp => List.mem_cons_of_mem _ hp)))
    case c9z1 => first | ((repeat (first | with_reducible assumption | exact Cells.sub (by with_reducible assumption) (fun p hp => List.mem_cons_of_mem _ hp) | exact Cells.sub (by with_reducible assumption) (fun p hp => List.mem_cons_of_mem _ (List.mem_cons_of_mem _ hp)) | exact Cells.sub (by with_reducible assumption) (fun p hp => List.mem_cons_of_mem _ (List.mem_cons_of_mem _ (List.mem_cons_of_mem _ hp))) | exact Cells.sub (by with_reducible assumption) (fun p hp => List.mem_cons_of_mem _ (List.mem_cons_of_mem _ (List.mem_cons_of_mem _ (List.mem_cons_of_mem _ hp)))) | refine Cells.sub ?_ (by with_reducible assumption) | refine Cells.of1 ?_ (by with_reducible assumption) | refine Cells.sub ?_ (fun p hp => List.mem_cons_of_mem _ hp))); done) | ((rename CellsTo _ _ _ _ => hC8); refine hC8 _ ?_; (repeat (first | exact List.forall_mem_nil _ | (refine List.forall_mem_cons.mpr ⟨?_, ?_⟩; first | (refine .inl ?_; exact rfl) | (refine .inr ⟨by simp, ?_⟩; first | exact Nat.ne_of_lt (by omega) | exact Nat.ne_of_gt (by omega))))))
    case g9z1 => first | assumption | exact G
    case o9z1 => (repeat (first | exact O | refine Eq.trans (by with_reducible assumption) ?_))
  case Xz1 => (repeat (first | exact ext_refl | with_reducible assumption | refine ext_trans ?_ (by with_reducible assumption) | refine ext_cons ?_ | refine ext_trans ?_ (ext_of (by with_reducible assumption)) | refine ext_trans ?_ (ext_of1 (by with_reducible assumption))))
  case E0z1 => tb_start
  case E1z1 => tb_start

set_option maxRecDepth 100000 in
set_option maxHeartbeats 8000000 in
theorem st2_6 {w : World} {p : Program} {loose : List Str} {mean : ExcName → Option Value} {mg mb : Str → Option Value} {h₀ : Heap} {L fa : Addr} {cd : Value} {os0 : OsState} {s : Shared} {Q : Flow → Shared → Prop} {E : Value → Shared → Prop}
    (B : Below callerA h₀ [] h₀) (X : (Mine.hd.heap_1 w.params).In h₀) (T : Top p loose mean mg mb h₀) {nx : List (Addr × Obj)}
    {n : Nat} {tn : Tok} (hn : n = 2 ∨ n = 4) {q : Int} {tq : Tok} (hq : 2 ≤ q) (hqm : q ≤ 4294967297) (hqb : Builtin.Int.intBits q ≤ 100) {r fx gx : Addr} {Fc Gc : List Int} (hr : IsRing w nx r q n) (hf : IsPoly w nx r fx Fc) (hg : IsPoly w nx r gx Gc) (gf : Good q n Fc) (gg : Good q n Gc) {bx tx ox : Addr} {Bc Tc Oc : List Int} (hb : IsPoly w nx r bx Bc) (ht : IsPoly w nx r tx Tc) (hu : IsPoly w nx r ox Oc) (gb : Good q n Bc) (gt : Good q n Tc) (go : Good q n Oc) (S : St h₀ L os0 [(Str.ofString "n", .int (n : Int) tn), (Str.ofString "f", .ref fx), (Str.ofString "g", .ref gx), (Str.ofString "both", .ref bx), (Str.ofString "total", .ref tx), (Str.ofString "others", .ref ox)] [(L + 1, some (.int q tq))] nx s)
    (k : ∀ s' nx' tN wx, St h₀ L os0 [(Str.ofString "n", .int (n : Int) tn), (Str.ofString "f", .ref fx), (Str.ofString "g", .ref gx), (Str.ofString "both", .ref bx), (Str.ofString "total", .ref tx), (Str.ofString "others", .ref ox), (Str.ofString "norm", .int (Int.fmod (normL Fc) q) tN), (Str.ofString "whole", .ref wx)] [(L + 1, some (.int q tq))] nx' s' → Ext nx nx' → IsPoly w nx' r wx (mulL q Fc Oc) → Q .next s') :
    wpAny (model PySem.Challenge.rw_ay0009_02.row.prog w) (callerA.deeper (envOfC (Str.ofString "law") (lawDef PySem.Challenge.rw_ay0009_02.row.prog).2 L fa cd)) (exec (stm PySem.Challenge.rw_ay0009_02.row.prog 6) (envOfC (Str.ofString "law") (lawDef PySem.Challenge.rw_ay0009_02.row.prog).2 L fa cd)) Q E s := by
  obtain ⟨⟨m0, F⟩, N, ⟨⟨pa, ta, tra⟩, ⟨pc, tc, trc⟩⟩, CL, G, O⟩ := S
  simp only [lk] at F
  have TT : Tabs nx := ⟨⟨_, ta, tra⟩, ⟨_, tc, trc⟩⟩
  obtain ⟨oq9, hcq, hdq⟩ := CL (L + 1, some (.int q tq)) List.mem_cons_self
  dsimp only at hcq hdq
  have hr' := hr.out
  obtain ⟨dr, t1, t2, u1, u2, hr1, hr2⟩ := hr'
  have hf' := hf.at_
  obtain ⟨df, lf, t3f, t4f, vf, nf, hf1, hf2, hf3, hf4⟩ := hf'
  have hg' := hg.at_
  obtain ⟨dg, lg, t3g, t4g, vg, ng, hg1, hg2, hg3, hg4⟩ := hg'
  have hb' := hb.at_
  obtain ⟨db, lb, t3b, t4b, vb, nb, hb1, hb2, hb3, hb4⟩ := hb'
  have ht' := ht.at_
  obtain ⟨dt, lt, t3t, t4t, vt, nt, ht1, ht2, ht3, ht4⟩ := ht'
  have hu' := hu.at_
  obtain ⟨du, lu, t3u, t4u, vu, nu, hu1, hu2, hu3, hu4⟩ := hu'
  revert X
  k_fill
  intro X
  conv =>
    arg 3
    arg 1
    whnf
  k_steps
  (all_goals (try k_data))
  refine' k _ _ _ _ ?Sz1 ?Xz1 ?E0z1
  case Sz1 =>
    refine ⟨fr_lk (by k_asm) _ ?l9z1, ?n9z1, ?t9z1, ?c9z1, ?g9z1, ?o9z1⟩
    case l9z1 => (repeat (first | exact List.forall_mem_nil _ | (refine List.forall_mem_cons.mpr ⟨?_, ?_⟩; exact rfl)))
    case n9z1 => k_asm
    case t9z1 => (repeat (first | with_reducible assumption | refine Tabs.sub ?_ (by with_reducible assumption) | refine Tabs.of1 ?_ (by with_reducible assumption) (by with_reducible assumption) (by with_reducible assumption) | refine Tabs.of2 ?_ (by with_reducible assumption) (by with_reducible assumption) (by with_reducible assumption) | refine Tabs.sub ?_ (fun p hp => List.mem_cons_of_mem _ hp)))
    case c9z1 => first | ((repeat (first | with_reducible assumption | exact Cells.sub (by with_reducible assumption) (fun p hp => List.mem_cons_of_mem _ hp) | exact Cells.sub (by with_reducible assumption) (fun p hp => List.mem_cons_of_mem _ (List.mem_cons_of_mem _ hp)) | exact Cells.sub (by with_reducible assumption) (fun p hp => List.mem_cons_of_mem _ (List.mem_cons_of_mem _ (List.mem_cons_of_mem _ hp))) | exact Cells.sub (by with_reducible assumption) (fun p hp => List.mem_cons_of_mem _ (List.mem_cons_of_mem _ (List.mem_cons_of_mem _ (List.mem_cons_of_mem _ hp)))) | refine Cells.sub ?_ (by with_reducible assumption) | refine Cells.of1 ?_ (by with_reducible assumption) | refine Cells.sub ?_ (fun p hp => List.mem_cons_of_mem _ hp))); done) | ((rename CellsTo _ _ _ _ => hC8); refine hC8 _ ?_; (repeat (first | exact List.forall_mem_nil _ | (refine List.forall_mem_cons.mpr ⟨?_, ?_⟩; first | (refine .inl ?_; exact rfl) | (refine .inr ⟨by simp, ?_⟩; first | exact Nat.ne_of_lt (by omega) | exact Nat.ne_of_gt (by omega))))))
    case g9z1 => first | assumption | exact G
    case o9z1 => (repeat (first | exact O | refine Eq.trans (by with_reducible assumption) ?_))
  case Xz1 => (repeat (first | exact ext_refl | with_reducible assumption | refine ext_trans ?_ (by with_reducible assumption) | refine ext_cons ?_ | refine ext_trans ?_ (ext_of (by with_reducible assumption)) | refine ext_trans ?_ (ext_of1 (by with_reducible assumption))))
  case E0z1 => tb_start

set_option maxRecDepth 100000 in
set_option maxHeartbeats 8000000 in
theorem st2_7 {w : World} {p : Program} {loose : List Str} {mean : ExcName → Option Value} {mg mb : Str → Option Value} {h₀ : Heap} {L fa : Addr} {cd : Value} {os0 : OsState} {s : Shared} {Q : Flow → Shared → Prop} {E : Value → Shared → Prop}
    (B : Below callerA h₀ [] h₀) (X : (Mine.hd.heap_1 w.params).In h₀) (T : Top p loose mean mg mb h₀) {nx : List (Addr × Obj)}
    {n : Nat} {tn : Tok} (hn : n = 2 ∨ n = 4) {q : Int} {tq : Tok} (hq : 2 ≤ q) (hqm : q ≤ 4294967297) (hqb : Builtin.Int.intBits q ≤ 100) {r fx gx : Addr} {Fc Gc : List Int} (hr : IsRing w nx r q n) (hf : IsPoly w nx r fx Fc) (hg : IsPoly w nx r gx Gc) (gf : Good q n Fc) (gg : Good q n Gc) {bx tx ox : Addr} {Bc Tc Oc : List Int} (hb : IsPoly w nx r bx Bc) (ht : IsPoly w nx r tx Tc) (hu : IsPoly w nx r ox Oc) (gb : Good q n Bc) (gt : Good q n Tc) (go : Good q n Oc) {wx : Addr} {Wc : List Int} {NN : Int} {tN : Tok} (hw : IsPoly w nx r wx Wc) (gw : Good q n Wc) (hN0 : 0 ≤ NN) (hNq : NN < q) (P1 : Tc.tail.all (· == 0) = true) (P2 : Tc.getD 0 0 = Int.fmod ((n : Int) * Fc.getD 0 0) q) (P3 : Wc.tail.all (· == 0) = true) (P4 : Wc.getD 0 0 = NN) (S : St h₀ L os0 [(Str.ofString "n", .int (n : Int) tn), (Str.ofString "f", .ref fx), (Str.ofString "g", .ref gx), (Str.ofString "both", .ref bx), (Str.ofString "total", .ref tx), (Str.ofString "others", .ref ox), (Str.ofString "norm", .int NN tN), (Str.ofString "whole", .ref wx)] [(L + 1, some (.int q tq))] nx s)
    (k : ∀ s' nx', St h₀ L os0 [(Str.ofString "n", .int (n : Int) tn), (Str.ofString "f", .ref fx), (Str.ofString "g", .ref gx), (Str.ofString "both", .ref bx), (Str.ofString "total", .ref tx), (Str.ofString "others", .ref ox), (Str.ofString "norm", .int NN tN), (Str.ofString "whole", .ref wx)] [(L + 1, some (.int q tq))] nx' s' → Ext nx nx' → Q .next s') :
    wpAny (model PySem.Challenge.rw_ay0009_02.row.prog w) (callerA.deeper (envOfC (Str.ofString "law") (lawDef PySem.Challenge.rw_ay0009_02.row.prog).2 L fa cd)) (exec (stm PySem.Challenge.rw_ay0009_02.row.prog 7) (envOfC (Str.ofString "law") (lawDef PySem.Challenge.rw_ay0009_02.row.prog).2 L fa cd)) Q E s := by
  obtain ⟨⟨m0, F⟩, N, ⟨⟨pa, ta, tra⟩, ⟨pc, tc, trc⟩⟩, CL, G, O⟩ := S
  simp only [lk] at F
  have TT : Tabs nx := ⟨⟨_, ta, tra⟩, ⟨_, tc, trc⟩⟩
  obtain ⟨oq9, hcq, hdq⟩ := CL (L + 1, some (.int q tq)) List.mem_cons_self
  dsimp only at hcq hdq
  have hr' := hr.out
  obtain ⟨dr, t1, t2, u1, u2, hr1, hr2⟩ := hr'
  have hf' := hf.at_
  obtain ⟨df, lf, t3f, t4f, vf, nf, hf1, hf2, hf3, hf4⟩ := hf'
  have ht' := ht.at_
  obtain ⟨dt, lt, t3t, t4t, vt, nt, ht1, ht2, ht3, ht4⟩ := ht'
  have hw' := hw.at_
  obtain ⟨dw, lw, t3w, t4w, vw, nw, hw1, hw2, hw3, hw4⟩ := hw'
  revert X
  k_fill
  intro X
  conv =>
    arg 3
    arg 1
    whnf
  k_steps
  (all_goals (try k_data))
  all_goals try (exfalso; first | exact absurd P4 (by assumption) | exact absurd P2 (by assumption))
  refine' k _ _ ?Sz1 ?Xz1 
  case Sz1 =>
    refine ⟨fr_lk (by k_asm) _ ?l9z1, ?n9z1, ?t9z1, ?c9z1, ?g9z1, ?o9z1⟩
    case l9z1 => (repeat (first | exact List.forall_mem_nil _ | (refine List.forall_mem_cons.mpr ⟨?_, ?_⟩; exact rfl)))
    case n9z1 => k_asm
    case t9z1 => (repeat (first | with_reducible assumption | refine Tabs.sub ?_ (by with_reducible assumption) | refine Tabs.of1 ?_ (by with_reducible assumption) (by with_reducible assumption) (by with_reducible assumption) | refine Tabs.of2 ?_ (by with_reducible assumption) (by with_reducible assumption) (by with_reducible assumption) | refine Tabs.sub ?_ (fun p hp => List.mem_cons_of_mem _ hp)))
    case c9z1 => first | ((repeat (first | with_reducible assumption | exact Cells.sub (by with_reducible assumption) (fun p hp => List.mem_cons_of_mem _ hp) | exact Cells.sub (by with_reducible assumption) (fun p hp => List.mem_cons_of_mem _ (List.mem_cons_of_mem _ hp)) | exact Cells.sub (by with_reducible assumption) (fun p hp => List.mem_cons_of_mem _ (List.mem_cons_of_mem _ (List.mem_cons_of_mem _ hp))) | exact Cells.sub (by with_reducible assumption) (fun p hp => List.mem_cons_of_mem _ (List.mem_cons_of_mem _ (List.mem_cons_of_mem _ (List.mem_cons_of_mem _ hp)))) | refine Cells.sub ?_ (by with_reducible assumption) | refine Cells.of1 ?_ (by with_reducible assumption) | refine Cells.sub ?_ (fun p hp => List.mem_cons_of_mem _ hp))); done) | ((rename CellsTo _ _ _ _ => hC8); refine hC8 _ ?_; (repeat (first | exact List.forall_mem_nil _ | (refine List.forall_mem_cons.mpr ⟨?_, ?_⟩; first | (refine .inl ?_; exact rfl) | (refine .inr ⟨by simp, ?_⟩; first | exact Nat.ne_of_lt (by omega) | exact Nat.ne_of_gt (by omega))))))
    case g9z1 => first | assumption | exact G
    case o9z1 => (repeat (first | exact O | refine Eq.trans (by with_reducible assumption) ?_))
  case Xz1 => (repeat (first | exact ext_refl | with_reducible assumption | refine ext_trans ?_ (by with_reducible assumption) | refine ext_cons ?_ | refine ext_trans ?_ (ext_of (by with_reducible assumption)) | refine ext_trans ?_ (ext_of1 (by with_reducible assumption))))

set_option maxRecDepth 100000 in
set_option maxHeartbeats 8000000 in
theorem st2_8 {w : World} {p : Program} {loose : List Str} {mean : ExcName → Option Value} {mg mb : Str → Option Value} {h₀ : Heap} {L fa : Addr} {cd : Value} {os0 : OsState} {s : Shared} {Q : Flow → Shared → Prop} {E : Value → Shared → Prop}
    (B : Below callerA h₀ [] h₀) (X : (Mine.hd.heap_1 w.params).In h₀) (T : Top p loose mean mg mb h₀) {nx : List (Addr × Obj)}
    {n : Nat} {tn : Tok} (hn : n = 2 ∨ n = 4) {q : Int} {tq : Tok} (hq : 2 ≤ q) (hqm : q ≤ 4294967297) (hqb : Builtin.Int.intBits q ≤ 100) {r fx gx : Addr} {Fc Gc : List Int} (hr : IsRing w nx r q n) (hf : IsPoly w nx r fx Fc) (hg : IsPoly w nx r gx Gc) (gf : Good q n Fc) (gg : Good q n Gc) {bx tx ox : Addr} {Bc Tc Oc : List Int} (hb : IsPoly w nx r bx Bc) (ht : IsPoly w nx r tx Tc) (hu : IsPoly w nx r ox Oc) (gb : Good q n Bc) (gt : Good q n Tc) (go : Good q n Oc) {wx : Addr} {Wc : List Int} {NN : Int} {tN : Tok} (hw : IsPoly w nx r wx Wc) (gw : Good q n Wc) (hN0 : 0 ≤ NN) (hNq : NN < q) (P1 : Int.fmod (normL Bc) q = Int.fmod (NN * normL Gc) q) (S : St h₀ L os0 [(Str.ofString "n", .int (n : Int) tn), (Str.ofString "f", .ref fx), (Str.ofString "g", .ref gx), (Str.ofString "both", .ref bx), (Str.ofString "total", .ref tx), (Str.ofString "others", .ref ox), (Str.ofString "norm", .int NN tN), (Str.ofString "whole", .ref wx)] [(L + 1, some (.int q tq))] nx s)
    (k : ∀ s' nx', St h₀ L os0 [(Str.ofString "f", .ref fx), (Str.ofString "others", .ref ox), (Str.ofString "norm", .int NN tN)] [(L + 1, some (.int q tq))] nx' s' → Ext nx nx' → Q .next s') :
    wpAny (model PySem.Challenge.rw_ay0009_02.row.prog w) (callerA.deeper (envOfC (Str.ofString "law") (lawDef PySem.Challenge.rw_ay0009_02.row.prog).2 L fa cd)) (exec (stm PySem.Challenge.rw_ay0009_02.row.prog 8) (envOfC (Str.ofString "law") (lawDef PySem.Challenge.rw_ay0009_02.row.prog).2 L fa cd)) Q E s := by
  obtain ⟨⟨m0, F⟩, N, ⟨⟨pa, ta, tra⟩, ⟨pc, tc, trc⟩⟩, CL, G, O⟩ := S
  simp only [lk] at F
  have TT : Tabs nx := ⟨⟨_, ta, tra⟩, ⟨_, tc, trc⟩⟩
  obtain ⟨oq9, hcq, hdq⟩ := CL (L + 1, some (.int q tq)) List.mem_cons_self
  dsimp only at hcq hdq
  have hr' := hr.out
  obtain ⟨dr, t1, t2, u1, u2, hr1, hr2⟩ := hr'
  have hg' := hg.at_
  obtain ⟨dg, lg, t3g, t4g, vg, ng, hg1, hg2, hg3, hg4⟩ := hg'
  have hb' := hb.at_
  obtain ⟨db, lb, t3b, t4b, vb, nb, hb1, hb2, hb3, hb4⟩ := hb'
  revert X
  k_fill
  intro X
  conv =>
    arg 3
    arg 1
    whnf
  k_steps
  (all_goals (try k_data))
  all_goals try (exfalso; exact absurd P1 (by assumption))
  refine' k _ _ ?Sz1 ?Xz1 
  case Sz1 =>
    refine ⟨fr_lk (by k_asm) _ ?l9z1, ?n9z1, ?t9z1, ?c9z1, ?g9z1, ?o9z1⟩
    case l9z1 => (repeat (first | exact List.forall_mem_nil _ | (refine List.forall_mem_cons.mpr ⟨?_, ?_⟩; exact rfl)))
    case n9z1 => k_asm
    case t9z1 => (repeat (first | with_reducible assumption | refine Tabs.sub ?_ (by with_reducible assumption) | refine Tabs.of1 ?_ (by with_reducible assumption) (by with_reducible assumption) (by with_reducible assumption) | refine Tabs.of2 ?_ (by with_reducible assumption) (by with_reducible assumption) (by with_reducible assumption) | refine Tabs.sub ?_ (fun p hp => List.mem_cons_of_mem _ hp)))
    case c9z1 => first | ((repeat (first | with_reducible assumption | exact Cells.sub (by with_reducible assumption) (fun p hp => List.mem_cons_of_mem _ hp) | exact Cells.sub (by with_reducible assumption) (fun p hp => List.mem_cons_of_mem _ (List.mem_cons_of_mem _ hp)) | exact Cells.sub (by with_reducible assumption) (fun p hp => List.mem_cons_of_mem _ (List.mem_cons_of_mem _ (List.mem_cons_of_mem _ hp))) | exact Cells.sub (by with_reducible assumption) (fun p hp => List.mem_cons_of_mem _ (List.mem_cons_of_mem _ (List.mem_cons_of_mem _ (List.mem_cons_of_mem _ hp)))) | refine Cells.sub ?_ (by with_reducible assumption) | refine Cells.of1 ?_ (by with_reducible assumption) | refine Cells.sub ?_ (fun p hp => List.mem_cons_of_mem _ hp))); done) | ((rename CellsTo _ _ _ _ => hC8); refine hC8 _ ?_; (repeat (first | exact List.forall_mem_nil _ | (refine List.forall_mem_cons.mpr ⟨?_, ?_⟩; first | (refine .inl ?_; exact rfl) | (refine .inr ⟨by simp, ?_⟩; first | exact Nat.ne_of_lt (by omega) | exact Nat.ne_of_gt (by omega))))))
    case g9z1 => first | assumption | exact G
    case o9z1 => (repeat (first | exact O | refine Eq.trans (by with_reducible assumption) ?_))
  case Xz1 => (repeat (first | exact ext_refl | with_reducible assumption | refine ext_trans ?_ (by with_reducible assumption) | refine ext_cons ?_ | refine ext_trans ?_ (ext_of (by with_reducible assumption)) | refine ext_trans ?_ (ext_of1 (by with_reducible assumption))))

set_option maxRecDepth 100000 in
set_option maxHeartbeats 8000000 in
theorem st2_11 {w : World} {p : Program} {loose : List Str} {mean : ExcName → Option Value} {mg mb : Str → Option Value} {h₀ : Heap} {L fa : Addr} {cd : Value} {os0 : OsState} {s : Shared} {Q : Flow → Shared → Prop} {E : Value → Shared → Prop}
    (B : Below callerA h₀ [] h₀) (X : (Mine.hd.heap_1 w.params).In h₀) (T : Top p loose mean mg mb h₀) {nx : List (Addr × Obj)}
    {n : Nat} {tn : Tok} (hn : n = 2 ∨ n = 4) {q : Int} {tq : Tok} (hq : 2 ≤ q) (hqm : q ≤ 4294967297) (hqb : Builtin.Int.intBits q ≤ 100) {r fx ox : Addr} {Fc Oc : List Int} (hr : IsRing w nx r q n) (hf : IsPoly w nx r fx Fc) (hu : IsPoly w nx r ox Oc) (gf : Good q n Fc) (go : Good q n Oc) {NN : Int} {tN : Tok} (hN0 : 0 ≤ NN) (hNq : NN < q) {cc : Int} {tc : Tok} (P1 : cc = 1 → ∀ b : Int, 0 ≤ b → b < q → (∃ k, b * NN = 1 + q * k) → eqI q 1 (mulL q Fc (mulI q b Oc)) = true) (Pg : cc = 1 → ∀ d : Int, 0 < d → d ∣ q → d ∣ NN → d = 1) (k1 : ∀ s' nx', St h₀ L os0 [] [(L + 1, some (.int q tq))] nx' s' → Ext nx nx' → Q (.ret (.bool true)) s') (S : St h₀ L os0 [(Str.ofString "f", .ref fx), (Str.ofString "others", .ref ox), (Str.ofString "norm", .int NN tN), (Str.ofString "common", .int cc tc)] [(L + 1, some (.int q tq))] nx s)
    (k : ∀ s' nx', cc ≠ 1 → St h₀ L os0 [(Str.ofString "f", .ref fx), (Str.ofString "others", .ref ox), (Str.ofString "norm", .int NN tN), (Str.ofString "common", .int cc tc)] [(L + 1, some (.int q tq))] nx' s' → Ext nx nx' → Q .next s') :
    wpAny (model PySem.Challenge.rw_ay0009_02.row.prog w) (callerA.deeper (envOfC (Str.ofString "law") (lawDef PySem.Challenge.rw_ay0009_02.row.prog).2 L fa cd)) (exec (stm PySem.Challenge.rw_ay0009_02.row.prog 11) (envOfC (Str.ofString "law") (lawDef PySem.Challenge.rw_ay0009_02.row.prog).2 L fa cd)) Q E s := by
  obtain ⟨⟨m0, F⟩, N, ⟨⟨pa, ta, tra⟩, ⟨pc, tc, trc⟩⟩, CL, G, O⟩ := S
  simp only [lk] at F
  have TT : Tabs nx := ⟨⟨_, ta, tra⟩, ⟨_, tc, trc⟩⟩
  obtain ⟨oq9, hcq, hdq⟩ := CL (L + 1, some (.int q tq)) List.mem_cons_self
  dsimp only at hcq hdq
  have hr' := hr.out
  obtain ⟨dr, t1, t2, u1, u2, hr1, hr2⟩ := hr'
  have hf' := hf.at_
  obtain ⟨df, lf, t3f, t4f, vf, nf, hf1, hf2, hf3, hf4⟩ := hf'
  have hu' := hu.at_
  obtain ⟨du, lu, t3u, t4u, vu, nu, hu1, hu2, hu3, hu4⟩ := hu'
  revert X
  k_fill
  intro X
  conv =>
    arg 3
    arg 1
    whnf
  k_steps
  (all_goals (try k_data))
  · (rename (∃ k, _ = 1 + q * k) => hE7); have hP7 := P1 (by assumption) _ (by with_reducible assumption) (by with_reducible assumption) hE7
    rw [hP7]
    refine' k1 _ _ ?Sz1 ?Xz1 
    case Sz1 =>
      refine ⟨fr_lk (by k_asm) _ ?l9z1, ?n9z1, ?t9z1, ?c9z1, ?g9z1, ?o9z1⟩
      case l9z1 => (repeat (first | exact List.forall_mem_nil _ | (refine List.forall_mem_cons.mpr ⟨?_, ?_⟩; exact rfl)))
      case n9z1 => k_asm
      case t9z1 => (repeat (first | with_reducible assumption | refine Tabs.sub ?_ (by with_reducible assumption) | refine Tabs.of1 ?_ (by with_reducible assumption) (by with_reducible assumption) (by with_reducible assumption) | refine Tabs.of2 ?_ (by with_reducible assumption) (by with_reducible assumption) (by with_reducible assumption) | refine Tabs.sub ?_ (fun p hp => List.mem_cons_of_mem _ hp)))
      case c9z1 => first | ((repeat (first | with_reducible assumption | exact Cells.sub (by with_reducible assumption) (fun p hp => List.mem_cons_of_mem _ hp) | exact Cells.sub (by with_reducible assumption) (fun p hp => List.mem_cons_of_mem _ (List.mem_cons_of_mem _ hp)) | exact Cells.sub (by with_reducible assumption) (fun p hp => List.mem_cons_of_mem _ (List.mem_cons_of_mem _ (List.mem_cons_of_mem _ hp))) | exact Cells.sub (by with_reducible assumption) (fun p hp => List.mem_cons_of_mem _ (List.mem_cons_of_mem _ (List.mem_cons_of_mem _ (List.mem_cons_of_mem _ hp)))) | refine Cells.sub ?_ (by with_reducible assumption) | refine Cells.of1 ?_ (by with_reducible assumption) | refine Cells.sub ?_ (fun p hp => List.mem_cons_of_mem _ hp))); done) | ((rename CellsTo _ _ _ _ => hC8); refine hC8 _ ?_; (repeat (first | exact List.forall_mem_nil _ | (refine List.forall_mem_cons.mpr ⟨?_, ?_⟩; first | (refine .inl ?_; exact rfl) | (refine .inr ⟨by simp, ?_⟩; first | exact Nat.ne_of_lt (by omega) | exact Nat.ne_of_gt (by omega))))))
      case g9z1 => first | assumption | exact G
      case o9z1 => (repeat (first | exact O | refine Eq.trans (by with_reducible assumption) ?_))
    case Xz1 => (repeat (first | exact ext_refl | with_reducible assumption | refine ext_trans ?_ (by with_reducible assumption) | refine ext_cons ?_ | refine ext_trans ?_ (ext_of (by with_reducible assumption)) | refine ext_trans ?_ (ext_of1 (by with_reducible assumption))))
  · refine' k _ _ (by assumption) ?Sz2 ?Xz2 
    case Sz2 =>
      refine ⟨fr_lk (by k_asm) _ ?l9z2, ?n9z2, ?t9z2, ?c9z2, ?g9z2, ?o9z2⟩
      case l9z2 => (repeat (first | exact List.forall_mem_nil _ | (refine List.forall_mem_cons.mpr ⟨?_, ?_⟩; exact rfl)))
      case n9z2 => k_asm
      case t9z2 => (repeat (first | with_reducible assumption | refine Tabs.sub ?_ (by with_reducible assumption) | refine Tabs.of1 ?_ (by with_reducible assumption) (by with_reducible assumption) (by with_reducible assumption) | refine Tabs.of2 ?_ (by with_reducible assumption) (by with_reducible assumption) (by with_reducible assumption) | refine Tabs.sub ?_ (fun p hp => List.mem_cons_of_mem _ hp)))
      case c9z2 => first | ((repeat (first | with_reducible assumption | exact Cells.sub (by with_reducible assumption) (fun p hp => List.mem_cons_of_mem _ hp) | exact Cells.sub (by with_reducible assumption) (fun p hp => List.mem_cons_of_mem _ (List.mem_cons_of_mem _ hp)) | exact Cells.sub (by with_reducible assumption) (fun p hp => List.mem_cons_of_mem _ (List.mem_cons_of_mem _ (List.mem_cons_of_mem _ hp))) | exact Cells.sub (by with_reducible assumption) (fun p hp => List.mem_cons_of_mem _ (List.mem_cons_of_mem _ (List.mem_cons_of_mem _ (List.mem_cons_of_mem _ hp)))) | refine Cells.sub ?_ (by with_reducible assumption) | refine Cells.of1 ?_ (by with_reducible assumption) | refine Cells.sub ?_ (fun p hp => List.mem_cons_of_mem _ hp))); done) | ((rename CellsTo _ _ _ _ => hC8); refine hC8 _ ?_; (repeat (first | exact List.forall_mem_nil _ | (refine List.forall_mem_cons.mpr ⟨?_, ?_⟩; first | (refine .inl ?_; exact rfl) | (refine .inr ⟨by simp, ?_⟩; first | exact Nat.ne_of_lt (by omega) | exact Nat.ne_of_gt (by omega))))))
      case g9z2 => first | assumption | exact G
      case o9z2 => (repeat (first | exact O | refine Eq.trans (by with_reducible assumption) ?_))
    case Xz2 => (repeat (first | exact ext_refl | with_reducible assumption | refine ext_trans ?_ (by with_reducible assumption) | refine ext_cons ?_ | refine ext_trans ?_ (ext_of (by with_reducible assumption)) | refine ext_trans ?_ (ext_of1 (by with_reducible assumption))))

set_option maxRecDepth 100000 in
set_option maxHeartbeats 8000000 in
theorem st2_12 {w : World} {p : Program} {loose : List Str} {mean : ExcName → Option Value} {mg mb : Str → Option Value} {h₀ : Heap} {L fa : Addr} {cd : Value} {os0 : OsState} {s : Shared} {Q : Flow → Shared → Prop} {E : Value → Shared → Prop}
    (B : Below callerA h₀ [] h₀) (X : (Mine.hd.heap_1 w.params).In h₀) (T : Top p loose mean mg mb h₀) {nx : List (Addr × Obj)}
    {n : Nat} {tn : Tok} (hn : n = 2 ∨ n = 4) {q : Int} {tq : Tok} (hq : 2 ≤ q) (hqm : q ≤ 4294967297) (hqb : Builtin.Int.intBits q ≤ 100) {r fx ox : Addr} {Fc Oc : List Int} (hr : IsRing w nx r q n) (hf : IsPoly w nx r fx Fc) (hu : IsPoly w nx r ox Oc) (gf : Good q n Fc) (go : Good q n Oc) {NN : Int} {tN : Tok} (hN0 : 0 ≤ NN) (hNq : NN < q) {cc : Int} {tc : Tok} (hc : 1 ≤ cc) (P1 : (mulL q Fc (mulI q (Int.fdiv q cc) Oc)).all (· == 0) = true) (S : St h₀ L os0 [(Str.ofString "f", .ref fx), (Str.ofString "others", .ref ox), (Str.ofString "norm", .int NN tN), (Str.ofString "common", .int cc tc)] [(L + 1, some (.int q tq))] nx s)
    (k : ∀ s' nx', St h₀ L os0 [] [(L + 1, some (.int q tq))] nx' s' → Ext nx nx' → Q (.ret (.bool true)) s') :
    wpAny (model PySem.Challenge.rw_ay0009_02.row.prog w) (callerA.deeper (envOfC (Str.ofString "law") (lawDef PySem.Challenge.rw_ay0009_02.row.prog).2 L fa cd)) (exec (stm PySem.Challenge.rw_ay0009_02.row.prog 12) (envOfC (Str.ofString "law") (lawDef PySem.Challenge.rw_ay0009_02.row.prog).2 L fa cd)) Q E s := by
  obtain ⟨⟨m0, F⟩, N, ⟨⟨pa, ta, tra⟩, ⟨pc, tc, trc⟩⟩, CL, G, O⟩ := S
  simp only [lk] at F
  have TT : Tabs nx := ⟨⟨_, ta, tra⟩, ⟨_, tc, trc⟩⟩
  obtain ⟨oq9, hcq, hdq⟩ := CL (L + 1, some (.int q tq)) List.mem_cons_self
  dsimp only at hcq hdq
  have hr' := hr.out
  obtain ⟨dr, t1, t2, u1, u2, hr1, hr2⟩ := hr'
  have hf' := hf.at_
  obtain ⟨df, lf, t3f, t4f, vf, nf, hf1, hf2, hf3, hf4⟩ := hf'
  have hu' := hu.at_
  obtain ⟨du, lu, t3u, t4u, vu, nu, hu1, hu2, hu3, hu4⟩ := hu'
  have hc0 : cc ≠ 0 := by omega
  have hvb9 : Builtin.Int.intBits (Int.fdiv q cc) ≤ 64 := bits_div hq hqm hc
  revert X
  k_fill
  intro X
  conv =>
    arg 3
    arg 1
    whnf
  k_steps
  (all_goals (try k_data))
  rw [P1]
  refine' k _ _ ?Sz1 ?Xz1 
  case Sz1 =>
    refine ⟨fr_lk (by k_asm) _ ?l9z1, ?n9z1, ?t9z1, ?c9z1, ?g9z1, ?o9z1⟩
    case l9z1 => (repeat (first | exact List.forall_mem_nil _ | (refine List.forall_mem_cons.mpr ⟨?_, ?_⟩; exact rfl)))
    case n9z1 => k_asm
    case t9z1 => (repeat (first | with_reducible assumption | refine Tabs.sub ?_ (by with_reducible assumption) | refine Tabs.of1 ?_ (by with_reducible assumption) (by with_reducible assumption) (by with_reducible assumption) | refine Tabs.of2 ?_ (by with_reducible assumption) (by with_reducible assumption) (by with_reducible assumption) | refine Tabs.sub ?_ (fun p hp => List.mem_cons_of_mem _ hp)))
    case c9z1 => first | ((repeat (first | with_reducible assumption | exact Cells.sub (by with_reducible assumption) (fun p hp => List.mem_cons_of_mem _ hp) | exact Cells.sub (by with_reducible assumption) (fun p hp => List.mem_cons_of_mem _ (List.mem_cons_of_mem _ hp)) | exact Cells.sub (by with_reducible assumption) (fun p hp => List.mem_cons_of_mem _ (List.mem_cons_of_mem _ (List.mem_cons_of_mem _ hp))) | exact Cells.sub (by with_reducible assumption) (fun p hp => List.mem_cons_of_mem _ (List.mem_cons_of_mem _ (List.mem_cons_of_mem _ (List.mem_cons_of_mem _ hp)))) | refine Cells.sub ?_ (by with_reducible assumption) | refine Cells.of1 ?_ (by with_reducible assumption) | refine Cells.sub ?_ (fun p hp => List.mem_cons_of_mem _ hp))); done) | ((rename CellsTo _ _ _ _ => hC8); refine hC8 _ ?_; (repeat (first | exact List.forall_mem_nil _ | (refine List.forall_mem_cons.mpr ⟨?_, ?_⟩; first | (refine .inl ?_; exact rfl) | (refine .inr ⟨by simp, ?_⟩; first | exact Nat.ne_of_lt (by omega) | exact Nat.ne_of_gt (by omega))))))
    case g9z1 => first | assumption | exact G
    case o9z1 => (repeat (first | exact O | refine Eq.trans (by with_reducible assumption) ?_))
  case Xz1 => (repeat (first | exact ext_refl | with_reducible assumption | refine ext_trans ?_ (by with_reducible assumption) | refine ext_cons ?_ | refine ext_trans ?_ (ext_of (by with_reducible assumption)) | refine ext_trans ?_ (ext_of1 (by with_reducible assumption))))

end
section
local macro_rules | `(tactic| walk_at "call ref") => `(tactic| (k_here; (with_reducible show wpAny _ _ (call (Value.ref 146) _ _) _ _ _); kaf_suf; (with_reducible show wpAny _ _ (call (Value.ref 146) [Value.ref _, Value.ref _]) _ _ _); refine wpAny_call ?_; k_dflt (refine' G_addP ?hA ?hH ?hd ?hu ?B ?F ?X ?N ?T ?hf ?hke ?hn ?hr ?hx ?hy ?hq ?hqb ?hcs ?hds ?_; kat_tups; (case hn => assumption); (case hr => ktd_rel); (case hx => tb_start); (case hy => tb_start); kba_ints; (case hds => tb_rel); k_whole); kas_types; walk_say "USED G_addP"))
local macro_rules | `(tactic| walk_at "call ref") => `(tactic| (k_here; (with_reducible show wpAny _ _ (call (Value.ref 243) _ _) _ _ _); kaf_suf; (with_reducible show wpAny _ _ (call (Value.ref 243) [Value.ref _, Value.int _ _]) _ _ _); refine wpAny_call ?_; k_dflt (refine' G_turned ?hA ?hH ?hd ?hu ?B ?F ?X ?N ?T ?hf ?hke ?hn ?hr ?hx ?hq ?hqb ?hcs ?hk ?hk8 ?hko ?_; kat_tups; (case hn => assumption); (case hr => ktd_rel); (case hx => tb_start); kba_ints; (case hk => first | assumption | decide); (case hk8 => first | assumption | decide); (case hko => first | assumption | decide); k_whole); kas_types; walk_say "USED G_turned"))
local macro_rules | `(tactic| walk_at "compareOp NotEq ref ref") => `(tactic| (k_here; k_dflt (refine' ne_use ?F ?X ?hx ?hy ?hu ?_; (case F => k_asm); (case X => k_asm); (case hx => exact InstAt.at_ (by k_inst)); (case hy => exact InstAt.at_ (by k_inst)); (case hu => kwd_less); k_whole); refine wpAny_call ?_; k_dflt (refine' G_eqP ?hA ?hH ?hd ?hu ?B ?F ?X ?N ?T ?hf ?hke ?hn ?hr ?hx ?hy ?hq ?hqb ?hcs ?hds ?_; kat_tups; (case hn => assumption); (case hr => ktd_rel); (case hx => tb_start); (case hy => tb_start); kba_ints; (case hds => tb_rel); k_whole); intro h9 tk9 F9 N9; (try dsimp only); refine neBack_bool ?_; (try k_sweep); walk_say "USED NE"))
local macro_rules | `(tactic| tb_rel) => `(tactic| ((with_reducible show Good _ _ (turnK _ _ _)); refine turnK_good (by assumption) (by assumption) ?_; tb_rel))
local macro_rules | `(tactic| ktr_rel) => `(tactic| first | (with_reducible assumption) | (with_reducible exact List.mem_cons_self) | (refine' List.mem_cons_of_mem _ ?_; ktr_rel) | (refine' sub_mem (by with_reducible assumption) ?_; ktr_rel) | (refine' subT_mem (by with_reducible assumption) ?k9 ?o9; (case k9 => ktr_rel); (case o9 => kwd_inv)) | (refine' ext_mem (by with_reducible assumption) ?k9 (fun _ e => by cases e) (fun _ e => by cases e); (case k9 => ktr_rel)))
local macro_rules | `(tactic| walk_at "pyIter ref") => `(tactic| ((with_reducible show wpAny _ _ (pyIter (Value.ref _)) (fun it s₂ => LoopAtV _ _ _ _ _ _ _ _ _ it s₂) _ _); (rename Fr _ _ _ _ => lF'); (rename News _ _ _ _ => lN'); (rename IsRange _ _ _ _ _ _ _ _ => lR'); (rename (_ = 2 ∨ _ = 4) => hn9); (with_unfolding_all refine krs_iter (by rfl) lR' (rsm5 hn9) (rs5 hn9) lF' lN' ?_); clear lF' lN' lR'; intro i' l1; walk_say "KRS0"; (refine' krs5 [(Str.ofString "n", _), (Str.ofString "f", _), (Str.ofString "g", _), (Str.ofString "both", _)] (cs := [(_, some (Value.int _ _))]) hn9 ?hq ?gf ?go ?P ?_ ?_ ?hv ?e ?t ?c ?h1 ?h2; (case P => assumption); (case hv => (with_unfolding_all repeat (first | exact List.forall_mem_nil _ | (refine List.forall_mem_cons.mpr ⟨?_, ?_⟩; exact rfl)))); (case h1 => tb_start); (case h2 => tb_start); (case hq => assumption); (case gf => assumption); (case go => assumption); (case e => exact ext_refl); (case t => kfm_turns); (case c => kqd_sub)); walk_say "KRS1"; all_goals (k_dflt (simp only [lk, List.cons_append, List.nil_append]); intros; (try dsimp only)); walk_say "KRS"))
local macro_rules | `(tactic| walk_at "binaryOp Add ref ref") => `(tactic| (k_here; (with_reducible show wpAny _ _ (binaryOp _ (Value.ref _) (Value.ref _)) _ _ _); k_dflt (refine' binop_K ?F ?X ?I ?I2 ?c ?d ?e ?_; (case F => k_asm); (case X => k_asm); (case I => k_inst); (case I2 => k_typeOf); (case c => k_is); (case d => k_is); (case e => k_is); k_whole); walk_say "OWNADD"))
local macro_rules | `(tactic| walk_at "UnrEnd") => `(tactic| (k_dflt (refine' my_unrEndL ?F ?N ?hI ?hc ?hd ?_; (case F => k_asm); (case N => k_asm); (case hI => k_mem); (case hc => assumption); (case hd => assumption)); (intro nx8 X8 T8 C8); (have T80 := T8 (by kfm_turns)); (have C80 := C8 [(_, some (Value.int _ _))] (by kqd_sub)); clear T8 C8; (try dsimp only); walk_say "UNRENDL"; (rename (∀ _ _ _ _, _ → _ → _ → _ → _ → _ → J5 _ _ _ _ _ _ _ _ _ _ _) => hJ5); refine' hJ5 _ _ _ _ ?hv ?e ?t ?c ?h1 ?h2; (case hv => (with_unfolding_all repeat (first | exact List.forall_mem_nil _ | (refine List.forall_mem_cons.mpr ⟨?_, ?_⟩; exact rfl)))); (case e => kpt_turns); (case t => assumption); (case c => assumption); (case h1 => tb_start); (case h2 => tb_start); walk_say "J5"))
set_option maxRecDepth 100000 in
set_option maxHeartbeats 8000000 in
theorem st2_5 {w : World} {p : Program} {loose : List Str} {mean : ExcName → Option Value} {mg mb : Str → Option Value} {h₀ : Heap} {L fa : Addr} {cd : Value} {os0 : OsState} {s : Shared} {Q : Flow → Shared → Prop} {E : Value → Shared → Prop}
    (B : Below callerA h₀ [] h₀) (X : (Mine.hd.heap_1 w.params).In h₀) (T : Top p loose mean mg mb h₀) {nx : List (Addr × Obj)}
    (hE9 : PassesOwn (model PySem.Challenge.rw_ay0009_02.row.prog w) (callerA.deeper (envOfC (Str.ofString "law") (lawDef PySem.Challenge.rw_ay0009_02.row.prog).2 L fa cd)) (envOfC (Str.ofString "law") (lawDef PySem.Challenge.rw_ay0009_02.row.prog).2 L fa cd) E) {n : Nat} {tn : Tok} (hn : n = 2 ∨ n = 4) {q : Int} {tq : Tok} (hq : 2 ≤ q) (hqm : q ≤ 4294967297) (hqb : Builtin.Int.intBits q ≤ 100) {r fx gx : Addr} {Fc Gc : List Int} (hr : IsRing w nx r q n) (hf : IsPoly w nx r fx Fc) (hg : IsPoly w nx r gx Gc) (gf : Good q n Fc) (gg : Good q n Gc) {bx ox : Addr} {Bc Oc : List Int} (hb : IsPoly w nx r bx Bc) (hu : IsPoly w nx r ox Oc) (gb : Good q n Bc) (go : Good q n Oc) (P : ∀ i : Nat, turnK q (3 + (i : Int) * 2) Bc = mulL q (turnK q (3 + (i : Int) * 2) Fc) (turnK q (3 + (i : Int) * 2) Gc)) (S : St h₀ L os0 [(Str.ofString "n", .int n tn), (Str.ofString "f", .ref fx), (Str.ofString "g", .ref gx), (Str.ofString "both", .ref bx), (Str.ofString "total", .ref fx), (Str.ofString "others", .ref ox)] [(L + 1, some (.int q tq))] nx s)
    (k : ∀ s' nx' tx ox', St h₀ L os0 [(Str.ofString "n", .int n tn), (Str.ofString "f", .ref fx), (Str.ofString "g", .ref gx), (Str.ofString "both", .ref bx), (Str.ofString "total", .ref tx), (Str.ofString "others", .ref ox')] [(L + 1, some (.int q tq))] nx' s' → Ext nx nx' → IsPoly w nx' r tx (totL q Fc (n - 1)) → IsPoly w nx' r ox' (othL q Fc Oc (n - 1)) → Q .next s') :
    wpAny (model PySem.Challenge.rw_ay0009_02.row.prog w) (callerA.deeper (envOfC (Str.ofString "law") (lawDef PySem.Challenge.rw_ay0009_02.row.prog).2 L fa cd)) (exec (stm PySem.Challenge.rw_ay0009_02.row.prog 5) (envOfC (Str.ofString "law") (lawDef PySem.Challenge.rw_ay0009_02.row.prog).2 L fa cd)) Q E s := by
  obtain ⟨⟨m0, F⟩, N, ⟨⟨pa, ta, tra⟩, ⟨pc, tc, trc⟩⟩, CL, G, O⟩ := S
  simp only [lk] at F
  have TT : Tabs nx := ⟨⟨_, ta, tra⟩, ⟨_, tc, trc⟩⟩
  obtain ⟨oq9, hcq, hdq⟩ := CL (L + 1, some (.int q tq)) List.mem_cons_self
  dsimp only at hcq hdq
  have hr' := hr.out
  obtain ⟨dr, t1, t2, u1, u2, hr1, hr2⟩ := hr'
  have hf' := hf.at_
  obtain ⟨df, lf, t3f, t4f, vf, nf, hf1, hf2, hf3, hf4⟩ := hf'
  have hg' := hg.at_
  obtain ⟨dg, lg, t3g, t4g, vg, ng, hg1, hg2, hg3, hg4⟩ := hg'
  have hb' := hb.at_
  obtain ⟨db, lb, t3b, t4b, vb, nb, hb1, hb2, hb3, hb4⟩ := hb'
  have hu' := hu.at_
  obtain ⟨du, lu, t3u, t4u, vu, nu, hu1, hu2, hu3, hu4⟩ := hu'
  revert X
  k_fill
  intro X
  conv =>
    arg 3
    arg 1
    whnf
  k_steps
  (all_goals (try k_data))
  refine' k _ _ _ _ ?Sz1 ?Xz1 ?E0z1 ?E1z1
  case Sz1 =>
    refine ⟨fr_lk (by k_asm) _ ?l9z1, ?n9z1, ?t9z1, ?c9z1, ?g9z1, ?o9z1⟩
    case l9z1 => (repeat (first | exact List.forall_mem_nil _ | (refine List.forall_mem_cons.mpr ⟨?_, ?_⟩; exact rfl)))
    case n9z1 => k_asm
    case t9z1 => (repeat (first | with_reducible assumption | refine Tabs.sub ?_ (by with_reducible assumption) | refine Tabs.of1 ?_ (by with_reducible assumption) (by with_reducible assumption) (by with_reducible assumption) | refine Tabs.of2 ?_ (by with_reducible assumption) (by with_reducible assumption) (by with_reducible assumption) | refine Tabs.sub ?_ (fun p hp => List.mem_cons_of_mem _ hp)))
    case c9z1 => first | ((repeat (first | with_reducible assumption | exact Cells.sub (by with_reducible assumption) (fun p hp => List.mem_cons_of_mem _ hp) | exact Cells.sub (by with_reducible assumption) (fun p hp => List.mem_cons_of_mem _ (List.mem_cons_of_mem _ hp)) | exact Cells.sub (by with_reducible assumption) (fun p hp => List.mem_cons_of_mem _ (List.mem_cons_of_mem _ (List.mem_cons_of_mem _ hp))) | exact Cells.sub (by with_reducible assumption) (fun p hp => List.mem_cons_of_mem _ (List.mem_cons_of_mem _ (List.mem_cons_of_mem _ (List.mem_cons_of_mem _ hp)))) | refine Cells.sub ?_ (by with_reducible assumption) | refine Cells.of1 ?_ (by with_reducible assumption) | refine Cells.sub ?_ (fun p hp => List.mem_cons_of_mem _ hp))); done) | ((rename CellsTo _ _ _ _ => hC8); refine hC8 _ ?_; (repeat (first | exact List.forall_mem_nil _ | (refine List.forall_mem_cons.mpr ⟨?_, ?_⟩; first | (refine .inl ?_; exact rfl) | (refine .inr ⟨by simp, ?_⟩; first | exact Nat.ne_of_lt (by omega) | exact Nat.ne_of_gt (by omega))))))
    case g9z1 => first | assumption | exact G
    case o9z1 => (repeat (first | exact O | refine Eq.trans (by with_reducible assumption) ?_))
  case Xz1 => (repeat (first | exact ext_refl | with_reducible assumption | refine ext_trans ?_ (by with_reducible assumption) | refine ext_cons ?_ | refine ext_trans ?_ (ext_of (by with_reducible assumption)) | refine ext_trans ?_ (ext_of1 (by with_reducible assumption))))
  case E0z1 => tb_start
  case E1z1 => tb_start

end
section
open Lean.Grind
structure P2 where
  a : Int
  b : Int
structure P4 where
  a : Int
  b : Int
  c : Int
  d : Int
theorem P2.ext' {x y : P2} (h1 : x.a = y.a) (h2 : x.b = y.b) : x = y := by cases x; cases y; simp_all
theorem P4.ext' {x y : P4} (h1 : x.a = y.a) (h2 : x.b = y.b) (h3 : x.c = y.c) (h4 : x.d = y.d) : x = y := by cases x; cases y; simp_all
def P2.mul (x y : P2) : P2 := ⟨x.a * y.a - x.b * y.b, x.a * y.b + x.b * y.a⟩
def P4.mul (x y : P4) : P4 := ⟨x.a * y.a - x.b * y.d - x.c * y.c - x.d * y.b, x.a * y.b + x.b * y.a - x.c * y.d - x.d * y.c, x.a * y.c + x.b * y.b + x.c * y.a - x.d * y.d, x.a * y.d + x.b * y.c + x.c * y.b + x.d * y.a⟩
def P2.pow (x : P2) : Nat → P2
  | 0 => ⟨1, 0⟩
  | n + 1 => (P2.pow x n).mul x
def P4.pow (x : P4) : Nat → P4
  | 0 => ⟨1, 0, 0, 0⟩
  | n + 1 => (P4.pow x n).mul x
abbrev P2.ring : CommRing P2 where
  add x y := ⟨x.a + y.a, x.b + y.b⟩
  mul := P2.mul
  natCast := ⟨fun n => ⟨n, 0⟩⟩
  ofNat n := ⟨⟨n, 0⟩⟩
  nsmul := ⟨fun n x => P2.mul ⟨n, 0⟩ x⟩
  npow := ⟨P2.pow⟩
  add_zero x := P2.ext' (Int.add_zero _) (Int.add_zero _)
  add_comm x y := P2.ext' (Int.add_comm _ _) (Int.add_comm _ _)
  add_assoc x y z := P2.ext' (Int.add_assoc _ _ _) (Int.add_assoc _ _ _)
  mul_assoc x y z := P2.ext' (show (P2.mul (P2.mul x y) z).a = (P2.mul x (P2.mul y z)).a from by simp only [P2.mul]; grind) (show (P2.mul (P2.mul x y) z).b = (P2.mul x (P2.mul y z)).b from by simp only [P2.mul]; grind)
  mul_one x := P2.ext' (show (P2.mul x ⟨1, 0⟩).a = (x).a from by simp only [P2.mul]; grind) (show (P2.mul x ⟨1, 0⟩).b = (x).b from by simp only [P2.mul]; grind)
  one_mul x := P2.ext' (show (P2.mul ⟨1, 0⟩ x).a = (x).a from by simp only [P2.mul]; grind) (show (P2.mul ⟨1, 0⟩ x).b = (x).b from by simp only [P2.mul]; grind)
  left_distrib x y z := P2.ext' (show (P2.mul x ⟨y.a + z.a, y.b + z.b⟩).a = ((⟨(P2.mul x y).a + (P2.mul x z).a, (P2.mul x y).b + (P2.mul x z).b⟩ : P2)).a from by simp only [P2.mul]; grind) (show (P2.mul x ⟨y.a + z.a, y.b + z.b⟩).b = ((⟨(P2.mul x y).a + (P2.mul x z).a, (P2.mul x y).b + (P2.mul x z).b⟩ : P2)).b from by simp only [P2.mul]; grind)
  right_distrib x y z := P2.ext' (show (P2.mul ⟨x.a + y.a, x.b + y.b⟩ z).a = ((⟨(P2.mul x z).a + (P2.mul y z).a, (P2.mul x z).b + (P2.mul y z).b⟩ : P2)).a from by simp only [P2.mul]; grind) (show (P2.mul ⟨x.a + y.a, x.b + y.b⟩ z).b = ((⟨(P2.mul x z).a + (P2.mul y z).a, (P2.mul x z).b + (P2.mul y z).b⟩ : P2)).b from by simp only [P2.mul]; grind)
  zero_mul x := P2.ext' (show (P2.mul ⟨0, 0⟩ x).a = ((⟨0, 0⟩ : P2)).a from by simp only [P2.mul]; grind) (show (P2.mul ⟨0, 0⟩ x).b = ((⟨0, 0⟩ : P2)).b from by simp only [P2.mul]; grind)
  mul_zero x := P2.ext' (show (P2.mul x ⟨0, 0⟩).a = ((⟨0, 0⟩ : P2)).a from by simp only [P2.mul]; grind) (show (P2.mul x ⟨0, 0⟩).b = ((⟨0, 0⟩ : P2)).b from by simp only [P2.mul]; grind)
  pow_zero x := rfl
  pow_succ x n := rfl
  ofNat_succ n := P2.ext' (show ((n + 1 : Nat) : Int) = (n : Int) + 1 from rfl) rfl
  neg x := ⟨-x.a, -x.b⟩
  sub x y := ⟨x.a - y.a, x.b - y.b⟩
  intCast := ⟨fun n => ⟨n, 0⟩⟩
  zsmul := ⟨fun n x => P2.mul ⟨n, 0⟩ x⟩
  neg_add_cancel x := P2.ext' (Int.add_left_neg _) (Int.add_left_neg _)
  sub_eq_add_neg x y := P2.ext' Int.sub_eq_add_neg Int.sub_eq_add_neg
  neg_zsmul i x := P2.ext' (show (P2.mul ⟨-i, 0⟩ x).a = ((⟨-(P2.mul ⟨i, 0⟩ x).a, -(P2.mul ⟨i, 0⟩ x).b⟩ : P2)).a from by simp only [P2.mul]; grind) (show (P2.mul ⟨-i, 0⟩ x).b = ((⟨-(P2.mul ⟨i, 0⟩ x).a, -(P2.mul ⟨i, 0⟩ x).b⟩ : P2)).b from by simp only [P2.mul]; grind)
  intCast_neg i := P2.ext' rfl (show (0:Int) = -0 from rfl)
  mul_comm x y := P2.ext' (show (P2.mul x y).a = (P2.mul y x).a from by simp only [P2.mul]; grind) (show (P2.mul x y).b = (P2.mul y x).b from by simp only [P2.mul]; grind)
abbrev P4.ring : CommRing P4 where
  add x y := ⟨x.a + y.a, x.b + y.b, x.c + y.c, x.d + y.d⟩
  mul := P4.mul
  natCast := ⟨fun n => ⟨n, 0, 0, 0⟩⟩
  ofNat n := ⟨⟨n, 0, 0, 0⟩⟩
  nsmul := ⟨fun n x => P4.mul ⟨n, 0, 0, 0⟩ x⟩
  npow := ⟨P4.pow⟩
  add_zero x := P4.ext' (Int.add_zero _) (Int.add_zero _) (Int.add_zero _) (Int.add_zero _)
  add_comm x y := P4.ext' (Int.add_comm _ _) (Int.add_comm _ _) (Int.add_comm _ _) (Int.add_comm _ _)
  add_assoc x y z := P4.ext' (Int.add_assoc _ _ _) (Int.add_assoc _ _ _) (Int.add_assoc _ _ _) (Int.add_assoc _ _ _)
  mul_assoc x y z := P4.ext' (show (P4.mul (P4.mul x y) z).a = (P4.mul x (P4.mul y z)).a from by simp only [P4.mul]; grind) (show (P4.mul (P4.mul x y) z).b = (P4.mul x (P4.mul y z)).b from by simp only [P4.mul]; grind) (show (P4.mul (P4.mul x y) z).c = (P4.mul x (P4.mul y z)).c from by simp only [P4.mul]; grind) (show (P4.mul (P4.mul x y) z).d = (P4.mul x (P4.mul y z)).d from by simp only [P4.mul]; grind)
  mul_one x := P4.ext' (show (P4.mul x ⟨1, 0, 0, 0⟩).a = (x).a from by simp only [P4.mul]; grind) (show (P4.mul x ⟨1, 0, 0, 0⟩).b = (x).b from by simp only [P4.mul]; grind) (show (P4.mul x ⟨1, 0, 0, 0⟩).c = (x).c from by simp only [P4.mul]; grind) (show (P4.mul x ⟨1, 0, 0, 0⟩).d = (x).d from by simp only [P4.mul]; grind)
  one_mul x := P4.ext' (show (P4.mul ⟨1, 0, 0, 0⟩ x).a = (x).a from by simp only [P4.mul]; grind) (show (P4.mul ⟨1, 0, 0, 0⟩ x).b = (x).b from by simp only [P4.mul]; grind) (show (P4.mul ⟨1, 0, 0, 0⟩ x).c = (x).c from by simp only [P4.mul]; grind) (show (P4.mul ⟨1, 0, 0, 0⟩ x).d = (x).d from by simp only [P4.mul]; grind)
  left_distrib x y z := P4.ext' (show (P4.mul x ⟨y.a + z.a, y.b + z.b, y.c + z.c, y.d + z.d⟩).a = ((⟨(P4.mul x y).a + (P4.mul x z).a, (P4.mul x y).b + (P4.mul x z).b, (P4.mul x y).c + (P4.mul x z).c, (P4.mul x y).d + (P4.mul x z).d⟩ : P4)).a from by simp only [P4.mul]; grind) (show (P4.mul x ⟨y.a + z.a, y.b + z.b, y.c + z.c, y.d + z.d⟩).b = ((⟨(P4.mul x y).a + (P4.mul x z).a, (P4.mul x y).b + (P4.mul x z).b, (P4.mul x y).c + (P4.mul x z).c, (P4.mul x y).d + (P4.mul x z).d⟩ : P4)).b from by simp only [P4.mul]; grind) (show (P4.mul x ⟨y.a + z.a, y.b + z.b, y.c + z.c, y.d + z.d⟩).c = ((⟨(P4.mul x y).a + (P4.mul x z).a, (P4.mul x y).b + (P4.mul x z).b, (P4.mul x y).c + (P4.mul x z).c, (P4.mul x y).d + (P4.mul x z).d⟩ : P4)).c from by simp only [P4.mul]; grind) (show (P4.mul x ⟨y.a + z.a, y.b + z.b, y.c + z.c, y.d + z.d⟩).d = ((⟨(P4.mul x y).a + (P4.mul x z).a, (P4.mul x y).b + (P4.mul x z).b, (P4.mul x y).c + (P4.mul x z).c, (P4.mul x y).d + (P4.mul x z).d⟩ : P4)).d from by simp only [P4.mul]; grind)
  right_distrib x y z := P4.ext' (show (P4.mul ⟨x.a + y.a, x.b + y.b, x.c + y.c, x.d + y.d⟩ z).a = ((⟨(P4.mul x z).a + (P4.mul y z).a, (P4.mul x z).b + (P4.mul y z).b, (P4.mul x z).c + (P4.mul y z).c, (P4.mul x z).d + (P4.mul y z).d⟩ : P4)).a from by simp only [P4.mul]; grind) (show (P4.mul ⟨x.a + y.a, x.b + y.b, x.c + y.c, x.d + y.d⟩ z).b = ((⟨(P4.mul x z).a + (P4.mul y z).a, (P4.mul x z).b + (P4.mul y z).b, (P4.mul x z).c + (P4.mul y z).c, (P4.mul x z).d + (P4.mul y z).d⟩ : P4)).b from by simp only [P4.mul]; grind) (show (P4.mul ⟨x.a + y.a, x.b + y.b, x.c + y.c, x.d + y.d⟩ z).c = ((⟨(P4.mul x z).a + (P4.mul y z).a, (P4.mul x z).b + (P4.mul y z).b, (P4.mul x z).c + (P4.mul y z).c, (P4.mul x z).d + (P4.mul y z).d⟩ : P4)).c from by simp only [P4.mul]; grind) (show (P4.mul ⟨x.a + y.a, x.b + y.b, x.c + y.c, x.d + y.d⟩ z).d = ((⟨(P4.mul x z).a + (P4.mul y z).a, (P4.mul x z).b + (P4.mul y z).b, (P4.mul x z).c + (P4.mul y z).c, (P4.mul x z).d + (P4.mul y z).d⟩ : P4)).d from by simp only [P4.mul]; grind)
  zero_mul x := P4.ext' (show (P4.mul ⟨0, 0, 0, 0⟩ x).a = ((⟨0, 0, 0, 0⟩ : P4)).a from by simp only [P4.mul]; grind) (show (P4.mul ⟨0, 0, 0, 0⟩ x).b = ((⟨0, 0, 0, 0⟩ : P4)).b from by simp only [P4.mul]; grind) (show (P4.mul ⟨0, 0, 0, 0⟩ x).c = ((⟨0, 0, 0, 0⟩ : P4)).c from by simp only [P4.mul]; grind) (show (P4.mul ⟨0, 0, 0, 0⟩ x).d = ((⟨0, 0, 0, 0⟩ : P4)).d from by simp only [P4.mul]; grind)
  mul_zero x := P4.ext' (show (P4.mul x ⟨0, 0, 0, 0⟩).a = ((⟨0, 0, 0, 0⟩ : P4)).a from by simp only [P4.mul]; grind) (show (P4.mul x ⟨0, 0, 0, 0⟩).b = ((⟨0, 0, 0, 0⟩ : P4)).b from by simp only [P4.mul]; grind) (show (P4.mul x ⟨0, 0, 0, 0⟩).c = ((⟨0, 0, 0, 0⟩ : P4)).c from by simp only [P4.mul]; grind) (show (P4.mul x ⟨0, 0, 0, 0⟩).d = ((⟨0, 0, 0, 0⟩ : P4)).d from by simp only [P4.mul]; grind)
  pow_zero x := rfl
  pow_succ x n := rfl
  ofNat_succ n := P4.ext' (show ((n + 1 : Nat) : Int) = (n : Int) + 1 from rfl) rfl rfl rfl
  neg x := ⟨-x.a, -x.b, -x.c, -x.d⟩
  sub x y := ⟨x.a - y.a, x.b - y.b, x.c - y.c, x.d - y.d⟩
  intCast := ⟨fun n => ⟨n, 0, 0, 0⟩⟩
  zsmul := ⟨fun n x => P4.mul ⟨n, 0, 0, 0⟩ x⟩
  neg_add_cancel x := P4.ext' (Int.add_left_neg _) (Int.add_left_neg _) (Int.add_left_neg _) (Int.add_left_neg _)
  sub_eq_add_neg x y := P4.ext' Int.sub_eq_add_neg Int.sub_eq_add_neg Int.sub_eq_add_neg Int.sub_eq_add_neg
  neg_zsmul i x := P4.ext' (show (P4.mul ⟨-i, 0, 0, 0⟩ x).a = ((⟨-(P4.mul ⟨i, 0, 0, 0⟩ x).a, -(P4.mul ⟨i, 0, 0, 0⟩ x).b, -(P4.mul ⟨i, 0, 0, 0⟩ x).c, -(P4.mul ⟨i, 0, 0, 0⟩ x).d⟩ : P4)).a from by simp only [P4.mul]; grind) (show (P4.mul ⟨-i, 0, 0, 0⟩ x).b = ((⟨-(P4.mul ⟨i, 0, 0, 0⟩ x).a, -(P4.mul ⟨i, 0, 0, 0⟩ x).b, -(P4.mul ⟨i, 0, 0, 0⟩ x).c, -(P4.mul ⟨i, 0, 0, 0⟩ x).d⟩ : P4)).b from by simp only [P4.mul]; grind) (show (P4.mul ⟨-i, 0, 0, 0⟩ x).c = ((⟨-(P4.mul ⟨i, 0, 0, 0⟩ x).a, -(P4.mul ⟨i, 0, 0, 0⟩ x).b, -(P4.mul ⟨i, 0, 0, 0⟩ x).c, -(P4.mul ⟨i, 0, 0, 0⟩ x).d⟩ : P4)).c from by simp only [P4.mul]; grind) (show (P4.mul ⟨-i, 0, 0, 0⟩ x).d = ((⟨-(P4.mul ⟨i, 0, 0, 0⟩ x).a, -(P4.mul ⟨i, 0, 0, 0⟩ x).b, -(P4.mul ⟨i, 0, 0, 0⟩ x).c, -(P4.mul ⟨i, 0, 0, 0⟩ x).d⟩ : P4)).d from by simp only [P4.mul]; grind)
  intCast_neg i := P4.ext' rfl (show (0:Int) = -0 from rfl) (show (0:Int) = -0 from rfl) (show (0:Int) = -0 from rfl)
  mul_comm x y := P4.ext' (show (P4.mul x y).a = (P4.mul y x).a from by simp only [P4.mul]; grind) (show (P4.mul x y).b = (P4.mul y x).b from by simp only [P4.mul]; grind) (show (P4.mul x y).c = (P4.mul y x).c from by simp only [P4.mul]; grind) (show (P4.mul x y).d = (P4.mul y x).d from by simp only [P4.mul]; grind)

end
section
abbrev ic {R : Type} [Lean.Grind.CommRing R] (z : Int) : R := (Lean.Grind.Ring.intCast (α := R)).intCast z
open Lean.Grind in
structure IsKit (n : Nat) {R : Type} [CommRing R] (φ : List Int → R) (N : R → Int) (X : R) : Prop where
  mulL : ∀ (q : Int) (a b : List Int), a.length = n → b.length = n → ∃ z, φ (mulL q a b) = φ a * φ b + ic q * z
  addI : ∀ (q v : Int) (a : List Int), a.length = n → ∃ z, φ (addI q v a) = φ a + ic v + ic q * z
  one : φ (oneL n) = 1
  gen : φ (0 :: 1 :: List.replicate (n - 2) 0) = X
  norm : ∀ a : List Int, a.length = n → normL a = N (φ a)
  Nmul : ∀ x y, N (x * y) = N x * N y
  N1 : N 1 = 1
  conj : ∀ x, ∃ y, x * y = ic (N x)
  Nmod : ∀ x (q : Int) z, ∃ k, N (x + ic q * z) = N x + q * k
  cong : ∀ (q : Int) (a b : List Int), Good q n a → Good q n b → (∃ z, φ a = φ b + ic q * z) → a = b
  eqI : ∀ (q v : Int) (a : List Int), 0 < q → Good q n a → (eqI q v a = true ↔ ∃ z, φ a = ic v + ic q * z)
  zero : ∀ (q : Int) (a : List Int), Good q n a → (a.all (· == 0) = true ↔ ∃ z, φ a = ic q * z)
def φ2 : List Int → P2
  | [a, b] => ⟨a, b⟩
  | _ => ⟨0, 0⟩
def φ4 : List Int → P4
  | [a, b, c, d] => ⟨a, b, c, d⟩
  | _ => ⟨0, 0, 0, 0⟩
def N2 (x : P2) : Int := x.a * x.a + x.b * x.b
def P4.u (x : P4) : Int := x.a * x.a - x.c * x.c + 2 * (x.b * x.d)
def P4.v (x : P4) : Int := 2 * (x.a * x.c) - x.b * x.b + x.d * x.d
def N4 (x : P4) : Int := x.u * x.u + x.v * x.v
theorem emod_ex (q a : Int) : ∃ t, a % q = a + q * t := ⟨-(a / q), by rw [Int.emod_def]; grind⟩
theorem red_eq {q a b t : Int} (h1 : 0 ≤ a ∧ a < q) (h2 : 0 ≤ b ∧ b < q) (e : a = b + q * t) : a = b := by
  have h3 := Int.emod_eq_of_lt h1.1 h1.2
  have h4 := Int.emod_eq_of_lt h2.1 h2.2
  rw [← h3, ← h4, e, Int.add_mul_emod_self_left]
theorem kit2 : @IsKit 2 P2 P2.ring φ2 N2 ⟨0, 1⟩ := by
  letI := P2.ring
  refine @IsKit.mk 2 P2 P2.ring φ2 N2 ⟨0, 1⟩ ?_ ?_ ?_ ?_ ?_ ?_ ?_ ?_ ?_ ?_ ?_ ?_
  · intro q a b ha hb
    obtain ⟨a0, a1, rfl⟩ := len_two ha
    obtain ⟨b0, b1, rfl⟩ := len_two hb
    obtain ⟨t0, h0⟩ := emod_ex q (a0 * b0 - a1 * b1)
    obtain ⟨t1, h1⟩ := emod_ex q (a0 * b1 + a1 * b0)
    refine ⟨⟨t0, t1⟩, P2.ext' ?_ ?_⟩
    · show (a0 * b0 - a1 * b1) % q = (a0 * b0 - a1 * b1) + (q * t0 - 0 * t1)
      rw [h0]; grind
    · show (a0 * b1 + a1 * b0) % q = (a0 * b1 + a1 * b0) + (q * t1 + 0 * t0)
      rw [h1]; grind
  · intro q v a ha
    obtain ⟨a0, a1, rfl⟩ := len_two ha
    obtain ⟨t0, h0⟩ := emod_ex q (a0 + v)
    refine ⟨⟨t0, 0⟩, P2.ext' ?_ ?_⟩
    · show (a0 + v) % q = a0 + v + (q * t0 - 0 * 0)
      rw [h0]; grind
    · show a1 = a1 + 0 + (q * 0 + 0 * t0)
      grind
  · rfl
  · rfl
  · intro a ha
    obtain ⟨a0, a1, rfl⟩ := len_two ha
    rfl
  · intro x y
    show (P2.mul x y).a * (P2.mul x y).a + (P2.mul x y).b * (P2.mul x y).b = (x.a * x.a + x.b * x.b) * (y.a * y.a + y.b * y.b)
    simp only [P2.mul]; grind
  · rfl
  · intro x
    refine ⟨⟨x.a, -x.b⟩, P2.ext' ?_ ?_⟩
    · show x.a * x.a - x.b * (-x.b) = x.a * x.a + x.b * x.b
      grind
    · show x.a * (-x.b) + x.b * x.a = 0
      grind
  · intro x q z
    refine ⟨2 * (x.a * z.a + x.b * z.b) + q * (z.a * z.a + z.b * z.b), ?_⟩
    show (x.a + (q * z.a - 0 * z.b)) * (x.a + (q * z.a - 0 * z.b)) + (x.b + (q * z.b + 0 * z.a)) * (x.b + (q * z.b + 0 * z.a)) = x.a * x.a + x.b * x.b + _
    grind
  · rintro q a b ga gb ⟨z, h⟩
    obtain ⟨a0, a1, rfl⟩ := ga.two
    obtain ⟨b0, b1, rfl⟩ := gb.two
    have e0 : a0 = b0 + (q * z.a - 0 * z.b) := congrArg P2.a h
    have e1 : a1 = b1 + (q * z.b + 0 * z.a) := congrArg P2.b h
    rw [red_eq (ga.red a0 (by simp)) (gb.red b0 (by simp)) (t := z.a) (by rw [e0]; grind), red_eq (ga.red a1 (by simp)) (gb.red b1 (by simp)) (t := z.b) (by rw [e1]; grind)]
  · intro q v a hq ga
    obtain ⟨a0, a1, rfl⟩ := ga.two
    have g0 := ga.red a0 (by simp)
    have g1 := ga.red a1 (by simp)
    obtain ⟨t0, h0⟩ := emod_ex q v
    have hv : 0 ≤ v % q ∧ v % q < q := ⟨Int.emod_nonneg _ (by omega), Int.emod_lt_of_pos _ hq⟩
    simp only [Mine.eqI, List.all_cons, List.all_nil, Bool.and_true, Bool.and_eq_true, beq_iff_eq]
    constructor
    · rintro ⟨rfl, h⟩
      refine ⟨⟨t0, 0⟩, P2.ext' ?_ ?_⟩
      · show a0 = v + (q * t0 - 0 * 0)
        rw [← h, h0]; grind
      · show (0:Int) = 0 + (q * 0 + 0 * t0)
        grind
    · rintro ⟨z, h⟩
      have e0 : a0 = v + (q * z.a - 0 * z.b) := congrArg P2.a h
      have e1 : a1 = 0 + (q * z.b + 0 * z.a) := congrArg P2.b h
      refine ⟨red_eq g1 ⟨Int.le_refl 0, hq⟩ (t := z.b) (by rw [e1]; grind), red_eq hv g0 (t := t0 - z.a) (by rw [h0, e0]; grind)⟩
  · intro q a ga
    obtain ⟨a0, a1, rfl⟩ := ga.two
    have g0 := ga.red a0 (by simp)
    have g1 := ga.red a1 (by simp)
    simp only [List.all_cons, List.all_nil, Bool.and_true, Bool.and_eq_true, beq_iff_eq]
    constructor
    · rintro ⟨rfl, rfl⟩
      exact ⟨⟨0, 0⟩, P2.ext' (show (0:Int) = q * 0 - 0 * 0 by simp) (show (0:Int) = q * 0 + 0 * 0 by simp)⟩
    · rintro ⟨z, h⟩
      have e0 : a0 = (q * z.a - 0 * z.b) := congrArg P2.a h
      have e1 : a1 = (q * z.b + 0 * z.a) := congrArg P2.b h
      have hq : 0 < q := by omega
      exact ⟨red_eq g0 ⟨Int.le_refl 0, hq⟩ (t := z.a) (by rw [e0]; grind), red_eq g1 ⟨Int.le_refl 0, hq⟩ (t := z.b) (by rw [e1]; grind)⟩
theorem P4.u_mul (x y : P4) : (P4.mul x y).u = x.u * y.u - x.v * y.v := by simp only [P4.mul, P4.u, P4.v]; grind
theorem P4.v_mul (x y : P4) : (P4.mul x y).v = x.u * y.v + x.v * y.u := by simp only [P4.mul, P4.u, P4.v]; grind
theorem kit4 : @IsKit 4 P4 P4.ring φ4 N4 ⟨0, 1, 0, 0⟩ := by
  letI := P4.ring
  refine @IsKit.mk 4 P4 P4.ring φ4 N4 ⟨0, 1, 0, 0⟩ ?_ ?_ ?_ ?_ ?_ ?_ ?_ ?_ ?_ ?_ ?_ ?_
  · intro q a b ha hb
    obtain ⟨a0, a1, a2, a3, rfl⟩ := len_four ha
    obtain ⟨b0, b1, b2, b3, rfl⟩ := len_four hb
    obtain ⟨t0, h0⟩ := emod_ex q (a0 * b0 - a1 * b3 - a2 * b2 - a3 * b1)
    obtain ⟨t1, h1⟩ := emod_ex q (a0 * b1 + a1 * b0 - a2 * b3 - a3 * b2)
    obtain ⟨t2, h2⟩ := emod_ex q (a0 * b2 + a1 * b1 + a2 * b0 - a3 * b3)
    obtain ⟨t3, h3⟩ := emod_ex q (a0 * b3 + a1 * b2 + a2 * b1 + a3 * b0)
    refine ⟨⟨t0, t1, t2, t3⟩, P4.ext' ?_ ?_ ?_ ?_⟩
    · show (a0 * b0 - a1 * b3 - a2 * b2 - a3 * b1) % q = (a0 * b0 - a1 * b3 - a2 * b2 - a3 * b1) + (q * t0 - 0 * t3 - 0 * t2 - 0 * t1)
      rw [h0]; grind
    · show (a0 * b1 + a1 * b0 - a2 * b3 - a3 * b2) % q = (a0 * b1 + a1 * b0 - a2 * b3 - a3 * b2) + (q * t1 + 0 * t0 - 0 * t3 - 0 * t2)
      rw [h1]; grind
    · show (a0 * b2 + a1 * b1 + a2 * b0 - a3 * b3) % q = (a0 * b2 + a1 * b1 + a2 * b0 - a3 * b3) + (q * t2 + 0 * t1 + 0 * t0 - 0 * t3)
      rw [h2]; grind
    · show (a0 * b3 + a1 * b2 + a2 * b1 + a3 * b0) % q = (a0 * b3 + a1 * b2 + a2 * b1 + a3 * b0) + (q * t3 + 0 * t2 + 0 * t1 + 0 * t0)
      rw [h3]; grind
  · intro q v a ha
    obtain ⟨a0, a1, a2, a3, rfl⟩ := len_four ha
    obtain ⟨t0, h0⟩ := emod_ex q (a0 + v)
    refine ⟨⟨t0, 0, 0, 0⟩, P4.ext' ?_ ?_ ?_ ?_⟩
    · show (a0 + v) % q = a0 + v + (q * t0 - 0 * 0 - 0 * 0 - 0 * 0)
      rw [h0]; grind
    · show a1 = a1 + 0 + (q * 0 + 0 * t0 - 0 * 0 - 0 * 0)
      grind
    · show a2 = a2 + 0 + (q * 0 + 0 * 0 + 0 * t0 - 0 * 0)
      grind
    · show a3 = a3 + 0 + (q * 0 + 0 * 0 + 0 * 0 + 0 * t0)
      grind
  · rfl
  · rfl
  · intro a ha
    obtain ⟨a0, a1, a2, a3, rfl⟩ := len_four ha
    rfl
  · intro x y
    show (P4.mul x y).u * (P4.mul x y).u + (P4.mul x y).v * (P4.mul x y).v = (x.u * x.u + x.v * x.v) * (y.u * y.u + y.v * y.v)
    rw [P4.u_mul, P4.v_mul]; grind
  · rfl
  · intro x
    -- x(X) x(-X) = u + v X^2; times u - v X^2
    refine ⟨P4.mul ⟨x.a, -x.b, x.c, -x.d⟩ ⟨x.u, 0, -x.v, 0⟩, P4.ext' ?_ ?_ ?_ ?_⟩
    · show (P4.mul x (P4.mul ⟨x.a, -x.b, x.c, -x.d⟩ ⟨x.u, 0, -x.v, 0⟩)).a = x.u * x.u + x.v * x.v
      simp only [P4.mul, P4.u, P4.v]; grind
    · show (P4.mul x (P4.mul ⟨x.a, -x.b, x.c, -x.d⟩ ⟨x.u, 0, -x.v, 0⟩)).b = 0
      simp only [P4.mul, P4.u, P4.v]; grind
    · show (P4.mul x (P4.mul ⟨x.a, -x.b, x.c, -x.d⟩ ⟨x.u, 0, -x.v, 0⟩)).c = 0
      simp only [P4.mul, P4.u, P4.v]; grind
    · show (P4.mul x (P4.mul ⟨x.a, -x.b, x.c, -x.d⟩ ⟨x.u, 0, -x.v, 0⟩)).d = 0
      simp only [P4.mul, P4.u, P4.v]; grind
  · intro x q z
    have e1 : (P4.mk (x.a + (q * z.a - 0 * z.d - 0 * z.c - 0 * z.b)) (x.b + (q * z.b + 0 * z.a - 0 * z.d - 0 * z.c)) (x.c + (q * z.c + 0 * z.b + 0 * z.a - 0 * z.d)) (x.d + (q * z.d + 0 * z.c + 0 * z.b + 0 * z.a))).u = x.u + q * (2 * x.a * z.a + q * (z.a * z.a) - 2 * x.c * z.c - q * (z.c * z.c) + 2 * (x.b * z.d + z.b * x.d) + 2 * q * (z.b * z.d)) := by
      simp only [P4.u]; grind
    have e2 : (P4.mk (x.a + (q * z.a - 0 * z.d - 0 * z.c - 0 * z.b)) (x.b + (q * z.b + 0 * z.a - 0 * z.d - 0 * z.c)) (x.c + (q * z.c + 0 * z.b + 0 * z.a - 0 * z.d)) (x.d + (q * z.d + 0 * z.c + 0 * z.b + 0 * z.a))).v = x.v + q * (2 * (x.a * z.c + z.a * x.c) + 2 * q * (z.a * z.c) - 2 * x.b * z.b - q * (z.b * z.b) + 2 * x.d * z.d + q * (z.d * z.d)) := by
      simp only [P4.v]; grind
    generalize (2 * x.a * z.a + q * (z.a * z.a) - 2 * x.c * z.c - q * (z.c * z.c) + 2 * (x.b * z.d + z.b * x.d) + 2 * q * (z.b * z.d)) = U at e1
    generalize (2 * (x.a * z.c + z.a * x.c) + 2 * q * (z.a * z.c) - 2 * x.b * z.b - q * (z.b * z.b) + 2 * x.d * z.d + q * (z.d * z.d)) = W at e2
    refine ⟨2 * x.u * U + q * (U * U) + 2 * x.v * W + q * (W * W), ?_⟩
    show (P4.mk (x.a + (q * z.a - 0 * z.d - 0 * z.c - 0 * z.b)) (x.b + (q * z.b + 0 * z.a - 0 * z.d - 0 * z.c)) (x.c + (q * z.c + 0 * z.b + 0 * z.a - 0 * z.d)) (x.d + (q * z.d + 0 * z.c + 0 * z.b + 0 * z.a))).u * (P4.mk (x.a + (q * z.a - 0 * z.d - 0 * z.c - 0 * z.b)) (x.b + (q * z.b + 0 * z.a - 0 * z.d - 0 * z.c)) (x.c + (q * z.c + 0 * z.b + 0 * z.a - 0 * z.d)) (x.d + (q * z.d + 0 * z.c + 0 * z.b + 0 * z.a))).u + (P4.mk (x.a + (q * z.a - 0 * z.d - 0 * z.c - 0 * z.b)) (x.b + (q * z.b + 0 * z.a - 0 * z.d - 0 * z.c)) (x.c + (q * z.c + 0 * z.b + 0 * z.a - 0 * z.d)) (x.d + (q * z.d + 0 * z.c + 0 * z.b + 0 * z.a))).v * (P4.mk (x.a + (q * z.a - 0 * z.d - 0 * z.c - 0 * z.b)) (x.b + (q * z.b + 0 * z.a - 0 * z.d - 0 * z.c)) (x.c + (q * z.c + 0 * z.b + 0 * z.a - 0 * z.d)) (x.d + (q * z.d + 0 * z.c + 0 * z.b + 0 * z.a))).v = x.u * x.u + x.v * x.v + _
    rw [e1, e2]
    grind
  · rintro q a b ga gb ⟨z, h⟩
    obtain ⟨a0, a1, a2, a3, rfl⟩ := ga.four
    obtain ⟨b0, b1, b2, b3, rfl⟩ := gb.four
    have e0 : a0 = b0 + (q * z.a - 0 * z.d - 0 * z.c - 0 * z.b) := congrArg P4.a h
    have e1 : a1 = b1 + (q * z.b + 0 * z.a - 0 * z.d - 0 * z.c) := congrArg P4.b h
    have e2 : a2 = b2 + (q * z.c + 0 * z.b + 0 * z.a - 0 * z.d) := congrArg P4.c h
    have e3 : a3 = b3 + (q * z.d + 0 * z.c + 0 * z.b + 0 * z.a) := congrArg P4.d h
    rw [red_eq (ga.red a0 (by simp)) (gb.red b0 (by simp)) (t := z.a) (by rw [e0]; grind), red_eq (ga.red a1 (by simp)) (gb.red b1 (by simp)) (t := z.b) (by rw [e1]; grind),
      red_eq (ga.red a2 (by simp)) (gb.red b2 (by simp)) (t := z.c) (by rw [e2]; grind), red_eq (ga.red a3 (by simp)) (gb.red b3 (by simp)) (t := z.d) (by rw [e3]; grind)]
  · intro q v a hq ga
    obtain ⟨a0, a1, a2, a3, rfl⟩ := ga.four
    have g0 := ga.red a0 (by simp)
    have g1 := ga.red a1 (by simp)
    have g2 := ga.red a2 (by simp)
    have g3 := ga.red a3 (by simp)
    obtain ⟨t0, h0⟩ := emod_ex q v
    have hv : 0 ≤ v % q ∧ v % q < q := ⟨Int.emod_nonneg _ (by omega), Int.emod_lt_of_pos _ hq⟩
    simp only [Mine.eqI, List.all_cons, List.all_nil, Bool.and_true, Bool.and_eq_true, beq_iff_eq]
    constructor
    · rintro ⟨⟨rfl, rfl, rfl⟩, h⟩
      refine ⟨⟨t0, 0, 0, 0⟩, P4.ext' ?_ ?_ ?_ ?_⟩
      · show a0 = v + (q * t0 - 0 * 0 - 0 * 0 - 0 * 0)
        rw [← h, h0]; grind
      · show (0:Int) = 0 + (q * 0 + 0 * t0 - 0 * 0 - 0 * 0)
        grind
      · show (0:Int) = 0 + (q * 0 + 0 * 0 + 0 * t0 - 0 * 0)
        grind
      · show (0:Int) = 0 + (q * 0 + 0 * 0 + 0 * 0 + 0 * t0)
        grind
    · rintro ⟨z, h⟩
      have e0 : a0 = v + (q * z.a - 0 * z.d - 0 * z.c - 0 * z.b) := congrArg P4.a h
      have e1 : a1 = 0 + (q * z.b + 0 * z.a - 0 * z.d - 0 * z.c) := congrArg P4.b h
      have e2 : a2 = 0 + (q * z.c + 0 * z.b + 0 * z.a - 0 * z.d) := congrArg P4.c h
      have e3 : a3 = 0 + (q * z.d + 0 * z.c + 0 * z.b + 0 * z.a) := congrArg P4.d h
      have z0 : 0 ≤ (0:Int) ∧ 0 < q := ⟨Int.le_refl 0, hq⟩
      exact ⟨⟨red_eq g1 z0 (t := z.b) (by rw [e1]; grind), red_eq g2 z0 (t := z.c) (by rw [e2]; grind), red_eq g3 z0 (t := z.d) (by rw [e3]; grind)⟩, red_eq hv g0 (t := t0 - z.a) (by rw [h0, e0]; grind)⟩
  · intro q a ga
    obtain ⟨a0, a1, a2, a3, rfl⟩ := ga.four
    have g0 := ga.red a0 (by simp)
    have g1 := ga.red a1 (by simp)
    have g2 := ga.red a2 (by simp)
    have g3 := ga.red a3 (by simp)
    have z0 : 0 ≤ (0:Int) ∧ 0 < q := ⟨Int.le_refl 0, by omega⟩
    simp only [List.all_cons, List.all_nil, Bool.and_true, Bool.and_eq_true, beq_iff_eq]
    constructor
    · rintro ⟨rfl, rfl, rfl, rfl⟩
      exact ⟨⟨0, 0, 0, 0⟩, P4.ext' (show (0:Int) = q * 0 - 0 * 0 - 0 * 0 - 0 * 0 by simp) (show (0:Int) = q * 0 + 0 * 0 - 0 * 0 - 0 * 0 by simp) (show (0:Int) = q * 0 + 0 * 0 + 0 * 0 - 0 * 0 by simp) (show (0:Int) = q * 0 + 0 * 0 + 0 * 0 + 0 * 0 by simp)⟩
    · rintro ⟨z, h⟩
      have e0 : a0 = (q * z.a - 0 * z.d - 0 * z.c - 0 * z.b) := congrArg P4.a h
      have e1 : a1 = (q * z.b + 0 * z.a - 0 * z.d - 0 * z.c) := congrArg P4.b h
      have e2 : a2 = (q * z.c + 0 * z.b + 0 * z.a - 0 * z.d) := congrArg P4.c h
      have e3 : a3 = (q * z.d + 0 * z.c + 0 * z.b + 0 * z.a) := congrArg P4.d h
      exact ⟨red_eq g0 z0 (t := z.a) (by rw [e0]; grind), red_eq g1 z0 (t := z.b) (by rw [e1]; grind), red_eq g2 z0 (t := z.c) (by rw [e2]; grind), red_eq g3 z0 (t := z.d) (by rw [e3]; grind)⟩

end
section
section
open Lean.Grind
variable {n : Nat} {R : Type} [CommRing R] {φ : List Int → R} {N : R → Int} {X : R}
theorem ic_mul (a b : Int) : (ic (a * b) : R) = ic a * ic b := Ring.intCast_mul a b
theorem ic_add (a b : Int) : (ic (a + b) : R) = ic a + ic b := Ring.intCast_add a b
theorem ic_one : (ic 1 : R) = 1 := Ring.intCast_one
theorem ic_zero : (ic 0 : R) = 0 := Ring.intCast_zero
theorem ic_pow (a : Int) (k : Nat) : (ic (a ^ k) : R) = ic a ^ k := Ring.intCast_pow a k
theorem ic_neg (a : Int) : (ic (-a) : R) = - ic a := Ring.intCast_neg a
theorem ic_two : (ic 2 : R) = 2 := Ring.intCast_ofNat 2
theorem r_pow_mul (x : R) (a : Nat) : ∀ b : Nat, x ^ (a * b) = (x ^ a) ^ b
  | 0 => by rw [Nat.mul_zero, Semiring.pow_zero, Semiring.pow_zero]
  | b + 1 => by rw [Nat.mul_succ, Semiring.pow_add, r_pow_mul x a b, Semiring.pow_succ]
theorem r_one_pow (k : Nat) : (1 : R) ^ k = 1 := by
  induction k with
  | zero => exact Semiring.pow_zero _
  | succ k ih => rw [Semiring.pow_succ, ih, Semiring.mul_one]
end

end
section
section
open Lean.Grind
/-- Pascal's numbers -/
def PrimeN (p : Nat) : Prop := 2 ≤ p ∧ ∀ i, 0 < i → i < p → Nat.Coprime p i
variable {n : Nat} {R : Type} [CommRing R] {φ : List Int → R} {N : R → Int} {X : R}
/-- alike but for a multiple of c -/
def Cg (c x y : R) : Prop := ∃ z, x = y + c * z
theorem Cg.refl (c x : R) : Cg c x x := ⟨0, by grind⟩
theorem Cg.of_eq {c x y : R} (h : x = y) : Cg c x y := ⟨0, by grind⟩
theorem Cg.symm {c x y : R} : Cg c x y → Cg c y x := fun ⟨z, h⟩ => ⟨-z, by rw [h]; grind⟩
theorem Cg.trans {c x y z : R} : Cg c x y → Cg c y z → Cg c x z := fun ⟨a, h⟩ ⟨b, k⟩ => ⟨a + b, by rw [h, k]; grind⟩
theorem Cg.add {c x y u v : R} : Cg c x y → Cg c u v → Cg c (x + u) (y + v) := fun ⟨a, h⟩ ⟨b, k⟩ => ⟨a + b, by rw [h, k]; grind⟩
theorem Cg.mul {c x y u v : R} : Cg c x y → Cg c u v → Cg c (x * u) (y * v) := fun ⟨a, h⟩ ⟨b, k⟩ => ⟨a * v + b * y + c * a * b, by rw [h, k]; grind⟩
def ev (Y : R) : List Int → R
  | [] => 0
  | c :: r => ic c + Y * ev Y r
theorem pow_turn {m k : Nat} {Y : R} (hY : Y ^ m = -1) (r : Nat) : Y ^ (m * k + r) = (-1) ^ k * Y ^ r := by
  rw [Semiring.pow_add, r_pow_mul, hY]
theorem m1_sq (k : Nat) : ((-1 : R)) ^ (2 * k) = 1 := by
  rw [r_pow_mul, show (-1 : R) ^ 2 = 1 by grind, r_one_pow]
end
section
open Lean.Grind
variable {n : Nat} {R : Type} [CommRing R] {φ : List Int → R} {N : R → Int} {X : R}
structure Kit1 (n : Nat) {R : Type} [CommRing R] (φ : List Int → R) (N : R → Int) (X : R) : Prop extends IsKit n φ N X where
  neg : ∀ (q : Int) (a : List Int), a.length = n → ∃ z, φ (negL q a) = - φ a + ic q * z
  ev : ∀ a : List Int, a.length = n → φ a = ev X a
  Xn : X ^ n = -1
variable {p d : Nat} {rc : List Int}
section
variable {kc ec : List Int}
end
end

end
section
theorem kit1_2 : @Kit1 2 P2 P2.ring φ2 N2 ⟨0, 1⟩ := by
  letI := P2.ring
  refine @Kit1.mk 2 P2 P2.ring φ2 N2 ⟨0, 1⟩ kit2 ?_ ?_ ?_
  · intro q a ha
    obtain ⟨a0, a1, rfl⟩ := len_two ha
    obtain ⟨t0, h0⟩ := emod_ex q (-a0)
    obtain ⟨t1, h1⟩ := emod_ex q (-a1)
    refine ⟨⟨t0, t1⟩, P2.ext' ?_ ?_⟩
    · show (-a0) % q = -a0 + (q * t0 - 0 * t1)
      rw [h0]; grind
    · show (-a1) % q = -a1 + (q * t1 + 0 * t0)
      rw [h1]; grind
  · intro a ha
    obtain ⟨a0, a1, rfl⟩ := len_two ha
    refine P2.ext' ?_ ?_
    · show a0 = a0 + (0 * (a1 + (0 * 0 - 1 * 0)) - 1 * (0 + (0 * 0 + 1 * 0)))
      grind
    · show a1 = 0 + (0 * (0 + (0 * 0 + 1 * 0)) + 1 * (a1 + (0 * 0 - 1 * 0)))
      grind
  · rfl
theorem kit1_4 : @Kit1 4 P4 P4.ring φ4 N4 ⟨0, 1, 0, 0⟩ := by
  letI := P4.ring
  refine @Kit1.mk 4 P4 P4.ring φ4 N4 ⟨0, 1, 0, 0⟩ kit4 ?_ ?_ ?_
  · intro q a ha
    obtain ⟨a0, a1, a2, a3, rfl⟩ := len_four ha
    obtain ⟨t0, h0⟩ := emod_ex q (-a0)
    obtain ⟨t1, h1⟩ := emod_ex q (-a1)
    obtain ⟨t2, h2⟩ := emod_ex q (-a2)
    obtain ⟨t3, h3⟩ := emod_ex q (-a3)
    refine ⟨⟨t0, t1, t2, t3⟩, P4.ext' ?_ ?_ ?_ ?_⟩
    · show (-a0) % q = -a0 + (q * t0 - 0 * t3 - 0 * t2 - 0 * t1)
      rw [h0]; grind
    · show (-a1) % q = -a1 + (q * t1 + 0 * t0 - 0 * t3 - 0 * t2)
      rw [h1]; grind
    · show (-a2) % q = -a2 + (q * t2 + 0 * t1 + 0 * t0 - 0 * t3)
      rw [h2]; grind
    · show (-a3) % q = -a3 + (q * t3 + 0 * t2 + 0 * t1 + 0 * t0)
      rw [h3]; grind
  · intro a ha
    obtain ⟨a0, a1, a2, a3, rfl⟩ := len_four ha
    have hX : ∀ c : Int, ∀ y : P4, (ic c : P4) + (⟨0, 1, 0, 0⟩ : P4) * y = ⟨c - y.d, y.a, y.b, y.c⟩ := fun c y => P4.ext'
      (show c + (0 * y.a - 1 * y.d - 0 * y.c - 0 * y.b) = c - y.d by grind) (show 0 + (0 * y.b + 1 * y.a - 0 * y.d - 0 * y.c) = y.a by grind)
      (show 0 + (0 * y.c + 1 * y.b + 0 * y.a - 0 * y.d) = y.b by grind) (show 0 + (0 * y.d + 1 * y.c + 0 * y.b + 0 * y.a) = y.c by grind)
    show (⟨a0, a1, a2, a3⟩ : P4) = ic a0 + (⟨0, 1, 0, 0⟩ : P4) * (ic a1 + (⟨0, 1, 0, 0⟩ : P4) * (ic a2 + (⟨0, 1, 0, 0⟩ : P4) * (ic a3 + (⟨0, 1, 0, 0⟩ : P4) * (⟨0, 0, 0, 0⟩ : P4))))
    rw [hX, hX, hX, hX]
    refine P4.ext' ?_ ?_ ?_ ?_ <;> simp
  · rfl

end
section
section
open Lean.Grind
variable {n : Nat} {R : Type} [CommRing R] {φ : List Int → R} {N : R → Int} {X : R}
theorem pow_turn'' {m r Q : Nat} {Y : R} (hY : Y ^ m = -1) (h : Q % m = r) : Y ^ Q = (-1) ^ (Q / m) * Y ^ r := by
  have := pow_turn hY (k := Q / m) r
  rw [← this]
  congr 1
  have := Nat.div_add_mod Q m
  omega
theorem r_pow1' (y : R) : y ^ 1 = y := by grind
theorem r_pow0' (y : R) : y ^ 0 = 1 := Semiring.pow_zero y
theorem sgnK_cg {q : Int} {k m i : Nat} (hq : 2 ≤ q) (c : Int) : Cg (R := R) (ic q) (ic (sgnK q k m i c)) ((-1) ^ (i * k / m) * ic c) := by
  unfold sgnK
  have e : (Int.fdiv ((i : Int) * k) m).toNat = i * k / m := by
    rw [← Int.natCast_mul, Int.fdiv_eq_ediv_of_nonneg _ (by omega), ← Int.natCast_ediv, Int.toNat_natCast]
  rw [e, Int.fmod_eq_emod_of_nonneg _ (by omega)]
  obtain ⟨t, ht⟩ := emod_ex q ((-1) ^ (i * k / m) * c)
  rw [ht]
  exact ⟨ic t, by rw [ic_add, ic_mul, ic_mul, ic_pow, ic_neg, ic_one]⟩
theorem turnK2 {q : Int} {k : Nat} (hq : 2 ≤ q) {Y : R} (hY : Y ^ 2 = -1) (ho : k % 2 = 1) (a b : Int) :
    Cg (ic q) (ev Y (turnK q k [a, b])) (ev (Y ^ k) [a, b]) := by
  have h0 := sgnK_cg (R := R) (k := k) (m := 2) (i := 0) hq a
  have h1 := sgnK_cg (R := R) (k := k) (m := 2) (i := 1) hq b
  rw [Nat.zero_mul, Nat.zero_div, r_pow0'] at h0
  rw [Nat.one_mul] at h1
  show Cg _ (ic (sgnK q k 2 0 a) + Y * (ic (sgnK q k 2 1 b) + Y * 0)) (ic a + Y ^ k * (ic b + Y ^ k * 0))
  rw [pow_turn'' hY ho, r_pow1']
  refine (h0.add ((Cg.refl _ Y).mul (h1.add (.refl _ (Y * 0))))).trans (.of_eq (by grind))
theorem turnK4 {q : Int} {k : Nat} (hq : 2 ≤ q) {Y : R} (hY : Y ^ 4 = -1) (ho : k % 2 = 1) (a b c d : Int) :
    Cg (ic q) (ev Y (turnK q k [a, b, c, d])) (ev (Y ^ k) [a, b, c, d]) := by
  have h0 := sgnK_cg (R := R) (k := k) (m := 4) (i := 0) hq a
  have h1 := sgnK_cg (R := R) (k := k) (m := 4) (i := 1) hq b
  have h2 := sgnK_cg (R := R) (k := k) (m := 4) (i := 2) hq c
  have h3 := sgnK_cg (R := R) (k := k) (m := 4) (i := 3) hq d
  rw [Nat.zero_mul, Nat.zero_div, r_pow0'] at h0
  rw [Nat.one_mul] at h1
  have e2 : (Y ^ k) ^ 2 = Y ^ (2 * k) := by rw [Nat.mul_comm, r_pow_mul]
  have e3 : (Y ^ k) ^ 3 = Y ^ (3 * k) := by rw [Nat.mul_comm, r_pow_mul]
  have hr : ev (Y ^ k) [a, b, c, d] = ic a + Y ^ k * ic b + (Y ^ k) ^ 2 * ic c + (Y ^ k) ^ 3 * ic d := by
    show ic a + Y ^ k * (ic b + Y ^ k * (ic c + Y ^ k * (ic d + Y ^ k * 0))) = _
    generalize Y ^ k = z
    grind
  rw [hr, e2, e3]
  have hf : Int.fmod (k : Int) 4 = ((k % 4 : Nat) : Int) := by rw [Int.fmod_eq_emod_of_nonneg _ (by omega)]; rfl
  rcases (show k % 4 = 1 ∨ k % 4 = 3 by omega) with h | h
  · rw [pow_turn'' hY h, pow_turn'' hY (show 2 * k % 4 = 2 by omega), pow_turn'' hY (show 3 * k % 4 = 3 by omega), turnK, if_pos (by rw [hf, h]; rfl)]
    show Cg _ (ic (sgnK q k 4 0 a) + Y * (ic (sgnK q k 4 1 b) + Y * (ic (sgnK q k 4 2 c) + Y * (ic (sgnK q k 4 3 d) + Y * 0)))) _
    refine (h0.add ((Cg.refl _ Y).mul (h1.add ((Cg.refl _ Y).mul (h2.add ((Cg.refl _ Y).mul (h3.add (.refl _ (Y * 0))))))))).trans (.of_eq ?_)
    generalize ((-1 : R)) ^ (k / 4) = s1
    generalize ((-1 : R)) ^ (2 * k / 4) = s2
    generalize ((-1 : R)) ^ (3 * k / 4) = s3
    grind
  · rw [pow_turn'' hY h, pow_turn'' hY (show 2 * k % 4 = 2 by omega), pow_turn'' hY (show 3 * k % 4 = 1 by omega), turnK, if_neg (by rw [hf, h]; decide)]
    show Cg _ (ic (sgnK q k 4 0 a) + Y * (ic (sgnK q k 4 3 d) + Y * (ic (sgnK q k 4 2 c) + Y * (ic (sgnK q k 4 1 b) + Y * 0)))) _
    refine (h0.add ((Cg.refl _ Y).mul (h3.add ((Cg.refl _ Y).mul (h2.add ((Cg.refl _ Y).mul (h1.add (.refl _ (Y * 0))))))))).trans (.of_eq ?_)
    generalize ((-1 : R)) ^ (k / 4) = s1
    generalize ((-1 : R)) ^ (2 * k / 4) = s2
    generalize ((-1 : R)) ^ (3 * k / 4) = s3
    grind
theorem odd_pow {m : Nat} {Y : R} (hY : Y ^ m = -1) {k : Nat} (ho : k % 2 = 1) : (Y ^ k) ^ m = -1 := by
  rw [← r_pow_mul, Nat.mul_comm, r_pow_mul, hY]
  have : k = 2 * (k / 2) + 1 := by omega
  rw [this, Semiring.pow_succ, m1_sq]
  grind
theorem ic_emod (q a : Int) : Cg (R := R) (ic q) (ic (a % q)) (ic a) := by
  obtain ⟨t, h⟩ := emod_ex q a
  exact ⟨ic t, by rw [h, ic_add, ic_mul]⟩
theorem ic_sub (a b : Int) : (ic (a - b) : R) = ic a - ic b := by rw [Int.sub_eq_add_neg, ic_add, ic_neg]; grind
theorem ev_mul2 {q : Int} {Y : R} (hY : Y ^ 2 = -1) (a0 a1 b0 b1 : Int) : Cg (ic q) (ev Y (mulL q [a0, a1] [b0, b1])) (ev Y [a0, a1] * ev Y [b0, b1]) := by
  show Cg _ (ic ((a0 * b0 - a1 * b1) % q) + Y * (ic ((a0 * b1 + a1 * b0) % q) + Y * 0)) ((ic a0 + Y * (ic a1 + Y * 0)) * (ic b0 + Y * (ic b1 + Y * 0)))
  refine ((ic_emod q _).add ((Cg.refl _ Y).mul ((ic_emod q _).add (.refl _ (Y * 0))))).trans (.of_eq ?_)
  rw [ic_sub, ic_add, ic_mul, ic_mul, ic_mul, ic_mul]
  grind
theorem ev_mul4 {q : Int} {Y : R} (hY : Y ^ 4 = -1) (a0 a1 a2 a3 b0 b1 b2 b3 : Int) : Cg (ic q) (ev Y (mulL q [a0, a1, a2, a3] [b0, b1, b2, b3])) (ev Y [a0, a1, a2, a3] * ev Y [b0, b1, b2, b3]) := by
  show Cg _ (ic ((a0 * b0 - a1 * b3 - a2 * b2 - a3 * b1) % q) + Y * (ic ((a0 * b1 + a1 * b0 - a2 * b3 - a3 * b2) % q) + Y * (ic ((a0 * b2 + a1 * b1 + a2 * b0 - a3 * b3) % q) + Y * (ic ((a0 * b3 + a1 * b2 + a2 * b1 + a3 * b0) % q) + Y * 0))))
    ((ic a0 + Y * (ic a1 + Y * (ic a2 + Y * (ic a3 + Y * 0)))) * (ic b0 + Y * (ic b1 + Y * (ic b2 + Y * (ic b3 + Y * 0)))))
  refine ((ic_emod q _).add ((Cg.refl _ Y).mul ((ic_emod q _).add ((Cg.refl _ Y).mul ((ic_emod q _).add ((Cg.refl _ Y).mul ((ic_emod q _).add (.refl _ (Y * 0))))))))).trans (.of_eq ?_)
  simp only [ic_sub, ic_add, ic_mul]
  grind
theorem ev_mulI {q v : Int} (Y : R) : ∀ a : List Int, Cg (ic q) (ev Y (mulI q v a)) (ic v * ev Y a)
  | [] => .of_eq (by show (0 : R) = ic v * 0; grind)
  | c :: r => by
    show Cg _ (ic ((c * v) % q) + Y * ev Y (mulI q v r)) (ic v * (ic c + Y * ev Y r))
    refine ((ic_emod q _).add ((Cg.refl _ Y).mul (ev_mulI Y r))).trans (.of_eq ?_)
    rw [ic_mul]; grind
structure Kit2 (n : Nat) {R : Type} [CommRing R] (φ : List Int → R) (N : R → Int) (X : R) : Prop extends Kit1 n φ N X where
  turn : ∀ {q : Int} {k : Nat} {a : List Int}, 2 ≤ q → Good q n a → k % 2 = 1 → Cg (ic q) (φ (turnK q k a)) (Mine.ev (X ^ k) a)
  mulev : ∀ {q : Int} {Y : R} {a b : List Int}, Y ^ n = -1 → a.length = n → b.length = n → Cg (ic q) (Mine.ev Y (Mine.mulL q a b)) (Mine.ev Y a * Mine.ev Y b)
variable {q : Int} {F G : List Int}
theorem l_P (K : Kit2 n φ N X) (hn : n = 2 ∨ n = 4) (hq : 2 ≤ q) (gF : Good q n F) (gG : Good q n G) {k : Nat} (ho : k % 2 = 1) : turnK q k (mulL q F G) = mulL q (turnK q k F) (turnK q k G) := by
  have gm := Good.mul hq hn gF gG
  have tF : Good q n (turnK q k F) := turnK_good hn hq gF
  have tG : Good q n (turnK q k G) := turnK_good hn hq gG
  refine K.cong q _ _ (turnK_good hn hq gm) (Good.mul hq hn tF tG) ?_
  have h1 := K.turn hq gm ho
  have h2 := K.mulev (q := q) (odd_pow K.Xn ho) gF.len gG.len
  have h3 : Cg (ic q) (φ (mulL q (turnK q k F) (turnK q k G))) (φ (turnK q k F) * φ (turnK q k G)) := K.mulL q _ _ tF.len tG.len
  exact (h1.trans h2).trans ((h3.trans ((K.turn hq gF ho).mul (K.turn hq gG ho))).symm)
theorem l_norm (K : Kit2 n φ N X) (hn : n = 2 ∨ n = 4) (hq : 2 ≤ q) (gF : Good q n F) (gG : Good q n G) : Int.fmod (normL (mulL q F G)) q = Int.fmod (Int.fmod (normL F) q * normL G) q := by
  rw [K.norm _ (mulL_len hn gF.len gG.len), K.norm _ gF.len, K.norm _ gG.len]
  obtain ⟨z, h⟩ := K.mulL q F G gF.len gG.len
  obtain ⟨t, ht⟩ := K.Nmod (φ F * φ G) q z
  rw [h, ht, K.Nmul]
  simp only [Int.fmod_eq_emod_of_nonneg _ (show (0 : Int) ≤ q by omega)]
  rw [Int.add_mul_emod_self_left]
  obtain ⟨t2, h2⟩ := emod_ex q (N (φ F))
  rw [h2, show (N (φ F) + q * t2) * N (φ G) = N (φ F) * N (φ G) + q * (t2 * N (φ G)) by grind, Int.add_mul_emod_self_left]
/-- whole = f times the others is f's norm -/
theorem l_unit (K : Kit2 n φ N X) (hn : n = 2 ∨ n = 4) (hq : 2 ≤ q) (gF : Good q n F) {O : List Int} (gO : Good q n O) (hO : Cg (ic q) (φ F * φ O) (ic (N (φ F)))) :
    (mulL q F O).tail.all (· == 0) = true ∧ (mulL q F O).getD 0 0 = Int.fmod (normL F) q := by
  have gm := Good.mul hq hn gF gO
  have h1 : Cg (ic q) (φ (mulL q F O)) (φ F * φ O) := K.mulL q F O gF.len gO.len
  have h2 := (K.eqI q (N (φ F)) (mulL q F O) (by omega) gm).mpr (h1.trans hO)
  rw [K.norm _ gF.len, Int.fmod_eq_emod_of_nonneg _ (by omega)]
  obtain ⟨c, r, e⟩ := ne_cons hn gm.len
  rw [e] at h2 ⊢
  simp only [Mine.eqI, Bool.and_eq_true, beq_iff_eq] at h2
  exact ⟨h2.1, h2.2.symm⟩
theorem l_inv (K : Kit2 n φ N X) (hn : n = 2 ∨ n = 4) (hq : 2 ≤ q) (gF : Good q n F) {O : List Int} (gO : Good q n O) (hO : Cg (ic q) (φ F * φ O) (ic (N (φ F)))) {b k : Int} (hb : b * Int.fmod (normL F) q = 1 + q * k) :
    eqI q 1 (mulL q F (mulI q b O)) = true := by
  have gi : Good q n (mulI q b O) := Good.mulI hq gO
  have gm := Good.mul hq hn gF gi
  refine (K.eqI q 1 _ (by omega) gm).mpr ?_
  have h1 : Cg (ic q) (φ (mulL q F (mulI q b O))) (φ F * φ (mulI q b O)) := K.mulL q F _ gF.len gi.len
  have h2 : Cg (ic q) (φ (mulI q b O)) (ic b * φ O) := by
    rw [K.ev _ gi.len, K.ev _ gO.len]
    exact ev_mulI X O
  rw [K.norm _ gF.len, Int.fmod_eq_emod_of_nonneg _ (by omega)] at hb
  have h3 : Cg (R := R) (ic q) (ic b * ic (N (φ F))) (ic 1) := by
    refine ((Cg.refl _ (ic b)).mul (ic_emod q (N (φ F))).symm).trans ?_
    rw [← ic_mul, hb]
    exact ⟨ic k, by rw [ic_add, ic_mul]⟩
  refine (h1.trans ((Cg.refl _ (φ F)).mul h2)).trans ((Cg.of_eq (show φ F * (ic b * φ O) = ic b * (φ F * φ O) by grind)).trans ?_)
  exact ((Cg.refl _ (ic b)).mul hO).trans h3
theorem l_kill (K : Kit2 n φ N X) (hn : n = 2 ∨ n = 4) (hq : 2 ≤ q) (gF : Good q n F) {O : List Int} (gO : Good q n O) (hO : Cg (ic q) (φ F * φ O) (ic (N (φ F)))) {c : Int} (hc : 1 ≤ c) (h1 : c ∣ q) (h2 : c ∣ Int.fmod (normL F) q) :
    (mulL q F (mulI q (Int.fdiv q c) O)).all (· == 0) = true := by
  have gi : Good q n (mulI q (Int.fdiv q c) O) := Good.mulI hq gO
  have gm := Good.mul hq hn gF gi
  refine (K.zero q _ gm).mpr ?_
  have h3 : Cg (ic q) (φ (mulL q F (mulI q (Int.fdiv q c) O))) (φ F * φ (mulI q (Int.fdiv q c) O)) := K.mulL q F _ gF.len gi.len
  have h4 : Cg (ic q) (φ (mulI q (Int.fdiv q c) O)) (ic (Int.fdiv q c) * φ O) := by
    rw [K.ev _ gi.len, K.ev _ gO.len]
    exact ev_mulI X O
  rw [K.norm _ gF.len, Int.fmod_eq_emod_of_nonneg _ (by omega)] at h2
  obtain ⟨a, ha⟩ := h1
  obtain ⟨d, hd⟩ := h2
  have hf : Int.fdiv q c = a := by rw [ha, Int.mul_comm, Int.mul_fdiv_cancel _ (by omega)]
  have h5 : Cg (R := R) (ic q) (ic (Int.fdiv q c) * ic (N (φ F))) 0 := by
    refine ((Cg.refl _ (ic (Int.fdiv q c))).mul (ic_emod q (N (φ F))).symm).trans ?_
    rw [← ic_mul, hf, hd]
    refine ⟨ic d, ?_⟩
    rw [show a * (c * d) = q * d by rw [ha]; grind, ic_mul]
    grind
  have h6 := (h3.trans ((Cg.refl _ (φ F)).mul h4)).trans ((Cg.of_eq (show φ F * (ic (Int.fdiv q c) * φ O) = ic (Int.fdiv q c) * (φ F * φ O) by grind)).trans (((Cg.refl _ (ic (Int.fdiv q c))).mul hO).trans h5))
  obtain ⟨z, hz⟩ := h6
  exact ⟨z, by rw [hz]; grind⟩
end

end
section
theorem kit2_2 : @Kit2 2 P2 P2.ring φ2 N2 ⟨0, 1⟩ := by
  letI := P2.ring
  refine @Kit2.mk 2 P2 P2.ring φ2 N2 ⟨0, 1⟩ kit1_2 ?_ ?_
  · intro q k a hq ga ho
    obtain ⟨a0, a1, rfl⟩ := ga.two
    rw [kit1_2.ev _ (turnK_good (.inl rfl) hq ga).len]
    exact turnK2 hq kit1_2.Xn ho a0 a1
  · intro q Y a b hY ha hb
    obtain ⟨a0, a1, rfl⟩ := len_two ha
    obtain ⟨b0, b1, rfl⟩ := len_two hb
    exact ev_mul2 hY a0 a1 b0 b1
theorem kit2_4 : @Kit2 4 P4 P4.ring φ4 N4 ⟨0, 1, 0, 0⟩ := by
  letI := P4.ring
  refine @Kit2.mk 4 P4 P4.ring φ4 N4 ⟨0, 1, 0, 0⟩ kit1_4 ?_ ?_
  · intro q k a hq ga ho
    obtain ⟨a0, a1, a2, a3, rfl⟩ := ga.four
    rw [kit1_4.ev _ (turnK_good (.inr rfl) hq ga).len]
    exact turnK4 hq kit1_4.Xn ho a0 a1 a2 a3
  · intro q Y a b hY ha hb
    obtain ⟨a0, a1, a2, a3, rfl⟩ := len_four ha
    obtain ⟨b0, b1, b2, b3, rfl⟩ := len_four hb
    exact ev_mul4 hY a0 a1 a2 a3 b0 b1 b2 b3
section
open Lean.Grind
variable {n : Nat} {R : Type} [CommRing R] {φ : List Int → R} {N : R → Int} {X : R} {q : Int}
theorem ev_addL (Y : R) : ∀ a b : List Int, a.length = b.length → Cg (ic q) (ev Y (addL q a b)) (ev Y a + ev Y b)
  | [], [], _ => .of_eq (by show (0 : R) = 0 + 0; grind)
  | x :: r, y :: t, h => by
    show Cg _ (ic ((x + y) % q) + Y * ev Y (addL q r t)) ((ic x + Y * ev Y r) + (ic y + Y * ev Y t))
    refine ((ic_emod q _).add ((Cg.refl _ Y).mul (ev_addL Y r t (by simpa using h)))).trans (.of_eq ?_)
    rw [ic_add]; grind
theorem unit2 {Y : R} (hY : Y ^ 2 = -1) (a b : Int) : ev Y [a, b] * ev (Y ^ 3) [a, b] = ic (a * a + b * b) := by
  show (ic a + Y * (ic b + Y * 0)) * (ic a + Y ^ 3 * (ic b + Y ^ 3 * 0)) = _
  have h3 : Y ^ 3 = -Y := by grind
  rw [h3, ic_add, ic_mul, ic_mul]
  grind
theorem sum2 {Y : R} (hY : Y ^ 2 = -1) (a b : Int) : ev Y [a, b] + ev (Y ^ 3) [a, b] = ic (2 * a) := by
  show (ic a + Y * (ic b + Y * 0)) + (ic a + Y ^ 3 * (ic b + Y ^ 3 * 0)) = _
  have h3 : Y ^ 3 = -Y := by grind
  rw [h3, ic_mul, ic_two]
  grind
theorem unit4a {Y : R} (hY : Y ^ 4 = -1) (a b c d : Int) : ev Y [a, b, c, d] * ev (Y ^ 5) [a, b, c, d] = ic (a * a - c * c + 2 * (b * d)) + ic (2 * (a * c) - b * b + d * d) * Y ^ 2 := by
  show (ic a + Y * (ic b + Y * (ic c + Y * (ic d + Y * 0)))) * (ic a + Y ^ 5 * (ic b + Y ^ 5 * (ic c + Y ^ 5 * (ic d + Y ^ 5 * 0)))) = _
  have h5 : Y ^ 5 = -Y := by grind
  rw [h5]
  simp only [ic_add, ic_sub, ic_mul, ic_two]
  grind
theorem unit4 {Y : R} (hY : Y ^ 4 = -1) (a b c d : Int) : ev Y [a, b, c, d] * (ev (Y ^ 3) [a, b, c, d] * ev (Y ^ 5) [a, b, c, d] * ev (Y ^ 7) [a, b, c, d]) =
    ic ((a * a - c * c + 2 * (b * d)) * (a * a - c * c + 2 * (b * d)) + (2 * (a * c) - b * b + d * d) * (2 * (a * c) - b * b + d * d)) := by
  have h1 := unit4a hY a b c d
  have hY3 : (Y ^ 3) ^ 4 = -1 := odd_pow hY (k := 3) rfl
  have h2 := unit4a hY3 a b c d
  have e7 : (Y ^ 3) ^ 5 = Y ^ 7 := by grind
  have e6 : (Y ^ 3) ^ 2 = Y ^ 4 * Y ^ 2 := by
    rw [← r_pow_mul, ← Semiring.pow_add]
  rw [e7, e6, hY] at h2
  generalize ev Y [a, b, c, d] = f1 at *
  generalize ev (Y ^ 3) [a, b, c, d] = f3 at *
  generalize ev (Y ^ 5) [a, b, c, d] = f5 at *
  generalize ev (Y ^ 7) [a, b, c, d] = f7 at *
  rw [ic_add, ic_mul, ic_mul]
  generalize (ic (a * a - c * c + 2 * (b * d)) : R) = u at *
  generalize (ic (2 * (a * c) - b * b + d * d) : R) = v at *
  have : f1 * (f3 * f5 * f7) = (f1 * f5) * (f3 * f7) := by grind
  rw [this, h1, h2]
  grind
theorem sum4 {Y : R} (hY : Y ^ 4 = -1) (a b c d : Int) : ev Y [a, b, c, d] + ev (Y ^ 3) [a, b, c, d] + ev (Y ^ 5) [a, b, c, d] + ev (Y ^ 7) [a, b, c, d] = ic (4 * a) := by
  show (ic a + Y * (ic b + Y * (ic c + Y * (ic d + Y * 0)))) + (ic a + Y ^ 3 * (ic b + Y ^ 3 * (ic c + Y ^ 3 * (ic d + Y ^ 3 * 0)))) + (ic a + Y ^ 5 * (ic b + Y ^ 5 * (ic c + Y ^ 5 * (ic d + Y ^ 5 * 0)))) + (ic a + Y ^ 7 * (ic b + Y ^ 7 * (ic c + Y ^ 7 * (ic d + Y ^ 7 * 0)))) = _
  have h5 : Y ^ 5 = -Y := by grind
  have h7 : Y ^ 7 = Y ^ 4 * Y ^ 3 := by rw [← Semiring.pow_add]
  rw [hY] at h7
  rw [h5, h7]
  have e4 : (ic (4 * a) : R) = 4 * ic a := by rw [ic_mul, show (ic 4 : R) = 4 from Ring.intCast_ofNat 4]
  rw [e4]
  have hz : Y ^ 3 * Y ^ 3 = Y ^ 4 * Y ^ 2 := by rw [← Semiring.pow_add, ← Semiring.pow_add]
  rw [hY] at hz
  generalize Y ^ 3 = z at *
  grind
variable {F : List Int}
theorem l2_oth (K : Kit2 2 φ N X) (hq : 2 ≤ q) (gF : Good q 2 F) (hN : ∀ a b, N (φ [a, b]) = a * a + b * b) :
    Cg (ic q) (φ F * φ (mulL q (1 :: List.replicate (2 - 1) 0) (turnK q 3 F))) (ic (N (φ F))) := by
  have t3 : Good q 2 (turnK q 3 F) := turnK_good (.inl rfl) hq gF
  have h1 : Cg (ic q) (φ (mulL q (oneL 2) (turnK q 3 F))) (φ (oneL 2) * φ (turnK q 3 F)) := K.mulL q _ _ rfl t3.len
  rw [K.one] at h1
  have h2 := h1.trans ((Cg.refl _ 1).mul (K.turn (k := 3) hq gF rfl))
  refine ((Cg.refl _ (φ F)).mul h2).trans (.of_eq ?_)
  rw [K.ev _ gF.len]
  obtain ⟨a, b, rfl⟩ := gF.two
  rw [← K.ev _ gF.len, hN, ← unit2 K.Xn a b, K.ev _ gF.len]
  grind
theorem l4_oth (K : Kit2 4 φ N X) (hq : 2 ≤ q) (gF : Good q 4 F) (hN : ∀ a b c d, N (φ [a, b, c, d]) = (a * a - c * c + 2 * (b * d)) * (a * a - c * c + 2 * (b * d)) + (2 * (a * c) - b * b + d * d) * (2 * (a * c) - b * b + d * d)) :
    Cg (ic q) (φ F * φ (mulL q (mulL q (mulL q (1 :: List.replicate (4 - 1) 0) (turnK q 3 F)) (turnK q 5 F)) (turnK q 7 F))) (ic (N (φ F))) := by
  have hn : (4 : Nat) = 2 ∨ 4 = 4 := .inr rfl
  have t3 : Good q 4 (turnK q 3 F) := turnK_good hn hq gF
  have t5 : Good q 4 (turnK q 5 F) := turnK_good hn hq gF
  have t7 : Good q 4 (turnK q 7 F) := turnK_good hn hq gF
  have g1 : Good q 4 (oneL 4) := Good.one hq hn
  have m1 := Good.mul hq hn g1 t3
  have m2 := Good.mul hq hn m1 t5
  have h1 : Cg (ic q) (φ (mulL q (oneL 4) (turnK q 3 F))) (φ (oneL 4) * φ (turnK q 3 F)) := K.mulL q _ _ rfl t3.len
  rw [K.one] at h1
  have h2 := h1.trans ((Cg.refl _ 1).mul (K.turn (k := 3) hq gF rfl))
  have h3 : Cg (ic q) (φ (mulL q (mulL q (oneL 4) (turnK q 3 F)) (turnK q 5 F))) _ := (show Cg (ic q) _ _ from K.mulL q _ _ m1.len t5.len) |>.trans (h2.mul (K.turn (k := 5) hq gF rfl))
  have h4 : Cg (ic q) (φ (mulL q (mulL q (mulL q (oneL 4) (turnK q 3 F)) (turnK q 5 F)) (turnK q 7 F))) _ := (show Cg (ic q) _ _ from K.mulL q _ _ m2.len t7.len) |>.trans (h3.mul (K.turn (k := 7) hq gF rfl))
  refine ((Cg.refl _ (φ F)).mul h4).trans (.of_eq ?_)
  rw [K.ev _ gF.len]
  obtain ⟨a, b, c, d, rfl⟩ := gF.four
  rw [← K.ev _ gF.len, hN, ← unit4 K.Xn a b c d, K.ev _ gF.len]
  grind
/-- the head and the tail of a list alike to a number -/
theorem head_of (K : Kit2 n φ N X) (hn : n = 2 ∨ n = 4) (hq : 2 ≤ q) {T : List Int} (gT : Good q n T) {v : Int} (h : Cg (ic q) (φ T) (ic v)) : T.tail.all (· == 0) = true ∧ T.getD 0 0 = Int.fmod v q := by
  have h2 := (K.eqI q v T (by omega) gT).mpr h
  rw [Int.fmod_eq_emod_of_nonneg _ (by omega)]
  obtain ⟨c, r, e⟩ := ne_cons hn gT.len
  rw [e] at h2 ⊢
  simp only [Mine.eqI, Bool.and_eq_true, beq_iff_eq] at h2
  exact ⟨h2.1, h2.2.symm⟩
theorem φ_addL (K : Kit2 n φ N X) (hn : n = 2 ∨ n = 4) (hq : 2 ≤ q) {A B : List Int} (gA : Good q n A) (gB : Good q n B) : Cg (ic q) (φ (addL q A B)) (φ A + φ B) := by
  rw [K.ev _ gA.len, K.ev _ gB.len, K.ev _ (Good.addL hq gA gB).len]
  exact ev_addL X A B (gA.len.trans gB.len.symm)
theorem l2_tot (K : Kit2 2 φ N X) (hq : 2 ≤ q) (gF : Good q 2 F) : (addL q F (turnK q 3 F)).tail.all (· == 0) = true ∧ (addL q F (turnK q 3 F)).getD 0 0 = Int.fmod (((2 : Nat) : Int) * F.getD 0 0) q := by
  have hn : (2 : Nat) = 2 ∨ 2 = 4 := .inl rfl
  have t3 : Good q 2 (turnK q 3 F) := turnK_good hn hq gF
  refine head_of K hn hq (Good.addL hq gF t3) ?_
  refine ((φ_addL K hn hq gF t3).trans ((Cg.refl _ (φ F)).add (K.turn (k := 3) hq gF rfl))).trans (.of_eq ?_)
  rw [K.ev _ gF.len]
  obtain ⟨a, b, rfl⟩ := gF.two
  exact sum2 K.Xn a b
theorem l4_tot (K : Kit2 4 φ N X) (hq : 2 ≤ q) (gF : Good q 4 F) : (addL q (addL q (addL q F (turnK q 3 F)) (turnK q 5 F)) (turnK q 7 F)).tail.all (· == 0) = true ∧ (addL q (addL q (addL q F (turnK q 3 F)) (turnK q 5 F)) (turnK q 7 F)).getD 0 0 = Int.fmod (((4 : Nat) : Int) * F.getD 0 0) q := by
  have hn : (4 : Nat) = 2 ∨ 4 = 4 := .inr rfl
  have t3 : Good q 4 (turnK q 3 F) := turnK_good hn hq gF
  have t5 : Good q 4 (turnK q 5 F) := turnK_good hn hq gF
  have t7 : Good q 4 (turnK q 7 F) := turnK_good hn hq gF
  have a1 := Good.addL hq gF t3
  have a2 := Good.addL hq a1 t5
  refine head_of K hn hq (Good.addL hq a2 t7) ?_
  have h1 := (φ_addL K hn hq gF t3).trans ((Cg.refl _ (φ F)).add (K.turn (k := 3) hq gF rfl))
  have h2 := (φ_addL K hn hq a1 t5).trans (h1.add (K.turn (k := 5) hq gF rfl))
  have h3 := (φ_addL K hn hq a2 t7).trans (h2.add (K.turn (k := 7) hq gF rfl))
  refine h3.trans (.of_eq ?_)
  rw [K.ev _ gF.len]
  obtain ⟨a, b, c, d, rfl⟩ := gF.four
  exact sum4 K.Xn a b c d
end

end
section
structure M2 (q : Int) (n : Nat) (F T O : List Int) : Prop where
  gT : Good q n T
  gO : Good q n O
  t1 : T.tail.all (· == 0) = true
  t2 : T.getD 0 0 = Int.fmod ((n : Int) * F.getD 0 0) q
  w1 : (mulL q F O).tail.all (· == 0) = true
  w2 : (mulL q F O).getD 0 0 = Int.fmod (normL F) q
  inv : ∀ b k : Int, b * Int.fmod (normL F) q = 1 + q * k → eqI q 1 (mulL q F (mulI q b O)) = true
  kill : ∀ c : Int, 1 ≤ c → c ∣ q → c ∣ Int.fmod (normL F) q → (mulL q F (mulI q (Int.fdiv q c) O)).all (· == 0) = true
theorem m2_of {n : Nat} {R : Type} [Lean.Grind.CommRing R] {φ : List Int → R} {N : R → Int} {X : R} {q : Int} {F T O : List Int} (K : Kit2 n φ N X) (hn : n = 2 ∨ n = 4) (hq : 2 ≤ q) (gF : Good q n F) (gT : Good q n T) (gO : Good q n O)
    (hT : T.tail.all (· == 0) = true ∧ T.getD 0 0 = Int.fmod ((n : Int) * F.getD 0 0) q) (hO : Cg (ic q) (φ F * φ O) (ic (N (φ F)))) : M2 q n F T O :=
  ⟨gT, gO, hT.1, hT.2, (l_unit K hn hq gF gO hO).1, (l_unit K hn hq gF gO hO).2, fun b k h => l_inv K hn hq gF gO hO h, fun c h1 h2 h3 => l_kill K hn hq gF gO hO h1 h2 h3⟩
section
variable {q : Int} {F : List Int}
theorem m2_2 (hq : 2 ≤ q) (gF : Good q 2 F) : M2 q 2 F (addL q F (turnK q 3 F)) (mulL q (1 :: List.replicate (2 - 1) 0) (turnK q 3 F)) := by
  have hn : (2 : Nat) = 2 ∨ 2 = 4 := .inl rfl
  have t3 : Good q 2 (turnK q 3 F) := turnK_good hn hq gF
  exact @m2_of 2 P2 P2.ring φ2 N2 ⟨0, 1⟩ q F _ _ kit2_2 hn hq gF (Good.addL hq gF t3) (Good.mul hq hn (Good.one1 hq hn) t3) (@l2_tot P2 P2.ring φ2 N2 ⟨0, 1⟩ q F kit2_2 hq gF) (@l2_oth P2 P2.ring φ2 N2 ⟨0, 1⟩ q F kit2_2 hq gF fun _ _ => rfl)
theorem m2_4 (hq : 2 ≤ q) (gF : Good q 4 F) : M2 q 4 F (addL q (addL q (addL q F (turnK q 3 F)) (turnK q 5 F)) (turnK q 7 F)) (mulL q (mulL q (mulL q (1 :: List.replicate (4 - 1) 0) (turnK q 3 F)) (turnK q 5 F)) (turnK q 7 F)) := by
  have hn : (4 : Nat) = 2 ∨ 4 = 4 := .inr rfl
  have t3 : Good q 4 (turnK q 3 F) := turnK_good hn hq gF
  have t5 : Good q 4 (turnK q 5 F) := turnK_good hn hq gF
  have t7 : Good q 4 (turnK q 7 F) := turnK_good hn hq gF
  exact @m2_of 4 P4 P4.ring φ4 N4 ⟨0, 1, 0, 0⟩ q F _ _ kit2_4 hn hq gF (Good.addL hq (Good.addL hq (Good.addL hq gF t3) t5) t7) (Good.mul hq hn (Good.mul hq hn (Good.mul hq hn (Good.one1 hq hn) t3) t5) t7)
    (@l4_tot P4 P4.ring φ4 N4 ⟨0, 1, 0, 0⟩ q F kit2_4 hq gF) (@l4_oth P4 P4.ring φ4 N4 ⟨0, 1, 0, 0⟩ q F kit2_4 hq gF fun _ _ _ _ => rfl)
theorem m2_P {n k : Nat} {G : List Int} (hn : n = 2 ∨ n = 4) (hq : 2 ≤ q) (gF : Good q n F) (gG : Good q n G) (ho : k % 2 = 1) : turnK q k (mulL q F G) = mulL q (turnK q k F) (turnK q k G) := by
  rcases hn with e | e
  · subst e; exact @l_P 2 P2 P2.ring φ2 N2 ⟨0, 1⟩ q F G kit2_2 (.inl rfl) hq gF gG k ho
  · subst e; exact @l_P 4 P4 P4.ring φ4 N4 ⟨0, 1, 0, 0⟩ q F G kit2_4 (.inr rfl) hq gF gG k ho
theorem m2_norm {n : Nat} {G : List Int} (hn : n = 2 ∨ n = 4) (hq : 2 ≤ q) (gF : Good q n F) (gG : Good q n G) : Int.fmod (normL (mulL q F G)) q = Int.fmod (Int.fmod (normL F) q * normL G) q := by
  rcases hn with e | e
  · subst e; exact @l_norm 2 P2 P2.ring φ2 N2 ⟨0, 1⟩ q F G kit2_2 (.inl rfl) hq gF gG
  · subst e; exact @l_norm 4 P4 P4.ring φ4 N4 ⟨0, 1, 0, 0⟩ q F G kit2_4 (.inr rfl) hq gF gG
end

end
section
theorem m2_Ps {q : Int} {n : Nat} {F G : List Int} (hn : n = 2 ∨ n = 4) (hq : 2 ≤ q) (gF : Good q n F) (gG : Good q n G) (i : Nat) :
    turnK q (3 + (i : Int) * 2) (mulL q F G) = mulL q (turnK q (3 + (i : Int) * 2) F) (turnK q (3 + (i : Int) * 2) G) := by
  rw [show (3 : Int) + (i : Int) * 2 = ((3 + i * 2 : Nat) : Int) by omega]
  exact m2_P hn hq gF gG (by omega)
theorem m2_all {q : Int} {n : Nat} {F : List Int} (hn : n = 2 ∨ n = 4) (hq : 2 ≤ q) (gF : Good q n F) : M2 q n F (totL q F (n - 1)) (othL q F (1 :: List.replicate (n - 1) 0) (n - 1)) := by
  have k3 : (3 : Int) + ((0 : Nat) : Int) * 2 = 3 := by decide
  have k5 : (3 : Int) + ((1 : Nat) : Int) * 2 = 5 := by decide
  have k7 : (3 : Int) + ((2 : Nat) : Int) * 2 = 7 := by decide
  rcases hn with e | e
  · subst e
    show M2 q 2 F (addL q F (turnK q (3 + ((0 : Nat) : Int) * 2) F)) (mulL q (1 :: List.replicate (2 - 1) 0) (turnK q (3 + ((0 : Nat) : Int) * 2) F))
    rw [k3]
    exact m2_2 hq gF
  · subst e
    show M2 q 4 F (addL q (addL q (addL q F (turnK q (3 + ((0 : Nat) : Int) * 2) F)) (turnK q (3 + ((1 : Nat) : Int) * 2) F)) (turnK q (3 + ((2 : Nat) : Int) * 2) F))
      (mulL q (mulL q (mulL q (1 :: List.replicate (4 - 1) 0) (turnK q (3 + ((0 : Nat) : Int) * 2) F)) (turnK q (3 + ((1 : Nat) : Int) * 2) F)) (turnK q (3 + ((2 : Nat) : Int) * 2) F))
    rw [k3, k5, k7]
    exact m2_4 hq gF
theorem euc_one {q N c : Int} (h : EucInv q N c 0) (e : c = 1) (d : Int) (h0 : 0 < d) (h1 : d ∣ q) (h2 : d ∣ N) : d = 1 := by
  have h3 := ((h d).mp ⟨h1, h2⟩).1
  rw [e] at h3
  exact Int.eq_one_of_dvd_one (by omega) h3
theorem euc_both {q N c : Int} (h : EucInv q N c 0) : c ∣ q ∧ c ∣ N := (h c).mpr ⟨Int.dvd_refl c, Int.dvd_zero c⟩
theorem bits32 {q : Int} (h0 : 2 ≤ q) (h1 : q ≤ 4294967297) : Builtin.Int.intBits q ≤ 100 := Nat.le_trans (intBits_le_64 (by omega) (by omega)) (by decide)

end

end Mine
open Mine
set_option maxRecDepth 100000 in
set_option maxHeartbeats 8000000 in
theorem PySem.Challenge.cw_ay0009_02_holds : PySem.Challenge.rw_ay0009_02.Holds := by
  refine Mine.hd (?_)
  k_fill
  intro w s₀ s₁ mg mb G Y fa o pm cd doc dV kV ho hd hcd hD hmg hg args vals as hpre hlay hrd hwl hlo
  have KX := kIn_of Y.1
  have hT1 := Y.2.1
  have hT2 := Y.2.2
  clear Y
  refine Ground.open G ?_
  intro T B D TE TW
  try (refine guard_noD D (by decide +kernel) ?_; clear D)
  clear hmg
  wrow_args hpre hlay hrd hwl hlo
  first | refine callC_kw (enter_call ?_) | refine enter_call ?_ | refine callC_kw (enter_callW ?_) | refine enter_callW ?_ | w_how
  w_top on
  w_call any ho hd hcd hD T F
  clear hd
  (rename News _ _ _ _ => N0)
  (rename Heap.IsList _ _ _ => hL0)
  (rename IntsAre _ _ => hI0)
  have F1 := fr_hide2 (a := 86) (c := 93) F
  have N1 := news_hide2 F N0 hT1 hT2
  have X1 := in_hide2 (a := 86) (c := 93) KX rfl rfl
  have T1 := top_hide2 T hT1 hT2
  have hL1 := list_hide2 hL0 hT1 hT2
  have B1 := below_caller ((s₁.heap.hide 86).hide 93)
  have hG1 : AllBare s₁.gens := AllBare.of_eq hg
  have hlt1 : @LT.lt Nat _ 86 s₁.heap.objs.size := Heap.lt_size hT1
  have hlt2 : @LT.lt Nat _ 93 s₁.heap.objs.size := Heap.lt_size hT2
  have htr : TriplesOk (#[] : Array Value).toList := triples_nil
  clear F N0 T TE TW B hL0 hD hcd G
  simp only [List.cons_append, List.nil_append] at N1
  clear ho hg
  dsimp only at F1 ⊢
  try ((rename CellsAre _ _ _ => hX0); clear hX0)
  repeat ((rename Obj.data _ = Data.cell (bindC _ _ _ _) => hcA); (have hcA' := cell_none hcA rfl); clear hcA)
  obtain ⟨m0, F2⟩ := fr_small (x := Str.ofString "script") F1 rfl
  clear F1

  have hlen63 := hI0.length
  refine wpAny_execs_cons (st2_0 B1 X1 T1 (os0 := s₁.os) hL1 hI0 (by omega) ⟨⟨m0, F2⟩, N1, ⟨⟨#[], by simp, htr⟩, ⟨#[], by simp, htr⟩⟩, List.forall_mem_cons.mpr ⟨⟨_, List.mem_cons_self, ?_⟩, List.forall_mem_nil _⟩, hG1, rfl⟩ fun s1 nx1 ln ns1 S1 e1 hl1 hlen1 => ?_)
  · assumption
  clear F2 N1
  refine wpAny_execs_cons (st2_1 B1 X1 T1 hl1 hlen1 S1 fun s2 nx2 q tq n tn S2 e2 hq2 hq8 hn => ?_)
  have hqb := bits32 hq2 hq8
  refine wpAny_execs_cons (st2_2 B1 X1 T1 hn hq2 hq8 hqb (hl1.ext e2) hlen1 S2 fun s3 nx3 r S3 e3 hr3 => ?_)
  refine wpAny_execs_cons (st2_3 B1 X1 T1 hn hq2 hq8 hqb (hl1.ext (ext_trans e2 e3)) hlen1 hr3 S3 fun s4 nx4 fx gx Fc Gc S4 e4 hf4 hg4 gf gg => ?_)
  have hr4 := hr3.ext e4
  refine wpAny_execs_cons (st2_4 B1 X1 T1 hn hq2 hq8 hqb hr4 hf4 hg4 gf gg S4 fun s5 nx5 bx ox S5 e5 hb5 hu5 => ?_)
  have gb : Good q n (mulL q Fc Gc) := Good.mul hq2 hn gf gg
  have go : Good q n (1 :: List.replicate (n - 1) 0) := Good.one1 hq2 hn
  refine wpAny_execs_cons (st2_5 B1 X1 T1 (by passes_own) hn hq2 hq8 hqb (hr4.ext e5) (hf4.ext e5) (hg4.ext e5) gf gg hb5 hu5 gb go (m2_Ps hn hq2 gf gg) S5 fun s6 nx6 tx ox6 S6 e6 ht6 hu6 => ?_)
  have e46 := ext_trans e5 e6
  have M := m2_all hn hq2 gf
  refine wpAny_execs_cons (st2_6 B1 X1 T1 hn hq2 hq8 hqb (hr4.ext e46) (hf4.ext e46) (hg4.ext e46) gf gg (hb5.ext e6) ht6 hu6 gb M.gT M.gO S6 fun s7 nx7 tN wx S7 e7 hw7 => ?_)
  have e47 := ext_trans e46 e7
  have gw := Good.mul hq2 hn gf M.gO
  have hN0 : 0 ≤ Int.fmod (normL Fc) q := fm_lo (by omega)
  have hNq : Int.fmod (normL Fc) q < q := fm_hi (by omega)
  refine wpAny_execs_cons (st2_7 B1 X1 T1 hn hq2 hq8 hqb (hr4.ext e47) (hf4.ext e47) (hg4.ext e47) gf gg (hb5.ext (ext_trans e6 e7)) (ht6.ext e7) (hu6.ext e7) gb M.gT M.gO hw7 gw hN0 hNq M.t1 M.t2 M.w1 M.w2 S7 fun s8 nx8 S8 e8 => ?_)
  have e48 := ext_trans e47 e8
  have e68 := ext_trans e7 e8
  refine wpAny_execs_cons (st2_8 B1 X1 T1 hn hq2 hq8 hqb (hr4.ext e48) (hf4.ext e48) (hg4.ext e48) gf gg (hb5.ext (ext_trans e6 e68)) (ht6.ext e68) (hu6.ext e68) gb M.gT M.gO (hw7.ext e8) gw hN0 hNq (m2_norm hn hq2 gf gg) S8 fun s9 nx9 S9 e9 => ?_)
  have e49 := ext_trans e48 e9
  have e69 := ext_trans e68 e9
  refine wpAny_execs_cons (st2_9 (tn := tn) B1 X1 T1 hn hq2 hq8 hqb (hr4.ext e49) (hf4.ext e49) (hu6.ext e69) gf M.gO hN0 hNq S9 fun s10 nx10 tc tr S10 e10 => ?_)
  have e410 := ext_trans e49 e10
  have e610 := ext_trans e69 e10
  refine wpAny_execs_cons (st2_10 (tn := tn) B1 X1 T1 (by passes_own) hn hq2 hq8 hqb (hr4.ext e410) (hf4.ext e410) (hu6.ext e610) gf M.gO hN0 hNq S10 fun s11 nx11 cc tc11 S11 e11 hc1 hInv => ?_)
  have e411 := ext_trans e410 e11
  have e611 := ext_trans e610 e11
  refine wpAny_execs_cons (st2_11 (tn := tn) B1 X1 T1 hn hq2 hq8 hqb (hr4.ext e411) (hf4.ext e411) (hu6.ext e611) gf M.gO hN0 hNq (fun _ b _ _ h => h.elim fun k h => M.inv b k h) (fun e => euc_one hInv e) (fun s12 nx12 S12 e12 => ?_) S11 fun s12 nx12 hcc S12 e12 => ?_)
  · obtain ⟨⟨m13, F13⟩, N13, ⟨⟨pa, ta, _⟩, ⟨pc, tc, _⟩⟩, _, G13, O13⟩ := S12
    (dsimp only; exact law_end (ca := 90) (cc := 97) rfl F13 N13 ta tc hT1 hT2 KX rfl rfl rfl rfl G13 O13 (fun _ => rfl) (postW_of rfl (w_eq_bool (w_res rfl) w_lit) rfl))
  have e412 := ext_trans e411 e12
  have e612 := ext_trans e611 e12
  refine wpAny_execs_cons (st2_12 (tn := tn) B1 X1 T1 hn hq2 hq8 hqb (hr4.ext e412) (hf4.ext e412) (hu6.ext e612) gf M.gO hN0 hNq hc1 (M.kill cc hc1 (euc_both hInv).1 (euc_both hInv).2) S12 fun s13 nx13 S13 e13 => ?_)
  obtain ⟨⟨m13, F13⟩, N13, ⟨⟨pa, ta, _⟩, ⟨pc, tc, _⟩⟩, _, G13, O13⟩ := S13
  (dsimp only; exact law_end (ca := 90) (cc := 97) rfl F13 N13 ta tc hT1 hT2 KX rfl rfl rfl rfl G13 O13 (fun _ => rfl) (postW_of rfl (w_eq_bool (w_res rfl) w_lit) rfl))
