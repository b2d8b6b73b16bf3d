import PyProof.Rows.All
import Wide.All
import OpenK.AllK
import Wide.FinOn
import PySem.Challenge.RW_kn0037_01
set_option Elab.async false
set_option maxRecDepth 100000
set_option maxHeartbeats 8000000

section
open PySem PySem.W PyProof.Rows PySem.Spec PySem.Calls PyProof.V
namespace Mine

def LoopS {σ : Type} (Led : σ → List (Addr × Obj)) (ps : σ → List (Str × Value)) (Facts : Nat → σ → Prop) (x : Str) (stored : List Str) (m₀ : Str → Option Value) (i : Nat) (m : Str → Option Value) (nx : List (Addr × Obj)) : Prop :=
  ∃ c : σ, nx = Led c ∧ Facts i c ∧ (∀ p ∈ ps c, m p.1 = some p.2) ∧ (∀ z, z ≠ x → (∀ p ∈ ps c, z ≠ p.1) → stored.contains z = false → m z = m₀ z)

/-- what the turn must show where it comes to its end -/
def TurnEnd {σ : Type} (Led : σ → List (Addr × Obj)) (ps : σ → List (Str × Value)) (Facts : Nat → σ → Prop) (x : Str) (stored : List Str) (m₀ : Str → Option Value) (i : Nat) (h₀ : Heap) (L : Addr) (own : List (Addr × Obj)) (s₁ s₂ : Shared) : Prop :=
  InvEndG h₀ L (LoopS Led ps Facts x stored m₀ i) own s₁ s₂
/-- what the turn must show where it breaks -/
def BrkEnd {σ : Type} (Led : σ → List (Addr × Obj)) (ps : σ → List (Str × Value)) (Fin : σ → Prop) (x : Str) (stored : List Str) (m₀ : Str → Option Value) (h₀ : Heap) (L : Addr) (s₁ s₂ : Shared) : Prop :=
  ∃ c m' h' tk, s₂ = { s₁ with heap := h', toks := tk } ∧ Fin c ∧ Fr h₀ L h' m' ∧ News h₀ L h' (Led c) ∧ (∀ p ∈ ps c, m' p.1 = some p.2) ∧ (∀ z, z ≠ x → (∀ p ∈ ps c, z ≠ p.1) → stored.contains z = false → m' z = m₀ z)
def TurnPost {σ : Type} (Led : σ → List (Addr × Obj)) (ps : σ → List (Str × Value)) (Facts : Nat → σ → Prop) (Fin : σ → Prop) (x : Str) (stored : List Str) (m₀ : Str → Option Value) (i : Nat) (h₀ : Heap) (L : Addr) (own : List (Addr × Obj)) (s₁ : Shared) (f : Flow) (s₂ : Shared) : Prop :=
  match f with
  | .ret _ => False
  | .brk => BrkEnd Led ps Fin x stored m₀ h₀ L s₁ s₂
  | _ => TurnEnd Led ps Facts x stored m₀ i h₀ L own s₁ s₂

section
variable {prog : Program} {w : World} {A : Around} {E : Value → Shared → Prop} {s : Shared} {env : Env} {h₀ : Heap} {x : Str} {body : List Stmt} {Q : Flow → Shared → Prop}

theorem turn_end {σ : Type} {Led : σ → List (Addr × Obj)} {ps : σ → List (Str × Value)} {Facts : Nat → σ → Prop} {stored : List Str} {m₀ : Str → Option Value} {i : Nat} {L : Addr} {own news' : List (Addr × Obj)} {s₁ : Shared} {h' : Heap} {tk : Nat} {m' : Str → Option Value} (c : σ)
    (F : Fr h₀ L h' m') (N : News h₀ L h' news') (hn : ∀ p ∈ Led c, p ∈ news') (ho : ∀ p ∈ own, p ∈ news') (ha : OwnOff own ((Led c).map (·.1))) (hk : ∀ p ∈ ps c, m' p.1 = some p.2)
    (hr : ∀ z, z ≠ x → (∀ p ∈ ps c, z ≠ p.1) → stored.contains z = false → m' z = m₀ z) (hf : Facts i c) :
    TurnEnd Led ps Facts x stored m₀ i h₀ L own s₁ { s₁ with heap := h', toks := tk } :=
  ⟨h', tk, m', news', Led c, rfl, F, N, hn, ho, ha, c, rfl, hf, hk, hr⟩
theorem brk_end {σ : Type} {Led : σ → List (Addr × Obj)} {ps : σ → List (Str × Value)} {Fin : σ → Prop} {stored : List Str} {m₀ : Str → Option Value} {L : Addr} {news' : List (Addr × Obj)} {s₁ : Shared} {h' : Heap} {tk : Nat} {m' : Str → Option Value} (c : σ)
    (F : Fr h₀ L h' m') (N : News h₀ L h' news') (hn : ∀ p ∈ Led c, p ∈ news') (hk : ∀ p ∈ ps c, m' p.1 = some p.2)
    (hr : ∀ z, z ≠ x → (∀ p ∈ ps c, z ≠ p.1) → stored.contains z = false → m' z = m₀ z) (hf : Fin c) :
    BrkEnd Led ps Fin x stored m₀ h₀ L s₁ { s₁ with heap := h', toks := tk } :=
  ⟨c, m', h', tk, rfl, hf, F, fun p hp => N p (hn p hp), hk, hr⟩

theorem any_loop {σ : Type} {I : Addr} {fp wr : List Addr} {n : Nat} {P : Nat → Value → Prop} {St : Nat → Heap → Prop} {m₀ : Str → Option Value} (Led : σ → List (Addr × Obj)) (ps : σ → List (Str × Value)) (Facts : Nat → σ → Prop) (Fin : σ → Prop) (stored : List Str) (c₀ : σ)
    (W : Walks prog w A I fp wr n P St) (hfw : ∀ a ∈ fp, a ∈ wr) (hwf : ∀ b ∈ wr, b ∈ fp) (hob : ∀ i h, St i h → ∀ b ∈ wr, ∃ o, h.get? b = some o) (hLf : env.locals ∉ fp) (hwr : ∀ b ∈ wr, h₀.get? b = none) (hnw : ∀ p ∈ Led c₀, p.1 ∉ wr) (hst : St 0 s.heap)
    (F : Fr h₀ env.locals s.heap m₀) (N : News h₀ env.locals s.heap (Led c₀)) (hf : Facts 0 c₀) (hk : ∀ p ∈ ps c₀, m₀ p.1 = some p.2)
    (turn : ∀ (c : σ) i v (u : Str → Option Value) h tk own, i < n → P i v → OwnOff own ((Led c).map (·.1)) → Facts i c →
      Fr h₀ env.locals h (fun y => if y = x then some v else kstB (fun z => if stored.contains z then u z else m₀ z) (ps c) y) → News h₀ env.locals h (Led c ++ own) →
      wpAny (model prog w) A (execs body env) (TurnPost Led ps Facts Fin x stored m₀ (i + 1) h₀ env.locals own { s with heap := h, toks := tk }) E { s with heap := h, toks := tk })
    (hfin : ∀ c, Facts n c → Fin c)
    (done : ∀ (c : σ) (u : Str → Option Value) h tk, Fin c → Fr h₀ env.locals h (fun y => if y = x then u y else kstB (fun z => if stored.contains z then u z else m₀ z) (ps c) y) → News h₀ env.locals h (Led c) → Q .next { s with heap := h, toks := tk }) :
    LoopAtV prog w A h₀ env x body Q E (.ref I) s := by
  refine kdr_loop (fun i m nx => LoopS Led ps Facts x stored m₀ i m nx) W hfw hwf hob hLf hwr hnw hst F N ⟨c₀, rfl, hf, hk, fun _ _ _ _ => rfl⟩ ?_ ?_
  · rintro i v m₁ nx h tk own hi hP hoff ⟨c, rfl, hf', h1, h2⟩ F₁ N₁
    refine wpAny_mono (turn c i v m₁ h tk own hi hP hoff hf' (kst_fr h1 h2 F₁) N₁) (fun f s₂ p => ?_) fun _ _ e => e
    cases f with
    | ret v => exact p.elim
    | brk =>
      obtain ⟨c', m', h', tk', rfl, hF, F', N', k1, k2⟩ := p
      exact done c' m' h' tk' hF (kst_frOut k1 k2 F') N'
    | next => exact p
    | cont => exact p
  · rintro m₁ nx h tk ⟨c, rfl, hf', h1, h2⟩ F₁ N₁
    exact done c m₁ h tk (hfin c hf') (kst_frOut h1 h2 F₁) N₁

/-- a text, sign by sign -/
theorem text_loop {σ : Type} {xt : Str} {tx : Tok} {m₀ : Str → Option Value} (Led : σ → List (Addr × Obj)) (ps : σ → List (Str × Value)) (Facts : Nat → σ → Prop) (Fin : σ → Prop) (stored : List Str) (c₀ : σ)
    (hh : A.handled = none) (F : Fr h₀ env.locals s.heap m₀) (N : News h₀ env.locals s.heap (Led c₀)) (hf : Facts 0 c₀) (hk : ∀ p ∈ ps c₀, m₀ p.1 = some p.2)
    (turn : ∀ (c : σ) i (n : Nat) t (u : Str → Option Value) h tk own, i < xt.cps.size → xt.cps[i]? = some n → OwnOff own ((Led c).map (·.1)) → Facts i c →
      Fr h₀ env.locals h (fun y => if y = x then some (.str ⟨#[n]⟩ t) else kstB (fun z => if stored.contains z then u z else m₀ z) (ps c) y) → News h₀ env.locals h (Led c ++ own) →
      wpAny (model prog w) A (execs body env) (TurnPost Led ps Facts Fin x stored m₀ (i + 1) h₀ env.locals own { s with heap := h, toks := tk }) E { s with heap := h, toks := tk })
    (hfin : ∀ c, Facts xt.cps.size c → Fin c)
    (done : ∀ (c : σ) (u : Str → Option Value) h tk, Fin c → Fr h₀ env.locals h (fun y => if y = x then u y else kstB (fun z => if stored.contains z then u z else m₀ z) (ps c) y) → News h₀ env.locals h (Led c) → Q .next { s with heap := h, toks := tk }) :
    wpAny (model prog w) A (pyIter (.str xt tx)) (fun it s₂ => LoopAtV prog w A h₀ env x body Q E it s₂) E s := by
  have key : ∀ (o : Obj) (St : Nat → Heap → Prop), Walks prog w A s.heap.objs.size [s.heap.objs.size] [s.heap.objs.size] xt.cps.size (SignAt xt) St → St 0 (s.heap.push o) → (∀ i h, St i h → ∃ o, h.get? s.heap.objs.size = some o) →
      LoopAtV prog w A h₀ env x body Q E (.ref s.heap.objs.size) { s with heap := s.heap.push o } := by
    intro o St W hst hlive
    refine any_loop Led ps Facts Fin stored c₀ W (fun _ h => h) (fun _ h => h) (fun i h hi b hb => ?_) ?_ ?_ ?_ hst (F.push _) (fun p hp => ⟨Heap.get?_push_of_some _ (N p hp).1, (N p hp).2⟩) hf hk ?_ hfin (fun c u h tk a b d => done c u h tk a b d)
    · rw [List.mem_singleton.mp hb]; exact hlive i h hi
    · intro hm
      exact absurd F.ns.lt ((List.mem_singleton.mp hm) ▸ Nat.lt_irrefl _)
    · intro b' hb
      rw [List.mem_singleton.mp hb]
      exact next_is_new F
    · intro p hp hI
      exact absurd (Heap.lt_size (N p hp).1) ((List.mem_singleton.mp hI) ▸ Nat.lt_irrefl _)
    · rintro c i v u h tk own hi ⟨n, t, hn, rfl⟩ hoff hf' F₁ N₁
      exact turn c i n t u h tk own hi hn hoff hf' F₁ N₁
  cases ha : xt.cps.all (· < 128)
  · exact wpAny_pyIter_wide ha (key _ _ (Walks.strWide hh _ xt tx) ⟨_, Heap.get?_push_size _ rfl, rfl, rfl⟩ fun i h ⟨o, ho, _⟩ => ⟨o, ho⟩)
  · exact wpAny_pyIter_ascii ha (key _ _ (Walks.strAscii hh _ xt tx) ⟨_, Heap.get?_push_size _ rfl, rfl, rfl⟩ fun i h ⟨o, ho, _⟩ => ⟨o, ho⟩)

/-- a range by ones -/
theorem range_loop {σ : Type} {r : Addr} {a₀ b₀ : Int} {t₀ u₀ v₀ : Tok} {n : Nat} {m₀ : Str → Option Value} (Led : σ → List (Addr × Obj)) (ps : σ → List (Str × Value)) (Facts : Nat → σ → Prop) (Fin : σ → Prop) (stored : List Str) (c₀ : σ)
    (hh : A.handled = none) (hr : IsRange s.heap r a₀ b₀ 1 t₀ u₀ v₀) (hsmall : Builtin.Range.small a₀ b₀ 1 = true) (hsz : Builtin.Range.rangeSize a₀ b₀ 1 = (n : Int)) (F : Fr h₀ env.locals s.heap m₀) (N : News h₀ env.locals s.heap (Led c₀)) (hf : Facts 0 c₀) (hk : ∀ p ∈ ps c₀, m₀ p.1 = some p.2)
    (turn : ∀ (c : σ) (i : Nat) t (u : Str → Option Value) h tk own, i < n → OwnOff own ((Led c).map (·.1)) → Facts i c →
      Fr h₀ env.locals h (fun y => if y = x then some (.int (a₀ + (i : Int)) t) else kstB (fun z => if stored.contains z then u z else m₀ z) (ps c) y) → News h₀ env.locals h (Led c ++ own) →
      wpAny (model prog w) A (execs body env) (TurnPost Led ps Facts Fin x stored m₀ (i + 1) h₀ env.locals own { s with heap := h, toks := tk }) E { s with heap := h, toks := tk })
    (hfin : ∀ c, Facts n c → Fin c)
    (done : ∀ (c : σ) (u : Str → Option Value) h tk, Fin c → Fr h₀ env.locals h (fun y => if y = x then u y else kstB (fun z => if stored.contains z then u z else m₀ z) (ps c) y) → News h₀ env.locals h (Led c) → Q .next { s with heap := h, toks := tk }) :
    wpAny (model prog w) A (pyIter (.ref r)) (fun it s₂ => LoopAtV prog w A h₀ env x body Q E it s₂) E s := by
  refine wpAny_pyIter_range hr hsmall ?_
  have W : Walks prog w A s.heap.objs.size [s.heap.objs.size] [s.heap.objs.size] n (fun i v => i < n ∧ ∃ t, v = .int (a₀ + i * 1) t)
      (fun i h => IsRangeIter h s.heap.objs.size (a₀ + (i : Nat) * 1) ((n : Int) - (i : Nat)) 1) := (Walks.range hh _ a₀ 1 n).bound
  refine any_loop Led ps Facts Fin stored c₀ W (fun _ h => h) (fun _ h => h) ?_ ?_ ?_ ?_ (by show IsRangeIter _ _ _ _ _; rw [hsz]; simpa using Heap.get?_push_size _ rfl) (F.push _) (fun p hp => ⟨Heap.get?_push_of_some _ (N p hp).1, (N p hp).2⟩) hf hk ?_ hfin (fun c u h tk a b d => done c u h tk a b d)
  · intro i h hi b hb
    rw [List.mem_singleton.mp hb]
    exact ⟨_, hi⟩
  · intro hm
    exact absurd F.ns.lt ((List.mem_singleton.mp hm) ▸ Nat.lt_irrefl _)
  · intro b hb
    rw [List.mem_singleton.mp hb]
    exact next_is_new F
  · intro p hp hI
    exact absurd (Heap.lt_size (N p hp).1) ((List.mem_singleton.mp hI) ▸ Nat.lt_irrefl _)
  · rintro c i v u h tk own hi ⟨_, t, rfl⟩ hoff hf' F₁ N₁
    have e1 : a₀ + (i : Int) * 1 = a₀ + (i : Int) := by omega
    rw [e1] at F₁
    exact turn c i t u h tk own hi hoff hf' F₁ N₁
end
end Mine
namespace Mine
section
variable {prog : Program} {w : World} {A : Around} {E : Value → Shared → Prop} {s : Shared} {env : Env} {h₀ : Heap} {x : Str} {body : List Stmt} {Q : Flow → Shared → Prop}
/-- a list of the ledger that the loop does not turn -/
theorem list_loop {σ : Type} {l : Addr} {vs : List Value} {nn : Nat} {m₀ : Str → Option Value} (Led : σ → List (Addr × Obj)) (ps : σ → List (Str × Value)) (Facts : Nat → σ → Prop) (Fin : σ → Prop) (stored : List Str) (c₀ : σ)
    (hh : A.handled = none) (hl : ∀ c, (l, listOf vs.toArray nn) ∈ Led c) (F : Fr h₀ env.locals s.heap m₀) (N : News h₀ env.locals s.heap (Led c₀)) (hf : Facts 0 c₀) (hk : ∀ p ∈ ps c₀, m₀ p.1 = some p.2)
    (turn : ∀ (c : σ) i v (u : Str → Option Value) h tk own, vs[i]? = some v → OwnOff own ((Led c).map (·.1)) → Facts i c →
      Fr h₀ env.locals h (fun y => if y = x then some v else kstB (fun z => if stored.contains z then u z else m₀ z) (ps c) y) → News h₀ env.locals h (Led c ++ own) →
      wpAny (model prog w) A (execs body env) (TurnPost Led ps Facts Fin x stored m₀ (i + 1) h₀ env.locals own { s with heap := h, toks := tk }) E { s with heap := h, toks := tk })
    (hfin : ∀ c, Facts vs.length c → Fin c)
    (done : ∀ (c : σ) (u : Str → Option Value) h tk, Fin c → Fr h₀ env.locals h (fun y => if y = x then u y else kstB (fun z => if stored.contains z then u z else m₀ z) (ps c) y) → News h₀ env.locals h (Led c) → Q .next { s with heap := h, toks := tk }) :
    wpAny (model prog w) A (pyIter (.ref l)) (fun it s₂ => LoopAtV prog w A h₀ env x body Q E it s₂) E s := by
  refine kdl_iter (fun i m nx => LoopS Led ps Facts x stored m₀ i m nx) hh (hl c₀) F N ⟨c₀, rfl, hf, hk, fun _ _ _ _ => rfl⟩ ?_ ?_
  · rintro i v m₁ nx h tk own hv hoff _ ⟨c, rfl, hf', h1, h2⟩ F₁ N₁
    refine wpAny_mono (turn c i v m₁ h tk own hv hoff hf' (kst_fr h1 h2 F₁) N₁) (fun f s₂ p => ?_) fun _ _ e => e
    have up : TurnEnd Led ps Facts x stored m₀ (i + 1) h₀ env.locals own { s with heap := h, toks := tk } s₂ →
        InvEndG h₀ env.locals (fun m' nx => (l, listOf vs.toArray nn) ∈ nx ∧ LoopS Led ps Facts x stored m₀ (i + 1) m' nx) own { s with heap := h, toks := tk } s₂ := by
      rintro ⟨h', tk', m', news', nx', e', F', N', hn', ho', ha, hS⟩
      refine ⟨h', tk', m', news', nx', e', F', N', hn', ho', ha, ?_, hS⟩
      obtain ⟨c', rfl, _⟩ := hS
      exact hl c'
    cases f with
    | ret v => exact p.elim
    | brk =>
      obtain ⟨c', m', h', tk', rfl, hF, F', N', k1, k2⟩ := p
      exact done c' m' h' tk' hF (kst_frOut k1 k2 F') N'
    | next => exact up p
    | cont => exact up p
  · rintro m₁ nx h tk ⟨c, rfl, hf', h1, h2⟩ F₁ N₁
    exact done c m₁ h tk (hfin c hf') (kst_frOut h1 h2 F₁) N₁
end
end Mine
end

section
open PySem PySem.W PyProof.Rows PySem.Spec PySem.Calls PyProof.V
namespace Mine

/-! ## what `Whitespace.__init__` reckons -/
def grown (ns : List Int) (b : Int) : List Int := if (ns.length : Int) ≤ b then ns ++ List.replicate (b - ns.length + 1).toNat 0 else ns
def bump (ns : List Int) (b : Int) : List Int := (grown ns b).set b.toNat ((grown ns b).getD b.toNat 0 + 1)
/-- counts, b, n, nt -/
abbrev PSt := List Int × Int × Int × Int
def pstep (st : PSt) (c : Nat) : PSt :=
  if c = 32 then (st.1, st.2.1 + 1, st.2.2.1 + 1, st.2.2.2) else if c = 9 then (bump st.1 st.2.1, 0, st.2.2.1 + 1, st.2.2.2 + 1) else st
def isWs (c : Nat) : Bool := c == 32 || c == 9
def scanOf (l : List Nat) : PSt := l.foldl pstep ([], 0, 0, 0)
def wsOf (x : Str) : List Nat := x.cps.toList.takeWhile isWs

structure InitSt where
  cl : Addr
  vs : List Value
  cn : Nat
  ns : List Int
  b : Int
  n : Int
  nt : Int
  tb : Tok
  tn : Tok
  tnt : Tok

def initLed (rest : List (Addr × Obj)) (c : InitSt) : List (Addr × Obj) := (c.cl, listOf c.vs.toArray c.cn) :: rest
def initPs (c : InitSt) : List (Str × Value) := [(Str.ofString "count", .ref c.cl), (Str.ofString "b", .int c.b c.tb), (Str.ofString "n", .int c.n c.tn), (Str.ofString "nt", .int c.nt c.tnt)]
structure InitFacts (xt : Str) (rest : List (Addr × Obj)) (i : Nat) (c : InitSt) : Prop where
  hI : IntsAre c.vs c.ns
  hOff : ∀ p ∈ rest, p.1 < c.cl
  hScan : scanOf (xt.cps.toList.take i) = (c.ns, c.b, c.n, c.nt)
  hWs : (xt.cps.toList.take i).all isWs = true
structure InitFin (xt : Str) (rest : List (Addr × Obj)) (c : InitSt) : Prop where
  hI : IntsAre c.vs c.ns
  hOff : ∀ p ∈ rest, p.1 < c.cl
  hScan : scanOf (wsOf xt) = (c.ns, c.b, c.n, c.nt)

theorem take_succ {l : List Nat} {i c : Nat} (h : l[i]? = some c) : l.take (i + 1) = l.take i ++ [c] := by simp [List.take_add_one, h]
theorem scan_snoc (l : List Nat) (c : Nat) : scanOf (l ++ [c]) = pstep (scanOf l) c := by simp [scanOf]
theorem takeWhile_all {l : List Nat} (h : l.all isWs = true) : l.takeWhile isWs = l := by
  induction l with
  | nil => rfl
  | cons a l ih => simp only [List.all_cons, Bool.and_eq_true] at h; simp [List.takeWhile_cons, h.1, ih h.2]
theorem takeWhile_brk {l : List Nat} {i c : Nat} (h : (l.take i).all isWs = true) (hc : l[i]? = some c) (hn : isWs c = false) : l.takeWhile isWs = l.take i := by
  induction l generalizing i with
  | nil => simp at hc
  | cons a l ih =>
    cases i with
    | zero => simp at hc; subst hc; simp [List.takeWhile_cons, hn]
    | succ i =>
      simp only [List.take_succ_cons, List.all_cons, Bool.and_eq_true] at h
      simp only [List.getElem?_cons_succ] at hc
      simp [List.takeWhile_cons, h.1, ih h.2 hc]

theorem at_cps {x : Str} {i c : Nat} (h : x.cps[i]? = some c) : x.cps.toList[i]? = some c := by simpa using h

theorem bump_length (ns : List Int) (b : Int) (h : 0 ≤ b) : ((bump ns b).length : Int) = max (ns.length : Int) (b + 1) := by
  unfold bump grown
  rw [List.length_set]
  split
  · rw [List.length_append, List.length_replicate]; omega
  · omega
theorem scan_bounds (l : List Nat) : 0 ≤ (scanOf l).2.1 ∧ ((scanOf l).1.length : Int) + (scanOf l).2.1 ≤ l.length := by
  have gen : ∀ (l : List Nat) (st : PSt), 0 ≤ st.2.1 → 0 ≤ (l.foldl pstep st).2.1 ∧ ((l.foldl pstep st).1.length : Int) + (l.foldl pstep st).2.1 ≤ st.1.length + st.2.1 + l.length := by
    intro l
    induction l with
    | nil => intro st h; simp; omega
    | cons c l ih =>
      intro st h
      have key : 0 ≤ (pstep st c).2.1 ∧ ((pstep st c).1.length : Int) + (pstep st c).2.1 ≤ st.1.length + st.2.1 + 1 := by
        unfold pstep
        split
        · refine ⟨?_, ?_⟩ <;> dsimp only <;> omega
        · split
          · have := bump_length st.1 st.2.1 h
            refine ⟨?_, ?_⟩ <;> dsimp only <;> omega
          · omega
      have := ih (pstep st c) key.1
      simp only [List.foldl_cons, List.length_cons]
      omega
  have := gen l ([], 0, 0, 0) (by decide)
  simpa [scanOf] using this

section
variable {prog : Program} {w : World} {A : Around} {E : Value → Shared → Prop} {s : Shared} {env : Env} {h₀ : Heap} {x : Str} {body : List Stmt} {Q : Flow → Shared → Prop}
theorem init_loop {xt : Str} {tx : Tok} {m₀ : Str → Option Value} {rest : List (Addr × Obj)} {cl : Addr} {cn : Nat} {tb tn tnt : Tok} (hh : A.handled = none) (F : Fr h₀ env.locals s.heap m₀) (N : News h₀ env.locals s.heap ((cl, listOf [].toArray cn) :: rest))
    (hsz : xt.cps.size ≤ 100)     (hoff : ∀ p ∈ rest, p.1 < cl) (k1 : m₀ (Str.ofString "count") = some (.ref cl)) (k2 : m₀ (Str.ofString "b") = some (.int 0 tb)) (k3 : m₀ (Str.ofString "n") = some (.int 0 tn)) (k4 : m₀ (Str.ofString "nt") = some (.int 0 tnt))
    (turn : ∀ cl vs cn ns b n nt tb tn tnt i (ch : Nat) t (u : Str → Option Value) h tk own, i < xt.cps.size → xt.cps[i]? = some ch → OwnOff own (cl :: rest.map (·.1)) → InitFacts xt rest i ⟨cl, vs, cn, ns, b, n, nt, tb, tn, tnt⟩ → IntsAre vs ns → (∀ p ∈ rest, p.1 < cl) → 0 ≤ b → (ns.length : Int) + b ≤ 100 →
      Fr h₀ env.locals h (fun y => if y = x then some (.str ⟨#[ch]⟩ t) else if y = Str.ofString "count" then some (.ref cl) else if y = Str.ofString "b" then some (.int b tb) else if y = Str.ofString "n" then some (.int n tn) else if y = Str.ofString "nt" then some (.int nt tnt) else m₀ y) →
      News h₀ env.locals h ((cl, listOf vs.toArray cn) :: (rest ++ own)) →
      wpAny (model prog w) A (execs body env) (TurnPost (initLed rest) initPs (InitFacts xt rest) (InitFin xt rest) x [] m₀ (i + 1) h₀ env.locals own { s with heap := h, toks := tk }) E { s with heap := h, toks := tk })
    (done : ∀ cl vs cn ns b n nt tb tn tnt (u : Str → Option Value) h tk, InitFin xt rest ⟨cl, vs, cn, ns, b, n, nt, tb, tn, tnt⟩ → IntsAre vs ns → (∀ p ∈ rest, p.1 < cl) → scanOf (wsOf xt) = (ns, b, n, nt) → 0 ≤ b → (ns.length : Int) + b ≤ 100 →
      Fr h₀ env.locals h (fun y => if y = x then u y else if y = Str.ofString "count" then some (.ref cl) else if y = Str.ofString "b" then some (.int b tb) else if y = Str.ofString "n" then some (.int n tn) else if y = Str.ofString "nt" then some (.int nt tnt) else m₀ y) →
      News h₀ env.locals h ((cl, listOf vs.toArray cn) :: rest) → Q .next { s with heap := h, toks := tk }) :
    wpAny (model prog w) A (pyIter (.str xt tx)) (fun it s₂ => LoopAtV prog w A h₀ env x body Q E it s₂) E s := by
  refine text_loop (initLed rest) initPs (InitFacts xt rest) (InitFin xt rest) [] ⟨cl, [], cn, [], 0, 0, 0, tb, tn, tnt⟩ hh F N ⟨.nil, hoff, rfl, rfl⟩ ?_ ?_ ?_ ?_
  · intro p hp
    simp only [initPs, List.mem_cons, List.not_mem_nil, or_false] at hp
    rcases hp with rfl | rfl | rfl | rfl <;> assumption
  · rintro ⟨cl, vs, cn, ns, b, n, nt, tb, tn, tnt⟩ i ch t u h tk own hi hc hoff hf F₁ N₁
    have hb := scan_bounds (xt.cps.toList.take i)
    rw [hf.hScan] at hb
    have hl : (xt.cps.toList.take i).length ≤ 100 := by rw [List.length_take, Array.length_toList]; omega
    exact turn cl vs cn ns b n nt tb tn tnt i ch t u h tk own hi hc hoff hf hf.hI hf.hOff hb.1 (by have := hb.2; dsimp only at this; omega) F₁ N₁
  · intro c hc
    have e : xt.cps.toList.take xt.cps.size = xt.cps.toList := by rw [← Array.length_toList, List.take_length]
    have h1 := hc.hWs
    have h2 := hc.hScan
    rw [e] at h1 h2
    exact ⟨hc.hI, hc.hOff, by rw [wsOf, takeWhile_all h1, h2]⟩
  · rintro ⟨cl, vs, cn, ns, b, n, nt, tb, tn, tnt⟩ u h tk hf F₁ N₁
    have hb := scan_bounds (wsOf xt)
    rw [hf.hScan] at hb
    have hl : (wsOf xt).length ≤ 100 := by
      have := (List.takeWhile_prefix (l := xt.cps.toList) isWs).length_le
      rw [Array.length_toList] at this
      exact Nat.le_trans this hsz
    exact done cl vs cn ns b n nt tb tn tnt u h tk hf hf.hI hf.hOff hf.hScan hb.1 (by have := hb.2; dsimp only at this; omega) F₁ N₁
end
end Mine
namespace Mine
theorem own_off_new {own : List (Addr × Obj)} {cl cl' : Addr} {r : List Addr} (h : OwnOff own (cl :: r)) (h' : ∀ p ∈ own, p.1 ≠ cl') : OwnOff own (cl' :: r) := by
  intro p hp b hb
  rcases List.mem_cons.mp hb with rfl | hb
  · exact h' p hp
  · exact h p hp b (.tail _ hb)
theorem flat_zero (k : Nat) : (List.replicate k [(0 : Int)]).flatten = List.replicate k 0 := by
  induction k with
  | zero => rfl
  | succ k ih => rw [List.replicate_succ, List.flatten_cons, ih, List.replicate_succ]; rfl
theorem sign_is {ch : Nat} {x : Str} {c : Nat} (hx : x = ⟨#[c]⟩) (h : ((⟨#[ch]⟩ : Str) == x) = true) : ch = c := by
  subst hx
  have := eq_of_beq h
  injection this with h1
  have := congrArg Array.toList h1
  simpa using this
theorem sign_not {ch : Nat} {x : Str} {c : Nat} (hx : x = ⟨#[c]⟩) (h : ((⟨#[ch]⟩ : Str) == x) = false) : ch ≠ c := by
  rintro rfl
  subst hx
  exact absurd h (by simp)
section
variable {xt : Str} {rest : List (Addr × Obj)} {i ch : Nat} {cl cl' : Addr} {vs vs' : List Value} {cn cn' : Nat} {ns : List Int} {b n nt : Int} {tb tn tnt tb' tn' tnt' : Tok}
theorem facts_S (hf : InitFacts xt rest i ⟨cl, vs, cn, ns, b, n, nt, tb, tn, tnt⟩) (hc : xt.cps[i]? = some ch) (he : ((⟨#[ch]⟩ : Str) == Str.ofString " ") = true) :
    InitFacts xt rest (i + 1) ⟨cl, vs, cn', ns, b + 1, n + 1, nt, tb', tn', tnt'⟩ := by
  have e := sign_is (c := 32) (by decide) he
  subst e
  refine ⟨hf.hI, hf.hOff, ?_, ?_⟩
  · rw [take_succ (at_cps hc), scan_snoc, hf.hScan]; rfl
  · rw [take_succ (at_cps hc), List.all_append, hf.hWs]; rfl
theorem facts_T (hf : InitFacts xt rest i ⟨cl, vs, cn, ns, b, n, nt, tb, tn, tnt⟩) (hc : xt.cps[i]? = some ch) (he : ((⟨#[ch]⟩ : Str) == Str.ofString "\t") = true) (hb : (ns.length : Int) ≤ b)
    (hi : IntsAre vs' ((ns ++ (List.replicate (b - ns.length + 1).toNat [0]).flatten).set b.toNat ((ns ++ (List.replicate (b - ns.length + 1).toNat [0]).flatten).getD b.toNat 0 + 1))) (ho : ∀ p ∈ rest, p.1 < cl') :
    InitFacts xt rest (i + 1) ⟨cl', vs', cn', (ns ++ (List.replicate (b - ns.length + 1).toNat [0]).flatten).set b.toNat ((ns ++ (List.replicate (b - ns.length + 1).toNat [0]).flatten).getD b.toNat 0 + 1), 0, n + 1, nt + 1, tb', tn', tnt'⟩ := by
  have e := sign_is (c := 9) (by decide) he
  subst e
  refine ⟨hi, ho, ?_, ?_⟩
  · rw [take_succ (at_cps hc), scan_snoc, hf.hScan, flat_zero]
    simp only [pstep, bump, grown, hb, if_true]
    rfl
  · rw [take_succ (at_cps hc), List.all_append, hf.hWs]; rfl
theorem facts_U (hf : InitFacts xt rest i ⟨cl, vs, cn, ns, b, n, nt, tb, tn, tnt⟩) (hc : xt.cps[i]? = some ch) (he : ((⟨#[ch]⟩ : Str) == Str.ofString "\t") = true) (hb : ¬ (ns.length : Int) ≤ b)
    (hi : IntsAre vs' (ns.set b.toNat (ns.getD b.toNat 0 + 1))) (ho : ∀ p ∈ rest, p.1 < cl') :
    InitFacts xt rest (i + 1) ⟨cl', vs', cn', ns.set b.toNat (ns.getD b.toNat 0 + 1), 0, n + 1, nt + 1, tb', tn', tnt'⟩ := by
  have e := sign_is (c := 9) (by decide) he
  subst e
  refine ⟨hi, ho, ?_, ?_⟩
  · rw [take_succ (at_cps hc), scan_snoc, hf.hScan]
    simp only [pstep, bump, grown, hb, if_false]
    rfl
  · rw [take_succ (at_cps hc), List.all_append, hf.hWs]; rfl
theorem facts_B (hf : InitFacts xt rest i ⟨cl, vs, cn, ns, b, n, nt, tb, tn, tnt⟩) (hc : xt.cps[i]? = some ch) (h1 : ((⟨#[ch]⟩ : Str) == Str.ofString " ") = false) (h2 : ((⟨#[ch]⟩ : Str) == Str.ofString "\t") = false) :
    InitFin xt rest ⟨cl, vs, cn', ns, b, n, nt, tb', tn', tnt'⟩ := by
  have e1 := sign_not (c := 32) (by decide) h1
  have e2 := sign_not (c := 9) (by decide) h2
  refine ⟨hf.hI, hf.hOff, ?_⟩
  rw [wsOf, takeWhile_brk hf.hWs (at_cps hc) (by simp [isWs, e1, e2]), hf.hScan]
end
end Mine
end

section
open PySem PySem.W PyProof.Rows PySem.Spec PySem.Calls PyProof.V
namespace Mine
/-! ## the law's own texts -/
def pieceAt (k : Nat) : Str := [Str.ofString "", Str.ofString " ", Str.ofString "\t", Str.ofString "  ", Str.ofString " \t"].getD k Str.empty
def tailAt (k : Nat) : Str := [Str.ofString "", Str.ofString "pass", Str.ofString "\x0d\t ", Str.ofString "\\ \t"].getD k Str.empty
theorem piece_facts (k : Nat) : (pieceAt k).length ≤ 2 ∧ (pieceAt k).cps.toList.all isWs = true := by
  match k with
  | 0 => decide
  | 1 => decide
  | 2 => decide
  | 3 => decide
  | 4 => decide
  | k + 5 => have e : pieceAt (k + 5) = Str.empty := by simp [pieceAt, List.getD]
             rw [e]; decide
theorem tail_facts (k : Nat) : (tailAt k).length ≤ 4 ∧ (tailAt k).cps.toList.takeWhile isWs = [] := by
  match k with
  | 0 => decide
  | 1 => decide
  | 2 => decide
  | 3 => decide
  | k + 4 => have e : tailAt (k + 4) = Str.empty := by simp [tailAt, List.getD]
             rw [e]; decide
theorem piece_len (k : Nat) : ([Str.ofString "", Str.ofString " ", Str.ofString "\t", Str.ofString "  ", Str.ofString " \t"].getD k Str.empty).length ≤ 2 := (piece_facts k).1
theorem tail_len (k : Nat) : ([Str.ofString "", Str.ofString "pass", Str.ofString "\x0d\t ", Str.ofString "\\ \t"].getD k Str.empty).length ≤ 4 := (tail_facts k).1
def Lead (x : Str) : Prop := x.cps.toList.all isWs = true
theorem lead_append {x y : Str} (hx : Lead x) (hy : Lead y) : Lead (x ++ y) := by
  unfold Lead at *
  rw [PySem.Str.cps_append, Array.toList_append, List.all_append, hx, hy]; rfl
theorem lead_nil : Lead (Str.ofString "") := by unfold Lead; decide
theorem state1 {pre : List Int} {one two : Str} {pick kN : Int} (h1 : Lead one) (h2 : Lead two) (h3 : one.length ≤ 2 * pre.length) (h4 : two.length ≤ 2 * pre.length) (h5 : 0 ≤ pick) :
    Lead (one ++ [Str.ofString "", Str.ofString " ", Str.ofString "\t", Str.ofString "  ", Str.ofString " \t"].getD (kN.fmod 5).toNat Str.empty) ∧
    Lead (two ++ [Str.ofString "", Str.ofString " ", Str.ofString "\t", Str.ofString "  ", Str.ofString " \t"].getD ((kN.fdiv 5).fmod 5).toNat Str.empty) ∧
    (one ++ [Str.ofString "", Str.ofString " ", Str.ofString "\t", Str.ofString "  ", Str.ofString " \t"].getD (kN.fmod 5).toNat Str.empty).length ≤ 2 * (pre ++ [kN]).length ∧
    (two ++ [Str.ofString "", Str.ofString " ", Str.ofString "\t", Str.ofString "  ", Str.ofString " \t"].getD ((kN.fdiv 5).fmod 5).toNat Str.empty).length ≤ 2 * (pre ++ [kN]).length ∧
    0 ≤ pick + (kN.fdiv 25).fmod 4 := by
  have q1 := piece_facts (kN.fmod 5).toNat
  have q2 := piece_facts ((kN.fdiv 5).fmod 5).toNat
  refine ⟨lead_append h1 q1.2, lead_append h2 q2.2, ?_, ?_, ?_⟩
  · rw [PySem.Str.length_append, List.length_append]
    have := piece_len (kN.fmod 5).toNat
    simp only [List.length_cons, List.length_nil]
    omega
  · rw [PySem.Str.length_append, List.length_append]
    have := piece_len ((kN.fdiv 5).fmod 5).toNat
    simp only [List.length_cons, List.length_nil]
    omega
  · have := Int.fmod_nonneg_of_pos (kN.fdiv 25) (b := 4) (by decide)
    omega
theorem raw_size {one : Str} {pick : Int} {n : Nat} (h : one.length ≤ 2 * n) (hn : n ≤ 10) : (one ++ [Str.ofString "", Str.ofString "pass", Str.ofString "\x0d\t ", Str.ofString "\\ \t"].getD (pick.fmod 4).toNat Str.empty).cps.size ≤ 100 := by
  have := tail_len (pick.fmod 4).toNat
  have e := PySem.Str.length_append one ([Str.ofString "", Str.ofString "pass", Str.ofString "\x0d\t ", Str.ofString "\\ \t"].getD (pick.fmod 4).toNat Str.empty)
  show (one ++ _).length ≤ 100
  omega
theorem takeWhile_append_all {l r : List Nat} (h : l.all isWs = true) : (l ++ r).takeWhile isWs = l ++ r.takeWhile isWs := by
  induction l with
  | nil => rfl
  | cons a l ih => simp only [List.all_cons, Bool.and_eq_true] at h; simp [h.1, ih h.2]
theorem ws_raw {one : Str} (h : Lead one) (k : Nat) : wsOf (one ++ [Str.ofString "", Str.ofString "pass", Str.ofString "\x0d\t ", Str.ofString "\\ \t"].getD k Str.empty) = one.cps.toList := by
  unfold wsOf
  rw [PySem.Str.cps_append, Array.toList_append, takeWhile_append_all h]
  have e := (tail_facts k).2
  unfold tailAt at e
  rw [e, List.append_nil]
end Mine
end

section
open PySem PySem.W PyProof.Rows PySem.Spec PySem.Calls PyProof.V
namespace Mine
/-! ## the law's own longest run -/
def runMax (ws : List Str) : Int := ws.foldl (fun a r => max a (r.length : Int)) 0
structure RunSt where
  a : Int
  ta : Tok
structure RunFacts (ws : List Str) (i : Nat) (c : RunSt) : Prop where
  hMax : c.a = runMax (ws.take i)
def runPs (c : RunSt) : List (Str × Value) := [(Str.ofString "longest", .int c.a c.ta)]
theorem runMax_snoc (ws : List Str) (r : Str) : runMax (ws ++ [r]) = max (runMax ws) (r.length : Int) := by simp [runMax]
theorem runs_succ {ws : List Str} {i : Nat} {a : Int} {ta ta' : Tok} {r : Str} (h : RunFacts ws i ⟨a, ta⟩) (hr : ws[i]? = some r) : RunFacts ws (i + 1) ⟨max a (r.length : Int), ta'⟩ := by
  refine ⟨?_⟩
  have e : ws.take (i + 1) = ws.take i ++ [r] := by simp [List.take_add_one, hr]
  rw [e, runMax_snoc, ← h.hMax]
section
variable {prog : Program} {w : World} {A : Around} {E : Value → Shared → Prop} {s : Shared} {env : Env} {h₀ : Heap} {x : Str} {body : List Stmt} {Q : Flow → Shared → Prop}
theorem runs_loop {l : Addr} {vs : List Value} {ws : List Str} {nn : Nat} {m₀ : Str → Option Value} {rest : List (Addr × Obj)} {t₀ : Tok} (hh : A.handled = none) (hl : (l, listOf vs.toArray nn) ∈ rest) (hw : StrsAre vs ws) (hsz : ∀ r ∈ ws, r.length ≤ 100)
    (F : Fr h₀ env.locals s.heap m₀) (N : News h₀ env.locals s.heap rest) (k1 : m₀ (Str.ofString "longest") = some (.int 0 t₀))
    (turn : ∀ (i : Nat) r t a ta (u : Str → Option Value) h tk own, ws[i]? = some r → r.length ≤ 100 → OwnOff own (rest.map (·.1)) → RunFacts ws i ⟨a, ta⟩ →
      Fr h₀ env.locals h (fun y => if y = x then some (.str r t) else if y = Str.ofString "longest" then some (.int a ta) else m₀ y) → News h₀ env.locals h (rest ++ own) →
      wpAny (model prog w) A (execs body env) (TurnPost (fun _ => rest) runPs (RunFacts ws) (fun c => c.a = runMax ws) x [] m₀ (i + 1) h₀ env.locals own { s with heap := h, toks := tk }) E { s with heap := h, toks := tk })
    (done : ∀ t (u : Str → Option Value) h tk,
      Fr h₀ env.locals h (fun y => if y = x then u y else if y = Str.ofString "longest" then some (.int (runMax ws) t) else m₀ y) → News h₀ env.locals h rest → Q .next { s with heap := h, toks := tk }) :
    wpAny (model prog w) A (pyIter (.ref l)) (fun it s₂ => LoopAtV prog w A h₀ env x body Q E it s₂) E s := by
  refine list_loop (fun _ => rest) runPs (RunFacts ws) (fun c => c.a = runMax ws) [] ⟨0, t₀⟩ hh (fun _ => hl) F N ⟨rfl⟩ ?_ ?_ ?_ ?_
  · intro p hp
    simp only [runPs, List.mem_cons, List.not_mem_nil, or_false] at hp
    subst hp
    exact k1
  · rintro ⟨a, ta⟩ i v u h tk own hv hoff hf F₁ N₁
    have hi : i < ws.length := by rw [← hw.length]; exact (List.getElem?_eq_some_iff.mp hv).1
    obtain ⟨t, e⟩ := hw.get i (ws[i]) (List.getElem?_eq_getElem hi)
    have ev : v = .str (ws[i]) t := by rw [hv] at e; exact Option.some.inj e
    subst ev
    exact turn i (ws[i]) t a ta u h tk own (List.getElem?_eq_getElem hi) (hsz _ (List.getElem_mem hi)) hoff hf F₁ N₁
  · intro c hc
    have := hc.hMax
    rw [hw.length, List.take_length] at this
    exact this
  · rintro ⟨a, ta⟩ u h tk hf F₁ N₁
    dsimp only at hf
    subst hf
    exact done ta u h tk F₁ N₁

theorem add_strs {L a b : Addr} {m : Str → Option Value} {news : List (Addr × Obj)} {vs ws : List Value} {xs ys : List Str} {Q : Value → Shared → Prop} (F : Fr h₀ L s.heap m) (N : News h₀ L s.heap news) (ha : s.heap.IsList a vs.toArray) (hb : s.heap.IsList b ws.toArray) (hx : StrsAre vs xs) (hy : StrsAre ws ys)
    (hz : xs.length + ys.length ≤ sizeLine) (h : ∀ D us h', Fr h₀ L h' m → News h₀ L h' ((D, listOf (List.toArray us) 0) :: news) → (∀ p ∈ news, p.1 < D) → StrsAre us (xs ++ ys) → Q (.ref D) { s with heap := h' }) :
    wpAny (model prog w) A (binaryOp .Add (.ref a) (.ref b)) Q E s := by
  refine add_lists F N ha hb (fun h' F' N' => ?_) (by rw [hx.length, hy.length]; exact hz)
  exact h _ (vs ++ ws) h' F' N' (fun p hp => Heap.lt_size (N p hp).1) (hx.append' hy)
end
end Mine
namespace Mine
theorem runs_if {ws : List Str} {i : Nat} {a : Int} {ta ta' : Tok} {r : Str} (h : RunFacts ws i ⟨a, ta⟩) (hr : ws[i]? = some r) : RunFacts ws (i + 1) ⟨if (r.length : Int) > a then (r.length : Int) else a, ta'⟩ := by
  have e : (if (r.length : Int) > a then (r.length : Int) else a) = max a (r.length : Int) := by split <;> omega
  rw [e]
  exact runs_succ h hr
end Mine
end

section
open PySem PySem.W PyProof.Rows PySem.Spec PySem.Calls PyProof.V
namespace Mine
/-- what the loop of `indent_level` sums, its first k turns -/
def ilOf (ns : List Int) (ts : Int) (k : Nat) : Int := (List.range k).foldl (fun (a : Int) (j : Nat) => a + (ts + (j : Int)).fdiv ts * ns.getD (ts + (j : Int)).toNat 0) 0
theorem ilOf_succ (ns : List Int) (ts : Int) (k : Nat) : ilOf ns ts (k + 1) = ilOf ns ts k + (ts + (k : Int)).fdiv ts * ns.getD (ts + (k : Int)).toNat 0 := by
  unfold ilOf; rw [List.range_succ, List.foldl_append]; rfl
def indentOf (ns : List Int) (b nt ts : Int) : Int := b + ts * (ilOf ns ts ((ns.length : Int) - ts).toNat + nt)
structure IlSt where
  il : Int
  t : Tok
structure IlFacts (ns : List Int) (ts : Int) (i : Nat) (c : IlSt) : Prop where
  hIl : c.il = ilOf ns ts i
def ilPs (c : IlSt) : List (Str × Value) := [(Str.ofString "il", .int c.il c.t)]
theorem il_succ {ns : List Int} {ts : Int} {i : Nat} {il : Int} {t t' : Tok} (h : IlFacts ns ts i ⟨il, t⟩) : IlFacts ns ts (i + 1) ⟨il + (ts + (i : Int)).fdiv ts * ns.getD (ts + (i : Int)).toNat 0, t'⟩ := by
  refine ⟨?_⟩
  have := h.hIl
  dsimp only at this ⊢
  rw [ilOf_succ, this]
theorem fdiv_small {i ts : Int} (h0 : 0 ≤ i) (h1 : i ≤ 1000) (ht : 1 ≤ ts) : 0 ≤ i.fdiv ts ∧ i.fdiv ts ≤ 1000 := by
  have e : i.fdiv ts = i / ts := Int.fdiv_eq_ediv_of_nonneg i (by omega)
  rw [e]
  refine ⟨Int.ediv_nonneg h0 (by omega), ?_⟩
  exact Int.le_trans (Int.ediv_le_self ts h0) h1
section
variable {prog : Program} {w : World} {A : Around} {E : Value → Shared → Prop} {s : Shared} {env : Env} {h₀ : Heap} {x : Str} {body : List Stmt} {Q : Flow → Shared → Prop}
theorem len_tup {L t : Addr} {news : List (Addr × Obj)} {vs : List Value} {ns : List Int} {Q : Value → Shared → Prop} (N : News h₀ L s.heap news) (hm : (t, ({ cls := .type "tuple", data := .seq vs.toArray } : Obj)) ∈ news) (hI : IntsAre vs ns) (hz : ns.length ≤ 1000)
    (h : Q (.int ns.length (s.toks + 1)) { s with toks := s.toks + 1 + 1 }) : wpAny (model prog w) A (call (.builtin "len") [.ref t]) Q E s := by
  have e : vs.toArray.size = ns.length := by rw [List.size_toArray, hI.length]
  exact len_tuple (News.isTup N hm) (by rw [e]; omega) (by rw [e]; exact h)
theorem item_tup {value slice : PySem.Expr} {L t : Addr} {news : List (Addr × Obj)} {vs : List Value} {ns : List Int} {k : Int} {u : Tok} {Q : Value → Shared → Prop} (N : News h₀ L s.heap news) (hm : (t, ({ cls := .type "tuple", data := .seq vs.toArray } : Obj)) ∈ news) (hI : IntsAre vs ns)
    (h0 : 0 ≤ k) (h1 : k < (ns.length : Int)) (hz : ns.length ≤ 1000) (h : ∀ t', Q (.int (ns.getD k.toNat 0) t') s)
    (hs : subscripted slice false (.ref t) (.int k u) = operate [.ref t, .int k u] (getItem (.ref t) (.int k u)) := by with_unfolding_all rfl) :
    wpAny (model prog w) A (subscriptTail value slice (.ref t) (.int k u)) Q E s := by
  have hk : k.toNat < ns.length := by omega
  obtain ⟨t', e⟩ := hI.get k.toNat (ns.getD k.toNat 0) (by rw [List.getD_eq_getElem?_getD, List.getElem?_eq_getElem hk]; rfl)
  have hlen : vs.length = ns.length := hI.length
  exact item_tupleT (News.isTup N hm) (by omega) (by omega) (seqIndex_of h0 (by rw [hlen]; exact h1)) e (h t') hs
theorem il_loop {r : Addr} {ns : List Int} {ts b₀ : Int} {t₀ u₀ v₀ tk₀ : Tok} {m₀ : Str → Option Value} {rest : List (Addr × Obj)} (hh : A.handled = none) (hr : IsRange s.heap r ts b₀ 1 t₀ u₀ v₀) (hb : b₀ = (ns.length : Int)) (ht : 1 ≤ ts) (ht' : ts ≤ 1000) (hz : ns.length ≤ 1000)
    (F : Fr h₀ env.locals s.heap m₀) (N : News h₀ env.locals s.heap rest) (k1 : m₀ (Str.ofString "il") = some (.int 0 tk₀))
    (turn : ∀ (i : Nat) t il tl (u : Str → Option Value) h tk own, ts + (i : Int) < (ns.length : Int) → OwnOff own (rest.map (·.1)) → IlFacts ns ts i ⟨il, tl⟩ → 0 ≤ (ts + (i : Int)).fdiv ts → (ts + (i : Int)).fdiv ts ≤ 1000 →
      Fr h₀ env.locals h (fun y => if y = x then some (.int (ts + (i : Int)) t) else if y = Str.ofString "il" then some (.int il tl) else m₀ y) → News h₀ env.locals h (rest ++ own) →
      wpAny (model prog w) A (execs body env) (TurnPost (fun _ => rest) ilPs (IlFacts ns ts) (fun c => c.il = ilOf ns ts ((ns.length : Int) - ts).toNat) x [] m₀ (i + 1) h₀ env.locals own { s with heap := h, toks := tk }) E { s with heap := h, toks := tk })
    (done : ∀ t (u : Str → Option Value) h tk,
      Fr h₀ env.locals h (fun y => if y = x then u y else if y = Str.ofString "il" then some (.int (ilOf ns ts ((ns.length : Int) - ts).toNat) t) else m₀ y) → News h₀ env.locals h rest → Q .next { s with heap := h, toks := tk }) :
    wpAny (model prog w) A (pyIter (.ref r)) (fun it s₂ => LoopAtV prog w A h₀ env x body Q E it s₂) E s := by
  subst hb
  refine range_loop (n := ((ns.length : Int) - ts).toNat) (fun _ => rest) ilPs (IlFacts ns ts) (fun c => c.il = ilOf ns ts ((ns.length : Int) - ts).toNat) [] ⟨0, tk₀⟩ hh hr (small_one (by omega) (by omega) (by omega) (by omega)) (rangeSize_nat _ _) F N ⟨rfl⟩ ?_ ?_ ?_ ?_
  · intro p hp
    simp only [ilPs, List.mem_cons, List.not_mem_nil, or_false] at hp
    subst hp
    exact k1
  · rintro ⟨il, tl⟩ i t u h tk own hi hoff hf F₁ N₁
    have hq := fdiv_small (i := ts + (i : Int)) (ts := ts) (by omega) (by omega) ht
    exact turn i t il tl u h tk own (by omega) hoff hf hq.1 hq.2 F₁ N₁
  · intro c hc
    exact hc.hIl
  · rintro ⟨il, tl⟩ u h tk hf F₁ N₁
    dsimp only at hf
    subst hf
    exact done tl u h tk F₁ N₁
end
end Mine
end

section
open PySem PySem.W PyProof.Rows PySem.Spec PySem.Calls PyProof.V
namespace Mine
/-- the tuples of the first k sizes where the two columns are unlike -/
def witK (I J : Int → Int) (k : Nat) : List Dat :=
  (List.range k).foldl (fun (acc : List Dat) (j : Nat) => if I (1 + (j : Int)) = J (1 + (j : Int)) then acc else acc ++ [Dat.tuple [.int (1 + (j : Int)), .int (I (1 + (j : Int))), .int (J (1 + (j : Int)))]]) []
theorem witK_succ (I J : Int → Int) (k : Nat) : witK I J (k + 1) = if I (1 + (k : Int)) = J (1 + (k : Int)) then witK I J k else witK I J k ++ [Dat.tuple [.int (1 + (k : Int)), .int (I (1 + (k : Int))), .int (J (1 + (k : Int)))]] := by
  unfold witK; rw [List.range_succ, List.foldl_append]; rfl
theorem witK_length (I J : Int → Int) (k : Nat) : (witK I J k).length ≤ k := by
  induction k with
  | zero => exact Nat.le_refl _
  | succ k ih => rw [witK_succ]; split
                 · omega
                 · rw [List.length_append]; simp only [List.length_cons, List.length_nil]; omega
theorem witK_ok (I J : Int → Int) (k : Nat) : ∀ d ∈ witK I J k, kqdOk 8 d = true := by
  induction k with
  | zero => intro d hd; cases hd
  | succ k ih =>
    rw [witK_succ]
    split
    · exact ih
    · intro d hd
      rcases List.mem_append.mp hd with hd | hd
      · exact ih d hd
      · rw [List.mem_singleton.mp hd]; rfl
structure WtSt where
  tl : List (Addr × Obj)
  vs : List Value
  cn : Nat
def wtLed (l : Addr) (rest : List (Addr × Obj)) (c : WtSt) : List (Addr × Obj) := (l, listOf c.vs.toArray c.cn) :: (rest ++ c.tl)
structure WtFacts (l : Addr) (I J : Int → Int) (i : Nat) (c : WtSt) : Prop where
  hD : DatAll c.tl c.vs (witK I J i)
  hO : OwnOff c.tl [l]
def noPs {σ : Type} (_ : σ) : List (Str × Value) := []
theorem wt_no {l : Addr} {I J : Int → Int} {i : Nat} {tl : List (Addr × Obj)} {vs : List Value} {cn cn' : Nat} (h : WtFacts l I J i ⟨tl, vs, cn⟩) (e : I (1 + (i : Int)) = J (1 + (i : Int))) : WtFacts l I J (i + 1) ⟨tl, vs, cn'⟩ :=
  ⟨by rw [witK_succ, if_pos e]; exact h.hD, h.hO⟩
theorem wt_yes {l D : Addr} {I J : Int → Int} {i : Nat} {tl : List (Addr × Obj)} {vs : List Value} {cn cn' n9 : Nat} {t1 t2 t3 : Tok} {A B C : Int} (h : WtFacts l I J i ⟨tl, vs, cn⟩) (ea : A = 1 + (i : Int)) (eb : B = I (1 + (i : Int))) (ec : C = J (1 + (i : Int))) (e : ¬ I (1 + (i : Int)) = J (1 + (i : Int))) (hl : l < D) :
    WtFacts l I J (i + 1) ⟨(D, ({ cls := .type "tuple", data := .seq #[.int A t1, .int B t2, .int C t3] n9 } : Obj)) :: tl, vs ++ [.ref D], cn'⟩ := by
  subst ea eb ec
  refine ⟨?_, ?_⟩
  · rw [witK_succ, if_neg e]
    refine DatAll.append (DatAll.mono (fun p hp => .tail _ hp) h.hD) (DatAll.one ?_)
    exact DatIn.tuple (vs := [_, _, _]) (.head _) (.cons (.int _ _) (.cons (.int _ _) (.cons (.int _ _) .nil)))
  · intro p hp b hb
    rw [List.mem_singleton.mp hb]
    rcases List.mem_cons.mp hp with rfl | hp
    · exact Nat.ne_of_gt hl
    · exact h.hO p hp l (.head _)
theorem off_more {own : List (Addr × Obj)} {l D : Addr} {o : Obj} {rest tl : List (Addr × Obj)} {vs vs' : List Value} {cn cn' : Nat} (h : OwnOff own ((wtLed l rest ⟨tl, vs, cn⟩).map (·.1))) (h' : ∀ p ∈ own, p.1 ≠ D) : OwnOff own ((wtLed l rest ⟨(D, o) :: tl, vs', cn'⟩).map (·.1)) := by
  intro p hp b hb
  simp only [wtLed, List.map_cons, List.map_append, List.mem_cons, List.mem_append] at hb
  rcases hb with rfl | hb | rfl | hb
  · exact h p hp b (.head _)
  · exact h p hp b (.tail _ (by rw [List.map_append]; exact List.mem_append.mpr (.inl hb)))
  · exact h' p hp
  · exact h p hp b (.tail _ (by rw [List.map_append]; exact List.mem_append.mpr (.inr hb)))
theorem off_same {own : List (Addr × Obj)} {l : Addr} {rest tl : List (Addr × Obj)} {vs vs' : List Value} {cn cn' : Nat} (h : OwnOff own ((wtLed l rest ⟨tl, vs, cn⟩).map (·.1))) : OwnOff own ((wtLed l rest ⟨tl, vs', cn'⟩).map (·.1)) := h
section
variable {prog : Program} {w : World} {A : Around} {E : Value → Shared → Prop} {s : Shared} {env : Env} {h₀ : Heap} {x : Str} {body : List Stmt} {Q : Flow → Shared → Prop}
theorem wit_loop (I J : Int → Int) (kk : Nat) {r : Addr} {b₀ : Int} {t₀ u₀ v₀ : Tok} {m₀ : Str → Option Value} {rest : List (Addr × Obj)} {l : Addr} {cn : Nat} (hh : A.handled = none) (hr : IsRange s.heap r 1 b₀ 1 t₀ u₀ v₀) (hb : (b₀ - 1).toNat = kk) (hz : kk ≤ 1000) (hb' : b₀ ≤ 1001) (hb'' : 0 ≤ b₀)
    (F : Fr h₀ env.locals s.heap m₀) (N : News h₀ env.locals s.heap ((l, listOf [].toArray cn) :: rest))
    (turn : ∀ (i : Nat) t tl vs cn (u : Str → Option Value) h tk own, i < kk → OwnOff own ((wtLed l rest ⟨tl, vs, cn⟩).map (·.1)) → WtFacts l I J i ⟨tl, vs, cn⟩ → OwnOff tl [l] → vs.length ≤ 1000 →
      Fr h₀ env.locals h (fun y => if y = x then some (.int (1 + (i : Int)) t) else m₀ y) → News h₀ env.locals h ((l, listOf vs.toArray cn) :: (rest ++ (tl ++ own))) →
      wpAny (model prog w) A (execs body env) (TurnPost (wtLed l rest) noPs (WtFacts l I J) (WtFacts l I J kk) x [] m₀ (i + 1) h₀ env.locals own { s with heap := h, toks := tk }) E { s with heap := h, toks := tk })
    (done : ∀ tl vs cn (u : Str → Option Value) h tk, DatAll tl vs (witK I J kk) → OwnOff tl [l] →
      Fr h₀ env.locals h (fun y => if y = x then u y else m₀ y) → News h₀ env.locals h ((l, listOf vs.toArray cn) :: (rest ++ tl)) → Q .next { s with heap := h, toks := tk }) :
    wpAny (model prog w) A (pyIter (.ref r)) (fun it s₂ => LoopAtV prog w A h₀ env x body Q E it s₂) E s := by
  subst hb
  refine range_loop (n := (b₀ - 1).toNat) (wtLed l rest) noPs (WtFacts l I J) (WtFacts l I J (b₀ - 1).toNat) [] ⟨[], [], cn⟩ hh hr (small_one (by omega) (by omega) (by omega) (by omega)) (rangeSize_nat _ _) F (by rw [wtLed, List.append_nil]; exact N) ⟨.nil, fun _ hp => nomatch hp⟩ (fun _ hp => nomatch hp) ?_ (fun _ h => h) ?_
  · rintro ⟨tl, vs, cn⟩ i t u h tk own hi hoff hf F₁ N₁
    have hl : vs.length ≤ 1000 := by
      have h1 := hf.hD.length
      have h2 := witK_length I J i
      dsimp only at h1
      omega
    refine turn i t tl vs cn u h tk own hi hoff hf hf.hO hl F₁ ?_
    have e : wtLed l rest ⟨tl, vs, cn⟩ ++ own = (l, listOf vs.toArray cn) :: (rest ++ (tl ++ own)) := by simp [wtLed]
    rw [← e]; exact N₁
  · rintro ⟨tl, vs, cn⟩ u h tk hf F₁ N₁
    exact done tl vs cn u h tk hf.hD hf.hO F₁ N₁
end
end Mine
namespace Mine
section
variable {h₀ h' : Heap} {L l D : Addr} {m₀ m' : Str → Option Value} {rest tl own : List (Addr × Obj)} {vs : List Value} {cn cn' i : Nat} {I J : Int → Int} {x : Str} {s₁ : Shared} {tk n9 : Nat} {t1 t2 t3 : Tok} {A B C : Int}
theorem wt_end_no (F : Fr h₀ L h' m') (N : News h₀ L h' ((l, listOf vs.toArray cn') :: (rest ++ (tl ++ own)))) (hoff : OwnOff own ((wtLed l rest ⟨tl, vs, cn⟩).map (·.1))) (hr : ∀ z, z ≠ x → m' z = m₀ z) (h : WtFacts l I J i ⟨tl, vs, cn⟩) (e : I (1 + (i : Int)) = J (1 + (i : Int))) :
    TurnEnd (wtLed l rest) noPs (WtFacts l I J) x [] m₀ (i + 1) h₀ L own s₁ { s₁ with heap := h', toks := tk } := by
  refine turn_end ⟨tl, vs, cn'⟩ F N ?_ ?_ (off_same hoff) (fun _ hp => nomatch hp) (fun z h1 _ _ => hr z h1) (wt_no h e)
  · intro p hp
    rcases List.mem_cons.mp hp with rfl | hp
    · exact .head _
    · refine List.mem_cons_of_mem _ ?_
      simp only [List.mem_append] at hp ⊢
      rcases hp with hp | hp
      · exact .inl hp
      · exact .inr (.inl hp)
  · intro p hp
    refine List.mem_cons_of_mem _ ?_
    simp only [List.mem_append]
    exact .inr (.inr hp)
theorem wt_end_yes (F : Fr h₀ L h' m') (N : News h₀ L h' ((D, ({ cls := .type "tuple", data := .seq #[.int A t1, .int B t2, .int C t3] n9 } : Obj)) :: (l, listOf (vs.toArray.push (.ref D)) cn') :: (rest ++ (tl ++ own)))) (hoff : OwnOff own ((wtLed l rest ⟨tl, vs, cn⟩).map (·.1)))
    (hD : ∀ p ∈ own, p.1 ≠ D) (hl : l < D) (hr : ∀ z, z ≠ x → m' z = m₀ z) (h : WtFacts l I J i ⟨tl, vs, cn⟩) (ea : A = 1 + (i : Int)) (eb : B = I (1 + (i : Int))) (ec : C = J (1 + (i : Int))) (e : ¬ I (1 + (i : Int)) = J (1 + (i : Int))) :
    TurnEnd (wtLed l rest) noPs (WtFacts l I J) x [] m₀ (i + 1) h₀ L own s₁ { s₁ with heap := h', toks := tk } := by
  rw [List.push_toArray] at N
  refine turn_end ⟨(D, ({ cls := .type "tuple", data := .seq #[.int A t1, .int B t2, .int C t3] n9 } : Obj)) :: tl, vs ++ [.ref D], cn'⟩ F N ?_ ?_ (off_more hoff hD) (fun _ hp => nomatch hp) (fun z h1 _ _ => hr z h1) (wt_yes h ea eb ec e hl)
  · intro p hp
    rcases List.mem_cons.mp hp with rfl | hp
    · exact .tail _ (.head _)
    · simp only [List.mem_append, List.mem_cons] at hp ⊢
      rcases hp with hp | hp | hp
      · exact .inr (.inr (.inl hp))
      · exact .inl hp
      · exact .inr (.inr (.inr (.inl hp)))
  · intro p hp
    refine List.mem_cons_of_mem _ (List.mem_cons_of_mem _ ?_)
    simp only [List.mem_append]
    exact .inr (.inr hp)
end
end Mine
end

section
open PySem PySem.W PyProof.Rows PySem.Spec PySem.Calls PyProof.V
namespace Mine
/-! # the plain law -/
def rsum (g : Nat → Int) : Nat → Int
  | 0 => 0
  | n + 1 => rsum g n + g n
theorem rsum_congr {g h : Nat → Int} {n : Nat} (e : ∀ i, i < n → g i = h i) : rsum g n = rsum h n := by
  induction n with
  | zero => rfl
  | succ n ih => rw [rsum, rsum, ih fun i hi => e i (Nat.lt_succ_of_lt hi), e n (Nat.lt_succ_self n)]
theorem rsum_zero {g : Nat → Int} {n : Nat} (e : ∀ i, i < n → g i = 0) : rsum g n = 0 := by
  induction n with
  | zero => rfl
  | succ n ih => rw [rsum, ih fun i hi => e i (Nat.lt_succ_of_lt hi), e n (Nat.lt_succ_self n)]; rfl
theorem rsum_add (g h : Nat → Int) (n : Nat) : rsum (fun i => g i + h i) n = rsum g n + rsum h n := by
  induction n with
  | zero => rfl
  | succ n ih => rw [rsum, rsum, rsum, ih]; omega
theorem rsum_one (f : Nat → Int) (b n : Nat) : rsum (fun i => if i = b then f i else 0) n = if b < n then f b else 0 := by
  induction n with
  | zero => simp [rsum]
  | succ n ih =>
    rw [rsum, ih]
    by_cases h : n = b
    · subst h; simp
    · by_cases h2 : b < n
      · rw [if_pos h2, if_neg h, if_pos (by omega)]; omega
      · rw [if_neg h2, if_neg h, if_neg (by omega)]; rfl
theorem rsum_split (g : Nat → Int) (a k : Nat) : rsum g (a + k) = rsum g a + rsum (fun j => g (a + j)) k := by
  induction k with
  | zero => simp [rsum]
  | succ k ih => rw [← Nat.add_assoc, rsum, ih, rsum]; omega
theorem rsum_more (g : Nat → Int) (a b : Nat) (hab : a ≤ b) (e : ∀ i, a ≤ i → g i = 0) : rsum g b = rsum g a := by
  obtain ⟨k, rfl⟩ := Nat.exists_eq_add_of_le hab
  rw [rsum_split, rsum_zero (g := fun j => g (a + j)) fun i _ => e _ (Nat.le_add_right a i)]; omega

theorem getD_out {ns : List Int} {i : Nat} (h : ns.length ≤ i) : ns.getD i 0 = 0 := by simp [List.getD, h]
theorem getD_append_rep (ns : List Int) (k i : Nat) : (ns ++ List.replicate k 0).getD i 0 = ns.getD i 0 := by
  by_cases h : i < ns.length
  · simp [List.getD, List.getElem?_append_left h]
  · rw [getD_out (Nat.not_lt.mp h), List.getD_eq_getElem?_getD, List.getElem?_append_right (Nat.not_lt.mp h), List.getElem?_replicate]
    split <;> rfl
theorem grown_getD (ns : List Int) (b : Int) (i : Nat) : (grown ns b).getD i 0 = ns.getD i 0 := by
  unfold grown; split
  · exact getD_append_rep _ _ _
  · rfl
theorem grown_length (ns : List Int) (b : Int) (h : 0 ≤ b) : b.toNat < (grown ns b).length := by
  unfold grown; split
  · rw [List.length_append, List.length_replicate]; omega
  · omega
theorem bump_getD (ns : List Int) (b : Int) (h : 0 ≤ b) (i : Nat) : (bump ns b).getD i 0 = ns.getD i 0 + if i = b.toNat then 1 else 0 := by
  have hl := grown_length ns b h
  unfold bump
  rw [List.getD_eq_getElem?_getD, List.getElem?_set]
  by_cases e : b.toNat = i
  · rw [if_pos e, if_pos (e ▸ hl), if_pos e.symm]
    simp only [Option.getD_some]
    rw [e, grown_getD]
  · rw [if_neg e, if_neg (Ne.symm e), ← List.getD_eq_getElem?_getD, grown_getD]; omega

/-- the weighed sum of the counts -/
def wOf (f : Nat → Int) (ns : List Int) : Int := rsum (fun i => f i * ns.getD i 0) ns.length
theorem wOf_at (f : Nat → Int) (ns : List Int) {n : Nat} (h : ns.length ≤ n) : rsum (fun i => f i * ns.getD i 0) n = wOf f ns :=
  rsum_more _ _ _ h fun i hi => by rw [getD_out hi, Int.mul_zero]
theorem wOf_bump (f : Nat → Int) (ns : List Int) (b : Int) (h : 0 ≤ b) : wOf f (bump ns b) = wOf f ns + f b.toNat := by
  have hl := bump_length ns b h
  rw [← wOf_at f ns (n := (bump ns b).length) (by omega)]
  unfold wOf
  rw [rsum_congr (h := fun i => f i * ns.getD i 0 + if i = b.toNat then f i else 0) fun i _ => ?_, rsum_add, rsum_one, if_pos (by omega)]
  rw [bump_getD ns b h, Int.mul_add]
  by_cases e : i = b.toNat
  · rw [if_pos e, if_pos e, Int.mul_one]
  · rw [if_neg e, if_neg e, Int.mul_zero]

theorem il_is (ns : List Int) (ts : Int) (k : Nat) : ilOf ns ts k = rsum (fun j => (ts + (j : Int)).fdiv ts * ns.getD (ts + (j : Int)).toNat 0) k := by
  induction k with
  | zero => rfl
  | succ k ih => rw [ilOf_succ, ih, rsum]
theorem il_w (ns : List Int) (ts : Int) (ht : 1 ≤ ts) : ilOf ns ts ((ns.length : Int) - ts).toNat = wOf (fun i => (i : Int) / ts) ns := by
  obtain ⟨t, rfl⟩ := Int.eq_ofNat_of_zero_le (show 0 ≤ ts by omega)
  have hk : ns.length ≤ t + ((ns.length : Int) - (t : Int)).toNat := by omega
  rw [il_is, ← wOf_at _ ns hk, rsum_split]
  rw [rsum_zero (g := fun i => (i : Int) / (t : Int) * ns.getD i 0) (n := t) fun i hi => by
    rw [Int.ediv_eq_zero_of_lt (by omega) (by omega), Int.zero_mul]]
  rw [Int.zero_add]
  refine rsum_congr fun j _ => ?_
  have e1 : ((t : Int) + (j : Int)).toNat = t + j := by omega
  rw [e1, Int.fdiv_eq_ediv_of_nonneg _ (by omega)]
  simp only [Int.natCast_add]

def colStep (size : Int) (column : Int) (c : Nat) : Int := if c = 9 then column + (size - Int.fmod column size) else column + 1
def col (lead : Str) (size : Int) : Int := lead.cps.toList.foldl (colStep size) 0

/-- what is so between the signs -/
structure Sane (st : PSt) : Prop where
  hb : 0 ≤ st.2.1
  hnt : st.2.2.2 = wOf (fun _ => 1) st.1
  hlast : st.1.length ≠ 0 → 1 ≤ st.1.getD (st.1.length - 1) 0
theorem sane_nil : Sane ([], 0, 0, 0) := ⟨Int.le_refl _, rfl, fun h => absurd rfl h⟩
theorem sane_step {st : PSt} (h : Sane st) (c : Nat) : Sane (pstep st c) := by
  unfold pstep
  split
  · exact ⟨by have := h.hb; dsimp only; omega, h.hnt, h.hlast⟩
  · split
    · have hl := bump_length st.1 st.2.1 h.hb
      refine ⟨Int.le_refl _, ?_, fun _ => ?_⟩
      · dsimp only; rw [wOf_bump _ _ _ h.hb, ← h.hnt]
      · dsimp only
        rw [bump_getD _ _ h.hb]
        have hb := h.hb
        by_cases e : (bump st.1 st.2.1).length - 1 = st.2.1.toNat
        · rw [if_pos e]
          by_cases hs : st.2.1.toNat < st.1.length
          · have : (bump st.1 st.2.1).length - 1 = st.1.length - 1 := by omega
            rw [this]
            have := h.hlast (by omega)
            omega
          · rw [getD_out (by omega)]; omega
        · rw [if_neg e]
          have : (bump st.1 st.2.1).length - 1 = st.1.length - 1 := by omega
          rw [this]
          have := h.hlast (by omega)
          omega
    · exact h
theorem sane_fold (l : List Nat) : ∀ st, Sane st → Sane (l.foldl pstep st) := by
  induction l with
  | nil => intro st h; exact h
  | cons c l ih => intro st h; rw [List.foldl_cons]; exact ih _ (sane_step h c)
theorem sane_scan (l : List Nat) : Sane (scanOf l) := sane_fold l _ sane_nil

/-- one sign: the column as the counts tell it -/
def colAt (ts : Int) (st : PSt) : Int := st.2.1 + ts * (wOf (fun i => (i : Int) / ts) st.1 + st.2.2.2)
theorem col_step {ts : Int} (ht : 1 ≤ ts) {st : PSt} (h : Sane st) {c : Nat} (hc : isWs c = true) : colAt ts (pstep st c) = colStep ts (colAt ts st) c := by
  have hc' : c = 32 ∨ c = 9 := by simpa [isWs] using hc
  rcases hc' with rfl | rfl
  · simp only [pstep, colStep, colAt, if_true, show ¬ (32 = 9) by decide, if_false]; omega
  · simp only [pstep, colStep, colAt, if_true, show ¬ (9 = 32) by decide, if_false]
    rw [wOf_bump _ _ _ h.hb]
    have hb := h.hb
    have e1 : ((st.2.1.toNat : Nat) : Int) = st.2.1 := Int.toNat_of_nonneg hb
    rw [e1]
    have e2 : (st.2.1 + ts * (wOf (fun i => (i : Int) / ts) st.1 + st.2.2.2)).fmod ts = st.2.1 % ts := by
      rw [Int.fmod_eq_emod_of_nonneg _ (by omega), Int.add_mul_emod_self_left]
    rw [e2]
    have e3 := Int.mul_ediv_add_emod st.2.1 ts
    have e4 : ts * (wOf (fun i => (i : Int) / ts) st.1 + st.2.1 / ts + (st.2.2.2 + 1)) = ts * (wOf (fun i => (i : Int) / ts) st.1 + st.2.2.2) + ts * (st.2.1 / ts) + ts := by
      rw [show wOf (fun i => (i : Int) / ts) st.1 + st.2.1 / ts + (st.2.2.2 + 1) = (wOf (fun i => (i : Int) / ts) st.1 + st.2.2.2) + st.2.1 / ts + 1 by omega, Int.mul_add, Int.mul_add, Int.mul_one]
    rw [e4]
    omega
theorem col_fold {ts : Int} (ht : 1 ≤ ts) (l : List Nat) (hl : l.all isWs = true) : ∀ st, Sane st → colAt ts (l.foldl pstep st) = l.foldl (colStep ts) (colAt ts st) := by
  induction l with
  | nil => intro st _; rfl
  | cons c l ih =>
    intro st h
    simp only [List.all_cons, Bool.and_eq_true] at hl
    rw [List.foldl_cons, List.foldl_cons, ih hl.2 _ (sane_step h c), col_step ht h hl.1]
theorem indent_is {one : Str} (h : Lead one) {ns : List Int} {b n nt : Int} (hs : scanOf one.cps.toList = (ns, b, n, nt)) {ts : Int} (ht : 1 ≤ ts) : indentOf ns b nt ts = col one ts := by
  have q := col_fold ht one.cps.toList h ([], 0, 0, 0) sane_nil
  have e0 : colAt ts ([], 0, 0, 0) = 0 := by show (0 : Int) + ts * (0 + 0) = 0; rw [Int.add_zero, Int.mul_zero]; rfl
  rw [e0] at q
  show b + ts * (ilOf ns ts ((ns.length : Int) - ts).toNat + nt) = col one ts
  rw [il_w _ _ ht]
  have : colAt ts (scanOf one.cps.toList) = col one ts := q
  rw [hs] at this
  exact this
end Mine
end

section
open PySem PySem.W PyProof.Rows PySem.Spec PySem.Calls PyProof.V
namespace Mine
/-! ## the longest run -/
theorem runMax_gen (ws : List Str) : ∀ a : Int, 0 ≤ a → ws.foldl (fun a r => max a (r.length : Int)) a = max a (runMax ws) := by
  unfold runMax
  induction ws with
  | nil => intro a h; simp only [List.foldl_nil]; omega
  | cons r ws ih =>
    intro a h
    rw [List.foldl_cons, List.foldl_cons, ih _ (by omega), ih (max 0 (r.length : Int)) (by omega)]
    omega
theorem runMax_nil : runMax [] = 0 := rfl
theorem runMax_nonneg (ws : List Str) : 0 ≤ runMax ws := by
  have := runMax_gen ws 0 (Int.le_refl 0)
  unfold runMax at *
  omega
theorem runMax_cons (r : Str) (ws : List Str) : runMax (r :: ws) = max (r.length : Int) (runMax ws) := by
  have h1 := runMax_gen ws (max 0 (r.length : Int)) (by omega)
  have h2 := runMax_nonneg ws
  show ws.foldl (fun a r => max a (r.length : Int)) (max 0 (r.length : Int)) = _
  rw [h1]; omega
theorem runMax_append (xs ys : List Str) : runMax (xs ++ ys) = max (runMax xs) (runMax ys) := by
  induction xs with
  | nil => rw [List.nil_append, runMax_nil]; have := runMax_nonneg ys; omega
  | cons x xs ih => rw [List.cons_append, runMax_cons, runMax_cons, ih]; omega
def tab : Str := ⟨#[9]⟩
theorem tab_is : Str.ofString "\t" = tab := by decide
theorem fold_spaces (l : List Nat) : ∀ st : PSt, (∀ c ∈ l, c = 32) → l.foldl pstep st = (st.1, st.2.1 + l.length, st.2.2.1 + l.length, st.2.2.2) := by
  induction l with
  | nil => intro st _; simp
  | cons c l ih =>
    intro st h
    have e := h c (.head _)
    subst e
    rw [List.foldl_cons, ih _ fun c hc => h c (.tail _ hc)]
    simp only [pstep, if_true, List.length_cons]
    refine Prod.ext rfl (Prod.ext ?_ (Prod.ext ?_ rfl)) <;> dsimp only <;> omega
theorem spaces_of {p : Str} (h : p.cps.toList.all isWs = true) (hf : 9 ∉ p.cps.toList) : ∀ c ∈ p.cps.toList, c = 32 := by
  intro c hc
  have := List.all_eq_true.mp h c hc
  have h2 : c = 32 ∨ c = 9 := by simpa [isWs] using this
  rcases h2 with h2 | h2
  · exact h2
  · exact absurd (h2 ▸ hc) hf
theorem join_two (sep x y : Str) (r : List Str) : (Str.join sep (x :: y :: r)).cps.toList = x.cps.toList ++ (sep.cps.toList ++ (Str.join sep (y :: r)).cps.toList) := by
  show (x ++ sep ++ Str.join sep (y :: r)).cps.toList = _
  rw [PySem.Str.cps_append, PySem.Str.cps_append, Array.toList_append, Array.toList_append, List.append_assoc]
theorem run_join (ps : List Str) : ∀ (p : Str) (st : PSt), 0 ≤ st.2.1 → (Str.join tab (p :: ps)).cps.toList.all isWs = true → (∀ q ∈ p :: ps, 9 ∉ q.cps.toList) →
    max ((((Str.join tab (p :: ps)).cps.toList.foldl pstep st).1.length : Int) - 1) ((Str.join tab (p :: ps)).cps.toList.foldl pstep st).2.1 = max ((st.1.length : Int) - 1) (max (st.2.1 + p.length) (runMax ps)) := by
  induction ps with
  | nil =>
    intro p st h0 hw hf
    have e : Str.join tab [p] = p := rfl
    rw [e] at hw ⊢
    rw [fold_spaces _ _ (spaces_of hw (hf p (.head _))), runMax_nil]
    have : p.cps.toList.length = p.length := Array.length_toList
    rw [this]
    dsimp only
    omega
  | cons q r ih =>
    intro p st h0 hw hf
    rw [join_two] at hw ⊢
    rw [List.all_append, List.all_append, Bool.and_eq_true, Bool.and_eq_true] at hw
    rw [List.foldl_append, List.foldl_append, fold_spaces _ _ (spaces_of hw.1 (hf p (.head _)))]
    have hp : p.cps.toList.length = p.length := Array.length_toList
    rw [hp]
    have e9 : tab.cps.toList = [9] := rfl
    rw [e9, List.foldl_cons, List.foldl_nil]
    have hb : 0 ≤ st.2.1 + (p.length : Int) := by omega
    have e1 : pstep (st.1, st.2.1 + (p.length : Int), st.2.2.1 + (p.length : Int), st.2.2.2) 9 = (bump st.1 (st.2.1 + (p.length : Int)), 0, st.2.2.1 + (p.length : Int) + 1, st.2.2.2 + 1) := rfl
    rw [e1, ih q _ (Int.le_refl 0) hw.2.2 fun x hx => hf x (.tail _ hx), runMax_cons]
    have hl := bump_length st.1 _ hb
    dsimp only
    omega
def runOf (x : Str) : Int := runMax (Txt.split x (Str.ofString "\t"))
theorem run_is {one : Str} (h : Lead one) {ns : List Int} {b n nt : Int} (hs : scanOf one.cps.toList = (ns, b, n, nt)) : max ((ns.length : Int) - 1) b = runOf one := by
  unfold runOf
  rw [tab_is]
  have hj : Str.join tab (Txt.split one tab) = one := StrLaws.join_split one tab
  have hf : ∀ q ∈ Txt.split one tab, 9 ∉ q.cps.toList := fun q hq => StrLaws.split_free one 9 q hq
  have hp := split_pos one tab
  revert hj hf hp
  cases Txt.split one tab with
  | nil => intro _ _ hp; simp at hp
  | cons p ps =>
    intro hj hf _
    have q := run_join ps p ([], 0, 0, 0) (Int.le_refl 0) (by rw [hj]; exact h) hf
    rw [hj] at q
    have e : one.cps.toList.foldl pstep ([], 0, 0, 0) = (ns, b, n, nt) := hs
    rw [e] at q
    rw [runMax_cons]
    have := runMax_nonneg ps
    dsimp only [List.length_nil] at q
    omega

/-! ## equal where the witness is empty -/
theorem witK_nil (I J : Int → Int) (k : Nat) : witK I J k = [] ↔ ∀ j : Nat, j < k → I (1 + (j : Int)) = J (1 + (j : Int)) := by
  induction k with
  | zero => simp [witK]
  | succ k ih =>
    rw [witK_succ]
    constructor
    · intro h
      by_cases e : I (1 + (k : Int)) = J (1 + (k : Int))
      · rw [if_pos e] at h
        intro j hj
        rcases Nat.lt_succ_iff_lt_or_eq.mp hj with hj | rfl
        · exact ih.mp h j hj
        · exact e
      · rw [if_neg e] at h
        exact absurd h (by simp)
    · intro h
      rw [if_pos (h k (Nat.lt_succ_self k))]
      exact ih.mpr fun j hj => h j (Nat.lt_succ_of_lt hj)
theorem witK_congr {I J I' J' : Int → Int} {k : Nat} (hI : ∀ ts, 1 ≤ ts → I ts = I' ts) (hJ : ∀ ts, 1 ≤ ts → J ts = J' ts) : witK I J k = witK I' J' k := by
  induction k with
  | zero => rfl
  | succ k ih => rw [witK_succ, witK_succ, ih, hI _ (by omega), hJ _ (by omega)]
theorem witK_self (I : Int → Int) (k : Nat) : witK I I k = [] := (witK_nil I I k).mpr fun _ _ => rfl

theorem lists_same {xs ys : List Int} (hx : xs.length ≠ 0 → 1 ≤ xs.getD (xs.length - 1) 0) (hy : ys.length ≠ 0 → 1 ≤ ys.getD (ys.length - 1) 0) (h : ∀ i, xs.getD i 0 = ys.getD i 0) : xs = ys := by
  have hl : xs.length = ys.length := by
    rcases Nat.lt_trichotomy xs.length ys.length with hlt | heq | hgt
    · exfalso
      have h1 := hy (by omega)
      rw [← h, getD_out (by omega)] at h1
      omega
    · exact heq
    · exfalso
      have h1 := hx (by omega)
      rw [h, getD_out (by omega)] at h1
      omega
  refine List.ext_getElem hl fun i h1 h2 => ?_
  have := h i
  rw [List.getD_eq_getElem?_getD, List.getD_eq_getElem?_getD, List.getElem?_eq_getElem h1, List.getElem?_eq_getElem h2] at this
  exact this

theorem wOf_zero {f : Nat → Int} {ns : List Int} (h : ∀ i, i < ns.length → f i = 0) : wOf f ns = 0 :=
  rsum_zero fun i hi => by rw [h i hi, Int.zero_mul]
theorem wOf_sub (f : Nat → Int) {xs ys : List Int} {n : Nat} (hx : xs.length ≤ n) (hy : ys.length ≤ n) (e : wOf f xs = wOf f ys) : rsum (fun i => f i * (xs.getD i 0 - ys.getD i 0)) n = 0 := by
  have h1 := wOf_at f xs hx
  have h2 := wOf_at f ys hy
  have h3 : rsum (fun i => f i * xs.getD i 0) n = rsum (fun i => f i * (xs.getD i 0 - ys.getD i 0)) n + rsum (fun i => f i * ys.getD i 0) n := by
    rw [← rsum_add]
    refine rsum_congr fun i _ => ?_
    rw [Int.mul_sub]; omega
  rw [h1, h2, e] at h3
  omega
theorem parts_same {b c p q t : Int} (ht : 0 < t) (hb : 0 ≤ b) (hb' : b < t) (hc : 0 ≤ c) (hc' : c < t) (e : b + t * p = c + t * q) : b = c ∧ p = q := by
  have h1 : (b + t * p) % t = b := by rw [Int.add_mul_emod_self_left, Int.emod_eq_of_lt hb hb']
  have h2 : (c + t * q) % t = c := by rw [Int.add_mul_emod_self_left, Int.emod_eq_of_lt hc hc']
  have h3 : b = c := by rw [← h1, ← h2, e]
  subst h3
  have h4 : t * p = t * q := by omega
  exact ⟨rfl, Int.eq_of_mul_eq_mul_left (by omega) h4⟩
theorem same_of_columns {A B : PSt} (hA : Sane A) (hB : Sane B) {L : Nat} (hL : max (max ((A.1.length : Int) - 1) A.2.1) (max ((B.1.length : Int) - 1) B.2.1) = (L : Int)) (h : ∀ j : Nat, j < L + 1 → colAt (1 + (j : Int)) A = colAt (1 + (j : Int)) B) : A.1 = B.1 ∧ A.2.1 = B.2.1 := by
  have a0 := hA.hb
  have b0 := hB.hb
  have last := h L (Nat.lt_succ_self L)
  unfold colAt at last
  have zero : ∀ (X : PSt), X.1.length ≤ L + 1 → wOf (fun i => (i : Int) / (1 + (L : Int))) X.1 = 0 := fun X hX =>
    wOf_zero fun i hi => Int.ediv_eq_zero_of_lt (by omega) (by omega)
  rw [zero A (by omega), zero B (by omega), Int.zero_add, Int.zero_add] at last
  obtain ⟨eb, ent⟩ := parts_same (by omega) a0 (by omega) b0 (by omega) last
  refine ⟨?_, eb⟩
  have d : ∀ k, k ≤ L → ∀ i, L + 1 - k ≤ i → 1 ≤ i → A.1.getD i 0 = B.1.getD i 0 := by
    intro k
    induction k with
    | zero =>
      intro _ i hi _
      rw [getD_out (by omega), getD_out (by omega)]
    | succ k ih =>
      intro hk i hi h1
      by_cases e : i = L - k
      · have hc := h (i - 1) (by omega)
        have e1 : (1 : Int) + ((i - 1 : Nat) : Int) = (i : Int) := by omega
        rw [e1] at hc
        unfold colAt at hc
        rw [eb, ent] at hc
        have hw : wOf (fun j => (j : Int) / (i : Int)) A.1 = wOf (fun j => (j : Int) / (i : Int)) B.1 := by
          have h2 : (i : Int) * (wOf (fun j => (j : Int) / (i : Int)) A.1 + B.2.2.2) = (i : Int) * (wOf (fun j => (j : Int) / (i : Int)) B.1 + B.2.2.2) := by omega
          have h3 := Int.eq_of_mul_eq_mul_left (by omega) h2
          omega
        have hs := wOf_sub (fun j => (j : Int) / (i : Int)) (n := L + 1) (by omega) (by omega) hw
        rw [rsum_congr (h := fun j => if j = i then (j : Int) / (i : Int) * (A.1.getD j 0 - B.1.getD j 0) else 0) fun j hj => ?_] at hs
        · rw [rsum_one (fun j => (j : Int) / (i : Int) * (A.1.getD j 0 - B.1.getD j 0)), if_pos (by omega)] at hs
          rw [Int.ediv_self (by omega), Int.one_mul] at hs
          omega
        · by_cases ej : j = i
          · rw [if_pos ej]
          · rw [if_neg ej]
            by_cases lt : j < i
            · rw [Int.ediv_eq_zero_of_lt (by omega) (by omega), Int.zero_mul]
            · rw [ih (by omega) j (by omega) (by omega), Int.sub_self, Int.mul_zero]
      · exact ih (by omega) i (by omega) h1
  refine lists_same hA.hlast hB.hlast fun i => ?_
  by_cases hi : 1 ≤ i
  · exact d L (Nat.le_refl L) i (by omega) hi
  · have e : i = 0 := by omega
    subst e
    have hw : wOf (fun _ => 1) A.1 = wOf (fun _ => 1) B.1 := by rw [← hA.hnt, ← hB.hnt]; exact ent
    have hs := wOf_sub (fun _ => 1) (n := L + 1) (by omega) (by omega) hw
    rw [rsum_congr (h := fun j => if j = 0 then (1 : Int) * (A.1.getD j 0 - B.1.getD j 0) else 0) fun j hj => ?_] at hs
    · rw [rsum_one (fun j => (1 : Int) * (A.1.getD j 0 - B.1.getD j 0)), if_pos (by omega), Int.one_mul] at hs
      omega
    · by_cases ej : j = 0
      · rw [if_pos ej]
      · rw [if_neg ej, d L (Nat.le_refl L) j (by omega) (by omega), Int.sub_self, Int.mul_zero]

/-! ## what is said of one lead -/
structure Said (x : Str) (ns : List Int) (b nt : Int) : Prop where
  hInd : ∀ ts, 1 ≤ ts → indentOf ns b nt ts = col x ts
  hRun : max ((ns.length : Int) - 1) b = runOf x
  hScan : ∃ n, scanOf x.cps.toList = (ns, b, n, nt)
theorem said_of {x : Str} {k : Nat} {ns : List Int} {b n nt : Int} (hs : scanOf (wsOf (x ++ [Str.ofString "", Str.ofString "pass", Str.ofString "\x0d\t ", Str.ofString "\\ \t"].getD k Str.empty)) = (ns, b, n, nt)) (h : Lead x) : Said x ns b nt := by
  rw [ws_raw h] at hs
  exact ⟨fun ts ht => indent_is h hs ht, run_is h hs, n, hs⟩
/-- the law's own list -/
def lawWit (x y : Str) : List Dat := witK (col x) (col y) (max (runOf x) (runOf y) + 1).toNat
theorem law_canon {x y : Str} {nsA nsB : List Int} {bA bB ntA ntB : Int} (hA : Said x nsA bA ntA) (hB : Said y nsB bB ntB) :
    witK (indentOf nsA bA ntA) (indentOf nsB bB ntB) (max (max ((nsA.length : Int) - 1) bA) (max ((nsB.length : Int) - 1) bB) + 1).toNat = lawWit x y := by
  rw [hA.hRun, hB.hRun]
  exact witK_congr hA.hInd hB.hInd
theorem law_self (x : Str) : lawWit x x = [] := witK_self _ _
theorem law_equal {x y : Str} {nsA nsB : List Int} {bA bB ntA ntB : Int} (hA : Said x nsA bA ntA) (hB : Said y nsB bB ntB) : (nsA = nsB ∧ bA = bB) ↔ lawWit x y = [] := by
  obtain ⟨n1, e1⟩ := hA.hScan
  obtain ⟨n2, e2⟩ := hB.hScan
  have sA := sane_scan x.cps.toList
  have sB := sane_scan y.cps.toList
  rw [e1] at sA
  rw [e2] at sB
  unfold lawWit
  constructor
  · rintro ⟨rfl, rfl⟩
    have ent : ntA = ntB := by rw [show ntA = wOf (fun _ => 1) nsA from sA.hnt, show ntB = wOf (fun _ => 1) nsA from sB.hnt]
    subst ent
    refine (witK_nil _ _ _).mpr fun j _ => ?_
    rw [← hA.hInd _ (by omega), ← hB.hInd _ (by omega)]
  · intro h
    have h' := (witK_nil _ _ _).mp h
    have hr1 := hA.hRun
    have hr2 := hB.hRun
    have n0 : 0 ≤ runOf x := runMax_nonneg _
    obtain ⟨L, hL⟩ := Int.eq_ofNat_of_zero_le (show 0 ≤ max (runOf x) (runOf y) by omega)
    rw [hL] at h'
    have q := same_of_columns sA sB (L := L) (by dsimp only; rw [hr1, hr2]; exact hL) fun j hj => ?_
    · exact q
    · have hj' := h' j (by omega)
      rw [← hA.hInd _ (by omega), ← hB.hInd _ (by omega)] at hj'
      unfold indentOf at hj'
      rw [il_w _ _ (by omega), il_w _ _ (by omega)] at hj'
      exact hj'
theorem law_nil_comm (x y : Str) : (lawWit y x = []) ↔ (lawWit x y = []) := by
  unfold lawWit
  have e : max (runOf y) (runOf x) = max (runOf x) (runOf y) := by omega
  rw [e, witK_nil, witK_nil]
  exact ⟨fun h j hj => (h j hj).symm, fun h j hj => (h j hj).symm⟩
/-- as the law's loop leaves them -/
theorem law_there (x y : Str) : witK (col x) (col y) (runMax (Txt.split x (Str.ofString "\t") ++ Txt.split y (Str.ofString "\t")) + 2 - 1).toNat = lawWit x y := by
  unfold lawWit runOf
  rw [runMax_append]
  congr 1
  omega
theorem law_back (x y : Str) : witK (col y) (col x) (runMax (Txt.split x (Str.ofString "\t") ++ Txt.split y (Str.ofString "\t")) + 2 - 1).toNat = lawWit y x := by
  unfold lawWit runOf
  rw [runMax_append]
  congr 1
  omega
end Mine
end

section
open PySem PySem.W PyProof.Rows PySem.Spec PySem.Calls PyProof.V
namespace Mine
structure LwSt where
  tl : List (Addr × Obj)
  vs : List Value
  cn : Nat
  us : List Value
  cm : Nat
def lwLed (l k : Addr) (rest : List (Addr × Obj)) (c : LwSt) : List (Addr × Obj) := (k, listOf c.us.toArray c.cm) :: (l, listOf c.vs.toArray c.cn) :: (rest ++ c.tl)
structure LwFacts (l k : Addr) (I J : Int → Int) (i : Nat) (c : LwSt) : Prop where
  hD : DatAll c.tl c.vs (witK I J i)
  hB : DatAll c.tl c.us (witK J I i)
  hO : OwnOff c.tl [k, l]
theorem lw_no {l k : Addr} {I J : Int → Int} {i : Nat} {tl : List (Addr × Obj)} {vs us : List Value} {cn cn' cm cm' : Nat} (h : LwFacts l k I J i ⟨tl, vs, cn, us, cm⟩) (e : I (1 + (i : Int)) = J (1 + (i : Int))) : LwFacts l k I J (i + 1) ⟨tl, vs, cn', us, cm'⟩ :=
  ⟨by rw [witK_succ, if_pos e]; exact h.hD, by rw [witK_succ, if_pos e.symm]; exact h.hB, h.hO⟩
def triple (A B C : Int) (t1 t2 t3 : Tok) (n9 : Nat) : Obj := { cls := .type "tuple", data := .seq #[.int A t1, .int B t2, .int C t3] n9 }
theorem triple_in {news : List (Addr × Obj)} {D : Addr} {A B C : Int} {t1 t2 t3 : Tok} {n9 : Nat} (h : (D, triple A B C t1 t2 t3 n9) ∈ news) : DatIn news (.ref D) (.tuple [.int A, .int B, .int C]) :=
  DatIn.tuple (vs := [_, _, _]) h (.cons (.int _ _) (.cons (.int _ _) (.cons (.int _ _) .nil)))
theorem lw_yes {l k D D2 : Addr} {I J : Int → Int} {i : Nat} {tl : List (Addr × Obj)} {vs us : List Value} {cn cn' cm cm' n9 n8 : Nat} {t1 t2 t3 t4 t5 t6 : Tok} {A B C : Int} (h : LwFacts l k I J i ⟨tl, vs, cn, us, cm⟩) (ea : A = 1 + (i : Int)) (eb : B = I (1 + (i : Int))) (ec : C = J (1 + (i : Int))) (e : ¬ I (1 + (i : Int)) = J (1 + (i : Int)))
    (hl : l < D) (hk : k < D) (hl2 : l < D2) (hk2 : k < D2) :
    LwFacts l k I J (i + 1) ⟨(D2, triple A C B t4 t5 t6 n8) :: (D, triple A B C t1 t2 t3 n9) :: tl, vs ++ [.ref D], cn', us ++ [.ref D2], cm'⟩ := by
  subst ea eb ec
  refine ⟨?_, ?_, ?_⟩
  · rw [witK_succ, if_neg e]
    exact DatAll.append (DatAll.mono (fun p hp => .tail _ (.tail _ hp)) h.hD) (DatAll.one (triple_in (.tail _ (.head _))))
  · rw [witK_succ, if_neg (fun q => e q.symm)]
    exact DatAll.append (DatAll.mono (fun p hp => .tail _ (.tail _ hp)) h.hB) (DatAll.one (triple_in (.head _)))
  · intro p hp b hb
    have hb' : b = k ∨ b = l := by simpa using hb
    rcases List.mem_cons.mp hp with rfl | hp
    · rcases hb' with rfl | rfl
      · exact Nat.ne_of_gt hk2
      · exact Nat.ne_of_gt hl2
    rcases List.mem_cons.mp hp with rfl | hp
    · rcases hb' with rfl | rfl
      · exact Nat.ne_of_gt hk
      · exact Nat.ne_of_gt hl
    · exact h.hO p hp b hb
section
variable {h₀ h' : Heap} {L l k D D2 : Addr} {m₀ m' : Str → Option Value} {rest tl own : List (Addr × Obj)} {vs us : List Value} {cn cn' cm cm' i : Nat} {I J : Int → Int} {x : Str} {stored : List Str} {s₁ : Shared} {tk n9 n8 : Nat} {t1 t2 t3 t4 t5 t6 : Tok} {A B C : Int}
theorem lw_end_no (F : Fr h₀ L h' m') (N : News h₀ L h' ((k, listOf us.toArray cm') :: (l, listOf vs.toArray cn') :: (rest ++ (tl ++ own)))) (hoff : OwnOff own ((lwLed l k rest ⟨tl, vs, cn, us, cm⟩).map (·.1)))
    (hr : ∀ z, z ≠ x → stored.contains z = false → m' z = m₀ z) (h : LwFacts l k I J i ⟨tl, vs, cn, us, cm⟩) (e : I (1 + (i : Int)) = J (1 + (i : Int))) :
    TurnEnd (lwLed l k rest) noPs (LwFacts l k I J) x stored m₀ (i + 1) h₀ L own s₁ { s₁ with heap := h', toks := tk } := by
  refine turn_end ⟨tl, vs, cn', us, cm'⟩ F N ?_ ?_ hoff (fun _ hp => nomatch hp) (fun z h1 _ h3 => hr z h1 h3) (lw_no h e)
  · intro p hp
    simp only [lwLed, List.mem_append, List.mem_cons] at hp ⊢
    rcases hp with hp | hp | hp | hp
    · exact .inl hp
    · exact .inr (.inl hp)
    · exact .inr (.inr (.inl hp))
    · exact .inr (.inr (.inr (.inl hp)))
  · intro p hp
    simp only [List.mem_append, List.mem_cons]
    exact .inr (.inr (.inr (.inr hp)))
theorem lw_end_yes (F : Fr h₀ L h' m') (N : News h₀ L h' ((D2, ({ cls := .type "tuple", data := .seq #[.int A t4, .int C t5, .int B t6] n8 } : Obj)) :: (k, listOf (us.toArray.push (.ref D2)) cm') :: (D, ({ cls := .type "tuple", data := .seq #[.int A t1, .int B t2, .int C t3] n9 } : Obj)) :: (l, listOf (vs.toArray.push (.ref D)) cn') :: (rest ++ (tl ++ own)))
      ∨ News h₀ L h' ((D2, ({ cls := .type "tuple", data := .seq #[.int A t4, .int C t5, .int B t6] n8 } : Obj)) :: (D, ({ cls := .type "tuple", data := .seq #[.int A t1, .int B t2, .int C t3] n9 } : Obj)) :: (k, listOf (us.toArray.push (.ref D2)) cm') :: (l, listOf (vs.toArray.push (.ref D)) cn') :: (rest ++ (tl ++ own))))
    (hoff : OwnOff own ((lwLed l k rest ⟨tl, vs, cn, us, cm⟩).map (·.1)))
    (hD : ∀ p ∈ own, p.1 ≠ D) (hD2 : ∀ p ∈ own, p.1 ≠ D2) (hl : l < D) (hk : k < D) (hl2 : l < D2) (hk2 : k < D2) (hr : ∀ z, z ≠ x → stored.contains z = false → m' z = m₀ z) (h : LwFacts l k I J i ⟨tl, vs, cn, us, cm⟩) (ea : A = 1 + (i : Int)) (eb : B = I (1 + (i : Int))) (ec : C = J (1 + (i : Int))) (e : ¬ I (1 + (i : Int)) = J (1 + (i : Int))) :
    TurnEnd (lwLed l k rest) noPs (LwFacts l k I J) x stored m₀ (i + 1) h₀ L own s₁ { s₁ with heap := h', toks := tk } := by
  have N' : News h₀ L h' ((D2, triple A C B t4 t5 t6 n8) :: (D, triple A B C t1 t2 t3 n9) :: (k, listOf (us ++ [Value.ref D2]).toArray cm') :: (l, listOf (vs ++ [Value.ref D]).toArray cn') :: (rest ++ (tl ++ own))) := by
    rw [List.push_toArray, List.push_toArray] at N
    rcases N with N | N
    · intro p hp
      refine N p ?_
      simp only [List.mem_cons] at hp ⊢
      rcases hp with hp | hp | hp | hp
      · exact .inl hp
      · exact .inr (.inr (.inl hp))
      · exact .inr (.inl hp)
      · exact .inr (.inr (.inr hp))
    · exact N
  refine turn_end ⟨(D2, triple A C B t4 t5 t6 n8) :: (D, triple A B C t1 t2 t3 n9) :: tl, vs ++ [.ref D], cn', us ++ [.ref D2], cm'⟩ F N' ?_ ?_ ?_ (fun _ hp => nomatch hp) (fun z h1 _ h3 => hr z h1 h3) (lw_yes h ea eb ec e hl hk hl2 hk2)
  · intro p hp
    simp only [lwLed, List.mem_append, List.mem_cons] at hp ⊢
    rcases hp with hp | hp | hp | hp | hp | hp <;> simp [hp]
  · intro p hp
    simp only [List.mem_append, List.mem_cons]
    simp [hp]
  · intro p hp b hb
    simp only [lwLed, List.map_cons, List.map_append, List.mem_cons, List.mem_append] at hb
    have up : ∀ q, q ∈ (lwLed l k rest ⟨tl, vs, cn, us, cm⟩).map (·.1) → p.1 ≠ q := fun q hq => hoff p hp q hq
    simp only [lwLed, List.map_cons, List.map_append, List.mem_cons, List.mem_append] at up
    rcases hb with rfl | rfl | hb | rfl | rfl | hb
    · exact up _ (.inl rfl)
    · exact up _ (.inr (.inl rfl))
    · exact up _ (.inr (.inr (.inl hb)))
    · exact hD2 p hp
    · exact hD p hp
    · exact up _ (.inr (.inr (.inr hb)))
end
section
variable {prog : Program} {w : World} {A : Around} {E : Value → Shared → Prop} {s : Shared} {env : Env} {h₀ : Heap} {x : Str} {body : List Stmt} {Q : Flow → Shared → Prop}
theorem law_loop (I J : Int → Int) (stored : List Str) {r : Addr} {b₀ : Int} {t₀ u₀ v₀ : Tok} {m₀ : Str → Option Value} {rest : List (Addr × Obj)} {l k : Addr} {cn cm : Nat} (hh : A.handled = none) (hr : IsRange s.heap r 1 b₀ 1 t₀ u₀ v₀) (hb' : b₀ ≤ 1001) (hb'' : 0 ≤ b₀)
    (F : Fr h₀ env.locals s.heap m₀) (N : News h₀ env.locals s.heap ((k, listOf [].toArray cm) :: (l, listOf [].toArray cn) :: rest))
    (turn : ∀ (i : Nat) t tl vs cn us cm (u : Str → Option Value) h tk own, OwnOff own ((lwLed l k rest ⟨tl, vs, cn, us, cm⟩).map (·.1)) → LwFacts l k I J i ⟨tl, vs, cn, us, cm⟩ → OwnOff tl [k, l] → vs.length ≤ 1000 → us.length ≤ 1000 →
      Fr h₀ env.locals h (fun y => if y = x then some (.int (1 + (i : Int)) t) else if stored.contains y = true then u y else m₀ y) → News h₀ env.locals h ((k, listOf us.toArray cm) :: (l, listOf vs.toArray cn) :: (rest ++ (tl ++ own))) →
      wpAny (model prog w) A (execs body env) (TurnPost (lwLed l k rest) noPs (LwFacts l k I J) (LwFacts l k I J (b₀ - 1).toNat) x stored m₀ (i + 1) h₀ env.locals own { s with heap := h, toks := tk }) E { s with heap := h, toks := tk })
    (done : ∀ tl vs cn us cm (u : Str → Option Value) h tk, DatAll tl vs (witK I J (b₀ - 1).toNat) → DatAll tl us (witK J I (b₀ - 1).toNat) →
      Fr h₀ env.locals h (fun y => if y = x then u y else if stored.contains y = true then u y else m₀ y) → News h₀ env.locals h ((k, listOf us.toArray cm) :: (l, listOf vs.toArray cn) :: (rest ++ tl)) → Q .next { s with heap := h, toks := tk }) :
    wpAny (model prog w) A (pyIter (.ref r)) (fun it s₂ => LoopAtV prog w A h₀ env x body Q E it s₂) E s := by
  refine range_loop (n := (b₀ - 1).toNat) (lwLed l k rest) noPs (LwFacts l k I J) (LwFacts l k I J (b₀ - 1).toNat) stored ⟨[], [], cn, [], cm⟩ hh hr (small_one (by omega) (by omega) (by omega) (by omega)) (rangeSize_nat _ _) F (by rw [lwLed, List.append_nil]; exact N) ⟨.nil, .nil, fun _ hp => nomatch hp⟩ (fun _ hp => nomatch hp) ?_ (fun _ h => h) ?_
  · rintro ⟨tl, vs, cn, us, cm⟩ i t u h tk own hi hoff hf F₁ N₁
    have hl : vs.length ≤ 1000 := by
      have h1 := hf.hD.length
      have h2 := witK_length I J i
      dsimp only at h1
      omega
    have hm : us.length ≤ 1000 := by
      have h1 := hf.hB.length
      have h2 := witK_length J I i
      dsimp only at h1
      omega
    refine turn i t tl vs cn us cm u h tk own hoff hf hf.hO hl hm F₁ ?_
    have e : lwLed l k rest ⟨tl, vs, cn, us, cm⟩ ++ own = (k, listOf us.toArray cm) :: (l, listOf vs.toArray cn) :: (rest ++ (tl ++ own)) := by simp [lwLed]
    rw [← e]; exact N₁
  · rintro ⟨tl, vs, cn, us, cm⟩ u h tk hf F₁ N₁
    exact done tl vs cn us cm u h tk hf.hD hf.hB F₁ N₁
end
/-! two lists of data compared, known to be the same -/
section
variable {prog : Program} {w : World} {A : Around} {E : Value → Shared → Prop} {s : Shared} {h₀ : Heap} {L a b : Addr} {news n₁ n₂ : List (Addr × Obj)} {xs ys : List Value} {ka kb : Nat} {ds es : List Dat} {Q : Value → Shared → Prop}
theorem ne_same (N : News h₀ L s.heap news) (ma : (a, listOf xs.toArray ka) ∈ news) (Da : DatAll n₁ xs ds) (sa : ∀ p ∈ n₁, p ∈ news) (mb : (b, listOf ys.toArray kb) ∈ news) (Db : DatAll n₂ ys es) (sb : ∀ p ∈ n₂, p ∈ news)
    (e : ds = es) (ha : ∀ d ∈ ds, kqdOk 8 d = true) (hu : A.units + 64 < cLine) (h : Q (.bool false) s) : wpAny (model prog w) A (compareOp .NotEq (.ref a) (.ref b)) Q E s := by
  subst e
  refine kqd_ne N ma rfl rfl Da sa mb rfl rfl Db sb ha ha hu ?_
  simpa using h
open Classical in
theorem eq_nil (N : News h₀ L s.heap news) (ma : (a, listOf xs.toArray ka) ∈ news) (Da : DatAll n₁ xs ds) (sa : ∀ p ∈ n₁, p ∈ news) (mb : (b, listOf [].toArray kb) ∈ news)
    (ha : ∀ d ∈ ds, kqdOk 8 d = true) (hu : A.units + 64 < cLine) (h : Q (.bool (decide (ds = []))) s) : wpAny (model prog w) A (compareOp .Eq (.ref a) (.ref b)) Q E s :=
  kqd_eq N ma rfl rfl Da sa (n₂ := []) mb rfl rfl DatAll.nil (fun _ hp => nomatch hp) ha (fun _ hp => nomatch hp) hu h
end
end Mine
end

section
open PySem PySem.W PyProof.Rows PySem.Spec PySem.Calls PyProof.V
namespace Mine
theorem law_canon_in {tl : List (Addr × Obj)} {us : List Value} {x y : Str} {nsA nsB : List Int} {bA bB ntA ntB : Int} (D : DatAll tl us (witK (indentOf nsA bA ntA) (indentOf nsB bB ntB) (max (max ((nsA.length : Int) - 1) bA) (max ((nsB.length : Int) - 1) bB) + 1).toNat)) (hA : Said x nsA bA ntA) (hB : Said y nsB bB ntB) :
    DatAll tl us (lawWit x y) := by rw [← law_canon hA hB]; exact D
theorem law_ok (x y : Str) : ∀ d ∈ lawWit x y, kqdOk 8 d = true := witK_ok _ _ _
theorem lead_len {one : Str} {n : Nat} (h : one.length ≤ 2 * n) (hn : n ≤ 10) : one.length ≤ 20 := by omega
theorem runs_short {one two : Str} (h1 : one.length ≤ 20) (h2 : two.length ≤ 20) : ∀ r ∈ Txt.split one (Str.ofString "\t") ++ Txt.split two (Str.ofString "\t"), r.length ≤ 100 := by
  intro r hr
  rcases List.mem_append.mp hr with hr | hr
  · have := part_short hr; omega
  · have := part_short hr; omega
theorem runMax_le {ws : List Str} {n : Nat} (h : ∀ r ∈ ws, r.length ≤ n) : runMax ws ≤ n := by
  induction ws with
  | nil => rw [runMax_nil]; omega
  | cons r ws ih =>
    rw [runMax_cons]
    have h1 := h r (.head _)
    have h2 := ih fun q hq => h q (.tail _ hq)
    omega
theorem runs_le {one two : Str} (h1 : one.length ≤ 20) (h2 : two.length ≤ 20) : runMax (Txt.split one (Str.ofString "\t") ++ Txt.split two (Str.ofString "\t")) + 2 ≤ 1001 := by
  have := runMax_le (n := 100) (runs_short h1 h2)
  omega
theorem runs_ge (one two : Str) : 0 ≤ runMax (Txt.split one (Str.ofString "\t") ++ Txt.split two (Str.ofString "\t")) + 2 := by
  have := runMax_nonneg (Txt.split one (Str.ofString "\t") ++ Txt.split two (Str.ofString "\t"))
  omega
theorem split_count {one two : Str} (h1 : one.length ≤ 20) (h2 : two.length ≤ 20) : (Txt.split one (Str.ofString "\t")).length + (Txt.split two (Str.ofString "\t")).length ≤ sizeLine := by
  have a := split_le one (Str.ofString "\t")
  have b := split_le two (Str.ofString "\t")
  rw [sizeLine_eq]
  omega
section
variable {prog : Program} {w : World} {A : Around} {E : Value → Shared → Prop} {s : Shared} {env : Env} {h₀ : Heap} {x : Str} {body : List Stmt}
theorem split_tab {L : Addr} {m : Str → Option Value} {news : List (Addr × Obj)} {y : Str} {t u : Tok} {Q : Value → Shared → Prop} (F : Fr h₀ L s.heap m) (N : News h₀ L s.heap news) (hz : y.length ≤ 20)
    (h : ∀ D vs h' k, Fr h₀ L h' m → News h₀ L h' ((D, listOf (List.toArray vs) 0) :: news) → (∀ p ∈ news, p.1 < D) → StrsAre vs (Txt.split y (Str.ofString "\t")) → Q (.ref D) { s with heap := h', toks := k }) :
    wpAny (model prog w) A (call (.builtin "str.split") [.str y t, .str (Str.ofString "\t") u]) Q E s := by
  refine KSpl.split1 F N (by decide) (fun D l h' k e S F' N' l1 => ?_) (by rw [sizeLine_eq]; omega)
  refine h D _ h' k F' N' l1 ?_
  rw [e] at S
  exact S
theorem isnot_same {c d : Bool} {Q : Value → Shared → Prop} {M : Model} (e : c = d) (h : Q (.bool false) s) : wpAny M A (compareOp .IsNot (.bool c) (.bool d)) Q E s := by
  subst e
  exact isnot_bool (by cases c <;> exact h)
theorem is_same {c d : Bool} {Q : Value → Shared → Prop} {M : Model} (e : c = d) (h : Q (.bool true) s) : wpAny M A (compareOp .Is (.bool c) (.bool d)) Q E s := by
  subst e
  exact is_bool (by cases c <;> exact h)
open Classical in
theorem same_ab {x y : Str} {nsA nsB : List Int} {bA bB ntA ntB : Int} (i1 : Decidable (nsA = nsB ∧ bA = bB)) (i2 : Decidable (lawWit x y = [])) (hA : Said x nsA bA ntA) (hB : Said y nsB bB ntB) : @decide (nsA = nsB ∧ bA = bB) i1 = @decide (lawWit x y = []) i2 := by
  have := law_equal hA hB
  by_cases h : nsA = nsB ∧ bA = bB
  · rw [decide_eq_true h, decide_eq_true (this.mp h)]
  · rw [decide_eq_false h, decide_eq_false fun q => h (this.mpr q)]
theorem same_ba {x y : Str} {nsA nsB : List Int} {bA bB ntA ntB : Int} (i1 : Decidable (nsB = nsA ∧ bB = bA)) (i2 : Decidable (lawWit x y = [])) (hA : Said x nsA bA ntA) (hB : Said y nsB bB ntB) : @decide (nsB = nsA ∧ bB = bA) i1 = @decide (lawWit x y = []) i2 := by
  have h1 := law_equal hB hA
  have h2 := law_nil_comm x y
  by_cases h : nsB = nsA ∧ bB = bA
  · rw [decide_eq_true h, decide_eq_true (h2.mp (h1.mp h))]
  · rw [decide_eq_false h, decide_eq_false fun q => h (h1.mpr (h2.mpr q))]
/-- the law's loop, its two texts read off the frame -/
theorem law_loop' {y z : Str} {ty tz : Tok} (stored : List Str) {r : Addr} {b₀ : Int} {t₀ u₀ v₀ : Tok} {m₀ : Str → Option Value} {rest : List (Addr × Obj)} {l k : Addr} {cn cm : Nat} {Q : Flow → Shared → Prop} (hh : A.handled = none) (hr : IsRange s.heap r 1 b₀ 1 t₀ u₀ v₀) (k1 : m₀ (Str.ofString "one") = some (.str y ty)) (k2 : m₀ (Str.ofString "two") = some (.str z tz))
    (hb : b₀ = runMax (Txt.split y (Str.ofString "\t") ++ Txt.split z (Str.ofString "\t")) + 2) (hy : y.length ≤ 20) (hz : z.length ≤ 20)
    (F : Fr h₀ env.locals s.heap m₀) (N : News h₀ env.locals s.heap ((k, listOf [].toArray cm) :: (l, listOf [].toArray cn) :: rest))
    (turn : ∀ (i : Nat) t tl vs cn us cm (u : Str → Option Value) h tk own, OwnOff own ((lwLed l k rest ⟨tl, vs, cn, us, cm⟩).map (·.1)) → LwFacts l k (col y) (col z) i ⟨tl, vs, cn, us, cm⟩ → OwnOff tl [k, l] → vs.length ≤ 1000 → us.length ≤ 1000 →
      Fr h₀ env.locals h (fun y => if y = x then some (.int (1 + (i : Int)) t) else if stored.contains y = true then u y else m₀ y) → News h₀ env.locals h ((k, listOf us.toArray cm) :: (l, listOf vs.toArray cn) :: (rest ++ (tl ++ own))) →
      wpAny (model prog w) A (execs body env) (TurnPost (lwLed l k rest) noPs (LwFacts l k (col y) (col z)) (LwFacts l k (col y) (col z) (b₀ - 1).toNat) x stored m₀ (i + 1) h₀ env.locals own { s with heap := h, toks := tk }) E { s with heap := h, toks := tk })
    (done : ∀ tl vs cn us cm (u : Str → Option Value) h tk, DatAll tl vs (lawWit y z) → DatAll tl us (lawWit z y) →
      Fr h₀ env.locals h (fun y => if y = x then u y else if stored.contains y = true then u y else m₀ y) → News h₀ env.locals h ((k, listOf us.toArray cm) :: (l, listOf vs.toArray cn) :: (rest ++ tl)) → Q .next { s with heap := h, toks := tk }) :
    wpAny (model prog w) A (pyIter (.ref r)) (fun it s₂ => LoopAtV prog w A h₀ env x body Q E it s₂) E s := by
  subst hb
  refine law_loop (col y) (col z) stored hh hr (runs_le hy hz) (runs_ge y z) F N turn fun tl vs cn us cm u h tk hD hB F' N' => ?_
  rw [law_there] at hD
  rw [law_back] at hB
  exact done tl vs cn us cm u h tk hD hB F' N'
end
end Mine
end

section
open PySem PySem.W PyProof.Rows
namespace Mine
theorem post_val (R : WRecords) (c : WCtx) (h : c.res = some (.bool true)) : (WTm.eq .res (.lit (.bool true))).value R c = some (.bool (true == true)) := w_eq_bool (w_res h) w_lit
theorem post_true (args : List WData) : PySem.Challenge.rw_kn0037_01.row.claim.post args (.bool true) args = true :=
  postW_of (r := PySem.Challenge.rw_kn0037_01.row.toRowW) (X := true) rfl (post_val _ _ rfl) rfl
end Mine
end

namespace Mine
open PySem PySem.W PyProof.Rows
open_top hd for PySem.Challenge.rw_kn0037_01
end Mine

section
open PySem PySem.W PyProof.Rows PySem.Spec PySem.Calls
namespace Mine
abbrev wsDict (P : Params) (k1 k2 k3 k4 k5 : Tok) (raw : Str) (tr : Tok) (n : Int) (tn : Tok) (nt : Int) (tnt : Tok) (tu : Addr) (si : Bool) : Obj :=
  dictOf [⟨PyData.keyHash P (Str.ofString "raw"), .str (Str.ofString "raw") k1, .str raw tr⟩, ⟨PyData.keyHash P (Str.ofString "n"), .str (Str.ofString "n") k2, .int n tn⟩, ⟨PyData.keyHash P (Str.ofString "nt"), .str (Str.ofString "nt") k3, .int nt tnt⟩,
    ⟨PyData.keyHash P (Str.ofString "norm"), .str (Str.ofString "norm") k4, .ref tu⟩, ⟨PyData.keyHash P (Str.ofString "is_simple"), .str (Str.ofString "is_simple") k5, .bool si⟩] 5


theorem longest_claim (w : World) (mean : ExcName → Option Value) (mg mb : Str → Option Value) (rest : List (Addr × Obj)) (x dx tu tc : Addr) (k1 k2 k3 k4 k5 tr tn tnt tb : Tok) (raw : Str) (n nt b : Int) (si : Bool) (vs : List Value) (ns : List Int) :
    CbClaim PySem.Challenge.rw_kn0037_01.row.prog w (hd.heap_39 w.params) hd.view_39 (looseW hd.view_39 [Str.ofString "Whitespace"]) mean mg mb 45 ((x, instObj 83 dx) :: (dx, wsDict w.params k1 k2 k3 k4 k5 raw tr n tn nt tnt tu si) :: (tu, { cls := .type "tuple", data := .seq #[.ref tc, .int b tb] }) :: (tc, { cls := .type "tuple", data := .seq vs.toArray }) :: rest) []
      (IntsAre vs ns ∧ 0 ≤ b ∧ (ns.length : Int) + b ≤ 100) [.ref x] (fun t => .int (max ((ns.length : Int) - 1) b) t) := by
  k_with_none
  k_with "call builtin:len" => (refine len_tup (by assumption) (by k_mem) (by assumption) (by omega) ?_)
  k_fill
  unfold CbClaim CbLists CbRet
  intro dp un gd cn cs a ccd cl outer A₀ base h₀ L m s Q E B F X N T hk hpre hdp hun hret
  obtain ⟨hI, hb0, hb1⟩ := hpre
  refine wpAny_call ?_
  k_dflt cell_enter
  k_steps
  refine' cb_retI hret ?mye (by assumption) (by assumption)
  split <;> omega

theorem indent_claim (w : World) (mean : ExcName → Option Value) (mg mb : Str → Option Value) (rest : List (Addr × Obj)) (x dx tu tc : Addr) (k1 k2 k3 k4 k5 tr tn tnt tb : Tok) (raw : Str) (n nt b : Int) (si : Bool) (vs : List Value) (ns : List Int) (ts : Int) (tts : Tok) :
    CbClaim PySem.Challenge.rw_kn0037_01.row.prog w (hd.heap_39 w.params) hd.view_39 (looseW hd.view_39 [Str.ofString "Whitespace"]) mean mg mb 52 ((x, instObj 83 dx) :: (dx, wsDict w.params k1 k2 k3 k4 k5 raw tr n tn nt tnt tu si) :: (tu, { cls := .type "tuple", data := .seq #[.ref tc, .int b tb] }) :: (tc, { cls := .type "tuple", data := .seq vs.toArray }) :: rest) []
      (IntsAre vs ns ∧ 0 ≤ b ∧ (ns.length : Int) + b ≤ 100 ∧ 1 ≤ ts ∧ ts ≤ 1000) [.ref x, .int ts tts] (fun t => .int (indentOf ns b nt ts) t) := by
  k_with_none
  k_with "call builtin:len" => (refine len_tup (by assumption) (by k_mem) (by assumption) (by omega) ?_)
  k_with "pyIter ref" =>
    rename Fr _ _ _ _ => lF'
    rename News _ _ _ _ => lN'
    rename IsRange _ _ _ _ _ _ _ _ => rgX
    with_unfolding_all refine' il_loop ?myh rgX ?mybb ?myt1 ?myt2 ?myz lF' lN' ?myk1 ?_ ?_
    case myh => k_dflt (exact rfl)
    case mybb => rfl
    case myt1 => assumption
    case myt2 => assumption
    case myz => omega
    case myk1 => with_unfolding_all rfl
    all_goals clear lF' lN'
    all_goals first
      | (intro i t il tl u h tk own hi hoff hf hq0 hq1 F' N'
         have kMark := kstMark
         try simp only [List.cons_append, List.nil_append] at N'
         try simp only [List.map_cons, List.map_nil] at hoff
         try k_fold)
      | (intro t u h tk F' N'
         have kMark := kstMark
         try k_fold)
  k_with "TurnPost" => dsimp only [Mine.TurnPost]
  k_with "TurnEnd" =>
    rename News _ _ _ _ => nE'
    with_unfolding_all refine' turn_end ⟨_, _⟩ ?myF nE' ?myhn ?myho ?myha ?myhk ?myhr ?myhf
    (case myF => assumption)
    (case myhk => (dsimp only [ilPs]; kst_all))
    (case myhn => ((try dsimp only); kst_inAny))
    (case myho => (intro p hp; kst_mem))
    (case myha => ((try dsimp only [List.map]); assumption))
    (case myhr => (dsimp only [ilPs]; kst_same))
    (case myhf => (exact il_succ (by assumption)))
  k_fill
  unfold CbClaim CbLists CbRet
  intro dp un gd cn cs a ccd cl outer A₀ base h₀ L m s Q E B F X N T hk hpre hdp hun hret
  obtain ⟨hI, hb0, hb1, ht0, ht1⟩ := hpre
  refine wpAny_call ?_
  k_dflt cell_enter
  k_steps
  refine' cb_retI hret ?mye ?myf ?myn
  (case myf => assumption)
  (case myn => assumption)
  (case mye => rfl)
end Mine
end

section
open PySem PySem.W PyProof.Rows PySem.Spec PySem.Calls
namespace Mine
section
variable {w : World} {mean : ExcName → Option Value} {mg mb : Str → Option Value} {full : List (Addr × Obj)} {x dx tu tc : Addr} {k1 k2 k3 k4 k5 tr tn tnt tb : Tok} {raw : Str} {n nt b : Int} {si : Bool} {vs : List Value} {ns : List Int}
variable {dp un : Nat} {gd : Option (List Code)} {cn : Str} {cs : Scope} {a : Addr} {ccd : Value} {cl : List (Str × Addr)} {outer : List Env} {A₀ : Around} {base h₀ : Heap} {L : Addr} {m : Str → Option Value} {s : Shared} {Q E : Value → Shared → Prop}
theorem sub_full {full : List (Addr × Obj)} {p1 p2 p3 p4 : Addr × Obj} {h : Heap} (N : News h₀ L h full) (m1 : p1 ∈ full) (m2 : p2 ∈ full) (m3 : p3 ∈ full) (m4 : p4 ∈ full) : News h₀ L h (p1 :: p2 :: p3 :: p4 :: full) := by
  intro p hp
  rcases List.mem_cons.mp hp with rfl | hp
  · exact N _ m1
  rcases List.mem_cons.mp hp with rfl | hp
  · exact N _ m2
  rcases List.mem_cons.mp hp with rfl | hp
  · exact N _ m3
  rcases List.mem_cons.mp hp with rfl | hp
  · exact N _ m4
  exact N _ hp
theorem longest_use (B : Below A₀ base outer h₀) (F : Fr h₀ L s.heap m) (X : (hd.heap_39 w.params).In h₀) (N : News h₀ L s.heap full) (T : Top hd.view_39 (looseW hd.view_39 [Str.ofString "Whitespace"]) mean mg mb h₀) (hk : cs.kind = .function)
    (m1 : (x, instObj 83 dx) ∈ full) (m2 : (dx, wsDict w.params k1 k2 k3 k4 k5 raw tr n tn nt tnt tu si) ∈ full) (m3 : (tu, ({ cls := .type "tuple", data := .seq #[.ref tc, .int b tb] } : Obj)) ∈ full) (m4 : (tc, ({ cls := .type "tuple", data := .seq vs.toArray } : Obj)) ∈ full)
    (hI : IntsAre vs ns) (hb : 0 ≤ b) (hl : (ns.length : Int) + b ≤ 100) (hd' : dp + 1 < recursionLimit) (hu : un + 8 < cLine)
    (ret : ∀ t h' tk', Fr h₀ L h' m → News h₀ L h' full → Q (.int (max ((ns.length : Int) - 1) b) t) { s with heap := h', toks := tk' }) :
    wpAny (model PySem.Challenge.rw_kn0037_01.row.prog w) (ktrTop dp un gd cn cs L a ccd cl outer) (call (.ref 45) [.ref x]) Q E s := by
  have hC := longest_claim w mean mg mb full x dx tu tc k1 k2 k3 k4 k5 tr tn tnt tb raw n nt b si vs ns
  dsimp only [CbClaim, CbLists, CbRet] at hC
  exact hC dp un gd cn cs a ccd cl outer A₀ base h₀ L m s Q E B F X (sub_full N m1 m2 m3 m4) T hk ⟨hI, hb, hl⟩ hd' hu fun t h' tk' F' N' => ret t h' tk' F' fun p hp => N' p (.tail _ (.tail _ (.tail _ (.tail _ hp))))
theorem indent_use {ts : Int} {tts : Tok} (B : Below A₀ base outer h₀) (F : Fr h₀ L s.heap m) (X : (hd.heap_39 w.params).In h₀) (N : News h₀ L s.heap full) (T : Top hd.view_39 (looseW hd.view_39 [Str.ofString "Whitespace"]) mean mg mb h₀) (hk : cs.kind = .function)
    (m1 : (x, instObj 83 dx) ∈ full) (m2 : (dx, wsDict w.params k1 k2 k3 k4 k5 raw tr n tn nt tnt tu si) ∈ full) (m3 : (tu, ({ cls := .type "tuple", data := .seq #[.ref tc, .int b tb] } : Obj)) ∈ full) (m4 : (tc, ({ cls := .type "tuple", data := .seq vs.toArray } : Obj)) ∈ full)
    (hI : IntsAre vs ns) (hb : 0 ≤ b) (hl : (ns.length : Int) + b ≤ 100) (ht0 : 1 ≤ ts) (ht1 : ts ≤ 1000) (hd' : dp + 1 < recursionLimit) (hu : un + 8 < cLine)
    (ret : ∀ t h' tk', Fr h₀ L h' m → News h₀ L h' full → Q (.int (indentOf ns b nt ts) t) { s with heap := h', toks := tk' }) :
    wpAny (model PySem.Challenge.rw_kn0037_01.row.prog w) (ktrTop dp un gd cn cs L a ccd cl outer) (call (.ref 52) [.ref x, .int ts tts]) Q E s := by
  have hC := indent_claim w mean mg mb full x dx tu tc k1 k2 k3 k4 k5 tr tn tnt tb raw n nt b si vs ns ts tts
  dsimp only [CbClaim, CbLists, CbRet] at hC
  exact hC dp un gd cn cs a ccd cl outer A₀ base h₀ L m s Q E B F X (sub_full N m1 m2 m3 m4) T hk ⟨hI, hb, hl, ht0, ht1⟩ hd' hu fun t h' tk' F' N' => ret t h' tk' F' fun p hp => N' p (.tail _ (.tail _ (.tail _ (.tail _ hp))))
end
end Mine
end

section
open PySem PySem.W PyProof.Rows PySem.Spec PySem.Calls
namespace Mine
theorem wit_claim (w : World) (mean : ExcName → Option Value) (mg mb : Str → Option Value) (rest : List (Addr × Obj)) (xA dxA tuA tcA : Addr) (k1A k2A k3A k4A k5A trA tnA tntA tbA : Tok) (rawA : Str) (nA ntA bA : Int) (siA : Bool) (vsA : List Value) (nsA : List Int) (xB dxB tuB tcB : Addr) (k1B k2B k3B k4B k5B trB tnB tntB tbB : Tok) (rawB : Str) (nB ntB bB : Int) (siB : Bool) (vsB : List Value) (nsB : List Int)
    (dp un : Nat) (gd : Option (List Code)) (cn : Str) (cs : Scope) (a : Addr) (ccd : Value) (cl : List (Str × Addr)) (outer : List Env) (A₀ : Around) (base h₀ : Heap) (L : Addr) (m : Str → Option Value) (s : Shared) (Q E : Value → Shared → Prop)
    (B : Below A₀ base outer h₀) (F : Fr h₀ L s.heap m) (X : (hd.heap_39 w.params).In h₀) (N : News h₀ L s.heap ((xA, instObj 83 dxA) :: (dxA, wsDict w.params k1A k2A k3A k4A k5A rawA trA nA tnA ntA tntA tuA siA) :: (tuA, { cls := .type "tuple", data := .seq #[.ref tcA, .int bA tbA] }) :: (tcA, { cls := .type "tuple", data := .seq vsA.toArray }) :: (xB, instObj 83 dxB) :: (dxB, wsDict w.params k1B k2B k3B k4B k5B rawB trB nB tnB ntB tntB tuB siB) :: (tuB, { cls := .type "tuple", data := .seq #[.ref tcB, .int bB tbB] }) :: (tcB, { cls := .type "tuple", data := .seq vsB.toArray }) :: rest)) (T : Top hd.view_39 (looseW hd.view_39 [Str.ofString "Whitespace"]) mean mg mb h₀) (hk : cs.kind = .function)
    (hIA : IntsAre vsA nsA) (hbA : 0 ≤ bA) (hlA : (nsA.length : Int) + bA ≤ 100) (hIB : IntsAre vsB nsB) (hbB : 0 ≤ bB) (hlB : (nsB.length : Int) + bB ≤ 100) (hdp : dp + 2 < recursionLimit) (hun : un + 16 < cLine)
    (hret : ∀ (l : Addr) (tl : List (Addr × Obj)) (us : List Value) (c : Nat) (h' : Heap) (tk' : Nat), Fr h₀ L h' m → News h₀ L h' ((l, listOf us.toArray c) :: ((xA, instObj 83 dxA) :: (dxA, wsDict w.params k1A k2A k3A k4A k5A rawA trA nA tnA ntA tntA tuA siA) :: (tuA, { cls := .type "tuple", data := .seq #[.ref tcA, .int bA tbA] }) :: (tcA, { cls := .type "tuple", data := .seq vsA.toArray }) :: (xB, instObj 83 dxB) :: (dxB, wsDict w.params k1B k2B k3B k4B k5B rawB trB nB tnB ntB tntB tuB siB) :: (tuB, { cls := .type "tuple", data := .seq #[.ref tcB, .int bB tbB] }) :: (tcB, { cls := .type "tuple", data := .seq vsB.toArray }) :: rest ++ tl)) → DatAll tl us (witK (indentOf nsA bA ntA) (indentOf nsB bB ntB) (max (max ((nsA.length : Int) - 1) bA) (max ((nsB.length : Int) - 1) bB) + 1).toNat) → Q (.ref l) { s with heap := h', toks := tk' }) :
    wpAny (model PySem.Challenge.rw_kn0037_01.row.prog w) (ktrTop dp un gd cn cs L a ccd cl outer) (call (.ref 66) [.ref xA, .ref xB]) Q E s := by
  k_with_none
  k_with "call ref" =>
    with_reducible show wpAny _ _ (call (Value.ref 45) _) _ _ _
    k_dflt (refine' longest_use ?myB ?myF ?myX ?myN ?myT ?myK ?mym1 ?mym2 ?mym3 ?mym4 ?myI ?myb ?myl ?myd ?myu ?_)
    (case myB => assumption)
    (case myF => assumption)
    (case myX => assumption)
    (case myN => assumption)
    (case myT => assumption)
    (case myK => exact rfl)
    (case mym1 => k_mem)
    (case mym2 => k_mem)
    (case mym3 => k_mem)
    (case mym4 => k_mem)
    (case myI => assumption)
    (case myb => assumption)
    (case myl => assumption)
    (case myd => ktr_room)
    (case myu => ktr_units)
    intro t9 h9 tk9 F9 N9
    try dsimp only
    try k_sweep
    try k_fold
  k_with "call ref" =>
    with_reducible show wpAny _ _ (call (Value.ref 52) _) _ _ _
    k_dflt (refine' indent_use ?myB ?myF ?myX ?myN ?myT ?myK ?mym1 ?mym2 ?mym3 ?mym4 ?myI ?myb ?myl ?myt0 ?myt1 ?myd ?myu ?_)
    (case myB => assumption)
    (case myF => assumption)
    (case myX => assumption)
    (case myN => assumption)
    (case myT => assumption)
    (case myK => exact rfl)
    (case mym1 => k_mem)
    (case mym2 => k_mem)
    (case mym3 => k_mem)
    (case mym4 => k_mem)
    (case myI => assumption)
    (case myb => assumption)
    (case myl => assumption)
    (case myt0 => omega)
    (case myt1 => omega)
    (case myd => ktr_room)
    (case myu => ktr_units)
    intro t9 h9 tk9 F9 N9
    try dsimp only
    try k_sweep
    try k_fold
  k_with "pyIter ref" =>
    rename Fr _ _ _ _ => lF'
    rename News _ _ _ _ => lN'
    rename IsRange _ _ _ _ _ _ _ _ => rgX
    with_unfolding_all refine' wit_loop (indentOf nsA bA ntA) (indentOf nsB bB ntB) (max (max ((nsA.length : Int) - 1) bA) (max ((nsB.length : Int) - 1) bB) + 1).toNat ?myh rgX ?mybb ?myz ?myz2 ?myz3 lF' lN' ?_ ?_
    case myh => k_dflt (exact rfl)
    case mybb => ((repeat' split) <;> omega)
    case myz => omega
    case myz2 => ((repeat' split) <;> omega)
    case myz3 => ((repeat' split) <;> omega)
    all_goals clear lF' lN'
    all_goals first
      | (intro i t tl vs cn u h tk own hi hoff hf hto hvl F' N'
         have kMark := kstMark
         try simp only [List.cons_append, List.nil_append] at N'
         try k_fold)
      | (intro tl vs cn u h tk hD hto F' N'
         have kMark := kstMark
         try simp only [List.cons_append, List.nil_append] at N'
         try k_fold)
  k_with "TurnPost" => dsimp only [Mine.TurnPost]
  k_with "TurnEnd" =>
    rename News _ _ _ _ => nE'
    rename Fr _ _ _ _ => nF'
    first
      | with_unfolding_all refine' wt_end_yes nF' nE' ?myo ?myD ?myl ?myr ?myh ?mya ?myb ?myc ?mye
        (case myo => assumption)
        (case myh => assumption)
        (case myD => k_all)
        (case myl => (refine ltN ?_; omega))
        (case myr => (intro z h1; first | rfl | (simp [h1]; done)))
        (case mya => rfl)
        (case myb => rfl)
        (case myc => rfl)
        (case mye => assumption)
      | with_unfolding_all refine' wt_end_no nF' nE' ?myo ?myr ?myh ?mye
        (case myo => assumption)
        (case myh => assumption)
        (case myr => (intro z h1; first | rfl | (simp [h1]; done)))
        (case mye => assumption)
  have hfill : ∀ h, (hd.heap_39 w.params).In h → PySem.Challenge.rw_kn0037_01.row.prog = PySem.Challenge.rw_kn0037_01.row.prog := by
    k_fill
    intros
    rfl
  clear hfill
  refine wpAny_call ?_
  k_dflt cell_enter
  k_steps
  refine' hret _ _ _ _ _ _ ?myF ?myN ?myD
  (case myF => assumption)
  (case myN => assumption)
  (case myD => assumption)
end Mine
end

section
open PySem PySem.W PyProof.Rows PySem.Spec PySem.Calls
namespace Mine
theorem canLay_ints : ∀ ns : List Int, PyData.canLayAll0 (ns.map PyData.int) = true
  | [] => rfl
  | _ :: r => by simp only [List.map_cons, PyData.canLayAll0, PyData.canLay0, canLay_ints r, Bool.and_self]
theorem depth_ints : ∀ ns : List Int, PyData.depthAll (ns.map PyData.int) = 0
  | [] => rfl
  | _ :: r => by simp only [List.map_cons, PyData.depthAll, PyData.depth, depth_ints r]; rfl
theorem norm_shaped (ns : List Int) (b : Int) : SeqAt.shaped (.tuple [.tuple (ns.map PyData.int), .int b]) = true := by
  simp [SeqAt.shaped, PyData.canLay0, PyData.canLayAll0, PyData.depth, PyData.depthAll, canLay_ints, depth_ints]
theorem norm_reads {h₀ h : Heap} {L tu tc : Addr} {news : List (Addr × Obj)} {b : Int} {tb : Tok} {vs : List Value} {ns : List Int} (N : News h₀ L h news) (m3 : (tu, ({ cls := .type "tuple", data := .seq #[.ref tc, .int b tb] } : Obj)) ∈ news) (m4 : (tc, ({ cls := .type "tuple", data := .seq vs.toArray } : Obj)) ∈ news) (hI : IntsAre vs ns) :
    ∃ as, Reads h (.ref tu) (.tuple [.tuple (ns.map PyData.int), .int b]) as :=
  ⟨_, reads_tuple_at (N.get m3) rfl rfl (ReadsAll.cons (reads_tuple_at (N.get m4) rfl rfl (by simpa using readsAll_of_ints hI)) (ReadsAll.cons (Reads.int _ _) ReadsAll.nil))⟩
theorem norm_eqv (ns ms : List Int) (b c : Int) : PyData.eqv (.tuple [.tuple (ns.map PyData.int), .int b]) (.tuple [.tuple (ms.map PyData.int), .int c]) = decide (ns = ms ∧ b = c) := by
  simp only [PyData.eqv, PyData.eqvAll, ked_eqvAll, Bool.and_true]
  by_cases h1 : ns = ms <;> by_cases h2 : b = c <;> simp [h1, h2]
section
variable {prog : Program} {w : World} {A : Around} {E : Value → Shared → Prop} {s : Shared} {h₀ : Heap} {L : Addr} {Q : Value → Shared → Prop}
theorem norm_eq {news : List (Addr × Obj)} {tuA tcA tuB tcB : Addr} {bA bB : Int} {tbA tbB : Tok} {vsA vsB : List Value} {nsA nsB : List Int} (N : News h₀ L s.heap news) (m3A : (tuA, ({ cls := .type "tuple", data := .seq #[.ref tcA, .int bA tbA] } : Obj)) ∈ news) (m4A : (tcA, ({ cls := .type "tuple", data := .seq vsA.toArray } : Obj)) ∈ news) (hA : IntsAre vsA nsA)
    (m3B : (tuB, ({ cls := .type "tuple", data := .seq #[.ref tcB, .int bB tbB] } : Obj)) ∈ news) (m4B : (tcB, ({ cls := .type "tuple", data := .seq vsB.toArray } : Obj)) ∈ news) (hB : IntsAre vsB nsB) (hu : A.units + 64 < cLine) (h : Q (.bool (decide (nsA = nsB ∧ bA = bB))) s) :
    wpAny (model prog w) A (compareOp .Eq (.ref tuA) (.ref tuB)) Q E s := by
  obtain ⟨as, ra⟩ := norm_reads N m3A m4A hA
  obtain ⟨bs, rb⟩ := norm_reads N m3B m4B hB
  exact eq_dataH ra rb (norm_shaped _ _) (norm_shaped _ _) hu (by rw [norm_eqv]; exact h)
end

theorem equal_claim (w : World) (mean : ExcName → Option Value) (mg mb : Str → Option Value) (rest : List (Addr × Obj)) (xA dxA tuA tcA : Addr) (k1A k2A k3A k4A k5A trA tnA tntA tbA : Tok) (rawA : Str) (nA ntA bA : Int) (siA : Bool) (vsA : List Value) (nsA : List Int) (xB dxB tuB tcB : Addr) (k1B k2B k3B k4B k5B trB tnB tntB tbB : Tok) (rawB : Str) (nB ntB bB : Int) (siB : Bool) (vsB : List Value) (nsB : List Int)
    (dp un : Nat) (gd : Option (List Code)) (cn : Str) (cs : Scope) (a : Addr) (ccd : Value) (cl : List (Str × Addr)) (outer : List Env) (A₀ : Around) (base h₀ : Heap) (L : Addr) (m : Str → Option Value) (s : Shared) (Q E : Value → Shared → Prop)
    (B : Below A₀ base outer h₀) (F : Fr h₀ L s.heap m) (X : (hd.heap_39 w.params).In h₀) (N : News h₀ L s.heap ((xA, instObj 83 dxA) :: (dxA, wsDict w.params k1A k2A k3A k4A k5A rawA trA nA tnA ntA tntA tuA siA) :: (tuA, { cls := .type "tuple", data := .seq #[.ref tcA, .int bA tbA] }) :: (tcA, { cls := .type "tuple", data := .seq vsA.toArray }) :: (xB, instObj 83 dxB) :: (dxB, wsDict w.params k1B k2B k3B k4B k5B rawB trB nB tnB ntB tntB tuB siB) :: (tuB, { cls := .type "tuple", data := .seq #[.ref tcB, .int bB tbB] }) :: (tcB, { cls := .type "tuple", data := .seq vsB.toArray }) :: rest)) (T : Top hd.view_39 (looseW hd.view_39 [Str.ofString "Whitespace"]) mean mg mb h₀) (hk : cs.kind = .function)
    (hIA : IntsAre vsA nsA) (hIB : IntsAre vsB nsB) (hdp : dp + 1 < recursionLimit) (hun : un + 128 < cLine)
    (hret : ∀ (t : Tok) (h' : Heap) (tk' : Nat), Fr h₀ L h' m → News h₀ L h' ((xA, instObj 83 dxA) :: (dxA, wsDict w.params k1A k2A k3A k4A k5A rawA trA nA tnA ntA tntA tuA siA) :: (tuA, { cls := .type "tuple", data := .seq #[.ref tcA, .int bA tbA] }) :: (tcA, { cls := .type "tuple", data := .seq vsA.toArray }) :: (xB, instObj 83 dxB) :: (dxB, wsDict w.params k1B k2B k3B k4B k5B rawB trB nB tnB ntB tntB tuB siB) :: (tuB, { cls := .type "tuple", data := .seq #[.ref tcB, .int bB tbB] }) :: (tcB, { cls := .type "tuple", data := .seq vsB.toArray }) :: rest) → Q (.bool (decide (nsA = nsB ∧ bA = bB))) { s with heap := h', toks := tk' }) :
    wpAny (model PySem.Challenge.rw_kn0037_01.row.prog w) (ktrTop dp un gd cn cs L a ccd cl outer) (call (.ref 59) [.ref xA, .ref xB]) Q E s := by
  k_with_none
  k_with "compareOp Eq ref ref" =>
    k_dflt (refine' norm_eq ?myN ?my1 ?my2 ?my3 ?my4 ?my5 ?my6 ?myu ?_)
    (case myN => assumption)
    (case my1 => k_mem)
    (case my2 => k_mem)
    (case my3 => assumption)
    (case my4 => k_mem)
    (case my5 => k_mem)
    (case my6 => assumption)
    (case myu => ktr_units)
  have hfill : ∀ h, (hd.heap_39 w.params).In h → PySem.Challenge.rw_kn0037_01.row.prog = PySem.Challenge.rw_kn0037_01.row.prog := by
    k_fill
    intros
    rfl
  clear hfill
  refine wpAny_call ?_
  k_dflt cell_enter
  k_steps
  refine' cb_retB hret ?mye ?myf ?myn
  (case myf => assumption)
  (case myn => assumption)
  (case mye => rfl)

theorem col_is (lead : Str) (size : Int) : (List.foldl (fun (σ : Int × Unit) (k : Str) => if (k == Str.ofString "\t") = true then (σ.fst + (size - σ.fst.fmod size), ()) else (σ.fst + 1, ())) (0, ()) (signs lead)).fst = col lead size := by
  unfold col signs
  rw [List.foldl_map]
  have gen : ∀ (l : List Nat) (a : Int), (List.foldl (fun (σ : Int × Unit) (c : Nat) => if ((⟨#[c]⟩ : Str) == Str.ofString "\t") = true then (σ.fst + (size - σ.fst.fmod size), ()) else (σ.fst + 1, ())) (a, ()) l).fst = l.foldl (colStep size) a := by
    intro l
    induction l with
    | nil => intro a; rfl
    | cons c l ih =>
      intro a
      have e : (if ((⟨#[c]⟩ : Str) == Str.ofString "\t") = true then ((a, ()).fst + (size - (a, ()).fst.fmod size), ()) else ((a, ()).fst + 1, ())) = ((colStep size a c, ()) : Int × Unit) := by
        unfold colStep
        by_cases h : c = 9
        · subst h; rfl
        · rw [if_neg h, if_neg]
          intro hh
          exact h (sign_is (c := 9) (by decide) hh)
      rw [List.foldl_cons, List.foldl_cons, e]
      exact ih _
  exact gen _ 0
theorem column_claim (w : World) (mean : ExcName → Option Value) (mg mb : Str → Option Value) (news : List (Addr × Obj)) (lead : Str) (size : Int) (t1 t2 : Tok) :
    CbClaim PySem.Challenge.rw_kn0037_01.row.prog w (hd.heap_39 w.params) hd.view_39 (looseW hd.view_39 [Str.ofString "Whitespace"]) mean mg mb 94 news [] (0 < size) [.str lead t1, .int size t2] (fun t => .int (col lead size) t) := by
  k_with_none
  k_fill
  unfold CbClaim CbLists CbRet
  intro dp un gd cn cs a ccd cl outer A₀ base h₀ L m s Q E B F X N T hk hpre hdp hun hret
  refine wpAny_call ?_
  k_dflt cell_enter
  k_steps
  refine' cb_retI hret ?mye ?myf ?myn
  (case myf => assumption)
  (case myn => assumption)
  (case mye => exact col_is _ _)
section
variable {w : World} {mean : ExcName → Option Value} {mg mb : Str → Option Value} {full : List (Addr × Obj)}
variable {dp un : Nat} {gd : Option (List Code)} {cn : Str} {cs : Scope} {a : Addr} {ccd : Value} {cl : List (Str × Addr)} {outer : List Env} {A₀ : Around} {base h₀ : Heap} {L : Addr} {m : Str → Option Value} {s : Shared} {Q E : Value → Shared → Prop}
theorem column_use {lead : Str} {size : Int} {t1 t2 : Tok} (B : Below A₀ base outer h₀) (F : Fr h₀ L s.heap m) (X : (hd.heap_39 w.params).In h₀) (N : News h₀ L s.heap full) (T : Top hd.view_39 (looseW hd.view_39 [Str.ofString "Whitespace"]) mean mg mb h₀) (hk : cs.kind = .function) (ht : 0 < size) (hd' : dp + 1 < recursionLimit) (hu : un + 8 < cLine)
    (ret : ∀ t h' tk', Fr h₀ L h' m → News h₀ L h' full → Q (.int (col lead size) t) { s with heap := h', toks := tk' }) :
    wpAny (model PySem.Challenge.rw_kn0037_01.row.prog w) (ktrTop dp un gd cn cs L a ccd cl outer) (call (.ref 94) [.str lead t1, .int size t2]) Q E s := by
  have hC := column_claim w mean mg mb full lead size t1 t2
  dsimp only [CbClaim, CbLists, CbRet] at hC
  exact hC dp un gd cn cs a ccd cl outer A₀ base h₀ L m s Q E B F X N T hk ht hd' hu fun t h' tk' F' N' => ret t h' tk' F' N'
theorem equal_use {xA dxA tuA tcA : Addr} {k1A k2A k3A k4A k5A trA tnA tntA tbA : Tok} {rawA : Str} {nA ntA bA : Int} {siA : Bool} {vsA : List Value} {nsA : List Int} {xB dxB tuB tcB : Addr} {k1B k2B k3B k4B k5B trB tnB tntB tbB : Tok} {rawB : Str} {nB ntB bB : Int} {siB : Bool} {vsB : List Value} {nsB : List Int} (B : Below A₀ base outer h₀) (F : Fr h₀ L s.heap m) (X : (hd.heap_39 w.params).In h₀) (N : News h₀ L s.heap full) (T : Top hd.view_39 (looseW hd.view_39 [Str.ofString "Whitespace"]) mean mg mb h₀) (hk : cs.kind = .function)
    (m1A : (xA, instObj 83 dxA) ∈ full) (m2A : (dxA, wsDict w.params k1A k2A k3A k4A k5A rawA trA nA tnA ntA tntA tuA siA) ∈ full) (m3A : (tuA, ({ cls := .type "tuple", data := .seq #[.ref tcA, .int bA tbA] } : Obj)) ∈ full) (m4A : (tcA, ({ cls := .type "tuple", data := .seq vsA.toArray } : Obj)) ∈ full) (m1B : (xB, instObj 83 dxB) ∈ full) (m2B : (dxB, wsDict w.params k1B k2B k3B k4B k5B rawB trB nB tnB ntB tntB tuB siB) ∈ full) (m3B : (tuB, ({ cls := .type "tuple", data := .seq #[.ref tcB, .int bB tbB] } : Obj)) ∈ full) (m4B : (tcB, ({ cls := .type "tuple", data := .seq vsB.toArray } : Obj)) ∈ full) (hIA : IntsAre vsA nsA) (hIB : IntsAre vsB nsB) (hdp : dp + 1 < recursionLimit) (hun : un + 128 < cLine)
    (ret : ∀ h' tk', Fr h₀ L h' m → News h₀ L h' full → Q (.bool (decide (nsA = nsB ∧ bA = bB))) { s with heap := h', toks := tk' }) :
    wpAny (model PySem.Challenge.rw_kn0037_01.row.prog w) (ktrTop dp un gd cn cs L a ccd cl outer) (call (.ref 59) [.ref xA, .ref xB]) Q E s :=
  equal_claim w mean mg mb full xA dxA tuA tcA k1A k2A k3A k4A k5A trA tnA tntA tbA rawA nA ntA bA siA vsA nsA xB dxB tuB tcB k1B k2B k3B k4B k5B trB tnB tntB tbB rawB nB ntB bB siB vsB nsB dp un gd cn cs a ccd cl outer A₀ base h₀ L m s Q E B F X (sub_full (sub_full N m1B m2B m3B m4B) (.tail _ (.tail _ (.tail _ (.tail _ m1A)))) (.tail _ (.tail _ (.tail _ (.tail _ m2A)))) (.tail _ (.tail _ (.tail _ (.tail _ m3A)))) (.tail _ (.tail _ (.tail _ (.tail _ m4A))))) T hk hIA hIB hdp hun fun _ h' tk' F' N' => ret h' tk' F' fun p hp => N' p (.tail _ (.tail _ (.tail _ (.tail _ (.tail _ (.tail _ (.tail _ (.tail _ hp))))))))
theorem wit_use {xA dxA tuA tcA : Addr} {k1A k2A k3A k4A k5A trA tnA tntA tbA : Tok} {rawA : Str} {nA ntA bA : Int} {siA : Bool} {vsA : List Value} {nsA : List Int} {xB dxB tuB tcB : Addr} {k1B k2B k3B k4B k5B trB tnB tntB tbB : Tok} {rawB : Str} {nB ntB bB : Int} {siB : Bool} {vsB : List Value} {nsB : List Int} (B : Below A₀ base outer h₀) (F : Fr h₀ L s.heap m) (X : (hd.heap_39 w.params).In h₀) (N : News h₀ L s.heap full) (T : Top hd.view_39 (looseW hd.view_39 [Str.ofString "Whitespace"]) mean mg mb h₀) (hk : cs.kind = .function)
    (m1A : (xA, instObj 83 dxA) ∈ full) (m2A : (dxA, wsDict w.params k1A k2A k3A k4A k5A rawA trA nA tnA ntA tntA tuA siA) ∈ full) (m3A : (tuA, ({ cls := .type "tuple", data := .seq #[.ref tcA, .int bA tbA] } : Obj)) ∈ full) (m4A : (tcA, ({ cls := .type "tuple", data := .seq vsA.toArray } : Obj)) ∈ full) (m1B : (xB, instObj 83 dxB) ∈ full) (m2B : (dxB, wsDict w.params k1B k2B k3B k4B k5B rawB trB nB tnB ntB tntB tuB siB) ∈ full) (m3B : (tuB, ({ cls := .type "tuple", data := .seq #[.ref tcB, .int bB tbB] } : Obj)) ∈ full) (m4B : (tcB, ({ cls := .type "tuple", data := .seq vsB.toArray } : Obj)) ∈ full) (hIA : IntsAre vsA nsA) (hbA : 0 ≤ bA) (hlA : (nsA.length : Int) + bA ≤ 100) (hIB : IntsAre vsB nsB) (hbB : 0 ≤ bB) (hlB : (nsB.length : Int) + bB ≤ 100) (hdp : dp + 2 < recursionLimit) (hun : un + 16 < cLine)
    (ret : ∀ (l : Addr) (tl : List (Addr × Obj)) (us : List Value) (c : Nat) (h' : Heap) (tk' : Nat), Fr h₀ L h' m → News h₀ L h' ((l, listOf us.toArray c) :: (full ++ tl)) → DatAll tl us (witK (indentOf nsA bA ntA) (indentOf nsB bB ntB) (max (max ((nsA.length : Int) - 1) bA) (max ((nsB.length : Int) - 1) bB) + 1).toNat) → Q (.ref l) { s with heap := h', toks := tk' }) :
    wpAny (model PySem.Challenge.rw_kn0037_01.row.prog w) (ktrTop dp un gd cn cs L a ccd cl outer) (call (.ref 66) [.ref xA, .ref xB]) Q E s :=
  wit_claim w mean mg mb full xA dxA tuA tcA k1A k2A k3A k4A k5A trA tnA tntA tbA rawA nA ntA bA siA vsA nsA xB dxB tuB tcB k1B k2B k3B k4B k5B trB tnB tntB tbB rawB nB ntB bB siB vsB nsB dp un gd cn cs a ccd cl outer A₀ base h₀ L m s Q E B F X (sub_full (sub_full N m1B m2B m3B m4B) (.tail _ (.tail _ (.tail _ (.tail _ m1A)))) (.tail _ (.tail _ (.tail _ (.tail _ m2A)))) (.tail _ (.tail _ (.tail _ (.tail _ m3A)))) (.tail _ (.tail _ (.tail _ (.tail _ m4A))))) T hk hIA hbA hlA hIB hbB hlB hdp hun fun l tl us c h' tk' F' N' D' => ret l tl us c h' tk' F' (fun p hp => N' p (by
      simp only [List.mem_cons, List.mem_append] at hp ⊢
      rcases hp with h | h | h <;> simp [h])) D'
end
end Mine
end

open PySem PySem.W PyProof.Rows
open Mine
local macro_rules | `(tactic| walk_at "inplaceOp Add str str") => `(tactic| ((refine SBL.iadd (hsz := ?hsz) ?_); (case hsz => (rw [PySem.sizeLine_eq]; have q9 := piece_len; refine Nat.le_trans (Nat.add_le_add_left (q9 _) _) ?_; omega)); intro _ _ _))
local macro_rules | `(tactic| walk_at "binaryOp Add str str") => `(tactic| ((refine SBL.add (hsz := ?hsz) ?_); (case hsz => (rw [PySem.sizeLine_eq]; have q9 := tail_len; refine Nat.le_trans (Nat.add_le_add_left (q9 _) _) ?_; omega)); intro _ _ _))
local macro_rules | `(tactic| walk_at "compareOp NotEq ref ref") => `(tactic| k_extra "my compareOp NotEq ref ref")
local macro_rules | `(tactic| walk_at "compareOp Eq ref ref") => `(tactic| k_extra "my compareOp Eq ref ref")
local macro_rules | `(tactic| walk_at "call ref") => `(tactic| k_extra "my call ref")
local macro_rules | `(tactic| walk_at "binaryOp Add ref ref") => `(tactic| k_extra "my binaryOp Add ref ref")
local macro_rules | `(tactic| walk_at "call builtin:str.split") => `(tactic| k_extra "my call builtin:str.split")
local macro_rules | `(tactic| walk_at "compareOp IsNot bool bool") => `(tactic| k_extra "my compareOp IsNot bool bool")
local macro_rules | `(tactic| walk_at "compareOp Is bool bool") => `(tactic| k_extra "my compareOp Is bool bool")
local macro_rules | `(tactic| walk_at "call type:tuple") => `(tactic| k_extra "my call type:tuple")
local macro_rules | `(tactic| walk_at "exec For Name BinOp cons nil") => `(tactic| k_extra "my exec For Name BinOp cons nil")
theorem PySem.Challenge.cw_kn0037_01_holds : PySem.Challenge.rw_kn0037_01.Holds := by
  k_with_none
  k_with "pyIter ref" => (k_of "x" => k_state (fun pre one two pick => Lead one ∧ Lead two ∧ one.length ≤ 2 * pre.length ∧ two.length ≤ 2 * pre.length ∧ 0 ≤ pick) "one" "two" "pick")
  k_with "state" => exact ⟨lead_nil, lead_nil, by decide, by decide, by decide⟩
  k_with "state" => exact state1 (by assumption) (by assumption) (by assumption) (by assumption) (by assumption)
  k_with "table" => skip
  k_with "pyIter str" =>
    rename Fr _ _ _ _ => lF'
    rename News _ _ _ _ => lN'
    with_unfolding_all refine' init_loop ?myh lF' lN' ?mysz ?myoff ?myk1 ?myk2 ?myk3 ?myk4 ?_ ?_
    case myh => k_dflt (exact rfl)
    case myk1 => (with_unfolding_all rfl)
    case myk2 => (with_unfolding_all rfl)
    case myk3 => (with_unfolding_all rfl)
    case myk4 => (with_unfolding_all rfl)
    case mysz => (refine' raw_size ?mya ?myb; (case mya => assumption); (case myb => (simp only [List.length_take]; omega)))
    all_goals ((clear lF' lN'))
    case myoff => exact kst_ltOf (by simp only [AllLt, and_true]; omega)
    all_goals first
      | (intro cl vs cn ns b n nt tb tn tnt i ch t u h tk own hi hc hoff hf hI hlt hb0 hb1 F' N'
         k_lt hlt
         have kMark := kstMark
         try simp only [List.cons_append, List.nil_append] at N'
         try simp only [List.map_cons, List.map_nil] at hoff
         try k_fold)
      | (intro cl vs cn ns b n nt tb tn tnt u h tk hf hI hlt hsc hb0 hb1 F' N'
         have hsaid := said_of hsc (by assumption)
         clear hf hsc
         k_lt hlt
         have kMark := kstMark
         try k_fold)
  k_with "my call type:tuple" =>
    with_reducible show wpAny _ _ (call (Value.type _) [Value.ref _]) _ _ _
    k_dflt (refine' kde_tupleOf (zs := _) ?myF ?myN ?myL ?myZ rfl ?_; (case myF => k_asm); (case myN => k_asm); (case myL => exact News.isList (by k_asm) (by k_mem)); (case myZ => (rw [List.size_toArray, IntsAre.length (by assumption)]; omega)))
    intro D' h' F' N' l1
    k_lt l1
    k_sweep
  k_with "TurnPost" => dsimp only [Mine.TurnPost]
  k_with "TurnEnd" =>
    rename News _ _ _ _ => nE'
    rename Fr _ _ _ _ => nF'
    try simp only [List.push_toArray] at nE'
    with_unfolding_all refine' turn_end (ps := initPs) ⟨_, _, _, _, _, _, _, _, _, _⟩ nF' nE' ?myhn ?myho ?myha ?myhk ?myhr ?myhf
    (case myhk => (dsimp only [initPs]; kst_all))
    (case myhn => (dsimp only [initLed]; kst_inAny))
    (case myho => (intro p hp; kst_mem))
    (case myha => (dsimp only [initLed, List.map]; first | assumption | exact own_off_new (by assumption) (by k_all)))
    (case myhr => (dsimp only [initPs]; kst_same))
    (case myhf => (first
      | exact facts_S (by assumption) (by assumption) (by assumption)
      | (refine' facts_T ?my1 ?my2 ?my3 ?my4 ?my5 ?my6; (case my1 => assumption); (case my2 => assumption); (case my3 => assumption); (case my4 => assumption); (case my5 => assumption); (case my6 => exact (kst_ltOf (by simp only [AllLt, and_true]; omega))))
      | (refine' facts_U ?my1 ?my2 ?my3 ?my4 ?my5 ?my6; (case my1 => assumption); (case my2 => assumption); (case my3 => assumption); (case my4 => omega); (case my5 => assumption); (case my6 => exact (kst_ltOf (by simp only [AllLt, and_true]; omega))))))
  k_with "TurnEnd" =>
    rename News _ _ _ _ => nE'
    rename Fr _ _ _ _ => nF'
    with_unfolding_all refine' turn_end (ps := runPs) ⟨_, _⟩ nF' nE' ?myhn ?myho ?myha ?myhk ?myhr ?myhf
    (case myhk => (dsimp only [runPs]; kst_all))
    (case myhn => ((try dsimp only); kst_inAny))
    (case myho => (intro p hp; kst_mem))
    (case myha => ((try dsimp only [List.map]); assumption))
    (case myhr => (dsimp only [runPs]; kst_same))
    (case myhf => (first | exact runs_succ (by assumption) (by assumption) | exact runs_if (by assumption) (by assumption)))
  k_with "TurnEnd" =>
    rename News _ _ _ _ => nE'
    rename Fr _ _ _ _ => nF'
    first
      | with_unfolding_all refine' lw_end_yes nF' ?myN ?myo ?myD ?myD2 ?myl ?mykk ?myl2 ?myk2 ?myr ?myh ?mya ?myb ?myc ?mye
        (case myN => (first | exact Or.inl nE' | exact Or.inr nE'))
        (case myo => assumption)
        (case myh => assumption)
        (case myD => k_all)
        (case myD2 => k_all)
        (case myl => (refine ltN ?_; omega))
        (case mykk => (refine ltN ?_; omega))
        (case myl2 => (refine ltN ?_; omega))
        (case myk2 => (refine ltN ?_; omega))
        (case myr => (intro z h1 h3; (simp only [List.contains_cons, List.contains_nil, Bool.or_false, Bool.or_eq_false_iff, beq_eq_false_iff_ne, ne_eq] at h3); (simp [h1, h3]; done)))
        (case mya => rfl)
        (case myb => rfl)
        (case myc => rfl)
        (case mye => assumption)
      | with_unfolding_all refine' lw_end_no nF' nE' ?myo ?myr ?myh ?mye
        (case myo => assumption)
        (case myh => assumption)
        (case myr => (intro z h1 h3; (simp only [List.contains_cons, List.contains_nil, Bool.or_false, Bool.or_eq_false_iff, beq_eq_false_iff_ne, ne_eq] at h3); (simp [h1, h3]; done)))
        (case mye => assumption)
  k_with "BrkEnd" =>
    rename News _ _ _ _ => nE'
    rename Fr _ _ _ _ => nF'
    try simp only [List.push_toArray] at nE'
    with_unfolding_all refine' brk_end ⟨_, _, _, _, _, _, _, _, _, _⟩ nF' nE' ?myhn ?myhk ?myhr ?myhf
    (case myhk => (dsimp only [initPs]; kst_all))
    (case myhn => (dsimp only [initLed]; kst_inAny))
    (case myhr => (dsimp only [initPs]; kst_same))
    (case myhf => (exact facts_B (by assumption) (by assumption) (by assumption) (by assumption)))
  k_with "my call builtin:str.split" =>
    k_dflt (refine' split_tab ?myF ?myN ?myz ?_; (case myF => assumption); (case myN => assumption); (case myz => (refine' lead_len ?mya ?myb; (case mya => assumption); (case myb => (simp only [List.length_take]; omega)))))
    intro D' vs' h' k' F' N' l1 hS'
    k_lt l1
    k_sweep
    try k_fold
  k_with "my binaryOp Add ref ref" =>
    k_dflt (refine' add_strs ?myF ?myN ?mya ?myb ?myx ?myy ?myz ?_; (case myF => assumption); (case myN => assumption); (case mya => exact News.isList (by k_asm) (by k_mem)); (case myb => exact News.isList (by k_asm) (by k_mem)); (case myx => assumption); (case myy => assumption); (case myz => (refine' split_count ?my1 ?my2; (case my1 => (refine' lead_len ?mya ?myb; (case mya => assumption); (case myb => (simp only [List.length_take]; omega)))); (case my2 => (refine' lead_len ?mya ?myb; (case mya => assumption); (case myb => (simp only [List.length_take]; omega)))))))
    intro D' us' h' F' N' l1 hS'
    k_lt l1
    k_sweep
    try k_fold
  k_with "my exec For Name BinOp cons nil" =>
    rename Fr _ _ _ _ => lF'
    with_unfolding_all refine' For_invVF lF' ?myk1 ?myk2 ?_
    case myk1 => exact rfl
    case myk2 => exact rfl
    try k_fold
  k_with "pyIter ref" => k_of "run" =>
    rename Fr _ _ _ _ => lF'
    rename News _ _ _ _ => lN'
    with_unfolding_all refine' runs_loop ?myh ?myl ?myw ?mysz lF' lN' ?myk1 ?_ ?_
    case myh => k_dflt (exact rfl)
    case myl => k_mem
    case myw => assumption
    case mysz => (refine' runs_short ?my1 ?my2; (case my1 => (refine' lead_len ?mya ?myb; (case mya => assumption); (case myb => (simp only [List.length_take]; omega)))); (case my2 => (refine' lead_len ?mya ?myb; (case mya => assumption); (case myb => (simp only [List.length_take]; omega)))))
    case myk1 => with_unfolding_all rfl
    all_goals clear lF' lN'
    all_goals first
      | (intro i r t a ta u h tk own hr hrl hoff hf F' N'
         have kMark := kstMark
         try simp only [List.cons_append, List.nil_append] at N'
         try simp only [List.map_cons, List.map_nil] at hoff
         try k_fold)
      | (intro t u h tk F' N'
         have kMark := kstMark
         try k_fold)
  k_with "pyIter ref" => k_of "size" =>
    rename Fr _ _ _ _ => lF'
    rename News _ _ _ _ => lN'
    rename IsRange _ _ _ _ _ _ _ _ => rgX
    with_unfolding_all refine' law_loop' [Str.ofString "i", Str.ofString "j"] ?myh rgX ?myk1 ?myk2 ?myb ?myy ?myz lF' lN' ?_ ?_
    case myh => k_dflt (exact rfl)
    case myk1 => with_unfolding_all rfl
    case myk2 => with_unfolding_all rfl
    case myb => rfl
    case myy => (refine' lead_len ?mya ?myb; (case mya => assumption); (case myb => (simp only [List.length_take]; omega)))
    case myz => (refine' lead_len ?mya ?myb; (case mya => assumption); (case myb => (simp only [List.length_take]; omega)))
    all_goals clear lF' lN'
    all_goals first
      | (intro i t tl vs cn us cm u h tk own hoff hf hto hl hm F' N'
         have kMark := kstMark
         try simp only [List.cons_append, List.nil_append] at N'
         try k_fold)
      | (intro tl vs cn us cm u h tk hD hB F' N'
         have kMark := kstMark
         try simp only [List.cons_append, List.nil_append] at N'
         try k_fold)
  k_with "my call ref" =>
    with_reducible show wpAny _ _ (call (Value.ref 94) _) _ _ _
    k_dflt (refine' column_use ?myB ?myF ?myX ?myN ?myT ?myK ?myt0 ?myd ?myu ?_; (case myB => assumption); (case myF => assumption); (case myX => assumption); (case myN => assumption); (case myT => assumption); (case myK => exact rfl); (case myt0 => omega); (case myd => (first | exact Nat.le_of_ble_eq_true rfl | ktr_room)); (case myu => (first | exact Nat.le_of_ble_eq_true rfl | ktr_units)))
    intro t9 h9 tk9 F9 N9
    try dsimp only
    try k_sweep
    try k_fold
  k_with "my call ref" =>
    with_reducible show wpAny _ _ (call (Value.ref 59) _) _ _ _
    k_dflt (refine' equal_use ?myB ?myF ?myX ?myN ?myT ?myK ?mym1A ?mym2A ?mym3A ?mym4A ?mym1B ?mym2B ?mym3B ?mym4B ?myIA ?myIB ?myd ?myu ?_; (case myB => assumption); (case myF => assumption); (case myX => assumption); (case myN => assumption); (case myT => assumption); (case myK => exact rfl); (case mym1A => k_mem); (case mym2A => k_mem); (case mym3A => k_mem); (case mym4A => k_mem); (case mym1B => k_mem); (case mym2B => k_mem); (case mym3B => k_mem); (case mym4B => k_mem); (case myIA => assumption); (case myIB => assumption); (case myd => (first | exact Nat.le_of_ble_eq_true rfl | ktr_room)); (case myu => (first | exact Nat.le_of_ble_eq_true rfl | ktr_units)))
    intro h9 tk9 F9 N9
    try dsimp only
    try k_sweep
    try k_fold
  k_with "my call ref" =>
    with_reducible show wpAny _ _ (call (Value.ref 66) _) _ _ _
    k_dflt (refine' wit_use ?myB ?myF ?myX ?myN ?myT ?myK ?mym1A ?mym2A ?mym3A ?mym4A ?mym1B ?mym2B ?mym3B ?mym4B ?myIA ?mybA ?mylA ?myIB ?mybB ?mylB ?myd ?myu ?_; (case myB => assumption); (case myF => assumption); (case myX => assumption); (case myN => assumption); (case myT => assumption); (case myK => exact rfl); (case mym1A => k_mem); (case mym2A => k_mem); (case mym3A => k_mem); (case mym4A => k_mem); (case mym1B => k_mem); (case mym2B => k_mem); (case mym3B => k_mem); (case mym4B => k_mem); (case myIA => assumption); (case mybA => assumption); (case mylA => assumption); (case myIB => assumption); (case mybB => assumption); (case mylB => assumption); (case myd => (first | exact Nat.le_of_ble_eq_true rfl | ktr_room)); (case myu => (first | exact Nat.le_of_ble_eq_true rfl | ktr_units)))
    intro l9 tl9 us9 c9 h9 tk9 F9 N9 D9
    have E9 := law_canon_in D9 (by assumption) (by assumption)
    clear D9
    try simp only [List.cons_append, List.nil_append, List.append_assoc] at N9
    try dsimp only
    try k_sweep
    try k_fold
  k_with "my compareOp NotEq ref ref" =>
    k_dflt (refine' ne_same ?myN ?mya ?myDa ?mysa ?myb ?myDb ?mysb ?mye ?myha ?myu ?_; (case myN => assumption); (case mya => k_mem); (case myDa => assumption); (case mysa => (intro p hp; simp only [List.mem_cons, List.mem_append, hp, true_or, or_true])); (case myb => k_mem); (case myDb => (first | assumption | exact DatAll.nil (news := []))); (case mysb => (first | exact List.forall_mem_nil _ | (intro p hp; simp only [List.mem_cons, List.mem_append, hp, true_or, or_true]))); (case mye => (first | rfl | exact law_self _)); (case myha => exact law_ok _ _); (case myu => (first | exact Nat.le_of_ble_eq_true rfl | ktr_units)))
  k_with "my compareOp Eq ref ref" =>
    k_dflt (refine' eq_nil ?myN ?mya ?myDa ?mysa ?myb ?myha ?myu ?_; (case myN => assumption); (case mya => k_mem); (case myDa => assumption); (case mysa => (intro p hp; simp only [List.mem_cons, List.mem_append, hp, true_or, or_true])); (case myb => k_mem); (case myha => exact law_ok _ _); (case myu => (first | exact Nat.le_of_ble_eq_true rfl | ktr_units)))
  k_with "my compareOp IsNot bool bool" =>
    k_dflt (refine' isnot_same ?mye ?_; (case mye => first | exact same_ab _ _ (by assumption) (by assumption) | exact same_ba _ _ (by assumption) (by assumption)))
  k_with "my compareOp Is bool bool" =>
    k_dflt (refine' is_same ?mye ?_; (case mye => first | exact same_ba _ _ (by assumption) (by assumption) | exact same_ab _ _ (by assumption) (by assumption)))
  exact hd (by
    k_go0
    all_goals try k_fold
    repeat' ((fail_if_success (with_reducible show PySem.W.GoodW _ _ _ _ _ _ _)); first | (k_unfold; (try dsimp only)) | (k_end; wrow_close) | walk1 | (dsimp only; walk1) | (leave1; walk_say "STEP leave1"; try dsimp only) | fail "no step")
    all_goals (try k_data)
    refine' goodW_bool ?myF ?myg (raisesW_false ?myn) ?myp
    (case myF => assumption)
    (case myg => assumption)
    (case myn => wrow_none_raised)
    (case myp => exact post_true _))
