import PyProof.Rows.All
import Wide.All
import OpenK.AllK
import Wide.FinOn
import Lean
import PySem.Challenge.RW_pa0020_01
set_option Elab.async false
set_option maxRecDepth 100000
set_option linter.unusedVariables false

-- part Top
namespace Mine
open PySem PySem.W PyProof.Rows
set_option maxHeartbeats 8000000 in
open_top hd for PySem.Challenge.rw_pa0020_01
end Mine

-- part Base
namespace Mine
open PySem PySem.W PyProof.Rows PySem.Spec PySem.Calls
theorem set_back_Base : True := by
  w_top off
  k_with_none
  trivial

def b64v (c : Int) : Int :=
  if 65 ≤ c ∧ c ≤ 90 then c - 65 else if 97 ≤ c ∧ c ≤ 122 then c - 71 else if 48 ≤ c ∧ c ≤ 57 then c + 4 else if c = 43 then 62 else if c = 47 then 63 else 64
theorem b64v_range (c : Int) : 0 ≤ b64v c ∧ b64v c ≤ 64 := by unfold b64v; repeat' split <;> omega

structure ASt where
  (vs : List Value) (ns : List Int) (c : Nat) (q : Int) (tq : Nat) (l : Int) (tl : Nat) (p : Int) (tp : Nat) (i : Int) (ti : Nat)

def aLed (a : Addr) (news : List (Addr × Obj)) (c : ASt) : List (Addr × Obj) := (a, listOf c.vs.toArray c.c) :: news
def aPs (c : ASt) : List (Str × Value) := [(Str.ofString "quad_pos", .int c.q c.tq), (Str.ofString "leftchar", .int c.l c.tl), (Str.ofString "pads", .int c.p c.tp), (Str.ofString "i", .int c.i c.ti)]
def aFacts (c : ASt) : Prop := IntsAre c.vs c.ns
abbrev AInv := List Int → List Int → Int → Int → Int → Int → Prop
def aP (P : AInv) (pre : List Int) (c : ASt) : Prop := P pre c.ns c.q c.l c.p c.i

section
variable {prog : Program} {w : World} {A : Around} {E : Value → Shared → Prop} {s : Shared} {env : Env} {h₀ : Heap} {x : Str} {body : List Stmt} {Q : Flow → Shared → Prop}

abbrev ATurn (prog : Program) (w : World) (A : Around) (E : Value → Shared → Prop) (s : Shared) (env : Env) (h₀ : Heap) (x : Str) (body : List Stmt) (Q : Flow → Shared → Prop)
    (ks : List Int) (m₀ : Str → Option Value) (l : Addr) (news : List (Addr × Obj)) (P : AInv) : Prop :=
  ∀ vs ns c q tq lc tl p tp i ti pre post n t (_u : Str → Option Value) h tk own, ks = pre ++ n :: post → 0 ≤ n → n < 256 → OwnOff own (l :: news.map (·.1)) → IntsAre vs ns → P pre ns q lc p i →
    Fr h₀ env.locals h (fun y => if y = x then some (.int n t) else if y = Str.ofString "quad_pos" then some (.int q tq) else if y = Str.ofString "leftchar" then some (.int lc tl) else if y = Str.ofString "pads" then some (.int p tp) else if y = Str.ofString "i" then some (.int i ti) else m₀ y) →
    News h₀ env.locals h ((l, listOf vs.toArray c) :: (news ++ own)) →
    wpAny (model prog w) A (execs body env) (InvPostN h₀ env.locals (KstS (aLed l news) aPs aFacts x [] m₀ (aP P) (pre ++ [n])) own (l :: news.map (·.1)) { s with heap := h, toks := tk } Q) E { s with heap := h, toks := tk }

theorem a2b_for {b : Array UInt8} {ks : List Int} {tb : Tok} {m₀ : Str → Option Value} {l : Addr} {news : List (Addr × Obj)} (P : AInv)
    (hb : KBw.bInts b = ks) (hh : A.handled = none) (F : Fr h₀ env.locals s.heap m₀) (N : News h₀ env.locals s.heap ((l, listOf #[] 0) :: news))
    (hk : ∃ tq tl tp ti, m₀ (Str.ofString "quad_pos") = some (.int 0 tq) ∧ m₀ (Str.ofString "leftchar") = some (.int 0 tl) ∧ m₀ (Str.ofString "pads") = some (.int 0 tp) ∧ m₀ (Str.ofString "i") = some (.int 0 ti))
    (hp : P [] [] 0 0 0 0)
    (turn : ATurn prog w A E s env h₀ x body Q ks m₀ l news P)
    (done : ∀ vs ns c q tq lc tl p tp i ti (u : Str → Option Value) h tk, IntsAre vs ns → P ks ns q lc p i →
      Fr h₀ env.locals h (fun y => if y = x then u y else if y = Str.ofString "quad_pos" then some (.int q tq) else if y = Str.ofString "leftchar" then some (.int lc tl) else if y = Str.ofString "pads" then some (.int p tp) else if y = Str.ofString "i" then some (.int i ti) else m₀ y) →
      News h₀ env.locals h ((l, listOf vs.toArray c) :: news) → Q .next { s with heap := h, toks := tk }) :
    wpAny (model prog w) A (pyIter (.bytes b tb)) (fun it s₂ => LoopAtV prog w A h₀ env x body Q E it s₂) E s := by
  obtain ⟨tq, tl, tp, ti, k1, k2, k3, k4⟩ := hk
  refine KStb.kst_bytes (σ := ASt) (aLed l news) aPs aFacts [] (aP P) ⟨[], [], 0, 0, tq, 0, tl, 0, tp, 0, ti⟩ hb rfl hh F N .nil ?_ hp ?_ ?_
  · intro p hp
    simp only [aPs, List.mem_cons, List.not_mem_nil, or_false] at hp
    rcases hp with rfl | rfl | rfl | rfl
    · exact k1
    · exact k2
    · exact k3
    · exact k4
  · intro c pre post n t u h tk own e1 _ e3 e4 e5 e6 e7 e8 e9
    exact turn c.vs c.ns c.c c.q c.tq c.l c.tl c.p c.tp c.i c.ti pre post n t u h tk own e1 e3 e4 e5 e6 e7 e8 e9
  · intro c u h tk _ e6 e7 e8 e9
    exact done c.vs c.ns c.c c.q c.tq c.l c.tl c.p c.tp c.i c.ti u h tk e6 e7 e8 e9

theorem a2b_end {m₀ : Str → Option Value} {l : Addr} {news : List (Addr × Obj)} {P : AInv} {L : Addr} {pre : List Int} {vs ns c q tq lc tl p tp i ti} {m' : Str → Option Value} {own news' : List (Addr × Obj)} {adr : List Addr} {s₁ : Shared} {h' : Heap} {tk : Nat}
    (F : Fr h₀ L h' m') (N : News h₀ L h' ((l, listOf vs c) :: news')) (hn : ∀ p ∈ news, p ∈ news') (ho : ∀ p ∈ own, p ∈ news') (ha : l :: news.map (·.1) = adr) (hf : IntsAre vs.toList ns)
    (k1 : m' (Str.ofString "quad_pos") = some (.int q tq)) (k2 : m' (Str.ofString "leftchar") = some (.int lc tl)) (k3 : m' (Str.ofString "pads") = some (.int p tp)) (k4 : m' (Str.ofString "i") = some (.int i ti))
    (hr : ∀ z, z ≠ x → z ≠ Str.ofString "quad_pos" → z ≠ Str.ofString "leftchar" → z ≠ Str.ofString "pads" → z ≠ Str.ofString "i" → m' z = m₀ z) (hp : P pre ns q lc p i) :
    InvEndN h₀ L (KstS (aLed l news) aPs aFacts x [] m₀ (aP P) pre) own adr s₁ { s₁ with heap := h', toks := tk } := by
  refine kst_end (σ := ASt) ⟨vs.toList, ns, c, q, tq, lc, tl, p, tp, i, ti⟩ F N ?_ ?_ ha hf ?_ ?_ hp
  · intro z hz
    rcases List.mem_cons.mp hz with rfl | hz
    · simp
    · exact List.mem_cons_of_mem _ (hn _ hz)
  · intro z hz
    exact List.mem_cons_of_mem _ (ho _ hz)
  · intro z hz
    simp only [aPs, List.mem_cons, List.not_mem_nil, or_false] at hz
    rcases hz with rfl | rfl | rfl | rfl
    · exact k1
    · exact k2
    · exact k3
    · exact k4
  · intro z h1 h2 _
    simp only [aPs, List.forall_mem_cons, ne_eq] at h2
    exact hr z h1 h2.1 h2.2.1 h2.2.2.1 h2.2.2.2.1
end
end Mine

-- part Pure1
namespace Mine
open PySem PySem.W PyProof.Rows PySem.Spec PySem.Calls
theorem set_back_Pure1 : True := by
  w_top off
  k_with_none
  trivial

theorem b64v_k1 {c : Int} (h : 65 ≤ c) (h' : c ≤ 90) : c - 65 = b64v c := by unfold b64v; rw [if_pos ⟨h, h'⟩]
theorem b64v_k2 {c : Int} (h : 97 ≤ c) (h' : c ≤ 122) : c - 71 = b64v c := by unfold b64v; rw [if_neg (by omega), if_pos ⟨h, h'⟩]
theorem b64v_k3 {c : Int} (h : 48 ≤ c) (h' : c ≤ 57) : c + 4 = b64v c := by unfold b64v; rw [if_neg (by omega), if_neg (by omega), if_pos ⟨h, h'⟩]
theorem b64v_k4 {c : Int} (h : c = 43) : 62 = b64v c := by rw [h]; rfl
theorem b64v_k5 {c : Int} (h : c = 47) : 63 = b64v c := by rw [h]; rfl
theorem b64v_k0 {c : Int} (h1 : ¬ (65 ≤ c ∧ c ≤ 90)) (h2 : ¬ (97 ≤ c ∧ c ≤ 122)) (h3 : ¬ (48 ≤ c ∧ c ≤ 57)) (h4 : c ≠ 43) (h5 : c ≠ 47) : 64 = b64v c := by
  unfold b64v; rw [if_neg h1, if_neg h2, if_neg h3, if_neg h4, if_neg h5]
abbrev St := Int × Int × Int × List Int
/-- what a sign of base 64 does to the state -/
def signStep (v : Int) (q l : Int) (out : List Int) : St :=
  if q = 0 then (1, v, 0, out) else if q = 1 then (2, v % 16, 0, out ++ [l * 4 + v / 16])
  else if q = 2 then (3, v % 4, 0, out ++ [l * 16 + v / 4]) else (0, 0, 0, out ++ [l * 64 + v])
def sStep (s : St) (c : Int) : Option St :=
  if c = 61 then (if 2 ≤ s.1 ∧ s.1 + (s.2.2.1 + 1) ≤ 4 then some (s.1, s.2.1, s.2.2.1 + 1, s.2.2.2) else none)
  else if 64 ≤ b64v c then none
  else if s.2.2.1 ≠ 0 then none
  else some (signStep (b64v c) s.1 s.2.1 s.2.2.2)
def lStep (s : St) (c : Int) : St :=
  if c = 61 then (s.1, s.2.1, s.2.2.1 + 1, s.2.2.2)
  else if 64 ≤ b64v c then s
  else signStep (b64v c) s.1 s.2.1 s.2.2.2
def st0 : St := (0, 0, 0, [])
def fin (s : St) : Option (List Int) :=
  if s.1 = 1 then none else if s.1 ≠ 0 ∧ s.1 + s.2.2.1 < 4 then none else some s.2.2.2
def runS (ks : List Int) : Option St := ks.foldlM sStep st0
def decS (ks : List Int) : Option (List Int) := (runS ks).bind fin
def runL (ks : List Int) : St := ks.foldl lStep st0
def decL (ks : List Int) : Option (List Int) := fin (runL ks)

/-- the bounds that the loop keeps -/
structure Bnd (pre ns : List Int) (q l p i : Int) : Prop where
  q0 : 0 ≤ q
  q3 : q ≤ 3
  l0 : 0 ≤ l
  l1 : l < 64
  l2 : q = 2 → l < 16
  l3 : q = 3 → l < 4
  p0 : 0 ≤ p
  p1 : p ≤ (pre.length : Int)
  i1 : i = (pre.length : Int)
  len : ns.length ≤ pre.length
  oct : KBa.In ns

theorem or_1 : ∀ l < 64, ∀ v < 64, Builtin.bitOr (((l : Nat) : Int) * 2 ^ Int.toNat 2) (((v : Nat) : Int).fdiv (2 ^ Int.toNat 4)) = (l : Int) * 4 + (v : Int) / 16 := by decide +kernel
theorem or_2 : ∀ l < 16, ∀ v < 64, Builtin.bitOr (((l : Nat) : Int) * 2 ^ Int.toNat 4) (((v : Nat) : Int).fdiv (2 ^ Int.toNat 2)) = (l : Int) * 16 + (v : Int) / 4 := by decide +kernel
theorem or_3 : ∀ l < 4, ∀ v < 64, Builtin.bitOr (((l : Nat) : Int) * 2 ^ Int.toNat 6) ((v : Nat) : Int) = (l : Int) * 64 + (v : Int) := by decide +kernel
theorem and_15 : ∀ v < 64, Builtin.bitAnd ((v : Nat) : Int) 15 = (v : Int) % 16 := by decide +kernel
theorem and_3 : ∀ v < 64, Builtin.bitAnd ((v : Nat) : Int) 3 = (v : Int) % 4 := by decide +kernel
theorem or1 {l v : Int} (h0 : 0 ≤ l) (h1 : l < 64) (h2 : 0 ≤ v) (h3 : v < 64) : Builtin.bitOr (l * 2 ^ Int.toNat 2) (v.fdiv (2 ^ Int.toNat 4)) = l * 4 + v / 16 := by
  have := or_1 l.toNat (by omega) v.toNat (by omega)
  rwa [Int.toNat_of_nonneg h0, Int.toNat_of_nonneg h2] at this
theorem or2 {l v : Int} (h0 : 0 ≤ l) (h1 : l < 16) (h2 : 0 ≤ v) (h3 : v < 64) : Builtin.bitOr (l * 2 ^ Int.toNat 4) (v.fdiv (2 ^ Int.toNat 2)) = l * 16 + v / 4 := by
  have := or_2 l.toNat (by omega) v.toNat (by omega)
  rwa [Int.toNat_of_nonneg h0, Int.toNat_of_nonneg h2] at this
theorem or3 {l v : Int} (h0 : 0 ≤ l) (h1 : l < 4) (h2 : 0 ≤ v) (h3 : v < 64) : Builtin.bitOr (l * 2 ^ Int.toNat 6) v = l * 64 + v := by
  have := or_3 l.toNat (by omega) v.toNat (by omega)
  rwa [Int.toNat_of_nonneg h0, Int.toNat_of_nonneg h2] at this
theorem and15 {v : Int} (h2 : 0 ≤ v) (h3 : v < 64) : Builtin.bitAnd v 15 = v % 16 := by
  have := and_15 v.toNat (by omega)
  rwa [Int.toNat_of_nonneg h2] at this
theorem and3 {v : Int} (h2 : 0 ≤ v) (h3 : v < 64) : Builtin.bitAnd v 3 = v % 4 := by
  have := and_3 v.toNat (by omega)
  rwa [Int.toNat_of_nonneg h2] at this

theorem in_snoc {ns : List Int} {x : Int} (h : KBa.In ns) (h0 : 0 ≤ x) (h1 : x < 256) : KBa.In (ns ++ [x]) := by
  intro n hn
  rcases List.mem_append.mp hn with hn | hn
  · exact h n hn
  · rw [List.mem_singleton.mp hn]; exact ⟨h0, h1⟩

/-- one more sign of base 64 -/
theorem Bnd.sign {pre ns : List Int} {q l p i n : Int} (B : Bnd pre ns q l p i) {v : Int} (h0 : 0 ≤ v) (h1 : v < 64) :
    let s := signStep v q l ns
    Bnd (pre ++ [n]) s.2.2.2 s.1 s.2.1 s.2.2.1 (i + 1) := by
  obtain ⟨q0, q3, l0, l1, l2, l3, p0, p1, i1, len, oct⟩ := B
  unfold signStep
  by_cases e0 : q = 0
  · simp only [if_pos e0]
    exact ⟨by omega, by omega, by omega, by omega, by omega, by omega, by omega, by omega, by simp; omega, by simp; omega, oct⟩
  by_cases e1 : q = 1
  · simp only [if_neg e0, if_pos e1]
    exact ⟨by omega, by omega, by omega, by omega, by omega, by omega, by omega, by omega, by simp; omega, by simp; omega, in_snoc oct (by omega) (by omega)⟩
  by_cases e2 : q = 2
  · simp only [if_neg e0, if_neg e1, if_pos e2]
    have := l2 e2
    exact ⟨by omega, by omega, by omega, by omega, by omega, by omega, by omega, by omega, by simp; omega, by simp; omega, in_snoc oct (by omega) (by omega)⟩
  · simp only [if_neg e0, if_neg e1, if_neg e2]
    have := l3 (by omega)
    exact ⟨by omega, by omega, by omega, by omega, by omega, by omega, by omega, by omega, by simp; omega, by simp; omega, in_snoc oct (by omega) (by omega)⟩
theorem Bnd.pad {pre ns : List Int} {q l p i n : Int} (B : Bnd pre ns q l p i) : Bnd (pre ++ [n]) ns q l (p + 1) (i + 1) := by
  obtain ⟨q0, q3, l0, l1, l2, l3, p0, p1, i1, len, oct⟩ := B
  exact ⟨q0, q3, l0, l1, l2, l3, by omega, by simp; omega, by simp; omega, by simp; omega, oct⟩
theorem Bnd.skip {pre ns : List Int} {q l p i n : Int} (B : Bnd pre ns q l p i) : Bnd (pre ++ [n]) ns q l p (i + 1) := by
  obtain ⟨q0, q3, l0, l1, l2, l3, p0, p1, i1, len, oct⟩ := B
  exact ⟨q0, q3, l0, l1, l2, l3, by omega, by simp; omega, by simp; omega, by simp; omega, oct⟩

/-- the strict loop's invariant -/
def SP : AInv := fun pre ns q l p i => runS pre = some (q, l, p, ns) ∧ Bnd pre ns q l p i
/-- the loose loop's invariant -/
def LP : AInv := fun pre ns q l p i => runL pre = (q, l, p, ns) ∧ Bnd pre ns q l p i
theorem SP.start : SP [] [] 0 0 0 0 := ⟨rfl, by constructor <;> simp [KBa.In]⟩
theorem LP.start : LP [] [] 0 0 0 0 := ⟨rfl, by constructor <;> simp [KBa.In]⟩

theorem runS_snoc {pre : List Int} {n : Int} {s : St} (h : runS pre = some s) : runS (pre ++ [n]) = sStep s n := by
  unfold runS at *
  rw [List.foldlM_append, h]
  simp
theorem runL_snoc {pre : List Int} {n : Int} {s : St} (h : runL pre = s) : runL (pre ++ [n]) = lStep s n := by
  unfold runL at *
  rw [List.foldl_append, h]
  simp
theorem runS_none {pre post : List Int} {n : Int} {s : St} (h : runS pre = some s) (hn : sStep s n = none) : decS (pre ++ n :: post) = none := by
  unfold decS runS at *
  rw [List.foldlM_append, h]
  simp [hn]

section
variable {pre post ns : List Int} {q l p i n : Int}
theorem SP.pad (h : SP pre ns q l p i) (hn : n = 61) (h2 : 2 ≤ q) (h4 : q + (p + 1) ≤ 4) : SP (pre ++ [n]) ns q l (p + 1) (i + 1) := by
  refine ⟨?_, h.2.pad⟩
  rw [runS_snoc h.1]
  simp [sStep, hn, h2, h4]
theorem SP.sign (h : SP pre ns q l p i) (hn : n ≠ 61) (hv : ¬ 64 ≤ b64v n) (hp : p = 0) : 
    SP (pre ++ [n]) (signStep (b64v n) q l ns).2.2.2 (signStep (b64v n) q l ns).1 (signStep (b64v n) q l ns).2.1 (signStep (b64v n) q l ns).2.2.1 (i + 1) := by
  refine ⟨?_, h.2.sign (b64v_range n).1 (by omega)⟩
  rw [runS_snoc h.1]
  simp only [sStep, hn, if_false, hv, hp, ne_eq, not_true]
theorem LP.pad (h : LP pre ns q l p i) (hn : n = 61) : LP (pre ++ [n]) ns q l (p + 1) (i + 1) := by
  refine ⟨?_, h.2.pad⟩
  rw [runL_snoc h.1]
  simp [lStep, hn]
theorem LP.skip (h : LP pre ns q l p i) (hn : n ≠ 61) (hv : 64 ≤ b64v n) : LP (pre ++ [n]) ns q l p (i + 1) := by
  refine ⟨?_, h.2.skip⟩
  rw [runL_snoc h.1]
  simp [lStep, hn, hv]
theorem LP.sign (h : LP pre ns q l p i) (hn : n ≠ 61) (hv : ¬ 64 ≤ b64v n) : 
    LP (pre ++ [n]) (signStep (b64v n) q l ns).2.2.2 (signStep (b64v n) q l ns).1 (signStep (b64v n) q l ns).2.1 (signStep (b64v n) q l ns).2.2.1 (i + 1) := by
  refine ⟨?_, h.2.sign (b64v_range n).1 (by omega)⟩
  rw [runL_snoc h.1]
  simp only [lStep, hn, if_false, hv]

/-- the four ways of a sign, as the walk tells them -/
theorem sign0 {P : AInv} (h : P (pre ++ [n]) (signStep (b64v n) q l ns).2.2.2 (signStep (b64v n) q l ns).1 (signStep (b64v n) q l ns).2.1 (signStep (b64v n) q l ns).2.2.1 (i + 1)) (e : q = 0) : P (pre ++ [n]) ns 1 (b64v n) 0 (i + 1) := by
  simpa [signStep, e] using h
theorem sign1 {P : AInv} (h : P (pre ++ [n]) (signStep (b64v n) q l ns).2.2.2 (signStep (b64v n) q l ns).1 (signStep (b64v n) q l ns).2.1 (signStep (b64v n) q l ns).2.2.1 (i + 1)) (B : Bnd pre ns q l p i) (hv : ¬ 64 ≤ b64v n) (e : q = 1) :
    P (pre ++ [n]) (ns ++ [Builtin.bitOr (l * 2 ^ Int.toNat 2) ((b64v n).fdiv (2 ^ Int.toNat 4))]) 2 (Builtin.bitAnd (b64v n) 15) 0 (i + 1) := by
  rw [or1 B.l0 B.l1 (b64v_range n).1 (by omega), and15 (b64v_range n).1 (by omega)]
  simpa [signStep, e] using h
theorem sign2 {P : AInv} (h : P (pre ++ [n]) (signStep (b64v n) q l ns).2.2.2 (signStep (b64v n) q l ns).1 (signStep (b64v n) q l ns).2.1 (signStep (b64v n) q l ns).2.2.1 (i + 1)) (B : Bnd pre ns q l p i) (hv : ¬ 64 ≤ b64v n) (e : q = 2) :
    P (pre ++ [n]) (ns ++ [Builtin.bitOr (l * 2 ^ Int.toNat 4) ((b64v n).fdiv (2 ^ Int.toNat 2))]) 3 (Builtin.bitAnd (b64v n) 3) 0 (i + 1) := by
  rw [or2 B.l0 (B.l2 e) (b64v_range n).1 (by omega), and3 (b64v_range n).1 (by omega)]
  simpa [signStep, e] using h
theorem sign3 {P : AInv} (h : P (pre ++ [n]) (signStep (b64v n) q l ns).2.2.2 (signStep (b64v n) q l ns).1 (signStep (b64v n) q l ns).2.1 (signStep (b64v n) q l ns).2.2.1 (i + 1)) (B : Bnd pre ns q l p i) (hv : ¬ 64 ≤ b64v n) (e0 : q ≠ 0) (e1 : q ≠ 1) (e2 : q ≠ 2) :
    P (pre ++ [n]) (ns ++ [Builtin.bitOr (l * 2 ^ Int.toNat 6) (b64v n)]) 0 0 0 (i + 1) := by
  have e : q = 3 := by have := B.q0; have := B.q3; omega
  rw [or3 B.l0 (B.l3 e) (b64v_range n).1 (by omega)]
  simpa [signStep, e0, e1, e2] using h

theorem SP.badPad (h : SP pre ns q l p i) (hn : n = 61) (hb : ¬ (2 ≤ q ∧ q + (p + 1) ≤ 4)) : decS (pre ++ n :: post) = none :=
  runS_none h.1 (by simp only [sStep, hn, if_true, hb, if_false])
theorem SP.badSign (h : SP pre ns q l p i) (hn : n ≠ 61) (hv : 64 ≤ b64v n) : decS (pre ++ n :: post) = none :=
  runS_none h.1 (by simp only [sStep, hn, if_false, hv, if_true])
theorem SP.badBehind (h : SP pre ns q l p i) (hn : n ≠ 61) (hv : ¬ 64 ≤ b64v n) (hp : p ≠ 0) : decS (pre ++ n :: post) = none :=
  runS_none h.1 (by simp only [sStep, hn, if_false, hv, ne_eq, hp, not_false_eq_true, if_true])
theorem SP.bad1 {ks : List Int} (h : SP ks ns q l p i) (e : q = 1) : decS ks = none := by
  unfold decS; rw [h.1]; simp [fin, e]
theorem SP.bad2 {ks : List Int} (h : SP ks ns q l p i) (e : q ≠ 0) (e' : q + p < 4) : decS ks = none := by
  unfold decS; rw [h.1]; simp only [Option.bind_some, fin]; split
  · rfl
  · rw [if_pos ⟨e, e'⟩]
theorem SP.good {ks : List Int} (h : SP ks ns q l p i) (e1 : q ≠ 1) (e : ¬ (q ≠ 0 ∧ q + p < 4)) : decS ks = some ns := by
  unfold decS; rw [h.1]; simp only [Option.bind_some, fin]; rw [if_neg e1, if_neg e]
theorem LP.bad1 {ks : List Int} (h : LP ks ns q l p i) (e : q = 1) : decL ks = none := by
  unfold decL; rw [h.1]; simp [fin, e]
theorem LP.bad2 {ks : List Int} (h : LP ks ns q l p i) (e : q ≠ 0) (e' : q + p < 4) : decL ks = none := by
  unfold decL; rw [h.1]; simp only [fin]; split
  · rfl
  · rw [if_pos ⟨e, e'⟩]
theorem LP.good {ks : List Int} (h : LP ks ns q l p i) (e1 : q ≠ 1) (e : ¬ (q ≠ 0 ∧ q + p < 4)) : decL ks = some ns := by
  unfold decL; rw [h.1]; simp only [fin]; rw [if_neg e1, if_neg e]
end
end Mine

-- part Mild
namespace Mine
open PySem PySem.W PyProof.Rows PySem.Spec PySem.Calls
theorem set_back_Mild : True := by
  w_top off
  k_with_none
  trivial
/-- an exception that bears no context -/
def Bare (o : Obj) : Prop := ∃ vs, o.data = .fields vs ∧ vs[2]? = some .none
def BareAt (e : Addr) (h : Heap) : Prop := ∃ o, h.get? e = some o ∧ Bare o

/-- a tree that calls nothing and whose stores leave a bare exception bare -/
def Mild {α : Type} : Sem α → Prop
  | .pure _ => True
  | .raise _ => True
  | .unsupported _ => True
  | .finish _ => True
  | .rule _ k => Mild (k ())
  | .at _ k => Mild (k ())
  | .load _ _ k => ∀ o, Mild (k o)
  | .update _ _ f k => (∀ o, Bare o → Bare (f o)) ∧ Mild (k ())
  | .alloc _ k => ∀ a, Mild (k a)
  | .loadIfAlive _ k => ∀ x, Mild (k x)
  | .point _ k => Mild (k ())
  | .register _ _ => True
  | .fresh k => ∀ t, Mild (k t)
  | .ask k => ∀ x, Mild (k x)
  | .choose _ _ k => ∀ x, Mild (k x)
  | .os _ _ k => ∀ x, Mild (k x)
  | .call .. => False
  | .handled _ k => ∀ x, Mild (k x)
  | .newGen _ k => ∀ x, Mild (k x)
  | .genState _ k => ∀ x, Mild (k x)
  | .resume .. => False
  | .yield .. => True
  | .stack k => ∀ x, Mild (k x)
  | .fork .. => True
  | .thread k => ∀ x, Mild (k x)
  | .await .. => True

theorem Bare.alive {o : Obj} (h : Bare o) : o.isFreed = false := by
  obtain ⟨vs, hd, _⟩ := h
  exact Obj.isFreed_of_fields hd
theorem BareAt.update {e a : Addr} {h : Heap} {f : Obj → Obj} (x : BareAt e h) (hf : ∀ o, Bare o → Bare (f o)) : BareAt e (h.update a f) := by
  obtain ⟨o, ho, hb⟩ := x
  by_cases q : a = e
  · subst q
    exact ⟨_, Heap.get?_update_self f ho (hf o hb).alive, hf o hb⟩
  · exact ⟨o, (Heap.get?_update_other _ _ q).trans ho, hb⟩
theorem BareAt.push {e : Addr} {h : Heap} (x : BareAt e h) (ob : Obj) : BareAt e (h.push ob) := by
  obtain ⟨o, ho, hb⟩ := x
  exact ⟨o, Heap.get?_push_of_some _ ho, hb⟩

theorem mild_bind {α β : Type} : ∀ (t : Sem α) (f : α → Sem β), Mild t → (∀ a, Mild (f a)) → Mild (t.bind f) := by
  intro t
  induction t with
  | pure a => intro f _ hf; exact hf a
  | raise _ => intro f _ _; trivial
  | unsupported _ => intro f _ _; trivial
  | finish _ => intro f _ _; trivial
  | rule _ k ih => intro f h hf; exact ih () f h hf
  | «at» _ k ih => intro f h hf; exact ih () f h hf
  | load _ _ k ih => intro f h hf; exact fun o => ih o f (h o) hf
  | update _ _ g k ih => intro f h hf; exact ⟨h.1, ih () f h.2 hf⟩
  | alloc _ k ih => intro f h hf; exact fun o => ih o f (h o) hf
  | loadIfAlive _ k ih => intro f h hf; exact fun o => ih o f (h o) hf
  | point _ k ih => intro f h hf; exact ih () f h hf
  | register _ _ => intro f _ _; trivial
  | fresh k ih => intro f h hf; exact fun o => ih o f (h o) hf
  | ask k ih => intro f h hf; exact fun o => ih o f (h o) hf
  | choose _ _ k ih => intro f h hf; exact fun o => ih o f (h o) hf
  | os _ _ k ih => intro f h hf; exact fun o => ih o f (h o) hf
  | call _ _ _ _ k ih => intro f h hf; exact h.elim
  | handled _ k ih => intro f h hf; exact fun o => ih o f (h o) hf
  | newGen _ k ih => intro f h hf; exact fun o => ih o f (h o) hf
  | genState _ k ih => intro f h hf; exact fun o => ih o f (h o) hf
  | resume _ _ _ k ih => intro f h hf; exact h.elim
  | yield _ _ _ _ => intro f _ _; trivial
  | stack k ih => intro f h hf; exact fun o => ih o f (h o) hf
  | fork _ _ => intro f _ _; trivial
  | thread k ih => intro f h hf; exact fun o => ih o f (h o) hf
  | await _ _ _ _ _ => intro f _ _; trivial

theorem wp_mild {α : Type} {M : Model} {Γ : PySem.Ctx} {e : Addr} (t : Sem α) : ∀ (Q : α → Pos → Shared → Prop) (E : Value → Pos → Shared → Prop) (p : Pos) (s : Shared), Mild t → BareAt e s.heap →
    Sem.wp M Γ t (fun a p' s' => BareAt e s'.heap → Q a p' s') (fun x p' s' => BareAt e s'.heap → E x p' s') p s → Sem.wp M Γ t Q E p s := by
  induction t with
  | pure a => intro Q E p s _ hb h; exact h hb
  | raise x => intro Q E p s _ hb h; exact h hb
  | unsupported _ => intro Q E p s _ _ h; exact h
  | finish _ => intro Q E p s _ _ h; exact h
  | rule _ k ih => intro Q E p s hm hb h; exact ih () Q E p s hm hb h
  | «at» p' k ih => intro Q E p s hm hb h; exact ih () Q E p' s hm hb h
  | load a _ k ih => intro Q E p s hm hb h; obtain ⟨o, ho, h⟩ := h; exact ⟨o, ho, ih o Q E p s (hm o) hb h⟩
  | update a _ f k ih => intro Q E p s hm hb h; exact ⟨h.1, ih () Q E p _ hm.2 (hb.update hm.1) h.2⟩
  | alloc o k ih => intro Q E p s hm hb h; exact ih _ Q E p _ (hm _) (hb.push o) h
  | loadIfAlive a k ih => intro Q E p s hm hb h; exact ih _ Q E p s (hm _) hb h
  | point _ k ih => intro Q E p s hm hb h; exact ih () Q E p s hm hb h
  | register _ _ => intro Q E p s _ _ h; exact h
  | fresh k ih => intro Q E p s hm hb h; exact ih _ Q E p _ (hm _) hb h
  | ask k ih => intro Q E p s hm hb h; exact ih _ Q E p s (hm _) hb h
  | choose _ n k ih => intro Q E p s hm hb h; exact ⟨h.1, ih _ Q E p _ (hm _) hb h.2⟩
  | os _ _ k ih => intro Q E p s hm hb h; exact ih _ Q E p _ (hm _) hb h
  | call _ _ _ _ k ih => intro Q E p s hm hb h; exact hm.elim
  | handled o k ih => intro Q E p s hm hb h; exact ih _ Q E p s (hm _) hb h
  | newGen _ k ih => intro Q E p s hm hb h; exact ih _ Q E p _ (hm _) hb h
  | genState _ k ih => intro Q E p s hm hb h; obtain ⟨st, hst, h⟩ := h; exact ⟨st, hst, ih _ Q E p s (hm _) hb h⟩
  | resume _ _ _ k ih => intro Q E p s hm hb h; exact hm.elim
  | yield _ _ _ _ => intro Q E p s _ _ h; exact h
  | stack k ih => intro Q E p s hm hb h; exact ih _ Q E p s (hm _) hb h
  | fork _ _ => intro Q E p s _ _ h; exact h
  | thread k ih => intro Q E p s hm hb h; exact ih _ Q E p s (hm _) hb h
  | await _ _ _ _ _ => intro Q E p s _ _ h; exact h
theorem wpAny_mild {α : Type} {M : Model} {A : Around} {E : Value → Shared → Prop} {s : Shared} {e : Addr} {t : Sem α} {Q : α → Shared → Prop} (hm : Mild t) (hb : BareAt e s.heap)
    (h : wpAny M A t (fun a s' => BareAt e s'.heap → Q a s') (fun x s' => BareAt e s'.heap → E x s') s) : wpAny M A t Q E s :=
  fun Γ p hΓ => wp_mild t _ _ p s hm hb (h Γ p hΓ)

section
variable {α β : Type}
theorem Mild.bind {t : Sem α} {f : α → Sem β} (h : Mild t) (hf : ∀ a, Mild (f a)) : Mild (t >>= f) := mild_bind t f h hf
theorem Mild.ite {c : Prop} [Decidable c] {a b : Sem α} (h1 : Mild a) (h2 : Mild b) : Mild (if c then a else b) := by split <;> assumption
theorem mild_pure (a : α) : Mild (pure a : Sem α) := trivial
theorem mild_uns (w : String) : Mild (unsupported w : Sem α) := trivial
end
theorem mild_load (a : Addr) : Mild (load a) := fun _ => trivial
theorem mild_update (a : Addr) (f : Obj → Obj) (h : ∀ o, Bare o → Bare (f o)) : Mild (update a f) := ⟨h, trivial⟩
theorem mild_stack : Mild stack := fun _ => trivial
theorem bare_set {i : Nat} {v : Value} (hi : i ≠ 2) (o : Obj) (h : Bare o) : Bare (o.mapFields (·.setIfInBounds i v)) := by
  obtain ⟨vs, hd, h2⟩ := h
  exact ⟨_, Obj.data_mapFields hd _, by rw [Array.getElem?_setIfInBounds_ne hi]; exact h2⟩
theorem mild_fieldsOf (v : Value) : Mild (fieldsOf v) := by
  unfold fieldsOf
  split
  · refine (mild_load _).bind fun o => ?_
    split
    · exact mild_pure _
    · exact mild_uns _
  · exact mild_uns _
theorem mild_field (v : Value) (i : Nat) : Mild (field v i) := by
  unfold field
  refine (mild_fieldsOf v).bind fun vs => ?_
  split
  · exact mild_pure _
  · exact mild_uns _
theorem mild_updateField (a : Addr) (i : Nat) (v : Value) (hi : i ≠ 2) : Mild (updateField a i v) := by
  unfold updateField
  refine (mild_load _).bind fun o => ?_
  split
  · exact Mild.ite (mild_update _ _ fun o => bare_set hi o) (mild_uns _)
  · exact mild_uns _
theorem mild_setField (v : Value) (i : Nat) (x : Value) (hi : i ≠ 2) : Mild (setField v i x) := by
  unfold setField
  split
  · exact mild_updateField _ _ _ hi
  · exact mild_uns _
theorem mild_setFlight (e : Value) (f : Option Addr) : Mild (setFlight e f) := by
  unfold setFlight
  refine (mild_field _ _).bind fun tb => ?_
  exact Mild.ite (mild_setField _ _ _ (by decide)) (mild_pure _)
theorem mild_frameEnvs : Mild frameEnvs := by
  unfold frameEnvs
  exact mild_stack.bind fun _ => mild_pure _
theorem mild_under : Mild underTheClaimsCaller := by
  unfold underTheClaimsCaller
  exact mild_stack.bind fun _ => mild_pure _
theorem mild_behind (env : Env) (o : List Env) : Mild (behindIsImport env o) := by
  unfold behindIsImport
  refine Mild.ite (mild_pure _) (Mild.ite (mild_pure _) ((mild_field _ _).bind fun _ => mild_pure _))
theorem mild_kept (env : Env) (i : Bool) (o : List Env) : Mild (keptBack env i o) := by
  unfold keptBack
  split
  · exact Mild.ite (mild_pure _) (mild_under.bind fun _ => mild_pure _)
  · exact mild_pure _
theorem mild_ready : ∀ l : List Env, Mild (readyFrames l)
  | [] => mild_pure _
  | env :: outer => by
    unfold readyFrames
    split
    · refine (mild_load _).bind fun o => Mild.ite (mild_pure _) ?_
      refine (mild_behind _ _).bind fun i => (mild_kept _ _ _).bind fun b => ?_
      refine Mild.bind (mild_update _ _ ?_) fun _ => mild_ready outer
      exact fun o h => h
    · exact mild_uns _
theorem mild_frameObject (l : List Env) : Mild (frameObject l) := by
  unfold frameObject
  split
  · exact mild_pure _
  · exact (mild_ready _).bind fun _ => mild_pure _
theorem mild_frameOf (env : Env) : Mild (PySem.frameOf env) := by
  unfold PySem.frameOf
  refine mild_frameEnvs.bind fun l => (mild_frameObject _).bind fun x => ?_
  split
  · exact mild_pure _
  · exact mild_uns _
theorem mild_place (f : Addr) (b : Bool) : Mild (entryPlaceOf f b) := by
  unfold entryPlaceOf
  refine mild_stack.bind fun _ => ?_
  split
  · exact mild_pure _
  · exact mild_pure _
theorem mild_newFields (ty : String) (vs : List Value) : Mild (newFields ty vs) := by
  unfold newFields newObj
  dsimp only
  refine Mild.ite (mild_uns _) ?_
  exact fun _ => trivial
theorem mild_note (e : Value) (env : Env) : Mild (noteFrame e env) := by
  unfold noteFrame
  split
  · rename_i f _
    refine (mild_field _ _).bind fun head => ?_
    refine Mild.ite ((mild_field _ _).bind fun x => Mild.ite (mild_pure _) ((mild_setField _ _ _ (by decide)).bind fun _ => ?_)) ?_
    · exact (mild_frameOf _).bind fun _ => (mild_place _ _).bind fun _ => (mild_newFields _ _).bind fun _ => mild_setField _ _ _ (by decide)
    · exact (mild_frameOf _).bind fun _ => (mild_place _ _).bind fun _ => (mild_newFields _ _).bind fun _ => mild_setField _ _ _ (by decide)
  · exact mild_uns _
theorem mild_leaving (e : Value) (env : Env) : Mild (leaving env e) := by
  unfold leaving
  exact (mild_note _ _).bind fun _ => mild_setFlight _ _
section
variable {M : Model} {A : Around} {E : Value → Shared → Prop} {s' : Shared} {base g g₂ h : Heap} {outer : List Env} {L a e t : Addr} {m : Str → Option Value} {name : Str} {scope : Scope} {cd : Value} {Q : Unit → Shared → Prop} {news : List (Addr × Obj)}
/-- a made exception leaves its frame, and bears no context -/
theorem leave_raiseC {cls : Value} {vs : List Value} (K : Below A base outer g) (hx : Heap.MadeExcOf h s'.heap e cls vs) (F : Fr g L h m) (N : News g L h news)
    (hQ : ∀ h' t, RaisedK base outer e cls t vs news h' → g.UpToSlots h' → BareAt e h' → Q () { s' with heap := h' }) (hk : scope.kind = .function := by rfl) :
    wpAny M (A.deeper (envOf name scope L a cd)) (leaving (envOf name scope L a cd) (.ref e)) Q E s' := by
  obtain ⟨t, he, _⟩ := id hx.there
  exact wpAny_mild (mild_leaving _ _) ⟨_, he, _, rfl, rfl⟩ (leave_raiseK K hx F N (fun h' t R U hb => hQ h' t R U hb) hk)
theorem leave_onC {cls : Value} {vs : List Value} (K : Below A base outer g) (F : Fr g L g₂ m) (R : RaisedK base (envOf name scope L a cd :: outer) e cls t vs news s'.heap) (hsm : g₂.UpToSlots s'.heap) (hb : BareAt e s'.heap)
    (hQ : ∀ h', RaisedK base outer e cls t vs news h' → g.UpToSlots h' → BareAt e h' → Q () { s' with heap := h' }) :
    wpAny M (A.deeper (envOf name scope L a cd)) (leaving (envOf name scope L a cd) (.ref e)) Q E s' :=
  wpAny_mild (mild_leaving _ _) hb (leave_onK K F R hsm fun h' R U hb => hQ h' R U hb)
end
end Mine

-- part UnpackH
namespace Mine
open PySem PySem.W PyProof.Rows PySem.Spec PySem.Calls
theorem set_back_UnpackH : True := by
  w_top off
  k_with_none
  trivial
theorem entry_unchain : entryFor table "proto.unchain" = some Builtin.«proto.unchain» := entryFor_of_tree (by kernel_rfl)
theorem plain_unchain : plainId "proto.unchain" = true := by decide +kernel
section
variable {prog : Program} {w : World} {A : Around} {E : Value → Shared → Prop} {s : Shared}
theorem run_unchain {v : Value} {e : Addr} {Q : Value → Shared → Prop} (hb : BareAt e s.heap) (h : Q .none s) : wpAny (model prog w) A (runValue (.builtin "proto.unchain" ⟨[v, .ref e, .ref e, .bool false], []⟩)) Q E s := by
  obtain ⟨oe, he, vs, hd, h2⟩ := hb
  refine wpAny_runValue (codeAny_builtin entry_unchain ?_)
  show wpAny _ _ (field (.ref e) 2 >>= _) _ _ s
  refine wpAny_bind (wpAny_field he hd h2 ?_)
  rw [if_pos (by decide)]
  show wpAny _ _ (pure (Fin.done (.ret .none))) _ _ s
  exact wpAny_pure h
theorem raise_bare {α : Type} {a e : Addr} {oa : Obj} {vs : Array Value} {Q : α → Shared → Prop} (hh : A.handled = some (.ref e)) (hb : BareAt e s.heap) (hne : e ≠ a) (ha : s.heap.get? a = some oa) (hd : oa.data = .fields vs) (hz : 2 < vs.size)
    (h : E (.ref a) { s with heap := s.heap.update a (Obj.mapFields (·.setIfInBounds 2 (.ref e))) }) : wpAny (model prog w) A (raiseNew (.ref a) : Sem α) Q E s := by
  unfold raiseNew
  refine wpAny_bind (wpAny_handled ?_)
  rw [hh]
  dsimp only
  rw [if_pos (by simpa using hne)]
  refine wpAny_bind (wpAny_holding (run_unchain hb ?_))
  refine wpAny_bind ?_
  unfold updateField
  refine wpAny_bind (wpAny_load ha ?_)
  rw [hd]
  dsimp only
  rw [if_pos hz]
  exact wpAny_update ha (wpAny_throw h)
set_option maxHeartbeats 2000000 in
theorem next_end_h {it t e : Addr} {i : Nat} {items : Array Value} {Q : Option Value → Shared → Prop} (hh : A.handled = some (.ref e)) (hb : BareAt e s.heap) (hne : it ≠ e)
    (hit : s.heap.IsTupleIter it t i) (ht : s.heap.IsTuple t items) (hx : items[i]? = none)
    (hQ : ∀ h', Heap.ExtBut it s.heap h' → Q none { s with heap := h' }) : wpAny (model prog w) A (pyNext (.ref it)) Q E s := by
  obtain ⟨o, ho, hc, hd⟩ := id hit
  obtain ⟨ol, hol, _, nl, hdl⟩ := ht
  unfold pyNext
  refine wpAny_bind (wpAny_attempt (wpAny_callSpecial?_slot (name := Str.ofString "__next__") hit.typeIs F.slot_tuple_iterator_next
    (wpAny_call_entry F.slot_tuple_iterator_next hit.typeIs F.entry_tuple_iterator_next ?_ (F.args_tuple_iterator_next_1 _))))
  show wpAny _ _ (field (.ref it) 0 >>= _) _ _ s
  refine wpAny_bind (wpAny_field ho hd (x := .ref t) rfl ?_)
  show wpAny _ _ (if (Value.ref t == Value.none) = true then _ else _) _ _ s
  rw [if_neg (show ¬ ((Value.ref t == Value.none) = true) from Bool.false_ne_true)]
  show wpAny _ _ (field (.ref it) 1 >>= _) _ _ s
  refine wpAny_bind (wpAny_field ho hd (x := .int i 0) rfl ?_)
  show wpAny _ _ (seqItems? (.ref t) >>= _) _ _ s
  refine wpAny_bind (wpAny_seqItems hol hdl ?_)
  simp only [Int.toNat_natCast, hx]
  refine wpAny_bind (wpAny_rule (wpAny_bind (wpAny_setField ho hd (by simp) ?_)))
  show wpAny _ _ (newExc (.type "StopIteration") [] >>= _) _ _ _
  refine wpAny_bind ?_
  simp only [newExc, newTuple]
  refine wpAny_bind (wpAny_newObj_type ?_ (by size_fits))
  refine wpAny_bind (m := firstArgMember _ _) (wpAny_of_eq (a := Value.none) (by first | rfl | (simp only [firstArgMember]; rfl)) ?_)
  refine wpAny_newObj_type ?_ (by size_fits)
  have hb' := ((hb.update (a := it) (f := Obj.mapFields (·.setIfInBounds 0 Value.none)) (fun o => bare_set (by decide) o)).push { cls := .type "tuple", data := .seq #[] })
  dsimp only
  obtain ⟨ob, hob, _⟩ := id hb'
  have hlt := Heap.lt_size hob
  refine raise_bare (show A.in1.handled = some (.ref e) from hh) (hb'.push _) (Nat.ne_of_lt hlt) (Heap.get?_push_size _ rfl) rfl (by simp only [Array.size_append, List.size_toArray, List.length_cons, List.length_nil]; omega) ?_
  have hn := Heap.get?_push_size ((s.heap.update it (Obj.mapFields (·.setIfInBounds 0 Value.none))).push { cls := .type "tuple", data := .seq #[] })
    (o := { cls := .type "StopIteration", data := .fields (#[.ref (s.heap.update it (Obj.mapFields (·.setIfInBounds 0 Value.none))).objs.size, .none, .none, .none, .bool false, .none] ++ ownMembersOf (.type "StopIteration") []) }) rfl
  refine wpAny_bind (wpAny_isInstance (T := "StopIteration") (b := true) ⟨_, Heap.get?_update_self _ hn (Obj.isFreed_of_fields (Obj.data_mapFields rfl _)), Obj.cls_mapFields _ _⟩ isSubtype_stop ?_)
  refine wpAny_pure (hQ _ fun b o hb1 e1 => ?_)
  have e2 : ((s.heap.update it (Obj.mapFields (·.setIfInBounds 0 Value.none))).push { cls := .type "tuple", data := .seq #[] }).get? b = some o := ((Heap.SameBut.update ..).extBut.push _) b o hb1 e1
  refine (Heap.get?_update_other _ _ (Nat.ne_of_gt (Heap.lt_size e2))).trans (Heap.get?_push_of_some _ e2)
theorem unpack_h {t e : Addr} {items : Array Value} {Q : List Value → Shared → Prop} (hh : A.handled = some (.ref e)) (hb : BareAt e s.heap) (ht : s.heap.IsTuple t items)
    (hQ : ∀ h', Heap.ExtBut s.heap.objs.size s.heap h' → Q items.toList { s with heap := h' }) : wpAny (model prog w) A (unpackItems (.ref t) items.size none) Q E s := by
  have hlt : t ≠ s.heap.objs.size := by obtain ⟨o, ho, _⟩ := ht; exact Nat.ne_of_lt (Heap.lt_size ho)
  have hle : e < s.heap.objs.size := by obtain ⟨o, ho, _⟩ := hb; exact Heap.lt_size ho
  unfold unpackItems
  refine wpAny_bind ?_
  unfold notIterableAtAll
  refine wpAny_bind (wpAny_specialOf ht.typeIs F.slot_tuple_iter.lookup ?_)
  refine wpAny_pure ?_
  simp only [Bool.false_eq_true, if_false]
  refine wpAny_bind (wpAny_holding (wpAny_pyIter_tuple ht ?_))
  refine wpAny_bind (wpAny_holding (wpAny_draw_tuple hlt items.size 0 _ _ ⟨_, Heap.get?_push_size _ rfl, rfl, rfl⟩ (ht.push _) (by omega) fun h₁ hit₁ hs₁ => ?_))
  have all : List.take items.size (List.drop 0 items.toList) = items.toList := by
    rw [List.drop_zero]; exact List.take_of_length_le (by simp)
  rw [all, if_neg (by simp)]
  have hb₁ : BareAt e h₁ := by
    obtain ⟨o, ho, hB⟩ := hb
    exact ⟨o, hs₁.extBut e o (Nat.ne_of_lt hle) (Heap.get?_push_of_some _ ho), hB⟩
  refine wpAny_bind (wpAny_holding (next_end_h hh hb₁ (Nat.ne_of_gt hle) hit₁ ((ht.push _).extBut hs₁.extBut hlt) (by simp) fun h₂ he₂ => ?_))
  simp only [Option.isSome_none, Bool.false_eq_true, if_false]
  exact wpAny_pure (hQ h₂ fun b o hb2 e2 => he₂ b o hb2 (hs₁.extBut b o hb2 (Heap.get?_push_of_some _ e2)))
theorem assign_h {env : Env} {elts : List Expr} {x1 : Nat} {pos : Pos} {t e : Addr} {items : Array Value} {h₀ : Heap} {L : Addr} {m : Str → Option Value} {news : List (Addr × Obj)} {Q : Unit → Shared → Prop} (F : Fr h₀ L s.heap m) (N : News h₀ L s.heap news)
    (hh : A.handled = some (.ref e)) (hb : BareAt e s.heap) (ht : IsTup s.heap t items)
    (hn : (assignEach elts env).length = items.size) (hstar : (assignEach elts env).findIdx? (·.1) = none)
    (h : ∀ h', Fr h₀ L h' m → News h₀ L h' news → wpAny (model prog w) A (assignInOrder ((assignEach elts env).map (·.2)) items.toList) Q E { s with heap := h' }) :
    wpAny (model prog w) A (assign (.Tuple elts x1 pos) env (.ref t)) Q E s := by
  rw [arm_assign_Tuple]
  refine wpAny_bind (wpAny_standAt ?_)
  unfold unpack
  rw [hn, hstar]
  exact wpAny_bind (wpAny_holding (unpack_h hh hb ht fun h' he => h h' (F.extBut he (Nat.le_refl _)) (N.extBut he (Nat.le_refl _))))
end
end Mine

-- part Tr
namespace Mine
open PySem PySem.W PyProof.Rows PySem.Spec PySem.Calls
theorem set_back_Tr : True := by
  w_top off
  k_with_none
  trivial
open Builtin

theorem slot_translate : Slot "bytes" "translate" "bytes.translate" :=
  .of (owner := "bytes") (n := "translate") (by rw [typeLookup_type, builtinLookup_eq_fast]; kernel_rfl) (by decide +kernel) (by decide +kernel) (by decide +kernel)
    (by first | exact .inl (by decide +kernel) | exact .inr (by decide +kernel)) (by rw [isSubtype_type]; kernel_rfl)
theorem type_translate : typeOf (.builtin "bytes.translate") = pure (.type "method_descriptor") := by show builtinType _ = _; rw [builtinType_eq_fast]; kernel_rfl
theorem entry_translate : entryFor table "bytes.translate" = some Builtin.«bytes.translate» := entryFor_of_tree (by kernel_rfl)
theorem args_translate (a b : Value) : argsOk "bytes.translate" ⟨[a, b], []⟩ := by
  unfold argsOk; rw [signature?_of (id := "bytes.translate") (n := "translate".toList.reverse) (o := ['s', 'e', 't', 'y', 'b']) (by kernel_rfl) FB.owner_bytes]; kernel_rfl
theorem entry_maketrans : entryFor table "bytes.maketrans" = some Builtin.«bytes.maketrans» := entryFor_of_tree (by kernel_rfl)
theorem plain_maketrans : plainId "bytes.maketrans" = true := by decide +kernel
theorem args_maketrans (a b : Value) : argsOk "bytes.maketrans" ⟨[a, b], []⟩ := by
  unfold argsOk; rw [signature?_of (id := "bytes.maketrans") (n := "maketrans".toList.reverse) (o := ['s', 'e', 't', 'y', 'b']) (by kernel_rfl) FB.owner_bytes]; kernel_rfl

theorem check_maketrans (x y : Array UInt8) (t u : Tok) : checkBuiltinCall "bytes.maketrans" ⟨[.bytes x t, .bytes y u], []⟩ = pure () := by
  have hk : builtinKind "bytes.maketrans" = some .staticMethod := by decide +kernel
  have hs : splitId "bytes.maketrans" = some ("bytes", "maketrans") := by decide +kernel
  have ok := args_maketrans (.bytes x t) (.bytes y u)
  unfold argsOk at ok
  unfold checkBuiltinCall
  rw [hk, hs]
  cases hsig : Manifest.signature? "bytes.maketrans" with
  | none => rfl
  | some sig =>
    simp only [hsig] at ok
    exact ok

def trTab (a1 a2 : UInt8) : Array UInt8 := ([(a1, (43 : UInt8)), (a2, 47)]).foldl (fun t (f, x) => t.setIfInBounds f.toNat x) ((Array.range 256).map (·.toUInt8))
theorem trTab_size (a1 a2 : UInt8) : (trTab a1 a2).size = 256 := by simp [trTab]
def trOct (a1 a2 c : UInt8) : UInt8 := if c = a2 then 47 else if c = a1 then 43 else c
theorem range_at (c : UInt8) : ((Array.range 256).map (·.toUInt8))[c.toNat]? = some c := by
  have := c.toNat_lt
  simp [this]
theorem trTab_at (a1 a2 c : UInt8) : (trTab a1 a2).getD c.toNat c = trOct a1 a2 c := by
  rw [Array.getD_eq_getD_getElem?]
  unfold trTab trOct
  simp only [List.foldl_cons, List.foldl_nil, Array.getElem?_setIfInBounds, range_at]
  have hc : c.toNat < 256 := c.toNat_lt
  by_cases h2 : c = a2
  · subst h2
    rw [if_pos rfl, if_pos (by simpa using hc), if_pos rfl]
    rfl
  · have e2 : ¬ (a2.toNat = c.toNat) := fun e => h2 (UInt8.toNat_inj.mp e).symm
    rw [if_neg e2, if_neg h2]
    by_cases h1 : c = a1
    · subst h1
      rw [if_pos rfl, if_pos (by simpa using hc), if_pos rfl]
      rfl
    · have e1 : ¬ (a1.toNat = c.toNat) := fun e => h1 (UInt8.toNat_inj.mp e).symm
      rw [if_neg e1, if_neg h1]
      rfl

theorem maketrans_eq (a1 a2 : UInt8) (t u : Tok) : «bytes.maketrans» ⟨[.bytes #[a1, a2] t, .bytes #[43, 47] u], []⟩ =
    (Bytes.bytesLike "bytes.maketrans" (.bytes #[a1, a2] t) >>= fun f => Bytes.bytesLike "bytes.maketrans" (.bytes #[43, 47] u) >>= fun g =>
      if f.size != g.size then (do rule "bytes.maketrans.sizes"; raiseError "ValueError" "maketrans arguments must have same length") else
        (mkBytes ((f.toList.zip g.toList).foldl (fun t (f, x) => t.setIfInBounds f.toNat x) ((Array.range 256).map (·.toUInt8))) >>= fun v => ret v)) := by
  kernel_rfl
theorem wp_mkBytes {M : Model} {A : Around} {E : Value → Shared → Prop} {s : Shared} {b : Array UInt8} {Q : Value → Shared → Prop} (hb : b.size ≤ sizeLine) (h : ∀ t' k, Q (.bytes b t') { s with toks := k }) : wpAny M A (mkBytes b) Q E s := by
  unfold mkBytes
  rw [if_neg (by omega)]
  exact fun _ _ _ => h _ _
theorem meets_maketrans (a1 a2 : UInt8) (t u : Tok) :
    Meets («bytes.maketrans» ⟨[.bytes #[a1, a2] t, .bytes #[43, 47] u], []⟩) (fun _ R s => ∀ t' k, R (.ok (.ret (.bytes (trTab a1 a2) t'))) { s with toks := k }) := by
  refine .of_wp fun prog w A R s h => ?_
  rw [maketrans_eq]
  refine wpAny_bind (wpAny_of_eq KBd.like_eq ?_)
  refine wpAny_bind (wpAny_of_eq KBd.like_eq ?_)
  refine wpAny_ite ?_
  rw [if_neg (by simp)]
  refine wpAny_bind ?_
  show wpAny _ _ (mkBytes (trTab a1 a2)) _ _ s
  exact wp_mkBytes (by rw [trTab_size, sizeLine_eq]; decide) fun t' k => wpAny_pure ⟨_, rfl, h _ _⟩
theorem meets_translate (b tab : Array UInt8) (t u : Tok) (h256 : tab.size = 256) :
    Meets («bytes.translate» ⟨[.bytes b t, .bytes tab u], []⟩) (fun _ R s => b.size ≤ sizeLine ∧ ∀ t' k, R (.ok (.ret (.bytes (b.map fun c => tab.getD c.toNat c) t'))) { s with toks := k }) := by
  refine .of_wp fun prog w A R s hS => ?_
  obtain ⟨hsz, h⟩ := hS
  show wpAny _ _ (Bytes.translateM .bytes ⟨[.bytes b t, .bytes tab u], []⟩) _ _ s
  unfold Bytes.translateM
  dsimp only
  refine wpAny_ite ?_
  rw [if_neg (by simp)]
  refine wpAny_ite ?_
  rw [if_neg (by simp)]
  refine wpAny_ite ?_
  rw [if_neg (show ¬ ((Value.bytes tab u == Value.none) = true) from Bool.false_ne_true)]
  refine wpAny_bind (wpAny_of_eq KBd.like_eq ?_)
  refine wpAny_ite ?_
  rw [if_neg (by simp [h256])]
  refine wpAny_bind (wpAny_pure ?_)
  show wpAny _ _ (pure #[] >>= fun r => _) _ _ _
  refine wpAny_bind (wpAny_pure ?_)
  refine wpAny_bind (wpAny_of_eq (a := b) rfl ?_)
  have hf : b.filter (fun x => !(#[] : Array UInt8).contains x) = b := by simp
  simp only [hf]
  refine wpAny_ite ?_
  split
  · rename_i e
    refine wpAny_bind (wpAny_rule ?_)
    refine wpAny_bind (wpAny_of_eq (a := .bytes b t) rfl ?_)
    refine wpAny_pure ⟨_, rfl, ?_⟩
    have e' := eq_of_beq e
    have := h t s.toks
    rw [e'] at this
    exact this
  · refine wpAny_bind ?_
    exact wp_mkBytes (by simpa using hsz) fun t' k => wpAny_pure ⟨_, rfl, h _ _⟩

section
variable {prog : Program} {w : World} {A : Around} {E : Value → Shared → Prop} {s : Shared} {t u : Tok}
theorem method_translate {M : Model} {b : Array UInt8} {pl : Sem Bool} {Q : Value × List Value → Shared → Prop} (h : Q (.builtin "bytes.translate", [.bytes b t]) s) : wpAny M A (getMethod (.bytes b t) "translate" pl) Q E s :=
  by with_reducible exact KBd.method_of (.bytes b t) (typeIs_bytes _ _ _) slot_translate type_translate KBd.noRef h
theorem call_translate {b tab : Array UInt8} {Q : Value → Shared → Prop} (h256 : tab.size = 256) (hsz : b.size ≤ sizeLine) (h : ∀ t' k, Q (.bytes (b.map fun c => tab.getD c.toNat c) t') { s with toks := k }) :
    wpAny (model prog w) A (call (.builtin "bytes.translate") [.bytes b t, .bytes tab u]) Q E s :=
  call_meets slot_translate (typeIs_bytes _ _ _) entry_translate (args_translate _ _) (meets_translate b tab t u h256) ⟨hsz, h⟩
theorem call_maketrans {a1 a2 : UInt8} {Q : Value → Shared → Prop} (h : ∀ t' k, Q (.bytes (trTab a1 a2) t') { s with toks := k }) :
    wpAny (model prog w) A (call (.builtin "bytes.maketrans") [.bytes #[a1, a2] t, .bytes #[43, 47] u]) Q E s := by
  refine wpAny_call (codeAny_call_builtin plain_maketrans entry_maketrans ?_)
  rw [check_maketrans]
  exact wpAny_pure (meets_maketrans a1 a2 t u prog w A (wants Q E) s h)
end
/-- the translation as it acts on the octets' numbers -/
def trI (a1 a2 : Int) (c : Int) : Int := if c = a2 then 47 else if c = a1 then 43 else c
theorem bInts_tr (b : Array UInt8) (a1 a2 : UInt8) : KBw.bInts (b.map fun c => (trTab a1 a2).getD c.toNat c) = (KBw.bInts b).map (trI (a1.toNat : Int) (a2.toNat : Int)) := by
  unfold KBw.bInts
  simp only [Array.toList_map, List.map_map]
  apply List.map_congr_left
  intro c _
  simp only [Function.comp_apply, trTab_at]
  unfold trOct trI
  by_cases h2 : c = a2
  · subst h2; simp
  · have e2 : ¬ ((c.toNat : Int) = (a2.toNat : Int)) := fun e => h2 (UInt8.toNat_inj.mp (by omega))
    rw [if_neg h2, if_neg e2]
    by_cases h1 : c = a1
    · subst h1; simp
    · have e1 : ¬ ((c.toNat : Int) = (a1.toNat : Int)) := fun e => h1 (UInt8.toNat_inj.mp (by omega))
      rw [if_neg h1, if_neg e1]
end Mine

-- part A2
namespace Mine
open PySem PySem.W PyProof.Rows PySem.Spec PySem.Calls
theorem set_back_A2 : True := by
  w_top off
  k_with_none
  trivial
local macro_rules | `(tactic| walk_at $s:str) => `(tactic| k_extra $s)

set_option maxHeartbeats 4000000 in
theorem msg_mod {w : World} {A : Around} {E : Value → Shared → Prop} {s : Shared} {t u : Tok} {k : Nat} {Q : Value → Shared → Prop} (h1 : k ≤ 1000)
    (h : ∀ x t' k, Q (.str x t') { s with toks := k }) :
    wpAny (model PySem.Challenge.rw_pa0020_01.row.prog w) A (binaryOp .Mod (.str (Str.ofString "Invalid base64-encoded string: number of data characters (%d) cannot be 1 more than a multiple of 4") t) (.int ((k : Int).fdiv 3 * 4 + 1) u)) Q E s := by
  have hb : (k : Int).fdiv 3 = (k : Int) / 3 := Int.fdiv_eq_ediv_of_nonneg _ (by omega)
  refine' KPc.mod_int ?kpcF (by rw [hb]; omega) (by rw [hb]; omega) ?kpcm ?_
  case kpcF => kpc_eq
  case kpcm => k_dflt kpc_run
  intro t' k
  exact h _ t' k

theorem ints_push {vs : List Value} {ns : List Int} {x : Int} {t : Tok} (h : IntsAre vs ns) : IntsAre (vs.toArray.push (.int x t)).toList (ns ++ [x]) := by
  rw [Array.toList_push]
  exact h.append (.cons _ _ .nil)

set_option maxHeartbeats 8000000 in
theorem a2b_strict (w : World) (loose : List Str) (mean : ExcName → Option Value) (mg mb : Str → Option Value)
  (env env2 : Env) (h₀ g : Heap) (L2 : Addr) (m2 : Str → Option Value) (news : List (Addr × Obj)) (s : Shared) (Q E : Value → Shared → Prop)
  (bb : Array UInt8) (tb : Tok) (ks : List Int)
  (B : Below (callerA.deeper env) h₀ [env] g) (F : Fr g L2 s.heap m2) (X : (hd.heap_39 w.params).In g) (N : News g L2 s.heap news) (T : Top hd.view_39 loose mean mg mb g) (hf : env2.frame = some L2) (hk : env2.scope.kind = .function)
  (hks : KBw.bInts bb = ks) (hsz : ks.length ≤ 1000)
  (hret : ∀ (ns : List Int) (b' : Array UInt8) (t : Tok) (h' : Heap) (tk' : Nat), decS ks = some ns → KBw.bInts b' = ns → Fr g L2 h' m2 → News g L2 h' news → Q (.bytes b' t) { s with heap := h', toks := tk' })
  (hraise : decS ks = none → ∀ (e t : Addr) (vs : List Value) (nws : List (Addr × Obj)) (g2 h' : Heap) (k : Nat), RaisedK h₀ [env2, env] e (.ref 39) t vs nws h' → (∀ p ∈ news, p ∈ nws) → Fr g L2 g2 m2 → g2.UpToSlots h' → BareAt e h' → E (.ref e) { s with heap := h', toks := k }) :
  wpAny (model PySem.Challenge.rw_pa0020_01.row.prog w) ((callerA.deeper env).deeper env2) (call (.ref 71) [.bytes bb tb] [(Str.ofString "strict_mode", .bool true)]) Q E s := by
  k_with_none
  k_with "call type:type" => ((k_here; (with_reducible show wpAny _ _ (call (Value.type "type") [Value.bytes _ _]) _ _ _); refine' PySem.call_type_of (Tx := "bytes") ?a ?b ?_; (case a => exact rfl); (case b => decide +kernel)))
  k_with "call type:type" => ((k_here; (with_reducible show wpAny _ _ (call (Value.type "type") [Value.bool _]) _ _ _); refine' PySem.call_type_of (Tx := "bool") ?a ?b ?_; (case a => exact rfl); (case b => decide +kernel)))
  k_with "binaryOp Mod str int" => ((k_here; refine msg_mod ?m1 ?_; (case m1 => omega); intro x' t' k'))
  k_with "InvEndN" => (((with_reducible show InvEndN _ _ (KstS (aLed _ _) _ _ _ _ _ _ _) _ _ _ _); (rename News _ _ _ _ => nE'); (rename Fr _ _ _ _ => fE'); (refine' a2b_end fE' nE' (fun _ hp => List.mem_append.mpr (.inl hp)) (fun _ hp => List.mem_append.mpr (.inr hp)) ?e0 ?e1 ?e4 ?e5 ?e6 ?e7 ?e2 ?_); (case e0 => exact rfl); (case e1 => (first | assumption | exact ints_push (by assumption))); (case e4 => with_unfolding_all rfl); (case e5 => with_unfolding_all rfl); (case e6 => with_unfolding_all rfl); (case e7 => with_unfolding_all rfl); (case e2 => (intro z z1 z2 z3 z4 z5; simp only [z1, z2, z3, z4, z5, if_false]))))
  k_with "leaving ref" => ((k_here; (refine' leave_raiseC ?zz1 ?zz0 ?zz2 ?zz3 ?_; (case zz0 => assumption); (case zz1 => assumption); (case zz2 => assumption); (case zz3 => k_asm); k_whole; intro h' t' R' U' BR'; (try dsimp only at R' U' BR' ⊢))))
  revert X; k_fill; intro X
  k_with "tree" => first | exact b64v_k1 (by omega) (by omega) | exact b64v_k2 (by omega) (by omega) | exact b64v_k3 (by omega) (by omega) | exact b64v_k4 (by omega) | exact b64v_k5 (by omega) | exact b64v_k0 (by omega) (by omega) (by omega) (by omega) (by omega) | simp only [b64v]
  k_with "call ref" => k_call_by "_b64_value" b64v
  refine wpAny_call ?_
  k_dflt (refine' code_def ?k1 ?k2 ?k3 ?k4 ?k5 ?kA ?kF ?kK ?k6 ?k7 ?k8 ?k9 ?kB ?_ ?c2 ?c3 ?c4 ?c5; (case kA => exact rfl); (case kF => assumption); (case kK => assumption); (case k1 => k_asm); (case k2 => k_asm); (case k3 => k_asm); (case k4 => k_asm); (case k5 => k_asm); (case k6 => k_is); (case k7 => k_is); (case k8 => k_room); (case k9 => first | exact binds_K (by k_in) rfl (by k_is) rfl rfl rfl | exact BindsTo.of_eq rfl); (case c5 => decide); (case kB => exact locs rfl); (case c2 => exact rfl); (case c3 => exact rfl); (case c4 => exact rfl); k_whole; intro g' L' h' FG' F' N' B' X' T'; (try dsimp only); (try k_lift B'); (try k_fold))
  k_steps
  rename Fr _ _ _ _ => F9
  rename News _ _ _ _ => N9
  refine a2b_for SP hks rfl F9 N9 ⟨_, _, _, _, by with_unfolding_all rfl, by with_unfolding_all rfl, by with_unfolding_all rfl, by with_unfolding_all rfl⟩ SP.start ?_ ?_
  · clear F9 N9
    intro vs ns c q tq lc tl p tp i ti pre post n t u h tk own kEq kLo kHi kOff kF kP kFr kN
    have kMark := kstMark
    obtain ⟨kq0, kq3, kl0, kl1, -, -, kp0, kp1, ki, kl, -⟩ := kP.2
    have kLen : pre.length < 1000 := by
      have := congrArg List.length kEq
      simp at this
      omega
    have b64r := b64v_range
    (try k_fold)
    k_steps
    all_goals try (exact SP.pad kP (by assumption) (by assumption) (by assumption))
    all_goals try (exact sign0 (SP.sign kP (by assumption) (by assumption) (by assumption)) (by assumption))
    all_goals try (exact sign1 (SP.sign kP (by assumption) (by assumption) (by assumption)) kP.2 (by assumption) (by assumption))
    all_goals try (exact sign2 (SP.sign kP (by assumption) (by assumption) (by assumption)) kP.2 (by assumption) (by assumption))
    all_goals try (exact sign3 (SP.sign kP (by assumption) (by assumption) (by assumption)) kP.2 (by assumption) (by assumption) (by assumption) (by assumption))
    all_goals try (refine hraise ?_ _ _ _ _ _ _ _ (by assumption) (fun _ hp => List.mem_cons_of_mem _ (List.mem_append.mpr (.inl hp))) (by assumption) (by assumption) (by assumption); rw [kEq]; first | exact SP.badPad kP (by assumption) (by omega) | exact SP.badSign kP (by assumption) (by assumption) | exact SP.badBehind kP (by assumption) (by assumption) (by assumption))
  · clear F9 N9
    intro vs ns c q tq lc tl p tp i ti u h tk kF kP kFr kN
    have kMark := kstMark
    obtain ⟨kq0, kq3, kl0, kl1, -, -, kp0, kp1, ki, kl, kIn⟩ := kP.2
    (try k_fold)
    k_steps
    all_goals try (exact hraise (SP.bad1 kP (by assumption)) _ _ _ _ _ _ _ (by assumption) (fun _ hp => List.mem_cons_of_mem _ hp) (by assumption) (by assumption) (by assumption))
    all_goals try (exact hraise (SP.bad2 kP (by assumption) (by assumption)) _ _ _ _ _ _ _ (by assumption) (fun _ hp => List.mem_cons_of_mem _ hp) (by assumption) (by assumption) (by assumption))
    all_goals try (exact hret _ _ _ _ _ (SP.good kP (by assumption) (by omega)) (KBa.ints_make kIn) (by assumption) (fun p hp => (by assumption : News _ _ _ (_ :: news)) p (List.mem_cons_of_mem _ hp)))
end Mine

-- part A3
namespace Mine
open PySem PySem.W PyProof.Rows PySem.Spec PySem.Calls
theorem set_back_A3 : True := by
  w_top off
  k_with_none
  trivial
local macro_rules | `(tactic| walk_at $s:str) => `(tactic| k_extra $s)


set_option maxHeartbeats 8000000 in
theorem a2b_loose (w : World) (loose : List Str) (mean : ExcName → Option Value) (mg mb : Str → Option Value)
  (env env2 : Env) (h₀ g : Heap) (L2 : Addr) (m2 : Str → Option Value) (news : List (Addr × Obj)) (s : Shared) (Q E : Value → Shared → Prop)
  (bb : Array UInt8) (tb : Tok) (ks : List Int)
  (B : Below (callerA.deeper env) h₀ [env] g) (F : Fr g L2 s.heap m2) (X : (hd.heap_39 w.params).In g) (N : News g L2 s.heap news) (T : Top hd.view_39 loose mean mg mb g) (hf : env2.frame = some L2) (hk : env2.scope.kind = .function)
  (hks : KBw.bInts bb = ks) (hsz : ks.length ≤ 1000)
  (out : List Int) (hok : decL ks = some out)
  (hret : ∀ (b' : Array UInt8) (t : Tok) (h' : Heap) (tk' : Nat), KBw.bInts b' = out → Fr g L2 h' m2 → News g L2 h' news → Q (.bytes b' t) { s with heap := h', toks := tk' }) :
  wpAny (model PySem.Challenge.rw_pa0020_01.row.prog w) ((callerA.deeper env).deeper env2) (call (.ref 71) [.bytes bb tb] [(Str.ofString "strict_mode", .bool false)]) Q E s := by
  k_with_none
  k_with "call type:type" => ((k_here; (with_reducible show wpAny _ _ (call (Value.type "type") [Value.bytes _ _]) _ _ _); refine' PySem.call_type_of (Tx := "bytes") ?a ?b ?_; (case a => exact rfl); (case b => decide +kernel)))
  k_with "call type:type" => ((k_here; (with_reducible show wpAny _ _ (call (Value.type "type") [Value.bool _]) _ _ _); refine' PySem.call_type_of (Tx := "bool") ?a ?b ?_; (case a => exact rfl); (case b => decide +kernel)))
  k_with "binaryOp Mod str int" => ((k_here; refine msg_mod ?m1 ?_; (case m1 => omega); intro x' t' k'))
  k_with "InvEndN" => (((with_reducible show InvEndN _ _ (KstS (aLed _ _) _ _ _ _ _ _ _) _ _ _ _); (rename News _ _ _ _ => nE'); (rename Fr _ _ _ _ => fE'); (refine' a2b_end fE' nE' (fun _ hp => List.mem_append.mpr (.inl hp)) (fun _ hp => List.mem_append.mpr (.inr hp)) ?e0 ?e1 ?e4 ?e5 ?e6 ?e7 ?e2 ?_); (case e0 => exact rfl); (case e1 => (first | assumption | exact ints_push (by assumption))); (case e4 => with_unfolding_all rfl); (case e5 => with_unfolding_all rfl); (case e6 => with_unfolding_all rfl); (case e7 => with_unfolding_all rfl); (case e2 => (intro z z1 z2 z3 z4 z5; simp only [z1, z2, z3, z4, z5, if_false]))))
  revert X; k_fill; intro X
  k_with "tree" => first | exact b64v_k1 (by omega) (by omega) | exact b64v_k2 (by omega) (by omega) | exact b64v_k3 (by omega) (by omega) | exact b64v_k4 (by omega) | exact b64v_k5 (by omega) | exact b64v_k0 (by omega) (by omega) (by omega) (by omega) (by omega) | simp only [b64v]
  k_with "call ref" => k_call_by "_b64_value" b64v
  refine wpAny_call ?_
  k_dflt (refine' code_def ?k1 ?k2 ?k3 ?k4 ?k5 ?kA ?kF ?kK ?k6 ?k7 ?k8 ?k9 ?kB ?_ ?c2 ?c3 ?c4 ?c5; (case kA => exact rfl); (case kF => assumption); (case kK => assumption); (case k1 => k_asm); (case k2 => k_asm); (case k3 => k_asm); (case k4 => k_asm); (case k5 => k_asm); (case k6 => k_is); (case k7 => k_is); (case k8 => k_room); (case k9 => first | exact binds_K (by k_in) rfl (by k_is) rfl rfl rfl | exact BindsTo.of_eq rfl); (case c5 => decide); (case kB => exact locs rfl); (case c2 => exact rfl); (case c3 => exact rfl); (case c4 => exact rfl); k_whole; intro g' L' h' FG' F' N' B' X' T'; (try dsimp only); (try k_lift B'); (try k_fold))
  k_steps
  rename Fr _ _ _ _ => F9
  rename News _ _ _ _ => N9
  refine a2b_for LP hks rfl F9 N9 ⟨_, _, _, _, by with_unfolding_all rfl, by with_unfolding_all rfl, by with_unfolding_all rfl, by with_unfolding_all rfl⟩ LP.start ?_ ?_
  · clear F9 N9
    intro vs ns c q tq lc tl p tp i ti pre post n t u h tk own kEq kLo kHi kOff kF kP kFr kN
    have kMark := kstMark
    obtain ⟨kq0, kq3, kl0, kl1, -, -, kp0, kp1, ki, kl, -⟩ := kP.2
    have kLen : pre.length < 1000 := by
      have := congrArg List.length kEq
      simp at this
      omega
    have b64r := b64v_range
    (try k_fold)
    k_steps
    all_goals try (exact LP.pad kP (by assumption))
    all_goals try (exact LP.skip kP (by assumption) (by assumption))
    all_goals try (exact sign0 (LP.sign kP (by assumption) (by assumption)) (by assumption))
    all_goals try (exact sign1 (LP.sign kP (by assumption) (by assumption)) kP.2 (by assumption) (by assumption))
    all_goals try (exact sign2 (LP.sign kP (by assumption) (by assumption)) kP.2 (by assumption) (by assumption))
    all_goals try (exact sign3 (LP.sign kP (by assumption) (by assumption)) kP.2 (by assumption) (by assumption) (by assumption) (by assumption))
  · clear F9 N9
    intro vs ns c q tq lc tl p tp i ti u h tk kF kP kFr kN
    have kMark := kstMark
    obtain ⟨kq0, kq3, kl0, kl1, -, -, kp0, kp1, ki, kl, kIn⟩ := kP.2
    (try k_fold)
    k_steps
    all_goals try (exact absurd (hok.symm.trans (LP.bad1 kP (by assumption))) (by simp))
    all_goals try (exact absurd (hok.symm.trans (LP.bad2 kP (by assumption) (by assumption))) (by simp))
    all_goals try (exact hret _ _ _ _ ((KBa.ints_make kIn).trans (Option.some.inj ((LP.good kP (by assumption) (by omega)).symm.trans hok))) (by assumption) (fun p hp => (by assumption : News _ _ _ (_ :: news)) p (List.mem_cons_of_mem _ hp)))
end Mine

-- part B2
namespace Mine
open PySem PySem.W PyProof.Rows PySem.Spec PySem.Calls
theorem set_back_B2 : True := by
  w_top off
  k_with_none
  trivial
local macro_rules | `(tactic| walk_at $s:str) => `(tactic| k_extra $s)
theorem meta_bytes : typeOf (.type "bytes") = pure (.type "type") := by show typeOf (.type "bytes") = _; kernel_rfl
set_option maxHeartbeats 4000000 in
theorem b64_strict0 (w : World) (loose : List Str) (mean : ExcName → Option Value) (mg mb : Str → Option Value)
  (env : Env) (h₀ : Heap) (L : Addr) (m : Str → Option Value) (news : List (Addr × Obj)) (s : Shared) (Q E : Value → Shared → Prop)
  (bb : Array UInt8) (tb : Tok) 
  (B : Below callerA h₀ [] h₀) (F : Fr h₀ L s.heap m) (X : (hd.heap_39 w.params).In h₀) (N : News h₀ L s.heap news) (T : Top hd.view_39 loose mean mg mb h₀) (hf : env.frame = some L) (hk : env.scope.kind = .function)
  (hsz : bb.size ≤ 1000)
  (hret : ∀ (ns : List Int) (b' : Array UInt8) (t : Tok) (h' : Heap) (tk' : Nat), decS (KBw.bInts bb) = some ns → KBw.bInts b' = ns → Fr h₀ L h' m → News h₀ L h' news → Q (.bytes b' t) { s with heap := h', toks := tk' })
  (hraise : decS (KBw.bInts bb) = none → ∀ (e t : Addr) (vs : List Value) (nws : List (Addr × Obj)) (g2 h' : Heap) (k : Nat), RaisedK h₀ [env] e (.ref 39) t vs nws h' → (∀ p ∈ news, p ∈ nws) → Fr h₀ L g2 m → g2.UpToSlots h' → BareAt e h' → E (.ref e) { s with heap := h', toks := k }) :
  wpAny (model PySem.Challenge.rw_pa0020_01.row.prog w) (callerA.deeper env) (call (.ref 79) [.bytes bb tb, .none, .bool true]) Q E s := by
  k_with_none
  k_with "getMethod type:bytes" => ((k_here; refine' method_type ?F ?X ?m (by decide +kernel) ?e ?h ?_; (case F => k_asm); (case X => k_asm); (case m => exact meta_bytes); (case e => k_dflt k_is); (case h => k_handed)))
  k_with "getMethod bytes" => ((k_here; (with_reducible refine method_translate ?_)))
  k_with "call builtin:bytes.translate" => ((k_here; (refine' call_translate ?a ?b ?_; (case a => exact trTab_size _ _); (case b => (rw [PySem.sizeLine_eq]; omega)); intro t' k')))
  k_with "call builtin:bytes.maketrans" => ((k_here; (refine call_maketrans ?_); intro t' k'))
  k_with "call ref" => ((k_here; (with_reducible show wpAny _ _ (call (Value.ref 71) _ _) _ _ _); k_dflt (refine' a2b_strict _ _ _ _ _ _ _ _ _ _ _ _ _ _ _ _ _ _ ?B ?F ?X ?N ?T ?hf ?hk ?hks ?hsz ?_ ?_; (case B => assumption); (case F => assumption); (case X => assumption); (case N => assumption); (case T => assumption); (case hf => exact rfl); (case hk => exact rfl); (case hks => first | exact bInts_tr _ _ _ | exact rfl); (case hsz => (simp only [List.length_map, KBw.ints_length]; assumption))); (first | intro ns b' t' h' k' e1 e2 F' N' | intro e1 e t' vs' nws' g2' h' k' R' sub' FG' U' BR')))
  k_with "leaving ref" => ((k_here; (refine' leave_onC ?zz1 ?zz2 ?zz3 ?zz4 ?zz5 ?_; (case zz3 => assumption); (case zz1 => assumption); (case zz4 => assumption); (case zz2 => assumption); (case zz5 => assumption); k_whole; intro h' R' U' BR'; (try dsimp only at R' U' BR' ⊢))))
  revert X; k_fill; intro X
  refine wpAny_call ?_
  k_dflt (refine' code_def ?k1 ?k2 ?k3 ?k4 ?k5 ?kA ?kF ?kK ?k6 ?k7 ?k8 ?k9 ?kB ?_ ?c2 ?c3 ?c4 ?c5; (case kA => exact rfl); (case kF => assumption); (case kK => assumption); (case k1 => k_asm); (case k2 => k_asm); (case k3 => k_asm); (case k4 => k_asm); (case k5 => k_asm); (case k6 => k_is); (case k7 => k_is); (case k8 => k_room); (case k9 => first | exact binds_K (by k_in) rfl (by k_is) rfl rfl rfl | exact BindsTo.of_eq rfl); (case c5 => decide); (case kB => exact locs rfl); (case c2 => exact rfl); (case c3 => exact rfl); (case c4 => exact rfl); k_whole; intro g' L' h' FG' F' N' B' X' T'; (try dsimp only); (try k_lift B'); (try k_fold))
  k_steps
  all_goals try (exact hret _ _ _ _ _ (by assumption) (by assumption) (by assumption) (by assumption))
  all_goals try (exact hraise (by assumption) _ _ _ _ _ _ _ (by assumption) (by assumption) (by assumption) (by assumption) (by assumption))
  all_goals try (exact absurd rfl (by assumption))
set_option maxHeartbeats 4000000 in
theorem b64_strict2 (w : World) (loose : List Str) (mean : ExcName → Option Value) (mg mb : Str → Option Value)
  (env : Env) (h₀ : Heap) (L : Addr) (m : Str → Option Value) (news : List (Addr × Obj)) (s : Shared) (Q E : Value → Shared → Prop)
  (bb : Array UInt8) (tb : Tok) (a1 a2 : UInt8) (ta : Tok)
  (B : Below callerA h₀ [] h₀) (F : Fr h₀ L s.heap m) (X : (hd.heap_39 w.params).In h₀) (N : News h₀ L s.heap news) (T : Top hd.view_39 loose mean mg mb h₀) (hf : env.frame = some L) (hk : env.scope.kind = .function)
  (hsz : bb.size ≤ 1000)
  (hret : ∀ (ns : List Int) (b' : Array UInt8) (t : Tok) (h' : Heap) (tk' : Nat), decS ((KBw.bInts bb).map (trI (a1.toNat : Int) (a2.toNat : Int))) = some ns → KBw.bInts b' = ns → Fr h₀ L h' m → News h₀ L h' news → Q (.bytes b' t) { s with heap := h', toks := tk' })
  (hraise : decS ((KBw.bInts bb).map (trI (a1.toNat : Int) (a2.toNat : Int))) = none → ∀ (e t : Addr) (vs : List Value) (nws : List (Addr × Obj)) (g2 h' : Heap) (k : Nat), RaisedK h₀ [env] e (.ref 39) t vs nws h' → (∀ p ∈ news, p ∈ nws) → Fr h₀ L g2 m → g2.UpToSlots h' → BareAt e h' → E (.ref e) { s with heap := h', toks := k }) :
  wpAny (model PySem.Challenge.rw_pa0020_01.row.prog w) (callerA.deeper env) (call (.ref 79) [.bytes bb tb, .bytes #[a1, a2] ta, .bool true]) Q E s := by
  k_with_none
  k_with "getMethod type:bytes" => ((k_here; refine' method_type ?F ?X ?m (by decide +kernel) ?e ?h ?_; (case F => k_asm); (case X => k_asm); (case m => exact meta_bytes); (case e => k_dflt k_is); (case h => k_handed)))
  k_with "getMethod bytes" => ((k_here; (with_reducible refine method_translate ?_)))
  k_with "call builtin:bytes.translate" => ((k_here; (refine' call_translate ?a ?b ?_; (case a => exact trTab_size _ _); (case b => (rw [PySem.sizeLine_eq]; omega)); intro t' k')))
  k_with "call builtin:bytes.maketrans" => ((k_here; (refine call_maketrans ?_); intro t' k'))
  k_with "call ref" => ((k_here; (with_reducible show wpAny _ _ (call (Value.ref 71) _ _) _ _ _); k_dflt (refine' a2b_strict _ _ _ _ _ _ _ _ _ _ _ _ _ _ _ _ _ _ ?B ?F ?X ?N ?T ?hf ?hk ?hks ?hsz ?_ ?_; (case B => assumption); (case F => assumption); (case X => assumption); (case N => assumption); (case T => assumption); (case hf => exact rfl); (case hk => exact rfl); (case hks => first | exact bInts_tr _ _ _ | exact rfl); (case hsz => (simp only [List.length_map, KBw.ints_length]; assumption))); (first | intro ns b' t' h' k' e1 e2 F' N' | intro e1 e t' vs' nws' g2' h' k' R' sub' FG' U' BR')))
  k_with "leaving ref" => ((k_here; (refine' leave_onC ?zz1 ?zz2 ?zz3 ?zz4 ?zz5 ?_; (case zz3 => assumption); (case zz1 => assumption); (case zz4 => assumption); (case zz2 => assumption); (case zz5 => assumption); k_whole; intro h' R' U' BR'; (try dsimp only at R' U' BR' ⊢))))
  revert X; k_fill; intro X
  refine wpAny_call ?_
  k_dflt (refine' code_def ?k1 ?k2 ?k3 ?k4 ?k5 ?kA ?kF ?kK ?k6 ?k7 ?k8 ?k9 ?kB ?_ ?c2 ?c3 ?c4 ?c5; (case kA => exact rfl); (case kF => assumption); (case kK => assumption); (case k1 => k_asm); (case k2 => k_asm); (case k3 => k_asm); (case k4 => k_asm); (case k5 => k_asm); (case k6 => k_is); (case k7 => k_is); (case k8 => k_room); (case k9 => first | exact binds_K (by k_in) rfl (by k_is) rfl rfl rfl | exact BindsTo.of_eq rfl); (case c5 => decide); (case kB => exact locs rfl); (case c2 => exact rfl); (case c3 => exact rfl); (case c4 => exact rfl); k_whole; intro g' L' h' FG' F' N' B' X' T'; (try dsimp only); (try k_lift B'); (try k_fold))
  k_steps
  all_goals try (exact hret _ _ _ _ _ (by assumption) (by assumption) (by assumption) (by assumption))
  all_goals try (exact hraise (by assumption) _ _ _ _ _ _ _ (by assumption) (by assumption) (by assumption) (by assumption) (by assumption))
  all_goals try (exact absurd rfl (by assumption))
end Mine

-- part B3
namespace Mine
open PySem PySem.W PyProof.Rows PySem.Spec PySem.Calls
theorem set_back_B3 : True := by
  w_top off
  k_with_none
  trivial
local macro_rules | `(tactic| walk_at $s:str) => `(tactic| k_extra $s)
theorem meta_bytes_l : typeOf (.type "bytes") = pure (.type "type") := by show typeOf (.type "bytes") = _; kernel_rfl
set_option maxHeartbeats 4000000 in
theorem b64_loose0 (w : World) (loose : List Str) (mean : ExcName → Option Value) (mg mb : Str → Option Value)
  (env : Env) (h₀ : Heap) (L : Addr) (m : Str → Option Value) (news : List (Addr × Obj)) (s : Shared) (Q E : Value → Shared → Prop)
  (bb : Array UInt8) (tb : Tok) 
  (B : Below callerA h₀ [] h₀) (F : Fr h₀ L s.heap m) (X : (hd.heap_39 w.params).In h₀) (N : News h₀ L s.heap news) (T : Top hd.view_39 loose mean mg mb h₀) (hf : env.frame = some L) (hk : env.scope.kind = .function)
  (hsz : bb.size ≤ 1000)
  (out : List Int) (hok : decL (KBw.bInts bb) = some out)
  (hret : ∀ (b' : Array UInt8) (t : Tok) (h' : Heap) (tk' : Nat), KBw.bInts b' = out → Fr h₀ L h' m → News h₀ L h' news → Q (.bytes b' t) { s with heap := h', toks := tk' }) :
  wpAny (model PySem.Challenge.rw_pa0020_01.row.prog w) (callerA.deeper env) (call (.ref 79) [.bytes bb tb, .none]) Q E s := by
  k_with_none
  k_with "getMethod type:bytes" => ((k_here; refine' method_type ?F ?X ?m (by decide +kernel) ?e ?h ?_; (case F => k_asm); (case X => k_asm); (case m => exact meta_bytes_l); (case e => k_dflt k_is); (case h => k_handed)))
  k_with "getMethod bytes" => ((k_here; (with_reducible refine method_translate ?_)))
  k_with "call builtin:bytes.translate" => ((k_here; (refine' call_translate ?a ?b ?_; (case a => exact trTab_size _ _); (case b => (rw [PySem.sizeLine_eq]; omega)); intro t' k')))
  k_with "call builtin:bytes.maketrans" => ((k_here; (refine call_maketrans ?_); intro t' k'))
  k_with "call ref" => ((k_here; (with_reducible show wpAny _ _ (call (Value.ref 71) _ _) _ _ _); k_dflt (refine' a2b_loose _ _ _ _ _ _ _ _ _ _ _ _ _ _ _ _ _ _ ?B ?F ?X ?N ?T ?hf ?hk ?hks ?hsz _ ?hok ?_; (case B => assumption); (case F => assumption); (case X => assumption); (case N => assumption); (case T => assumption); (case hf => exact rfl); (case hk => exact rfl); (case hks => first | exact bInts_tr _ _ _ | exact rfl); (case hsz => (simp only [List.length_map, KBw.ints_length]; assumption)); (case hok => assumption)); intro b' t' h' k' e2 F' N'))
  revert X; k_fill; intro X
  refine wpAny_call ?_
  k_dflt (refine' code_def ?k1 ?k2 ?k3 ?k4 ?k5 ?kA ?kF ?kK ?k6 ?k7 ?k8 ?k9 ?kB ?_ ?c2 ?c3 ?c4 ?c5; (case kA => exact rfl); (case kF => assumption); (case kK => assumption); (case k1 => k_asm); (case k2 => k_asm); (case k3 => k_asm); (case k4 => k_asm); (case k5 => k_asm); (case k6 => k_is); (case k7 => k_is); (case k8 => k_room); (case k9 => first | exact binds_K (by k_in) rfl (by k_is) rfl rfl rfl | exact BindsTo.of_eq rfl); (case c5 => decide); (case kB => exact locs rfl); (case c2 => exact rfl); (case c3 => exact rfl); (case c4 => exact rfl); k_whole; intro g' L' h' FG' F' N' B' X' T'; (try dsimp only); (try k_lift B'); (try k_fold))
  k_steps
  all_goals try (exact hret _ _ _ _ (by assumption) (by assumption) (by assumption))
  all_goals try (exact absurd rfl (by assumption))
set_option maxHeartbeats 4000000 in
theorem b64_loose2 (w : World) (loose : List Str) (mean : ExcName → Option Value) (mg mb : Str → Option Value)
  (env : Env) (h₀ : Heap) (L : Addr) (m : Str → Option Value) (news : List (Addr × Obj)) (s : Shared) (Q E : Value → Shared → Prop)
  (bb : Array UInt8) (tb : Tok) (a1 a2 : UInt8) (ta : Tok)
  (B : Below callerA h₀ [] h₀) (F : Fr h₀ L s.heap m) (X : (hd.heap_39 w.params).In h₀) (N : News h₀ L s.heap news) (T : Top hd.view_39 loose mean mg mb h₀) (hf : env.frame = some L) (hk : env.scope.kind = .function)
  (hsz : bb.size ≤ 1000)
  (out : List Int) (hok : decL ((KBw.bInts bb).map (trI (a1.toNat : Int) (a2.toNat : Int))) = some out)
  (hret : ∀ (b' : Array UInt8) (t : Tok) (h' : Heap) (tk' : Nat), KBw.bInts b' = out → Fr h₀ L h' m → News h₀ L h' news → Q (.bytes b' t) { s with heap := h', toks := tk' }) :
  wpAny (model PySem.Challenge.rw_pa0020_01.row.prog w) (callerA.deeper env) (call (.ref 79) [.bytes bb tb, .bytes #[a1, a2] ta]) Q E s := by
  k_with_none
  k_with "getMethod type:bytes" => ((k_here; refine' method_type ?F ?X ?m (by decide +kernel) ?e ?h ?_; (case F => k_asm); (case X => k_asm); (case m => exact meta_bytes_l); (case e => k_dflt k_is); (case h => k_handed)))
  k_with "getMethod bytes" => ((k_here; (with_reducible refine method_translate ?_)))
  k_with "call builtin:bytes.translate" => ((k_here; (refine' call_translate ?a ?b ?_; (case a => exact trTab_size _ _); (case b => (rw [PySem.sizeLine_eq]; omega)); intro t' k')))
  k_with "call builtin:bytes.maketrans" => ((k_here; (refine call_maketrans ?_); intro t' k'))
  k_with "call ref" => ((k_here; (with_reducible show wpAny _ _ (call (Value.ref 71) _ _) _ _ _); k_dflt (refine' a2b_loose _ _ _ _ _ _ _ _ _ _ _ _ _ _ _ _ _ _ ?B ?F ?X ?N ?T ?hf ?hk ?hks ?hsz _ ?hok ?_; (case B => assumption); (case F => assumption); (case X => assumption); (case N => assumption); (case T => assumption); (case hf => exact rfl); (case hk => exact rfl); (case hks => first | exact bInts_tr _ _ _ | exact rfl); (case hsz => (simp only [List.length_map, KBw.ints_length]; assumption)); (case hok => assumption)); intro b' t' h' k' e2 F' N'))
  revert X; k_fill; intro X
  refine wpAny_call ?_
  k_dflt (refine' code_def ?k1 ?k2 ?k3 ?k4 ?k5 ?kA ?kF ?kK ?k6 ?k7 ?k8 ?k9 ?kB ?_ ?c2 ?c3 ?c4 ?c5; (case kA => exact rfl); (case kF => assumption); (case kK => assumption); (case k1 => k_asm); (case k2 => k_asm); (case k3 => k_asm); (case k4 => k_asm); (case k5 => k_asm); (case k6 => k_is); (case k7 => k_is); (case k8 => k_room); (case k9 => first | exact binds_K (by k_in) rfl (by k_is) rfl rfl rfl | exact BindsTo.of_eq rfl); (case c5 => decide); (case kB => exact locs rfl); (case c2 => exact rfl); (case c3 => exact rfl); (case c4 => exact rfl); k_whole; intro g' L' h' FG' F' N' B' X' T'; (try dsimp only); (try k_lift B'); (try k_fold))
  k_steps
  all_goals try (exact hret _ _ _ _ (by assumption) (by assumption) (by assumption))
  all_goals try (exact absurd rfl (by assumption))
end Mine

-- part LB
namespace Mine
open PySem PySem.W PyProof.Rows PySem.Spec PySem.Calls
theorem set_back_LB : True := by
  w_top off
  k_with_none
  trivial
def OctAt (b : Array UInt8) (i : Nat) (v : Value) : Prop := ∃ c u, b[i]? = some c ∧ v = .int (c.toNat : Int) u
section
variable {prog : Program} {w : World} {A : Around} {E : Value → Shared → Prop} {s : Shared}

theorem extend_bytes {R : Result → Shared → Prop} (hh : A.handled = none) (x : Array UInt8) (t : Tok) (S : Addr) (res : Value) (c₀ : Nat) (hS : s.heap.get? S = some { cls := .type "list", data := .seq #[] c₀ })
    (hR : ∀ h' tk acc' c', (∀ b o, b ≠ S → s.heap.get? b = some o → h'.get? b = some o) → h'.get? S = some { cls := .type "list", dict := none, data := .seq acc' c', slots := #[] } →
      ItemsOf (OctAt x) acc' x.size → R (.ok (.ret res)) { s with heap := h', toks := tk }) (hn : x.size ≤ sizeLine) :
    wpAny (model prog w) A.in1 (Builtin.List.listExtendWith (.ref S) (.bytes x t) res)
      (fun fin s' => match fin with | .done f => R (.ok f) s' | .again c' => c'.quiet = true ∧ codeAny (model prog w) A c' R s') (fun e s' => R (.error e) s') s := by
  have hSI : S ≠ s.heap.objs.size := Nat.ne_of_lt (Heap.lt_size hS)
  have hSf : S ∉ [s.heap.objs.size] := fun hm => hSI (List.mem_singleton.mp hm)
  unfold Builtin.List.listExtendWith
  refine wpAny_bind (wpAny_typeOf (T := "bytes") (v := .bytes x t) rfl ?_)
  have h1 : Builtin.List.listSameRef (.ref S) (.bytes x t) = false := rfl
  have h2 : (Value.type "bytes" == Value.type "list") = false := by decide
  have h3 : (Value.type "bytes" == Value.type "tuple") = false := by decide
  simp only [h1, h2, h3, Bool.or_false, Bool.false_eq_true, if_false]
  refine wpAny_bind (KBw.pyIter_bytes ?_)
  refine wpAny_bind (wpAny_holding ?_)
  unfold Builtin.List.listLengthHint
  refine wpAny_bind (wpAny_specialOf (T := "bytes") (v := .bytes x t) rfl FB.slot_bytes_len.lookup ?_)
  wp_delta
  refine wpAny_bind (wpAny_isInstance (T := "bytes") (v := .bytes x t) (b := true) rfl (by rw [isSubtype_type]; kernel_rfl) ?_)
  show wpAny _ _ (typeOf (Value.bytes x t) >>= _) _ _ _
  refine wpAny_bind (wpAny_typeOf (T := "bytes") (v := .bytes x t) rfl ?_)
  refine wpAny_pure ?_
  rw [if_neg (by decide)]
  have W := KBw.walks (prog := prog) (w := w) (A := A.in1) hh s.heap.objs.size x t
  refine wpAny_pure ⟨plainId_quiet F.plain_extend_loop _, codeAny_extend_loopS W.toS hn _ hSf _ x.size 0 _ _ _ rfl (Nat.zero_le _) ⟨_, Heap.get?_push_size _ rfl, rfl, rfl⟩ (Heap.get?_push_of_some _ hS) (ItemsOf.nil _) fun s' acc' c' hm hS' hacc => ?_⟩
  rw [Moved.eq_with hm]
  refine hR s'.heap s'.toks acc' c' (fun b ob hb e => hm.heap b ob (fun hmem => ?_) (Heap.get?_push_of_some _ e)) hS' hacc
  rcases List.mem_cons.mp hmem with e' | hmem
  · exact hb e'
  · exact absurd (Heap.lt_size e) (by rw [List.mem_singleton.mp hmem]; exact Nat.lt_irrefl _)

theorem list_init_bytes {R : Result → Shared → Prop} (hh : A.handled = none) (x : Array UInt8) (t : Tok) (S : Addr) (hS : s.heap.get? S = some { cls := .type "list", data := .seq #[] })
    (hR : ∀ h' tk acc' c', (∀ b o, b ≠ S → s.heap.get? b = some o → h'.get? b = some o) → h'.get? S = some { cls := .type "list", dict := none, data := .seq acc' c', slots := #[] } →
      ItemsOf (OctAt x) acc' x.size → R (.ok (.ret .none)) { s with heap := h', toks := tk }) (hn : x.size ≤ sizeLine) :
    wpAny (model prog w) A.in1 (Builtin.«list.__init__» ⟨[.ref S, .bytes x t], []⟩)
      (fun fin s' => match fin with | .done f => R (.ok f) s' | .again c' => c'.quiet = true ∧ codeAny (model prog w) A c' R s') (fun e s' => R (.error e) s') s := by
  show wpAny _ _ (do let old ← Builtin.List.listItems (.ref S); Builtin.List.listUpdate (.ref S) (fun _ => #[]); letGo old.toList.reverse; Builtin.List.listExtendWith (.ref S) (.bytes x t) .none) _ _ s
  refine wpAny_bind ?_
  unfold Builtin.List.listItems
  refine wpAny_bind (wpAny_seqItems hS rfl (wpAny_pure ?_))
  show wpAny _ _ (updateSeq S (fun _ => #[]) >>= fun _ => letGo (#[] : Array Value).toList.reverse >>= fun _ => Builtin.List.listExtendWith (.ref S) (.bytes x t) .none) _ _ s
  refine wpAny_bind (wpAny_updateSeq hS rfl ?_)
  have hS₂ := Heap.get?_update_self (Obj.mapSeq (fun _ => (#[] : Array Value))) hS rfl
  have oth : ∀ b o, b ≠ S → s.heap.get? b = some o → (s.heap.update S (Obj.mapSeq (fun _ => (#[] : Array Value)))).get? b = some o :=
    fun b o hb e => (Heap.get?_update_other _ _ (Ne.symm hb)).trans e
  refine wpAny_bind (wpAny_letGo ?_)
  refine extend_bytes (hn := hn) hh x t S .none _ hS₂ fun h' tk acc' c' hk hS' hacc => ?_
  exact hR h' tk acc' c' (fun b o hb e => hk b o hb (oth b o hb e)) hS' hacc

theorem call_list_bytes {Q : Value → Shared → Prop} (hh : A.handled = none) (x : Array UInt8) (t : Tok)
    (hQ : ∀ h' tk acc' c', (∀ b o, s.heap.get? b = some o → h'.get? b = some o) →
      h'.get? s.heap.objs.size = some { cls := .type "list", dict := none, data := .seq acc' c', slots := #[] } → ItemsOf (OctAt x) acc' x.size → Q (.ref s.heap.objs.size) { s with heap := h', toks := tk }) (hn : x.size ≤ sizeLine) :
    wpAny (model prog w) A (call (.type "list") [.bytes x t]) Q E s := by
  refine callType_codes (Q₁ := fun obj s₁ => obj = .ref s.heap.objs.size ∧ s₁ = { s with heap := s.heap.push { cls := .type "list", data := .seq #[] } }) F.called_list (F.typeCall_list_1 _) F.entry_list_init
    (code_list_new _ ⟨rfl, rfl⟩) fun obj s₁ h₁ => ?_
  obtain ⟨rfl, rfl⟩ := h₁
  have hS : (s.heap.push { cls := .type "list", data := .seq #[] }).get? s.heap.objs.size = some { cls := .type "list", data := .seq #[] } := Heap.get?_push_size _ rfl
  refine ⟨⟨_, hS, rfl⟩, F.args_list_init_2 _ _, list_init_bytes (A := A.in1) (hn := hn) hh x t _ hS fun h' tk acc' c' hk hS' hacc => ?_⟩
  exact ⟨rfl, hQ h' tk acc' c' (fun b o e => hk b o (Nat.ne_of_lt (Heap.lt_size e)) (Heap.get?_push_of_some _ e)) hS' hacc⟩

theorem octs_ints : ∀ (l : List UInt8) (acc : List Value), acc.length = l.length → (∀ (j : Nat) (v : Value), acc[j]? = some v → ∃ (c : UInt8) (u : Tok), l[j]? = some c ∧ v = Value.int (c.toNat : Int) u) → IntsAre acc (l.map fun c => (c.toNat : Int))
  | [], [], _, _ => .nil
  | c :: l, v :: acc, hl, h => by
    obtain ⟨c', u, hc, rfl⟩ := h 0 v rfl
    cases Option.some.inj hc
    exact .cons _ _ (octs_ints l acc (by simpa using hl) fun j v hj => h (j + 1) v (by simpa using hj))
  | [], _ :: _, hl, _ => by simp at hl
  | _ :: _, [], hl, _ => by simp at hl

theorem list_bytes_K {h₀ : Heap} {L : Addr} {m : Str → Option Value} {news : List (Addr × Obj)} {x : Array UInt8} {t : Tok} {ks : List Int} {Q : Value → Shared → Prop} (hh : A.handled = none) (F : Fr h₀ L s.heap m) (N : News h₀ L s.heap news) (hk : KBw.bInts x = ks) (hn : ks.length ≤ 1000)
    (h : ∀ D us c h' tk, Fr h₀ L h' m → News h₀ L h' ((D, listOf us.toArray c) :: news) → IntsAre us ks → (∀ p ∈ news, p.1 < D) → Q (.ref D) { s with heap := h', toks := tk }) :
    wpAny (model prog w) A (call (.type "list") [.bytes x t]) Q E s := by
  subst hk
  refine call_list_bytes hh x t (fun h' tk acc' c' hkp hS hacc => ?_) (by rw [KBw.ints_length] at hn; rw [sizeLine_eq]; omega)
  have F' := F.keptAll hkp
  have N' := N.grown hkp
  have hfree : h₀.get? s.heap.objs.size = none := by
    cases hq : h₀.get? s.heap.objs.size with
    | none => rfl
    | some o => exact absurd (Heap.lt_size (F.keep _ _ hq)) (Nat.lt_irrefl _)
  refine h s.heap.objs.size acc'.toList c' h' tk F' ?_ ?_ (fun p hp => Heap.lt_size (N p hp).1)
  · intro p hp
    rcases List.mem_cons.mp hp with rfl | hp
    · exact ⟨by simpa using hS, Nat.ne_of_gt F.ns.lt, hfree⟩
    · exact N' p hp
  · exact octs_ints x.toList acc'.toList (by simpa using hacc.1) fun j v hj => by
      obtain ⟨c, u, hc, e⟩ := hacc.2 j v (by simpa using hj)
      exact ⟨c, u, by simpa using hc, e⟩
end
end Mine

-- part PBase
namespace Mine
open PySem PySem.W PyProof.Rows PySem.Spec PySem.Calls
theorem set_back_PBase : True := by
  w_top off
  k_with_none
  trivial

/-- the parser's run, fuel by fuel; none: out of fuel, or a step that is not safe -/
def runP (pl : Int → Option Int) (first : Int) : Nat → List Int → List Int → List Int → Int → Int → Option (Option (List Int))
  | k + 1, top :: st, c :: r, oct, n, b =>
    if ¬ (st.length ≤ 20 ∧ r.length ≤ 200 ∧ oct.length ≤ 200) then none
    else if top = 0 then some (if c :: r = [0] then some oct else none)
    else if top = first + 3 then
      (if 0 ≤ n ∧ n < 2 ^ 120 ∧ 0 ≤ b ∧ b < 200 then (match pl c with
        | some v => if 0 ≤ v ∧ v < 64 then runP pl first k (c :: st) (c :: r) oct (n * 64 + v) (b + 6) else none
        | none => some none) else none)
    else if top = first then runP pl first k ((if c = 0 then [0] else [first + 3, first + 3, 255 - first, first + 1]) ++ st) (c :: r) oct n b
    else if top = first + 1 then runP pl first k ((if c = 61 then [61, 61, 0] else [first + 3, 255 - first, first + 2]) ++ st) (c :: r) oct n b
    else if top = first + 2 then runP pl first k ((if c = 61 then [61, 0] else [first + 3, 255 - first, first]) ++ st) (c :: r) oct n b
    else if top = 255 - first then
      (if 8 ≤ b ∧ b < 200 ∧ 0 ≤ n ∧ n < 2 ^ 126 then runP pl first k st (c :: r) (oct ++ [(n / 2 ^ (b - 8).toNat) % 256]) n (b - 8) else none)
    else if 0 < top ∧ top < 256 then (if top = c then runP pl first k st r oct n b else some none)
    else none
  | _, _, _, _, _, _ => none

section
variable {prog : Program} {w : World} {A : Around} {E : Value → Shared → Prop} {s : Shared} {h₀ : Heap} {L l : Addr} {news : List (Addr × Obj)}
theorem item_head {value slice : PySem.Expr} {v : Value} {vs : List Value} {c : Nat} {u : Tok} {Q : Value → Shared → Prop} (N : News h₀ L s.heap news) (hm : (l, listOf (v :: vs).toArray c) ∈ news) (h : Q v s)
    (hs : subscripted slice false (.ref l) (.int 0 u) = operate [.ref l, .int 0 u] (getItem (.ref l) (.int 0 u)) := by with_unfolding_all rfl) :
    wpAny (model prog w) A (subscriptTail value slice (.ref l) (.int 0 u)) Q E s :=
  have hl : s.heap.IsList l (v :: vs).toArray := ⟨_, (N _ hm).1, rfl, c, rfl⟩
  tail_any hl.typeIs slot_list_getitem.lookup (wpAny_getItem_list hl (by decide) (by decide) (by simp) h) hs
theorem in_yes {pd : Addr} {od : Obj} {kvs : List (Int × Value)} {i : Int} {t : Tok} {x : Value} {Q : Value → Shared → Prop} (N : News h₀ L s.heap news) (hm : (pd, od) ∈ news) (hD : od.IsDictOf (intKind prog w) kvs) (hpd : (pd == sysModules) = false) (hv : valueAt kvs i = some x)
    (h : Q (.bool true) { s with toks := s.toks + 1 }) : wpAny (model prog w) A (compareOp .In (.int i t) (.ref pd)) Q E s :=
  wpAny_in_of (intKind_is prog w i t) hpd (Heap.dictOf_iff.mpr ⟨od, (N _ hm).1, hD⟩).mapOf (by rw [hv]; exact h)
theorem in_no {pd : Addr} {od : Obj} {kvs : List (Int × Value)} {i : Int} {t : Tok} {Q : Value → Shared → Prop} (N : News h₀ L s.heap news) (hm : (pd, od) ∈ news) (hD : od.IsDictOf (intKind prog w) kvs) (hpd : (pd == sysModules) = false) (hv : valueAt kvs i = none)
    (h : Q (.bool false) { s with toks := s.toks + 1 }) : wpAny (model prog w) A (compareOp .In (.int i t) (.ref pd)) Q E s :=
  wpAny_in_of (intKind_is prog w i t) hpd (Heap.dictOf_iff.mpr ⟨od, (N _ hm).1, hD⟩).mapOf (by rw [hv]; exact h)
theorem item_pl {value slice : PySem.Expr} {pd : Addr} {od : Obj} {kvs : List (Int × Value)} {i : Int} {t : Tok} {x : Value} {Q : Value → Shared → Prop} (N : News h₀ L s.heap news) (hm : (pd, od) ∈ news) (hD : od.IsDictOf (intKind prog w) kvs) (hv : valueAt kvs i = some x)
    (h : Q x { s with toks := s.toks + 1 })
    (hs : subscripted slice false (.ref pd) (.int i t) = operate [.ref pd, .int i t] (getItem (.ref pd) (.int i t)) := by with_unfolding_all rfl) (hg : ∀ r, letTemporaryGo value (.ref pd) r = pure () := by intro _; with_unfolding_all rfl) :
    wpAny (model prog w) A (subscriptTail value slice (.ref pd) (.int i t)) Q E s :=
  have hd := Heap.dictOf_iff.mpr ⟨od, (N _ hm).1, hD⟩
  subscriptTail_builtin hd.typeIs slot_dict_getitem.lookup (wpAny_getItem_of (intKind_is prog w i t) hd.mapOf hv h) hs hg
theorem item_at {value slice : PySem.Expr} {v : Value} {vs : Array Value} {c : Nat} {i : Int} {u : Tok} {Q : Value → Shared → Prop} (k : Nat) (N : News h₀ L s.heap news) (hm : (l, listOf vs c) ∈ news) (hi : i = (k : Int)) (hk : k < 8) (hx : vs[k]? = some v) (h : Q v s)
    (hs : subscripted slice false (.ref l) (.int i u) = operate [.ref l, .int i u] (getItem (.ref l) (.int i u)) := by with_unfolding_all rfl) :
    wpAny (model prog w) A (subscriptTail value slice (.ref l) (.int i u)) Q E s :=
  have hl : s.heap.IsList l vs := ⟨_, (N _ hm).1, rfl, c, rfl⟩
  tail_any hl.typeIs slot_list_getitem.lookup (wpAny_getItem_list hl (by omega) (by omega) (by subst hi; simpa using hx) h) hs
section
variable {value slice : PySem.Expr} {x0 x1 x2 : Value} {c : Nat} {i : Int} {u : Tok} {Q : Value → Shared → Prop}
theorem item3a (N : News h₀ L s.heap news) (hm : (l, listOf #[x0, x1, x2] c) ∈ news) (hi : i = ((0 : Nat) : Int)) (h : Q x0 s)
    (hs : subscripted slice false (.ref l) (.int i u) = operate [.ref l, .int i u] (getItem (.ref l) (.int i u)) := by with_unfolding_all rfl) : wpAny (model prog w) A (subscriptTail value slice (.ref l) (.int i u)) Q E s := item_at 0 N hm hi (by decide) rfl h hs
theorem item3b (N : News h₀ L s.heap news) (hm : (l, listOf #[x0, x1, x2] c) ∈ news) (hi : i = ((1 : Nat) : Int)) (h : Q x1 s)
    (hs : subscripted slice false (.ref l) (.int i u) = operate [.ref l, .int i u] (getItem (.ref l) (.int i u)) := by with_unfolding_all rfl) : wpAny (model prog w) A (subscriptTail value slice (.ref l) (.int i u)) Q E s := item_at 1 N hm hi (by decide) rfl h hs
theorem item3c (N : News h₀ L s.heap news) (hm : (l, listOf #[x0, x1, x2] c) ∈ news) (hi : i = ((2 : Nat) : Int)) (h : Q x2 s)
    (hs : subscripted slice false (.ref l) (.int i u) = operate [.ref l, .int i u] (getItem (.ref l) (.int i u)) := by with_unfolding_all rfl) : wpAny (model prog w) A (subscriptTail value slice (.ref l) (.int i u)) Q E s := item_at 2 N hm hi (by decide) rfl h hs
end
variable {a b : Int} {t u : Tok} {Q : Value → Shared → Prop}
theorem lt_yes (h : a < b) (q : Q (.bool true) s) : wpAny (model prog w) A (compareOp .Lt (.int a t) (.int b u)) Q E s := PyProof.Rows.lt_int (by rw [decide_eq_true h]; exact q)
theorem lt_no (h : ¬ a < b) (q : Q (.bool false) s) : wpAny (model prog w) A (compareOp .Lt (.int a t) (.int b u)) Q E s := PyProof.Rows.lt_int (by rw [decide_eq_false h]; exact q)
theorem ge_yes (h : b ≤ a) (q : Q (.bool true) s) : wpAny (model prog w) A (compareOp .GtE (.int a t) (.int b u)) Q E s := PyProof.Rows.ge_int (by rw [decide_eq_true h]; exact q)
theorem ge_no (h : ¬ b ≤ a) (q : Q (.bool false) s) : wpAny (model prog w) A (compareOp .GtE (.int a t) (.int b u)) Q E s := PyProof.Rows.ge_int (by rw [decide_eq_false h]; exact q)
theorem eq_yes (h : a = b) (q : Q (.bool true) s) : wpAny (model prog w) A (compareOp .Eq (.int a t) (.int b u)) Q E s := PyProof.Rows.eq_int (by rw [beq_iff_eq.mpr h]; exact q)
theorem eq_no (h : ¬ a = b) (q : Q (.bool false) s) : wpAny (model prog w) A (compareOp .Eq (.int a t) (.int b u)) Q E s := PyProof.Rows.eq_int (by rw [beq_eq_false_iff_ne.mpr h]; exact q)
theorem ne_no (h : a = b) (q : Q (.bool false) s) : wpAny (model prog w) A (compareOp .NotEq (.int a t) (.int b u)) Q E s := PyProof.Rows.ne_int (by rw [bne, beq_iff_eq.mpr h]; exact q)
theorem ne_yes (h : ¬ a = b) (q : Q (.bool true) s) : wpAny (model prog w) A (compareOp .NotEq (.int a t) (.int b u)) Q E s := PyProof.Rows.ne_int (by rw [bne, beq_eq_false_iff_ne.mpr h]; exact q)
end

theorem and255 : ∀ v : Nat, Builtin.bitAnd (v : Int) 255 = (v : Int) % 256 := by
  intro v
  have h : Builtin.bitAnd (v : Int) 255 = ((v &&& 255 : Nat) : Int) := rfl
  rw [h, show (255 : Nat) = 2 ^ 8 - 1 from rfl, Nat.and_two_pow_sub_one_eq_mod]
  simp
theorem deed_oct {n b : Int} (n0 : 0 ≤ n) : Builtin.bitAnd (n.fdiv (2 ^ (b - 8).toNat)) 255 = (n / 2 ^ (b - 8).toNat) % 256 := by
  have hp : (0 : Int) ≤ 2 ^ (b - 8).toNat := Int.le_of_lt (Int.pow_pos (by decide))
  have h0 : 0 ≤ n / 2 ^ (b - 8).toNat := Int.ediv_nonneg n0 hp
  rw [Int.fdiv_eq_ediv_of_nonneg _ hp]
  have := and255 (n / 2 ^ (b - 8).toNat).toNat
  rwa [Int.toNat_of_nonneg h0] at this
theorem deed_keep {pl : Int → Option Int} {first : Int} {k : Nat} {st row oct : List Int} {n b : Int} {res : Option (List Int)} (n0 : 0 ≤ n)
    (hP : runP pl first k st row (oct ++ [(n / 2 ^ (b - 8).toNat) % 256]) n (b - 8) = some res) (hIn : KBa.In oct) :
    runP pl first k st row (oct ++ [Builtin.bitAnd (n.fdiv (2 ^ (b - 8).toNat)) 255]) n (b - 8) = some res ∧ KBa.In (oct ++ [Builtin.bitAnd (n.fdiv (2 ^ (b - 8).toNat)) 255]) := by
  rw [deed_oct n0]
  exact ⟨hP, in_snoc hIn (by omega) (by omega)⟩

structure PSt where
  (k : Nat) (lS : Addr) (vS : List Value) (cS : Nat) (stk : List Int) (lR : Addr) (vR : List Value) (cR : Nat) (row : List Int) (lO : Addr) (vO : List Value) (cO : Nat) (oct : List Int) (num : Int) (tn : Nat) (bits : Int) (tb : Nat)

def pLed (nws : List (Addr × Obj)) (c : PSt) : List (Addr × Obj) := (c.lS, listOf c.vS.toArray c.cS) :: (c.lR, listOf c.vR.toArray c.cR) :: (c.lO, listOf c.vO.toArray c.cO) :: nws
def pPs (c : PSt) : List (Str × Value) := [(Str.ofString "stack", .ref c.lS), (Str.ofString "row", .ref c.lR), (Str.ofString "octets", .ref c.lO), (Str.ofString "number", .int c.num c.tn), (Str.ofString "bits", .int c.bits c.tb)]
def pFacts (c : PSt) : Prop := IntsAre c.vS c.stk ∧ IntsAre c.vR c.row ∧ IntsAre c.vO c.oct
def pStored : List Str := [Str.ofString "top", Str.ofString "kind", Str.ofString "pair"]
abbrev PInv := Nat → List Int → List Int → List Int → Int → Int → Prop
def pP (P : PInv) (c : PSt) : Prop := P c.k c.stk c.row c.oct c.num c.bits
def pMu (c : PSt) : Nat := c.k

section
variable {prog : Program} {w : World} {A : Around} {E : Value → Shared → Prop} {Q : Flow → Shared → Prop} {s : Shared} {env : Env} {h₀ : Heap} {L : Addr}

def pMap (lS lR lO : Addr) (num : Int) (tn : Nat) (bits : Int) (tb : Nat) (u m₀ : Str → Option Value) : Str → Option Value :=
  fun y => if y = Str.ofString "stack" then some (.ref lS) else if y = Str.ofString "row" then some (.ref lR) else if y = Str.ofString "octets" then some (.ref lO)
    else if y = Str.ofString "number" then some (.int num tn) else if y = Str.ofString "bits" then some (.int bits tb)
    else if y = Str.ofString "top" then u y else if y = Str.ofString "kind" then u y else if y = Str.ofString "pair" then u y else m₀ y

abbrev PTurn (prog : Program) (w : World) (A : Around) (E : Value → Shared → Prop) (Q : Flow → Shared → Prop) (s : Shared) (env : Env) (h₀ : Heap) (L : Addr) (test : Expr) (body : List Stmt) (m₀ : Str → Option Value) (nws : List (Addr × Obj)) (P : PInv) : Prop :=
  ∀ k lS vS cS stk lR vR cR row lO vO cO oct num tn bits tb (u : Str → Option Value) h tk, IntsAre vS stk → IntsAre vR row → IntsAre vO oct → P k stk row oct num bits →
      Fr h₀ L h (pMap lS lR lO num tn bits tb u m₀) → News h₀ L h ((lS, listOf vS.toArray cS) :: (lR, listOf vR.toArray cR) :: (lO, listOf vO.toArray cO) :: nws) →
      wpAny (model prog w) A (isTrue test env (eval test env)) (fun b s₂ =>
        if b = true then wpAny (model prog w) A (execs body env) (KswPost h₀ L s (pLed nws) pPs pFacts pStored m₀ (pP P) pMu Q ⟨k, lS, vS, cS, stk, lR, vR, cR, row, lO, vO, cO, oct, num, tn, bits, tb⟩) E s₂ else Q .next s₂) E { s with heap := h, toks := tk }

theorem pMap_eq {c : PSt} {u m₀ : Str → Option Value} : pMap c.lS c.lR c.lO c.num c.tn c.bits c.tb u m₀ = kstB (fun z => if pStored.contains z then u z else m₀ z) (pPs c) := by
      funext y
      simp only [pMap, kstB, pPs, pStored, List.contains_cons, List.contains_nil, Bool.or_false, Bool.or_eq_true, beq_iff_eq]
      by_cases e1 : y = Str.ofString "stack"
      · simp [e1]
      by_cases e2 : y = Str.ofString "row"
      · simp [e2]
      by_cases e3 : y = Str.ofString "octets"
      · simp [e3]
      by_cases e4 : y = Str.ofString "number"
      · simp [e4]
      by_cases e5 : y = Str.ofString "bits"
      · simp [e5]
      simp only [e1, e2, e3, e4, e5, if_false]
      by_cases e6 : y = Str.ofString "top"
      · simp [e6]
      by_cases e7 : y = Str.ofString "kind"
      · simp [e7]
      by_cases e8 : y = Str.ofString "pair"
      · simp [e8]
      simp [e6, e7, e8]

structure PTurnS (prog : Program) (w : World) (A : Around) (E : Value → Shared → Prop) (Q : Flow → Shared → Prop) (s : Shared) (env : Env) (h₀ : Heap) (L : Addr) (test : Expr) (body : List Stmt) (m₀ : Str → Option Value) (nws : List (Addr × Obj)) (P : PInv) : Prop where
  get : PTurn prog w A E Q s env h₀ L test body m₀ nws P

theorem p_whileN {test : Expr} {body : List Stmt} {pos : Pos} {m₀ : Str → Option Value} {nws : List (Addr × Obj)} {t z y : Addr × Obj} (P : PInv) (k : Nat) {lS vS cS stk lR vR cR row lO vO cO oct num tn bits tb}
    (F : Fr h₀ L s.heap m₀) (N : News h₀ L s.heap (t :: (lO, listOf vO cO) :: (lS, listOf vS cS) :: (lR, listOf vR cR) :: z :: y :: nws))
    (k1 : m₀ (Str.ofString "stack") = some (.ref lS)) (k2 : m₀ (Str.ofString "row") = some (.ref lR)) (k3 : m₀ (Str.ofString "octets") = some (.ref lO)) (k4 : m₀ (Str.ofString "number") = some (.int num tn)) (k5 : m₀ (Str.ofString "bits") = some (.int bits tb))
    (i1 : IntsAre vS.toList stk) (i2 : IntsAre vR.toList row) (i3 : IntsAre vO.toList oct) (hp : P k stk row oct num bits)
    (turn : PTurnS prog w A E Q s env h₀ L test body m₀ nws P) (hE : PassesOwn (model prog w) A env E) :
    wpAny (model prog w) A (exec (.While test body [] pos) env) Q E s := by
  refine ksw_while (σ := PSt) (pLed nws) pPs pFacts pStored (pP P) pMu ⟨k, lS, vS.toList, cS, stk, lR, vR.toList, cR, row, lO, vO.toList, cO, oct, num, tn, bits, tb⟩ F ?_ ⟨i1, i2, i3⟩ ?_ hp ?_ hE
  · intro p hp
    simp only [pLed, List.mem_cons] at hp
    rcases hp with rfl | rfl | rfl | hp
    · exact N _ (by simp)
    · exact N _ (by simp)
    · exact N _ (by simp)
    · exact N _ (by simp [hp])
  · intro p hp
    simp only [pPs, List.mem_cons, List.not_mem_nil, or_false] at hp
    rcases hp with rfl | rfl | rfl | rfl | rfl
    · exact k1
    · exact k2
    · exact k3
    · exact k4
    · exact k5
  · intro c u h tk hf hP F' N'
    refine turn.get c.k c.lS c.vS c.cS c.stk c.lR c.vR c.cR c.row c.lO c.vO c.cO c.oct c.num c.tn c.bits c.tb u h tk hf.1 hf.2.1 hf.2.2 hP ?_ N'
    rw [pMap_eq]
    exact F'

theorem p_end {nws : List (Addr × Obj)} {m₀ m' : Str → Option Value} {P : PInv} {c : PSt} {h' : Heap} {tk : Nat} {news' : List (Addr × Obj)} {k lS vS cS stk lR vR cR row lO vO cO oct num tn bits tb}
    (F : Fr h₀ L h' m') (N : News h₀ L h' news') (hn : ∀ p ∈ nws, p ∈ news')
    (k1 : m' (Str.ofString "stack") = some (.ref lS)) (k2 : m' (Str.ofString "row") = some (.ref lR)) (k3 : m' (Str.ofString "octets") = some (.ref lO)) (k4 : m' (Str.ofString "number") = some (.int num tn)) (k5 : m' (Str.ofString "bits") = some (.int bits tb))
    (h1 : (lS, listOf vS cS) ∈ news') (h2 : (lR, listOf vR cR) ∈ news') (h3 : (lO, listOf vO cO) ∈ news')
    (i1 : IntsAre vS.toList stk) (i2 : IntsAre vR.toList row) (i3 : IntsAre vO.toList oct)
    (hr : ∀ z, z ≠ Str.ofString "stack" → z ≠ Str.ofString "row" → z ≠ Str.ofString "octets" → z ≠ Str.ofString "number" → z ≠ Str.ofString "bits" → z ≠ Str.ofString "top" → z ≠ Str.ofString "kind" → z ≠ Str.ofString "pair" → m' z = m₀ z)
    (hp : P k stk row oct num bits) (hm : k < c.k) :
    KswEnd h₀ L s (pLed nws) pPs pFacts pStored m₀ (pP P) pMu c { s with heap := h', toks := tk } := by
  refine ksw_end (σ := PSt) ⟨k, lS, vS.toList, cS, stk, lR, vR.toList, cR, row, lO, vO.toList, cO, oct, num, tn, bits, tb⟩ F N ?_ ⟨i1, i2, i3⟩ ?_ ?_ hp hm
  · intro p hp
    simp only [pLed, List.mem_cons] at hp
    rcases hp with rfl | rfl | rfl | hp
    · simpa using h1
    · simpa using h2
    · simpa using h3
    · exact hn _ hp
  · intro p hp
    simp only [pPs, List.mem_cons, List.not_mem_nil, or_false] at hp
    rcases hp with rfl | rfl | rfl | rfl | rfl
    · exact k1
    · exact k2
    · exact k3
    · exact k4
    · exact k5
  · intro z h2 h3
    simp only [pPs, List.forall_mem_cons, ne_eq] at h2
    simp only [pStored, List.contains_cons, List.contains_nil, Bool.or_false, Bool.or_eq_false_iff, beq_eq_false_iff_ne, ne_eq] at h3
    exact hr z h2.1 h2.2.1 h2.2.2.1 h2.2.2.2.1 h2.2.2.2.2.1 h3.1 h3.2.1 h3.2.2
end
end Mine

-- part P2
namespace Mine
open PySem PySem.W PyProof.Rows PySem.Spec PySem.Calls
theorem set_back_P2 : True := by
  w_top off
  k_with_none
  trivial
local macro_rules | `(tactic| walk_at $s:str) => `(tactic| k_extra $s)
local macro_rules | `(tactic| k_mem) => `(tactic| (with_reducible assumption))
structure Mk (n : Nat) : Prop where
structure Halt2 (P : Prop) : Prop where
  get : P
set_option maxHeartbeats 8000000 in
theorem parsed (w : World) (pl : Int → Option Int) (fuel : Nat) (res : Option (List Int)) (loose : List Str) (mean : ExcName → Option Value) (mg mb : Str → Option Value)
  (env : Env) (h₀ : Heap) (L : Addr) (m : Str → Option Value) (news : List (Addr × Obj)) (s : Shared) (Q E : Value → Shared → Prop)
  (bb : Array UInt8) (tb tf : Tok) (pd : Addr) (od : Obj) (kvs : List (Int × Value)) (first : Int) (ks : List Int)
  (B : Below callerA h₀ [] h₀) (F : Fr h₀ L s.heap m) (X : (hd.heap_39 w.params).In h₀) (N : News h₀ L s.heap news) (T : Top hd.view_39 loose mean mg mb h₀) (hf : env.frame = some L) (hk : env.scope.kind = .function)
  (hks : KBw.bInts bb = ks) (hsz : ks.length ≤ 100) (hfirst : 256 ≤ first) (hd : (pd, od) ∈ news) (hD : od.IsDictOf (intKind PySem.Challenge.rw_pa0020_01.row.prog w) kvs)
  (hpd : (pd == sysModules) = false) (hpl : ∀ i, (∀ v, pl i = some v → ∃ t, valueAt kvs i = some (.int v t)) ∧ (pl i = none → valueAt kvs i = none))
  (hrun : runP pl first fuel [first] (ks ++ [0]) [] 0 0 = some res)
  (hret : ∀ ns, res = some ns → ∀ b' t h' tk', KBw.bInts b' = ns → Fr h₀ L h' m → News h₀ L h' news → Q (.bytes b' t) { s with heap := h', toks := tk' })
  (hnone : res = none → ∀ h' tk', Fr h₀ L h' m → News h₀ L h' news → Q .none { s with heap := h', toks := tk' }) :
  wpAny (model PySem.Challenge.rw_pa0020_01.row.prog w) (callerA.deeper env) (call (.ref 107) [.bytes bb tb, .ref pd, .int first tf]) Q E s := by
  k_with_none
  k_with "call type:list" => ((k_here; (with_reducible show wpAny _ _ (call (Value.type "list") [Value.bytes _ _]) _ _ _); k_dflt (refine' list_bytes_K rfl ?zzF ?zzN ?zzhk ?zzhn ?_; (case zzF => k_asm); (case zzN => k_asm); (case zzhk => assumption); (case zzhn => omega); k_whole); intro D' us' c' h' tk' F' N' I' l1; (try k_lt l1); (try k_sweep)))
  k_with "subscriptTail Name Constant ref int" => ((k_here; (with_reducible show wpAny _ _ (subscriptTail _ _ (Value.ref _) (Value.int 0 _)) _ _ _); k_dflt (refine' item_head ?zzN ?zzm ?_ ?zzh; (case zzN => k_asm); (case zzm => k_mem); (case zzh => with_unfolding_all rfl); k_whole)))
  k_with "compareOp Lt int int" => (first | (refine lt_yes (by with_reducible assumption) ?_) | (refine lt_no (by with_reducible assumption) ?_))
  k_with "compareOp GtE int int" => (first | (refine ge_yes (by with_reducible assumption) ?_) | (refine ge_no (by with_reducible assumption) ?_))
  k_with "compareOp Eq int int" => (first | (refine eq_yes (by with_reducible assumption) ?_) | (refine eq_no (by with_reducible assumption) ?_))
  k_with "compareOp NotEq int int" => (first | (refine ne_no (by with_reducible assumption) ?_) | (refine ne_yes (by with_reducible assumption) ?_))
  k_with "subscriptTail Name BinOp ref int" => ((k_here; k_dflt (first
  | (refine' item3a ?zzN ?zzm ?zzi ?_ ?zzh; (case zzN => k_asm); (case zzm => k_mem); (case zzi => with_reducible assumption); (case zzh => with_unfolding_all rfl); k_whole)
  | (refine' item3b ?zzN ?zzm ?zzi ?_ ?zzh; (case zzN => k_asm); (case zzm => k_mem); (case zzi => with_reducible assumption); (case zzh => with_unfolding_all rfl); k_whole)
  | (refine' item3c ?zzN ?zzm ?zzi ?_ ?zzh; (case zzN => k_asm); (case zzm => k_mem); (case zzi => with_reducible assumption); (case zzh => with_unfolding_all rfl); k_whole))))
  k_with "compareOp In int ref" => ((k_here; k_dflt (first | (refine' in_yes ?zzN ?zzm ?zzD ?zzp ?zzv ?_; (case zzN => k_asm); (case zzm => k_mem); (case zzD => assumption); (case zzp => assumption); (case zzv => assumption); k_whole) | (refine' in_no ?zzN ?zzm ?zzD ?zzp ?zzv ?_; (case zzN => k_asm); (case zzm => k_mem); (case zzD => assumption); (case zzp => assumption); (case zzv => assumption); k_whole))))
  k_with "subscriptTail Name Subscript ref int" => ((k_here; k_dflt (refine' item_pl ?zzN ?zzm ?zzD ?zzv ?_ ?zzs ?zzg; (case zzN => k_asm); (case zzm => k_mem); (case zzD => assumption); (case zzv => assumption); (case zzs => with_unfolding_all rfl); (case zzg => (intro _; with_unfolding_all rfl)); k_whole)))
  k_with "KswEnd" => (((rename News _ _ _ _ => nE'); (rename Fr _ _ _ _ => fE'); (refine' p_end fE' nE' ?zke0 ?zke1 ?zke2 ?zke3 ?zke4 ?zke5 ?zkh1 ?zkh2 ?zkh3 ?zki1 ?zki2 ?zki3 ?zkr ?_ ?zkm); (case zke1 => with_unfolding_all rfl); (case zke2 => with_unfolding_all rfl); (case zke3 => with_unfolding_all rfl); (case zke4 => with_unfolding_all rfl); (case zke5 => with_unfolding_all rfl); (case zke0 => kst_inAny); (case zkh1 => k_mem); (case zkh2 => k_mem); (case zkh3 => k_mem); (case zki1 => first | l_ints | assumption); (case zki2 => first | l_ints | assumption); (case zki3 => first | l_ints | assumption); (case zkr => (intro z z1 z2 z3 z4 z5 z6 z7 z8; simp only [z1, z2, z3, z4, z5, z6, z7, z8, if_false])); (case zkm => exact Nat.lt_succ_self _)))
  k_with "exec If" => ((rename Mk 1 => pm9); clear pm9; refine Halt2.get ?_)
  k_with "exec If BoolOp" => ((rename Mk 2 => pm9); clear pm9; refine Halt2.get ?_)
  k_with "subscriptTail Name BinOp ref int" => ((rename Mk 3 => pm9); clear pm9; refine Halt2.get ?_)
  k_with "compareOp NotEq int int" => ((rename Mk 4 => pm9); clear pm9; refine Halt2.get ?_)
  k_with "compareOp Eq int int" => ((rename Mk 5 => pm9); clear pm9; refine Halt2.get ?_)
  revert X; k_fill; intro X
  refine wpAny_call ?_
  k_dflt (refine' code_def ?k1 ?k2 ?k3 ?k4 ?k5 ?kA ?kF ?kK ?k6 ?k7 ?k8 ?k9 ?kB ?_ ?c2 ?c3 ?c4 ?c5; (case kA => exact rfl); (case kF => assumption); (case kK => assumption); (case k1 => k_asm); (case k2 => k_asm); (case k3 => k_asm); (case k4 => k_asm); (case k5 => k_asm); (case k6 => k_is); (case k7 => k_is); (case k8 => k_room); (case k9 => first | exact binds_K (by k_in) rfl (by k_is) rfl rfl rfl | exact BindsTo.of_eq rfl); (case c5 => decide); (case kB => exact locs rfl); (case c2 => exact rfl); (case c3 => exact rfl); (case c4 => exact rfl); k_whole; intro g' L' h' FG' F' N' B' X' T'; (try dsimp only); (try k_lift B'); (try k_fold))
  k_with "exec While Compare cons nil" => (rename Fr _ _ _ _ => F9; rename News _ _ _ _ => N9; refine' p_whileN (fun k stk row oct num bits => runP pl first k stk row oct num bits = some res ∧ KBa.In oct) fuel F9 N9 ?zwk1 ?zwk2 ?zwk3 ?zwk4 ?zwk5 ?zwi1 ?zwi2 ?zwi3 ?zwhp ?_ ?zwhE; (case zwk1 => with_unfolding_all rfl); (case zwk2 => with_unfolding_all rfl); (case zwk3 => with_unfolding_all rfl); (case zwk4 => with_unfolding_all rfl); (case zwk5 => with_unfolding_all rfl); (case zwhE => passes_own); (case zwi1 => exact .cons _ _ .nil); (case zwi2 => assumption); (case zwi3 => exact .nil); (case zwhp => exact ⟨hrun, by simp [KBa.In]⟩); clear F9 N9)
  k_steps
  · refine PTurnS.mk ?_
    repeat (rename ((_ : Nat) < (_ : Nat) ∧ _) => hz; clear hz)
    intro k lS vS cS stk lR vR cR row lO vO cO oct num tn bits tb u h tk iS iR iO hPI F9 N9
    obtain ⟨hP, hIn⟩ := hPI
    cases k with
    | zero => simp [runP] at hP
    | succ k =>
    cases iS with
    | nil => simp [runP] at hP
    | @cons top tt vS' st iS =>
    cases iR with
    | nil => simp [runP] at hP
    | @cons c tc vR' r iR =>
    have kMark := kstMark
    have hdm : List.Mem (pd, od) news := hd
    unfold pMap at F9
    unfold runP at hP
    by_cases eg : (st.length ≤ 20 ∧ r.length ≤ 200 ∧ oct.length ≤ 200)
    · rw [if_neg (fun q => q eg)] at hP
      obtain ⟨g1, g2, g3⟩ := eg
      have pm := (Mk.mk : Mk 1)
      (try k_fold)
      k_steps
      all_goals try (exfalso; rename (decide (_ :: _ = []) = true) => hz; simp at hz; done)
      refine Halt2.mk ?_
      repeat (rename ((_ : Nat) < (_ : Nat) ∧ _) => hz; clear hz)
      rename News _ _ _ _ => N9
      by_cases e0 : top = 0
      · rw [if_pos e0] at hP
        subst e0
        rw [show decide ((0 : Int) < 256) = true from rfl, show decide ((256 : Int) ≤ 0) = false from rfl, show ((0 : Int) == 0) = true from rfl] at N9
        k_steps
        all_goals try (exfalso; rename (decide (_ :: _ = []) = true) => hz; simp at hz; done)
        all_goals try (rename News _ _ _ _ => nE'; rename (_ :: _ = [(0 : Int)]) => hz; rw [if_pos hz] at hP; exact hret _ (Option.some.inj hP).symm _ _ _ _ (KBa.ints_make hIn) (by assumption) (fun p hp => nE' p (by repeat first | exact hp | refine List.mem_cons_of_mem _ ?_)))
        all_goals try (rename News _ _ _ _ => nE'; rename (¬ (_ :: _ = [(0 : Int)])) => hz; rw [if_neg hz] at hP; exact hnone (Option.some.inj hP).symm _ _ (by assumption) (fun p hp => nE' p (by repeat first | exact hp | refine List.mem_cons_of_mem _ ?_)))
      rw [if_neg e0] at hP
      by_cases q1 : top < 256
      · have q2 : ¬ 256 ≤ top := by omega
        rw [decide_eq_true q1, decide_eq_false q2, show (top == 0) = false from beq_eq_false_iff_ne.mpr (by omega)] at N9
        rw [if_neg (show ¬ top = first + 3 by omega), if_neg (show ¬ top = first by omega), if_neg (show ¬ top = first + 1 by omega), if_neg (show ¬ top = first + 2 by omega)] at hP
        have pm := (Mk.mk : Mk 5)
        k_steps
        all_goals try (exfalso; rename (decide (_ :: _ = []) = true) => hz; simp at hz; done)
        refine Halt2.mk ?_
        by_cases e5 : top = 255 - first
        · rw [if_pos e5] at hP
          by_cases eb : 8 ≤ bits ∧ bits < 200 ∧ 0 ≤ num ∧ num < 2 ^ 126
          · rw [if_pos eb] at hP
            obtain ⟨b0, b1, n0, n1⟩ := eb
            k_steps
            all_goals try (exfalso; rename (decide (_ :: _ = []) = true) => hz; simp at hz; done)
            all_goals try (first | exact (deed_keep n0 hP hIn).1 | exact (deed_keep n0 hP hIn).2)
          · rw [if_neg eb] at hP
            cases hP
        rw [if_neg e5] at hP
        by_cases e6 : 0 < top ∧ top < 256
        · rw [if_pos e6] at hP
          obtain ⟨t0, -⟩ := e6
          refine eq_no e5 ?_
          have pm := (Mk.mk : Mk 5)
          k_steps
          all_goals try (exfalso; rename (decide (_ :: _ = []) = true) => hz; simp at hz; done)
          refine Halt2.mk ?_
          by_cases ez : top = c
          · rw [if_pos ez] at hP
            k_steps
            all_goals try (exfalso; rename (decide (_ :: _ = []) = true) => hz; simp at hz; done)
            all_goals try (first | exact hIn | exact hP | exact ⟨hP, hIn⟩)
          · rw [if_neg ez] at hP
            k_steps
            all_goals try (exfalso; rename (decide (_ :: _ = []) = true) => hz; simp at hz; done)
            all_goals try (rename News _ _ _ _ => nE'; exact hnone (Option.some.inj hP).symm _ _ (by assumption) (fun p hp => nE' p (by repeat first | exact hp | refine List.mem_cons_of_mem _ ?_)))
        · rw [if_neg e6] at hP
          cases hP
      · have q2 : 256 ≤ top := by omega
        rw [decide_eq_false q1, decide_eq_true q2, show (top == 0) = false from beq_eq_false_iff_ne.mpr (by omega)] at N9
        have pm := (Mk.mk : Mk 2)
        k_steps
        all_goals try (exfalso; rename (decide (_ :: _ = []) = true) => hz; simp at hz; done)
        refine Halt2.mk ?_
        by_cases e1 : top = first + 3
        · rw [if_pos e1] at hP
          by_cases eb : 0 ≤ num ∧ num < 2 ^ 120 ∧ 0 ≤ bits ∧ bits < 200
          · rw [if_pos eb] at hP
            obtain ⟨n0, n1, b0, b1⟩ := eb
            cases ev : pl c with
            | none =>
              have hv := (hpl c).2 ev
              rw [ev] at hP
              k_steps
              all_goals try (exfalso; rename (decide (_ :: _ = []) = true) => hz; simp at hz; done)
              all_goals try (rename News _ _ _ _ => nE'; exact hnone (Option.some.inj hP).symm _ _ (by assumption) (fun p hp => nE' p (by repeat first | exact hp | refine List.mem_cons_of_mem _ ?_)))
            | some v =>
              obtain ⟨tv, hv⟩ := (hpl c).1 v ev
              rw [ev] at hP
              dsimp only at hP
              by_cases ec : 0 ≤ v ∧ v < 64
              · rw [if_pos ec] at hP
                obtain ⟨v0, v1⟩ := ec
                k_steps
                all_goals try (exfalso; rename (decide (_ :: _ = []) = true) => hz; simp at hz; done)
                all_goals try (first | exact hIn | exact hP | exact ⟨hP, hIn⟩)
              · rw [if_neg ec] at hP
                cases hP
          · rw [if_neg eb] at hP
            cases hP
        rw [if_neg e1] at hP
        have pm := (Mk.mk : Mk 3)
        k_steps
        all_goals try (exfalso; rename (decide (_ :: _ = []) = true) => hz; simp at hz; done)
        refine Halt2.mk ?_
        by_cases e2 : top = first
        · rw [if_pos e2] at hP
          have q3 : top - first = ((0 : Nat) : Int) := by omega
          have pm := (Mk.mk : Mk 4)
          k_steps
          all_goals try (exfalso; rename (decide (_ :: _ = []) = true) => hz; simp at hz; done)
          refine Halt2.mk ?_
          by_cases ez : (0 : Int) = c
          · rw [if_pos ez.symm] at hP
            k_steps
            all_goals try (exfalso; rename (decide (_ :: _ = []) = true) => hz; simp at hz; done)
            all_goals try (first | exact hIn | exact hP | exact ⟨hP, hIn⟩)
          · rw [if_neg (fun q => ez q.symm)] at hP
            k_steps
            all_goals try (exfalso; rename (decide (_ :: _ = []) = true) => hz; simp at hz; done)
            all_goals try (first | exact hIn | exact hP | exact ⟨hP, hIn⟩)
        rw [if_neg e2] at hP
        by_cases e3 : top = first + 1
        · rw [if_pos e3] at hP
          have q3 : top - first = ((1 : Nat) : Int) := by omega
          have pm := (Mk.mk : Mk 4)
          k_steps
          all_goals try (exfalso; rename (decide (_ :: _ = []) = true) => hz; simp at hz; done)
          refine Halt2.mk ?_
          by_cases ez : (61 : Int) = c
          · rw [if_pos ez.symm] at hP
            k_steps
            all_goals try (exfalso; rename (decide (_ :: _ = []) = true) => hz; simp at hz; done)
            all_goals try (first | exact hIn | exact hP | exact ⟨hP, hIn⟩)
          · rw [if_neg (fun q => ez q.symm)] at hP
            k_steps
            all_goals try (exfalso; rename (decide (_ :: _ = []) = true) => hz; simp at hz; done)
            all_goals try (first | exact hIn | exact hP | exact ⟨hP, hIn⟩)
        rw [if_neg e3] at hP
        by_cases e4 : top = first + 2
        · rw [if_pos e4] at hP
          have q3 : top - first = ((2 : Nat) : Int) := by omega
          have pm := (Mk.mk : Mk 4)
          k_steps
          all_goals try (exfalso; rename (decide (_ :: _ = []) = true) => hz; simp at hz; done)
          refine Halt2.mk ?_
          by_cases ez : (61 : Int) = c
          · rw [if_pos ez.symm] at hP
            k_steps
            all_goals try (exfalso; rename (decide (_ :: _ = []) = true) => hz; simp at hz; done)
            all_goals try (first | exact hIn | exact hP | exact ⟨hP, hIn⟩)
          · rw [if_neg (fun q => ez q.symm)] at hP
            k_steps
            all_goals try (exfalso; rename (decide (_ :: _ = []) = true) => hz; simp at hz; done)
            all_goals try (first | exact hIn | exact hP | exact ⟨hP, hIn⟩)
        rw [if_neg e4] at hP
        rw [if_neg (show ¬ top = 255 - first by omega), if_neg (show ¬ (0 < top ∧ top < 256) by omega)] at hP
        cases hP
    · rw [if_pos eg] at hP
      cases hP
end Mine

-- part Pure2
namespace Mine
open PySem PySem.W PyProof.Rows PySem.Spec PySem.Calls
theorem set_back_Pure2 : True := by
  w_top off
  k_with_none
  trivial

def decFrom (s : St) (ks : List Int) : Option (List Int) := (ks.foldlM sStep s).bind fin
theorem decFrom_nil (s : St) : decFrom s [] = fin s := rfl
theorem decFrom_cons (s : St) (c : Int) (ks : List Int) : decFrom s (c :: ks) = (sStep s c).bind fun s' => decFrom s' ks := by
  unfold decFrom
  rw [List.foldlM_cons]
  cases sStep s c <;> rfl
theorem decS_from (ks : List Int) : decS ks = decFrom st0 ks := rfl

/-- how the table of places and the translation hang together -/
structure Tab (pl : Int → Option Int) (tr : Int → Int) : Prop where
  eq : tr 61 = 61
  ne : ∀ c, c ≠ 61 → tr c ≠ 61
  zero : tr 0 = 0
  here : ∀ c, 0 ≤ c → c < 256 → pl c = if c = 61 ∨ 64 ≤ b64v (tr c) then none else some (b64v (tr c))

section
variable {pl : Int → Option Int} {tr : Int → Int} {first : Int}
def Ev (pl : Int → Option Int) (first : Int) (stk row oct : List Int) (n b : Int) (res : Option (List Int)) : Prop := ∃ k, runP pl first k stk row oct n b = some res

section
variable {st r oct : List Int} {c n b : Int} {res : Option (List Int)} (hf : 256 ≤ first) (g1 : st.length ≤ 20) (g2 : r.length ≤ 200) (g3 : oct.length ≤ 200)
include g1 g2 g3
theorem Ev.eof (h : (if c :: r = [0] then some oct else none) = res) : Ev pl first (0 :: st) (c :: r) oct n b res := by
  refine ⟨1, ?_⟩
  unfold runP
  rw [if_neg (fun q => q ⟨g1, g2, g3⟩), if_pos rfl, h]
include hf
theorem Ev.oneNo (hn : 0 ≤ n ∧ n < 2 ^ 120 ∧ 0 ≤ b ∧ b < 200) (hc : pl c = none) : Ev pl first ((first + 3) :: st) (c :: r) oct n b none := by
  refine ⟨1, ?_⟩
  unfold runP
  rw [if_neg (fun q => q ⟨g1, g2, g3⟩), if_neg (by omega), if_pos rfl, if_pos hn, hc]
theorem Ev.one {v : Int} (hn : 0 ≤ n ∧ n < 2 ^ 120 ∧ 0 ≤ b ∧ b < 200) (hc : pl c = some v) (hv : 0 ≤ v ∧ v < 64) (h : Ev pl first (c :: st) (c :: r) oct (n * 64 + v) (b + 6) res) : Ev pl first ((first + 3) :: st) (c :: r) oct n b res := by
  obtain ⟨k, h⟩ := h
  refine ⟨k + 1, ?_⟩
  unfold runP
  rw [if_neg (fun q => q ⟨g1, g2, g3⟩), if_neg (by omega), if_pos rfl, if_pos hn, hc]
  show (if 0 ≤ v ∧ v < 64 then _ else _) = _
  rw [if_pos hv]
  exact h
theorem Ev.text (h : Ev pl first ((if c = 0 then [0] else [first + 3, first + 3, 255 - first, first + 1]) ++ st) (c :: r) oct n b res) : Ev pl first (first :: st) (c :: r) oct n b res := by
  obtain ⟨k, h⟩ := h
  refine ⟨k + 1, ?_⟩
  unfold runP
  rw [if_neg (fun q => q ⟨g1, g2, g3⟩), if_neg (by omega), if_neg (by omega), if_pos rfl]
  exact h
theorem Ev.third (h : Ev pl first ((if c = 61 then [61, 61, 0] else [first + 3, 255 - first, first + 2]) ++ st) (c :: r) oct n b res) : Ev pl first ((first + 1) :: st) (c :: r) oct n b res := by
  obtain ⟨k, h⟩ := h
  refine ⟨k + 1, ?_⟩
  unfold runP
  rw [if_neg (fun q => q ⟨g1, g2, g3⟩), if_neg (by omega), if_neg (by omega), if_neg (by omega), if_pos rfl]
  exact h
theorem Ev.fourth (h : Ev pl first ((if c = 61 then [61, 0] else [first + 3, 255 - first, first]) ++ st) (c :: r) oct n b res) : Ev pl first ((first + 2) :: st) (c :: r) oct n b res := by
  obtain ⟨k, h⟩ := h
  refine ⟨k + 1, ?_⟩
  unfold runP
  rw [if_neg (fun q => q ⟨g1, g2, g3⟩), if_neg (by omega), if_neg (by omega), if_neg (by omega), if_neg (by omega), if_pos rfl]
  exact h
theorem Ev.deed {o : Int} (hb : 8 ≤ b ∧ b < 200 ∧ 0 ≤ n ∧ n < 2 ^ 126) (ho : (n / 2 ^ (b - 8).toNat) % 256 = o) (h : Ev pl first st (c :: r) (oct ++ [o]) n (b - 8) res) : Ev pl first ((255 - first) :: st) (c :: r) oct n b res := by
  obtain ⟨k, h⟩ := h
  refine ⟨k + 1, ?_⟩
  unfold runP
  rw [if_neg (fun q => q ⟨g1, g2, g3⟩), if_neg (by omega), if_neg (by omega), if_neg (by omega), if_neg (by omega), if_neg (by omega), if_pos rfl, if_pos hb, ho]
  exact h
theorem Ev.take (hc : 0 < c ∧ c < 256) (h : Ev pl first st r oct n b res) : Ev pl first (c :: st) (c :: r) oct n b res := by
  obtain ⟨k, h⟩ := h
  refine ⟨k + 1, ?_⟩
  unfold runP
  rw [if_neg (fun q => q ⟨g1, g2, g3⟩), if_neg (by omega), if_neg (by omega), if_neg (by omega), if_neg (by omega), if_neg (by omega), if_neg (by omega), if_pos hc, if_pos rfl]
  exact h
theorem Ev.octNo {d : Int} (hc : 0 < d ∧ d < 256) (hne : d ≠ c) : Ev pl first (d :: st) (c :: r) oct n b none := by
  refine ⟨1, ?_⟩
  unfold runP
  rw [if_neg (fun q => q ⟨g1, g2, g3⟩), if_neg (by omega), if_neg (by omega), if_neg (by omega), if_neg (by omega), if_neg (by omega), if_neg (by omega), if_pos hc, if_neg hne]
end

/-- a sign read under the rule "sign", and its octet taken -/
theorem Ev.sign {st r oct : List Int} {c n b v : Int} {res : Option (List Int)} (hf : 256 ≤ first) (g1 : st.length ≤ 20) (g2 : r.length ≤ 200) (g3 : oct.length ≤ 200)
    (hn : 0 ≤ n ∧ n < 2 ^ 120 ∧ 0 ≤ b ∧ b < 200) (h0 : 0 < c ∧ c < 256) (hc : pl c = some v) (hv : 0 ≤ v ∧ v < 64) (h : Ev pl first st r oct (n * 64 + v) (b + 6) res) : Ev pl first ((first + 3) :: st) (c :: r) oct n b res :=
  Ev.one hf g1 g2 g3 hn hc hv (Ev.take hf g1 g2 g3 h0 h)

theorem Tab.none61 (H : Tab pl tr) : pl 61 = none := by rw [H.here 61 (by decide) (by decide), if_pos (.inl rfl)]
theorem Tab.none0 (H : Tab pl tr) : pl 0 = none := by
  rw [H.here 0 (by decide) (by decide), H.zero]
  decide
theorem Tab.cases (H : Tab pl tr) (c : Int) (h0 : 0 ≤ c) (h1 : c < 256) (hne : c ≠ 61) : (pl c = none ∧ 64 ≤ b64v (tr c)) ∨ (pl c = some (b64v (tr c)) ∧ ¬ 64 ≤ b64v (tr c) ∧ 0 < c) := by
  by_cases h : 64 ≤ b64v (tr c)
  · left
    exact ⟨by rw [H.here c h0 h1, if_pos (.inr h)], h⟩
  · right
    refine ⟨by rw [H.here c h0 h1, if_neg (fun q => q.elim hne h)], h, ?_⟩
    rcases Int.lt_or_eq_of_le h0 with q | q
    · exact q
    · subst q
      rw [H.zero] at h
      exact absurd (by decide) h

/-- behind the padding that fills up, only the end is read -/
theorem full_rest {q l p : Int} {oct : List Int} (hq : 2 ≤ q) (hp : q + p = 4) (hp0 : p ≠ 0) (ks : List Int) : decFrom (q, l, p, oct) (ks.map tr) = if ks = [] then some oct else none := by
  cases ks with
  | nil =>
    simp only [List.map_nil, decFrom_nil, if_true, fin]
    rw [if_neg (by omega), if_neg (by omega)]
  | cons c r =>
    rw [List.map_cons, decFrom_cons, if_neg (by simp)]
    have : sStep (q, l, p, oct) (tr c) = none := by
      unfold sStep
      by_cases h : tr c = 61
      · rw [if_pos h, if_neg (by simp only; omega)]
      · rw [if_neg h]
        by_cases h2 : 64 ≤ b64v (tr c)
        · rw [if_pos h2]
        · rw [if_neg h2, if_pos (by simpa using hp0)]
    rw [this]
    rfl
theorem sign_step (H : Tab pl tr) {q l : Int} {oct : List Int} {c : Int} (hne : c ≠ 61) (hv : ¬ 64 ≤ b64v (tr c)) : sStep (q, l, 0, oct) (tr c) = some (signStep (b64v (tr c)) q l oct) := by
  unfold sStep
  rw [if_neg (H.ne c hne), if_neg hv, if_neg (by simp)]
theorem bad_step (H : Tab pl tr) {q l p : Int} {oct : List Int} {c : Int} (hne : c ≠ 61) (hv : 64 ≤ b64v (tr c)) : sStep (q, l, p, oct) (tr c) = none := by
  unfold sStep
  rw [if_neg (H.ne c hne), if_pos hv]
theorem eq_end (r : List Int) : (r ++ [0] = [(0 : Int)]) ↔ r = [] := by
  cases r with
  | nil => simp
  | cons a t => simp
theorem pow64 (j : Nat) (hj : j ≤ 19) : (64 : Int) ^ j ≤ 2 ^ 114 := by
  have h : 64 ^ j ≤ 64 ^ 19 := Nat.pow_le_pow_right (by decide) hj
  have h2 : ((64 ^ j : Nat) : Int) ≤ ((64 ^ 19 : Nat) : Int) := Int.ofNat_le.mpr h
  rw [Int.natCast_pow] at h2
  exact Int.le_trans h2 (by decide)
theorem num_next {n v : Int} {j : Nat} (hn : 0 ≤ n ∧ n < 64 ^ j) (hv : 0 ≤ v ∧ v < 64) : 0 ≤ n * 64 + v ∧ n * 64 + v < 64 ^ (j + 1) := by
  rw [Int.pow_succ]
  omega

theorem row_cons (ks : List Int) : ∃ c r, ks ++ [0] = c :: r ∧ r.length = ks.length := by
  cases ks with
  | nil => exact ⟨0, [], rfl, rfl⟩
  | cons c r => exact ⟨c, r ++ [0], rfl, by simp⟩

section
variable (hf : 256 ≤ first) (H : Tab pl tr)
include hf H

/-- a rule "sign" at the row, with what is left of the text: the end, a bad octet, or a sign -/
theorem sign_ev {q l : Int} {st oct : List Int} {n b : Int} {j : Nat} (ks : List Int) (hk : ∀ c ∈ ks, 0 ≤ c ∧ c < 256) (g1 : st.length ≤ 20) (g3 : oct.length + ks.length ≤ 200)
    (hn : 0 ≤ n ∧ n < 64 ^ j) (hj : j + ks.length ≤ 19) (hb : 0 ≤ b ∧ b < 200) (hnil : ks = [] → fin (q, l, 0, oct) = none) (heq : ∀ r, ks = 61 :: r → decFrom (q, l, 0, oct) (ks.map tr) = none)
    (hgo : ∀ c r, ks = c :: r → c ≠ 61 → ¬ 64 ≤ b64v (tr c) → Ev pl first st (r ++ [0]) oct (n * 64 + b64v (tr c)) (b + 6) (decFrom (signStep (b64v (tr c)) q l oct) (r.map tr))) :
    Ev pl first ((first + 3) :: st) (ks ++ [0]) oct n b (decFrom (q, l, 0, oct) (ks.map tr)) := by
  have hp := pow64 j (by omega)
  have hn' : 0 ≤ n ∧ n < 2 ^ 120 ∧ 0 ≤ b ∧ b < 200 := ⟨hn.1, by omega, hb.1, hb.2⟩
  cases ks with
  | nil =>
    rw [List.map_nil, decFrom_nil, hnil rfl]
    exact Ev.oneNo hf g1 (by simp) (by simpa using g3) hn' H.none0
  | cons c r =>
    have hc := hk c (List.mem_cons_self ..)
    simp only [List.length_cons] at g3 hj
    by_cases h61 : c = 61
    · subst h61
      rw [heq r rfl]
      exact Ev.oneNo hf g1 (by simp; omega) (by omega) hn' H.none61
    rcases H.cases c hc.1 hc.2 h61 with ⟨h1, h2⟩ | ⟨h1, h2, h3⟩
    · rw [List.map_cons, decFrom_cons, bad_step H h61 h2]
      exact Ev.oneNo hf g1 (by simp; omega) (by omega) hn' h1
    · rw [List.map_cons, decFrom_cons, sign_step H h61 h2]
      have hv := b64v_range (tr c)
      exact Ev.sign hf g1 (by simp; omega) (by omega) hn' ⟨h3, hc.2⟩ h1 ⟨hv.1, by omega⟩ (hgo c r rfl h61 h2)

theorem fourth_ev {l : Int} {oct : List Int} {n : Int} {j : Nat} (ks : List Int) (hk : ∀ c ∈ ks, 0 ≤ c ∧ c < 256) (g3 : oct.length + ks.length ≤ 190)
    (hn : 0 ≤ n ∧ n < 64 ^ j) (hj : j + ks.length ≤ 19) (hl : n % 4 = l)
    (IH : ∀ c r, ks = c :: r → ∀ o n', 0 ≤ n' ∧ n' < 64 ^ (j + 1) → Ev pl first [first] (r ++ [0]) (oct ++ [o]) n' 0 (decFrom (0, 0, 0, oct ++ [o]) (r.map tr))) :
    Ev pl first [first + 2] (ks ++ [0]) oct n 2 (decFrom (3, l, 0, oct) (ks.map tr)) := by
  obtain ⟨c, r, e, hr⟩ := row_cons ks
  rw [e]
  refine Ev.fourth hf (by simp) (by omega) (by omega) ?_
  rw [← e]
  by_cases h61 : c = 61
  · subst h61
    rw [if_pos rfl]
    cases ks with
    | nil => simp at e
    | cons c' r' =>
      cases e
      simp only [List.length_cons] at g3 hj
      refine Ev.take hf (by simp) (by simp; omega) (by omega) (by decide) ?_
      rw [List.map_cons, decFrom_cons, H.eq]
      have e1 : sStep (3, l, 0, oct) 61 = some (3, l, 1, oct) := by simp [sStep]
      rw [e1]
      show Ev pl first [0] (r' ++ [0]) oct n 2 (decFrom (3, l, 1, oct) (r'.map tr))
      rw [full_rest (by decide) (by decide) (by decide)]
      obtain ⟨c2, r2, e2, hr2⟩ := row_cons r'
      rw [e2]
      refine Ev.eof (by simp) (by omega) (by omega) ?_
      rw [← e2]
      by_cases h : r' = []
      · rw [if_pos ((eq_end r').mpr h), if_pos h]
      · rw [if_neg (fun q => h ((eq_end r').mp q)), if_neg h]
  · rw [if_neg h61]
    refine sign_ev hf H (j := j) ks hk (by simp) (by omega) hn hj (by decide) (fun _ => by simp [fin]) (fun r' hr' => ?_) (fun c' r' hr' hne hv => ?_)
    · subst hr'; cases e; exact absurd rfl h61
    · subst hr'
      have hv' := b64v_range (tr c')
      have hnn := num_next hn (v := b64v (tr c')) ⟨hv'.1, by omega⟩
      have hp := pow64 (j + 1) (by simp only [List.length_cons] at hj; omega)
      simp only [List.length_cons] at g3 hj
      obtain ⟨c2, r2, e2, hr2⟩ := row_cons r'
      rw [e2]
      refine Ev.deed hf (by simp) (by omega) (by omega) ⟨by decide, by decide, hnn.1, by omega⟩ (o := l * 64 + b64v (tr c')) ?_ ?_
      · show (n * 64 + b64v (tr c')) / 2 ^ 0 % 256 = _
        simp only [Int.pow_zero, Int.ediv_one]
        omega
      · rw [← e2]
        have := IH c' r' rfl (l * 64 + b64v (tr c')) _ hnn
        simpa [signStep] using this

theorem third_ev {l : Int} {oct : List Int} {n : Int} {j : Nat} (ks : List Int) (hk : ∀ c ∈ ks, 0 ≤ c ∧ c < 256) (g3 : oct.length + ks.length ≤ 180)
    (hn : 0 ≤ n ∧ n < 64 ^ j) (hj : j + ks.length ≤ 19) (hl : n % 16 = l)
    (IH : ∀ c d r, ks = c :: d :: r → ∀ o1 o2 n', 0 ≤ n' ∧ n' < 64 ^ (j + 2) → Ev pl first [first] (r ++ [0]) (oct ++ [o1] ++ [o2]) n' 0 (decFrom (0, 0, 0, oct ++ [o1] ++ [o2]) (r.map tr))) :
    Ev pl first [first + 1] (ks ++ [0]) oct n 4 (decFrom (2, l, 0, oct) (ks.map tr)) := by
  obtain ⟨c, r, e, hr⟩ := row_cons ks
  rw [e]
  refine Ev.third hf (by simp) (by omega) (by omega) ?_
  rw [← e]
  by_cases h61 : c = 61
  · subst h61
    rw [if_pos rfl]
    cases ks with
    | nil => simp at e
    | cons c' r' =>
      cases e
      simp only [List.length_cons] at g3 hj
      refine Ev.take hf (by simp) (by simp; omega) (by omega) (by decide) ?_
      rw [List.map_cons, decFrom_cons, H.eq]
      have e1 : sStep (2, l, 0, oct) 61 = some (2, l, 1, oct) := by simp [sStep]
      rw [e1]
      show Ev pl first [61, 0] (r' ++ [0]) oct n 4 (decFrom (2, l, 1, oct) (r'.map tr))
      cases r' with
      | nil =>
        rw [List.map_nil, decFrom_nil, show fin (2, l, 1, oct) = none by simp [fin]]
        exact Ev.octNo hf (by simp) (by simp) (by omega) (by decide) (by decide)
      | cons d r2 =>
        simp only [List.length_cons] at g3 hj
        by_cases hd : d = 61
        · subst hd
          refine Ev.take hf (by simp) (by simp; omega) (by omega) (by decide) ?_
          rw [List.map_cons, decFrom_cons, H.eq]
          have e1 : sStep (2, l, 1, oct) 61 = some (2, l, 2, oct) := by simp [sStep]
          rw [e1]
          show Ev pl first [0] (r2 ++ [0]) oct n 4 (decFrom (2, l, 2, oct) (r2.map tr))
          rw [full_rest (by decide) (by decide) (by decide)]
          obtain ⟨c2, r3, e2, hr2⟩ := row_cons r2
          rw [e2]
          refine Ev.eof (by simp) (by omega) (by omega) ?_
          rw [← e2]
          by_cases h : r2 = []
          · rw [if_pos ((eq_end r2).mpr h), if_pos h]
          · rw [if_neg (fun q => h ((eq_end r2).mp q)), if_neg h]
        · have e1 : sStep (2, l, 1, oct) (tr d) = none := by
            unfold sStep
            rw [if_neg (H.ne d hd)]
            by_cases h2 : 64 ≤ b64v (tr d)
            · rw [if_pos h2]
            · rw [if_neg h2, if_pos (by simp)]
          rw [List.map_cons, decFrom_cons, e1]
          exact Ev.octNo hf (by simp) (by simp; omega) (by omega) (by decide) (fun q => hd q.symm)
  · rw [if_neg h61]
    refine sign_ev hf H (j := j) ks hk (by simp) (by omega) hn hj (by decide) (fun _ => by simp [fin]) (fun r' hr' => ?_) (fun c' r' hr' hne hv => ?_)
    · subst hr'; cases e; exact absurd rfl h61
    · subst hr'
      have hv' := b64v_range (tr c')
      have hnn := num_next hn (v := b64v (tr c')) ⟨hv'.1, by omega⟩
      have hp := pow64 (j + 1) (by simp only [List.length_cons] at hj; omega)
      simp only [List.length_cons] at g3 hj
      obtain ⟨c2, r2, e2, hr2⟩ := row_cons r'
      rw [e2]
      refine Ev.deed hf (by simp) (by omega) (by omega) ⟨by decide, by decide, hnn.1, by omega⟩ (o := l * 16 + b64v (tr c') / 4) ?_ ?_
      · show (n * 64 + b64v (tr c')) / 2 ^ 2 % 256 = _
        omega
      · rw [← e2]
        have := fourth_ev hf H (l := b64v (tr c') % 4) (oct := oct ++ [l * 16 + b64v (tr c') / 4]) (n := n * 64 + b64v (tr c')) (j := j + 1) r' (fun x hx => hk x (List.mem_cons_of_mem _ hx)) (by simp; omega) hnn (by omega) (by omega)
          (fun d r2 hd o n' hn' => by
            subst hd
            exact IH c' d r2 rfl _ o n' hn')
        simpa [signStep] using this

theorem text_ev : ∀ (m : Nat) (ks : List Int), ks.length ≤ m → (∀ c ∈ ks, 0 ≤ c ∧ c < 256) → ∀ (oct : List Int) (n : Int) (j : Nat), oct.length + ks.length ≤ 170 → (0 ≤ n ∧ n < 64 ^ j) → j + ks.length ≤ 19 →
    Ev pl first [first] (ks ++ [0]) oct n 0 (decFrom (0, 0, 0, oct) (ks.map tr)) := by
  intro m
  induction m with
  | zero =>
    intro ks hm _ oct n j g3 _ _
    cases ks with
    | cons _ _ => simp at hm
    | nil =>
      refine Ev.text hf (by simp) (by simp) (by simp at g3; omega) ?_
      exact Ev.eof (by simp) (by simp) (by simp at g3; omega) rfl
  | succ m ih =>
    intro ks hm hk oct n j g3 hn hj
    cases ks with
    | nil =>
      refine Ev.text hf (by simp) (by simp) (by simp at g3; omega) ?_
      exact Ev.eof (by simp) (by simp) (by simp at g3; omega) rfl
    | cons c r =>
      have hc := hk c (List.mem_cons_self ..)
      simp only [List.length_cons] at hm g3 hj
      refine Ev.text hf (by simp) (by simp; omega) (by omega) ?_
      by_cases h0 : c = 0
      · subst h0
        rw [if_pos rfl]
        refine Ev.eof (by simp) (by simp; omega) (by omega) ?_
        rw [List.map_cons, decFrom_cons, bad_step H (by decide) (by rw [H.zero]; decide)]
        rw [if_neg (by simp)]
        rfl
      rw [if_neg h0]
      refine sign_ev hf H (j := j) (c :: r) hk (by simp) (by simp; omega) hn (by simp; omega) (by decide) (fun q => nomatch q) (fun r' hr' => ?_) (fun c' r' hr' hne hv => ?_)
      · cases hr'
        rw [List.map_cons, decFrom_cons, H.eq]
        simp [sStep]
      · cases hr'
        have hv' := b64v_range (tr c)
        have hnn := num_next hn (v := b64v (tr c)) ⟨hv'.1, by omega⟩
        show Ev pl first [first + 3, 255 - first, first + 1] (r ++ [0]) oct (n * 64 + b64v (tr c)) 6 (decFrom (1, b64v (tr c), 0, oct) (r.map tr))
        have hk2 : ∀ x ∈ r, 0 ≤ x ∧ x < 256 := fun x hx => hk x (List.mem_cons_of_mem _ hx)
        refine sign_ev hf H (j := j + 1) r hk2 (by simp) (by omega) hnn (by omega) (by decide) (fun _ => by simp [fin]) (fun r' hr' => ?_) (fun d r' hr' hne2 hv2 => ?_)
        · subst hr'
          rw [List.map_cons, decFrom_cons, H.eq]
          simp [sStep]
        · subst hr'
          have hv3 := b64v_range (tr d)
          have hn3 := num_next hnn (v := b64v (tr d)) ⟨hv3.1, by omega⟩
          simp only [List.length_cons] at hm g3 hj
          have hp := pow64 (j + 1 + 1) (by omega)
          obtain ⟨c2, r2, e2, hr2⟩ := row_cons r'
          rw [e2]
          refine Ev.deed hf (by simp) (by omega) (by omega) ⟨by decide, by decide, hn3.1, by omega⟩ (o := b64v (tr c) * 4 + b64v (tr d) / 16) ?_ ?_
          · show ((n * 64 + b64v (tr c)) * 64 + b64v (tr d)) / 2 ^ 4 % 256 = _
            omega
          · rw [← e2]
            have := third_ev hf H (l := b64v (tr d) % 16) (oct := oct ++ [b64v (tr c) * 4 + b64v (tr d) / 16]) (n := (n * 64 + b64v (tr c)) * 64 + b64v (tr d)) (j := j + 1 + 1) r' (fun x hx => hk2 x (List.mem_cons_of_mem _ hx)) (by simp; omega) hn3 (by omega) (by omega)
              (fun x y r3 hxy o1 o2 n' hn' => by
                subst hxy
                simp only [List.length_cons] at hm g3 hj
                exact ih r3 (by omega) (fun z hz => hk2 z (List.mem_cons_of_mem _ (List.mem_cons_of_mem _ (List.mem_cons_of_mem _ hz)))) _ n' (j + 1 + 1 + 2) (by simp; omega) hn' (by omega))
            simpa [signStep] using this

/-- the parser reads just what the strict reader reads, and the same -/
theorem parsed_run (ks : List Int) (hk : ∀ c ∈ ks, 0 ≤ c ∧ c < 256) (hl : ks.length ≤ 19) : ∃ k, runP pl first k [first] (ks ++ [0]) [] 0 0 = some (decS (ks.map tr)) := by
  have := text_ev hf H ks.length ks (Nat.le_refl _) hk [] 0 0 (by simp; omega) (by decide) (by omega)
  exact this
end
end
end Mine

-- part Pure3
namespace Mine
open PySem PySem.W PyProof.Rows PySem.Spec PySem.Calls
theorem set_back_Pure3 : True := by
  w_top off
  k_with_none
  trivial

theorem lStep_of {s s' : St} {c : Int} (h : sStep s c = some s') : lStep s c = s' := by
  unfold sStep at h
  unfold lStep
  by_cases h61 : c = 61
  · rw [if_pos h61] at h ⊢
    split at h
    · exact Option.some.inj h
    · cases h
  rw [if_neg h61] at h ⊢
  by_cases hb : 64 ≤ b64v c
  · rw [if_pos hb] at h; cases h
  rw [if_neg hb] at h ⊢
  split at h
  · cases h
  · exact Option.some.inj h
theorem foldl_of : ∀ (ks : List Int) (s s' : St), ks.foldlM sStep s = some s' → ks.foldl lStep s = s'
  | [], s, s', h => Option.some.inj h
  | c :: r, s, s', h => by
    rw [List.foldlM_cons] at h
    cases h1 : sStep s c with
    | none => rw [h1] at h; cases h
    | some t =>
      rw [h1] at h
      rw [List.foldl_cons, lStep_of h1]
      exact foldl_of r t s' h
theorem lStep_zero (s : St) : lStep s 0 = s := by
  unfold lStep
  rw [if_neg (by decide), if_pos (by decide)]
theorem loose_ok {tr : Int → Int} (h0 : tr 0 = 0) {k1 k2 out : List Int} (h : decS ((k1 ++ k2).map tr) = some out) : decL ((k1 ++ [0] ++ k2).map tr) = some out := by
  unfold decS runS at h
  cases h1 : ((k1 ++ k2).map tr).foldlM sStep st0 with
  | none => rw [h1] at h; cases h
  | some s =>
    rw [h1] at h
    have h2 := foldl_of _ _ _ h1
    unfold decL runL
    have : ((k1 ++ [0] ++ k2).map tr).foldl lStep st0 = s := by
      rw [← h2]
      simp only [List.map_append, List.foldl_append, List.map_cons, List.map_nil, List.foldl_cons, List.foldl_nil, h0, lStep_zero]
    rw [this]
    exact h

/-- the table of places that a translation gives -/
def plOf (tr : Int → Int) (c : Int) : Option Int := if c = 61 ∨ 64 ≤ b64v (tr c) then none else some (b64v (tr c))
theorem tab_id : Tab (plOf id) id := ⟨rfl, fun _ h => h, rfl, fun _ _ _ => rfl⟩
theorem tab_two {a1 a2 : Int} (h1 : 0 < a1) (h2 : 0 < a2) (e1 : a1 ≠ 61) (e2 : a2 ≠ 61) : Tab (plOf (trI a1 a2)) (trI a1 a2) := by
  refine ⟨?_, ?_, ?_, fun _ _ _ => rfl⟩
  · unfold trI; rw [if_neg (by omega), if_neg (by omega)]
  · intro c hc; unfold trI; split
    · decide
    · split
      · decide
      · exact hc
  · unfold trI; rw [if_neg (by omega), if_neg (by omega)]

/-- the 64 signs, as numbers -/
def s64 : List Int := (List.range 26).map (fun (i : Nat) => 65 + (i : Int)) ++ (List.range 26).map (fun (i : Nat) => 97 + (i : Int)) ++ (List.range 10).map (fun (i : Nat) => 48 + (i : Int)) ++ [43, 47]
theorem s64_len : s64.length = 64 := by decide
theorem b64v_s64 : ∀ i < 64, b64v (s64.getD i 0) = (i : Int) := by decide +kernel
theorem s64_of : ∀ c < 256, b64v ((c : Nat) : Int) < 64 → s64.getD (b64v ((c : Nat) : Int)).toNat 0 = ((c : Nat) : Int) := by decide +kernel
theorem b64v_big {c : Int} (h : b64v c < 64) : 0 ≤ c ∧ c < 256 := by
  unfold b64v at h
  repeat' split at h
  all_goals omega
end Mine

-- part EnumB
namespace Mine
open PySem PySem.W PyProof.Rows PySem.Spec PySem.Calls
theorem set_back_EnumB : True := by
  w_top off
  k_with_none
  trivial
section
variable {prog : Program} {w : World} {A : Around} {E : Value → Shared → Prop} {s : Shared} {b : Array UInt8} {t : Tok}

theorem nextOf_item {it : Addr} {i : Nat} {c : UInt8} {Q : Value → Shared → Prop} (hit : KBw.IsBytesIter s.heap it b t i) (hx : b[i]? = some c)
    (hQ : ∀ h', KBw.IsBytesIter h' it b t (i + 1) → Heap.SameBut it s.heap h' → Q (.int (c.toNat : Int) s.toks) { s with heap := h', toks := s.toks + 1 }) :
    wpAny (model prog w) A (Builtin.SmallTypes.nextOf (.ref it)) Q E s := by
  obtain ⟨o, ho, hc, hd⟩ := id hit
  unfold Builtin.SmallTypes.nextOf
  refine wpAny_bind (wpAny_callSpecial?_slot (name := Str.ofString "__next__") (KBw.iter_typeIs hit) KBw.slot_next
    (wpAny_call_entry KBw.slot_next (KBw.iter_typeIs hit) KBw.entry_next ?_ (KBw.args_next _)))
  show wpAny _ _ (field (.ref it) 0 >>= _) _ _ s
  refine wpAny_bind (wpAny_field ho hd (x := .bytes b t) rfl ?_)
  show wpAny _ _ (if (Value.bytes b t == Value.none) = true then _ else _) _ _ s
  rw [if_neg (show ¬ ((Value.bytes b t == Value.none) = true) from Bool.false_ne_true)]
  show wpAny _ _ (field (.ref it) 1 >>= _) _ _ s
  refine wpAny_bind (wpAny_field ho hd (x := .int i 0) rfl ?_)
  refine wpAny_bind (wpAny_of_eq (a := b) rfl ?_)
  simp only [Int.toNat_natCast, hx]
  refine wpAny_bind (wpAny_setField ho hd (by simp) (wpAny_bind (wpAny_mkInt (wpAny_pure ⟨_, rfl, wpAny_pure (hQ _ ?_ (Heap.SameBut.update ..))⟩))))
  exact ⟨_, Heap.get?_update_self _ ho (Obj.isFreed_of_fields (Obj.data_mapFields hd _)), (Obj.cls_mapFields ..).trans hc, by
    rw [Obj.data_mapFields hd]; simp [rawInt]⟩

theorem nextOf_end {it : Addr} {i : Nat} {Q : Value → Shared → Prop} (hh : A.handled = none) (hit : KBw.IsBytesIter s.heap it b t i) (hx : b[i]? = none)
    (hE : ∀ h' e, Heap.ExtBut it s.heap h' → (∃ o, h'.get? e = some o ∧ o.cls = .type "StopIteration") → E (.ref e) { s with heap := h' }) :
    wpAny (model prog w) A (Builtin.SmallTypes.nextOf (.ref it)) Q E s := by
  obtain ⟨o, ho, hc, hd⟩ := id hit
  unfold Builtin.SmallTypes.nextOf
  refine wpAny_bind (wpAny_callSpecial?_slot (name := Str.ofString "__next__") (KBw.iter_typeIs hit) KBw.slot_next
    (wpAny_call_entry KBw.slot_next (KBw.iter_typeIs hit) KBw.entry_next ?_ (KBw.args_next _)))
  show wpAny _ _ (field (.ref it) 0 >>= _) _ _ s
  refine wpAny_bind (wpAny_field ho hd (x := .bytes b t) rfl ?_)
  show wpAny _ _ (if (Value.bytes b t == Value.none) = true then _ else _) _ _ s
  rw [if_neg (show ¬ ((Value.bytes b t == Value.none) = true) from Bool.false_ne_true)]
  show wpAny _ _ (field (.ref it) 1 >>= _) _ _ s
  refine wpAny_bind (wpAny_field ho hd (x := .int i 0) rfl ?_)
  refine wpAny_bind (wpAny_of_eq (a := b) rfl ?_)
  simp only [Int.toNat_natCast, hx]
  refine wpAny_bind (wpAny_rule (wpAny_bind (wpAny_setField ho hd (by simp) ?_)))
  show wpAny _ _ (newExc (.type "StopIteration") [] >>= _) _ _ _
  refine wpAny_bind ?_
  simp only [newExc, newTuple]
  refine wpAny_bind (wpAny_newObj_type ?_ (by size_fits))
  refine wpAny_bind (m := firstArgMember _ _) (wpAny_of_eq (a := Value.none) (by first | rfl | (simp only [firstArgMember]; rfl)) ?_)
  refine wpAny_newObj_type ?_ (by size_fits)
  simp only [raiseNew]
  refine wpAny_bind (wpAny_handled ?_)
  first | rw [show A.in1.handled = none from hh] | rw [hh]
  refine wpAny_bind (wpAny_pure (wpAny_throw ?_))
  exact hE _ _ (((Heap.SameBut.update ..).extBut.push _).push _) ⟨_, Heap.get?_push_size _ rfl, rfl⟩

theorem enum_next_item {e it : Addr} {i : Nat} {c : UInt8} {old : Value} {Q : Value → Shared → Prop}
    (he : IsEnum s.heap e it i old) (hit : KBw.IsBytesIter s.heap it b t i) (hx : b[i]? = some c) (hne : e ≠ it)
    (hQ : ∀ h' u v, IsEnumOut h' e it ((i : Int) + 1) (.int (c.toNat : Int) u) s.heap.objs.size → KBw.IsBytesIter h' it b t (i + 1) →
      h'.get? s.heap.objs.size = some { cls := .type "tuple", data := .seq #[.int i v, .int (c.toNat : Int) u] } → h'.objs.size = s.heap.objs.size + 1 →
      (∀ b o, b ≠ e → b ≠ it → s.heap.get? b = some o → h'.get? b = some o) → ∀ k, Q (.ref s.heap.objs.size) { s with heap := h', toks := k }) :
    wpAny (model prog w) A (Builtin.«enumerate.__next__» ⟨[.ref e], []⟩) (fun fin s' => ∃ v, fin = .done (.ret v) ∧ Q v s') E s := by
  obtain ⟨hp, g, d, tk, os⟩ := s
  show wpAny _ _ (field (.ref e) 2 >>= _) _ _ _
  refine wpAny_bind (wpAny_field he rfl (x := .ref it) rfl ?_)
  refine wpAny_bind (nextOf_item hit hx fun h₁ hit₁ hs₁ => ?_)
  replace hs₁ : Heap.SameBut it hp h₁ := hs₁
  have he₁ : IsEnum h₁ e it i old := (hs₁.2 e hne).trans he
  generalize hxv : Value.int (c.toNat : Int) tk = x
  show wpAny _ _ (field (.ref e) 3 >>= _) _ _ ⟨h₁, g, d, tk + 1, os⟩
  refine wpAny_bind (wpAny_field he₁ rfl (x := rawInt i) rfl ?_)
  show wpAny _ _ (field (.ref e) 4 >>= _) _ _ ⟨h₁, g, d, tk + 1, os⟩
  refine wpAny_bind (wpAny_field he₁ rfl (x := .none) rfl ?_)
  show wpAny _ _ (mkInt i >>= _) _ _ ⟨h₁, g, d, tk + 1, os⟩
  refine wpAny_bind (wpAny_mkInt ?_)
  show wpAny _ _ (setField (.ref e) 3 (rawInt ((i : Int) + 1)) >>= _) _ _ ⟨h₁, g, d, tk + 1 + 1, os⟩
  refine wpAny_bind (wpAny_setField_rec he₁ (by simp) fun h₂ he₂ hs₂ => ?_)
  replace hs₂ : Heap.SameBut e h₁ h₂ := hs₂
  replace he₂ : IsEnum h₂ e it ((i : Int) + 1) old := he₂
  show wpAny _ _ (setField (.ref e) 4 .none >>= _) _ _ ⟨h₂, g, d, tk + 1 + 1, os⟩
  refine wpAny_bind (wpAny_setField_rec he₂ (by simp) fun h₃ he₃ hs₃ => ?_)
  replace hs₃ : Heap.SameBut e h₂ h₃ := hs₃
  replace he₃ : IsEnum h₃ e it ((i : Int) + 1) old := he₃
  show wpAny _ _ (newTuple [.int i (tk + 1), x] >>= _) _ _ ⟨h₃, g, d, tk + 1 + 1, os⟩
  refine wpAny_bind (wpAny_newTuple ?_)
  have he₄ : IsEnum (h₃.push { cls := .type "tuple", data := .seq #[.int i (tk + 1), x] }) e it ((i : Int) + 1) old := Heap.get?_push_of_some _ he₃
  generalize hh₄ : h₃.push { cls := .type "tuple", data := .seq #[.int i (tk + 1), x] } = h₄ at he₄
  have hsz : h₃.objs.size = hp.objs.size := by rw [hs₃.1, hs₂.1, hs₁.1]
  have hel : e < hp.objs.size := Heap.lt_size he
  have ht₄ : h₄.get? hp.objs.size = some { cls := .type "tuple", data := .seq #[.int i (tk + 1), x] } := by rw [← hh₄, ← hsz]; exact Heap.get?_push_size _ rfl
  have hz₄ : h₄.objs.size = hp.objs.size + 1 := by rw [← hh₄, Heap.size_push, hsz]
  have hk₄ : ∀ b o, b ≠ e → b ≠ it → hp.get? b = some o → h₄.get? b = some o := fun b o hbe hbi hb => by
    rw [← hh₄]; exact Heap.get?_push_of_some _ (hs₃.extBut b o hbe (hs₂.extBut b o hbe (hs₁.extBut b o hbi hb)))
  have hit₄ : KBw.IsBytesIter h₄ it b t (i + 1) := by
    rw [← hh₄]; obtain ⟨o, ho, r⟩ := hit₁; exact ⟨o, Heap.get?_push_of_some _ (hs₃.extBut _ _ (Ne.symm hne) (hs₂.extBut _ _ (Ne.symm hne) ho)), r⟩
  show wpAny _ _ (Builtin.SmallTypes.ownedTupleIsFree (.ref e) >>= _) _ _ ⟨h₄, g, d, tk + 1 + 1, os⟩
  rw [hsz]
  clear hh₄ he₃ hs₃ he₂ hs₂ he₁ hs₁ hit₁ hsz h₃ h₂ h₁
  subst hxv
  refine wpAny_bind ?_
  · unfold Builtin.SmallTypes.ownedTupleIsFree
    refine wpAny_bind (wpAny_field he₄ rfl (x := .none) rfl (wpAny_pure ?_))
    simp only [if_true]
    refine wpAny_bind (wpAny_rule ?_)
    refine wpAny_bind (wpAny_field he₄ rfl (x := old) rfl ?_)
    refine wpAny_bind (wpAny_setField_rec he₄ (by simp) fun h₅ he₅ hs₅ => ?_)
    replace hs₅ : Heap.SameBut e h₄ h₅ := hs₅
    replace he₅ : IsEnum h₅ e it ((i : Int) + 1) (.int (c.toNat : Int) tk) := he₅
    show wpAny _ _ (Builtin.SmallTypes.ownedTupleHandOut (.ref e) (.ref hp.objs.size) >>= _) _ _ ⟨h₅, g, d, tk + 1 + 1, os⟩
    refine wpAny_bind ?_
    · unfold Builtin.SmallTypes.ownedTupleHandOut
      refine wpAny_bind (wpAny_setField_rec he₅ (by simp) fun h₆ he₆ hs₆ => ?_)
      replace hs₆ : Heap.SameBut e h₅ h₆ := hs₆
      replace he₆ : IsEnumOut h₆ e it ((i : Int) + 1) (.int (c.toNat : Int) tk) hp.objs.size := he₆
      refine wpAny_setField_rec he₆ (by simp) fun h₇ he₇ hs₇ => ?_
      replace hs₇ : Heap.SameBut e h₆ h₇ := hs₇
      replace he₇ : IsEnumOut h₇ e it ((i : Int) + 1) (.int (c.toNat : Int) tk) hp.objs.size := he₇
      refine wpAny_bind (wpAny_letGo (wpAny_pure ⟨_, rfl, hQ h₇ tk (tk + 1) he₇ ?_ ?_ ?_ ?_ _⟩))
      · obtain ⟨o, ho, r⟩ := hit₄
        exact ⟨o, hs₇.extBut _ _ (Ne.symm hne) (hs₆.extBut _ _ (Ne.symm hne) (hs₅.extBut _ _ (Ne.symm hne) ho)), r⟩
      · exact hs₇.extBut _ _ (Nat.ne_of_gt hel) (hs₆.extBut _ _ (Nat.ne_of_gt hel) (hs₅.extBut _ _ (Nat.ne_of_gt hel) ht₄))
      · rw [hs₇.1, hs₆.1, hs₅.1, hz₄]
      · exact fun b o hbe hbi hb => hs₇.extBut b o hbe (hs₆.extBut b o hbe (hs₅.extBut b o hbe (hk₄ b o hbe hbi hb)))

theorem pyNext_enum_item {e it : Addr} {i : Nat} {c : UInt8} {old : Value} {Q : Option Value → Shared → Prop}
    (he : IsEnum s.heap e it i old) (hit : KBw.IsBytesIter s.heap it b t i) (hx : b[i]? = some c) (hne : e ≠ it)
    (hQ : ∀ h' u v, IsEnumOut h' e it ((i : Int) + 1) (.int (c.toNat : Int) u) s.heap.objs.size → KBw.IsBytesIter h' it b t (i + 1) →
      h'.get? s.heap.objs.size = some { cls := .type "tuple", data := .seq #[.int i v, .int (c.toNat : Int) u] } → h'.objs.size = s.heap.objs.size + 1 →
      (∀ b o, b ≠ e → b ≠ it → s.heap.get? b = some o → h'.get? b = some o) → ∀ k, Q (some (.ref s.heap.objs.size)) { s with heap := h', toks := k }) :
    wpAny (model prog w) A (pyNext (.ref e)) Q E s := by
  have hT : s.TypeIs (.ref e) "enumerate" := ⟨_, he, rfl⟩
  unfold pyNext
  exact wpAny_bind (wpAny_attempt (wpAny_callSpecial?_slot (name := Str.ofString "__next__") hT F.slot_enumerate_next
    (wpAny_call_entry F.slot_enumerate_next hT F.entry_enumerate_next
      (enum_next_item he hit hx hne fun h' u v a b c d f k => wpAny_pure (hQ h' u v a b c d f k)) (F.args_enumerate_next_1 _))))

theorem pyNext_enum_end {e it : Addr} {i : Nat} {old : Value} {Q : Option Value → Shared → Prop} (hh : A.handled = none)
    (he : IsEnum s.heap e it i old) (hit : KBw.IsBytesIter s.heap it b t i) (hx : b[i]? = none)
    (hQ : ∀ h', Heap.ExtBut it s.heap h' → Q none { s with heap := h' }) : wpAny (model prog w) A (pyNext (.ref e)) Q E s := by
  have hT : s.TypeIs (.ref e) "enumerate" := ⟨_, he, rfl⟩
  unfold pyNext
  refine wpAny_bind (wpAny_attempt (wpAny_callSpecial?_slot (name := Str.ofString "__next__") hT F.slot_enumerate_next
    (wpAny_call_entry F.slot_enumerate_next hT F.entry_enumerate_next ?_ (F.args_enumerate_next_1 _))))
  show wpAny _ _ (field (.ref e) 2 >>= _) _ _ _
  refine wpAny_bind (wpAny_field he rfl (x := .ref it) rfl ?_)
  refine wpAny_bind (nextOf_end hh hit hx fun h' x he' hx' => ?_)
  obtain ⟨o, ho, hc⟩ := hx'
  refine wpAny_bind (wpAny_isInstance (T := "StopIteration") (b := true) ⟨o, ho, hc⟩ isSubtype_stop ?_)
  exact wpAny_pure (hQ _ he')
end

open AutoSeq1 (wpAny_loadPart') in
set_option maxHeartbeats 1000000 in
theorem meets_enumerate_newB (x : Array UInt8) (t : Tok) :
    Meets (Builtin.«enumerate.__new__» ⟨[.type "enumerate", .bytes x t], []⟩) (fun _ R s =>
      R (.ok (.ret (.ref (s.heap.push { cls := .type "bytes_iterator", data := .fields #[.bytes x t, .int 0 0] }).objs.size)))
        { s with heap := (s.heap.push { cls := .type "bytes_iterator", data := .fields #[.bytes x t, .int 0 0] }).push { cls := .type "enumerate", data := .fields #[.none, .bool false, .ref s.heap.objs.size, rawInt 0, .none, .none] } }) :=
  .of_wp fun prog w A R s h => by
    obtain ⟨hp, g, d, tk, os⟩ := s
    have hsub := sub_enumerate
    wp_walk
    refine wpAny_stack_any fun st => wpAny_pure ?_
    split
    · rename_i c _ _ _ _ _
      cases (c == Value.type "enumerate")
      · wp_walk using KBw.pyIter_bytes
        exact ⟨_, rfl, h⟩
      · wp_walk using KBw.pyIter_bytes
        exact ⟨_, rfl, h⟩
    · wp_walk using KBw.pyIter_bytes
      exact ⟨_, rfl, h⟩

section
variable {prog : Program} {w : World} {A : Around} {E : Value → Shared → Prop} {s : Shared}
theorem call_enumerate_bytes {x : Array UInt8} {t : Tok} {Q : Value → Shared → Prop}
    (h : ∀ h', IsEnum h' (s.heap.objs.size + 1) s.heap.objs.size 0 .none → KBw.IsBytesIter h' s.heap.objs.size x t 0 → h'.objs.size = s.heap.objs.size + 2 →
      (∀ b o, s.heap.get? b = some o → h'.get? b = some o) → Q (.ref (s.heap.objs.size + 1)) { s with heap := h' }) :
    wpAny (model prog w) A (call (.type "enumerate") [.bytes x t]) Q E s := by
  refine callType_new F.called_enumerate (by decide) (F.typeCall_enumerate_1 _) (F.newCall_enumerate_1 _) (fun obj => F.args_object_init_2 obj _) F.entry_enumerate_new
    (meets_enumerate_newB x t) ?_
  have hz : (s.heap.push { cls := .type "bytes_iterator", data := .fields #[.bytes x t, .int 0 0] }).objs.size = s.heap.objs.size + 1 := Heap.size_push ..
  show _ ∧ _
  rw [hz]
  have he : IsEnum ((s.heap.push { cls := .type "bytes_iterator", data := .fields #[.bytes x t, .int 0 0] }).push
      { cls := .type "enumerate", data := .fields #[.none, .bool false, .ref s.heap.objs.size, rawInt 0, .none, .none] }) (s.heap.objs.size + 1) s.heap.objs.size 0 .none := by
    have := Heap.get?_push_size (s.heap.push { cls := .type "bytes_iterator", data := .fields #[.bytes x t, .int 0 0] })
      (o := { cls := .type "enumerate", data := .fields #[.none, .bool false, .ref s.heap.objs.size, rawInt 0, .none, .none] }) rfl
    rw [hz] at this; exact this
  refine ⟨⟨_, he, rfl⟩, h _ he ⟨_, Heap.get?_push_of_some _ (Heap.get?_push_size _ rfl), rfl, rfl⟩ (by rw [Heap.size_push, hz]) fun b o y => Heap.get?_push_of_some _ (Heap.get?_push_of_some _ y)⟩
end
end Mine

-- part DC
namespace Mine
open PySem PySem.W PyProof.Rows PySem.Spec PySem.Calls
theorem set_back_DC : True := by
  w_top off
  k_with_none
  trivial

/-- pairs stored one after the other; the later wins -/
inductive StoredI : List (Int × Int) → List (Int × Value) → Prop
  | nil : StoredI [] []
  | snoc {l kvs k v t} : StoredI l kvs → StoredI (l ++ [(k, v)]) (stored kvs k (.int v t))
theorem StoredI.length {l : List (Int × Int)} {kvs : List (Int × Value)} (h : StoredI l kvs) : kvs.length ≤ l.length := by
  induction h with
  | nil => exact Nat.le_refl _
  | @snoc l kvs k v t _ ih =>
    have := stored_length_le kvs k (.int v t)
    rw [List.length_append, List.length_singleton]; omega

section
variable {prog : Program} {w : World} {A : Around} {E : Value → Shared → Prop} {R : Result → Shared → Prop} {s : Shared}

theorem dictLoop {kx vx target iter : Expr} {scope : Scope} {pos : Pos} {it : Value} {D : Addr} {env : Env} (I : Nat → Shared → Prop)
    (turn : ∀ n s, I n s → wpAny (model prog w) A (pyNext it) (fun r s₁ => match r with
      | none => R (.ok .next) s₁
      | some v => wpAny (model prog w) A (letOwnedTupleGo target it v) (fun _ s₁' => wpAny (model prog w) A (assign target env v) (fun _ s₂ =>
          wpAny (model prog w) A (eval kx env) (fun kv s₄ => wpAny (model prog w) A (eval vx env) (fun vv s₅ =>
              wpAny (model prog w) A (dictSet D kv vv) (fun _ s₆ => ∃ m, m < n ∧ I m s₆) (notedBy (model prog w) A env fun e s' => R (.error e) s') s₅) (notedBy (model prog w) A env fun e s' => R (.error e) s') s₄) (notedBy (model prog w) A env fun e s' => R (.error e) s') s₂)
            (notedBy (model prog w) A env fun e s' => R (.error e) s') s₁') (notedBy (model prog w) A env fun e s' => R (.error e) s') s₁) (notedBy (model prog w) A env fun e s' => R (.error e) s') s)
    (n : Nat) (h : I n s) :
    codeAny (model prog w) A (.compLoop (.DictComp kx vx [⟨target, iter, [], 0⟩] scope pos) 0 it (.ref D) env) R s := by
  refine codeAny_loop rfl I (fun n s hI => ?_) n h
  show wpAny _ A ((compTurn (.DictComp kx vx [⟨target, iter, [], 0⟩] scope pos) 0 it (.ref D) env).onRaise (fun x => do noteFrame x env; theTreesLotGoes x)) _ _ s
  refine wpAny_noted ?_
  rw [compTurn_dict]
  refine wpAny_bind (wpAny_standAt (wpAny_bind (wpAny_mono (turn n s hI) (fun r s₁ h₁ => ?_) fun _ _ h' => h')))
  cases r with
  | none => exact wpAny_pure h₁
  | some v =>
    refine wpAny_bind (wpAny_mono h₁ (fun _ s₁' h₁' => ?_) fun _ _ h' => h')
    refine wpAny_bind (wpAny_mono h₁' (fun _ s₂ h₂ => wpAny_bind (wpAny_pure ?_)) fun _ _ h' => h')
    exact wpAny_bind (wpAny_bind (wpAny_mono h₂ (fun kv s₄ h₄ => wpAny_bind (wpAny_holding (wpAny_mono h₄ (fun vv s₅ h₅ => wpAny_bind (wpAny_standAt (wpAny_holding (wpAny_mono h₅ (fun _ s₆ h₆ => wpAny_pure ⟨rfl, h₆⟩) fun _ _ h' => h')))) fun _ _ h' => h'))) fun _ _ h' => h'))

/-- the pairs that the comprehension stores -/
def dcPairs (b : Array UInt8) (f : Nat → Int) : List (Int × Int) := (List.range b.size).map fun i => ((b.getD i 0).toNat, f i)
theorem dcPairs_take {b : Array UInt8} {f : Nat → Int} {i : Nat} {c : UInt8} (h : b[i]? = some c) : (dcPairs b f).take (i + 1) = (dcPairs b f).take i ++ [((c.toNat : Int), f i)] := by
  have hi : i < b.size := (Array.getElem?_eq_some_iff.mp h).1
  have hg : b[i] = c := (Array.getElem?_eq_some_iff.mp h).2
  have : (dcPairs b f)[i]? = some ((c.toNat : Int), f i) := by simp [dcPairs, hi, hg]
  rw [List.take_add_one, this]
  rfl

theorem dc_loop {kx vx iter : Expr} {xi xv : Str} {pi pv pt : Pos} {x1 : Nat} {scope : Scope} {pos : Pos} {e it D : Addr} {b : Array UInt8} {t : Tok} {cenv : Env} {m : Str → Option Value} (f : Nat → Int)
    (hh : A.handled = none) (hxi : cenv.kindOf xi = some .local) (hxv : cenv.kindOf xv = some .local) (hne : xi ≠ xv) (hp : (cenv.scope.kind == .class || (cenv.scope.kind == .module && cenv.locals != cenv.globals)) = false)
    (hei : e ≠ it) (heL : e ≠ cenv.locals) (hiL : it ≠ cenv.locals) (hDe : D ≠ e) (hDi : D ≠ it) (hDC : D ≠ cenv.locals)
    (he : IsEnum s.heap e it 0 .none) (hit : KBw.IsBytesIter s.heap it b t 0) (hacc : s.heap.DictOf (intKind prog w) D []) (hn : s.heap.Ns cenv.locals m) (hsz : b.size ≤ 1000)
    (hkey : ∀ i c u v s₂ m₂ E', s₂.heap.Ns cenv.locals m₂ → m₂ xi = some (.int (i : Nat) u) → m₂ xv = some (.int c v) → wpAny (model prog w) A (eval kx cenv) (fun key s₃ => (∃ t', key = .int c t') ∧ Keeps s₂ s₃) E' s₂)
    (hval : ∀ i c u v s₂ m₂ E', s₂.heap.Ns cenv.locals m₂ → m₂ xi = some (.int (i : Nat) u) → m₂ xv = some (.int c v) → wpAny (model prog w) A (eval vx cenv) (fun y s₃ => (∃ t', y = .int (f i) t') ∧ Keeps s₂ s₃) E' s₂)
    (hR : ∀ h' tk m' kvs, h'.Ns cenv.locals m' → h'.DictOf (intKind prog w) D kvs → StoredI (dcPairs b f) kvs → (∀ a o, a ≠ cenv.locals → a ≠ e → a ≠ it → a ≠ D → s.heap.get? a = some o → h'.get? a = some o) → R (.ok .next) { s with heap := h', toks := tk }) :
    codeAny (model prog w) A (.compLoop (.DictComp kx vx [⟨.Tuple [.Name xi pi, .Name xv pv] x1 pt, iter, [], 0⟩] scope pos) 0 (.ref e) (.ref D) cenv) R s := by
  refine dictLoop
    (fun k s' => ∃ h' tk m' i old kvs, s' = { s with heap := h', toks := tk } ∧ IsEnum h' e it ((i : Nat) : Int) old ∧ KBw.IsBytesIter h' it b t i ∧ h'.DictOf (intKind prog w) D kvs ∧ h'.Ns cenv.locals m' ∧ StoredI ((dcPairs b f).take i) kvs ∧ i ≤ b.size ∧
      k = b.size + 1 - i ∧ ∀ a o, a ≠ cenv.locals → a ≠ e → a ≠ it → a ≠ D → s.heap.get? a = some o → h'.get? a = some o) ?_ (b.size + 1)
    ⟨s.heap, s.toks, m, 0, .none, [], rfl, he, hit, hacc, hn, .nil, Nat.zero_le _, rfl, fun _ _ _ _ _ _ x => x⟩
  rintro k s' ⟨H, tk, m', i, old, kvs, rfl, he', hit', hacc', hn', hS, hi, rfl, hk⟩
  cases hv : b[i]? with
  | none =>
    have hb : i = b.size := Nat.le_antisymm hi (by simpa using hv)
    refine pyNext_enum_end hh he' hit' hv fun h₁ he₁ => ?_
    refine hR h₁ tk m' kvs (hn'.extBut he₁ (Ne.symm hiL)) (hacc'.at fun o x => he₁ D o hDi x) ?_ fun a o h1 h2 h3 h4 x => he₁ a o h3 (hk a o h1 h2 h3 h4 x)
    rwa [hb, List.take_of_length_le (by simp [dcPairs])] at hS
  | some c =>
    have hlt : i < b.size := (Array.getElem?_eq_some_iff.mp hv).1
    have heH : e < H.objs.size := Heap.lt_size he'
    have hLH : cenv.locals < H.objs.size := hn'.lt
    obtain ⟨oi, hoi, hoi'⟩ := id hit'
    have hiH : it < H.objs.size := Heap.lt_size hoi
    obtain ⟨oD, hoD, _⟩ := Heap.dictOf_iff.mp hacc'
    have hDH : D < H.objs.size := Heap.lt_size hoD
    refine pyNext_enum_item he' hit' hv hei fun h₁ u₁ v₁ heo hit₁ ht₁ hz₁ hk₁ tk₁ => ?_
    refine wpAny_letOwnedTupleGo_enum heo fun h₂ he₂ hs₂ => ?_
    replace hs₂ : Heap.SameBut e h₁ h₂ := hs₂
    have ht₂ : h₂.IsTuple H.objs.size #[.int i v₁, .int (c.toNat : Int) u₁] := ⟨_, (hs₂.2 _ (Nat.ne_of_gt heH)).trans ht₁, rfl, _, rfl⟩
    have hz₂ : h₂.objs.size = H.objs.size + 1 := hs₂.1.trans hz₁
    refine wpAny_assign_Tuple hh ht₂ rfl rfl fun h₃ hx₃ => ?_
    replace hx₃ : Heap.ExtBut h₂.objs.size h₂ h₃ := hx₃
    have old₃ : ∀ b o, b < H.objs.size → h₂.get? b = some o → h₃.get? b = some o := fun b o hb x => hx₃ b o (by rw [hz₂]; exact Nat.ne_of_lt (Nat.lt_succ_of_lt hb)) x
    have hn₃ : h₃.Ns cenv.locals m' := (hn'.at fun o x => hk₁ _ o (Ne.symm heL) (Ne.symm hiL) x).sameBut hs₂ (Ne.symm heL) |>.at fun o x => old₃ _ o hLH x
    show wpAny _ A (do holding [Value.int (c.toNat : Int) u₁] (assign (.Name xi pi) cenv (.int i v₁)); do holding [] (assign (.Name xv pv) cenv (.int (c.toNat : Int) u₁)); pure ()) _ _ _
    refine wpAny_bind (wpAny_holding (wpAny_assign_Name (wpAny_storeName_local hxi hn₃ (fun h₄ hn₄ hs₄ => ?_) hp)))
    replace hs₄ : Heap.SameBut cenv.locals h₃ h₄ := hs₄
    refine wpAny_bind (wpAny_holding (wpAny_assign_Name (wpAny_storeName_local hxv hn₄ (fun h₅ hn₅ hs₅ => wpAny_pure ?_) hp)))
    replace hs₅ : Heap.SameBut cenv.locals h₄ h₅ := hs₅
    have up : ∀ b o, b ≠ cenv.locals → b < H.objs.size → h₂.get? b = some o → h₅.get? b = some o := fun b o hbL hb x =>
      hs₅.extBut b o hbL (hs₄.extBut b o hbL (old₃ b o hb x))
    refine wpAny_mono (hkey i (c.toNat : Int) v₁ u₁ _ _ _ hn₅ (by simp [hne]) (by simp)) (fun key s₆ h₆ => ?_) fun _ _ x => x
    obtain ⟨⟨tk', rfl⟩, h₆, tk₆, rfl, hk₆⟩ := h₆
    refine wpAny_mono (hval i (c.toNat : Int) v₁ u₁ _ _ _ (hn₅.keeps hk₆) (by simp [hne]) (by simp)) (fun y s₇ h₇ => ?_) fun _ _ x => x
    obtain ⟨⟨ty, rfl⟩, h₇, tk₇, rfl, hk₇⟩ := h₇
    have hD₂ : h₂.DictOf (intKind prog w) D kvs := (hacc'.at fun o x => hk₁ D o hDe hDi x).at fun o x => hs₂.extBut D o hDe x
    have hD₇ : h₇.DictOf (intKind prog w) D kvs := hD₂.at fun o x => hk₇ D o (hk₆ D o (up D o hDC hDH x))
    have hkv : kvs.length ≤ sizeLine := by
      have := hS.length
      rw [List.length_take] at this
      rw [sizeLine_eq]; omega
    refine wpAny_dictSet_pairs (hsz := hkv) (intKind_is prog w _ _) hD₇ fun h₈ hD₈ hs₈ => ?_
    have all : ∀ b o, b ≠ cenv.locals → b ≠ D → b < H.objs.size → h₂.get? b = some o → h₈.get? b = some o := fun b o hbL hbD hb x =>
      hs₈.extBut b o hbD (hk₇ b o (hk₆ b o (up b o hbL hb x)))
    refine ⟨b.size + 1 - (i + 1), by omega, h₈, _, _, i + 1, .int (c.toNat : Int) u₁, _, rfl, ?_, ?_, hD₈, ((hn₅.keeps hk₆).keeps hk₇).sameBut hs₈ (Ne.symm hDC), ?_, hlt, rfl, fun a o h1 h2 h3 h4 x => ?_⟩
    · have : ((i + 1 : Nat) : Int) = (i : Int) + 1 := by push_cast; rfl
      rw [this]
      exact all e _ heL (Ne.symm hDe) heH he₂
    · obtain ⟨o, ho, hr⟩ := hit₁
      exact ⟨o, all it o hiL (Ne.symm hDi) hiH (hs₂.extBut it o (Ne.symm hei) ho), hr⟩
    · rw [dcPairs_take hv]
      exact .snoc hS
    · have hbH : a < H.objs.size := Heap.lt_size (hk a o h1 h2 h3 h4 x)
      exact all a o h1 h4 hbH (hs₂.extBut a o h2 (hk₁ a o h2 h3 (hk a o h1 h2 h3 h4 x)))
end
end Mine

-- part DC2
namespace Mine
open PySem PySem.W PyProof.Rows PySem.Spec PySem.Calls
theorem set_back_DC2 : True := by
  w_top off
  k_with_none
  trivial
section
variable {prog : Program} {w : World} {A : Around} {E : Value → Shared → Prop} {s : Shared} {env : Env}

theorem dc_eval {kx vx iter : Expr} {xi xv : Str} {pi pv pt : Pos} {x1 : Nat} {scope : Scope} {cl : List (Str × Addr)} {pos : Pos} {Q : Value → Shared → Prop} (f : Nat → Int)
    (hh : A.handled = none) (hclos : closureFor scope env = pure cl) (hcell : ∀ y ∈ scope.names, y.2 ≠ .cell) (hkind : scope.kind = .function)
    (hnames : ∀ y ∈ scope.names, y.2 = .local → scope.names.lookup y.1 = some .local) (hxi : scope.names.lookup xi = some .local) (hxv : scope.names.lookup xv = some .local) (hne : xi ≠ xv)
    (hkey : ∀ C i c u v s₂ m₂ E', s₂.heap.Ns C m₂ → m₂ xi = some (.int (i : Nat) u) → m₂ xv = some (.int c v) → wpAny (model prog w) A (eval kx (compEnvC scope cl C env)) (fun key s₃ => (∃ t', key = .int c t') ∧ Keeps s₂ s₃) E' s₂)
    (hval : ∀ C i c u v s₂ m₂ E', s₂.heap.Ns C m₂ → m₂ xi = some (.int (i : Nat) u) → m₂ xv = some (.int c v) → wpAny (model prog w) A (eval vx (compEnvC scope cl C env)) (fun y s₃ => (∃ t', y = .int (f i) t') ∧ Keeps s₂ s₃) E' s₂)
    (h : wpAny (model prog w) A (eval iter env) (fun xr s₁ => ∃ e it b t, xr = .ref e ∧ IsEnum s₁.heap e it 0 .none ∧ KBw.IsBytesIter s₁.heap it b t 0 ∧ e ≠ it ∧ b.size ≤ 1000 ∧
      (∀ D h' tk kvs, s₁.heap.objs.size ≤ D → h'.DictOf (intKind prog w) D kvs → StoredI (dcPairs b f) kvs → (∀ a o, a ≠ e → a ≠ it → s₁.heap.get? a = some o → h'.get? a = some o) → Q (.ref D) { s₁ with heap := h', toks := tk })) E s)
    (hs : ∀ x, foldedSetIterable iter env x = pure x := by intro _; rfl) :
    wpAny (model prog w) A (eval (.DictComp kx vx [⟨.Tuple [.Name xi pi, .Name xv pv] x1 pt, iter, [], 0⟩] scope pos) env) Q E s := by
  rw [arm_eval_DictComp]
  refine wpAny_comprehension_free (use := none) rfl hs hclos hkind hnames (wpAny_mono h (fun xr s₂ h₁ => ?_) fun _ _ e => e)
  obtain ⟨e, it, b, t, rfl, he, hit, hei, hsz, hQ⟩ := h₁
  refine wpAny_pyIter_enum he ?_
  refine wpAny_newObj_type (wpAny_newFunctionEnv hcell (by intro y hy; simp at hy) (fun h₁ hns₁ hsb₁ => ?_) hkind)
  dsimp only at hns₁ hsb₁ ⊢
  have hnew : (s₂.heap.push { cls := .type "dict", dict := none, data := .dict #[] }).DictOf (intKind prog w) s₂.heap.objs.size [] := Heap.DictOf.new s₂.heap
  generalize hH2 : s₂.heap.push { cls := .type "dict", dict := none, data := .dict #[] } = H2 at hns₁ hsb₁ hnew ⊢
  have hC : H2.objs.size = s₂.heap.objs.size + 1 := by rw [← hH2, Heap.size_push]
  have hDC : s₂.heap.objs.size ≠ H2.objs.size := by rw [hC]; exact Nat.ne_of_lt (Nat.lt_succ_self _)
  have below : ∀ b, b < s₂.heap.objs.size → b ≠ H2.objs.size ∧ b ≠ s₂.heap.objs.size := fun b hb => ⟨by rw [hC]; exact Nat.ne_of_lt (Nat.lt_succ_of_lt hb), Nat.ne_of_lt hb⟩
  have heH := Heap.lt_size he
  obtain ⟨oi, hoi, hoi'⟩ := id hit
  have hiH := Heap.lt_size hoi
  have old : ∀ b o, s₂.heap.get? b = some o → h₁.get? b = some o := fun b o e => hsb₁.extBut b o (below b (Heap.lt_size e)).1 (Heap.get?_push_of_some _ (hH2 ▸ Heap.get?_push_of_some _ e))
  have hacc : h₁.DictOf (intKind prog w) s₂.heap.objs.size [] := hnew.at fun o e => hsb₁.extBut _ _ hDC (Heap.get?_push_of_some _ e)
  have fresh : ∀ a, s₂.heap.objs.size ≤ a → s₂.heap.get? a = none := fun a ha => by
    cases e : s₂.heap.get? a with
    | none => rfl
    | some o' => exact absurd (Heap.lt_size e) (Nat.not_lt.mpr ha)
  have he₁ : IsEnum h₁ e it 0 .none := old _ _ he
  have hit₁ : KBw.IsBytesIter h₁ it b t 0 := ⟨oi, old _ _ hoi, hoi'⟩
  have loop : ∀ s₃ : Shared, s₃ = { s₂ with heap := h₁, toks := s₂.toks + ([] : List (Str × Value)).length } →
      codeAny (model prog w) A (.compLoop (.DictComp kx vx [⟨.Tuple [.Name xi pi, .Name xv pv] x1 pt, iter, [], 0⟩] scope pos) 0 (.ref e) (.ref s₂.heap.objs.size) (compEnvC scope cl H2.objs.size env))
        (compPost (model prog w) A E none Q (.ref s₂.heap.objs.size) H2.objs.size) s₃ := by
    rintro s₃ rfl
    refine dc_loop (cenv := compEnvC scope cl H2.objs.size env) f hh (lookup_relabel_local hxi) (lookup_relabel_local hxv) hne (by simp [compEnvC, relabel, hkind]) hei (below e heH).1 (below it hiH).1 (Ne.symm (below e heH).2) (Ne.symm (below it hiH).2) hDC
      he₁ hit₁ hacc hns₁ hsz (fun i c u v s₃ m₃ E' => hkey _ i c u v s₃ m₃ E') (fun i c u v s₃ m₃ E' => hval _ i c u v s₃ m₃ E') fun h' tk m' kvs hn hD hS hk => ?_
    exact ⟨m', hn, fun h'' hs'' => hQ _ h'' tk kvs (Nat.le_refl _) (hD.at fun o x => hs''.extBut _ o hDC x) hS fun a o ha1 ha2 x =>
      hs''.extBut a o (below a (Heap.lt_size x)).1 (hk a o (below a (Heap.lt_size x)).1 ha1 ha2 (below a (Heap.lt_size x)).2 (old a o x))⟩
  exact codeAny_compStart_dict (loop _ rfl) (wpAny_pyIter_enum he₁ (loop _ rfl))
end
end Mine

-- part LB2
namespace Mine
open PySem PySem.W PyProof.Rows PySem.Spec PySem.Calls
theorem set_back_LB2 : True := by
  w_top off
  k_with_none
  trivial
/-- a goal that no line of the walk takes -/
structure Halt (P : Prop) : Prop where
  get : P
/-- where the two ways of «numbers» meet -/
def NumPost (h₀ : Heap) (L : Addr) (m : Str → Option Value) (news : List (Addr × Obj)) (s : Shared) (v : Value) (s' : Shared) : Prop :=
  ∃ D ws ns h' tk, v = .ref D ∧ s' = { s with heap := h', toks := tk } ∧ Fr h₀ L h' m ∧ News h₀ L h' ((D, listOf ws.toArray 0) :: news) ∧ AllLt D news ∧ IntsAre ws ns ∧ ns.length ≤ 10
theorem NumPost.mk {h₀ : Heap} {L : Addr} {m : Str → Option Value} {news news' : List (Addr × Obj)} {s : Shared} {D : Addr} {ws : List Value} {ns : List Int} {h' : Heap} {tk : Nat} (F : Fr h₀ L h' m) (N : News h₀ L h' ((D, listOf ws.toArray 0) :: news'))
    (hs : ∀ p ∈ news, p ∈ news') (l : AllLt D news) (i : IntsAre ws ns) (hl : ns.length ≤ 10) : NumPost h₀ L m news s (.ref D) { s with heap := h', toks := tk } :=
  ⟨D, ws, ns, h', tk, rfl, rfl, F, fun p hp => by
    rcases List.mem_cons.mp hp with rfl | hp
    · exact N _ (List.mem_cons_self ..)
    · exact N _ (List.mem_cons_of_mem _ (hs _ hp)), l, i, hl⟩
/-- where the two ways of «two» meet -/
def alts : Option (UInt8 × UInt8) → Array UInt8
  | none => #[]
  | some (a, b) => #[a, b]
def AltOk : Option (UInt8 × UInt8) → Prop
  | none => True
  | some (a, b) => a ≠ 0 ∧ b ≠ 0 ∧ a ≠ 61 ∧ b ≠ 61
def TwoPost (h₀ : Heap) (L : Addr) (m : Str → Option Value) (news : List (Addr × Obj)) (s : Shared) (v : Value) (s' : Shared) : Prop :=
  ∃ o t h' tk, v = .bytes (alts o) t ∧ AltOk o ∧ s' = { s with heap := h', toks := tk } ∧ Fr h₀ L h' m ∧ News h₀ L h' news
theorem num_join {α : Type} {M : Model} {A : Around} {E : Value → Shared → Prop} {s : Shared} {h₀ : Heap} {L : Addr} {m : Str → Option Value} {news : List (Addr × Obj)} {t : Sem Value} {Q : Value → Shared → Prop} (_ : α) (_F : Fr h₀ L s.heap m) (_N : News h₀ L s.heap news)
    (h1 : wpAny M A t (NumPost h₀ L m news s) E s) (h2 : ∀ D ws ns h' tk, Fr h₀ L h' m → News h₀ L h' ((D, listOf ws.toArray 0) :: news) → AllLt D news → IntsAre ws ns → ns.length ≤ 10 → Q (.ref D) { s with heap := h', toks := tk }) : wpAny M A t Q E s :=
  wpAny_mono h1 (fun _ _ h => by obtain ⟨D, ws, ns, h', tk, rfl, rfl, F, N, l, i, hl⟩ := h; exact h2 D ws ns h' tk F N l i hl) fun _ _ x => x
theorem two_join {α : Type} {M : Model} {A : Around} {E : Value → Shared → Prop} {s : Shared} {h₀ : Heap} {L : Addr} {m : Str → Option Value} {news : List (Addr × Obj)} {t : Sem Value} {Q : Value → Shared → Prop} (_ : α) (_F : Fr h₀ L s.heap m) (_N : News h₀ L s.heap news)
    (h1 : wpAny M A t (TwoPost h₀ L m news s) E s) (h2 : ∀ o t h' tk, AltOk o → Fr h₀ L h' m → News h₀ L h' news → Q (.bytes (alts o) t) { s with heap := h', toks := tk }) : wpAny M A t Q E s :=
  wpAny_mono h1 (fun _ _ h => by obtain ⟨o, t, h', tk, rfl, ok, rfl, F, N⟩ := h; exact h2 o t h' tk ok F N) fun _ _ x => x
theorem TwoPost.mk0 {h₀ : Heap} {L : Addr} {m : Str → Option Value} {news news' : List (Addr × Obj)} {s : Shared} {t : Tok} {h' : Heap} {tk : Nat} (F : Fr h₀ L h' m) (N : News h₀ L h' news') (hs : ∀ p ∈ news, p ∈ news') : TwoPost h₀ L m news s (.bytes #[] t) { s with heap := h', toks := tk } :=
  ⟨none, t, h', tk, rfl, trivial, rfl, F, fun p hp => N p (hs p hp)⟩
end Mine

-- part LC
namespace Mine
open PySem PySem.W PyProof.Rows PySem.Spec PySem.Calls
theorem set_back_LC : True := by
  w_top off
  k_with_none
  trivial
section
variable {prog : Program} {w : World} {A : Around} {E : Value → Shared → Prop} {s : Shared} {env : Env}

/-- the end of an element's or a test's walk, shut to the walk's lines -/
structure EltEnd (P : Prop) (s₃ s₄ : Shared) : Prop where
  says : P
  keeps : Keeps s₃ s₄
theorem EltEnd.open {P : Prop} {s₃ s₄ : Shared} (h : EltEnd P s₃ s₄) : P ∧ Keeps s₃ s₄ := ⟨h.says, h.keeps⟩
theorem wp_open {α : Type} {M : Model} {A : Around} {t : Sem α} {P : α → Prop} {E : Value → Shared → Prop} {s₃ : Shared} (h : wpAny M A t (fun y s₄ => EltEnd (P y) s₃ s₄) E s₃) : wpAny M A t (fun y s₄ => P y ∧ Keeps s₃ s₄) E s₃ :=
  wpAny_mono h (fun _ _ h => h.open) fun _ _ x => x
theorem oct_of {k : Int} (h0 : 0 ≤ k) (h1 : k < 254) : 0 ≤ 255 - k - k.fdiv 194 ∧ 255 - k - k.fdiv 194 < 256 ∧ (255 - k - k.fdiv 194).toNat.toUInt8 ≠ 0 ∧ (255 - k - k.fdiv 194).toNat.toUInt8 ≠ 61 := by
  rw [Int.fdiv_eq_ediv_of_nonneg _ (by decide)]
  have hx : 1 ≤ 255 - k - k / 194 ∧ 255 - k - k / 194 < 256 ∧ 255 - k - k / 194 ≠ 61 := by omega
  refine ⟨by omega, by omega, fun e => ?_, fun e => ?_⟩
  · have := congrArg UInt8.toNat e
    have e2 : (255 - k - k / 194).toNat.toUInt8.toNat = (255 - k - k / 194).toNat := by
      show (UInt8.ofNat (255 - k - k / 194).toNat).toNat = _
      rw [UInt8.toNat_ofNat']; omega
    rw [e2] at this
    have e3 : (0 : UInt8).toNat = 0 := rfl
    omega
  · have := congrArg UInt8.toNat e
    have e2 : (255 - k - k / 194).toNat.toUInt8.toNat = (255 - k - k / 194).toNat := by
      show (UInt8.ofNat (255 - k - k / 194).toNat).toNat = _
      rw [UInt8.toNat_ofNat']; omega
    rw [e2] at this
    have e3 : (61 : UInt8).toNat = 61 := rfl
    omega
theorem TwoPost.mk2 {h₀ : Heap} {L : Addr} {m : Str → Option Value} {news news' : List (Addr × Obj)} {s : Shared} {t : Tok} {h' : Heap} {tk : Nat} {k1 k2 : Int} (a0 : 0 ≤ k1) (a1 : k1 < 254) (b0 : 0 ≤ k2) (b1 : k2 < 254) (F : Fr h₀ L h' m) (N : News h₀ L h' news') (hs : ∀ p ∈ news, p ∈ news') :
    TwoPost h₀ L m news s (.bytes (byteArr ([k1, k2].map fun n => 255 - n - n.fdiv 194)) t) { s with heap := h', toks := tk } :=
  ⟨some (_, _), t, h', tk, rfl, ⟨(oct_of a0 a1).2.2.1, (oct_of b0 b1).2.2.1, (oct_of a0 a1).2.2.2, (oct_of b0 b1).2.2.2⟩, rfl, F, fun p hp => N p (hs p hp)⟩
theorem two_in {k1 k2 : Int} (a0 : 0 ≤ k1) (a1 : k1 < 254) (b0 : 0 ≤ k2) (b1 : k2 < 254) : KBa.In ([k1, k2].map fun n => 255 - n - n.fdiv 194) := by
  intro n hn
  simp only [List.map_cons, List.map_nil, List.mem_cons, List.not_mem_nil, or_false] at hn
  rcases hn with rfl | rfl
  · exact ⟨(oct_of a0 a1).1, (oct_of a0 a1).2.1⟩
  · exact ⟨(oct_of b0 b1).1, (oct_of b0 b1).2.1⟩
theorem mod254 (x : Int) : 0 ≤ x.fmod 254 ∧ x.fmod 254 < 254 := by
  rw [Int.fmod_eq_emod_of_nonneg _ (by decide)]
  omega

/-- what a list comprehension wants of its source, with frame and ledger -/
def LcAt (prog : Program) (w : World) (A : Around) (env : Env) (scope : Scope) (cl : List (Str × Addr)) (x : Str) (ifs : List Expr) (elt : Expr) (p : Value → Bool) (G : Value → Value → Prop) (Q : Value → Shared → Prop) (it : Value) (s₂ : Shared) : Prop :=
  ∃ I fp wr n P St h₀ L m news, it = .ref I ∧ Walks prog w A I fp wr n P St ∧ n ≤ sizeLine ∧ St 0 s₂.heap ∧ (∀ b ∈ fp, b < s₂.heap.objs.size) ∧ Fr h₀ L s₂.heap m ∧ News h₀ L s₂.heap news ∧
    (∀ b ∈ wr, h₀.get? b = none ∧ b ≠ L ∧ ∀ q ∈ news, q.1 ≠ b) ∧ QuietOnC prog w A env scope cl x ifs elt wr P p G s₂ ∧
    (∀ D ys c h' tk (vs : List Value), Fr h₀ L h' m → News h₀ L h' ((D, listOf ys c) :: news) → (∀ q ∈ news, q.1 ≠ D) → vs.length = n → (∀ j v, vs[j]? = some v → P j v) → Paired G (vs.filter p) ys.toList → Q (.ref D) { s₂ with heap := h', toks := tk })

theorem lc_K {elt iter : Expr} {x : Str} {px : Pos} {ifs : List Expr} {scope : Scope} {cl : List (Str × Addr)} {pos : Pos} {Q : Value → Shared → Prop} (p : Value → Bool) (G : Value → Value → Prop)
    (hclos : closureFor scope env = pure cl) (hcell : ∀ y ∈ scope.names, y.2 ≠ .cell) (hkind : scope.kind = .function)
    (hnames : ∀ y ∈ scope.names, y.2 = .local → scope.names.lookup y.1 = some .local) (hx : scope.names.lookup x = some .local)
    (h : wpAny (model prog w) A (eval iter env) (fun xv s₁ => wpAny (model prog w) A (pyIter xv) (LcAt prog w A env scope cl x ifs elt p G Q) E s₁) E s)
    (hs : ∀ x, foldedSetIterable iter env x = pure x := by intro _; rfl) :
    wpAny (model prog w) A (eval (.ListComp elt [⟨.Name x px, iter, ifs, 0⟩] scope pos) env) Q E s := by
  refine wpAny_ListComp_free p G hclos hcell hkind hnames hx (wpAny_mono h (fun xv s₁ h₁ => wpAny_mono h₁ (fun it s₂ h₂ => ?_) fun _ _ e => e) fun _ _ e => e) hs
  obtain ⟨I, fp, wr, n, P, St, h₀, L, m, news, rfl, W, hn, hst, hfp, F, N, hwr, hq, hQ⟩ := h₂
  refine ⟨I, fp, wr, n, P, St, rfl, W, hn, hst, hfp, hq, fun D h' tk ys vs hD _ hpl hlen hP hF hk => ?_⟩
  obtain ⟨c, hpl⟩ := hpl
  have hL : L ∉ wr := fun hm => (hwr L hm).2.1 rfl
  have F' : Fr h₀ L h' m := ⟨F.ns.at fun o e => hk L o hL e, fun b o e => hk b o (fun hm => by rw [(hwr b hm).1] at e; cases e) (F.keep b o e), F.above⟩
  have hne : ∀ q ∈ news, q.1 ≠ D := fun q hq' e => by
    have := (N q hq').1
    rw [e, hD] at this; cases this
  refine hQ D ys c h' tk vs F' (fun q hq' => ?_) hne hlen hP hF
  rcases List.mem_cons.mp hq' with rfl | hq'
  · refine ⟨hpl, fun e => ?_, ?_⟩
    · obtain ⟨o, _, _, ho, _⟩ := F.ns
      dsimp only at e
      rw [← e, hD] at ho; cases ho
    · cases e : h₀.get? D with
      | none => rfl
      | some o => have := F.keep _ _ e; rw [hD] at this; cases this
  · exact ⟨hk q.1 q.2 (fun hm => (hwr q.1 hm).2.2 q hq' rfl) (N q hq').1, (N q hq').2⟩

theorem src_of {scope : Scope} {cl : List (Str × Addr)} {x : Str} {ifs : List Expr} {elt : Expr} {p : Value → Bool} {G : Value → Value → Prop} {Q : Value → Shared → Prop} {fp : List Addr} {n : Nat} {P : Nat → Value → Prop} {St : Nat → Heap → Prop} {o : Obj} {h₀ : Heap} {L : Addr} {m : Str → Option Value} {news : List (Addr × Obj)}
    (F : Fr h₀ L s.heap m) (N : News h₀ L s.heap news) (W : Walks prog w A s.heap.objs.size fp [s.heap.objs.size] n P St) (hst : St 0 (s.heap.push o)) (hfp : ∀ b ∈ fp, b ≤ s.heap.objs.size) (hn : n ≤ 1000)
    (tests : ∀ C i v s₃ m₃ E', s.heap.objs.size < C → P i v → s₃.heap.Ns C m₃ → m₃ x = some v → (∀ b o, s.heap.get? b = some o → s₃.heap.get? b = some o) →
      wpAny (model prog w) A (forIn ifs true fun c r => if r = true then do let ok ← isTrue c (compEnvC scope cl C env) (eval c (compEnvC scope cl C env)); pure (ForInStep.yield ok) else pure (ForInStep.yield r)) (fun ok s₄ => ok = p v ∧ Keeps s₃ s₄) E' s₃)
    (elts : ∀ C i v s₃ m₃ E', s.heap.objs.size < C → P i v → p v = true → s₃.heap.Ns C m₃ → m₃ x = some v → (∀ b o, s.heap.get? b = some o → s₃.heap.get? b = some o) →
      wpAny (model prog w) A (eval elt (compEnvC scope cl C env)) (fun y s₄ => G v y ∧ Keeps s₃ s₄) E' s₃)
    (done : ∀ D ys c h' tk (vs : List Value), Fr h₀ L h' m → News h₀ L h' ((D, listOf ys c) :: news) → (∀ q ∈ news, q.1 ≠ D) → vs.length = n → (∀ j v, vs[j]? = some v → P j v) → Paired G (vs.filter p) ys.toList → Q (.ref D) { s with heap := h', toks := tk }) :
    LcAt prog w A env scope cl x ifs elt p G Q (.ref s.heap.objs.size) { s with heap := s.heap.push o } := by
  have hz : (s.heap.push o).objs.size = s.heap.objs.size + 1 := Heap.size_push ..
  have nw : ∀ b, s.heap.get? b ≠ none → b ∉ [s.heap.objs.size] := fun b hb hm => by
    rw [List.mem_singleton.mp hm] at hb
    cases e : s.heap.get? s.heap.objs.size with
    | none => exact hb e
    | some o' => exact absurd (Heap.lt_size e) (Nat.lt_irrefl _)
  refine ⟨_, fp, [s.heap.objs.size], n, P, St, h₀, L, m, news, rfl, W, by rw [sizeLine_eq]; omega, hst, fun b hb => by rw [hz]; exact Nat.lt_succ_of_le (hfp b hb), F.push _, fun q hq => ⟨Heap.get?_push_of_some _ (N q hq).1, (N q hq).2⟩, ?_, ⟨?_, ?_⟩, done⟩
  · intro b hb
    rw [List.mem_singleton.mp hb]
    refine ⟨?_, Nat.ne_of_gt F.ns.lt, fun q hq e => absurd (Heap.lt_size (N q hq).1) (by rw [e]; exact Nat.lt_irrefl _)⟩
    cases e : h₀.get? s.heap.objs.size with
    | none => rfl
    | some o' => exact absurd (Heap.lt_size (F.keep _ _ e)) (Nat.lt_irrefl _)
  · intro C i v s₃ m₃ E' hC hP hns hm hk _
    exact tests C i v s₃ m₃ E' (by rw [hz] at hC; exact hC) hP hns hm fun b o' e => hk b o' (nw b (by rw [e]; simp)) (Heap.get?_push_of_some _ e)
  · intro C i v s₃ m₃ E' hC hP hp hns hm hk _
    exact elts C i v s₃ m₃ E' (by rw [hz] at hC; exact hC) hP hp hns hm fun b o' e => hk b o' (nw b (by rw [e]; simp)) (Heap.get?_push_of_some _ e)

theorem all_items {items : Array Value} {vs : List Value} (hlen : vs.length = items.size) (hP : ∀ (j : Nat) (v : Value), vs[j]? = some v → items[j]? = some v) : vs = items.toList := walked_is hlen hP
theorem src_tuple {scope : Scope} {cl : List (Str × Addr)} {x : Str} {ifs : List Expr} {elt : Expr} {p : Value → Bool} {G : Value → Value → Prop} {Q : Value → Shared → Prop} {h₀ : Heap} {L : Addr} {m : Str → Option Value} {news : List (Addr × Obj)} {t : Addr} {items : Array Value} (F : Fr h₀ L s.heap m) (N : News h₀ L s.heap news) (hh : A.handled = none) (hm : (t, ({ cls := .type "tuple", data := .seq items } : Obj)) ∈ news) (hn : items.size ≤ 1000)
    (tests : ∀ C (i : Nat) (v : Value) s₃ m₃ E', s.heap.objs.size < C → items[i]? = some v → s₃.heap.Ns C m₃ → m₃ x = some v → (∀ b o, s.heap.get? b = some o → s₃.heap.get? b = some o) →
      wpAny (model prog w) A (forIn ifs true fun c r => if r = true then do let ok ← isTrue c (compEnvC scope cl C env) (eval c (compEnvC scope cl C env)); pure (ForInStep.yield ok) else pure (ForInStep.yield r)) (fun ok s₄ => ok = p v ∧ Keeps s₃ s₄) E' s₃)
    (elts : ∀ C (i : Nat) (v : Value) s₃ m₃ E', s.heap.objs.size < C → items[i]? = some v → p v = true → s₃.heap.Ns C m₃ → m₃ x = some v → (∀ b o, s.heap.get? b = some o → s₃.heap.get? b = some o) →
      wpAny (model prog w) A (eval elt (compEnvC scope cl C env)) (fun y s₄ => G v y ∧ Keeps s₃ s₄) E' s₃)
    (done : ∀ D ys c h' tk, Fr h₀ L h' m → News h₀ L h' ((D, listOf ys c) :: news) → (∀ q ∈ news, q.1 ≠ D) → Paired G (items.toList.filter p) ys.toList → Q (.ref D) { s with heap := h', toks := tk }) :
    wpAny (model prog w) A (pyIter (.ref t)) (LcAt prog w A env scope cl x ifs elt p G Q) E s := by
  have ht : s.heap.IsTuple t items := ⟨_, (N _ hm).1, rfl, _, rfl⟩
  have hlt := Heap.lt_size (N _ hm).1
  refine wpAny_pyIter_tuple ht (src_of F N (Walks.tuple hh _ t (Nat.ne_of_lt hlt) items) ⟨⟨_, Heap.get?_push_size _ rfl, rfl, rfl⟩, ⟨_, Heap.get?_push_of_some _ (N _ hm).1, rfl, _, rfl⟩⟩ ?_ hn tests elts ?_)
  · intro b hb
    rcases List.mem_cons.mp hb with rfl | hb
    · exact Nat.le_refl _
    · rw [List.mem_singleton.mp hb]; exact Nat.le_of_lt hlt
  · intro D ys c h' tk vs F' N' hne hlen hP hG
    exact done D ys c h' tk F' N' hne (by rw [← all_items hlen hP]; exact hG)
theorem src_list {scope : Scope} {cl : List (Str × Addr)} {x : Str} {ifs : List Expr} {elt : Expr} {p : Value → Bool} {G : Value → Value → Prop} {Q : Value → Shared → Prop} {h₀ : Heap} {L : Addr} {m : Str → Option Value} {news : List (Addr × Obj)} {t : Addr} {items : Array Value} {cc : Nat} (F : Fr h₀ L s.heap m) (N : News h₀ L s.heap news) (hh : A.handled = none) (hm : (t, listOf items cc) ∈ news) (hn : items.size ≤ 1000)
    (tests : ∀ C (i : Nat) (v : Value) s₃ m₃ E', s.heap.objs.size < C → items[i]? = some v → s₃.heap.Ns C m₃ → m₃ x = some v → (∀ b o, s.heap.get? b = some o → s₃.heap.get? b = some o) →
      wpAny (model prog w) A (forIn ifs true fun c r => if r = true then do let ok ← isTrue c (compEnvC scope cl C env) (eval c (compEnvC scope cl C env)); pure (ForInStep.yield ok) else pure (ForInStep.yield r)) (fun ok s₄ => ok = p v ∧ Keeps s₃ s₄) E' s₃)
    (elts : ∀ C (i : Nat) (v : Value) s₃ m₃ E', s.heap.objs.size < C → items[i]? = some v → p v = true → s₃.heap.Ns C m₃ → m₃ x = some v → (∀ b o, s.heap.get? b = some o → s₃.heap.get? b = some o) →
      wpAny (model prog w) A (eval elt (compEnvC scope cl C env)) (fun y s₄ => G v y ∧ Keeps s₃ s₄) E' s₃)
    (done : ∀ D ys c h' tk, Fr h₀ L h' m → News h₀ L h' ((D, listOf ys c) :: news) → (∀ q ∈ news, q.1 ≠ D) → Paired G (items.toList.filter p) ys.toList → Q (.ref D) { s with heap := h', toks := tk }) :
    wpAny (model prog w) A (pyIter (.ref t)) (LcAt prog w A env scope cl x ifs elt p G Q) E s := by
  have ht : s.heap.IsList t items := ⟨_, (N _ hm).1, rfl, _, rfl⟩
  have hlt := Heap.lt_size (N _ hm).1
  refine wpAny_pyIter_list ht (src_of F N (Walks.list hh _ t (Nat.ne_of_lt hlt) items) ⟨⟨_, Heap.get?_push_size _ rfl, rfl, rfl⟩, ⟨_, Heap.get?_push_of_some _ (N _ hm).1, rfl, _, rfl⟩⟩ ?_ hn tests elts ?_)
  · intro b hb
    rcases List.mem_cons.mp hb with rfl | hb
    · exact Nat.le_refl _
    · rw [List.mem_singleton.mp hb]; exact Nat.le_of_lt hlt
  · intro D ys c h' tk vs F' N' hne hlen hP hG
    exact done D ys c h' tk F' N' hne (by rw [← all_items hlen hP]; exact hG)
theorem src_bytes {scope : Scope} {cl : List (Str × Addr)} {x : Str} {ifs : List Expr} {elt : Expr} {p : Value → Bool} {G : Value → Value → Prop} {Q : Value → Shared → Prop} {h₀ : Heap} {L : Addr} {m : Str → Option Value} {news : List (Addr × Obj)} {bb : Array UInt8} {tb : Tok} (F : Fr h₀ L s.heap m) (N : News h₀ L s.heap news) (hh : A.handled = none) (hn : bb.size ≤ 1000)
    (tests : ∀ C (i : Nat) (v : Value) s₃ m₃ E', s.heap.objs.size < C → (∃ (c : UInt8) (u : Tok), bb[i]? = some c ∧ v = .int (c.toNat : Int) u) → s₃.heap.Ns C m₃ → m₃ x = some v → (∀ b o, s.heap.get? b = some o → s₃.heap.get? b = some o) →
      wpAny (model prog w) A (forIn ifs true fun c r => if r = true then do let ok ← isTrue c (compEnvC scope cl C env) (eval c (compEnvC scope cl C env)); pure (ForInStep.yield ok) else pure (ForInStep.yield r)) (fun ok s₄ => ok = p v ∧ Keeps s₃ s₄) E' s₃)
    (elts : ∀ C (i : Nat) (v : Value) s₃ m₃ E', s.heap.objs.size < C → (∃ (c : UInt8) (u : Tok), bb[i]? = some c ∧ v = .int (c.toNat : Int) u) → p v = true → s₃.heap.Ns C m₃ → m₃ x = some v → (∀ b o, s.heap.get? b = some o → s₃.heap.get? b = some o) →
      wpAny (model prog w) A (eval elt (compEnvC scope cl C env)) (fun y s₄ => G v y ∧ Keeps s₃ s₄) E' s₃)
    (done : ∀ D ys c h' tk vs, Fr h₀ L h' m → News h₀ L h' ((D, listOf ys c) :: news) → (∀ q ∈ news, q.1 ≠ D) → IntsAre vs (KBw.bInts bb) → Paired G (vs.filter p) ys.toList → Q (.ref D) { s with heap := h', toks := tk }) :
    wpAny (model prog w) A (pyIter (.bytes bb tb)) (LcAt prog w A env scope cl x ifs elt p G Q) E s := by
  refine KBw.pyIter_bytes (src_of F N (KBw.walks hh _ bb tb) ⟨_, Heap.get?_push_size _ rfl, rfl, rfl⟩ ?_ hn tests elts ?_)
  · intro b hb
    rw [List.mem_singleton.mp hb]; exact Nat.le_refl _
  · intro D ys c h' tk vs F' N' hne hlen hP hG
    refine done D ys c h' tk vs F' N' hne ?_ hG
    exact octs_ints bb.toList vs (by simpa using hlen) fun j v hj => by
      obtain ⟨c, u, hc, e⟩ := hP j v hj
      exact ⟨c, u, by simpa using hc, e⟩

theorem paired_ints {g : Int → Int} {vs ys : List Value} {ns : List Int} (h : IntsAre vs ns) (p : Paired (fun v y => ∀ n t, v = Value.int n t → ∃ t', y = Value.int (g n) t') vs ys) : IntsAre ys (ns.map g) := by
  induction h generalizing ys with
  | nil => cases p; exact .nil
  | cons n t _ ih =>
    cases p with
    | cons f r =>
      obtain ⟨t', rfl⟩ := f n t rfl
      exact .cons _ _ (ih r)
theorem two_facts {x y : Int} {t u : Tok} {ws : List Value} (hG : Paired (fun v y => ∀ n t, v = Value.int n t → ∃ t', y = Value.int (255 - n - n.fdiv 194) t') (List.filter (fun _ => true) (#[Value.int (x.fmod 254) t, Value.int (y.fmod 254) u]).toList) ws.toArray.toList) :
    IntsAre ws ([x.fmod 254, y.fmod 254].map fun n => 255 - n - n.fdiv 194) ∧ KBa.In ([x.fmod 254, y.fmod 254].map fun n => 255 - n - n.fdiv 194) :=
  ⟨paired_ints (g := fun n => 255 - n - n.fdiv 194) (.cons _ _ (.cons _ _ .nil)) hG, two_in (mod254 _).1 (mod254 _).2 (mod254 _).1 (mod254 _).2⟩
end
end Mine

-- part LD
namespace Mine
open PySem PySem.W PyProof.Rows PySem.Spec PySem.Calls
theorem set_back_LD : True := by
  w_top off
  k_with_none
  trivial
def altI (o : Option (UInt8 × UInt8)) : List Int := KBw.bInts (alts o)
theorem alts_size (o : Option (UInt8 × UInt8)) : (alts o).size ≤ 2 := by
  cases o with
  | none => decide
  | some p => exact Nat.le_refl _
/-- what the dict comprehension wants of its source -/
def EnumAt (prog : Program) (w : World) (f : Nat → Int) (Q : Value → Shared → Prop) (xr : Value) (s₁ : Shared) : Prop :=
  ∃ e it b t h₀ L m news, xr = .ref e ∧ IsEnum s₁.heap e it 0 .none ∧ KBw.IsBytesIter s₁.heap it b t 0 ∧ e ≠ it ∧ b.size ≤ 1000 ∧ Fr h₀ L s₁.heap m ∧ News h₀ L s₁.heap news ∧
      (h₀.get? e = none ∧ e ≠ L ∧ ∀ q ∈ news, q.1 ≠ e) ∧ (h₀.get? it = none ∧ it ≠ L ∧ ∀ q ∈ news, q.1 ≠ it) ∧
      (∀ D od kvs h' tk, Fr h₀ L h' m → News h₀ L h' ((D, od) :: news) → (∀ q ∈ news, q.1 < D) → od.IsDictOf (intKind prog w) kvs → StoredI (dcPairs b f) kvs → h₀.get? D = none → Q (.ref D) { s₁ with heap := h', toks := tk })
section
variable {prog : Program} {w : World} {A : Around} {E : Value → Shared → Prop} {s : Shared}
/-- the signs, told by their numbers alone -/
theorem add_signs {lit : Array UInt8} {o : Option (UInt8 × UInt8)} {t u : Tok} {Q : Value → Shared → Prop} (hl : KBw.bInts lit = s64) (h : ∀ sg t' k, KBw.bInts sg = s64 ++ altI o → Q (.bytes sg t') { s with toks := k }) :
    wpAny (model prog w) A (binaryOp .Add (.bytes lit t) (.bytes (alts o) u)) Q E s :=
  KBa.add_K hl rfl (by
    have h1 : (KBw.bInts (alts o)).length ≤ 2 := by rw [KBw.ints_length]; exact alts_size o
    have h2 : s64.length = 64 := s64_len
    omega) fun t' k e => h _ t' k e

/-- the dict comprehension over enumerate of bytes, with frame and ledger -/
theorem dc_K {env : Env} {kx vx iter : Expr} {xi xv : Str} {pi pv pt : Pos} {x1 : Nat} {scope : Scope} {cl : List (Str × Addr)} {pos : Pos} {Q : Value → Shared → Prop} (f : Nat → Int)
    (hh : A.handled = none) (hclos : closureFor scope env = pure cl) (hcell : ∀ y ∈ scope.names, y.2 ≠ .cell) (hkind : scope.kind = .function)
    (hnames : ∀ y ∈ scope.names, y.2 = .local → scope.names.lookup y.1 = some .local) (hxi : scope.names.lookup xi = some .local) (hxv : scope.names.lookup xv = some .local) (hne : xi ≠ xv)
    (hkey : ∀ C i c u v s₂ m₂ E', s₂.heap.Ns C m₂ → m₂ xi = some (.int (i : Nat) u) → m₂ xv = some (.int c v) → wpAny (model prog w) A (eval kx (compEnvC scope cl C env)) (fun key s₃ => (∃ t', key = .int c t') ∧ Keeps s₂ s₃) E' s₂)
    (hval : ∀ C i c u v s₂ m₂ E', s₂.heap.Ns C m₂ → m₂ xi = some (.int (i : Nat) u) → m₂ xv = some (.int c v) → wpAny (model prog w) A (eval vx (compEnvC scope cl C env)) (fun y s₃ => (∃ t', y = .int (f i) t') ∧ Keeps s₂ s₃) E' s₂)
    (h : wpAny (model prog w) A (eval iter env) (EnumAt prog w f Q) E s)
    (hs : ∀ x, foldedSetIterable iter env x = pure x := by intro _; rfl) :
    wpAny (model prog w) A (eval (.DictComp kx vx [⟨.Tuple [.Name xi pi, .Name xv pv] x1 pt, iter, [], 0⟩] scope pos) env) Q E s := by
  refine dc_eval f hh hclos hcell hkind hnames hxi hxv hne hkey hval (wpAny_mono h (fun xr s₁ h₁ => ?_) fun _ _ x => x) hs
  obtain ⟨e, it, b, t, h₀, L, m, news, rfl, he, hit, hei, hsz, F, N, we, wi, hQ⟩ := h₁
  refine ⟨e, it, b, t, rfl, he, hit, hei, hsz, fun D h' tk kvs hsD hdict hS hk => ?_⟩
  have hD : s₁.heap.get? D = none := by
    cases x : s₁.heap.get? D with
    | none => rfl
    | some o => exact absurd (Heap.lt_size x) (Nat.not_lt.mpr hsD)
  obtain ⟨od, ho, hod⟩ := Heap.dictOf_iff.mp hdict
  have F' : Fr h₀ L h' m := ⟨F.ns.at fun o x => hk L o (Ne.symm we.2.1) (Ne.symm wi.2.1) x, fun a o x => hk a o (fun q => by rw [q, we.1] at x; cases x) (fun q => by rw [q, wi.1] at x; cases x) (F.keep a o x), F.above⟩
  have hD0 : h₀.get? D = none := by
    cases x : h₀.get? D with
    | none => rfl
    | some o => have := F.keep _ _ x; rw [hD] at this; cases this
  refine hQ D od kvs h' tk F' (fun q hq => ?_) (fun q hq => Nat.lt_of_lt_of_le (Heap.lt_size (N q hq).1) hsD) hod hS hD0
  rcases List.mem_cons.mp hq with rfl | hq
  · refine ⟨ho, fun x => ?_, hD0⟩
    obtain ⟨o, _, _, ho', _⟩ := F.ns
    dsimp only at x
    rw [← x, hD] at ho'; cases ho'
  · exact ⟨hk q.1 q.2 (we.2.2 q hq) (wi.2.2 q hq) (N q hq).1, (N q hq).2⟩
theorem enum_src {sg : Array UInt8} {tb : Tok} {f : Nat → Int} {Q : Value → Shared → Prop} {h₀ : Heap} {L : Addr} {m : Str → Option Value} {news : List (Addr × Obj)} (F : Fr h₀ L s.heap m) (N : News h₀ L s.heap news) (hsz : sg.size ≤ 1000)
    (done : ∀ D od kvs h' tk, Fr h₀ L h' m → News h₀ L h' ((D, od) :: news) → (∀ q ∈ news, q.1 < D) → od.IsDictOf (intKind prog w) kvs → StoredI (dcPairs sg f) kvs → h₀.get? D = none → Q (.ref D) { s with heap := h', toks := tk }) :
    wpAny (model prog w) A (call (.type "enumerate") [.bytes sg tb]) (EnumAt prog w f Q) E s := by
  have nx : ∀ a, s.heap.objs.size ≤ a → h₀.get? a = none ∧ a ≠ L ∧ ∀ q ∈ news, q.1 ≠ a := fun a ha => by
    refine ⟨?_, fun x => absurd F.ns.lt (by rw [← x]; exact Nat.not_lt.mpr ha), fun q hq x => absurd (Heap.lt_size (N q hq).1) (by rw [x]; exact Nat.not_lt.mpr ha)⟩
    cases x : h₀.get? a with
    | none => rfl
    | some o => exact absurd (Heap.lt_size (F.keep _ _ x)) (Nat.not_lt.mpr ha)
  refine call_enumerate_bytes fun h' he hit hz hk => ?_
  exact ⟨_, _, sg, tb, h₀, L, m, news, rfl, he, hit, Nat.succ_ne_self _, hsz, F.keptAll hk, N.grown hk, nx _ (Nat.le_succ _), nx _ (Nat.le_refl _), done⟩
end
end Mine

-- part LBase
namespace Mine
open PySem PySem.W PyProof.Rows PySem.Spec PySem.Calls
theorem set_back_LBase : True := by
  w_top off
  k_with_none
  trivial
def bodyOf : List Stmt → List Stmt
  | .FunctionDef _ _ b _ _ _ _ _ _ _ :: _ => b
  | _ => []
def scopeOf (d : Scope) : List Stmt → Scope
  | .FunctionDef _ _ _ _ _ _ sc _ _ _ :: _ => sc
  | _ => d
def forOf : List Stmt → List Stmt
  | .For _ _ b _ _ :: _ => b
  | _ => []
noncomputable def lawBody : List Stmt := bodyOf (hd.view_39.main.body.drop 13)
noncomputable def lawScope : Scope := scopeOf ⟨.module, [], false, false, []⟩ (hd.view_39.main.body.drop 13)
noncomputable def restBody : List Stmt := lawBody.drop 5
noncomputable def turnBody : List Stmt := forOf (lawBody.drop 8)

/-- the translation and the table of an altchars -/
def trO : Option (UInt8 × UInt8) → Int → Int
  | none => id
  | some (a, b) => trI (a.toNat : Int) (b.toNat : Int)
def plO (o : Option (UInt8 × UInt8)) : Int → Option Int := plOf (trO o)
def argOf (o : Option (UInt8 × UInt8)) (t : Tok) : Value := match o with
  | none => .none
  | some (a, b) => .bytes #[a, b] t
def decO (o : Option (UInt8 × UInt8)) (ks : List Int) : Option (List Int) := decS (ks.map (trO o))
theorem u8_pos {a : UInt8} (h : a ≠ 0) : 0 < (a.toNat : Int) := by
  have : a.toNat ≠ 0 := fun e => h (UInt8.toNat_inj.mp e)
  omega
theorem u8_ne {a : UInt8} (h : a ≠ 61) : (a.toNat : Int) ≠ 61 := by
  have : a.toNat ≠ 61 := fun e => h (UInt8.toNat_inj.mp e)
  omega
theorem tabO {o : Option (UInt8 × UInt8)} (ok : AltOk o) : Tab (plO o) (trO o) := by
  match o, ok with
  | none, _ => exact tab_id
  | some (a, b), ok => exact tab_two (u8_pos ok.1) (u8_pos ok.2.1) (u8_ne ok.2.2.1) (u8_ne ok.2.2.2)
theorem trO_zero {o : Option (UInt8 × UInt8)} (ok : AltOk o) : trO o 0 = 0 := (tabO ok).zero
theorem ints_inj {b c : Array UInt8} (h : KBw.bInts b = KBw.bInts c) : b = c := by
  unfold KBw.bInts at h
  have : b.toList = c.toList := by
    have inj : ∀ (l r : List UInt8), l.map (fun c => (c.toNat : Int)) = r.map (fun c => (c.toNat : Int)) → l = r := by
      intro l
      induction l with
      | nil => intro r h; cases r with
        | nil => rfl
        | cons _ _ => cases h
      | cons x l ih => intro r h; cases r with
        | nil => cases h
        | cons y r =>
          simp only [List.map_cons, List.cons.injEq] at h
          rw [show x = y from UInt8.toNat_inj.mp (by have := h.1; omega), ih r h.2]
    exact inj _ _ h
  exact Array.ext' this

section
variable (w : World) (loose : List Str) (mean : ExcName → Option Value) (mg mb : Str → Option Value)
  (env : Env) (h₀ : Heap) (L : Addr) (m : Str → Option Value) (news : List (Addr × Obj)) (s : Shared) (Q E : Value → Shared → Prop)
  (bb : Array UInt8) (tb : Tok) (o : Option (UInt8 × UInt8)) (ta : Tok)
  (B : Below callerA h₀ [] h₀) (F : Fr h₀ L s.heap m) (X : (hd.heap_39 w.params).In h₀) (N : News h₀ L s.heap news) (T : Top hd.view_39 loose mean mg mb h₀) (hf : env.frame = some L) (hk : env.scope.kind = .function)
  (hsz : bb.size ≤ 1000)
include B F X N T hf hk hsz
theorem strict_some (ns : List Int) (b' : Array UInt8) (hdec : decO o (KBw.bInts bb) = some ns) (hb : KBw.bInts b' = ns)
  (hret : ∀ (t : Tok) (h' : Heap) (tk' : Nat), Fr h₀ L h' m → News h₀ L h' news → Q (.bytes b' t) { s with heap := h', toks := tk' }) :
  wpAny (model PySem.Challenge.rw_pa0020_01.row.prog w) (callerA.deeper env) (call (.ref 79) [.bytes bb tb, argOf o ta, .bool true]) Q E s := by
  match o, hdec with
  | none, hdec =>
    refine b64_strict0 w loose mean mg mb env h₀ L m news s Q E bb tb B F X N T hf hk hsz (fun ns' b'' t h' tk' e1 e2 F' N' => ?_) (fun e1 => ?_)
    · have : decS ((KBw.bInts bb).map id) = some ns := hdec
      rw [List.map_id, e1] at this
      cases this
      rw [ints_inj (e2.trans hb.symm)]
      exact hret t h' tk' F' N'
    · have : decS ((KBw.bInts bb).map id) = some ns := hdec
      rw [List.map_id, e1] at this
      cases this
  | some (a1, a2), hdec =>
    refine b64_strict2 w loose mean mg mb env h₀ L m news s Q E bb tb a1 a2 ta B F X N T hf hk hsz (fun ns' b'' t h' tk' e1 e2 F' N' => ?_) (fun e1 => ?_)
    · have : decS ((KBw.bInts bb).map (trI (a1.toNat : Int) (a2.toNat : Int))) = some ns := hdec
      rw [e1] at this
      cases this
      rw [ints_inj (e2.trans hb.symm)]
      exact hret t h' tk' F' N'
    · have : decS ((KBw.bInts bb).map (trI (a1.toNat : Int) (a2.toNat : Int))) = some ns := hdec
      rw [e1] at this
      cases this
theorem strict_none (hdec : decO o (KBw.bInts bb) = none)
  (hraise : ∀ (e t : Addr) (vs : List Value) (nws : List (Addr × Obj)) (g2 h' : Heap) (k : Nat), RaisedK h₀ [env] e (.ref 39) t vs nws h' → (∀ p ∈ news, p ∈ nws) → Fr h₀ L g2 m → g2.UpToSlots h' → BareAt e h' → E (.ref e) { s with heap := h', toks := k }) :
  wpAny (model PySem.Challenge.rw_pa0020_01.row.prog w) (callerA.deeper env) (call (.ref 79) [.bytes bb tb, argOf o ta, .bool true]) Q E s := by
  match o, hdec with
  | none, hdec =>
    refine b64_strict0 w loose mean mg mb env h₀ L m news s Q E bb tb B F X N T hf hk hsz (fun ns' b'' t h' tk' e1 e2 F' N' => ?_) (fun e1 => hraise)
    have : decS ((KBw.bInts bb).map id) = none := hdec
    rw [List.map_id, e1] at this
    cases this
  | some (a1, a2), hdec =>
    refine b64_strict2 w loose mean mg mb env h₀ L m news s Q E bb tb a1 a2 ta B F X N T hf hk hsz (fun ns' b'' t h' tk' e1 e2 F' N' => ?_) (fun e1 => hraise)
    have : decS ((KBw.bInts bb).map (trI (a1.toNat : Int) (a2.toNat : Int))) = none := hdec
    rw [e1] at this
    cases this
theorem loose_some (ok : AltOk o) (k1 k2 ns : List Int) (b' : Array UInt8) (hdec : decO o (k1 ++ k2) = some ns) (hbb : KBw.bInts bb = k1 ++ [0] ++ k2) (hb : KBw.bInts b' = ns)
  (hret : ∀ (t : Tok) (h' : Heap) (tk' : Nat), Fr h₀ L h' m → News h₀ L h' news → Q (.bytes b' t) { s with heap := h', toks := tk' }) :
  wpAny (model PySem.Challenge.rw_pa0020_01.row.prog w) (callerA.deeper env) (call (.ref 79) [.bytes bb tb, argOf o ta]) Q E s := by
  have hl := loose_ok (trO_zero ok) hdec
  rw [← hbb] at hl
  match o, hl with
  | none, hl =>
    have hl' : decL (KBw.bInts bb) = some ns := by
      have : decL ((KBw.bInts bb).map id) = some ns := hl
      rwa [List.map_id] at this
    refine b64_loose0 w loose mean mg mb env h₀ L m news s Q E bb tb B F X N T hf hk hsz ns hl' (fun b'' t h' tk' e2 F' N' => ?_)
    rw [ints_inj (e2.trans hb.symm)]
    exact hret t h' tk' F' N'
  | some (a1, a2), hl =>
    refine b64_loose2 w loose mean mg mb env h₀ L m news s Q E bb tb a1 a2 ta B F X N T hf hk hsz ns hl (fun b'' t h' tk' e2 F' N' => ?_)
    rw [ints_inj (e2.trans hb.symm)]
    exact hret t h' tk' F' N'
omit hsz in
theorem parsed_o (ok : AltOk o) (tf : Tok) (pd : Addr) (od : Obj) (kvs : List (Int × Value)) (first : Int) (h19 : bb.size ≤ 19)
  (hfirst : 256 ≤ first) (hd : (pd, od) ∈ news) (hD : od.IsDictOf (intKind PySem.Challenge.rw_pa0020_01.row.prog w) kvs)
  (hpd : (pd == sysModules) = false) (hpl : ∀ i, (∀ v, plO o i = some v → ∃ t, valueAt kvs i = some (.int v t)) ∧ (plO o i = none → valueAt kvs i = none))
  (hret : ∀ ns, decO o (KBw.bInts bb) = some ns → ∀ b' t h' tk', KBw.bInts b' = ns → Fr h₀ L h' m → News h₀ L h' news → Q (.bytes b' t) { s with heap := h', toks := tk' })
  (hnone : decO o (KBw.bInts bb) = none → ∀ h' tk', Fr h₀ L h' m → News h₀ L h' news → Q .none { s with heap := h', toks := tk' }) :
  wpAny (model PySem.Challenge.rw_pa0020_01.row.prog w) (callerA.deeper env) (call (.ref 107) [.bytes bb tb, .ref pd, .int first tf]) Q E s := by
  have hl : (KBw.bInts bb).length ≤ 19 := by rw [KBw.ints_length]; exact h19
  obtain ⟨k, hrun⟩ := parsed_run hfirst (tabO ok) (KBw.bInts bb) (fun c hc => KBw.ints_in hc) hl
  exact parsed w (plO o) k _ loose mean mg mb env h₀ L m news s Q E bb tb tf pd od kvs first _ B F X N T hf hk rfl (by omega) hfirst hd hD hpd hpl hrun hret hnone
end
end Mine

-- part Caught
namespace Mine
open PySem PySem.W PyProof.Rows PySem.Spec PySem.Calls
theorem set_back_Caught : True := by
  w_top off
  k_with_none
  trivial
section
variable {prog : Program} {w : World} {A₀ : Around} {E : Value → Shared → Prop} {s' : Shared} {h₀ h : Heap} {outer : List Env} {env : Env} {L e t : Addr} {m : Str → Option Value}
  {vs : List Value} {b₀ : Stmt} {suite : List Stmt} {pos np : Pos} {rest : List ExceptHandler} {Q : Flow → Shared → Prop} {news nws : List (Addr × Obj)}
  {p : Program} {loose : List Str} {mg mb : Str → Option Value} {K : Frag} {x y : Str} {C : Addr} {T' newId : String} {bmB : List Value}
/-- a clause that takes an own exception class, in a frame of any kind (with cells too) -/
theorem caught_env (B : Below A₀ h₀ outer h₀) (F : Fr h₀ L h m) (hsm : h.UpToSlots s'.heap) (R : RaisedK h₀ (env :: outer) e (.ref C) t vs nws s'.heap) (hf : env.frame = some L)
    (X : K.In h₀) (T : TopRead p loose mg mb h₀) (ey : nsIn K mainGlobals y = some (some (.ref C))) (q : excIn K C bmB newId = true)
    (hexc : isSubtype (.type T') (.type "BaseException") = pure true) (hnt : isSubtype (.type ((Manifest.find? T').elim "type" fun y => y.metatype)) (.type "tuple") = pure false) (hb : bmB.contains (.type T') = true)
    (hname : ∀ {M : Model} {A : Around} {E : Value → Shared → Prop} {s : Shared} {Q : Value → Shared → Prop}, Fr h₀ L s.heap m → Q (.type T') s → wpAny M A (eval (.Name x np) env) Q E s)
    (hn : ∀ r ∈ news, r ∈ nws) (hB : BareAt e s'.heap)
    (k : ∀ h' oe, Fr h₀ L h' m → News h₀ L h' ((e, oe) :: news) → Bare oe → wpAny (model prog w) ((A₀.deeper env).mark (some (.ref e))) (execs (b₀ :: suite) env) Q E { s' with heap := h' })
    (hE : PassesOwnAt (model prog w) ((A₀.deeper env).mark (some (.ref e))) (A₀.deeper env) env E := by passes_own) :
    wpAny (model prog w) (A₀.deeper env) (noteFrame (.ref e) env)
      (fun _ s₂ => wpAny (model prog w) (A₀.deeper env) (setFlight (.ref e) none) (fun _ s₃ =>
        wpAny (model prog w) (A₀.deeper env) (handleBy (.ref e) env (.ExceptHandler (some (.Name x np)) none (b₀ :: suite) pos :: rest)) Q E s₃) E s₂) E s' := by
  obtain ⟨⟨G, hG, hl, hfl, _⟩, _⟩ := R
  have hL : G.get? L = none := by
    obtain ⟨_, ⟨L', _, hf', hn', _⟩, _⟩ := hfl.2.2.1
    rw [hf] at hf'
    cases hf'
    exact hn'
  refine wpAny_mild (mild_note _ _) hB (wpAny_looks_onW (Around.frames_deeper B.stack) hf hfl fun h₁ held₁ sm₁ => ?_)
  intro hB₁
  refine wpAny_mild (mild_setFlight _ _) hB₁ (wpAny_landsW held₁ fun h₂ held₂ sm₂ => ?_)
  intro hB₂
  have F₂ := F.of_stays (flyingW_base hG held₂).1 (hsm.trans (sm₁.trans sm₂))
  obtain ⟨ob, hob, hobc⟩ := (flyingW_base hG held₂).there
  refine wpAny_handleBy_cons (codeAny_handlers_test (hname F₂ ?_)) (by intro q; cases q)
  obtain ⟨bm, N, nm, qn, bs, hdct, sn, sub, ab, col, dd, k0, k1, k2, k3, k5, mN, hC, hN, hni, TL⟩ := ((own_of_in X T ey q).keeps F₂.keep).obj
  refine wpAny_excMatches_sub_type hC hob hobc hexc hnt ?_
  rw [TL.hasType hb]
  refine codeAny_handlers_suite (wpAny_mild (mild_setFlight _ _) hB₂ (lands_againW held₂ fun h₃ held₃ sm₃ => ?_))
  intro hB₃
  have F₃ := F.of_stays (flyingW_base hG held₃).1 ((hsm.trans (sm₁.trans sm₂)).trans sm₃)
  obtain ⟨oe, hoe, hbare⟩ := hB₃
  have Nl : News h₀ L h₃ news := fun r hr => by
    have hr' := hl r (hn r hr)
    exact ⟨held₃.1 _ _ hr'.1, fun z => (by have := hr'.1; rw [z, hL] at this; cases this), hr'.2⟩
  obtain ⟨ws, hws, _⟩ := id hbare
  exact wpAny_passesOwnAt hE (k h₃ oe F₃ (News.more F₃ Nl hoe (fun es n q => by rw [hws] at q; cases q) (flyingW_base hG held₃).2.1) hbare)
end
section
variable {prog : Program} {w : World} {A : Around} {E : Value → Shared → Prop} {s : Shared} {h₀ : Heap} {L a : Addr} {m : Str → Option Value} {cn x : Str} {cs : Scope} {ccd : Value} {cl : List (Str × Addr)}
/-- «two or None» -/
theorem or_two {o : Option (UInt8 × UInt8)} {t : Tok} {k : Nat} {px pk pos : Pos} {Q : Value → Shared → Prop} (F : Fr h₀ L s.heap m) (hv : m x = some (.bytes (alts o) t)) (h : Q (argOf o t) { s with toks := s.toks + 1 + 1 })
    (hk : cs.kind = .function := by rfl) (hx : (envX cn cs L a ccd cl).kindOf x = some .local := by rfl) (hd : (x == ("__debug__" : Str)) = false := by decide) :
    wpAny (model prog w) A (eval (.BoolOp .Or [.Name x px, .Constant .none k pk] pos) (envX cn cs L a ccd cl)) Q E s := by
  refine BoolOp_or (nameX_L F hv ?_ hk hx hd)
  refine truthy_bytes (by have := alts_size o; omega) ?_
  match o, h with
  | none, h =>
    rw [if_neg (by decide)]
    exact BoolOp_one (Constant_none h)
  | some (a, b), h =>
    rw [if_pos (show (((alts (some (a, b))).size : Int) != 0) = true from rfl)]
    exact h
end
end Mine

-- part NeL
namespace Mine
open PySem PySem.W PyProof.Rows PySem.Spec PySem.Calls
theorem set_back_NeL : True := by
  w_top off
  k_with_none
  trivial
section
variable {prog : Program} {w : World} {A : Around} {E : Value → Shared → Prop} {s : Shared} {h₀ : Heap} {L a b : Addr} {news : List (Addr × Obj)}
theorem eq_bytes_at (x y : Array UInt8) (t u : Tok) (h : x = y) : SeqAt.EqAt A s (.bytes x t) (.bytes y u) true := fun prog w E Q hq => by
  unfold eqBool
  refine wpAny_holding ?_
  refine wpAny_ite_split (fun _ => ?_) (fun _ => ?_)
  · exact wpAny_bind (wpAny_rule (wpAny_pure hq))
  · refine wpAny_bind (eq_bytes ?_)
    refine wpAny_truthy_bool ?_
    rw [h, beq_self_eq_true]
    exact hq
theorem ne_same3 {x : Array UInt8} {t u : Tok} {p q : Bool} {c1 c2 : Nat} {Q : Value → Shared → Prop} (N : News h₀ L s.heap news)
    (ha : (a, listOf #[.bytes x t, .bool p, .bool q] c1) ∈ news) (hb : (b, listOf #[.bytes x u, .bool p, .bool q] c2) ∈ news) (hu : A.units + 64 < cLine) (h : Q (.bool false) s) :
    wpAny (model prog w) A (compareOp .NotEq (.ref a) (.ref b)) Q E s := by
  refine SeqAt.RcNeAt.lists (e := fun _ => true) ⟨_, (N _ ha).1, rfl, _, rfl⟩ ⟨_, (N _ hb).1, rfl, _, rfl⟩ rfl (by omega) (fun j h1 h2 => ?_) prog w E Q ?_
  · match j, h1, h2 with
    | 0, _, _ => exact eq_bytes_at _ _ _ _ rfl
    | 1, _, _ => exact SeqAt.EqAt.same _
    | 2, _, _ => exact SeqAt.EqAt.same _
  · exact h
theorem ne_same3n {p q : Bool} {c1 c2 : Nat} {Q : Value → Shared → Prop} (N : News h₀ L s.heap news)
    (ha : (a, listOf #[.none, .bool p, .bool q] c1) ∈ news) (hb : (b, listOf #[.none, .bool p, .bool q] c2) ∈ news) (hu : A.units + 64 < cLine) (h : Q (.bool false) s) :
    wpAny (model prog w) A (compareOp .NotEq (.ref a) (.ref b)) Q E s := by
  refine SeqAt.RcNeAt.lists (e := fun _ => true) ⟨_, (N _ ha).1, rfl, _, rfl⟩ ⟨_, (N _ hb).1, rfl, _, rfl⟩ rfl (by omega) (fun j h1 h2 => ?_) prog w E Q ?_
  · match j, h1, h2 with
    | 0, _, _ => exact SeqAt.EqAt.same _
    | 1, _, _ => exact SeqAt.EqAt.same _
    | 2, _, _ => exact SeqAt.EqAt.same _
  · exact h
theorem ne_bytes_same {x : Array UInt8} {t u : Tok} {Q : Value → Shared → Prop} (h : Q (.bool false) s) : wpAny (model prog w) A (compareOp .NotEq (.bytes x t) (.bytes x u)) Q E s :=
  ne_bytes (by rw [bne_self_eq_false]; exact h)
end
theorem loose_call (w : World) (loose : List Str) (mean : ExcName → Option Value) (mg mb : Str → Option Value)
  (env : Env) (h₀ : Heap) (L : Addr) (m : Str → Option Value) (news : List (Addr × Obj)) (s : Shared) (Q E : Value → Shared → Prop)
  (bb cat b' : Array UInt8) (tb : Tok) (o : Option (UInt8 × UInt8)) (ta : Tok) (ks ns : List Int) (c : Nat)
  (B : Below callerA h₀ [] h₀) (F : Fr h₀ L s.heap m) (X : (hd.heap_39 w.params).In h₀) (N : News h₀ L s.heap news) (T : Top hd.view_39 loose mean mg mb h₀) (hf : env.frame = some L) (hk : env.scope.kind = .function)
  (ok : AltOk o) (hks : KBw.bInts bb = ks) (hkl : ks.length ≤ 19) (hdec : decO o (KBw.bInts bb) = some ns) (hb : KBw.bInts b' = ns)
  (happ : KBw.bInts cat = List.take c ks ++ List.map (fun c => (c.toNat : Int)) [(Int.toNat 0).toUInt8] ++ List.take (ks.length - c) (List.drop c ks))
  (hret : ∀ (t : Tok) (h' : Heap) (tk' : Nat), Fr h₀ L h' m → News h₀ L h' news → Q (.bytes b' t) { s with heap := h', toks := tk' }) :
  wpAny (model PySem.Challenge.rw_pa0020_01.row.prog w) (callerA.deeper env) (call (.ref 79) [.bytes cat tb, argOf o ta]) Q E s := by
  have e1 : List.take (ks.length - c) (List.drop c ks) = List.drop c ks := List.take_of_length_le (by rw [List.length_drop]; exact Nat.le_refl _)
  have e2 : List.map (fun c => (c.toNat : Int)) [(Int.toNat 0).toUInt8] = [0] := rfl
  rw [e1, e2] at happ
  have hz : cat.size ≤ 1000 := by
    rw [← KBw.ints_length, happ]
    simp only [List.length_append, List.length_take, List.length_drop, List.length_singleton]
    omega
  refine loose_some w loose mean mg mb env h₀ L m news s Q E cat tb o ta B F X N T hf hk hz ok (List.take c ks) (List.drop c ks) ns b' ?_ happ hb hret
  rw [List.take_append_drop, ← hks]
  exact hdec
end Mine

-- part LT
namespace Mine
open PySem PySem.W PyProof.Rows PySem.Spec PySem.Calls
theorem set_back_LT : True := by
  w_top off
  k_with_none
  trivial
local macro_rules | `(tactic| walk_at $s:str) => `(tactic| k_extra $s)
local macro_rules | `(tactic| k_mem) => `(tactic| (with_reducible assumption))
theorem first_ok (z : Int) : 256 ≤ 256 + (if z < 0 then -z else z) := by split <;> omega
set_option maxHeartbeats 8000000 in
theorem law_turn (w : World) (loose : List Str) (mean : ExcName → Option Value) (mg mb : Str → Option Value)
  (nm : Str) (fa : Addr) (cd : Value) (h₀ : Heap) (L : Addr) (m₁ : Str → Option Value) (news : List (Addr × Obj)) (s : Shared) (Q : Flow → Shared → Prop)
  (bb : Array UInt8) (tb tn tt : Tok) (n : Int) (o : Option (UInt8 × UInt8)) (D : Addr) (od oP : Obj) (kvs : List (Int × Value))
  (B : Below callerA h₀ [] h₀) (X : (hd.heap_39 w.params).In h₀) (T : Top hd.view_39 loose mean mg mb h₀)
  (F : Fr h₀ L s.heap (fun y => if y = Str.ofString "whole" then some (.bytes bb tb) else if y = Str.ofString "n" then some (.int n tn) else if y = Str.ofString "two" then some (.bytes (alts o) tt) else m₁ y)) (N : News h₀ L s.heap news)
  (ok : AltOk o) (hsz : bb.size ≤ 19) (hd : List.Mem (D, od) news) (hD : od.IsDictOf (intKind PySem.Challenge.rw_pa0020_01.row.prog w) kvs) (hpd : (D == sysModules) = false)
  (hpl : ∀ i, (∀ v, plO o i = some v → ∃ t, valueAt kvs i = some (.int v t)) ∧ (plO o i = none → valueAt kvs i = none))
  (hoP : (L + 1 + 1, oP) ∈ news) (hoP' : oP.data = .cell (some (.ref D)))
  (hend : ∀ m' h' tk', Fr h₀ L h' m' → News h₀ L h' news → m' (Str.ofString "n") = some (.int n tn) → m' (Str.ofString "two") = some (.bytes (alts o) tt) → Q .next { s with heap := h', toks := tk' }) :
  wpAny (model PySem.Challenge.rw_pa0020_01.row.prog w) (callerA.deeper (envOfC nm lawScope L fa cd)) (execs turnBody (envOfC nm lawScope L fa cd)) Q (fun _ _ => False) s := by
  k_with_none
  k_with "call ref" => ((k_here; (with_reducible show wpAny _ _ (call (Value.ref 107) _ _) _ _ _); k_dflt (refine' parsed_o _ _ _ _ _ _ _ _ _ _ _ _ _ _ _ _ ?zzB ?zzF ?zzX ?zzN ?zzT ?zzhf ?zzhk ?zzok _ _ _ _ _ ?zz19 ?zzfst ?zzhd ?zzhD ?zzpd ?zzpl ?_ ?_; (case zzB => assumption); (case zzF => assumption); (case zzX => assumption); (case zzN => assumption); (case zzT => assumption); (case zzhf => exact rfl); (case zzhk => exact rfl); (case zzok => assumption); (case zz19 => assumption); (case zzfst => exact first_ok _); (case zzhd => assumption); (case zzhD => assumption); (case zzpd => assumption); (case zzpl => assumption)); (first | intro ns hdec b' t' h' k' hb' F' N' | intro hdec h' k' F' N')))
  k_with "call ref" => ((k_here; (with_reducible show wpAny _ _ (call (Value.ref 79) [_, _, Value.bool true] _) _ _ _); k_dflt (refine' strict_some _ _ _ _ _ _ _ _ _ _ _ _ _ _ _ _ _ ?zzB ?zzF ?zzX ?zzN ?zzT ?zzhf ?zzhk ?zzsz _ _ ?zzdec ?zzb ?_; (case zzB => assumption); (case zzF => assumption); (case zzX => assumption); (case zzN => assumption); (case zzT => assumption); (case zzhf => exact rfl); (case zzhk => exact rfl); (case zzsz => omega); (case zzdec => assumption); (case zzb => assumption)); intro t' h' k' F' N'))
  k_with "call ref" => ((k_here; (with_reducible show wpAny _ _ (call (Value.ref 79) [_, _, Value.bool true] _) _ _ _); k_dflt (refine' strict_none _ _ _ _ _ _ _ _ _ _ _ _ _ _ _ _ _ ?zzB ?zzF ?zzX ?zzN ?zzT ?zzhf ?zzhk ?zzsz ?zzdec ?_; (case zzB => assumption); (case zzF => assumption); (case zzX => assumption); (case zzN => assumption); (case zzT => assumption); (case zzhf => exact rfl); (case zzhk => exact rfl); (case zzsz => omega); (case zzdec => assumption)); intro e t' vs' nws' g2' h' k' R' sub' FG' U' BR'))
  k_with "exec Try" => ((k_here; refine wpAny_Try_except ?_))
  k_with "noteFrame ref" => ((k_here; (rename RaisedK _ _ _ _ _ _ _ _ => rkX); (rename BareAt _ _ => bareX); k_dflt (refine' caught_env (bmB := [.type "ValueError", .type "Exception", .type "BaseException", .type "object"]) (newId := "ValueError.__new__") (T' := "ValueError") ?zzB ?zzF ?zzU rkX ?zzhf ?zzX ?zzT ?zzey ?zzq PySem.F.isExc_ValueError PySem.F.notTuple_ValueError ?zzhb ?zznm ?zzhn bareX ?_; (case zzB => assumption); (case zzF => assumption); (case zzU => assumption); (case zzhf => exact rfl); (case zzX => assumption); (case zzT => k_asm); (case zzey => k_ownname); (case zzq => k_exc); (case zzhb => rfl); (case zzhn => assumption)); (case zznm => (intro _ _ _ _ _ zF zQ; refine' nameX_B zF ?zzX ?zzT ?zze ?zzv ?zzn zQ ?zza ?zzb; (case zzX => k_asm); (case zzT => k_asm); (case zza => rfl); (case zzb => rfl); (case zze => k_is); (case zzv => boot_fast); (case zzn => decide))); clear rkX bareX; intro h' oe' F' N' BR'))
  k_with "assign Tuple" => ((k_here; (with_reducible show wpAny _ _ (assign (Expr.Tuple _ _ _) _ (Value.ref _)) _ _ _); (rename Bare _ => bareX); k_dflt (refine' assign_h (items := #[_, _]) ?zzF ?zzN ?zzh ?zzb ?zzt ?zz1 ?zz2 ?_; (case zzF => k_asm); (case zzN => k_asm); (case zzh => exact rfl); (case zzb => exact ⟨_, News.get (by k_asm) (by k_mem), bareX⟩); (case zzt => exact News.isTup (by k_asm) (by k_mem)); (case zz1 => exact rfl); (case zz2 => exact rfl); k_whole); intro h' F' N'))
  k_with "compareOp NotEq ref ref" => ((k_here; k_dflt (first
  | (refine' ne_same3 ?zzN ?zza ?zzb ?zzu ?_; (case zzN => k_asm); (case zza => k_mem); (case zzb => k_mem); (case zzu => ke_room); k_whole)
  | (refine' ne_same3n ?zzN ?zza ?zzb ?zzu ?_; (case zzN => k_asm); (case zza => k_mem); (case zzb => k_mem); (case zzu => ke_room); k_whole))))
  k_with "compareOp NotEq bytes bytes" => ((k_here; k_dflt (refine ne_bytes_same ?_)))
  k_with "call ref" => ((k_here; (with_reducible show wpAny _ _ (call (Value.ref 79) [_, _] _) _ _ _); k_dflt (refine' loose_call _ _ _ _ _ _ _ _ _ _ _ _ _ _ _ _ _ _ _ _ _ _ ?zzB ?zzF ?zzX ?zzN ?zzT ?zzhf ?zzhk ?zzok ?zzhks ?zzhkl ?zzdec ?zzb ?zzapp ?_; (case zzB => assumption); (case zzF => assumption); (case zzX => assumption); (case zzN => assumption); (case zzT => assumption); (case zzhf => exact rfl); (case zzhk => exact rfl); (case zzok => assumption); (case zzapp => with_reducible assumption); (case zzhks => with_reducible assumption); (case zzhkl => assumption); (case zzdec => with_reducible assumption); (case zzb => with_reducible assumption)); intro t' h' k' F' N'))
  k_with "eval BoolOp" => ((k_here; (with_reducible show wpAny _ _ (eval (PySem.Expr.BoolOp _ [PySem.Expr.Name _ _, PySem.Expr.Constant _ _ _] _) _) _ _ _); k_dflt (refine' or_two ?zzF ?zzv ?_ ?zza ?zzb; (case zzF => k_asm); (case zza => rfl); (case zzb => rfl); (case zzv => rfl)); k_whole))
  revert X; k_fill; intro X
  have eb : turnBody = [_, _, _, _] := rfl
  have es : lawScope = ⟨_, _, _, _, _⟩ := rfl
  rw [eb, es]
  obtain ⟨ks, hks⟩ : ∃ ks, KBw.bInts bb = ks := ⟨_, rfl⟩
  have hkl : ks.length ≤ 19 := by rw [← hks, KBw.ints_length]; exact hsz
  (try k_fold)
  k_steps
  all_goals try (exact hend _ _ _ (by assumption) (fun p hp => by (rename News _ _ _ _ => nE'); exact nE' p (by repeat first | exact hp | refine List.mem_cons_of_mem _ ?_)) rfl rfl)
end Mine

-- part WLoop
namespace Mine
open PySem PySem.W PyProof.Rows PySem.Spec PySem.Calls
theorem set_back_WLoop : True := by
  w_top off
  k_with_none
  trivial
section
variable {prog : Program} {w : World} {A : Around} {E : Value → Shared → Prop} {s : Shared} {env : Env} {h₀ : Heap} {x : Str} {body : List Stmt} {Q : Flow → Shared → Prop}
/-- what a turn of the loop hands on -/
def WEnd (h₀ : Heap) (L : Addr) (J : (Str → Option Value) → Prop) (nws : List (Addr × Obj)) (s : Shared) (s' : Shared) : Prop :=
  ∃ h' tk' m', s' = { s with heap := h', toks := tk' } ∧ Fr h₀ L h' m' ∧ News h₀ L h' nws ∧ J m'
def WPost (h₀ : Heap) (L : Addr) (J : (Str → Option Value) → Prop) (nws : List (Addr × Obj)) (s : Shared) (Q : Flow → Shared → Prop) (f : Flow) (s' : Shared) : Prop :=
  match f with
  | .ret v => Q (.ret v) s'
  | .brk => Q .next s'
  | _ => WEnd h₀ L J nws s s'
theorem whole_for {l : Addr} {items : Array Value} {cc : Nat} {m₀ : Str → Option Value} {news : List (Addr × Obj)} (J : (Str → Option Value) → Prop) (P : Value → Prop)
    (hh : A.handled = none) (F : Fr h₀ env.locals s.heap m₀) (N : News h₀ env.locals s.heap news) (hm : (l, listOf items cc) ∈ news) (hP : ∀ v ∈ items, P v) (hj : J m₀)
    (turn : ∀ v m₁ h tk nws, P v → J m₁ → (∀ p ∈ news, p ∈ nws) → Fr h₀ env.locals h (fun y => if y = x then some v else m₁ y) → News h₀ env.locals h nws →
      wpAny (model prog w) A (execs body env) (WPost h₀ env.locals J nws { s with heap := h, toks := tk } Q) E { s with heap := h, toks := tk })
    (done : ∀ m₁ h tk, J m₁ → Fr h₀ env.locals h m₁ → News h₀ env.locals h news → Q .next { s with heap := h, toks := tk }) :
    wpAny (model prog w) A (pyIter (.ref l)) (fun it s₂ => LoopAtV prog w A h₀ env x body Q E it s₂) E s := by
  have hls : s.heap.IsList l items := ⟨_, (N _ hm).1, rfl, cc, rfl⟩
  have hlt : l < s.heap.objs.size := Heap.lt_size (N _ hm).1
  refine wpAny_pyIter_list hls ?_
  have W := Walks.list (prog := prog) (w := w) hh s.heap.objs.size l (Nat.ne_of_lt hlt) items
  let J' : Nat → (Str → Option Value) → List (Addr × Obj) → Prop := fun _ m₁ news₁ => news₁ = news ∧ J m₁
  refine ⟨_, _, _, items.size, _, _, m₀, news, J', rfl, W, ?_, ?_, ?_, ⟨⟨_, Heap.get?_push_size _ rfl, rfl, rfl⟩, ⟨_, Heap.get?_push_of_some _ (N _ hm).1, rfl, cc, rfl⟩⟩, F.push _, (fun p hp => ⟨Heap.get?_push_of_some _ (N p hp).1, (N p hp).2⟩), ⟨rfl, hj⟩, ?_, ?_⟩
  · intro hq
    rcases List.mem_cons.mp hq with e | hq
    · exact absurd F.ns.lt (e ▸ Nat.lt_irrefl _)
    · exact (N _ hm).2.1 (List.mem_singleton.mp hq).symm
  · intro b hb
    rw [List.mem_singleton.mp hb]
    cases q : h₀.get? s.heap.objs.size with
    | none => rfl
    | some o => exact absurd (Heap.lt_size (F.keep _ _ q)) (Nat.lt_irrefl _)
  · intro p hp hI
    exact absurd (Heap.lt_size (N p hp).1) ((List.mem_singleton.mp hI) ▸ Nat.lt_irrefl _)
  · rintro i v m₁ news₁ s₁ own ⟨hh', tk', rfl⟩ hin hPi ⟨rfl, hJ⟩ hoff hown hownget _ _ F₁ N₁
    have hv : P v := hP v (Array.mem_of_getElem? hPi)
    refine wpAny_mono (turn v m₁ hh' tk' (own ++ news₁) hv hJ (fun p hp => List.mem_append_right _ hp) F₁ N₁) (fun f s₂ p => ?_) fun _ _ e => e
    have fin : WEnd h₀ env.locals J (own ++ news₁) { s with heap := hh', toks := tk' } s₂ → LoopStepU h₀ env.locals [s.heap.objs.size] own (J' (i + 1)) { s with heap := hh', toks := tk' } .next s₂ := by
      rintro ⟨h', tk, m', e, F', N', hJ'⟩
      exact ⟨rfl, h', tk, m', news₁, e, F', N', hoff, rfl, hJ'⟩
    cases f with
    | ret v => exact .ret p
    | brk => exact .brk p
    | next => exact .next (fin p)
    | cont => exact .cont (fin p)
  · rintro h' tk m' news' F' N' _ ⟨rfl, hJ⟩
    exact done m' h' tk hJ F' N'
end
end Mine

-- part LF
namespace Mine
open PySem PySem.W PyProof.Rows PySem.Spec PySem.Calls
theorem set_back_LF : True := by
  w_top off
  k_with_none
  trivial
local macro_rules | `(tactic| walk_at $s:str) => `(tactic| k_extra $s)
noncomputable def forBody : List Stmt := lawBody.drop 8
def Small (k : Nat) (v : Value) : Prop := ∃ b t, v = Value.bytes b t ∧ b.size ≤ k
theorem four_of {tx b0 b1 b2 b3 : Array UInt8} {t0 t1 t2 t3 : Tok} {ys : Array Value} (h : Paired (fun v y => ∀ b t, v = Value.bytes b t → ∃ t', y = Value.bytes (tx ++ b) t')
    (List.filter (fun x => true) (#[Value.bytes b0 t0, Value.bytes b1 t1, Value.bytes b2 t2, Value.bytes b3 t3] : Array Value).toList) ys.toList) :
    ∃ u0 u1 u2 u3, ys = #[Value.bytes (tx ++ b0) u0, Value.bytes (tx ++ b1) u1, Value.bytes (tx ++ b2) u2, Value.bytes (tx ++ b3) u3] := by
  obtain ⟨yl, rfl⟩ : ∃ l : List Value, ys = l.toArray := ⟨ys.toList, by simp⟩
  rw [List.filter_eq_self.mpr (fun _ _ => rfl)] at h
  cases h with
  | cons f0 h =>
  cases h with
  | cons f1 h =>
  cases h with
  | cons f2 h =>
  cases h with
  | cons f3 h =>
  cases h
  obtain ⟨u0, rfl⟩ := f0 _ _ rfl
  obtain ⟨u1, rfl⟩ := f1 _ _ rfl
  obtain ⟨u2, rfl⟩ := f2 _ _ rfl
  obtain ⟨u3, rfl⟩ := f3 _ _ rfl
  exact ⟨u0, u1, u2, u3, rfl⟩
section
variable {prog : Program} {w : World} {A : Around} {E : Value → Shared → Prop} {s : Shared} {h₀ : Heap} {L l : Addr} {news : List (Addr × Obj)}
theorem item_tails {value slice : PySem.Expr} {b0 b1 b2 b3 : Array UInt8} {t0 t1 t2 t3 : Tok} {z : Int} {u : Tok} {Q : Value → Shared → Prop} (N : News h₀ L s.heap news)
    (hm : (l, ({ cls := .type "tuple", data := .seq #[.bytes b0 t0, .bytes b1 t1, .bytes b2 t2, .bytes b3 t3] } : Obj)) ∈ news)
    (h0 : b0.size ≤ 3) (h1 : b1.size ≤ 3) (h2 : b2.size ≤ 3) (h3 : b3.size ≤ 3) (h : ∀ b t, b.size ≤ 3 → Q (.bytes b t) s)
    (hs : ∀ k, subscripted slice false (.ref l) (.int k u) = operate [.ref l, .int k u] (getItem (.ref l) (.int k u)) := by intro _; with_unfolding_all rfl) :
    wpAny (model prog w) A (subscriptTail value slice (.ref l) (.int (z.fmod 4) u)) Q E s := by
  have e := Int.fmod_eq_emod_of_nonneg z (show (0 : Int) ≤ 4 by decide)
  obtain ⟨j, hj, hj4⟩ : ∃ j : Nat, z.fmod 4 = (j : Int) ∧ j < 4 := ⟨(z.fmod 4).toNat, by omega, by omega⟩
  rw [hj]
  have T := News.isTup N hm
  match j, hj4 with
  | 0, _ => exact item_tupleT T (by decide) (by decide) (j := 0) rfl rfl (h _ _ h0) (hs _)
  | 1, _ => exact item_tupleT T (by decide) (by decide) (j := 1) rfl rfl (h _ _ h1) (hs _)
  | 2, _ => exact item_tupleT T (by decide) (by decide) (j := 2) rfl rfl (h _ _ h2) (hs _)
  | 3, _ => exact item_tupleT T (by decide) (by decide) (j := 3) rfl rfl (h _ _ h3) (hs _)
end
set_option maxHeartbeats 8000000 in
theorem law_for (w : World) (loose : List Str) (mean : ExcName → Option Value) (mg mb : Str → Option Value)
  (nm : Str) (fa : Addr) (cd : Value) (h₀ : Heap) (L : Nat) (m₀ : Str → Option Value) (s : Shared) (Q : Flow → Shared → Prop)
  (tn tt tc : Tok) (n : Int) (o : Option (UInt8 × UInt8)) (D Dt : Nat) (od oS oP oT : Obj) (kvs : List (Int × Value)) (tx cl b0 b1 b2 b3 : Array UInt8) (tx' t0 t1 t2 t3 : Tok)
  (B : Below callerA h₀ [] h₀) (X : (hd.heap_39 w.params).In h₀) (T : Top hd.view_39 loose mean mg mb h₀)
  (F : Fr h₀ L s.heap (fun y => if y = Str.ofString "tails" then some (.ref Dt) else if y = Str.ofString "clean" then some (.bytes cl tc) else if y = Str.ofString "two" then some (.bytes (alts o) tt) else if y = Str.ofString "n" then some (.int n tn) else m₀ y))
  (N : News h₀ L s.heap [(Dt, ({ cls := .type "tuple", data := .seq #[.bytes b0 t0, .bytes b1 t1, .bytes b2 t2, .bytes b3 t3] } : Obj)), (D, od), (L + 1 + 1 + 1, oT), (L + 1 + 1, oP), (L + 1, oS)])
  (ok : AltOk o) (hD : od.IsDictOf (intKind PySem.Challenge.rw_pa0020_01.row.prog w) kvs) (hpd : (D == sysModules) = false)
  (hpl : ∀ i, (∀ v, plO o i = some v → ∃ t, valueAt kvs i = some (.int v t)) ∧ (plO o i = none → valueAt kvs i = none))
  (hoP : oP.data = .cell (some (.ref D))) (hoT : oT.data = .cell (some (.bytes tx tx')))
  (htx : tx.size ≤ 10) (hcl : cl.size ≤ 10) (h0 : b0.size ≤ 3) (h1 : b1.size ≤ 3) (h2 : b2.size ≤ 3) (h3 : b3.size ≤ 3)
  (hend : ∀ m' h' tk', Fr h₀ L h' m' → Q (.ret (.bool true)) { s with heap := h', toks := tk' }) :
  wpAny (model PySem.Challenge.rw_pa0020_01.row.prog w) (callerA.deeper (envOfC nm lawScope L fa cd)) (execs forBody (envOfC nm lawScope L fa cd)) Q (fun _ _ => False) s := by
  k_with_none
  k_with "binaryOp Add bytes bytes" => ((k_here; k_dflt (refine KBy.add_bytes (by omega) ?_; intro t' k')))
  k_with "subscriptTail Name BinOp ref int" => ((k_here; k_dflt (refine' item_tails ?zzN ?zzm ?zz0 ?zz1 ?zz2 ?zz3 ?_; (case zzN => k_asm); (case zzm => k_mem); (case zz0 => assumption); (case zz1 => assumption); (case zz2 => assumption); (case zz3 => assumption); k_whole); intro b9 t9 hb9))
  k_with "pyIter ref" => (((with_reducible show wpAny _ _ (pyIter (Value.ref _)) (fun it s₂ => LoopAtV _ _ _ _ _ _ _ _ _ it s₂) _ _); refine Halt.get ?_))
  k_with "eval ListComp" => ((refine Halt.get ?_))
  k_with "exec For" => ((refine Halt.get ?_))
  revert X; k_fill; intro X
  have eb : forBody = [_, _] := rfl
  have es : lawScope = ⟨_, _, _, _, _⟩ := rfl
  rw [eb, es]
  clear eb es
  (try k_fold)
  k_steps
  refine Halt.mk ?_
  refine For_invV h₀ rfl rfl ?_
  k_steps
  refine Halt.mk ?_
  refine' lc_K (fun _ => true) (fun v y => ∀ b t, v = Value.bytes b t → ∃ t', y = Value.bytes (tx ++ b) t') (cl := [(Str.ofString "text", L + 1 + 1 + 1)]) ?hc1 ?hc2 ?hc3 ?hc4 ?hc5 ?_ ?_
  case hc1 => with_unfolding_all rfl
  case hc2 => decide
  case hc3 => rfl
  case hc4 => decide
  case hc5 => rfl
  · k_steps
    refine src_tuple F N rfl (List.mem_cons_self ..) (by simp) ?_ ?_ ?_
    · intro C i v s₃ m₃ E' hC hi hns hm hk
      exact wpAny_pure ⟨rfl, _, _, rfl, fun _ _ e => e⟩
    · intro C i v s₃ m₃ E' hC hi hp hns hm hk
      refine wp_open ?_
      obtain ⟨b, t, rfl, hb⟩ : Small 3 v := by
        match i, hi with
        | 0, hi => exact ⟨_, _, (Option.some.inj hi).symm, h0⟩
        | 1, hi => exact ⟨_, _, (Option.some.inj hi).symm, h1⟩
        | 2, hi => exact ⟨_, _, (Option.some.inj hi).symm, h2⟩
        | 3, hi => exact ⟨_, _, (Option.some.inj hi).symm, h3⟩
        | i + 4, hi => exact absurd hi (by simp)
      k_steps
      exact ⟨fun b' t' e => (by cases e; exact ⟨_, rfl⟩), _, _, rfl, fun _ _ e => e⟩
    · intro D4 ys c h' tk F' N' hne hG
      clear F N hne
      obtain ⟨u0, u1, u2, u3, rfl⟩ := four_of hG
      clear hG
      k_steps
      refine Halt.mk ?_
      rename Fr _ _ _ _ => F9
      rename News _ _ _ _ => N9
      refine whole_for (fun m => m (Str.ofString "n") = some (.int n tn) ∧ m (Str.ofString "two") = some (.bytes (alts o) tt)) (Small 19) rfl F9 N9 (List.mem_cons_self ..) ?_ ?_ ?_ ?_
      · intro v hv
        simp only [List.mem_toArray, List.mem_cons, List.not_mem_nil, or_false] at hv
        rcases hv with rfl | rfl | rfl | rfl | rfl
        all_goals exact ⟨_, _, rfl, by rw [Array.size_append]; omega⟩
      · exact ⟨by with_unfolding_all rfl, by with_unfolding_all rfl⟩
      · rintro v m₁ h tk nws ⟨b, t, rfl, hb⟩ ⟨j1, j2⟩ hsub F1 N1
        have e : (fun y => if y = Str.ofString "whole" then some (Value.bytes b t) else m₁ y) = (fun y => if y = Str.ofString "whole" then some (.bytes b t) else if y = Str.ofString "n" then some (.int n tn) else if y = Str.ofString "two" then some (.bytes (alts o) tt) else m₁ y) := by
          funext y
          by_cases e1 : y = Str.ofString "n"
          · subst e1; simp only [if_neg (show ¬ (Str.ofString "n" = Str.ofString "whole") by decide), if_true, j1]
          · by_cases e2 : y = Str.ofString "two"
            · subst e2; simp only [if_neg (show ¬ (Str.ofString "two" = Str.ofString "whole") by decide), if_neg (show ¬ (Str.ofString "two" = Str.ofString "n") by decide), if_true, j2]
            · simp only [if_neg e1, if_neg e2]
        have F1' := e ▸ F1
        refine law_turn w loose mean mg mb nm fa cd h₀ L m₁ nws _ _ b t tn tt n o D od oP kvs B X T F1' N1 ok hb (hsub _ (by simp)) hD hpd hpl (hsub _ (by simp)) hoP ?_
        intro m' h' tk' F' N' e1 e2
        exact ⟨h', tk', m', rfl, F', N', e1, e2⟩
      · intro m₁ h tk hj F1 N1
        clear F9 N9
        k_steps
        exact hend _ _ _ F1
  · intro _
    rfl
end Mine

-- part LR
namespace Mine
open PySem PySem.W PyProof.Rows PySem.Spec PySem.Calls
theorem set_back_LR : True := by
  w_top off
  k_with_none
  trivial
local macro_rules | `(tactic| walk_at $s:str) => `(tactic| k_extra $s)
section
variable {M : Model} {A : Around} {E : Value → Shared → Prop} {s : Shared} {h₀ : Heap} {L C : Addr} {m m₃ : Str → Option Value} {news : List (Addr × Obj)}
theorem list_elt {vs : List Value} {Q : Value → Shared → Prop} (F : Fr h₀ L s.heap m) (N : News h₀ L s.heap news) (hn : s.heap.Ns C m₃) (hz : vs.length ≤ sizeLine)
    (h : ∀ l h', Fr h₀ L h' m → News h₀ L h' ((l, listOf vs.toArray 0) :: news) → h'.Ns C m₃ → (∀ b o, s.heap.get? b = some o → h'.get? b = some o) → Q (.ref l) { s with heap := h' }) :
    wpAny M A (newList vs) Q E s := by
  refine wpAny_newList ?_ hz
  have kp : ∀ b o, s.heap.get? b = some o → (s.heap.push (listOf vs.toArray 0)).get? b = some o := fun b o e => Heap.get?_push_of_some _ e
  have hfree : h₀.get? s.heap.objs.size = none := by
    cases hq : h₀.get? s.heap.objs.size with
    | none => rfl
    | some o => exact absurd (Heap.lt_size (F.keep _ _ hq)) (Nat.lt_irrefl _)
  refine h s.heap.objs.size _ (F.keptAll kp) ?_ (hn.at fun o e => kp C o e) kp
  intro p hp
  rcases List.mem_cons.mp hp with rfl | hp
  · exact ⟨Heap.get?_push_size _ rfl, Nat.ne_of_gt F.ns.lt, hfree⟩
  · exact N.grown kp p hp
theorem item_getD {prog : Program} {w : World} {value slice : PySem.Expr} {l : Addr} {vs : List Value} {ns : List Int} {c : Nat} {k : Int} {u : Tok} {Q : Value → Shared → Prop} (N : News h₀ L s.heap news) (hm : (l, listOf vs.toArray c) ∈ news) (hi : IntsAre vs ns)
    (h0 : 0 ≤ k) (h1 : k < ns.length) (hfit : k < 2 ^ 63) (h : ∀ t, Q (.int (ns.getD k.toNat 0) t) s)
    (hs : subscripted slice false (.ref l) (.int k u) = operate [.ref l, .int k u] (getItem (.ref l) (.int k u)) := by with_unfolding_all rfl) :
    wpAny (model prog w) A (subscriptTail value slice (.ref l) (.int k u)) Q E s := by
  obtain ⟨t, hx⟩ := hi.get k.toNat _ (ints_getD h0 h1)
  have hl : s.heap.IsList l vs.toArray := ⟨_, (N _ hm).1, rfl, c, rfl⟩
  exact tail_any hl.typeIs slot_list_getitem.lookup (wpAny_getItem_list hl h0 hfit (by simpa using hx) (h t)) hs
theorem idx_hi {x : Int} {t u : Tok} (h : Flt.ltV (Value.int 0 t) (Value.int (x.fmod 8 - 5) u) = true) : 0 ≤ x.fmod 8 - 5 ∧ x.fmod 8 - 5 < 3 := by
  have h' : (0 : Int) < x.fmod 8 - 5 := by simpa [Flt.ltV] using h
  have := Int.fmod_eq_emod_of_nonneg x (show (0 : Int) ≤ 8 by decide)
  rw [this] at h' ⊢
  omega
theorem paired_octs {vs ys : List Value} (p : Paired (fun v y => ∃ k t', y = Value.int k t' ∧ 0 ≤ k ∧ k < 256) vs ys) : ∃ ks, IntsAre ys ks ∧ KBa.In ks ∧ ks.length = vs.length := by
  induction p with
  | nil => exact ⟨[], .nil, by simp [KBa.In], rfl⟩
  | cons h _ ih =>
    obtain ⟨k, t, rfl, k0, k1⟩ := h
    obtain ⟨ks, h1, h2, h3⟩ := ih
    refine ⟨k :: ks, .cons _ _ h1, fun n hn => ?_, by simp [h3]⟩
    rcases List.mem_cons.mp hn with rfl | hn
    · exact ⟨k0, k1⟩
    · exact h2 n hn
theorem news_skip {h : Heap} {a b c : Addr × Obj} {r : List (Addr × Obj)} (N : News h₀ L h (a :: b :: c :: r)) : News h₀ L h (a :: b :: r) := fun p hp => by
  rcases List.mem_cons.mp hp with e | hp
  · exact N p (e ▸ .head _)
  · rcases List.mem_cons.mp hp with e | hp
    · exact N p (e ▸ .tail _ (.head _))
    · exact N p (.tail _ (.tail _ (.tail _ hp)))
theorem one_test {prog : Program} {w : World} {s₃ : Shared} {c : Expr} {cenv : Env} {b : Bool} (h : wpAny (model prog w) A (isTrue c cenv (eval c cenv)) (fun ok s₄ => EltEnd (ok = b) s₃ s₄) E s₃) :
    wpAny (model prog w) A (forIn [c] true fun c r => if r = true then do let ok ← isTrue c cenv (eval c cenv); pure (ForInStep.yield ok) else pure (ForInStep.yield r)) (fun ok s₄ => ok = b ∧ Keeps s₃ s₄) E s₃ := by
  rw [List.forIn_cons]
  refine wpAny_bind ?_
  rw [if_pos rfl]
  refine wpAny_bind (wpAny_mono h (fun ok s₄ e => ?_) fun _ _ x => x)
  refine wpAny_pure ?_
  exact wpAny_pure e.open
theorem in_any {prog : Program} {w : World} {pd : Addr} {od : Obj} {kvs : List (Int × Value)} {i : Int} {t : Tok} {Q : Value → Shared → Prop} (N : News h₀ L s.heap news) (hm : (pd, od) ∈ news) (hD : od.IsDictOf (intKind prog w) kvs) (hpd : (pd == sysModules) = false)
    (h : Q (.bool (valueAt kvs i).isSome) { s with toks := s.toks + 1 }) : wpAny (model prog w) A (compareOp .In (.int i t) (.ref pd)) Q E s :=
  wpAny_in_of (intKind_is prog w i t) hpd (Heap.dictOf_iff.mpr ⟨od, (N _ hm).1, hD⟩).mapOf h
def inPl (kvs : List (Int × Value)) : Value → Bool
  | .int i _ => (valueAt kvs i).isSome
  | _ => false
theorem paired_kept {p : Value → Bool} : ∀ {vs ys : List Value} {ks : List Int}, IntsAre vs ks → KBa.In ks → Paired (fun v y => ∀ n t, v = Value.int n t → ∃ t', y = Value.int n t') (vs.filter p) ys → ∃ kc, IntsAre ys kc ∧ KBa.In kc ∧ kc.length ≤ ks.length := by
  intro vs ys ks h
  induction h generalizing ys with
  | nil => intro _ hp; cases hp; exact ⟨[], .nil, by simp [KBa.In], Nat.le_refl _⟩
  | @cons n t vs ks h ih =>
    intro hin hp
    have hin' : KBa.In ks := fun x hx => hin x (List.mem_cons_of_mem _ hx)
    rw [List.filter_cons] at hp
    split at hp
    · cases hp with
      | cons f r =>
        obtain ⟨t', rfl⟩ := f n t rfl
        obtain ⟨kc, h1, h2, h3⟩ := ih hin' r
        refine ⟨n :: kc, .cons _ _ h1, fun x hx => ?_, by simp; exact h3⟩
        rcases List.mem_cons.mp hx with rfl | hx
        · exact hin _ (List.mem_cons_self ..)
        · exact h2 x hx
    · obtain ⟨kc, h1, h2, h3⟩ := ih hin' hp
      exact ⟨kc, h1, h2, by simp; omega⟩
theorem pick_oct {a x i : Int} (h0 : 0 ≤ a) (h1 : a < 256) (i0 : 0 ≤ i) (i1 : i < 3) : 0 ≤ [a, 61, (x.fdiv 8).fmod 256].getD i.toNat 0 ∧ [a, 61, (x.fdiv 8).fmod 256].getD i.toNat 0 < 256 := by
  have h := Int.fmod_eq_emod_of_nonneg (x.fdiv 8) (show (0 : Int) ≤ 256 by decide)
  rw [h]
  obtain ⟨j, rfl⟩ : ∃ j : Nat, i = j := ⟨i.toNat, by omega⟩
  have hj : j < 3 := by omega
  match j, hj with
  | 0, _ => exact ⟨h0, h1⟩
  | 1, _ => exact ⟨show (0 : Int) ≤ 61 by decide, show (61 : Int) < 256 by decide⟩
  | 2, _ => exact ⟨Int.emod_nonneg _ (by decide), Int.emod_lt_of_pos _ (by decide)⟩
end
set_option maxHeartbeats 8000000 in
theorem law_rest (w : World) (loose : List Str) (mean : ExcName → Option Value) (mg mb : Str → Option Value)
  (nm : Str) (fa : Addr) (cd : Value) (h₀ : Heap) (L : Nat) (m₀ : Str → Option Value) (s : Shared) (Q : Flow → Shared → Prop)
  (tn tt ts : Tok) (n : Int) (o : Option (UInt8 × UInt8)) (D Dn : Nat) (od oS oP oT : Obj) (kvs : List (Int × Value)) (ws : List Value) (ns : List Int) (sg : Array UInt8)
  (B : Below callerA h₀ [] h₀) (X : (hd.heap_39 w.params).In h₀) (T : Top hd.view_39 loose mean mg mb h₀)
  (F : Fr h₀ L s.heap (fun y => if y = Str.ofString "two" then some (.bytes (alts o) tt) else if y = Str.ofString "n" then some (.int n tn) else if y = Str.ofString "numbers" then some (.ref Dn) else m₀ y))
  (N : News h₀ L s.heap [(D, od), (Dn, listOf ws.toArray 0), (L + 1 + 1 + 1, oT), (L + 1 + 1, oP), (L + 1, oS)])
  (o1 : ((L + 1 + 1 + 1 : Nat)) < Dn) (o2 : Dn < D)
  (hI : IntsAre ws ns) (hlen : ns.length ≤ 10) (hsg : KBw.bInts sg = s64 ++ altI o)
  (ok : AltOk o) (hD : od.IsDictOf (intKind PySem.Challenge.rw_pa0020_01.row.prog w) kvs) (hpd : (D == sysModules) = false)
  (hpl : ∀ i, (∀ v, plO o i = some v → ∃ t, valueAt kvs i = some (.int v t)) ∧ (plO o i = none → valueAt kvs i = none))
  (hoS : oS.data = .cell (some (.bytes sg ts))) (hoP : oP.data = .cell (some (.ref D))) (hoT : oT.data = .cell none)
  (hend : ∀ m' h' tk', Fr h₀ L h' m' → Q (.ret (.bool true)) { s with heap := h', toks := tk' }) :
  wpAny (model PySem.Challenge.rw_pa0020_01.row.prog w) (callerA.deeper (envOfC nm lawScope L fa cd)) (execs restBody (envOfC nm lawScope L fa cd)) Q (fun _ _ => False) s := by
  k_with_none
  k_with "eval ListComp" => ((refine Halt.get ?_))
  k_with "compareOp In int ref" => ((k_here; k_dflt (refine' in_any ?zzN ?zzm ?zzD ?zzp ?_; (case zzN => k_asm); (case zzm => k_mem); (case zzD => assumption); (case zzp => assumption); k_whole)))
  k_with "pyIter ref" => ((refine Halt.get ?_))
  k_with "pyIter bytes" => ((refine Halt.get ?_))
  k_with "execs cons For" => ((refine Halt.get ?_))
  k_with "call type:bytes" => ((refine Halt.get ?_))
  k_with "call builtin:max" => ((refine Halt.get ?_))
  k_with "newList cons int cons" => (((with_reducible show wpAny _ _ (newList [_, _, _]) _ _ _); refine Halt.get ?_))
  revert X; k_fill; intro X
  have eb : restBody = [_, _, _, _, _] := rfl
  have es : lawScope = ⟨_, _, _, _, _⟩ := rfl
  rw [eb, es]
  have hal : (altI o).length ≤ 2 := by unfold altI; rw [KBw.ints_length]; exact alts_size o
  have hsl : (s64 ++ altI o).length ≤ 66 ∧ 64 ≤ (s64 ++ altI o).length := by rw [List.length_append, s64_len]; omega
  obtain ⟨hsl1, hsl2⟩ := hsl
  generalize s64 ++ altI o = sk at hsg hsl1 hsl2
  clear eb es
  (try k_fold)
  k_steps
  refine Halt.mk ?_
  rename Fr _ _ _ _ => F9
  rename News _ _ _ _ => N9
  refine' lc_K (fun _ => true) (fun v y => ∃ k t', y = Value.int k t' ∧ 0 ≤ k ∧ k < 256) (cl := [(Str.ofString "signs", L + 1)]) ?hc1 ?hc2 ?hc3 ?hc4 ?hc5 ?_ ?_
  case hc1 => with_unfolding_all rfl
  case hc2 => decide
  case hc3 => rfl
  case hc4 => decide
  case hc5 => rfl
  · k_steps
    refine Halt.mk ?_
    rename Fr _ _ _ _ => F8
    rename News _ _ _ _ => N8
    refine src_list F8 N8 rfl (List.mem_cons_of_mem _ (List.mem_cons_self ..)) (by have := hI.length; simp; omega) ?_ ?_ ?_
    · intro C i v s₃ m₃ E' hC hi hns hm hk
      exact wpAny_pure ⟨rfl, _, _, rfl, fun _ _ e => e⟩
    · intro C i v s₃ m₃ E' hC hi hp hns hm hk
      refine wp_open ?_
      obtain ⟨x, tx, rfl⟩ : ∃ x tx, v = .int x tx := by
        have hj : ws[i]? = some v := by simpa using hi
        have hlt : i < ws.length := (List.getElem?_eq_some_iff.mp hj).1
        obtain ⟨t, ht⟩ := hI.get i (ns[i]'(by rw [← hI.length]; exact hlt)) (by simp)
        rw [ht] at hj
        exact ⟨_, _, (Option.some.inj hj).symm⟩
      clear hi
      k_steps
      refine Halt.mk ?_
      rename Fr _ _ _ _ => F7
      rename News _ _ _ _ => N7
      refine list_elt F7 N7 hns (by rw [sizeLine_eq]; exact Nat.le_of_ble_eq_true rfl) ?_
      intro l h' F' N' hns' hk'
      clear F7 N7 hns
      k_steps
      refine Halt.mk ?_
      refine Flt.max_two_num rfl (.int _ _) (.int _ _) ?_
      intro h2 tk2 kp2
      dsimp only
      split
      · obtain ⟨i0, i1⟩ := idx_hi (by assumption)
        refine item_getD (N'.grown kp2) (List.mem_cons_self ..) (.cons _ _ (.cons _ _ (.cons _ _ .nil))) i0 i1 (Int.lt_trans i1 (by decide)) ?_
        intro t9
        exact ⟨⟨_, _, rfl, pick_oct (by assumption) (by assumption) i0 i1⟩, _, _, rfl, fun b o e => kp2 b o (hk' b o e)⟩
      · refine item_getD (N'.grown kp2) (List.mem_cons_self ..) (.cons _ _ (.cons _ _ (.cons _ _ .nil))) (Int.le_refl 0) (show (0 : Int) < ((3 : Nat) : Int) by decide) (by decide) ?_
        intro t9
        exact ⟨⟨_, _, rfl, pick_oct (by assumption) (by assumption) (Int.le_refl 0) (by decide)⟩, _, _, rfl, fun b o e => kp2 b o (hk' b o e)⟩
    · intro D2 ys c h' tk F' N' hne hG
      clear F8 N8
      obtain ⟨yl, rfl⟩ : ∃ l : List Value, ys = l.toArray := ⟨ys.toList, by simp⟩
      obtain ⟨k2, hI2, hIn2, hl2⟩ := paired_octs hG
      have hl2' : k2.length ≤ 10 := by
        rw [hl2, List.filter_eq_self.mpr (fun _ _ => rfl), List.toList_toArray, hI.length]; exact hlen
      clear hl2 hG
      clear hne
      k_steps
      refine Halt.mk ?_
      refine KBa.make_K F' N' rfl ⟨_, (N' _ (List.mem_cons_self ..)).1, rfl, _, rfl⟩ hI2 hIn2 (by omega) ?_
      intro h' t' k' F2 N2 _
      replace N2 : News h₀ L h' _ := fun p hp => N2 p (List.mem_cons_of_mem _ hp)
      clear F' N'
      k_steps
      refine Halt.mk ?_
      refine' lc_K (inPl kvs) (fun v y => ∀ n t, v = Value.int n t → ∃ t', y = Value.int n t') (cl := [(Str.ofString "places", L + 1 + 1)]) ?hc1 ?hc2 ?hc3 ?hc4 ?hc5 ?_ ?_
      case hc1 => with_unfolding_all rfl
      case hc2 => decide
      case hc3 => rfl
      case hc4 => decide
      case hc5 => rfl
      · k_steps
        refine Halt.mk ?_
        rename Fr _ _ _ _ => F8
        rename News _ _ _ _ => N8
        refine src_bytes F8 N8 rfl (by rw [byteArr_size]; omega) ?_ ?_ ?_
        · intro C i v s₃ m₃ E' hC hi hns hm hk
          obtain ⟨c9, u9, -, rfl⟩ := hi
          refine one_test ?_
          k_steps
          exact ⟨rfl, _, _, rfl, fun _ _ e => e⟩
        · intro C i v s₃ m₃ E' hC hi hp hns hm hk
          exact wpAny_Name (wpAny_loadName_local rfl rfl hns hm ⟨fun n t e => ⟨_, e⟩, _, _, rfl, fun _ _ e => e⟩) (by decide)
        · intro D3 ys c h' tk vs F' N' hne hIv hG
          clear F8 N8
          rw [KBa.ints_make hIn2] at hIv
          obtain ⟨kc, hI3, hIn3, hl3⟩ := paired_kept hIv hIn2 hG
          obtain ⟨yl3, rfl⟩ : ∃ l : List Value, ys = l.toArray := ⟨ys.toList, by simp⟩
          clear hne hG
          k_steps
          refine Halt.mk ?_
          refine KBa.make_K F' N' rfl ⟨_, (N' _ (List.mem_cons_self ..)).1, rfl, _, rfl⟩ hI3 hIn3 (by omega) ?_
          intro h' t' k' F2 N2 _
          replace N2 : News h₀ L h' _ := fun p hp => N2 p (List.mem_cons_of_mem _ hp)
          clear F' N'
          have hl3' : kc.length ≤ 10 := by omega
          clear hI3 hIv hI2
          k_steps
          refine Halt.mk ?_
          rename Fr _ _ _ _ => F9
          rename News _ _ _ _ => N9
          refine law_for w loose mean mg mb nm fa cd h₀ L _ _ Q _ _ _ n o D _ od _ _ _ kvs (byteArr k2) (byteArr kc) _ _ _ _ _ _ _ _ _ B X T F9 (news_skip N9) ok hD hpd hpl (by assumption) (by assumption) (by rw [byteArr_size]; exact hl2') (by rw [byteArr_size]; exact hl3') (by decide) ?_ (by decide) (by decide) ?_
          · rw [Array.size_append]
            rename (KBw.bInts (KBy.picked _ _ _) = _) => kk
            have hz := congrArg List.length kk
            rw [KBw.ints_length] at hz
            have hc : clipAt sk.length (-1) = sk.length - 1 := clipAt_neg sk.length 1 (Nat.le_refl 1)
            rw [hz, hc, List.length_take, List.length_drop]
            show _ + 2 ≤ 3
            omega
          · intro m' h' tk' F1
            exact hend _ _ _ F1
      · intro _
        rfl
  · intro _
    rfl
end Mine

-- part Places
namespace Mine
open PySem PySem.W PyProof.Rows PySem.Spec PySem.Calls
theorem set_back_Places : True := by
  w_top off
  k_with_none
  trivial
/-- the last pair wins -/
def lastAt : List (Int × Int) → Int → Option Int
  | [], _ => none
  | (k, v) :: r, i => match lastAt r i with
    | some w => some w
    | none => if k = i then some v else none
theorem lastAt_snoc (l : List (Int × Int)) (k v i : Int) : lastAt (l ++ [(k, v)]) i = if k = i then some v else lastAt l i := by
  induction l with
  | nil => simp [lastAt]
  | cons p l ih =>
    obtain ⟨k', v'⟩ := p
    simp only [List.cons_append, lastAt, ih]
    by_cases h : k = i
    · simp [h]
    · simp [h]
theorem valueAt_cons (p : Int × Value) (r : List (Int × Value)) (i : Int) : valueAt (p :: r) i = if p.1 = i then some p.2 else valueAt r i := by
  unfold valueAt
  rw [List.find?_cons]
  by_cases h : p.1 = i <;> simp [h]
theorem valueAt_map (k : Int) (v : Value) (i : Int) (h : ¬ k = i) : ∀ kvs : List (Int × Value), valueAt (kvs.map (fun kv => if kv.1 = k then (kv.1, v) else kv)) i = valueAt kvs i
  | [] => rfl
  | p :: r => by
    rw [List.map_cons, valueAt_cons, valueAt_cons, valueAt_map k v i h r]
    by_cases h1 : p.1 = k
    · have h2 : ¬ p.1 = i := fun e => h (h1 ▸ e)
      simp [h1, h]
    · simp [h1]
theorem valueAt_map' (k : Int) (v : Value) : ∀ kvs : List (Int × Value), kvs.any (fun kv => kv.1 = k) = true → valueAt (kvs.map (fun kv => if kv.1 = k then (kv.1, v) else kv)) k = some v
  | [], h => by simp at h
  | p :: r, h => by
    rw [List.map_cons, valueAt_cons]
    by_cases h1 : p.1 = k
    · simp [h1]
    · have h2 : r.any (fun kv => kv.1 = k) = true := by simpa [h1] using h
      simp [h1, valueAt_map' k v r h2]
theorem valueAt_app (k : Int) (v : Value) (i : Int) : ∀ kvs : List (Int × Value), ¬ kvs.any (fun kv => kv.1 = k) = true → valueAt (kvs ++ [(k, v)]) i = if k = i then some v else valueAt kvs i
  | [], _ => by rw [List.nil_append, valueAt_cons]
  | p :: r, h => by
    have h1 : ¬ p.1 = k := fun e => h (by simp [e])
    have h2 : ¬ r.any (fun kv => kv.1 = k) = true := fun e => h (by rw [List.any_cons, e, Bool.or_true])
    rw [List.cons_append, valueAt_cons, valueAt_cons, valueAt_app k v i r h2]
    by_cases h3 : k = i
    · subst h3; simp [h1]
    · simp [h3]
theorem valueAt_stored (kvs : List (Int × Value)) (k : Int) (v : Value) (i : Int) : valueAt (stored kvs k v) i = if k = i then some v else valueAt kvs i := by
  unfold stored
  by_cases ha : kvs.any (fun kv => kv.1 = k) = true
  · rw [if_pos ha]
    by_cases h : k = i
    · subst h; rw [if_pos rfl]; exact valueAt_map' k v kvs ha
    · rw [if_neg h]; exact valueAt_map k v i h kvs
  · rw [if_neg ha]
    exact valueAt_app k v i kvs ha
theorem stored_last {l : List (Int × Int)} {kvs : List (Int × Value)} (h : StoredI l kvs) (i : Int) : (∀ v, lastAt l i = some v → ∃ t, valueAt kvs i = some (.int v t)) ∧ (lastAt l i = none → valueAt kvs i = none) := by
  induction h with
  | nil => exact ⟨fun v e => (nomatch e), fun _ => rfl⟩
  | @snoc l kvs k v t _ ih =>
    rw [lastAt_snoc, valueAt_stored]
    by_cases h : k = i
    · rw [if_pos h, if_pos h]
      exact ⟨fun w e => ⟨t, by cases e; rfl⟩, fun e => by cases e⟩
    · rw [if_neg h, if_neg h]
      exact ih
def fOf (i : Nat) : Int := (i : Int) - (i : Int).fdiv 64 * 2
def base : List (Int × Int) := (List.range 64).map fun j => (s64.getD j 0, fOf j)
theorem base_in : ∀ c < 256, lastAt base ((c : Nat) : Int) = plOf id (c : Int) := by decide +kernel
theorem base_keys : ∀ p ∈ base, 0 ≤ p.1 ∧ p.1 < 256 := by decide +kernel
theorem lastAt_none : ∀ (l : List (Int × Int)) (i : Int), (∀ p ∈ l, p.1 ≠ i) → lastAt l i = none
  | [], _, _ => rfl
  | (k, v) :: r, i, h => by
    unfold lastAt
    rw [lastAt_none r i (fun p hp => h p (List.mem_cons_of_mem _ hp))]
    exact if_neg (h _ (List.mem_cons_self ..))
theorem base_at (i : Int) : lastAt base i = plOf id i := by
  by_cases h : 0 ≤ i ∧ i < 256
  · have := base_in i.toNat (by omega)
    rwa [Int.toNat_of_nonneg h.1] at this
  · rw [lastAt_none base i (fun p hp e => h (e ▸ base_keys p hp))]
    unfold plOf
    rw [if_pos (.inr (by
      by_cases q : 64 ≤ b64v i
      · exact q
      · exact absurd (b64v_big (by omega)) h))]
theorem pairs_eq {sg : Array UInt8} {ks : List Int} (f : Nat → Int) (h : KBw.bInts sg = ks) : dcPairs sg f = (List.range ks.length).map fun j => (ks.getD j 0, f j) := by
  subst h
  unfold dcPairs
  rw [KBw.ints_length]
  apply List.map_congr_left
  intro j hj
  have hj' : j < sg.size := List.mem_range.mp hj
  have : (KBw.bInts sg).getD j 0 = (((sg.getD j 0).toNat : Nat) : Int) := by
    unfold KBw.bInts
    simp [List.getD_eq_getElem?_getD, hj']
  rw [this]
theorem base_eq : (List.range s64.length).map (fun j => (s64.getD j 0, fOf j)) = base := rfl
theorem two_eq (a b : Int) : (List.range (s64 ++ [a, b]).length).map (fun j => ((s64 ++ [a, b]).getD j 0, fOf j)) = (base ++ [(a, 62)]) ++ [(b, 63)] := by
  have hl : (s64 ++ [a, b]).length = 66 := by rw [List.length_append, s64_len]; rfl
  have hr : List.range 66 = List.range 64 ++ [64, 65] := by decide
  have g1 : (s64 ++ [a, b]).getD 64 0 = a := by simp [List.getD_eq_getElem?_getD, List.getElem?_append_right, s64_len]
  have g2 : (s64 ++ [a, b]).getD 65 0 = b := by simp [List.getD_eq_getElem?_getD, List.getElem?_append_right, s64_len]
  have f1 : fOf 64 = 62 := by decide
  have f2 : fOf 65 = 63 := by decide
  rw [hl, hr, List.map_append, List.append_assoc]
  have hb : (List.range 64).map (fun j => ((s64 ++ [a, b]).getD j 0, fOf j)) = base := by
    unfold base
    apply List.map_congr_left
    intro j hj
    have hj' : j < s64.length := by rw [s64_len]; exact List.mem_range.mp hj
    rw [List.getD_eq_getElem?_getD, List.getElem?_append_left hj', List.getD_eq_getElem?_getD]
  rw [hb]
  simp only [List.map_cons, List.map_nil, g1, g2, f1, f2, List.cons_append, List.nil_append]
theorem places_ok {o : Option (UInt8 × UInt8)} {sg : Array UInt8} {kvs : List (Int × Value)} (ok : AltOk o) (hsg : KBw.bInts sg = s64 ++ altI o) (hS : StoredI (dcPairs sg fOf) kvs) (i : Int) :
    (∀ v, plO o i = some v → ∃ t, valueAt kvs i = some (.int v t)) ∧ (plO o i = none → valueAt kvs i = none) := by
  have key : plO o i = lastAt (dcPairs sg fOf) i := by
    match o, ok, hsg with
    | none, _, hsg =>
      have e : KBw.bInts sg = s64 := by rw [hsg]; exact List.append_nil _
      rw [pairs_eq fOf e, base_eq, base_at]
      rfl
    | some (a, b), ok, hsg =>
      have e : KBw.bInts sg = s64 ++ [(a.toNat : Int), (b.toNat : Int)] := hsg
      rw [pairs_eq fOf e, two_eq, lastAt_snoc, lastAt_snoc, base_at]
      have ha := u8_ne ok.2.2.1
      have hb := u8_ne ok.2.2.2
      have pl : ∀ x, trO (some (a, b)) i = x → plO (some (a, b)) i = if i = 61 ∨ 64 ≤ b64v x then none else some (b64v x) := fun x e => by rw [← e]; rfl
      by_cases h2 : i = (b.toNat : Int)
      · refine (pl 47 (by show trI _ _ _ = 47; unfold trI; rw [if_pos h2])).trans ((if_neg ?_).trans (if_pos h2.symm).symm)
        rintro (q | q)
        · exact hb (h2 ▸ q)
        · exact absurd q (by decide)
      by_cases h1 : i = (a.toNat : Int)
      · refine (pl 43 (by show trI _ _ _ = 43; unfold trI; rw [if_neg h2, if_pos h1])).trans ((if_neg ?_).trans ((if_neg (fun q => h2 q.symm)).trans (if_pos h1.symm)).symm)
        rintro (q | q)
        · exact ha (h1 ▸ q)
        · exact absurd q (by decide)
      · exact (pl i (by show trI _ _ _ = i; unfold trI; rw [if_neg h2, if_neg h1])).trans ((if_neg (fun q => h2 q.symm)).trans (if_neg (fun q => h1 q.symm))).symm
  rw [key]
  exact stored_last hS i
end Mine

-- part LL
namespace Mine
open PySem PySem.W PyProof.Rows PySem.Spec PySem.Calls
theorem set_back_LL : True := by
  w_top off
  k_with_none
  trivial
local macro_rules | `(tactic| walk_at $s:str) => `(tactic| k_extra $s)
theorem sg_size {sg : Array UInt8} {o : Option (UInt8 × UInt8)} (h : KBw.bInts sg = s64 ++ altI o) : sg.size ≤ 1000 := by
  have h1 : (altI o).length ≤ 2 := by unfold altI; rw [KBw.ints_length]; exact alts_size o
  rw [← KBw.ints_length, h, List.length_append, s64_len]; omega
theorem not_sys {h : Heap} {D : Nat} (hl : h.NoLimit) (hd : h.objs.size + 1 < D) : (D == sysModules) = false := by
  have := modules_low hl
  exact beq_eq_false_iff_ne.mpr fun e => absurd (Nat.lt_trans this (Nat.lt_trans (Nat.lt_succ_self _) hd)) (by rw [e]; exact Nat.lt_irrefl _)
set_option maxHeartbeats 8000000 in
theorem t : PySem.Challenge.rw_pa0020_01.Holds := hd (by
  k_with_none
  k_with "eval BoolOp" => (((with_reducible show wpAny _ _ (eval (PySem.Expr.BoolOp _ [PySem.Expr.Subscript _ _ _, _] _) _) _ _ _); (fail_if_success (with_reducible show wpAny _ _ _ (NumPost _ _ _ _ _) _ _)); refine Halt.get ?_))
  k_with "eval IfExp" => (((fail_if_success (with_reducible show wpAny _ _ _ (TwoPost _ _ _ _ _) _ _)); refine Halt.get ?_))
  k_with "eval ListComp" => ((refine Halt.get ?_))
  k_with "eval DictComp" => ((refine Halt.get ?_))
  k_with "binaryOp Add bytes bytes" => (((with_reducible show wpAny _ _ (binaryOp _ _ (Value.bytes (alts _) _)) _ _ _); refine add_signs (by decide +kernel) ?_; intro sg' t' k' hsg'))
  k_go0
  (all_goals try k_fold)
  k_steps
  refine Halt.mk ?_
  rename Fr _ _ _ _ => F9
  rename News _ _ _ _ => N9
  refine num_join () F9 N9 ?_ ?_
  · (try k_fold)
    k_steps
    all_goals ((rename News _ _ _ _ => nE'); (rename Fr _ _ _ _ => fE'); first
      | exact NumPost.mk fE' nE' (fun _ h => h) (by simp only [AllLt, and_true]; omega) (by assumption) (by omega)
      | exact NumPost.mk fE' nE' (fun _ h => .tail _ h) (by simp only [AllLt, and_true]; omega) (.cons _ _ (.cons _ _ (.cons _ _ (.cons _ _ (.cons _ _ (.cons _ _ .nil)))))) (by decide))
  · intro D ws ns h' tk F' N' l1 hI' hlen
    clear F9 N9
    simp only [AllLt, and_true] at l1
    k_steps
    refine Halt.mk ?_
    rename Fr _ _ _ _ => F9
    rename News _ _ _ _ => N9
    refine two_join () F9 N9 ?_ ?_
    · k_steps
      · refine Halt.mk ?_
        refine lc_K (fun _ => true) (fun v y => ∀ n t, v = Value.int n t → ∃ t', y = Value.int (255 - n - n.fdiv 194) t') (cl := []) ?hc1 ?hc2 ?hc3 ?hc4 ?hc5 ?_ ?_
        case hc1 => with_unfolding_all rfl
        case hc2 => decide
        case hc3 => rfl
        case hc4 => decide
        case hc5 => rfl
        · k_steps
          rename Fr _ _ _ _ => F8
          rename News _ _ _ _ => N8
          refine src_tuple F8 N8 rfl (List.mem_cons_self ..) (by simp) ?_ ?_ ?_
          · intro C i v s₃ m₃ E' hC hi hns hm hk
            exact wpAny_pure ⟨rfl, _, _, rfl, fun _ _ e => e⟩
          · intro C i v s₃ m₃ E' hC hi hp hns hm hk
            refine wp_open ?_
            have hv : ∃ n t, v = .int n t := by
              match i, hi with
              | 0, hi => exact ⟨_, _, (Option.some.inj hi).symm⟩
              | 1, hi => exact ⟨_, _, (Option.some.inj hi).symm⟩
              | i + 2, hi => exact absurd hi (by simp)
            obtain ⟨n, t, rfl⟩ := hv
            k_steps
            exact ⟨fun n' t' e => by cases e; exact ⟨_, rfl⟩, _, _, rfl, fun _ _ e => e⟩
          · intro D ys c h' tk F' N' hne hG
            clear F8 N8
            obtain ⟨ws, hws⟩ : ∃ ws, ys = List.toArray ws := ⟨ys.toList, by simp⟩
            subst hws
            obtain ⟨hI8, hIn8⟩ := two_facts hG
            k_steps
            rename News _ _ _ _ => nE'
            rename Fr _ _ _ _ => fE'
            exact TwoPost.mk2 (mod254 _).1 (mod254 _).2 (mod254 _).1 (mod254 _).2 fE' nE' (by kst_inAny)
        · intro _
          rfl
      · rename News _ _ _ _ => nE'
        rename Fr _ _ _ _ => fE'
        exact TwoPost.mk0 fE' nE' (by kst_inAny)
    · intro o t h' tk ok F' N'
      clear F9 N9
      k_steps
      refine Halt.mk ?_
      rename Fr _ _ _ _ => F9
      rename News _ _ _ _ => N9
      (try simp only [List.cons_append, List.nil_append] at N9)
      refine dc_K (fun i => (i : Int) - (i : Int).fdiv 64 * 2) (cl := []) rfl ?hc1 ?hc2 ?hc3 ?hc4 ?hc5 ?hc6 ?hc7 ?hkey ?hval ?_ ?_
      case hc1 => with_unfolding_all rfl
      case hc2 => decide
      case hc3 => rfl
      case hc4 => decide
      case hc5 => rfl
      case hc6 => rfl
      case hc7 => decide
      case hkey =>
        intro C i c u v s₂ m₂ E' hns h1 h2
        exact wpAny_Name (wpAny_loadName_local rfl rfl hns h2 ⟨⟨_, rfl⟩, _, _, rfl, fun _ _ e => e⟩) (by decide)
      case hval =>
        intro C i c u v s₂ m₂ E' hns h1 h2
        refine wp_open ?_
        clear F9 N9
        k_steps
        exact ⟨⟨_, rfl⟩, _, _, rfl, fun _ _ e => e⟩
      · k_steps
        refine enum_src F9 N9 ?_ ?_
        · exact sg_size (by assumption)
        · intro D od kvs h' tk F' N' hne hD hS hD0
          clear F9 N9
          k_lt hne
          k_here
          k_dflt (refine' storeX_C ?zzF ?zzN ?zzc ?zzU ?zzd ?_ ?zza ?zzb)
          case zza => rfl
          case zzb => rfl
          case zzF => exact F'
          case zzN => exact N'
          case zzc => rfl
          case zzU => k_updF
          case zzd => k_asm
          k_whole
          intro h2 o2 F2 N2 d2
          refine wpAny_noRaise ?_
          refine' law_rest _ _ _ _ _ _ _ _ _ _ _ _ _ _ _ _ _ o D _ od _ o2 _ kvs ws ns _ ?zzB ?zzX ?zzT F2 N2 ?zz1 ?zz2 hI' hlen ?zzsg ok hD ?zzp (places_ok ok ?zzsg2 hS) ?zzoS d2 ?zzoT ?zzend
          case zzB => assumption
          case zzX => assumption
          case zzT => assumption
          case zzsg2 => assumption
          case zzsg => assumption
          case zz1 => omega
          case zz2 => omega
          case zzp => exact not_sys (Top.nolimit (by assumption)) (by omega)
          case zzoS => assumption
          case zzoT => assumption
          case zzend =>
            intro m' h' tk' F1
            k_steps
      · intro _
        rfl)
end Mine

theorem PySem.Challenge.cw_pa0020_01_holds : PySem.Challenge.rw_pa0020_01.Holds := by
  exact Mine.t
