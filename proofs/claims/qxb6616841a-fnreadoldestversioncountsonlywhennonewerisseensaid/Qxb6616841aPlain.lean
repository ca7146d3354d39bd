/- The plain functions and laws: no Go in sight. -/
import Derived.WalkKit
namespace Go.Proofs.Qxb6616841a

/-- Is id among the first n of act? -/
def inAct (act : Nat → Int) : Nat → Int → Bool
  | 0, _ => false
  | n + 1, id => inAct act n id || act n == id

/-- What a view sees. -/
def seesB (act : Nat → Int) (n : Nat) (next creator id : Int) : Bool := id == creator || (decide (id < next) && !inAct act n id)

theorem inAct_false {act : Nat → Int} {n : Nat} {id : Int} : inAct act n id = false ↔ ∀ j, j < n → act j ≠ id := by
  induction n with
  | zero => simp [inAct]
  | succ n ih =>
    simp only [inAct, Bool.or_eq_false_iff, ih]
    constructor
    · rintro ⟨h1, h2⟩ j hj
      by_cases e : j = n
      · subst e; simpa using h2
      · exact h1 j (by omega)
    · intro h
      exact ⟨fun j hj => h j (by omega), by simpa using h n (by omega)⟩

theorem inAct_true {act : Nat → Int} {n : Nat} {id : Int} (j : Nat) (hj : j < n) (e : act j = id) : inAct act n id = true := by
  cases h : inAct act n id
  · exact absurd e (inAct_false.1 h j hj)
  · rfl

/-- The read view's documented shape. -/
def WF (act : Nat → Int) (n : Nat) (minA next : Int) : Prop :=
  (∀ i, i < n → act i < next) ∧ (∀ i, i + 1 < n → act i < act (i + 1)) ∧ (if 0 < n then minA = act 0 else minA = next)

theorem WF.lt {act : Nat → Int} {n : Nat} {minA next : Int} (h : WF act n minA next) : ∀ i j, i < j → j < n → act i < act j := by
  intro i j hij hj
  induction j with
  | zero => omega
  | succ j ih =>
    have h1 := h.2.1 j (by omega)
    by_cases e : i = j
    · subst e; exact h1
    · have := ih (by omega) (by omega)
      omega

theorem WF.min_le {act : Nat → Int} {n : Nat} {minA next : Int} (h : WF act n minA next) : minA ≤ next ∧ ∀ j, j < n → minA ≤ act j := by
  have h3 := h.2.2
  by_cases hn : 0 < n
  · rw [if_pos hn] at h3
    refine ⟨by have := h.1 0 hn; omega, fun j hj => ?_⟩
    by_cases e : j = 0
    · subst e; omega
    · have := h.lt 0 j (by omega) hj; omega
  · rw [if_neg hn] at h3
    exact ⟨by omega, fun j hj => absurd hj (by omega)⟩

/-- A version: its row, whether it is a deletion, its transaction. -/
structure V where
  row : ByteArray
  del : Bool
  trx : Int

/-- The first version that is seen. -/
def readP (S : Int → Bool) : List V → ByteArray × Bool
  | [] => (ByteArray.empty, false)
  | v :: l => if S v.trx then (v.row, !v.del) else readP S l

/-- d versions from the k-th on. -/
def seg (vs : Nat → V) : Nat → Nat → List V
  | 0, _ => []
  | d + 1, k => vs k :: seg vs d (k + 1)

/-- One more ahead. -/
def push (x : V) (vs : Nat → V) : Nat → V
  | 0 => x
  | j + 1 => vs j

theorem seg_push' (x : V) (vs : Nat → V) (d : Nat) : ∀ k, seg (push x vs) d (k + 1) = seg vs d k := by
  induction d with
  | zero => intro k; rfl
  | succ d ih => intro k; simp only [seg, push]; rw [ih (k + 1)]

theorem seg_push (x : V) (vs : Nat → V) (m : Nat) : seg (push x vs) (m + 1) 0 = x :: seg vs m 0 := by
  simp only [seg, push]
  rw [seg_push']

/-- One more at the end. -/
def snoc (m : Nat) (x : V) (vs : Nat → V) (j : Nat) : V := if j < m then vs j else x

theorem seg_snoc' (m : Nat) (x : V) (vs : Nat → V) (d : Nat) : ∀ k, k + d = m → seg (snoc m x vs) (d + 1) k = seg vs d k ++ [x] := by
  induction d with
  | zero =>
    intro k hk
    simp only [seg, snoc, List.nil_append]
    rw [if_neg (by omega)]
  | succ d ih =>
    intro k hk
    have h := ih (k + 1) (by omega)
    rw [seg, h, seg]
    simp only [snoc, List.cons_append]
    rw [if_pos (by omega)]

theorem seg_snoc (m : Nat) (x : V) (vs : Nat → V) : seg (snoc m x vs) (m + 1) 0 = seg vs m 0 ++ [x] := seg_snoc' m x vs m 0 (by omega)

/-- Does the view see one of them? -/
def anyS (S : Int → Bool) : List V → Bool
  | [] => false
  | v :: l => S v.trx || anyS S l

theorem readP_snoc (S : Int → Bool) (x : V) (l : List V) : readP S (l ++ [x]) = if anyS S l then readP S l else readP S [x] := by
  induction l with
  | nil => simp [anyS]
  | cons v l ih =>
    simp only [List.cons_append, readP, anyS]
    by_cases h : S v.trx = true
    · simp [h]
    · simp only [h, if_false, Bool.false_eq_true, Bool.false_or]
      exact ih

theorem readP_none (S : Int → Bool) (l : List V) (h : anyS S l = false) : readP S l = (ByteArray.empty, false) := by
  induction l with
  | nil => rfl
  | cons v l ih =>
    simp only [anyS, Bool.or_eq_false_iff] at h
    simp only [readP, h.1, Bool.false_eq_true, if_false]
    exact ih h.2
end Go.Proofs.Qxb6616841a
