/- The small walks: isNaN (17, 18), cmp.Less (16), zzSees (10), slices.BinarySearch (15), readView.sees (13). -/
import Derived.Test.Qxb6616841aRows
import Derived.Test.Qxb6616841aPlain
import Derived.WalkSpells
import Derived.WalkLawsBesides
namespace Go.Proofs.Qxb6616841a
open Go.RowKit

/-- A slice of uint64 as the walks want it. -/
def Ints (w : World) (ao : Option Addr) (n : Nat) (act : Nat → Int) : Prop :=
  n = 0 ∨ ∃ b off, ao = some ⟨b, off, none⟩ ∧ ∀ j, j < n → w.cell? ⟨b, off + j, none⟩ = some (.int .u64 (act j))

set_option maxHeartbeats 400000 in
theorem less_any (x y : Int) (w : World) : Calls Try.prog 16 #[.int .u64 x, .int .u64 y] w fun e w' => e = .returned (.bool (decide (x < y))) ∧ w' = w := by
  go_enter Try.func16, Try.ntmps16
  go_wp2
  go_ret
  exact ⟨rfl, rfl⟩

set_option maxHeartbeats 400000 in
/-- zzSees. -/
theorem zsees_any (ao : Option Addr) (n cap : Nat) (act : Nat → Int) (next creator id : Int) (w : World) (hn : n ≤ 65536) (hs : Ints w ao n act) :
    Calls Try.prog 10 #[.slice ao n cap, .int .u64 next, .int .u64 creator, .int .u64 id] w fun e w' => e = .returned (.bool (seesB act n next creator id)) ∧ w' = w := by
  by_cases hcr : id = creator
  · subst hcr
    clear hs
    go_enter Try.func10, Try.ntmps10
    go_wp2
    go_ret
    exact ⟨by simp [seesB], rfl⟩
  have hcrB : (id == creator) = false := beq_false_of_ne hcr
  by_cases hnx : next ≤ id
  · have hB : seesB act n next creator id = false := by simp only [seesB, hcrB, Bool.false_or]; rw [decide_eq_false (by omega)]; rfl
    rw [hB]
    clear hs hcr hB
    go_enter Try.func10, Try.ntmps10
    go_wp2
    go_ret
    exact ⟨rfl, rfl⟩
  have hB : seesB act n next creator id = !inAct act n id := by simp only [seesB, hcrB, Bool.false_or]; rw [decide_eq_true (by omega)]; rfl
  rw [hB]
  clear hcr hB
  have hcase : n ≤ 0 ∨ ∃ b off, ao = some ⟨b, off, none⟩ ∧ ∀ j, j < n → w.cell? ⟨b, off + j, none⟩ = some (.int .u64 (act j)) := by
    rcases hs with h | h
    · exact .inl (by omega)
    · exact .inr h
  clear hs
  rcases hcase with h0 | ⟨b, off, rfl, hc⟩
  all_goals
    go_enter Try.func10, Try.ntmps10
    go_wp2
    go_loop [9] (fun i => ∃ k : Nat, k ≤ n ∧ i = .int .i64 k ∧ ∀ j, j < k → act j ≠ id) (fun i => n - (intOf i).toNat)
    case atStart => exact ⟨0, Nat.zero_le _, rfl, fun j hj => absurd hj (by omega)⟩
    case round =>
      obtain ⟨k, hk, rfl, hne⟩ := hrel
      have HN : Hid (∀ j, j < k → act j ≠ id) := hne
      clear hne
      by_cases hlt : k < n
      · first
          | (exfalso; omega)
          | (have hcell := hc k hlt
             clear hc
             by_cases he : act k = id
             · have hB : (act k == id) = true := beq_iff_eq.2 he
               have HE : Hid (act k = id) := he
               clear he
               go_wp2
               go_ret
               exact ⟨by rw [inAct_true k hlt HE.out]; rfl, rfl⟩
             · have hB : (act k == id) = false := beq_false_of_ne he
               have HE : Hid (act k ≠ id) := he
               clear he
               go_wp2
               go_round
               case rel => exact ⟨k + 1, by omega, by go_num, fun j hj => by rcases Nat.lt_or_ge j k with h | h; exact HN.out j h; rw [show j = k by omega]; exact HE.out⟩
               case measure => simp [intOf]; omega)
      · try clear hc
        go_wp2
        go_ret
        exact ⟨by rw [inAct_false.2 (fun j hj => HN.out j (by omega))]; rfl, rfl⟩

theorem lo_step {act : Nat → Int} {n i h : Nat} {id : Int} (hup : ∀ i j, i < j → j < n → act i < act j) (_hlo : ∀ t, t < i → act t < id) (hl : act h < id) (hh : h < n) : ∀ t, t < h + 1 → act t < id := by
  intro t ht
  by_cases e : t = h
  · subst e; exact hl
  · have := hup t h (by omega) hh; omega

theorem hi_step {act : Nat → Int} {n h : Nat} {id : Int} (hup : ∀ i j, i < j → j < n → act i < act j) (hl : id ≤ act h) : ∀ t, h ≤ t → t < n → id ≤ act t := by
  intro t h1 h2
  by_cases e : t = h
  · subst e; omega
  · have := hup h t (by omega) h2; omega

theorem not_in {act : Nat → Int} {n i : Nat} {id : Int} (hup : ∀ i j, i < j → j < n → act i < act j) (hlo : ∀ t, t < i → act t < id) (hhi : ∀ t, i ≤ t → t < n → id ≤ act t) (hin : i < n) (hne : act i ≠ id) : inAct act n id = false := by
  refine inAct_false.2 fun t ht => ?_
  by_cases h1 : t < i
  · have := hlo t h1; omega
  · by_cases e : t = i
    · subst e; exact hne
    · have := hup i t (by omega) ht
      have := hhi i (by omega) hin
      omega

/-- The end of the search. -/
def Found (act : Nat → Int) (n : Nat) (id : Int) (e : Ending) : Prop := ∃ i : Int, e = .returned (.tuple #[.int .i64 i, .bool (inAct act n id)])

set_option maxHeartbeats 1000000 in
/-- slices.BinarySearch over a strictly ascending row. -/
theorem search_any (ao : Option Addr) (n cap : Nat) (act : Nat → Int) (id : Int) (w : World) (hn : n ≤ 65536) (hs : Ints w ao n act) (hup : ∀ i j, i < j → j < n → act i < act j) :
    Calls Try.prog 15 #[.slice ao n cap, .int .u64 id] w fun e w' => Found act n id e ∧ w' = w := by
  have HU : Hid (∀ i j, i < j → j < n → act i < act j) := hup
  clear hup
  have hcase : n ≤ 0 ∨ ∃ b off, ao = some ⟨b, off, none⟩ ∧ ∀ j, j < n → w.cell? ⟨b, off + j, none⟩ = some (.int .u64 (act j)) := by
    rcases hs with h | h
    · exact .inl (by omega)
    · exact .inr h
  clear hs
  rcases hcase with h0 | ⟨b, off, rfl, hc⟩
  all_goals
    go_enter Try.func15, Try.ntmps15
    go_wp2
    go_loop [7, 8, 9] (fun a c _ => ∃ i j : Nat, i ≤ j ∧ j ≤ n ∧ a = .int .i64 i ∧ c = .int .i64 j ∧ (∀ t, t < i → act t < id) ∧ ∀ t, j ≤ t → t < n → id ≤ act t) (fun a c _ => (intOf c).toNat - (intOf a).toNat)
    case atStart => exact ⟨0, n, Nat.zero_le _, Nat.le_refl _, rfl, rfl, fun t ht => absurd ht (by omega), fun t h1 h2 => absurd h1 (by omega)⟩
    case round =>
      obtain ⟨i, j, hij, hjn, rfl, rfl, hlo, hhi⟩ := hrel
      have HL : Hid (∀ t, t < i → act t < id) := hlo
      have HH : Hid (∀ t, j ≤ t → t < n → id ≤ act t) := hhi
      clear hlo hhi
      by_cases hlt : i < j
      · first
          | (exfalso; omega)
          | (have hcell := hc ((i + j) / 2) (by omega)
             clear hc
             go_wp2_with fail
             refine (less_any _ _ _).mono ?_
             rintro e w1 ⟨rfl, hw⟩
             obtain rfl := hw.symm
             by_cases hless : act ((i + j) / 2) < id
             · rw [decide_eq_true hless]
               go_wp2
               go_round
               case rel => exact ⟨(i + j) / 2 + 1, j, by omega, hjn, by go_num, rfl, lo_step HU.out HL.out hless (by omega), HH.out⟩
               case measure => simp [intOf]; omega
             · rw [decide_eq_false hless]
               go_wp2
               go_round
               case rel => exact ⟨i, (i + j) / 2, by omega, by omega, rfl, by go_num, HL.out, hi_step HU.out hless⟩
               case measure => simp [intOf]; omega)
      · have hij' : i = j := by omega
        subst hij'
        by_cases hin : i < n
        · first
            | (exfalso; omega)
            | (have hcell := hc i hin
               clear hc
               by_cases he : act i = id
               · have hB : (act i == id) = true := beq_iff_eq.2 he
                 have HE : Hid (act i = id) := he
                 clear he
                 go_wp2
                 go_ret2
                 exact ⟨⟨_, by rw [inAct_true i hin HE.out]; rfl⟩, rfl⟩
               · have hB : (act i == id) = false := beq_false_of_ne he
                 have HE : Hid (act i ≠ id) := he
                 clear he
                 go_wp2
                 go_ret2
                 exact ⟨⟨_, by rw [not_in HU.out HL.out HH.out hin HE.out]; rfl⟩, rfl⟩)
        · try clear hc
          go_wp2
          go_ret2
          exact ⟨⟨_, by rw [inAct_false.2 (fun t ht => Int.ne_of_lt (HL.out t (by omega)))]; rfl⟩, rfl⟩

/-- The read view at block bv. -/
def View (w : World) (bv : Nat) (ao : Option Addr) (n cap : Nat) (minA next creator : Int) : Prop :=
  w.cell? ⟨bv, 0, none⟩ = some (.slice ao n cap) ∧ w.cell? ⟨bv, 1, none⟩ = some (.int .u64 minA) ∧ w.cell? ⟨bv, 2, none⟩ = some (.int .u64 next) ∧ w.cell? ⟨bv, 3, none⟩ = some (.int .u64 creator)

set_option maxHeartbeats 400000 in
/-- readView.sees. -/
theorem sees_any (bv : Nat) (ao : Option Addr) (n cap : Nat) (act : Nat → Int) (minA next creator id : Int) (w : World) (hn : n ≤ 65536) (hv : View w bv ao n cap minA next creator) (hs : Ints w ao n act) (hwf : WF act n minA next) :
    Calls Try.prog 13 #[.pointer (some ⟨bv, 0, none⟩), .int .u64 id] w fun e w' => e = .returned (.bool (seesB act n next creator id)) ∧ w' = w := by
  obtain ⟨v0, v1, v2, v3⟩ := hv
  have HS : Hid (Ints w ao n act) := hs
  have HW : Hid (WF act n minA next) := hwf
  obtain ⟨m1, m2⟩ := hwf.min_le
  have HM : Hid (∀ j, j < n → minA ≤ act j) := m2
  clear hs hwf m2
  by_cases hcr : id = creator
  · have hB : seesB act n next creator id = true := by simp [seesB, hcr]
    have hq : (id == creator) = true := beq_iff_eq.2 hcr
    rw [hB]
    clear hcr hB
    go_enter Try.func13, Try.ntmps13
    go_wp2
    go_ret
    exact ⟨rfl, rfl⟩
  have hcrB : (id == creator) = false := beq_false_of_ne hcr
  clear hcr
  by_cases hmin : id < minA
  · have hB : seesB act n next creator id = true := by
      simp only [seesB, hcrB, Bool.false_or]
      rw [decide_eq_true (by omega), inAct_false.2 (fun j hj => by have := HM.out j hj; omega)]
      rfl
    rw [hB]
    clear hB
    go_enter Try.func13, Try.ntmps13
    go_wp2
    go_ret
    exact ⟨rfl, rfl⟩
  by_cases hnx : next ≤ id
  · have hB : seesB act n next creator id = false := by simp only [seesB, hcrB, Bool.false_or]; rw [decide_eq_false (by omega)]; rfl
    rw [hB]
    clear hB
    go_enter Try.func13, Try.ntmps13
    go_wp2
    go_ret
    exact ⟨rfl, rfl⟩
  have hB : seesB act n next creator id = !inAct act n id := by simp only [seesB, hcrB, Bool.false_or]; rw [decide_eq_true (by omega)]; rfl
  rw [hB]
  clear hB
  go_enter Try.func13, Try.ntmps13
  go_wp2_with fail
  refine (search_any ao n cap act id _ hn HS.out HW.out.lt).mono ?_
  rintro e w1 ⟨⟨i, rfl⟩, hw⟩
  obtain rfl := hw.symm
  go_wp2
  go_ret
  exact ⟨rfl, rfl⟩

set_option maxHeartbeats 400000 in
/-- entry.row. -/
theorem row_any (packed : ByteArray) (head : Int) (kl : Nat) (deleted : Bool) (trx : Int) (older : Value) (w : World) (hk : kl ≤ packed.size) :
    Calls Try.prog 14 #[.agg #[.string packed, .int .u64 head, .int .u32 kl, .bool deleted, .int .u64 trx, older]] w fun e w' => e = .returned (.string (packed.extract kl packed.size)) ∧ w' = w.alloc (.cells #[.string packed, .int .u64 head, .int .u32 kl, .bool deleted, .int .u64 trx, older] 49) := by
  go_enter Try.func14, Try.ntmps14
  go_wp2
  go_ret
  exact ⟨rfl, rfl⟩
end Go.Proofs.Qxb6616841a
