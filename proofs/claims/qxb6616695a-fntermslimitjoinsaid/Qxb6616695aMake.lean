/- The walk of zzTermsOf (5): it makes the terms and their list of limits. -/
import Derived.Test.Qxb6616695aLimit
import Derived.RegionTactic
namespace Go.Proofs.Qxb6616695a
open Go.RowKit

/-- The zero limit's cells. -/
def zeros : Array Value := #[.string ByteArray.empty, .string ByteArray.empty, .slice none 0 0, .pointer none, .string ByteArray.empty, .pointer none, .pointer none, .pointer none]
theorem Try.info40z : (Try.prog.info? 40).map (fun i => (i.zero, i.size, i.bytes)) = some (some (.agg zeros), 8, 104) := by kernel_rfl

/-- The limits' cells as 'make' lays them. -/
def made (n : Nat) : Array Value := madeCells zeros (n * 8)

theorem made_at (n i j : Nat) (hi : i < n) (hj : j < 8) : (made n)[i * 8 + j]? = zeros[j]? := by
  unfold made madeCells
  have h1 : i * 8 + j < n * 8 := by omega
  have h2 : (i * 8 + j) % zeros.size = j := by simp [zeros]; omega
  rw [Array.getElem?_map, Array.getElem?_range, if_pos h1]
  simp only [Option.map_some]
  rw [h2, getElem!_pos zeros j (by simpa [zeros] using hj), Array.getElem?_eq_getElem (by simpa [zeros] using hj)]

theorem run_made (n : Nat) (hn : n ≤ 65536) (w : World) :
    (Instr.makeSlice 32 (.int .i64 n) (.int .i64 n)).run Try.prog w = .ok (.slice (some ⟨w.heap.size, 0, none⟩) n n) (w.alloc (.cells (made n) 40)) := by
  obtain ⟨i, hi, hz, hs, hb⟩ := info_parts Try.info40z
  have h := run_make (P := Try.prog) w 32 40 i (.agg zeros) Try.underlying32 hi hz .i64 .i64 n n (by omega) (by omega) (by rw [hb]; omega) (by omega)
  rw [hs] at h
  simpa [made, Value.cells] using h

def MadeOf (n : Nat) (ss : Nat → ByteArray) (w : World) (e : Ending) (w' : World) : Prop :=
  (∃ bt la, e = .returned (.pointer (some ⟨bt, 0, none⟩)) ∧ Terms w' bt la n ss) ∧ Below w.heap.size w w'

set_option maxHeartbeats 400000 in
theorem termsOf_nil (c : Nat) (ss : Nat → ByteArray) (w : World) :
    Calls Try.prog 5 #[.slice none 0 c] w fun e w' => MadeOf 0 ss w e w' := by
  have hnil := fun ww => run_neq_slice_nil_any (P := Try.prog) ww 22 9 none 0 c 0 0 Try.underlying22
  go_enter Try.func5, Try.ntmps5
  go_wp2
  go_loop [4] (fun i => i = .int .i64 0) (fun i => 0 - (intOf i).toNat)
  case atStart => rfl
  case round =>
    subst hrel
    go_wp2
    go_ret
    exact ⟨⟨_, _, rfl, by simp, by simp; rfl, .inl rfl⟩, (Below.refl _ _).alloc (Nat.le_refl _) _⟩

set_option maxHeartbeats 400000 in
theorem termsOf_empty (a : Addr) (c : Nat) (ss : Nat → ByteArray) (w : World) :
    Calls Try.prog 5 #[.slice (some a) 0 c] w fun e w' => MadeOf 0 ss w e w' := by
  have hnil := fun ww => run_neq_slice_nil_any (P := Try.prog) ww 22 9 (some a) 0 c 0 0 Try.underlying22
  have hmk : ∀ ww : World, (Instr.makeSlice 32 (.int .i64 0) (.int .i64 0)).run Try.prog ww = .ok (.slice (some ⟨ww.heap.size, 0, none⟩) 0 0) (ww.alloc (.cells (made 0) 40)) := fun ww => run_made 0 (by omega) ww
  go_enter Try.func5, Try.ntmps5
  go_wp2
  go_loop [4] (fun i => i = .int .i64 0) (fun i => 0 - (intOf i).toNat)
  case atStart => rfl
  case round =>
    subst hrel
    go_wp2
    go_ret
    exact ⟨⟨_, _, rfl, by simp; omega, by simp; rfl, .inl rfl⟩, ((Below.refl _ _).alloc (Nat.le_refl _) _).alloc (by simp) _⟩

/-- The first k IDs, then nothing. -/
def upTo (ss : Nat → ByteArray) (k i : Nat) : ByteArray := if i < k then ss i else ByteArray.empty
theorem upTo_lt {ss : Nat → ByteArray} {k i : Nat} (h : i < k) : upTo ss k i = ss i := if_pos h
theorem upTo_ge {ss : Nat → ByteArray} {k i : Nat} (h : ¬ i < k) : upTo ss k i = ByteArray.empty := if_neg h

/-- What stands at the head of the k-th round: the first k limits bear their IDs. -/
def Inv (n : Nat) (ss : Nat → ByteArray) (w : World) (k : Nat) (wr : World) : Prop :=
  wr.cell? ⟨w.heap.size, 4, none⟩ = some (.slice (some ⟨w.heap.size + 1, 0, none⟩) n n) ∧ Row wr (w.heap.size + 1) n (upTo ss k) ∧
    (∀ o, wr.frozen? ⟨w.heap.size + 1, o, none⟩ = false) ∧ Below w.heap.size w wr ∧ w.heap.size + 2 ≤ wr.heap.size

theorem inv_step {n : Nat} {ss : Nat → ByteArray} {w : World} {k : Nat} {wr : World} (h : Inv n ss w k wr) :
    Inv n ss w (k + 1) (wr.setCell ⟨w.heap.size + 1, k * 8, none⟩ (.string (ss k))).drew := by
  obtain ⟨hsl, hrow, hfz, hbel, hsz⟩ := h
  have other : ∀ b o : Nat, (b ≠ w.heap.size + 1 ∨ o ≠ k * 8) → (wr.setCell ⟨w.heap.size + 1, k * 8, none⟩ (.string (ss k))).drew.cell? ⟨b, o, none⟩ = wr.cell? ⟨b, o, none⟩ := by
    intro b o h
    show (wr.setCell ⟨w.heap.size + 1, k * 8, none⟩ (.string (ss k))).cell? ⟨b, o, none⟩ = _
    refine World.cell?_setCell_other _ _ _ _ ?_
    intro e
    simp only [Addr.mk.injEq] at e
    omega
  refine ⟨?_, ?_, fun o => ?_, (hbel.setCell (by simp) _).drew, ?_⟩
  · rw [other _ _ (.inl (by omega))]; exact hsl
  · intro i hi
    obtain ⟨g0, g1, g2, g3, g4, g5, g6, g7⟩ := hrow i hi
    rw [other _ (i * 8 + 1) (.inr (by omega)), other _ (i * 8 + 2) (.inr (by omega)), other _ (i * 8 + 3) (.inr (by omega)), other _ (i * 8 + 4) (.inr (by omega)), other _ (i * 8 + 5) (.inr (by omega)), other _ (i * 8 + 6) (.inr (by omega)), other _ (i * 8 + 7) (.inr (by omega))]
    refine ⟨?_, g1, g2, g3, g4, g5, g6, g7⟩
    by_cases e : i = k
    · subst e
      rw [upTo_lt (by omega)]
      exact World.cell?_setCell_same wr _ _ g0
    · rw [other _ (i * 8) (.inr (by omega)), g0]
      by_cases h : i < k
      · rw [upTo_lt h, upTo_lt (by omega)]
      · rw [upTo_ge h, upTo_ge (by omega)]
  · show (wr.setCell ⟨w.heap.size + 1, k * 8, none⟩ (.string (ss k))).frozen? _ = false
    rw [World.frozen?_setCell]; exact hfz o
  · show w.heap.size + 2 ≤ (wr.setCell ⟨w.heap.size + 1, k * 8, none⟩ (.string (ss k))).heap.size
    simpa using hsz

theorem inv_start (n : Nat) (ss : Nat → ByteArray) (w : World) (x0 x1 x2 x3 x5 x6 : Value) :
    Inv n ss w 0 ((w.alloc (.cells #[x0, x1, x2, x3, .slice (some ⟨w.heap.size + 1, 0, none⟩) n n, x5, x6] 36)).alloc (.cells (made n) 40)) := by
  refine ⟨by simp, ?_, fun o => by simp, ((Below.refl _ _).alloc (Nat.le_refl _) _).alloc (by simp) _, by simp⟩
  intro i hi
  have k : ∀ j, j < 8 → ((w.alloc (.cells #[x0, x1, x2, x3, .slice (some ⟨w.heap.size + 1, 0, none⟩) n n, x5, x6] 36)).alloc (.cells (made n) 40)).cell? ⟨w.heap.size + 1, i * 8 + j, none⟩ = zeros[j]? := by
    intro j hj
    rw [World.cell?_alloc2_new, made_at n i j hi hj]
  exact ⟨by rw [upTo_ge (by omega)]; exact k 0 (by omega), k 1 (by omega), k 2 (by omega), k 3 (by omega), k 4 (by omega), k 5 (by omega), k 6 (by omega), k 7 (by omega)⟩

theorem inv_end {n : Nat} {ss : Nat → ByteArray} {w : World} {wr : World} (h : Inv n ss w n wr) : MadeOf n ss w (.returned (.pointer (some ⟨w.heap.size, 0, none⟩))) wr := by
  obtain ⟨hsl, hrow, hfz, hbel, hsz⟩ := h
  refine ⟨⟨_, _, rfl, by omega, hsl, .inr ⟨_, rfl, by omega, ?_⟩⟩, hbel⟩
  intro i hi
  have := hrow i hi
  rw [upTo_lt hi] at this
  exact this

set_option maxHeartbeats 400000 in
theorem termsOf_some (b off n c : Nat) (ss : Nat → ByteArray) (w : World) (hn : n ≤ 65536) (hb : b < w.heap.size)
    (hc : ∀ j, j < n → w.cell? ⟨b, off + j, none⟩ = some (.string (ss j))) :
    Calls Try.prog 5 #[.slice (some ⟨b, off, none⟩) n c] w fun e w' => MadeOf n ss w e w' := by
  have hnil := fun ww => run_neq_slice_nil_any (P := Try.prog) ww 22 9 (some ⟨b, off, none⟩) n c 0 0 Try.underlying22
  have hmk := fun ww => run_made n hn ww
  go_enter Try.func5, Try.ntmps5
  go_wp2
  clear hnil hmk
  go_loopw [4] (fun i wr => ∃ k : Nat, k ≤ n ∧ i = .int .i64 k ∧ Inv n ss w k wr) (fun i _ => n - (intOf i).toNat)
  case atStart => exact ⟨0, Nat.zero_le _, rfl, inv_start n ss w _ _ _ _ _ _⟩
  case round =>
    obtain ⟨k, hk, rfl, hinv⟩ := hrel
    by_cases hlt : k < n
    · obtain ⟨hsl, hrow, hfz, hbel, hsz⟩ := id hinv
      have h0 := (hrow k hlt).1
      have hcell := (hbel.cell (p := ⟨b, off + k, none⟩) hb).trans (hc k hlt)
      have hfk := hfz (k * 8)
      have HI : Hid (Inv n ss w k wr) := hinv
      clear hinv hrow hfz hbel hc
      have hltI : (k : Int) < (n : Int) := by omega
      go_wp2
      go_region
      all_goals
        go_wp2
        go_roundw
        case rel => exact ⟨k + 1, by omega, by go_num, inv_step HI.out⟩
        case measure => simp [intOf]; omega
    · go_wp2
      go_ret
      have : k = n := by omega
      subst this
      exact inv_end hinv

/-- zzTermsOf at whatever slice of strings. -/
theorem termsOf_any (ao : Option Addr) (n c : Nat) (ss : Nat → ByteArray) (w : World) (hn : n ≤ 65536) (hs : Strs w ao n ss) (hb : ∀ a, ao = some a → 0 < n → a.block < w.heap.size) :
    Calls Try.prog 5 #[.slice ao n c] w fun e w' => MadeOf n ss w e w' := by
  by_cases h0 : n = 0
  · subst h0
    rcases ao with _ | a
    · exact termsOf_nil c ss w
    · exact termsOf_empty a c ss w
  · rcases hs with h | ⟨b, off, rfl, hc⟩
    · exact absurd h h0
    · exact termsOf_some b off n c ss w hn (hb _ rfl (by omega)) hc
end Go.Proofs.Qxb6616695a
