/- zzSizesFit (6). -/
import Derived.Test.Qxb6616841aGuards
namespace Go.Proofs.Qxb6616841a
open Go.RowKit

/-- What zzSizesFit's true says (as far as the laws want it). -/
def Fits (n m : Nat) (packed row : ByteArray) : Prop := n ≤ 65536 ∧ m ≤ 65536 ∧ packed.size ≤ 1048576 ∧ row.size ≤ 1048576
def FitsOut (n m : Nat) (packed row : ByteArray) (e : Ending) : Prop := ∃ r, e = .returned (.bool r) ∧ (r = true → Fits n m packed row)
theorem FitsOut.no (n m : Nat) (packed row : ByteArray) : FitsOut n m packed row (.returned (.bool false)) := ⟨false, rfl, fun h => by cases h⟩
theorem FitsOut.yes {n m : Nat} {packed row : ByteArray} (h : Fits n m packed row) (r : Bool) : FitsOut n m packed row (.returned (.bool r)) := ⟨r, rfl, fun _ => h⟩

set_option maxHeartbeats 1000000 in
theorem sizes_no (aa ao : Option Addr) (n nc m mc : Nat) (packed row : ByteArray) (ndel : Bool) (ntrx : Int) (w : World)
    (h : 65536 < n ∨ 1048576 < packed.size ∨ 65536 < m ∨ 1048576 < row.size) :
    Calls Try.prog 6 #[.slice aa n nc, .string packed, .slice ao m mc, .agg #[.string row, .bool ndel, .int .u64 ntrx]] w fun e w' => FitsOut n m packed row e ∧ Below w.heap.size w w' := by
  by_cases h1 : 65536 < n
  · clear h
    go_enter Try.func6, Try.ntmps6
    go_wp2
    go_ret
    exact ⟨FitsOut.no _ _ _ _, (Below.refl _ _).alloc (Nat.le_refl _) _⟩
  by_cases h2 : 1048576 < packed.size
  · clear h
    go_enter Try.func6, Try.ntmps6
    go_wp2
    go_ret
    exact ⟨FitsOut.no _ _ _ _, (Below.refl _ _).alloc (Nat.le_refl _) _⟩
  by_cases h3 : 65536 < m
  · clear h
    go_enter Try.func6, Try.ntmps6
    go_wp2
    go_ret
    exact ⟨FitsOut.no _ _ _ _, (Below.refl _ _).alloc (Nat.le_refl _) _⟩
  have h4 : 1048576 < row.size := by omega
  clear h
  go_enter Try.func6, Try.ntmps6
  go_wp2
  go_ret
  exact ⟨FitsOut.no _ _ _ _, (Below.refl _ _).alloc (Nat.le_refl _) _⟩

set_option maxHeartbeats 1000000 in
theorem sizes_yes (aa ao : Option Addr) (n nc m mc : Nat) (packed row : ByteArray) (ndel : Bool) (ntrx : Int) (vs : Nat → V) (w : World)
    (hn : n ≤ 65536) (hp : packed.size ≤ 1048576) (hm : m ≤ 65536) (hr : row.size ≤ 1048576) (hs : Vers w ao m vs) (hb : ∀ a, ao = some a → 0 < m → a.block < w.heap.size) :
    Calls Try.prog 6 #[.slice aa n nc, .string packed, .slice ao m mc, .agg #[.string row, .bool ndel, .int .u64 ntrx]] w fun e w' => FitsOut n m packed row e ∧ Below w.heap.size w w' := by
  have HF : Hid (Fits n m packed row) := ⟨hn, hm, hp, hr⟩
  have hcase : m ≤ 0 ∨ ∃ b off, ao = some ⟨b, off, none⟩ ∧ ∀ j, j < m → w.cell? ⟨b, off + j * 3, none⟩ = some (.string (vs j).row) := by
    rcases hs with h | ⟨b, off, e, h⟩
    · exact .inl (by omega)
    · exact .inr ⟨b, off, e, fun j hj => (h j hj).1⟩
  clear hs
  rcases hcase with h0 | ⟨b, off, rfl, hc⟩
  · clear hb
    go_enter Try.func6, Try.ntmps6
    go_wp2
    · go_ret
      exact ⟨FitsOut.yes HF.out _, (Below.refl _ _).alloc (Nat.le_refl _) _⟩
    go_loop [9, 10] (fun t i => ∃ x : Int, i = .int .i64 0 ∧ t = .int .i64 x) (fun _ i => m - (intOf i).toNat)
    case atStart => exact ⟨_, rfl, rfl⟩
    case round =>
      obtain ⟨x, rfl, rfl⟩ := hrel
      go_wp2
      all_goals
        go_ret
        exact ⟨FitsOut.yes HF.out _, (Below.refl _ _).alloc (Nat.le_refl _) _⟩
  · have HB : Hid (0 < m → b < w.heap.size) := fun h => hb ⟨b, off, none⟩ rfl h
    have HC : Hid (∀ j, j < m → w.cell? ⟨b, off + j * 3, none⟩ = some (.string (vs j).row)) := hc
    clear hb hc
    go_enter Try.func6, Try.ntmps6
    go_wp2
    · go_ret
      exact ⟨FitsOut.yes HF.out _, (Below.refl _ _).alloc (Nat.le_refl _) _⟩
    go_loop [9, 10] (fun t i => ∃ (k : Nat) (x : Int), k ≤ m ∧ i = .int .i64 k ∧ t = .int .i64 x) (fun _ i => m - (intOf i).toNat)
    case atStart => exact ⟨0, _, Nat.zero_le _, rfl, rfl⟩
    case round =>
      obtain ⟨k, x, hk, rfl, rfl⟩ := hrel
      by_cases hlt : k < m
      · have hcell := HC.out k hlt
        have hbw := HB.out (by omega)
        have hkI : (k : Int) < (m : Int) := by omega
        go_wp2
        · go_ret
          exact ⟨FitsOut.yes HF.out _, (Below.refl _ _).alloc (Nat.le_refl _) _⟩
        · go_ret
          exact ⟨FitsOut.yes HF.out _, (Below.refl _ _).alloc (Nat.le_refl _) _⟩
        · go_round
          case rel => exact ⟨k + 1, _, by omega, by go_num, rfl⟩
          case measure => simp [intOf]; omega
      · go_wp2
        all_goals
          go_ret
          exact ⟨FitsOut.yes HF.out _, (Below.refl _ _).alloc (Nat.le_refl _) _⟩

theorem sizes_any (aa ao : Option Addr) (n nc m mc : Nat) (packed row : ByteArray) (ndel : Bool) (ntrx : Int) (vs : Nat → V) (w : World)
    (hs : Vers w ao m vs) (hb : ∀ a, ao = some a → 0 < m → a.block < w.heap.size) :
    Calls Try.prog 6 #[.slice aa n nc, .string packed, .slice ao m mc, .agg #[.string row, .bool ndel, .int .u64 ntrx]] w fun e w' => FitsOut n m packed row e ∧ Below w.heap.size w w' := by
  by_cases h : 65536 < n ∨ 1048576 < packed.size ∨ 65536 < m ∨ 1048576 < row.size
  · exact sizes_no aa ao n nc m mc packed row ndel ntrx w h
  · exact sizes_yes aa ao n nc m mc packed row ndel ntrx vs w (by omega) (by omega) (by omega) (by omega) hs hb
end Go.Proofs.Qxb6616841a
