/- The walks that only read: zzBytes (4), zzFirstIndexFrom (8). -/
import Derived.Test.Qxb6616695aRows
import Derived.WalkKit
import Derived.WalkSpells
import Derived.WalkLawsBesides
namespace Go.Proofs.Qxb6616695a
open Go.RowKit

/-- The call came back with some bool. -/
def SomeBool (e : Ending) : Prop := ∃ r, e = .returned (.bool r)
theorem SomeBool.mk (r : Bool) : SomeBool (.returned (.bool r)) := ⟨r, rfl⟩

/-- A slice of strings as the walks want it: empty (then nothing is known of its address), or a row of cells. -/
def Strs (w : World) (ao : Option Addr) (len : Nat) (ss : Nat → ByteArray) : Prop :=
  len = 0 ∨ ∃ b off, ao = some ⟨b, off, none⟩ ∧ ∀ j, j < len → w.cell? ⟨b, off + j, none⟩ = some (.string (ss j))

set_option maxHeartbeats 400000 in
/-- zzBytes answers some bool; the world stands. -/
theorem bytes_any (ao : Option Addr) (len cap : Nat) (cut : Int) (id : ByteArray) (ss : Nat → ByteArray) (w : World)
    (hm : len ≤ 140737488351232) (hs : Strs w ao len ss) :
    Calls Try.prog 4 #[.slice ao len cap, .int .i64 cut, .string id] w fun e w' => SomeBool e ∧ w' = w := by
  by_cases hbig : 1048576 < len
  · clear hs
    go_enter Try.func4, Try.ntmps4
    go_wp2
    go_ret
    exact ⟨SomeBool.mk _, rfl⟩
  rcases hs with h0 | ⟨b, off, rfl, hc⟩
  · subst h0
    go_enter Try.func4, Try.ntmps4
    go_wp2
    go_loop [7, 8] (fun t i => i = .int .i64 0 ∧ t = .int .i64 0) (fun _ i => 0 - (intOf i).toNat)
    case atStart => exact ⟨rfl, rfl⟩
    case round =>
      obtain ⟨rfl, rfl⟩ := hrel
      go_wp2
      all_goals
        go_ret
        exact ⟨SomeBool.mk _, rfl⟩
  · go_enter Try.func4, Try.ntmps4
    go_wp2
    go_loop [7, 8] (fun t i => ∃ (k : Nat) (x : Int), k ≤ len ∧ i = .int .i64 k ∧ t = .int .i64 x) (fun _ i => len - (intOf i).toNat)
    case atStart => exact ⟨0, _, Nat.zero_le _, rfl, rfl⟩
    case round =>
      obtain ⟨k, x, hk, rfl, rfl⟩ := hrel
      by_cases hlt : k < len
      · have hcell := hc k hlt
        clear hc
        go_wp2
        · go_ret
          exact ⟨SomeBool.mk _, rfl⟩
        · go_ret
          exact ⟨SomeBool.mk _, rfl⟩
        · go_round
          case rel => exact ⟨k + 1, _, by omega, by go_num, rfl⟩
          case measure => simp [intOf]; omega
      · go_wp2
        all_goals
          go_ret
          exact ⟨SomeBool.mk _, rfl⟩

/-- r is the first place below n at which ss holds id, or -1. -/
def IsFirst (ss : Nat → ByteArray) (id : ByteArray) (n : Nat) (r : Int) : Prop :=
  (r = -1 ∧ ∀ i, i < n → ((ss i).toList == id.toList) = false) ∨ ∃ k : Nat, k < n ∧ r = (k : Int) ∧ ((ss k).toList == id.toList) = true ∧ ∀ i, i < k → ((ss i).toList == id.toList) = false

def FirstOf (ss : Nat → ByteArray) (id : ByteArray) (n : Nat) (e : Ending) : Prop := ∃ r, e = .returned (.int .i64 r) ∧ IsFirst ss id n r

set_option maxHeartbeats 400000 in
/-- zzFirstIndexFrom from 0. -/
theorem first_any (ao : Option Addr) (len cap : Nat) (id : ByteArray) (ss : Nat → ByteArray) (w : World)
    (hm : len ≤ 140737488351232) (hs : Strs w ao len ss) :
    Calls Try.prog 8 #[.slice ao len cap, .string id, .int .i64 0] w fun e w' => FirstOf ss id len e ∧ w' = w := by
  rcases hs with h0 | ⟨b, off, rfl, hc⟩
  · subst h0
    go_enter Try.func8, Try.ntmps8
    go_wp2
    go_loop [7] (fun i => i = .int .i64 0) (fun i => 0 - (intOf i).toNat)
    case atStart => rfl
    case round =>
      subst hrel
      go_wp2
      go_ret
      exact ⟨⟨-1, rfl, .inl ⟨rfl, fun i hi => absurd hi (by omega)⟩⟩, rfl⟩
  · go_enter Try.func8, Try.ntmps8
    go_wp2
    go_loop [7] (fun i => ∃ k : Nat, k ≤ len ∧ i = .int .i64 k ∧ ∀ j, j < k → ((ss j).toList == id.toList) = false) (fun i => len - (intOf i).toNat)
    case atStart => exact ⟨0, Nat.zero_le _, rfl, fun j hj => absurd hj (by omega)⟩
    case round =>
      obtain ⟨k, hk, rfl, hne⟩ := hrel
      have HN : Hid (∀ j, j < k → ((ss j).toList == id.toList) = false) := hne
      clear hne
      by_cases hlt : k < len
      · have hcell := hc k hlt
        clear hc
        go_wp2
        · go_ret
          exact ⟨⟨_, rfl, .inr ⟨k, hlt, rfl, by assumption, HN.out⟩⟩, rfl⟩
        · have hf : ((ss k).toList == id.toList) = false := by assumption
          go_round
          case rel => exact ⟨k + 1, by omega, by go_num, fun j hj => by rcases Nat.lt_or_ge j k with h | h; exact HN.out j h; rw [show j = k by omega]; exact hf⟩
          case measure => simp [intOf]; omega
      · go_wp2
        go_ret
        exact ⟨⟨-1, rfl, .inl ⟨rfl, fun i hi => HN.out i (by omega)⟩⟩, rfl⟩
end Go.Proofs.Qxb6616695a
