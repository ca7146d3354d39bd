/- The guards' walks: zzViewWellFormed (7), zzSizesFit (6), the two zzBytes (5, 11). -/
import Derived.Test.Qxb6616841aSmall
import Derived.Deep.QuietTactic
import Derived.BigQuiet
namespace Go.Proofs.Qxb6616841a
open Go.RowKit

/-- What zzViewWellFormed's true says. -/
def WFOut (act : Nat → Int) (n : Nat) (minA next : Int) (e : Ending) : Prop := ∃ r, e = .returned (.bool r) ∧ (r = true → WF act n minA next)

theorem WFOut.no (act : Nat → Int) (n : Nat) (minA next : Int) : WFOut act n minA next (.returned (.bool false)) := ⟨false, rfl, fun h => by cases h⟩

def Upto (act : Nat → Int) (next : Int) (k : Nat) : Prop := (∀ i, i < k → act i < next) ∧ ∀ i, i + 1 < k → act i < act (i + 1)

theorem Upto.step {act : Nat → Int} {next : Int} {k : Nat} (h : Upto act next k) (h1 : act k < next) (h2 : k = 0 ∨ act (k - 1) < act k) : Upto act next (k + 1) := by
  refine ⟨fun i hi => ?_, fun i hi => ?_⟩
  · by_cases e : i = k
    · subst e; exact h1
    · exact h.1 i (by omega)
  · by_cases e : i + 1 = k
    · rcases h2 with h2 | h2
      · omega
      · have : i = k - 1 := by omega
        subst this; rw [e]; exact h2
    · exact h.2 i (by omega)

set_option maxHeartbeats 1000000 in
theorem wf_any (ao : Option Addr) (n cap : Nat) (act : Nat → Int) (minA next : Int) (w : World) (hn : n ≤ 65536) (hs : Ints w ao n act) (hb : ∀ a, ao = some a → 0 < n → a.block < w.heap.size) :
    Calls Try.prog 7 #[.slice ao n cap, .int .u64 minA, .int .u64 next] w fun e w' => WFOut act n minA next e ∧ Below w.heap.size w w' := by
  have hcase : n ≤ 0 ∨ ∃ b off, ao = some ⟨b, off, none⟩ ∧ ∀ j, j < n → w.cell? ⟨b, off + j, none⟩ = some (.int .u64 (act j)) := by
    rcases hs with h | h
    · exact .inl (by omega)
    · exact .inr h
  clear hs
  rcases hcase with h0 | ⟨b, off, rfl, hc⟩
  · clear hb
    go_enter Try.func7, Try.ntmps7
    go_wp2
    go_loop [7] (fun i => i = .int .i64 0) (fun i => n - (intOf i).toNat)
    case atStart => rfl
    case round =>
      subst hrel
      go_wp2
      go_ret
      exact ⟨⟨_, rfl, fun h => ⟨fun i hi => absurd hi (by omega), fun i hi => absurd hi (by omega), by rw [if_neg (by omega)]; exact beq_iff_eq.1 h⟩⟩, Below.refl _ _⟩
  · have HB : Hid (0 < n → b < w.heap.size) := fun h => hb ⟨b, off, none⟩ rfl h
    have HC : Hid (∀ j, j < n → w.cell? ⟨b, off + j, none⟩ = some (.int .u64 (act j))) := hc
    clear hb hc
    go_enter Try.func7, Try.ntmps7
    go_wp2
    go_loopw [7] (fun i wr => ∃ k : Nat, k ≤ n ∧ i = .int .i64 k ∧ Upto act next k ∧ Below w.heap.size w wr) (fun i _ => n - (intOf i).toNat)
    case atStart => exact ⟨0, Nat.zero_le _, rfl, ⟨fun i hi => absurd hi (by omega), fun i hi => absurd hi (by omega)⟩, Below.refl _ _⟩
    case round =>
      obtain ⟨k, hk, rfl, hu, hbel⟩ := hrel
      have HU : Hid (Upto act next k) := hu
      have HL : Hid (Below w.heap.size w wr) := hbel
      have hcl : ∀ j, j < n → wr.cell? ⟨b, off + j, none⟩ = some (.int .u64 (act j)) := fun j hj => (hbel.cell (p := ⟨b, off + j, none⟩) (HB.out (by omega))).trans (HC.out j hj)
      have HCL : Hid (∀ j, j < n → wr.cell? ⟨b, off + j, none⟩ = some (.int .u64 (act j))) := hcl
      clear hu hbel hcl
      by_cases hlt : k < n
      · have hck := HCL.out k hlt
        by_cases hnx : next ≤ act k
        · go_wp2
          go_ret
          exact ⟨WFOut.no _ _ _ _, HL.out⟩
        have hkI : (k : Int) < (n : Int) := by omega
        by_cases hk0 : k = 0
        · have hd : decide (0 < k) = false := decide_eq_false (by omega)
          have HK : Hid (k = 0) := hk0
          have hk0' : k ≤ 0 := by omega
          clear hk0
          go_wp2
          go_quiet (fail)
          go_wp2
          go_roundw
          case rel => exact ⟨k + 1, by omega, by go_num, HU.out.step (by omega) (.inl HK.out), below_drewN HL.out _⟩
          case measure => simp [intOf]; omega
        · have hp := HCL.out (k - 1) (by omega)
          have hk1 : 0 < k := by omega
          have hd : decide (0 < k) = true := decide_eq_true hk1
          have hk2 : (0 : Int) ≤ (k : Int) - 1 := by omega
          have hk3 : (k : Int) - 1 < (n : Int) := by omega
          have hk4 : ((k : Int) - 1).toNat = k - 1 := by omega
          go_wp2
          go_quiet (fail)
          go_wp2
          · go_ret
            exact ⟨WFOut.no _ _ _ _, below_drewN HL.out _⟩
          · have hup : act (k - 1) < act k := by assumption
            go_roundw
            case rel => exact ⟨k + 1, by omega, by go_num, HU.out.step (by omega) (.inr hup), below_drewN HL.out _⟩
            case measure => simp [intOf]; omega
      · have hkn : k = n := by omega
        subst hkn
        by_cases h0 : 0 < k
        · have hc0 : wr.cell? ⟨b, off, none⟩ = some (.int .u64 (act 0)) := by simpa using HCL.out 0 h0
          have h0I : (0 : Int) < (k : Int) := by omega
          go_wp2
          go_ret
          exact ⟨⟨_, rfl, fun h => ⟨HU.out.1, HU.out.2, by rw [if_pos h0]; exact beq_iff_eq.1 h⟩⟩, HL.out⟩
        · have h0I : ¬ (0 : Int) < (k : Int) := by omega
          go_wp2
          go_ret
          exact ⟨⟨_, rfl, fun h => ⟨HU.out.1, HU.out.2, by rw [if_neg h0]; exact beq_iff_eq.1 h⟩⟩, HL.out⟩

/-- The call came back with some bool. -/
def SomeBool (e : Ending) : Prop := ∃ r, e = .returned (.bool r)
theorem SomeBool.mk (r : Bool) : SomeBool (.returned (.bool r)) := ⟨r, rfl⟩

/-- A slice of versions as the walks want it: three cells a version. -/
def Vers (w : World) (ao : Option Addr) (m : Nat) (vs : Nat → V) : Prop :=
  m = 0 ∨ ∃ b off, ao = some ⟨b, off, none⟩ ∧ ∀ j, j < m → w.cell? ⟨b, off + j * 3, none⟩ = some (.string (vs j).row) ∧
    w.cell? ⟨b, off + j * 3 + 1, none⟩ = some (.bool (vs j).del) ∧ w.cell? ⟨b, off + j * 3 + 2, none⟩ = some (.int .u64 (vs j).trx)

set_option maxHeartbeats 1000000 in
/-- zzBytes: some bool; a box is made. -/
theorem bytes5_any (aa ao : Option Addr) (n nc m mc : Nat) (minA next creator head trx kl : Int) (packed row : ByteArray) (deleted ndel : Bool) (ntrx : Int) (vs : Nat → V) (w : World)
    (hn : n ≤ 140737488351232) (hm : m ≤ 140737488351232) (hp : packed.size ≤ 140737488351232) (hs : Vers w ao m vs) (hb : ∀ a, ao = some a → 0 < m → a.block < w.heap.size) :
    Calls Try.prog 5 #[.slice aa n nc, .int .u64 minA, .int .u64 next, .int .u64 creator, .string packed, .int .u64 head, .int .u32 kl, .bool deleted, .int .u64 trx, .slice ao m mc, .agg #[.string row, .bool ndel, .int .u64 ntrx]] w
      fun e w' => SomeBool e ∧ Below w.heap.size w w' := by
  have hcase : m ≤ 0 ∨ ∃ b off, ao = some ⟨b, off, none⟩ ∧ ∀ j, j < m → w.cell? ⟨b, off + j * 3, none⟩ = some (.string (vs j).row) := by
    rcases hs with h | ⟨b, off, e, h⟩
    · exact .inl (by omega)
    · exact .inr ⟨b, off, e, fun j hj => (h j hj).1⟩
  clear hs
  rcases hcase with h0 | ⟨b, off, rfl, hc⟩
  · clear hb
    go_enter Try.func5, Try.ntmps5
    go_wp2
    · go_ret
      exact ⟨SomeBool.mk _, (Below.refl _ _).alloc (Nat.le_refl _) _⟩
    · go_ret
      exact ⟨SomeBool.mk _, (Below.refl _ _).alloc (Nat.le_refl _) _⟩
    · go_ret
      exact ⟨SomeBool.mk _, (Below.refl _ _).alloc (Nat.le_refl _) _⟩
    go_loop [23, 24] (fun t i => ∃ x : Int, i = .int .i64 0 ∧ t = .int .i64 x) (fun _ i => m - (intOf i).toNat)
    case atStart => exact ⟨_, rfl, rfl⟩
    case round =>
      obtain ⟨x, rfl, rfl⟩ := hrel
      go_wp2
      all_goals
        go_ret
        exact ⟨SomeBool.mk _, (Below.refl _ _).alloc (Nat.le_refl _) _⟩
  · have HB : Hid (0 < m → b < w.heap.size) := fun h => hb ⟨b, off, none⟩ rfl h
    have HC : Hid (∀ j, j < m → w.cell? ⟨b, off + j * 3, none⟩ = some (.string (vs j).row)) := hc
    clear hb hc
    go_enter Try.func5, Try.ntmps5
    go_wp2
    · go_ret
      exact ⟨SomeBool.mk _, (Below.refl _ _).alloc (Nat.le_refl _) _⟩
    · go_ret
      exact ⟨SomeBool.mk _, (Below.refl _ _).alloc (Nat.le_refl _) _⟩
    · go_ret
      exact ⟨SomeBool.mk _, (Below.refl _ _).alloc (Nat.le_refl _) _⟩
    · go_ret
      exact ⟨SomeBool.mk _, (Below.refl _ _).alloc (Nat.le_refl _) _⟩
    · go_ret
      exact ⟨SomeBool.mk _, (Below.refl _ _).alloc (Nat.le_refl _) _⟩
    go_loop [23, 24] (fun t i => ∃ (k : Nat) (x : Int), k ≤ m ∧ i = .int .i64 k ∧ t = .int .i64 x) (fun _ i => m - (intOf i).toNat)
    case atStart => exact ⟨0, _, Nat.zero_le _, rfl, rfl⟩
    case round =>
      obtain ⟨k, x, hk, rfl, rfl⟩ := hrel
      by_cases hlt : k < m
      · have hcell := HC.out k hlt
        have hbw := HB.out (by omega)
        have hkI : (k : Int) < (m : Int) := by omega
        go_wp2
        · go_ret
          exact ⟨SomeBool.mk _, (Below.refl _ _).alloc (Nat.le_refl _) _⟩
        · go_ret
          exact ⟨SomeBool.mk _, (Below.refl _ _).alloc (Nat.le_refl _) _⟩
        · go_round
          case rel => exact ⟨k + 1, _, by omega, by go_num, rfl⟩
          case measure => simp [intOf]; omega
      · go_wp2
        all_goals
          go_ret
          exact ⟨SomeBool.mk _, (Below.refl _ _).alloc (Nat.le_refl _) _⟩

set_option maxHeartbeats 1000000 in
/-- zzBytes: some bool; a box is made. -/
theorem bytes11_any (aa ao : Option Addr) (n nc m mc : Nat) (minA next creator head trx kl : Int) (packed row : ByteArray) (deleted ndel : Bool) (ntrx : Int) (vs : Nat → V) (w : World)
    (hn : n ≤ 140737488351232) (hm : m ≤ 140737488351232) (hp : packed.size ≤ 140737488351232) (hs : Vers w ao m vs) (hb : ∀ a, ao = some a → 0 < m → a.block < w.heap.size) :
    Calls Try.prog 11 #[.slice aa n nc, .int .u64 minA, .int .u64 next, .int .u64 creator, .string packed, .int .u64 head, .int .u32 kl, .bool deleted, .int .u64 trx, .slice ao m mc, .agg #[.string row, .bool ndel, .int .u64 ntrx]] w
      fun e w' => SomeBool e ∧ Below w.heap.size w w' := by
  have hcase : m ≤ 0 ∨ ∃ b off, ao = some ⟨b, off, none⟩ ∧ ∀ j, j < m → w.cell? ⟨b, off + j * 3, none⟩ = some (.string (vs j).row) := by
    rcases hs with h | ⟨b, off, e, h⟩
    · exact .inl (by omega)
    · exact .inr ⟨b, off, e, fun j hj => (h j hj).1⟩
  clear hs
  rcases hcase with h0 | ⟨b, off, rfl, hc⟩
  · clear hb
    go_enter Try.func11, Try.ntmps11
    go_wp2
    · go_ret
      exact ⟨SomeBool.mk _, (Below.refl _ _).alloc (Nat.le_refl _) _⟩
    · go_ret
      exact ⟨SomeBool.mk _, (Below.refl _ _).alloc (Nat.le_refl _) _⟩
    · go_ret
      exact ⟨SomeBool.mk _, (Below.refl _ _).alloc (Nat.le_refl _) _⟩
    go_loop [23, 24] (fun t i => ∃ x : Int, i = .int .i64 0 ∧ t = .int .i64 x) (fun _ i => m - (intOf i).toNat)
    case atStart => exact ⟨_, rfl, rfl⟩
    case round =>
      obtain ⟨x, rfl, rfl⟩ := hrel
      go_wp2
      all_goals
        go_ret
        exact ⟨SomeBool.mk _, (Below.refl _ _).alloc (Nat.le_refl _) _⟩
  · have HB : Hid (0 < m → b < w.heap.size) := fun h => hb ⟨b, off, none⟩ rfl h
    have HC : Hid (∀ j, j < m → w.cell? ⟨b, off + j * 3, none⟩ = some (.string (vs j).row)) := hc
    clear hb hc
    go_enter Try.func11, Try.ntmps11
    go_wp2
    · go_ret
      exact ⟨SomeBool.mk _, (Below.refl _ _).alloc (Nat.le_refl _) _⟩
    · go_ret
      exact ⟨SomeBool.mk _, (Below.refl _ _).alloc (Nat.le_refl _) _⟩
    · go_ret
      exact ⟨SomeBool.mk _, (Below.refl _ _).alloc (Nat.le_refl _) _⟩
    · go_ret
      exact ⟨SomeBool.mk _, (Below.refl _ _).alloc (Nat.le_refl _) _⟩
    · go_ret
      exact ⟨SomeBool.mk _, (Below.refl _ _).alloc (Nat.le_refl _) _⟩
    go_loop [23, 24] (fun t i => ∃ (k : Nat) (x : Int), k ≤ m ∧ i = .int .i64 k ∧ t = .int .i64 x) (fun _ i => m - (intOf i).toNat)
    case atStart => exact ⟨0, _, Nat.zero_le _, rfl, rfl⟩
    case round =>
      obtain ⟨k, x, hk, rfl, rfl⟩ := hrel
      by_cases hlt : k < m
      · have hcell := HC.out k hlt
        have hbw := HB.out (by omega)
        have hkI : (k : Int) < (m : Int) := by omega
        go_wp2
        · go_ret
          exact ⟨SomeBool.mk _, (Below.refl _ _).alloc (Nat.le_refl _) _⟩
        · go_ret
          exact ⟨SomeBool.mk _, (Below.refl _ _).alloc (Nat.le_refl _) _⟩
        · go_round
          case rel => exact ⟨k + 1, _, by omega, by go_num, rfl⟩
          case measure => simp [intOf]; omega
      · go_wp2
        all_goals
          go_ret
          exact ⟨SomeBool.mk _, (Below.refl _ _).alloc (Nat.le_refl _) _⟩

end Go.Proofs.Qxb6616841a
