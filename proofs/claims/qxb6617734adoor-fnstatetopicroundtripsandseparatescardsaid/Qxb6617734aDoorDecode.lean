/- zzDecodeStateTopic (5) at a topic. -/
import Derived.Test.Qxb6617734aDoorCanon
import Derived.Deep.QuietTactic
import Derived.BigQuiet
namespace Go.Proofs.Qxb6617734aDoor
open Go.RowKit

/-- x opens with the prefix. -/
def Opens (x : ByteArray) : Prop := ∀ k (_ : k < 17) (h1 : k < x.size) (h2 : k < (⟨#[47, 118, 105, 97, 100, 117, 99, 116, 47, 49, 47, 115, 116, 97, 116, 101, 47]⟩ : ByteArray).size),
  x[k]'h1 = (⟨#[47, 118, 105, 97, 100, 117, 99, 116, 47, 49, 47, 115, 116, 97, 116, 101, 47]⟩ : ByteArray)[k]'h2

/-- r is the name of s, as the decoder's tests ask it. -/
def Names (s : Nat) (r : ByteArray) : Prop :=
  (s = 64 ∧ (r.toList == [98, 101, 97, 99, 111, 110]) = true) ∨
  (64 < s ∧ (r.toList == [98, 101, 97, 99, 111, 110]) = false ∧ 7 ≤ r.size ∧ ((r.extract 0 6).toList == [115, 104, 97, 114, 100, 40]) = true ∧ (∀ h : r.size - 1 < r.size, r[r.size - 1]'h = 41) ∧ r.extract 6 (r.size - 1) = ⟨(Lib.decDigits s).toArray⟩) ∨
  (s < 64 ∧ (r.toList == [98, 101, 97, 99, 111, 110]) = false ∧ r.size ≤ 6 ∧ r = ⟨(Lib.decDigits s).toArray⟩)

set_option maxRecDepth 100000 in
set_option maxHeartbeats 1000000 in
theorem decode_any (s : Nat) (hs : s < 256) (x r : ByteArray) (hsz : x.size ≤ 1000) (h17 : 17 ≤ x.size) (hop : Opens x) (hrs : r.size ≤ 1000) (hxr : x.extract 17 x.size = r) (hn : Names s r) (w : World) :
    Calls Tryd.prog 5 #[.string x] w fun e w' => e = .returned (.tuple #[.int .i64 s, .bool true]) ∧ Below w.heap.size w w' := by
  have HO : Hid (Opens x) := hop
  have HN : Hid (Names s r) := hn
  have HX : Hid (x.extract 17 x.size = r) := hxr
  clear hop hn hxr
  go_enter Tryd.func5, Tryd.ntmps5
  go_wp2
  go_loopw [5] (fun i wr => ∃ k : Nat, k ≤ 17 ∧ i = .int .i64 k ∧ Below w.heap.size w wr) (fun i _ => 17 - (intOf i).toNat)
  case atStart => exact ⟨0, Nat.zero_le _, rfl, Below.refl _ _⟩
  case round =>
    obtain ⟨k, hk, rfl, hbel⟩ := hrel
    have HL : Hid (Below w.heap.size w wr) := hbel
    clear hbel
    by_cases hlt : k < 17
    · have hkI : (k : Int) < 17 := by omega
      have hkx : (k : Int) < (x.size : Int) := by omega
      have hkx' : k < x.size := by omega
      go_wp2
      go_quiet (fail)
      go_wp2
      · exfalso
        rename_i hne
        rw [HO.out k hlt hkx' (by exact hlt)] at hne
        simp at hne
      · go_roundw
        case rel => exact ⟨k + 1, by omega, by go_num, below_drewN HL.out _⟩
        case measure => simp [intOf]; omega
    · have hk17 : k = 17 := by omega
      have hxr := HX.out
      rcases HN.out with ⟨h64, hb⟩ | ⟨h64, hb, h7, hsh, hlast, hmid⟩ | ⟨h64, hb, h6, hr⟩
      · subst h64
        clear hk17
        go_wp2
        go_ret2
        exact ⟨rfl, HL.out⟩
      · have HM : Hid (r.extract 6 (r.size - 1) = ⟨(Lib.decDigits s).toArray⟩) := hmid
        clear hk17 hmid
        go_wp2_with fail
        have c : ∀ ww : World, Calls Tryd.prog 7 #[.string (r.extract 6 (r.size - 1))] ww fun e w' => e = .returned (.tuple #[.int .i64 s, .bool true]) ∧ w' = ww := fun ww => by
          rw [HM.out]; exact canon_any s (by omega) ww
        refine (c _).mono ?_
        rintro e w1 ⟨rfl, hw⟩
        obtain rfl := hw.symm
        clear c hsh hlast hb
        go_wp2
        go_ret2
        exact ⟨rfl, HL.out⟩
      · have HR : Hid (r = ⟨(Lib.decDigits s).toArray⟩) := hr
        clear hk17 hr
        go_wp2_with fail
        have c : ∀ ww : World, Calls Tryd.prog 7 #[.string r] ww fun e w' => e = .returned (.tuple #[.int .i64 s, .bool true]) ∧ w' = ww := fun ww => by
          rw [HR.out]; exact canon_any s (by omega) ww
        refine (c _).mono ?_
        rintro e w1 ⟨rfl, hw⟩
        obtain rfl := hw.symm
        clear c hb
        go_wp2
        go_ret2
        exact ⟨rfl, HL.out⟩
end Go.Proofs.Qxb6617734aDoor
