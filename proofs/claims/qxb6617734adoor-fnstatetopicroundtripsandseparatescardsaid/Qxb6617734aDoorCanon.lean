/- zzCanonicalDecimal (7) at one, two, three digits. -/
import Derived.Test.Qxb6617734aDoorText
namespace Go.Proofs.Qxb6617734aDoor
open Go.RowKit

set_option maxHeartbeats 1000000 in
theorem canon3 (a b c : UInt8) (ha : 49 ≤ (a.toNat : Int)) (ha' : (a.toNat : Int) ≤ 57) (hb : 48 ≤ (b.toNat : Int)) (hb' : (b.toNat : Int) ≤ 57) (hc : 48 ≤ (c.toNat : Int)) (hc' : (c.toNat : Int) ≤ 57) (w : World) :
    Calls Tryd.prog 7 #[.string ⟨#[a, b, c]⟩] w fun e w' => e = .returned (.tuple #[.int .i64 (((a.toNat : Int) - 48) * 100 + ((b.toNat : Int) - 48) * 10 + ((c.toNat : Int) - 48)), .bool true]) ∧ w' = w := by
  have i0 : ∀ h, (⟨#[a, b, c]⟩ : ByteArray)[0]'h = a := fun _ => rfl
  have i1 : ∀ h, (⟨#[a, b, c]⟩ : ByteArray)[1]'h = b := fun _ => rfl
  have i2 : ∀ h, (⟨#[a, b, c]⟩ : ByteArray)[2]'h = c := fun _ => rfl
  have ha0 : ((a.toNat : Int) == 48) = false := beq_false_of_ne (by omega)
  go_enter Tryd.func7, Tryd.ntmps7
  go_wp2
  go_loop [4, 5, 6] (fun v i _ => (i = .int .i64 0 ∧ v = .int .i64 0) ∨ (i = .int .i64 1 ∧ v = .int .i64 ((a.toNat : Int) - 48)) ∨ (i = .int .i64 2 ∧ v = .int .i64 (((a.toNat : Int) - 48) * 10 + ((b.toNat : Int) - 48))) ∨
    (i = .int .i64 3 ∧ v = .int .i64 (((a.toNat : Int) - 48) * 100 + ((b.toNat : Int) - 48) * 10 + ((c.toNat : Int) - 48)))) (fun _ i _ => 3 - (intOf i).toNat)
  case atStart => exact .inl ⟨rfl, rfl⟩
  case round =>
    rcases hrel with ⟨rfl, rfl⟩ | ⟨rfl, rfl⟩ | ⟨rfl, rfl⟩ | ⟨rfl, rfl⟩
    · go_wp2
      go_round
      case rel => exact .inr (.inl ⟨rfl, by go_num⟩)
      case measure => simp [intOf]
    · go_wp2
      go_round
      case rel => exact .inr (.inr (.inl ⟨rfl, by go_num⟩))
      case measure => simp [intOf]
    · go_wp2
      go_round
      case rel => exact .inr (.inr (.inr ⟨rfl, by go_num⟩))
      case measure => simp [intOf]
    · go_wp2
      go_ret2
      exact ⟨rfl, rfl⟩

set_option maxHeartbeats 1000000 in
theorem canon2 (a b : UInt8) (ha : 49 ≤ (a.toNat : Int)) (ha' : (a.toNat : Int) ≤ 57) (hb : 48 ≤ (b.toNat : Int)) (hb' : (b.toNat : Int) ≤ 57) (w : World) :
    Calls Tryd.prog 7 #[.string ⟨#[a, b]⟩] w fun e w' => e = .returned (.tuple #[.int .i64 (((a.toNat : Int) - 48) * 10 + ((b.toNat : Int) - 48)), .bool true]) ∧ w' = w := by
  have i0 : ∀ h, (⟨#[a, b]⟩ : ByteArray)[0]'h = a := fun _ => rfl
  have i1 : ∀ h, (⟨#[a, b]⟩ : ByteArray)[1]'h = b := fun _ => rfl
  have ha0 : ((a.toNat : Int) == 48) = false := beq_false_of_ne (by omega)
  go_enter Tryd.func7, Tryd.ntmps7
  go_wp2
  go_loop [4, 5, 6] (fun v i _ => (i = .int .i64 0 ∧ v = .int .i64 0) ∨ (i = .int .i64 1 ∧ v = .int .i64 ((a.toNat : Int) - 48)) ∨ (i = .int .i64 2 ∧ v = .int .i64 (((a.toNat : Int) - 48) * 10 + ((b.toNat : Int) - 48)))) (fun _ i _ => 2 - (intOf i).toNat)
  case atStart => exact .inl ⟨rfl, rfl⟩
  case round =>
    rcases hrel with ⟨rfl, rfl⟩ | ⟨rfl, rfl⟩ | ⟨rfl, rfl⟩
    · go_wp2
      go_round
      case rel => exact .inr (.inl ⟨rfl, by go_num⟩)
      case measure => simp [intOf]
    · go_wp2
      go_round
      case rel => exact .inr (.inr ⟨rfl, by go_num⟩)
      case measure => simp [intOf]
    · go_wp2
      go_ret2
      exact ⟨rfl, rfl⟩

set_option maxHeartbeats 1000000 in
theorem canon1 (a : UInt8) (ha : 48 ≤ (a.toNat : Int)) (ha' : (a.toNat : Int) ≤ 57) (w : World) :
    Calls Tryd.prog 7 #[.string ⟨#[a]⟩] w fun e w' => e = .returned (.tuple #[.int .i64 ((a.toNat : Int) - 48), .bool true]) ∧ w' = w := by
  have i0 : ∀ h, (⟨#[a]⟩ : ByteArray)[0]'h = a := fun _ => rfl
  go_enter Tryd.func7, Tryd.ntmps7
  go_wp2
  go_loop [4, 5, 6] (fun v i _ => (i = .int .i64 0 ∧ v = .int .i64 0) ∨ (i = .int .i64 1 ∧ v = .int .i64 ((a.toNat : Int) - 48))) (fun _ i _ => 1 - (intOf i).toNat)
  case atStart => exact .inl ⟨rfl, rfl⟩
  case round =>
    rcases hrel with ⟨rfl, rfl⟩ | ⟨rfl, rfl⟩
    · go_wp2
      go_round
      case rel => exact .inr ⟨rfl, by go_num⟩
      case measure => simp [intOf]
    · go_wp2
      go_ret2
      exact ⟨rfl, rfl⟩

theorem dig_toNat (k : Nat) (h : k < 10) : ((dig k).toNat : Int) = 48 + k := by
  unfold dig
  rw [UInt8.toNat_ofNat']
  omega

/-- zzCanonicalDecimal at a numeral. -/
theorem canon_any (n : Nat) (hn : n < 1000) (w : World) :
    Calls Tryd.prog 7 #[.string ⟨(Lib.decDigits n).toArray⟩] w fun e w' => e = .returned (.tuple #[.int .i64 n, .bool true]) ∧ w' = w := by
  by_cases h1 : n < 10
  · rw [dec1 n h1]
    have e := dig_toNat n h1
    refine (canon1 (dig n) (by omega) (by omega) w).mono fun e' w' ⟨he, hw⟩ => ⟨?_, hw⟩
    rw [he, show ((dig n).toNat : Int) - 48 = (n : Int) by omega]
  · by_cases h2 : n < 100
    · rw [dec2 n (by omega) h2]
      have e1 := dig_toNat (n / 10) (by omega)
      have e2 := dig_toNat (n % 10) (by omega)
      refine (canon2 (dig (n / 10)) (dig (n % 10)) (by omega) (by omega) (by omega) (by omega) w).mono fun e' w' ⟨he, hw⟩ => ⟨?_, hw⟩
      rw [he, show (((dig (n / 10)).toNat : Int) - 48) * 10 + (((dig (n % 10)).toNat : Int) - 48) = (n : Int) by omega]
    · rw [dec3 n (by omega) hn]
      have e1 := dig_toNat (n / 100) (by omega)
      have e2 := dig_toNat (n / 10 % 10) (by omega)
      have e3 := dig_toNat (n % 10) (by omega)
      refine (canon3 (dig (n / 100)) (dig (n / 10 % 10)) (dig (n % 10)) (by omega) (by omega) (by omega) (by omega) (by omega) (by omega) w).mono fun e' w' ⟨he, hw⟩ => ⟨?_, hw⟩
      rw [he, show (((dig (n / 100)).toNat : Int) - 48) * 100 + (((dig (n / 10 % 10)).toNat : Int) - 48) * 10 + (((dig (n % 10)).toNat : Int) - 48) = (n : Int) by omega]
end Go.Proofs.Qxb6617734aDoor
