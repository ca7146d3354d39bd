/- The walks of Shard.String (6) and Shard.StateTopic (4), out of strconv.Itoa's contract. -/
import Derived.Test.Qxb6617734aDoorRows
import Derived.Test.Qxb6617734aDoorShelf
import Derived.WalkKit
import Derived.WalkSpells
import Derived.WalkLawsBesides
namespace Go.Proofs.Qxb6617734aDoor
open Go.RowKit

/-- The table's name, off the given row. -/
def powName : String := Rows.fnStateTopicRoundTripsAndSeparatesRow.named.headD ""

/-- The table of powers reads as its initialiser lays it. -/
def Tab (w : World) : Prop := Lib.TabIs Tryd.prog w powName .u64 Lib.pow10Tab

theorem below_grow {w w' : World} (h : ∃ k os, w' = Sort.grow (w.drewN k) os) : Below w.heap.size w w' := by
  obtain ⟨k, os, rfl⟩ := h
  refine (below_drewN (Below.refl _ _) k).trans ⟨rfl, rfl, rfl, ?_, ?_⟩
  · simp [Sort.grow]
  · intro i hi
    simp only [Sort.grow]
    exact Array.getElem?_append_left hi

/-- A digit's byte. -/
def dig (k : Nat) : UInt8 := UInt8.ofNat (48 + k)
theorem dec1 (n : Nat) (h : n < 10) : Lib.decDigits n = [dig n] := by rw [Lib.decDigits, dif_pos h]; rfl
theorem dec2 (n : Nat) (h1 : 10 ≤ n) (h2 : n < 100) : Lib.decDigits n = [dig (n / 10), dig (n % 10)] := by
  rw [Lib.decDigits, dif_neg (by omega), dec1 (n / 10) (by omega)]; rfl
theorem dec3 (n : Nat) (h1 : 100 ≤ n) (h2 : n < 1000) : Lib.decDigits n = [dig (n / 100), dig (n / 10 % 10), dig (n % 10)] := by
  rw [Lib.decDigits, dif_neg (by omega), dec2 (n / 10) (by omega) (by omega), Nat.div_div_eq_div_mul]; rfl

/-- strconv.Itoa at 0 .. 255. -/
theorem itoa_any (n : Nat) (hn : n < 256) (w : World) (ht : Tab w) :
    Calls Tryd.prog 8 #[.int .i64 n] w fun e w' => e = .returned (.string ⟨(Lib.decDigits n).toArray⟩) ∧ Below w.heap.size w w' := by
  refine (Any.strconv_Itoa Tryd.laysM171 (n : Int) (by omega) (by omega) w ht).mono fun e w' ⟨he, hw⟩ => ⟨?_, below_grow hw⟩
  rw [he, Lib.itoa_nonneg]

theorem cat (a b : List UInt8) : (⟨a.toArray⟩ : ByteArray) ++ ⟨b.toArray⟩ = ⟨(a ++ b).toArray⟩ := by
  apply ByteArray.ext
  simp

theorem add_lists (a b : List UInt8) (h : a.length + b.length ≤ 1000) (w : World) : (Op.stringOp .add ⟨a.toArray⟩ ⟨b.toArray⟩).run Tryd.prog w = .ok (.string ⟨(a ++ b).toArray⟩) w := by
  rw [run_string_add_sum w _ _ (by simp [ByteArray.size]; omega), cat]

/-- The shard's name. -/
def nameL (s : Nat) : List UInt8 :=
  if s = 64 then [98, 101, 97, 99, 111, 110] else if 64 < s then [115, 104, 97, 114, 100, 40] ++ Lib.decDigits s ++ [41] else Lib.decDigits s

/-- The topic. -/
def topicL (s : Nat) : List UInt8 := [47, 118, 105, 97, 100, 117, 99, 116, 47, 49, 47, 115, 116, 97, 116, 101, 47] ++ nameL s

theorem dec_len (s : Nat) (h : s < 256) : (Lib.decDigits s).length ≤ 3 := by
  by_cases h1 : s < 10
  · rw [dec1 s h1]; simp
  · by_cases h2 : s < 100
    · rw [dec2 s (by omega) h2]; simp
    · rw [dec3 s (by omega) (by omega)]; simp

set_option maxHeartbeats 400000 in
theorem string_any (s : Nat) (hs : s < 256) (w : World) (ht : Tab w) :
    Calls Tryd.prog 6 #[.int .u8 s] w fun e w' => e = .returned (.string ⟨(nameL s).toArray⟩) ∧ Below w.heap.size w w' := by
  by_cases h64 : s = 64
  · subst h64
    go_enter Tryd.func6, Tryd.ntmps6
    go_wp2
    go_ret
    exact ⟨rfl, Below.refl _ _⟩
  have hne : ((s : Int) == 64) = false := beq_false_of_ne (by omega)
  have hl := dec_len s hs
  by_cases hgt : 64 < s
  · have e : nameL s = [115, 104, 97, 114, 100, 40] ++ Lib.decDigits s ++ [41] := by unfold nameL; rw [if_neg h64, if_pos hgt]
    have HN : Hid (nameL s = [115, 104, 97, 114, 100, 40] ++ Lib.decDigits s ++ [41]) := e
    clear e h64
    have HT : Hid (Tab w) := ht
    clear ht
    go_enter Tryd.func6, Tryd.ntmps6
    go_wp2_with fail
    refine (itoa_any s hs _ HT.out).mono ?_
    rintro e w1 ⟨rfl, hb⟩
    have HB : Hid (Below w.heap.size w w1) := hb
    clear hb
    obtain ⟨D, hD⟩ : ∃ D : ByteArray, D = ⟨(Lib.decDigits s).toArray⟩ := ⟨_, rfl⟩
    obtain ⟨E, hE⟩ : ∃ E : ByteArray, E = ⟨([115, 104, 97, 114, 100, 40] ++ Lib.decDigits s).toArray⟩ := ⟨_, rfl⟩
    obtain ⟨F, hF⟩ : ∃ F : ByteArray, F = ⟨([115, 104, 97, 114, 100, 40] ++ Lib.decDigits s ++ [41]).toArray⟩ := ⟨_, rfl⟩
    have a1 : ∀ ww : World, (Op.stringOp .add ⟨#[115, 104, 97, 114, 100, 40]⟩ D).run Tryd.prog ww = .ok (.string E) ww := fun ww => by
      rw [hD, hE]; exact add_lists [115, 104, 97, 114, 100, 40] (Lib.decDigits s) (by simp; omega) ww
    have a2 : ∀ ww : World, (Op.stringOp .add E ⟨#[41]⟩).run Tryd.prog ww = .ok (.string F) ww := fun ww => by
      rw [hE, hF]; exact add_lists ([115, 104, 97, 114, 100, 40] ++ Lib.decDigits s) [41] (by simp; omega) ww
    rw [← hD]
    have HF : Hid (F = ⟨(nameL s).toArray⟩) := by
      show _ = _
      rw [HN.out]; exact hF
    clear hD hE hF hl
    go_wp2
    go_ret
    exact ⟨by rw [← HF.out]; rfl, HB.out⟩
  · have e : nameL s = Lib.decDigits s := by unfold nameL; rw [if_neg h64, if_neg hgt]
    rw [e]
    clear e h64
    have HT : Hid (Tab w) := ht
    clear ht
    go_enter Tryd.func6, Tryd.ntmps6
    go_wp2_with fail
    refine (itoa_any s hs _ HT.out).mono ?_
    rintro e w1 ⟨rfl, hb⟩
    have HB : Hid (Below w.heap.size w w1) := hb
    clear hb
    go_wp2
    go_ret
    exact ⟨rfl, HB.out⟩

theorem name_len (s : Nat) (h : s < 256) : (nameL s).length ≤ 10 := by
  have := dec_len s h
  unfold nameL
  split
  · simp
  · split
    · simp; omega
    · omega

set_option maxHeartbeats 400000 in
theorem topic_any (s : Nat) (hs : s < 256) (w : World) (ht : Tab w) :
    Calls Tryd.prog 4 #[.int .u8 s] w fun e w' => e = .returned (.string ⟨(topicL s).toArray⟩) ∧ Below w.heap.size w w' := by
  have hl := name_len s hs
  have HT : Hid (Tab w) := ht
  clear ht
  go_enter Tryd.func4, Tryd.ntmps4
  go_wp2_with fail
  refine (string_any s hs _ HT.out).mono ?_
  rintro e w1 ⟨rfl, hb⟩
  have HB : Hid (Below w.heap.size w w1) := hb
  clear hb
  obtain ⟨D, hD⟩ : ∃ D : ByteArray, D = ⟨(nameL s).toArray⟩ := ⟨_, rfl⟩
  obtain ⟨E, hE⟩ : ∃ E : ByteArray, E = ⟨(topicL s).toArray⟩ := ⟨_, rfl⟩
  have a1 : ∀ ww : World, (Op.stringOp .add ⟨#[47, 118, 105, 97, 100, 117, 99, 116, 47, 49, 47, 115, 116, 97, 116, 101, 47]⟩ D).run Tryd.prog ww = .ok (.string E) ww := fun ww => by
    rw [hD, hE]; exact add_lists [47, 118, 105, 97, 100, 117, 99, 116, 47, 49, 47, 115, 116, 97, 116, 101, 47] (nameL s) (by simp; omega) ww
  rw [← hD]
  have HE : Hid (E = ⟨(topicL s).toArray⟩) := hE
  clear hD hE hl
  go_wp2
  go_ret
  exact ⟨by rw [← HE.out]; rfl, HB.out⟩
end Go.Proofs.Qxb6617734aDoor
