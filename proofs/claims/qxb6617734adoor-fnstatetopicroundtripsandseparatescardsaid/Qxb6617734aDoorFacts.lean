/- The plain facts on topics: they open with the prefix, the rest is the name; two topics are one only where the shards are. -/
import Derived.Test.Qxb6617734aDoorDecode
import Derived.Lib.IndexBytes
namespace Go.Proofs.Qxb6617734aDoor
open Go.RowKit

theorem list_inj {a b : ByteArray} (h : a.data.toList = b.data.toList) : a = b := Go.WideShapes.bytes_inj h

/-- The five shapes of a name. -/
theorem name_shapes (s : Nat) (h : s < 256) :
    (s < 10 ∧ nameL s = [dig s]) ∨ (10 ≤ s ∧ s < 64 ∧ nameL s = [dig (s / 10), dig (s % 10)]) ∨ (s = 64 ∧ nameL s = [98, 101, 97, 99, 111, 110]) ∨
    (64 < s ∧ s < 100 ∧ nameL s = [115, 104, 97, 114, 100, 40, dig (s / 10), dig (s % 10), 41]) ∨
    (100 ≤ s ∧ nameL s = [115, 104, 97, 114, 100, 40, dig (s / 100), dig (s / 10 % 10), dig (s % 10), 41]) := by
  by_cases h1 : s < 10
  · exact .inl ⟨h1, by unfold nameL; rw [if_neg (by omega), if_neg (by omega), dec1 s h1]⟩
  by_cases h2 : s < 64
  · exact .inr (.inl ⟨by omega, h2, by unfold nameL; rw [if_neg (by omega), if_neg (by omega), dec2 s (by omega) (by omega)]⟩)
  by_cases h3 : s = 64
  · exact .inr (.inr (.inl ⟨h3, by unfold nameL; rw [if_pos h3]⟩))
  by_cases h4 : s < 100
  · exact .inr (.inr (.inr (.inl ⟨by omega, h4, by unfold nameL; rw [if_neg h3, if_pos (by omega), dec2 s (by omega) h4]; rfl⟩)))
  · exact .inr (.inr (.inr (.inr ⟨by omega, by unfold nameL; rw [if_neg h3, if_pos (by omega), dec3 s (by omega) (by omega)]; rfl⟩)))

theorem dig_inj {a b : Nat} (ha : a < 10) (hb : b < 10) (h : dig a = dig b) : a = b := by
  have h1 := dig_toNat a ha
  have h2 := dig_toNat b hb
  rw [h] at h1
  omega

theorem name_inj {s t : Nat} (hs : s < 256) (ht : t < 256) (h : nameL s = nameL t) : s = t := by
  rcases name_shapes s hs with ⟨a1, e1⟩ | ⟨a1, a2, e1⟩ | ⟨a1, e1⟩ | ⟨a1, a2, e1⟩ | ⟨a1, e1⟩ <;>
    rcases name_shapes t ht with ⟨b1, e2⟩ | ⟨b1, b2, e2⟩ | ⟨b1, e2⟩ | ⟨b1, b2, e2⟩ | ⟨b1, e2⟩ <;>
    rw [e1, e2] at h <;> (first | (exfalso; have := congrArg List.length h; simp at this; done) | skip)
  · simp only [List.cons.injEq, and_true] at h
    exact dig_inj a1 b1 h
  · simp only [List.cons.injEq, and_true] at h
    have h1 := dig_inj (by omega) (by omega) h.1
    have h2 := dig_inj (by omega) (by omega) h.2
    omega
  · omega
  · simp only [List.cons.injEq, and_true, true_and] at h
    have h1 := dig_inj (by omega) (by omega) h.1
    have h2 := dig_inj (by omega) (by omega) h.2
    omega
  · simp only [List.cons.injEq, and_true, true_and] at h
    have h1 := dig_inj (by omega) (by omega) h.1
    have h2 := dig_inj (by omega) (by omega) h.2.1
    have h3 := dig_inj (by omega) (by omega) h.2.2
    omega

theorem topic_inj {s t : Nat} (hs : s < 256) (ht : t < 256) (h : topicL s = topicL t) : s = t :=
  name_inj hs ht (List.append_cancel_left h)

theorem topic_opens (s : Nat) : Opens ⟨(topicL s).toArray⟩ := by
  intro k hk h1 h2
  show (topicL s).toArray[k] = _
  show (topicL s)[k]'_ = ([47, 118, 105, 97, 100, 117, 99, 116, 47, 49, 47, 115, 116, 97, 116, 101, 47] : List UInt8)[k]'_
  exact List.getElem_append_left hk

theorem topic_size (s : Nat) : (⟨(topicL s).toArray⟩ : ByteArray).size = 17 + (nameL s).length := by
  show (topicL s).length = _
  simp [topicL]; omega

theorem topic_rest (s : Nat) : (⟨(topicL s).toArray⟩ : ByteArray).extract 17 (⟨(topicL s).toArray⟩ : ByteArray).size = ⟨(nameL s).toArray⟩ := by
  apply list_inj
  rw [Lib.extract_to_end]
  show (topicL s).drop 17 = nameL s
  rfl

theorem names_of (s : Nat) (h : s < 256) : Names s ⟨(nameL s).toArray⟩ := by
  have hd : ∀ l : List UInt8, (⟨l.toArray⟩ : ByteArray).toList = l := fun l => by rw [Lib.toList_data]
  rcases name_shapes s h with ⟨a1, e1⟩ | ⟨a1, a2, e1⟩ | ⟨a1, e1⟩ | ⟨a1, a2, e1⟩ | ⟨a1, e1⟩
  · refine .inr (.inr ⟨by omega, ?_, ?_, ?_⟩)
    · rw [hd, e1]; exact beq_false_of_ne (by intro e; have := congrArg List.length e; simp at this)
    · rw [e1]; exact Nat.le_of_ble_eq_true rfl
    · rw [e1, dec1 s a1]
  · refine .inr (.inr ⟨by omega, ?_, ?_, ?_⟩)
    · rw [hd, e1]; exact beq_false_of_ne (by intro e; have := congrArg List.length e; simp at this)
    · rw [e1]; exact Nat.le_of_ble_eq_true rfl
    · rw [e1, dec2 s a1 (by omega)]
  · exact .inl ⟨a1, by rw [hd, e1]; rfl⟩
  · refine .inr (.inl ⟨by omega, ?_, ?_, ?_, ?_, ?_⟩)
    · rw [hd, e1]; exact beq_false_of_ne (by intro e; have := congrArg List.length e; simp at this)
    · rw [e1]; exact Nat.le_of_ble_eq_true rfl
    · rw [Lib.toList_data, Lib.extract_data, e1]; rfl
    · rw [e1]; intro _; rfl
    · apply list_inj
      rw [Lib.extract_data, e1, dec2 s (by omega) a2]; rfl
  · refine .inr (.inl ⟨by omega, ?_, ?_, ?_, ?_, ?_⟩)
    · rw [hd, e1]; exact beq_false_of_ne (by intro e; have := congrArg List.length e; simp at this)
    · rw [e1]; exact Nat.le_of_ble_eq_true rfl
    · rw [Lib.toList_data, Lib.extract_data, e1]; rfl
    · rw [e1]; intro _; rfl
    · apply list_inj
      rw [Lib.extract_data, e1, dec3 s a1 (by omega)]; rfl
end Go.Proofs.Qxb6617734aDoor
