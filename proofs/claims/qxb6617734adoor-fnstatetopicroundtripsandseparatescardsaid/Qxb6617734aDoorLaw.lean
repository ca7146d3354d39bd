/- The law's walk (3). -/
import Derived.Test.Qxb6617734aDoorFacts
import Derived.FnData
namespace Go.Proofs.Qxb6617734aDoor
open Go.RowKit

theorem gPow : Tryd.prog.globalNamed powName = some 0 := by kernel_rfl

theorem Tab.keep {w w' : World} (h : Tab w) (hB : Below w.heap.size w w') : Tab w' := by
  have hc := World.var?_cell gPow h 0
  have hlt : (⟨0, 0, none⟩ : Addr).block < w.heap.size := World.block_lt_of_cell? _ _ (hc.trans rfl)
  exact var?_below hB gPow hlt h

set_option maxHeartbeats 1000000 in
theorem law_walk (s t : Nat) (hs : s < 256) (ht : t < 256) (w : World) (hT : Tab w) :
    Calls Tryd.prog 3 #[.int .u8 s, .int .u8 t] w fun e w' => e = .returned (.bool true) ∧ Below w.heap.size w w' := by
  have HT : Hid (Tab w) := hT
  clear hT
  go_enter Tryd.func3, Tryd.ntmps3
  go_wp2_with fail
  refine (topic_any s hs _ HT.out).mono ?_
  rintro e w1 ⟨rfl, hb1⟩
  have HT1 : Hid (Tab w1) := HT.out.keep hb1
  have HB1 : Hid (Below w.heap.size w w1) := hb1
  clear hb1 HT
  obtain ⟨a, ha⟩ : ∃ a : ByteArray, a = ⟨(topicL s).toArray⟩ := ⟨_, rfl⟩
  rw [← ha]
  have HA : Hid (a = ⟨(topicL s).toArray⟩) := ha
  clear ha
  go_wp2_with fail
  refine (topic_any t ht _ HT1.out).mono ?_
  rintro e w2 ⟨rfl, hb2⟩
  have HB2 : Hid (Below w.heap.size w w2) := HB1.out.trans (hb2.mono HB1.out.size)
  clear hb2 HT1 HB1
  obtain ⟨b, hb⟩ : ∃ b : ByteArray, b = ⟨(topicL t).toArray⟩ := ⟨_, rfl⟩
  rw [← hb]
  have HBt : Hid (b = ⟨(topicL t).toArray⟩) := hb
  clear hb
  go_wp2_with fail
  have hnl := name_len s hs
  have c : ∀ ww : World, Calls Tryd.prog 5 #[.string a] ww fun e w' => e = .returned (.tuple #[.int .i64 s, .bool true]) ∧ Below ww.heap.size ww w' := fun ww => by
    rw [HA.out]
    exact decode_any s hs _ ⟨(nameL s).toArray⟩ (by rw [topic_size]; omega) (by rw [topic_size]; omega) (topic_opens s) (by show (nameL s).length ≤ 1000; omega) (topic_rest s) (names_of s hs) ww
  refine (c _).mono ?_
  rintro e w3 ⟨rfl, hb3⟩
  have HB3 : Hid (Below w.heap.size w w3) := HB2.out.trans (hb3.mono HB2.out.size)
  clear hb3 HB2 c hnl
  have hq : (a.toList == b.toList) = ((s : Int) == (t : Int)) := by
    rw [HA.out, HBt.out, Lib.toList_data, Lib.toList_data, Bool.eq_iff_iff]
    simp only [beq_iff_eq]
    constructor
    · intro h; have := topic_inj hs ht h; omega
    · intro h; have : s = t := by omega
      rw [this]
  go_wp2
  go_ret
  exact ⟨rfl, HB3.out⟩
end Go.Proofs.Qxb6617734aDoor
