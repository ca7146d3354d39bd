/- zzColumns (8): three new columns. -/
import Derived.Test.Qxb6616841aZread
namespace Go.Proofs.Qxb6616841a
open Go.RowKit

theorem Try.info9 : (Try.prog.info? 9).map (fun i => (i.zero, i.size, i.bytes)) = some (some (.string ByteArray.empty), 1, 16) := by kernel_rfl
theorem Try.info4 : (Try.prog.info? 4).map (fun i => (i.zero, i.size, i.bytes)) = some (some (.bool false), 1, 1) := by kernel_rfl
theorem Try.info23 : (Try.prog.info? 23).map (fun i => (i.zero, i.size, i.bytes)) = some (some (.int .u64 0), 1, 8) := by kernel_rfl

/-- m cells of one value. -/
def made (z : Value) (m : Nat) : Array Value := madeCells #[z] m
theorem made_at (z : Value) (m j : Nat) (hj : j < m) : (made z m)[j]? = some z := by
  have h : (made z m).toList = List.replicate m z := toList_madeCells_one z m
  rw [← Array.getElem?_toList, h, List.getElem?_replicate, if_pos hj]

theorem make31 (m : Nat) (hm : m ≤ 65537) (w : World) :
    (Instr.makeSlice 31 (.int .i64 m) (.int .i64 m)).run Try.prog w = .ok (.slice (some ⟨w.heap.size, 0, none⟩) m m) (w.alloc (.cells (made (.string ByteArray.empty) m) 9)) := by
  obtain ⟨i, hi, hz, hs, hb⟩ := info_parts Try.info9
  have h := run_make (P := Try.prog) w 31 9 i (.string ByteArray.empty) Try.underlying31 hi hz .i64 .i64 m m (by omega) (by omega) (by rw [hb]; omega) (by omega)
  rw [hs] at h
  simpa [made, Value.cells] using h
theorem make32 (m : Nat) (hm : m ≤ 65537) (w : World) :
    (Instr.makeSlice 32 (.int .i64 m) (.int .i64 m)).run Try.prog w = .ok (.slice (some ⟨w.heap.size, 0, none⟩) m m) (w.alloc (.cells (made (.bool false) m) 4)) := by
  obtain ⟨i, hi, hz, hs, hb⟩ := info_parts Try.info4
  have h := run_make (P := Try.prog) w 32 4 i (.bool false) Try.underlying32 hi hz .i64 .i64 m m (by omega) (by omega) (by rw [hb]; omega) (by omega)
  rw [hs] at h
  simpa [made, Value.cells] using h
theorem make22 (m : Nat) (hm : m ≤ 65537) (w : World) :
    (Instr.makeSlice 22 (.int .i64 m) (.int .i64 m)).run Try.prog w = .ok (.slice (some ⟨w.heap.size, 0, none⟩) m m) (w.alloc (.cells (made (.int .u64 0) m) 23)) := by
  obtain ⟨i, hi, hz, hs, hb⟩ := info_parts Try.info23
  have h := run_make (P := Try.prog) w 22 23 i (.int .u64 0) Try.underlying22 hi hz .i64 .i64 m m (by omega) (by omega) (by rw [hb]; omega) (by omega)
  rw [hs] at h
  simpa [made, Value.cells] using h

/-- The first k versions, then the zero ones. -/
def upV (vs : Nat → V) (k j : Nat) : V := if j < k then vs j else ⟨ByteArray.empty, false, 0⟩
theorem upV_lt {vs : Nat → V} {k j : Nat} (h : j < k) : upV vs k j = vs j := if_pos h
theorem upV_ge {vs : Nat → V} {k j : Nat} (h : ¬ j < k) : upV vs k j = ⟨ByteArray.empty, false, 0⟩ := if_neg h

def CInv (w : World) (m : Nat) (vs : Nat → V) (k : Nat) (wr : World) : Prop :=
  Below w.heap.size w wr ∧ w.heap.size + 3 ≤ wr.heap.size ∧ (∀ o, wr.frozen? ⟨w.heap.size, o, none⟩ = false ∧ wr.frozen? ⟨w.heap.size + 1, o, none⟩ = false ∧ wr.frozen? ⟨w.heap.size + 1 + 1, o, none⟩ = false) ∧
    Cols wr w.heap.size (w.heap.size + 1) (w.heap.size + 1 + 1) m (upV vs k)

theorem cinv_start (w : World) (m : Nat) (vs : Nat → V) :
    CInv w m vs 0 (((w.alloc (.cells (made (.string ByteArray.empty) m) 9)).alloc (.cells (made (.bool false) m) 4)).alloc (.cells (made (.int .u64 0) m) 23)) := by
  refine ⟨(((Below.refl _ _).alloc (Nat.le_refl _) _).alloc (by simp) _).alloc (by simp; omega) _, by simp, fun o => ⟨by rw [World.frozen?_alloc_past _ _ _ (by simp; omega), World.frozen?_alloc2_first], by rw [World.frozen?_alloc_past _ _ _ (by simp), World.frozen?_alloc2_new], World.frozen?_alloc_at _ _ _ _ (by simp)⟩, ⟨by simp; omega, by simp, by simp⟩, fun j hj => ?_⟩
  rw [upV_ge (by omega)]
  refine ⟨?_, ?_, ?_⟩
  · rw [World.cell?_alloc_past _ _ _ (by simp; omega), World.cell?_alloc_past _ _ _ (by simp), World.cell?_alloc_new]; exact made_at _ m j hj
  · rw [World.cell?_alloc_past _ _ _ (by simp), World.cell?_alloc2_new]; exact made_at _ m j hj
  · rw [World.cell?_alloc_at _ _ _ _ (by simp)]; exact made_at _ m j hj

theorem cinv_step {w : World} {m : Nat} {vs : Nat → V} {k : Nat} {wr : World} (h : CInv w m vs k wr) :
    CInv w m vs (k + 1) (((wr.setCell ⟨w.heap.size, k, none⟩ (.string (vs k).row)).setCell ⟨w.heap.size + 1, k, none⟩ (.bool (vs k).del)).setCell ⟨w.heap.size + 1 + 1, k, none⟩ (.int .u64 (vs k).trx)) := by
  obtain ⟨hbel, hsz, hfz, ⟨a1, a2, a3⟩, hcol⟩ := h
  have ne : ∀ {b b' o o' : Nat}, (b ≠ b' ∨ o ≠ o') → (⟨b, o, none⟩ : Addr) ≠ ⟨b', o', none⟩ := by
    intro b b' o o' h e
    simp only [Addr.mk.injEq] at e
    omega
  refine ⟨((hbel.setCell (by simp) _).setCell (by simp) _).setCell (by simp; omega) _, by simpa using hsz, fun o => ?_, ⟨by simpa using a1, by simpa using a2, by simpa using a3⟩, fun j hj => ?_⟩
  · rw [World.frozen?_setCell, World.frozen?_setCell, World.frozen?_setCell, World.frozen?_setCell, World.frozen?_setCell, World.frozen?_setCell, World.frozen?_setCell, World.frozen?_setCell, World.frozen?_setCell]
    exact hfz o
  · obtain ⟨g1, g2, g3⟩ := hcol j hj
    by_cases e : j = k
    · subst e
      rw [upV_lt (by omega)]
      refine ⟨?_, ?_, ?_⟩
      · rw [World.cell?_setCell_other _ _ _ _ (ne (.inl (by omega))), World.cell?_setCell_other _ _ _ _ (ne (.inl (by omega)))]
        exact World.cell?_setCell_same _ _ _ g1
      · rw [World.cell?_setCell_other _ _ _ _ (ne (.inl (by omega)))]
        exact World.cell?_setCell_same _ _ _ ((World.cell?_setCell_other _ _ _ _ (ne (.inl (by omega)))).trans g2)
      · exact World.cell?_setCell_same _ _ _ ((World.cell?_setCell_other _ _ _ _ (ne (.inl (by omega)))).trans ((World.cell?_setCell_other _ _ _ _ (ne (.inl (by omega)))).trans g3))
    · have eu : upV vs (k + 1) j = upV vs k j := by
        by_cases h : j < k
        · rw [upV_lt h, upV_lt (by omega)]
        · rw [upV_ge h, upV_ge (by omega)]
      have o : ∀ b, (((wr.setCell ⟨w.heap.size, k, none⟩ (.string (vs k).row)).setCell ⟨w.heap.size + 1, k, none⟩ (.bool (vs k).del)).setCell ⟨w.heap.size + 1 + 1, k, none⟩ (.int .u64 (vs k).trx)).cell? ⟨b, j, none⟩ = wr.cell? ⟨b, j, none⟩ := by
        intro b
        rw [World.cell?_setCell_other _ _ _ _ (ne (.inr (by omega))), World.cell?_setCell_other _ _ _ _ (ne (.inr (by omega))), World.cell?_setCell_other _ _ _ _ (ne (.inr (by omega)))]
      rw [eu, o, o, o]
      exact ⟨g1, g2, g3⟩

def ColsOut (w : World) (m : Nat) (vs : Nat → V) (e : Ending) (w' : World) : Prop :=
  (∃ br bd bt, e = .returned (.tuple #[.slice (some ⟨br, 0, none⟩) m m, .slice (some ⟨bd, 0, none⟩) m m, .slice (some ⟨bt, 0, none⟩) m m]) ∧ Cols w' br bd bt m vs) ∧ Below w.heap.size w w'

theorem cinv_end {w : World} {m : Nat} {vs : Nat → V} {wr : World} (h : CInv w m vs m wr) :
    ColsOut w m vs (.returned (.tuple #[.slice (some ⟨w.heap.size, 0, none⟩) m m, .slice (some ⟨w.heap.size + 1, 0, none⟩) m m, .slice (some ⟨w.heap.size + 1 + 1, 0, none⟩) m m])) wr := by
  obtain ⟨hbel, hsz, hfz, hb3, hcol⟩ := h
  refine ⟨⟨_, _, _, rfl, hb3, fun j hj => ?_⟩, hbel⟩
  have := hcol j hj
  rw [upV_lt hj] at this
  exact this

set_option maxHeartbeats 1000000 in
theorem cols_some (b off m mc : Nat) (vs : Nat → V) (w : World) (hm : m ≤ 65537) (hb : b < w.heap.size)
    (hc : ∀ j, j < m → w.cell? ⟨b, off + j * 3, none⟩ = some (.string (vs j).row) ∧ w.cell? ⟨b, off + j * 3 + 1, none⟩ = some (.bool (vs j).del) ∧ w.cell? ⟨b, off + j * 3 + 2, none⟩ = some (.int .u64 (vs j).trx)) :
    Calls Try.prog 8 #[.slice (some ⟨b, off, none⟩) m mc] w fun e w' => ColsOut w m vs e w' := by
  have HC : Hid (∀ j, j < m → w.cell? ⟨b, off + j * 3, none⟩ = some (.string (vs j).row) ∧ w.cell? ⟨b, off + j * 3 + 1, none⟩ = some (.bool (vs j).del) ∧ w.cell? ⟨b, off + j * 3 + 2, none⟩ = some (.int .u64 (vs j).trx)) := hc
  clear hc
  have h31 := fun ww => make31 m hm ww
  have h32 := fun ww => make32 m hm ww
  have h22 := fun ww => make22 m hm ww
  go_enter Try.func8, Try.ntmps8
  go_wp2
  clear h31 h32 h22
  go_loopw [8] (fun i wr => ∃ k : Nat, k ≤ m ∧ i = .int .i64 k ∧ CInv w m vs k wr) (fun i _ => m - (intOf i).toNat)
  case atStart => exact ⟨0, Nat.zero_le _, rfl, cinv_start w m vs⟩
  case round =>
    obtain ⟨k, hk, rfl, hinv⟩ := hrel
    have HV : Hid (CInv w m vs k wr) := hinv
    obtain ⟨hbel, hsz, hfz, _, hcol⟩ := hinv
    by_cases hlt : k < m
    · obtain ⟨g1, g2, g3⟩ := hcol k hlt
      obtain ⟨f1, f2, f3⟩ := hfz k
      obtain ⟨s1, s2, s3⟩ := HC.out k hlt
      rw [← hbel.cell (p := ⟨b, _, none⟩) hb] at s1 s2 s3
      have hkI : (k : Int) < (m : Int) := by omega
      clear hbel hfz hcol
      go_wp2
      go_roundw
      case rel => exact ⟨k + 1, by omega, by go_num, cinv_step HV.out⟩
      case measure => simp [intOf]; omega
    · have hkm : k = m := by omega
      subst hkm
      clear hbel hfz hcol
      go_wp2
      go_ret3
      exact cinv_end HV.out

set_option maxHeartbeats 1000000 in
theorem cols_none (ao : Option Addr) (mc : Nat) (vs : Nat → V) (w : World) :
    Calls Try.prog 8 #[.slice ao 0 mc] w fun e w' => ColsOut w 0 vs e w' := by
  have h31 : ∀ ww : World, (Instr.makeSlice 31 (.int .i64 0) (.int .i64 0)).run Try.prog ww = .ok (.slice (some ⟨ww.heap.size, 0, none⟩) 0 0) (ww.alloc (.cells (made (.string ByteArray.empty) 0) 9)) := fun ww => make31 0 (by omega) ww
  have h32 : ∀ ww : World, (Instr.makeSlice 32 (.int .i64 0) (.int .i64 0)).run Try.prog ww = .ok (.slice (some ⟨ww.heap.size, 0, none⟩) 0 0) (ww.alloc (.cells (made (.bool false) 0) 4)) := fun ww => make32 0 (by omega) ww
  have h22 : ∀ ww : World, (Instr.makeSlice 22 (.int .i64 0) (.int .i64 0)).run Try.prog ww = .ok (.slice (some ⟨ww.heap.size, 0, none⟩) 0 0) (ww.alloc (.cells (made (.int .u64 0) 0) 23)) := fun ww => make22 0 (by omega) ww
  go_enter Try.func8, Try.ntmps8
  go_wp2
  clear h31 h32 h22
  go_loopw [8] (fun i wr => i = .int .i64 0 ∧ CInv w 0 vs 0 wr) (fun i _ => 0 - (intOf i).toNat)
  case atStart => exact ⟨rfl, cinv_start w 0 vs⟩
  case round =>
    obtain ⟨rfl, hinv⟩ := hrel
    have HV : Hid (CInv w 0 vs 0 wr) := hinv
    clear hinv
    go_wp2
    go_ret3
    exact cinv_end HV.out

theorem cols_any (ao : Option Addr) (m mc : Nat) (vs : Nat → V) (w : World) (hm : m ≤ 65537) (hs : Vers w ao m vs) (hb : ∀ a, ao = some a → 0 < m → a.block < w.heap.size) :
    Calls Try.prog 8 #[.slice ao m mc] w fun e w' => ColsOut w m vs e w' := by
  by_cases h0 : m = 0
  · subst h0
    exact cols_none ao mc vs w
  · rcases hs with h | ⟨b, off, rfl, hc⟩
    · exact absurd h h0
    · exact cols_some b off m mc vs w hm (hb ⟨b, off, none⟩ rfl (by omega)) hc
end Go.Proofs.Qxb6616841a
