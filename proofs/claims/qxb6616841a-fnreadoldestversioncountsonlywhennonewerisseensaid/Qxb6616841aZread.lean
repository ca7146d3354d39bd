/- ZZread (9): it links the versions, lays the view and reads. -/
import Derived.Test.Qxb6616841aRead
namespace Go.Proofs.Qxb6616841a
open Go.RowKit

/-- The three columns of the versions. -/
def Cols (w : World) (br bd bt m : Nat) (vs : Nat → V) : Prop :=
  (br < w.heap.size ∧ bd < w.heap.size ∧ bt < w.heap.size) ∧ ∀ j, j < m → w.cell? ⟨br, j, none⟩ = some (.string (vs j).row) ∧ w.cell? ⟨bd, j, none⟩ = some (.bool (vs j).del) ∧ w.cell? ⟨bt, j, none⟩ = some (.int .u64 (vs j).trx)

theorem Cols.keep {w w' : World} {br bd bt m : Nat} {vs : Nat → V} (h : Cols w br bd bt m vs) (hB : Below w.heap.size w w') : Cols w' br bd bt m vs := by
  obtain ⟨⟨h1, h2, h3⟩, hc⟩ := h
  refine ⟨⟨Nat.lt_of_lt_of_le h1 hB.size, Nat.lt_of_lt_of_le h2 hB.size, Nat.lt_of_lt_of_le h3 hB.size⟩, fun j hj => ?_⟩
  obtain ⟨a, b, c⟩ := hc j hj
  exact ⟨(hB.cell (p := ⟨br, j, none⟩) h1).trans a, (hB.cell (p := ⟨bd, j, none⟩) h2).trans b, (hB.cell (p := ⟨bt, j, none⟩) h3).trans c⟩

theorem chain_step {wr : World} {po : Option Addr} {vs : Nat → V} {m q : Nat} (hq : q < m) (h : Chain wr (.pointer po) (seg vs (m - (q + 1)) (q + 1))) :
    Chain (wr.alloc (.cells #[.string (vs q).row, .bool (vs q).del, .int .u64 (vs q).trx, .pointer po] 41)).drew (.pointer (some ⟨wr.heap.size, 0, none⟩)) (seg vs (m - q) q) := by
  have e : seg vs (m - q) q = vs q :: seg vs (m - (q + 1)) (q + 1) := by rw [show m - q = (m - (q + 1)) + 1 by omega]; rfl
  rw [e]
  exact ⟨wr.heap.size, .pointer po, rfl, by simp, by simp, by simp, by simp, by simp, Chain.keep (((Below.refl _ _).alloc (Nat.le_refl _) _).drew) _ _ h⟩

theorem ready_mk {wr : World} {ao : Option Addr} {n cap : Nat} {act : Nat → Int} {minA next creator : Int} (hi : Ints wr ao n act) (hb : ∀ a, ao = some a → 0 < n → a.block < wr.heap.size) :
    Ready (wr.alloc (.cells #[.slice ao n cap, .int .u64 minA, .int .u64 next, .int .u64 creator] 44)) wr.heap.size ao n cap act minA next creator :=
  ⟨⟨by simp, by simp, by simp, by simp⟩, hi.keep hb ((Below.refl _ _).alloc (Nat.le_refl _) _), by simp, fun a e hp => by have := hb a e hp; simp; omega⟩

set_option maxHeartbeats 1000000 in
theorem zread_any (ao : Option Addr) (n cap : Nat) (act : Nat → Int) (minA next creator : Int) (packed : ByteArray) (head : Int) (kl : Nat) (deleted : Bool) (trx : Int) (br bd bt m c1 c2 c3 : Nat) (vs : Nat → V) (w : World)
    (hn : n ≤ 65536) (hm : m ≤ 65537) (hi : Ints w ao n act) (hb : ∀ a, ao = some a → 0 < n → a.block < w.heap.size) (hwf : WF act n minA next) (hk : kl ≤ packed.size) (hc : Cols w br bd bt m vs) :
    Calls Try.prog 9 #[.slice ao n cap, .int .u64 minA, .int .u64 next, .int .u64 creator, .string packed, .int .u64 head, .int .u32 kl, .bool deleted, .int .u64 trx,
        .slice (some ⟨br, 0, none⟩) m c1, .slice (some ⟨bd, 0, none⟩) m c2, .slice (some ⟨bt, 0, none⟩) m c3] w
      fun e w' => ReadOut (readP (seesB act n next creator) (⟨packed.extract kl packed.size, deleted, trx⟩ :: seg vs m 0)) e ∧ Below w.heap.size w w' := by
  have HI : Hid (Ints w ao n act) := hi
  have HB : Hid (∀ a, ao = some a → 0 < n → a.block < w.heap.size) := hb
  have HW : Hid (WF act n minA next) := hwf
  have HC : Hid (Cols w br bd bt m vs) := hc
  clear hi hb hwf hc
  go_enter Try.func9, Try.ntmps9
  go_wp2
  go_loopw [26, 27] (fun p i wr => ∃ (k : Nat) (x : Int) (po : Option Addr), k ≤ m ∧ x = (k : Int) - 1 ∧ i = .int .i64 x ∧ p = .pointer po ∧ Chain wr (.pointer po) (seg vs (m - k) k) ∧ Below w.heap.size w wr) (fun _ i _ => (intOf i + 1).toNat)
  case atStart => exact ⟨m, _, none, Nat.le_refl _, rfl, rfl, rfl, by rw [Nat.sub_self]; rfl, Below.refl _ _⟩
  case round =>
    obtain ⟨k, x, po, hkm, hx, rfl, rfl, hch, hbel⟩ := hrel
    have HX : Hid (x = (k : Int) - 1) := hx
    have HCH : Hid (Chain wr (.pointer po) (seg vs (m - k) k)) := hch
    have HL : Hid (Below w.heap.size w wr) := hbel
    clear hch hbel
    by_cases h0 : 0 ≤ x
    · obtain ⟨q, rfl⟩ : ∃ q : Nat, x = q := ⟨x.toNat, by omega⟩
      have hq : q < m := by omega
      clear hx
      obtain ⟨g1, g2, g3⟩ := (HC.out.keep HL.out).2 q hq
      have hqI : (q : Int) < (m : Int) := by omega
      go_wp2
      go_region
      have hk1 : k = q + 1 := by have := HX.out; omega
      have HS : Hid _ := chain_step hq (by rw [← hk1]; exact HCH.out)
      clear hk1
      all_goals
        go_wp2
        go_roundw
        case rel => exact ⟨q, _, _, by omega, rfl, by go_num, rfl, HS.out, ((HL.out).alloc (HL.out).size _).drew⟩
        case measure => simp [intOf]
    · have hk0 : k = 0 := by omega
      have HCH0 : Hid (Chain wr (.pointer po) (seg vs m 0)) := by
        show Chain _ _ _
        have := HCH.out
        rw [hk0] at this
        exact this
      have hR := ready_mk (wr := wr) (cap := cap) (minA := minA) (next := next) (creator := creator) (HI.out.keep HB.out HL.out) (fun a e hp => Nat.lt_of_lt_of_le (HB.out a e hp) HL.out.size)
      have HR : Hid _ := hR
      have HCA : Hid (Chain (wr.alloc (.cells #[.slice ao n cap, .int .u64 minA, .int .u64 next, .int .u64 creator] 44)) (.pointer po) (seg vs m 0)) := Chain.keep ((Below.refl _ _).alloc (Nat.le_refl _) _) _ _ HCH0.out
      clear hx hk0 hR
      go_wp2_with fail
      refine (read_any wr.heap.size ao n cap act minA next creator packed head kl deleted trx (.pointer po) (seg vs m 0) _ hn HR.out HW.out hk HCA.out).mono ?_
      rintro e w2 ⟨rfl, hb2⟩
      have HB2 : Hid (Below w.heap.size w w2) := ((HL.out).alloc (HL.out).size _).trans (hb2.mono (by have := HL.out.size; simp; omega))
      clear hb2
      go_wp2
      go_ret2
      exact ⟨rfl, HB2.out⟩
end Go.Proofs.Qxb6616841a
