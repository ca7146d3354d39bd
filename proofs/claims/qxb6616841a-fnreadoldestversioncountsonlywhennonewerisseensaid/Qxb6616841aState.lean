/- What both laws carry from call to call. -/
import Derived.Test.Qxb6616841aCols
import Derived.Laws.CopyOwn
namespace Go.Proofs.Qxb6616841a
open Go.RowKit

/-- The boxed struct argument. -/
def Boxed (w : World) (B : Nat) (x : V) : Prop :=
  B < w.heap.size ∧ w.cell? ⟨B, 0, none⟩ = some (.string x.row) ∧ w.cell? ⟨B, 1, none⟩ = some (.bool x.del) ∧ w.cell? ⟨B, 2, none⟩ = some (.int .u64 x.trx)

theorem Boxed.keep {w w' : World} {B : Nat} {x : V} (h : Boxed w B x) (hB : Below w.heap.size w w') : Boxed w' B x := by
  obtain ⟨hb, h0, h1, h2⟩ := h
  have k : ∀ o, w'.cell? ⟨B, o, none⟩ = w.cell? ⟨B, o, none⟩ := fun o => hB.cell (p := ⟨B, o, none⟩) hb
  exact ⟨Nat.lt_of_lt_of_le hb hB.size, (k 0).trans h0, (k 1).trans h1, (k 2).trans h2⟩

/-- The versions' slice, whole in memory. -/
def VersAt (w : World) (ao : Option Addr) (m : Nat) (vs : Nat → V) : Prop := Vers w ao m vs ∧ ∀ a, ao = some a → 0 < m → a.block < w.heap.size

theorem VersAt.keep {w w' : World} {ao : Option Addr} {m : Nat} {vs : Nat → V} (h : VersAt w ao m vs) (hB : Below w.heap.size w w') : VersAt w' ao m vs :=
  ⟨h.1.keep h.2 hB, fun a e hp => Nat.lt_of_lt_of_le (h.2 a e hp) hB.size⟩

/-- The active ids' slice, whole in memory. -/
def ActAt (w : World) (ao : Option Addr) (n : Nat) (act : Nat → Int) : Prop := Ints w ao n act ∧ ∀ a, ao = some a → 0 < n → a.block < w.heap.size

theorem ActAt.keep {w w' : World} {ao : Option Addr} {n : Nat} {act : Nat → Int} (h : ActAt w ao n act) (hB : Below w.heap.size w w') : ActAt w' ao n act :=
  ⟨h.1.keep h.2 hB, fun a e hp => Nat.lt_of_lt_of_le (h.2 a e hp) hB.size⟩

/-- All that a law carries: nothing that was there has turned; the boxed argument; the older versions. -/
def St (w : World) (x : V) (ov : Option Addr) (m : Nat) (vs : Nat → V) (wi : World) : Prop := Below w.heap.size w wi ∧ Boxed wi w.heap.size x ∧ VersAt wi ov m vs

theorem St.keep {w : World} {x : V} {ov : Option Addr} {m : Nat} {vs : Nat → V} {wi wj : World} (h : St w x ov m vs wi) (hB : Below wi.heap.size wi wj) : St w x ov m vs wj :=
  ⟨h.1.trans (hB.mono h.1.size), h.2.1.keep hB, h.2.2.keep hB⟩

theorem St.start {w : World} {x : V} {ov : Option Addr} {m : Nat} {vs : Nat → V} (h : VersAt w ov m vs) : St w x ov m vs (w.alloc (.cells #[.string x.row, .bool x.del, .int .u64 x.trx] 27)) :=
  ⟨(Below.refl _ _).alloc (Nat.le_refl _) _, ⟨by simp, by simp, by simp, by simp⟩, h.keep ((Below.refl _ _).alloc (Nat.le_refl _) _)⟩

/-- The active ids as cells. -/
def actL (act : Nat → Int) (n : Nat) : List Value := (List.range n).map fun j => .int .u64 (act j)
theorem actL_length (act : Nat → Int) (n : Nat) : (actL act n).length = n := by simp [actL]
theorem actL_at (act : Nat → Int) (n j : Nat) (hj : j < n) : (actL act n)[j]? = some (.int .u64 (act j)) := by
  simp [actL, hj]

theorem splice_all (L cs : List Value) (h : cs.length = L.length) : splice L 0 cs = cs := by
  unfold splice
  simp [h]

/-- The copy that 'copy(zzc, active)' leaves. -/
theorem copied {act : Nat → Int} {n g : Nat} {w' : World} (hh : w'.heap[g]? = some (.cells (actL act n).toArray 23)) : ActAt w' (some ⟨g, 0, none⟩) n act := by
  have hg : g < w'.heap.size := by
    have := Array.getElem?_eq_some_iff.1 hh
    exact this.1
  refine ⟨.inr ⟨g, 0, rfl, fun j hj => ?_⟩, fun a e _ => by cases e; exact hg⟩
  rw [Nat.zero_add]
  simp [World.cell?, hh, actL_at act n j hj]

/-- The versions as cells. -/
def cellsL (vs : Nat → V) : Nat → List Value
  | 0 => []
  | k + 1 => cellsL vs k ++ [.string (vs k).row, .bool (vs k).del, .int .u64 (vs k).trx]
theorem cellsL_length (vs : Nat → V) (k : Nat) : (cellsL vs k).length = k * 3 := by
  induction k with
  | zero => rfl
  | succ k ih => simp [cellsL, ih]; omega
theorem cellsL_at (vs : Nat → V) (k j : Nat) (hj : j < k) : (cellsL vs k)[j * 3]? = some (.string (vs j).row) ∧ (cellsL vs k)[j * 3 + 1]? = some (.bool (vs j).del) ∧ (cellsL vs k)[j * 3 + 2]? = some (.int .u64 (vs j).trx) := by
  induction k with
  | zero => omega
  | succ k ih =>
    have hl := cellsL_length vs k
    by_cases e : j = k
    · subst e
      simp only [cellsL]
      refine ⟨?_, ?_, ?_⟩
      · rw [List.getElem?_append_right (by omega), hl]; simp
      · rw [List.getElem?_append_right (by omega), hl]; simp
      · rw [List.getElem?_append_right (by omega), hl]; simp
    · obtain ⟨a, b, c⟩ := ih (by omega)
      simp only [cellsL]
      refine ⟨?_, ?_, ?_⟩
      · rw [List.getElem?_append_left (by omega)]; exact a
      · rw [List.getElem?_append_left (by omega)]; exact b
      · rw [List.getElem?_append_left (by omega)]; exact c

/-- A row of versions that the call itself has made reads as versions. -/
theorem versAt_own {w : World} {base g k cap : Nat} {vs : Nat → V} (h : w.ownsRow base 27 3 (.slice (some ⟨g, 0, none⟩) k cap) k (cellsL vs k)) : VersAt w (some ⟨g, 0, none⟩) k vs := by
  refine ⟨.inr ⟨g, 0, rfl, fun j hj => ?_⟩, fun a e _ => by cases e; exact (h.lt g rfl).2⟩
  obtain ⟨a, b, c⟩ := cellsL_at vs k j hj
  rw [Nat.zero_add, h.cellAt _ (by omega), h.cellAt _ (by omega), h.cellAt _ (by omega)]
  exact ⟨a, b, c⟩

/-- ZZread, its answer under a name. -/
theorem zread_named (r : ByteArray × Bool) (ao : Option Addr) (n cap : Nat) (act : Nat → Int) (minA next creator : Int) (packed : ByteArray) (head : Int) (kl : Nat) (deleted : Bool) (trx : Int) (br bd bt m c1 c2 c3 : Nat) (vs : Nat → V) (w : World)
    (hn : n ≤ 65536) (hm : m ≤ 65537) (ha : ActAt w ao n act) (hwf : WF act n minA next) (hk : kl ≤ packed.size) (hc : Cols w br bd bt m vs)
    (hr : r = readP (seesB act n next creator) (⟨packed.extract kl packed.size, deleted, trx⟩ :: seg vs m 0)) :
    Calls Try.prog 9 #[.slice ao n cap, .int .u64 minA, .int .u64 next, .int .u64 creator, .string packed, .int .u64 head, .int .u32 kl, .bool deleted, .int .u64 trx,
        .slice (some ⟨br, 0, none⟩) m c1, .slice (some ⟨bd, 0, none⟩) m c2, .slice (some ⟨bt, 0, none⟩) m c3] w
      fun e w' => e = .returned (.tuple #[.string r.1, .bool r.2]) ∧ Below w.heap.size w w' := by
  rw [hr]
  exact zread_any ao n cap act minA next creator packed head kl deleted trx br bd bt m c1 c2 c3 vs w hn hm ha.1 ha.2 hwf hk hc

theorem add_key (packed row : ByteArray) (kl : Nat) (hk : kl ≤ packed.size) (hp : packed.size ≤ 1048576) (hr : row.size ≤ 1048576) (w : World) :
    (Op.stringOp .add (packed.extract 0 kl) row).run Try.prog w = .ok (.string (packed.extract 0 kl ++ row)) w :=
  run_string_add_sum w _ _ (by
    have h1 : (packed.extract 0 kl).size = kl := by simp; omega
    omega)

theorem after_key (packed row : ByteArray) (kl : Nat) (hk : kl ≤ packed.size) : kl ≤ (packed.extract 0 kl ++ row).size ∧ (packed.extract 0 kl ++ row).extract kl (packed.extract 0 kl ++ row).size = row := by
  have h1 : (packed.extract 0 kl).size = kl := by simp; omega
  refine ⟨by rw [ByteArray.size_append, h1]; omega, ?_⟩
  exact ByteArray.extract_append_eq_right h1.symm (by rw [ByteArray.size_append])
end Go.Proofs.Qxb6616841a
