/- The walks of the closure (11), slices.IndexFunc (10), Terms.limit (9), ZZtermsLimit (7), zzLimitIndex (6). -/
import Derived.Test.Qxb6616695aReads
import Derived.LaidEqlPtr
namespace Go.Proofs.Qxb6616695a
open Go.RowKit

set_option maxHeartbeats 400000 in
/-- The closure: the limit's ID against the captured id. -/
theorem clo_any (s id : ByteArray) (c1 c2 c3 c4 c5 c6 c7 : Value) (bi : Nat) (w : World) (hid : w.cell? ⟨bi, 0, none⟩ = some (.string id)) (hbi : bi < w.heap.size) :
    Calls Try.prog 11 #[.agg #[.string s, c1, c2, c3, c4, c5, c6, c7], .pointer (some ⟨bi, 0, none⟩)] w fun e w' => e = .returned (.bool (s.toList == id.toList)) ∧ Below w.heap.size w w' := by
  go_enter Try.func11, Try.ntmps11
  go_wp2
  go_ret
  exact ⟨rfl, (Below.refl _ _).alloc (Nat.le_refl _) _⟩

/-- The limits' row: n limits from the head of block bl on, eight cells each, the first of each the ID, the others the zero values. -/
def Row (w : World) (bl n : Nat) (ss : Nat → ByteArray) : Prop :=
  ∀ i, i < n → w.cell? ⟨bl, i * 8, none⟩ = some (.string (ss i)) ∧ w.cell? ⟨bl, i * 8 + 1, none⟩ = some (.string ByteArray.empty) ∧
    w.cell? ⟨bl, i * 8 + 2, none⟩ = some (.slice none 0 0) ∧ w.cell? ⟨bl, i * 8 + 3, none⟩ = some (.pointer none) ∧ w.cell? ⟨bl, i * 8 + 4, none⟩ = some (.string ByteArray.empty) ∧
    w.cell? ⟨bl, i * 8 + 5, none⟩ = some (.pointer none) ∧ w.cell? ⟨bl, i * 8 + 6, none⟩ = some (.pointer none) ∧ w.cell? ⟨bl, i * 8 + 7, none⟩ = some (.pointer none)

set_option maxHeartbeats 400000 in
/-- slices.IndexFunc over a row that is not empty. -/
theorem index_some (bl n cap : Nat) (id : ByteArray) (ss : Nat → ByteArray) (bi : Nat) (w : World) (hn : n ≤ 65536) (hid : w.cell? ⟨bi, 0, none⟩ = some (.string id)) (hbi : bi < w.heap.size)
    (hbl : bl < w.heap.size) (hr : Row w bl n ss) :
    Calls Try.prog 10 #[.slice (some ⟨bl, 0, none⟩) n cap, .func (.func 11) #[] #[.pointer (some ⟨bi, 0, none⟩)]] w fun e w' => FirstOf ss id n e ∧ Below w.heap.size w w' := by
  go_enter Try.func10, Try.ntmps10
  go_wp2
  go_loopw [5, 8] (fun _ i wr => ∃ k : Nat, k ≤ n ∧ i = .int .i64 k ∧ (∀ j, j < k → ((ss j).toList == id.toList) = false) ∧ Below w.heap.size w wr) (fun _ i _ => n - (intOf i).toNat)
  case atStart => exact ⟨0, Nat.zero_le _, rfl, fun j hj => absurd hj (by omega), Below.refl _ _⟩
  case round =>
    obtain ⟨k, hk, rfl, hne, hb⟩ := hrel
    have HN : Hid (∀ j, j < k → ((ss j).toList == id.toList) = false) := hne
    clear hne
    by_cases hlt : k < n
    · obtain ⟨g0, g1, g2, g3, g4, g5, g6, g7⟩ := hr k hlt
      rw [← hb.cell (p := ⟨bl, _, none⟩) hbl] at g0 g1 g2 g3 g4 g5 g6 g7
      clear hr
      have hid' := (hb.cell (p := ⟨bi, 0, none⟩) hbi).trans hid
      have hbi' : bi < wr.heap.size := Nat.lt_of_lt_of_le hbi hb.size
      go_wp2_with fail
      refine (clo_any _ _ _ _ _ _ _ _ _ _ _ hid' hbi').mono ?_
      rintro e w1 ⟨rfl, hb1⟩
      go_wp2
      · go_ret
        exact ⟨⟨_, rfl, .inr ⟨k, hlt, rfl, by assumption, HN.out⟩⟩, hb.trans (hb1.mono hb.size)⟩
      · have hf : ((ss k).toList == id.toList) = false := by assumption
        have R := hb.trans (hb1.mono hb.size)
        go_roundw
        case rel => exact ⟨k + 1, by omega, by go_num, fun j hj => by rcases Nat.lt_or_ge j k with h | h; exact HN.out j h; rw [show j = k by omega]; exact hf, R⟩
        case measure => simp [intOf]; omega
    · go_wp2
      go_ret
      exact ⟨⟨-1, rfl, .inl ⟨rfl, fun i hi => HN.out i (by omega)⟩⟩, hb⟩

set_option maxHeartbeats 400000 in
/-- slices.IndexFunc over an empty row, wherever it lies. -/
theorem index_none (la : Option Addr) (cap : Nat) (f : Value) (id : ByteArray) (ss : Nat → ByteArray) (w : World) :
    Calls Try.prog 10 #[.slice la 0 cap, f] w fun e w' => FirstOf ss id 0 e ∧ w' = w := by
  go_enter Try.func10, Try.ntmps10
  go_wp2
  go_loop [5, 8] (fun _ i => i = .int .i64 0) (fun _ i => 0 - (intOf i).toNat)
  case atStart => rfl
  case round =>
    subst hrel
    go_wp2
    go_ret
    exact ⟨⟨-1, rfl, .inl ⟨rfl, fun i hi => absurd hi (by omega)⟩⟩, rfl⟩

/-- The terms at block bt, whose list of limits (from block bl on, if there is one) bears the IDs ss. -/
def Terms (w : World) (bt : Nat) (la : Option Addr) (n : Nat) (ss : Nat → ByteArray) : Prop :=
  bt < w.heap.size ∧ w.cell? ⟨bt, 4, none⟩ = some (.slice la n n) ∧ (n = 0 ∨ ∃ bl, la = some ⟨bl, 0, none⟩ ∧ bl < w.heap.size ∧ Row w bl n ss)

/-- The value v points at the first limit that bears id: nil where there is none. -/
def PtrTo (la : Option Addr) (n : Nat) (ss : Nat → ByteArray) (id : ByteArray) (v : Value) : Prop :=
  (v = .pointer none ∧ IsFirst ss id n (-1)) ∨ ∃ k bl, k < n ∧ la = some ⟨bl, 0, none⟩ ∧ v = .pointer (some ⟨bl, k * 8, none⟩) ∧ IsFirst ss id n (k : Int)

def PtrOf (la : Option Addr) (n : Nat) (ss : Nat → ByteArray) (id : ByteArray) (e : Ending) : Prop := ∃ v, e = .returned v ∧ PtrTo la n ss id v

theorem Row.keep {w w' : World} {bl n : Nat} {ss : Nat → ByteArray} {B : Nat} (h : Row w bl n ss) (hb : Below B w w') (hB : bl < B) : Row w' bl n ss := by
  intro i hi
  obtain ⟨g0, g1, g2, g3, g4, g5, g6, g7⟩ := h i hi
  have k : ∀ o, w'.cell? ⟨bl, o, none⟩ = w.cell? ⟨bl, o, none⟩ := fun o => hb.cell (p := ⟨bl, o, none⟩) hB
  rw [k, k, k, k, k, k, k, k]
  exact ⟨g0, g1, g2, g3, g4, g5, g6, g7⟩

theorem Terms.keep {w w' : World} {bt n : Nat} {la : Option Addr} {ss : Nat → ByteArray} (h : Terms w bt la n ss) (hb : Below w.heap.size w w') : Terms w' bt la n ss := by
  obtain ⟨h1, h2, h3⟩ := h
  refine ⟨Nat.lt_of_lt_of_le h1 hb.size, (hb.cell (p := ⟨bt, 4, none⟩) h1).trans h2, ?_⟩
  rcases h3 with h3 | ⟨bl, e, hl, hr⟩
  · exact .inl h3
  · exact .inr ⟨bl, e, Nat.lt_of_lt_of_le hl hb.size, hr.keep hb hl⟩

set_option maxHeartbeats 400000 in
/-- Terms.limit. -/
theorem limit_any (bt : Nat) (la : Option Addr) (n : Nat) (id : ByteArray) (ss : Nat → ByteArray) (w : World) (hn : n ≤ 65536) (ht : Terms w bt la n ss) :
    Calls Try.prog 9 #[.pointer (some ⟨bt, 0, none⟩), .string id] w fun e w' => PtrOf la n ss id e ∧ Below w.heap.size w w' := by
  obtain ⟨hbt, hsl, hrow⟩ := ht
  rcases hrow with h0 | ⟨bl, rfl, hbl, hr⟩
  · subst h0
    go_enter Try.func9, Try.ntmps9
    go_wp2_with fail
    refine (index_none _ _ _ id ss _).mono ?_
    rintro e w1 ⟨⟨r, rfl, hf⟩, rfl⟩
    have hr : r = -1 := by
      rcases hf with h | ⟨k, hk, _⟩
      · exact h.1
      · omega
    subst hr
    go_wp2
    go_ret
    exact ⟨⟨_, rfl, .inl ⟨rfl, hf⟩⟩, (Below.refl _ _).alloc (Nat.le_refl _) _⟩
  · have hr' := hr.keep (w' := w.alloc (.cells #[.string id] 9)) ((Below.refl _ _).alloc (Nat.le_refl _) _) hbl
    go_enter Try.func9, Try.ntmps9
    go_wp2_with fail
    refine (index_some bl n n id ss w.heap.size _ hn (by simp) (by simp) (by simp; omega) hr').mono ?_
    rintro e w1 ⟨⟨r, rfl, hf⟩, hb1⟩
    have hB : Below w.heap.size w w1 := ((Below.refl _ w).alloc (Nat.le_refl _) _).trans (hb1.mono (by simp))
    have hsl1 : w1.cell? ⟨bt, 4, none⟩ = some (.slice (some ⟨bl, 0, none⟩) n n) := (hB.cell (p := ⟨bt, 4, none⟩) hbt).trans hsl
    have HB : Hid (Below w.heap.size w w1) := hB
    have HF : Hid (IsFirst ss id n r) := hf
    clear hB hb1 hr hr' hsl
    rcases hf with ⟨rfl, _⟩ | ⟨k, hk, rfl, _⟩
    · go_wp2
      go_ret
      exact ⟨⟨_, rfl, .inl ⟨rfl, HF.out⟩⟩, HB.out⟩
    · go_wp2
      go_ret
      exact ⟨⟨_, rfl, .inr ⟨k, bl, hk, rfl, rfl, HF.out⟩⟩, HB.out⟩

set_option maxHeartbeats 400000 in
/-- ZZtermsLimit. -/
theorem termsLimit_any (bt : Nat) (la : Option Addr) (n : Nat) (id : ByteArray) (ss : Nat → ByteArray) (w : World) (hn : n ≤ 65536) (ht : Terms w bt la n ss) :
    Calls Try.prog 7 #[.pointer (some ⟨bt, 0, none⟩), .string id] w fun e w' => PtrOf la n ss id e ∧ Below w.heap.size w w' := by
  go_enter Try.func7, Try.ntmps7
  go_wp2_with fail
  refine (limit_any bt la n id ss _ hn ht).mono ?_
  rintro e w1 ⟨⟨v, rfl, hv⟩, hb1⟩
  have HV : Hid (PtrTo la n ss id v) := hv
  clear hv
  go_wp2
  go_ret
  exact ⟨⟨_, rfl, HV.out⟩, hb1⟩

theorem Try.info40 : (Try.prog.info? 40).map (fun i => i.size) = some 8 := by kernel_rfl

/-- Two pointers into one block are equal where their places are. -/
theorem eql_block (bl o1 o2 : Nat) (w : World) :
    (binOp .eql 27 (.pointer (some ⟨bl, o1, none⟩)) (.pointer (some ⟨bl, o2, none⟩))).run Try.prog w = .ok (.bool (decide (o1 = o2))) w := by
  obtain ⟨j, hj, hs⟩ : ∃ j, Try.prog.info? 40 = some j ∧ j.size = 8 := by
    have h := Try.info40
    rw [Option.map_eq_some_iff] at h
    exact h
  have h : ∀ d : Nat, (Op.equalIn (d + 1) 27 (.pointer (some ⟨bl, o1, none⟩)) (.pointer (some ⟨bl, o2, none⟩))).run Try.prog w = .ok (decide (o1 = o2)) w := fun d => by
    simp [Op.equalIn, run_underlying Try.underlying27, sizeOf, typeInfo, hj, hs, sameAddr]
    rw [Bool.eq_iff_iff]; simp
  simp only [binOp]
  simp [Op.equal, Op.maxDepth, h 9999]

set_option maxHeartbeats 400000 in
/-- zzLimitIndex at what ZZtermsLimit handed back: the first place. -/
theorem limitIndex_any (bt : Nat) (la : Option Addr) (n : Nat) (id : ByteArray) (ss : Nat → ByteArray) (v : Value) (w : World) (hn : n ≤ 65536) (ht : Terms w bt la n ss) (hv : PtrTo la n ss id v) :
    Calls Try.prog 6 #[.pointer (some ⟨bt, 0, none⟩), v] w fun e w' => FirstOf ss id n e ∧ w' = w := by
  obtain ⟨hbt, hsl, _⟩ := ht
  rcases hv with ⟨rfl, hf⟩ | ⟨k, bl, hk, rfl, rfl, hf⟩
  · have HF : Hid (IsFirst ss id n (-1)) := hf
    clear hf
    go_enter Try.func6, Try.ntmps6
    go_wp2
    go_ret
    exact ⟨⟨_, rfl, HF.out⟩, rfl⟩
  · have HF : Hid (IsFirst ss id n (k : Int)) := hf
    clear hf
    go_enter Try.func6, Try.ntmps6
    go_wp2
    go_loop [5] (fun i => ∃ j : Nat, j ≤ k ∧ i = .int .i64 j) (fun i => n - (intOf i).toNat)
    case atStart => exact ⟨0, Nat.zero_le _, rfl⟩
    case round =>
      obtain ⟨j, hj, rfl⟩ := hrel
      by_cases hlt : j < k
      · have hq := fun ww => eql_block bl (k * 8) (j * 8) ww
        rw [decide_eq_false (show ¬ k * 8 = j * 8 by omega)] at hq
        go_wp2
        go_round
        case rel => exact ⟨j + 1, by omega, by go_num⟩
        case measure => simp [intOf]; omega
      · have : j = k := by omega
        subst this
        have hq := fun ww => eql_block bl (j * 8) (j * 8) ww
        rw [decide_eq_true rfl] at hq
        go_wp2
        go_ret
        exact ⟨⟨_, rfl, HF.out⟩, rfl⟩
end Go.Proofs.Qxb6616695a
