/- The arguments of both laws, opened; and read again behind the call. -/
import Derived.Test.Qxb6616841aState
import Derived.ProofKit
import Derived.SizedLaws
import Derived.OpenShut
import Derived.Lib.SmallJoins
import Derived.Deep.Strs
import Derived.Deep.Slices
namespace Go.Proofs.Qxb6616841a
open Go.ChangeShapes Go.WideShapes Go.ChangeAt Go.RowKit

theorem Try.own : ownKnob Try.prog.godebug = none := by kernel_rfl
theorem Try.laidOut : laidOutB Try.prog = true := by kernel_rfl
theorem Try.cells9 : Try.prog.cellsOf 9 = 1 := by kernel_rfl
theorem Try.cells4 : Try.prog.cellsOf 4 = 1 := by kernel_rfl
theorem Try.cells23 : Try.prog.cellsOf 23 = 1 := by kernel_rfl
theorem Try.cells27 : Try.prog.cellsOf 27 = 3 := by kernel_rfl
theorem Try.bytes23 : Try.prog.bytesOf 23 = 8 := by kernel_rfl
theorem Try.bytes27 : Try.prog.bytesOf 27 = 32 := by kernel_rfl

/-- Below the heap's old size nothing has turned: so all arguments read as they did, through the same places. -/
theorem trodAll_below {H : Type} {enc : TypeId × Value → H} {P : Program} (hl : laidOutB P = true) {W W' : World} (hb : Below W.heap.size W W') :
    ∀ (ts : List TypeId) (vs : List Value) (ds : List (DataW H)) (ps : List MemPlace), (∀ t ∈ ts, P.readableRec t = true ∧ t < P.types.size) →
      (∀ x ∈ ps, x.block < W.heap.size) → DataW.TrodAll enc P W 0 (fun _ => true) true ts vs ds ps → DataW.TrodAll enc P W' 0 (fun b => decide (b < W.heap.size)) true ts vs ds ps := by
  intro ts
  induction ts with
  | nil =>
    intro vs ds ps _ _ h
    obtain ⟨rfl, rfl, rfl⟩ := trodAll_nil h
    exact trodAll_mk0
  | cons t ts ih =>
    intro vs ds ps ht hlt h
    obtain ⟨v, vs', d, ds', p, q, rfl, rfl, rfl, h0, h1⟩ := trodAll_cons h
    exact trodAll_cons_mk (Below.trod hl (ht t (by simp)).1 (ht t (by simp)).2 h0 hb (fun x hx => hlt x (by simp [hx])))
      (ih vs' ds' q (fun t' h' => ht t' (by simp [h'])) (fun x hx => hlt x (by simp [hx])) h1)

theorem readable : ∀ t ∈ [22, 23, 23, 23, 9, 23, 24, 4, 23, 25, 27], Try.prog.readableRec t = true ∧ t < Try.prog.types.size := by
  have h : ([22, 23, 9, 24, 4, 25, 27].all fun t => Try.prog.readableRec t && decide (t < Try.prog.types.size)) = true := by kernel_rfl
  rw [List.all_eq_true] at h
  intro t ht
  have := h t (by simp only [List.mem_cons, List.not_mem_nil, or_false] at ht; rcases ht with rfl | rfl | rfl | rfl | rfl | rfl | rfl | rfl | rfl | rfl | rfl <;> simp)
  simpa using this

/-- One version out of its three cells. -/
theorem vers_cell {H : Type} {enc : TypeId × Value → H} {W : World} {base : Nat} {a : Addr} {n : Nat} {cs : List Value} {y : DataW H × List MemPlace} (hc : W.cells? base a 3 = some cs)
    (ht : DataW.trod enc Try.prog W base (fun _ => true) true n 27 cs = some y) :
    ∃ v : V, W.cell? (a.add 0) = some (.string v.row) ∧ W.cell? (a.add 1) = some (.bool v.del) ∧ W.cell? (a.add 2) = some (.int .u64 v.trx) := by
  obtain ⟨_, hlen, hat⟩ := World.cells?_some hc
  obtain ⟨c0, c1, c2, rfl⟩ : ∃ c0 c1 c2, cs = [c0, c1, c2] := by
    match cs, hlen with
    | [c0, c1, c2], _ => exact ⟨c0, c1, c2, rfl⟩
  obtain ⟨y0, y1, y2, k, _, _, h0, h1, h2⟩ := Go.Deep.trod_struct3 Try.underlying27 ht
  obtain ⟨s, e0, _, _⟩ := DataW.trod_string Try.underlying9 h0
  obtain ⟨b, e1, _⟩ := DataW.trod_bool Try.underlying4 h1
  obtain ⟨t, e2, _, _⟩ := DataW.trod_int Try.underlying23 h2
  rw [Try.cells9] at e0
  rw [Try.cells4] at e1
  rw [Try.cells23] at e2
  simp at e0 e1 e2
  subst e0 e1 e2
  refine ⟨⟨s, b, t⟩, ?_, ?_, ?_⟩
  · have := hat 0 (by omega); simpa using this
  · have := hat 1 (by omega); simpa using this
  · have := hat 2 (by omega); simpa using this

theorem open_vers {H : Type} {enc : TypeId × Value → H} {W : World} {a0 : Option Addr} {len cap fuel : Nat} {d : DataW H} {p : List MemPlace}
    (hlt : ∀ x ∈ p, x.block < W.heap.size) (h : DataW.trod enc Try.prog W 0 (fun _ => true) true fuel 25 [.slice a0 len cap] = some (d, p)) :
    (∃ vs, VersAt W a0 len vs) ∧ (d = .nil ∧ len = 0 ∨ ∃ el sp, d = .slice el sp ∧ el.length = len) := by
  rcases Go.Deep.open_slice Try.underlying25 h with ⟨hcs, hx⟩ | ⟨a, len', cap', m, n, D, Pl, hcs, _, hl, hm, hz, hx, hel⟩
  · simp at hcs
    obtain ⟨rfl, rfl, rfl⟩ := hcs
    simp only [Prod.mk.injEq] at hx
    exact ⟨⟨fun _ => ⟨ByteArray.empty, false, 0⟩, .inl rfl, fun a e => by cases e⟩, .inl ⟨hx.1, rfl⟩⟩
  · simp at hcs
    obtain ⟨rfl, rfl, rfl⟩ := hcs
    simp only [Prod.mk.injEq] at hx
    obtain ⟨rfl, rfl⟩ := hx
    simp only [if_true] at hz
    subst hz
    refine ⟨?_, .inr ⟨_, _, rfl, by simp⟩⟩
    by_cases hl0 : len = 0
    · subst hl0
      exact ⟨fun _ => ⟨ByteArray.empty, false, 0⟩, .inl rfl, fun a _ h => absurd h (by omega)⟩
    · have hv : ∀ i, i < len → ∃ v : V, W.cell? ((a.add (i * 3)).add 0) = some (.string v.row) ∧ W.cell? ((a.add (i * 3)).add 1) = some (.bool v.del) ∧ W.cell? ((a.add (i * 3)).add 2) = some (.int .u64 v.trx) := by
        intro i hi
        obtain ⟨cs', h1, h2⟩ := hel i (by omega)
        rw [Try.cells27] at h1
        exact vers_cell h1 h2
      have hf : ∃ vs : Nat → V, ∀ i, i < len → W.cell? ((a.add (i * 3)).add 0) = some (.string (vs i).row) ∧ W.cell? ((a.add (i * 3)).add 1) = some (.bool (vs i).del) ∧ W.cell? ((a.add (i * 3)).add 2) = some (.int .u64 (vs i).trx) := by
        refine ⟨fun i => if h : i < len then Classical.choose (hv i h) else ⟨ByteArray.empty, false, 0⟩, fun i hi => ?_⟩
        simp only [hi, dite_true]
        exact Classical.choose_spec (hv i hi)
      obtain ⟨vs, hvs⟩ := hf
      obtain ⟨b, off, spot⟩ := a
      have hspot : spot = none := by simpa [Addr.add] using World.cell?_spot (hvs 0 (by omega)).1
      subst hspot
      have hb : b < W.heap.size := hlt (.cell b off) (List.mem_append_left _ (MemPlace.mem_row.2 ⟨0, by rw [Try.cells27]; omega, by simp⟩))
      refine ⟨vs, .inr ⟨b, off, rfl, fun j hj => ?_⟩, fun a e _ => by cases e; exact hb⟩
      obtain ⟨g0, g1, g2⟩ := hvs j hj
      rw [add_plain, add_plain] at g0 g1 g2
      exact ⟨g0, g1, g2⟩

theorem open_act {H : Type} {enc : TypeId × Value → H} {W : World} {a0 : Option Addr} {len cap fuel : Nat} {d : DataW H} {p : List MemPlace}
    (hlt : ∀ x ∈ p, x.block < W.heap.size) (h : DataW.trod enc Try.prog W 0 (fun _ => true) true fuel 22 [.slice a0 len cap] = some (d, p)) :
    (∃ act, ActAt W a0 len act) ∧ (d = .nil ∧ len = 0 ∨ ∃ el sp, d = .slice el sp ∧ el.length = len) := by
  rcases open_ints Try.underlying22 Try.underlying23 Try.cells23 h with ⟨hcs, hx⟩ | ⟨a, len', cap', zs, hcs, _, hl, hm, hz, hx, hcell, _⟩
  · simp at hcs
    obtain ⟨rfl, rfl, rfl⟩ := hcs
    simp only [Prod.mk.injEq] at hx
    exact ⟨⟨fun _ => 0, .inl rfl, fun a e => by cases e⟩, .inl ⟨hx.1, rfl⟩⟩
  · simp at hcs
    obtain ⟨rfl, rfl, rfl⟩ := hcs
    simp only [Prod.mk.injEq] at hx
    obtain ⟨rfl, rfl⟩ := hx
    simp only [if_true] at hz
    refine ⟨?_, .inr ⟨_, _, rfl, by simp [lits]; omega⟩⟩
    by_cases hl0 : len = 0
    · subst hl0
      exact ⟨fun _ => 0, .inl rfl, fun a _ h => absurd h (by omega)⟩
    · obtain ⟨b, off, spot⟩ := a
      have hspot : spot = none := by simpa [Addr.add] using World.cell?_spot (hcell 0 (by omega))
      subst hspot
      have hb : b < W.heap.size := hlt (.cell b off) (MemPlace.mem_row.2 ⟨0, by omega, by simp⟩)
      exact ⟨fun j => zs.getD j 0, .inr ⟨b, off, rfl, fun j hj => by rw [← add_plain]; exact hcell j (by omega)⟩, fun a e _ => by cases e; exact hb⟩

/-- The eleven arguments, opened. -/
theorem opened {H : Type} {enc : TypeId × Value → H} {W : World} {base : Nat} {args : Array Value} {ds : List (DataW H)} {p : List MemPlace} {ts : List TypeId}
    (hts : ts = [22, 23, 23, 23, 9, 23, 24, 4, 23, 25, 27])
    (hval : ∀ (j : Nat) t v, (#[22, 23, 23, 23, 9, 23, 24, 4, 23, 25, 27] : Array TypeId)[j]? = some t → args[j]? = some v → Value.okWide Try.prog W .any base t v)
    (hA : DataW.TrodAll enc Try.prog W 0 (fun _ => true) true [22, 23, 23, 23, 9, 23, 24, 4, 23, 25, 27] args.toList ds p) (hlt : ∀ x ∈ p, x.block < W.heap.size)
    (hsz : (DataW.weightsEach Try.prog ts ds).all (· ≤ reachBytes) = true) :
    ∃ (aa : Option Addr) (n nc : Nat) (act : Nat → Int) (minA next creator : Int) (packed : ByteArray) (head : Int) (kl : Nat) (deleted : Bool) (trx : Int) (ov : Option Addr) (m mc : Nat) (vs : Nat → V) (x : V),
      args = #[.slice aa n nc, .int .u64 minA, .int .u64 next, .int .u64 creator, .string packed, .int .u64 head, .int .u32 kl, .bool deleted, .int .u64 trx, .slice ov m mc, .agg #[.string x.row, .bool x.del, .int .u64 x.trx]] ∧
      n ≤ 140737488351232 ∧ m ≤ 140737488351232 ∧ packed.size ≤ 140737488351232 ∧ kl < 4294967296 ∧ ActAt W aa n act ∧ VersAt W ov m vs := by
  subst hts
  obtain ⟨v0, vs0, d0, ds0, p0, q0, hargs, rfl, rfl, h0, r0⟩ := trodAll_cons hA
  obtain ⟨v1, vs1, d1, ds1, p1, q1, rfl, rfl, rfl, h1, r1⟩ := trodAll_cons r0
  obtain ⟨v2, vs2, d2, ds2, p2, q2, rfl, rfl, rfl, h2, r2⟩ := trodAll_cons r1
  obtain ⟨v3, vs3, d3, ds3, p3, q3, rfl, rfl, rfl, h3, r3⟩ := trodAll_cons r2
  obtain ⟨v4, vs4, d4, ds4, p4, q4, rfl, rfl, rfl, h4, r4⟩ := trodAll_cons r3
  obtain ⟨v5, vs5, d5, ds5, p5, q5, rfl, rfl, rfl, h5, r5⟩ := trodAll_cons r4
  obtain ⟨v6, vs6, d6, ds6, p6, q6, rfl, rfl, rfl, h6, r6⟩ := trodAll_cons r5
  obtain ⟨v7, vs7, d7, ds7, p7, q7, rfl, rfl, rfl, h7, r7⟩ := trodAll_cons r6
  obtain ⟨v8, vs8, d8, ds8, p8, q8, rfl, rfl, rfl, h8, r8⟩ := trodAll_cons r7
  obtain ⟨v9, vs9, d9, ds9, p9, q9, rfl, rfl, rfl, h9, r9⟩ := trodAll_cons r8
  obtain ⟨v10, vs10, d10, ds10, p10, q10, rfl, rfl, rfl, h10, r10⟩ := trodAll_cons r9
  obtain ⟨rfl, rfl, rfl⟩ := trodAll_nil r10
  obtain rfl : args = #[v0, v1, v2, v3, v4, v5, v6, v7, v8, v9, v10] := by cases args; simp_all
  clear hA r0 r1 r2 r3 r4 r5 r6 r7 r8 r9 r10 hargs
  obtain ⟨minA, rfl, rfl, rfl, _⟩ := open_int Try.underlying23 (hval 1 23 v1 rfl rfl) h1
  obtain ⟨next, rfl, rfl, rfl, _⟩ := open_int Try.underlying23 (hval 2 23 v2 rfl rfl) h2
  obtain ⟨creator, rfl, rfl, rfl, _⟩ := open_int Try.underlying23 (hval 3 23 v3 rfl rfl) h3
  obtain ⟨packed, rfl, rfl, rfl, _⟩ := Go.ChangeMaps.open_string Try.underlying9 (hval 4 9 v4 rfl rfl) h4
  obtain ⟨head, rfl, rfl, rfl, _⟩ := open_int Try.underlying23 (hval 5 23 v5 rfl rfl) h5
  obtain ⟨kI, rfl, rfl, rfl, wk⟩ := open_int Try.underlying24 (hval 6 24 v6 rfl rfl) h6
  obtain ⟨deleted, rfl, rfl, rfl⟩ := open_bool Try.underlying4 (hval 7 4 v7 rfl rfl) h7
  obtain ⟨trx, rfl, rfl, rfl, _⟩ := open_int Try.underlying23 (hval 8 23 v8 rfl rfl) h8
  obtain ⟨a0, n, nc, rfl⟩ := okWide_slice Try.underlying22 (hval 0 22 v0 rfl rfl)
  obtain ⟨a9, m, mc, rfl⟩ := okWide_slice Try.underlying25 (hval 9 25 v9 rfl rfl)
  obtain ⟨c0, c1, c2, y0, y1, y2, k, rfl, rfl, rfl, t0, t1, t2⟩ := Go.Joins.open_agg3 Try.underlying27 (by kernel_rfl) Try.cells27 (hval 10 27 v10 rfl rfl) h10
  obtain ⟨s, e0, rfl, _⟩ := DataW.trod_string Try.underlying9 t0
  obtain ⟨b, e1, rfl⟩ := DataW.trod_bool Try.underlying4 t1
  obtain ⟨t, e2, rfl, _⟩ := DataW.trod_int Try.underlying23 t2
  simp at e0 e1 e2
  subst e0 e1 e2
  obtain ⟨f0, hf0⟩ := h0
  obtain ⟨f9, hf9⟩ := h9
  obtain ⟨⟨act, hact⟩, hd0⟩ := open_act (fun x hx => hlt x (by simp [hx])) hf0
  obtain ⟨⟨vs, hvs⟩, hd9⟩ := open_vers (fun x hx => hlt x (by simp [hx])) hf9
  have hn : n ≤ 140737488351232 := by
    rcases hd0 with ⟨_, h⟩ | ⟨el, sp, rfl, hl⟩
    · omega
    · have := sized_slice hsz (j := 0) (t := 22) (e := 23) rfl rfl Try.underlying22
      rw [Try.bytes23] at this
      simp only [reachBytes] at this
      omega
  have hm : m ≤ 140737488351232 := by
    rcases hd9 with ⟨_, h⟩ | ⟨el, sp, rfl, hl⟩
    · omega
    · have := sized_slice hsz (j := 9) (t := 25) (e := 27) rfl rfl Try.underlying25
      rw [Try.bytes27] at this
      simp only [reachBytes] at this
      omega
  have hp : packed.size ≤ 140737488351232 := by
    have := sized_string hsz (j := 4) (t := 9) rfl rfl
    simp only [reachBytes] at this
    simpa using this
  have hk := bounds_u32 wk
  obtain ⟨kl, rfl⟩ : ∃ kl : Nat, kI = kl := ⟨kI.toNat, by omega⟩
  exact ⟨a0, n, nc, act, minA, next, creator, packed, head, kl, deleted, trx, a9, m, mc, vs, ⟨s, b, t⟩, rfl, hn, hm, hp, by omega, hact, hvs⟩
end Go.Proofs.Qxb6616841a
