/- The law's own walk (3). -/
import Derived.Test.Qxb6616695aMake
namespace Go.Proofs.Qxb6616695a
open Go.RowKit

theorem slice_pre (ao : Option Addr) (len cap k : Nat) (hk : k ≤ cap) (w : World) :
    (Instr.slice 22 (.slice ao len cap) none (some (.int .i64 k)) none).run Try.prog w = .ok (.slice ao k cap) w := by
  rw [run_slice_h w 22 ao len cap Try.underlying22 .i64 k (by omega) (by omega)]
  simp [sliced, go_sem]

theorem slice_suf (ao : Option Addr) (len cap k : Nat) (hk : k ≤ len) (hc : len ≤ cap) :
    ∃ ao2, (∀ ww : World, (Instr.slice 22 (.slice ao len cap) (some (.int .i64 k)) none none).run Try.prog ww = .ok (.slice ao2 (len - k) (cap - k)) ww) ∧
      (∀ b off, ao = some ⟨b, off, none⟩ → k < len → ao2 = some ⟨b, off + k, none⟩) := by
  refine ⟨if cap = k then ao else ao.map (·.add k), fun ww => ?_, fun b off e h => ?_⟩
  · rw [run_slice_l ww 22 ao len cap Try.underlying22 .i64 k (by omega) (by omega)]
    simp [sliced, go_sem]
  · subst e
    rw [if_neg (by omega)]
    simp [Addr.add]

/-- The plain law: the first place in the whole is the first place before the cut, or the one behind it. -/
theorem join (ss : Nat → ByteArray) (id : ByteArray) (n c : Nat) (hc : c ≤ n) (ia ip is : Int) (ha : IsFirst ss id n ia) (hp : IsFirst ss id c ip) (hs : IsFirst (fun j => ss (c + j)) id (n - c) is) :
    (0 ≤ ip → ia = ip) ∧ (ip < 0 → 0 ≤ is → ia = c + is) ∧ (ip < 0 → is < 0 → ia = -1) := by
  rcases hp with ⟨rfl, hp⟩ | ⟨kp, hkp, rfl, ep, fp⟩
  · rcases hs with ⟨rfl, hs⟩ | ⟨ks, hks, rfl, es, fs⟩
    · rcases ha with ⟨rfl, _⟩ | ⟨ka, hka, rfl, ea, fa⟩
      · exact ⟨fun h => by omega, fun _ h => by omega, fun _ _ => rfl⟩
      · exfalso
        by_cases h : ka < c
        · rw [hp ka h] at ea; cases ea
        · have := hs (ka - c) (by omega)
          simp only [show c + (ka - c) = ka by omega] at this
          rw [this] at ea; cases ea
    · refine ⟨fun h => by omega, fun _ _ => ?_, fun _ h => by omega⟩
      rcases ha with ⟨rfl, ha⟩ | ⟨ka, hka, rfl, ea, fa⟩
      · have := ha (c + ks) (by omega)
        rw [this] at es; cases es
      · have h1 : ¬ ka < c := fun h => by rw [hp ka h] at ea; cases ea
        have h2 : ¬ ka < c + ks := fun h => by
          have := fs (ka - c) (by omega)
          simp only [show c + (ka - c) = ka by omega] at this
          rw [this] at ea; cases ea
        have h3 : ¬ c + ks < ka := fun h => by rw [fa (c + ks) h] at es; cases es
        omega
  · refine ⟨fun _ => ?_, fun h => by omega, fun h => by omega⟩
    rcases ha with ⟨rfl, ha⟩ | ⟨ka, hka, rfl, ea, fa⟩
    · rw [ha kp (by omega)] at ep; cases ep
    · have h1 : ¬ ka < kp := fun h => by rw [fp ka h] at ea; cases ea
      have h2 : ¬ kp < ka := fun h => by rw [fa kp h] at ep; cases ep
      omega

theorem first_one (ss : Nat → ByteArray) (id : ByteArray) (n : Nat) (r s : Int) (h1 : IsFirst ss id n r) (h2 : IsFirst ss id n s) : r = s := by
  rcases h1 with ⟨rfl, h1⟩ | ⟨k, hk, rfl, e1, f1⟩
  · rcases h2 with ⟨rfl, h2⟩ | ⟨j, hj, rfl, e2, f2⟩
    · rfl
    · rw [h1 j hj] at e2; cases e2
  · rcases h2 with ⟨rfl, h2⟩ | ⟨j, hj, rfl, e2, f2⟩
    · rw [h2 k hk] at e1; cases e1
    · have h3 : ¬ k < j := fun h => by rw [f2 k h] at e1; cases e1
      have h4 : ¬ j < k := fun h => by rw [f1 j h] at e2; cases e2
      omega

theorem first_ge {ss : Nat → ByteArray} {id : ByteArray} {n : Nat} {r : Int} (h : IsFirst ss id n r) : -1 ≤ r ∧ r < n ∧ (r < 0 → r = -1) := by
  rcases h with ⟨rfl, _⟩ | ⟨k, hk, rfl, _⟩ <;> omega

theorem Strs.keep {w w' : World} {ao : Option Addr} {n : Nat} {ss : Nat → ByteArray} (h : Strs w ao n ss) (hb : ∀ a, ao = some a → 0 < n → a.block < w.heap.size) (hB : Below w.heap.size w w') : Strs w' ao n ss := by
  rcases h with h | ⟨b, off, rfl, hc⟩
  · exact .inl h
  · exact .inr ⟨b, off, rfl, fun j hj => (hB.cell (p := ⟨b, off + j, none⟩) (by exact hb ⟨b, off, none⟩ rfl (by omega))).trans (hc j hj)⟩

theorem Strs.pre {w : World} {ao : Option Addr} {n c : Nat} {ss : Nat → ByteArray} (h : Strs w ao n ss) (hc : c ≤ n) : Strs w ao c ss := by
  rcases h with h | ⟨b, off, rfl, hj⟩
  · exact .inl (by omega)
  · exact .inr ⟨b, off, rfl, fun j h => hj j (by omega)⟩

theorem Strs.suf {w : World} {ao ao2 : Option Addr} {n c : Nat} {ss : Nat → ByteArray} (h : Strs w ao n ss) (hc : c ≤ n) (h2 : ∀ b off, ao = some ⟨b, off, none⟩ → c < n → ao2 = some ⟨b, off + c, none⟩) :
    Strs w ao2 (n - c) (fun j => ss (c + j)) := by
  by_cases e : c = n
  · exact .inl (by omega)
  · rcases h with h | ⟨b, off, rfl, hj⟩
    · exact .inl (by omega)
    · exact .inr ⟨b, off + c, h2 b off rfl (by omega), fun j h => by rw [Nat.add_assoc]; exact hj (c + j) (by omega)⟩

/-- What 'ids[cut:]' is. -/
def SufAt (w : World) (ao : Option Addr) (len cap c : Nat) (ss : Nat → ByteArray) : Prop :=
  ∃ ao2, (∀ ww : World, (Instr.slice 22 (.slice ao len cap) (some (.int .i64 c)) none none).run Try.prog ww = .ok (.slice ao2 (len - c) (cap - c)) ww) ∧
    Strs w ao2 (len - c) (fun j => ss (c + j)) ∧ ∀ a, ao2 = some a → 0 < len - c → a.block < w.heap.size

theorem sufAt (w : World) (ao : Option Addr) (len cap c : Nat) (ss : Nat → ByteArray) (hlc : len ≤ cap) (hs : Strs w ao len ss) (hb : ∀ a, ao = some a → 0 < len → a.block < w.heap.size) (hc : c ≤ len) : SufAt w ao len cap c ss := by
  obtain ⟨ao2, h1, h2⟩ := slice_suf ao len cap c hc hlc
  refine ⟨ao2, h1, hs.suf hc h2, fun a e hp => ?_⟩
  rcases hs with h | ⟨b, off, rfl, _⟩
  · omega
  · have := h2 b off rfl (by omega)
    rw [this] at e
    cases e
    exact hb ⟨b, off, none⟩ rfl (by omega)

set_option maxHeartbeats 1000000 in
theorem law_walk (ao : Option Addr) (len cap : Nat) (cut : Int) (id : ByteArray) (ss : Nat → ByteArray) (w : World)
    (hm : len ≤ 140737488351232) (hlc : len ≤ cap) (hs : Strs w ao len ss) (hb : ∀ a, ao = some a → 0 < len → a.block < w.heap.size) :
    Calls Try.prog 3 #[.slice ao len cap, .int .i64 cut, .string id] w fun e w' => e = .returned (.bool true) ∧ Below w.heap.size w w' := by
  have HS : Hid (Strs w ao len ss) := hs
  have HB : Hid (∀ a, ao = some a → 0 < len → a.block < w.heap.size) := hb
  clear hb
  have hcase : len ≤ 0 ∨ ∃ b off, ao = some ⟨b, off, none⟩ ∧ ∀ j, j < len → w.cell? ⟨b, off + j, none⟩ = some (.string (ss j)) := by
    rcases hs with h | h
    · exact .inl (by omega)
    · exact .inr h
  obtain ⟨c, hcc⟩ : ∃ c : Nat, 0 ≤ cut → cut = (c : Int) := ⟨cut.toNat, by omega⟩
  have HC : Hid (0 ≤ cut → cut = (c : Int)) := hcc
  have HP : Hid (c ≤ len → ∀ ww : World, (Instr.slice 22 (.slice ao len cap) none (some (.int .i64 c)) none).run Try.prog ww = .ok (.slice ao c cap) ww) := fun h ww => slice_pre ao len cap c (by omega) ww
  have HQ : Hid (c ≤ len → SufAt w ao len cap c ss) := fun h => sufAt w ao len cap c ss hlc hs HB.out h
  clear hs hcc
  rcases hcase with h0 | ⟨b, off, rfl, hc⟩
  all_goals
    go_enter Try.func3, Try.ntmps3
    go_wp2_with fail
    refine (bytes_any _ _ _ _ _ ss _ hm HS.out).mono ?_
    rintro e w1 ⟨⟨r, rfl⟩, hw⟩
    obtain rfl := hw.symm
    cases r
    · go_wp2
      go_ret
      exact ⟨rfl, Below.refl _ _⟩
    by_cases hbig : 65536 < len
    · first
        | (exfalso; omega)
        | (go_wp2
           go_ret
           exact ⟨rfl, Below.refl _ _⟩)
    by_cases hid : 1048576 < id.size
    · go_wp2
      go_ret
      exact ⟨rfl, Below.refl _ _⟩
    go_wp2
    go_loop [7, 8] (fun t i => ∃ (k : Nat) (x : Int), k ≤ len ∧ i = .int .i64 k ∧ t = .int .i64 x) (fun _ i => len - (intOf i).toNat)
    case atStart => exact ⟨0, _, Nat.zero_le _, rfl, rfl⟩
    case round =>
      obtain ⟨k, x, hk, rfl, rfl⟩ := hrel
      by_cases hlt : k < len
      · first
          | (exfalso; omega)
          | (have hcell := hc k hlt
             clear hc
             go_wp2
             · go_ret
               exact ⟨rfl, Below.refl _ _⟩
             · go_round
               case rel => exact ⟨k + 1, _, by omega, by go_num, rfl⟩
               case measure => simp [intOf]; omega)
      · try clear hc
        by_cases hcut : cut < 0
        · go_wp2
          go_ret
          exact ⟨rfl, Below.refl _ _⟩
        by_cases hcut2 : (len : Int) < cut
        · go_wp2
          go_ret
          exact ⟨rfl, Below.refl _ _⟩
        obtain rfl : cut = (c : Int) := HC.out (by omega)
        have hcl : c ≤ len := by omega
        have hpre := HP.out hcl
        obtain ⟨ao2, hsuf, hS2, hb2⟩ := HQ.out hcl
        have HS2 : Hid (Strs w ao2 (len - c) (fun j => ss (c + j))) := hS2
        have HB2 : Hid (∀ a, ao2 = some a → 0 < len - c → a.block < w.heap.size) := hb2
        clear hS2 hb2 HC HP HQ
        go_wp2_with fail
        refine (termsOf_any _ _ _ ss _ (by omega) HS.out HB.out).mono ?_
        rintro e w1 ⟨⟨bt1, la1, rfl, ht1⟩, hB1⟩
        have HT1 : Hid (Terms w1 bt1 la1 len ss) := ht1
        have HB1 : Hid (Below w.heap.size w w1) := hB1
        clear ht1 hB1
        go_wp2_with fail
        refine (termsOf_any _ _ _ ss _ (by omega) ((HS.out.keep HB.out HB1.out).pre hcl) (fun a ha hp => Nat.lt_of_lt_of_le (HB.out a ha (by omega)) HB1.out.size)).mono ?_
        rintro e w2 ⟨⟨bt2, la2, rfl, ht2⟩, hB2⟩
        have HT2 : Hid (Terms w2 bt2 la2 c ss) := ht2
        have HT12 : Hid (Terms w2 bt1 la1 len ss) := HT1.out.keep hB2
        have HB12 : Hid (Below w.heap.size w w2) := HB1.out.trans (hB2.mono HB1.out.size)
        clear ht2 hB2 HT1 HB1
        go_wp2_with fail
        refine (termsOf_any _ _ _ (fun j => ss (c + j)) _ (by omega) (HS2.out.keep HB2.out HB12.out) (fun a ha hp => Nat.lt_of_lt_of_le (HB2.out a ha (by omega)) HB12.out.size)).mono ?_
        rintro e w3 ⟨⟨bt3, la3, rfl, ht3⟩, hB3⟩
        have HT3 : Hid (Terms w3 bt3 la3 (len - c) (fun j => ss (c + j))) := ht3
        have HT13 : Hid (Terms w3 bt1 la1 len ss) := HT12.out.keep hB3
        have HT23 : Hid (Terms w3 bt2 la2 c ss) := HT2.out.keep hB3
        have HB3 : Hid (Below w.heap.size w w3) := HB12.out.trans (hB3.mono HB12.out.size)
        clear ht3 hB3 HT2 HT12 HB12 hpre hsuf
        -- the whole
        go_wp2_with fail
        refine (termsLimit_any bt1 la1 len id ss _ (by omega) HT13.out).mono ?_
        rintro e w4 ⟨⟨v1, rfl, hv1⟩, hB4⟩
        have HV1 : Hid (PtrTo la1 len ss id v1) := hv1
        have HT14 : Hid (Terms w4 bt1 la1 len ss) := HT13.out.keep hB4
        have HT24 : Hid (Terms w4 bt2 la2 c ss) := HT23.out.keep hB4
        have HT34 : Hid (Terms w4 bt3 la3 (len - c) (fun j => ss (c + j))) := HT3.out.keep hB4
        have HB4 : Hid (Below w.heap.size w w4) := HB3.out.trans (hB4.mono HB3.out.size)
        clear hv1 hB4 HT13 HT23 HT3 HB3
        go_wp2_with fail
        refine (limitIndex_any bt1 la1 len id ss v1 _ (by omega) HT14.out HV1.out).mono ?_
        rintro e w5 ⟨⟨ia, rfl, hia⟩, hw5⟩
        obtain rfl := hw5.symm
        have HIA : Hid (IsFirst ss id len ia) := hia
        clear hia HT14 HV1
        -- before the cut
        go_wp2_with fail
        refine (termsLimit_any bt2 la2 c id ss _ (by omega) HT24.out).mono ?_
        rintro e w5 ⟨⟨v2, rfl, hv2⟩, hB5⟩
        have HV2 : Hid (PtrTo la2 c ss id v2) := hv2
        have HT25 : Hid (Terms w5 bt2 la2 c ss) := HT24.out.keep hB5
        have HT35 : Hid (Terms w5 bt3 la3 (len - c) (fun j => ss (c + j))) := HT34.out.keep hB5
        have HB5 : Hid (Below w.heap.size w w5) := HB4.out.trans (hB5.mono HB4.out.size)
        clear hv2 hB5 HT24 HT34 HB4
        go_wp2_with fail
        refine (limitIndex_any bt2 la2 c id ss v2 _ (by omega) HT25.out HV2.out).mono ?_
        rintro e w6 ⟨⟨ip, rfl, hip⟩, hw6⟩
        obtain rfl := hw6.symm
        have HIP : Hid (IsFirst ss id c ip) := hip
        clear hip HT25 HV2
        -- behind the cut
        go_wp2_with fail
        refine (termsLimit_any bt3 la3 (len - c) id (fun j => ss (c + j)) _ (by omega) HT35.out).mono ?_
        rintro e w6 ⟨⟨v3, rfl, hv3⟩, hB6⟩
        have HV3 : Hid (PtrTo la3 (len - c) (fun j => ss (c + j)) id v3) := hv3
        have HT36 : Hid (Terms w6 bt3 la3 (len - c) (fun j => ss (c + j))) := HT35.out.keep hB6
        have HB6 : Hid (Below w.heap.size w w6) := HB5.out.trans (hB6.mono HB5.out.size)
        clear hv3 hB6 HT35 HB5
        go_wp2_with fail
        refine (limitIndex_any bt3 la3 (len - c) id (fun j => ss (c + j)) v3 _ (by omega) HT36.out HV3.out).mono ?_
        rintro e w7 ⟨⟨is, rfl, his⟩, hw7⟩
        obtain rfl := hw7.symm
        obtain ⟨j1, j2, j3⟩ := join ss id len c hcl ia ip is HIA.out HIP.out his
        obtain ⟨a1, a2, a3⟩ := first_ge HIA.out
        obtain ⟨p1, p2, p3⟩ := first_ge HIP.out
        obtain ⟨s1, s2, s3⟩ := first_ge his
        have HSl : Hid (Strs w6 _ len ss) := HS.out.keep HB.out HB6.out
        clear his HT36 HV3
        have q1 : (ia == (-2 : Int)) = false := beq_false_of_ne (by omega)
        have q2 : (ip == (-2 : Int)) = false := beq_false_of_ne (by omega)
        have q3 : (is == (-2 : Int)) = false := beq_false_of_ne (by omega)
        have hj : (0 ≤ ip ∧ ia = ip) ∨ (ip < 0 ∧ 0 ≤ is ∧ ia = c + is) ∨ (ip < 0 ∧ is < 0 ∧ ia = -1) := by
          by_cases h1 : 0 ≤ ip
          · exact .inl ⟨h1, j1 h1⟩
          · by_cases h2 : 0 ≤ is
            · exact .inr (.inl ⟨by omega, h2, j2 (by omega) h2⟩)
            · exact .inr (.inr ⟨by omega, by omega, j3 (by omega) (by omega)⟩)
        clear j1 j2 j3 a3 p3 s3
        rcases hj with ⟨hp0, hj⟩ | ⟨hp0, hs0, hj⟩ | ⟨hp0, hs0, hj⟩
        all_goals
          have q4 := beq_iff_eq.2 hj
          have HJ : Hid (ia = _) := hj
          clear hj
          first
            | (exfalso; omega)
            | (go_wp2_with fail
               refine (first_any _ _ _ id ss _ hm HSl.out).mono ?_
               rintro e w7 ⟨⟨r, rfl, hr⟩, hw7⟩
               obtain rfl := hw7.symm
               obtain rfl := first_one ss id len _ _ HIA.out hr
               clear hr
               go_wp2
               go_ret
               exact ⟨rfl, HB6.out⟩)
end Go.Proofs.Qxb6616695a
