/- The walk of FnReadOldestVersionCountsOnlyWhenNoNewerIsSeen (4). -/
import Derived.Test.Qxb6616841aLawA
namespace Go.Proofs.Qxb6616841a
open Go.RowKit

theorem snoc_cells {m k : Nat} {x : V} {vs : Nat → V} (h : k < m) : cellsL (snoc m x vs) k ++ [.string (vs k).row, .bool (vs k).del, .int .u64 (vs k).trx] = cellsL (snoc m x vs) (k + 1) := by
  simp only [cellsL, snoc, if_pos h]
theorem snoc_last {m : Nat} {x : V} {vs : Nat → V} : cellsL (snoc m x vs) m ++ [.string x.row, .bool x.del, .int .u64 x.trx] = cellsL (snoc m x vs) (m + 1) := by
  simp only [cellsL, snoc, if_neg (Nat.lt_irrefl m)]

/-- Is one of the first j seen? -/
def anyV (S : Int → Bool) (vs : Nat → V) : Nat → Bool
  | 0 => false
  | j + 1 => anyV S vs j || S (vs j).trx
theorem anyV_mono {S : Int → Bool} {vs : Nat → V} {j m : Nat} (h : anyV S vs j = true) (hjm : j ≤ m) : anyV S vs m = true := by
  induction m with
  | zero => have : j = 0 := by omega
            subst this; exact h
  | succ m ih =>
    by_cases e : j = m + 1
    · subst e; exact h
    · simp [anyV, ih (by omega)]
theorem anyS_append (S : Int → Bool) (l : List V) (v : V) : anyS S (l ++ [v]) = (anyS S l || S v.trx) := by
  induction l with
  | nil => simp [anyS]
  | cons u l ih => simp [anyS, ih, Bool.or_assoc]
theorem seg_last (vs : Nat → V) (d : Nat) : ∀ k, seg vs (d + 1) k = seg vs d k ++ [vs (k + d)] := by
  induction d with
  | zero => intro k; simp [seg]
  | succ d ih =>
    intro k
    rw [seg, ih (k + 1), seg]
    simp only [List.cons_append]
    rw [show k + 1 + d = k + (d + 1) by omega]
theorem anyS_seg (S : Int → Bool) (vs : Nat → V) (m : Nat) : anyS S (seg vs m 0) = anyV S vs m := by
  induction m with
  | zero => rfl
  | succ m ih => rw [seg_last, anyS_append, ih, Nat.zero_add]; rfl

/-- What the law wants of the two reads. -/
theorem after_oldest (S : Int → Bool) (y x : V) (vs : Nat → V) (m : Nat) (r1 r2 : ByteArray × Bool) (h1 : r1 = readP S (y :: seg vs m 0)) (h2 : r2 = readP S (y :: seg (snoc m x vs) (m + 1) 0)) :
    ((S y.trx || anyV S vs m) = true → r2 = r1) ∧ ((S y.trx || anyV S vs m) = false → r1 = (ByteArray.empty, false) ∧ (S x.trx = true → r2 = (x.row, !x.del)) ∧ (S x.trx = false → r2 = (ByteArray.empty, false))) := by
  have e : anyS S (y :: seg vs m 0) = (S y.trx || anyV S vs m) := by simp [anyS, anyS_seg]
  have h3 : r2 = readP S ((y :: seg vs m 0) ++ [x]) := by rw [h2, seg_snoc]; rfl
  rw [readP_snoc, e] at h3
  refine ⟨fun h => ?_, fun h => ⟨?_, fun hx => ?_, fun hx => ?_⟩⟩
  · rw [h3, if_pos h, h1]
  · rw [h1]; exact readP_none S _ (by rw [e]; exact h)
  · rw [h3, h]; simp [readP, hx]
  · rw [h3, h]; simp [readP, hx]

set_option maxRecDepth 100000 in
set_option maxHeartbeats 4000000 in
theorem lawB_walk (aa : Option Addr) (n nc : Nat) (act : Nat → Int) (minA next creator : Int) (packed : ByteArray) (head : Int) (kl : Nat) (deleted : Bool) (trx : Int) (ov : Option Addr) (m mc : Nat) (vs : Nat → V) (x : V) (w : World)
    (hn : n ≤ 140737488351232) (hm : m ≤ 140737488351232) (hp : packed.size ≤ 140737488351232) (hkl : kl < 4294967296) (ha : ActAt w aa n act) (hv : VersAt w ov m vs) :
    Calls Try.prog 4 #[.slice aa n nc, .int .u64 minA, .int .u64 next, .int .u64 creator, .string packed, .int .u64 head, .int .u32 kl, .bool deleted, .int .u64 trx, .slice ov m mc, .agg #[.string x.row, .bool x.del, .int .u64 x.trx]] w
      fun e w' => e = .returned (.bool true) ∧ Below w.heap.size w w' := by
  have HS0 : Hid (St w x ov m vs (w.alloc (.cells #[.string x.row, .bool x.del, .int .u64 x.trx] 27))) := St.start hv
  have HA0 : Hid (ActAt (w.alloc (.cells #[.string x.row, .bool x.del, .int .u64 x.trx] 27)) aa n act) := ha.keep ((Below.refl _ _).alloc (Nat.le_refl _) _)
  clear ha hv
  go_enter Try.func4, Try.ntmps4
  go_wp2_with fail
  refine (bytes11_any aa ov n nc m mc minA next creator head trx kl packed x.row deleted x.del x.trx vs _ hn hm hp HS0.out.2.2.1 HS0.out.2.2.2).mono ?_
  rintro e w1 ⟨⟨r, rfl⟩, hb1⟩
  have HS1 : Hid (St w x ov m vs w1) := HS0.out.keep hb1
  have HA1 : Hid (ActAt w1 aa n act) := HA0.out.keep hb1
  clear hb1 HS0 HA0
  cases r
  · go_wp2
    go_ret
    exact ⟨rfl, HS1.out.1⟩
  obtain ⟨hx, x0, x1, x2⟩ := HS1.out.2.1
  go_wp2_with fail
  refine (sizes_any aa ov n nc m mc packed x.row x.del x.trx vs _ HS1.out.2.2.1 HS1.out.2.2.2).mono ?_
  rintro e w2 ⟨⟨r, rfl, hfit⟩, hb2⟩
  have HS2 : Hid (St w x ov m vs w2) := HS1.out.keep hb2
  have HA2 : Hid (ActAt w2 aa n act) := HA1.out.keep hb2
  clear hb2 HS1 HA1 hx x0 x1 x2
  cases r
  · clear hfit
    go_wp2
    go_ret
    exact ⟨rfl, HS2.out.1⟩
  obtain ⟨hn', hm', hp', hr'⟩ := hfit rfl
  clear hfit hn hm hp
  by_cases hk : packed.size < kl
  · go_wp2
    go_ret
    exact ⟨rfl, HS2.out.1⟩
  go_wp2_with fail
  refine (wf_any aa n nc act minA next _ hn' HA2.out.1 HA2.out.2).mono ?_
  rintro e w3 ⟨⟨r, rfl, hwf⟩, hb3⟩
  have HS3 : Hid (St w x ov m vs w3) := HS2.out.keep hb3
  have HA3 : Hid (ActAt w3 aa n act) := HA2.out.keep hb3
  clear hb3 HS2 HA2
  cases r
  · clear hwf
    go_wp2
    go_ret
    exact ⟨rfl, HS3.out.1⟩
  have HW : Hid (WF act n minA next) := hwf rfl
  clear hwf
  rcases aa with _ | a
  all_goals
    first
      | (have HA3' : Hid (ActAt w3 none n act) := HA3
         clear HA3'
         have hnil := fun ww => run_neq_slice_nil_any (P := Try.prog) ww 22 23 none n nc 0 0 Try.underlying22
         go_wp2_with fail
         clear hnil
         obtain ⟨w4, hw4⟩ : ∃ w4, w4 = w3 := ⟨_, rfl⟩
         subst hw4
         have HS4 : Hid (St w x ov m vs w4) := HS3.out
         have HA4 : Hid (ActAt w4 none n act) := HA3.out
         clear HS3 HA3)
      | (have hnil := fun ww => run_neq_slice_nil_any (P := Try.prog) ww 22 23 (some a) n nc 0 0 Try.underlying22
         have hmk := fun ww => make22 n (by omega) ww
         go_wp2_with (refine wpList_copy_splice rfl (.tmp 73) (.tmp 74) 22 22 rfl 23 Try.underlying22 Try.size23 _ _ _ _ _ _ rfl rfl w3.heap.size 0 (made (.int .u64 0) n).toList 23 (heap_new w3 n) (actL act n) (min_self act n) (copy_src HA3.out (.cells (made (.int .u64 0) n) 23)) (fits_self act n) (act_oneCell act n) w3.heap.size w3 ((Below.refl _ _).alloc (Nat.le_refl _) _) (Nat.le_refl _) ?_; intro w4 h4 hb4; have HA4 : Hid (ActAt w4 (some ⟨w3.heap.size, 0, none⟩) n act) := copied' h4; have HS4 : Hid (St w x ov m vs w4) := HS3.out.keep hb4; clear h4 hb4)
         clear hnil hmk HS3 HA3)
    refine (cols_any ov m mc vs _ (by omega) HS4.out.2.2.1 HS4.out.2.2.2).mono ?_
    rintro e w5 ⟨⟨br, bd, bt, rfl, hcols⟩, hb5⟩
    have HC5 : Hid (Cols w5 br bd bt m vs) := hcols
    have HS5 : Hid (St w x ov m vs w5) := HS4.out.keep hb5
    have HA5 : Hid (ActAt w5 _ n act) := HA4.out.keep hb5
    clear hcols hb5 HS4 HA4
    go_wp2_with fail
    obtain ⟨r1, hr1⟩ : ∃ r, r = readP (seesB act n next creator) (⟨packed.extract kl packed.size, deleted, trx⟩ :: seg vs m 0) := ⟨_, rfl⟩
    have HR1 : Hid (r1 = readP (seesB act n next creator) (⟨packed.extract kl packed.size, deleted, trx⟩ :: seg vs m 0)) := hr1
    clear hr1
    refine (zread_named r1 _ n _ act minA next creator packed head kl deleted trx br bd bt m m m m vs _ hn' (by omega) HA5.out HW.out (by omega) HC5.out HR1.out).mono ?_
    rintro e w6 ⟨rfl, hb6⟩
    have HS6 : Hid (St w x ov m vs w6) := HS5.out.keep hb6
    have HA6 : Hid (ActAt w6 _ n act) := HA5.out.keep hb6
    clear hb6 HS5 HA5 HC5
    obtain ⟨i27, hi, hz0, hz1, hz2⟩ := info_parts Try.info27
    have hbytes : i27.bytes * (m + 1) ≤ 281474976710656 := by rw [hz2]; omega
    have HZ1 : Hid (i27.size = 3) := hz1
    have HZ0 : Hid (i27.zero = some (.agg #[.string ByteArray.empty, .bool false, .int .u64 0])) := hz0
    have HI27 : Hid (Try.prog.info? 27 = some i27) := hi
    clear hz0 hz1 hz2 hi
    go_wp2_with (at_make; refine wpList_make_own _ rfl _ _ 25 rfl w6.heap.size 27 i27 _ 3 Try.underlying25 HI27.out HZ0.out HZ1.out _ _ _ (m + 1) rfl rfl (by omega) hbytes (by unfold maxLen; omega) (Nat.le_refl _) ?_; intro w7 hown hgrow; have HB7 : Hid (Below w6.heap.size w6 w7) := (Below.refl _ _).grown hgrow (Nat.le_refl _) (fun k h => by cases h); have HO7 : Hid (w7.ownsRow w6.heap.size 27 3 (.slice (some ⟨w6.heap.size, 0, none⟩) 0 (m + 1)) 0 (cellsL (snoc m x vs) 0)) := hown; clear hown hgrow hbytes)
    have HO7' : Hid (w7.ownsRow w6.heap.size 27 3 (.slice (some ⟨w6.heap.size, 0, none⟩) 0 (m + 1)) 0 (cellsL (snoc m x vs) 0)) := HO7.out
    go_loopw [29, 30] (fun v i wr => ∃ k : Nat, k ≤ m ∧ i = .int .i64 k ∧ v = .slice (some ⟨w6.heap.size, 0, none⟩) k (m + 1) ∧ Below w6.heap.size w6 wr ∧
      wr.ownsRow w6.heap.size 27 3 (.slice (some ⟨w6.heap.size, 0, none⟩) k (m + 1)) k (cellsL (snoc m x vs) k)) (fun _ i _ => m - (intOf i).toNat)
    case atStart => exact ⟨0, Nat.zero_le _, rfl, rfl, HB7.out, HO7'.out⟩
    case round =>
      obtain ⟨k, hk, rfl, rfl, hbel, hown⟩ := hrel
      have HBL : Hid (Below w6.heap.size w6 wr) := hbel
      clear hbel HB7 HO7 HO7'
      by_cases hlt : k < m
      · have hVW := (HS6.out.keep HBL.out).2.2.1
        rcases hVW with h0 | ⟨b, off, rfl, hc⟩
        · omega
        obtain ⟨g0, g1, g2⟩ := hc k hlt
        clear hc
        have hkI : (k : Int) < (m : Int) := by omega
        go_wp2_with (at_builtin; refine wpList_append_fits _ rfl (.tmp 109) (.tmp 114) 25 rfl w6.heap.size 27 i27 3 Try.underlying25 HI27.out HZ1.out w6.heap.size k (m + 1) _ rfl (hown.alloc _) ⟨wr.heap.size, 0, none⟩ 1 1 [.string (vs k).row, .bool (vs k).del, .int .u64 (vs k).trx] rfl rfl (one_hc wr _ _ _) (one_h1 _ _ _) (by omega) ?_; intro w9 hown9 hgrow9; have HB9 : Hid (Below w6.heap.size w6 w9) := (HBL.out.alloc HBL.out.size _).grown hgrow9 (by have := HBL.out.size; simp; omega) (fun k h => by cases h; exact Nat.le_refl _); have HO9 : Hid (w9.ownsRow w6.heap.size 27 3 (.slice (some ⟨w6.heap.size, 0, none⟩) (k + 1) (m + 1)) (k + 1) (cellsL (snoc m x vs) (k + 1))) := (by rw [snoc_cells hlt] at hown9; exact hown9); clear hown hown9 hgrow9 HBL)
        have HO9' : Hid (w9.ownsRow w6.heap.size 27 3 (.slice (some ⟨w6.heap.size, 0, none⟩) (k + 1) (m + 1)) (k + 1) (cellsL (snoc m x vs) (k + 1))) := HO9.out
        go_roundw
        case rel => exact ⟨k + 1, by omega, by go_num, rfl, HB9.out, HO9'.out⟩
        case measure => simp [intOf]; omega
      · have hkm : k = m := by omega
        subst hkm
        have HS7 : Hid (St w x ov k vs wr) := HS6.out.keep HBL.out
        have HA7 : Hid (ActAt wr _ n act) := HA6.out.keep HBL.out
        obtain ⟨hx, x0, x1, x2⟩ := HS7.out.2.1
        go_wp2_with (at_builtin; refine wpList_append_fits _ rfl (.tmp 116) (.tmp 118) 25 rfl w6.heap.size 27 i27 3 Try.underlying25 HI27.out HZ1.out w6.heap.size k (k + 1) _ rfl (hown.alloc _) ⟨wr.heap.size, 0, none⟩ 1 1 [.string x.row, .bool x.del, .int .u64 x.trx] rfl rfl (one_hc wr _ _ _) (one_h1 _ _ _) (Nat.le_refl _) ?_; intro w9 hown9 hgrow9; have HB9 : Hid (Below w6.heap.size w6 w9) := (HBL.out.alloc HBL.out.size _).grown hgrow9 (by have := HBL.out.size; simp; omega) (fun k h => by cases h; exact Nat.le_refl _); have HO9 : Hid (w9.ownsRow w6.heap.size 27 3 (.slice (some ⟨w6.heap.size, 0, none⟩) (k + 1) (k + 1)) (k + 1) (cellsL (snoc k x vs) (k + 1))) := (by rw [snoc_last] at hown9; exact hown9); clear hown hown9 hgrow9 HBL x0 x1 x2 hx)
        have HV : Hid (VersAt w9 (some ⟨w6.heap.size, 0, none⟩) (k + 1) (snoc k x vs)) := versAt_own HO9.out
        have HS9 : Hid (St w x ov k vs w9) := HS6.out.keep HB9.out
        have HA9 : Hid (ActAt w9 _ n act) := HA6.out.keep HB9.out
        clear HO9 HB9 HS6 HA6 HS7 HA7
        refine (cols_any _ (k + 1) _ _ _ (by omega) HV.out.1 HV.out.2).mono ?_
        rintro e w10 ⟨⟨br2, bd2, bt2, rfl, hcols⟩, hb10⟩
        have HC10 : Hid (Cols w10 br2 bd2 bt2 (k + 1) (snoc k x vs)) := hcols
        have HS10 : Hid (St w x ov k vs w10) := HS9.out.keep hb10
        have HA10 : Hid (ActAt w10 _ n act) := HA9.out.keep hb10
        clear hcols hb10 HS9 HA9 HV
        obtain ⟨r2, hr2⟩ : ∃ r, r = readP (seesB act n next creator) (⟨packed.extract kl packed.size, deleted, trx⟩ :: seg (snoc k x vs) (k + 1) 0) := ⟨_, rfl⟩
        have HR2 : Hid (r2 = readP (seesB act n next creator) (⟨packed.extract kl packed.size, deleted, trx⟩ :: seg (snoc k x vs) (k + 1) 0)) := hr2
        have HAF := after_oldest (seesB act n next creator) ⟨packed.extract kl packed.size, deleted, trx⟩ x vs k r1 r2 HR1.out hr2
        have HAF1 : Hid ((seesB act n next creator trx || anyV (seesB act n next creator) vs k) = true → r2 = r1) := HAF.1
        have HAF2 : Hid ((seesB act n next creator trx || anyV (seesB act n next creator) vs k) = false → r1 = (ByteArray.empty, false) ∧ (seesB act n next creator x.trx = true → r2 = (x.row, !x.del)) ∧ (seesB act n next creator x.trx = false → r2 = (ByteArray.empty, false))) := HAF.2
        clear hr2 HAF
        go_wp2_with fail
        refine (zread_named r2 _ n _ act minA next creator packed head kl deleted trx br2 bd2 bt2 (k + 1) _ _ _ _ _ hn' (by omega) HA10.out HW.out (by omega) HC10.out HR2.out).mono ?_
        rintro e w11 ⟨rfl, hb11⟩
        have HS11 : Hid (St w x ov k vs w11) := HS10.out.keep hb11
        have HA11 : Hid (ActAt w11 _ n act) := HA10.out.keep hb11
        clear hb11 HS10 HA10 HC10
        go_wp2_with fail
        refine (zsees_any _ n _ act next creator trx _ hn' HA11.out.1).mono ?_
        rintro e w12 ⟨rfl, hw12⟩
        obtain rfl := hw12.symm
        obtain ⟨s0, hs0⟩ : ∃ s, s = seesB act n next creator trx := ⟨_, rfl⟩
        rw [← hs0]
        have HS0 : Hid (s0 = seesB act n next creator trx) := hs0
        clear hs0
        go_wp2
        go_loop [36, 37] (fun a i => ∃ (j : Nat) (b : Bool), j ≤ k ∧ i = .int .i64 j ∧ a = .bool b ∧ b = (s0 || anyV (seesB act n next creator) vs j)) (fun _ i => k - (intOf i).toNat)
        case atStart => exact ⟨0, s0, Nat.zero_le _, rfl, rfl, by simp [anyV]⟩
        case round =>
          obtain ⟨j, b, hj, rfl, rfl, hb⟩ := hrel
          have HBJ : Hid (b = (s0 || anyV (seesB act n next creator) vs j)) := hb
          clear hb
          by_cases hgo : j < k ∧ b = false
          · obtain ⟨hjk, hbf⟩ := hgo
            subst hbf
            have hVW := HS11.out.2.2.1
            rcases hVW with h0 | ⟨bo, off, rfl, hc⟩
            · omega
            obtain ⟨g0, g1, g2⟩ := hc j hjk
            clear hc
            have hjI : (j : Int) < (k : Int) := by omega
            go_wp2_with fail
            refine (zsees_any _ n _ act next creator (vs j).trx _ hn' HA11.out.1).mono ?_
            rintro e w12 ⟨rfl, hw12⟩
            obtain rfl := hw12.symm
            obtain ⟨s1, hs1⟩ : ∃ s, s = seesB act n next creator (vs j).trx := ⟨_, rfl⟩
            rw [← hs1]
            have HS1 : Hid (s1 = seesB act n next creator (vs j).trx) := hs1
            clear hs1
            go_wp2
            go_round
            case rel => exact ⟨j + 1, s1, by omega, by go_num, rfl, by
              have h := HBJ.out
              rw [anyV, ← Bool.or_assoc, ← h, ← HS1.out]; rfl⟩
            case measure => simp [intOf]; omega
          · -- out of the loop: b says whether anything is seen
            have hbk : Hid (b = (s0 || anyV (seesB act n next creator) vs k)) := by
              show _ = _
              have h := HBJ.out
              by_cases hjk : j < k
              · have hbt : b = true := by
                  cases b
                  · exact absurd ⟨hjk, rfl⟩ hgo
                  · rfl
                rw [hbt] at h ⊢
                rcases hs : s0
                · rw [hs, Bool.false_or] at h
                  rw [anyV_mono h.symm hj]; rfl
                · rfl
              · have : j = k := by omega
                subst this; exact h
            cases b
            · -- nothing is seen
              have hjk : ¬ j < k := fun h => hgo ⟨h, rfl⟩
              obtain ⟨e1, e2, e3⟩ := HAF2.out (by rw [← HS0.out]; exact hbk.out.symm)
              subst e1
              have HE2 : Hid (seesB act n next creator x.trx = true → r2 = (x.row, !x.del)) := e2
              have HE3 : Hid (seesB act n next creator x.trx = false → r2 = (ByteArray.empty, false)) := e3
              obtain ⟨y0, y1, y2⟩ := HS11.out.2.1.2
              clear e2 e3 HAF1 HAF2 hgo HBJ hbk
              go_wp2_with fail
              refine (zsees_any _ n _ act next creator x.trx _ hn' HA11.out.1).mono ?_
              rintro e w12 ⟨rfl, hw12⟩
              obtain rfl := hw12.symm
              cases hSee : seesB act n next creator x.trx
              · have er : r2 = (ByteArray.empty, false) := HE3.out hSee
                subst er
                clear hSee HE2 HE3
                go_wp2
                go_ret
                exact ⟨rfl, HS11.out.1⟩
              · have er : r2 = (x.row, !x.del) := HE2.out hSee
                subst er
                clear hSee HE2 HE3
                go_wp2
                go_ret
                exact ⟨rfl, HS11.out.1⟩
            · -- something is seen
              have er : r2 = r1 := HAF1.out (by rw [← HS0.out]; exact hbk.out.symm)
              subst er
              clear HAF1 HAF2 hgo HBJ hbk
              by_cases hjk : j < k
              · go_wp2
                go_ret
                exact ⟨rfl, HS11.out.1⟩
              · go_wp2
                go_ret
                exact ⟨rfl, HS11.out.1⟩
end Go.Proofs.Qxb6616841a
