/- The walk of FnReadAfterWriteSeesItOrNothingChanges (3). -/
import Derived.Test.Qxb6616841aState
import Derived.Deep.RegionHeld3
namespace Go.Proofs.Qxb6616841a
open Go.RowKit

theorem Try.size23 : (Try.prog.info? 23).map (fun x => x.size) = some 1 := by kernel_rfl
theorem Try.info27 : (Try.prog.info? 27).map (fun i => (i.zero, i.size, i.bytes)) = some (some (.agg #[.string ByteArray.empty, .bool false, .int .u64 0]), 3, 32) := by kernel_rfl

theorem copy_src {w3 : World} {a : Addr} {n : Nat} {act : Nat → Int} (h : ActAt w3 (some a) n act) (o : Obj) :
    0 < (actL act n).length → (some (⟨w3.heap.size, 0, none⟩ : Addr) = some ⟨w3.heap.size, 0, none⟩) ∧ ∃ ad, some a = some ad ∧ ∀ (j : Nat) (v : Value), (actL act n)[j]? = some v → (w3.alloc o).cell? (ad.add j) = some v := by
  intro hpos
  rw [actL_length] at hpos
  refine ⟨rfl, a, rfl, fun j v hj => ?_⟩
  have hjn : j < n := by
    have := (List.getElem?_eq_some_iff.1 hj).1
    rwa [actL_length] at this
  rw [actL_at act n j hjn] at hj
  cases hj
  rcases h.1 with h0 | ⟨b, off, e, hc⟩
  · omega
  · cases e
    have hb : b < w3.heap.size := h.2 ⟨b, off, none⟩ rfl hpos
    rw [Go.WideShapes.add_plain, World.cell?_alloc_past _ _ _ hb]
    exact hc j hjn

theorem heap_new (w3 : World) (n : Nat) : (w3.alloc (.cells (made (.int .u64 0) n) 23)).heap[w3.heap.size]? = some (.cells (made (.int .u64 0) n).toList.toArray 23) := by
  rw [heap_alloc_new, Array.toArray_toList]

theorem min_self (act : Nat → Int) (n : Nat) : (actL act n).length = n.min n := by rw [actL_length]; exact (Nat.min_self n).symm

theorem fits_self (act : Nat → Int) (n : Nat) : 0 + (actL act n).length ≤ (made (.int .u64 0) n).toList.length := by
  rw [actL_length, Nat.zero_add]
  have : (made (.int .u64 0) n).toList = List.replicate n (.int .u64 0) := toList_madeCells_one _ n
  rw [this]; simp

theorem copied' {act : Nat → Int} {n g : Nat} {w' : World} (h : Hid (w'.heap[g]? = some (.cells (splice (made (.int .u64 0) n).toList 0 (actL act n)).toArray 23))) : ActAt w' (some ⟨g, 0, none⟩) n act := by
  have e : (made (.int .u64 0) n).toList = List.replicate n (.int .u64 0) := toList_madeCells_one _ n
  have hh := h.out
  rw [splice_all _ _ (by rw [e, actL_length]; simp)] at hh
  exact copied hh

/-- The three cells of one version. -/
theorem one_hc (w7 : World) (r : ByteArray) (d : Bool) (t : Int) : ∀ (j : Nat) (u : Value), [Value.string r, .bool d, .int .u64 t][j]? = some u → (w7.alloc (.cells #[.string r, .bool d, .int .u64 t] 27)).cell? ((⟨w7.heap.size, 0, none⟩ : Addr).add j) = some u := by
  intro j u hj
  rw [Go.WideShapes.add_plain, Nat.zero_add, World.cell?_alloc_new]
  simpa using hj
theorem one_h1 (r : ByteArray) (d : Bool) (t : Int) : ∀ u ∈ [Value.string r, .bool d, .int .u64 t], u.oneCell' = true := by
  intro u hu
  simp only [List.mem_cons, List.not_mem_nil, or_false] at hu
  rcases hu with rfl | rfl | rfl <;> rfl

theorem act_oneCell (act : Nat → Int) (n : Nat) : ∀ v ∈ actL act n, v.oneCell' = true := by
  intro v hv
  simp only [actL, List.mem_map] at hv
  obtain ⟨j, _, rfl⟩ := hv
  rfl

set_option maxRecDepth 100000 in
set_option maxHeartbeats 4000000 in
theorem lawA_walk (aa : Option Addr) (n nc : Nat) (act : Nat → Int) (minA next creator : Int) (packed : ByteArray) (head : Int) (kl : Nat) (deleted : Bool) (trx : Int) (ov : Option Addr) (m mc : Nat) (vs : Nat → V) (x : V) (w : World)
    (hn : n ≤ 140737488351232) (hm : m ≤ 140737488351232) (hp : packed.size ≤ 140737488351232) (hkl : kl < 4294967296) (ha : ActAt w aa n act) (hv : VersAt w ov m vs) :
    Calls Try.prog 3 #[.slice aa n nc, .int .u64 minA, .int .u64 next, .int .u64 creator, .string packed, .int .u64 head, .int .u32 kl, .bool deleted, .int .u64 trx, .slice ov m mc, .agg #[.string x.row, .bool x.del, .int .u64 x.trx]] w
      fun e w' => e = .returned (.bool true) ∧ Below w.heap.size w w' := by
  have HS0 : Hid (St w x ov m vs (w.alloc (.cells #[.string x.row, .bool x.del, .int .u64 x.trx] 27))) := St.start hv
  have HA0 : Hid (ActAt (w.alloc (.cells #[.string x.row, .bool x.del, .int .u64 x.trx] 27)) aa n act) := ha.keep ((Below.refl _ _).alloc (Nat.le_refl _) _)
  clear ha hv
  go_enter Try.func3, Try.ntmps3
  go_wp2_with fail
  refine (bytes5_any aa ov n nc m mc minA next creator head trx kl packed x.row deleted x.del x.trx vs _ hn hm hp HS0.out.2.2.1 HS0.out.2.2.2).mono ?_
  rintro e w1 ⟨⟨r, rfl⟩, hb1⟩
  have HS1 : Hid (St w x ov m vs w1) := HS0.out.keep hb1
  have HA1 : Hid (ActAt w1 aa n act) := HA0.out.keep hb1
  clear hb1 HS0 HA0
  cases r
  · go_wp2
    go_ret
    exact ⟨rfl, HS1.out.1⟩
  obtain ⟨hx, x0, x1, x2⟩ := HS1.out.2.1
  go_wp2_with fail
  refine (sizes_any aa ov n nc m mc packed x.row x.del x.trx vs _ HS1.out.2.2.1 HS1.out.2.2.2).mono ?_
  rintro e w2 ⟨⟨r, rfl, hfit⟩, hb2⟩
  have HS2 : Hid (St w x ov m vs w2) := HS1.out.keep hb2
  have HA2 : Hid (ActAt w2 aa n act) := HA1.out.keep hb2
  clear hb2 HS1 HA1 hx x0 x1 x2
  cases r
  · clear hfit
    go_wp2
    go_ret
    exact ⟨rfl, HS2.out.1⟩
  obtain ⟨hn', hm', hp', hr'⟩ := hfit rfl
  clear hfit hn hm hp
  by_cases hk : packed.size < kl
  · go_wp2
    go_ret
    exact ⟨rfl, HS2.out.1⟩
  go_wp2_with fail
  refine (wf_any aa n nc act minA next _ hn' HA2.out.1 HA2.out.2).mono ?_
  rintro e w3 ⟨⟨r, rfl, hwf⟩, hb3⟩
  have HS3 : Hid (St w x ov m vs w3) := HS2.out.keep hb3
  have HA3 : Hid (ActAt w3 aa n act) := HA2.out.keep hb3
  clear hb3 HS2 HA2
  cases r
  · clear hwf
    go_wp2
    go_ret
    exact ⟨rfl, HS3.out.1⟩
  have HW : Hid (WF act n minA next) := hwf rfl
  clear hwf
  rcases aa with _ | a
  all_goals
    first
      | (have HA3' : Hid (ActAt w3 none n act) := HA3
         clear HA3'
         have hnil := fun ww => run_neq_slice_nil_any (P := Try.prog) ww 22 23 none n nc 0 0 Try.underlying22
         go_wp2_with fail
         clear hnil
         obtain ⟨w4, hw4⟩ : ∃ w4, w4 = w3 := ⟨_, rfl⟩
         subst hw4
         have HS4 : Hid (St w x ov m vs w4) := HS3.out
         have HA4 : Hid (ActAt w4 none n act) := HA3.out
         clear HS3 HA3)
      | (have hnil := fun ww => run_neq_slice_nil_any (P := Try.prog) ww 22 23 (some a) n nc 0 0 Try.underlying22
         have hmk := fun ww => make22 n (by omega) ww
         go_wp2_with (refine wpList_copy_splice rfl (.tmp 71) (.tmp 72) 22 22 rfl 23 Try.underlying22 Try.size23 _ _ _ _ _ _ rfl rfl w3.heap.size 0 (made (.int .u64 0) n).toList 23 (heap_new w3 n) (actL act n) (min_self act n) (copy_src HA3.out (.cells (made (.int .u64 0) n) 23)) (fits_self act n) (act_oneCell act n) w3.heap.size w3 ((Below.refl _ _).alloc (Nat.le_refl _) _) (Nat.le_refl _) ?_; intro w4 h4 hb4; have HA4 : Hid (ActAt w4 (some ⟨w3.heap.size, 0, none⟩) n act) := copied' h4; have HS4 : Hid (St w x ov m vs w4) := HS3.out.keep hb4; clear h4 hb4)
         clear hnil hmk HS3 HA3)
    refine (cols_any ov m mc vs _ (by omega) HS4.out.2.2.1 HS4.out.2.2.2).mono ?_
    rintro e w5 ⟨⟨br, bd, bt, rfl, hcols⟩, hb5⟩
    have HC5 : Hid (Cols w5 br bd bt m vs) := hcols
    have HS5 : Hid (St w x ov m vs w5) := HS4.out.keep hb5
    have HA5 : Hid (ActAt w5 _ n act) := HA4.out.keep hb5
    clear hcols hb5 HS4 HA4
    go_wp2_with fail
    obtain ⟨r1, hr1⟩ : ∃ r, r = readP (seesB act n next creator) (⟨packed.extract kl packed.size, deleted, trx⟩ :: seg vs m 0) := ⟨_, rfl⟩
    have HR1 : Hid (r1 = readP (seesB act n next creator) (⟨packed.extract kl packed.size, deleted, trx⟩ :: seg vs m 0)) := hr1
    clear hr1
    refine (zread_named r1 _ n _ act minA next creator packed head kl deleted trx br bd bt m m m m vs _ hn' (by omega) HA5.out HW.out (by omega) HC5.out HR1.out).mono ?_
    rintro e w6 ⟨rfl, hb6⟩
    have HS6 : Hid (St w x ov m vs w6) := HS5.out.keep hb6
    have HA6 : Hid (ActAt w6 _ n act) := HA5.out.keep hb6
    clear hb6 HS5 HA5 HC5
    obtain ⟨i27, hi, hz0, hz1, hz2⟩ := info_parts Try.info27
    have hbytes : i27.bytes * (m + 1) ≤ 281474976710656 := by rw [hz2]; omega
    have HZ1 : Hid (i27.size = 3) := hz1
    have HZ0 : Hid (i27.zero = some (.agg #[.string ByteArray.empty, .bool false, .int .u64 0])) := hz0
    have HI27 : Hid (Try.prog.info? 27 = some i27) := hi
    clear hz0 hz1 hz2 hi
    go_wp2_with (first
      | (at_make; refine wpList_make_own _ rfl _ _ 25 rfl w6.heap.size 27 i27 _ 3 Try.underlying25 HI27.out HZ0.out HZ1.out _ _ _ (m + 1) rfl rfl (by omega) hbytes (by unfold maxLen; omega) (Nat.le_refl _) ?_; intro w7 hown hgrow; have HB7 : Hid (Below w6.heap.size w6 w7) := (Below.refl _ _).grown hgrow (Nat.le_refl _) (fun k h => by cases h); clear hgrow hbytes)
      | (at_builtin; refine wpList_append_fits _ rfl (.tmp 101) (.tmp 108) 25 rfl w6.heap.size 27 i27 3 Try.underlying25 HI27.out HZ1.out w6.heap.size 0 (m + 1) [] rfl (hown.alloc _) ⟨w7.heap.size, 0, none⟩ 1 1 [.string (packed.extract kl packed.size), .bool deleted, .int .u64 trx] rfl rfl (one_hc w7 _ _ _) (one_h1 _ _ _) (by omega) ?_; intro w8 hown8 hgrow8; have HB8 : Hid (Below w6.heap.size w6 w8) := (HB7.out.alloc HB7.out.size _).grown hgrow8 (by have := HB7.out.size; simp; omega) (fun k h => by cases h; exact Nat.le_refl _); have HO8 : Hid (w8.ownsRow w6.heap.size 27 3 (.slice (some ⟨w6.heap.size, 0, none⟩) (0 + 1) (m + 1)) (0 + 1) (cellsL (push ⟨packed.extract kl packed.size, deleted, trx⟩ vs) (0 + 1))) := hown8; clear hown hown8 hgrow8 HB7))
    have HO8' : Hid (w8.ownsRow w6.heap.size 27 3 (.slice (some ⟨w6.heap.size, 0, none⟩) (0 + 1) (m + 1)) (0 + 1) (cellsL (push ⟨packed.extract kl packed.size, deleted, trx⟩ vs) (0 + 1))) := HO8.out
    go_loopw [29, 30] (fun v i wr => ∃ k : Nat, k ≤ m ∧ i = .int .i64 k ∧ v = .slice (some ⟨w6.heap.size, 0, none⟩) (k + 1) (m + 1) ∧ Below w6.heap.size w6 wr ∧
      wr.ownsRow w6.heap.size 27 3 (.slice (some ⟨w6.heap.size, 0, none⟩) (k + 1) (m + 1)) (k + 1) (cellsL (push ⟨packed.extract kl packed.size, deleted, trx⟩ vs) (k + 1))) (fun _ i _ => m - (intOf i).toNat)
    case atStart => exact ⟨0, Nat.zero_le _, rfl, rfl, HB8.out, HO8'.out⟩
    case round =>
      obtain ⟨k, hk, rfl, rfl, hbel, hown⟩ := hrel
      have HBL : Hid (Below w6.heap.size w6 wr) := hbel
      clear hbel HB8 HO8 HO8'
      by_cases hlt : k < m
      · have hVW := (HS6.out.keep HBL.out).2.2.1
        rcases hVW with h0 | ⟨b, off, rfl, hc⟩
        · omega
        obtain ⟨g0, g1, g2⟩ := hc k hlt
        clear hc
        have hkI : (k : Int) < (m : Int) := by omega
        go_wp2_with (at_builtin; refine wpList_append_fits _ rfl (.tmp 116) (.tmp 121) 25 rfl w6.heap.size 27 i27 3 Try.underlying25 HI27.out HZ1.out w6.heap.size (k + 1) (m + 1) _ rfl (hown.alloc _) ⟨wr.heap.size, 0, none⟩ 1 1 [.string (vs k).row, .bool (vs k).del, .int .u64 (vs k).trx] rfl rfl (one_hc wr _ _ _) (one_h1 _ _ _) (by omega) ?_; intro w9 hown9 hgrow9; have HB9 : Hid (Below w6.heap.size w6 w9) := (HBL.out.alloc HBL.out.size _).grown hgrow9 (by have := HBL.out.size; simp; omega) (fun k h => by cases h; exact Nat.le_refl _); have HO9 : Hid (w9.ownsRow w6.heap.size 27 3 (.slice (some ⟨w6.heap.size, 0, none⟩) (k + 1 + 1) (m + 1)) (k + 1 + 1) (cellsL (push ⟨packed.extract kl packed.size, deleted, trx⟩ vs) (k + 1 + 1))) := hown9; clear hown hown9 hgrow9 HBL)
        have HO9' : Hid (w9.ownsRow w6.heap.size 27 3 (.slice (some ⟨w6.heap.size, 0, none⟩) (k + 1 + 1) (m + 1)) (k + 1 + 1) (cellsL (push ⟨packed.extract kl packed.size, deleted, trx⟩ vs) (k + 1 + 1))) := HO9.out
        go_roundw
        case rel => exact ⟨k + 1, by omega, by go_num, rfl, HB9.out, HO9'.out⟩
        case measure => simp [intOf]; omega
      · have hkm : k = m := by omega
        subst hkm
        have HV : Hid (VersAt wr (some ⟨w6.heap.size, 0, none⟩) (k + 1) (push ⟨packed.extract kl packed.size, deleted, trx⟩ vs)) := versAt_own hown
        have HS7 : Hid (St w x ov k vs wr) := HS6.out.keep HBL.out
        have HA7 : Hid (ActAt wr _ n act) := HA6.out.keep HBL.out
        clear hown HBL HS6 HA6
        go_wp2_with fail
        refine (cols_any _ (k + 1) _ _ _ (by omega) HV.out.1 HV.out.2).mono ?_
        rintro e w10 ⟨⟨br2, bd2, bt2, rfl, hcols⟩, hb10⟩
        have HC10 : Hid (Cols w10 br2 bd2 bt2 (k + 1) (push ⟨packed.extract kl packed.size, deleted, trx⟩ vs)) := hcols
        have HS10 : Hid (St w x ov k vs w10) := HS7.out.keep hb10
        have HA10 : Hid (ActAt w10 _ n act) := HA7.out.keep hb10
        clear hcols hb10 HS7 HA7 HV
        obtain ⟨hx, x0, x1, x2⟩ := HS10.out.2.1
        go_wp2_with fail
        obtain ⟨r2, hr2⟩ : ∃ r, r = readP (seesB act n next creator) (x :: ⟨packed.extract kl packed.size, deleted, trx⟩ :: seg vs k 0) := ⟨_, rfl⟩
        have HR2 : Hid (r2 = readP (seesB act n next creator) (⟨(packed.extract 0 kl ++ x.row).extract kl (packed.extract 0 kl ++ x.row).size, x.del, x.trx⟩ :: seg (push ⟨packed.extract kl packed.size, deleted, trx⟩ vs) (k + 1) 0)) := by
          show _ = _
          rw [(after_key packed x.row kl (by omega)).2, seg_push]; exact hr2
        have HR3 : Hid (r2 = readP (seesB act n next creator) (x :: ⟨packed.extract kl packed.size, deleted, trx⟩ :: seg vs k 0)) := hr2
        have HK2 : Hid (kl ≤ (packed.extract 0 kl ++ x.row).size) := (after_key packed x.row kl (by omega)).1
        have HAd : Hid (ActAt w10.drew _ n act) := HA10.out.keep (Below.refl _ _).drew
        have HCd : Hid (Cols w10.drew br2 bd2 bt2 (k + 1) (push ⟨packed.extract kl packed.size, deleted, trx⟩ vs)) := HC10.out.keep (Below.refl _ _).drew
        have HSd : Hid (St w x ov k vs w10.drew) := HS10.out.keep (Below.refl _ _).drew
        clear hr2 HA10 HC10 HS10
        have hkI : (0 : Int) ≤ (kl : Int) := by omega
        have hadd := fun ww => add_key packed x.row kl (by omega) hp' hr' ww
        have hkP : (kl : Int) ≤ (packed.size : Int) := by omega
        go_region_held3 (fun w' => w'.cell? ⟨w.heap.size, 0, none⟩ = some (.string x.row) ∧ w'.cell? ⟨w.heap.size, 1, none⟩ = some (.bool x.del) ∧ w'.cell? ⟨w.heap.size, 2, none⟩ = some (.int .u64 x.trx)) (first | go_keep | exact hbox) (first | (go_at_call 9; refine (zread_named r2 _ n _ act minA next creator _ head kl x.del x.trx br2 bd2 bt2 (k + 1) _ _ _ _ _ hn' (by omega) HAd.out HW.out HK2.out HCd.out HR2.out).mono ?_; rintro e w11 ⟨rfl, hb11⟩; have HS11 : Hid (St w x ov k vs w11) := HSd.out.keep hb11; have HA11 : Hid (ActAt w11 _ n act) := HAd.out.keep hb11; have hbox := HS11.out.2.1.2; clear hb11))
        clear hadd
        have hS : Hid (St w x ov k vs w11) := HS11.out
        obtain ⟨y0, y1, y2⟩ := HS11.out.2.1.2
        clear hbox x0 x1 x2
        go_wp2_with fail
        refine (zsees_any _ n _ act next creator x.trx _ hn' HA11.out.1).mono ?_
        rintro e w12 ⟨rfl, hw12⟩
        obtain rfl := hw12.symm
        cases hSee : seesB act n next creator x.trx
        · have hr : r2 = r1 := by
            rw [HR3.out, HR1.out]; rw [readP, hSee]; rfl
          subst hr
          clear hSee
          go_wp2
          go_ret
          exact ⟨rfl, HS11.out.1⟩
        · have hr : r2 = (x.row, !x.del) := by
            rw [HR3.out]; rw [readP, hSee]; rfl
          subst hr
          clear hSee
          go_wp2
          go_ret
          exact ⟨rfl, HS11.out.1⟩
end Go.Proofs.Qxb6616841a
