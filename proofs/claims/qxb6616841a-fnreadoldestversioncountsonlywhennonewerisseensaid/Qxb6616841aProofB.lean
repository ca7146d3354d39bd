/- The proof of 'Rows.FnReadOldestVersionCountsOnlyWhenNoNewerIsSeenSaid', out of the law's walk. -/
import Derived.Test.Qxb6616841aLawB
import Derived.Test.Qxb6616841aOpen
namespace Go.Proofs.Qxb6616841a
open Go.ChangeShapes Go.WideShapes Go.ChangeAt Go.RowKit

set_option maxRecDepth 100000 in
theorem liftedB (os : Os) (started : os.Started) (H : Type) (enc : TypeId × Value → H) :
    ReturnsInHanded {} Try.checked os 4 .any (Rows.fnReadOldestVersionCountsOnlyWhenNoNewerIsSeenSpec.pre6 enc Try.prog Try.f4 Rows.fnReadOldestVersionCountsOnlyWhenNoNewerIsSeenRow.domain false) (Rows.fnReadOldestVersionCountsOnlyWhenNoNewerIsSeenSpec.post enc Try.prog Try.f4 false true false false) := by
  refine returnsInHanded_of_change_sized (C := Try.checked) Try.own started (by kernel_rfl) Try.func4
    (ChangeSpec.witness6 (enc := enc) (C := Try.checked) false ⟨#[], #[.slice none 0 0, .int .u64 0, .int .u64 0, .int .u64 0, .string ByteArray.empty, .int .u64 0, .int .u32 0, .bool false, .int .u64 0, .slice none 0 0, .agg #[.string ByteArray.empty, .bool false, .int .u64 0]], []⟩ 8 (by kernel_rfl) (by kernel_rfl) (by kernel_rfl) (by kernel_rfl)) ?_
  intro W base args ds gs before hval0 hW _ hsz0 _
  have hsz : (DataW.weightsEach Try.prog (Try.f4.params.toList ++ Rows.fnReadOldestVersionCountsOnlyWhenNoNewerIsSeenSpec.plain.varTypes Try.prog) (ds ++ gs)).all (· ≤ reachBytes) = true := hsz0
  clear hsz0
  have hval : ∀ (j : Nat) t v, Try.f4.params[j]? = some t → args[j]? = some v → Value.okWide Try.prog W .any base t v := hval0
  have hW' := hW
  obtain ⟨p, q, hA0, hV, rfl, _, _⟩ := hW
  have hA : DataW.TrodAll enc Try.prog W 0 (fun _ => true) true Try.f4.params.toList args.toList ds p := hA0
  rw [Try.params4] at hA hval hsz
  obtain ⟨rfl, rfl⟩ := trodVars_none hV
  simp only [List.append_nil] at hW' hsz
  have hlt : ∀ x ∈ p, x.block < W.heap.size := fun x hx => by simpa using hW'.lt x hx
  have hA' := hA
  clear hA0 hval0
  obtain ⟨d0, d1, d2, d3, d4, d5, d6, d7, d8, d9, d10, rfl⟩ : ∃ d0 d1 d2 d3 d4 d5 d6 d7 d8 d9 d10, ds = [d0, d1, d2, d3, d4, d5, d6, d7, d8, d9, d10] := by
    obtain ⟨_, _, d0, _, _, _, _, rfl, _, _, r0⟩ := trodAll_cons hA
    obtain ⟨_, _, d1, _, _, _, _, rfl, _, _, r1⟩ := trodAll_cons r0
    obtain ⟨_, _, d2, _, _, _, _, rfl, _, _, r2⟩ := trodAll_cons r1
    obtain ⟨_, _, d3, _, _, _, _, rfl, _, _, r3⟩ := trodAll_cons r2
    obtain ⟨_, _, d4, _, _, _, _, rfl, _, _, r4⟩ := trodAll_cons r3
    obtain ⟨_, _, d5, _, _, _, _, rfl, _, _, r5⟩ := trodAll_cons r4
    obtain ⟨_, _, d6, _, _, _, _, rfl, _, _, r6⟩ := trodAll_cons r5
    obtain ⟨_, _, d7, _, _, _, _, rfl, _, _, r7⟩ := trodAll_cons r6
    obtain ⟨_, _, d8, _, _, _, _, rfl, _, _, r8⟩ := trodAll_cons r7
    obtain ⟨_, _, d9, _, _, _, _, rfl, _, _, r9⟩ := trodAll_cons r8
    obtain ⟨_, _, d10, _, _, _, _, rfl, _, _, r10⟩ := trodAll_cons r9
    obtain ⟨_, rfl, _⟩ := trodAll_nil r10
    exact ⟨d0, d1, d2, d3, d4, d5, d6, d7, d8, d9, d10, rfl⟩
  obtain ⟨aa, n, nc, act, minA, next, creator, packed, head, kl, deleted, trx, ov, m, mc, vs, x, rfl, hn, hm, hp, hkl, hact, hvs⟩ := opened (by rfl) hval hA hlt hsz
  refine (lawB_walk aa n nc act minA next creator packed head kl deleted trx ov m mc vs x W hn hm hp hkl hact hvs).mono fun e W' ⟨he, hnx⟩ => ?_
  subst he
  refine ⟨_, rfl, _, _, _, [], p, [], hW', ?_, ?_, rfl, hnx.frame _, fun h => by cases h⟩
  · exact trodAll_mk1 (shut_bool Try.underlying4 true)
  · exact trodAll_below Try.laidOut hnx [22, 23, 23, 23, 9, 23, 24, 4, 23, 25, 27] _ _ _ readable hlt hA'

/-- The statement. -/
theorem fnReadOldestVersionCountsOnlyWhenNoNewerIsSeen_proved : Rows.FnReadOldestVersionCountsOnlyWhenNoNewerIsSeenSaid :=
  OpenClaim.holds_of_wide 4 Try.f4 rfl rfl rfl rfl rfl rfl rfl ⟨rfl, rfl, rfl, rfl, rfl⟩ rfl rfl rfl rfl rfl (by kernel_rfl) Try.func4 (by kernel_rfl)
    (of_decide_eq_true (by kernel_rfl)) (by unfold Func.isWrapper; first | (rw [if_pos (by decide +kernel)]; kernel_rfl) | (rw [if_neg (by decide +kernel)]; exact ⟨rfl, rfl⟩))
    (fun os started H enc _ => liftedB os started H enc)
end Go.Proofs.Qxb6616841a
