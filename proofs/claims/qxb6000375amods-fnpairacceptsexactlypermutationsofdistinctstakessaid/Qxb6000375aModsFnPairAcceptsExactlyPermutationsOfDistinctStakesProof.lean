/-
  A PROOF OF 'Rows.FnPairAcceptsExactlyPermutationsOfDistinctStakesSaid'. The frame is the guide's own way (a law over slices that writes nothing that was there) at this function's number and types.
-/
import Derived.Test.Qxb6000375aModsOpen
import Derived.Test.Qxb6000375aModsPermWalk
namespace Go.Proofs.Qxb6000375aMods.fnPairAcceptsExactlyPermutationsOfDistinctStakes
open Go.ChangeShapes Go.WideShapes Go.ChangeAt Go.RowKit

set_option maxRecDepth 100000 in
theorem lifted (os : Os) (started : os.Started) (H : Type) (enc : TypeId × Value → H) :
    ReturnsInHanded {} Trym.checked os 7 .any (Rows.fnPairAcceptsExactlyPermutationsOfDistinctStakesSpec.pre6 enc Trym.prog Trym.f7 Rows.fnPairAcceptsExactlyPermutationsOfDistinctStakesRow.domain false) (Rows.fnPairAcceptsExactlyPermutationsOfDistinctStakesSpec.post enc Trym.prog Trym.f7 false true false false) := by
  refine returnsInHanded_of_change (C := Trym.checked) Facts.own started (by kernel_rfl) Trym.func7
    (ChangeSpec.witness6 (enc := enc) (C := Trym.checked) false ⟨#[], #[.slice none 0 0, .slice none 0 0, .slice none 0 0, .slice none 0 0], []⟩ 8 (by kernel_rfl) (by kernel_rfl) (by kernel_rfl) (by kernel_rfl)) ?_
  intro W base args ds gs before hval0 hW hcnd _
  have hval : ∀ (j : Nat) t v, Trym.f7.params[j]? = some t → args[j]? = some v → Value.okWide Trym.prog W .any base t v := hval0
  have hW' := hW
  obtain ⟨p, q, hA0, hV, rfl, hfz, hnd⟩ := hW
  have hA : DataW.TrodAll enc Trym.prog W 0 (fun _ => true) true Trym.f7.params.toList args.toList ds p := hA0
  rw [Trym.params7] at hA hval
  obtain ⟨v0, vs0, d0, ds0, p0, q0, hargs, rfl, rfl, h0, r0⟩ := trodAll_cons hA
  obtain ⟨v1, vs1, d1, ds1, p1, q1, rfl, rfl, rfl, h1, r1⟩ := trodAll_cons r0
  obtain ⟨v2, vs2, d2, ds2, p2, q2, rfl, rfl, rfl, h2, r2⟩ := trodAll_cons r1
  obtain ⟨v3, vs3, d3, ds3, p3, q3, rfl, rfl, rfl, h3, r3⟩ := trodAll_cons r2
  obtain ⟨rfl, rfl, rfl⟩ := trodAll_nil r3
  obtain rfl : args = #[v0, v1, v2, v3] := by cases args; simp_all
  obtain ⟨rfl, rfl⟩ := trodVars_none hV
  obtain ⟨a0, len0, cap0, rfl⟩ := okWide_slice Trym.underlying25 (hval 0 25 v0 rfl rfl)
  obtain ⟨a1, len1, cap1, rfl⟩ := okWide_slice Trym.underlying26 (hval 1 26 v1 rfl rfl)
  obtain ⟨a2, len2, cap2, rfl⟩ := okWide_slice Trym.underlying25 (hval 2 25 v2 rfl rfl)
  obtain ⟨a3, len3, cap3, rfl⟩ := okWide_slice Trym.underlying26 (hval 3 26 v3 rfl rfl)
  have lt0 : ∀ x ∈ p0, x.block < W.heap.size := by obtain ⟨m, hm⟩ := h0; exact DataW.trod_lt m _ _ _ hm
  have lt1 : ∀ x ∈ p1, x.block < W.heap.size := by obtain ⟨m, hm⟩ := h1; exact DataW.trod_lt m _ _ _ hm
  have lt2 : ∀ x ∈ p2, x.block < W.heap.size := by obtain ⟨m, hm⟩ := h2; exact DataW.trod_lt m _ _ _ hm
  have lt3 : ∀ x ∈ p3, x.block < W.heap.size := by obtain ⟨m, hm⟩ := h3; exact DataW.trod_lt m _ _ _ hm
  obtain ⟨sf, hs, zs, ms⟩ := Open.strs_of h0
  obtain ⟨uf, hu, _zu, _mu⟩ := Open.nums_of h1
  obtain ⟨tf, ht, zt, mt⟩ := Open.strs_of h2
  obtain ⟨vf, hv, zv, _mv⟩ := Open.nums_of h3
  clear hA0 hval0
  refine (Perm.walk W a0 len0 cap0 sf hs ms a1 len1 cap1 uf hu a2 len2 cap2 tf ht mt a3 len3 cap3 vf hv zs zt zv).mono fun e W' ⟨he, bel⟩ => ?_
  subst he
  exact ⟨_, rfl, _, _, _, [], _, [], hW', trodAll_mk1 (shut_bool Trym.underlying4 _),
    (trodAll_cons_mk (Below.trod Open.laidOut (by kernel_rfl) (of_decide_eq_true (by kernel_rfl)) h0 bel lt0)
      (trodAll_cons_mk (Below.trod Open.laidOut (by kernel_rfl) (of_decide_eq_true (by kernel_rfl)) h1 bel lt1)
        (trodAll_cons_mk (Below.trod Open.laidOut (by kernel_rfl) (of_decide_eq_true (by kernel_rfl)) h2 bel lt2)
          (trodAll_cons_mk (Below.trod Open.laidOut (by kernel_rfl) (of_decide_eq_true (by kernel_rfl)) h3 bel lt3) trodAll_mk0)))), rfl, bel.frame _, fun h => by cases h⟩

theorem closed : joinedFacts Trym.prog 7 Trym.f7 Rows.fnPairAcceptsExactlyPermutationsOfDistinctStakesSpec Rows.fnPairAcceptsExactlyPermutationsOfDistinctStakesRow = true := by
  unfold joinedFacts
  refine Facts.and_mk (Facts.and_mk (Facts.and_mk (Facts.and_mk (Facts.and_mk (Facts.and_mk (Facts.and_mk ?h Facts.enter_is) Facts.lifts_is) Facts.make_is) ?kinds) ?pinned) ?veiled) ?fits
  case h =>
    repeat' (with_reducible refine Facts.and_mk ?_ ?_)
    all_goals kernel_rfl
  all_goals kernel_rfl

theorem over : Rows.fnPairAcceptsExactlyPermutationsOfDistinctStakesRow.holds Trym.pinned (OpenSpec.ofChange Rows.fnPairAcceptsExactlyPermutationsOfDistinctStakesSpec) :=
  OpenClaim.holds_of_wide 7 Trym.f7 rfl rfl rfl rfl rfl rfl rfl ⟨rfl, rfl, rfl, rfl, rfl⟩ rfl rfl rfl rfl rfl (by kernel_rfl) Trym.func7 closed
    (of_decide_eq_true (by kernel_rfl)) (by unfold Func.isWrapper; first | (rw [if_pos (by decide +kernel)]; kernel_rfl) | (rw [if_neg (by decide +kernel)]; exact ⟨rfl, rfl⟩))
    (fun os started H enc _ => lifted os started H enc)

/-- THE STATEMENT -/
theorem proved : Rows.FnPairAcceptsExactlyPermutationsOfDistinctStakesSaid := over
end Go.Proofs.Qxb6000375aMods.fnPairAcceptsExactlyPermutationsOfDistinctStakes
