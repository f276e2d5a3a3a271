/-
  A PROOF OF 'Rows.FnSameAmountsRotationAcceptedAlterationRefusedSaid'. The frame is the guide's own way (a law over slices that writes nothing that was there) at this function's number and types.
-/
import Derived.Test.Qxb6000375aModsOpen
import Derived.Test.Qxb6000375aModsRotWalk
namespace Go.Proofs.Qxb6000375aMods.fnSameAmountsRotationAcceptedAlterationRefused
open Go.ChangeShapes Go.WideShapes Go.ChangeAt Go.RowKit

set_option maxRecDepth 100000 in
theorem lifted (os : Os) (started : os.Started) (H : Type) (enc : TypeId × Value → H) :
    ReturnsInHanded {} Trym.checked os 10 .any (Rows.fnSameAmountsRotationAcceptedAlterationRefusedSpec.pre6 enc Trym.prog Trym.f10 Rows.fnSameAmountsRotationAcceptedAlterationRefusedRow.domain false) (Rows.fnSameAmountsRotationAcceptedAlterationRefusedSpec.post enc Trym.prog Trym.f10 false true false false) := by
  refine returnsInHanded_of_change (C := Trym.checked) Facts.own started (by kernel_rfl) Trym.func10
    (ChangeSpec.witness6 (enc := enc) (C := Trym.checked) false ⟨#[], #[.slice none 0 0, .slice none 0 0, .int .i64 0], []⟩ 8 (by kernel_rfl) (by kernel_rfl) (by kernel_rfl) (by kernel_rfl)) ?_
  intro W base args ds gs before hval0 hW hcnd _
  have hval : ∀ (j : Nat) t v, Trym.f10.params[j]? = some t → args[j]? = some v → Value.okWide Trym.prog W .any base t v := hval0
  have hW' := hW
  obtain ⟨p, q, hA0, hV, rfl, hfz, hnd⟩ := hW
  have hA : DataW.TrodAll enc Trym.prog W 0 (fun _ => true) true Trym.f10.params.toList args.toList ds p := hA0
  rw [Trym.params10] at hA hval
  obtain ⟨v0, vs0, d0, ds0, p0, q0, hargs, rfl, rfl, h0, r0⟩ := trodAll_cons hA
  obtain ⟨v1, vs1, d1, ds1, p1, q1, rfl, rfl, rfl, h1, r1⟩ := trodAll_cons r0
  obtain ⟨v2, vs2, d2, ds2, p2, q2, rfl, rfl, rfl, h2, r2⟩ := trodAll_cons r1
  obtain ⟨rfl, rfl, rfl⟩ := trodAll_nil r2
  obtain rfl : args = #[v0, v1, v2] := by cases args; simp_all
  obtain ⟨rfl, rfl⟩ := trodVars_none hV
  obtain ⟨a0, len0, cap0, rfl⟩ := okWide_slice Trym.underlying25 (hval 0 25 v0 rfl rfl)
  obtain ⟨a1, len1, cap1, rfl⟩ := okWide_slice Trym.underlying26 (hval 1 26 v1 rfl rfl)
  obtain ⟨m, rfl, rfl, rfl, wm⟩ := open_int Trym.underlying3 (hval 2 3 v2 rfl rfl) h2
  have lt0 : ∀ x ∈ p0, x.block < W.heap.size := by obtain ⟨m, hm⟩ := h0; exact DataW.trod_lt m _ _ _ hm
  have lt1 : ∀ x ∈ p1, x.block < W.heap.size := by obtain ⟨m, hm⟩ := h1; exact DataW.trod_lt m _ _ _ hm
  obtain ⟨sf, hs, zs, ms⟩ := Open.strs_of h0
  obtain ⟨uf, hu, zu, _mu⟩ := Open.nums_of h1
  clear hA0 hval0
  refine (Rot.walk W a0 len0 cap0 sf hs ms a1 len1 cap1 uf hu m zs zu).mono fun e W' ⟨he, bel⟩ => ?_
  subst he
  exact ⟨_, rfl, _, _, _, [], _, [], hW', trodAll_mk1 (shut_bool Trym.underlying4 _),
    (trodAll_cons_mk (Below.trod Open.laidOut (by kernel_rfl) (of_decide_eq_true (by kernel_rfl)) h0 bel lt0)
      (trodAll_cons_mk (Below.trod Open.laidOut (by kernel_rfl) (of_decide_eq_true (by kernel_rfl)) h1 bel lt1)
        (trodAll_cons_mk (shut_int Trym.underlying3 wm) trodAll_mk0))), rfl, bel.frame _, fun h => by cases h⟩

theorem closed : joinedFacts Trym.prog 10 Trym.f10 Rows.fnSameAmountsRotationAcceptedAlterationRefusedSpec Rows.fnSameAmountsRotationAcceptedAlterationRefusedRow = true := by
  unfold joinedFacts
  refine Facts.and_mk (Facts.and_mk (Facts.and_mk (Facts.and_mk (Facts.and_mk (Facts.and_mk (Facts.and_mk ?h Facts.enter_is) Facts.lifts_is) Facts.make_is) ?kinds) ?pinned) ?veiled) ?fits
  case h =>
    repeat' (with_reducible refine Facts.and_mk ?_ ?_)
    all_goals kernel_rfl
  all_goals kernel_rfl

theorem over : Rows.fnSameAmountsRotationAcceptedAlterationRefusedRow.holds Trym.pinned (OpenSpec.ofChange Rows.fnSameAmountsRotationAcceptedAlterationRefusedSpec) :=
  OpenClaim.holds_of_wide 10 Trym.f10 rfl rfl rfl rfl rfl rfl rfl ⟨rfl, rfl, rfl, rfl, rfl⟩ rfl rfl rfl rfl rfl (by kernel_rfl) Trym.func10 closed
    (of_decide_eq_true (by kernel_rfl)) (by unfold Func.isWrapper; first | (rw [if_pos (by decide +kernel)]; kernel_rfl) | (rw [if_neg (by decide +kernel)]; exact ⟨rfl, rfl⟩))
    (fun os started H enc _ => lifted os started H enc)

/-- THE STATEMENT -/
theorem proved : Rows.FnSameAmountsRotationAcceptedAlterationRefusedSaid := over
end Go.Proofs.Qxb6000375aMods.fnSameAmountsRotationAcceptedAlterationRefused
