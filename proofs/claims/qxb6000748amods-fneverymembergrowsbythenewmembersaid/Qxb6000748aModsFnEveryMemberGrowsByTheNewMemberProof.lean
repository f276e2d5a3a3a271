/-
  A PROOF OF 'Rows.FnEveryMemberGrowsByTheNewMemberSaid'. The frame is the guide's own way (a law that writes nothing that was there) at this function's number and types.
-/
import Derived.Test.Qxb6000748aModsFacts
import Derived.Test.Qxb6000748aModsMemberWalks
import Derived.OpenShut
import Derived.ShutString
import Derived.ChangeOld
import Derived.Below
namespace Go.Proofs.Qxb6000748aMods.fnEveryMemberGrowsByTheNewMember
open Go.ChangeShapes Go.WideShapes Go.ChangeAt Go.RowKit
open Go.ChangeMaps (open_string shut_string)

set_option maxRecDepth 100000 in
theorem lifted (os : Os) (started : os.Started) (H : Type) (enc : TypeId × Value → H) :
    ReturnsInHanded {} Trym.checked os 7 .any (Rows.fnEveryMemberGrowsByTheNewMemberSpec.pre6 enc Trym.prog Trym.f7 Rows.fnEveryMemberGrowsByTheNewMemberRow.domain false) (Rows.fnEveryMemberGrowsByTheNewMemberSpec.post enc Trym.prog Trym.f7 false true false false) := by
  refine returnsInHanded_of_change (C := Trym.checked) Facts.own started (by kernel_rfl) Trym.func7
    (ChangeSpec.witness6 (enc := enc) (C := Trym.checked) false ⟨#[], #[.int .i64 0], []⟩ 8 (by kernel_rfl) (by kernel_rfl) (by kernel_rfl) (by kernel_rfl)) ?_
  intro W base args ds gs before hval0 hW hcnd _
  have hval : ∀ (j : Nat) t v, Trym.f7.params[j]? = some t → args[j]? = some v → Value.okWide Trym.prog W .any base t v := hval0
  have hW' := hW
  obtain ⟨p, q, hA0, hV, rfl, hfz, hnd⟩ := hW
  have hA : DataW.TrodAll enc Trym.prog W 0 (fun _ => true) true Trym.f7.params.toList args.toList ds p := hA0
  rw [Trym.params7] at hA hval
  obtain ⟨v0, vs0, d0, ds0, p0, q0, hargs, rfl, rfl, h0, r0⟩ := trodAll_cons hA
  obtain ⟨rfl, rfl, rfl⟩ := trodAll_nil r0
  obtain rfl : args = #[v0] := by cases args; simp_all
  obtain ⟨rfl, rfl⟩ := trodVars_none hV
  obtain ⟨a0, rfl, rfl, rfl, w0⟩ := open_int Trym.underlying3 (hval 0 3 v0 rfl rfl) h0
  clear hA0 hval0
  refine (Member.grows_walk a0  W).mono fun e W' ⟨he, bel⟩ => ?_
  subst he
  exact ⟨_, rfl, _, _, _, [], _, [], hW', trodAll_mk1 (shut_bool Trym.underlying4 _), (trodAll_cons_mk (shut_int Trym.underlying3 w0) trodAll_mk0), rfl, bel.frame _, fun h => by cases h⟩

theorem closed : joinedFacts Trym.prog 7 Trym.f7 Rows.fnEveryMemberGrowsByTheNewMemberSpec Rows.fnEveryMemberGrowsByTheNewMemberRow = true := by
  unfold joinedFacts
  refine Facts.and_mk (Facts.and_mk (Facts.and_mk (Facts.and_mk (Facts.and_mk (Facts.and_mk (Facts.and_mk ?h Facts.enter_is) Facts.lifts_is) Facts.make_is) ?kinds) ?pinned) ?veiled) ?fits
  case h =>
    repeat' (with_reducible refine Facts.and_mk ?_ ?_)
    all_goals kernel_rfl
  all_goals kernel_rfl

theorem over : Rows.fnEveryMemberGrowsByTheNewMemberRow.holds Trym.pinned (OpenSpec.ofChange Rows.fnEveryMemberGrowsByTheNewMemberSpec) :=
  OpenClaim.holds_of_wide 7 Trym.f7 rfl rfl rfl rfl rfl rfl rfl ⟨rfl, rfl, rfl, rfl, rfl⟩ rfl rfl rfl rfl rfl (by kernel_rfl) Trym.func7 closed
    (of_decide_eq_true (by kernel_rfl)) (by unfold Func.isWrapper; first | (rw [if_pos (by decide +kernel)]; kernel_rfl) | (rw [if_neg (by decide +kernel)]; exact ⟨rfl, rfl⟩))
    (fun os started H enc _ => lifted os started H enc)

/-- THE STATEMENT -/
theorem proved : Rows.FnEveryMemberGrowsByTheNewMemberSaid := over
end Go.Proofs.Qxb6000748aMods.fnEveryMemberGrowsByTheNewMember
