/-
  A PROOF OF 'Rows.FnValidKeyMatchesAlphabetModelSaid'. The frame is the guide's template at this function's number and types.
-/
import Derived.Test.Qxb6000375aModsFacts
import Derived.Test.Qxb6000375aModsKeyWalks
import Derived.OpenShut
import Derived.ShutString
namespace Go.Proofs.Qxb6000375aMods.fnValidKeyMatchesAlphabetModel
open Go.ChangeShapes Go.WideShapes Go.ChangeAt Go.RowKit
open Go.ChangeMaps (open_string shut_string)
set_option linter.unusedVariables false      -- a walk need not use every 'w<i>' (that an integer argument fits its kind)

theorem own : ownKnob Trym.prog.godebug = none := Facts.own

set_option maxHeartbeats 1000000 in
theorem loop_walk (a0 : ByteArray) (a1 : Int) (w : World) (hz' : a0.size ≤ 1048576) (hs : a0.size ≤ maxLen) (hb' : (a0.size : Int) ≤ 65536) (b0 : Bool) (H0 : Hid (Key.startB a0 a1 = b0))
    (hc : (1 ≤ (a0.size : Int) ∧ (a0.size : Int) ≤ a1 ∧ b0 = true) ∨ (1 ≤ (a0.size : Int) ∧ a1 < (a0.size : Int) ∧ b0 = false) ∨ ((a0.size : Int) < 1 ∧ b0 = false)) :
    Calls Trym.prog 3 #[.string a0, .int .i64 a1] w fun e w' => e = .returned (.bool true) ∧ Grown w w' := by
  rcases hc with ⟨c1, c2, rfl⟩ | ⟨c1, c2, rfl⟩ | ⟨c1, rfl⟩
  all_goals
    go_enter Trym.func3, Trym.ntmps3
    go_wp2_with (go_at_call 11; refine (Key.zzBytes_yes a0 a1 _ hz').mono ?_; rintro e w' ⟨rfl, rfl⟩)
    go_loop [5, 6] (fun want i => ∃ k : Nat, k ≤ a0.size ∧ i = .int .i64 k ∧ want = .bool (Key.wantTo a0 a1 k)) (fun _ i => a0.size - (intOf i).toNat)
    case atStart => exact ⟨0, by omega, rfl, by rw [Key.wantTo_zero, H0.out]; try (simp only [Value.bool.injEq]; first | rfl | (simp; omega))⟩
    case round =>
      obtain ⟨k, hk, rfl, rfl⟩ := hrel
      cases hw : Key.wantTo a0 a1 k
      · have Hf := Key.hide (Key.wantTo_false a0 a1 k hw)
        go_wp2_with (go_at_call 13; refine (Key.zzValidKey_calls a0 a1 _ hs).mono ?_; rintro e w' ⟨rfl, rfl⟩)
        go_ret
        exact ⟨Key.ret_bool (by rw [Hf.out]; rfl), Grown.refl _⟩
      · by_cases hlt : k < a0.size
        · have Hst := Key.hide (Key.wantTo_step a0 a1 k hlt)
          cases ha : Key.alphaB a0[k]
          · have Hn : Hid (Key.wantTo a0 a1 (k + 1) = false) := by unfold Hid; rw [Hst.out, hw, ha]; rfl
            clear Hst
            go_wp2_with (go_at_call 12; refine (Key.inKey_calls a0[k] _).mono ?_; rintro e w' ⟨rfl, rfl⟩)
            go_round
            case rel => exact ⟨k + 1, by omega, by go_num, by rw [Hn.out]⟩
            case measure => simp [intOf]; omega
          · have Hn : Hid (Key.wantTo a0 a1 (k + 1) = true) := by unfold Hid; rw [Hst.out, hw, ha]; rfl
            clear Hst
            go_wp2_with (go_at_call 12; refine (Key.inKey_calls a0[k] _).mono ?_; rintro e w' ⟨rfl, rfl⟩)
            go_round
            case rel => exact ⟨k + 1, by omega, by go_num, by rw [Hn.out]⟩
            case measure => simp [intOf]; omega
        · have Hf := Key.hide (Key.wantTo_all a0 a1 k (by omega))
          have Hw := Key.hide hw
          go_wp2_with (go_at_call 13; refine (Key.zzValidKey_calls a0 a1 _ hs).mono ?_; rintro e w' ⟨rfl, rfl⟩)
          go_ret
          exact ⟨Key.ret_bool (by rw [Hf.out, Hw.out]), Grown.refl _⟩

/-! ### STEP 1: THE WALK: the Go text returns true. 'Grown w w'': the world has at most new blocks (Derived/RowKit3.lean). Part the cases AHEAD of 'go_enter' where a test parts the walk; take each callee by a contract of your own. -/
theorem walk (a0 : ByteArray) (a1 : Int) (w0 : a0.size ≤ maxLen) (w1 : (Lit.int .i64 a1).wf = true) (w : World) :
    Calls Trym.prog 3 #[.string a0, .int .i64 a1] w fun e w' => e = .returned (.bool true) ∧ Grown w w' := by
  unfold maxLen at w0
  by_cases hz : 1048576 < a0.size
  · go_enter Trym.func3, Trym.ntmps3
    go_wp2_with (go_at_call 11; refine (Key.zzBytes_no a0 a1 _ hz).mono ?_; rintro e w' ⟨rfl, rfl⟩)
    go_ret
    exact ⟨rfl, Grown.refl _⟩
  have hz' : a0.size ≤ 1048576 := by omega
  by_cases hb : 65536 < (a0.size : Int)
  · go_enter Trym.func3, Trym.ntmps3
    go_wp2_with (go_at_call 11; refine (Key.zzBytes_yes a0 a1 _ hz').mono ?_; rintro e w' ⟨rfl, rfl⟩)
    go_ret
    exact ⟨rfl, Grown.refl _⟩
  have hb' : (a0.size : Int) ≤ 65536 := by omega
  have hs : a0.size ≤ maxLen := by unfold maxLen; omega
  clear hb hz
  by_cases c1 : 1 ≤ (a0.size : Int)
  · by_cases c2 : (a0.size : Int) ≤ a1
    · have H0 : Hid (Key.startB a0 a1 = true) := by unfold Key.startB Hid; simp only [c1, c2, decide_true, Bool.and_true]
      exact loop_walk a0 a1 w hz' hs hb' true H0 (Or.inl ⟨c1, c2, rfl⟩)
    · have H0 : Hid (Key.startB a0 a1 = false) := by unfold Key.startB Hid; simp only [c2, decide_false, Bool.and_false]
      exact loop_walk a0 a1 w hz' hs hb' false H0 (Or.inr (Or.inl ⟨c1, by omega, rfl⟩))
  · have H0 : Hid (Key.startB a0 a1 = false) := by unfold Key.startB Hid; simp only [c1, decide_false, Bool.false_and]
    exact loop_walk a0 a1 w hz' hs hb' false H0 (Or.inr (Or.inr ⟨by omega, rfl⟩))

/-! ### THE ROW's STEP: WRITTEN OUT: LEAVE IT -/
set_option maxRecDepth 100000 in
theorem lifted (os : Os) (started : os.Started) (H : Type) (enc : TypeId × Value → H) :
    ReturnsInHanded {} Trym.checked os 3 .any (Rows.fnValidKeyMatchesAlphabetModelSpec.pre6 enc Trym.prog Trym.f3 Rows.fnValidKeyMatchesAlphabetModelRow.domain false) (Rows.fnValidKeyMatchesAlphabetModelSpec.post enc Trym.prog Trym.f3 false true false false) := by
  refine returnsInHanded_of_change (C := Trym.checked) own started (by kernel_rfl) Trym.func3
    (ChangeSpec.witness6 (enc := enc) (C := Trym.checked) false ⟨#[], #[.string ByteArray.empty, .int .i64 0], []⟩ 8 (by kernel_rfl) (by kernel_rfl) (by kernel_rfl) (by kernel_rfl)) ?_
  intro W base args ds gs before hval0 hW hcnd _
  have hval : ∀ (j : Nat) t v, Trym.f3.params[j]? = some t → args[j]? = some v → Value.okWide Trym.prog W .any base t v := hval0
  have hW' := hW
  obtain ⟨p, q, hA0, hV, rfl, hfz, hnd⟩ := hW
  have hA : DataW.TrodAll enc Trym.prog W 0 (fun _ => true) true Trym.f3.params.toList args.toList ds p := hA0
  rw [Trym.params3] at hA hval
  obtain ⟨v0, vs0, d0, ds0, p0, q0, hargs, rfl, rfl, h0, r0⟩ := trodAll_cons hA
  obtain ⟨v1, vs1, d1, ds1, p1, q1, rfl, rfl, rfl, h1, r1⟩ := trodAll_cons r0
  obtain ⟨rfl, rfl, rfl⟩ := trodAll_nil r1
  obtain rfl : args = #[v0, v1] := by cases args; simp_all
  obtain ⟨rfl, rfl⟩ := trodVars_none hV
  obtain ⟨a0, rfl, rfl, rfl, w0⟩ := open_string Trym.underlying9 (hval 0 9 v0 rfl rfl) h0
  obtain ⟨a1, rfl, rfl, rfl, w1⟩ := open_int Trym.underlying3 (hval 1 3 v1 rfl rfl) h1
  clear hA0 hval0
  simp only [List.append_nil] at hW'
  refine (walk a0 a1 w0 w1 W).mono fun e W' ⟨he, hg⟩ => ?_
  subst he
  exact ⟨_, rfl, post_of_same (pa := []) (pv := []) hW' (fun _ _ _ => (trodAll_cons_mk (shut_bool Trym.underlying4 _) trodAll_mk0)) (fun sp _ => (trodAll_cons_mk (shut_string Trym.underlying9 w0) (trodAll_cons_mk (shut_int Trym.underlying3 w1) trodAll_mk0))) (fun _ _ => rfl) rfl
    (hg.frame _) hg.2.1 (ok_one (by kernel_rfl) rfl (okWide_bool_mk Trym.underlying4 _))⟩

theorem closed : joinedFacts Trym.prog 3 Trym.f3 Rows.fnValidKeyMatchesAlphabetModelSpec Rows.fnValidKeyMatchesAlphabetModelRow = true := by
  unfold joinedFacts
  refine Facts.and_mk (Facts.and_mk (Facts.and_mk (Facts.and_mk (Facts.and_mk (Facts.and_mk (Facts.and_mk ?h Facts.enter_is) Facts.lifts_is) Facts.make_is) ?kinds) ?pinned) ?veiled) ?fits
  case h =>
    repeat' (with_reducible refine Facts.and_mk ?_ ?_)
    all_goals kernel_rfl
  all_goals kernel_rfl

theorem over : Rows.fnValidKeyMatchesAlphabetModelRow.holds Trym.pinned (OpenSpec.ofChange Rows.fnValidKeyMatchesAlphabetModelSpec) :=
  OpenClaim.holds_of_wide 3 Trym.f3 rfl rfl rfl rfl rfl rfl rfl ⟨rfl, rfl, rfl, rfl, rfl⟩ rfl rfl rfl rfl rfl (by kernel_rfl) Trym.func3 closed
    (of_decide_eq_true (by kernel_rfl)) (by unfold Func.isWrapper; first | (rw [if_pos (by decide +kernel)]; kernel_rfl) | (rw [if_neg (by decide +kernel)]; exact ⟨rfl, rfl⟩))
    (fun os started H enc _ => lifted os started H enc)

/-- ████ THE STATEMENT ████ -/
theorem proved : Rows.FnValidKeyMatchesAlphabetModelSaid :=
  over
end Go.Proofs.Qxb6000375aMods.fnValidKeyMatchesAlphabetModel
