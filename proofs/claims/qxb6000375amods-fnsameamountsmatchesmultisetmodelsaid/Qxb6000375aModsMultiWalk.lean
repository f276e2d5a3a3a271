import Derived.Test.Qxb6000375aModsArgWalks
import Derived.Test.Qxb6000375aModsBuildWalks
import Derived.Test.Qxb6000375aModsPermPlain
import Derived.WalkSmall
import Derived.BigQuiet
import Derived.Deep.QuietTactic
namespace Go.Proofs.Qxb6000375aMods.Multi
open Go.RowKit Go.Maps Go.WideMaps Pay Pair Build
open Arg (Strs Nums)

theorem strs_below {w w' : World} {a : Option Addr} {n : Nat} {sf : Nat → ByteArray} (h : Strs w a n sf) (hb : Below w.heap.size w w') : Strs w' a n sf :=
  ⟨fun h0 => by
    obtain ⟨b, off, e, hc⟩ := h.pos h0
    exact ⟨b, off, e, fun k hk => (hb.cell (p := ⟨b, off + k, none⟩) (block_of_cell (hc k hk))).trans (hc k hk)⟩⟩
theorem nums_below {w w' : World} {a : Option Addr} {n : Nat} {zf : Nat → Int} (h : Nums w a n zf) (hb : Below w.heap.size w w') : Nums w' a n zf :=
  ⟨fun h0 => by
    obtain ⟨b, off, e, hc⟩ := h.pos h0
    exact ⟨b, off, e, fun k hk => (hb.cell (p := ⟨b, off + k, none⟩) (block_of_cell (hc k hk))).trans (hc k hk)⟩⟩

set_option maxHeartbeats 2000000 in
theorem early (w : World) (a1 : Option Addr) (n1 c1 : Nat) (sf : Nat → ByteArray) (hs : Strs w a1 n1 sf) (h1 : n1 ≤ maxLen) (a2 : Option Addr) (n2 c2 : Nat)
    (a3 : Option Addr) (n3 c3 : Nat) (tf : Nat → ByteArray) (ht : Strs w a3 n3 tf) (h3 : n3 ≤ maxLen) (a4 : Option Addr) (n4 c4 : Nat)
    (hcase : 4096 < (n1 : Int) ∨ ((n1 : Int) ≤ 4096 ∧ 4096 < (n2 : Int)) ∨ ((n1 : Int) ≤ 4096 ∧ (n2 : Int) ≤ 4096 ∧ 4096 < (n3 : Int)) ∨ ((n1 : Int) ≤ 4096 ∧ (n2 : Int) ≤ 4096 ∧ (n3 : Int) ≤ 4096 ∧ 4096 < (n4 : Int))) :
    Calls Trym.prog 8 #[.slice a1 n1 c1, .slice a2 n2 c2, .slice a3 n3 c3, .slice a4 n4 c4] w fun e w' => e = .returned (.bool true) ∧ Below w.heap.size w w' := by
  have HZ := Pay.hide (Arg.zzBytesMulti_calls w a1 n1 c1 sf hs h1 a2 n2 c2 a3 n3 c3 tf ht h3 a4 n4 c4)
  have HB1 := Pay.hide (Arg.amountBytes_calls w a1 n1 c1 sf hs h1 a2 n2 c2)
  have HB2 := Pay.hide (Arg.amountBytes_calls w a3 n3 c3 tf ht h3 a4 n4 c4)
  clear hs ht h1 h3
  rcases hcase with g | ⟨g1, g⟩ | ⟨g1, g2, g⟩ | ⟨g1, g2, g3, g⟩
  all_goals
    go_enter Trym.func8, Trym.ntmps8
    go_wp2_with fail
    refine HZ.out.mono ?_
    rintro e w0 ⟨⟨b, rfl⟩, hw⟩
    have hw' := hw.symm
    subst hw'
    cases b
    · go_wp2_with fail
      go_ret
      exact ⟨rfl, Below.refl _ _⟩
    · go_wp2_with fail
      refine HB1.out.mono ?_
      rintro e w1 ⟨⟨z1, rfl⟩, hw⟩
      have hw' := hw.symm
      subst hw'
      go_wp2_with fail
      refine HB2.out.mono ?_
      rintro e w1 ⟨⟨z2, rfl⟩, hw⟩
      have hw' := hw.symm
      subst hw'
      go_wp2_with fail
      all_goals (go_ret; exact ⟨rfl, Below.refl _ _⟩)

set_option maxHeartbeats 2000000 in
theorem main_not
    (w : World) (a1 : Option Addr) (n1 c1 : Nat) (sf : Nat → ByteArray) (hs : Strs w a1 n1 sf) (h1 : n1 ≤ maxLen) (a2 : Option Addr) (n2 c2 : Nat) (uf : Nat → Int) (hu : Nums w a2 n2 uf)
    (a3 : Option Addr) (n3 c3 : Nat) (tf : Nat → ByteArray) (ht : Strs w a3 n3 tf) (h3 : n3 ≤ maxLen) (a4 : Option Addr) (n4 c4 : Nat) (vf : Nat → Int) (hv : Nums w a4 n4 vf)
    (g1 : (n1 : Int) ≤ 4096) (g2 : (n2 : Int) ≤ 4096) (g3 : (n3 : Int) ≤ 4096) (g4 : (n4 : Int) ≤ 4096)
    (nS nA : Nat) (hnS : nS = min n1 n2) (hnA : nA = min n3 n4) (hd : distIx sf nS = false) :
    Calls Trym.prog 8 #[.slice a1 n1 c1, .slice a2 n2 c2, .slice a3 n3 c3, .slice a4 n4 c4] w fun e w' => e = .returned (.bool true) ∧ Below w.heap.size w w' := by
  have HZ := Pay.hide (Arg.zzBytesMulti_calls w a1 n1 c1 sf hs h1 a2 n2 c2 a3 n3 c3 tf ht h3 a4 n4 c4)
  have HB1 := Pay.hide (Arg.amountBytes_calls w a1 n1 c1 sf hs h1 a2 n2 c2)
  have HB2 := Pay.hide (Arg.amountBytes_calls w a3 n3 c3 tf ht h3 a4 n4 c4)
  have HC1 := Pay.hide (buildAmounts_calls w a1 n1 c1 sf hs a2 n2 c2 uf hu (by omega) (by omega) nS hnS)
  have HC2 := Pay.hide (fun w' (hb : Below w.heap.size w w') => buildAmounts_calls w' a3 n3 c3 tf (strs_below ht hb) a4 n4 c4 vf (nums_below hv hb) (by omega) (by omega) nA hnA)
  have HD := Pay.hide (fun w' b (hp : Pay w' b nS sf uf) => distinctIDs_calls w' b nS nS sf uf hp (by omega))
  have hSn : (nS : Int) ≤ 4096 := by omega
  have hAn : (nA : Int) ≤ 4096 := by omega

  clear hs ht h1 h3 hu hv hnS hnA
  go_enter Trym.func8, Trym.ntmps8
  go_wp2_with fail
  refine HZ.out.mono ?_
  rintro e w0 ⟨⟨b, rfl⟩, hw⟩
  have hw' := hw.symm
  subst hw'
  cases b
  · go_wp2_with fail
    go_ret
    exact ⟨rfl, Below.refl _ _⟩
  go_wp2_with fail
  refine HB1.out.mono ?_
  rintro e w1 ⟨⟨z1, rfl⟩, hw⟩
  have hw' := hw.symm
  subst hw'
  go_wp2_with fail
  refine HB2.out.mono ?_
  rintro e w1 ⟨⟨z2, rfl⟩, hw⟩
  have hw' := hw.symm
  subst hw'
  clear HZ HB1 HB2
  go_wp2_with fail
  · go_ret
    exact ⟨rfl, Below.refl _ _⟩
  refine HC1.out.mono ?_
  rintro e w2 ⟨rfl, L1, B1⟩
  have HL1 := Pay.hide L1
  have HBel1 := Pay.hide B1
  clear L1 B1 HC1
  go_wp2_with fail
  refine (HC2.out _ HBel1.out).mono ?_
  rintro e w3 ⟨rfl, L2, B2⟩
  have P1 : Hid (Pay w3 w.heap.size nS sf uf) := HL1.out.pay.below B2 HL1.out.pay.lt
  have P2 : Hid (Pay w3 w2.heap.size nA tf vf) := L2.pay
  have HBel2 : Hid (Below w.heap.size w w3) := HBel1.out.trans (B2.mono HBel1.out.size)
  clear L2 B2 HL1 HBel1 HC2
  go_wp2_with fail
  refine (HD.out _ _ P1.out).mono ?_
  rintro e w4 ⟨rfl, q, rfl⟩
  clear HD
  go_wp2_with fail
  go_ret
  exact ⟨rfl, below_drewN HBel2.out _⟩

/-- What the law asks of b after k rounds. -/
def wantTo (sf : Nat → ByteArray) (uf : Nat → Int) (nS : Nat) (tf : Nat → ByteArray) (vf : Nat → Int) (nA k : Nat) : Bool := decide (nS = nA ∧ ∀ p, p < k → hasIx tf vf (sf p) (uf p) nA = true)

theorem wantTo_no {sf : Nat → ByteArray} {uf : Nat → Int} {nS : Nat} {tf : Nat → ByteArray} {vf : Nat → Int} {nA k : Nat} (hd : Dist sf nS) (hk : k ≤ nS) (h : wantTo sf uf nS tf vf nA k = false) : sameOk sf uf nS tf vf nA = false := by
  rw [same_multi hd, decide_eq_false_iff_not]
  rintro ⟨e, ha⟩
  unfold wantTo at h
  rw [decide_eq_false_iff_not] at h
  exact h ⟨e, fun p hp => ha p (by omega)⟩
theorem wantTo_all {sf : Nat → ByteArray} {uf : Nat → Int} {nS : Nat} {tf : Nat → ByteArray} {vf : Nat → Int} {nA : Nat} (hd : Dist sf nS) : sameOk sf uf nS tf vf nA = wantTo sf uf nS tf vf nA nS := by
  rw [same_multi hd]; rfl
theorem wantTo_step {sf : Nat → ByteArray} {uf : Nat → Int} {nS : Nat} {tf : Nat → ByteArray} {vf : Nat → Int} {nA k : Nat} : wantTo sf uf nS tf vf nA (k + 1) = (wantTo sf uf nS tf vf nA k && hasIx tf vf (sf k) (uf k) nA) := by
  unfold wantTo
  rw [Bool.eq_iff_iff, Bool.and_eq_true, decide_eq_true_eq, decide_eq_true_eq]
  constructor
  · rintro ⟨e, ha⟩; exact ⟨⟨e, fun p hp => ha p (by omega)⟩, ha k (by omega)⟩
  · rintro ⟨⟨e, ha⟩, hk⟩
    refine ⟨e, fun p hp => ?_⟩
    by_cases h : p = k
    · subst h; exact hk
    · exact ha p (by omega)

set_option maxHeartbeats 4000000 in
theorem main_yes
    (w : World) (a1 : Option Addr) (n1 c1 : Nat) (sf : Nat → ByteArray) (hs : Strs w a1 n1 sf) (h1 : n1 ≤ maxLen) (a2 : Option Addr) (n2 c2 : Nat) (uf : Nat → Int) (hu : Nums w a2 n2 uf)
    (a3 : Option Addr) (n3 c3 : Nat) (tf : Nat → ByteArray) (ht : Strs w a3 n3 tf) (h3 : n3 ≤ maxLen) (a4 : Option Addr) (n4 c4 : Nat) (vf : Nat → Int) (hv : Nums w a4 n4 vf)
    (g1 : (n1 : Int) ≤ 4096) (g2 : (n2 : Int) ≤ 4096) (g3 : (n3 : Int) ≤ 4096) (g4 : (n4 : Int) ≤ 4096)
    (nS nA : Nat) (hnS : nS = min n1 n2) (hnA : nA = min n3 n4)
    (zs : ∀ k, (sf k).size ≤ maxLen) (zt : ∀ k, (tf k).size ≤ maxLen) (zv : ∀ k, (Lit.int .i64 (vf k)).wf = true) (hd : distIx sf nS = true) :
    Calls Trym.prog 8 #[.slice a1 n1 c1, .slice a2 n2 c2, .slice a3 n3 c3, .slice a4 n4 c4] w fun e w' => e = .returned (.bool true) ∧ Below w.heap.size w w' := by
  have HZ := Pay.hide (Arg.zzBytesMulti_calls w a1 n1 c1 sf hs h1 a2 n2 c2 a3 n3 c3 tf ht h3 a4 n4 c4)
  have HB1 := Pay.hide (Arg.amountBytes_calls w a1 n1 c1 sf hs h1 a2 n2 c2)
  have HB2 := Pay.hide (Arg.amountBytes_calls w a3 n3 c3 tf ht h3 a4 n4 c4)
  have HC1 := Pay.hide (buildAmounts_calls w a1 n1 c1 sf hs a2 n2 c2 uf hu (by omega) (by omega) nS hnS)
  have HC2 := Pay.hide (fun w' (hb : Below w.heap.size w w') => buildAmounts_calls w' a3 n3 c3 tf (strs_below ht hb) a4 n4 c4 vf (nums_below hv hb) (by omega) (by omega) nA hnA)
  have HD := Pay.hide (fun w' b (hp : Pay w' b nS sf uf) => distinctIDs_calls w' b nS nS sf uf hp (by omega))
  have hSn : (nS : Int) ≤ 4096 := by omega
  have hAn : (nA : Int) ≤ 4096 := by omega
  have HS := Pay.hide (fun w' b b' (hp : Pay w' b nS sf uf) (hp' : Pay w' b' nA tf vf) => zzSameAmounts_calls w' b nS nS sf uf hp b' nA nA tf vf hp' (by omega) (by omega) zs zt zv)
  have HE := Pay.hide (fun w' b' (hp' : Pay w' b' nA tf vf) => hasEntry_calls w' b' nA nA tf vf hp' (by omega))
  have Hd := Pay.hide (dist_of hd)
  have hq : ((nS : Int) == (nA : Int)) = wantTo sf uf nS tf vf nA 0 := by
    unfold wantTo
    rw [Bool.eq_iff_iff, decide_eq_true_eq, beq_iff_eq]
    exact ⟨fun h => ⟨by omega, fun p hp => by omega⟩, fun h => by omega⟩
  clear zs zt zv
  clear hs ht h1 h3 hu hv hnS hnA
  go_enter Trym.func8, Trym.ntmps8
  go_wp2_with fail
  refine HZ.out.mono ?_
  rintro e w0 ⟨⟨b, rfl⟩, hw⟩
  have hw' := hw.symm
  subst hw'
  cases b
  · go_wp2_with fail
    go_ret
    exact ⟨rfl, Below.refl _ _⟩
  go_wp2_with fail
  refine HB1.out.mono ?_
  rintro e w1 ⟨⟨z1, rfl⟩, hw⟩
  have hw' := hw.symm
  subst hw'
  go_wp2_with fail
  refine HB2.out.mono ?_
  rintro e w1 ⟨⟨z2, rfl⟩, hw⟩
  have hw' := hw.symm
  subst hw'
  clear HZ HB1 HB2
  go_wp2_with fail
  · go_ret
    exact ⟨rfl, Below.refl _ _⟩
  refine HC1.out.mono ?_
  rintro e w2 ⟨rfl, L1, B1⟩
  have HL1 := Pay.hide L1
  have HBel1 := Pay.hide B1
  clear L1 B1 HC1
  go_wp2_with fail
  refine (HC2.out _ HBel1.out).mono ?_
  rintro e w3 ⟨rfl, L2, B2⟩
  have P1 : Hid (Pay w3 w.heap.size nS sf uf) := HL1.out.pay.below B2 HL1.out.pay.lt
  have P2 : Hid (Pay w3 w2.heap.size nA tf vf) := L2.pay
  have HBel2 : Hid (Below w.heap.size w w3) := HBel1.out.trans (B2.mono HBel1.out.size)
  clear L2 B2 HL1 HBel1 HC2
  go_wp2_with fail
  refine (HD.out _ _ P1.out).mono ?_
  rintro e w4 ⟨rfl, q, rfl⟩
  clear HD
  go_wp2_with fail
  clear hq
  have HB3 : Hid (Below w3.heap.size w3 (w3.drewN q)) := below_drewN (Below.refl _ _) _
  go_loopw [11, 12] (fun t i wr => ∃ k : Nat, k ≤ nS ∧ i = .int .i64 k ∧ t = .bool (wantTo sf uf nS tf vf nA k) ∧ Below w3.heap.size w3 wr) (fun _ i _ => nS - (intOf i).toNat)
  case atStart => exact ⟨0, Nat.zero_le _, rfl, rfl, HB3.out⟩
  clear HB3
  case round =>
    obtain ⟨k, hk, rfl, rfl, hnx⟩ := hrel
    have PA : Hid (Pay wr w.heap.size nS sf uf) := P1.out.below hnx P1.out.lt
    have PB : Hid (Pay wr w2.heap.size nA tf vf) := P2.out.below hnx P2.out.lt
    have HBel3 : Hid (Below w.heap.size w wr) := HBel2.out.trans (hnx.mono HBel2.out.size)
    have Hnx := Pay.hide hnx
    clear P1 P2 HBel2 hnx
    cases hw : wantTo sf uf nS tf vf nA k
    · have S0 := Pay.hide (wantTo_no Hd.out hk hw)
      clear Hd HE
      go_wp2_with fail
      refine (HS.out _ _ _ PA.out PB.out).mono ?_
      rintro e w5 ⟨rfl, B5⟩
      rw [S0.out]
      go_wp2_with fail
      go_ret
      exact ⟨rfl, HBel3.out.trans (B5.mono HBel3.out.size)⟩
    · by_cases hlt : k < nS
      · have hck := PA.out.id k hlt
        have hcu := PA.out.un k hlt
        have hi1 : (k : Int) < (nS : Int) := by omega
        have Hst := Pay.hide (wantTo_step (sf := sf) (uf := uf) (nS := nS) (tf := tf) (vf := vf) (nA := nA) (k := k))
        have Hw := Pay.hide hw
        cases hh : hasIx tf vf (sf k) (uf k) nA
        · have Hn : Hid (wantTo sf uf nS tf vf nA (k + 1) = false) := by unfold Hid; rw [Hst.out, hh, Bool.and_false]
          have HL : Hid (∀ q, Calls Trym.prog 25 #[.slice (some ⟨w2.heap.size, 0, none⟩) nA nA, .string (sf k), .int .i64 (uf k)] (wr.drewN q) fun e w' => e = .returned (.bool false) ∧ w' = wr.drewN q) := fun q =>
            (HE.out (wr.drewN q) _ (PB.out.below (below_drewN (Below.refl _ _) _) PB.out.lt) (sf k) (uf k)).mono fun _ _ h => ⟨by rw [h.1, hh], h.2⟩
          clear Hst HS Hd Hw hh HE
          go_wp2
          go_quiet ((go_at_call 25; exact Calls.quiet_of_same (HL.out _)))
          go_wp2
          go_roundw
          case rel => exact ⟨k + 1, by omega, by go_num, by rw [Hn.out], below_drewN Hnx.out _⟩
          case measure => simp [intOf]; omega
        · have Hn : Hid (wantTo sf uf nS tf vf nA (k + 1) = true) := by unfold Hid; rw [Hst.out, hh, Hw.out]; rfl
          have HL : Hid (∀ q, Calls Trym.prog 25 #[.slice (some ⟨w2.heap.size, 0, none⟩) nA nA, .string (sf k), .int .i64 (uf k)] (wr.drewN q) fun e w' => e = .returned (.bool true) ∧ w' = wr.drewN q) := fun q =>
            (HE.out (wr.drewN q) _ (PB.out.below (below_drewN (Below.refl _ _) _) PB.out.lt) (sf k) (uf k)).mono fun _ _ h => ⟨by rw [h.1, hh], h.2⟩
          clear Hst HS Hd Hw hh HE
          go_wp2
          go_quiet ((go_at_call 25; exact Calls.quiet_of_same (HL.out _)))
          go_wp2
          go_roundw
          case rel => exact ⟨k + 1, by omega, by go_num, by rw [Hn.out], below_drewN Hnx.out _⟩
          case measure => simp [intOf]; omega
      · have S0 : Hid (sameOk sf uf nS tf vf nA = true) := by
          unfold Hid
          obtain rfl : k = nS := by omega
          rw [wantTo_all Hd.out, hw]
        clear Hd HE
        go_wp2_with fail
        refine (HS.out _ _ _ PA.out PB.out).mono ?_
        rintro e w5 ⟨rfl, B5⟩
        rw [S0.out]
        go_wp2_with fail
        go_ret
        exact ⟨rfl, HBel3.out.trans (B5.mono HBel3.out.size)⟩

theorem walk (w : World) (a1 : Option Addr) (n1 c1 : Nat) (sf : Nat → ByteArray) (hs : Strs w a1 n1 sf) (h1 : n1 ≤ maxLen) (a2 : Option Addr) (n2 c2 : Nat) (uf : Nat → Int) (hu : Nums w a2 n2 uf)
    (a3 : Option Addr) (n3 c3 : Nat) (tf : Nat → ByteArray) (ht : Strs w a3 n3 tf) (h3 : n3 ≤ maxLen) (a4 : Option Addr) (n4 c4 : Nat) (vf : Nat → Int) (hv : Nums w a4 n4 vf)
    (zs : ∀ k, (sf k).size ≤ maxLen) (zt : ∀ k, (tf k).size ≤ maxLen) (zv : ∀ k, (Lit.int .i64 (vf k)).wf = true) :
    Calls Trym.prog 8 #[.slice a1 n1 c1, .slice a2 n2 c2, .slice a3 n3 c3, .slice a4 n4 c4] w fun e w' => e = .returned (.bool true) ∧ Below w.heap.size w w' := by
  by_cases g1 : (n1 : Int) ≤ 4096
  · by_cases g2 : (n2 : Int) ≤ 4096
    · by_cases g3 : (n3 : Int) ≤ 4096
      · by_cases g4 : (n4 : Int) ≤ 4096
        · cases hd : distIx sf (min n1 n2)
          · exact main_not w a1 n1 c1 sf hs h1 a2 n2 c2 uf hu a3 n3 c3 tf ht h3 a4 n4 c4 vf hv g1 g2 g3 g4 _ _ rfl rfl hd
          · exact main_yes w a1 n1 c1 sf hs h1 a2 n2 c2 uf hu a3 n3 c3 tf ht h3 a4 n4 c4 vf hv g1 g2 g3 g4 _ _ rfl rfl zs zt zv hd
        · exact early w a1 n1 c1 sf hs h1 a2 n2 c2 a3 n3 c3 tf ht h3 a4 n4 c4 (.inr (.inr (.inr ⟨g1, g2, g3, by omega⟩)))
      · exact early w a1 n1 c1 sf hs h1 a2 n2 c2 a3 n3 c3 tf ht h3 a4 n4 c4 (.inr (.inr (.inl ⟨g1, g2, by omega⟩)))
    · exact early w a1 n1 c1 sf hs h1 a2 n2 c2 a3 n3 c3 tf ht h3 a4 n4 c4 (.inr (.inl ⟨g1, by omega⟩))
  · exact early w a1 n1 c1 sf hs h1 a2 n2 c2 a3 n3 c3 tf ht h3 a4 n4 c4 (.inl (by omega))
end Go.Proofs.Qxb6000375aMods.Multi
