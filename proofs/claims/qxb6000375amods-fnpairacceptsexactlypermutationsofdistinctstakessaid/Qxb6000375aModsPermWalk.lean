import Derived.Test.Qxb6000375aModsArgWalks
import Derived.Test.Qxb6000375aModsBuildWalks
import Derived.Test.Qxb6000375aModsPermPlain
import Derived.WalkSmall
import Derived.BigQuiet
import Derived.Deep.QuietTactic
namespace Go.Proofs.Qxb6000375aMods.Perm
open Go.RowKit Go.Maps Go.WideMaps Pay Pair Build
open Arg (Strs Nums)

theorem strs_below {w w' : World} {a : Option Addr} {n : Nat} {sf : Nat → ByteArray} (h : Strs w a n sf) (hb : Below w.heap.size w w') : Strs w' a n sf :=
  ⟨fun h0 => by
    obtain ⟨b, off, e, hc⟩ := h.pos h0
    exact ⟨b, off, e, fun k hk => (hb.cell (p := ⟨b, off + k, none⟩) (block_of_cell (hc k hk))).trans (hc k hk)⟩⟩
theorem nums_below {w w' : World} {a : Option Addr} {n : Nat} {zf : Nat → Int} (h : Nums w a n zf) (hb : Below w.heap.size w w') : Nums w' a n zf :=
  ⟨fun h0 => by
    obtain ⟨b, off, e, hc⟩ := h.pos h0
    exact ⟨b, off, e, fun k hk => (hb.cell (p := ⟨b, off + k, none⟩) (block_of_cell (hc k hk))).trans (hc k hk)⟩⟩

set_option maxHeartbeats 2000000 in
theorem early (w : World) (a1 : Option Addr) (n1 c1 : Nat) (sf : Nat → ByteArray) (hs : Strs w a1 n1 sf) (h1 : n1 ≤ maxLen) (a2 : Option Addr) (n2 c2 : Nat)
    (a3 : Option Addr) (n3 c3 : Nat) (tf : Nat → ByteArray) (ht : Strs w a3 n3 tf) (h3 : n3 ≤ maxLen) (a4 : Option Addr) (n4 c4 : Nat)
    (hcase : 4096 < (n1 : Int) ∨ ((n1 : Int) ≤ 4096 ∧ 4096 < (n2 : Int)) ∨ ((n1 : Int) ≤ 4096 ∧ (n2 : Int) ≤ 4096 ∧ 4096 < (n3 : Int)) ∨ ((n1 : Int) ≤ 4096 ∧ (n2 : Int) ≤ 4096 ∧ (n3 : Int) ≤ 4096 ∧ 4096 < (n4 : Int))) :
    Calls Trym.prog 7 #[.slice a1 n1 c1, .slice a2 n2 c2, .slice a3 n3 c3, .slice a4 n4 c4] w fun e w' => e = .returned (.bool true) ∧ Below w.heap.size w w' := by
  have HZ := Pay.hide (Arg.zzBytesPerm_calls w a1 n1 c1 sf hs h1 a2 n2 c2 a3 n3 c3 tf ht h3 a4 n4 c4)
  have HB1 := Pay.hide (Arg.amountBytes_calls w a1 n1 c1 sf hs h1 a2 n2 c2)
  have HB2 := Pay.hide (Arg.amountBytes_calls w a3 n3 c3 tf ht h3 a4 n4 c4)
  clear hs ht h1 h3
  rcases hcase with g | ⟨g1, g⟩ | ⟨g1, g2, g⟩ | ⟨g1, g2, g3, g⟩
  all_goals
    go_enter Trym.func7, Trym.ntmps7
    go_wp2_with fail
    refine HZ.out.mono ?_
    rintro e w0 ⟨⟨b, rfl⟩, hw⟩
    have hw' := hw.symm
    subst hw'
    cases b
    · go_wp2_with fail
      go_ret
      exact ⟨rfl, Below.refl _ _⟩
    · go_wp2_with fail
      refine HB1.out.mono ?_
      rintro e w1 ⟨⟨z1, rfl⟩, hw⟩
      have hw' := hw.symm
      subst hw'
      go_wp2_with fail
      refine HB2.out.mono ?_
      rintro e w1 ⟨⟨z2, rfl⟩, hw⟩
      have hw' := hw.symm
      subst hw'
      go_wp2_with fail
      all_goals (go_ret; exact ⟨rfl, Below.refl _ _⟩)

set_option maxHeartbeats 2000000 in
theorem main_not
    (w : World) (a1 : Option Addr) (n1 c1 : Nat) (sf : Nat → ByteArray) (hs : Strs w a1 n1 sf) (h1 : n1 ≤ maxLen) (a2 : Option Addr) (n2 c2 : Nat) (uf : Nat → Int) (hu : Nums w a2 n2 uf)
    (a3 : Option Addr) (n3 c3 : Nat) (tf : Nat → ByteArray) (ht : Strs w a3 n3 tf) (h3 : n3 ≤ maxLen) (a4 : Option Addr) (n4 c4 : Nat) (vf : Nat → Int) (hv : Nums w a4 n4 vf)
    (g1 : (n1 : Int) ≤ 4096) (g2 : (n2 : Int) ≤ 4096) (g3 : (n3 : Int) ≤ 4096) (g4 : (n4 : Int) ≤ 4096)
    (nS nA : Nat) (hnS : nS = min n1 n2) (hnA : nA = min n3 n4) (hd : distIx sf nS = false) :
    Calls Trym.prog 7 #[.slice a1 n1 c1, .slice a2 n2 c2, .slice a3 n3 c3, .slice a4 n4 c4] w fun e w' => e = .returned (.bool true) ∧ Below w.heap.size w w' := by
  have HZ := Pay.hide (Arg.zzBytesPerm_calls w a1 n1 c1 sf hs h1 a2 n2 c2 a3 n3 c3 tf ht h3 a4 n4 c4)
  have HB1 := Pay.hide (Arg.amountBytes_calls w a1 n1 c1 sf hs h1 a2 n2 c2)
  have HB2 := Pay.hide (Arg.amountBytes_calls w a3 n3 c3 tf ht h3 a4 n4 c4)
  have HC1 := Pay.hide (buildAmounts_calls w a1 n1 c1 sf hs a2 n2 c2 uf hu (by omega) (by omega) nS hnS)
  have HC2 := Pay.hide (fun w' (hb : Below w.heap.size w w') => buildAmounts_calls w' a3 n3 c3 tf (strs_below ht hb) a4 n4 c4 vf (nums_below hv hb) (by omega) (by omega) nA hnA)
  have HD := Pay.hide (fun w' b (hp : Pay w' b nS sf uf) => distinctIDs_calls w' b nS nS sf uf hp (by omega))
  have hSn : (nS : Int) ≤ 4096 := by omega
  have hAn : (nA : Int) ≤ 4096 := by omega

  clear hs ht h1 h3 hu hv hnS hnA
  go_enter Trym.func7, Trym.ntmps7
  go_wp2_with fail
  refine HZ.out.mono ?_
  rintro e w0 ⟨⟨b, rfl⟩, hw⟩
  have hw' := hw.symm
  subst hw'
  cases b
  · go_wp2_with fail
    go_ret
    exact ⟨rfl, Below.refl _ _⟩
  go_wp2_with fail
  refine HB1.out.mono ?_
  rintro e w1 ⟨⟨z1, rfl⟩, hw⟩
  have hw' := hw.symm
  subst hw'
  go_wp2_with fail
  refine HB2.out.mono ?_
  rintro e w1 ⟨⟨z2, rfl⟩, hw⟩
  have hw' := hw.symm
  subst hw'
  clear HZ HB1 HB2
  go_wp2_with fail
  · go_ret
    exact ⟨rfl, Below.refl _ _⟩
  refine HC1.out.mono ?_
  rintro e w2 ⟨rfl, L1, B1⟩
  have HL1 := Pay.hide L1
  have HBel1 := Pay.hide B1
  clear L1 B1 HC1
  go_wp2_with fail
  refine (HC2.out _ HBel1.out).mono ?_
  rintro e w3 ⟨rfl, L2, B2⟩
  have P1 : Hid (Pay w3 w.heap.size nS sf uf) := HL1.out.pay.below B2 HL1.out.pay.lt
  have P2 : Hid (Pay w3 w2.heap.size nA tf vf) := L2.pay
  have HBel2 : Hid (Below w.heap.size w w3) := HBel1.out.trans (B2.mono HBel1.out.size)
  clear L2 B2 HL1 HBel1 HC2
  go_wp2_with fail
  refine (HD.out _ _ P1.out).mono ?_
  rintro e w4 ⟨rfl, q, rfl⟩
  clear HD
  go_wp2_with fail
  go_ret
  exact ⟨rfl, below_drewN HBel2.out _⟩

theorem countID_at (w : World) (b n c : Nat) (idf : Nat → ByteArray) (unf : Nat → Int) (hp : Pay w b n idf unf) (hn : n ≤ 4096) (x : ByteArray) (hj : countIx idf x n = 1) :
    Calls Trym.prog 23 #[.slice (some ⟨b, 0, none⟩) n c, .string x] w fun e w' => e = .returned (.int .i64 1) ∧ w' = w :=
  (countID_calls w b n c idf unf hp hn x).mono fun _ _ h => ⟨by rw [h.1, hj]; rfl, h.2⟩
theorem lastIndexID_at (w : World) (b n c : Nat) (idf : Nat → ByteArray) (unf : Nat → Int) (hp : Pay w b n idf unf) (hn : n ≤ 4096) (x : ByteArray) (j : Nat) (hj : lastIx idf x n = (j : Int)) :
    Calls Trym.prog 20 #[.slice (some ⟨b, 0, none⟩) n c, .string x] w fun e w' => e = .returned (.int .i64 (j : Int)) ∧ w' = w :=
  (lastIndexID_calls w b n c idf unf hp hn x).mono fun _ _ h => ⟨by rw [h.1, hj], h.2⟩

set_option maxHeartbeats 4000000 in
theorem main_no
    (w : World) (a1 : Option Addr) (n1 c1 : Nat) (sf : Nat → ByteArray) (hs : Strs w a1 n1 sf) (h1 : n1 ≤ maxLen) (a2 : Option Addr) (n2 c2 : Nat) (uf : Nat → Int) (hu : Nums w a2 n2 uf)
    (a3 : Option Addr) (n3 c3 : Nat) (tf : Nat → ByteArray) (ht : Strs w a3 n3 tf) (h3 : n3 ≤ maxLen) (a4 : Option Addr) (n4 c4 : Nat) (vf : Nat → Int) (hv : Nums w a4 n4 vf)
    (g1 : (n1 : Int) ≤ 4096) (g2 : (n2 : Int) ≤ 4096) (g3 : (n3 : Int) ≤ 4096) (g4 : (n4 : Int) ≤ 4096)
    (nS nA : Nat) (hnS : nS = min n1 n2) (hnA : nA = min n3 n4)
    (zs : ∀ k, (sf k).size ≤ maxLen) (zt : ∀ k, (tf k).size ≤ maxLen) (zv : ∀ k, (Lit.int .i64 (vf k)).wf = true) (hd : distIx sf nS = true) (hok : pairOk sf tf nS nA = false) :
    Calls Trym.prog 7 #[.slice a1 n1 c1, .slice a2 n2 c2, .slice a3 n3 c3, .slice a4 n4 c4] w fun e w' => e = .returned (.bool true) ∧ Below w.heap.size w w' := by
  have HZ := Pay.hide (Arg.zzBytesPerm_calls w a1 n1 c1 sf hs h1 a2 n2 c2 a3 n3 c3 tf ht h3 a4 n4 c4)
  have HB1 := Pay.hide (Arg.amountBytes_calls w a1 n1 c1 sf hs h1 a2 n2 c2)
  have HB2 := Pay.hide (Arg.amountBytes_calls w a3 n3 c3 tf ht h3 a4 n4 c4)
  have HC1 := Pay.hide (buildAmounts_calls w a1 n1 c1 sf hs a2 n2 c2 uf hu (by omega) (by omega) nS hnS)
  have HC2 := Pay.hide (fun w' (hb : Below w.heap.size w w') => buildAmounts_calls w' a3 n3 c3 tf (strs_below ht hb) a4 n4 c4 vf (nums_below hv hb) (by omega) (by omega) nA hnA)
  have HD := Pay.hide (fun w' b (hp : Pay w' b nS sf uf) => distinctIDs_calls w' b nS nS sf uf hp (by omega))
  have hSn : (nS : Int) ≤ 4096 := by omega
  have hAn : (nA : Int) ≤ 4096 := by omega
  have HP := Pay.hide (fun w' b b' (hp : Pay w' b nS sf uf) (hp' : Pay w' b' nA tf vf) => zzPair_no w' b nS nS sf uf hp b' nA nA tf vf hp' (by omega) (by omega) zs zt zv hok)
  have Hok := Pay.hide hok
  clear zs zt zv hok
  clear hs ht h1 h3 hu hv hnS hnA
  go_enter Trym.func7, Trym.ntmps7
  go_wp2_with fail
  refine HZ.out.mono ?_
  rintro e w0 ⟨⟨b, rfl⟩, hw⟩
  have hw' := hw.symm
  subst hw'
  cases b
  · go_wp2_with fail
    go_ret
    exact ⟨rfl, Below.refl _ _⟩
  go_wp2_with fail
  refine HB1.out.mono ?_
  rintro e w1 ⟨⟨z1, rfl⟩, hw⟩
  have hw' := hw.symm
  subst hw'
  go_wp2_with fail
  refine HB2.out.mono ?_
  rintro e w1 ⟨⟨z2, rfl⟩, hw⟩
  have hw' := hw.symm
  subst hw'
  clear HZ HB1 HB2
  go_wp2_with fail
  · go_ret
    exact ⟨rfl, Below.refl _ _⟩
  refine HC1.out.mono ?_
  rintro e w2 ⟨rfl, L1, B1⟩
  have HL1 := Pay.hide L1
  have HBel1 := Pay.hide B1
  clear L1 B1 HC1
  go_wp2_with fail
  refine (HC2.out _ HBel1.out).mono ?_
  rintro e w3 ⟨rfl, L2, B2⟩
  have P1 : Hid (Pay w3 w.heap.size nS sf uf) := HL1.out.pay.below B2 HL1.out.pay.lt
  have P2 : Hid (Pay w3 w2.heap.size nA tf vf) := L2.pay
  have HBel2 : Hid (Below w.heap.size w w3) := HBel1.out.trans (B2.mono HBel1.out.size)
  clear L2 B2 HL1 HBel1 HC2
  go_wp2_with fail
  refine (HD.out _ _ P1.out).mono ?_
  rintro e w4 ⟨rfl, q, rfl⟩
  clear HD
  have PA : Hid (Pay (w3.drewN q) w.heap.size nS sf uf) := P1.out.below (below_drewN (Below.refl _ _) _) P1.out.lt
  have PB : Hid (Pay (w3.drewN q) w2.heap.size nA tf vf) := P2.out.below (below_drewN (Below.refl _ _) _) P2.out.lt
  have HBel3 : Hid (Below w.heap.size w (w3.drewN q)) := below_drewN HBel2.out _
  clear P1 P2 HBel2
  go_wp2_with fail
  refine (HP.out _ _ _ PA.out PB.out).mono ?_
  rintro e w5 ⟨rfl, B5⟩
  have QA : Hid (Pay w5 w.heap.size nS sf uf) := PA.out.below B5 PA.out.lt
  have QB : Hid (Pay w5 w2.heap.size nA tf vf) := PB.out.below B5 PB.out.lt
  have HBel5 : Hid (Below w.heap.size w w5) := HBel3.out.trans (B5.mono HBel3.out.size)
  clear PA PB HBel3 B5 HP
  cases hq : ((nS : Int) == (nA : Int))
  all_goals
    have Hq := Pay.hide hq
    go_wp2_with fail
    clear hq
    go_loop [13, 14] (fun t i => ∃ k : Nat, k ≤ nS ∧ i = .int .i64 k ∧ ∃ b : Bool, t = .bool b ∧ Hid (b = true → nS = nA ∧ ∀ p, p < k → countIx tf (sf p) nA = 1)) (fun _ i => nS - (intOf i).toNat)
    case atStart => exact ⟨0, Nat.zero_le _, rfl, _, rfl, fun h => ⟨by have h2 := Hq.out; first | (simp at h; done) | (simp at h2; omega), fun p hp => by omega⟩⟩
    case round =>
      obtain ⟨k, hk, rfl, b, rfl, hb⟩ := hrel
      cases b
      · go_wp2_with fail
        go_ret
        exact ⟨rfl, HBel5.out⟩
      · by_cases hlt : k < nS
        · have hck := QA.out.id k hlt
          by_cases hm : countIx tf (sf k) nA = 1
          · have hb2 : Hid (nS = nA ∧ ∀ p, p < k + 1 → countIx tf (sf p) nA = 1) := ⟨(hb.out rfl).1, fun p hp => by
              by_cases e : p = k
              · subst e; exact hm
              · exact (hb.out rfl).2 p (by omega)⟩
            have HL := Pay.hide (countID_at w5 w2.heap.size nA nA tf vf QB.out (by omega) (sf k) hm)
            clear hm hb QA QB Hok Hq
            go_wp2_with fail
            refine HL.out.mono ?_
            rintro e w6 ⟨rfl, hw⟩
            have hw' := hw.symm
            subst hw'
            go_wp2_with fail
            go_round
            case rel => exact ⟨k + 1, by omega, by go_num, true, rfl, fun _ => hb2.out⟩
            case measure => simp [intOf]; omega
          · have HL := Pay.hide (countID_calls w5 w2.heap.size nA nA tf vf QB.out (by omega) (sf k))
            generalize countIx tf (sf k) nA = c at HL hm
            have hne : ((c : Int) != 1) = true := by rw [bne_iff_ne]; omega
            clear hm hb QA QB Hok Hq
            go_wp2_with fail
            refine HL.out.mono ?_
            rintro e w6 ⟨rfl, hw⟩
            have hw' := hw.symm
            subst hw'
            go_wp2_with fail
            go_round
            case rel => exact ⟨k + 1, by omega, by go_num, false, rfl, fun h => by cases h⟩
            case measure => simp [intOf]; omega
        · exfalso
          have h2 := hb.out rfl
          have h3 : pairOk sf tf nS nA = true := by
            unfold pairOk
            rw [decide_eq_true_eq]
            exact ⟨h2.1.symm, fun p hp => (count_pos _ _ _).1 (by have := h2.2 p (by omega); omega)⟩
          rw [Hok.out] at h3
          cases h3

set_option maxHeartbeats 4000000 in
theorem main_yes
    (w : World) (a1 : Option Addr) (n1 c1 : Nat) (sf : Nat → ByteArray) (hs : Strs w a1 n1 sf) (h1 : n1 ≤ maxLen) (a2 : Option Addr) (n2 c2 : Nat) (uf : Nat → Int) (hu : Nums w a2 n2 uf)
    (a3 : Option Addr) (n3 c3 : Nat) (tf : Nat → ByteArray) (ht : Strs w a3 n3 tf) (h3 : n3 ≤ maxLen) (a4 : Option Addr) (n4 c4 : Nat) (vf : Nat → Int) (hv : Nums w a4 n4 vf)
    (g1 : (n1 : Int) ≤ 4096) (g2 : (n2 : Int) ≤ 4096) (g3 : (n3 : Int) ≤ 4096) (g4 : (n4 : Int) ≤ 4096)
    (nS nA : Nat) (hnS : nS = min n1 n2) (hnA : nA = min n3 n4)
    (zs : ∀ k, (sf k).size ≤ maxLen) (zt : ∀ k, (tf k).size ≤ maxLen) (zv : ∀ k, (Lit.int .i64 (vf k)).wf = true) (hd : distIx sf nS = true) (hok : pairOk sf tf nS nA = true) :
    Calls Trym.prog 7 #[.slice a1 n1 c1, .slice a2 n2 c2, .slice a3 n3 c3, .slice a4 n4 c4] w fun e w' => e = .returned (.bool true) ∧ Below w.heap.size w w' := by
  have HZ := Pay.hide (Arg.zzBytesPerm_calls w a1 n1 c1 sf hs h1 a2 n2 c2 a3 n3 c3 tf ht h3 a4 n4 c4)
  have HB1 := Pay.hide (Arg.amountBytes_calls w a1 n1 c1 sf hs h1 a2 n2 c2)
  have HB2 := Pay.hide (Arg.amountBytes_calls w a3 n3 c3 tf ht h3 a4 n4 c4)
  have HC1 := Pay.hide (buildAmounts_calls w a1 n1 c1 sf hs a2 n2 c2 uf hu (by omega) (by omega) nS hnS)
  have HC2 := Pay.hide (fun w' (hb : Below w.heap.size w w') => buildAmounts_calls w' a3 n3 c3 tf (strs_below ht hb) a4 n4 c4 vf (nums_below hv hb) (by omega) (by omega) nA hnA)
  have HD := Pay.hide (fun w' b (hp : Pay w' b nS sf uf) => distinctIDs_calls w' b nS nS sf uf hp (by omega))
  have hSn : (nS : Int) ≤ 4096 := by omega
  have hAn : (nA : Int) ≤ 4096 := by omega
  have HP := Pay.hide (fun w' b b' (hp : Pay w' b nS sf uf) (hp' : Pay w' b' nA tf vf) => zzPair_yes w' b nS nS sf uf hp b' nA nA tf vf hp' (by omega) (by omega) zs zt zv hok)
  have Hok : Hid (nA = nS ∧ ∀ k, k < nS → memIx tf (sf k) nA = true) := by unfold pairOk at hok; rw [decide_eq_true_eq] at hok; exact hok
  have Hd := Pay.hide (dist_of hd)
  have Hzs := Pay.hide zs
  clear zs zt zv hok
  clear hs ht h1 h3 hu hv hnS hnA
  obtain rfl : nS = nA := Hok.out.1.symm
  have hq : ((nS : Int) == (nS : Int)) = true := by simp
  go_enter Trym.func7, Trym.ntmps7
  go_wp2_with fail
  refine HZ.out.mono ?_
  rintro e w0 ⟨⟨b, rfl⟩, hw⟩
  have hw' := hw.symm
  subst hw'
  cases b
  · go_wp2_with fail
    go_ret
    exact ⟨rfl, Below.refl _ _⟩
  go_wp2_with fail
  refine HB1.out.mono ?_
  rintro e w1 ⟨⟨z1, rfl⟩, hw⟩
  have hw' := hw.symm
  subst hw'
  go_wp2_with fail
  refine HB2.out.mono ?_
  rintro e w1 ⟨⟨z2, rfl⟩, hw⟩
  have hw' := hw.symm
  subst hw'
  clear HZ HB1 HB2
  go_wp2_with fail
  · go_ret
    exact ⟨rfl, Below.refl _ _⟩
  refine HC1.out.mono ?_
  rintro e w2 ⟨rfl, L1, B1⟩
  have HL1 := Pay.hide L1
  have HBel1 := Pay.hide B1
  clear L1 B1 HC1
  go_wp2_with fail
  refine (HC2.out _ HBel1.out).mono ?_
  rintro e w3 ⟨rfl, L2, B2⟩
  have P1 : Hid (Pay w3 w.heap.size nS sf uf) := HL1.out.pay.below B2 HL1.out.pay.lt
  have P2 : Hid (Pay w3 w2.heap.size nS tf vf) := L2.pay
  have HBel2 : Hid (Below w.heap.size w w3) := HBel1.out.trans (B2.mono HBel1.out.size)
  clear L2 B2 HL1 HBel1 HC2
  go_wp2_with fail
  refine (HD.out _ _ P1.out).mono ?_
  rintro e w4 ⟨rfl, q, rfl⟩
  clear HD
  have PA : Hid (Pay (w3.drewN q) w.heap.size nS sf uf) := P1.out.below (below_drewN (Below.refl _ _) _) P1.out.lt
  have PB : Hid (Pay (w3.drewN q) w2.heap.size nS tf vf) := P2.out.below (below_drewN (Below.refl _ _) _) P2.out.lt
  have HBel3 : Hid (Below w.heap.size w (w3.drewN q)) := below_drewN HBel2.out _
  clear P1 P2 HBel2
  go_wp2_with fail
  refine (HP.out _ _ _ PA.out PB.out).mono ?_
  rintro e w5 ⟨rfl, O5, B5⟩
  have QA : Hid (Pay w5 w.heap.size nS sf uf) := PA.out.below B5 PA.out.lt
  have QB : Hid (Pay w5 w2.heap.size nS tf vf) := PB.out.below B5 PB.out.lt
  have HBel5 : Hid (Below w.heap.size w w5) := HBel3.out.trans (B5.mono HBel3.out.size)
  have HO := Pay.hide O5
  have C1 := Pay.hide (count_one Hd.out Hok.out.2)
  have C2 := Pay.hide (count_back Hd.out Hok.out.2)
  have hsz : ((Maps.size (mapTo tf vf nS) : Int) != (nS : Int)) = false := by rw [size_mapTo, distN_dist (dist_back Hd.out Hok.out.2)]; simp
  clear PA PB HBel3 B5 HP O5 Hd
  go_wp2_with fail
  go_loop [13, 14] (fun t i => ∃ k : Nat, k ≤ nS ∧ i = .int .i64 k ∧ t = .bool true) (fun _ i => nS - (intOf i).toNat)
  case atStart => exact ⟨0, Nat.zero_le _, rfl, rfl⟩
  case round =>
    obtain ⟨k, hk, rfl, rfl⟩ := hrel
    by_cases hlt : k < nS
    · have hck := QA.out.id k hlt
      have HL := Pay.hide (countID_at w5 w2.heap.size nS nS tf vf QB.out (by omega) (sf k) (C1.out k hlt))
      clear QA QB Hok C1 C2 hsz
      go_wp2_with fail
      refine HL.out.mono ?_
      rintro e w6 ⟨rfl, hw⟩
      have hw' := hw.symm
      subst hw'
      go_wp2_with fail
      go_round
      case rel => exact ⟨k + 1, by omega, by go_num, rfl⟩
      case measure => simp [intOf]; omega
    · clear C1
      go_wp2_with fail
      go_loop [15] (fun i => ∃ k : Nat, k ≤ nS ∧ i = .int .i64 k) (fun i => nS - (intOf i).toNat)
      case atStart => exact ⟨0, Nat.zero_le _, rfl⟩
      case round =>
        obtain ⟨m, hm, rfl⟩ := hrel
        by_cases hlt2 : m < nS
        · have hck := QB.out.id m hlt2
          have HL := Pay.hide (countID_at w5 w.heap.size nS nS sf uf QA.out (by omega) (tf m) (C2.out m hlt2))
          clear QA QB Hok C2 hsz
          go_wp2_with fail
          refine HL.out.mono ?_
          rintro e w6 ⟨rfl, hw⟩
          have hw' := hw.symm
          subst hw'
          go_wp2_with fail
          go_round
          case rel => exact ⟨m + 1, by omega, by go_num⟩
          case measure => simp [intOf]; omega
        · clear C2
          go_wp2_with (at_len; refine wpList_len_own _ rfl _ 31 rfl 9 2 Trym.underlying31 (plainElem Trym.prog 2) w3.heap.size nS _ rfl HO.out ?_)
          clear hsz
          go_loopw [16] (fun i wr => ∃ p : Nat, p ≤ nS ∧ i = .int .i64 p ∧ wr.ownsMap Trym.prog 9 (plainElem Trym.prog 2) w3.heap.size nS (mapTo tf vf nS) ∧ Below w5.heap.size w5 wr) (fun i _ => nS - (intOf i).toNat)
          case atStart => exact ⟨0, Nat.zero_le _, rfl, HO.out, Below.refl _ _⟩
          clear HO
          case round =>
            obtain ⟨p, hp, rfl, ho, hnx⟩ := hrel
            have HO := Pay.hide ho
            have Hnx := Pay.hide hnx
            have RA : Hid (Pay wr w.heap.size nS sf uf) := QA.out.below hnx QA.out.lt
            have RB : Hid (Pay wr w2.heap.size nS tf vf) := QB.out.below hnx QB.out.lt
            have HBel6 : Hid (Below w.heap.size w wr) := HBel5.out.trans (hnx.mono HBel5.out.size)
            clear QA QB HBel5 ho hnx
            by_cases hlt3 : p < nS
            · obtain ⟨j, hj, hjid, hjl, hju⟩ := last_of_mem tf vf (sf p) nS (Hok.out.2 p hlt3)
              have HL := Pay.hide (lastIndexID_at wr w2.heap.size nS nS tf vf RB.out (by omega) (sf p) j hjl)
              have hck := RA.out.id p hlt3
              have hcj := RB.out.un j hj
              have hkey := key_ok (Hzs.out p)
              have hlook : ∀ q, (Instr.lookup 31 (.map (some w3.heap.size)) (.string (sf p)) false).run Trym.prog (wr.drewN q) = .ok (.int .i64 (vf j)) (wr.drewN q) := fun q => by
                have ho : (wr.drewN q).ownsMap Trym.prog 9 (plainElem Trym.prog 2) w3.heap.size nS (mapTo tf vf nS) := HO.out
                obtain ⟨c, hrun, hat, _⟩ := ho.lookup_int law Trym.underlying31 Trym.underlying2 (zeroE _) hkey
                have hat2 := hat.symm.trans (at_mapTo tf vf (sf p) nS)
                rw [hju] at hat2
                obtain rfl : c = vf j := by simpa using hat2
                exact hrun
              have hi1 : (p : Int) < (nS : Int) := by omega
              have hi2 : (j : Int) < (nS : Int) := by omega
              clear hjid hjl hju hkey RA RB Hok Hzs
              go_wp2_with fail
              refine HL.out.mono ?_
              rintro e w6 ⟨rfl, hw⟩
              have hw' := hw.symm
              subst hw'
              go_wp2_with fail
              go_quiet (fail)
              go_wp2_with fail
              go_roundw
              case rel => exact ⟨p + 1, by omega, by go_num, HO.out, below_drewN Hnx.out _⟩
              case measure => simp [intOf]; omega
            · go_wp2_with fail
              go_ret
              exact ⟨rfl, HBel6.out⟩

theorem walk (w : World) (a1 : Option Addr) (n1 c1 : Nat) (sf : Nat → ByteArray) (hs : Strs w a1 n1 sf) (h1 : n1 ≤ maxLen) (a2 : Option Addr) (n2 c2 : Nat) (uf : Nat → Int) (hu : Nums w a2 n2 uf)
    (a3 : Option Addr) (n3 c3 : Nat) (tf : Nat → ByteArray) (ht : Strs w a3 n3 tf) (h3 : n3 ≤ maxLen) (a4 : Option Addr) (n4 c4 : Nat) (vf : Nat → Int) (hv : Nums w a4 n4 vf)
    (zs : ∀ k, (sf k).size ≤ maxLen) (zt : ∀ k, (tf k).size ≤ maxLen) (zv : ∀ k, (Lit.int .i64 (vf k)).wf = true) :
    Calls Trym.prog 7 #[.slice a1 n1 c1, .slice a2 n2 c2, .slice a3 n3 c3, .slice a4 n4 c4] w fun e w' => e = .returned (.bool true) ∧ Below w.heap.size w w' := by
  by_cases g1 : (n1 : Int) ≤ 4096
  · by_cases g2 : (n2 : Int) ≤ 4096
    · by_cases g3 : (n3 : Int) ≤ 4096
      · by_cases g4 : (n4 : Int) ≤ 4096
        · cases hd : distIx sf (min n1 n2)
          · exact main_not w a1 n1 c1 sf hs h1 a2 n2 c2 uf hu a3 n3 c3 tf ht h3 a4 n4 c4 vf hv g1 g2 g3 g4 _ _ rfl rfl hd
          · cases hok : pairOk sf tf (min n1 n2) (min n3 n4)
            · exact main_no w a1 n1 c1 sf hs h1 a2 n2 c2 uf hu a3 n3 c3 tf ht h3 a4 n4 c4 vf hv g1 g2 g3 g4 _ _ rfl rfl zs zt zv hd hok
            · exact main_yes w a1 n1 c1 sf hs h1 a2 n2 c2 uf hu a3 n3 c3 tf ht h3 a4 n4 c4 vf hv g1 g2 g3 g4 _ _ rfl rfl zs zt zv hd hok
        · exact early w a1 n1 c1 sf hs h1 a2 n2 c2 a3 n3 c3 tf ht h3 a4 n4 c4 (.inr (.inr (.inr ⟨g1, g2, g3, by omega⟩)))
      · exact early w a1 n1 c1 sf hs h1 a2 n2 c2 a3 n3 c3 tf ht h3 a4 n4 c4 (.inr (.inr (.inl ⟨g1, g2, by omega⟩)))
    · exact early w a1 n1 c1 sf hs h1 a2 n2 c2 a3 n3 c3 tf ht h3 a4 n4 c4 (.inr (.inl ⟨g1, by omega⟩))
  · exact early w a1 n1 c1 sf hs h1 a2 n2 c2 a3 n3 c3 tf ht h3 a4 n4 c4 (.inl (by omega))
end Go.Proofs.Qxb6000375aMods.Perm
