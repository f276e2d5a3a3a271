import Derived.Test.Qxb6000375aModsArgWalks
import Derived.Test.Qxb6000375aModsBuildWalks
import Derived.Test.Qxb6000375aModsPairPlain
import Derived.WalkSpells
namespace Go.Proofs.Qxb6000375aMods.LastWins
open Go.RowKit Go.Maps Go.WideMaps Pay Pair Build
open Arg (Strs Nums)

theorem strs_below {w w' : World} {a : Option Addr} {n : Nat} {sf : Nat → ByteArray} (h : Strs w a n sf) (hb : Below w.heap.size w w') : Strs w' a n sf :=
  ⟨fun h0 => by
    obtain ⟨b, off, e, hc⟩ := h.pos h0
    exact ⟨b, off, e, fun k hk => (hb.cell (p := ⟨b, off + k, none⟩) (block_of_cell (hc k hk))).trans (hc k hk)⟩⟩
theorem nums_below {w w' : World} {a : Option Addr} {n : Nat} {zf : Nat → Int} (h : Nums w a n zf) (hb : Below w.heap.size w w') : Nums w' a n zf :=
  ⟨fun h0 => by
    obtain ⟨b, off, e, hc⟩ := h.pos h0
    exact ⟨b, off, e, fun k hk => (hb.cell (p := ⟨b, off + k, none⟩) (block_of_cell (hc k hk))).trans (hc k hk)⟩⟩

set_option maxHeartbeats 2000000 in
theorem early (w : World) (a1 : Option Addr) (n1 c1 : Nat) (sf : Nat → ByteArray) (hs : Strs w a1 n1 sf) (h1 : n1 ≤ maxLen) (a2 : Option Addr) (n2 c2 : Nat)
    (a3 : Option Addr) (n3 c3 : Nat) (tf : Nat → ByteArray) (ht : Strs w a3 n3 tf) (h3 : n3 ≤ maxLen) (a4 : Option Addr) (n4 c4 : Nat)
    (hcase : 4096 < (n1 : Int) ∨ ((n1 : Int) ≤ 4096 ∧ 4096 < (n2 : Int)) ∨ ((n1 : Int) ≤ 4096 ∧ (n2 : Int) ≤ 4096 ∧ 4096 < (n3 : Int)) ∨ ((n1 : Int) ≤ 4096 ∧ (n2 : Int) ≤ 4096 ∧ (n3 : Int) ≤ 4096 ∧ 4096 < (n4 : Int))) :
    Calls Trym.prog 6 #[.slice a1 n1 c1, .slice a2 n2 c2, .slice a3 n3 c3, .slice a4 n4 c4] w fun e w' => e = .returned (.bool true) ∧ Below w.heap.size w w' := by
  have HZ := Pay.hide (Arg.zzBytesPair_calls w a1 n1 c1 sf hs h1 a2 n2 c2 a3 n3 c3 tf ht h3 a4 n4 c4)
  have HB1 := Pay.hide (Arg.amountBytes_calls w a1 n1 c1 sf hs h1 a2 n2 c2)
  have HB2 := Pay.hide (Arg.amountBytes_calls w a3 n3 c3 tf ht h3 a4 n4 c4)
  clear hs ht h1 h3
  rcases hcase with g | ⟨g1, g⟩ | ⟨g1, g2, g⟩ | ⟨g1, g2, g3, g⟩
  all_goals
    go_enter Trym.func6, Trym.ntmps6
    go_wp2_with fail
    refine HZ.out.mono ?_
    rintro e w' ⟨⟨b, rfl⟩, hw⟩
    subst hw
    cases b
    · go_wp2_with fail
      go_ret
      exact ⟨rfl, Below.refl _ _⟩
    · go_wp2_with fail
      refine HB1.out.mono ?_
      rintro e w1 ⟨⟨z1, rfl⟩, hw⟩
      subst hw
      go_wp2_with fail
      refine HB2.out.mono ?_
      rintro e w1 ⟨⟨z2, rfl⟩, hw⟩
      subst hw
      go_wp2_with fail
      all_goals (go_ret; exact ⟨rfl, Below.refl _ _⟩)
theorem lastIndexID_at (w : World) (b n c : Nat) (idf : Nat → ByteArray) (unf : Nat → Int) (hp : Pay w b n idf unf) (hn : n ≤ 4096) (x : ByteArray) (j : Nat) (hj : lastIx idf x n = (j : Int)) :
    Calls Trym.prog 20 #[.slice (some ⟨b, 0, none⟩) n c, .string x] w fun e w' => e = .returned (.int .i64 (j : Int)) ∧ w' = w :=
  (lastIndexID_calls w b n c idf unf hp hn x).mono fun _ _ h => ⟨by rw [h.1, hj], h.2⟩
theorem lastIndexID_no (w : World) (b n c : Nat) (idf : Nat → ByteArray) (unf : Nat → Int) (hp : Pay w b n idf unf) (hn : n ≤ 4096) (x : ByteArray) (hj : lastIx idf x n = -1) :
    Calls Trym.prog 20 #[.slice (some ⟨b, 0, none⟩) n c, .string x] w fun e w' => e = .returned (.int .i64 (-1)) ∧ w' = w :=
  (lastIndexID_calls w b n c idf unf hp hn x).mono fun _ _ h => ⟨by rw [h.1, hj], h.2⟩

set_option maxHeartbeats 4000000 in
theorem main_no (w : World) (a1 : Option Addr) (n1 c1 : Nat) (sf : Nat → ByteArray) (hs : Strs w a1 n1 sf) (h1 : n1 ≤ maxLen) (a2 : Option Addr) (n2 c2 : Nat) (uf : Nat → Int) (hu : Nums w a2 n2 uf)
    (a3 : Option Addr) (n3 c3 : Nat) (tf : Nat → ByteArray) (ht : Strs w a3 n3 tf) (h3 : n3 ≤ maxLen) (a4 : Option Addr) (n4 c4 : Nat) (vf : Nat → Int) (hv : Nums w a4 n4 vf)
    (g1 : (n1 : Int) ≤ 4096) (g2 : (n2 : Int) ≤ 4096) (g3 : (n3 : Int) ≤ 4096) (g4 : (n4 : Int) ≤ 4096)
    (zs : ∀ k, (sf k).size ≤ maxLen) (zt : ∀ k, (tf k).size ≤ maxLen) (zv : ∀ k, (Lit.int .i64 (vf k)).wf = true)
    (nS nA : Nat) (hnS : nS = min n1 n2) (hnA : nA = min n3 n4) (hok : pairOk sf tf nS nA = false) :
    Calls Trym.prog 6 #[.slice a1 n1 c1, .slice a2 n2 c2, .slice a3 n3 c3, .slice a4 n4 c4] w fun e w' => e = .returned (.bool true) ∧ Below w.heap.size w w' := by
  have HZ := Pay.hide (Arg.zzBytesPair_calls w a1 n1 c1 sf hs h1 a2 n2 c2 a3 n3 c3 tf ht h3 a4 n4 c4)
  have HB1 := Pay.hide (Arg.amountBytes_calls w a1 n1 c1 sf hs h1 a2 n2 c2)
  have HB2 := Pay.hide (Arg.amountBytes_calls w a3 n3 c3 tf ht h3 a4 n4 c4)
  have HC1 := Pay.hide (buildAmounts_calls w a1 n1 c1 sf hs a2 n2 c2 uf hu (by omega) (by omega) nS hnS)
  have HC2 := Pay.hide (fun w' (hb : Below w.heap.size w w') => buildAmounts_calls w' a3 n3 c3 tf (strs_below ht hb) a4 n4 c4 vf (nums_below hv hb) (by omega) (by omega) nA hnA)
  have HP := Pay.hide (fun w' b b' (hp : Pay w' b nS sf uf) (hp' : Pay w' b' nA tf vf) => zzPair_no w' b nS nS sf uf hp b' nA nA tf vf hp' (by omega) (by omega) zs zt zv hok)
  have hSn : (nS : Int) ≤ 4096 := by omega
  have hAn : (nA : Int) ≤ 4096 := by omega
  have Hok := Pay.hide hok
  clear hs ht h1 h3 hu hv zs zt zv hnS hnA hok
  have hnil := fun w => run_eql_map_nil (P := Trym.prog) w 31 9 2 none Trym.underlying31
  go_enter Trym.func6, Trym.ntmps6
  go_wp2_with fail
  refine HZ.out.mono ?_
  rintro e w0 ⟨⟨b, rfl⟩, hw⟩
  have hw' := hw.symm
  subst hw'
  cases b
  · go_wp2_with fail
    go_ret
    exact ⟨rfl, Below.refl _ _⟩
  go_wp2_with fail
  refine HB1.out.mono ?_
  rintro e w1 ⟨⟨z1, rfl⟩, hw⟩
  have hw' := hw.symm
  subst hw'
  go_wp2_with fail
  refine HB2.out.mono ?_
  rintro e w1 ⟨⟨z2, rfl⟩, hw⟩
  have hw' := hw.symm
  subst hw'
  clear HZ HB1 HB2
  go_wp2_with fail
  · go_ret
    exact ⟨rfl, Below.refl _ _⟩
  refine HC1.out.mono ?_
  rintro e w2 ⟨rfl, L1, B1⟩
  have HL1 := Pay.hide L1
  have HBel1 := Pay.hide B1
  clear L1 B1 HC1
  go_wp2_with fail
  refine (HC2.out _ HBel1.out).mono ?_
  rintro e w3 ⟨rfl, L2, B2⟩
  have P1 : Hid (Pay w3 w.heap.size nS sf uf) := HL1.out.pay.below B2 HL1.out.pay.lt
  have P2 : Hid (Pay w3 w2.heap.size nA tf vf) := L2.pay
  have HBel2 : Hid (Below w.heap.size w w3) := HBel1.out.trans (B2.mono HBel1.out.size)
  clear L2 B2 HL1 HBel1 HC2
  go_wp2_with fail
  refine (HP.out _ _ _ P1.out P2.out).mono ?_
  rintro e w4 ⟨rfl, B3⟩
  have Q1 : Hid (Pay w4 w.heap.size nS sf uf) := P1.out.below B3 P1.out.lt
  have Q2 : Hid (Pay w4 w2.heap.size nA tf vf) := P2.out.below B3 P2.out.lt
  have HBel3 : Hid (Below w.heap.size w w4) := HBel2.out.trans (B3.mono HBel2.out.size)
  clear B3 P1 P2 HBel2 HP
  cases hq : ((nS : Int) == (nA : Int))
  all_goals
    have Hq := Pay.hide hq
    go_wp2_with fail
    clear hq
    go_loop [13, 14] (fun t i => ∃ k : Nat, k ≤ nS ∧ i = .int .i64 k ∧ ∃ b : Bool, t = .bool b ∧ Hid (b = true → nS = nA ∧ ∀ p, p < k → memIx tf (sf p) nA = true)) (fun _ i => nS - (intOf i).toNat)
    case atStart => exact ⟨0, Nat.zero_le _, rfl, _, rfl, fun h => ⟨by have h2 := Hq.out; first | (simp at h; done) | (simp at h2; omega), fun p hp => by omega⟩⟩
    case round =>
      obtain ⟨k, hk, rfl, b, rfl, hb⟩ := hrel
      cases b
      · go_wp2_with fail
        go_ret
        exact ⟨rfl, HBel3.out⟩
      · by_cases hlt : k < nS
        · have hck := Q1.out.id k hlt
          cases hm : memIx tf (sf k) nA
          · have HL := Pay.hide (lastIndexID_no w4 w2.heap.size nA nA tf vf Q2.out (by omega) (sf k) (last_of_not tf (sf k) nA hm))
            clear hm hb Q1 Q2 Hok Hq
            go_wp2_with fail
            refine HL.out.mono ?_
            rintro e w5 ⟨rfl, hw⟩
            have hw' := hw.symm
            subst hw'
            go_wp2_with fail
            go_round
            case rel => exact ⟨k + 1, by omega, by go_num, false, rfl, fun h => by cases h⟩
            case measure => simp [intOf]; omega
          · have hb2 : Hid (nS = nA ∧ ∀ p, p < k + 1 → memIx tf (sf p) nA = true) := ⟨(hb.out rfl).1, fun p hp => by
              by_cases e : p = k
              · subst e; exact hm
              · exact (hb.out rfl).2 p (by omega)⟩
            obtain ⟨j, hj, _, hjl, _⟩ := last_of_mem tf vf (sf k) nA hm
            have HL := Pay.hide (lastIndexID_at w4 w2.heap.size nA nA tf vf Q2.out (by omega) (sf k) j hjl)
            clear hm hb Q1 Q2 Hok Hq hjl
            go_wp2_with fail
            refine HL.out.mono ?_
            rintro e w5 ⟨rfl, hw⟩
            have hw' := hw.symm
            subst hw'
            go_wp2_with fail
            go_round
            case rel => exact ⟨k + 1, by omega, by go_num, true, rfl, fun _ => hb2.out⟩
            case measure => simp [intOf]; omega
        · exfalso
          have h2 := hb.out rfl
          have h3 : pairOk sf tf nS nA = true := by
            unfold pairOk
            rw [decide_eq_true_eq]
            exact ⟨h2.1.symm, fun p hp => h2.2 p (by omega)⟩
          rw [Hok.out] at h3
          cases h3

set_option maxHeartbeats 4000000 in
theorem main_yes (w : World) (a1 : Option Addr) (n1 c1 : Nat) (sf : Nat → ByteArray) (hs : Strs w a1 n1 sf) (h1 : n1 ≤ maxLen) (a2 : Option Addr) (n2 c2 : Nat) (uf : Nat → Int) (hu : Nums w a2 n2 uf)
    (a3 : Option Addr) (n3 c3 : Nat) (tf : Nat → ByteArray) (ht : Strs w a3 n3 tf) (h3 : n3 ≤ maxLen) (a4 : Option Addr) (n4 c4 : Nat) (vf : Nat → Int) (hv : Nums w a4 n4 vf)
    (g1 : (n1 : Int) ≤ 4096) (g2 : (n2 : Int) ≤ 4096) (g3 : (n3 : Int) ≤ 4096) (g4 : (n4 : Int) ≤ 4096)
    (zs : ∀ k, (sf k).size ≤ maxLen) (zt : ∀ k, (tf k).size ≤ maxLen) (zv : ∀ k, (Lit.int .i64 (vf k)).wf = true)
    (nS nA : Nat) (hnS : nS = min n1 n2) (hnA : nA = min n3 n4) (hok : pairOk sf tf nS nA = true) :
    Calls Trym.prog 6 #[.slice a1 n1 c1, .slice a2 n2 c2, .slice a3 n3 c3, .slice a4 n4 c4] w fun e w' => e = .returned (.bool true) ∧ Below w.heap.size w w' := by
  have HZ := Pay.hide (Arg.zzBytesPair_calls w a1 n1 c1 sf hs h1 a2 n2 c2 a3 n3 c3 tf ht h3 a4 n4 c4)
  have HB1 := Pay.hide (Arg.amountBytes_calls w a1 n1 c1 sf hs h1 a2 n2 c2)
  have HB2 := Pay.hide (Arg.amountBytes_calls w a3 n3 c3 tf ht h3 a4 n4 c4)
  have HC1 := Pay.hide (buildAmounts_calls w a1 n1 c1 sf hs a2 n2 c2 uf hu (by omega) (by omega) nS hnS)
  have HC2 := Pay.hide (fun w' (hb : Below w.heap.size w w') => buildAmounts_calls w' a3 n3 c3 tf (strs_below ht hb) a4 n4 c4 vf (nums_below hv hb) (by omega) (by omega) nA hnA)
  have HP := Pay.hide (fun w' b b' (hp : Pay w' b nS sf uf) (hp' : Pay w' b' nA tf vf) => zzPair_yes w' b nS nS sf uf hp b' nA nA tf vf hp' (by omega) (by omega) zs zt zv hok)
  have hSn : (nS : Int) ≤ 4096 := by omega
  have hAn : (nA : Int) ≤ 4096 := by omega
  have Hok : Hid (nA = nS ∧ ∀ k, k < nS → memIx tf (sf k) nA = true) := by unfold pairOk at hok; rw [decide_eq_true_eq] at hok; exact hok
  have Hzt := Pay.hide zt
  clear hs ht h1 h3 hu hv zs zt zv hnS hnA hok
  obtain rfl : nS = nA := Hok.out.1.symm
  have hq : ((nS : Int) == (nS : Int)) = true := by simp
  go_enter Trym.func6, Trym.ntmps6
  go_wp2_with fail
  refine HZ.out.mono ?_
  rintro e w0 ⟨⟨b, rfl⟩, hw⟩
  have hw' := hw.symm
  subst hw'
  cases b
  · go_wp2_with fail
    go_ret
    exact ⟨rfl, Below.refl _ _⟩
  go_wp2_with fail
  refine HB1.out.mono ?_
  rintro e w1 ⟨⟨z1, rfl⟩, hw⟩
  have hw' := hw.symm
  subst hw'
  go_wp2_with fail
  refine HB2.out.mono ?_
  rintro e w1 ⟨⟨z2, rfl⟩, hw⟩
  have hw' := hw.symm
  subst hw'
  clear HZ HB1 HB2
  go_wp2_with fail
  · go_ret
    exact ⟨rfl, Below.refl _ _⟩
  refine HC1.out.mono ?_
  rintro e w2 ⟨rfl, L1, B1⟩
  have HL1 := Pay.hide L1
  have HBel1 := Pay.hide B1
  clear L1 B1 HC1
  go_wp2_with fail
  refine (HC2.out _ HBel1.out).mono ?_
  rintro e w3 ⟨rfl, L2, B2⟩
  have P1 : Hid (Pay w3 w.heap.size nS sf uf) := HL1.out.pay.below B2 HL1.out.pay.lt
  have P2 : Hid (Pay w3 w2.heap.size nS tf vf) := L2.pay
  have HBel2 : Hid (Below w.heap.size w w3) := HBel1.out.trans (B2.mono HBel1.out.size)
  clear L2 B2 HL1 HBel1 HC2
  go_wp2_with fail
  refine (HP.out _ _ _ P1.out P2.out).mono ?_
  rintro e w4 ⟨rfl, O3, B3⟩
  have Q1 : Hid (Pay w4 w.heap.size nS sf uf) := P1.out.below B3 P1.out.lt
  have Q2 : Hid (Pay w4 w2.heap.size nS tf vf) := P2.out.below B3 P2.out.lt
  have HBel3 : Hid (Below w.heap.size w w4) := HBel2.out.trans (B3.mono HBel2.out.size)
  have HO := Pay.hide O3
  clear B3 P1 P2 HBel2 HP O3
  go_wp2_with fail
  go_loop [13, 14] (fun t i => ∃ k : Nat, k ≤ nS ∧ i = .int .i64 k ∧ t = .bool true) (fun _ i => nS - (intOf i).toNat)
  case atStart => exact ⟨0, Nat.zero_le _, rfl, rfl⟩
  case round =>
    obtain ⟨k, hk, rfl, rfl⟩ := hrel
    by_cases hlt : k < nS
    · have hck := Q1.out.id k hlt
      obtain ⟨j, hj, _, hjl, _⟩ := last_of_mem tf vf (sf k) nS (Hok.out.2 k hlt)
      have HL := Pay.hide (lastIndexID_at w4 w2.heap.size nS nS tf vf Q2.out (by omega) (sf k) j hjl)
      clear Q1 Q2 Hok hjl
      go_wp2_with fail
      refine HL.out.mono ?_
      rintro e w5 ⟨rfl, hw⟩
      have hw' := hw.symm
      subst hw'
      go_wp2_with fail
      go_round
      case rel => exact ⟨k + 1, by omega, by go_num, rfl⟩
      case measure => simp [intOf]; omega
    · have hsz : Hid ((Maps.size (mapTo tf vf nS) : Int) = (lastCnt tf nS nS : Int)) := by unfold Hid; rw [size_mapTo, lastCnt_dist]
      clear Q1 Hok hk
      go_wp2_with fail
      go_loop [15, 16] (fun t i => ∃ m : Nat, m ≤ nS ∧ i = .int .i64 m ∧ t = .int .i64 (lastCnt tf nS m)) (fun _ i => nS - (intOf i).toNat)
      case atStart => exact ⟨0, Nat.zero_le _, rfl, rfl⟩
      case round =>
        obtain ⟨m, hm, rfl, rfl⟩ := hrel
        have hle := lastCnt_le tf nS m
        by_cases hlt2 : m < nS
        · have hmem : memIx tf (tf m) nS = true := (memIx_iff tf (tf m) nS).2 ⟨m, hlt2, rfl⟩
          obtain ⟨j, hj, hjid, hjl, hju⟩ := last_of_mem tf vf (tf m) nS hmem
          have HL := Pay.hide (lastIndexID_at w4 w2.heap.size nS nS tf vf Q2.out (by omega) (tf m) j hjl)
          have hck := Q2.out.id m hlt2
          have hcj := Q2.out.un j hj
          have hkey := key_ok (Hzt.out m)
          have hhas : Maps.has (mapTo tf vf nS) (keyLit (tf m)) = true := (has_mapTo tf vf (tf m) nS).trans hmem
          have Hat : Hid ((mapTo tf vf nS).atKey (keyLit (tf m)) (.lit (.int .i64 0)) = .lit (.int .i64 (vf j))) := by unfold Hid; rw [at_mapTo, hju]
          have hjlt : (j : Int) < (nS : Int) := by omega
          by_cases hjm : j = m
          · have hb1 : ((j : Int) == (m : Int)) = true := by simp [hjm]
            have hst : Hid (lastCnt tf nS (m + 1) = lastCnt tf nS m + 1) := by unfold Hid; rw [lastCnt, if_pos (by rw [hjl]; omega)]
            clear hjm hjid hjl hju hmem Q2 Hzt hsz
            go_wp2_with fail
            refine HL.out.mono ?_
            rintro e w5 ⟨rfl, hw⟩
            have hw' := hw.symm
            subst hw'
            go_wp2_with (at_lookup; refine wpList_lookup_own_ok_int _ rfl _ _ 31 rfl 9 2 .i64 law Trym.underlying31 Trym.underlying2 (zeroE _) w3.heap.size nS _ rfl HO.out _ _ rfl hkey ?_; intro c hat hwc; obtain rfl : c = vf j := (by simpa using hat.symm.trans Hat.out); clear hat hwc)
            go_round
            case rel => exact ⟨m + 1, by omega, by go_num, by rw [hst.out]; go_num⟩
            case measure => simp [intOf]; omega
          · have hb1 : ((j : Int) == (m : Int)) = false := by simp; omega
            have hst : Hid (lastCnt tf nS (m + 1) = lastCnt tf nS m) := by unfold Hid; rw [lastCnt, if_neg (by rw [hjl]; omega)]; rfl
            clear hjm hjid hjl hju hmem Q2 Hzt hsz
            go_wp2_with fail
            refine HL.out.mono ?_
            rintro e w5 ⟨rfl, hw⟩
            have hw' := hw.symm
            subst hw'
            go_wp2_with (at_lookup; refine wpList_lookup_own_ok_int _ rfl _ _ 31 rfl 9 2 .i64 law Trym.underlying31 Trym.underlying2 (zeroE _) w3.heap.size nS _ rfl HO.out _ _ rfl hkey ?_; intro c hat hwc; obtain rfl : c = vf j := (by simpa using hat.symm.trans Hat.out); clear hat hwc)
            go_round
            case rel => exact ⟨m + 1, by omega, by go_num, by rw [hst.out]⟩
            case measure => simp [intOf]; omega
        · obtain rfl : m = nS := by omega
          have hfin : ((Maps.size (mapTo tf vf m) : Int) == (lastCnt tf m m : Int)) = true := by rw [hsz.out]; simp
          clear hsz Q2 Hzt
          go_wp2_with (at_len; refine wpList_len_own _ rfl _ 31 rfl 9 2 Trym.underlying31 (plainElem Trym.prog 2) w3.heap.size m _ rfl HO.out ?_)
          go_ret
          exact ⟨rfl, HBel3.out⟩

theorem walk (w : World) (a1 : Option Addr) (n1 c1 : Nat) (sf : Nat → ByteArray) (hs : Strs w a1 n1 sf) (h1 : n1 ≤ maxLen) (a2 : Option Addr) (n2 c2 : Nat) (uf : Nat → Int) (hu : Nums w a2 n2 uf)
    (a3 : Option Addr) (n3 c3 : Nat) (tf : Nat → ByteArray) (ht : Strs w a3 n3 tf) (h3 : n3 ≤ maxLen) (a4 : Option Addr) (n4 c4 : Nat) (vf : Nat → Int) (hv : Nums w a4 n4 vf)
    (zs : ∀ k, (sf k).size ≤ maxLen) (zt : ∀ k, (tf k).size ≤ maxLen) (zv : ∀ k, (Lit.int .i64 (vf k)).wf = true) :
    Calls Trym.prog 6 #[.slice a1 n1 c1, .slice a2 n2 c2, .slice a3 n3 c3, .slice a4 n4 c4] w fun e w' => e = .returned (.bool true) ∧ Below w.heap.size w w' := by
  by_cases g1 : (n1 : Int) ≤ 4096
  · by_cases g2 : (n2 : Int) ≤ 4096
    · by_cases g3 : (n3 : Int) ≤ 4096
      · by_cases g4 : (n4 : Int) ≤ 4096
        · cases hok : pairOk sf tf (min n1 n2) (min n3 n4)
          · exact main_no w a1 n1 c1 sf hs h1 a2 n2 c2 uf hu a3 n3 c3 tf ht h3 a4 n4 c4 vf hv g1 g2 g3 g4 zs zt zv _ _ rfl rfl hok
          · exact main_yes w a1 n1 c1 sf hs h1 a2 n2 c2 uf hu a3 n3 c3 tf ht h3 a4 n4 c4 vf hv g1 g2 g3 g4 zs zt zv _ _ rfl rfl hok
        · exact early w a1 n1 c1 sf hs h1 a2 n2 c2 a3 n3 c3 tf ht h3 a4 n4 c4 (.inr (.inr (.inr ⟨g1, g2, g3, by omega⟩)))
      · exact early w a1 n1 c1 sf hs h1 a2 n2 c2 a3 n3 c3 tf ht h3 a4 n4 c4 (.inr (.inr (.inl ⟨g1, g2, by omega⟩)))
    · exact early w a1 n1 c1 sf hs h1 a2 n2 c2 a3 n3 c3 tf ht h3 a4 n4 c4 (.inr (.inl ⟨g1, by omega⟩))
  · exact early w a1 n1 c1 sf hs h1 a2 n2 c2 a3 n3 c3 tf ht h3 a4 n4 c4 (.inl (by omega))
end Go.Proofs.Qxb6000375aMods.LastWins
