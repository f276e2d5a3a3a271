import Derived.Test.Qxb6000375aModsArgWalks
import Derived.Test.Qxb6000375aModsBuildWalks
import Derived.Test.Qxb6000375aModsPermPlain
import Derived.WalkSmall
namespace Go.Proofs.Qxb6000375aMods.Rot
open Go.RowKit Go.Maps Go.WideMaps Pay Pair Build
open Arg (Strs Nums)

/-- The rotation by r. -/
def rid (sf : Nat → ByteArray) (n r : Nat) (j : Nat) : ByteArray := sf ((j + r) % n)
def run (uf : Nat → Int) (n r : Nat) (j : Nat) : Int := uf ((j + r) % n)
/-- .. its first entry's units turned. -/
def bun (uf : Nat → Int) (n r : Nat) (j : Nat) : Int := if j = 0 then wrap64 (run uf n r 0 + 1) else run uf n r j

theorem rot_mem {sf : Nat → ByteArray} {n r : Nat} (hr : r < n) : ∀ k, k < n → memIx (rid sf n r) (sf k) n = true := by
  intro k hk
  rw [memIx_iff]
  by_cases h : r ≤ k
  · refine ⟨k - r, by omega, ?_⟩
    unfold rid
    rw [show k - r + r = k from by omega, Nat.mod_eq_of_lt hk]
  · refine ⟨k + n - r, by omega, ?_⟩
    unfold rid
    rw [show k + n - r + r = k + n from by omega, Nat.add_mod_right, Nat.mod_eq_of_lt hk]

theorem rot_same {sf : Nat → ByteArray} {uf : Nat → Int} {n r : Nat} (hd : Dist sf n) (hr : r < n) : sameOk sf uf n (rid sf n r) (run uf n r) n = true := by
  unfold sameOk pairOk
  rw [decide_eq_true_eq, decide_eq_true_eq]
  refine ⟨⟨rfl, rot_mem hr⟩, fun k hk => ?_⟩
  obtain ⟨j, hj, hjid, _, hju⟩ := last_of_mem (rid sf n r) (run uf n r) (sf k) n (rot_mem hr k hk)
  have e : (j + r) % n = k := hd.inj (Nat.mod_lt _ (by omega)) hk hjid
  rw [hju]
  unfold run
  rw [e]

theorem rot_not {sf : Nat → ByteArray} {uf : Nat → Int} {n r : Nat} (hd : Dist sf n) (hr : r < n) (_hw : (Lit.int .i64 (uf r)).wf = true) : sameOk sf uf n (rid sf n r) (bun uf n r) n = false := by
  unfold sameOk
  rw [decide_eq_false_iff_not]
  rintro ⟨_, hu⟩
  have h1 := hu r hr
  obtain ⟨j, hj, hjid, _, hju⟩ := last_of_mem (rid sf n r) (bun uf n r) (sf r) n (rot_mem hr r hr)
  have e : (j + r) % n = r := hd.inj (Nat.mod_lt _ (by omega)) hr hjid
  have e0 : j = 0 := by
    by_cases h : j + r < n
    · rw [Nat.mod_eq_of_lt h] at e; omega
    · rw [Nat.mod_eq_sub_mod (by omega), Nat.mod_eq_of_lt (by omega)] at e; omega
  subst e0
  rw [hju] at h1
  unfold bun run at h1
  rw [if_pos rfl, Nat.zero_add, Nat.mod_eq_of_lt hr] at h1
  generalize uf r = u at h1
  unfold wrap64 at h1
  omega

theorem rot_short {sf : Nat → ByteArray} {uf : Nat → Int} {n n' : Nat} (bid : Nat → ByteArray) (bu : Nat → Int) (h : n' ≠ n) : sameOk sf uf n bid bu n' = false := by
  unfold sameOk pairOk
  rw [decide_eq_false_iff_not, decide_eq_true_eq]
  rintro ⟨⟨e, _⟩, _⟩
  exact h e

theorem bun_laid {w : World} {B n r : Nat} {sf : Nat → ByteArray} {uf : Nat → Int} (h : Laid w B n n (rid sf n r) (run uf n r)) :
    Laid (w.setCell ⟨B, 1, none⟩ (.int .i64 (wrap64 (run uf n r 0 + 1)))) B n n (rid sf n r) (bun uf n r) := by
  obtain ⟨f, hr, hf⟩ := h
  refine ⟨_, hr.set 1 _, fun j hj => ⟨?_, ?_⟩⟩
  · rw [if_neg (by omega)]; exact (hf j hj).1
  · unfold bun
    by_cases e : j = 0
    · subst e; rw [if_pos rfl, if_pos rfl]
    · rw [if_neg (by omega), if_neg e]; exact (hf j hj).2

set_option maxHeartbeats 2000000 in
theorem early (w : World) (a1 : Option Addr) (n1 c1 : Nat) (sf : Nat → ByteArray) (hs : Strs w a1 n1 sf) (h1 : n1 ≤ maxLen) (a2 : Option Addr) (n2 c2 : Nat) (m : Int)
    (hcase : 4096 < (n1 : Int) ∨ ((n1 : Int) ≤ 4096 ∧ 4096 < (n2 : Int))) :
    Calls Trym.prog 10 #[.slice a1 n1 c1, .slice a2 n2 c2, .int .i64 m] w fun e w' => e = .returned (.bool true) ∧ Below w.heap.size w w' := by
  have HZ := Pay.hide (Arg.zzBytesRot_calls w a1 n1 c1 sf hs h1 a2 n2 c2 m)
  have HB1 := Pay.hide (Arg.amountBytes_calls w a1 n1 c1 sf hs h1 a2 n2 c2)
  clear hs h1
  rcases hcase with g | ⟨g1, g⟩
  all_goals
    go_enter Trym.func10, Trym.ntmps10
    go_wp2_with fail
    refine HZ.out.mono ?_
    rintro e w0 ⟨⟨b, rfl⟩, hw⟩
    have hw' := hw.symm
    subst hw'
    cases b
    · go_wp2_with fail
      go_ret
      exact ⟨rfl, Below.refl _ _⟩
    · go_wp2_with fail
      refine HB1.out.mono ?_
      rintro e w1 ⟨⟨z1, rfl⟩, hw⟩
      have hw' := hw.symm
      subst hw'
      go_wp2_with fail
      all_goals (go_ret; exact ⟨rfl, Below.refl _ _⟩)

set_option maxHeartbeats 2000000 in
theorem main_not
    (w : World) (a1 : Option Addr) (n1 c1 : Nat) (sf : Nat → ByteArray) (hs : Strs w a1 n1 sf) (h1 : n1 ≤ maxLen) (a2 : Option Addr) (n2 c2 : Nat) (uf : Nat → Int) (hu : Nums w a2 n2 uf) (m : Int)
    (g1 : (n1 : Int) ≤ 4096) (g2 : (n2 : Int) ≤ 4096) (_zs : ∀ k, (sf k).size ≤ maxLen) (_zu : ∀ k, (Lit.int .i64 (uf k)).wf = true) (n : Nat) (hn : n = min n1 n2) (hd : distIx sf n = false) :
    Calls Trym.prog 10 #[.slice a1 n1 c1, .slice a2 n2 c2, .int .i64 m] w fun e w' => e = .returned (.bool true) ∧ Below w.heap.size w w' := by
  have HZ := Pay.hide (Arg.zzBytesRot_calls w a1 n1 c1 sf hs h1 a2 n2 c2 m)
  have HB1 := Pay.hide (Arg.amountBytes_calls w a1 n1 c1 sf hs h1 a2 n2 c2)
  have HC1 := Pay.hide (buildAmounts_calls w a1 n1 c1 sf hs a2 n2 c2 uf hu (by omega) (by omega) n hn)
  have HD := Pay.hide (fun w' b (hp : Pay w' b n sf uf) => distinctIDs_calls w' b n n sf uf hp (by omega))
  have hnn : (n : Int) ≤ 4096 := by omega
  clear _zs _zu
  clear hs h1 hu hn
  go_enter Trym.func10, Trym.ntmps10
  go_wp2_with fail
  refine HZ.out.mono ?_
  rintro e w0 ⟨⟨b, rfl⟩, hw⟩
  have hw' := hw.symm
  subst hw'
  cases b
  · go_wp2_with fail
    go_ret
    exact ⟨rfl, Below.refl _ _⟩
  go_wp2_with fail
  refine HB1.out.mono ?_
  rintro e w1 ⟨⟨z1, rfl⟩, hw⟩
  have hw' := hw.symm
  subst hw'
  clear HZ HB1
  go_wp2_with fail
  · go_ret
    exact ⟨rfl, Below.refl _ _⟩
  refine HC1.out.mono ?_
  rintro e w2 ⟨rfl, L1, B1⟩
  have P1 : Hid (Pay w2 w.heap.size n sf uf) := L1.pay
  have HBel1 := Pay.hide B1
  clear L1 B1 HC1
  go_wp2_with fail
  refine (HD.out _ _ P1.out).mono ?_
  rintro e w3 ⟨rfl, q, rfl⟩
  clear HD
  go_wp2_with fail
  go_ret
  exact ⟨rfl, below_drewN HBel1.out _⟩

set_option maxHeartbeats 2000000 in
theorem main_nil
    (w : World) (a1 : Option Addr) (n1 c1 : Nat) (sf : Nat → ByteArray) (hs : Strs w a1 n1 sf) (h1 : n1 ≤ maxLen) (a2 : Option Addr) (n2 c2 : Nat) (uf : Nat → Int) (hu : Nums w a2 n2 uf) (m : Int)
    (g1 : (n1 : Int) ≤ 4096) (g2 : (n2 : Int) ≤ 4096) (zs : ∀ k, (sf k).size ≤ maxLen) (zu : ∀ k, (Lit.int .i64 (uf k)).wf = true) (n : Nat) (hn : n = min n1 n2) (hd : distIx sf n = true) (h0 : n = 0) :
    Calls Trym.prog 10 #[.slice a1 n1 c1, .slice a2 n2 c2, .int .i64 m] w fun e w' => e = .returned (.bool true) ∧ Below w.heap.size w w' := by
  have HZ := Pay.hide (Arg.zzBytesRot_calls w a1 n1 c1 sf hs h1 a2 n2 c2 m)
  have HB1 := Pay.hide (Arg.amountBytes_calls w a1 n1 c1 sf hs h1 a2 n2 c2)
  have HC1 := Pay.hide (buildAmounts_calls w a1 n1 c1 sf hs a2 n2 c2 uf hu (by omega) (by omega) n hn)
  have HD := Pay.hide (fun w' b (hp : Pay w' b n sf uf) => distinctIDs_calls w' b n n sf uf hp (by omega))
  have hnn : (n : Int) ≤ 4096 := by omega
  have HS := Pay.hide (fun w' b (hp : Pay w' b n sf uf) => zzSameAmounts_calls w' b n n sf uf hp b n n sf uf hp (by omega) (by omega) zs zs zu)
  have hz : ((n : Int) == 0) = true := by simp [h0]
  have hsame : Hid (sameOk sf uf n sf uf n = true) := by
    subst h0
    unfold Hid sameOk pairOk
    simp
  clear zs zu h0
  clear hs h1 hu hn
  go_enter Trym.func10, Trym.ntmps10
  go_wp2_with fail
  refine HZ.out.mono ?_
  rintro e w0 ⟨⟨b, rfl⟩, hw⟩
  have hw' := hw.symm
  subst hw'
  cases b
  · go_wp2_with fail
    go_ret
    exact ⟨rfl, Below.refl _ _⟩
  go_wp2_with fail
  refine HB1.out.mono ?_
  rintro e w1 ⟨⟨z1, rfl⟩, hw⟩
  have hw' := hw.symm
  subst hw'
  clear HZ HB1
  go_wp2_with fail
  · go_ret
    exact ⟨rfl, Below.refl _ _⟩
  refine HC1.out.mono ?_
  rintro e w2 ⟨rfl, L1, B1⟩
  have P1 : Hid (Pay w2 w.heap.size n sf uf) := L1.pay
  have HBel1 := Pay.hide B1
  clear L1 B1 HC1
  go_wp2_with fail
  refine (HD.out _ _ P1.out).mono ?_
  rintro e w3 ⟨rfl, q, rfl⟩
  clear HD
  go_wp2_with fail
  refine (HS.out _ _ (P1.out.below (below_drewN (Below.refl _ _) _) P1.out.lt)).mono ?_
  rintro e w4 ⟨rfl, B4⟩
  go_wp2_with fail
  go_ret
  exact ⟨ret_bool hsame.out.symm, (below_drewN HBel1.out _).trans (B4.mono HBel1.out.size)⟩

set_option maxHeartbeats 4000000 in
theorem main_pos
    (w : World) (a1 : Option Addr) (n1 c1 : Nat) (sf : Nat → ByteArray) (hs : Strs w a1 n1 sf) (h1 : n1 ≤ maxLen) (a2 : Option Addr) (n2 c2 : Nat) (uf : Nat → Int) (hu : Nums w a2 n2 uf) (m : Int)
    (g1 : (n1 : Int) ≤ 4096) (g2 : (n2 : Int) ≤ 4096) (zs : ∀ k, (sf k).size ≤ maxLen) (zu : ∀ k, (Lit.int .i64 (uf k)).wf = true) (n : Nat) (hn : n = min n1 n2) (hd : distIx sf n = true) (r : Nat) (hr : r < n) (htm : m.tmod (n : Int) = (r : Int) ∨ m.tmod (n : Int) = (r : Int) - (n : Int)) :
    Calls Trym.prog 10 #[.slice a1 n1 c1, .slice a2 n2 c2, .int .i64 m] w fun e w' => e = .returned (.bool true) ∧ Below w.heap.size w w' := by
  have hr2 : (r : Int) < (n : Int) := by omega
  rcases htm with htm | htm
  all_goals
    have HZ := Pay.hide (Arg.zzBytesRot_calls w a1 n1 c1 sf hs h1 a2 n2 c2 m)
    have HB1 := Pay.hide (Arg.amountBytes_calls w a1 n1 c1 sf hs h1 a2 n2 c2)
    have HC1 := Pay.hide (buildAmounts_calls w a1 n1 c1 sf hs a2 n2 c2 uf hu (by omega) (by omega) n hn)
    have HD := Pay.hide (fun w' b (hp : Pay w' b n sf uf) => distinctIDs_calls w' b n n sf uf hp (by omega))
    have hnn : (n : Int) ≤ 4096 := by omega
    have HS := Pay.hide (fun w' b b' c' n' bid bun (hp : Pay w' b n sf uf) (hp' : Pay w' b' n' bid bun) (hn' : n' ≤ 4096) (zb : ∀ k, (bid k : ByteArray).size ≤ maxLen) (zbu : ∀ k, (Lit.int .i64 (bun k)).wf = true) => zzSameAmounts_calls w' b n n sf uf hp b' n' c' bid bun hp' (by omega) hn' zs zb zbu)
    have hz : ((n : Int) == 0) = false := by simp; omega
    have Hzs := Pay.hide zs
    have Hzu := Pay.hide zu
    have Hd := Pay.hide (dist_of hd)
    clear zs zu
    have hmk := run_make_pay n (by omega)
    clear hs h1 hu hn
    go_enter Trym.func10, Trym.ntmps10
    go_wp2_with fail
    refine HZ.out.mono ?_
    rintro e w0 ⟨⟨b, rfl⟩, hw⟩
    have hw' := hw.symm
    subst hw'
    cases b
    · go_wp2_with fail
      go_ret
      exact ⟨rfl, Below.refl _ _⟩
    go_wp2_with fail
    refine HB1.out.mono ?_
    rintro e w1 ⟨⟨z1, rfl⟩, hw⟩
    have hw' := hw.symm
    subst hw'
    clear HZ HB1
    go_wp2_with fail
    · go_ret
      exact ⟨rfl, Below.refl _ _⟩
    refine HC1.out.mono ?_
    rintro e w2 ⟨rfl, L1, B1⟩
    have P1 : Hid (Pay w2 w.heap.size n sf uf) := L1.pay
    have HBel1 := Pay.hide B1
    clear L1 B1 HC1
    go_wp2_with fail
    refine (HD.out _ _ P1.out).mono ?_
    rintro e w3 ⟨rfl, q, rfl⟩
    clear HD
    go_wp2_with fail
    clear hmk
    go_loopw [11] (fun i wr => ∃ k : Nat, k ≤ n ∧ i = .int .i64 k ∧ Laid wr w2.heap.size n k (rid sf n r) (run uf n r) ∧ Below w2.heap.size w2 wr) (fun i _ => n - (intOf i).toNat)
    case atStart =>
      obtain ⟨f, hf⟩ := rowIs_made2 (w2.drewN q) n
      exact ⟨0, Nat.zero_le _, rfl, ⟨f, hf, fun j h => by omega⟩, (below_drewN (Below.refl _ _) _).alloc (Nat.le_refl _) _⟩
    case round =>
      obtain ⟨k, hk, rfl, hla, hnx⟩ := hrel
      by_cases hlt : k < n
      · obtain ⟨p, hp⟩ : ∃ p, p = (k + r) % n := ⟨_, rfl⟩
        have hpn : p < n := by rw [hp]; exact Nat.mod_lt _ (by omega)
        have hidx : ((k : Int) + (r : Int)) % (n : Int) = (p : Int) := by rw [hp, Int.natCast_emod, Int.natCast_add]
        have hc1 : wr.cell? ⟨w.heap.size, p * 2, none⟩ = some (.string (rid sf n r k)) := by
          rw [hnx.cell (p := ⟨w.heap.size, p * 2, none⟩) P1.out.lt, P1.out.id p hpn, hp]; rfl
        have hc2 : wr.cell? ⟨w.heap.size, p * 2 + 1, none⟩ = some (.int .i64 (run uf n r k)) := by
          rw [hnx.cell (p := ⟨w.heap.size, p * 2 + 1, none⟩) P1.out.lt, P1.out.un p hpn, hp]; rfl
        have hpi : (p : Int) < (n : Int) := by omega
        have Hla := Pay.hide hla
        have Hnx := Pay.hide hnx
        obtain ⟨f, hrow, hf⟩ := hla
        have e1 := hrow.cell (i := k * 2) (by omega)
        have e2 := hrow.cell (i := k * 2 + 1) (by omega)
        have f1 := hrow.frozen (k * 2)
        have f2 := hrow.frozen (k * 2 + 1)
        clear hrow hf hnx hp P1 HBel1 HS Hzs Hzu Hd
        generalize f (k * 2) = v1 at e1
        generalize f (k * 2 + 1) = v2 at e2
        go_wp2_with fail
        go_roundw
        case rel => exact ⟨k + 1, by omega, by go_num, Hla.out.step, ((Hnx.out.setCell (Nat.le_refl _) _).setCell (Nat.le_refl _) _)⟩
        case measure => simp [intOf]; omega
      · obtain rfl : k = n := by omega
        have Hla := Pay.hide hla
        have PA : Hid (Pay wr w.heap.size k sf uf) := P1.out.below hnx P1.out.lt
        have HBel2 : Hid (Below w.heap.size w wr) := HBel1.out.trans (hnx.mono HBel1.out.size)
        have hltB : Hid (w2.heap.size < wr.heap.size) := hla.pay.lt
        have S1 := Pay.hide (rot_same (uf := uf) Hd.out hr)
        have S2 := Pay.hide (rot_not (uf := uf) Hd.out hr (Hzu.out r))
        clear P1 HBel1 hla hnx Hd
        go_wp2_with fail
        refine (HS.out _ _ _ _ _ _ _ PA.out Hla.out.pay (by omega) (fun j => Hzs.out _) (fun j => Hzu.out _)).mono ?_
        rintro e w5 ⟨rfl, B5⟩
        rw [S1.out]
        have hmk2 := run_make_pay k (by omega)
        have PB : Hid (Pay w5 w2.heap.size k (rid sf k r) (run uf k r)) := Hla.out.pay.below B5 hltB.out
        have PA5 : Hid (Pay w5 w.heap.size k sf uf) := PA.out.below B5 PA.out.lt
        have HBel5 : Hid (Below w.heap.size w w5) := HBel2.out.trans (B5.mono HBel2.out.size)
        clear PA Hla B5 HBel2 hltB S1
        go_wp2_with fail
        clear hmk2
        go_loopw [13] (fun i wr => ∃ j : Nat, j ≤ k ∧ i = .int .i64 j ∧ Laid wr w5.heap.size k j (rid sf k r) (run uf k r) ∧ Below w5.heap.size w5 wr) (fun i _ => k - (intOf i).toNat)
        case atStart =>
          obtain ⟨f, hf⟩ := rowIs_made2 w5 k
          exact ⟨0, Nat.zero_le _, rfl, ⟨f, hf, fun j h => by omega⟩, (Below.refl _ _).alloc (Nat.le_refl _) _⟩
        case round =>
          obtain ⟨j, hj, rfl, hla, hnx⟩ := hrel
          by_cases hlt2 : j < k
          · have hc1 : wr.cell? ⟨w2.heap.size, j * 2, none⟩ = some (.string (rid sf k r j)) := (hnx.cell (p := ⟨w2.heap.size, j * 2, none⟩) PB.out.lt).trans (PB.out.id j hlt2)
            have hc2 : wr.cell? ⟨w2.heap.size, j * 2 + 1, none⟩ = some (.int .i64 (run uf k r j)) := (hnx.cell (p := ⟨w2.heap.size, j * 2 + 1, none⟩) PB.out.lt).trans (PB.out.un j hlt2)
            have Hla := Pay.hide hla
            have Hnx := Pay.hide hnx
            obtain ⟨f, hrow, hf⟩ := hla
            have e1 := hrow.cell (i := j * 2) (by omega)
            have e2 := hrow.cell (i := j * 2 + 1) (by omega)
            have f1 := hrow.frozen (j * 2)
            have f2 := hrow.frozen (j * 2 + 1)
            clear hrow hf hnx PA5 PB HBel5 HS Hzs Hzu S2
            generalize f (j * 2) = v1 at e1
            generalize f (j * 2 + 1) = v2 at e2
            go_wp2_with fail
            go_roundw
            case rel => exact ⟨j + 1, by omega, by go_num, Hla.out.step, ((Hnx.out.setCell (Nat.le_refl _) _).setCell (Nat.le_refl _) _)⟩
            case measure => simp [intOf]; omega
          · obtain rfl : j = k := by omega
            have hp0 : 0 < j := by omega
            have hpi : (0 : Int) < (j : Int) := by omega
            have hcu : wr.cell? ⟨w5.heap.size, 1, none⟩ = some (.int .i64 (run uf j r 0)) := hla.pay.un 0 hp0
            have hfz : wr.frozen? ⟨w5.heap.size, 1, none⟩ = false := by obtain ⟨f, hrow, _⟩ := hla; exact hrow.frozen 1
            have HLc := Pay.hide (bun_laid hla)
            have Hnx : Hid (Below w5.heap.size w5 (wr.setCell ⟨w5.heap.size, 1, none⟩ (.int .i64 (wrap64 (run uf j r 0 + 1))))) := hnx.setCell (Nat.le_refl _) _
            clear hla hnx
            go_wp2_with fail
            have PAc : Hid (Pay (wr.setCell ⟨w5.heap.size, 1, none⟩ (.int .i64 (wrap64 (run uf j r 0 + 1)))) w.heap.size j sf uf) := PA5.out.below Hnx.out PA5.out.lt
            have PBc : Hid (Pay (wr.setCell ⟨w5.heap.size, 1, none⟩ (.int .i64 (wrap64 (run uf j r 0 + 1)))) w2.heap.size j (rid sf j r) (run uf j r)) := PB.out.below Hnx.out PB.out.lt
            have HBelc : Hid (Below w.heap.size w (wr.setCell ⟨w5.heap.size, 1, none⟩ (.int .i64 (wrap64 (run uf j r 0 + 1))))) := HBel5.out.trans (Hnx.out.mono HBel5.out.size)
            refine (HS.out _ _ _ _ _ _ _ PAc.out HLc.out.pay (by omega) (fun i => Hzs.out _) (fun i => by unfold bun; split; exact wrap64_wf _; exact Hzu.out _)).mono ?_
            rintro e w6 ⟨rfl, B6⟩
            rw [S2.out]
            have PA6 : Hid (Pay w6 w.heap.size j sf uf) := PAc.out.below B6 PAc.out.lt
            have PB6 : Hid (Pay w6 w2.heap.size (j - 1) (rid sf j r) (run uf j r)) := by
              have h := PBc.out.below B6 PBc.out.lt
              exact ⟨h.lt, fun i hi => h.id i (by omega), fun i hi => h.un i (by omega)⟩
            have HBel6 : Hid (Below w.heap.size w w6) := HBelc.out.trans (B6.mono HBelc.out.size)
            have S3 := Pay.hide (rot_short (sf := sf) (uf := uf) (rid sf j r) (run uf j r) (show j - 1 ≠ j by omega))
            clear PAc PBc HBelc B6 S2 PA5 PB HBel5 HLc Hnx hcu hfz
            go_wp2_with fail
            refine (HS.out _ _ _ _ _ _ _ PA6.out PB6.out (by omega) (fun i => Hzs.out _) (fun i => Hzu.out _)).mono ?_
            rintro e w7 ⟨rfl, B7⟩
            rw [S3.out]
            have HBel7 : Hid (Below w.heap.size w w7) := HBel6.out.trans (B7.mono HBel6.out.size)
            clear PA6 PB6 HBel6 B7 S3 HS
            go_wp2_with fail
            go_ret
            exact ⟨rfl, HBel7.out⟩

theorem tmod_cases (m : Int) (n : Nat) (h : 0 < n) : ∃ r : Nat, r < n ∧ (m.tmod (n : Int) = (r : Int) ∨ m.tmod (n : Int) = (r : Int) - (n : Int)) := by
  rcases Int.lt_or_le (m.tmod (n : Int)) 0 with hs | hs
  · have h1 : -(n : Int) < m.tmod (n : Int) := by
      have := Int.lt_tmod_of_pos m (show (0 : Int) < (n : Int) by omega)
      omega
    exact ⟨(m.tmod (n : Int) + n).toNat, by omega, Or.inr (by omega)⟩
  · have h2 : m.tmod (n : Int) < (n : Int) := Int.tmod_lt_of_pos _ (by omega)
    exact ⟨(m.tmod (n : Int)).toNat, by omega, Or.inl (by omega)⟩

theorem walk (w : World) (a1 : Option Addr) (n1 c1 : Nat) (sf : Nat → ByteArray) (hs : Strs w a1 n1 sf) (h1 : n1 ≤ maxLen) (a2 : Option Addr) (n2 c2 : Nat) (uf : Nat → Int) (hu : Nums w a2 n2 uf) (m : Int)
    (zs : ∀ k, (sf k).size ≤ maxLen) (zu : ∀ k, (Lit.int .i64 (uf k)).wf = true) :
    Calls Trym.prog 10 #[.slice a1 n1 c1, .slice a2 n2 c2, .int .i64 m] w fun e w' => e = .returned (.bool true) ∧ Below w.heap.size w w' := by
  by_cases g1 : (n1 : Int) ≤ 4096
  · by_cases g2 : (n2 : Int) ≤ 4096
    · cases hd : distIx sf (min n1 n2)
      · exact main_not w a1 n1 c1 sf hs h1 a2 n2 c2 uf hu m g1 g2 zs zu _ rfl hd
      · by_cases h0 : min n1 n2 = 0
        · exact main_nil w a1 n1 c1 sf hs h1 a2 n2 c2 uf hu m g1 g2 zs zu _ rfl hd h0
        · obtain ⟨r, hr, htm⟩ := tmod_cases m (min n1 n2) (by omega)
          exact main_pos w a1 n1 c1 sf hs h1 a2 n2 c2 uf hu m g1 g2 zs zu _ rfl hd r hr htm
    · exact early w a1 n1 c1 sf hs h1 a2 n2 c2 m (.inr ⟨g1, by omega⟩)
  · exact early w a1 n1 c1 sf hs h1 a2 n2 c2 m (.inl (by omega))
end Go.Proofs.Qxb6000375aMods.Rot
