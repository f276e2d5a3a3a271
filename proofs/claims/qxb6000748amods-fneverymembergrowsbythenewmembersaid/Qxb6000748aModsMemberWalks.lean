import Derived.Test.Qxb6000748aModsProg
import Derived.WalkKit
import Derived.WalkSmall
import Derived.BigQuiet
import Derived.Deep.QuietTactic
import Derived.Deep.OwnRows
namespace Go.Proofs.Qxb6000748aMods.Member
open Go.RowKit

theorem hide {p : Prop} (h : p) : Hid p := h
theorem info3 : (Trym.prog.info? 3).map (fun i => (i.zero, i.size, i.bytes)) = some (some (.int .i64 0), 1, 8) := by kernel_rfl

/-- Block b holds the numbers 0, 1, .. below n. -/
structure Idx (w : World) (b n : Nat) : Prop where
  lt : b < w.heap.size
  at_ : ∀ k, k < n → w.cell? ⟨b, k, none⟩ = some (.int .i64 (k : Int))
theorem Idx.below {w w' : World} {B b n : Nat} (h : Idx w b n) (hb : Below B w w') (hB : b < B) : Idx w' b n :=
  ⟨Nat.lt_of_lt_of_le h.lt hb.size, fun k hk => by rw [hb.cell (p := ⟨b, k, none⟩) hB]; exact h.at_ k hk⟩

/-- The first k cells of the row at B are laid. -/
def Laid (wr : World) (B n k : Nat) : Prop := ∃ f, wr.rowIs B 3 n f ∧ ∀ j, j < k → f j = .int .i64 (j : Int)
theorem Laid.idx {wr : World} {B n : Nat} (h : Laid wr B n n) : Idx wr B n := by
  obtain ⟨f, hr, hf⟩ := h
  exact ⟨hr.lt, fun k hk => by rw [hr.cell hk, hf k hk]⟩
theorem Laid.step {wr : World} {B n k : Nat} (h : Laid wr B n k) : Laid (wr.setCell ⟨B, k, none⟩ (.int .i64 (k : Int))) B n (k + 1) := by
  obtain ⟨f, hr, hf⟩ := h
  refine ⟨_, hr.set k _, fun j hj => ?_⟩
  by_cases e : j = k
  · subst e; rw [if_pos rfl]
  · rw [if_neg e]; exact hf j (by omega)

set_option maxHeartbeats 1000000 in
theorem everyMember_calls (n : Nat) (hn : n ≤ 100000) (w : World) :
    Calls Trym.prog 14 #[.int .i64 (n : Int)] w fun e w' => e = .returned (.slice (some ⟨w.heap.size, 0, none⟩) n n) ∧ Idx w' w.heap.size n ∧ Below w.heap.size w w' := by
  have hmk := run_make_row' (P := Trym.prog) 27 3 (.int .i64 0) 8 Trym.underlying27 info3 rfl .i64 .i64 n (by omega) (by omega)
  go_enter Trym.func14, Trym.ntmps14
  go_wp2
  clear hmk
  go_loopw [9] (fun i wr => ∃ k : Nat, k ≤ n ∧ i = .int .i64 k ∧ Laid wr w.heap.size n k ∧ Below w.heap.size w wr) (fun i _ => n - (intOf i).toNat)
  case atStart => exact ⟨0, Nat.zero_le _, rfl, ⟨_, World.rowIs_made w (.int .i64 0) n 3, fun j h => by omega⟩, (Below.refl _ _).alloc (Nat.le_refl _) _⟩
  case round =>
    obtain ⟨k, hk, rfl, hla, hnx⟩ := hrel
    have Hla := hide hla
    have Hnx := hide hnx
    by_cases hlt : k < n
    · obtain ⟨f, hr, hf⟩ := hla
      have e1 := hr.cell hlt
      have f1 := hr.frozen k
      clear hr hf hnx
      generalize f k = v1 at e1
      go_wp2
      go_roundw
      case rel => exact ⟨k + 1, by omega, by go_num, Hla.out.step, Hnx.out.setCell (Nat.le_refl _) _⟩
      case measure => simp [intOf]; omega
    · obtain rfl : k = n := by omega
      clear hla hnx
      go_wp2
      go_ret
      exact ⟨rfl, Hla.out.idx, Hnx.out⟩

theorem zzEveryMember_calls (n : Nat) (hn : n ≤ 100000) (w : World) :
    Calls Trym.prog 12 #[.int .i64 (n : Int)] w fun e w' => e = .returned (.slice (some ⟨w.heap.size, 0, none⟩) n n) ∧ Idx w' w.heap.size n ∧ Below w.heap.size w w' := by
  have H := hide (everyMember_calls n hn w)
  go_enter Trym.func12, Trym.ntmps12
  go_wp2_with (go_at_call 14; refine H.out.mono ?_; rintro e w' ⟨rfl, hi, hb⟩)
  go_ret
  exact ⟨rfl, hi, hb⟩

set_option maxHeartbeats 2000000 in
theorem each_walk (m : Int) (w : World) :
    Calls Trym.prog 6 #[.int .i64 m] w fun e w' => e = .returned (.bool true) ∧ Below w.heap.size w w' := by
  by_cases h0 : m < 0
  · go_enter Trym.func6, Trym.ntmps6
    go_wp2
    go_ret
    exact ⟨rfl, Below.refl _ _⟩
  by_cases h1 : 65536 < m
  · go_enter Trym.func6, Trym.ntmps6
    go_wp2
    go_ret
    exact ⟨rfl, Below.refl _ _⟩
  obtain ⟨n, rfl⟩ : ∃ n : Nat, m = (n : Int) := ⟨m.toNat, by omega⟩
  have H := hide (zzEveryMember_calls n (by omega) w)
  have hne : ((n : Int) != (n : Int)) = false := by simp
  go_enter Trym.func6, Trym.ntmps6
  go_wp2_with (go_at_call 12; refine H.out.mono ?_; rintro e w1 ⟨rfl, hi, hb⟩; have Hi := hide hi; have Hb := hide hb; clear hi hb H)
  go_loopw [4] (fun i wr => ∃ k : Nat, k ≤ n ∧ i = .int .i64 k ∧ Below w1.heap.size w1 wr) (fun i _ => n - (intOf i).toNat)
  case atStart => exact ⟨0, Nat.zero_le _, rfl, Below.refl _ _⟩
  case round =>
    obtain ⟨k, hk, rfl, hnx⟩ := hrel
    have Hj : Hid (Idx wr w.heap.size n) := Hi.out.below hnx Hi.out.lt
    have Hnx := hide hnx
    clear hnx
    by_cases hlt : k < n
    · have hc := Hj.out.at_ k hlt
      have hi1 : (k : Int) < (n : Int) := by omega
      by_cases hk0 : k = 0
      · subst hk0
        clear Hj Hi
        go_wp2
        go_quiet (fail)
        go_wp2
        go_roundw
        case rel => exact ⟨1, by omega, by go_num, below_drewN Hnx.out _⟩
        case measure => simp [intOf]; omega
      · have hc2 : wr.cell? ⟨w.heap.size, k - 1, none⟩ = some (.int .i64 ((k : Int) - 1)) := by rw [Hj.out.at_ (k - 1) (by omega)]; congr 2; omega
        have hd : (0 : Int) < (k : Int) := by omega
        have hdn : 0 < k := by omega
        have hi2 : (k : Int) - 1 < (n : Int) := by omega
        clear Hj Hi hk0
        go_wp2
        go_quiet (fail)
        go_wp2
        go_roundw
        case rel => exact ⟨k + 1, by omega, by go_num, below_drewN Hnx.out _⟩
        case measure => simp [intOf]; omega
    · clear Hj Hi
      go_wp2
      go_ret
      exact ⟨rfl, Hb.out.trans (Hnx.out.mono Hb.out.size)⟩

set_option maxHeartbeats 2000000 in
theorem grows_walk (m : Int) (w : World) :
    Calls Trym.prog 7 #[.int .i64 m] w fun e w' => e = .returned (.bool true) ∧ Below w.heap.size w w' := by
  by_cases h0 : m < 0
  · go_enter Trym.func7, Trym.ntmps7
    go_wp2
    go_ret
    exact ⟨rfl, Below.refl _ _⟩
  by_cases h1 : 65536 ≤ m
  · go_enter Trym.func7, Trym.ntmps7
    go_wp2
    go_ret
    exact ⟨rfl, Below.refl _ _⟩
  obtain ⟨n, rfl⟩ : ∃ n : Nat, m = (n : Int) := ⟨m.toNat, by omega⟩
  have H := hide (zzEveryMember_calls n (by omega) w)
  have H2 : Hid (∀ w', Calls Trym.prog 12 #[.int .i64 ((n : Int) + 1)] w' fun e w'' => e = .returned (.slice (some ⟨w'.heap.size, 0, none⟩) (n + 1) (n + 1)) ∧ Idx w'' w'.heap.size (n + 1) ∧ Below w'.heap.size w' w'') := fun w' => by
    have := zzEveryMember_calls (n + 1) (by omega) w'
    simpa using this
  go_enter Trym.func7, Trym.ntmps7
  go_wp2_with fail
  refine H.out.mono ?_
  rintro e w1 ⟨rfl, hi, hb⟩
  have Hi := hide hi
  have Hb := hide hb
  clear hi hb H
  go_wp2_with fail
  refine (H2.out _).mono ?_
  rintro e w2 ⟨rfl, hi2, hb2⟩
  have HA : Hid (Idx w2 w.heap.size n) := Hi.out.below hb2 Hi.out.lt
  have HB := hide hi2
  have HC : Hid (Below w.heap.size w w2) := Hb.out.trans (hb2.mono Hb.out.size)
  clear Hi Hb hi2 hb2 H2
  go_wp2_with fail
  go_loopw [5] (fun i wr => ∃ k : Nat, k ≤ n ∧ i = .int .i64 k ∧ Below w2.heap.size w2 wr) (fun i _ => n - (intOf i).toNat)
  case atStart => exact ⟨0, Nat.zero_le _, rfl, Below.refl _ _⟩
  case round =>
    obtain ⟨k, hk, rfl, hnx⟩ := hrel
    have HA2 : Hid (Idx wr w.heap.size n) := HA.out.below hnx HA.out.lt
    have HB2 : Hid (Idx wr w1.heap.size (n + 1)) := HB.out.below hnx HB.out.lt
    have HC2 : Hid (Below w.heap.size w wr) := HC.out.trans (hnx.mono HC.out.size)
    have Hnx := hide hnx
    clear hnx HA HB HC
    by_cases hlt : k < n
    · have hca := HA2.out.at_ k hlt
      have hcb := HB2.out.at_ k (by omega)
      have hi1 : (k : Int) < (n : Int) := by omega
      have hi2 : (k : Int) < (n : Int) + 1 := by omega
      clear HA2 HB2
      go_wp2
      go_quiet (fail)
      go_wp2
      go_roundw
      case rel => exact ⟨k + 1, by omega, by go_num, below_drewN Hnx.out _⟩
      case measure => simp [intOf]; omega
    · have hcb := HB2.out.at_ n (by omega)
      have hi2 : (n : Int) < (n : Int) + 1 := by omega
      clear HA2 HB2
      go_wp2
      go_ret
      exact ⟨rfl, HC2.out⟩
end Go.Proofs.Qxb6000748aMods.Member
