import Derived.Test.Qxb6000375aModsArgWalks
import Derived.Test.Qxb6000375aModsPayWalks
import Derived.RegionTactic
import Derived.ChangeAlike
import Derived.BigRegion
import Derived.Deep.OwnRows
namespace Go.Proofs.Qxb6000375aMods.Build
open Go.RowKit Arg Pay

theorem info36 : (Trym.prog.info? 36).map (fun i => (i.zero, i.size, i.bytes)) = some (some (.agg #[.string ByteArray.empty, .int .i64 0]), 2, 24) := by kernel_rfl

/-- 'make([]PlayerAmount, n)': a new row of 2 * n cells at the heap's end. -/
theorem run_make_pay (n : Nat) (h : n ≤ 4096) (w : World) :
    (Instr.makeSlice 29 (.int .i64 (n : Int)) (.int .i64 (n : Int))).run Trym.prog w = .ok (.slice (some ⟨w.heap.size, 0, none⟩) n n) (w.alloc (.cells (madeCells #[.string ByteArray.empty, .int .i64 0] (n * 2)) 36)) := by
  obtain ⟨i, hi, hzz⟩ := Option.map_eq_some_iff.1 info36
  simp only [Prod.mk.injEq] at hzz
  obtain ⟨hz, hs, hb⟩ := hzz
  have hr := run_make (P := Trym.prog) w 29 36 i _ Trym.underlying29 hi hz .i64 .i64 n n (by omega) (Int.le_refl _) (by rw [hb]; omega) (by omega)
  simp only [Int.toNat_natCast, hs] at hr
  exact hr

theorem rowIs_made2 (w : World) (n : Nat) : ∃ f, (w.alloc (.cells (madeCells #[.string ByteArray.empty, .int .i64 0] (n * 2)) 36)).rowIs w.heap.size 36 (n * 2) f := by
  have h := World.rowIs_alloc w (madeCells #[.string ByteArray.empty, .int .i64 0] (n * 2)) 36 (fun i => (madeCells #[.string ByteArray.empty, .int .i64 0] (n * 2))[i]?.getD undef) (fun i hi => by rw [Array.getElem?_eq_getElem hi]; rfl)
  rw [size_madeCells] at h
  exact ⟨_, h⟩

theorem block_of_cell {w : World} {b o : Nat} {v : Value} (h : w.cell? ⟨b, o, none⟩ = some v) : b < w.heap.size := by
  by_cases hb : b < w.heap.size
  · exact hb
  · exfalso
    simp [World.cell?, Array.getElem?_eq_none (by omega : w.heap.size ≤ b)] at h

/-- The first k elements of the row at B are laid. -/
def Laid (wr : World) (B n k : Nat) (sf : Nat → ByteArray) (zf : Nat → Int) : Prop :=
  ∃ f, wr.rowIs B 36 (n * 2) f ∧ ∀ j, j < k → f (j * 2) = .string (sf j) ∧ f (j * 2 + 1) = .int .i64 (zf j)

theorem Laid.pay {wr : World} {B n : Nat} {sf : Nat → ByteArray} {zf : Nat → Int} (h : Laid wr B n n sf zf) : Pay wr B n sf zf := by
  obtain ⟨f, hr, hf⟩ := h
  exact ⟨hr.lt, fun k hk => by rw [hr.cell (by omega), (hf k hk).1], fun k hk => by rw [hr.cell (by omega), (hf k hk).2]⟩

theorem Laid.step {wr : World} {B n k : Nat} {sf : Nat → ByteArray} {zf : Nat → Int} (h : Laid wr B n k sf zf) :
    Laid ((wr.setCell ⟨B, k * 2, none⟩ (.string (sf k))).setCell ⟨B, k * 2 + 1, none⟩ (.int .i64 (zf k))) B n (k + 1) sf zf := by
  obtain ⟨f, hr, hf⟩ := h
  refine ⟨_, (hr.set (k * 2) _).set (k * 2 + 1) _, fun j hj => ?_⟩
  by_cases e : j = k
  · subst e
    exact ⟨by rw [if_neg (by omega), if_pos rfl], by rw [if_pos rfl]⟩
  · have := hf j (by omega)
    exact ⟨by rw [if_neg (by omega), if_neg (by omega)]; exact this.1, by rw [if_neg (by omega), if_neg (by omega)]; exact this.2⟩

theorem Laid.drewN {wr : World} {B n k : Nat} {sf : Nat → ByteArray} {zf : Nat → Int} (h : Laid wr B n k sf zf) (q : Nat) : Laid (wr.drewN q) B n k sf zf := h
theorem Laid.drew {wr : World} {B n k : Nat} {sf : Nat → ByteArray} {zf : Nat → Int} (h : Laid wr B n k sf zf) : Laid wr.drew B n k sf zf := h

set_option maxHeartbeats 2000000 in
theorem build_walk (w : World) (a1 : Option Addr) (n1 c1 : Nat) (sf : Nat → ByteArray) (hs : Strs w a1 n1 sf) (a2 : Option Addr) (n2 c2 : Nat) (zf : Nat → Int) (hz : Nums w a2 n2 zf)
    (h1 : n1 ≤ 4096) (h2 : n2 ≤ 4096) (n : Nat) (hn : n ≤ 4096) (hn1 : n ≤ n1) (hn2 : n ≤ n2) (hcase : ((n2 : Int) < (n1 : Int) ∧ n = n2) ∨ (¬ (n2 : Int) < (n1 : Int) ∧ n = n1)) :
    Calls Trym.prog 18 #[.slice a1 n1 c1, .slice a2 n2 c2] w fun e w' => e = .returned (.slice (some ⟨w.heap.size, 0, none⟩) n n) ∧ Laid w' w.heap.size n n sf zf ∧ Below w.heap.size w w' := by
  have hmk := run_make_pay n hn
  have HS := Pay.hide hs
  have HZ := Pay.hide hz
  clear hs hz
  rcases hcase with ⟨hc, rfl⟩ | ⟨hc, rfl⟩
  all_goals
    go_enter Trym.func18, Trym.ntmps18
    go_wp2
    clear hmk
    go_loopw [7] (fun i wr => ∃ k : Nat, k ≤ n ∧ i = .int .i64 k ∧ Laid wr w.heap.size n k sf zf ∧ Below w.heap.size w wr) (fun i _ => n - (intOf i).toNat)
    case atStart =>
      obtain ⟨f, hf⟩ := rowIs_made2 w n
      exact ⟨0, Nat.zero_le _, rfl, ⟨f, hf, fun j h => by omega⟩, (Below.refl _ _).alloc (Nat.le_refl _) _⟩
    case round =>
      obtain ⟨k, hk, rfl, hla, hnx⟩ := hrel
      by_cases hlt : k < n
      · obtain ⟨b1, o1, rfl, hc1⟩ := HS.out.pos (by omega)
        obtain ⟨b2, o2, rfl, hc2⟩ := HZ.out.pos (by omega)
        have hk1 := hc1 k (by omega)
        have hk2 := hc2 k (by omega)
        have hw1 : wr.cell? ⟨b1, o1 + k, none⟩ = some (.string (sf k)) := (hnx.cell (p := ⟨b1, o1 + k, none⟩) (block_of_cell hk1)).trans hk1
        have hw2 : wr.cell? ⟨b2, o2 + k, none⟩ = some (.int .i64 (zf k)) := (hnx.cell (p := ⟨b2, o2 + k, none⟩) (block_of_cell hk2)).trans hk2
        clear HS HZ hc1 hc2 hk1 hk2
        have Hla := Pay.hide hla
        have Hnx := Pay.hide hnx
        obtain ⟨f, hr, hf⟩ := hla
        have e1 := hr.cell (i := k * 2) (by omega)
        have e2 := hr.cell (i := k * 2 + 1) (by omega)
        have f1 := hr.frozen (k * 2)
        have f2 := hr.frozen (k * 2 + 1)
        have hi1 : (k : Int) < (n : Int) := by omega
        clear hr hf hnx
        generalize f (k * 2) = v1 at e1
        generalize f (k * 2 + 1) = v2 at e2
        generalize hB : w.heap.size = B at *
        go_wp2
        go_region
        go_wp2
        go_roundw
        case rel => exact ⟨k + 1, by omega, by go_num, (Hla.out.step).drew, ((Hnx.out.setCell (Nat.le_refl _) _).setCell (Nat.le_refl _) _).drew⟩
        case measure => simp [intOf]; omega
      · obtain rfl : k = n := by omega
        clear HS HZ
        go_wp2
        go_ret
        exact ⟨rfl, hla, hnx⟩

theorem buildAmounts_calls (w : World) (a1 : Option Addr) (n1 c1 : Nat) (sf : Nat → ByteArray) (hs : Strs w a1 n1 sf) (a2 : Option Addr) (n2 c2 : Nat) (zf : Nat → Int) (hz : Nums w a2 n2 zf)
    (h1 : n1 ≤ 4096) (h2 : n2 ≤ 4096) (n : Nat) (hn : n = min n1 n2) :
    Calls Trym.prog 18 #[.slice a1 n1 c1, .slice a2 n2 c2] w fun e w' => e = .returned (.slice (some ⟨w.heap.size, 0, none⟩) n n) ∧ Laid w' w.heap.size n n sf zf ∧ Below w.heap.size w w' := by
  refine build_walk w a1 n1 c1 sf hs a2 n2 c2 zf hz h1 h2 n (by omega) (by omega) (by omega) ?_
  by_cases h : n2 < n1
  · exact Or.inl ⟨by omega, by omega⟩
  · exact Or.inr ⟨by omega, by omega⟩
end Go.Proofs.Qxb6000375aMods.Build
