import Derived.Test.Qxb6000375aModsProg
import Derived.WalkKit
import Derived.BigQuiet
import Derived.Deep.QuietTactic
namespace Go.Proofs.Qxb6000375aMods.Pay
open Go.RowKit

theorem hide {p : Prop} (h : p) : Hid p := h
theorem ret_int {k : IntKind} {a b : Int} (h : b = a) : Ending.returned (.int k a) = .returned (.int k b) := by rw [h]
theorem ret_bool {a b : Bool} (h : b = a) : Ending.returned (.bool a) = .returned (.bool b) := by rw [h]

theorem same_of {a b : ByteArray} (h : (a.toList == b.toList) = true) : a = b := by
  have h' : a.toList = b.toList := by simpa using h
  rw [ByteArray.toList_eq, ByteArray.toList_eq] at h'
  cases a; cases b
  congr 1
  exact Array.toList_inj.1 h'
theorem other_of {a b : ByteArray} (h : (a.toList == b.toList) = false) : a ≠ b := by
  intro e; subst e; simp at h
theorem same_mk {a b : ByteArray} (h : a = b) : (a.toList == b.toList) = true := by subst h; simp
theorem other_mk {a b : ByteArray} (h : a ≠ b) : (a.toList == b.toList) = false := by
  cases hb : (a.toList == b.toList)
  · rfl
  · exact absurd (same_of hb) h

/-- A slice of PlayerAmount over block b, read: n elements, of two cells each. -/
structure Pay (w : World) (b n : Nat) (idf : Nat → ByteArray) (unf : Nat → Int) : Prop where
  lt : b < w.heap.size
  id : ∀ k, k < n → w.cell? ⟨b, k * 2, none⟩ = some (.string (idf k))
  un : ∀ k, k < n → w.cell? ⟨b, k * 2 + 1, none⟩ = some (.int .i64 (unf k))

theorem Pay.below {w w' : World} {B b n : Nat} {idf : Nat → ByteArray} {unf : Nat → Int} (h : Pay w b n idf unf) (hb : Below B w w') (hB : b < B) : Pay w' b n idf unf :=
  ⟨Nat.lt_of_lt_of_le h.lt hb.size, fun k hk => by rw [hb.cell (p := ⟨b, k * 2, none⟩) hB]; exact h.id k hk, fun k hk => by rw [hb.cell (p := ⟨b, k * 2 + 1, none⟩) hB]; exact h.un k hk⟩

/-- The last index below n whose id is x, or -1. -/
def lastIx (idf : Nat → ByteArray) (x : ByteArray) : Nat → Int
  | 0 => -1
  | n + 1 => if idf n = x then n else lastIx idf x n

set_option maxHeartbeats 1000000 in
theorem lastIndexID_calls (w : World) (b n c : Nat) (idf : Nat → ByteArray) (unf : Nat → Int) (hp : Pay w b n idf unf) (hn : n ≤ 4096) (x : ByteArray) :
    Calls Trym.prog 20 #[.slice (some ⟨b, 0, none⟩) n c, .string x] w fun e w' => e = .returned (.int .i64 (lastIx idf x n)) ∧ w' = w := by
  have HP := hide hp
  clear hp
  go_enter Trym.func20, Trym.ntmps20
  go_wp2
  go_loop [5] (fun i => ∃ k : Nat, k ≤ n ∧ i = .int .i64 ((k : Int) - 1) ∧ Hid (lastIx idf x n = lastIx idf x k)) (fun i => (intOf i + 1).toNat)
  case atStart => exact ⟨n, Nat.le_refl _, rfl, rfl⟩
  case round =>
    obtain ⟨k, hk, rfl, hl⟩ := hrel
    cases k with
    | zero =>
      go_wp2
      go_ret
      exact ⟨ret_int hl.out, rfl⟩
    | succ k =>
      have hck := HP.out.id k (by omega)
      clear HP
      go_wp2
      · go_ret
        exact ⟨ret_int (a := (k : Int)) (by rw [hl.out]; simp only [lastIx]; rw [if_pos (same_of ‹_›)]), rfl⟩
      · go_round
        case rel => exact ⟨k, by omega, by go_num, by unfold Hid; rw [hl.out]; simp only [lastIx]; rw [if_neg (other_of ‹_›)]⟩
        case measure => simp [intOf]

/-- How many of the first n ids are x. -/
def countIx (idf : Nat → ByteArray) (x : ByteArray) : Nat → Nat
  | 0 => 0
  | n + 1 => countIx idf x n + if idf n = x then 1 else 0
theorem countIx_le (idf : Nat → ByteArray) (x : ByteArray) : ∀ n, countIx idf x n ≤ n
  | 0 => Nat.le_refl _
  | n + 1 => by have := countIx_le idf x n; unfold countIx; split <;> omega

set_option maxHeartbeats 1000000 in
theorem countID_calls (w : World) (b n c : Nat) (idf : Nat → ByteArray) (unf : Nat → Int) (hp : Pay w b n idf unf) (hn : n ≤ 4096) (x : ByteArray) :
    Calls Trym.prog 23 #[.slice (some ⟨b, 0, none⟩) n c, .string x] w fun e w' => e = .returned (.int .i64 (countIx idf x n)) ∧ w' = w := by
  have HP := hide hp
  clear hp
  go_enter Trym.func23, Trym.ntmps23
  go_wp2
  go_loop [5, 6] (fun t i => ∃ k : Nat, k ≤ n ∧ i = .int .i64 k ∧ t = .int .i64 (countIx idf x k)) (fun _ i => n - (intOf i).toNat)
  case atStart => exact ⟨0, Nat.zero_le _, rfl, rfl⟩
  case round =>
    obtain ⟨k, hk, rfl, rfl⟩ := hrel
    have hle := countIx_le idf x k
    by_cases hlt : k < n
    · have hck := HP.out.id k (by omega)
      clear HP
      by_cases he : idf k = x
      · have hs : Hid (countIx idf x (k + 1) = countIx idf x k + 1) := by unfold Hid; rw [countIx, if_pos he]
        have hb := same_mk he
        clear he
        go_wp2
        go_round
        case rel => exact ⟨k + 1, by omega, by go_num, by rw [hs.out]; go_num⟩
        case measure => simp [intOf]; omega
      · have hs : Hid (countIx idf x (k + 1) = countIx idf x k) := by unfold Hid; rw [countIx, if_neg he]; rfl
        have hb := other_mk he
        clear he
        go_wp2
        go_round
        case rel => exact ⟨k + 1, by omega, by go_num, by rw [hs.out]⟩
        case measure => simp [intOf]; omega
    · obtain rfl : k = n := by omega
      clear HP
      go_wp2
      go_ret
      exact ⟨rfl, rfl⟩

/-- Is there an entry (x, u) among the first n? -/
def hasIx (idf : Nat → ByteArray) (unf : Nat → Int) (x : ByteArray) (u : Int) (n : Nat) : Bool := decide (∃ k, k < n ∧ idf k = x ∧ unf k = u)

set_option maxHeartbeats 1000000 in
theorem hasEntry_calls (w : World) (b n c : Nat) (idf : Nat → ByteArray) (unf : Nat → Int) (hp : Pay w b n idf unf) (hn : n ≤ 4096) (x : ByteArray) (u : Int) :
    Calls Trym.prog 25 #[.slice (some ⟨b, 0, none⟩) n c, .string x, .int .i64 u] w fun e w' => e = .returned (.bool (hasIx idf unf x u n)) ∧ w' = w := by
  have HP := hide hp
  clear hp
  go_enter Trym.func25, Trym.ntmps25
  go_wp2
  go_loop [7] (fun i => ∃ k : Nat, k ≤ n ∧ i = .int .i64 k ∧ Hid (∀ j, j < k → ¬ (idf j = x ∧ unf j = u))) (fun i => n - (intOf i).toNat)
  case atStart => exact ⟨0, Nat.zero_le _, rfl, fun j h => by omega⟩
  case round =>
    obtain ⟨k, hk, rfl, hno⟩ := hrel
    by_cases hlt : k < n
    · have hck := HP.out.id k (by omega)
      have hcu := HP.out.un k (by omega)
      clear HP
      by_cases he : idf k = x
      · by_cases hu : unf k = u
        · have hy : Hid (hasIx idf unf x u n = true) := by unfold Hid hasIx; rw [decide_eq_true_eq]; exact ⟨k, hlt, he, hu⟩
          have hb := same_mk he
          have hb2 : (unf k == u) = true := by simp [hu]
          clear he hu
          go_wp2
          go_ret
          exact ⟨ret_bool hy.out, rfl⟩
        · have hy : Hid (∀ j, j < k + 1 → ¬ (idf j = x ∧ unf j = u)) := fun j hj h => by
            by_cases e : j = k
            · subst e; exact hu h.2
            · exact hno.out j (by omega) h
          have hb := same_mk he
          have hb2 : (unf k == u) = false := by simp [hu]
          clear he hu
          go_wp2
          go_round
          case rel => exact ⟨k + 1, by omega, by go_num, hy⟩
          case measure => simp [intOf]; omega
      · have hy : Hid (∀ j, j < k + 1 → ¬ (idf j = x ∧ unf j = u)) := fun j hj h => by
          by_cases e : j = k
          · subst e; exact he h.1
          · exact hno.out j (by omega) h
        have hb := other_mk he
        clear he
        go_wp2
        go_round
        case rel => exact ⟨k + 1, by omega, by go_num, hy⟩
        case measure => simp [intOf]; omega
    · have hy : Hid (hasIx idf unf x u n = false) := by
        unfold Hid hasIx
        rw [decide_eq_false_iff_not]
        rintro ⟨j, hj, hje⟩
        exact hno.out j (by omega) hje
      clear HP
      go_wp2
      go_ret
      exact ⟨ret_bool hy.out, rfl⟩

/-- Are the first n ids pairwise apart? -/
def distIx (idf : Nat → ByteArray) (n : Nat) : Bool := decide (∀ i, i < n → ∀ j, j < n → i < j → ¬ idf i = idf j)

set_option maxHeartbeats 1000000 in
theorem distinctIDs_calls (w : World) (b n c : Nat) (idf : Nat → ByteArray) (unf : Nat → Int) (hp : Pay w b n idf unf) (hn : n ≤ 4096) :
    Calls Trym.prog 22 #[.slice (some ⟨b, 0, none⟩) n c] w fun e w' => e = .returned (.bool (distIx idf n)) ∧ ∃ q, w' = w.drewN q := by
  have HP := hide hp
  clear hp
  go_enter Trym.func22, Trym.ntmps22
  go_wp2
  go_loopw [3] (fun i wr => (∃ k : Nat, k ≤ n ∧ i = .int .i64 k ∧ Hid (∀ p q, p < k → p < q → q < n → ¬ idf p = idf q)) ∧ ∃ q, wr = w.drewN q) (fun i _ => n - (intOf i).toNat)
  case atStart => exact ⟨⟨0, Nat.zero_le _, rfl, fun p q h => by omega⟩, 0, rfl⟩
  case round =>
    obtain ⟨⟨k, hk, rfl, hno⟩, q, rfl⟩ := hrel
    by_cases hlt : k < n
    · have hck := HP.out.id k hlt
      go_wp2
      go_loopw [4] (fun i wr => (∃ m : Nat, k + 1 ≤ m ∧ m ≤ n ∧ i = .int .i64 m ∧ Hid (∀ q, k < q → q < m → ¬ idf k = idf q)) ∧ ∃ q, wr = w.drewN q) (fun i _ => n - (intOf i).toNat)
      case atStart => exact ⟨⟨k + 1, Nat.le_refl _, by omega, by go_num, fun q h => by omega⟩, _, rfl⟩
      case round =>
        obtain ⟨⟨m, hkm, hm, rfl, hne⟩, q2, rfl⟩ := hrel
        by_cases hlt2 : m < n
        · have hcm := HP.out.id m hlt2
          have hi1 : (k : Int) < (n : Int) := by omega
          have hi2 : (m : Int) < (n : Int) := by omega
          by_cases he : idf k = idf m
          · have hy : Hid (distIx idf n = false) := by
              unfold Hid distIx
              rw [decide_eq_false_iff_not]
              intro h
              exact h k hlt m hlt2 (by omega) he
            have hb := same_mk he
            clear he HP
            go_wp2
            go_quiet (fail)
            go_wp2
            go_ret
            exact ⟨ret_bool hy.out, q2 + nq, by simp⟩
          · have hy : Hid (∀ q, k < q → q < m + 1 → ¬ idf k = idf q) := fun q h1 h2 => by
              by_cases e : q = m
              · subst e; exact he
              · exact hne.out q h1 (by omega)
            have hb := other_mk he
            clear he HP
            go_wp2
            go_quiet (fail)
            go_wp2
            go_roundw
            case rel => exact ⟨⟨m + 1, by omega, by omega, by go_num, hy⟩, _, rfl⟩
            case measure => simp [intOf]; omega
        · have hy : Hid (∀ p q, p < k + 1 → p < q → q < n → ¬ idf p = idf q) := fun p q h1 h2 h3 => by
            by_cases e : p = k
            · subst e; exact hne.out q h2 (by omega)
            · exact hno.out p q (by omega) h2 h3
          clear HP
          go_wp2
          go_roundw
          case rel => exact ⟨⟨k + 1, by omega, by go_num, hy⟩, _, rfl⟩
          case measure => simp [intOf]; omega
    · have hy : Hid (distIx idf n = true) := by
        unfold Hid distIx
        rw [decide_eq_true_eq]
        intro i hi j hj hij
        exact hno.out i j (by omega) hij hj
      clear HP
      go_wp2
      go_ret
      exact ⟨ret_bool hy.out, _, rfl⟩
end Go.Proofs.Qxb6000375aMods.Pay
