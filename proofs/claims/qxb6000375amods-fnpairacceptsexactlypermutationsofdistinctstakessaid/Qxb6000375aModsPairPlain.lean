/-
  THE PLAIN LAWS on 'the last one wins': no Go in sight.
-/
import Derived.Test.Qxb6000375aModsPairWalks
namespace Go.Proofs.Qxb6000375aMods.Pair
open Pay

theorem memIx_iff (idf : Nat → ByteArray) (x : ByteArray) : ∀ n, memIx idf x n = true ↔ ∃ j, j < n ∧ idf j = x
  | 0 => by simp [memIx]
  | n + 1 => by
    unfold memIx
    by_cases h : idf n = x
    · rw [if_pos h]
      exact ⟨fun _ => ⟨n, by omega, h⟩, fun _ => rfl⟩
    · rw [if_neg h, memIx_iff idf x n]
      constructor
      · rintro ⟨j, hj, e⟩; exact ⟨j, by omega, e⟩
      · rintro ⟨j, hj, e⟩
        refine ⟨j, ?_, e⟩
        by_cases hjn : j = n
        · subst hjn; exact absurd e h
        · omega

theorem last_of_mem (idf : Nat → ByteArray) (unf : Nat → Int) (x : ByteArray) : ∀ n, memIx idf x n = true → ∃ j, j < n ∧ idf j = x ∧ lastIx idf x n = (j : Int) ∧ lastUn idf unf x n = unf j
  | 0, h => by simp [memIx] at h
  | n + 1, h => by
    unfold memIx at h
    unfold lastIx lastUn
    by_cases e : idf n = x
    · exact ⟨n, by omega, e, by rw [if_pos e], by rw [if_pos e]⟩
    · rw [if_neg e] at h
      obtain ⟨j, hj, a, b, c⟩ := last_of_mem idf unf x n h
      exact ⟨j, by omega, a, by rw [if_neg e]; exact b, by rw [if_neg e]; exact c⟩

theorem last_of_not (idf : Nat → ByteArray) (x : ByteArray) : ∀ n, memIx idf x n = false → lastIx idf x n = -1
  | 0, _ => rfl
  | n + 1, h => by
    unfold memIx at h
    unfold lastIx
    by_cases e : idf n = x
    · rw [if_pos e] at h; cases h
    · rw [if_neg e] at h ⊢
      exact last_of_not idf x n h

theorem lastIx_id (idf : Nat → ByteArray) (x : ByteArray) : ∀ n k : Nat, lastIx idf x n = (k : Int) → idf k = x ∧ k < n
  | 0, k, h => by unfold lastIx at h; omega
  | n + 1, k, h => by
    unfold lastIx at h
    by_cases e : idf n = x
    · rw [if_pos e] at h
      have : n = k := by omega
      subst this
      exact ⟨e, by omega⟩
    · rw [if_neg e] at h
      have := lastIx_id idf x n k h
      exact ⟨this.1, by omega⟩

/-- How many of the first k indices are the last ones (among n) of their ids. -/
def lastCnt (idf : Nat → ByteArray) (n : Nat) : Nat → Nat
  | 0 => 0
  | k + 1 => lastCnt idf n k + if lastIx idf (idf k) n = (k : Int) then 1 else 0

theorem lastCnt_le (idf : Nat → ByteArray) (n : Nat) : ∀ k, lastCnt idf n k ≤ k
  | 0 => Nat.le_refl _
  | k + 1 => by have := lastCnt_le idf n k; unfold lastCnt; split <;> omega

theorem lastCnt_more (idf : Nat → ByteArray) (n : Nat) : ∀ k, k ≤ n →
    lastCnt idf (n + 1) k + (if 0 ≤ lastIx idf (idf n) n ∧ lastIx idf (idf n) n < (k : Int) then 1 else 0) = lastCnt idf n k
  | 0, _ => by
    rw [if_neg (by omega)]; rfl
  | k + 1, hk => by
    have ih := lastCnt_more idf n k (by omega)
    unfold lastCnt
    by_cases e : idf n = idf k
    · have h1 : ¬ lastIx idf (idf k) (n + 1) = (k : Int) := by
        rw [lastIx, if_pos e]; omega
      rw [if_neg h1, ← e]
      by_cases h2 : lastIx idf (idf n) n = (k : Int)
      · rw [if_pos h2]
        rw [if_neg (by omega)] at ih
        rw [if_pos (by omega)]
        omega
      · rw [if_neg h2]
        by_cases h3 : 0 ≤ lastIx idf (idf n) n ∧ lastIx idf (idf n) n < (k : Int)
        · rw [if_pos h3] at ih
          rw [if_pos (by omega)]
          omega
        · rw [if_neg h3] at ih
          rw [if_neg (by omega)]
          omega
    · have h1 : lastIx idf (idf k) (n + 1) = lastIx idf (idf k) n := by
        rw [lastIx, if_neg e]
      have h2 : ¬ lastIx idf (idf n) n = (k : Int) := fun h => e (lastIx_id idf (idf n) n k h).1.symm
      rw [h1]
      by_cases h3 : 0 ≤ lastIx idf (idf n) n ∧ lastIx idf (idf n) n < (k : Int)
      · rw [if_pos h3] at ih
        rw [if_pos (show 0 ≤ lastIx idf (idf n) n ∧ lastIx idf (idf n) n < ((k + 1 : Nat) : Int) by omega)]
        omega
      · rw [if_neg h3] at ih
        rw [if_neg (show ¬ (0 ≤ lastIx idf (idf n) n ∧ lastIx idf (idf n) n < ((k + 1 : Nat) : Int)) by omega)]
        omega

theorem lastCnt_dist (idf : Nat → ByteArray) : ∀ n, lastCnt idf n n = distN idf n
  | 0 => rfl
  | n + 1 => by
    have ih := lastCnt_dist idf n
    have hm := lastCnt_more idf n n (Nat.le_refl _)
    unfold lastCnt distN
    have h1 : lastIx idf (idf n) (n + 1) = (n : Int) := by rw [lastIx, if_pos rfl]
    rw [if_pos h1]
    cases h : memIx idf (idf n) n
    · have := last_of_not idf (idf n) n h
      rw [if_neg (by omega)] at hm
      simp only [Bool.false_eq_true, if_false]
      omega
    · obtain ⟨j, hj, _, hl, _⟩ := last_of_mem idf (fun _ => 0) (idf n) n h
      rw [if_pos (by omega)] at hm
      simp only [if_true]
      omega
end Go.Proofs.Qxb6000375aMods.Pair
