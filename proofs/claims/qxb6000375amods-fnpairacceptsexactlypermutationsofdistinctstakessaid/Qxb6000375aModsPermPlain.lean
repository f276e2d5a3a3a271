/-
  THE PLAIN LAWS on lists of which one has no id twice: counting twice. No Go in sight.
-/
import Derived.Test.Qxb6000375aModsPairPlain
namespace Go.Proofs.Qxb6000375aMods.Pair
open Pay

def sumTo (f : Nat → Nat) : Nat → Nat
  | 0 => 0
  | n + 1 => sumTo f n + f n
theorem sumTo_congr {f g : Nat → Nat} : ∀ n, (∀ k, k < n → f k = g k) → sumTo f n = sumTo g n
  | 0, _ => rfl
  | n + 1, h => by unfold sumTo; rw [sumTo_congr n (fun k hk => h k (by omega)), h n (by omega)]
theorem sumTo_add (f g : Nat → Nat) : ∀ n, sumTo (fun k => f k + g k) n = sumTo f n + sumTo g n
  | 0 => rfl
  | n + 1 => by unfold sumTo; rw [sumTo_add f g n]; omega
theorem sumTo_zero : ∀ n, sumTo (fun _ => 0) n = 0
  | 0 => rfl
  | n + 1 => by unfold sumTo; rw [sumTo_zero n]
theorem sumTo_ge {f : Nat → Nat} : ∀ n, (∀ k, k < n → 1 ≤ f k) → n ≤ sumTo f n
  | 0, _ => Nat.le_refl _
  | n + 1, h => by
    have := sumTo_ge n (fun k hk => h k (by omega))
    have := h n (by omega)
    unfold sumTo; omega
theorem sumTo_le {f : Nat → Nat} : ∀ n, (∀ k, k < n → f k ≤ 1) → sumTo f n ≤ n
  | 0, _ => Nat.le_refl _
  | n + 1, h => by
    have := sumTo_le n (fun k hk => h k (by omega))
    have := h n (by omega)
    unfold sumTo; omega
theorem sumTo_one_of_ge {f : Nat → Nat} : ∀ n, (∀ k, k < n → 1 ≤ f k) → sumTo f n ≤ n → ∀ k, k < n → f k = 1
  | 0, _, _, k, hk => by omega
  | n + 1, h, hs, k, hk => by
    have h1 := sumTo_ge n (fun k hk => h k (by omega))
    have h2 := h n (by omega)
    unfold sumTo at hs
    by_cases e : k = n
    · subst e; omega
    · exact sumTo_one_of_ge n (fun k hk => h k (by omega)) (by omega) k (by omega)
theorem sumTo_one_of_le {f : Nat → Nat} : ∀ n, (∀ k, k < n → f k ≤ 1) → n ≤ sumTo f n → ∀ k, k < n → f k = 1
  | 0, _, _, k, hk => by omega
  | n + 1, h, hs, k, hk => by
    have h1 := sumTo_le n (fun k hk => h k (by omega))
    have h2 := h n (by omega)
    unfold sumTo at hs
    by_cases e : k = n
    · subst e; omega
    · exact sumTo_one_of_le n (fun k hk => h k (by omega)) (by omega) k (by omega)

theorem sum_hits (sf : Nat → ByteArray) (x : ByteArray) : ∀ n, sumTo (fun k => if x = sf k then 1 else 0) n = countIx sf x n
  | 0 => rfl
  | n + 1 => by
    unfold sumTo countIx
    rw [sum_hits sf x n]
    by_cases e : x = sf n
    · rw [if_pos e, if_pos e.symm]
    · rw [if_neg e, if_neg (fun h => e h.symm)]

/-- Counting twice. -/
theorem sum_swap (sf tf : Nat → ByteArray) (n : Nat) : ∀ m, sumTo (fun k => countIx tf (sf k) m) n = sumTo (fun i => countIx sf (tf i) n) m
  | 0 => by
    show sumTo (fun _ => 0) n = 0
    exact sumTo_zero n
  | m + 1 => by
    show sumTo (fun k => countIx tf (sf k) m + if tf m = sf k then 1 else 0) n = sumTo (fun i => countIx sf (tf i) n) m + countIx sf (tf m) n
    rw [sumTo_add, sum_swap sf tf n m, sum_hits]

theorem count_pos (idf : Nat → ByteArray) (x : ByteArray) : ∀ n, 1 ≤ countIx idf x n ↔ memIx idf x n = true
  | 0 => by simp [countIx, memIx]
  | n + 1 => by
    unfold countIx memIx
    by_cases h : idf n = x
    · rw [if_pos h, if_pos h]; exact ⟨fun _ => rfl, fun _ => by omega⟩
    · rw [if_neg h, if_neg h]; exact count_pos idf x n

theorem count_two (idf : Nat → ByteArray) (x : ByteArray) : ∀ n i j, i < j → j < n → idf i = x → idf j = x → 2 ≤ countIx idf x n
  | 0, _, _, _, hj, _, _ => by omega
  | n + 1, i, j, hij, hj, hi, hjx => by
    unfold countIx
    by_cases e : j = n
    · subst e
      rw [if_pos hjx]
      have : 1 ≤ countIx idf x j := (count_pos idf x j).2 ((memIx_iff idf x j).2 ⟨i, hij, hi⟩)
      omega
    · have := count_two idf x n i j hij (by omega) hi hjx
      omega

/-- No id stands twice among the first n. -/
def Dist (idf : Nat → ByteArray) (n : Nat) : Prop := ∀ i, i < n → ∀ j, j < n → i < j → ¬ idf i = idf j
theorem dist_of {idf : Nat → ByteArray} {n : Nat} (h : distIx idf n = true) : Dist idf n := by unfold distIx at h; rw [decide_eq_true_eq] at h; exact h
theorem Dist.inj {idf : Nat → ByteArray} {n i j : Nat} (h : Dist idf n) (hi : i < n) (hj : j < n) (e : idf i = idf j) : i = j := by
  rcases Nat.lt_trichotomy i j with h1 | h1 | h1
  · exact absurd e (h i hi j hj h1)
  · exact h1
  · exact absurd e.symm (h j hj i hi h1)

theorem count_le_one {idf : Nat → ByteArray} : ∀ {n : Nat}, Dist idf n → ∀ x, countIx idf x n ≤ 1
  | 0, _, x => by simp [countIx]
  | n + 1, h, x => by
    have ih := count_le_one (n := n) (fun i hi j hj hij => h i (by omega) j (by omega) hij) x
    unfold countIx
    by_cases e : idf n = x
    · rw [if_pos e]
      have hm : memIx idf x n = false := by
        cases hm : memIx idf x n
        · rfl
        · obtain ⟨i, hi, hix⟩ := (memIx_iff idf x n).1 hm
          exact absurd (hix.trans e.symm) (h i (by omega) n (by omega) hi)
      have : ¬ 1 ≤ countIx idf x n := fun h1 => by rw [(count_pos idf x n).1 h1] at hm; cases hm
      omega
    · rw [if_neg e]; omega

/-- 'sf' has no id twice, 'tf' is as long and names each of them: then it names each just once .. -/
theorem count_one {sf tf : Nat → ByteArray} {n : Nat} (hd : Dist sf n) (hm : ∀ k, k < n → memIx tf (sf k) n = true) : ∀ k, k < n → countIx tf (sf k) n = 1 := by
  refine sumTo_one_of_ge (f := fun k => countIx tf (sf k) n) n (fun k hk => (count_pos _ _ _).2 (hm k hk)) ?_
  rw [sum_swap]
  exact sumTo_le n (fun i _ => count_le_one hd _)
/-- .. and no one else. -/
theorem count_back {sf tf : Nat → ByteArray} {n : Nat} (hd : Dist sf n) (hm : ∀ k, k < n → memIx tf (sf k) n = true) : ∀ i, i < n → countIx sf (tf i) n = 1 := by
  refine sumTo_one_of_le (f := fun i => countIx sf (tf i) n) n (fun i _ => count_le_one hd _) ?_
  rw [← sum_swap]
  exact sumTo_ge n (fun k hk => (count_pos _ _ _).2 (hm k hk))
/-- .. so it has no id twice either. -/
theorem dist_back {sf tf : Nat → ByteArray} {n : Nat} (hd : Dist sf n) (hm : ∀ k, k < n → memIx tf (sf k) n = true) : Dist tf n := by
  intro i hi j hj hij e
  have h1 := count_back hd hm i hi
  obtain ⟨k, hk, hks⟩ := (memIx_iff sf (tf i) n).1 ((count_pos _ _ _).1 (by omega))
  have h2 := count_one hd hm k hk
  have h3 := count_two tf (sf k) n i j hij hj hks.symm (e.symm.trans hks.symm)
  omega

theorem distN_dist {idf : Nat → ByteArray} : ∀ {n : Nat}, Dist idf n → distN idf n = n
  | 0, _ => rfl
  | n + 1, h => by
    have ih := distN_dist (n := n) (fun i hi j hj hij => h i (by omega) j (by omega) hij)
    have hm : memIx idf (idf n) n = false := by
      cases hm : memIx idf (idf n) n
      · rfl
      · obtain ⟨i, hi, hix⟩ := (memIx_iff idf (idf n) n).1 hm
        exact absurd hix (h i (by omega) n (by omega) hi)
    unfold distN
    rw [hm, ih]
    rfl

/-- With distinct players 'sameAmounts' is: as long, and each entry of the one stands in the other. -/
theorem same_multi {sid : Nat → ByteArray} {sun : Nat → Int} {ns : Nat} {aid : Nat → ByteArray} {aun : Nat → Int} {na : Nat} (hd : Dist sid ns) :
    sameOk sid sun ns aid aun na = decide (ns = na ∧ ∀ k, k < ns → hasIx aid aun (sid k) (sun k) na = true) := by
  unfold sameOk pairOk
  rw [Bool.eq_iff_iff, decide_eq_true_eq, decide_eq_true_eq, decide_eq_true_eq]
  constructor
  · rintro ⟨⟨e, hm⟩, hu⟩
    refine ⟨e.symm, fun k hk => ?_⟩
    obtain ⟨j, hj, hjid, _, hju⟩ := last_of_mem aid aun (sid k) na (hm k hk)
    unfold hasIx
    rw [decide_eq_true_eq]
    exact ⟨j, hj, hjid, by rw [← hju, hu k hk]⟩
  · rintro ⟨rfl, hh⟩
    have hmem : ∀ k, k < ns → memIx aid (sid k) ns = true := fun k hk => by
      have h1 := hh k hk
      unfold hasIx at h1
      rw [decide_eq_true_eq] at h1
      obtain ⟨j, hj, hjid, _⟩ := h1
      exact (memIx_iff _ _ _).2 ⟨j, hj, hjid⟩
    have hda := dist_back hd hmem
    refine ⟨⟨rfl, hmem⟩, fun k hk => ?_⟩
    have h1 := hh k hk
    unfold hasIx at h1
    rw [decide_eq_true_eq] at h1
    obtain ⟨j, hj, hjid, hju⟩ := h1
    obtain ⟨i, hi, hiid, _, hiu⟩ := last_of_mem aid aun (sid k) ns (hmem k hk)
    obtain rfl : i = j := hda.inj hi hj (hiid.trans hjid.symm)
    rw [hiu, hju]
end Go.Proofs.Qxb6000375aMods.Pair
