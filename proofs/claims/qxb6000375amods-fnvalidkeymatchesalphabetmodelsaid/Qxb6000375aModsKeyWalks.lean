import Derived.Test.Qxb6000375aModsProg
import Derived.WalkKit
import Derived.Deep.Light
namespace Go.Proofs.Qxb6000375aMods.Key
open Go.RowKit

theorem hide {p : Prop} (h : p) : Hid p := h
theorem ret_bool {a b : Bool} (h : b = a) : Ending.returned (.bool a) = .returned (.bool b) := by rw [h]

/-! ### The plain functions -/
abbrev alphaA : ByteArray := ⟨#[65, 66, 67, 68, 69, 70, 71, 72, 73, 74, 75, 76, 77, 78, 79, 80, 81, 82, 83, 84, 85, 86, 87, 88, 89, 90, 97, 98, 99, 100, 101, 102, 103, 104, 105, 106, 107, 108, 109, 110, 111, 112, 113, 114, 115, 116, 117, 118, 119, 120, 121, 122, 48, 49, 50, 51, 52, 53, 54, 55, 56, 57, 95, 46, 58, 45]⟩
/-- The documented alphabet. -/
def alphaB (c : UInt8) : Bool := alphaA.data.toList.contains c
/-- What 'validKey' asks of a byte. -/
def okB (c : UInt8) : Bool := decide ((65 ≤ (c.toNat : Int) ∧ (c.toNat : Int) ≤ 90) ∨ (97 ≤ (c.toNat : Int) ∧ (c.toNat : Int) ≤ 122) ∨ (48 ≤ (c.toNat : Int) ∧ (c.toNat : Int) ≤ 57) ∨ (c.toNat : Int) = 95 ∨ (c.toNat : Int) = 46 ∨ (c.toNat : Int) = 58 ∨ (c.toNat : Int) = 45)

theorem alpha_ok_fin : ∀ n : Fin 256, alphaB (UInt8.ofNat n.val) = okB (UInt8.ofNat n.val) := by decide +kernel
theorem alpha_ok (c : UInt8) : alphaB c = okB c := by
  have h := alpha_ok_fin ⟨c.toNat, c.toNat_lt⟩
  simpa using h

theorem cast_eq {a b : UInt8} (h : ((a.toNat : Int) == (b.toNat : Int)) = true) : a = b := by
  have h' : (a.toNat : Int) = b.toNat := by simpa using h
  exact UInt8.toNat_inj.1 (by omega)

theorem hit (k : Nat) (hk : k < alphaA.size) (c : UInt8) (h : (((alphaA[k]'hk).toNat : Int) == (c.toNat : Int)) = true) : alphaB c = true := by
  have e := cast_eq h
  unfold alphaB
  rw [List.contains_iff_mem, ← e]
  exact Array.mem_toList_iff.2 (Array.getElem_mem hk)

def noneTo (k : Nat) (c : UInt8) : Prop := ∀ j, (hj : j < alphaA.size) → j < k → alphaA[j]'hj ≠ c

theorem noneTo_step (k : Nat) (hk : k < alphaA.size) (c : UInt8) (h0 : noneTo k c) (h : (((alphaA[k]'hk).toNat : Int) == (c.toNat : Int)) = false) : noneTo (k + 1) c := by
  intro j hj hlt
  by_cases e : j = k
  · subst e
    intro e2
    rw [e2] at h
    simp at h
  · exact h0 j hj (by omega)

theorem noneTo_all (k : Nat) (hk : (66 : Int) ≤ (k : Int)) (c : UInt8) (h0 : noneTo k c) : alphaB c = false := by
  unfold alphaB
  rw [Bool.eq_false_iff]
  intro hc
  rw [List.contains_iff_mem] at hc
  obtain ⟨j, hj, he⟩ := List.getElem_of_mem hc
  have hsz : alphaA.size = 66 := rfl
  have hj' : j < alphaA.size := hj
  exact h0 j hj' (by omega) he

/-! ### inKeyAlphabet -/
set_option maxHeartbeats 400000 in
theorem inKey_calls (c : UInt8) (w : World) :
    Calls Trym.prog 12 #[.int .u8 c.toNat] w fun e w' => e = .returned (.bool (alphaB c)) ∧ w' = w := by
  go_enter Trym.func12, Trym.ntmps12
  go_wp2
  go_loop [3] (fun i => ∃ k : Nat, k ≤ 66 ∧ i = .int .i64 k ∧ Hid (noneTo k c)) (fun i => 66 - (intOf i).toNat)
  case atStart => exact ⟨0, by omega, rfl, fun j _ h => by omega⟩
  case round =>
    obtain ⟨k, hk, rfl, hno⟩ := hrel
    go_wp2
    · go_ret
      exact ⟨ret_bool (hit k _ c ‹_›), rfl⟩
    · go_round
      case rel => exact ⟨k + 1, by omega, by go_num, noneTo_step k _ c hno ‹_›⟩
      case measure => simp [intOf]; omega
    · go_ret
      exact ⟨ret_bool (noneTo_all k ‹_› c hno), rfl⟩

/-! ### validKey -/
def allTo (s : ByteArray) (k : Nat) : Bool := (s.data.toList.take k).all okB
def keyB (s : ByteArray) (max : Int) : Bool := decide (1 ≤ s.size) && decide ((s.size : Int) ≤ max) && s.data.toList.all okB

theorem take_snoc (s : ByteArray) (k : Nat) (h : k < s.size) : s.data.toList.take (k + 1) = s.data.toList.take k ++ [s[k]] := by
  rw [List.take_succ_eq_append_getElem (by simpa using h)]; rfl

theorem allTo_step (s : ByteArray) (k : Nat) (h : k < s.size) (h0 : allTo s k = true) (h1 : okB s[k] = true) : allTo s (k + 1) = true := by
  unfold allTo at *
  rw [take_snoc s k h, List.all_append, h0]
  simp [h1]

theorem key_not (s : ByteArray) (max : Int) (k : Nat) (h : k < s.size) (h1 : okB s[k] = false) : keyB s max = false := by
  unfold keyB
  have : s.data.toList.all okB = false := by
    rw [List.all_eq_false]
    refine ⟨s[k], ?_, by simp [h1]⟩
    exact Array.mem_toList_iff.2 (Array.getElem_mem (by simpa using h))
  rw [this]; simp

theorem key_all (s : ByteArray) (max : Int) (k : Nat) (hs : 1 ≤ s.size) (hm : (s.size : Int) ≤ max) (hk : s.size ≤ k) (h : allTo s k = true) : keyB s max = true := by
  unfold keyB allTo at *
  rw [List.take_of_length_le (by simpa using hk)] at h
  simp only [h, Bool.and_true, Bool.and_eq_true, decide_eq_true_eq]
  exact ⟨hs, hm⟩

set_option linter.unusedSimpArgs false in
set_option maxHeartbeats 1000000 in
theorem validKey_calls (s : ByteArray) (max : Int) (w : World) (hs : s.size ≤ maxLen) :
    Calls Trym.prog 29 #[.string s, .int .i64 max] w fun e w' => e = .returned (.bool (keyB s max)) ∧ w' = w := by
  unfold maxLen at hs
  by_cases h0 : s.size = 0
  · have h0' : ((s.size : Int) == 0) = true := by simp [h0]
    have hf : Hid (keyB s max = false) := by unfold keyB Hid; simp [h0]
    clear h0
    go_enter Trym.func29, Trym.ntmps29
    go_wp2
    go_ret
    exact ⟨ret_bool hf.out, rfl⟩
  have h0' : ((s.size : Int) == 0) = false := beq_eq_false_iff_ne.2 (by omega)
  by_cases hm : max < (s.size : Int)
  · have hf : Hid (keyB s max = false) := by unfold keyB Hid; rw [show decide ((s.size : Int) ≤ max) = false from by simp; omega]; simp
    go_enter Trym.func29, Trym.ntmps29
    go_wp2
    go_ret
    exact ⟨ret_bool hf.out, rfl⟩
  have hm' : (s.size : Int) ≤ max := by omega
  go_enter Trym.func29, Trym.ntmps29
  go_wp2
  go_loop [5] (fun i => ∃ k : Nat, k ≤ s.size ∧ i = .int .i64 k ∧ Hid (allTo s k = true)) (fun i => s.size - (intOf i).toNat)
  case atStart => exact ⟨0, by omega, rfl, by simp [Hid, allTo]⟩
  case round =>
    obtain ⟨k, hk, rfl, hno⟩ := hrel
    by_cases hlt : k < s.size
    · go_wp2
      all_goals first
        | (go_ret
           refine ⟨ret_bool (key_not s max k hlt ?_), rfl⟩
           go_light
           unfold okB
           simp only [Bool.not_eq_true', Bool.not_eq_false', decide_eq_true_eq, decide_eq_false_iff_not, beq_iff_eq, beq_eq_false_iff_ne, ne_eq] at *
           omega)
        | (go_round
           case rel =>
             go_light
             refine ⟨k + 1, by omega, by go_num, allTo_step s k hlt hno.out ?_⟩
             unfold okB
             simp only [Bool.not_eq_true', Bool.not_eq_false', decide_eq_true_eq, decide_eq_false_iff_not, beq_iff_eq, beq_eq_false_iff_ne, ne_eq] at *
             omega
           case measure => simp [intOf]; omega)
    · go_wp2
      go_ret
      exact ⟨ret_bool (key_all s max k (by omega) hm' (by omega) hno.out), rfl⟩

set_option maxHeartbeats 400000 in
theorem zzValidKey_calls (s : ByteArray) (max : Int) (w : World) (hs : s.size ≤ maxLen) :
    Calls Trym.prog 13 #[.string s, .int .i64 max] w fun e w' => e = .returned (.bool (keyB s max)) ∧ w' = w := by
  go_enter Trym.func13, Trym.ntmps13
  go_wp2_with (go_at_call 29; refine (validKey_calls s max _ hs).mono ?_; rintro e w' ⟨rfl, rfl⟩)
  go_ret
  exact ⟨rfl, rfl⟩

/-! ### the bound on lengths -/
set_option maxHeartbeats 400000 in
theorem zzBytes_yes (s : ByteArray) (max : Int) (w : World) (hs : s.size ≤ 1048576) :
    Calls Trym.prog 11 #[.string s, .int .i64 max] w fun e w' => e = .returned (.bool true) ∧ w' = w := by
  have h1 : (s.size : Int) ≤ 1048576 := by omega
  go_enter Trym.func11, Trym.ntmps11
  go_wp2
  go_ret
  exact ⟨rfl, rfl⟩
set_option maxHeartbeats 400000 in
theorem zzBytes_no (s : ByteArray) (max : Int) (w : World) (hs : 1048576 < s.size) :
    Calls Trym.prog 11 #[.string s, .int .i64 max] w fun e w' => e = .returned (.bool false) ∧ w' = w := by
  have h1 : (1048576 : Int) < (s.size : Int) := by omega
  go_enter Trym.func11, Trym.ntmps11
  go_wp2
  go_ret
  exact ⟨rfl, rfl⟩

/-! ### the law's own loop -/
def startB (s : ByteArray) (max : Int) : Bool := decide (1 ≤ (s.size : Int)) && decide ((s.size : Int) ≤ max)
def wantTo (s : ByteArray) (max : Int) (k : Nat) : Bool := startB s max && (s.data.toList.take k).all alphaB

theorem wantTo_zero (s : ByteArray) (max : Int) : wantTo s max 0 = startB s max := by simp [wantTo]
theorem wantTo_step (s : ByteArray) (max : Int) (k : Nat) (h : k < s.size) : wantTo s max (k + 1) = (wantTo s max k && alphaB s[k]) := by
  unfold wantTo
  rw [take_snoc s k h, List.all_append]
  simp [Bool.and_assoc]
theorem key_want (s : ByteArray) (max : Int) : keyB s max = (startB s max && s.data.toList.all alphaB) := by
  unfold keyB startB
  have e : alphaB = okB := funext alpha_ok
  rw [e]
  rw [show decide (1 ≤ s.size) = decide (1 ≤ (s.size : Int)) from by rw [Bool.eq_iff_iff]; simp; omega]
theorem wantTo_all (s : ByteArray) (max : Int) (k : Nat) (h : s.size ≤ k) : keyB s max = wantTo s max k := by
  rw [key_want]; unfold wantTo
  rw [List.take_of_length_le (by simpa using h)]
theorem wantTo_false (s : ByteArray) (max : Int) (k : Nat) (h : wantTo s max k = false) : keyB s max = false := by
  rw [key_want]; unfold wantTo at h
  cases hb : startB s max
  · simp
  · rw [hb] at h
    simp only [Bool.true_and] at h ⊢
    rw [List.all_eq_false] at h ⊢
    obtain ⟨x, hx, hx2⟩ := h
    exact ⟨x, List.mem_of_mem_take hx, hx2⟩
end Go.Proofs.Qxb6000375aMods.Key
