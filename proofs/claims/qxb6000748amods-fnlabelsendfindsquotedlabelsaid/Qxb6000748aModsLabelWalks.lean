import Derived.Test.Qxb6000748aModsLabelPlain
import Derived.WalkKit
import Derived.WalkSmall
namespace Go.Proofs.Qxb6000748aMods.Label
open Go.RowKit

theorem hide {p : Prop} (h : p) : Hid p := h
theorem ret_int {k : IntKind} {a b : Int} (h : b = a) : Ending.returned (.int k a) = .returned (.int k b) := by rw [h]

theorem drop_step (s : ByteArray) (k : Nat) (h : k < s.size) : s.data.toList.drop k = s[k] :: s.data.toList.drop (k + 1) := by
  rw [List.drop_eq_getElem_cons (by simpa using h)]; rfl
theorem yes {c d : UInt8} {n : Int} (hd : (d.toNat : Int) = n) (h : ((c.toNat : Int) == n) = true) : c = d := by
  have h' : (c.toNat : Int) = n := by simpa using h
  exact UInt8.toNat_inj.1 (by omega)
theorem no {c d : UInt8} {n : Int} (hd : (d.toNat : Int) = n) (h : ((c.toNat : Int) == n) = false) : ¬ c = d := by
  intro e
  subst e
  rw [hd] at h
  simp at h

/-- What the loop's rest answers at index k. -/
def at' (s : ByteArray) (q : Bool) (k : Nat) : Int := scan q false (s.data.toList.drop k) k
theorem at_end (s : ByteArray) (q : Bool) (k : Nat) (h : s.size ≤ k) : at' s q k = -1 := by
  unfold at'
  rw [List.drop_eq_nil_of_le (by simpa using h)]; rfl
theorem at_step (s : ByteArray) (q : Bool) (k : Nat) (h : k < s.size) : at' s q k =
    if s[k] = 92 then (if q = true then at' s q (k + 2) else at' s q (k + 1)) else if s[k] = 34 then at' s (!q) (k + 1) else if s[k] = 125 then (if q = true then at' s q (k + 1) else (k : Int)) else at' s q (k + 1) := by
  unfold at'
  rw [drop_step s k h, scan_cons, if_neg (by decide)]
  by_cases h1 : s[k] = 92
  · rw [if_pos h1, if_pos h1]
    cases q
    · rfl
    · rw [if_pos rfl]
      by_cases h2 : k + 1 < s.size
      · rw [drop_step s (k + 1) h2, scan_cons, if_pos rfl]
      · rw [List.drop_eq_nil_of_le (by simp; omega), List.drop_eq_nil_of_le (by simp; omega)]; rfl
  · rw [if_neg h1, if_neg h1]

set_option maxHeartbeats 1000000 in
theorem labelsEnd_calls (s : ByteArray) (hs : s.size ≤ 4000000) (w : World) :
    Calls Trym.prog 13 #[.string s] w fun e w' => e = .returned (.int .i64 (labels s)) ∧ w' = w := by
  go_enter Trym.func13, Trym.ntmps13
  go_wp2
  go_loop [3, 4] (fun t i => ∃ (k : Nat) (q : Bool), 1 ≤ k ∧ k ≤ s.size + 1 ∧ i = .int .i64 k ∧ t = .bool q ∧ Hid (labels s = at' s q k)) (fun _ i => s.size + 1 - (intOf i).toNat)
  case atStart => exact ⟨1, false, by omega, by omega, rfl, rfl, rfl⟩
  case round =>
    obtain ⟨k, q, hk1, hk2, rfl, rfl, hl⟩ := hrel
    by_cases hlt : k < s.size
    · cases q
      · have Hst := hide (at_step s false k hlt)
        go_wp2
        · go_round
          case rel => exact ⟨k + 1, false, by omega, by omega, by go_num, rfl, by unfold Hid; rw [hl.out, Hst.out, if_pos (yes (d := 92) rfl ‹_›), if_neg (by decide)]⟩
          case measure => simp [intOf]; omega
        · go_round
          case rel => exact ⟨k + 1, true, by omega, by omega, by go_num, rfl, by unfold Hid; rw [hl.out, Hst.out, if_neg (no (d := 92) rfl ‹(_ == (92 : Int)) = false›), if_pos (yes (d := 34) rfl ‹(_ == (34 : Int)) = true›)]; rfl⟩
          case measure => simp [intOf]; omega
        · go_ret
          exact ⟨ret_int (a := (k : Int)) (by rw [hl.out, Hst.out, if_neg (no (d := 92) rfl ‹(_ == (92 : Int)) = false›), if_neg (no (d := 34) rfl ‹(_ == (34 : Int)) = false›), if_pos (yes (d := 125) rfl ‹(_ == (125 : Int)) = true›), if_neg (by decide)]), rfl⟩
        · go_round
          case rel => exact ⟨k + 1, false, by omega, by omega, by go_num, rfl, by unfold Hid; rw [hl.out, Hst.out, if_neg (no (d := 92) rfl ‹(_ == (92 : Int)) = false›), if_neg (no (d := 34) rfl ‹(_ == (34 : Int)) = false›), if_neg (no (d := 125) rfl ‹(_ == (125 : Int)) = false›)]⟩
          case measure => simp [intOf]; omega
      · have Hst := hide (at_step s true k hlt)
        go_wp2
        · go_round
          case rel => exact ⟨k + 2, true, by omega, by omega, by go_num, rfl, by unfold Hid; rw [hl.out, Hst.out, if_pos (yes (d := 92) rfl ‹_›), if_pos rfl]⟩
          case measure => simp [intOf]; omega
        · go_round
          case rel => exact ⟨k + 1, false, by omega, by omega, by go_num, rfl, by unfold Hid; rw [hl.out, Hst.out, if_neg (no (d := 92) rfl ‹(_ == (92 : Int)) = false›), if_pos (yes (d := 34) rfl ‹(_ == (34 : Int)) = true›)]; rfl⟩
          case measure => simp [intOf]; omega
        · go_round
          case rel => exact ⟨k + 1, true, by omega, by omega, by go_num, rfl, by unfold Hid; rw [hl.out, Hst.out, if_neg (no (d := 92) rfl ‹(_ == (92 : Int)) = false›), if_neg (no (d := 34) rfl ‹(_ == (34 : Int)) = false›), if_pos (yes (d := 125) rfl ‹(_ == (125 : Int)) = true›), if_pos rfl]⟩
          case measure => simp [intOf]; omega
        · go_round
          case rel => exact ⟨k + 1, true, by omega, by omega, by go_num, rfl, by unfold Hid; rw [hl.out, Hst.out, if_neg (no (d := 92) rfl ‹(_ == (92 : Int)) = false›), if_neg (no (d := 34) rfl ‹(_ == (34 : Int)) = false›), if_neg (no (d := 125) rfl ‹(_ == (125 : Int)) = false›)]⟩
          case measure => simp [intOf]; omega
    · have Hend := hide (at_end s q k (by omega))
      go_wp2
      go_ret
      exact ⟨ret_int (a := (-1 : Int)) (by rw [hl.out, Hend.out]), rfl⟩

theorem zzLabelsEnd_calls (s : ByteArray) (hs : s.size ≤ 4000000) (w : World) :
    Calls Trym.prog 9 #[.string s] w fun e w' => e = .returned (.int .i64 (labels s)) ∧ w' = w := by
  have H := hide (labelsEnd_calls s hs w)
  go_enter Trym.func9, Trym.ntmps9
  go_wp2_with (go_at_call 13; refine H.out.mono ?_; rintro e w' ⟨rfl, rfl⟩)
  go_ret
  exact ⟨rfl, rfl⟩

def SomeBool (e : Ending) : Prop := ∃ b, e = .returned (.bool b)
theorem someBool (b : Bool) : SomeBool (.returned (.bool b)) := ⟨b, rfl⟩
set_option maxHeartbeats 1000000 in
theorem zzBytes_calls (k v r : ByteArray) (w : World) :
    Calls Trym.prog 11 #[.string k, .string v, .string r] w fun e w' => SomeBool e ∧ w' = w := by
  go_enter Trym.func11, Trym.ntmps11
  go_wp2
  all_goals (go_ret; exact ⟨someBool _, rfl⟩)
end Go.Proofs.Qxb6000748aMods.Label
