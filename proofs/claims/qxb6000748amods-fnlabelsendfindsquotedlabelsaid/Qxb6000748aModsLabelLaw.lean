import Derived.Test.Qxb6000748aModsLabelBuf
namespace Go.Proofs.Qxb6000748aMods.Label
open Go.RowKit

set_option maxHeartbeats 2000000 in
theorem early (k v r : ByteArray) (w : World) (w0 : k.size ≤ maxLen) (w1 : v.size ≤ maxLen) (w2 : r.size ≤ maxLen)
    (hcase : 1048576 < (k.size : Int) ∨ ((k.size : Int) ≤ 1048576 ∧ 1048576 < (v.size : Int)) ∨ ((k.size : Int) ≤ 1048576 ∧ (v.size : Int) ≤ 1048576 ∧ 1048576 < (r.size : Int)) ∨
      ((k.size : Int) ≤ 1048576 ∧ (v.size : Int) ≤ 1048576 ∧ (r.size : Int) ≤ 1048576 ∧ 1048576 < (k.size : Int) + 2 * (v.size : Int) + (r.size : Int))) :
    Calls Trym.prog 5 #[.string k, .string v, .string r] w fun e w' => e = .returned (.bool true) ∧ Below w.heap.size w w' := by
  unfold maxLen at w0 w1 w2
  have HZ := hide (zzBytes_calls k v r w)
  rcases hcase with g | ⟨g1, g⟩ | ⟨g1, g2, g⟩ | ⟨g1, g2, g3, g⟩
  all_goals
    go_enter Trym.func5, Trym.ntmps5
    go_wp2_with fail
    refine HZ.out.mono ?_
    rintro e w0 ⟨⟨b, rfl⟩, hw⟩
    have hw' := hw.symm
    subst hw'
    cases b
    · go_wp2_with fail
      go_ret
      exact ⟨rfl, Below.refl _ _⟩
    · go_wp2_with fail
      go_ret
      exact ⟨rfl, Below.refl _ _⟩

theorem take_snoc (s : ByteArray) (k : Nat) (h : k < s.size) : s.data.toList.take (k + 1) = s.data.toList.take k ++ [s[k]] := by
  rw [List.take_succ_eq_append_getElem (by simpa using h)]; rfl
theorem opened_start (k v : List UInt8) : [] ++ [123] ++ k ++ [61, 34] = opened k (v.take 0) := by simp [opened, esc]
theorem opened_plain (k : List UInt8) (v : ByteArray) (m : Nat) (h : m < v.size) (hc : ¬ (v[m] = 92 ∨ v[m] = 34)) : opened k (v.data.toList.take m) ++ [v[m]] = opened k (v.data.toList.take (m + 1)) := by
  rw [take_snoc v m h]
  unfold opened
  rw [esc_append]
  simp [esc, hc]
theorem opened_esc (k : List UInt8) (v : ByteArray) (m : Nat) (h : m < v.size) (hc : v[m] = 92 ∨ v[m] = 34) : opened k (v.data.toList.take m) ++ [92] ++ [v[m]] = opened k (v.data.toList.take (m + 1)) := by
  rw [take_snoc v m h]
  unfold opened
  rw [esc_append]
  simp [esc, hc]
theorem opened_room (k : List UInt8) (v : ByteArray) (m : Nat) : (opened k (v.data.toList.take m)).length ≤ k.length + 2 * m + 3 := by
  rw [opened_len]
  have := esc_len (v.data.toList.take m)
  rw [List.length_take] at this
  omega

set_option maxHeartbeats 4000000 in
theorem main (k v r : ByteArray) (w : World)
    (g1 : (k.size : Int) ≤ 1048576) (g2 : (v.size : Int) ≤ 1048576) (g3 : (r.size : Int) ≤ 1048576) (g : (k.size : Int) + 2 * (v.size : Int) + (r.size : Int) ≤ 1048576) :
    Calls Trym.prog 5 #[.string k, .string v, .string r] w fun e w' => e = .returned (.bool true) ∧ Below w.heap.size w w' := by
  have HZ := hide (zzBytes_calls k v r w)
  obtain ⟨i0, hi, hz0, hz1, hz2⟩ := info_parts info5
  go_enter Trym.func5, Trym.ntmps5
  go_wp2_with fail
  refine HZ.out.mono ?_
  rintro e w0 ⟨⟨b, rfl⟩, hw⟩
  have hw' := hw.symm
  subst hw'
  cases b
  · go_wp2_with fail
    go_ret
    exact ⟨rfl, Below.refl _ _⟩
  clear HZ
  go_wp2_with fail
  go_loop [7] (fun i => ∃ j : Nat, j ≤ k.size ∧ i = .int .i64 j ∧ Hid (∀ p (hp : p < k.size), p < j → k[p] ≠ 34 ∧ k[p] ≠ 125)) (fun i => k.size - (intOf i).toNat)
  case atStart => exact ⟨0, Nat.zero_le _, rfl, fun p _ h => by omega⟩
  case round =>
    obtain ⟨j, hj, rfl, hall⟩ := hrel
    by_cases hlt : j < k.size
    · clear hi hz0 hz1 hz2
      cases h34 : ((k[j].toNat : Int) == 34)
      · cases h125 : ((k[j].toNat : Int) == 125)
        · have hall2 : Hid (∀ p (hp : p < k.size), p < j + 1 → k[p] ≠ 34 ∧ k[p] ≠ 125) := fun p hp hlt2 => by
            by_cases e : p = j
            · subst e; exact ⟨no (d := 34) rfl h34, no (d := 125) rfl h125⟩
            · exact hall.out p hp (by omega)
          go_wp2_with fail
          go_round
          case rel => exact ⟨j + 1, by omega, by go_num, hall2⟩
          case measure => simp [intOf]; omega
        · go_wp2_with fail
          go_ret
          exact ⟨rfl, Below.refl _ _⟩
      · go_wp2_with fail
        go_ret
        exact ⟨rfl, Below.refl _ _⟩
    · have hkey : Hid (∀ c, c ∈ k.data.toList → c ≠ 34 ∧ c ≠ 125) := by
        intro c hc
        obtain ⟨p, hp, rfl⟩ := List.getElem_of_mem hc
        have hp' : p < k.size := by simpa using hp
        have := hall.out p hp' (by omega)
        exact this
      clear hall
      obtain ⟨cap, hcap⟩ : ∃ cap, cap = k.size + 2 * v.size + r.size + 5 := ⟨_, rfl⟩
      have Hcap := hide hcap
      clear hcap
      go_wp2_with (first
        | (at_make; refine wpList_make_own _ rfl _ _ 26 rfl w.heap.size 5 i0 (.int .u8 0) 1 Trym.underlying26 hi hz0 hz1 _ _ _ cap rfl rfl (by rw [Hcap.out]; omega) (by rw [hz2, Hcap.out]; omega) (by rw [Hcap.out]; unfold maxLen; omega) (Nat.le_refl _) ?_; intro w1 ho1 hg1; have O1 := hide (own_made ho1); have B1 : Hid (Below w.heap.size w w1) := (Below.refl _ _).grown hg1 (Nat.le_refl _) (fun j hj => by cases hj); clear ho1 hg1 hi hz0 hz1 hz2)
        | (at_builtin; refine app_lit _ rfl (.tmp 70) (.tmp 71) rfl w.heap.size cap 0 _ rfl (O1.out.alloc _) (by simp; have := B1.out.size; omega) _ _ _ [123] rfl rfl (new_cells _ _ _) (by rw [Hcap.out]; omega) ?_; intro w2 n2 hn2 o2 b2; have O2 := hide o2; have B2 : Hid (Below w.heap.size w w2) := (B1.out.alloc B1.out.size _).trans b2; have Hn2 := hide hn2; clear o2 b2 hn2 O1 B1)
        | (at_builtin; refine app_str _ rfl (.tmp 73) (.tmp 74) rfl w.heap.size cap n2 _ rfl O2.out B2.out.size k rfl (by rw [Hn2.out, Hcap.out]; omega) ?_; intro w3 n3 hn3 o3 b3; have O3 := hide o3; have B3 : Hid (Below w.heap.size w w3) := B2.out.trans b3; have Hn3 : Hid (n3 = k.size + 1) := (by unfold Hid; rw [hn3, Hn2.out]; omega); clear o3 b3 hn3 O2 B2 Hn2)
        | (at_builtin; refine app_lit _ rfl (.tmp 76) (.tmp 77) rfl w.heap.size cap n3 _ rfl (O3.out.alloc _) (by simp; have := B3.out.size; omega) _ _ _ [61, 34] rfl rfl (new_cells _ _ _) (by rw [Hn3.out, Hcap.out]; omega) ?_; intro w4 n4 hn4 o4 b4; have O4 := hide o4; have B4 : Hid (Below w.heap.size w w4) := (B3.out.alloc B3.out.size _).trans b4; have Hn4 : Hid (n4 = k.size + 3) := (by unfold Hid; rw [hn4, Hn3.out]); clear o4 b4 hn4 O3 B3 Hn3))
      have R4 : Hid (Own w4 w.heap.size cap n4 (opened k.data.toList (v.data.toList.take 0))) := by unfold Hid; rw [← opened_start]; exact O4.out
      clear O4 Hn4
      go_loopw [8, 9] (fun t i wr => ∃ m n : Nat, m ≤ v.size ∧ i = .int .i64 m ∧ t = .slice (some ⟨w.heap.size, 0, none⟩) n cap ∧ Hid (Own wr w.heap.size cap n (opened k.data.toList (v.data.toList.take m))) ∧ Hid (Below w.heap.size w wr)) (fun _ i _ => v.size - (intOf i).toNat)
      case atStart => exact ⟨0, n4, Nat.zero_le _, rfl, rfl, R4, B4⟩
      clear R4 B4
      case round =>
        obtain ⟨m, n, hm, rfl, rfl, O, B⟩ := hrel
        have hroom : Hid (n ≤ k.size + 2 * m + 3) := by
          have h1 := O.out.len
          have h2 := opened_room k.data.toList v m
          have h3 : k.data.toList.length = k.size := by simp
          unfold Hid
          omega
        by_cases hlt2 : m < v.size
        · by_cases hc : v[m] = 92 ∨ v[m] = 34
          · have Hst := hide (opened_esc k.data.toList v m hlt2 hc)
            have hcase : ((v[m].toNat : Int) == 92) = true ∨ (((v[m].toNat : Int) == 92) = false ∧ ((v[m].toNat : Int) == 34) = true) := by
              rcases hc with h | h
              · rw [h]; exact .inl rfl
              · rw [h]; exact .inr ⟨rfl, rfl⟩
            clear hc
            rcases hcase with h92 | ⟨h92, h34⟩
            all_goals
              go_wp2_with (first
                | (at_builtin; refine app_lit _ rfl (.tmp 94) (.tmp 95) rfl w.heap.size cap n _ rfl (O.out.alloc _) (by simp; have := B.out.size; omega) _ _ _ [92] rfl rfl (new_cells _ _ _) (by have := hroom.out; rw [Hcap.out]; omega) ?_; intro w5 n5 hn5 o5 b5; have O5 := hide o5; have B5 : Hid (Below w.heap.size w w5) := (B.out.alloc B.out.size _).trans b5; have Hn5 := hide hn5; clear o5 b5 hn5 O B)
                | (at_builtin; refine app_lit _ rfl (.tmp 97) (.tmp 99) rfl w.heap.size cap n5 _ rfl (O5.out.alloc _) (by simp; have := B5.out.size; omega) _ _ _ [v[m]] rfl rfl (new_cells _ _ _) (by have := hroom.out; rw [Hn5.out, Hcap.out]; omega) ?_; intro w6 n6 hn6 o6 b6; have O6 : Hid (Own w6 w.heap.size cap n6 (opened k.data.toList (v.data.toList.take (m + 1)))) := (by unfold Hid; rw [← Hst.out]; exact o6); have B6 : Hid (Below w.heap.size w w6) := (B5.out.alloc B5.out.size _).trans b6; clear o6 b6 hn6 O5 B5 Hn5))
              go_roundw
              case rel => exact ⟨m + 1, n6, by omega, by go_num, rfl, O6, B6⟩
              case measure => simp [intOf]; omega
          · have Hst := hide (opened_plain k.data.toList v m hlt2 hc)
            have h92 : ((v[m].toNat : Int) == 92) = false := by
              cases h : ((v[m].toNat : Int) == 92)
              · rfl
              · exact absurd (.inl (yes (d := 92) rfl h)) hc
            have h34 : ((v[m].toNat : Int) == 34) = false := by
              cases h : ((v[m].toNat : Int) == 34)
              · rfl
              · exact absurd (.inr (yes (d := 34) rfl h)) hc
            clear hc
            go_wp2_with (at_builtin; refine app_lit _ rfl (.tmp 97) (.tmp 99) rfl w.heap.size cap n _ rfl (O.out.alloc _) (by simp; have := B.out.size; omega) _ _ _ [v[m]] rfl rfl (new_cells _ _ _) (by have := hroom.out; rw [Hcap.out]; omega) ?_; intro w6 n6 hn6 o6 b6; have O6 : Hid (Own w6 w.heap.size cap n6 (opened k.data.toList (v.data.toList.take (m + 1)))) := (by unfold Hid; rw [← Hst.out]; exact o6); have B6 : Hid (Below w.heap.size w w6) := (B.out.alloc B.out.size _).trans b6; clear o6 b6 hn6 O B)
            go_roundw
            case rel => exact ⟨m + 1, n6, by omega, by go_num, rfl, O6, B6⟩
            case measure => simp [intOf]; omega
        · have hV : v.data.toList.take m = v.data.toList := List.take_of_length_le (by simp; omega)
          have O' : Hid (Own wr w.heap.size cap n (opened k.data.toList v.data.toList)) := by unfold Hid; have h := O.out; rw [hV] at h; exact h
          obtain ⟨S1, hS1⟩ : ∃ S1 : ByteArray, S1 = ⟨(opened k.data.toList v.data.toList ++ [34] ++ [125] ++ r.data.toList).toArray⟩ := ⟨_, rfl⟩
          obtain ⟨S2, hS2⟩ : ∃ S2 : ByteArray, S2 = ⟨(opened k.data.toList v.data.toList).toArray⟩ := ⟨_, rfl⟩
          have hn := O'.out.len
          have hkl : k.data.toList.length = k.size := by simp
          have hrl : r.data.toList.length = r.size := by simp
          have hnle : n ≤ k.size + 2 * v.size + 3 := by have := hroom.out; omega
          have H1 : Hid (∀ w', Calls Trym.prog 9 #[.string S1] w' fun e w'' => e = .returned (.int .i64 ((n + 1 : Nat) : Int)) ∧ w'' = w') := fun w' => by
            have hsz : S1.size ≤ 4000000 := by rw [hS1]; show (List.toArray _).size ≤ _; simp only [List.size_toArray, List.length_append, List.length_cons, List.length_nil]; omega
            refine (zzLabelsEnd_calls S1 hsz w').mono fun _ _ h => ⟨?_, h.2⟩
            rw [h.1, hS1]
            have := whole_is k.data.toList v.data.toList r.data.toList hkey.out
            rw [List.append_assoc, List.append_assoc]
            show Ending.returned (.int .i64 (labels ⟨(opened k.data.toList v.data.toList ++ 34 :: 125 :: r.data.toList).toArray⟩)) = _
            rw [this, hn]
          have H2 : Hid (∀ w', Calls Trym.prog 9 #[.string S2] w' fun e w'' => e = .returned (.int .i64 (-1)) ∧ w'' = w') := fun w' => by
            have hsz : S2.size ≤ 4000000 := by rw [hS2]; show (List.toArray _).size ≤ _; simp only [List.size_toArray]; omega
            refine (zzLabelsEnd_calls S2 hsz w').mono fun _ _ h => ⟨?_, h.2⟩
            rw [h.1, hS2, cut_is k.data.toList v.data.toList hkey.out]
          have C1 : Hid (∀ w' n', Own w' w.heap.size cap n' (opened k.data.toList v.data.toList ++ [34] ++ [125] ++ r.data.toList) → (convert 26 9 (.slice (some ⟨w.heap.size, 0, none⟩) n' cap)).run Trym.prog w' = .ok (.string S1) w') := fun w' n' h => by
            rw [hS1]; exact conv_is h _ n' h.len.symm (fun j hj => ⟨hj, rfl⟩)
          have C2 : Hid (∀ w' n', Own w' w.heap.size cap n' (opened k.data.toList v.data.toList ++ [34] ++ [125] ++ r.data.toList) → (convert 26 9 (.slice (some ⟨w.heap.size, 0, none⟩) n cap)).run Trym.prog w' = .ok (.string S2) w') := fun w' n' h => by
            rw [hS2]
            refine conv_is h _ n hn.symm (fun j hj => ⟨by simp only [List.length_append]; omega, ?_⟩)
            rw [List.getElem_append_left (by simp only [List.length_append]; omega), List.getElem_append_left (by simp only [List.length_append]; omega), List.getElem_append_left hj]
          have hncap : (n : Int) ≤ (cap : Int) := by rw [Hcap.out]; omega
          clear hS1 hS2 hV O hroom hn hkl hrl hkey
          go_wp2_with (first
            | (at_builtin; refine app_lit _ rfl (.tmp 103) (.tmp 104) rfl w.heap.size cap n _ rfl (O'.out.alloc _) (by simp; have := B.out.size; omega) _ _ _ [34] rfl rfl (new_cells _ _ _) (by rw [Hcap.out]; omega) ?_; intro w5 n5 hn5 o5 b5; have O5 := hide o5; have B5 : Hid (Below w.heap.size w w5) := (B.out.alloc B.out.size _).trans b5; have Hn5 := hide hn5; clear o5 b5 hn5 O' B)
            | (at_builtin; refine app_lit _ rfl (.tmp 108) (.tmp 109) rfl w.heap.size cap n5 _ rfl (O5.out.alloc _) (by simp; have := B5.out.size; omega) _ _ _ [125] rfl rfl (new_cells _ _ _) (by rw [Hn5.out, Hcap.out]; omega) ?_; intro w6 n6 hn6 o6 b6; have O6 := hide o6; have B6 : Hid (Below w.heap.size w w6) := (B5.out.alloc B5.out.size _).trans b6; have Hn6 := hide hn6; clear o6 b6 hn6 O5 B5)
            | (at_builtin; refine app_str _ rfl (.tmp 111) (.tmp 112) rfl w.heap.size cap n6 _ rfl O6.out B6.out.size r rfl (by rw [Hn6.out, Hn5.out, Hcap.out]; omega) ?_; intro w7 n7 hn7 o7 b7; have e1 := C1.out w7 n7 o7; have e2 := C2.out w7 n7 o7; have B7 : Hid (Below w.heap.size w w7) := B6.out.trans b7; clear o7 b7 hn7 O6 B6 Hn6 C1 C2))
          have H1' : Calls Trym.prog 9 #[.string S1] w7 fun e w'' => e = .returned (.int .i64 (n5 : Int)) ∧ w'' = w7 := by rw [Hn5.out]; exact H1.out w7
          refine H1'.mono ?_
          rintro e w8 ⟨rfl, hw⟩
          have hw' := hw.symm
          subst hw'
          clear H1' H1 Hn5
          go_wp2_with fail
          refine (H2.out w7).mono ?_
          rintro e w8 ⟨rfl, hw⟩
          have hw' := hw.symm
          subst hw'
          clear H2
          go_wp2_with fail
          go_ret
          exact ⟨rfl, B7.out⟩

theorem walk (k v r : ByteArray) (w0 : k.size ≤ maxLen) (w1 : v.size ≤ maxLen) (w2 : r.size ≤ maxLen) (w : World) :
    Calls Trym.prog 5 #[.string k, .string v, .string r] w fun e w' => e = .returned (.bool true) ∧ Below w.heap.size w w' := by
  by_cases g1 : (k.size : Int) ≤ 1048576
  · by_cases g2 : (v.size : Int) ≤ 1048576
    · by_cases g3 : (r.size : Int) ≤ 1048576
      · by_cases g : (k.size : Int) + 2 * (v.size : Int) + (r.size : Int) ≤ 1048576
        · exact main k v r w g1 g2 g3 g
        · exact early k v r w w0 w1 w2 (.inr (.inr (.inr ⟨g1, g2, g3, by omega⟩)))
      · exact early k v r w w0 w1 w2 (.inr (.inr (.inl ⟨g1, g2, by omega⟩)))
    · exact early k v r w w0 w1 w2 (.inr (.inl ⟨g1, by omega⟩))
  · exact early k v r w w0 w1 w2 (.inl (by omega))
end Go.Proofs.Qxb6000748aMods.Label
