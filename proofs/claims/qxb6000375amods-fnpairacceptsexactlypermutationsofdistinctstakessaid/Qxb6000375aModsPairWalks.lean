import Derived.Test.Qxb6000375aModsPayWalks
import Derived.Maps.OwnSet
namespace Go.Proofs.Qxb6000375aMods.Pair
open Go.RowKit Go.Maps Go.WideMaps Pay

theorem law : Keyed Trym.prog 9 := string_keyed Trym.underlying9
theorem zeroE (w : World) : (zeroValue 2).run Trym.prog w = .ok (.int .i64 0) w := by kernel_rfl
theorem run_makeMapN (n : Int) (w : World) : (Instr.makeMap 31 (some (.int .i64 n))).run Trym.prog w = .ok (.map (some w.heap.size)) (w.alloc (.map #[] 0)) := by
  simp [Instr.makeMap, run_underlying Trym.underlying31, asInt, asIntOf, newObj]
  rfl

/-- What a key reads as. -/
def keyLit (s : ByteArray) : Lit := .string s.data.toList
theorem key_ok {s : ByteArray} (h : s.size ≤ maxLen) : keyOf Trym.prog 9 (.string s) = some (keyLit s) := keyOf_string_mk Trym.underlying9 h
theorem isKey (s : ByteArray) : WideAt.IsKeyLit (keyLit s) := trivial
theorem keyLit_inj {a b : ByteArray} (h : keyLit a = keyLit b) : a = b := by
  unfold keyLit at h
  have h' : a.data.toList = b.data.toList := by simpa using h
  cases a; cases b
  congr 1
  exact Array.toList_inj.1 h'

/-- The map after the first n entries: the last one wins. -/
def mapTo (idf : Nat → ByteArray) (unf : Nat → Int) : Nat → DataW Unit
  | 0 => .map []
  | n + 1 => (mapTo idf unf n).put (keyLit (idf n)) (.lit (.int .i64 (unf n)))
theorem mapTo_isMap (idf : Nat → ByteArray) (unf : Nat → Int) : ∀ n, IsMap (mapTo idf unf n)
  | 0 => isMap_empty
  | n + 1 => (mapTo_isMap idf unf n).put _ _
theorem mapTo_tidy (idf : Nat → ByteArray) (unf : Nat → Int) : ∀ n, Tidy (mapTo idf unf n)
  | 0 => tidy_empty
  | n + 1 => (mapTo_tidy idf unf n).put (isKey _) _

/-- The units of the last of the first n entries whose id is x; 0 where there is none. -/
def lastUn (idf : Nat → ByteArray) (unf : Nat → Int) (x : ByteArray) : Nat → Int
  | 0 => 0
  | n + 1 => if idf n = x then unf n else lastUn idf unf x n
/-- Is x among the first n ids? -/
def memIx (idf : Nat → ByteArray) (x : ByteArray) : Nat → Bool
  | 0 => false
  | n + 1 => if idf n = x then true else memIx idf x n
/-- How many different ids there are among the first n. -/
def distN (idf : Nat → ByteArray) : Nat → Nat
  | 0 => 0
  | n + 1 => if memIx idf (idf n) n then distN idf n else distN idf n + 1

theorem has_mapTo (idf : Nat → ByteArray) (unf : Nat → Int) (x : ByteArray) : ∀ n, Maps.has (mapTo idf unf n) (keyLit x) = memIx idf x n
  | 0 => rfl
  | n + 1 => by
    unfold mapTo memIx
    by_cases h : idf n = x
    · rw [if_pos h, h]
      exact has_put_same (mapTo_isMap idf unf n) (isKey _) _
    · rw [if_neg h, has_put_other (fun e => h (keyLit_inj e).symm), has_mapTo idf unf x n]

theorem at_mapTo (idf : Nat → ByteArray) (unf : Nat → Int) (x : ByteArray) : ∀ n, (mapTo idf unf n).atKey (keyLit x) (.lit (.int .i64 0)) = .lit (.int .i64 (lastUn idf unf x n))
  | 0 => rfl
  | n + 1 => by
    unfold mapTo lastUn
    by_cases h : idf n = x
    · rw [if_pos h, h]
      exact atKey_put_same (mapTo_isMap idf unf n) (isKey _) _ _
    · rw [if_neg h, atKey_put_other (fun e => h (keyLit_inj e).symm), at_mapTo idf unf x n]

theorem size_mapTo (idf : Nat → ByteArray) (unf : Nat → Int) : ∀ n, Maps.size (mapTo idf unf n) = distN idf n
  | 0 => rfl
  | n + 1 => by
    unfold mapTo distN
    rw [size_put (mapTo_tidy idf unf n), has_mapTo idf unf, size_mapTo idf unf n]

/-- What 'pair' accepts. -/
def pairOk (sid aid : Nat → ByteArray) (ns na : Nat) : Bool := decide (na = ns ∧ ∀ k, k < ns → memIx aid (sid k) na = true)

set_option maxHeartbeats 2000000 in
theorem pair_calls (w : World) (bs ns cs : Nat) (sid : Nat → ByteArray) (sun : Nat → Int) (hps : Pay w bs ns sid sun) (ba na ca : Nat) (aid : Nat → ByteArray) (aun : Nat → Int) (hpa : Pay w ba na aid aun)
    (hns : ns ≤ 4096) (hna : na ≤ 4096) (hsz : ∀ k, (sid k).size ≤ maxLen) (hsa : ∀ k, (aid k).size ≤ maxLen) (hwa : ∀ k, (Lit.int .i64 (aun k)).wf = true) :
    Calls Trym.prog 30 #[.slice (some ⟨bs, 0, none⟩) ns cs, .slice (some ⟨ba, 0, none⟩) na ca] w fun e w' =>
      (pairOk sid aid ns na = true → e = .returned (.tuple #[.map (some w.heap.size), .bool true]) ∧ w'.ownsMap Trym.prog 9 (plainElem Trym.prog 2) w.heap.size na (mapTo aid aun na)) ∧
      (pairOk sid aid ns na = false → e = .returned (.tuple #[.map none, .bool false])) ∧ Below w.heap.size w w' := by
  have hmm := run_makeMapN
  by_cases hne : na = ns
  · subst hne
    have hb : ((na : Int) != (na : Int)) = false := by simp
    have HS := Pay.hide hps
    have HA := Pay.hide hpa
    have HZ := Pay.hide hsz
    have HSA := Pay.hide hsa
    have HW := Pay.hide hwa
    clear hps hpa hsz hsa hwa
    go_enter Trym.func30, Trym.ntmps30
    go_wp2
    clear hmm
    go_loopw [23] (fun i wr => ∃ k : Nat, k ≤ na ∧ i = .int .i64 k ∧ wr.ownsMap Trym.prog 9 (plainElem Trym.prog 2) w.heap.size k (mapTo aid aun k) ∧ Below w.heap.size w wr) (fun i _ => na - (intOf i).toNat)
    case atStart => exact ⟨0, Nat.zero_le _, rfl, World.ownsMap_made _ _ _ _, (Below.refl _ _).alloc (Nat.le_refl _) _⟩
    case round =>
      obtain ⟨k, hk, rfl, hown, hnx⟩ := hrel
      by_cases hlt : k < na
      · have hc1 : wr.cell? ⟨ba, k * 2, none⟩ = some (.string (aid k)) := (hnx.cell (p := ⟨ba, k * 2, none⟩) HA.out.lt).trans (HA.out.id k hlt)
        have hc2 : wr.cell? ⟨ba, k * 2 + 1, none⟩ = some (.int .i64 (aun k)) := (hnx.cell (p := ⟨ba, k * 2 + 1, none⟩) HA.out.lt).trans (HA.out.un k hlt)
        have hkey := key_ok (HSA.out k)
        have hwf := HW.out k
        have Hnx := Pay.hide hnx
        have Hown := Pay.hide hown
        clear hnx hown HS HA HZ HSA HW
        go_wp2_with (at_mapUpdate; refine wpList_mapUpdate_own _ rfl _ _ _ 31 rfl 9 2 law Trym.underlying31 _ w.heap.size k _ rfl (Hown.out.alloc _) (by unfold maxLen; omega) _ _ _ rfl rfl hkey _ [] (plainElem_int Trym.underlying2 hwf) ?_)
        intro w1 hown1 hgrow1
        have R1 : w1.ownsMap Trym.prog 9 (plainElem Trym.prog 2) w.heap.size (k + 1) (mapTo aid aun (k + 1)) := hown1
        have R2 : Below w.heap.size w w1 := (Hnx.out.alloc Hnx.out.size _).grown hgrow1 (by simp; have := Hnx.out.size; omega) (fun j hj => by cases hj; exact Nat.le_refl _)
        clear hown1 hgrow1 Hown Hnx hc1 hc2 hkey hwf
        go_wp2
        go_roundw
        case rel => exact ⟨k + 1, by omega, by go_num, R1, R2⟩
        case measure => simp [intOf]; omega
      · obtain rfl : k = na := by omega
        have Hnx := Pay.hide hnx
        have Hown := Pay.hide hown
        clear hnx hown
        go_wp2
        clear HA HSA HW
        go_loopw [35] (fun i wr => ∃ j : Nat, j ≤ k ∧ i = .int .i64 j ∧ Hid (∀ p, p < j → memIx aid (sid p) k = true) ∧ wr.ownsMap Trym.prog 9 (plainElem Trym.prog 2) w.heap.size k (mapTo aid aun k) ∧ Below w.heap.size w wr) (fun i _ => k - (intOf i).toNat)
        case atStart => exact ⟨0, Nat.zero_le _, rfl, fun p h => by omega, Hown.out, Hnx.out⟩
        clear Hown Hnx
        case round =>
          obtain ⟨j, hj, rfl, hall, hown, hnx⟩ := hrel
          by_cases hlt2 : j < k
          · have hc1 : wr.cell? ⟨bs, j * 2, none⟩ = some (.string (sid j)) := (hnx.cell (p := ⟨bs, j * 2, none⟩) HS.out.lt).trans (HS.out.id j hlt2)
            have hc2 : wr.cell? ⟨bs, j * 2 + 1, none⟩ = some (.int .i64 (sun j)) := (hnx.cell (p := ⟨bs, j * 2 + 1, none⟩) HS.out.lt).trans (HS.out.un j hlt2)
            have hkey := key_ok (HZ.out j)
            have Hnx := Pay.hide hnx
            have Hown := Pay.hide hown
            have Hm := Pay.hide (has_mapTo aid aun (sid j) k)
            clear hnx hown HS HZ
            cases hm : memIx aid (sid j) k
            · have hhas : Maps.has (mapTo aid aun k) (keyLit (sid j)) = false := Hm.out.trans hm
              have hf : Hid (pairOk sid aid k k = false) := by
                unfold Hid pairOk
                rw [decide_eq_false_iff_not]
                intro h
                rw [h.2 j hlt2] at hm
                cases hm
              clear hm Hm
              go_wp2_with (at_lookup; refine wpList_lookup_own_ok_int _ rfl _ _ 31 rfl 9 2 .i64 law Trym.underlying31 Trym.underlying2 (zeroE _) w.heap.size k _ rfl (Hown.out.alloc _) _ _ rfl hkey ?_; intro c hat hwc; clear hat hwc)
              go_ret2
              exact ⟨fun h => absurd h (by rw [hf.out]; decide), fun _ => rfl, Hnx.out.alloc Hnx.out.size _⟩
            · have hhas : Maps.has (mapTo aid aun k) (keyLit (sid j)) = true := Hm.out.trans hm
              have hall2 : Hid (∀ p, p < j + 1 → memIx aid (sid p) k = true) := fun p hp => by
                by_cases e : p = j
                · subst e; exact hm
                · exact hall.out p (by omega)
              clear hm Hm
              go_wp2_with (at_lookup; refine wpList_lookup_own_ok_int _ rfl _ _ 31 rfl 9 2 .i64 law Trym.underlying31 Trym.underlying2 (zeroE _) w.heap.size k _ rfl (Hown.out.alloc _) _ _ rfl hkey ?_; intro c hat hwc; clear hat hwc)
              go_roundw
              case rel => exact ⟨j + 1, by omega, by go_num, hall2, Hown.out.alloc _, Hnx.out.alloc Hnx.out.size _⟩
              case measure => simp [intOf]; omega
          · have ht : Hid (pairOk sid aid k k = true) := by
              unfold Hid pairOk
              rw [decide_eq_true_eq]
              exact ⟨rfl, fun p hp => hall.out p (by omega)⟩
            have Hnx := Pay.hide hnx
            have Hown := Pay.hide hown
            clear hnx hown HS HZ
            go_wp2
            go_ret2
            exact ⟨fun _ => ⟨rfl, Hown.out⟩, fun h => absurd h (by rw [ht.out]; decide), Hnx.out⟩
  · have hb : ((na : Int) != (ns : Int)) = true := by rw [bne_iff_ne]; omega
    have hf : Hid (pairOk sid aid ns na = false) := by unfold Hid pairOk; rw [decide_eq_false_iff_not]; exact fun h => hne h.1
    clear hne hps hpa hsz hsa hwa
    go_enter Trym.func30, Trym.ntmps30
    go_wp2
    go_ret2
    exact ⟨fun h => absurd h (by rw [hf.out]; decide), fun _ => rfl, Below.refl _ _⟩

theorem pair_yes (w : World) (bs ns cs : Nat) (sid : Nat → ByteArray) (sun : Nat → Int) (hps : Pay w bs ns sid sun) (ba na ca : Nat) (aid : Nat → ByteArray) (aun : Nat → Int) (hpa : Pay w ba na aid aun)
    (hns : ns ≤ 4096) (hna : na ≤ 4096) (hsz : ∀ k, (sid k).size ≤ maxLen) (hsa : ∀ k, (aid k).size ≤ maxLen) (hwa : ∀ k, (Lit.int .i64 (aun k)).wf = true) (hok : pairOk sid aid ns na = true) :
    Calls Trym.prog 30 #[.slice (some ⟨bs, 0, none⟩) ns cs, .slice (some ⟨ba, 0, none⟩) na ca] w fun e w' =>
      e = .returned (.tuple #[.map (some w.heap.size), .bool true]) ∧ w'.ownsMap Trym.prog 9 (plainElem Trym.prog 2) w.heap.size na (mapTo aid aun na) ∧ Below w.heap.size w w' :=
  (pair_calls w bs ns cs sid sun hps ba na ca aid aun hpa hns hna hsz hsa hwa).mono fun _ _ h => ⟨(h.1 hok).1, (h.1 hok).2, h.2.2⟩

theorem pair_no (w : World) (bs ns cs : Nat) (sid : Nat → ByteArray) (sun : Nat → Int) (hps : Pay w bs ns sid sun) (ba na ca : Nat) (aid : Nat → ByteArray) (aun : Nat → Int) (hpa : Pay w ba na aid aun)
    (hns : ns ≤ 4096) (hna : na ≤ 4096) (hsz : ∀ k, (sid k).size ≤ maxLen) (hsa : ∀ k, (aid k).size ≤ maxLen) (hwa : ∀ k, (Lit.int .i64 (aun k)).wf = true) (hok : pairOk sid aid ns na = false) :
    Calls Trym.prog 30 #[.slice (some ⟨bs, 0, none⟩) ns cs, .slice (some ⟨ba, 0, none⟩) na ca] w fun e w' =>
      e = .returned (.tuple #[.map none, .bool false]) ∧ Below w.heap.size w w' :=
  (pair_calls w bs ns cs sid sun hps ba na ca aid aun hpa hns hna hsz hsa hwa).mono fun _ _ h => ⟨h.2.1 hok, h.2.2⟩

theorem zzPair_yes (w : World) (bs ns cs : Nat) (sid : Nat → ByteArray) (sun : Nat → Int) (hps : Pay w bs ns sid sun) (ba na ca : Nat) (aid : Nat → ByteArray) (aun : Nat → Int) (hpa : Pay w ba na aid aun)
    (hns : ns ≤ 4096) (hna : na ≤ 4096) (hsz : ∀ k, (sid k).size ≤ maxLen) (hsa : ∀ k, (aid k).size ≤ maxLen) (hwa : ∀ k, (Lit.int .i64 (aun k)).wf = true) (hok : pairOk sid aid ns na = true) :
    Calls Trym.prog 19 #[.slice (some ⟨bs, 0, none⟩) ns cs, .slice (some ⟨ba, 0, none⟩) na ca] w fun e w' =>
      e = .returned (.tuple #[.map (some w.heap.size), .bool true]) ∧ w'.ownsMap Trym.prog 9 (plainElem Trym.prog 2) w.heap.size na (mapTo aid aun na) ∧ Below w.heap.size w w' := by
  have H := Pay.hide (pair_yes w bs ns cs sid sun hps ba na ca aid aun hpa hns hna hsz hsa hwa hok)
  clear hps hpa hsz hsa hwa hok
  go_enter Trym.func19, Trym.ntmps19
  go_wp2_with (go_at_call 30; refine H.out.mono ?_; rintro e w' ⟨rfl, ho, hb⟩)
  go_ret2
  exact ⟨rfl, ho, hb⟩

theorem zzPair_no (w : World) (bs ns cs : Nat) (sid : Nat → ByteArray) (sun : Nat → Int) (hps : Pay w bs ns sid sun) (ba na ca : Nat) (aid : Nat → ByteArray) (aun : Nat → Int) (hpa : Pay w ba na aid aun)
    (hns : ns ≤ 4096) (hna : na ≤ 4096) (hsz : ∀ k, (sid k).size ≤ maxLen) (hsa : ∀ k, (aid k).size ≤ maxLen) (hwa : ∀ k, (Lit.int .i64 (aun k)).wf = true) (hok : pairOk sid aid ns na = false) :
    Calls Trym.prog 19 #[.slice (some ⟨bs, 0, none⟩) ns cs, .slice (some ⟨ba, 0, none⟩) na ca] w fun e w' =>
      e = .returned (.tuple #[.map none, .bool false]) ∧ Below w.heap.size w w' := by
  have H := Pay.hide (pair_no w bs ns cs sid sun hps ba na ca aid aun hpa hns hna hsz hsa hwa hok)
  clear hps hpa hsz hsa hwa hok
  go_enter Trym.func19, Trym.ntmps19
  go_wp2_with (go_at_call 30; refine H.out.mono ?_; rintro e w' ⟨rfl, hb⟩)
  go_ret2
  exact ⟨rfl, hb⟩

/-- What 'sameAmounts' accepts. -/
def sameOk (sid : Nat → ByteArray) (sun : Nat → Int) (ns : Nat) (aid : Nat → ByteArray) (aun : Nat → Int) (na : Nat) : Bool :=
  decide (pairOk sid aid ns na = true ∧ ∀ k, k < ns → lastUn aid aun (sid k) na = sun k)

set_option maxHeartbeats 2000000 in
theorem sameAmounts_calls (w : World) (bs ns cs : Nat) (sid : Nat → ByteArray) (sun : Nat → Int) (hps : Pay w bs ns sid sun) (ba na ca : Nat) (aid : Nat → ByteArray) (aun : Nat → Int) (hpa : Pay w ba na aid aun)
    (hns : ns ≤ 4096) (hna : na ≤ 4096) (hsz : ∀ k, (sid k).size ≤ maxLen) (hsa : ∀ k, (aid k).size ≤ maxLen) (hwa : ∀ k, (Lit.int .i64 (aun k)).wf = true) :
    Calls Trym.prog 31 #[.slice (some ⟨bs, 0, none⟩) ns cs, .slice (some ⟨ba, 0, none⟩) na ca] w fun e w' =>
      e = .returned (.bool (sameOk sid sun ns aid aun na)) ∧ Below w.heap.size w w' := by
  cases hok : pairOk sid aid ns na
  · have H := Pay.hide (pair_no w bs ns cs sid sun hps ba na ca aid aun hpa hns hna hsz hsa hwa hok)
    have hf : Hid (sameOk sid sun ns aid aun na = false) := by
      unfold Hid sameOk
      rw [decide_eq_false_iff_not]
      intro h
      rw [hok] at h
      exact absurd h.1 (by decide)
    clear hps hpa hsz hsa hwa hok
    go_enter Trym.func31, Trym.ntmps31
    go_wp2_with (go_at_call 30; refine H.out.mono ?_; rintro e w' ⟨rfl, hb⟩)
    go_ret
    exact ⟨ret_bool hf.out, hb⟩
  · have H := Pay.hide (pair_yes w bs ns cs sid sun hps ba na ca aid aun hpa hns hna hsz hsa hwa hok)
    have Hok := Pay.hide hok
    have HS := Pay.hide hps
    have HZ := Pay.hide hsz
    clear hps hpa hsz hsa hwa hok
    go_enter Trym.func31, Trym.ntmps31
    go_wp2_with (go_at_call 30; refine H.out.mono ?_; rintro e w' ⟨rfl, ho, hb⟩)
    clear H
    have Ho := Pay.hide ho
    have Hb := Pay.hide hb
    clear ho hb
    go_loopw [19] (fun i wr => ∃ j : Nat, j ≤ ns ∧ i = .int .i64 j ∧ Hid (∀ p, p < j → lastUn aid aun (sid p) na = sun p) ∧ wr.ownsMap Trym.prog 9 (plainElem Trym.prog 2) w.heap.size na (mapTo aid aun na) ∧ Below w.heap.size w wr) (fun i _ => ns - (intOf i).toNat)
    case atStart => exact ⟨0, Nat.zero_le _, rfl, fun p h => by omega, Ho.out, Hb.out⟩
    clear Ho Hb
    case round =>
      obtain ⟨j, hj, rfl, hall, hown, hnx⟩ := hrel
      by_cases hlt : j < ns
      · have hc1 : wr.cell? ⟨bs, j * 2, none⟩ = some (.string (sid j)) := (hnx.cell (p := ⟨bs, j * 2, none⟩) HS.out.lt).trans (HS.out.id j hlt)
        have hc2 : wr.cell? ⟨bs, j * 2 + 1, none⟩ = some (.int .i64 (sun j)) := (hnx.cell (p := ⟨bs, j * 2 + 1, none⟩) HS.out.lt).trans (HS.out.un j hlt)
        have hkey := key_ok (HZ.out j)
        have Hnx := Pay.hide hnx
        have Hown := Pay.hide hown
        have Hat := Pay.hide (at_mapTo aid aun (sid j) na)
        clear hnx hown HS HZ
        by_cases he : lastUn aid aun (sid j) na = sun j
        · have hb : (lastUn aid aun (sid j) na != sun j) = false := by simp [he]
          have hall2 : Hid (∀ p, p < j + 1 → lastUn aid aun (sid p) na = sun p) := fun p hp => by
            by_cases e : p = j
            · subst e; exact he
            · exact hall.out p (by omega)
          clear he hall
          go_wp2_with (at_lookup; refine wpList_lookup_own_int _ rfl _ _ 31 rfl 9 2 .i64 law Trym.underlying31 Trym.underlying2 (zeroE _) w.heap.size na _ rfl (Hown.out.alloc _) _ _ rfl hkey ?_; intro c hat hwc; obtain rfl : c = lastUn aid aun (sid j) na := (by simpa using hat.symm.trans Hat.out); clear hat hwc)
          go_roundw
          case rel => exact ⟨j + 1, by omega, by go_num, hall2, Hown.out.alloc _, Hnx.out.alloc Hnx.out.size _⟩
          case measure => simp [intOf]; omega
        · have hb : (lastUn aid aun (sid j) na != sun j) = true := by simp [he]
          have hf : Hid (sameOk sid sun ns aid aun na = false) := by
            unfold Hid sameOk
            rw [decide_eq_false_iff_not]
            exact fun h => he (h.2 j hlt)
          clear he hall
          go_wp2_with (at_lookup; refine wpList_lookup_own_int _ rfl _ _ 31 rfl 9 2 .i64 law Trym.underlying31 Trym.underlying2 (zeroE _) w.heap.size na _ rfl (Hown.out.alloc _) _ _ rfl hkey ?_; intro c hat hwc; obtain rfl : c = lastUn aid aun (sid j) na := (by simpa using hat.symm.trans Hat.out); clear hat hwc)
          go_ret
          exact ⟨ret_bool hf.out, Hnx.out.alloc Hnx.out.size _⟩
      · have ht : Hid (sameOk sid sun ns aid aun na = true) := by
          unfold Hid sameOk
          rw [decide_eq_true_eq]
          exact ⟨Hok.out, fun p hp => hall.out p (by omega)⟩
        have Hnx := Pay.hide hnx
        clear hnx hown HS HZ
        go_wp2
        go_ret
        exact ⟨ret_bool ht.out, Hnx.out⟩

theorem zzSameAmounts_calls (w : World) (bs ns cs : Nat) (sid : Nat → ByteArray) (sun : Nat → Int) (hps : Pay w bs ns sid sun) (ba na ca : Nat) (aid : Nat → ByteArray) (aun : Nat → Int) (hpa : Pay w ba na aid aun)
    (hns : ns ≤ 4096) (hna : na ≤ 4096) (hsz : ∀ k, (sid k).size ≤ maxLen) (hsa : ∀ k, (aid k).size ≤ maxLen) (hwa : ∀ k, (Lit.int .i64 (aun k)).wf = true) :
    Calls Trym.prog 26 #[.slice (some ⟨bs, 0, none⟩) ns cs, .slice (some ⟨ba, 0, none⟩) na ca] w fun e w' =>
      e = .returned (.bool (sameOk sid sun ns aid aun na)) ∧ Below w.heap.size w w' := by
  have H := Pay.hide (sameAmounts_calls w bs ns cs sid sun hps ba na ca aid aun hpa hns hna hsz hsa hwa)
  clear hps hpa hsz hsa hwa
  go_enter Trym.func26, Trym.ntmps26
  go_wp2_with (go_at_call 31; refine H.out.mono ?_; rintro e w' ⟨rfl, hb⟩)
  go_ret
  exact ⟨rfl, hb⟩
end Go.Proofs.Qxb6000375aMods.Pair
