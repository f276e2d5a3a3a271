import Derived.Test.Qxb6000375aModsProg
import Derived.WalkKit
namespace Go.Proofs.Qxb6000375aMods.Arg
open Go.RowKit

theorem hide {p : Prop} (h : p) : Hid p := h

/-- A slice of strings that is read: where it has an element it lies at an address, and element k reads 'sf k'. -/
structure Strs (w : World) (a : Option Addr) (len : Nat) (sf : Nat → ByteArray) : Prop where
  pos : 0 < len → ∃ b off, a = some ⟨b, off, none⟩ ∧ ∀ k, k < len → w.cell? ⟨b, off + k, none⟩ = some (.string (sf k))

/-- A slice of int64 that is read. -/
structure Nums (w : World) (a : Option Addr) (len : Nat) (zf : Nat → Int) : Prop where
  pos : 0 < len → ∃ b off, a = some ⟨b, off, none⟩ ∧ ∀ k, k < len → w.cell? ⟨b, off + k, none⟩ = some (.int .i64 (zf k))

def SomeBool (e : Ending) : Prop := ∃ b, e = .returned (.bool b)
theorem someBool (b : Bool) : SomeBool (.returned (.bool b)) := ⟨b, rfl⟩

set_option maxHeartbeats 1000000 in
theorem amountBytes_calls (w : World) (a1 : Option Addr) (n1 c1 : Nat) (sf : Nat → ByteArray) (hs : Strs w a1 n1 sf) (h1 : n1 ≤ maxLen) (a2 : Option Addr) (n2 c2 : Nat) :
    Calls Trym.prog 17 #[.slice a1 n1 c1, .slice a2 n2 c2] w fun e w' => (∃ n, e = .returned (.int .i64 n)) ∧ w' = w := by
  unfold maxLen at h1
  have HS := hide hs
  clear hs
  by_cases g1 : 1048576 < (n1 : Int)
  · go_enter Trym.func17, Trym.ntmps17
    go_wp2
    go_ret
    exact ⟨⟨_, rfl⟩, rfl⟩
  by_cases g2 : 1048576 < (n2 : Int)
  · go_enter Trym.func17, Trym.ntmps17
    go_wp2
    go_ret
    exact ⟨⟨_, rfl⟩, rfl⟩
  go_enter Trym.func17, Trym.ntmps17
  go_wp2
  go_loop [5, 6] (fun t i => ∃ k : Nat, k ≤ n1 ∧ i = .int .i64 k ∧ ∃ z : Int, t = .int .i64 z) (fun _ i => n1 - (intOf i).toNat)
  case atStart => exact ⟨0, Nat.zero_le _, rfl, _, rfl⟩
  case round =>
    obtain ⟨k, hk, rfl, z, rfl⟩ := hrel
    by_cases hlt : k < n1
    · obtain ⟨b, off, rfl, hc⟩ := HS.out.pos (by omega)
      have hck := hc k hlt
      clear hc HS
      go_wp2
      all_goals first
        | (go_ret; exact ⟨⟨_, rfl⟩, rfl⟩)
        | (go_round
           case rel => exact ⟨k + 1, by omega, by go_num, _, rfl⟩
           case measure => simp [intOf]; omega)
    · go_wp2
      go_ret
      exact ⟨⟨_, rfl⟩, rfl⟩

set_option maxHeartbeats 2000000 in
theorem zzBytesPair_calls (w : World) (a1 : Option Addr) (n1 c1 : Nat) (sf : Nat → ByteArray) (hs : Strs w a1 n1 sf) (h1 : n1 ≤ maxLen) (a2 : Option Addr) (n2 c2 : Nat)
    (a3 : Option Addr) (n3 c3 : Nat) (tf : Nat → ByteArray) (ht : Strs w a3 n3 tf) (h3 : n3 ≤ maxLen) (a4 : Option Addr) (n4 c4 : Nat) :
    Calls Trym.prog 16 #[.slice a1 n1 c1, .slice a2 n2 c2, .slice a3 n3 c3, .slice a4 n4 c4] w fun e w' => SomeBool e ∧ w' = w := by
  unfold maxLen at h1 h3
  have HS := hide hs
  have HT := hide ht
  clear hs ht
  by_cases g1 : 1048576 < (n1 : Int)
  · go_enter Trym.func16, Trym.ntmps16
    go_wp2
    go_ret
    exact ⟨someBool _, rfl⟩
  go_enter Trym.func16, Trym.ntmps16
  go_wp2
  go_loop [9, 10] (fun t i => ∃ k : Nat, k ≤ n1 ∧ i = .int .i64 k ∧ ∃ z : Int, t = .int .i64 z) (fun _ i => n1 - (intOf i).toNat)
  case atStart => exact ⟨0, Nat.zero_le _, rfl, _, rfl⟩
  case round =>
    obtain ⟨k, hk, rfl, z, rfl⟩ := hrel
    by_cases hlt : k < n1
    · obtain ⟨b, off, rfl, hc⟩ := HS.out.pos (by omega)
      have hck := hc k hlt
      clear hc HS HT
      go_wp2
      all_goals first
        | (go_ret; exact ⟨someBool _, rfl⟩)
        | (go_round
           case rel => exact ⟨k + 1, by omega, by go_num, _, rfl⟩
           case measure => simp [intOf]; omega)
    · clear HS
      go_wp2
      all_goals first
        | (go_ret; exact ⟨someBool _, rfl⟩)
        | skip
      go_loop [9, 11] (fun t i => ∃ k : Nat, k ≤ n3 ∧ i = .int .i64 k ∧ ∃ z : Int, t = .int .i64 z) (fun _ i => n3 - (intOf i).toNat)
      case atStart => exact ⟨0, Nat.zero_le _, rfl, _, rfl⟩
      case round =>
        obtain ⟨j, hj, rfl, y, rfl⟩ := hrel
        by_cases hlt3 : j < n3
        · obtain ⟨b, off, rfl, hc⟩ := HT.out.pos (by omega)
          have hck := hc j hlt3
          clear hc HT
          go_wp2
          all_goals first
            | (go_ret; exact ⟨someBool _, rfl⟩)
            | (go_round
               case rel => exact ⟨j + 1, by omega, by go_num, _, rfl⟩
               case measure => simp [intOf]; omega)
        · clear HT
          go_wp2
          all_goals (go_ret; exact ⟨someBool _, rfl⟩)

set_option maxHeartbeats 2000000 in
theorem zzBytesPerm_calls (w : World) (a1 : Option Addr) (n1 c1 : Nat) (sf : Nat → ByteArray) (hs : Strs w a1 n1 sf) (h1 : n1 ≤ maxLen) (a2 : Option Addr) (n2 c2 : Nat)
    (a3 : Option Addr) (n3 c3 : Nat) (tf : Nat → ByteArray) (ht : Strs w a3 n3 tf) (h3 : n3 ≤ maxLen) (a4 : Option Addr) (n4 c4 : Nat) :
    Calls Trym.prog 21 #[.slice a1 n1 c1, .slice a2 n2 c2, .slice a3 n3 c3, .slice a4 n4 c4] w fun e w' => SomeBool e ∧ w' = w := by
  unfold maxLen at h1 h3
  have HS := hide hs
  have HT := hide ht
  clear hs ht
  by_cases g1 : 1048576 < (n1 : Int)
  · go_enter Trym.func21, Trym.ntmps21
    go_wp2
    go_ret
    exact ⟨someBool _, rfl⟩
  go_enter Trym.func21, Trym.ntmps21
  go_wp2
  go_loop [9, 10] (fun t i => ∃ k : Nat, k ≤ n1 ∧ i = .int .i64 k ∧ ∃ z : Int, t = .int .i64 z) (fun _ i => n1 - (intOf i).toNat)
  case atStart => exact ⟨0, Nat.zero_le _, rfl, _, rfl⟩
  case round =>
    obtain ⟨k, hk, rfl, z, rfl⟩ := hrel
    by_cases hlt : k < n1
    · obtain ⟨b, off, rfl, hc⟩ := HS.out.pos (by omega)
      have hck := hc k hlt
      clear hc HS HT
      go_wp2
      all_goals first
        | (go_ret; exact ⟨someBool _, rfl⟩)
        | (go_round
           case rel => exact ⟨k + 1, by omega, by go_num, _, rfl⟩
           case measure => simp [intOf]; omega)
    · clear HS
      go_wp2
      all_goals first
        | (go_ret; exact ⟨someBool _, rfl⟩)
        | skip
      go_loop [9, 11] (fun t i => ∃ k : Nat, k ≤ n3 ∧ i = .int .i64 k ∧ ∃ z : Int, t = .int .i64 z) (fun _ i => n3 - (intOf i).toNat)
      case atStart => exact ⟨0, Nat.zero_le _, rfl, _, rfl⟩
      case round =>
        obtain ⟨j, hj, rfl, y, rfl⟩ := hrel
        by_cases hlt3 : j < n3
        · obtain ⟨b, off, rfl, hc⟩ := HT.out.pos (by omega)
          have hck := hc j hlt3
          clear hc HT
          go_wp2
          all_goals first
            | (go_ret; exact ⟨someBool _, rfl⟩)
            | (go_round
               case rel => exact ⟨j + 1, by omega, by go_num, _, rfl⟩
               case measure => simp [intOf]; omega)
        · clear HT
          go_wp2
          all_goals (go_ret; exact ⟨someBool _, rfl⟩)

set_option maxHeartbeats 2000000 in
theorem zzBytesMulti_calls (w : World) (a1 : Option Addr) (n1 c1 : Nat) (sf : Nat → ByteArray) (hs : Strs w a1 n1 sf) (h1 : n1 ≤ maxLen) (a2 : Option Addr) (n2 c2 : Nat)
    (a3 : Option Addr) (n3 c3 : Nat) (tf : Nat → ByteArray) (ht : Strs w a3 n3 tf) (h3 : n3 ≤ maxLen) (a4 : Option Addr) (n4 c4 : Nat) :
    Calls Trym.prog 24 #[.slice a1 n1 c1, .slice a2 n2 c2, .slice a3 n3 c3, .slice a4 n4 c4] w fun e w' => SomeBool e ∧ w' = w := by
  unfold maxLen at h1 h3
  have HS := hide hs
  have HT := hide ht
  clear hs ht
  by_cases g1 : 1048576 < (n1 : Int)
  · go_enter Trym.func24, Trym.ntmps24
    go_wp2
    go_ret
    exact ⟨someBool _, rfl⟩
  go_enter Trym.func24, Trym.ntmps24
  go_wp2
  go_loop [9, 10] (fun t i => ∃ k : Nat, k ≤ n1 ∧ i = .int .i64 k ∧ ∃ z : Int, t = .int .i64 z) (fun _ i => n1 - (intOf i).toNat)
  case atStart => exact ⟨0, Nat.zero_le _, rfl, _, rfl⟩
  case round =>
    obtain ⟨k, hk, rfl, z, rfl⟩ := hrel
    by_cases hlt : k < n1
    · obtain ⟨b, off, rfl, hc⟩ := HS.out.pos (by omega)
      have hck := hc k hlt
      clear hc HS HT
      go_wp2
      all_goals first
        | (go_ret; exact ⟨someBool _, rfl⟩)
        | (go_round
           case rel => exact ⟨k + 1, by omega, by go_num, _, rfl⟩
           case measure => simp [intOf]; omega)
    · clear HS
      go_wp2
      all_goals first
        | (go_ret; exact ⟨someBool _, rfl⟩)
        | skip
      go_loop [9, 11] (fun t i => ∃ k : Nat, k ≤ n3 ∧ i = .int .i64 k ∧ ∃ z : Int, t = .int .i64 z) (fun _ i => n3 - (intOf i).toNat)
      case atStart => exact ⟨0, Nat.zero_le _, rfl, _, rfl⟩
      case round =>
        obtain ⟨j, hj, rfl, y, rfl⟩ := hrel
        by_cases hlt3 : j < n3
        · obtain ⟨b, off, rfl, hc⟩ := HT.out.pos (by omega)
          have hck := hc j hlt3
          clear hc HT
          go_wp2
          all_goals first
            | (go_ret; exact ⟨someBool _, rfl⟩)
            | (go_round
               case rel => exact ⟨j + 1, by omega, by go_num, _, rfl⟩
               case measure => simp [intOf]; omega)
        · clear HT
          go_wp2
          all_goals (go_ret; exact ⟨someBool _, rfl⟩)

set_option maxHeartbeats 2000000 in
theorem zzBytesRot_calls (w : World) (a1 : Option Addr) (n1 c1 : Nat) (sf : Nat → ByteArray) (hs : Strs w a1 n1 sf) (h1 : n1 ≤ maxLen) (a2 : Option Addr) (n2 c2 : Nat) (m : Int) :
    Calls Trym.prog 28 #[.slice a1 n1 c1, .slice a2 n2 c2, .int .i64 m] w fun e w' => SomeBool e ∧ w' = w := by
  unfold maxLen at h1
  have HS := hide hs
  clear hs
  by_cases g1 : 1048576 < (n1 : Int)
  · go_enter Trym.func28, Trym.ntmps28
    go_wp2
    go_ret
    exact ⟨someBool _, rfl⟩
  go_enter Trym.func28, Trym.ntmps28
  go_wp2
  go_loop [7, 8] (fun t i => ∃ k : Nat, k ≤ n1 ∧ i = .int .i64 k ∧ ∃ z : Int, t = .int .i64 z) (fun _ i => n1 - (intOf i).toNat)
  case atStart => exact ⟨0, Nat.zero_le _, rfl, _, rfl⟩
  case round =>
    obtain ⟨k, hk, rfl, z, rfl⟩ := hrel
    by_cases hlt : k < n1
    · obtain ⟨b, off, rfl, hc⟩ := HS.out.pos (by omega)
      have hck := hc k hlt
      clear hc HS
      go_wp2
      all_goals first
        | (go_ret; exact ⟨someBool _, rfl⟩)
        | (go_round
           case rel => exact ⟨k + 1, by omega, by go_num, _, rfl⟩
           case measure => simp [intOf]; omega)
    · clear HS
      go_wp2
      all_goals (go_ret; exact ⟨someBool _, rfl⟩)
end Go.Proofs.Qxb6000375aMods.Arg
