/-
  What the walks are told of the arguments: a slice of strings, a slice of int64, as they are read.
-/
import Derived.Test.Qxb6000375aModsFacts
import Derived.Test.Qxb6000375aModsArgWalks
import Derived.OpenShut
import Derived.ShutString
import Derived.ChangeOld
import Derived.Below
import Derived.SliceStrings
namespace Go.Proofs.Qxb6000375aMods.Open
open Go.ChangeShapes Go.WideShapes Go.ChangeAt Go.RowKit
open Arg (Strs Nums)

theorem laidOut : laidOutB Trym.prog = true := by kernel_rfl
theorem cells9 : Trym.prog.cellsOf 9 = 1 := by kernel_rfl
theorem cells2 : Trym.prog.cellsOf 2 = 1 := by kernel_rfl

theorem strs_of {H : Type} {enc : TypeId × Value → H} {W : World} {a : Option Addr} {len cap : Nat} {d : DataW H} {p : List MemPlace}
    (h : DataW.Trod enc Trym.prog W 0 (fun _ => true) true 25 (.slice a len cap) d p) : ∃ sf, Strs W a len sf ∧ (∀ k, (sf k).size ≤ maxLen) ∧ len ≤ maxLen := by
  obtain ⟨fuel, hf⟩ := h
  rcases open_strings Trym.underlying25 Trym.underlying9 cells9 hf with ⟨hcs, _⟩ | ⟨x, l, c, ss, hcs, _, hl, hm, hz, _, hcell, hws⟩
  · simp [Value.cells] at hcs
    obtain ⟨rfl, rfl, rfl⟩ := hcs
    exact ⟨fun _ => ByteArray.empty, ⟨fun h => by omega⟩, fun _ => Nat.zero_le _, Nat.zero_le _⟩
  · simp [Value.cells] at hcs
    obtain ⟨rfl, rfl, rfl⟩ := hcs
    have hz' : ss.length = cap := by simpa using hz
    refine ⟨fun k => ss.getD k ByteArray.empty, ⟨fun h0 => ?_⟩, fun k => ?_, by omega⟩
    · obtain ⟨b, off, spot⟩ := x
      have hspot : spot = none := by simpa [Addr.add] using World.cell?_spot (hcell 0 (by omega))
      subst hspot
      exact ⟨b, off, rfl, fun k hk => by rw [← add_plain]; exact hcell k (by omega)⟩
    · by_cases hk : k < ss.length
      · show (ss.getD k ByteArray.empty).size ≤ maxLen
        rw [List.getD_eq_getElem?_getD, List.getElem?_eq_getElem hk]
        exact hws _ (List.getElem_mem hk)
      · show (ss.getD k ByteArray.empty).size ≤ maxLen
        rw [List.getD_eq_getElem?_getD, List.getElem?_eq_none (by omega)]
        exact Nat.zero_le _

theorem nums_of {H : Type} {enc : TypeId × Value → H} {W : World} {a : Option Addr} {len cap : Nat} {d : DataW H} {p : List MemPlace}
    (h : DataW.Trod enc Trym.prog W 0 (fun _ => true) true 26 (.slice a len cap) d p) : ∃ zf, Nums W a len zf ∧ (∀ k, (Lit.int .i64 (zf k)).wf = true) ∧ len ≤ maxLen := by
  obtain ⟨fuel, hf⟩ := h
  rcases open_ints Trym.underlying26 Trym.underlying2 cells2 hf with ⟨hcs, _⟩ | ⟨x, l, c, zs, hcs, _, hl, hm, hz, _, hcell, hwz⟩
  · simp [Value.cells] at hcs
    obtain ⟨rfl, rfl, rfl⟩ := hcs
    exact ⟨fun _ => 0, ⟨fun h => by omega⟩, fun _ => (by decide : (Lit.int .i64 0).wf = true), Nat.zero_le _⟩
  · simp [Value.cells] at hcs
    obtain ⟨rfl, rfl, rfl⟩ := hcs
    have hz' : zs.length = cap := by simpa using hz
    refine ⟨fun k => zs.getD k 0, ⟨fun h0 => ?_⟩, fun k => ?_, by omega⟩
    · obtain ⟨b, off, spot⟩ := x
      have hspot : spot = none := by simpa [Addr.add] using World.cell?_spot (hcell 0 (by omega))
      subst hspot
      exact ⟨b, off, rfl, fun k hk => by rw [← add_plain]; exact hcell k (by omega)⟩
    · by_cases hk : k < zs.length
      · show (Lit.int .i64 (zs.getD k 0)).wf = true
        rw [List.getD_eq_getElem?_getD, List.getElem?_eq_getElem hk]
        exact hwz _ (List.getElem_mem hk)
      · show (Lit.int .i64 (zs.getD k 0)).wf = true
        rw [List.getD_eq_getElem?_getD, List.getElem?_eq_none (by omega)]
        decide
end Go.Proofs.Qxb6000375aMods.Open
