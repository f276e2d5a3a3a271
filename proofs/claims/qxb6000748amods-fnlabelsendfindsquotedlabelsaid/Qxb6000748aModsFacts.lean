/-
  CLOSED FACTS OF THE LOADED PROGRAM, each a theorem of its own. The head's words are a text of some 506 signs; run in one piece its cutting into words takes the kernel over 10 GB: so the text is first brought to a list of signs by the law 'toList_ofList'.
-/
import Derived.Test.Qxb6000748aModsRows
import Derived.WalkKit
import Derived.ProofKit
namespace Go.Proofs.Qxb6000748aMods.Facts
open Go.ChangeShapes Go.WideShapes Go.ChangeAt Go.RowKit
theorem and_mk {a b : Bool} (ha : a = true) (hb : b = true) : (a && b) = true := by rw [ha, hb]; rfl

/-- The signs of the head's words, by their numbers. -/
def codes : List Nat := [104, 97, 114, 110, 101, 115, 115, 32, 101, 52, 48, 98, 102, 56, 57, 98, 49, 54, 56, 101, 53, 97, 48, 98, 57, 54, 52, 102, 51, 98, 55, 51, 99, 102, 97, 49, 51, 50, 97, 98, 54, 55, 100, 52, 98, 99, 53, 51, 98, 102, 97, 100, 51, 53, 51, 48, 57, 51, 49, 100, 55, 57, 55, 100, 101, 100, 101, 99, 54, 52, 57, 98, 32, 112, 117, 98, 108, 105, 99, 115, 117, 109, 115, 32, 99, 117, 116, 32, 97, 116, 32, 101, 120, 97, 109, 112, 108, 101, 46, 99, 111, 109, 47, 115, 116, 111, 114, 109, 112, 114, 111, 111, 102, 47, 115, 116, 111, 114, 109, 112, 114, 111, 111, 102, 47, 122, 122, 108, 97, 119, 115, 95, 116, 101, 115, 116, 101, 114, 95, 98, 49, 46, 70, 110, 76, 97, 98, 101, 108, 115, 69, 110, 100, 80, 111, 105, 110, 116, 115, 65, 116, 67, 108, 111, 115, 105, 110, 103, 66, 114, 97, 99, 101, 32, 101, 120, 97, 109, 112, 108, 101, 46, 99, 111, 109, 47, 115, 116, 111, 114, 109, 112, 114, 111, 111, 102, 47, 115, 116, 111, 114, 109, 112, 114, 111, 111, 102, 47, 122, 122, 108, 97, 119, 115, 95, 116, 101, 115, 116, 101, 114, 95, 98, 49, 46, 70, 110, 76, 97, 98, 101, 108, 115, 69, 110, 100, 73, 103, 110, 111, 114, 101, 115, 87, 104, 97, 116, 70, 111, 108, 108, 111, 119, 115, 32, 101, 120, 97, 109, 112, 108, 101, 46, 99, 111, 109, 47, 115, 116, 111, 114, 109, 112, 114, 111, 111, 102, 47, 115, 116, 111, 114, 109, 112, 114, 111, 111, 102, 47, 122, 122, 108, 97, 119, 115, 95, 116, 101, 115, 116, 101, 114, 95, 98, 49, 46, 70, 110, 76, 97, 98, 101, 108, 115, 69, 110, 100, 70, 105, 110, 100, 115, 81, 117, 111, 116, 101, 100, 76, 97, 98, 101, 108, 32, 101, 120, 97, 109, 112, 108, 101, 46, 99, 111, 109, 47, 115, 116, 111, 114, 109, 112, 114, 111, 111, 102, 47, 115, 116, 111, 114, 109, 112, 114, 111, 111, 102, 47, 122, 122, 108, 97, 119, 115, 95, 116, 101, 115, 116, 101, 114, 95, 98, 49, 46, 70, 110, 69, 118, 101, 114, 121, 77, 101, 109, 98, 101, 114, 73, 115, 69, 97, 99, 104, 73, 110, 100, 101, 120, 79, 110, 99, 101, 65, 115, 99, 101, 110, 100, 105, 110, 103, 32, 101, 120, 97, 109, 112, 108, 101, 46, 99, 111, 109, 47, 115, 116, 111, 114, 109, 112, 114, 111, 111, 102, 47, 115, 116, 111, 114, 109, 112, 114, 111, 111, 102, 47, 122, 122, 108, 97, 119, 115, 95, 116, 101, 115, 116, 101, 114, 95, 98, 49, 46, 70, 110, 69, 118, 101, 114, 121, 77, 101, 109, 98, 101, 114, 71, 114, 111, 119, 115, 66, 121, 84, 104, 101, 78, 101, 119, 77, 101, 109, 98, 101, 114]
/-- The words behind the harness's sum, by their signs' numbers. -/
def wordCodes : List (List Nat) := [[112, 117, 98, 108, 105, 99, 115, 117, 109, 115], [99, 117, 116], [97, 116], [101, 120, 97, 109, 112, 108, 101, 46, 99, 111, 109, 47, 115, 116, 111, 114, 109, 112, 114, 111, 111, 102, 47, 115, 116, 111, 114, 109, 112, 114, 111, 111, 102, 47, 122, 122, 108, 97, 119, 115, 95, 116, 101, 115, 116, 101, 114, 95, 98, 49, 46, 70, 110, 76, 97, 98, 101, 108, 115, 69, 110, 100, 80, 111, 105, 110, 116, 115, 65, 116, 67, 108, 111, 115, 105, 110, 103, 66, 114, 97, 99, 101], [101, 120, 97, 109, 112, 108, 101, 46, 99, 111, 109, 47, 115, 116, 111, 114, 109, 112, 114, 111, 111, 102, 47, 115, 116, 111, 114, 109, 112, 114, 111, 111, 102, 47, 122, 122, 108, 97, 119, 115, 95, 116, 101, 115, 116, 101, 114, 95, 98, 49, 46, 70, 110, 76, 97, 98, 101, 108, 115, 69, 110, 100, 73, 103, 110, 111, 114, 101, 115, 87, 104, 97, 116, 70, 111, 108, 108, 111, 119, 115], [101, 120, 97, 109, 112, 108, 101, 46, 99, 111, 109, 47, 115, 116, 111, 114, 109, 112, 114, 111, 111, 102, 47, 115, 116, 111, 114, 109, 112, 114, 111, 111, 102, 47, 122, 122, 108, 97, 119, 115, 95, 116, 101, 115, 116, 101, 114, 95, 98, 49, 46, 70, 110, 76, 97, 98, 101, 108, 115, 69, 110, 100, 70, 105, 110, 100, 115, 81, 117, 111, 116, 101, 100, 76, 97, 98, 101, 108], [101, 120, 97, 109, 112, 108, 101, 46, 99, 111, 109, 47, 115, 116, 111, 114, 109, 112, 114, 111, 111, 102, 47, 115, 116, 111, 114, 109, 112, 114, 111, 111, 102, 47, 122, 122, 108, 97, 119, 115, 95, 116, 101, 115, 116, 101, 114, 95, 98, 49, 46, 70, 110, 69, 118, 101, 114, 121, 77, 101, 109, 98, 101, 114, 73, 115, 69, 97, 99, 104, 73, 110, 100, 101, 120, 79, 110, 99, 101, 65, 115, 99, 101, 110, 100, 105, 110, 103], [101, 120, 97, 109, 112, 108, 101, 46, 99, 111, 109, 47, 115, 116, 111, 114, 109, 112, 114, 111, 111, 102, 47, 115, 116, 111, 114, 109, 112, 114, 111, 111, 102, 47, 122, 122, 108, 97, 119, 115, 95, 116, 101, 115, 116, 101, 114, 95, 98, 49, 46, 70, 110, 69, 118, 101, 114, 121, 77, 101, 109, 98, 101, 114, 71, 114, 111, 119, 115, 66, 121, 84, 104, 101, 78, 101, 119, 77, 101, 109, 98, 101, 114]]
theorem init_is : Trym.prog.initOrder = String.ofList (codes.map Char.ofNat) := by kernel_rfl
theorem init_signs : Trym.prog.initOrder.toList = codes.map Char.ofNat := by rw [init_is, String.toList_ofList]
theorem words_codes : behindMainWord (wordsSigns (codes.map Char.ofNat)) = wordCodes.map (fun w => w.map Char.ofNat) := by kernel_rfl
theorem words_is : behindMainWord (wordsSigns Trym.prog.initOrder.toList) = wordCodes.map (fun w => w.map Char.ofNat) := by rw [init_signs, words_codes]
theorem strip_is : stripLifts liftWords (wordCodes.map (fun w => w.map Char.ofNat)) = (["publicsums"], wordCodes.tail.map (fun w => w.map Char.ofNat)) := by kernel_rfl
theorem headLifts_is : Trym.prog.headLifts = ["publicsums"] := by
  unfold Program.headLifts
  rw [words_is, strip_is]
  kernel_rfl
theorem laysLater_is : Trym.prog.laysLater = false := by kernel_rfl
theorem bearsReflect_is : Trym.prog.bearsReflect = false := by kernel_rfl
theorem doorRows_is : Trym.prog.doorRows = [] := by kernel_rfl
theorem doorFits_is : Trym.prog.doorFits ["publicsums"] = true := by
  unfold Program.doorFits
  rw [doorRows_is]
  kernel_rfl
/-- What 'make' answers, over any words. -/
theorem make_of {P : Program} {c : List Char} {rest : List (List Char)} {ls : List String} (hw : behindMainWord (wordsSigns P.initOrder.toList) = c :: rest) (hl : P.headLifts = ls)
    (h1 : (c == "gc".toList || c == "spec".toList) = false) (h2 : (c == "cut".toList || (c == "finals".toList && rest.head? == some "cut".toList)) = false) (h3 : (c == "carried".toList) = false) (h4 : ls.isEmpty = false) : P.make = some (.lifted ls) := by
  unfold Program.make
  rw [hw, hl]
  simp only [h1, h2, h3, h4, Bool.false_eq_true, if_false]
theorem make_eq : Trym.prog.make = some (Make.lifted ["publicsums"]) :=
  make_of words_is headLifts_is (by kernel_rfl) (by kernel_rfl) (by kernel_rfl) (by kernel_rfl)
theorem make_is : (Trym.prog.make == some (Make.lifted ["publicsums"])) = true := by
  rw [make_eq]
  exact beq_self_eq_true _
theorem lifts_is : (false == Trym.prog.liftsFinal) = true := by
  unfold Program.liftsFinal
  rw [words_is, headLifts_is]
  kernel_rfl
/-- What 'mayEnter' asks, over any words that a list of lifts opens. -/
theorem enter_of {P : Program} {c : List Char} {rest ws' : List (List Char)} {ls : List String} (hw : behindMainWord (wordsSigns P.initOrder.toList) = c :: rest) (hs : stripLifts liftWords (c :: rest) = (ls, ws'))
    (hc : (ws'.head? == some "cut".toList) = true) (hl : P.laysLater = false) (hb : P.bearsReflect = false) (h1 : (ls.contains "reflectrows" || !ls.contains "leanrows") = true) (hd : P.doorFits ls = true) : P.mayEnter = true := by
  unfold Program.mayEnter
  rw [hw]
  show (_ || _ || (((stripLifts liftWords (c :: rest)).2.head? == some "cut".toList) && _ && _ && _ && _)) = true
  rw [hs, hl, hb]
  simp only [hc, h1, hd, Bool.not_false, Bool.or_true, Bool.and_true]
theorem enter_is : Trym.prog.mayEnter = true :=
  enter_of words_is strip_is (by kernel_rfl) laysLater_is bearsReflect_is (by kernel_rfl) doorFits_is
theorem own : ownKnob Trym.prog.godebug = none := by kernel_rfl
end Go.Proofs.Qxb6000748aMods.Facts
