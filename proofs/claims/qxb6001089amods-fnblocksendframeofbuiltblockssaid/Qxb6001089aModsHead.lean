import Derived.Test.Qxb6001089aModsRows
import Derived.ProofKit
namespace Go.Proofs.Qxb6001089aMods

/-- THE SIGNS OF THE DUMP's HEAD, by their numbers: so that the kernel need not take the head's string apart ('toList' by evaluation wants 10 GB) -/
def headCodes : List Nat := [
  104, 97, 114, 110, 101, 115, 115, 32, 51, 57, 100, 101, 50, 100, 50, 54, 54, 100, 101, 50, 57, 98, 99, 48,
  52, 56, 99, 100, 100, 56, 100, 54, 101, 49, 51, 56, 54, 99, 50, 56, 98, 55, 55, 52, 48, 98, 52, 99,
  53, 49, 99, 49, 97, 51, 48, 101, 98, 57, 99, 53, 57, 49, 52, 100, 53, 50, 55, 54, 53, 54, 100, 48,
  32, 112, 117, 98, 108, 105, 99, 115, 117, 109, 115, 32, 99, 117, 116, 32, 97, 116, 32, 101, 120, 97, 109, 112,
  108, 101, 46, 99, 111, 109, 47, 104, 97, 115, 104, 119, 101, 97, 118, 101, 47, 104, 97, 115, 104, 119, 101, 97,
  118, 101, 47, 122, 122, 108, 97, 119, 115, 95, 99, 104, 117, 110, 107, 95, 98, 49, 46, 70, 110, 87, 105, 116,
  104, 105, 110, 66, 111, 117, 110, 100, 115, 83, 121, 109, 109, 101, 116, 114, 105, 99, 32, 101, 120, 97, 109, 112,
  108, 101, 46, 99, 111, 109, 47, 104, 97, 115, 104, 119, 101, 97, 118, 101, 47, 104, 97, 115, 104, 119, 101, 97,
  118, 101, 47, 122, 122, 108, 97, 119, 115, 95, 99, 104, 117, 110, 107, 95, 98, 49, 46, 70, 110, 87, 105, 116,
  104, 105, 110, 66, 111, 117, 110, 100, 115, 68, 111, 119, 110, 119, 97, 114, 100, 67, 108, 111, 115, 101, 100, 32,
  101, 120, 97, 109, 112, 108, 101, 46, 99, 111, 109, 47, 104, 97, 115, 104, 119, 101, 97, 118, 101, 47, 104, 97,
  115, 104, 119, 101, 97, 118, 101, 47, 122, 122, 108, 97, 119, 115, 95, 99, 104, 117, 110, 107, 95, 98, 49, 46,
  70, 110, 87, 105, 116, 104, 105, 110, 66, 111, 117, 110, 100, 115, 82, 101, 102, 117, 115, 101, 115, 79, 117, 116,
  115, 105, 100, 101, 32, 101, 120, 97, 109, 112, 108, 101, 46, 99, 111, 109, 47, 104, 97, 115, 104, 119, 101, 97,
  118, 101, 47, 104, 97, 115, 104, 119, 101, 97, 118, 101, 47, 122, 122, 108, 97, 119, 115, 95, 99, 104, 117, 110,
  107, 95, 98, 49, 46, 70, 110, 66, 108, 111, 99, 107, 115, 69, 110, 100, 70, 114, 97, 109, 101, 79, 102, 66,
  117, 105, 108, 116, 66, 108, 111, 99, 107, 115, 32, 101, 120, 97, 109, 112, 108, 101, 46, 99, 111, 109, 47, 104,
  97, 115, 104, 119, 101, 97, 118, 101, 47, 104, 97, 115, 104, 119, 101, 97, 118, 101, 47, 122, 122, 108, 97, 119,
  115, 95, 99, 104, 117, 110, 107, 95, 98, 49, 46, 70, 110, 66, 108, 111, 99, 107, 115, 69, 110, 100, 73, 103,
  110, 111, 114, 101, 115, 66, 121, 116, 101, 115, 65, 102, 116, 101, 114, 76, 97, 115, 116, 66, 108, 111, 99, 107,
  32, 101, 120, 97, 109, 112, 108, 101, 46, 99, 111, 109, 47, 104, 97, 115, 104, 119, 101, 97, 118, 101, 47, 104,
  97, 115, 104, 119, 101, 97, 118, 101, 47, 122, 122, 108, 97, 119, 115, 95, 99, 104, 117, 110, 107, 95, 98, 49,
  46, 70, 110, 66, 108, 111, 99, 107, 115, 69, 110, 100, 66, 111, 117, 110, 100, 115, 32, 101, 120, 97, 109, 112,
  108, 101, 46, 99, 111, 109, 47, 104, 97, 115, 104, 119, 101, 97, 118, 101, 47, 104, 97, 115, 104, 119, 101, 97,
  118, 101, 47, 122, 122, 108, 97, 119, 115, 95, 99, 104, 117, 110, 107, 95, 98, 49, 46, 70, 110, 65, 114, 105,
  116, 104, 67, 111, 100, 101, 75, 101, 101, 112, 115, 73, 110, 118, 97, 114, 105, 97, 110, 116, 79, 118, 101, 114,
  83, 99, 114, 105, 112, 116, 32, 101, 120, 97, 109, 112, 108, 101, 46, 99, 111, 109, 47, 104, 97, 115, 104, 119,
  101, 97, 118, 101, 47, 104, 97, 115, 104, 119, 101, 97, 118, 101, 47, 122, 122, 108, 97, 119, 115, 95, 99, 104,
  117, 110, 107, 95, 98, 49, 46, 70, 110, 65, 114, 105, 116, 104, 67, 111, 100, 101, 83, 112, 108, 105, 116, 115,
  73, 110, 116, 101, 114, 118, 97, 108, 69, 120, 97, 99, 116, 108, 121, 32, 101, 120, 97, 109, 112, 108, 101, 46,
  99, 111, 109, 47, 104, 97, 115, 104, 119, 101, 97, 118, 101, 47, 104, 97, 115, 104, 119, 101, 97, 118, 101, 47,
  122, 122, 108, 97, 119, 115, 95, 99, 104, 117, 110, 107, 95, 98, 49, 46, 70, 110, 65, 114, 105, 116, 104, 67,
  111, 100, 101, 83, 112, 108, 105, 116, 77, 111, 110, 111, 116, 111, 110, 101, 73, 110, 80]
theorem bytes_of (s : String) : String.rec (motive := fun _ => ByteArray) (fun b _ => b) s = s.toByteArray := by cases s; rfl
theorem head_bytes : String.rec (motive := fun _ => ByteArray) (fun b _ => b) Trym.progTables.initOrder = List.utf8Encode (headCodes.map Char.ofNat) := by kernel_rfl
theorem head_eq : Trym.prog.initOrder = String.ofList (headCodes.map Char.ofNat) := by
  have h : Trym.progTables.initOrder.toByteArray = (String.ofList (headCodes.map Char.ofNat)).toByteArray := by
    rw [String.toByteArray_ofList, ← bytes_of]; exact head_bytes
  exact String.toByteArray_inj.1 h
theorem head_list : Trym.prog.initOrder.toList = headCodes.map Char.ofNat := by rw [head_eq, String.toList_ofList]
theorem and_mk {a b : Bool} (h : a = true) (k : b = true) : (a && b) = true := by rw [h, k]; rfl
theorem head_lifts : Trym.prog.headLifts = ["publicsums"] := by
  unfold Program.headLifts
  rw [head_list]
  kernel_rfl
theorem lifts_final : Trym.checked.prog.liftsFinal = false := by
  show Trym.prog.liftsFinal = false
  unfold Program.liftsFinal
  rw [head_list, head_lifts]
  kernel_rfl
theorem may_of (P : Program) (L : List Char) (h : P.initOrder.toList = L) (c : List Char) (rest : List (List Char)) (hw : behindMainWord (wordsSigns L) = c :: rest) (ls : List String) (ws : List (List Char)) (hs : stripLifts liftWords (c :: rest) = (ls, ws))
    (h1 : (ws.head? == some "cut".toList) = true) (h2 : P.laysLater = false) (h3 : P.bearsReflect = false) (h4 : (ls.contains "reflectrows" || !ls.contains "leanrows") = true) (h5 : P.doorFits ls = true) : P.mayEnter = true := by
  unfold Program.mayEnter
  rw [h, hw]
  show (((c == "gc".toList || c == "spec".toList) && (rest.isEmpty || rest.head? == some "stop".toList)) ||
    (c == "carried".toList && rest.take 2 == ["gc".toList, "cut".toList] && !P.laysLater && !P.bearsReflect) ||
    ((stripLifts liftWords (c :: rest)).2.head? == some "cut".toList &&
      ((stripLifts liftWords (c :: rest)).1.contains "finals" || !P.laysLater) && ((stripLifts liftWords (c :: rest)).1.contains "reflectrows" || !P.bearsReflect) &&
      ((stripLifts liftWords (c :: rest)).1.contains "reflectrows" || !(stripLifts liftWords (c :: rest)).1.contains "leanrows") &&
      P.doorFits (stripLifts liftWords (c :: rest)).1)) = true
  rw [hs]
  show (_ || (ws.head? == some "cut".toList && (ls.contains "finals" || !P.laysLater) && (ls.contains "reflectrows" || !P.bearsReflect) && (ls.contains "reflectrows" || !ls.contains "leanrows") && P.doorFits ls)) = true
  rw [h1, h2, h3, h4, h5]
  simp only [Bool.not_false, Bool.or_true, Bool.and_true]
theorem make_of (P : Program) (L : List Char) (h : P.initOrder.toList = L) (ls : List String) (hl : P.headLifts = ls) (c : List Char) (rest : List (List Char)) (hw : behindMainWord (wordsSigns L) = c :: rest)
    (h1 : (c == "gc".toList || c == "spec".toList) = false) (h2 : (c == "cut".toList || (c == "finals".toList && rest.head? == some "cut".toList)) = false) (h3 : (c == "carried".toList) = false) (h4 : ls.isEmpty = false) : P.make = some (.lifted ls) := by
  unfold Program.make
  rw [h, hw, hl]
  show (if (c == "gc".toList || c == "spec".toList) = true then some Make.whole else if (c == "cut".toList || (c == "finals".toList && rest.head? == some "cut".toList)) = true then some Make.cut else if (c == "carried".toList) = true then some Make.carried else if ls.isEmpty = true then none else some (Make.lifted ls)) = _
  rw [h1, h2, h3, h4]
  rfl
theorem head_words : behindMainWord (wordsSigns (headCodes.map Char.ofNat)) = "publicsums".toList :: (behindMainWord (wordsSigns (headCodes.map Char.ofNat))).tail := by kernel_rfl
theorem make_is : Trym.checked.prog.make = some (.lifted ["publicsums"]) :=
  make_of Trym.prog _ head_list _ head_lifts _ _ head_words (by kernel_rfl) (by kernel_rfl) (by kernel_rfl) (by kernel_rfl)
theorem may_enter : Trym.checked.prog.mayEnter = true :=
  may_of Trym.prog _ head_list _ _ head_words ["publicsums"] ((behindMainWord (wordsSigns (headCodes.map Char.ofNat))).tail) (by kernel_rfl) (by kernel_rfl) (by kernel_rfl) (by kernel_rfl) (by kernel_rfl) (by kernel_rfl)

end Go.Proofs.Qxb6001089aMods
