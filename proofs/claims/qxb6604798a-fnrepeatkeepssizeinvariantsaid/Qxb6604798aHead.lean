/-
  THE HEAD OF THE TRANSLATION, SIGN BY SIGN (no walk). Of a row's closed facts two ('mayEnter', 'liftsFinal') read the head's words out of 'initOrder.toList'. The kernel's own evaluation of 'toList' at a string of 405 signs outgrows the memory lid. Here the head is said as a list of signs first ('head_eq': the kernel compares a literal with 'String.ofList'), and the two facts are reckoned over that list.
-/
import Derived.Test.Qxb6604798aRows
import Derived.WalkKit
import Derived.ProofKit
namespace Go.Proofs.Qxb6604798a.Head

def codes : List Nat := [
  104, 97, 114, 110, 101, 115, 115, 32, 98, 102, 56, 53, 54, 101, 50, 48, 99, 97, 57, 50, 57, 97, 102, 48, 56, 48, 53, 57, 97, 101, 99, 51, 48, 55, 52, 49, 98, 50, 50, 99,
  55, 48, 99, 57, 50, 50, 48, 100, 53, 99, 56, 100, 99, 100, 99, 101, 97, 57, 99, 52, 52, 101, 57, 98, 48, 51, 102, 102, 100, 55, 99, 48, 32, 99, 117, 116, 32, 97, 116, 32,
  101, 120, 97, 109, 112, 108, 101, 46, 99, 111, 109, 47, 99, 111, 100, 101, 115, 104, 101, 108, 102, 47, 99, 111, 100, 101, 115, 104, 101, 108, 102, 47, 122, 122, 108, 97, 119, 115, 95, 116,
  101, 114, 109, 105, 110, 111, 108, 111, 103, 121, 95, 98, 49, 46, 70, 110, 82, 101, 112, 101, 97, 116, 75, 101, 101, 112, 115, 83, 105, 122, 101, 73, 110, 118, 97, 114, 105, 97, 110, 116,
  32, 101, 120, 97, 109, 112, 108, 101, 46, 99, 111, 109, 47, 99, 111, 100, 101, 115, 104, 101, 108, 102, 47, 99, 111, 100, 101, 115, 104, 101, 108, 102, 47, 122, 122, 108, 97, 119, 115, 95,
  116, 101, 114, 109, 105, 110, 111, 108, 111, 103, 121, 95, 98, 49, 46, 70, 110, 82, 101, 112, 101, 97, 116, 87, 105, 100, 101, 114, 82, 97, 110, 103, 101, 78, 101, 118, 101, 114, 83, 109,
  97, 108, 108, 101, 114, 32, 101, 120, 97, 109, 112, 108, 101, 46, 99, 111, 109, 47, 99, 111, 100, 101, 115, 104, 101, 108, 102, 47, 99, 111, 100, 101, 115, 104, 101, 108, 102, 47, 122, 122,
  108, 97, 119, 115, 95, 116, 101, 114, 109, 105, 110, 111, 108, 111, 103, 121, 95, 98, 49, 46, 70, 110, 79, 112, 101, 110, 77, 97, 116, 99, 104, 101, 115, 70, 108, 97, 103, 77, 111, 100,
  101, 108, 32, 101, 120, 97, 109, 112, 108, 101, 46, 99, 111, 109, 47, 99, 111, 100, 101, 115, 104, 101, 108, 102, 47, 99, 111, 100, 101, 115, 104, 101, 108, 102, 47, 122, 122, 108, 97, 119,
  115, 95, 116, 101, 114, 109, 105, 110, 111, 108, 111, 103, 121, 95, 98, 49, 46, 70, 110, 79, 112, 101, 110, 75, 101, 101, 112, 115, 82, 101, 97, 100, 105, 110, 103, 73, 110, 118, 97, 114,
  105, 97, 110, 116, 115]

theorem head_eq : Try.prog.initOrder = String.ofList (codes.map Char.ofNat) := by kernel_rfl

theorem head_list : Try.prog.initOrder.toList = codes.map Char.ofNat := by rw [head_eq]; exact String.toList_ofList

theorem words : ∃ rest, behindMainWord (wordsSigns Try.prog.initOrder.toList) = ['c', 'u', 't'] :: rest := by
  rw [head_list]
  exact ⟨(behindMainWord (wordsSigns (codes.map Char.ofNat))).tail, by kernel_rfl⟩

theorem may_of {P : Program} {rest : List (List Char)} (h : behindMainWord (wordsSigns P.initOrder.toList) = ['c', 'u', 't'] :: rest) (hl : P.laysLater = false) (hr : P.bearsReflect = false) (hd : P.doorRows = []) : P.mayEnter = true := by
  unfold Program.mayEnter Program.doorFits
  rw [h, hl, hr, hd]
  kernel_rfl

theorem may : Try.prog.mayEnter = true := by
  obtain ⟨rest, h⟩ := words
  exact may_of h (by kernel_rfl) (by kernel_rfl) (by kernel_rfl)

theorem lifts_of {P : Program} {rest : List (List Char)} (h : behindMainWord (wordsSigns P.initOrder.toList) = ['c', 'u', 't'] :: rest) : P.liftsFinal = false := by
  unfold Program.liftsFinal Program.headLifts
  rw [h]
  kernel_rfl

theorem lifts : Try.prog.liftsFinal = false := by
  obtain ⟨rest, h⟩ := words
  exact lifts_of h

theorem make_of {P : Program} {rest : List (List Char)} (h : behindMainWord (wordsSigns P.initOrder.toList) = ['c', 'u', 't'] :: rest) : P.make = some .cut := by
  unfold Program.make
  rw [h]
  kernel_rfl

theorem made {c : OpenClaim} (h : c.make = .cut) : (Try.prog.make == some c.make) = true := by
  obtain ⟨rest, hw⟩ := words
  rw [make_of hw, h]
  rfl

theorem and_mk {a b : Bool} (h : a = true) (k : b = true) : (a && b) = true := by rw [h, k]; rfl

theorem no_lift {c : OpenClaim} (h : c.lifted = false) : (c.lifted == Try.prog.liftsFinal) = true := by rw [lifts, h]; rfl

end Go.Proofs.Qxb6604798a.Head
