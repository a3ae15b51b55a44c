/-
  THE HEAD OF THE TRANSLATION, SIGN BY SIGN (no walk). Of a row's closed facts two ('mayEnter', 'liftsFinal') read the head's words out of 'initOrder.toList'. The kernel's own evaluation of 'toList' at a string of 803 signs outgrows the memory lid. Here the head is said as a list of signs first ('head_eq': the kernel compares a literal with 'String.ofList'), and the two facts are reckoned over that list.
-/
import Derived.Test.Qxb6002466aRows
import Derived.WalkKit
import Derived.ProofKit
namespace Go.Proofs.Qxb6002466a.Head

def codes : List Nat := [
  104, 97, 114, 110, 101, 115, 115, 32, 54, 97, 102, 56, 51, 102, 51, 98, 97, 56, 56, 53, 56, 49, 98, 50, 101, 97, 52, 49, 56, 98, 101, 102, 99, 51, 98, 98, 101, 57, 48, 48,
  48, 98, 56, 52, 101, 50, 57, 54, 54, 55, 56, 102, 54, 56, 51, 101, 101, 48, 102, 97, 51, 57, 54, 54, 97, 49, 100, 52, 54, 49, 100, 97, 32, 99, 117, 116, 32, 97, 116, 32,
  101, 120, 97, 109, 112, 108, 101, 46, 99, 111, 109, 47, 117, 110, 100, 101, 114, 103, 108, 97, 115, 115, 47, 117, 110, 100, 101, 114, 103, 108, 97, 115, 115, 47, 122, 122, 108, 97, 119, 115,
  95, 111, 115, 102, 115, 95, 103, 49, 46, 70, 110, 66, 101, 108, 111, 119, 77, 97, 116, 99, 104, 101, 115, 69, 108, 101, 109, 101, 110, 116, 80, 114, 101, 102, 105, 120, 32, 101, 120, 97,
  109, 112, 108, 101, 46, 99, 111, 109, 47, 117, 110, 100, 101, 114, 103, 108, 97, 115, 115, 47, 117, 110, 100, 101, 114, 103, 108, 97, 115, 115, 47, 122, 122, 108, 97, 119, 115, 95, 111, 115,
  102, 115, 95, 103, 49, 46, 70, 110, 66, 101, 108, 111, 119, 84, 111, 116, 97, 108, 65, 110, 100, 82, 101, 102, 108, 101, 120, 105, 118, 101, 32, 101, 120, 97, 109, 112, 108, 101, 46, 99,
  111, 109, 47, 117, 110, 100, 101, 114, 103, 108, 97, 115, 115, 47, 117, 110, 100, 101, 114, 103, 108, 97, 115, 115, 47, 122, 122, 108, 97, 119, 115, 95, 111, 115, 102, 115, 95, 103, 49, 46,
  70, 110, 66, 101, 108, 111, 119, 73, 110, 118, 101, 114, 116, 115, 74, 111, 105, 110, 32, 101, 120, 97, 109, 112, 108, 101, 46, 99, 111, 109, 47, 117, 110, 100, 101, 114, 103, 108, 97, 115,
  115, 47, 117, 110, 100, 101, 114, 103, 108, 97, 115, 115, 47, 122, 122, 108, 97, 119, 115, 95, 111, 115, 102, 115, 95, 103, 49, 46, 70, 110, 66, 101, 108, 111, 119, 84, 114, 97, 110, 115,
  105, 116, 105, 118, 101, 32, 101, 120, 97, 109, 112, 108, 101, 46, 99, 111, 109, 47, 117, 110, 100, 101, 114, 103, 108, 97, 115, 115, 47, 117, 110, 100, 101, 114, 103, 108, 97, 115, 115, 47,
  122, 122, 108, 97, 119, 115, 95, 111, 115, 102, 115, 95, 103, 49, 46, 70, 110, 66, 97, 115, 101, 78, 97, 109, 101, 67, 104, 105, 108, 100, 82, 111, 117, 110, 100, 84, 114, 105, 112, 32,
  101, 120, 97, 109, 112, 108, 101, 46, 99, 111, 109, 47, 117, 110, 100, 101, 114, 103, 108, 97, 115, 115, 47, 117, 110, 100, 101, 114, 103, 108, 97, 115, 115, 47, 122, 122, 108, 97, 119, 115,
  95, 114, 111, 111, 116, 95, 103, 49, 46, 70, 110, 67, 108, 101, 97, 110, 77, 97, 116, 99, 104, 101, 115, 83, 116, 97, 99, 107, 77, 111, 100, 101, 108, 32, 101, 120, 97, 109, 112, 108,
  101, 46, 99, 111, 109, 47, 117, 110, 100, 101, 114, 103, 108, 97, 115, 115, 47, 117, 110, 100, 101, 114, 103, 108, 97, 115, 115, 47, 122, 122, 108, 97, 119, 115, 95, 114, 111, 111, 116, 95,
  103, 49, 46, 70, 110, 67, 108, 101, 97, 110, 73, 100, 101, 109, 112, 111, 116, 101, 110, 116, 32, 101, 120, 97, 109, 112, 108, 101, 46, 99, 111, 109, 47, 117, 110, 100, 101, 114, 103, 108,
  97, 115, 115, 47, 117, 110, 100, 101, 114, 103, 108, 97, 115, 115, 47, 122, 122, 108, 97, 119, 115, 95, 114, 111, 111, 116, 95, 103, 49, 46, 70, 110, 67, 108, 101, 97, 110, 82, 111, 111,
  116, 115, 82, 101, 108, 97, 116, 105, 118, 101, 32, 101, 120, 97, 109, 112, 108, 101, 46, 99, 111, 109, 47, 117, 110, 100, 101, 114, 103, 108, 97, 115, 115, 47, 117, 110, 100, 101, 114, 103,
  108, 97, 115, 115, 47, 122, 122, 108, 97, 119, 115, 95, 115, 99, 114, 105, 112, 116, 95, 103, 49, 46, 70, 110, 85, 105, 110, 116, 54, 52, 85, 110, 100, 111, 101, 115, 84, 111, 83, 116,
  97, 116, 101, 32, 101, 120, 97, 109, 112, 108, 101, 46, 99, 111, 109, 47, 117, 110, 100, 101, 114, 103, 108, 97, 115, 115, 47, 117, 110, 100, 101, 114, 103, 108, 97, 115, 115, 47, 122, 122,
  108, 97, 119, 115, 95, 115, 99, 114, 105, 112, 116, 95, 103, 49, 46, 70, 110, 85, 105, 110, 116, 54, 52, 74, 117, 109, 112, 65, 104, 101, 97, 100, 65, 110, 100, 78, 111, 82, 101, 112,
  101, 97, 116]

theorem head_eq : Try.prog.initOrder = String.ofList (codes.map Char.ofNat) := by kernel_rfl

theorem head_list : Try.prog.initOrder.toList = codes.map Char.ofNat := by rw [head_eq]; exact String.toList_ofList

theorem words : ∃ rest, behindMainWord (wordsSigns Try.prog.initOrder.toList) = ['c', 'u', 't'] :: rest := by
  rw [head_list]
  exact ⟨(behindMainWord (wordsSigns (codes.map Char.ofNat))).tail, by kernel_rfl⟩

theorem may_of {P : Program} {rest : List (List Char)} (h : behindMainWord (wordsSigns P.initOrder.toList) = ['c', 'u', 't'] :: rest) (hl : P.laysLater = false) (hr : P.bearsReflect = false) (hd : P.doorRows = []) : P.mayEnter = true := by
  unfold Program.mayEnter Program.doorFits
  rw [h, hl, hr, hd]
  kernel_rfl

theorem may : Try.prog.mayEnter = true := by
  obtain ⟨rest, h⟩ := words
  exact may_of h (by kernel_rfl) (by kernel_rfl) (by kernel_rfl)

theorem lifts_of {P : Program} {rest : List (List Char)} (h : behindMainWord (wordsSigns P.initOrder.toList) = ['c', 'u', 't'] :: rest) : P.liftsFinal = false := by
  unfold Program.liftsFinal Program.headLifts
  rw [h]
  kernel_rfl

theorem lifts : Try.prog.liftsFinal = false := by
  obtain ⟨rest, h⟩ := words
  exact lifts_of h

theorem make_of {P : Program} {rest : List (List Char)} (h : behindMainWord (wordsSigns P.initOrder.toList) = ['c', 'u', 't'] :: rest) : P.make = some .cut := by
  unfold Program.make
  rw [h]
  kernel_rfl

theorem made {c : OpenClaim} (h : c.make = .cut) : (Try.prog.make == some c.make) = true := by
  obtain ⟨rest, hw⟩ := words
  rw [make_of hw, h]
  rfl

theorem and_mk {a b : Bool} (h : a = true) (k : b = true) : (a && b) = true := by rw [h, k]; rfl

theorem no_lift {c : OpenClaim} (h : c.lifted = false) : (c.lifted == Try.prog.liftsFinal) = true := by rw [lifts, h]; rfl

end Go.Proofs.Qxb6002466a.Head
