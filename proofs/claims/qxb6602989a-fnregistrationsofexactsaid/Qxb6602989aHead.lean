/-
  THE HEAD OF THE TRANSLATION, SIGN BY SIGN (no walk). Of a row's closed facts two ('mayEnter', 'liftsFinal') read the head's words out of 'initOrder.toList'. The kernel's own evaluation of 'toList' at a string of 405 signs outgrows the memory lid. Here the head is said as a list of signs first ('head_eq': the kernel compares a literal with 'String.ofList'), and the two facts are reckoned over that list.
-/
import Derived.Test.Qxb6602989aRows
import Derived.WalkKit
import Derived.ProofKit
namespace Go.Proofs.Qxb6602989a.Head

def codes : List Nat := [
  104, 97, 114, 110, 101, 115, 115, 32, 57, 99, 49, 102, 56, 51, 57, 51, 50, 52, 50, 50, 98, 56, 50, 50, 49, 98, 54, 56, 101, 98, 49, 49, 101, 57, 48, 57, 49, 102, 50, 100,
  57, 55, 53, 57, 51, 100, 54, 55, 99, 55, 57, 57, 55, 48, 100, 98, 102, 48, 51, 55, 98, 100, 102, 57, 48, 51, 57, 98, 101, 55, 51, 98, 32, 99, 117, 116, 32, 97, 116, 32,
  101, 120, 97, 109, 112, 108, 101, 46, 99, 111, 109, 47, 114, 117, 110, 110, 101, 114, 119, 114, 105, 103, 104, 116, 47, 114, 117, 110, 110, 101, 114, 119, 114, 105, 103, 104, 116, 47, 122, 122,
  108, 97, 119, 115, 95, 105, 110, 116, 101, 114, 110, 97, 108, 95, 101, 110, 103, 105, 110, 101, 95, 98, 49, 46, 70, 110, 66, 117, 115, 121, 69, 120, 97, 99, 116, 32, 101, 120, 97, 109,
  112, 108, 101, 46, 99, 111, 109, 47, 114, 117, 110, 110, 101, 114, 119, 114, 105, 103, 104, 116, 47, 114, 117, 110, 110, 101, 114, 119, 114, 105, 103, 104, 116, 47, 122, 122, 108, 97, 119, 115,
  95, 105, 110, 116, 101, 114, 110, 97, 108, 95, 101, 110, 103, 105, 110, 101, 95, 98, 49, 46, 70, 110, 66, 117, 115, 121, 80, 97, 103, 101, 100, 32, 101, 120, 97, 109, 112, 108, 101, 46,
  99, 111, 109, 47, 114, 117, 110, 110, 101, 114, 119, 114, 105, 103, 104, 116, 47, 114, 117, 110, 110, 101, 114, 119, 114, 105, 103, 104, 116, 47, 122, 122, 108, 97, 119, 115, 95, 105, 110, 116,
  101, 114, 110, 97, 108, 95, 101, 110, 103, 105, 110, 101, 95, 98, 49, 46, 70, 110, 82, 101, 103, 105, 115, 116, 114, 97, 116, 105, 111, 110, 115, 79, 102, 69, 120, 97, 99, 116, 32, 101,
  120, 97, 109, 112, 108, 101, 46, 99, 111, 109, 47, 114, 117, 110, 110, 101, 114, 119, 114, 105, 103, 104, 116, 47, 114, 117, 110, 110, 101, 114, 119, 114, 105, 103, 104, 116, 47, 122, 122, 108,
  97, 119, 115, 95, 105, 110, 116, 101, 114, 110, 97, 108, 95, 101, 110, 103, 105, 110, 101, 95, 98, 49, 46, 70, 110, 82, 101, 103, 105, 115, 116, 114, 97, 116, 105, 111, 110, 115, 79, 102,
  83, 112, 108, 105, 116]

theorem head_eq : Try.prog.initOrder = String.ofList (codes.map Char.ofNat) := by kernel_rfl

theorem head_list : Try.prog.initOrder.toList = codes.map Char.ofNat := by rw [head_eq]; exact String.toList_ofList

theorem words : ∃ rest, behindMainWord (wordsSigns Try.prog.initOrder.toList) = ['c', 'u', 't'] :: rest := by
  rw [head_list]
  exact ⟨(behindMainWord (wordsSigns (codes.map Char.ofNat))).tail, by kernel_rfl⟩

theorem may_of {P : Program} {rest : List (List Char)} (h : behindMainWord (wordsSigns P.initOrder.toList) = ['c', 'u', 't'] :: rest) (hl : P.laysLater = false) (hr : P.bearsReflect = false) (hd : P.doorRows = []) : P.mayEnter = true := by
  unfold Program.mayEnter Program.doorFits
  rw [h, hl, hr, hd]
  kernel_rfl

theorem may : Try.prog.mayEnter = true := by
  obtain ⟨rest, h⟩ := words
  exact may_of h (by kernel_rfl) (by kernel_rfl) (by kernel_rfl)

theorem lifts_of {P : Program} {rest : List (List Char)} (h : behindMainWord (wordsSigns P.initOrder.toList) = ['c', 'u', 't'] :: rest) : P.liftsFinal = false := by
  unfold Program.liftsFinal Program.headLifts
  rw [h]
  kernel_rfl

theorem lifts : Try.prog.liftsFinal = false := by
  obtain ⟨rest, h⟩ := words
  exact lifts_of h

theorem make_of {P : Program} {rest : List (List Char)} (h : behindMainWord (wordsSigns P.initOrder.toList) = ['c', 'u', 't'] :: rest) : P.make = some .cut := by
  unfold Program.make
  rw [h]
  kernel_rfl

theorem made {c : OpenClaim} (h : c.make = .cut) : (Try.prog.make == some c.make) = true := by
  obtain ⟨rest, hw⟩ := words
  rw [make_of hw, h]
  rfl

theorem and_mk {a b : Bool} (h : a = true) (k : b = true) : (a && b) = true := by rw [h, k]; rfl

theorem no_lift {c : OpenClaim} (h : c.lifted = false) : (c.lifted == Try.prog.liftsFinal) = true := by rw [lifts, h]; rfl

end Go.Proofs.Qxb6602989a.Head
