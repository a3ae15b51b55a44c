/-
  WHAT registrationsOf GATHERS (lists alone), AND WHAT THE WALKS ARE TOLD OF A SLICE THAT CAME IN.
-/
import Derived.Test.Qxb6602989aChecked
import Derived.WalkKit
import Derived.WalkLawsBesides
import Derived.Lib.SmallJoins
import Derived.Maps.AppendAt
namespace Go.Proofs.Qxb6602989a.Rg
open Go.RowKit

/-- Does the registration at place i bear the name? -/
def hit (s : ByteArray) (N : Nat → ByteArray) (i : Nat) : Bool := (N i).toList == s.toList

/-- The ids gathered off the first k registrations. -/
def got (s : ByteArray) (N : Nat → ByteArray) (Z : Nat → Int) : Nat → List Int
  | 0 => []
  | k + 1 => if hit s N k then got s N Z k ++ [Z k] else got s N Z k

section
variable {s : ByteArray} {N : Nat → ByteArray} {Z : Nat → Int}

theorem got_hit {k : Nat} (h : hit s N k = true) : got s N Z (k + 1) = got s N Z k ++ [Z k] := by rw [got, if_pos h]
theorem got_miss {k : Nat} (h : hit s N k = false) : got s N Z (k + 1) = got s N Z k := by rw [got, if_neg (by rw [h]; decide)]

theorem got_le : ∀ k, (got s N Z k).length ≤ k
  | 0 => Nat.le_refl _
  | k + 1 => by
    have ih := got_le k
    cases h : hit s N k with
    | true => rw [got_hit h]; simp; omega
    | false => rw [got_miss h]; omega

theorem got_from : ∀ (n k : Nat), k ≤ n → ∃ r, got s N Z n = got s N Z k ++ r
  | 0, k, h => ⟨[], by rw [show k = 0 by omega]; rfl⟩
  | n + 1, k, h => by
    by_cases e : k = n + 1
    · subst e
      exact ⟨[], by simp⟩
    · obtain ⟨r, hr⟩ := got_from n k (by omega)
      cases h : hit s N n with
      | true => exact ⟨r ++ [Z n], by rw [got_hit h, hr, List.append_assoc]⟩
      | false => exact ⟨r, by rw [got_miss h, hr]⟩

/-- The registration at place i, preceded by r others of that name, is the r-th entry. -/
theorem got_rank {n i : Nat} (hi : i < n) (h : hit s N i = true) : (got s N Z n)[(got s N Z i).length]? = some (Z i) ∧ (got s N Z i).length < (got s N Z n).length := by
  obtain ⟨r, hr⟩ := got_from (s := s) (N := N) (Z := Z) n (i + 1) (by omega)
  rw [got_hit h] at hr
  rw [hr]
  refine ⟨?_, by simp⟩
  rw [List.getElem?_append_left (by simp), List.getElem?_append_right (Nat.le_refl _)]
  simp

theorem got_len_succ (k : Nat) : (got s N Z (k + 1)).length = (got s N Z k).length + if hit s N k then 1 else 0 := by
  cases h : hit s N k with
  | true => rw [got_hit h]; simp
  | false => rw [got_miss h]; simp
end

/-- A slice of 'len' elements, each of one cell, that came in (or was made): where there is an element they lie in a row. -/
def Row (w : World) (a : Option Addr) (len : Nat) (f : Nat → Value) : Prop :=
  0 < len → ∃ b o, a = some ⟨b, o, none⟩ ∧ b < w.heap.size ∧ ∀ j, j < len → w.cell? ⟨b, o + j, none⟩ = some (f j)

theorem Row.below {w w' : World} {a : Option Addr} {len : Nat} {f : Nat → Value} (h : Row w a len f) (hb : Below w.heap.size w w') : Row w' a len f := by
  intro hp
  obtain ⟨b, o, e, hl, hc⟩ := h hp
  exact ⟨b, o, e, Nat.lt_of_lt_of_le hl hb.size, fun j hj => (hb.cell (p := ⟨b, o + j, none⟩) hl).trans (hc j hj)⟩

theorem row_of {w : World} {x : Addr} {m len : Nat} {f : Nat → Value} (hl : len ≤ m) (h : ∀ i, i < m → w.cell? (x.add i) = some (f i)) : Row w (some x) len f := by
  intro hp
  obtain ⟨b, off, spot⟩ := x
  have hspot : spot = none := by simpa [Addr.add] using World.cell?_spot (h 0 (by omega))
  subst hspot
  have hc : ∀ j, j < len → w.cell? ⟨b, off + j, none⟩ = some (f j) := fun j hj => by rw [← Go.WideShapes.add_plain]; exact h j (by omega)
  exact ⟨b, off, rfl, World.block_lt_of_cell? w _ (hc 0 hp), hc⟩

end Go.Proofs.Qxb6602989a.Rg
