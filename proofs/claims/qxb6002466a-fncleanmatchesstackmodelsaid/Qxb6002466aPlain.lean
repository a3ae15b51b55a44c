/-
  THE PLAIN LAWS OF zzModelClean (no Go in sight): the stack of elements that is left behind the first i bytes, and what each way through a round does to it. 'Pa.els', 'Pa.cleanStep', 'Pa.cleanEls': the shelf's words for path.Clean (Derived/Lib/CleanFns.lean).
-/
import Derived.Lib.CleanSame
namespace Go.Proofs.Qxb6002466a.Pl
open Go.Lib

/-- The element that lies in the bounds p. -/
def cut (l : List UInt8) (p : Nat × Nat) : List UInt8 := (l.drop p.1).take (p.2 - p.1)

/-- The stack, the last element first. -/
def stack (l : List UInt8) (ps : List (Nat × Nat)) : List (List UInt8) := (ps.map (cut l)).reverse

/-- What the rest of the name, read from i on, makes of the stack st. -/
def F (l : List UInt8) (i : Nat) (st : List (List UInt8)) : List (List UInt8) := (Pa.els (l.drop i)).foldl (Pa.cleanStep true) st

structure Rel (l : List UInt8) (i : Nat) (ps : List (Nat × Nat)) : Prop where
  le : i ≤ l.length
  cnt : ps.length ≤ i
  ok : ∀ p ∈ ps, p.1 ≤ p.2 ∧ p.2 ≤ l.length ∧ cut l p ≠ [46, 46]
  eq : F l i (stack l ps) = F l 0 []

/-- An element runs from i to j. -/
structure Run (l : List UInt8) (i j : Nat) : Prop where
  lt : i < j
  le : j ≤ l.length
  no : ∀ m, i ≤ m → m < j → l[m]? ≠ some 47
  stop : j = l.length ∨ l[j]? = some 47

theorem rel_start (l : List UInt8) : Rel l 0 [] := ⟨Nat.zero_le _, Nat.le_refl _, by simp, rfl⟩

theorem run_ex (l : List UInt8) : ∀ (n i : Nat), l.length - i = n → i < l.length → l[i]? ≠ some 47 → ∃ j, Run l i j
  | 0, i, h, hi, _ => by omega
  | n + 1, i, h, hi, h47 => by
    by_cases he : i + 1 = l.length
    · refine ⟨i + 1, by omega, by omega, ?_, .inl he⟩
      intro m h1 h2
      have : m = i := by omega
      subst this
      exact h47
    · by_cases hs : l[i + 1]? = some 47
      · refine ⟨i + 1, by omega, by omega, ?_, .inr hs⟩
        intro m h1 h2
        have : m = i := by omega
        subst this
        exact h47
      · obtain ⟨j, hj⟩ := run_ex l n (i + 1) (by omega) (by omega) hs
        refine ⟨j, by have := hj.lt; omega, hj.le, ?_, hj.stop⟩
        intro m h1 h2
        by_cases hm : m = i
        · subst hm; exact h47
        · exact hj.no m (by omega) h2

theorem F_slash {l : List UInt8} {i : Nat} (st : List (List UInt8)) (h : l[i]? = some 47) : F l i st = F l (i + 1) st := by
  obtain ⟨hi, e⟩ := List.getElem?_eq_some_iff.1 h
  unfold F
  rw [List.drop_eq_getElem_cons hi, e, Pa.els_slash, List.foldl_cons, Pa.step_nil]

theorem F_run {l : List UInt8} {i j : Nat} (st : List (List UInt8)) (h : Run l i j) : F l i st = F l j (Pa.cleanStep true st (cut l (i, j))) := by
  have hlt := h.lt
  have hle := h.le
  have e1 : l.drop i = cut l (i, j) ++ l.drop j := by
    unfold cut
    have : l.drop j = (l.drop i).drop (j - i) := by rw [List.drop_drop]; congr 1; omega
    rw [this, List.take_append_drop]
  have h47 : 47 ∉ cut l (i, j) := by
    intro hm
    obtain ⟨m, hm2⟩ := List.mem_iff_getElem?.1 hm
    have hm1 := (List.getElem?_eq_some_iff.1 hm2).1
    have hml : m < j - i := by unfold cut at hm1; rw [List.length_take] at hm1; simp at hm1; omega
    unfold cut at hm2
    rw [List.getElem?_take_of_lt hml, List.getElem?_drop] at hm2
    exact h.no (i + m) (by omega) (by omega) hm2
  have hst : l.drop j = [] ∨ (l.drop j).head? = some 47 := by
    rcases h.stop with e | e
    · exact .inl (List.drop_eq_nil_of_le (by omega))
    · right
      rw [List.head?_drop]
      exact e
  unfold F
  rw [e1, Pa.els_elem _ _ h47 hst, List.foldl_cons, Pa.foldl_rest _ _ _ hst]

theorem F_end (l : List UInt8) (st : List (List UInt8)) : F l l.length st = st := by
  unfold F
  rw [List.drop_eq_nil_of_le (Nat.le_refl _)]
  show Pa.cleanStep true st [] = st
  exact Pa.step_nil _ _

theorem cut_length {l : List UInt8} {i j : Nat} (h : i ≤ j) (h2 : j ≤ l.length) : (cut l (i, j)).length = j - i := by
  unfold cut
  rw [List.length_take, List.length_drop]
  omega

theorem cut_get {l : List UInt8} {i j : Nat} (m : Nat) (h : m < j - i) : (cut l (i, j))[m]? = l[i + m]? := by
  unfold cut
  rw [List.getElem?_take_of_lt h, List.getElem?_drop]

theorem cut_one {l : List UInt8} {i : Nat} {c : UInt8} (h : l[i]? = some c) : cut l (i, i + 1) = [c] := by
  have hi := (List.getElem?_eq_some_iff.1 h).1
  apply List.ext_getElem?
  intro m
  by_cases hm : m = 0
  · subst hm
    rw [cut_get 0 (by omega)]
    simpa using h
  · rw [List.getElem?_eq_none (by rw [cut_length (by omega) (by omega)]; omega), List.getElem?_eq_none (by simp; omega)]

theorem cut_two {l : List UInt8} {i : Nat} {c d : UInt8} (h : l[i]? = some c) (h2 : l[i + 1]? = some d) : cut l (i, i + 2) = [c, d] := by
  have hi := (List.getElem?_eq_some_iff.1 h2).1
  apply List.ext_getElem?
  intro m
  by_cases hm : m = 0
  · subst hm
    rw [cut_get 0 (by omega)]
    simpa using h
  · by_cases hm1 : m = 1
    · subst hm1
      rw [cut_get 1 (by omega)]
      simpa using h2
    · rw [List.getElem?_eq_none (by rw [cut_length (by omega) (by omega)]; omega), List.getElem?_eq_none (by simp; omega)]

section
variable {l : List UInt8} {i j : Nat} {ps : List (Nat × Nat)}

theorem Rel.slash (h : Rel l i ps) (hs : l[i]? = some 47) : Rel l (i + 1) ps :=
  ⟨(List.getElem?_eq_some_iff.1 hs).1, by have := h.cnt; omega, h.ok, by rw [← F_slash _ hs]; exact h.eq⟩

theorem Rel.dot (h : Rel l i ps) (hr : Run l i j) (hj : j = i + 1) (hc : l[i]? = some 46) : Rel l j ps := by
  have hlt := hr.lt
  refine ⟨hr.le, by have := h.cnt; omega, h.ok, ?_⟩
  have e := F_run (stack l ps) hr
  rw [h.eq] at e
  subst hj
  rw [e, cut_one hc, Pa.step_dot]

theorem Rel.up (h : Rel l i []) (hr : Run l i j) (hj : j = i + 2) (hc : l[i]? = some 46) (hc2 : l[i + 1]? = some 46) : Rel l j [] := by
  have hlt := hr.lt
  refine ⟨hr.le, by simp, by simp, ?_⟩
  have e := F_run (stack l []) hr
  rw [h.eq] at e
  subst hj
  rw [e, cut_two hc hc2]
  rfl

theorem stack_snoc (l : List UInt8) (ps : List (Nat × Nat)) (p : Nat × Nat) : stack l (ps ++ [p]) = cut l p :: stack l ps := by simp [stack]

theorem Rel.pop {p : Nat × Nat} (h : Rel l i (ps ++ [p])) (hr : Run l i j) (hj : j = i + 2) (hc : l[i]? = some 46) (hc2 : l[i + 1]? = some 46) : Rel l j ps := by
  have hlt := hr.lt
  refine ⟨hr.le, by have := h.cnt; simp at this; omega, fun q hq => h.ok q (by simp [hq]), ?_⟩
  have e := F_run (stack l (ps ++ [p])) hr
  rw [h.eq] at e
  subst hj
  rw [e, cut_two hc hc2, stack_snoc]
  have hne := (h.ok p (by simp)).2.2
  simp [Pa.cleanStep, hne]

/-- An element that is neither '.' nor '..'. -/
theorem Rel.push (h : Rel l i ps) (hr : Run l i j) (h1 : ¬ (j = i + 1 ∧ l[i]? = some 46)) (h2 : ¬ (j = i + 2 ∧ l[i]? = some 46 ∧ l[i + 1]? = some 46)) : Rel l j (ps ++ [(i, j)]) := by
  have hlt := hr.lt
  have hle := hr.le
  have hlen := cut_length (l := l) (i := i) (j := j) (by omega) hle
  have n0 : cut l (i, j) ≠ [] := by intro e; rw [e] at hlen; simp at hlen; omega
  have n1 : cut l (i, j) ≠ [46] := by
    intro e
    have g := cut_get (l := l) (i := i) (j := j) 0 (by omega)
    rw [e] at hlen g
    simp at hlen g
    exact h1 ⟨by omega, g.symm⟩
  have n2 : cut l (i, j) ≠ [46, 46] := by
    intro e
    have hj : j - i = 2 := by rw [e] at hlen; simp at hlen; omega
    have g := cut_get (l := l) (i := i) (j := j) 0 (by omega)
    have g1 := cut_get (l := l) (i := i) (j := j) 1 (by omega)
    rw [e] at g g1
    simp at g g1
    exact h2 ⟨by omega, g.symm, g1.symm⟩
  refine ⟨hle, by have := h.cnt; simp; omega, ?_, ?_⟩
  · intro q hq
    rcases List.mem_append.1 hq with hq | hq
    · exact h.ok q hq
    · have : q = (i, j) := by simpa using hq
      subst this
      exact ⟨by simp; omega, hle, n2⟩
  · have e := F_run (stack l ps) hr
    rw [h.eq, Pa.step_elem _ _ _ n0 n1 n2] at e
    rw [e, stack_snoc]

theorem Rel.done (h : Rel l i ps) (hi : ¬ i < l.length) : stack l ps = F l 0 [] := by
  have := h.le
  have e : i = l.length := by omega
  subst e
  rw [← h.eq, F_end]
end

/-- What the model writes of the elements. -/
def out (l : List UInt8) (ps : List (Nat × Nat)) : List UInt8 := (ps.map fun p => 47 :: cut l p).flatten

theorem out_inter (l : List UInt8) : ∀ ps : List (Nat × Nat), ps ≠ [] → out l ps = 47 :: ([47] : List UInt8).intercalate (ps.map (cut l))
  | [], h => absurd rfl h
  | [p], _ => by simp [out, List.intercalate]
  | p :: q :: ps, _ => by
    have ih := out_inter l (q :: ps) (by simp)
    have e : out l (p :: q :: ps) = (47 :: cut l p) ++ out l (q :: ps) := by simp [out]
    rw [e, ih]
    simp [List.intercalate]

/-- What the model returns. -/
def model (l : List UInt8) : List UInt8 := 47 :: ([47] : List UInt8).intercalate (F l 0 []).reverse

theorem model_nil {l : List UInt8} {ps : List (Nat × Nat)} (h : stack l ps = F l 0 []) (h0 : ps = []) : model l = [47] := by
  unfold model
  rw [← h, h0]
  rfl

theorem model_out {l : List UInt8} {ps : List (Nat × Nat)} (h : stack l ps = F l 0 []) (h0 : ps ≠ []) : model l = out l ps := by
  unfold model
  rw [← h, out_inter l ps h0]
  simp [stack]

/-- underglass.Clean: rooted first, then cleaned. -/
def rooted (l : List UInt8) : List UInt8 := if l.head? = some 47 then l else 47 :: l

theorem model_eq (l : List UInt8) : Pa.cleanEls (rooted l) = model l := by
  have hne : rooted l ≠ [] := by
    unfold rooted
    split
    · rename_i h
      intro e
      rw [e] at h
      cases h
    · simp
  have hh : ((rooted l).head? == some 47) = true := by
    unfold rooted
    split
    · rename_i h
      rw [h]
      rfl
    · rfl
  rw [Pa.cleanEls_abs _ hne hh]
  unfold model F
  rw [List.drop_zero]
  congr 3
  unfold rooted
  split
  · rfl
  · rw [Pa.els_slash, List.foldl_cons, Pa.step_nil]

end Go.Proofs.Qxb6002466a.Pl
