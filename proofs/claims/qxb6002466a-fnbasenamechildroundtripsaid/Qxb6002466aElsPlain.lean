/-
  THE PLAIN LAWS OF osfsG1Elems, osfsG1Join AND OF WHAT THEY SAY OF osfs.below (no Go in sight). 'Pa.els': the elements between the slashes (Derived/Lib/CleanFns.lean).
-/
import Derived.Lib.CleanSame
import Derived.Test.Qxb6002466aBelPlain
namespace Go.Proofs.Qxb6002466a.Be
open Go.Lib

/-- osfsG1Elems. -/
def el (l : List UInt8) : List (List UInt8) := if l = [47] ∨ l = [] then [] else Pa.els (l.drop 1)

/-- Each element behind one slash. -/
def flat (xs : List (List UInt8)) : List UInt8 := (xs.map (47 :: ·)).flatten

/-- osfsG1Join. -/
def join (xs : List (List UInt8)) : List UInt8 := if xs = [] then [47] else flat xs

/-- The piece of l from a to b. -/
def seg (l : List UInt8) (a b : Nat) : List UInt8 := (l.drop a).take (b - a)

theorem flat_cons (x : List UInt8) (xs : List (List UInt8)) : flat (x :: xs) = 47 :: (x ++ flat xs) := by simp [flat]
theorem flat_app (xs ys : List (List UInt8)) : flat (xs ++ ys) = flat xs ++ flat ys := by simp [flat]

theorem els_ne (t : List UInt8) : ∃ e r, Pa.els t = e :: r := by
  cases t with
  | nil => exact ⟨_, _, rfl⟩
  | cons c t =>
    rw [Pa.els]
    split
    · exact ⟨_, _, rfl⟩
    · split
      · exact ⟨_, _, rfl⟩
      · exact ⟨_, _, rfl⟩

theorem els_cons {c : UInt8} {t e : List UInt8} {r : List (List UInt8)} (hc : c ≠ 47) (h : Pa.els t = e :: r) : Pa.els (c :: t) = (c :: e) :: r := by
  rw [Pa.els, if_neg hc, h]

theorem flat_els : ∀ t : List UInt8, flat (Pa.els t) = 47 :: t
  | [] => rfl
  | c :: t => by
    have ih := flat_els t
    by_cases hc : c = 47
    · subst hc
      rw [Pa.els_slash, flat_cons, ih]
      rfl
    · obtain ⟨e, r, he⟩ := els_ne t
      rw [he, flat_cons] at ih
      rw [els_cons hc he, flat_cons]
      simp at ih
      simp [ih]

theorem els_no47 : ∀ (t : List UInt8), ∀ e ∈ Pa.els t, 47 ∉ e
  | [], e, h => by
    have : e = [] := by simpa [Pa.els] using h
    subst this
    simp
  | c :: t, e, h => by
    have ih := els_no47 t
    by_cases hc : c = 47
    · subst hc
      rw [Pa.els_slash] at h
      rcases List.mem_cons.1 h with rfl | h
      · simp
      · exact ih e h
    · obtain ⟨x, r, he⟩ := els_ne t
      rw [els_cons hc he] at h
      rcases List.mem_cons.1 h with rfl | h
      · have := ih x (by rw [he]; simp)
        intro hm
        rcases List.mem_cons.1 hm with e | e
        · exact hc e.symm
        · exact this e
      · exact ih e (by rw [he]; simp [h])

theorem el_no47 (l : List UInt8) : ∀ e ∈ el l, 47 ∉ e := by
  unfold el
  split
  · simp
  · exact els_no47 _

theorem flat_el {l : List UInt8} (h : l.head? = some 47) (hne : l ≠ [47]) : flat (el l) = l := by
  cases l with
  | nil => cases h
  | cons c t =>
    have hc : c = 47 := by simpa using h
    subst hc
    unfold el
    rw [if_neg (by simp; simpa using hne)]
    exact flat_els t

theorem el_root : el [47] = [] := rfl

/-- A well-formed name, its trailing slash trimmed, is its elements, each behind a slash. -/
theorem trim_flat {d : List UInt8} (h : WF d) : trimSuffix d [47] = flat (el d) := by
  by_cases hd : d = [47]
  · subst hd
    rw [trim_root, el_root]
    rfl
  · rw [flat_el h.head hd]
    rcases h.rest with e | ⟨_, e⟩
    · exact absurd e hd
    · exact trimSuffix_not e

/-- Two elements with what stands behind them. -/
theorem elem_eq : ∀ {x y A B : List UInt8}, 47 ∉ x → 47 ∉ y → (A = [] ∨ A.head? = some 47) → (B = [] ∨ B.head? = some 47) → y ++ A = x ++ B → y = x ∧ A = B
  | [], [], A, B, _, _, _, _, h => ⟨rfl, by simpa using h⟩
  | [], c :: y, A, B, _, hy, _, hB, h => by
    rcases hB with rfl | hB
    · simp at h
    · rw [List.nil_append] at h
      rw [← h] at hB
      simp at hB
      exact absurd (by rw [hB]; simp) hy
  | c :: x, [], A, B, hx, _, hA, _, h => by
    rcases hA with rfl | hA
    · simp at h
    · rw [List.nil_append] at h
      rw [h] at hA
      simp at hA
      exact absurd (by rw [hA]; simp) hx
  | c :: x, d :: y, A, B, hx, hy, hA, hB, h => by
    simp only [List.cons_append, List.cons.injEq] at h
    obtain ⟨h1, h2⟩ := elem_eq (fun e => hx (by simp [e])) (fun e => hy (by simp [e])) hA hB h.2
    exact ⟨by rw [h.1, h1], h2⟩

theorem flat_head (xs : List (List UInt8)) : flat xs = [] ∨ (flat xs).head? = some 47 := by
  cases xs with
  | nil => exact .inl rfl
  | cons x xs => right; rw [flat_cons]; rfl

theorem flat_prefix : ∀ {D E : List (List UInt8)} {t : List UInt8}, (∀ e ∈ D, 47 ∉ e) → (∀ e ∈ E, 47 ∉ e) → (t = [] ∨ t.head? = some 47) → flat E = flat D ++ t → ∃ R, E = D ++ R
  | [], E, _, _, _, _, _ => ⟨E, rfl⟩
  | x :: D, [], t, _, _, _, h => by
    rw [flat_cons] at h
    simp [flat] at h
  | x :: D, y :: E, t, hD, hE, ht, h => by
    rw [flat_cons, flat_cons] at h
    simp only [List.cons_append, List.cons.injEq, true_and, List.append_assoc] at h
    have hB : (flat D ++ t) = [] ∨ (flat D ++ t).head? = some 47 := by
      rcases flat_head D with e | e
      · rw [e, List.nil_append]; exact ht
      · right
        cases hf : flat D with
        | nil => rw [hf] at e; cases e
        | cons c f => rw [hf] at e; simpa using e
    obtain ⟨h1, h2⟩ := elem_eq (hD x (by simp)) (hE y (by simp)) (flat_head E) hB h
    obtain ⟨R, hR⟩ := flat_prefix (fun e he => hD e (by simp [he])) (fun e he => hE e (by simp [he])) ht h2
    exact ⟨R, by rw [h1, hR]; rfl⟩

theorem pick_flat (R : List (List UInt8)) : pick (flat R) = some (join R) := by
  cases R with
  | nil => rfl
  | cons x R =>
    unfold join
    rw [if_neg (by simp), flat_cons]
    simp [pick]

/-- dir's elements are a prefix of n's. -/
theorem bel_prefix {n d : List UInt8} (hn : WF n) (hd : WF d) {R : List (List UInt8)} (h : el n = el d ++ R) : bel n d = some (join R) := by
  by_cases hr : n = [47]
  · subst hr
    rw [el_root] at h
    have h1 : el d = [] := (List.append_eq_nil_iff.1 h.symm).1
    have h2 : R = [] := (List.append_eq_nil_iff.1 h.symm).2
    have ht : trimSuffix d [47] = [] := by rw [trim_flat hd, h1]; rfl
    have := bel_app ht [47]
    rw [List.nil_append] at this
    rw [this, h2]
    rfl
  · have := bel_app (trim_flat hd) (flat R)
    rw [← flat_app, ← h, flat_el hn.head hr] at this
    rw [this, pick_flat]

/-- They are not. -/
theorem bel_apart {n d : List UInt8} (hn : WF n) (hd : WF d) (h : ¬ ∃ R, el n = el d ++ R) : bel n d = none := by
  cases hb : bel n d with
  | none => rfl
  | some r =>
    exfalso
    unfold bel at hb
    split at hb
    · rename_i hp
      obtain ⟨t, e⟩ := (hasPrefix_iff _ _).1 hp
      unfold left at hb
      rw [e, trimPrefix_app] at hb
      have ht : t = [] ∨ t.head? = some 47 := by
        cases t with
        | nil => exact .inl rfl
        | cons c t =>
          right
          have hk : pick (c :: t) = if c = 47 then some (c :: t) else none := rfl
          rw [hk] at hb
          split at hb
          · rename_i hc; rw [hc]; rfl
          · cases hb
      rw [trim_flat hd] at e
      by_cases hr : n = [47]
      · by_cases hdr : d = [47]
        · subst hr hdr
          exact h ⟨[], rfl⟩
        · rw [flat_el hd.head hdr, hr] at e
          have hh := hd.head
          cases d with
          | nil => cases hh
          | cons c d =>
            simp at e
            have : c = 47 := e.1.symm
            subst this
            have : d = [] := e.2.1
            subst this
            exact hdr rfl
      · rw [← flat_el hn.head hr] at e
        exact h (flat_prefix (el_no47 d) (el_no47 n) ht e)
    · cases hb

/-- The splitter at the head of a round: i = q, start = a, the elements gathered so far. -/
structure ERel (l : List UInt8) (q a : Nat) (done : List (List UInt8)) : Prop where
  cnt : done.length ≤ q
  st : (q ≤ l.length ∧ 1 ≤ a ∧ a ≤ q ∧ (∀ m, a ≤ m → m < q → l[m]? ≠ some 47) ∧ done ++ Pa.els (l.drop a) = Pa.els (l.drop 1)) ∨ (q = l.length + 1 ∧ done = Pa.els (l.drop 1))

theorem erel_start {l : List UInt8} (h : 0 < l.length) : ERel l 1 1 [] := ⟨by simp, .inl ⟨h, by omega, by omega, fun m h1 h2 => by omega, rfl⟩⟩

section
variable {l : List UInt8} {q a : Nat} {done : List (List UInt8)}

theorem ERel.le (h : ERel l q a done) (hq : q ≤ l.length) : 1 ≤ a ∧ a ≤ q := by
  rcases h.st with ⟨_, h1, h2, _⟩ | ⟨h1, _⟩
  · exact ⟨h1, h2⟩
  · omega

theorem ERel.skip (h : ERel l q a done) (hq : q < l.length) (hs : l[q]? ≠ some 47) : ERel l (q + 1) a done := by
  rcases h.st with ⟨_, h1, h2, h3, h4⟩ | ⟨h1, _⟩
  · refine ⟨by have := h.cnt; omega, .inl ⟨by omega, h1, by omega, ?_, h4⟩⟩
    intro m g1 g2
    by_cases e : m = q
    · subst e; exact hs
    · exact h3 m g1 (by omega)
  · omega

theorem ERel.piece (h : ERel l q a done) (hq : q ≤ l.length) (hs : q = l.length ∨ l[q]? = some 47) : done ++ seg l a q :: Pa.tailEls (l.drop q) = Pa.els (l.drop 1) := by
  rcases h.st with ⟨_, h1, h2, h3, h4⟩ | ⟨h1, _⟩
  · have e1 : l.drop a = seg l a q ++ l.drop q := by
      unfold seg
      have : l.drop q = (l.drop a).drop (q - a) := by rw [List.drop_drop]; congr 1; omega
      rw [this, List.take_append_drop]
    have h47 : 47 ∉ seg l a q := by
      intro hm
      obtain ⟨m, hm2⟩ := List.mem_iff_getElem?.1 hm
      have hm1 := (List.getElem?_eq_some_iff.1 hm2).1
      have hml : m < q - a := by unfold seg at hm1; rw [List.length_take] at hm1; omega
      unfold seg at hm2
      rw [List.getElem?_take_of_lt hml, List.getElem?_drop] at hm2
      exact h3 (a + m) (by omega) (by omega) hm2
    have hst : l.drop q = [] ∨ (l.drop q).head? = some 47 := by
      rcases hs with e | e
      · exact .inl (List.drop_eq_nil_of_le (by omega))
      · right
        rw [List.head?_drop]
        exact e
    rw [e1, Pa.els_elem _ _ h47 hst] at h4
    exact h4
  · omega

theorem ERel.cutAt (h : ERel l q a done) (hq : q < l.length) (hs : l[q]? = some 47) : ERel l (q + 1) (q + 1) (done ++ [seg l a q]) := by
  have hp := h.piece (by omega) (.inr hs)
  obtain ⟨hl, e⟩ := List.getElem?_eq_some_iff.1 hs
  rw [List.drop_eq_getElem_cons hl, e] at hp
  refine ⟨by have := h.cnt; simp; omega, .inl ⟨by omega, by omega, by omega, fun m h1 h2 => by omega, ?_⟩⟩
  rw [List.append_assoc]
  exact hp

theorem ERel.last (h : ERel l q a done) (hq : q = l.length) : ERel l (q + 1) (q + 1) (done ++ [seg l a q]) := by
  have hp := h.piece (by omega) (.inl hq)
  rw [List.drop_eq_nil_of_le (by omega)] at hp
  exact ⟨by have := h.cnt; simp; omega, .inr ⟨by omega, hp⟩⟩

theorem ERel.fin (h : ERel l q a done) (hq : ¬ q ≤ l.length) : done = Pa.els (l.drop 1) := by
  rcases h.st with ⟨h1, _⟩ | ⟨_, h1⟩
  · exact absurd h1 hq
  · exact h1
end

/-- The part behind the last slash. -/
theorem flat_last (I : List (List UInt8)) (x : List UInt8) : flat (I ++ [x]) = flat I ++ 47 :: x := by rw [flat_app, flat_cons]; simp [flat]

end Go.Proofs.Qxb6002466a.Be
