/-
  THE PLAIN LAWS OF osfs.below (no Go in sight).
-/
import Derived.Lib.Strings
namespace Go.Proofs.Qxb6002466a.Be
open Go.Lib

/-- What is left of n behind dir, dir's trailing slash trimmed. -/
def left (n d : List UInt8) : List UInt8 := trimPrefix n (trimSuffix d [47])

/-- What is left, as a name. -/
def pick : List UInt8 → Option (List UInt8)
  | [] => some [47]
  | c :: r => if c = 47 then some (c :: r) else none

/-- osfs.below: the name of n under d, or none. -/
def bel (n d : List UInt8) : Option (List UInt8) := if hasPrefix n (trimSuffix d [47]) then pick (left n d) else none

theorem hasPrefix_iff (s p : List UInt8) : hasPrefix s p = true ↔ ∃ t, s = p ++ t := by
  unfold hasPrefix
  rw [List.isPrefixOf_iff_prefix]
  constructor
  · rintro ⟨t, h⟩
    exact ⟨t, h.symm⟩
  · rintro ⟨t, h⟩
    exact ⟨t, h.symm⟩

theorem hasPrefix_app (p t : List UInt8) : hasPrefix (p ++ t) p = true := (hasPrefix_iff _ _).2 ⟨t, rfl⟩

theorem trimPrefix_app (p t : List UInt8) : trimPrefix (p ++ t) p = t := by
  unfold trimPrefix
  rw [hasPrefix_app, if_pos rfl]
  exact List.drop_left

theorem trimSuffix_app (l : List UInt8) : trimSuffix (l ++ [47]) [47] = l := by
  unfold trimSuffix hasSuffix
  rw [if_pos (by rw [List.isSuffixOf_iff_suffix]; exact ⟨l, rfl⟩)]
  simp

theorem trimSuffix_not {l : List UInt8} (h : l.getLast? ≠ some 47) : trimSuffix l [47] = l := by
  unfold trimSuffix hasSuffix
  rw [if_neg]
  rw [List.isSuffixOf_iff_suffix]
  rintro ⟨t, e⟩
  rw [← e] at h
  simp at h

theorem last_cases (l : List UInt8) : l.getLast? ≠ some 47 ∨ ∃ t, l = t ++ [47] := by
  by_cases h : l.getLast? = some 47
  · right
    obtain ⟨t, e⟩ := List.getLast?_eq_some_iff.1 h
    exact ⟨t, e⟩
  · exact .inl h

theorem bel_app {p : List UInt8} {d : List UInt8} (h : trimSuffix d [47] = p) (t : List UInt8) : bel (p ++ t) d = pick t := by
  unfold bel left
  rw [h, hasPrefix_app, if_pos rfl, trimPrefix_app]

theorem bel_self (n : List UInt8) : bel n n = some [47] := by
  rcases last_cases n with h | ⟨t, rfl⟩
  · have := bel_app (trimSuffix_not h) []
    rw [List.append_nil] at this
    exact this
  · exact bel_app (trimSuffix_app t) [47]

theorem bel_some {n d r : List UInt8} (h : bel n d = some r) : r.head? = some 47 ∧ (r = [47] ∨ ∃ p, n = p ++ r) := by
  unfold bel at h
  split at h
  · rename_i hp
    obtain ⟨t, e⟩ := (hasPrefix_iff _ _).1 hp
    unfold left at h
    rw [e, trimPrefix_app] at h
    cases t with
    | nil =>
      have : r = [47] := by simpa [pick] using h.symm
      subst this
      exact ⟨rfl, .inl rfl⟩
    | cons c t =>
      have hk : pick (c :: t) = if c = 47 then some (c :: t) else none := rfl
      rw [hk] at h
      split at h
      · rename_i hc
        have : r = c :: t := by simpa using h.symm
        subst this
        subst hc
        exact ⟨rfl, .inr ⟨_, e⟩⟩
      · cases h
  · cases h

/-- A rooted name with no empty elements. -/
structure WF (l : List UInt8) : Prop where
  head : l.head? = some 47
  rest : l = [47] ∨ ((∀ i : Nat, l[i]? = some 47 → l[i + 1]? ≠ some 47) ∧ l.getLast? ≠ some 47)

theorem wf_double {l : List UInt8} {i : Nat} (h1 : l[i]? = some 47) (h2 : l[i + 1]? = some 47) : ¬ WF l := by
  intro h
  rcases h.rest with e | ⟨e, _⟩
  · rw [e] at h2
    simp at h2
  · exact e i h1 h2

theorem wf_last {l : List UInt8} (hne : l ≠ [47]) (hl : l.getLast? = some 47) : ¬ WF l := by
  intro hw
  rcases hw.rest with e | ⟨_, e⟩
  · exact hne e
  · exact e hl

theorem wf_mk {l : List UInt8} (h : l.head? = some 47) (hd : ∀ i, i + 1 < l.length → l[i]? = some 47 → l[i + 1]? ≠ some 47) (hl : l.getLast? ≠ some 47) : WF l := by
  refine ⟨h, .inr ⟨?_, hl⟩⟩
  intro i h1 h2
  exact hd i (List.getElem?_eq_some_iff.1 h2).1 h1 h2

theorem trim_root : trimSuffix [47] [47] = [] := trimSuffix_app []

/-- What is placed under a well-formed directory lies below it. -/
theorem bel_join {d r : List UInt8} (hd : WF d) (hr : r.head? = some 47) : bel (if d = [47] then r else d ++ r) d = some r := by
  have hm : pick r = some r := by
    cases r with
    | nil => cases hr
    | cons c t =>
      have : c = 47 := by simpa using hr
      simp [pick, this]
  split
  · rename_i h
    subst h
    have := bel_app trim_root r
    rw [List.nil_append] at this
    rw [this, hm]
  · rename_i h
    rcases hd.rest with e | ⟨_, e⟩
    · exact absurd e h
    · rw [bel_app (trimSuffix_not e) r, hm]

end Go.Proofs.Qxb6002466a.Be
