/-
  THE MODEL's TWO STACKS IN MEMORY (no walk): 'starts' and 'ends' are two rows of the call's own that lie apart; what a push and a pop do to them.
-/
import Derived.Test.Qxb6002466aPlain
import Derived.WalkKit
import Derived.WalkLawsBesides
import Derived.Maps.AppendAt
import Derived.Laws.IdiomStrings
namespace Go.Proofs.Qxb6002466a.Pl
open Go.RowKit

def fstv (p : Nat × Nat) : Value := .int .i64 (p.1 : Int)
def sndv (p : Nat × Nat) : Value := .int .i64 (p.2 : Int)

/-- 'starts' holds the first bounds of ps, 'ends' the second bounds of qs; the two lie apart; below B all is as it was. -/
structure Mem (B : Nat) (w wr : World) (vs ve : Value) (ps qs : List (Nat × Nat)) : Prop where
  s : wr.ownsRow B 3 1 vs ps.length (ps.map fstv)
  e : wr.ownsRow B 3 1 ve qs.length (qs.map sndv)
  far : ∀ k, vs.ownBlock = some k → ve.ownBlock ≠ some k
  below : Below B w wr

theorem mem_start (w : World) : Mem w.heap.size w w (.slice none 0 0) (.slice none 0 0) [] [] :=
  ⟨World.ownsRow_nil _ _ _ _, World.ownsRow_nil _ _ _ _, fun k h => by simp [Value.ownBlock] at h, Below.refl _ _⟩

section
variable {B : Nat} {w wr w1 : World} {vs ve v' : Value} {ps qs : List (Nat × Nat)} {o : Obj}

theorem Mem.size (h : Mem B w wr vs ve ps qs) : w.heap.size ≤ wr.heap.size := h.below.size

theorem Mem.pushS (h : Mem B w wr vs ve ps qs) (hB : B ≤ w.heap.size) (p : Nat × Nat) (ho : w1.ownsRow B 3 1 v' (ps.length + 1) (ps.map fstv ++ [fstv p])) (hg : (wr.alloc o).grownBy w1 vs.ownBlock)
    (hat : v'.ownBlock = vs.ownBlock ∨ v'.ownBlock = some (wr.alloc o).heap.size) : Mem B w w1 v' ve (ps ++ [p]) qs := by
  have hw := h.below.size
  refine ⟨by simpa using ho, ?_, ?_, ?_⟩
  · refine (h.e.alloc o).kept hg ?_
    cases he : ve.ownBlock with
    | none => exact .inl rfl
    | some k =>
      right
      intro e
      exact h.far k e.symm he
  · intro k hk he
    rcases hat with e | e
    · exact h.far k (e ▸ hk) he
    · have h1 := (h.e.lt k he).2
      rw [e] at hk
      have h2 : (wr.alloc o).heap.size = k := by simpa using hk
      simp at h2
      omega
  · refine (h.below.alloc (by omega) o).grown hg (by simp; omega) ?_
    intro k hk
    exact (h.s.lt k hk).1

theorem Mem.pushE (h : Mem B w wr vs ve ps qs) (hB : B ≤ w.heap.size) (p : Nat × Nat) (ho : w1.ownsRow B 3 1 v' (qs.length + 1) (qs.map sndv ++ [sndv p])) (hg : (wr.alloc o).grownBy w1 ve.ownBlock)
    (hat : v'.ownBlock = ve.ownBlock ∨ v'.ownBlock = some (wr.alloc o).heap.size) : Mem B w w1 vs v' ps (qs ++ [p]) := by
  have hw := h.below.size
  refine ⟨?_, by simpa using ho, ?_, ?_⟩
  · refine (h.s.alloc o).kept hg ?_
    cases he : vs.ownBlock with
    | none => exact .inl rfl
    | some k =>
      right
      intro e
      exact h.far k he e.symm
  · intro k hk he
    rcases hat with e | e
    · exact h.far k hk (e ▸ he)
    · have h1 := (h.s.lt k hk).2
      rw [e] at he
      have h2 : (wr.alloc o).heap.size = k := by simpa using he
      simp at h2
      omega
  · refine (h.below.alloc (by omega) o).grown hg (by simp; omega) ?_
    intro k hk
    exact (h.e.lt k hk).1

theorem form_snoc {e : TypeId} {v : Value} {n : Nat} {xs : List Value} (h : wr.ownsRow B e 1 v (n + 1) xs) : ∃ g cap, v = .slice (some ⟨g, 0, none⟩) (n + 1) cap ∧ n + 1 ≤ cap := by
  rcases h.2 with ⟨_, h0⟩ | ⟨g, cap, cur, hv, _, _, hn, _⟩
  · omega
  · exact ⟨g, cap, hv, hn⟩

theorem Mem.pop {gs cs ge ce n : Nat} {p q : Nat × Nat} (hn : ps.length = n) (hm : qs.length = n)
    (h : Mem B w wr (.slice (some ⟨gs, 0, none⟩) (n + 1) cs) (.slice (some ⟨ge, 0, none⟩) (n + 1) ce) (ps ++ [p]) (qs ++ [q])) :
    Mem B w wr (.slice (some ⟨gs, 0, none⟩) n cs) (.slice (some ⟨ge, 0, none⟩) n ce) ps qs := by
  refine ⟨?_, ?_, ?_, h.below⟩
  · have := h.s
    simp only [List.map_append, List.map_cons, List.map_nil, List.length_append, List.length_cons, List.length_nil, Nat.zero_add, hn] at this
    rw [hn]
    exact ownsRow_pop (by simp [hn]) this
  · have := h.e
    simp only [List.map_append, List.map_cons, List.map_nil, List.length_append, List.length_cons, List.length_nil, Nat.zero_add, hm] at this
    rw [hm]
    exact ownsRow_pop (by simp [hm]) this
  · intro k hk
    exact h.far k hk
end

/-- The cells of a row of bytes. -/
def bytes (l : List UInt8) : List Value := l.map fun c => .int .u8 (c.toNat : Int)

theorem bytes_len (l : List UInt8) : (bytes l).length = l.length := by simp [bytes]
theorem bytes_snoc (l : List UInt8) (c : UInt8) : bytes (l ++ [c]) = bytes l ++ [.int .u8 (c.toNat : Int)] := by simp [bytes]
theorem one_cell (k : IntKind) (x : Int) : ∀ u ∈ [Value.int k x], u.oneCell' = true := by
  intro u hu
  simp at hu
  subst hu
  rfl
theorem le_alloc {B : Nat} {w : World} (h : B ≤ w.heap.size) (o : Obj) : B ≤ (w.alloc o).heap.size := by simp; omega

/-- The two stacks are not empty: where they lie, and what their cells hold. -/
theorem Mem.cells {B n : Nat} {w wr : World} {a a' : Option Addr} {c c' : Nat} {ps : List (Nat × Nat)} (hn : ps.length = n + 1) (h : Mem B w wr (.slice a (n + 1) c) (.slice a' (n + 1) c') ps ps) :
    ∃ g g', a = some ⟨g, 0, none⟩ ∧ a' = some ⟨g', 0, none⟩ ∧ n + 1 ≤ c ∧ n + 1 ≤ c' ∧ g < wr.heap.size ∧ g' < wr.heap.size ∧
      (∀ k p, ps[k]? = some p → wr.cell? ⟨g, k, none⟩ = some (fstv p)) ∧ (∀ k p, ps[k]? = some p → wr.cell? ⟨g', k, none⟩ = some (sndv p)) := by
  have f : ∀ {a : Option Addr} {c : Nat} (v : Nat × Nat → Value), wr.ownsRow B 3 1 (.slice a (n + 1) c) ps.length (ps.map v) →
      ∃ g, a = some ⟨g, 0, none⟩ ∧ n + 1 ≤ c ∧ g < wr.heap.size ∧ ∀ k p, ps[k]? = some p → wr.cell? ⟨g, k, none⟩ = some (v p) := by
    intro a c v h
    have hl := h.lt
    rcases h.2 with ⟨h1, h0⟩ | ⟨g, cap, cur, hv, h2, h3, h4, _⟩
    · omega
    · rw [hn] at hv
      cases hv
      refine ⟨g, rfl, by omega, (hl g rfl).2, ?_⟩
      intro k p hp
      have hk := (List.getElem?_eq_some_iff.1 hp).1
      rw [hn] at h
      rw [h.cellAt k (by omega), List.getElem?_map, hp]
      rfl
  obtain ⟨g, e1, e2, e3, e4⟩ := f fstv h.s
  obtain ⟨g', e1', e2', e3', e4'⟩ := f sndv h.e
  exact ⟨g, g', e1, e1', e2, e2', e3, e3', e4, e4'⟩

theorem Mem.forms {B : Nat} {w wr : World} {vs ve : Value} {ps : List (Nat × Nat)} (h : Mem B w wr vs ve ps ps) : ∃ n a c a' c', ps.length = n ∧ vs = .slice a n c ∧ ve = .slice a' n c' := by
  have f : ∀ {v : Value} {xs : List Value}, wr.ownsRow B 3 1 v ps.length xs → ∃ a c, v = .slice a ps.length c := by
    intro v xs h
    rcases h.2 with ⟨h1, h0⟩ | ⟨g, cap, cur, hv, _⟩
    · exact ⟨none, 0, by rw [h1, h0]⟩
    · exact ⟨_, _, hv⟩
  obtain ⟨a, c, e1⟩ := f h.s
  obtain ⟨a', c', e2⟩ := f h.e
  exact ⟨_, a, c, a', c', rfl, e1, e2⟩

/-- A row of bytes that is not empty: where it lies, and that its cells are the bytes. -/
theorem bytes_at {B : Nat} {wr : World} {v : Value} {l : List UInt8} (h0 : l ≠ []) (h : wr.ownsRow B 5 1 v l.length (bytes l)) :
    ∃ g cap, v = .slice (some ⟨g, 0, none⟩) l.length cap ∧ ∀ j (hj : j < l.length), wr.cell? ((⟨g, 0, none⟩ : Addr).add j) = some (.int .u8 (l[j].toNat : Int)) := by
  have hp : 0 < l.length := List.length_pos_iff.2 h0
  rcases h.2 with ⟨h1, h2⟩ | ⟨g, cap, cur, hv, _⟩
  · omega
  · refine ⟨g, cap, hv, fun j hj => ?_⟩
    exact h.cells (g := g) (by rw [hv]; rfl) j _ (by unfold bytes; rw [List.getElem?_map, List.getElem?_eq_getElem hj]; rfl)

/-- A byte behind a row of bytes. -/
theorem push_byte {B : Nat} {W wx w1 : World} {v v' : Value} {o : List UInt8} {ob : Obj} (c : UInt8) (hB : B ≤ wx.heap.size) (hbx : Below B W wx) (hown : wx.ownsRow B 5 1 v o.length (bytes o))
    (ho : w1.ownsRow B 5 1 v' (o.length + 1) (bytes o ++ [.int .u8 (c.toNat : Int)])) (hg : (wx.alloc ob).grownBy w1 v.ownBlock) : w1.ownsRow B 5 1 v' (o ++ [c]).length (bytes (o ++ [c])) ∧ Below B W w1 := by
  refine ⟨by rw [bytes_snoc]; simpa using ho, ?_⟩
  refine (hbx.alloc hB ob).grown hg (by simp; omega) ?_
  intro k hk
  exact (hown.lt k hk).1

theorem out_take (l : List UInt8) (ps : List (Nat × Nat)) (k : Nat) (p : Nat × Nat) (h : ps[k]? = some p) : out l (ps.take (k + 1)) = out l (ps.take k) ++ 47 :: cut l p := by
  obtain ⟨hk, e⟩ := List.getElem?_eq_some_iff.1 h
  rw [List.take_succ_eq_append_getElem hk, e]
  simp [out]

theorem out_len (l : List UInt8) (hl : l.length ≤ 65536) : ∀ ps : List (Nat × Nat), (out l ps).length ≤ ps.length * 65537
  | [] => by simp [out]
  | p :: ps => by
    have ih := out_len l hl ps
    have hc : (cut l p).length ≤ l.length := by unfold cut; rw [List.length_take, List.length_drop]; omega
    have e : out l (p :: ps) = (47 :: cut l p) ++ out l ps := by simp [out]
    rw [e]
    simp only [List.length_append, List.length_cons]
    omega

theorem cut_snoc {l : List UInt8} {a m : Nat} {c : UInt8} (h : a ≤ m) (hc : l[m]? = some c) : cut l (a, m + 1) = cut l (a, m) ++ [c] := by
  obtain ⟨hm, e⟩ := List.getElem?_eq_some_iff.1 hc
  unfold cut
  simp only
  rw [show m + 1 - a = (m - a) + 1 by omega, List.take_add_one, List.getElem?_drop, show a + (m - a) = m by omega, hc]
  rfl

theorem cut_app {l : List UInt8} (o : List UInt8) {a m : Nat} {c : UInt8} (h : a ≤ m) (hc : l[m]? = some c) : o ++ 47 :: cut l (a, m + 1) = (o ++ 47 :: cut l (a, m)) ++ [c] := by
  rw [cut_snoc h hc]
  simp

theorem cut_nil (l : List UInt8) (a : Nat) : cut l (a, a) = [] := by simp [cut]

theorem cut_le {l : List UInt8} (hl : l.length ≤ 65536) (p : Nat × Nat) : (cut l p).length ≤ 65536 := by
  unfold cut
  rw [List.length_take, List.length_drop]
  omega

end Go.Proofs.Qxb6002466a.Pl
