/-
  THE WALKS OF ZZMakeReckoning, top, repeat, ZZRepeat AND ZZGroupAt.
-/
import Derived.Test.Qxb6604798aChecked
import Derived.Test.Qxb6604798aShelf
import Derived.WalkKit
import Derived.WalkLawsBesides
import Derived.Deep.QuietTactic
import Derived.BigQuiet
import Derived.Lib.SmallJoins
namespace Go.Proofs.Qxb6604798a.Rk
open Go.RowKit

/-- The reckoning at block R with its one group at block G. -/
structure Is (w : World) (R G : Nat) (ca fo : Bool) (al ba co la : Int) : Prop where
  own : ∃ (cs : Array Value) (s : ByteArray), w.heap[R]? = some (.cells cs 46 (0, 0)) ∧ cs[1]? = some (.string s) ∧ cs[3]? = some (.slice (some ⟨G, 0, none⟩) 1 1)
  grp : w.heap[G]? = some (.cells #[.bool ca, .bool fo, .int .i64 al, .int .i64 ba, .int .i64 co, .int .i64 la] 41 (0, 0))

/-- Nothing that was there has turned but blocks R and G. -/
structure Touch (w w' : World) (R G : Nat) : Prop where
  os : w'.os = w.os
  tape : w'.tape = w.tape
  output : w'.output = w.output
  size : w.heap.size ≤ w'.heap.size
  block : ∀ k, k < w.heap.size → k ≠ R → k ≠ G → w'.heap[k]? = w.heap[k]?

section
variable {w w' : World} {R G R2 G2 B : Nat} {ca fo ca2 fo2 : Bool} {al ba co la al2 ba2 co2 la2 : Int}

theorem Is.ne (h : Is w R G ca fo al ba co la) : R ≠ G := by
  intro e
  obtain ⟨cs, s, h1, _⟩ := h.own
  rw [e, h.grp] at h1
  cases h1

theorem Is.lt (h : Is w R G ca fo al ba co la) : R < w.heap.size ∧ G < w.heap.size := by
  obtain ⟨cs, s, h1, _⟩ := h.own
  exact ⟨(Array.getElem?_eq_some_iff.1 h1).1, (Array.getElem?_eq_some_iff.1 h.grp).1⟩

theorem Is.kept (h : Is w R G ca fo al ba co la) (t : Touch w w' R2 G2) (h1 : R ≠ R2) (h2 : R ≠ G2) (h3 : G ≠ R2) (h4 : G ≠ G2) : Is w' R G ca fo al ba co la := by
  obtain ⟨cs, s, e1, e2, e3⟩ := h.own
  have hl := h.lt
  exact ⟨⟨cs, s, by rw [t.block R hl.1 h1 h2]; exact e1, e2, e3⟩, by rw [t.block G hl.2 h3 h4]; exact h.grp⟩

theorem Is.below (h : Is w R G ca fo al ba co la) (t : Below w.heap.size w w') : Is w' R G ca fo al ba co la := by
  obtain ⟨cs, s, e1, e2, e3⟩ := h.own
  have hl := h.lt
  exact ⟨⟨cs, s, by rw [t.block R hl.1]; exact e1, e2, e3⟩, by rw [t.block G hl.2]; exact h.grp⟩

theorem Touch.below (t : Touch w w' R G) (h1 : B ≤ R) (h2 : B ≤ G) (h3 : B ≤ w.heap.size) : Below B w w' :=
  ⟨t.os, t.tape, t.output, t.size, fun k hk => t.block k (by omega) (by omega) (by omega)⟩
end

/-- ZZMakeReckoning. -/
theorem make_any (a b : ByteArray) (x y z : Bool) (al ba co la p q : Int) (w : World) :
    Calls Try.prog 8 #[.string a, .string b, .bool x, .bool y, .bool z, .int .i64 al, .int .i64 ba, .int .i64 co, .int .i64 la, .int .i64 p, .int .i64 q] w fun e w' =>
      e = .returned (.pointer (some ⟨w.heap.size + 1, 0, none⟩)) ∧ Is w' (w.heap.size + 1) w.heap.size y z al ba co la ∧ Below w.heap.size w w' ∧ w'.heap.size = w.heap.size + 2 := by
  go_enter Try.func8, Try.ntmps8
  go_wp2
  go_ret
  refine ⟨rfl, ⟨⟨#[.string a, .string b, .bool x, .slice (some ⟨w.heap.size, 0, none⟩) 1 1,
          .int .i64 0, .bool false, .string a, .string { data := #[58, 93] }, .int .i64 (-1), .int .i64 (-1), .string a, .string { data := #[125] },
          .int .i64 (-1), .int .i64 (-1), .string a, .string { data := #[62] }, .int .i64 p, .int .i64 q], b, ?_, rfl, rfl⟩, ?_⟩, ((Below.refl _ _).alloc (Nat.le_refl _) _).alloc (by simp) _, by simp⟩
  · have h := heap_alloc_new (w.alloc (.cells #[.bool y, .bool z, .int .i64 al, .int .i64 ba, .int .i64 co, .int .i64 la] 41)) (.cells #[.string a, .string b, .bool x, .slice (some ⟨w.heap.size, 0, none⟩) 1 1,
          .int .i64 0, .bool false, .string a, .string { data := #[58, 93] }, .int .i64 (-1), .int .i64 (-1), .string a, .string { data := #[125] },
          .int .i64 (-1), .int .i64 (-1), .string a, .string { data := #[62] }, .int .i64 p, .int .i64 q] 46)
    simp only [World.size_alloc] at h
    exact h
  · rw [Below.heap_alloc _ _ _ (by simp)]
    exact heap_alloc_new w _

/-- (*reckoning).top. -/
theorem top_any (R G : Nat) (w : World) (hc : w.cell? ⟨R, 3, none⟩ = some (.slice (some ⟨G, 0, none⟩) 1 1)) :
    Calls Try.prog 28 #[.pointer (some ⟨R, 0, none⟩)] w fun e w' => e = .returned (.pointer (some ⟨G, 0, none⟩)) ∧ ∃ n, w' = w.drewN n := by
  go_enter Try.func28, Try.ntmps28
  go_wp2
  go_quiet (fail)
  go_wp2
  go_ret
  exact ⟨rfl, _, rfl⟩

theorem at_cells (R G : Nat) (w : World) (ca fo : Bool) (al ba co la : Int) (hc : w.cell? ⟨R, 3, none⟩ = some (.slice (some ⟨G, 0, none⟩) 1 1))
    (c0 : w.cell? ⟨G, 0, none⟩ = some (.bool ca)) (c1 : w.cell? ⟨G, 1, none⟩ = some (.bool fo)) (c2 : w.cell? ⟨G, 2, none⟩ = some (.int .i64 al)) (c3 : w.cell? ⟨G, 3, none⟩ = some (.int .i64 ba)) (c4 : w.cell? ⟨G, 4, none⟩ = some (.int .i64 co)) (c5 : w.cell? ⟨G, 5, none⟩ = some (.int .i64 la)) :
    Calls Try.prog 10 #[.pointer (some ⟨R, 0, none⟩), .int .i64 0] w fun e w' => e = .returned (.tuple #[.bool ca, .bool fo, .int .i64 al, .int .i64 ba, .int .i64 co, .int .i64 la]) ∧ Below w.heap.size w w' := by
  go_enter Try.func10, Try.ntmps10
  go_wp2
  go_quiet (fail)
  go_wp2
  exact bodyPost_ret (v := .tuple #[.bool ca, .bool fo, .int .i64 al, .int .i64 ba, .int .i64 co, .int .i64 la]) (by simp [results, Try.results10, go_sem]) rfl ⟨rfl, below_drewN ((Below.refl _ _).alloc (Nat.le_refl _) _) _⟩

/-- ZZGroupAt. -/
theorem at_any (R G : Nat) (w : World) (ca fo : Bool) (al ba co la : Int) (h : Is w R G ca fo al ba co la) :
    Calls Try.prog 10 #[.pointer (some ⟨R, 0, none⟩), .int .i64 0] w fun e w' => e = .returned (.tuple #[.bool ca, .bool fo, .int .i64 al, .int .i64 ba, .int .i64 co, .int .i64 la]) ∧ Below w.heap.size w w' := by
  obtain ⟨cs, s, e1, e2, e3⟩ := h.own
  have hg := h.grp
  exact at_cells R G w ca fo al ba co la (by rw [Joins.cell_of_block e1]; exact e3) (by rw [Joins.cell_of_block hg]; rfl) (by rw [Joins.cell_of_block hg]; rfl) (by rw [Joins.cell_of_block hg]; rfl) (by rw [Joins.cell_of_block hg]; rfl) (by rw [Joins.cell_of_block hg]; rfl) (by rw [Joins.cell_of_block hg]; rfl)

section
variable {w : World} {R G : Nat} {ca fo : Bool} {al ba co la : Int}

theorem is_set1 (h : Is w R G ca fo al ba co la) (t : ByteArray) (n : Nat) : Is ((w.setCell ⟨R, 1, none⟩ (.string t)).drewN n) R G ca fo al ba co la ∧ Touch w ((w.setCell ⟨R, 1, none⟩ (.string t)).drewN n) R G := by
  obtain ⟨cs, s, e1, e2, e3⟩ := h.own
  refine ⟨⟨⟨cs.setIfInBounds 1 (.string t), t, Joins.block_setCell e1 _, ?_, ?_⟩, ?_⟩, rfl, rfl, rfl, by show w.heap.size ≤ (w.setCell _ _).heap.size; simp [World.setCell], fun k _ h1 _ => Below.heap_setCell w _ _ k h1⟩
  · have := (Array.getElem?_eq_some_iff.1 e2).1
    simp [this]
  · simpa using e3
  · exact (Below.heap_setCell w _ _ G (fun e => h.ne e.symm)).trans h.grp

theorem is_set5 (h : Is w R G ca fo al ba co la) (l : Int) : Is (w.setCell ⟨G, 5, none⟩ (.int .i64 l)) R G ca fo al ba co l ∧ Touch w (w.setCell ⟨G, 5, none⟩ (.int .i64 l)) R G := by
  obtain ⟨cs, s, e1, e2, e3⟩ := h.own
  refine ⟨⟨⟨cs, s, (Below.heap_setCell w _ _ R h.ne).trans e1, e2, e3⟩, Joins.block_setCell h.grp _⟩, rfl, rfl, rfl, by simp [World.setCell], fun k _ _ h2 => Below.heap_setCell w _ _ k h2⟩

theorem is_set4 (h : Is w R G ca fo al ba co la) (c : Int) : Is (w.setCell ⟨G, 4, none⟩ (.int .i64 c)) R G ca fo al ba c la ∧ Touch w (w.setCell ⟨G, 4, none⟩ (.int .i64 c)) R G := by
  obtain ⟨cs, s, e1, e2, e3⟩ := h.own
  refine ⟨⟨⟨cs, s, (Below.heap_setCell w _ _ R h.ne).trans e1, e2, e3⟩, Joins.block_setCell h.grp _⟩, rfl, rfl, rfl, by simp [World.setCell], fun k _ _ h2 => Below.heap_setCell w _ _ k h2⟩

theorem Touch.trans {w w1 w2 : World} {R G : Nat} (h : Touch w w1 R G) (k : Touch w1 w2 R G) : Touch w w2 R G :=
  ⟨k.os.trans h.os, k.tape.trans h.tape, k.output.trans h.output, Nat.le_trans h.size k.size, fun i hi h1 h2 => (k.block i (Nat.lt_of_lt_of_le hi h.size) h1 h2).trans (h.block i hi h1 h2)⟩

theorem is_set15 (h : Is w R G ca fo al ba co la) (t : ByteArray) (n : Nat) (l : Int) :
    Is (((w.setCell ⟨R, 1, none⟩ (.string t)).drewN n).setCell ⟨G, 5, none⟩ (.int .i64 l)) R G ca fo al ba co l ∧ Touch w (((w.setCell ⟨R, 1, none⟩ (.string t)).drewN n).setCell ⟨G, 5, none⟩ (.int .i64 l)) R G := by
  obtain ⟨a, b⟩ := is_set1 h t n
  obtain ⟨c, d⟩ := is_set5 a l
  exact ⟨c, b.trans d⟩

theorem is_set145 (h : Is w R G ca fo al ba co la) (t : ByteArray) (n : Nat) (c l : Int) :
    Is ((((w.setCell ⟨R, 1, none⟩ (.string t)).drewN n).setCell ⟨G, 4, none⟩ (.int .i64 c)).setCell ⟨G, 5, none⟩ (.int .i64 l)) R G ca fo al ba c l ∧ Touch w ((((w.setCell ⟨R, 1, none⟩ (.string t)).drewN n).setCell ⟨G, 4, none⟩ (.int .i64 c)).setCell ⟨G, 5, none⟩ (.int .i64 l)) R G := by
  obtain ⟨a, b⟩ := is_set1 h t n
  obtain ⟨c1, d1⟩ := is_set4 a c
  obtain ⟨c2, d2⟩ := is_set5 c1 l
  exact ⟨c2, (b.trans d1).trans d2⟩
end

theorem rep_none (R G : Nat) (w : World) (ca fo : Bool) (al ba co le mo : Int) (h : Is w R G ca fo al ba co 0) :
    Calls Try.prog 24 #[.pointer (some ⟨R, 0, none⟩), .int .i64 le, .int .i64 mo] w fun e w' => e = .returned (.tuple #[]) ∧ Is w' R G ca fo al ba co 0 ∧ Touch w w' R G := by
  obtain ⟨cs, s, e1, e2, e3⟩ := h.own
  have hg := h.grp
  have hne : R ≠ G := h.ne
  have hne' : G ≠ R := fun e => hne e.symm
  have hr : w.cell? ⟨R, 1, none⟩ = some (.string s) := by rw [Joins.cell_of_block e1]; exact e2
  have hf : w.frozen? ⟨R, 1, none⟩ = false := Joins.unfrozen_of_block e1 _
  have hc : w.cell? ⟨R, 3, none⟩ = some (.slice (some ⟨G, 0, none⟩) 1 1) := by rw [Joins.cell_of_block e1]; exact e3
  have c4 : w.cell? ⟨G, 4, none⟩ = some (.int .i64 co) := by rw [Joins.cell_of_block hg]; rfl
  have c5 : w.cell? ⟨G, 5, none⟩ = some (.int .i64 0) := by rw [Joins.cell_of_block hg]; rfl
  have f4 : w.frozen? ⟨G, 4, none⟩ = false := Joins.unfrozen_of_block hg _
  have f5 : w.frozen? ⟨G, 5, none⟩ = false := Joins.unfrozen_of_block hg _
  have hc' : ∀ v, (w.setCell ⟨R, 1, none⟩ v).cell? ⟨R, 3, none⟩ = some (.slice (some ⟨G, 0, none⟩) 1 1) := fun v => by go_simp
  have HI : Hid (Is w R G ca fo al ba co 0) := h
  clear e1 e2 e3 hg h
  go_enter Try.func24, Try.ntmps24
  go_wp2_with (first
    | (go_at_call 27; refine (Try.strings_TrimPrefix _ _ _).mono ?_; rintro e w' ⟨rfl, rfl⟩)
    | (go_at_call 28; refine (top_any R G _ (hc' _)).mono ?_; rintro e w' ⟨rfl, n, rfl⟩))
  exact bodyPost_ret (v := .tuple #[]) (by simp [results, Try.results24, go_sem]) rfl ⟨rfl, is_set1 HI.out _ _⟩

set_option maxHeartbeats 1000000 in
theorem rep_zero_low (R G : Nat) (w : World) (ca fo : Bool) (al ba co la le mo : Int) (h : Is w R G ca fo al ba co la) (hl1 : 1 ≤ la) (hl2 : la ≤ 1073741824) (hc1 : 0 ≤ co) (hc2 : co ≤ 1073741824) (hco : co < 1073741824) (hm : mo = 0) :
    Calls Try.prog 24 #[.pointer (some ⟨R, 0, none⟩), .int .i64 le, .int .i64 mo] w fun e w' => e = .returned (.tuple #[]) ∧ Is w' R G ca fo al ba (min (co - la + 1) 1073741824) 1 ∧ Touch w w' R G := by
  subst hm
  obtain ⟨cs, s, e1, e2, e3⟩ := h.own
  have hg := h.grp
  have hne : R ≠ G := h.ne
  have hne' : G ≠ R := fun e => hne e.symm
  have hr : w.cell? ⟨R, 1, none⟩ = some (.string s) := by rw [Joins.cell_of_block e1]; exact e2
  have hf : w.frozen? ⟨R, 1, none⟩ = false := Joins.unfrozen_of_block e1 _
  have hc : w.cell? ⟨R, 3, none⟩ = some (.slice (some ⟨G, 0, none⟩) 1 1) := by rw [Joins.cell_of_block e1]; exact e3
  have c4 : w.cell? ⟨G, 4, none⟩ = some (.int .i64 co) := by rw [Joins.cell_of_block hg]; rfl
  have c5 : w.cell? ⟨G, 5, none⟩ = some (.int .i64 la) := by rw [Joins.cell_of_block hg]; rfl
  have f4 : w.frozen? ⟨G, 4, none⟩ = false := Joins.unfrozen_of_block hg _
  have f5 : w.frozen? ⟨G, 5, none⟩ = false := Joins.unfrozen_of_block hg _
  have hc' : ∀ v, (w.setCell ⟨R, 1, none⟩ v).cell? ⟨R, 3, none⟩ = some (.slice (some ⟨G, 0, none⟩) 1 1) := fun v => by go_simp
  have HI : Hid (Is w R G ca fo al ba co la) := h
  clear e1 e2 e3 hg h
  go_enter Try.func24, Try.ntmps24
  go_wp2_with (first
    | (go_at_call 27; refine (Try.strings_TrimPrefix _ _ _).mono ?_; rintro e w' ⟨rfl, rfl⟩)
    | (go_at_call 28; refine (top_any R G _ (hc' _)).mono ?_; rintro e w' ⟨rfl, n, rfl⟩))
  go_region
  go_wp2
  go_end0
  exact ⟨rfl, is_set145 HI.out _ _ _ _⟩

set_option maxHeartbeats 1000000 in
theorem rep_zero_full (R G : Nat) (w : World) (ca fo : Bool) (al ba co la le mo : Int) (h : Is w R G ca fo al ba co la) (hl1 : 1 ≤ la) (hl2 : la ≤ 1073741824) (hc1 : 0 ≤ co) (hc2 : co ≤ 1073741824) (hco : 1073741824 ≤ co) (hm : mo = 0) :
    Calls Try.prog 24 #[.pointer (some ⟨R, 0, none⟩), .int .i64 le, .int .i64 mo] w fun e w' => e = .returned (.tuple #[]) ∧ Is w' R G ca fo al ba co 1 ∧ Touch w w' R G := by
  subst hm
  obtain ⟨cs, s, e1, e2, e3⟩ := h.own
  have hg := h.grp
  have hne : R ≠ G := h.ne
  have hne' : G ≠ R := fun e => hne e.symm
  have hr : w.cell? ⟨R, 1, none⟩ = some (.string s) := by rw [Joins.cell_of_block e1]; exact e2
  have hf : w.frozen? ⟨R, 1, none⟩ = false := Joins.unfrozen_of_block e1 _
  have hc : w.cell? ⟨R, 3, none⟩ = some (.slice (some ⟨G, 0, none⟩) 1 1) := by rw [Joins.cell_of_block e1]; exact e3
  have c4 : w.cell? ⟨G, 4, none⟩ = some (.int .i64 co) := by rw [Joins.cell_of_block hg]; rfl
  have c5 : w.cell? ⟨G, 5, none⟩ = some (.int .i64 la) := by rw [Joins.cell_of_block hg]; rfl
  have f4 : w.frozen? ⟨G, 4, none⟩ = false := Joins.unfrozen_of_block hg _
  have f5 : w.frozen? ⟨G, 5, none⟩ = false := Joins.unfrozen_of_block hg _
  have hc' : ∀ v, (w.setCell ⟨R, 1, none⟩ v).cell? ⟨R, 3, none⟩ = some (.slice (some ⟨G, 0, none⟩) 1 1) := fun v => by go_simp
  have HI : Hid (Is w R G ca fo al ba co la) := h
  clear e1 e2 e3 hg h
  go_enter Try.func24, Try.ntmps24
  go_wp2_with (first
    | (go_at_call 27; refine (Try.strings_TrimPrefix _ _ _).mono ?_; rintro e w' ⟨rfl, rfl⟩)
    | (go_at_call 28; refine (top_any R G _ (hc' _)).mono ?_; rintro e w' ⟨rfl, n, rfl⟩))
  go_end0
  exact ⟨rfl, is_set15 HI.out _ _ _⟩

set_option maxHeartbeats 1000000 in
theorem rep_star_low (R G : Nat) (w : World) (ca fo : Bool) (al ba co la le mo : Int) (h : Is w R G ca fo al ba co la) (hl1 : 1 ≤ la) (hl2 : la ≤ 1073741824) (hc1 : 0 ≤ co) (hc2 : co ≤ 1073741824) (hco : co < 1073741824) (hm : mo < 0) (hle : le = 0) :
    Calls Try.prog 24 #[.pointer (some ⟨R, 0, none⟩), .int .i64 le, .int .i64 mo] w fun e w' => e = .returned (.tuple #[]) ∧ Is w' R G ca fo al ba (min (co - la + (min (max 1 (la + 2)) 1073741824)) 1073741824) (min (max 1 (la + 2)) 1073741824) ∧ Touch w w' R G := by
  subst hle
  obtain ⟨cs, s, e1, e2, e3⟩ := h.own
  have hg := h.grp
  have hne : R ≠ G := h.ne
  have hne' : G ≠ R := fun e => hne e.symm
  have hr : w.cell? ⟨R, 1, none⟩ = some (.string s) := by rw [Joins.cell_of_block e1]; exact e2
  have hf : w.frozen? ⟨R, 1, none⟩ = false := Joins.unfrozen_of_block e1 _
  have hc : w.cell? ⟨R, 3, none⟩ = some (.slice (some ⟨G, 0, none⟩) 1 1) := by rw [Joins.cell_of_block e1]; exact e3
  have c4 : w.cell? ⟨G, 4, none⟩ = some (.int .i64 co) := by rw [Joins.cell_of_block hg]; rfl
  have c5 : w.cell? ⟨G, 5, none⟩ = some (.int .i64 la) := by rw [Joins.cell_of_block hg]; rfl
  have f4 : w.frozen? ⟨G, 4, none⟩ = false := Joins.unfrozen_of_block hg _
  have f5 : w.frozen? ⟨G, 5, none⟩ = false := Joins.unfrozen_of_block hg _
  have hc' : ∀ v, (w.setCell ⟨R, 1, none⟩ v).cell? ⟨R, 3, none⟩ = some (.slice (some ⟨G, 0, none⟩) 1 1) := fun v => by go_simp
  have HI : Hid (Is w R G ca fo al ba co la) := h
  clear e1 e2 e3 hg h
  go_enter Try.func24, Try.ntmps24
  go_wp2_with (first
    | (go_at_call 27; refine (Try.strings_TrimPrefix _ _ _).mono ?_; rintro e w' ⟨rfl, rfl⟩)
    | (go_at_call 28; refine (top_any R G _ (hc' _)).mono ?_; rintro e w' ⟨rfl, n, rfl⟩))
  have hsz1 : 1 ≤ min (max 1 (la + 2)) 1073741824 := by omega
  have hsz2 : min (max 1 (la + 2)) 1073741824 ≤ 1073741824 := by omega
  obtain ⟨sz, hsz⟩ : ∃ sz, min (max 1 (la + 2)) 1073741824 = sz := ⟨_, rfl⟩
  rw [hsz] at hsz1 hsz2 ⊢
  have HSZ : Hid (min (max 1 (la + 2)) 1073741824 = sz) := hsz
  clear hsz
  go_region
  go_wp2
  go_end0
  rw [HSZ.out]
  exact ⟨rfl, is_set145 HI.out _ _ _ _⟩

set_option maxHeartbeats 1000000 in
theorem rep_star_full (R G : Nat) (w : World) (ca fo : Bool) (al ba co la le mo : Int) (h : Is w R G ca fo al ba co la) (hl1 : 1 ≤ la) (hl2 : la ≤ 1073741824) (hc1 : 0 ≤ co) (hc2 : co ≤ 1073741824) (hco : 1073741824 ≤ co) (hm : mo < 0) (hle : le = 0) :
    Calls Try.prog 24 #[.pointer (some ⟨R, 0, none⟩), .int .i64 le, .int .i64 mo] w fun e w' => e = .returned (.tuple #[]) ∧ Is w' R G ca fo al ba co (min (max 1 (la + 2)) 1073741824) ∧ Touch w w' R G := by
  subst hle
  obtain ⟨cs, s, e1, e2, e3⟩ := h.own
  have hg := h.grp
  have hne : R ≠ G := h.ne
  have hne' : G ≠ R := fun e => hne e.symm
  have hr : w.cell? ⟨R, 1, none⟩ = some (.string s) := by rw [Joins.cell_of_block e1]; exact e2
  have hf : w.frozen? ⟨R, 1, none⟩ = false := Joins.unfrozen_of_block e1 _
  have hc : w.cell? ⟨R, 3, none⟩ = some (.slice (some ⟨G, 0, none⟩) 1 1) := by rw [Joins.cell_of_block e1]; exact e3
  have c4 : w.cell? ⟨G, 4, none⟩ = some (.int .i64 co) := by rw [Joins.cell_of_block hg]; rfl
  have c5 : w.cell? ⟨G, 5, none⟩ = some (.int .i64 la) := by rw [Joins.cell_of_block hg]; rfl
  have f4 : w.frozen? ⟨G, 4, none⟩ = false := Joins.unfrozen_of_block hg _
  have f5 : w.frozen? ⟨G, 5, none⟩ = false := Joins.unfrozen_of_block hg _
  have hc' : ∀ v, (w.setCell ⟨R, 1, none⟩ v).cell? ⟨R, 3, none⟩ = some (.slice (some ⟨G, 0, none⟩) 1 1) := fun v => by go_simp
  have HI : Hid (Is w R G ca fo al ba co la) := h
  clear e1 e2 e3 hg h
  go_enter Try.func24, Try.ntmps24
  go_wp2_with (first
    | (go_at_call 27; refine (Try.strings_TrimPrefix _ _ _).mono ?_; rintro e w' ⟨rfl, rfl⟩)
    | (go_at_call 28; refine (top_any R G _ (hc' _)).mono ?_; rintro e w' ⟨rfl, n, rfl⟩))
  have hsz1 : 1 ≤ min (max 1 (la + 2)) 1073741824 := by omega
  have hsz2 : min (max 1 (la + 2)) 1073741824 ≤ 1073741824 := by omega
  obtain ⟨sz, hsz⟩ : ∃ sz, min (max 1 (la + 2)) 1073741824 = sz := ⟨_, rfl⟩
  rw [hsz] at hsz1 hsz2 ⊢
  have HSZ : Hid (min (max 1 (la + 2)) 1073741824 = sz) := hsz
  clear hsz
  go_end0
  exact ⟨rfl, is_set15 HI.out _ _ _⟩

set_option maxHeartbeats 1000000 in
theorem rep_plus_low (R G : Nat) (w : World) (ca fo : Bool) (al ba co la le mo : Int) (h : Is w R G ca fo al ba co la) (hl1 : 1 ≤ la) (hl2 : la ≤ 1073741824) (hc1 : 0 ≤ co) (hc2 : co ≤ 1073741824) (hco : co < 1073741824) (hm : mo < 0) (hle : 0 < le) (hle2 : le ≤ 4294967296) (hp1 : 0 ≤ le * la) (hp2 : le * la ≤ 4611686018427387904) :
    Calls Try.prog 24 #[.pointer (some ⟨R, 0, none⟩), .int .i64 le, .int .i64 mo] w fun e w' => e = .returned (.tuple #[]) ∧ Is w' R G ca fo al ba (min (co - la + (min (max 1 (le * la + 1)) 1073741824)) 1073741824) (min (max 1 (le * la + 1)) 1073741824) ∧ Touch w w' R G := by
  obtain ⟨cs, s, e1, e2, e3⟩ := h.own
  have hg := h.grp
  have hne : R ≠ G := h.ne
  have hne' : G ≠ R := fun e => hne e.symm
  have hr : w.cell? ⟨R, 1, none⟩ = some (.string s) := by rw [Joins.cell_of_block e1]; exact e2
  have hf : w.frozen? ⟨R, 1, none⟩ = false := Joins.unfrozen_of_block e1 _
  have hc : w.cell? ⟨R, 3, none⟩ = some (.slice (some ⟨G, 0, none⟩) 1 1) := by rw [Joins.cell_of_block e1]; exact e3
  have c4 : w.cell? ⟨G, 4, none⟩ = some (.int .i64 co) := by rw [Joins.cell_of_block hg]; rfl
  have c5 : w.cell? ⟨G, 5, none⟩ = some (.int .i64 la) := by rw [Joins.cell_of_block hg]; rfl
  have f4 : w.frozen? ⟨G, 4, none⟩ = false := Joins.unfrozen_of_block hg _
  have f5 : w.frozen? ⟨G, 5, none⟩ = false := Joins.unfrozen_of_block hg _
  have hc' : ∀ v, (w.setCell ⟨R, 1, none⟩ v).cell? ⟨R, 3, none⟩ = some (.slice (some ⟨G, 0, none⟩) 1 1) := fun v => by go_simp
  have HI : Hid (Is w R G ca fo al ba co la) := h
  clear e1 e2 e3 hg h
  go_enter Try.func24, Try.ntmps24
  go_wp2_with (first
    | (go_at_call 27; refine (Try.strings_TrimPrefix _ _ _).mono ?_; rintro e w' ⟨rfl, rfl⟩)
    | (go_at_call 28; refine (top_any R G _ (hc' _)).mono ?_; rintro e w' ⟨rfl, n, rfl⟩))
  have hsz1 : 1 ≤ min (max 1 (le * la + 1)) 1073741824 := by omega
  have hsz2 : min (max 1 (le * la + 1)) 1073741824 ≤ 1073741824 := by omega
  obtain ⟨sz, hsz⟩ : ∃ sz, min (max 1 (le * la + 1)) 1073741824 = sz := ⟨_, rfl⟩
  rw [hsz] at hsz1 hsz2 ⊢
  have HSZ : Hid (min (max 1 (le * la + 1)) 1073741824 = sz) := hsz
  clear hsz
  go_region
  go_wp2
  go_end0
  rw [HSZ.out]
  exact ⟨rfl, is_set145 HI.out _ _ _ _⟩

set_option maxHeartbeats 1000000 in
theorem rep_plus_full (R G : Nat) (w : World) (ca fo : Bool) (al ba co la le mo : Int) (h : Is w R G ca fo al ba co la) (hl1 : 1 ≤ la) (hl2 : la ≤ 1073741824) (hc1 : 0 ≤ co) (hc2 : co ≤ 1073741824) (hco : 1073741824 ≤ co) (hm : mo < 0) (hle : 0 < le) (hle2 : le ≤ 4294967296) (hp1 : 0 ≤ le * la) (hp2 : le * la ≤ 4611686018427387904) :
    Calls Try.prog 24 #[.pointer (some ⟨R, 0, none⟩), .int .i64 le, .int .i64 mo] w fun e w' => e = .returned (.tuple #[]) ∧ Is w' R G ca fo al ba co (min (max 1 (le * la + 1)) 1073741824) ∧ Touch w w' R G := by
  obtain ⟨cs, s, e1, e2, e3⟩ := h.own
  have hg := h.grp
  have hne : R ≠ G := h.ne
  have hne' : G ≠ R := fun e => hne e.symm
  have hr : w.cell? ⟨R, 1, none⟩ = some (.string s) := by rw [Joins.cell_of_block e1]; exact e2
  have hf : w.frozen? ⟨R, 1, none⟩ = false := Joins.unfrozen_of_block e1 _
  have hc : w.cell? ⟨R, 3, none⟩ = some (.slice (some ⟨G, 0, none⟩) 1 1) := by rw [Joins.cell_of_block e1]; exact e3
  have c4 : w.cell? ⟨G, 4, none⟩ = some (.int .i64 co) := by rw [Joins.cell_of_block hg]; rfl
  have c5 : w.cell? ⟨G, 5, none⟩ = some (.int .i64 la) := by rw [Joins.cell_of_block hg]; rfl
  have f4 : w.frozen? ⟨G, 4, none⟩ = false := Joins.unfrozen_of_block hg _
  have f5 : w.frozen? ⟨G, 5, none⟩ = false := Joins.unfrozen_of_block hg _
  have hc' : ∀ v, (w.setCell ⟨R, 1, none⟩ v).cell? ⟨R, 3, none⟩ = some (.slice (some ⟨G, 0, none⟩) 1 1) := fun v => by go_simp
  have HI : Hid (Is w R G ca fo al ba co la) := h
  clear e1 e2 e3 hg h
  go_enter Try.func24, Try.ntmps24
  go_wp2_with (first
    | (go_at_call 27; refine (Try.strings_TrimPrefix _ _ _).mono ?_; rintro e w' ⟨rfl, rfl⟩)
    | (go_at_call 28; refine (top_any R G _ (hc' _)).mono ?_; rintro e w' ⟨rfl, n, rfl⟩))
  have hsz1 : 1 ≤ min (max 1 (le * la + 1)) 1073741824 := by omega
  have hsz2 : min (max 1 (le * la + 1)) 1073741824 ≤ 1073741824 := by omega
  obtain ⟨sz, hsz⟩ : ∃ sz, min (max 1 (le * la + 1)) 1073741824 = sz := ⟨_, rfl⟩
  rw [hsz] at hsz1 hsz2 ⊢
  have HSZ : Hid (min (max 1 (le * la + 1)) 1073741824 = sz) := hsz
  clear hsz
  go_end0
  exact ⟨rfl, is_set15 HI.out _ _ _⟩

set_option maxHeartbeats 1000000 in
theorem rep_range_low (R G : Nat) (w : World) (ca fo : Bool) (al ba co la le mo : Int) (h : Is w R G ca fo al ba co la) (hl1 : 1 ≤ la) (hl2 : la ≤ 1073741824) (hc1 : 0 ≤ co) (hc2 : co ≤ 1073741824) (hco : co < 1073741824) (hm : 0 < mo) (hm2 : mo ≤ 4294967296) (hle1 : 0 ≤ le) (hle2 : le ≤ 4294967296) (hp1 : 0 ≤ mo * la) (hp2 : mo * la ≤ 4611686018427387904) :
    Calls Try.prog 24 #[.pointer (some ⟨R, 0, none⟩), .int .i64 le, .int .i64 mo] w fun e w' => e = .returned (.tuple #[]) ∧ Is w' R G ca fo al ba (min (co - la + (min (max 1 (mo * la + (mo - le))) 1073741824)) 1073741824) (min (max 1 (mo * la + (mo - le))) 1073741824) ∧ Touch w w' R G := by
  obtain ⟨cs, s, e1, e2, e3⟩ := h.own
  have hg := h.grp
  have hne : R ≠ G := h.ne
  have hne' : G ≠ R := fun e => hne e.symm
  have hr : w.cell? ⟨R, 1, none⟩ = some (.string s) := by rw [Joins.cell_of_block e1]; exact e2
  have hf : w.frozen? ⟨R, 1, none⟩ = false := Joins.unfrozen_of_block e1 _
  have hc : w.cell? ⟨R, 3, none⟩ = some (.slice (some ⟨G, 0, none⟩) 1 1) := by rw [Joins.cell_of_block e1]; exact e3
  have c4 : w.cell? ⟨G, 4, none⟩ = some (.int .i64 co) := by rw [Joins.cell_of_block hg]; rfl
  have c5 : w.cell? ⟨G, 5, none⟩ = some (.int .i64 la) := by rw [Joins.cell_of_block hg]; rfl
  have f4 : w.frozen? ⟨G, 4, none⟩ = false := Joins.unfrozen_of_block hg _
  have f5 : w.frozen? ⟨G, 5, none⟩ = false := Joins.unfrozen_of_block hg _
  have hc' : ∀ v, (w.setCell ⟨R, 1, none⟩ v).cell? ⟨R, 3, none⟩ = some (.slice (some ⟨G, 0, none⟩) 1 1) := fun v => by go_simp
  have HI : Hid (Is w R G ca fo al ba co la) := h
  clear e1 e2 e3 hg h
  go_enter Try.func24, Try.ntmps24
  go_wp2_with (first
    | (go_at_call 27; refine (Try.strings_TrimPrefix _ _ _).mono ?_; rintro e w' ⟨rfl, rfl⟩)
    | (go_at_call 28; refine (top_any R G _ (hc' _)).mono ?_; rintro e w' ⟨rfl, n, rfl⟩))
  have hsz1 : 1 ≤ min (max 1 (mo * la + (mo - le))) 1073741824 := by omega
  have hsz2 : min (max 1 (mo * la + (mo - le))) 1073741824 ≤ 1073741824 := by omega
  obtain ⟨sz, hsz⟩ : ∃ sz, min (max 1 (mo * la + (mo - le))) 1073741824 = sz := ⟨_, rfl⟩
  rw [hsz] at hsz1 hsz2 ⊢
  have HSZ : Hid (min (max 1 (mo * la + (mo - le))) 1073741824 = sz) := hsz
  clear hsz
  go_region
  go_wp2
  go_end0
  rw [HSZ.out]
  exact ⟨rfl, is_set145 HI.out _ _ _ _⟩

set_option maxHeartbeats 1000000 in
theorem rep_range_full (R G : Nat) (w : World) (ca fo : Bool) (al ba co la le mo : Int) (h : Is w R G ca fo al ba co la) (hl1 : 1 ≤ la) (hl2 : la ≤ 1073741824) (hc1 : 0 ≤ co) (hc2 : co ≤ 1073741824) (hco : 1073741824 ≤ co) (hm : 0 < mo) (hm2 : mo ≤ 4294967296) (hle1 : 0 ≤ le) (hle2 : le ≤ 4294967296) (hp1 : 0 ≤ mo * la) (hp2 : mo * la ≤ 4611686018427387904) :
    Calls Try.prog 24 #[.pointer (some ⟨R, 0, none⟩), .int .i64 le, .int .i64 mo] w fun e w' => e = .returned (.tuple #[]) ∧ Is w' R G ca fo al ba co (min (max 1 (mo * la + (mo - le))) 1073741824) ∧ Touch w w' R G := by
  obtain ⟨cs, s, e1, e2, e3⟩ := h.own
  have hg := h.grp
  have hne : R ≠ G := h.ne
  have hne' : G ≠ R := fun e => hne e.symm
  have hr : w.cell? ⟨R, 1, none⟩ = some (.string s) := by rw [Joins.cell_of_block e1]; exact e2
  have hf : w.frozen? ⟨R, 1, none⟩ = false := Joins.unfrozen_of_block e1 _
  have hc : w.cell? ⟨R, 3, none⟩ = some (.slice (some ⟨G, 0, none⟩) 1 1) := by rw [Joins.cell_of_block e1]; exact e3
  have c4 : w.cell? ⟨G, 4, none⟩ = some (.int .i64 co) := by rw [Joins.cell_of_block hg]; rfl
  have c5 : w.cell? ⟨G, 5, none⟩ = some (.int .i64 la) := by rw [Joins.cell_of_block hg]; rfl
  have f4 : w.frozen? ⟨G, 4, none⟩ = false := Joins.unfrozen_of_block hg _
  have f5 : w.frozen? ⟨G, 5, none⟩ = false := Joins.unfrozen_of_block hg _
  have hc' : ∀ v, (w.setCell ⟨R, 1, none⟩ v).cell? ⟨R, 3, none⟩ = some (.slice (some ⟨G, 0, none⟩) 1 1) := fun v => by go_simp
  have HI : Hid (Is w R G ca fo al ba co la) := h
  clear e1 e2 e3 hg h
  go_enter Try.func24, Try.ntmps24
  go_wp2_with (first
    | (go_at_call 27; refine (Try.strings_TrimPrefix _ _ _).mono ?_; rintro e w' ⟨rfl, rfl⟩)
    | (go_at_call 28; refine (top_any R G _ (hc' _)).mono ?_; rintro e w' ⟨rfl, n, rfl⟩))
  have hsz1 : 1 ≤ min (max 1 (mo * la + (mo - le))) 1073741824 := by omega
  have hsz2 : min (max 1 (mo * la + (mo - le))) 1073741824 ≤ 1073741824 := by omega
  obtain ⟨sz, hsz⟩ : ∃ sz, min (max 1 (mo * la + (mo - le))) 1073741824 = sz := ⟨_, rfl⟩
  rw [hsz] at hsz1 hsz2 ⊢
  have HSZ : Hid (min (max 1 (mo * la + (mo - le))) 1073741824 = sz) := hsz
  clear hsz
  go_end0
  exact ⟨rfl, is_set15 HI.out _ _ _⟩

/-- The item's new size. -/
def sz (le mo la : Int) : Int := min (max 1 (if mo = 0 then 1 else if mo < 0 then (if le = 0 then la + 2 else le * la + 1) else mo * la + (mo - le))) 1073741824
def repL (le mo la : Int) : Int := if la = 0 then 0 else sz le mo la
def repC (le mo co la : Int) : Int := if la = 0 then co else if co < 1073741824 then min (co - la + sz le mo la) 1073741824 else co

theorem mul_bd {a b : Int} (h1 : 0 ≤ a) (h2 : a ≤ 4294967296) (h3 : 0 ≤ b) (h4 : b ≤ 1073741824) : 0 ≤ a * b ∧ a * b ≤ 4611686018427387904 := by
  refine ⟨Int.mul_nonneg h1 h3, ?_⟩
  have := Int.mul_le_mul h2 h4 h3 (by decide)
  exact this

/-- (*reckoning).repeat. -/
theorem rep_any (R G : Nat) (w : World) (ca fo : Bool) (al ba co la le mo : Int) (h : Is w R G ca fo al ba co la) (hl1 : 0 ≤ la) (hl2 : la ≤ 1073741824) (hc1 : 0 ≤ co) (hc2 : co ≤ 1073741824) (hle1 : 0 ≤ le) (hle2 : le ≤ 4294967296) (hm2 : mo ≤ 4294967296) :
    Calls Try.prog 24 #[.pointer (some ⟨R, 0, none⟩), .int .i64 le, .int .i64 mo] w fun e w' => e = .returned (.tuple #[]) ∧ Is w' R G ca fo al ba (repC le mo co la) (repL le mo la) ∧ Touch w w' R G := by
  by_cases h0 : la = 0
  · subst h0
    exact rep_none R G w ca fo al ba co le mo h
  · have hL : repL le mo la = sz le mo la := if_neg h0
    rw [hL]
    by_cases hco : co < 1073741824
    · have hC : repC le mo co la = min (co - la + sz le mo la) 1073741824 := by unfold repC; rw [if_neg h0, if_pos hco]
      rw [hC]
      unfold sz
      by_cases m0 : mo = 0
      · rw [if_pos m0]
        exact rep_zero_low R G w ca fo al ba co la le mo h (by omega) hl2 hc1 hc2 hco m0
      · rw [if_neg m0]
        by_cases m1 : mo < 0
        · rw [if_pos m1]
          by_cases l0 : le = 0
          · rw [if_pos l0]
            exact rep_star_low R G w ca fo al ba co la le mo h (by omega) hl2 hc1 hc2 hco m1 l0
          · rw [if_neg l0]
            have hb := mul_bd hle1 hle2 hl1 hl2
            exact rep_plus_low R G w ca fo al ba co la le mo h (by omega) hl2 hc1 hc2 hco m1 (by omega) hle2 hb.1 hb.2
        · rw [if_neg m1]
          have hb := mul_bd (show 0 ≤ mo by omega) hm2 hl1 hl2
          exact rep_range_low R G w ca fo al ba co la le mo h (by omega) hl2 hc1 hc2 hco (by omega) hm2 hle1 hle2 hb.1 hb.2
    · have hC : repC le mo co la = co := by unfold repC; rw [if_neg h0, if_neg hco]
      rw [hC]
      unfold sz
      by_cases m0 : mo = 0
      · rw [if_pos m0]
        exact rep_zero_full R G w ca fo al ba co la le mo h (by omega) hl2 hc1 hc2 (by omega) m0
      · rw [if_neg m0]
        by_cases m1 : mo < 0
        · rw [if_pos m1]
          by_cases l0 : le = 0
          · rw [if_pos l0]
            exact rep_star_full R G w ca fo al ba co la le mo h (by omega) hl2 hc1 hc2 (by omega) m1 l0
          · rw [if_neg l0]
            have hb := mul_bd hle1 hle2 hl1 hl2
            exact rep_plus_full R G w ca fo al ba co la le mo h (by omega) hl2 hc1 hc2 (by omega) m1 (by omega) hle2 hb.1 hb.2
        · rw [if_neg m1]
          have hb := mul_bd (show 0 ≤ mo by omega) hm2 hl1 hl2
          exact rep_range_full R G w ca fo al ba co la le mo h (by omega) hl2 hc1 hc2 (by omega) (by omega) hm2 hle1 hle2 hb.1 hb.2

/-- ZZRepeat. -/
theorem zzrep_any (R G : Nat) (w : World) (ca fo : Bool) (al ba co la le mo : Int) (h : Is w R G ca fo al ba co la) (hl1 : 0 ≤ la) (hl2 : la ≤ 1073741824) (hc1 : 0 ≤ co) (hc2 : co ≤ 1073741824) (hle1 : 0 ≤ le) (hle2 : le ≤ 4294967296) (hm2 : mo ≤ 4294967296) :
    Calls Try.prog 9 #[.pointer (some ⟨R, 0, none⟩), .int .i64 le, .int .i64 mo] w fun e w' => e = .returned (.tuple #[]) ∧ Is w' R G ca fo al ba (repC le mo co la) (repL le mo la) ∧ Touch w w' R G := by
  have HI : Hid (Is w R G ca fo al ba co la) := h
  clear h
  go_enter Try.func9, Try.ntmps9
  go_wp2_with (go_at_call 24; refine (rep_any R G _ ca fo al ba co la le mo HI.out hl1 hl2 hc1 hc2 hle1 hle2 hm2).mono ?_; rintro e w' ⟨rfl, h1, h2⟩)
  go_end0
  exact ⟨rfl, h1, h2⟩

end Go.Proofs.Qxb6604798a.Rk
