/-
  THE WALKS OF registrationsOf AND ZZRegistrationsOf.
-/
import Derived.Test.Qxb6602989aMake
namespace Go.Proofs.Qxb6602989a.Rg
open Go.RowKit

theorem info2 : (Try.prog.info? 2).map (fun i => (i.zero, i.size, i.bytes)) = some (some (.int .i64 0), 1, 8) := by kernel_rfl

theorem one_new (w : World) (x : Value) (t : TypeId) (m : Nat) (hm : m = w.heap.size) : ∀ j u, [x][j]? = some u → (w.alloc (.cells #[x] t)).cell? ((⟨m, 0, none⟩ : Addr).add j) = some u := by
  subst hm
  exact cell_one_new w x t

theorem one_int (x : Int) : ∀ u ∈ [Value.int .i64 x], u.oneCell' = true := by
  intro u hu
  simp at hu
  subst hu
  rfl

theorem le_alloc2 {B : Nat} {w : World} (h : B ≤ w.heap.size) (o o' : Obj) : B ≤ ((w.alloc o).alloc o').heap.size := by simp; omega

/-- One id more. -/
theorem push_id {B : Nat} {W wx w1 : World} {v v' : Value} {xs : List Int} {o o' : Obj} (x : Int) (hB : B ≤ wx.heap.size) (hb : Below B W wx) (hown : wx.ownsRow B 2 1 v xs.length (xs.map (Value.int .i64)))
    (ho : w1.ownsRow B 2 1 v' (xs.length + 1) (xs.map (Value.int .i64) ++ [.int .i64 x])) (hg : ((wx.alloc o).alloc o').grownBy w1 v.ownBlock) :
    w1.ownsRow B 2 1 v' (xs ++ [x]).length ((xs ++ [x]).map (Value.int .i64)) ∧ Below B W w1 := by
  refine ⟨by simpa using ho, ?_⟩
  refine ((hb.alloc hB o).alloc (by simp; omega) o').grown hg (by simp; omega) ?_
  intro k hk
  exact (hown.lt k hk).1

set_option maxHeartbeats 1000000 in
theorem find_any (s : ByteArray) (g n c B0 : Nat) (xs : List Value) (Z : Nat → Int) (N : Nat → ByteArray) (B : Nat → Bool) (w : World) (hn : n ≤ 4096)
    (hown : w.ownsRow B0 45 3 (.slice (some ⟨g, 0, none⟩) n c) n xs) (hL : Laid xs Z N B n) :
    Calls Try.prog 20 #[.string s, .slice (some ⟨g, 0, none⟩) n c] w fun e w' => ∃ v, e = .returned v ∧ w'.ownsRow w.heap.size 2 1 v (got s N Z n).length ((got s N Z n).map (Value.int .i64)) ∧ (got s N Z n = [] → v = .slice none 0 0) ∧ Below w.heap.size w w' := by
  obtain ⟨i0, hi, hz0, hz1, hz2⟩ := info_parts info2
  have hgl : g < w.heap.size := (hown.lt g rfl).2
  have HC : Hid (∀ j, j < n → w.cell? ⟨g, j * 3, none⟩ = some (.int .i64 (Z j)) ∧ w.cell? ⟨g, j * 3 + 1, none⟩ = some (.string (N j)) ∧ w.cell? ⟨g, j * 3 + 2, none⟩ = some (.bool (B j))) := fun j hj => by
    obtain ⟨h1, h2, h3⟩ := hL j hj
    exact ⟨by rw [hown.cellAt (j * 3) (by omega)]; exact h1, by rw [hown.cellAt (j * 3 + 1) (by omega)]; exact h2, by rw [hown.cellAt (j * 3 + 2) (by omega)]; exact h3⟩
  clear hown hL
  go_enter Try.func20, Try.ntmps20
  go_wp2
  go_loopw [5, 10] (fun v i wr => ∃ k : Nat, k ≤ n ∧ i = .int .i64 k ∧ wr.ownsRow w.heap.size 2 1 v (got s N Z k).length ((got s N Z k).map (Value.int .i64)) ∧ Hid (got s N Z k = [] → v = .slice none 0 0) ∧ Below w.heap.size w wr) (fun _ i _ => n - (intOf i).toNat)
  case atStart => exact ⟨0, Nat.zero_le _, rfl, World.ownsRow_nil _ _ _ _, fun _ => rfl, Below.refl _ _⟩
  case round =>
    obtain ⟨k, hk, rfl, hv, HV, hb⟩ := hrel
    by_cases hlt : k < n
    · obtain ⟨r0, r1, r2⟩ := HC.out k hlt
      have q0 := (hb.cell (p := ⟨g, k * 3, none⟩) hgl).trans r0
      have q1 := (hb.cell (p := ⟨g, k * 3 + 1, none⟩) hgl).trans r1
      have q2 := (hb.cell (p := ⟨g, k * 3 + 2, none⟩) hgl).trans r2
      clear r0 r1 r2
      have hle := got_le (s := s) (N := N) (Z := Z) k
      have hB : w.heap.size ≤ wr.heap.size := hb.size
      cases hh : hit s N k with
      | true =>
        have hx : ((N k).toList == s.toList) = true := hh
        have HG : Hid (got s N Z (k + 1) = got s N Z k ++ [Z k]) := got_hit hh
        clear hh
        generalize N k = X at q1 hx
        generalize Z k = z at q0 HG
        generalize B k = y at q2
        go_wp2_with (at_builtin; refine wpList_append_own _ rfl (.tmp 18) (.tmp 21) 22 rfl w.heap.size 2 i0 (.int .i64 0) 1 8 Try.underlying22 hi hz0 hz1 hz2 rfl (by decide) _ _ _ rfl ((hv.alloc _).alloc _) ⟨wr.heap.size + 1, 0, none⟩ 1 1 [.int .i64 z] rfl rfl (one_new _ _ _ _ (by simp)) (one_int _) (by unfold maxLen; omega) (by omega) (le_alloc2 hB _ _) ?_; intro v1 w1 ho1 hg1 _; have hp := push_id z hB hb hv ho1 hg1; clear ho1 hg1)
        go_roundw
        case rel => exact ⟨k + 1, by omega, by go_num, by rw [HG.out]; exact hp.1, fun h => absurd h (by rw [HG.out]; simp), hp.2⟩
        case measure => simp [intOf]; omega
      | false =>
        have hx : ((N k).toList == s.toList) = false := hh
        have HG : Hid (got s N Z (k + 1) = got s N Z k) := got_miss hh
        clear hh
        generalize N k = X at q1 hx
        generalize Z k = z at q0
        generalize B k = y at q2
        go_wp2
        go_roundw
        case rel => exact ⟨k + 1, by omega, by go_num, by rw [HG.out]; exact hv.alloc _, by rw [HG.out]; exact HV, hb.alloc hB _⟩
        case measure => simp [intOf]; omega
    · have hkn : k = n := by omega
      subst hkn
      go_wp2
      go_ret
      exact ⟨_, rfl, hv, HV.out, hb⟩

theorem zzfind_any (s : ByteArray) (g n c B0 : Nat) (xs : List Value) (Z : Nat → Int) (N : Nat → ByteArray) (B : Nat → Bool) (w : World) (hn : n ≤ 4096)
    (hown : w.ownsRow B0 45 3 (.slice (some ⟨g, 0, none⟩) n c) n xs) (hL : Laid xs Z N B n) :
    Calls Try.prog 17 #[.string s, .slice (some ⟨g, 0, none⟩) n c] w fun e w' => ∃ v, e = .returned v ∧ w'.ownsRow w.heap.size 2 1 v (got s N Z n).length ((got s N Z n).map (Value.int .i64)) ∧ (got s N Z n = [] → v = .slice none 0 0) ∧ Below w.heap.size w w' := by
  have HO : Hid (w.ownsRow B0 45 3 (.slice (some ⟨g, 0, none⟩) n c) n xs) := hown
  have HL : Hid (Laid xs Z N B n) := hL
  clear hown hL
  go_enter Try.func17, Try.ntmps17
  go_wp2_with (go_at_call 20; refine (find_any s g n c B0 xs Z N B _ hn HO.out HL.out).mono ?_; rintro e w1 ⟨v, rfl, h1, h2, h3⟩)
  go_ret
  exact ⟨_, rfl, h1, h2, h3⟩

/-- What is found, where nothing bears the name and where something does. -/
theorem zzfind_none (s : ByteArray) (g n c B0 : Nat) (xs : List Value) (Z : Nat → Int) (N : Nat → ByteArray) (B : Nat → Bool) (w : World) (hn : n ≤ 4096)
    (hown : w.ownsRow B0 45 3 (.slice (some ⟨g, 0, none⟩) n c) n xs) (hL : Laid xs Z N B n) (h0 : got s N Z n = []) :
    Calls Try.prog 17 #[.string s, .slice (some ⟨g, 0, none⟩) n c] w fun e w' => e = .returned (.slice none 0 0) ∧ Below w.heap.size w w' := by
  refine (zzfind_any s g n c B0 xs Z N B w hn hown hL).mono ?_
  rintro e w' ⟨v, rfl, _, h2, h3⟩
  rw [h2 h0]
  exact ⟨rfl, h3⟩

theorem zzfind_some (s : ByteArray) (g n c B0 L : Nat) (xs : List Value) (Z : Nat → Int) (N : Nat → ByteArray) (B : Nat → Bool) (w : World) (hn : n ≤ 4096)
    (hown : w.ownsRow B0 45 3 (.slice (some ⟨g, 0, none⟩) n c) n xs) (hL : Laid xs Z N B n) (hl : (got s N Z n).length = L) (h0 : 0 < L) :
    Calls Try.prog 17 #[.string s, .slice (some ⟨g, 0, none⟩) n c] w fun e w' => ∃ gv cv, e = .returned (.slice (some ⟨gv, 0, none⟩) L cv) ∧ gv < w'.heap.size ∧ (∀ j x, (got s N Z n)[j]? = some x → w'.cell? ⟨gv, j, none⟩ = some (.int .i64 x)) ∧ Below w.heap.size w w' := by
  refine (zzfind_any s g n c B0 xs Z N B w hn hown hL).mono ?_
  rintro e w' ⟨v, rfl, h1, _, h3⟩
  rw [hl] at h1
  have hlt := h1.lt
  rcases h1.2 with ⟨_, h4⟩ | ⟨gv, cap, cur, hv, _⟩
  · omega
  · subst hv
    refine ⟨gv, cap, rfl, (hlt gv rfl).2, ?_, h3⟩
    intro j x hx
    have hj := (List.getElem?_eq_some_iff.1 hx).1
    rw [h1.cellAt j (by omega), List.getElem?_map, hx]
    rfl

end Go.Proofs.Qxb6602989a.Rg
