/-
  THE WALK OF zzMakeRegs_b1: a row of the call's own, three cells a registration.
-/
import Derived.Test.Qxb6602989aRegs
namespace Go.Proofs.Qxb6602989a.Rg
open Go.RowKit

theorem info45 : (Try.prog.info? 45).map (fun i => (i.zero, i.size, i.bytes)) = some (some (.agg #[.int .i64 0, .string ByteArray.empty, .bool false]), 3, 32) := by kernel_rfl

/-- The first k registrations lie in the cells xs. -/
def Laid (xs : List Value) (Z : Nat → Int) (N : Nat → ByteArray) (B : Nat → Bool) (k : Nat) : Prop :=
  ∀ j, j < k → xs[j * 3]? = some (.int .i64 (Z j)) ∧ xs[j * 3 + 1]? = some (.string (N j)) ∧ xs[j * 3 + 2]? = some (.bool (B j))

theorem laid_step {w wr : World} {xs : List Value} {Z : Nat → Int} {N : Nat → ByteArray} {B : Nat → Bool} {k n g c : Nat} (hg : w.heap.size ≤ g) (hown : wr.ownsRow w.heap.size 45 3 (.slice (some ⟨g, 0, none⟩) n c) n xs) (hL : Laid xs Z N B k) (hb : Below w.heap.size w wr) (hlt : k < n) :
    ∃ ys, (((wr.setCell ⟨g, k * 3, none⟩ (.int .i64 (Z k))).setCell ⟨g, k * 3 + 1, none⟩ (.string (N k))).setCell ⟨g, k * 3 + 2, none⟩ (.bool (B k))).drew.ownsRow w.heap.size 45 3 (.slice (some ⟨g, 0, none⟩) n c) n ys ∧ Laid ys Z N B (k + 1) ∧
      Below w.heap.size w (((wr.setCell ⟨g, k * 3, none⟩ (.int .i64 (Z k))).setCell ⟨g, k * 3 + 1, none⟩ (.string (N k))).setCell ⟨g, k * 3 + 2, none⟩ (.bool (B k))).drew := by
  have hl : xs.length = n * 3 := hown.1
  refine ⟨((xs.set (k * 3) (.int .i64 (Z k))).set (k * 3 + 1) (.string (N k))).set (k * 3 + 2) (.bool (B k)), ?_, ?_, ?_⟩
  · exact ((((hown.stored (k * 3) _).1).stored (k * 3 + 1) _).1.stored (k * 3 + 2) _).1.drew
  · intro j hj
    by_cases e : j = k
    · subst e
      refine ⟨?_, ?_, ?_⟩
      · rw [List.getElem?_set_ne (by omega), List.getElem?_set_ne (by omega), List.getElem?_set_self (by omega)]
      · rw [List.getElem?_set_ne (by omega), List.getElem?_set_self (by simp; omega)]
      · rw [List.getElem?_set_self (by simp; omega)]
    · obtain ⟨h1, h2, h3⟩ := hL j (by omega)
      refine ⟨?_, ?_, ?_⟩
      · rw [List.getElem?_set_ne (by omega), List.getElem?_set_ne (by omega), List.getElem?_set_ne (by omega)]; exact h1
      · rw [List.getElem?_set_ne (by omega), List.getElem?_set_ne (by omega), List.getElem?_set_ne (by omega)]; exact h2
      · rw [List.getElem?_set_ne (by omega), List.getElem?_set_ne (by omega), List.getElem?_set_ne (by omega)]; exact h3
  · exact (((hb.setCell hg _).setCell hg _).setCell hg _).drew

set_option maxHeartbeats 1000000 in
theorem make_any (a1 a2 a3 : Option Addr) (n c1 c2 c3 : Nat) (Z : Nat → Int) (N : Nat → ByteArray) (B : Nat → Bool) (w : World) (hn : n ≤ 4096)
    (h1 : Row w a1 n fun j => .int .i64 (Z j)) (h2 : Row w a2 n fun j => .string (N j)) (h3 : Row w a3 n fun j => .bool (B j)) :
    Calls Try.prog 16 #[.slice a1 n c1, .slice a2 n c2, .slice a3 n c3] w fun e w' => ∃ g xs, e = .returned (.slice (some ⟨g, 0, none⟩) n n) ∧ w'.ownsRow w.heap.size 45 3 (.slice (some ⟨g, 0, none⟩) n n) n xs ∧ Laid xs Z N B n ∧ Below w.heap.size w w' := by
  obtain ⟨i0, hi, hz0, hz1, hz2⟩ := info_parts info45
  have H1 : Hid (Row w a1 n fun j => .int .i64 (Z j)) := h1
  have H2 : Hid (Row w a2 n fun j => .string (N j)) := h2
  have H3 : Hid (Row w a3 n fun j => .bool (B j)) := h3
  clear h1 h2 h3
  go_enter Try.func16, Try.ntmps16
  go_wp2_with (refine wpList_make_full _ rfl (.tmp 12) (.tmp 12) 36 rfl w.heap.size 45 i0 _ 3 Try.underlying36 hi hz0 hz1 .i64 .i64 _ _ n rfl rfl rfl rfl (by rw [hz2]; omega) (by unfold maxLen; omega) (Nat.le_refl _) ?_; intro w1 ho1 hg1)
  go_loopw [9] (fun i wr => ∃ (k : Nat) (xs : List Value), k ≤ n ∧ i = .int .i64 k ∧ wr.ownsRow w.heap.size 45 3 (.slice (some ⟨w.heap.size, 0, none⟩) n n) n xs ∧ Laid xs Z N B k ∧ Below w.heap.size w wr) (fun i _ => n - (intOf i).toNat)
  case atStart => exact ⟨0, _, Nat.zero_le _, rfl, ho1, fun j hj => by omega, (Below.refl _ _).grown hg1 (Nat.le_refl _) (fun k hk => by cases hk)⟩
  case round =>
    obtain ⟨k, xs, hk, rfl, hown, hL, hb⟩ := hrel
    by_cases hlt : k < n
    · obtain ⟨b1, o1, rfl, hb1, hc1⟩ := H1.out (by omega)
      obtain ⟨b2, o2, rfl, hb2, hc2⟩ := H2.out (by omega)
      obtain ⟨b3, o3, rfl, hb3, hc3⟩ := H3.out (by omega)
      have e1 : wr.cell? ⟨b1, o1 + k, none⟩ = some (.int .i64 (Z k)) := (hb.cell (p := ⟨b1, o1 + k, none⟩) hb1).trans (hc1 k hlt)
      have e2 : wr.cell? ⟨b2, o2 + k, none⟩ = some (.string (N k)) := (hb.cell (p := ⟨b2, o2 + k, none⟩) hb2).trans (hc2 k hlt)
      have e3 : wr.cell? ⟨b3, o3 + k, none⟩ = some (.bool (B k)) := (hb.cell (p := ⟨b3, o3 + k, none⟩) hb3).trans (hc3 k hlt)
      clear hc1 hc2 hc3
      have hxl : xs.length = n * 3 := hown.1
      obtain ⟨u0, hu0⟩ : ∃ u, xs[k * 3]? = some u := ⟨_, List.getElem?_eq_getElem (by omega)⟩
      obtain ⟨u1, hu1⟩ : ∃ u, xs[k * 3 + 1]? = some u := ⟨_, List.getElem?_eq_getElem (by omega)⟩
      obtain ⟨u2, hu2⟩ : ∃ u, xs[k * 3 + 2]? = some u := ⟨_, List.getElem?_eq_getElem (by omega)⟩
      have q0 : wr.cell? ⟨w.heap.size, k * 3, none⟩ = some u0 := by rw [hown.cellAt (k * 3) (by omega)]; exact hu0
      have q1 : wr.cell? ⟨w.heap.size, k * 3 + 1, none⟩ = some u1 := by rw [hown.cellAt (k * 3 + 1) (by omega)]; exact hu1
      have q2 : wr.cell? ⟨w.heap.size, k * 3 + 2, none⟩ = some u2 := by rw [hown.cellAt (k * 3 + 2) (by omega)]; exact hu2
      have f0 : wr.frozen? ⟨w.heap.size, k * 3, none⟩ = false := hown.frozenAt _
      have f1 : wr.frozen? ⟨w.heap.size, k * 3 + 1, none⟩ = false := hown.frozenAt _
      have f2 : wr.frozen? ⟨w.heap.size, k * 3 + 2, none⟩ = false := hown.frozenAt _
      clear hxl hu0 hu1 hu2
      go_wp2
      go_region
      go_wp2
      go_roundw
      case rel =>
        obtain ⟨ys, g1, g2, g3⟩ := laid_step (Nat.le_refl _) hown hL hb hlt
        exact ⟨k + 1, ys, by omega, by go_num, g1, g2, g3⟩
      case measure => simp [intOf]; omega
    · have hkn : k = n := by omega
      subst hkn
      go_wp2
      go_ret
      exact ⟨_, xs, rfl, hown, hL, hb⟩

end Go.Proofs.Qxb6602989a.Rg
