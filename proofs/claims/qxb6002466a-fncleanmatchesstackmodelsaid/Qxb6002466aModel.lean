/-
  THE WALK OF zzModelClean: it returns 'Pl.model' of the name's bytes; what lay in memory before the call is as it was.
-/
import Derived.Test.Qxb6002466aChecked
import Derived.Test.Qxb6002466aMem
namespace Go.Proofs.Qxb6002466a.Pl
open Go.RowKit

theorem info3 : (Try.prog.info? 3).map (fun i => (i.zero, i.size, i.bytes)) = some (some (.int .i64 0), 1, 8) := by kernel_rfl
theorem info5 : (Try.prog.info? 5).map (fun i => (i.zero, i.size, i.bytes)) = some (some (.int .u8 0), 1, 1) := by kernel_rfl

/-- A byte, as the walk tests it and as the list has it. -/
theorem byte_yes {s : ByteArray} {k : Nat} (h : k < s.size) (c : UInt8) (e : s.data.toList[k]? = some c) : ((s[k].toNat : Int) == (c.toNat : Int)) = true := by
  rw [Lib.Pa.beq_lit]
  rw [Lib.Pa.at_eq s k h] at e
  simpa using e
theorem byte_no {s : ByteArray} {k : Nat} (h : k < s.size) (c : UInt8) (e : s.data.toList[k]? ≠ some c) : ((s[k].toNat : Int) == (c.toNat : Int)) = false := by
  rw [Lib.Pa.beq_lit]
  rw [Lib.Pa.at_eq s k h] at e
  simpa using e
theorem byte_ne {s : ByteArray} {k : Nat} (h : k < s.size) (c : UInt8) (e : s.data.toList[k]? ≠ some c) : ((s[k].toNat : Int) != (c.toNat : Int)) = true := by
  unfold bne; rw [byte_no h c e]; rfl
theorem byte_nn {s : ByteArray} {k : Nat} (h : k < s.size) (c : UInt8) (e : s.data.toList[k]? = some c) : ((s[k].toNat : Int) != (c.toNat : Int)) = false := by
  unfold bne; rw [byte_yes h c e]; rfl

theorem ret_str {a b : ByteArray} (h : a = b) : Ending.returned (.string a) = .returned (.string b) := by rw [h]

theorem Run.stop47 {s : ByteArray} {i j : Nat} (h : Run s.data.toList i j) (hj : j < s.size) : s.data.toList[j]? = some 47 := by
  rcases h.stop with e | e
  · rw [Lib.size_eq] at hj
    omega
  · exact e

/-- What the element is: '.', '..', or one to be kept, in the tests' own order. -/
def Kind (s : ByteArray) (k j : Nat) : Prop :=
  (j ≤ k + 1 ∧ s.data.toList[k]? = some 46) ∨ (k + 2 ≤ j ∧ j ≤ k + 2 ∧ s.data.toList[k]? = some 46 ∧ s.data.toList[k + 1]? = some 46) ∨
  (j ≤ k + 1 ∧ s.data.toList[k]? ≠ some 46) ∨ (k + 2 ≤ j ∧ j ≤ k + 2 ∧ s.data.toList[k]? ≠ some 46) ∨ (k + 2 ≤ j ∧ j ≤ k + 2 ∧ s.data.toList[k]? = some 46 ∧ s.data.toList[k + 1]? ≠ some 46) ∨ k + 3 ≤ j

theorem kind_any (s : ByteArray) (k j : Nat) (_ : k < j) : Kind s k j := by
  unfold Kind
  by_cases h0 : s.data.toList[k]? = some 46 <;> by_cases h1 : s.data.toList[k + 1]? = some 46 <;> simp only [h0, h1, and_true, not_true, not_false_eq_true, ne_eq, and_false, false_or] <;> omega

set_option maxHeartbeats 1600000 in
set_option maxRecDepth 100000 in
theorem model_any (s : ByteArray) (w : World) (hs : s.size ≤ 65536) :
    Calls Try.prog 27 #[.string s] w fun e w' => e = .returned (.string ⟨(model s.data.toList).toArray⟩) ∧ Below w.heap.size w w' := by
  obtain ⟨i0, hi, hz0, hz1, hz2⟩ := info_parts info3
  go_enter Try.func27, Try.ntmps27
  go_wp2
  go_loopw [3, 4, 5] (fun vs ve i wr => ∃ (k : Nat) (ps : List (Nat × Nat)), i = .int .i64 k ∧ Rel s.data.toList k ps ∧ Mem w.heap.size w wr vs ve ps ps)
    (fun _ _ i _ => s.size - (intOf i).toNat)
  case atStart => exact ⟨0, [], rfl, rel_start _, mem_start w⟩
  case round =>
    obtain ⟨k, ps, rfl, hR, hmem⟩ := hrel
    obtain ⟨n, aS, cS, aE, cE, hn, rfl, rfl⟩ := hmem.forms
    have hsz := Lib.size_eq s
    have hk : k ≤ s.size := by have := hR.le; omega
    have hpk : n ≤ k := by have := hR.cnt; omega
    have HN : Hid (ps.length = n) := hn
    clear hn
    by_cases hlt : k < s.size
    · by_cases h47 : s.data.toList[k]? = some 47
      · have hb : ((s[k].toNat : Int) == 47) = true := byte_yes hlt 47 h47
        clear hsz
        go_wp2
        go_roundw
        case rel => exact ⟨k + 1, ps, by go_num, hR.slash h47, hmem⟩
        case measure => simp [intOf]; omega
      · have hb : ((s[k].toNat : Int) == 47) = false := byte_no hlt 47 h47
        obtain ⟨j, hrun⟩ := run_ex s.data.toList _ k rfl (by omega) h47
        have hkj : k < j := hrun.lt
        have hjs : j ≤ s.size := by have := hrun.le; omega
        have HK : Hid (Kind s k j) := kind_any s k j hkj
        clear hsz
        go_wp2
        go_loop [6] (fun x => ∃ m : Nat, k ≤ m ∧ m ≤ j ∧ x = .int .i64 m) (fun x => j - (intOf x).toNat)
        case atStart => exact ⟨k, Nat.le_refl _, by omega, rfl⟩
        case round =>
          obtain ⟨m, hkm, hmj, rfl⟩ := hrel
          by_cases hm : m < j
          · have hms : m < s.size := by omega
            have hbm : ((s[m].toNat : Int) != 47) = true := byte_ne hms 47 (hrun.no m hkm hm)
            clear HK
            go_wp2
            go_round
            case rel => exact ⟨m + 1, by omega, by omega, by go_num⟩
            case measure => simp [intOf]; omega
          · have hmj' : m = j := by omega
            subst hmj'
            have hstop : ∀ h : m < s.size, ((s[m].toNat : Int) != 47) = false := fun h => byte_nn h 47 (hrun.stop47 h)
            have hK := HK.out
            clear HK
            rcases hK with ⟨h1, h2⟩ | ⟨h1, h2, h3, h4⟩ | hpush
            · have hb0 : ((s[k].toNat : Int) == 46) = true := byte_yes hlt 46 h2
              by_cases hje : m < s.size
              · have hbm := hstop hje
                clear hstop
                go_wp2
                go_roundw
                case rel => exact ⟨m, ps, rfl, hR.dot hrun (by omega) h2, hmem⟩
                case measure => simp [intOf]; omega
              · clear hstop
                go_wp2
                go_roundw
                case rel => exact ⟨m, ps, rfl, hR.dot hrun (by omega) h2, hmem⟩
                case measure => simp [intOf]; omega
            · have hb0 : ((s[k].toNat : Int) == 46) = true := byte_yes hlt 46 h3
              have hlt1 : k + 1 < s.size := by omega
              have hb1 : ((s[k + 1].toNat : Int) == 46) = true := byte_yes hlt1 46 h4
              rcases List.eq_nil_or_concat ps with rfl | ⟨qs, p, rfl⟩
              · have h0 := HN.out
                simp only [List.length_nil] at h0
                subst h0
                clear HN
                by_cases hje : m < s.size
                · have hbm := hstop hje
                  clear hstop
                  go_wp2
                  go_roundw
                  case rel => exact ⟨m, [], rfl, hR.up hrun (by omega) h3 h4, hmem⟩
                  case measure => simp [intOf]; omega
                · clear hstop
                  go_wp2
                  go_roundw
                  case rel => exact ⟨m, [], rfl, hR.up hrun (by omega) h3 h4, hmem⟩
                  case measure => simp [intOf]; omega
              · have h0 := HN.out
                simp only [List.concat_eq_append, List.length_append, List.length_cons, List.length_nil, Nat.zero_add] at h0 hR hmem
                subst h0
                obtain ⟨gS, gE, rfl, rfl, hcS, hcE, -⟩ := hmem.cells (by simp)
                have hpop := hmem.pop rfl rfl
                clear HN
                by_cases hje : m < s.size
                · have hbm := hstop hje
                  clear hstop
                  go_wp2
                  go_roundw
                  case rel => exact ⟨m, qs, rfl, hR.pop hrun (by omega) h3 h4, hpop⟩
                  case measure => simp [intOf]; omega
                · clear hstop
                  go_wp2
                  go_roundw
                  case rel => exact ⟨m, qs, rfl, hR.pop hrun (by omega) h3 h4, hpop⟩
                  case measure => simp [intOf]; omega
            · have hc3 : ps.length + 1 ≤ maxLen := by have := HN.out; unfold maxLen; omega
              have hc4 : (ps.length + 1) * 8 ≤ 140737488355328 := by have := HN.out; omega
              have hB : w.heap.size ≤ wr.heap.size := hmem.size
              clear HN
              rcases hpush with ⟨h1, h2⟩ | ⟨h1, h2, h3⟩ | ⟨h1, h2, h3, h4⟩ | h1
              · have hP := hR.push hrun (fun h => h2 h.2) (fun h => h2 h.2.1)
                have hb0 : ((s[k].toNat : Int) == 46) = false := byte_no hlt 46 h2
                by_cases hje : m < s.size
                · have hbm := hstop hje
                  clear hstop
                  go_wp2_with (first
                    | (at_builtin; refine wpList_append_own_at _ rfl (.tmp 78) (.tmp 80) 40 rfl w.heap.size 3 i0 (.int .i64 0) 1 8 Try.underlying40 hi hz0 hz1 hz2 rfl (by decide) _ _ _ rfl (hmem.s.alloc _) ⟨wr.heap.size, 0, none⟩ 1 1 [.int .i64 k] rfl rfl (cell_one_new _ _ _) (one_cell _ _) hc3 hc4 (le_alloc hB _) ?_; intro v1 w1 ho1 hg1 _ hat1; have hm1 := hmem.pushS (Nat.le_refl _) (k, m) ho1 hg1 hat1; have hB1 := hm1.below.size; clear ho1 hg1 hat1)
                    | (at_builtin; refine wpList_append_own_at _ rfl (.tmp 82) (.tmp 84) 40 rfl w.heap.size 3 i0 (.int .i64 0) 1 8 Try.underlying40 hi hz0 hz1 hz2 rfl (by decide) _ _ _ rfl (hm1.e.alloc _) ⟨w1.heap.size, 0, none⟩ 1 1 [.int .i64 m] rfl rfl (cell_one_new _ _ _) (one_cell _ _) hc3 hc4 (le_alloc hB1 _) ?_; intro v2 w2 ho2 hg2 _ hat2; have hm2 := hm1.pushE (Nat.le_refl _) (k, m) ho2 hg2 hat2; clear ho2 hg2 hat2))
                  go_roundw
                  case rel => exact ⟨m, ps ++ [(k, m)], rfl, hP, hm2⟩
                  case measure => simp [intOf]; omega
                · clear hstop
                  go_wp2_with (first
                    | (at_builtin; refine wpList_append_own_at _ rfl (.tmp 78) (.tmp 80) 40 rfl w.heap.size 3 i0 (.int .i64 0) 1 8 Try.underlying40 hi hz0 hz1 hz2 rfl (by decide) _ _ _ rfl (hmem.s.alloc _) ⟨wr.heap.size, 0, none⟩ 1 1 [.int .i64 k] rfl rfl (cell_one_new _ _ _) (one_cell _ _) hc3 hc4 (le_alloc hB _) ?_; intro v1 w1 ho1 hg1 _ hat1; have hm1 := hmem.pushS (Nat.le_refl _) (k, m) ho1 hg1 hat1; have hB1 := hm1.below.size; clear ho1 hg1 hat1)
                    | (at_builtin; refine wpList_append_own_at _ rfl (.tmp 82) (.tmp 84) 40 rfl w.heap.size 3 i0 (.int .i64 0) 1 8 Try.underlying40 hi hz0 hz1 hz2 rfl (by decide) _ _ _ rfl (hm1.e.alloc _) ⟨w1.heap.size, 0, none⟩ 1 1 [.int .i64 m] rfl rfl (cell_one_new _ _ _) (one_cell _ _) hc3 hc4 (le_alloc hB1 _) ?_; intro v2 w2 ho2 hg2 _ hat2; have hm2 := hm1.pushE (Nat.le_refl _) (k, m) ho2 hg2 hat2; clear ho2 hg2 hat2))
                  go_roundw
                  case rel => exact ⟨m, ps ++ [(k, m)], rfl, hP, hm2⟩
                  case measure => simp [intOf]; omega
              · have hP := hR.push hrun (fun h => h3 h.2) (fun h => h3 h.2.1)
                have hb0 : ((s[k].toNat : Int) == 46) = false := byte_no hlt 46 h3
                by_cases hje : m < s.size
                · have hbm := hstop hje
                  clear hstop
                  go_wp2_with (first
                    | (at_builtin; refine wpList_append_own_at _ rfl (.tmp 78) (.tmp 80) 40 rfl w.heap.size 3 i0 (.int .i64 0) 1 8 Try.underlying40 hi hz0 hz1 hz2 rfl (by decide) _ _ _ rfl (hmem.s.alloc _) ⟨wr.heap.size, 0, none⟩ 1 1 [.int .i64 k] rfl rfl (cell_one_new _ _ _) (one_cell _ _) hc3 hc4 (le_alloc hB _) ?_; intro v1 w1 ho1 hg1 _ hat1; have hm1 := hmem.pushS (Nat.le_refl _) (k, m) ho1 hg1 hat1; have hB1 := hm1.below.size; clear ho1 hg1 hat1)
                    | (at_builtin; refine wpList_append_own_at _ rfl (.tmp 82) (.tmp 84) 40 rfl w.heap.size 3 i0 (.int .i64 0) 1 8 Try.underlying40 hi hz0 hz1 hz2 rfl (by decide) _ _ _ rfl (hm1.e.alloc _) ⟨w1.heap.size, 0, none⟩ 1 1 [.int .i64 m] rfl rfl (cell_one_new _ _ _) (one_cell _ _) hc3 hc4 (le_alloc hB1 _) ?_; intro v2 w2 ho2 hg2 _ hat2; have hm2 := hm1.pushE (Nat.le_refl _) (k, m) ho2 hg2 hat2; clear ho2 hg2 hat2))
                  go_roundw
                  case rel => exact ⟨m, ps ++ [(k, m)], rfl, hP, hm2⟩
                  case measure => simp [intOf]; omega
                · clear hstop
                  go_wp2_with (first
                    | (at_builtin; refine wpList_append_own_at _ rfl (.tmp 78) (.tmp 80) 40 rfl w.heap.size 3 i0 (.int .i64 0) 1 8 Try.underlying40 hi hz0 hz1 hz2 rfl (by decide) _ _ _ rfl (hmem.s.alloc _) ⟨wr.heap.size, 0, none⟩ 1 1 [.int .i64 k] rfl rfl (cell_one_new _ _ _) (one_cell _ _) hc3 hc4 (le_alloc hB _) ?_; intro v1 w1 ho1 hg1 _ hat1; have hm1 := hmem.pushS (Nat.le_refl _) (k, m) ho1 hg1 hat1; have hB1 := hm1.below.size; clear ho1 hg1 hat1)
                    | (at_builtin; refine wpList_append_own_at _ rfl (.tmp 82) (.tmp 84) 40 rfl w.heap.size 3 i0 (.int .i64 0) 1 8 Try.underlying40 hi hz0 hz1 hz2 rfl (by decide) _ _ _ rfl (hm1.e.alloc _) ⟨w1.heap.size, 0, none⟩ 1 1 [.int .i64 m] rfl rfl (cell_one_new _ _ _) (one_cell _ _) hc3 hc4 (le_alloc hB1 _) ?_; intro v2 w2 ho2 hg2 _ hat2; have hm2 := hm1.pushE (Nat.le_refl _) (k, m) ho2 hg2 hat2; clear ho2 hg2 hat2))
                  go_roundw
                  case rel => exact ⟨m, ps ++ [(k, m)], rfl, hP, hm2⟩
                  case measure => simp [intOf]; omega
              · have hP := hR.push hrun (fun h => by omega) (fun h => h4 h.2.2)
                have hb0 : ((s[k].toNat : Int) == 46) = true := byte_yes hlt 46 h3
                have hlt1 : k + 1 < s.size := by omega
                have hb1 : ((s[k + 1].toNat : Int) == 46) = false := byte_no hlt1 46 h4
                by_cases hje : m < s.size
                · have hbm := hstop hje
                  clear hstop
                  go_wp2_with (first
                    | (at_builtin; refine wpList_append_own_at _ rfl (.tmp 78) (.tmp 80) 40 rfl w.heap.size 3 i0 (.int .i64 0) 1 8 Try.underlying40 hi hz0 hz1 hz2 rfl (by decide) _ _ _ rfl (hmem.s.alloc _) ⟨wr.heap.size, 0, none⟩ 1 1 [.int .i64 k] rfl rfl (cell_one_new _ _ _) (one_cell _ _) hc3 hc4 (le_alloc hB _) ?_; intro v1 w1 ho1 hg1 _ hat1; have hm1 := hmem.pushS (Nat.le_refl _) (k, m) ho1 hg1 hat1; have hB1 := hm1.below.size; clear ho1 hg1 hat1)
                    | (at_builtin; refine wpList_append_own_at _ rfl (.tmp 82) (.tmp 84) 40 rfl w.heap.size 3 i0 (.int .i64 0) 1 8 Try.underlying40 hi hz0 hz1 hz2 rfl (by decide) _ _ _ rfl (hm1.e.alloc _) ⟨w1.heap.size, 0, none⟩ 1 1 [.int .i64 m] rfl rfl (cell_one_new _ _ _) (one_cell _ _) hc3 hc4 (le_alloc hB1 _) ?_; intro v2 w2 ho2 hg2 _ hat2; have hm2 := hm1.pushE (Nat.le_refl _) (k, m) ho2 hg2 hat2; clear ho2 hg2 hat2))
                  go_roundw
                  case rel => exact ⟨m, ps ++ [(k, m)], rfl, hP, hm2⟩
                  case measure => simp [intOf]; omega
                · clear hstop
                  go_wp2_with (first
                    | (at_builtin; refine wpList_append_own_at _ rfl (.tmp 78) (.tmp 80) 40 rfl w.heap.size 3 i0 (.int .i64 0) 1 8 Try.underlying40 hi hz0 hz1 hz2 rfl (by decide) _ _ _ rfl (hmem.s.alloc _) ⟨wr.heap.size, 0, none⟩ 1 1 [.int .i64 k] rfl rfl (cell_one_new _ _ _) (one_cell _ _) hc3 hc4 (le_alloc hB _) ?_; intro v1 w1 ho1 hg1 _ hat1; have hm1 := hmem.pushS (Nat.le_refl _) (k, m) ho1 hg1 hat1; have hB1 := hm1.below.size; clear ho1 hg1 hat1)
                    | (at_builtin; refine wpList_append_own_at _ rfl (.tmp 82) (.tmp 84) 40 rfl w.heap.size 3 i0 (.int .i64 0) 1 8 Try.underlying40 hi hz0 hz1 hz2 rfl (by decide) _ _ _ rfl (hm1.e.alloc _) ⟨w1.heap.size, 0, none⟩ 1 1 [.int .i64 m] rfl rfl (cell_one_new _ _ _) (one_cell _ _) hc3 hc4 (le_alloc hB1 _) ?_; intro v2 w2 ho2 hg2 _ hat2; have hm2 := hm1.pushE (Nat.le_refl _) (k, m) ho2 hg2 hat2; clear ho2 hg2 hat2))
                  go_roundw
                  case rel => exact ⟨m, ps ++ [(k, m)], rfl, hP, hm2⟩
                  case measure => simp [intOf]; omega
              · have hP := hR.push hrun (fun h => by omega) (fun h => by omega)
                by_cases hje : m < s.size
                · have hbm := hstop hje
                  clear hstop
                  go_wp2_with (first
                    | (at_builtin; refine wpList_append_own_at _ rfl (.tmp 78) (.tmp 80) 40 rfl w.heap.size 3 i0 (.int .i64 0) 1 8 Try.underlying40 hi hz0 hz1 hz2 rfl (by decide) _ _ _ rfl (hmem.s.alloc _) ⟨wr.heap.size, 0, none⟩ 1 1 [.int .i64 k] rfl rfl (cell_one_new _ _ _) (one_cell _ _) hc3 hc4 (le_alloc hB _) ?_; intro v1 w1 ho1 hg1 _ hat1; have hm1 := hmem.pushS (Nat.le_refl _) (k, m) ho1 hg1 hat1; have hB1 := hm1.below.size; clear ho1 hg1 hat1)
                    | (at_builtin; refine wpList_append_own_at _ rfl (.tmp 82) (.tmp 84) 40 rfl w.heap.size 3 i0 (.int .i64 0) 1 8 Try.underlying40 hi hz0 hz1 hz2 rfl (by decide) _ _ _ rfl (hm1.e.alloc _) ⟨w1.heap.size, 0, none⟩ 1 1 [.int .i64 m] rfl rfl (cell_one_new _ _ _) (one_cell _ _) hc3 hc4 (le_alloc hB1 _) ?_; intro v2 w2 ho2 hg2 _ hat2; have hm2 := hm1.pushE (Nat.le_refl _) (k, m) ho2 hg2 hat2; clear ho2 hg2 hat2))
                  go_roundw
                  case rel => exact ⟨m, ps ++ [(k, m)], rfl, hP, hm2⟩
                  case measure => simp [intOf]; omega
                · clear hstop
                  go_wp2_with (first
                    | (at_builtin; refine wpList_append_own_at _ rfl (.tmp 78) (.tmp 80) 40 rfl w.heap.size 3 i0 (.int .i64 0) 1 8 Try.underlying40 hi hz0 hz1 hz2 rfl (by decide) _ _ _ rfl (hmem.s.alloc _) ⟨wr.heap.size, 0, none⟩ 1 1 [.int .i64 k] rfl rfl (cell_one_new _ _ _) (one_cell _ _) hc3 hc4 (le_alloc hB _) ?_; intro v1 w1 ho1 hg1 _ hat1; have hm1 := hmem.pushS (Nat.le_refl _) (k, m) ho1 hg1 hat1; have hB1 := hm1.below.size; clear ho1 hg1 hat1)
                    | (at_builtin; refine wpList_append_own_at _ rfl (.tmp 82) (.tmp 84) 40 rfl w.heap.size 3 i0 (.int .i64 0) 1 8 Try.underlying40 hi hz0 hz1 hz2 rfl (by decide) _ _ _ rfl (hm1.e.alloc _) ⟨w1.heap.size, 0, none⟩ 1 1 [.int .i64 m] rfl rfl (cell_one_new _ _ _) (one_cell _ _) hc3 hc4 (le_alloc hB1 _) ?_; intro v2 w2 ho2 hg2 _ hat2; have hm2 := hm1.pushE (Nat.le_refl _) (k, m) ho2 hg2 hat2; clear ho2 hg2 hat2))
                  go_roundw
                  case rel => exact ⟨m, ps ++ [(k, m)], rfl, hP, hm2⟩
                  case measure => simp [intOf]; omega
    · have hdone := hR.done (by omega)
      have HD : Hid (stack s.data.toList ps = F s.data.toList 0 []) := hdone
      clear hsz hdone
      cases n with
      | zero =>
        have HM : Hid (model s.data.toList = [47]) := model_nil HD.out (List.eq_nil_of_length_eq_zero HN.out)
        clear HD HN
        go_wp2
        go_ret
        exact ⟨ret_str (by rw [HM.out]), hmem.below⟩
      | succ n =>
        have hne : ps ≠ [] := by intro e; have := HN.out; rw [e] at this; simp at this
        have HM : Hid (model s.data.toList = out s.data.toList ps) := model_out HD.out hne
        have hbel := hmem.below
        have hok := hR.ok
        obtain ⟨gS, gE, rfl, rfl, hcS, hcE, hgS, hgE, hS, hE⟩ := hmem.cells HN.out
        have hl : s.data.toList.length ≤ 65536 := by rw [← Lib.size_eq]; exact hs
        have hsz := Lib.size_eq s
        have HZ : Hid (s.size = s.data.toList.length) := hsz
        clear HD hmem hR hi hz0 hz1 hz2 hsz
        obtain ⟨i1, hi, hz0, hz1, hz2⟩ := info_parts info5
        go_wp2
        rename World => W2
        go_loopw [10, 11] (fun vo i wr => ∃ q : Nat, q ≤ n + 1 ∧ i = .int .i64 q ∧ wr.ownsRow W2.heap.size 5 1 vo (out s.data.toList (ps.take q)).length (bytes (out s.data.toList (ps.take q))) ∧ Below W2.heap.size W2 wr)
          (fun _ i _ => n + 1 - (intOf i).toNat)
        case atStart => exact ⟨0, by omega, rfl, World.ownsRow_nil _ _ _ _, Below.refl _ _⟩
        case round =>
          obtain ⟨q, hq, rfl, hown, hbx⟩ := hrel
          by_cases hqn : q < n + 1
          · have hqp : q < ps.length := by have := HN.out; omega
            obtain ⟨p, hp⟩ : ∃ p, ps[q]? = some p := ⟨_, List.getElem?_eq_getElem hqp⟩
            have hpo := hok p (List.mem_of_getElem? hp)
            have hp12 : p.1 ≤ p.2 := hpo.1
            have hp2s : p.2 ≤ s.size := by have := HZ.out; have := hpo.2.1; omega
            have HO : Hid (out s.data.toList (ps.take (q + 1)) = out s.data.toList (ps.take q) ++ 47 :: cut s.data.toList p) := out_take _ _ _ _ hp
            have hol := out_len s.data.toList hl (ps.take q)
            have hcS1 := hS q p hp
            have hcE1 := hE q p hp
            have htl : (ps.take q).length ≤ 65536 := by rw [List.length_take]; omega
            generalize out s.data.toList (ps.take q) = o at *
            obtain ⟨p1, p2⟩ := p
            unfold fstv at hcS1
            unfold sndv at hcE1
            simp only at hcS1 hcE1 hp12 hp2s
            have hBx : W2.heap.size ≤ wr.heap.size := hbx.size
            go_wp2_with (first
              | (at_builtin; refine wpList_append_own _ rfl (.tmp 96) (.tmp 97) 41 rfl W2.heap.size 5 i1 (.int .u8 0) 1 1 Try.underlying41 hi hz0 hz1 hz2 rfl (by decide) _ _ _ rfl (hown.alloc _) ⟨wr.heap.size, 0, none⟩ 1 1 [.int .u8 47] rfl rfl (cell_one_new _ _ _) (one_cell _ _) (by unfold maxLen; omega) (by omega) (le_alloc hBx _) ?_; intro v1 w1 ho1 hg1 _; have hp1 := push_byte 47 hBx hbx hown ho1 hg1; have hcS2 := (hp1.2.cell (p := ⟨gS, q, none⟩) hgS).trans hcS1; clear ho1 hg1))
            go_loopw [10, 12] (fun vo x wr => ∃ m : Nat, p1 ≤ m ∧ m ≤ p2 ∧ x = .int .i64 m ∧ wr.ownsRow W2.heap.size 5 1 vo (o ++ 47 :: cut s.data.toList (p1, m)).length (bytes (o ++ 47 :: cut s.data.toList (p1, m))) ∧ Below W2.heap.size W2 wr)
              (fun _ x _ => p2 - (intOf x).toNat)
            case atStart => exact ⟨p1, Nat.le_refl _, hp12, rfl, by rw [cut_nil]; exact hp1.1, hp1.2⟩
            case round =>
              obtain ⟨m, hm1, hm2, rfl, hown, hbx⟩ := hrel
              have hcE2 := (hbx.cell (p := ⟨gE, q, none⟩) hgE).trans hcE1
              have hBx : W2.heap.size ≤ wr.heap.size := hbx.size
              have hcl := cut_le hl (p1, m)
              by_cases hmp : m < p2
              · have hms : m < s.size := by omega
                have HC : Hid (o ++ 47 :: cut s.data.toList (p1, m + 1) = (o ++ 47 :: cut s.data.toList (p1, m)) ++ [s[m]]) := cut_app o hm1 (Lib.Pa.at_eq s m hms)
                have hlen : (o ++ 47 :: cut s.data.toList (p1, m)).length ≤ 4295032832 + 65537 := by simp only [List.length_append, List.length_cons]; omega
                generalize o ++ 47 :: cut s.data.toList (p1, m) = o2 at *
                go_wp2_with (first
                  | (at_builtin; refine wpList_append_own _ rfl (.tmp 111) (.tmp 115) 41 rfl W2.heap.size 5 i1 (.int .u8 0) 1 1 Try.underlying41 hi hz0 hz1 hz2 rfl (by decide) _ _ _ rfl (hown.alloc _) ⟨wr.heap.size, 0, none⟩ 1 1 [.int .u8 s[m].toNat] rfl rfl (cell_one_new _ _ _) (one_cell _ _) (by unfold maxLen; omega) (by omega) (le_alloc hBx _) ?_; intro v2 w2 ho2 hg2 _; have hp2 := push_byte s[m] hBx hbx hown ho2 hg2; clear ho2 hg2))
                go_roundw
                case rel => exact ⟨m + 1, by omega, by omega, by go_num, by rw [HC.out]; exact hp2.1, hp2.2⟩
                case measure => simp [intOf]; omega
              · have hmm : m = p2 := by omega
                subst hmm
                go_wp2
                go_roundw
                case rel => ((repeat apply Exists.intro); exact ⟨⟨q + 1, by omega, by go_num, by rw [HO.out]; exact hown, hbx⟩, rfl⟩)
                case measure => simp [intOf]; omega
          · have hqe : ps.take q = ps := List.take_of_length_le (by have := HN.out; omega)
            rw [hqe] at hown
            have hon : out s.data.toList ps ≠ [] := by
              cases ps with
              | nil => exact absurd rfl hne
              | cons p ps => simp [out]
            obtain ⟨g, cap, rfl, hcells⟩ := bytes_at hon hown
            have hcv := run_convert_bytes_back (P := Try.prog) wr 41 9 5 _ cap _ Try.underlying41 Try.underlying5 Try.underlying9 hcells
            clear hqe hcells
            go_wp2
            go_ret
            exact ⟨ret_str (by rw [HM.out]), hbel.trans (hbx.mono hbel.size)⟩
end Go.Proofs.Qxb6002466a.Pl
