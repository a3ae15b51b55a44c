/-
  A PROOF OF 'Rows.FnRegistrationsOfExactSaid' in the frame that proof-skeleton.mjs writes for slices, turned by hand to a slice of strings and one of bools; the walk is ours.
-/
import Derived.Test.Qxb6602989aRows
import Derived.WalkKit
import Derived.ProofKit
import Derived.OpenShut
import Derived.ShutString
import Derived.ChangeOld
import Derived.Below
import Derived.SliceStrings
import Derived.Deep.Grids
import Derived.Test.Qxb6602989aHead
import Derived.Test.Qxb6602989aFits
import Derived.Test.Qxb6602989aFind
namespace Go.Proofs.Qxb6602989a.fnRegistrationsOfExact
open Go.ChangeShapes Go.WideShapes Go.ChangeAt Go.RowKit
open Go.ChangeMaps (open_string shut_string)
set_option linter.unusedVariables false

theorem own : ownKnob Try.prog.godebug = none := by kernel_rfl
theorem laidOut : laidOutB Try.prog = true := by kernel_rfl

open Rg in
set_option maxHeartbeats 2000000 in
/-- No registration bears the name. -/
theorem road_none (s : ByteArray) (a1 a2 a3 : Option Addr) (n c1 c2 c3 : Nat) (Z : Nat → Int) (N : Nat → ByteArray) (B : Nat → Bool) (w : World) (hs : s.size ≤ 1048576) (hn : n ≤ 4096) (n2 : Hid (∀ j, j < n → (N j).size ≤ 9223372036854775807))
    (w1 : Hid (Row w a1 n fun j => .int .i64 (Z j))) (w2 : Hid (Row w a2 n fun j => .string (N j))) (w3 : Hid (Row w a3 n fun j => .bool (B j))) (h0 : Hid (got s N Z n = [])) :
    Calls Try.prog 5 #[.string s, .slice a1 n c1, .slice a2 n c2, .slice a3 n c3] w fun e w' => e = .returned (.bool true) ∧ Below w.heap.size w w' := by
  go_enter Try.func5, Try.ntmps5
  go_wp2_with fail
  refine (bytes_any _ _ _ _ _ _ _ _ _ _ N _ (by omega) (by omega) (by omega) (by omega) w2.out n2.out).mono ?_
  rintro e w' ⟨⟨b, rfl⟩, rfl⟩
  cases b with
  | false =>
    go_wp2
    go_ret
    exact ⟨rfl, Below.refl _ _⟩
  | true =>
    go_wp2_with fail
    refine (fits_any _ _ _ _ _ _ _ _ _ _ N _ hs hn hn hn w2.out n2.out).mono ?_
    rintro e w' ⟨⟨b, rfl⟩, rfl⟩
    cases b with
    | false =>
      go_wp2
      go_ret
      exact ⟨rfl, Below.refl _ _⟩
    | true =>
      go_wp2_with fail
      refine (make_any _ _ _ _ _ _ _ Z N B _ hn w1.out w2.out w3.out).mono ?_
      rintro e w1' ⟨g, xs, rfl, ho1, hL, hb1⟩
      go_wp2_with fail
      refine (zzfind_none _ _ _ _ _ xs Z N B _ hn ho1 hL h0.out).mono ?_
      rintro e w2' ⟨rfl, hb2⟩
      clear ho1 hL
      have hB := hb1.trans (hb2.mono hb1.size)
      have HW : Hid (Row w2' a2 n fun j => .string (N j)) := w2.out.below hB
      clear w1 w2 w3 hb1 hb2
      have hnil := fun (w : World) => Lib.run_eql_slice_nil (P := Try.prog) w 22 2 none 0 0 0 0 Try.underlying22
      go_wp2
      go_loop [12, 13] (fun cv i => ∃ k : Nat, k ≤ n ∧ cv = .int .i64 0 ∧ i = .int .i64 k) (fun _ i => n - (intOf i).toNat)
      case atStart => exact ⟨0, Nat.zero_le _, rfl, rfl⟩
      case round =>
        obtain ⟨k, hk, rfl, rfl⟩ := hrel
        by_cases hlt : k < n
        · obtain ⟨b2, o2, rfl, _, hc2⟩ := HW.out (by omega)
          have e2 : w2'.cell? ⟨b2, o2 + k, none⟩ = some (.string (N k)) := hc2 k hlt
          have hx : ((N k).toList == s.toList) = false := by
            cases hh : hit s N k with
            | false => exact hh
            | true =>
              obtain ⟨r, hr⟩ := got_from (s := s) (N := N) (Z := Z) n (k + 1) (by omega)
              rw [h0.out, got_hit hh] at hr
              simp at hr
          clear hc2
          generalize N k = X at e2 hx
          go_wp2
          go_round
          case rel => exact ⟨k + 1, by omega, rfl, by go_num⟩
          case measure => simp [intOf]; omega
        · go_wp2
          go_ret
          exact ⟨rfl, hB⟩

open Rg in
set_option maxHeartbeats 4000000 in
/-- Some registration bears the name. -/
theorem road_some (s : ByteArray) (a1 a2 a3 : Option Addr) (n c1 c2 c3 L : Nat) (Z : Nat → Int) (N : Nat → ByteArray) (B : Nat → Bool) (w : World) (hs : s.size ≤ 1048576) (hn : n ≤ 4096) (n2 : Hid (∀ j, j < n → (N j).size ≤ 9223372036854775807))
    (w1 : Hid (Row w a1 n fun j => .int .i64 (Z j))) (w2 : Hid (Row w a2 n fun j => .string (N j))) (w3 : Hid (Row w a3 n fun j => .bool (B j))) (hl : Hid ((got s N Z n).length = L)) (hL0 : 0 < L) (hLn : L ≤ n) :
    Calls Try.prog 5 #[.string s, .slice a1 n c1, .slice a2 n c2, .slice a3 n c3] w fun e w' => e = .returned (.bool true) ∧ Below w.heap.size w w' := by
  have hLz : ((L : Int) == 0) = false := by simp; omega
  go_enter Try.func5, Try.ntmps5
  go_wp2_with fail
  refine (bytes_any _ _ _ _ _ _ _ _ _ _ N _ (by omega) (by omega) (by omega) (by omega) w2.out n2.out).mono ?_
  rintro e w' ⟨⟨b, rfl⟩, rfl⟩
  cases b with
  | false =>
    go_wp2
    go_ret
    exact ⟨rfl, Below.refl _ _⟩
  | true =>
    go_wp2_with fail
    refine (fits_any _ _ _ _ _ _ _ _ _ _ N _ hs hn hn hn w2.out n2.out).mono ?_
    rintro e w' ⟨⟨b, rfl⟩, rfl⟩
    cases b with
    | false =>
      go_wp2
      go_ret
      exact ⟨rfl, Below.refl _ _⟩
    | true =>
      go_wp2_with fail
      refine (make_any _ _ _ _ _ _ _ Z N B _ hn w1.out w2.out w3.out).mono ?_
      rintro e w1' ⟨g, xs, rfl, ho1, hL, hb1⟩
      go_wp2_with fail
      refine (zzfind_some _ _ _ _ _ L xs Z N B _ hn ho1 hL hl.out hL0).mono ?_
      rintro e w2' ⟨gv, cv, rfl, hgv, hcells, hb2⟩
      clear ho1 hL
      have HCE : Hid (∀ j x, (got s N Z n)[j]? = some x → w2'.cell? ⟨gv, j, none⟩ = some (.int .i64 x)) := hcells
      have hB := hb1.trans (hb2.mono hb1.size)
      have HW : Hid (Row w2' a2 n fun j => .string (N j)) := w2.out.below hB
      have HI : Hid (Row w2' a1 n fun j => .int .i64 (Z j)) := w1.out.below hB
      clear w1 w2 w3 hb1 hb2 hcells
      go_wp2
      go_loop [12, 13] (fun cv i => ∃ k m : Nat, k ≤ n ∧ m ≤ k ∧ Hid (m = (got s N Z k).length) ∧ cv = .int .i64 m ∧ i = .int .i64 k) (fun _ i => n - (intOf i).toNat)
      case atStart => exact ⟨0, 0, Nat.zero_le _, Nat.le_refl _, rfl, rfl, rfl⟩
      case round =>
        obtain ⟨k, m, hk, hmk, HM, rfl, rfl⟩ := hrel
        by_cases hlt : k < n
        · obtain ⟨b2, o2, rfl, _, hc2⟩ := HW.out (by omega)
          have e2 : w2'.cell? ⟨b2, o2 + k, none⟩ = some (.string (N k)) := hc2 k hlt
          clear hc2
          cases hh : hit s N k with
          | false =>
            have hx : ((N k).toList == s.toList) = false := hh
            have HM2 : Hid (m = (got s N Z (k + 1)).length) := by show _ = _; rw [got_miss hh]; exact HM.out
            clear hh HM
            generalize N k = X at e2 hx
            go_wp2
            go_round
            case rel => exact ⟨k + 1, m, by omega, by omega, HM2, rfl, by go_num⟩
            case measure => simp [intOf]; omega
          | true =>
            have hx : ((N k).toList == s.toList) = true := hh
            have HM2 : Hid (m + 1 = (got s N Z (k + 1)).length) := by show _ = _; rw [got_hit hh, List.length_append, ← HM.out]; rfl
            clear hh HM
            generalize N k = X at e2 hx
            go_wp2
            go_round
            case rel => exact ⟨k + 1, m + 1, by omega, by omega, HM2, by go_num, by go_num⟩
            case measure => simp [intOf]; omega
        · have hkn : n = k := by omega
          subst hkn
          have hmL : L = m := by rw [HM.out]; exact hl.out.symm
          subst hmL
          clear HM
          go_wp2
          go_loopw [14] (fun i wr => ∃ q : Nat, q ≤ n ∧ i = .int .i64 q ∧ Below w2'.heap.size w2' wr) (fun i _ => n - (intOf i).toNat)
          case atStart => exact ⟨0, Nat.zero_le _, rfl, Below.refl _ _⟩
          case round =>
            obtain ⟨q, hq, rfl, hbr⟩ := hrel
            by_cases hlt2 : q < n
            · obtain ⟨b2, o2, rfl, hl2, hc2⟩ := HW.out (by omega)
              obtain ⟨b1, o1, rfl, hl1, hc1⟩ := HI.out (by omega)
              have HC2 : Hid (∀ j, j < n → wr.cell? ⟨b2, o2 + j, none⟩ = some (.string (N j))) := fun j hj => (hbr.cell (p := ⟨b2, o2 + j, none⟩) hl2).trans (hc2 j hj)
              have r2 : wr.cell? ⟨b1, o1 + q, none⟩ = some (.int .i64 (Z q)) := (hbr.cell (p := ⟨b1, o1 + q, none⟩) hl1).trans (hc1 q hlt2)
              have e2 := HC2.out q hlt2
              clear hc1 hc2
              cases hh : hit s N q with
              | false =>
                have hx : ((N q).toList == s.toList) = false := hh
                clear hh HC2
                generalize N q = X at e2 hx
                go_wp2
                go_roundw
                case rel => exact ⟨q + 1, by omega, by go_num, hbr⟩
                case measure => simp [intOf]; omega
              | true =>
                have hx : ((N q).toList == s.toList) = true := hh
                obtain ⟨g1, g2⟩ := got_rank (Z := Z) hlt2 hh
                have r1 : wr.cell? ⟨gv, (got s N Z q).length, none⟩ = some (.int .i64 (Z q)) := (hbr.cell (p := ⟨gv, (got s N Z q).length, none⟩) hgv).trans (HCE.out _ _ g1)
                rw [hl.out] at g2
                have HR1 : Hid (wr.cell? ⟨gv, (got s N Z q).length, none⟩ = some (.int .i64 (Z q)) ∧ (got s N Z q).length < L) := ⟨r1, g2⟩
                clear hh g1 g2 r1
                generalize N q = X at e2 hx
                generalize Z q = z at r2 HR1
                go_wp2
                go_loop [15, 16] (fun rv j => ∃ t m : Nat, t ≤ q ∧ m ≤ t ∧ Hid (m = (got s N Z t).length) ∧ rv = .int .i64 m ∧ j = .int .i64 t) (fun _ j => q - (intOf j).toNat)
                case atStart => exact ⟨0, 0, Nat.zero_le _, Nat.le_refl _, rfl, rfl, rfl⟩
                case round =>
                  obtain ⟨t, m, ht, hmt, HM, rfl, rfl⟩ := hrel
                  by_cases htq : t < q
                  · have e3 := HC2.out t (by omega)
                    cases hh : hit s N t with
                    | false =>
                      have hy : ((N t).toList == s.toList) = false := hh
                      have HM2 : Hid (m = (got s N Z (t + 1)).length) := by show _ = _; rw [got_miss hh]; exact HM.out
                      clear hh HM
                      generalize N t = Y at e3 hy
                      go_wp2
                      go_round
                      case rel => exact ⟨t + 1, m, by omega, by omega, HM2, rfl, by go_num⟩
                      case measure => simp [intOf]; omega
                    | true =>
                      have hy : ((N t).toList == s.toList) = true := hh
                      have HM2 : Hid (m + 1 = (got s N Z (t + 1)).length) := by show _ = _; rw [got_hit hh, List.length_append, ← HM.out]; rfl
                      clear hh HM
                      generalize N t = Y at e3 hy
                      go_wp2
                      go_round
                      case rel => exact ⟨t + 1, m + 1, by omega, by omega, HM2, by go_num, by go_num⟩
                      case measure => simp [intOf]; omega
                  · have htq' : t = q := by omega
                    have HMq : Hid (m = (got s N Z q).length) := by show _ = _; rw [← htq']; exact HM.out
                    have r1 : wr.cell? ⟨gv, m, none⟩ = some (.int .i64 z) := by rw [HMq.out]; exact HR1.out.1
                    have hmL : m < L := by rw [HMq.out]; exact HR1.out.2
                    clear htq' HM HMq HR1
                    go_wp2
                    go_region
                    go_wp2
                    go_roundw
                    case rel => first | exact ⟨q + 1, by omega, by go_num, hbr.drew⟩ | ((repeat apply Exists.intro); exact ⟨⟨q + 1, by omega, by go_num, hbr.drew⟩, rfl⟩)
                    case measure => simp [intOf]; omega
            · go_wp2
              go_ret
              exact ⟨rfl, hB.trans (hbr.mono hB.size)⟩

open Rg in
set_option maxHeartbeats 1000000 in
theorem early_s (s : ByteArray) (a1 a2 a3 : Option Addr) (l1 c1 l2 c2 l3 c3 : Nat) (N : Nat → ByteArray) (w : World) (hs : s.size ≤ 9223372036854775807) (h1 : l1 ≤ 9223372036854775807) (h2 : l2 ≤ 9223372036854775807) (h3 : l3 ≤ 9223372036854775807) (n2 : Hid (∀ j, j < l2 → (N j).size ≤ 9223372036854775807)) (w2 : Hid (Row w a2 l2 fun j => .string (N j))) (t0 : 1048576 < s.size) :
    Calls Try.prog 5 #[.string s, .slice a1 l1 c1, .slice a2 l2 c2, .slice a3 l3 c3] w fun e w' => e = .returned (.bool true) ∧ Below w.heap.size w w' := by
  go_enter Try.func5, Try.ntmps5
  go_wp2_with fail
  refine (bytes_any _ _ _ _ _ _ _ _ _ _ N _ hs h1 h2 h3 w2.out n2.out).mono ?_
  rintro e w' ⟨⟨b, rfl⟩, rfl⟩
  cases b with
  | false =>
    go_wp2
    go_ret
    exact ⟨rfl, Below.refl _ _⟩
  | true =>
    go_wp2
    go_ret
    exact ⟨rfl, Below.refl _ _⟩

open Rg in
set_option maxHeartbeats 1000000 in
theorem early_1 (s : ByteArray) (a1 a2 a3 : Option Addr) (l1 c1 l2 c2 l3 c3 : Nat) (N : Nat → ByteArray) (w : World) (hs : s.size ≤ 9223372036854775807) (h1 : l1 ≤ 9223372036854775807) (h2 : l2 ≤ 9223372036854775807) (h3 : l3 ≤ 9223372036854775807) (n2 : Hid (∀ j, j < l2 → (N j).size ≤ 9223372036854775807)) (w2 : Hid (Row w a2 l2 fun j => .string (N j))) (t0 : s.size ≤ 1048576) (t1 : 4096 < l1) :
    Calls Try.prog 5 #[.string s, .slice a1 l1 c1, .slice a2 l2 c2, .slice a3 l3 c3] w fun e w' => e = .returned (.bool true) ∧ Below w.heap.size w w' := by
  go_enter Try.func5, Try.ntmps5
  go_wp2_with fail
  refine (bytes_any _ _ _ _ _ _ _ _ _ _ N _ hs h1 h2 h3 w2.out n2.out).mono ?_
  rintro e w' ⟨⟨b, rfl⟩, rfl⟩
  cases b with
  | false =>
    go_wp2
    go_ret
    exact ⟨rfl, Below.refl _ _⟩
  | true =>
    go_wp2
    go_ret
    exact ⟨rfl, Below.refl _ _⟩

open Rg in
set_option maxHeartbeats 1000000 in
theorem early_2 (s : ByteArray) (a1 a2 a3 : Option Addr) (l1 c1 l2 c2 l3 c3 : Nat) (N : Nat → ByteArray) (w : World) (hs : s.size ≤ 9223372036854775807) (h1 : l1 ≤ 9223372036854775807) (h2 : l2 ≤ 9223372036854775807) (h3 : l3 ≤ 9223372036854775807) (n2 : Hid (∀ j, j < l2 → (N j).size ≤ 9223372036854775807)) (w2 : Hid (Row w a2 l2 fun j => .string (N j))) (t0 : s.size ≤ 1048576) (t1 : l1 ≤ 4096) (t2 : 4096 < l2) :
    Calls Try.prog 5 #[.string s, .slice a1 l1 c1, .slice a2 l2 c2, .slice a3 l3 c3] w fun e w' => e = .returned (.bool true) ∧ Below w.heap.size w w' := by
  go_enter Try.func5, Try.ntmps5
  go_wp2_with fail
  refine (bytes_any _ _ _ _ _ _ _ _ _ _ N _ hs h1 h2 h3 w2.out n2.out).mono ?_
  rintro e w' ⟨⟨b, rfl⟩, rfl⟩
  cases b with
  | false =>
    go_wp2
    go_ret
    exact ⟨rfl, Below.refl _ _⟩
  | true =>
    go_wp2
    go_ret
    exact ⟨rfl, Below.refl _ _⟩

open Rg in
set_option maxHeartbeats 1000000 in
theorem early_3 (s : ByteArray) (a1 a2 a3 : Option Addr) (l1 c1 l2 c2 l3 c3 : Nat) (N : Nat → ByteArray) (w : World) (hs : s.size ≤ 9223372036854775807) (h1 : l1 ≤ 9223372036854775807) (h2 : l2 ≤ 9223372036854775807) (h3 : l3 ≤ 9223372036854775807) (n2 : Hid (∀ j, j < l2 → (N j).size ≤ 9223372036854775807)) (w2 : Hid (Row w a2 l2 fun j => .string (N j))) (t0 : s.size ≤ 1048576) (t1 : l1 ≤ 4096) (t2 : l2 ≤ 4096) (t3 : 4096 < l3) :
    Calls Try.prog 5 #[.string s, .slice a1 l1 c1, .slice a2 l2 c2, .slice a3 l3 c3] w fun e w' => e = .returned (.bool true) ∧ Below w.heap.size w w' := by
  go_enter Try.func5, Try.ntmps5
  go_wp2_with fail
  refine (bytes_any _ _ _ _ _ _ _ _ _ _ N _ hs h1 h2 h3 w2.out n2.out).mono ?_
  rintro e w' ⟨⟨b, rfl⟩, rfl⟩
  cases b with
  | false =>
    go_wp2
    go_ret
    exact ⟨rfl, Below.refl _ _⟩
  | true =>
    go_wp2
    go_ret
    exact ⟨rfl, Below.refl _ _⟩

open Rg in
set_option maxHeartbeats 1000000 in
theorem early_n (s : ByteArray) (a1 a2 a3 : Option Addr) (l1 c1 l2 c2 l3 c3 : Nat) (N : Nat → ByteArray) (w : World) (hs : s.size ≤ 9223372036854775807) (h1 : l1 ≤ 9223372036854775807) (h2 : l2 ≤ 9223372036854775807) (h3 : l3 ≤ 9223372036854775807) (n2 : Hid (∀ j, j < l2 → (N j).size ≤ 9223372036854775807)) (w2 : Hid (Row w a2 l2 fun j => .string (N j))) (t0 : s.size ≤ 1048576) (t1 : l1 ≤ 4096) (t2 : l2 ≤ 4096) (t3 : l3 ≤ 4096) (hne : ((l2 : Int) != (l1 : Int)) = true) :
    Calls Try.prog 5 #[.string s, .slice a1 l1 c1, .slice a2 l2 c2, .slice a3 l3 c3] w fun e w' => e = .returned (.bool true) ∧ Below w.heap.size w w' := by
  go_enter Try.func5, Try.ntmps5
  go_wp2_with fail
  refine (bytes_any _ _ _ _ _ _ _ _ _ _ N _ hs h1 h2 h3 w2.out n2.out).mono ?_
  rintro e w' ⟨⟨b, rfl⟩, rfl⟩
  cases b with
  | false =>
    go_wp2
    go_ret
    exact ⟨rfl, Below.refl _ _⟩
  | true =>
    go_wp2_with fail
    refine (fits_any _ _ _ _ _ _ _ _ _ _ N _ t0 t1 t2 t3 w2.out n2.out).mono ?_
    rintro e w' ⟨⟨b, rfl⟩, rfl⟩
    cases b
    · go_wp2
      go_ret
      exact ⟨rfl, Below.refl _ _⟩
    go_wp2
    go_ret
    exact ⟨rfl, Below.refl _ _⟩

open Rg in
set_option maxHeartbeats 1000000 in
theorem early_d (s : ByteArray) (a1 a2 a3 : Option Addr) (l1 c1 l2 c2 l3 c3 : Nat) (N : Nat → ByteArray) (w : World) (hs : s.size ≤ 9223372036854775807) (h1 : l1 ≤ 9223372036854775807) (h2 : l2 ≤ 9223372036854775807) (h3 : l3 ≤ 9223372036854775807) (n2 : Hid (∀ j, j < l2 → (N j).size ≤ 9223372036854775807)) (w2 : Hid (Row w a2 l2 fun j => .string (N j))) (t0 : s.size ≤ 1048576) (t1 : l1 ≤ 4096) (t2 : l2 ≤ 4096) (t3 : l3 ≤ 4096) (heq : ((l2 : Int) != (l1 : Int)) = false) (hne : ((l3 : Int) != (l1 : Int)) = true) :
    Calls Try.prog 5 #[.string s, .slice a1 l1 c1, .slice a2 l2 c2, .slice a3 l3 c3] w fun e w' => e = .returned (.bool true) ∧ Below w.heap.size w w' := by
  go_enter Try.func5, Try.ntmps5
  go_wp2_with fail
  refine (bytes_any _ _ _ _ _ _ _ _ _ _ N _ hs h1 h2 h3 w2.out n2.out).mono ?_
  rintro e w' ⟨⟨b, rfl⟩, rfl⟩
  cases b with
  | false =>
    go_wp2
    go_ret
    exact ⟨rfl, Below.refl _ _⟩
  | true =>
    go_wp2_with fail
    refine (fits_any _ _ _ _ _ _ _ _ _ _ N _ t0 t1 t2 t3 w2.out n2.out).mono ?_
    rintro e w' ⟨⟨b, rfl⟩, rfl⟩
    cases b
    · go_wp2
      go_ret
      exact ⟨rfl, Below.refl _ _⟩
    go_wp2
    go_ret
    exact ⟨rfl, Below.refl _ _⟩

/-! ### THE WALK -/
theorem walk (a0 : ByteArray) (a1 : Option Addr) (len1 cap1 : Nat) (a2 : Option Addr) (len2 cap2 : Nat) (a3 : Option Addr) (len3 cap3 : Nat) (Z : Nat → Int) (N : Nat → ByteArray) (B : Nat → Bool) (w : World) (w0 : a0.size ≤ maxLen) (m1 : len1 ≤ maxLen) (m2 : len2 ≤ maxLen) (m3 : len3 ≤ maxLen) (n2 : ∀ j, j < len2 → (N j).size ≤ maxLen)
    (w1 : Rg.Row w a1 len1 fun j => .int .i64 (Z j)) (w2 : Rg.Row w a2 len2 fun j => .string (N j)) (w3 : Rg.Row w a3 len3 fun j => .bool (B j)) :
    Calls Try.prog 5 #[.string a0, .slice a1 len1 cap1, .slice a2 len2 cap2, .slice a3 len3 cap3] w fun e w' => e = .returned (.bool true) ∧ Below w.heap.size w w' := by
  unfold maxLen at w0 m1 m2 m3 n2
  by_cases t0 : a0.size ≤ 1048576
  · by_cases t1 : len1 ≤ 4096
    · by_cases t2 : len2 ≤ 4096
      · by_cases t3 : len3 ≤ 4096
        · by_cases e2 : len2 = len1
          · by_cases e3 : len3 = len1
            · subst e2
              subst e3
              by_cases h0 : Rg.got a0 N Z len3 = []
              · exact road_none a0 a1 a2 a3 len3 cap1 cap2 cap3 Z N B w t0 t1 n2 w1 w2 w3 h0
              · exact road_some a0 a1 a2 a3 len3 cap1 cap2 cap3 _ Z N B w t0 t1 n2 w1 w2 w3 rfl (List.length_pos_iff.2 h0) (Rg.got_le _)
            · exact early_d a0 a1 a2 a3 len1 cap1 len2 cap2 len3 cap3 N w w0 m1 m2 m3 n2 w2 t0 t1 t2 t3 (by rw [e2]; simp) (by simp; omega)
          · exact early_n a0 a1 a2 a3 len1 cap1 len2 cap2 len3 cap3 N w w0 m1 m2 m3 n2 w2 t0 t1 t2 t3 (by simp; omega)
        · exact early_3 a0 a1 a2 a3 len1 cap1 len2 cap2 len3 cap3 N w w0 m1 m2 m3 n2 w2 t0 t1 t2 (by omega)
      · exact early_2 a0 a1 a2 a3 len1 cap1 len2 cap2 len3 cap3 N w w0 m1 m2 m3 n2 w2 t0 t1 (by omega)
    · exact early_1 a0 a1 a2 a3 len1 cap1 len2 cap2 len3 cap3 N w w0 m1 m2 m3 n2 w2 t0 (by omega)
  · exact early_s a0 a1 a2 a3 len1 cap1 len2 cap2 len3 cap3 N w w0 m1 m2 m3 n2 w2 (by omega)

/-! ### THE ROW's STEP -/
set_option maxRecDepth 100000 in
theorem lifted (os : Os) (started : os.Started) (H : Type) (enc : TypeId × Value → H) :
    ReturnsInHanded {} Try.checked os 5 .any (Rows.fnRegistrationsOfExactSpec.pre6 enc Try.prog Try.f5 Rows.fnRegistrationsOfExactRow.domain false) (Rows.fnRegistrationsOfExactSpec.post enc Try.prog Try.f5 false true false false) := by
  refine returnsInHanded_of_change (C := Try.checked) own started (by kernel_rfl) Try.func5
    (ChangeSpec.witness6 (enc := enc) (C := Try.checked) false ⟨#[], #[.string ByteArray.empty, .slice none 0 0, .slice none 0 0, .slice none 0 0], []⟩ 8 (by kernel_rfl) (by kernel_rfl) (by kernel_rfl) (by kernel_rfl)) ?_
  intro W base args ds gs before hval0 hW hcnd _
  have hval : ∀ (j : Nat) t v, Try.f5.params[j]? = some t → args[j]? = some v → Value.okWide Try.prog W .any base t v := hval0
  have hW' := hW
  obtain ⟨p, q, hA0, hV, rfl, hfz, hnd⟩ := hW
  have hA : DataW.TrodAll enc Try.prog W 0 (fun _ => true) true Try.f5.params.toList args.toList ds p := hA0
  rw [Try.params5] at hA hval
  obtain ⟨v0, vs0, d0, ds0, p0, q0, hargs, rfl, rfl, h0, r0⟩ := trodAll_cons hA
  obtain ⟨v1, vs1, d1, ds1, p1, q1, rfl, rfl, rfl, h1, r1⟩ := trodAll_cons r0
  obtain ⟨v2, vs2, d2, ds2, p2, q2, rfl, rfl, rfl, h2, r2⟩ := trodAll_cons r1
  obtain ⟨v3, vs3, d3, ds3, p3, q3, rfl, rfl, rfl, h3, r3⟩ := trodAll_cons r2
  obtain ⟨rfl, rfl, rfl⟩ := trodAll_nil r3
  obtain rfl : args = #[v0, v1, v2, v3] := by cases args; simp_all
  obtain ⟨rfl, rfl⟩ := trodVars_none hV
  obtain ⟨a0, rfl, rfl, rfl, w0⟩ := open_string Try.underlying9 (hval 0 9 v0 rfl rfl) h0
  obtain ⟨a1, len1, cap1, rfl⟩ := okWide_slice Try.underlying22 (hval 1 22 v1 rfl rfl)
  have k1 := h1
  have lt1 : ∀ x ∈ p1, x.block < W.heap.size := by obtain ⟨m, hm⟩ := k1; exact DataW.trod_lt m _ _ _ hm
  obtain ⟨Z, m1, w1⟩ : ∃ Z : Nat → Int, len1 ≤ maxLen ∧ Rg.Row W a1 len1 fun j => .int .i64 (Z j) := by
    obtain ⟨fuel, hf⟩ := h1
    rcases open_ints Try.underlying22 Try.underlying2 (by kernel_rfl) hf with ⟨hcs, _⟩ | ⟨x, l, c, zs, hcs, _, hl, hm, hz, _, hcell, _⟩
    · simp [Value.cells] at hcs
      obtain ⟨rfl, rfl, rfl⟩ := hcs
      exact ⟨fun _ => 0, by decide, fun h => absurd h (by decide)⟩
    · simp [Value.cells] at hcs
      obtain ⟨rfl, rfl, rfl⟩ := hcs
      exact ⟨fun j => zs.getD j 0, Nat.le_trans hl hm, Rg.row_of (m := zs.length) (by simp at hz; omega) hcell⟩
  obtain ⟨a2, len2, cap2, rfl⟩ := okWide_slice Try.underlying23 (hval 2 23 v2 rfl rfl)
  have k2 := h2
  have lt2 : ∀ x ∈ p2, x.block < W.heap.size := by obtain ⟨m, hm⟩ := k2; exact DataW.trod_lt m _ _ _ hm
  obtain ⟨N, m2, n2, w2⟩ : ∃ N : Nat → ByteArray, len2 ≤ maxLen ∧ (∀ j, j < len2 → (N j).size ≤ maxLen) ∧ Rg.Row W a2 len2 fun j => .string (N j) := by
    obtain ⟨fuel, hf⟩ := h2
    rcases open_strings Try.underlying23 Try.underlying9 (by kernel_rfl) hf with ⟨hcs, _⟩ | ⟨x, l, c, ss, hcs, _, hl, hm, hz, _, hcell, hws⟩
    · simp [Value.cells] at hcs
      obtain ⟨rfl, rfl, rfl⟩ := hcs
      exact ⟨fun _ => ByteArray.empty, by decide, fun j h => by omega, fun h => absurd h (by decide)⟩
    · simp [Value.cells] at hcs
      obtain ⟨rfl, rfl, rfl⟩ := hcs
      have hz' : ss.length = cap2 := by simpa using hz
      refine ⟨fun j => ss.getD j ByteArray.empty, Nat.le_trans hl hm, fun j hj => ?_, Rg.row_of (m := ss.length) (by omega) hcell⟩
      have hj' : j < ss.length := by omega
      have : ss.getD j ByteArray.empty = ss[j] := by simp [hj']
      show (ss.getD j ByteArray.empty).size ≤ maxLen
      rw [this]
      exact hws _ (List.getElem_mem hj')
  obtain ⟨a3, len3, cap3, rfl⟩ := okWide_slice Try.underlying34 (hval 3 34 v3 rfl rfl)
  have k3 := h3
  have lt3 : ∀ x ∈ p3, x.block < W.heap.size := by obtain ⟨m, hm⟩ := k3; exact DataW.trod_lt m _ _ _ hm
  obtain ⟨B, m3, w3⟩ : ∃ B : Nat → Bool, len3 ≤ maxLen ∧ Rg.Row W a3 len3 fun j => .bool (B j) := by
    obtain ⟨fuel, hf⟩ := h3
    rcases Go.Deep.open_bools Try.underlying34 Try.underlying4 (by kernel_rfl) hf with ⟨hcs, _⟩ | ⟨x, l, c, B, hcs, _, hl, hm, _, hcell⟩
    · simp [Value.cells] at hcs
      obtain ⟨rfl, rfl, rfl⟩ := hcs
      exact ⟨fun _ => false, by decide, fun h => absurd h (by decide)⟩
    · simp [Value.cells] at hcs
      obtain ⟨rfl, rfl, rfl⟩ := hcs
      exact ⟨B, Nat.le_trans hl hm, Rg.row_of hl hcell⟩
  clear hA0 hval0
  refine (walk a0 a1 len1 cap1 a2 len2 cap2 a3 len3 cap3 Z N B W w0 m1 m2 m3 n2 w1 w2 w3).mono fun e W' ⟨he, bel⟩ => ?_
  subst he
  exact ⟨_, rfl, _, _, _, [], _, [], hW', trodAll_mk1 (shut_bool Try.underlying4 _), (trodAll_cons_mk (shut_string Try.underlying9 w0) (trodAll_cons_mk (Below.trod laidOut (by kernel_rfl) (of_decide_eq_true (by kernel_rfl)) k1 bel lt1) (trodAll_cons_mk (Below.trod laidOut (by kernel_rfl) (of_decide_eq_true (by kernel_rfl)) k2 bel lt2) (trodAll_cons_mk (Below.trod laidOut (by kernel_rfl) (of_decide_eq_true (by kernel_rfl)) k3 bel lt3) trodAll_mk0)))), rfl, bel.frame _, fun h => by cases h⟩

theorem closed : joinedFacts Try.prog 5 Try.f5 Rows.fnRegistrationsOfExactSpec Rows.fnRegistrationsOfExactRow = true := by
  refine Head.and_mk (Head.and_mk (Head.and_mk (Head.and_mk (Head.and_mk (Head.and_mk (Head.and_mk ?_ Head.may) (Head.no_lift rfl)) (Head.made rfl)) ?_) ?_) ?_) ?_
  all_goals kernel_rfl

theorem over : Rows.fnRegistrationsOfExactRow.holds Try.pinned (OpenSpec.ofChange Rows.fnRegistrationsOfExactSpec) :=
  OpenClaim.holds_of_wide 5 Try.f5 rfl rfl rfl rfl rfl rfl rfl ⟨rfl, rfl, rfl, rfl, rfl⟩ rfl rfl rfl rfl rfl (by kernel_rfl) Try.func5 closed
    (of_decide_eq_true (by kernel_rfl)) (by unfold Func.isWrapper; first | (rw [if_pos (by decide +kernel)]; kernel_rfl) | (rw [if_neg (by decide +kernel)]; exact ⟨rfl, rfl⟩))
    (fun os started H enc _ => lifted os started H enc)

/-- ████ THE STATEMENT ████ -/
theorem proved : Rows.FnRegistrationsOfExactSaid := over
end Go.Proofs.Qxb6602989a.fnRegistrationsOfExact
