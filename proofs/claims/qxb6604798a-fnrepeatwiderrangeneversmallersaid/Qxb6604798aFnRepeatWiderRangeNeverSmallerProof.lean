/-
  A PROOF OF 'Rows.FnRepeatWiderRangeNeverSmallerSaid' in the frame that proof-skeleton.mjs wrote (turned from 'Grown' to 'Below'); the walk is ours.
-/
import Derived.Test.Qxb6604798aRows
import Derived.WalkKit
import Derived.ProofKit
import Derived.OpenShut
import Derived.ShutString
import Derived.ChangeOld
import Derived.Below
import Derived.Test.Qxb6604798aHead
import Derived.Test.Qxb6604798aReck
namespace Go.Proofs.Qxb6604798a.fnRepeatWiderRangeNeverSmaller
open Go.ChangeShapes Go.WideShapes Go.ChangeAt Go.RowKit
open Go.ChangeMaps (open_string shut_string)
set_option linter.unusedVariables false      -- a walk need not use every 'w<i>' (that an integer argument fits its kind)

theorem own : ownKnob Try.prog.godebug = none := by kernel_rfl

theorem bytes_any (a b : ByteArray) (p q r s t u : Int) (w : World) (h : a.size + b.size ≤ 1048576) :
    Calls Try.prog 11 #[.string a, .string b, .int .i64 p, .int .i64 q, .int .i64 r, .int .i64 s, .int .i64 t, .int .i64 u] w fun e w' => e = .returned (.bool true) ∧ w' = w := by
  go_enter Try.func11, Try.ntmps11
  go_wp2
  go_ret
  exact ⟨rfl, rfl⟩
theorem bytes_not (a b : ByteArray) (p q r s t u : Int) (w : World) (h0 : a.size ≤ 9223372036854775807) (h1 : b.size ≤ 9223372036854775807) (h : 1048576 < a.size + b.size) :
    Calls Try.prog 11 #[.string a, .string b, .int .i64 p, .int .i64 q, .int .i64 r, .int .i64 s, .int .i64 t, .int .i64 u] w fun e w' => e = .returned (.bool false) ∧ w' = w := by
  go_enter Try.func11, Try.ntmps11
  go_wp2
  all_goals (go_ret; exact ⟨rfl, rfl⟩)

/-- A wider range never reckons smaller, of numbers alone. -/
theorem wider_sz {l1 m1 l2 m2 la : Int} (h0 : 0 ≤ l2) (h1 : l2 ≤ l1) (h2 : l1 ≤ m1) (h3 : m1 ≤ m2) (hla : 0 ≤ la) : Rk.sz l1 m1 la ≤ Rk.sz l2 m2 la := by
  have hp : m1 * la ≤ m2 * la := Int.mul_le_mul_of_nonneg_right h3 hla
  unfold Rk.sz
  by_cases e1 : m1 = 0
  · rw [if_pos e1]
    omega
  · rw [if_neg e1, if_neg (show ¬ m1 < 0 by omega), if_neg (show ¬ m2 = 0 by omega), if_neg (show ¬ m2 < 0 by omega)]
    omega

theorem wider {l1 m1 l2 m2 co la : Int} (h0 : 0 ≤ l2) (h1 : l2 ≤ l1) (h2 : l1 ≤ m1) (h3 : m1 ≤ m2) (hla : 0 ≤ la) : Rk.repL l1 m1 la ≤ Rk.repL l2 m2 la ∧ Rk.repC l1 m1 co la ≤ Rk.repC l2 m2 co la := by
  have hs := wider_sz h0 h1 h2 h3 hla
  unfold Rk.repL Rk.repC
  by_cases e : la = 0
  · rw [if_pos e, if_pos e, if_pos e, if_pos e]
    omega
  · rw [if_neg e, if_neg e, if_neg e, if_neg e]
    by_cases e2 : co < 1073741824
    · rw [if_pos e2, if_pos e2]
      omega
    · rw [if_neg e2, if_neg e2]
      omega

theorem zzrep_gen (R G : Nat) (w : World) (ca fo : Bool) (al ba co la le mo : Int) (h : Rk.Is w R G ca fo al ba co la) (hl1 : 0 ≤ la) (hl2 : la ≤ 1073741824) (hc1 : 0 ≤ co) (hc2 : co ≤ 1073741824) (hle1 : 0 ≤ le) (hle2 : le ≤ 4294967296) (hm2 : mo ≤ 4294967296) :
    Calls Try.prog 9 #[.pointer (some ⟨R, 0, none⟩), .int .i64 le, .int .i64 mo] w fun e w' => ∃ c l, e = .returned (.tuple #[]) ∧ Rk.Is w' R G ca fo al ba c l ∧ Rk.Touch w w' R G ∧ Hid (c = Rk.repC le mo co la) ∧ Hid (l = Rk.repL le mo la) := by
  refine (Rk.zzrep_any R G w ca fo al ba co la le mo h hl1 hl2 hc1 hc2 hle1 hle2 hm2).mono ?_
  rintro e w' ⟨rfl, h1, h2⟩
  exact ⟨_, _, rfl, h1, h2, rfl, rfl⟩

set_option maxHeartbeats 2000000 in
theorem road (a0 a1 : ByteArray) (a2 a3 a4 a5 a6 a7 : Int) (w : World) (h0 : a0.size + a1.size ≤ 1048576) (k1 : 0 ≤ a6) (k2 : a6 ≤ a4) (k3 : a4 ≤ a5) (k4 : a5 ≤ a7) (k5 : a7 ≤ 4294967296) (hl1 : 0 ≤ a3) (hl2 : a3 ≤ 1073741824) (hc1 : 0 ≤ a2) (hc2 : a2 ≤ 1073741824) :
    Calls Try.prog 4 #[.string a0, .string a1, .int .i64 a2, .int .i64 a3, .int .i64 a4, .int .i64 a5, .int .i64 a6, .int .i64 a7] w fun e w' => e = .returned (.bool true) ∧ Below w.heap.size w w' := by
  go_enter Try.func4, Try.ntmps4
  go_wp2_with (go_at_call 11; refine (bytes_any _ _ _ _ _ _ _ _ _ h0).mono ?_; rintro e w' ⟨rfl, rfl⟩)
  refine (Rk.make_any _ _ _ _ _ _ _ _ _ _ _ _).mono ?_
  rintro e w1 ⟨rfl, hI1, hb1, hs1⟩
  have HS1 : Hid (w1.heap.size = w'.heap.size + 2) := hs1
  clear hs1
  go_wp2_with fail
  refine (Rk.make_any _ _ _ _ _ _ _ _ _ _ _ _).mono ?_
  rintro e w2 ⟨rfl, hI2, hb2, hs2⟩
  have HS2 : Hid (w2.heap.size = w1.heap.size + 2) := hs2
  clear hs2
  have hI1b := hI1.below hb2
  go_wp2_with fail
  refine (zzrep_gen _ _ _ _ _ _ _ _ _ _ _ hI1b hl1 hl2 hc1 hc2 (by omega) (by omega) (by omega)).mono ?_
  rintro e w3 ⟨c1, l1, rfl, hI1c, ht3, HC1, HL1⟩
  have hI2b := hI2.kept ht3 (by have := HS1.out; have := HS2.out; omega) (by have := HS1.out; have := HS2.out; omega) (by have := HS1.out; have := HS2.out; omega) (by have := HS1.out; have := HS2.out; omega)
  go_wp2_with fail
  refine (zzrep_gen _ _ _ _ _ _ _ _ _ _ _ hI2b hl1 hl2 hc1 hc2 (by omega) (by omega) (by omega)).mono ?_
  rintro e w4 ⟨c2, l2, rfl, hI2c, ht4, HC2, HL2⟩
  have hI1d := hI1c.kept ht4 (by have := HS1.out; have := HS2.out; omega) (by have := HS1.out; have := HS2.out; omega) (by have := HS1.out; have := HS2.out; omega) (by have := HS1.out; have := HS2.out; omega)
  go_wp2_with fail
  refine (Rk.at_any _ _ _ _ _ _ _ _ _ hI1d).mono ?_
  rintro e w5 ⟨rfl, hb5⟩
  have hI2d := hI2c.below hb5
  go_wp2_with fail
  refine (Rk.at_any _ _ _ _ _ _ _ _ _ hI2d).mono ?_
  rintro e w6 ⟨rfl, hb6⟩
  have hz3 := ht3.size
  have hz4 := ht4.size
  have hB : Below w'.heap.size w' w6 := by
    have g2 := hb1.trans (hb2.mono hb1.size)
    have g3 := g2.trans (ht3.below (B := w'.heap.size) (by have := HS1.out; have := HS2.out; omega) (by have := HS1.out; have := HS2.out; omega) (by have := HS1.out; have := HS2.out; omega))
    have g4 := g3.trans (ht4.below (B := w'.heap.size) (by have := HS1.out; have := HS2.out; omega) (by have := HS1.out; have := HS2.out; omega) (by have := HS1.out; have := HS2.out; omega))
    have g5 := g4.trans (hb5.mono g4.size)
    exact g5.trans (hb6.mono g5.size)
  have hw := wider (co := a2) k1 k2 k3 k4 hl1
  rw [← HL1.out, ← HL2.out, ← HC1.out, ← HC2.out] at hw
  obtain ⟨hw1, hw2⟩ := hw
  clear hI1 hI2 hI1b hI1c hI1d hI2b hI2c hI2d ht3 ht4 hb1 hb2 hb5 hb6 HS1 HS2 HC1 HL1 HC2 HL2 hz3 hz4
  go_wp2
  go_ret
  exact ⟨rfl, hB⟩

/-! ### THE WALK -/
set_option maxHeartbeats 4000000 in
theorem walk (a0 : ByteArray) (a1 : ByteArray) (a2 : Int) (a3 : Int) (a4 : Int) (a5 : Int) (a6 : Int) (a7 : Int) (w0 : a0.size ≤ maxLen) (w1 : a1.size ≤ maxLen) (w2 : (Lit.int .i64 a2).wf = true) (w3 : (Lit.int .i64 a3).wf = true) (w4 : (Lit.int .i64 a4).wf = true) (w5 : (Lit.int .i64 a5).wf = true) (w6 : (Lit.int .i64 a6).wf = true) (w7 : (Lit.int .i64 a7).wf = true) (w : World) :
    Calls Try.prog 4 #[.string a0, .string a1, .int .i64 a2, .int .i64 a3, .int .i64 a4, .int .i64 a5, .int .i64 a6, .int .i64 a7] w fun e w' => e = .returned (.bool true) ∧ Below w.heap.size w w' := by
  unfold maxLen at w0 w1
  by_cases h0 : a0.size + a1.size ≤ 1048576
  · by_cases k1 : a6 < 0
    · go_enter Try.func4, Try.ntmps4
      go_wp2_with (go_at_call 11; refine (bytes_any _ _ _ _ _ _ _ _ _ h0).mono ?_; rintro e w' ⟨rfl, rfl⟩)
      go_ret
      exact ⟨rfl, Below.refl _ _⟩
    · by_cases k2 : a4 < a6
      · go_enter Try.func4, Try.ntmps4
        go_wp2_with (go_at_call 11; refine (bytes_any _ _ _ _ _ _ _ _ _ h0).mono ?_; rintro e w' ⟨rfl, rfl⟩)
        go_ret
        exact ⟨rfl, Below.refl _ _⟩
      · by_cases k3 : a5 < a4
        · go_enter Try.func4, Try.ntmps4
          go_wp2_with (go_at_call 11; refine (bytes_any _ _ _ _ _ _ _ _ _ h0).mono ?_; rintro e w' ⟨rfl, rfl⟩)
          go_ret
          exact ⟨rfl, Below.refl _ _⟩
        · by_cases k4 : a7 < a5
          · go_enter Try.func4, Try.ntmps4
            go_wp2_with (go_at_call 11; refine (bytes_any _ _ _ _ _ _ _ _ _ h0).mono ?_; rintro e w' ⟨rfl, rfl⟩)
            go_ret
            exact ⟨rfl, Below.refl _ _⟩
          · by_cases k5 : 4294967296 < a7
            · go_enter Try.func4, Try.ntmps4
              go_wp2_with (go_at_call 11; refine (bytes_any _ _ _ _ _ _ _ _ _ h0).mono ?_; rintro e w' ⟨rfl, rfl⟩)
              go_ret
              exact ⟨rfl, Below.refl _ _⟩
            · by_cases k6 : a3 < 0
              · go_enter Try.func4, Try.ntmps4
                go_wp2_with (go_at_call 11; refine (bytes_any _ _ _ _ _ _ _ _ _ h0).mono ?_; rintro e w' ⟨rfl, rfl⟩)
                go_ret
                exact ⟨rfl, Below.refl _ _⟩
              · by_cases k7 : 1073741824 < a3
                · go_enter Try.func4, Try.ntmps4
                  go_wp2_with (go_at_call 11; refine (bytes_any _ _ _ _ _ _ _ _ _ h0).mono ?_; rintro e w' ⟨rfl, rfl⟩)
                  go_ret
                  exact ⟨rfl, Below.refl _ _⟩
                · by_cases k8 : a2 < 0
                  · go_enter Try.func4, Try.ntmps4
                    go_wp2_with (go_at_call 11; refine (bytes_any _ _ _ _ _ _ _ _ _ h0).mono ?_; rintro e w' ⟨rfl, rfl⟩)
                    go_ret
                    exact ⟨rfl, Below.refl _ _⟩
                  · by_cases k9 : 1073741824 < a2
                    · go_enter Try.func4, Try.ntmps4
                      go_wp2_with (go_at_call 11; refine (bytes_any _ _ _ _ _ _ _ _ _ h0).mono ?_; rintro e w' ⟨rfl, rfl⟩)
                      go_ret
                      exact ⟨rfl, Below.refl _ _⟩
                    · exact road a0 a1 a2 a3 a4 a5 a6 a7 w h0 (by omega) (by omega) (by omega) (by omega) (by omega) (by omega) (by omega) (by omega) (by omega)
  · go_enter Try.func4, Try.ntmps4
    go_wp2_with (go_at_call 11; refine (bytes_not _ _ _ _ _ _ _ _ _ w0 w1 (by omega)).mono ?_; rintro e w' ⟨rfl, rfl⟩)
    go_ret
    exact ⟨rfl, Below.refl _ _⟩

/-! ### THE ROW's STEP -/
set_option maxRecDepth 100000 in
theorem lifted (os : Os) (started : os.Started) (H : Type) (enc : TypeId × Value → H) :
    ReturnsInHanded {} Try.checked os 4 .any (Rows.fnRepeatWiderRangeNeverSmallerSpec.pre6 enc Try.prog Try.f4 Rows.fnRepeatWiderRangeNeverSmallerRow.domain false) (Rows.fnRepeatWiderRangeNeverSmallerSpec.post enc Try.prog Try.f4 false true false false) := by
  refine returnsInHanded_of_change (C := Try.checked) own started (by kernel_rfl) Try.func4
    (ChangeSpec.witness6 (enc := enc) (C := Try.checked) false ⟨#[], #[.string ByteArray.empty, .string ByteArray.empty, .int .i64 0, .int .i64 0, .int .i64 0, .int .i64 0, .int .i64 0, .int .i64 0], []⟩ 8 (by kernel_rfl) (by kernel_rfl) (by kernel_rfl) (by kernel_rfl)) ?_
  intro W base args ds gs before hval0 hW hcnd _
  have hval : ∀ (j : Nat) t v, Try.f4.params[j]? = some t → args[j]? = some v → Value.okWide Try.prog W .any base t v := hval0
  have hW' := hW
  obtain ⟨p, q, hA0, hV, rfl, hfz, hnd⟩ := hW
  have hA : DataW.TrodAll enc Try.prog W 0 (fun _ => true) true Try.f4.params.toList args.toList ds p := hA0
  rw [Try.params4] at hA hval
  obtain ⟨v0, vs0, d0, ds0, p0, q0, hargs, rfl, rfl, h0, r0⟩ := trodAll_cons hA
  obtain ⟨v1, vs1, d1, ds1, p1, q1, rfl, rfl, rfl, h1, r1⟩ := trodAll_cons r0
  obtain ⟨v2, vs2, d2, ds2, p2, q2, rfl, rfl, rfl, h2, r2⟩ := trodAll_cons r1
  obtain ⟨v3, vs3, d3, ds3, p3, q3, rfl, rfl, rfl, h3, r3⟩ := trodAll_cons r2
  obtain ⟨v4, vs4, d4, ds4, p4, q4, rfl, rfl, rfl, h4, r4⟩ := trodAll_cons r3
  obtain ⟨v5, vs5, d5, ds5, p5, q5, rfl, rfl, rfl, h5, r5⟩ := trodAll_cons r4
  obtain ⟨v6, vs6, d6, ds6, p6, q6, rfl, rfl, rfl, h6, r6⟩ := trodAll_cons r5
  obtain ⟨v7, vs7, d7, ds7, p7, q7, rfl, rfl, rfl, h7, r7⟩ := trodAll_cons r6
  obtain ⟨rfl, rfl, rfl⟩ := trodAll_nil r7
  obtain rfl : args = #[v0, v1, v2, v3, v4, v5, v6, v7] := by cases args; simp_all
  obtain ⟨rfl, rfl⟩ := trodVars_none hV
  obtain ⟨a0, rfl, rfl, rfl, w0⟩ := open_string Try.underlying9 (hval 0 9 v0 rfl rfl) h0
  obtain ⟨a1, rfl, rfl, rfl, w1⟩ := open_string Try.underlying9 (hval 1 9 v1 rfl rfl) h1
  obtain ⟨a2, rfl, rfl, rfl, w2⟩ := open_int Try.underlying2 (hval 2 2 v2 rfl rfl) h2
  obtain ⟨a3, rfl, rfl, rfl, w3⟩ := open_int Try.underlying2 (hval 3 2 v3 rfl rfl) h3
  obtain ⟨a4, rfl, rfl, rfl, w4⟩ := open_int Try.underlying3 (hval 4 3 v4 rfl rfl) h4
  obtain ⟨a5, rfl, rfl, rfl, w5⟩ := open_int Try.underlying3 (hval 5 3 v5 rfl rfl) h5
  obtain ⟨a6, rfl, rfl, rfl, w6⟩ := open_int Try.underlying3 (hval 6 3 v6 rfl rfl) h6
  obtain ⟨a7, rfl, rfl, rfl, w7⟩ := open_int Try.underlying3 (hval 7 3 v7 rfl rfl) h7
  clear hA0 hval0
  simp only [List.append_nil] at hW'
  refine (walk a0 a1 a2 a3 a4 a5 a6 a7 w0 w1 w2 w3 w4 w5 w6 w7 W).mono fun e W' ⟨he, hg⟩ => ?_
  subst he
  exact ⟨_, rfl, _, _, _, [], [], [], hW', trodAll_mk1 (shut_bool Try.underlying4 _), (trodAll_cons_mk (shut_string Try.underlying9 w0) (trodAll_cons_mk (shut_string Try.underlying9 w1) (trodAll_cons_mk (shut_int Try.underlying2 w2) (trodAll_cons_mk (shut_int Try.underlying2 w3) (trodAll_cons_mk (shut_int Try.underlying3 w4) (trodAll_cons_mk (shut_int Try.underlying3 w5) (trodAll_cons_mk (shut_int Try.underlying3 w6) (trodAll_cons_mk (shut_int Try.underlying3 w7) trodAll_mk0)))))))), rfl, hg.frame _, fun h => by cases h⟩

theorem closed : joinedFacts Try.prog 4 Try.f4 Rows.fnRepeatWiderRangeNeverSmallerSpec Rows.fnRepeatWiderRangeNeverSmallerRow = true := by
  refine Head.and_mk (Head.and_mk (Head.and_mk (Head.and_mk (Head.and_mk (Head.and_mk (Head.and_mk ?_ Head.may) (Head.no_lift rfl)) (Head.made rfl)) ?_) ?_) ?_) ?_
  all_goals kernel_rfl

theorem over : Rows.fnRepeatWiderRangeNeverSmallerRow.holds Try.pinned (OpenSpec.ofChange Rows.fnRepeatWiderRangeNeverSmallerSpec) :=
  OpenClaim.holds_of_wide 4 Try.f4 rfl rfl rfl rfl rfl rfl rfl ⟨rfl, rfl, rfl, rfl, rfl⟩ rfl rfl rfl rfl rfl (by kernel_rfl) Try.func4 closed
    (of_decide_eq_true (by kernel_rfl)) (by unfold Func.isWrapper; first | (rw [if_pos (by decide +kernel)]; kernel_rfl) | (rw [if_neg (by decide +kernel)]; exact ⟨rfl, rfl⟩))
    (fun os started H enc _ => lifted os started H enc)

/-- ████ THE STATEMENT ████ -/
theorem proved : Rows.FnRepeatWiderRangeNeverSmallerSaid :=
  over
end Go.Proofs.Qxb6604798a.fnRepeatWiderRangeNeverSmaller
