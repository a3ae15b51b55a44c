/-
  A PROOF OF 'Rows.FnRepeatKeepsSizeInvariantSaid' in the frame that proof-skeleton.mjs wrote (turned from 'Grown' to 'Below'); the walk is ours.
-/
import Derived.Test.Qxb6604798aRows
import Derived.WalkKit
import Derived.ProofKit
import Derived.OpenShut
import Derived.ShutString
import Derived.ChangeOld
import Derived.Below
import Derived.Test.Qxb6604798aHead
import Derived.Test.Qxb6604798aReck
namespace Go.Proofs.Qxb6604798a.fnRepeatKeepsSizeInvariant
open Go.ChangeShapes Go.WideShapes Go.ChangeAt Go.RowKit
open Go.ChangeMaps (open_string shut_string)
set_option linter.unusedVariables false      -- a walk need not use every 'w<i>' (that an integer argument fits its kind)

theorem own : ownKnob Try.prog.godebug = none := by kernel_rfl

theorem bytes_any (a b : ByteArray) (x y z : Bool) (p q r s t u : Int) (w : World) (h : a.size + b.size ≤ 1048576) :
    Calls Try.prog 7 #[.string a, .string b, .bool x, .bool y, .bool z, .int .i64 p, .int .i64 q, .int .i64 r, .int .i64 s, .int .i64 t, .int .i64 u] w fun e w' => e = .returned (.bool true) ∧ w' = w := by
  go_enter Try.func7, Try.ntmps7
  go_wp2
  go_ret
  exact ⟨rfl, rfl⟩
theorem bytes_not (a b : ByteArray) (x y z : Bool) (p q r s t u : Int) (w : World) (h0 : a.size ≤ 9223372036854775807) (h1 : b.size ≤ 9223372036854775807) (h : 1048576 < a.size + b.size) :
    Calls Try.prog 7 #[.string a, .string b, .bool x, .bool y, .bool z, .int .i64 p, .int .i64 q, .int .i64 r, .int .i64 s, .int .i64 t, .int .i64 u] w fun e w' => e = .returned (.bool false) ∧ w' = w := by
  go_enter Try.func7, Try.ntmps7
  go_wp2
  all_goals (go_ret; exact ⟨rfl, rfl⟩)

/-- What repeat keeps, of numbers alone. -/
theorem keeps {le mo co la : Int} (hl1 : 0 ≤ la) (hlc : la ≤ co) (hc2 : co ≤ 1073741824) :
    0 ≤ Rk.repL le mo la ∧ Rk.repL le mo la ≤ Rk.repC le mo co la ∧ Rk.repC le mo co la ≤ 1073741824 ∧ ((Rk.repL le mo la == 0) = (la == 0)) ∧ (Rk.repC le mo co la < 1073741824 → Rk.repC le mo co la - Rk.repL le mo la = co - la) := by
  unfold Rk.repL Rk.repC
  by_cases h0 : la = 0
  · subst h0
    simp
    omega
  · have hs : 1 ≤ Rk.sz le mo la ∧ Rk.sz le mo la ≤ 1073741824 := by unfold Rk.sz; omega
    have e1 : (Rk.sz le mo la == 0) = false := by simp; omega
    have e2 : (la == 0) = false := by simpa using h0
    rw [if_neg h0, if_neg h0, e1, e2]
    by_cases h1 : co < 1073741824
    · rw [if_pos h1]
      exact ⟨by omega, by omega, by omega, rfl, fun _ => by omega⟩
    · rw [if_neg h1]
      exact ⟨by omega, by omega, by omega, rfl, fun _ => by omega⟩

theorem zzrep_inv (R G : Nat) (w : World) (ca fo : Bool) (al ba co la le mo : Int) (h : Rk.Is w R G ca fo al ba co la) (hl1 : 0 ≤ la) (hlc : la ≤ co) (hc2 : co ≤ 1073741824) (hle1 : 0 ≤ le) (hle2 : le ≤ 4294967296) (hm2 : mo ≤ 4294967296) :
    Calls Try.prog 9 #[.pointer (some ⟨R, 0, none⟩), .int .i64 le, .int .i64 mo] w fun e w' => ∃ c2 l2, e = .returned (.tuple #[]) ∧ Rk.Is w' R G ca fo al ba c2 l2 ∧ Rk.Touch w w' R G ∧ 0 ≤ l2 ∧ l2 ≤ c2 ∧ c2 ≤ 1073741824 ∧ ((l2 == 0) = (la == 0)) ∧ (c2 < 1073741824 → c2 - l2 = co - la) := by
  refine (Rk.zzrep_any R G w ca fo al ba co la le mo h hl1 (by omega) (by omega) hc2 hle1 hle2 hm2).mono ?_
  rintro e w' ⟨rfl, h1, h2⟩
  exact ⟨_, _, rfl, h1, h2, keeps hl1 hlc hc2⟩

set_option maxHeartbeats 1000000 in
theorem road (a0 a1 : ByteArray) (a2 a3 a4 : Bool) (a5 a6 a7 a8 a9 a10 : Int) (w : World) (h0 : a0.size + a1.size ≤ 1048576) (hle1 : 0 ≤ a9) (hle2 : a9 ≤ 4294967296) (hm2 : a10 ≤ 4294967296) (hl1 : 0 ≤ a8) (hlc : a8 ≤ a7) (hc2 : a7 ≤ 1073741824) :
    Calls Try.prog 3 #[.string a0, .string a1, .bool a2, .bool a3, .bool a4, .int .i64 a5, .int .i64 a6, .int .i64 a7, .int .i64 a8, .int .i64 a9, .int .i64 a10] w fun e w' => e = .returned (.bool true) ∧ Below w.heap.size w w' := by
  obtain ⟨b, hb⟩ : ∃ b, (a8 == 0) = b := ⟨_, rfl⟩
  go_enter Try.func3, Try.ntmps3
  go_wp2_with (go_at_call 7; refine (bytes_any _ _ _ _ _ _ _ _ _ _ _ _ h0).mono ?_; rintro e w' ⟨rfl, rfl⟩)
  refine (Rk.make_any _ _ _ _ _ _ _ _ _ _ _ _).mono ?_
  rintro e w1 ⟨rfl, hI1, hb1, hs1⟩
  go_wp2_with fail
  refine (zzrep_inv _ _ _ _ _ _ _ _ _ _ _ hI1 hl1 hlc hc2 hle1 hle2 hm2).mono ?_
  rintro e w2 ⟨c2, l2, rfl, hI2, ht2, k1, k2, k3, k4, k5⟩
  rw [hb] at k4
  go_wp2_with fail
  refine (Rk.at_any _ _ _ _ _ _ _ _ _ hI2).mono ?_
  rintro e w3 ⟨rfl, hb3⟩
  have hB : Below w'.heap.size w' w3 := by
    have h2 : Below w'.heap.size w1 w2 := ht2.below (by omega) (Nat.le_refl _) (by omega)
    have h12 := hb1.trans h2
    exact h12.trans (hb3.mono h12.size)
  clear hI1 hI2 ht2 hb1 hb3 hs1
  by_cases hC : c2 < 1073741824
  · have hd : (c2 - l2 != a7 - a8) = false := by rw [k5 hC]; simp
    clear k5
    go_wp2
    go_ret
    exact ⟨rfl, hB⟩
  · clear k5
    go_wp2
    go_ret
    exact ⟨rfl, hB⟩

/-! ### THE WALK -/
set_option maxHeartbeats 2000000 in
theorem walk (a0 : ByteArray) (a1 : ByteArray) (a2 : Bool) (a3 : Bool) (a4 : Bool) (a5 : Int) (a6 : Int) (a7 : Int) (a8 : Int) (a9 : Int) (a10 : Int) (w0 : a0.size ≤ maxLen) (w1 : a1.size ≤ maxLen) (w5 : (Lit.int .i64 a5).wf = true) (w6 : (Lit.int .i64 a6).wf = true) (w7 : (Lit.int .i64 a7).wf = true) (w8 : (Lit.int .i64 a8).wf = true) (w9 : (Lit.int .i64 a9).wf = true) (w10 : (Lit.int .i64 a10).wf = true) (w : World) :
    Calls Try.prog 3 #[.string a0, .string a1, .bool a2, .bool a3, .bool a4, .int .i64 a5, .int .i64 a6, .int .i64 a7, .int .i64 a8, .int .i64 a9, .int .i64 a10] w fun e w' => e = .returned (.bool true) ∧ Below w.heap.size w w' := by
  unfold maxLen at w0 w1
  by_cases h0 : a0.size + a1.size ≤ 1048576
  · by_cases h1 : a9 < 0
    · go_enter Try.func3, Try.ntmps3
      go_wp2_with (go_at_call 7; refine (bytes_any _ _ _ _ _ _ _ _ _ _ _ _ h0).mono ?_; rintro e w' ⟨rfl, rfl⟩)
      go_ret
      exact ⟨rfl, Below.refl _ _⟩
    · by_cases h2 : 4294967296 < a9
      · go_enter Try.func3, Try.ntmps3
        go_wp2_with (go_at_call 7; refine (bytes_any _ _ _ _ _ _ _ _ _ _ _ _ h0).mono ?_; rintro e w' ⟨rfl, rfl⟩)
        go_ret
        exact ⟨rfl, Below.refl _ _⟩
      · by_cases h3 : 4294967296 < a10
        · go_enter Try.func3, Try.ntmps3
          go_wp2_with (go_at_call 7; refine (bytes_any _ _ _ _ _ _ _ _ _ _ _ _ h0).mono ?_; rintro e w' ⟨rfl, rfl⟩)
          go_ret
          exact ⟨rfl, Below.refl _ _⟩
        · by_cases h4 : a8 < 0
          · go_enter Try.func3, Try.ntmps3
            go_wp2_with (go_at_call 7; refine (bytes_any _ _ _ _ _ _ _ _ _ _ _ _ h0).mono ?_; rintro e w' ⟨rfl, rfl⟩)
            go_ret
            exact ⟨rfl, Below.refl _ _⟩
          · by_cases h5 : a7 < a8
            · go_enter Try.func3, Try.ntmps3
              go_wp2_with (go_at_call 7; refine (bytes_any _ _ _ _ _ _ _ _ _ _ _ _ h0).mono ?_; rintro e w' ⟨rfl, rfl⟩)
              go_ret
              exact ⟨rfl, Below.refl _ _⟩
            · by_cases h6 : 1073741824 < a7
              · go_enter Try.func3, Try.ntmps3
                go_wp2_with (go_at_call 7; refine (bytes_any _ _ _ _ _ _ _ _ _ _ _ _ h0).mono ?_; rintro e w' ⟨rfl, rfl⟩)
                go_ret
                exact ⟨rfl, Below.refl _ _⟩
              · exact road a0 a1 a2 a3 a4 a5 a6 a7 a8 a9 a10 w h0 (by omega) (by omega) (by omega) (by omega) (by omega) (by omega)
  · go_enter Try.func3, Try.ntmps3
    go_wp2_with (go_at_call 7; refine (bytes_not _ _ _ _ _ _ _ _ _ _ _ _ w0 w1 (by omega)).mono ?_; rintro e w' ⟨rfl, rfl⟩)
    go_ret
    exact ⟨rfl, Below.refl _ _⟩

/-! ### THE ROW's STEP -/
set_option maxRecDepth 100000 in
theorem lifted (os : Os) (started : os.Started) (H : Type) (enc : TypeId × Value → H) :
    ReturnsInHanded {} Try.checked os 3 .any (Rows.fnRepeatKeepsSizeInvariantSpec.pre6 enc Try.prog Try.f3 Rows.fnRepeatKeepsSizeInvariantRow.domain false) (Rows.fnRepeatKeepsSizeInvariantSpec.post enc Try.prog Try.f3 false true false false) := by
  refine returnsInHanded_of_change (C := Try.checked) own started (by kernel_rfl) Try.func3
    (ChangeSpec.witness6 (enc := enc) (C := Try.checked) false ⟨#[], #[.string ByteArray.empty, .string ByteArray.empty, .bool false, .bool false, .bool false, .int .i64 0, .int .i64 0, .int .i64 0, .int .i64 0, .int .i64 0, .int .i64 0], []⟩ 8 (by kernel_rfl) (by kernel_rfl) (by kernel_rfl) (by kernel_rfl)) ?_
  intro W base args ds gs before hval0 hW hcnd _
  have hval : ∀ (j : Nat) t v, Try.f3.params[j]? = some t → args[j]? = some v → Value.okWide Try.prog W .any base t v := hval0
  have hW' := hW
  obtain ⟨p, q, hA0, hV, rfl, hfz, hnd⟩ := hW
  have hA : DataW.TrodAll enc Try.prog W 0 (fun _ => true) true Try.f3.params.toList args.toList ds p := hA0
  rw [Try.params3] at hA hval
  obtain ⟨v0, vs0, d0, ds0, p0, q0, hargs, rfl, rfl, h0, r0⟩ := trodAll_cons hA
  obtain ⟨v1, vs1, d1, ds1, p1, q1, rfl, rfl, rfl, h1, r1⟩ := trodAll_cons r0
  obtain ⟨v2, vs2, d2, ds2, p2, q2, rfl, rfl, rfl, h2, r2⟩ := trodAll_cons r1
  obtain ⟨v3, vs3, d3, ds3, p3, q3, rfl, rfl, rfl, h3, r3⟩ := trodAll_cons r2
  obtain ⟨v4, vs4, d4, ds4, p4, q4, rfl, rfl, rfl, h4, r4⟩ := trodAll_cons r3
  obtain ⟨v5, vs5, d5, ds5, p5, q5, rfl, rfl, rfl, h5, r5⟩ := trodAll_cons r4
  obtain ⟨v6, vs6, d6, ds6, p6, q6, rfl, rfl, rfl, h6, r6⟩ := trodAll_cons r5
  obtain ⟨v7, vs7, d7, ds7, p7, q7, rfl, rfl, rfl, h7, r7⟩ := trodAll_cons r6
  obtain ⟨v8, vs8, d8, ds8, p8, q8, rfl, rfl, rfl, h8, r8⟩ := trodAll_cons r7
  obtain ⟨v9, vs9, d9, ds9, p9, q9, rfl, rfl, rfl, h9, r9⟩ := trodAll_cons r8
  obtain ⟨v10, vs10, d10, ds10, p10, q10, rfl, rfl, rfl, h10, r10⟩ := trodAll_cons r9
  obtain ⟨rfl, rfl, rfl⟩ := trodAll_nil r10
  obtain rfl : args = #[v0, v1, v2, v3, v4, v5, v6, v7, v8, v9, v10] := by cases args; simp_all
  obtain ⟨rfl, rfl⟩ := trodVars_none hV
  obtain ⟨a0, rfl, rfl, rfl, w0⟩ := open_string Try.underlying9 (hval 0 9 v0 rfl rfl) h0
  obtain ⟨a1, rfl, rfl, rfl, w1⟩ := open_string Try.underlying9 (hval 1 9 v1 rfl rfl) h1
  obtain ⟨a2, rfl, rfl, rfl⟩ := open_bool Try.underlying4 (hval 2 4 v2 rfl rfl) h2
  obtain ⟨a3, rfl, rfl, rfl⟩ := open_bool Try.underlying4 (hval 3 4 v3 rfl rfl) h3
  obtain ⟨a4, rfl, rfl, rfl⟩ := open_bool Try.underlying4 (hval 4 4 v4 rfl rfl) h4
  obtain ⟨a5, rfl, rfl, rfl, w5⟩ := open_int Try.underlying2 (hval 5 2 v5 rfl rfl) h5
  obtain ⟨a6, rfl, rfl, rfl, w6⟩ := open_int Try.underlying3 (hval 6 3 v6 rfl rfl) h6
  obtain ⟨a7, rfl, rfl, rfl, w7⟩ := open_int Try.underlying2 (hval 7 2 v7 rfl rfl) h7
  obtain ⟨a8, rfl, rfl, rfl, w8⟩ := open_int Try.underlying2 (hval 8 2 v8 rfl rfl) h8
  obtain ⟨a9, rfl, rfl, rfl, w9⟩ := open_int Try.underlying3 (hval 9 3 v9 rfl rfl) h9
  obtain ⟨a10, rfl, rfl, rfl, w10⟩ := open_int Try.underlying3 (hval 10 3 v10 rfl rfl) h10
  clear hA0 hval0
  simp only [List.append_nil] at hW'
  refine (walk a0 a1 a2 a3 a4 a5 a6 a7 a8 a9 a10 w0 w1 w5 w6 w7 w8 w9 w10 W).mono fun e W' ⟨he, hg⟩ => ?_
  subst he
  exact ⟨_, rfl, _, _, _, [], [], [], hW', trodAll_mk1 (shut_bool Try.underlying4 _), (trodAll_cons_mk (shut_string Try.underlying9 w0) (trodAll_cons_mk (shut_string Try.underlying9 w1) (trodAll_cons_mk (shut_bool Try.underlying4 _) (trodAll_cons_mk (shut_bool Try.underlying4 _) (trodAll_cons_mk (shut_bool Try.underlying4 _) (trodAll_cons_mk (shut_int Try.underlying2 w5) (trodAll_cons_mk (shut_int Try.underlying3 w6) (trodAll_cons_mk (shut_int Try.underlying2 w7) (trodAll_cons_mk (shut_int Try.underlying2 w8) (trodAll_cons_mk (shut_int Try.underlying3 w9) (trodAll_cons_mk (shut_int Try.underlying3 w10) trodAll_mk0))))))))))), rfl, hg.frame _, fun h => by cases h⟩

theorem closed : joinedFacts Try.prog 3 Try.f3 Rows.fnRepeatKeepsSizeInvariantSpec Rows.fnRepeatKeepsSizeInvariantRow = true := by
  refine Head.and_mk (Head.and_mk (Head.and_mk (Head.and_mk (Head.and_mk (Head.and_mk (Head.and_mk ?_ Head.may) (Head.no_lift rfl)) (Head.made rfl)) ?_) ?_) ?_) ?_
  all_goals kernel_rfl

theorem over : Rows.fnRepeatKeepsSizeInvariantRow.holds Try.pinned (OpenSpec.ofChange Rows.fnRepeatKeepsSizeInvariantSpec) :=
  OpenClaim.holds_of_wide 3 Try.f3 rfl rfl rfl rfl rfl rfl rfl ⟨rfl, rfl, rfl, rfl, rfl⟩ rfl rfl rfl rfl rfl (by kernel_rfl) Try.func3 closed
    (of_decide_eq_true (by kernel_rfl)) (by unfold Func.isWrapper; first | (rw [if_pos (by decide +kernel)]; kernel_rfl) | (rw [if_neg (by decide +kernel)]; exact ⟨rfl, rfl⟩))
    (fun os started H enc _ => lifted os started H enc)

/-- ████ THE STATEMENT ████ -/
theorem proved : Rows.FnRepeatKeepsSizeInvariantSaid :=
  over
end Go.Proofs.Qxb6604798a.fnRepeatKeepsSizeInvariant
