/-
  A PROOF OF 'Rows.FnBelowTotalAndReflexiveSaid' in the frame that proof-skeleton.mjs wrote (turned from 'Grown' to 'Below'); the walk is ours.
-/
import Derived.Test.Qxb6002466aRows
import Derived.WalkKit
import Derived.ProofKit
import Derived.OpenShut
import Derived.ShutString
import Derived.ChangeOld
import Derived.Below
import Derived.Test.Qxb6002466aHead
import Derived.Test.Qxb6002466aBel
namespace Go.Proofs.Qxb6002466a.fnBelowTotalAndReflexive
open Go.ChangeShapes Go.WideShapes Go.ChangeAt Go.RowKit
open Go.ChangeMaps (open_string shut_string)
set_option linter.unusedVariables false      -- a walk need not use every 'w<i>' (that an integer argument fits its kind)

theorem own : ownKnob Try.prog.godebug = none := by kernel_rfl

open Be in
/-- Both names together within the bound: the law's whole road. -/
theorem road_no (n d : ByteArray) (w : World) (h0 : n.size + d.size ≤ 65536) (h : bel n.data.toList d.data.toList = none) :
    Calls Try.prog 4 #[.string n, .string d] w fun e w' => e = .returned (.bool true) ∧ Below w.heap.size w w' := by
  have H : Hid (bel n.data.toList d.data.toList = none) := h
  clear h
  go_enter Try.func4, Try.ntmps4
  go_wp2_with (go_at_call 18; refine (bytes18_any _ _ _ (by omega)).mono ?_; rintro e w' ⟨rfl, rfl⟩)
  refine (zz_no _ _ _ (by omega) H.out).mono ?_
  rintro e w' ⟨rfl, rfl⟩
  go_wp2_with fail
  refine (zz_yes _ _ ⟨#[47]⟩ _ (by omega) (bel_self _)).mono ?_
  rintro e w' ⟨rfl, rfl⟩
  go_wp2
  go_ret
  exact ⟨rfl, Below.refl _ _⟩

open Be in
theorem road_root (n d : ByteArray) (w : World) (h0 : n.size + d.size ≤ 65536) (h : bel n.data.toList d.data.toList = some [47]) :
    Calls Try.prog 4 #[.string n, .string d] w fun e w' => e = .returned (.bool true) ∧ Below w.heap.size w w' := by
  have H : Hid (bel n.data.toList d.data.toList = some [47]) := h
  clear h
  go_enter Try.func4, Try.ntmps4
  go_wp2_with (go_at_call 18; refine (bytes18_any _ _ _ (by omega)).mono ?_; rintro e w' ⟨rfl, rfl⟩)
  refine (zz_yes _ _ ⟨#[47]⟩ _ (by omega) H.out).mono ?_
  rintro e w' ⟨rfl, rfl⟩
  go_wp2_with fail
  refine (zz_yes _ _ ⟨#[47]⟩ _ (by omega) (bel_self _)).mono ?_
  rintro e w' ⟨rfl, rfl⟩
  go_wp2
  go_ret
  exact ⟨rfl, Below.refl _ _⟩

open Be in
theorem road_rest (n d r : ByteArray) (w : World) (h0 : n.size + d.size ≤ 65536) (h : bel n.data.toList d.data.toList = some r.data.toList) (hr : r.data.toList ≠ [47]) (hp : 0 < r.size) (hc : r[0] = 47)
    (hs : ∃ p, n.data.toList = p ++ r.data.toList) (k : Nat) (hk : k + r.size = n.size) :
    Calls Try.prog 4 #[.string n, .string d] w fun e w' => e = .returned (.bool true) ∧ Below w.heap.size w w' := by
  have H : Hid (bel n.data.toList d.data.toList = some r.data.toList) := h
  have hz : ((r.size : Int) == 0) = false := by simp; intro e; rw [e] at hp; exact absurd hp (by decide)
  have hb : ((r[0].toNat : Int) != 47) = false := by rw [hc]; rfl
  have ht : (r.toList == [47]) = false := by rw [Lib.toList_data]; simpa using hr
  have HS : Hid (∃ p, n.data.toList = p ++ r.data.toList) := hs
  have HK : Hid (k + r.size = n.size) := hk
  clear h hr hc hs hk
  go_enter Try.func4, Try.ntmps4
  go_wp2_with (go_at_call 18; refine (bytes18_any _ _ _ (by omega)).mono ?_; rintro e w' ⟨rfl, rfl⟩)
  refine (zz_yes _ _ r _ (by omega) H.out).mono ?_
  rintro e w' ⟨rfl, rfl⟩
  go_wp2_with (go_at_call 19; refine (suffix_yes _ _ _ k HK.out (by omega) HS.out).mono ?_; rintro e w1 ⟨rfl, hb1⟩)
  refine (zz_yes _ _ ⟨#[47]⟩ _ (by omega) (bel_self _)).mono ?_
  rintro e w' ⟨rfl, rfl⟩
  go_wp2
  go_ret
  exact ⟨rfl, by assumption⟩

/-! ### THE WALK -/
theorem walk (a0 : ByteArray) (a1 : ByteArray) (w0 : a0.size ≤ maxLen) (w1 : a1.size ≤ maxLen) (w : World) :
    Calls Try.prog 4 #[.string a0, .string a1] w fun e w' => e = .returned (.bool true) ∧ Below w.heap.size w w' := by
  unfold maxLen at w0 w1
  by_cases h0 : a0.size + a1.size ≤ 65536
  · cases h : Be.bel a0.data.toList a1.data.toList with
    | none => exact road_no _ _ _ h0 h
    | some r =>
      obtain ⟨h1, h2⟩ := Be.bel_some h
      by_cases hr : r = [47]
      · subst hr
        exact road_root _ _ _ h0 h
      · rcases h2 with e | ⟨p, hp⟩
        · exact absurd e hr
        · cases r with
          | nil => cases h1
          | cons c t =>
            have hc : c = 47 := by simpa using h1
            obtain ⟨hs, hc1, _⟩ := Be.first_byte (r := ⟨(c :: t).toArray⟩) (c := c) (t := t) rfl
            refine road_rest a0 a1 ⟨(c :: t).toArray⟩ w h0 h hr hs (by rw [hc1]; exact hc) ⟨p, hp⟩ p.length ?_
            rw [Lib.size_eq, Lib.size_eq, hp]
            simp
  · by_cases h1 : a0.size + a1.size ≤ 1048576
    · go_enter Try.func4, Try.ntmps4
      go_wp2_with (go_at_call 18; refine (Be.bytes18_any _ _ _ h1).mono ?_; rintro e w' ⟨rfl, rfl⟩)
      go_ret
      exact ⟨rfl, Below.refl _ _⟩
    · go_enter Try.func4, Try.ntmps4
      go_wp2_with (go_at_call 18; refine (Be.bytes18_not _ _ _ w0 w1 (by omega)).mono ?_; rintro e w' ⟨rfl, rfl⟩)
      go_ret
      exact ⟨rfl, Below.refl _ _⟩

/-! ### THE ROW's STEP -/
set_option maxRecDepth 100000 in
theorem lifted (os : Os) (started : os.Started) (H : Type) (enc : TypeId × Value → H) :
    ReturnsInHanded {} Try.checked os 4 .any (Rows.fnBelowTotalAndReflexiveSpec.pre6 enc Try.prog Try.f4 Rows.fnBelowTotalAndReflexiveRow.domain false) (Rows.fnBelowTotalAndReflexiveSpec.post enc Try.prog Try.f4 false true false false) := by
  refine returnsInHanded_of_change (C := Try.checked) own started (by kernel_rfl) Try.func4
    (ChangeSpec.witness6 (enc := enc) (C := Try.checked) false ⟨#[], #[.string ByteArray.empty, .string ByteArray.empty], []⟩ 8 (by kernel_rfl) (by kernel_rfl) (by kernel_rfl) (by kernel_rfl)) ?_
  intro W base args ds gs before hval0 hW hcnd _
  have hval : ∀ (j : Nat) t v, Try.f4.params[j]? = some t → args[j]? = some v → Value.okWide Try.prog W .any base t v := hval0
  have hW' := hW
  obtain ⟨p, q, hA0, hV, rfl, hfz, hnd⟩ := hW
  have hA : DataW.TrodAll enc Try.prog W 0 (fun _ => true) true Try.f4.params.toList args.toList ds p := hA0
  rw [Try.params4] at hA hval
  obtain ⟨v0, vs0, d0, ds0, p0, q0, hargs, rfl, rfl, h0, r0⟩ := trodAll_cons hA
  obtain ⟨v1, vs1, d1, ds1, p1, q1, rfl, rfl, rfl, h1, r1⟩ := trodAll_cons r0
  obtain ⟨rfl, rfl, rfl⟩ := trodAll_nil r1
  obtain rfl : args = #[v0, v1] := by cases args; simp_all
  obtain ⟨rfl, rfl⟩ := trodVars_none hV
  obtain ⟨a0, rfl, rfl, rfl, w0⟩ := open_string Try.underlying9 (hval 0 9 v0 rfl rfl) h0
  obtain ⟨a1, rfl, rfl, rfl, w1⟩ := open_string Try.underlying9 (hval 1 9 v1 rfl rfl) h1
  clear hA0 hval0
  simp only [List.append_nil] at hW'
  refine (walk a0 a1 w0 w1 W).mono fun e W' ⟨he, hg⟩ => ?_
  subst he
  exact ⟨_, rfl, _, _, _, [], [], [], hW', trodAll_mk1 (shut_bool Try.underlying4 _), (trodAll_cons_mk (shut_string Try.underlying9 w0) (trodAll_cons_mk (shut_string Try.underlying9 w1) trodAll_mk0)), rfl, hg.frame _, fun h => by cases h⟩

theorem closed : joinedFacts Try.prog 4 Try.f4 Rows.fnBelowTotalAndReflexiveSpec Rows.fnBelowTotalAndReflexiveRow = true := by
  refine Head.and_mk (Head.and_mk (Head.and_mk (Head.and_mk (Head.and_mk (Head.and_mk (Head.and_mk ?_ Head.may) (Head.no_lift rfl)) (Head.made rfl)) ?_) ?_) ?_) ?_
  all_goals kernel_rfl

theorem over : Rows.fnBelowTotalAndReflexiveRow.holds Try.pinned (OpenSpec.ofChange Rows.fnBelowTotalAndReflexiveSpec) :=
  OpenClaim.holds_of_wide 4 Try.f4 rfl rfl rfl rfl rfl rfl rfl ⟨rfl, rfl, rfl, rfl, rfl⟩ rfl rfl rfl rfl rfl (by kernel_rfl) Try.func4 closed
    (of_decide_eq_true (by kernel_rfl)) (by unfold Func.isWrapper; first | (rw [if_pos (by decide +kernel)]; kernel_rfl) | (rw [if_neg (by decide +kernel)]; exact ⟨rfl, rfl⟩))
    (fun os started H enc _ => lifted os started H enc)

/-- ████ THE STATEMENT ████ -/
theorem proved : Rows.FnBelowTotalAndReflexiveSaid :=
  over
end Go.Proofs.Qxb6002466a.fnBelowTotalAndReflexive
