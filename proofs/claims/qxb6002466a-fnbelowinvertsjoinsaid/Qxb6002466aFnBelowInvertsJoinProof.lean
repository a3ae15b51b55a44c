/-
  A PROOF OF 'Rows.FnBelowInvertsJoinSaid' in the frame that proof-skeleton.mjs wrote (turned from 'Grown' to 'Below'); the walk is ours.
-/
import Derived.Test.Qxb6002466aRows
import Derived.WalkKit
import Derived.ProofKit
import Derived.OpenShut
import Derived.ShutString
import Derived.ChangeOld
import Derived.Below
import Derived.Test.Qxb6002466aHead
import Derived.Test.Qxb6002466aBel
namespace Go.Proofs.Qxb6002466a.fnBelowInvertsJoin
open Go.ChangeShapes Go.WideShapes Go.ChangeAt Go.RowKit
open Go.ChangeMaps (open_string shut_string)
set_option linter.unusedVariables false      -- a walk need not use every 'w<i>' (that an integer argument fits its kind)

theorem own : ownKnob Try.prog.godebug = none := by kernel_rfl

theorem wf_yes (s : ByteArray) (w : World) (hs : s.size ≤ 65536) (h : Be.WF s.data.toList) : Calls Try.prog 14 #[.string s] w fun e w' => e = .returned (.bool true) ∧ w' = w := by
  refine (Be.wf_any s w hs).mono ?_
  rintro e w' ⟨b, rfl, hb, rfl⟩
  rw [hb.2 h]
  exact ⟨rfl, rfl⟩
theorem wf_not (s : ByteArray) (w : World) (hs : s.size ≤ 65536) (h : ¬ Be.WF s.data.toList) : Calls Try.prog 14 #[.string s] w fun e w' => e = .returned (.bool false) ∧ w' = w := by
  refine (Be.wf_any s w hs).mono ?_
  rintro e w' ⟨b, rfl, hb, rfl⟩
  cases b with
  | true => exact absurd (hb.1 rfl) h
  | false => exact ⟨rfl, rfl⟩

open Be in
theorem road_join (d r : ByteArray) (w : World) (h0 : d.size + r.size ≤ 65536) (hw : WF d.data.toList) (hr : r.data.toList.head? = some 47) :
    Calls Try.prog 5 #[.string d, .string r] w fun e w' => e = .returned (.bool true) ∧ Below w.heap.size w w' := by
  have HJ := bel_join hw hr
  have HW : Hid (WF d.data.toList) := hw
  obtain ⟨c, t, e⟩ : ∃ c t, r.data.toList = c :: t := by
    cases h : r.data.toList with
    | nil => rw [h] at hr; cases hr
    | cons c t => exact ⟨c, t, rfl⟩
  obtain ⟨hp, hc, _⟩ := first_byte e
  have hb : ((r[0].toNat : Int) != 47) = false := by
    rw [e] at hr
    have : c = 47 := by simpa using hr
    rw [hc, this]
    rfl
  have hz : ((r.size : Int) == 0) = false := by simp; intro e; rw [e] at hp; exact absurd hp (by decide)
  clear hr e hc hw
  by_cases hd : d.data.toList = [47]
  · rw [if_pos hd] at HJ
    have H : Hid (bel r.data.toList d.data.toList = some r.data.toList) := HJ
    have ht : d.toList = [47] := by rw [Lib.toList_data]; exact hd
    clear HJ hd
    go_enter Try.func5, Try.ntmps5
    go_wp2_with (first
      | (go_at_call 20; refine (bytes20_any _ _ _ (by omega)).mono ?_; rintro e w' ⟨rfl, rfl⟩)
      | (go_at_call 14; refine (wf_yes _ _ (by omega) HW.out).mono ?_; rintro e w' ⟨rfl, rfl⟩)
      | (go_at_call 15; refine (zz_yes _ _ r _ (by omega) H.out).mono ?_; rintro e w' ⟨rfl, rfl⟩))
    go_ret
    exact ⟨rfl, Below.refl _ _⟩
  · rw [if_neg hd] at HJ
    have H : Hid (bel (d ++ r).data.toList d.data.toList = some r.data.toList) := by
      show bel (d ++ r).data.toList d.data.toList = _
      rw [show (d ++ r).data.toList = d.data.toList ++ r.data.toList from by simp]
      exact HJ
    have ht : (d.toList == [47]) = false := by rw [Lib.toList_data]; simpa using hd
    clear HJ hd
    go_enter Try.func5, Try.ntmps5
    go_wp2_with (first
      | (go_at_call 20; refine (bytes20_any _ _ _ (by omega)).mono ?_; rintro e w' ⟨rfl, rfl⟩)
      | (go_at_call 14; refine (wf_yes _ _ (by omega) HW.out).mono ?_; rintro e w' ⟨rfl, rfl⟩)
      | (go_at_call 15; refine (zz_yes _ _ r _ (by omega) H.out).mono ?_; rintro e w' ⟨rfl, rfl⟩))
    go_ret
    exact ⟨rfl, Below.refl _ _⟩

/-! ### THE WALK -/
theorem walk (a0 : ByteArray) (a1 : ByteArray) (w0 : a0.size ≤ maxLen) (w1 : a1.size ≤ maxLen) (w : World) :
    Calls Try.prog 5 #[.string a0, .string a1] w fun e w' => e = .returned (.bool true) ∧ Below w.heap.size w w' := by
  unfold maxLen at w0 w1
  by_cases h0 : a0.size + a1.size ≤ 65536
  · by_cases hw : Be.WF a0.data.toList
    · by_cases hr : a1.data.toList.head? = some 47
      · exact road_join a0 a1 w h0 hw hr
      · have HW : Hid (Be.WF a0.data.toList) := hw
        clear hw
        by_cases hz : a1.size = 0
        · have hz' : ((a1.size : Int) == 0) = true := by rw [hz]; rfl
          clear hz hr
          go_enter Try.func5, Try.ntmps5
          go_wp2_with (first
            | (go_at_call 20; refine (Be.bytes20_any _ _ _ (by omega)).mono ?_; rintro e w' ⟨rfl, rfl⟩)
            | (go_at_call 14; refine (wf_yes _ _ (by omega) HW.out).mono ?_; rintro e w' ⟨rfl, rfl⟩))
          go_ret
          exact ⟨rfl, Below.refl _ _⟩
        · have hp : 0 < a1.size := by omega
          have hz' : ((a1.size : Int) == 0) = false := by simp; intro e; rw [e] at hp; exact absurd hp (by decide)
          have hb : ((a1[0].toNat : Int) != 47) = true := by
            unfold bne
            rw [show ((a1[0].toNat : Int) == 47) = false from (Be.nthF hp 47).1 (by rw [← Be.head_at]; exact hr)]
            rfl
          clear hz hr
          go_enter Try.func5, Try.ntmps5
          go_wp2_with (first
            | (go_at_call 20; refine (Be.bytes20_any _ _ _ (by omega)).mono ?_; rintro e w' ⟨rfl, rfl⟩)
            | (go_at_call 14; refine (wf_yes _ _ (by omega) HW.out).mono ?_; rintro e w' ⟨rfl, rfl⟩))
          go_ret
          exact ⟨rfl, Below.refl _ _⟩
    · have HW : Hid (¬ Be.WF a0.data.toList) := hw
      clear hw
      go_enter Try.func5, Try.ntmps5
      go_wp2_with (first
        | (go_at_call 20; refine (Be.bytes20_any _ _ _ (by omega)).mono ?_; rintro e w' ⟨rfl, rfl⟩)
        | (go_at_call 14; refine (wf_not _ _ (by omega) HW.out).mono ?_; rintro e w' ⟨rfl, rfl⟩))
      go_ret
      exact ⟨rfl, Below.refl _ _⟩
  · by_cases h1 : a0.size + a1.size ≤ 1048576
    · go_enter Try.func5, Try.ntmps5
      go_wp2_with (go_at_call 20; refine (Be.bytes20_any _ _ _ h1).mono ?_; rintro e w' ⟨rfl, rfl⟩)
      go_ret
      exact ⟨rfl, Below.refl _ _⟩
    · go_enter Try.func5, Try.ntmps5
      go_wp2_with (go_at_call 20; refine (Be.bytes20_not _ _ _ w0 w1 (by omega)).mono ?_; rintro e w' ⟨rfl, rfl⟩)
      go_ret
      exact ⟨rfl, Below.refl _ _⟩

/-! ### THE ROW's STEP -/
set_option maxRecDepth 100000 in
theorem lifted (os : Os) (started : os.Started) (H : Type) (enc : TypeId × Value → H) :
    ReturnsInHanded {} Try.checked os 5 .any (Rows.fnBelowInvertsJoinSpec.pre6 enc Try.prog Try.f5 Rows.fnBelowInvertsJoinRow.domain false) (Rows.fnBelowInvertsJoinSpec.post enc Try.prog Try.f5 false true false false) := by
  refine returnsInHanded_of_change (C := Try.checked) own started (by kernel_rfl) Try.func5
    (ChangeSpec.witness6 (enc := enc) (C := Try.checked) false ⟨#[], #[.string ByteArray.empty, .string ByteArray.empty], []⟩ 8 (by kernel_rfl) (by kernel_rfl) (by kernel_rfl) (by kernel_rfl)) ?_
  intro W base args ds gs before hval0 hW hcnd _
  have hval : ∀ (j : Nat) t v, Try.f5.params[j]? = some t → args[j]? = some v → Value.okWide Try.prog W .any base t v := hval0
  have hW' := hW
  obtain ⟨p, q, hA0, hV, rfl, hfz, hnd⟩ := hW
  have hA : DataW.TrodAll enc Try.prog W 0 (fun _ => true) true Try.f5.params.toList args.toList ds p := hA0
  rw [Try.params5] at hA hval
  obtain ⟨v0, vs0, d0, ds0, p0, q0, hargs, rfl, rfl, h0, r0⟩ := trodAll_cons hA
  obtain ⟨v1, vs1, d1, ds1, p1, q1, rfl, rfl, rfl, h1, r1⟩ := trodAll_cons r0
  obtain ⟨rfl, rfl, rfl⟩ := trodAll_nil r1
  obtain rfl : args = #[v0, v1] := by cases args; simp_all
  obtain ⟨rfl, rfl⟩ := trodVars_none hV
  obtain ⟨a0, rfl, rfl, rfl, w0⟩ := open_string Try.underlying9 (hval 0 9 v0 rfl rfl) h0
  obtain ⟨a1, rfl, rfl, rfl, w1⟩ := open_string Try.underlying9 (hval 1 9 v1 rfl rfl) h1
  clear hA0 hval0
  simp only [List.append_nil] at hW'
  refine (walk a0 a1 w0 w1 W).mono fun e W' ⟨he, hg⟩ => ?_
  subst he
  exact ⟨_, rfl, _, _, _, [], [], [], hW', trodAll_mk1 (shut_bool Try.underlying4 _), (trodAll_cons_mk (shut_string Try.underlying9 w0) (trodAll_cons_mk (shut_string Try.underlying9 w1) trodAll_mk0)), rfl, hg.frame _, fun h => by cases h⟩

theorem closed : joinedFacts Try.prog 5 Try.f5 Rows.fnBelowInvertsJoinSpec Rows.fnBelowInvertsJoinRow = true := by
  refine Head.and_mk (Head.and_mk (Head.and_mk (Head.and_mk (Head.and_mk (Head.and_mk (Head.and_mk ?_ Head.may) (Head.no_lift rfl)) (Head.made rfl)) ?_) ?_) ?_) ?_
  all_goals kernel_rfl

theorem over : Rows.fnBelowInvertsJoinRow.holds Try.pinned (OpenSpec.ofChange Rows.fnBelowInvertsJoinSpec) :=
  OpenClaim.holds_of_wide 5 Try.f5 rfl rfl rfl rfl rfl rfl rfl ⟨rfl, rfl, rfl, rfl, rfl⟩ rfl rfl rfl rfl rfl (by kernel_rfl) Try.func5 closed
    (of_decide_eq_true (by kernel_rfl)) (by unfold Func.isWrapper; first | (rw [if_pos (by decide +kernel)]; kernel_rfl) | (rw [if_neg (by decide +kernel)]; exact ⟨rfl, rfl⟩))
    (fun os started H enc _ => lifted os started H enc)

/-- ████ THE STATEMENT ████ -/
theorem proved : Rows.FnBelowInvertsJoinSaid :=
  over
end Go.Proofs.Qxb6002466a.fnBelowInvertsJoin
