/-
  A PROOF OF 'Rows.FnCleanMatchesStackModelSaid' in the frame that proof-skeleton.mjs wrote (turned from 'Grown' to 'Below'); the walk is ours.
-/
import Derived.Test.Qxb6002466aRows
import Derived.WalkKit
import Derived.ProofKit
import Derived.OpenShut
import Derived.ShutString
import Derived.ChangeOld
import Derived.Below
import Derived.Test.Qxb6002466aHead
import Derived.Test.Qxb6002466aShelf
import Derived.Test.Qxb6002466aModel
namespace Go.Proofs.Qxb6002466a.fnCleanMatchesStackModel
open Go.ChangeShapes Go.WideShapes Go.ChangeAt Go.RowKit
open Go.ChangeMaps (open_string shut_string)
set_option linter.unusedVariables false      -- a walk need not use every 'w<i>' (that an integer argument fits its kind)

theorem own : ownKnob Try.prog.godebug = none := by kernel_rfl

/-- zzBytes: the bound holds, or not. -/
theorem bytes_any (s : ByteArray) (w : World) (h : s.size ≤ 1048576) : Calls Try.prog 25 #[.string s] w fun e w' => e = .returned (.bool true) ∧ w' = w := by
  go_enter Try.func25, Try.ntmps25
  go_wp2
  go_ret
  exact ⟨rfl, rfl⟩
theorem bytes_not (s : ByteArray) (w : World) (h : 1048576 < s.size) : Calls Try.prog 25 #[.string s] w fun e w' => e = .returned (.bool false) ∧ w' = w := by
  go_enter Try.func25, Try.ntmps25
  go_wp2
  go_ret
  exact ⟨rfl, rfl⟩

theorem hasPrefix_slash (l : List UInt8) : Lib.hasPrefix l [47] = (l.head? == some 47) := by
  cases l with
  | nil => rfl
  | cons c t => simp [Lib.hasPrefix, List.isPrefixOf]; rw [Bool.eq_iff_iff]; simp; exact eq_comm

/-- underglass.Clean: what the model gives. -/
theorem clean_any (s : ByteArray) (w : World) (h : s.size ≤ 65536) :
    Calls Try.prog 26 #[.string s] w fun e w' => e = .returned (.string ⟨(Pl.model s.data.toList).toArray⟩) ∧ Below w.heap.size w w' := by
  have hm := Pl.model_eq s.data.toList
  unfold Pl.rooted at hm
  have hp := hasPrefix_slash s.data.toList
  by_cases h47 : s.data.toList.head? = some 47
  · rw [if_pos h47] at hm
    have hpt : Lib.hasPrefix s.data.toList [47] = true := by rw [hp, h47]; rfl
    have HM : Hid (Lib.Pa.cleanEls s.data.toList = Pl.model s.data.toList) := hm
    clear hm hp
    go_enter Try.func26, Try.ntmps26
    go_wp2_with (first
      | (go_at_call 36; refine (Try.strings_HasPrefix _ _ _).mono ?_; rintro e w' ⟨rfl, rfl⟩)
      | (go_at_call 37; refine (Try.path_Clean_rules _ _ (by omega)).mono ?_; rintro e w1 ⟨rfl, hb1⟩))
    go_ret
    exact ⟨Pl.ret_str (by rw [HM.out]), hb1⟩
  · rw [if_neg h47] at hm
    have hpt : Lib.hasPrefix s.data.toList [47] = false := by rw [hp]; simpa using h47
    have HM : Hid (Lib.Pa.cleanEls (47 :: s.data.toList) = Pl.model s.data.toList) := hm
    have hsz : (({ data := #[47] } : ByteArray) ++ s).size ≤ 281474976710656 := by rw [ByteArray.size_append]; show 1 + s.size ≤ _; omega
    clear hm hp
    go_enter Try.func26, Try.ntmps26
    go_wp2_with (first
      | (go_at_call 36; refine (Try.strings_HasPrefix _ _ _).mono ?_; rintro e w' ⟨rfl, rfl⟩)
      | (go_at_call 37; refine (Try.path_Clean_rules _ _ hsz).mono ?_; rintro e w1 ⟨rfl, hb1⟩))
    go_ret
    exact ⟨Pl.ret_str (by rw [HM.out]), hb1⟩

/-! ### THE WALK -/
theorem walk (a0 : ByteArray) (w0 : a0.size ≤ maxLen) (w : World) :
    Calls Try.prog 8 #[.string a0] w fun e w' => e = .returned (.bool true) ∧ Below w.heap.size w w' := by
  unfold maxLen at w0
  by_cases h0 : a0.size ≤ 65536
  · go_enter Try.func8, Try.ntmps8
    go_wp2_with (first
      | (go_at_call 25; refine (bytes_any _ _ (by omega)).mono ?_; rintro e w' ⟨rfl, rfl⟩)
      | (go_at_call 26; refine (clean_any _ _ h0).mono ?_; rintro e w1 ⟨rfl, hb1⟩)
      | (go_at_call 27; refine (Pl.model_any _ _ h0).mono ?_; rintro e w2 ⟨rfl, hb2⟩))
    go_ret
    exact ⟨rfl, hb1.trans (hb2.mono hb1.size)⟩
  · by_cases h1 : a0.size ≤ 1048576
    · go_enter Try.func8, Try.ntmps8
      go_wp2_with (go_at_call 25; refine (bytes_any _ _ h1).mono ?_; rintro e w' ⟨rfl, rfl⟩)
      go_ret
      exact ⟨rfl, Below.refl _ _⟩
    · go_enter Try.func8, Try.ntmps8
      go_wp2_with (go_at_call 25; refine (bytes_not _ _ (by omega)).mono ?_; rintro e w' ⟨rfl, rfl⟩)
      go_ret
      exact ⟨rfl, Below.refl _ _⟩

/-! ### THE ROW's STEP -/
set_option maxRecDepth 100000 in
theorem lifted (os : Os) (started : os.Started) (H : Type) (enc : TypeId × Value → H) :
    ReturnsInHanded {} Try.checked os 8 .any (Rows.fnCleanMatchesStackModelSpec.pre6 enc Try.prog Try.f8 Rows.fnCleanMatchesStackModelRow.domain false) (Rows.fnCleanMatchesStackModelSpec.post enc Try.prog Try.f8 false true false false) := by
  refine returnsInHanded_of_change (C := Try.checked) own started (by kernel_rfl) Try.func8
    (ChangeSpec.witness6 (enc := enc) (C := Try.checked) false ⟨#[], #[.string ByteArray.empty], []⟩ 8 (by kernel_rfl) (by kernel_rfl) (by kernel_rfl) (by kernel_rfl)) ?_
  intro W base args ds gs before hval0 hW hcnd _
  have hval : ∀ (j : Nat) t v, Try.f8.params[j]? = some t → args[j]? = some v → Value.okWide Try.prog W .any base t v := hval0
  have hW' := hW
  obtain ⟨p, q, hA0, hV, rfl, hfz, hnd⟩ := hW
  have hA : DataW.TrodAll enc Try.prog W 0 (fun _ => true) true Try.f8.params.toList args.toList ds p := hA0
  rw [Try.params8] at hA hval
  obtain ⟨v0, vs0, d0, ds0, p0, q0, hargs, rfl, rfl, h0, r0⟩ := trodAll_cons hA
  obtain ⟨rfl, rfl, rfl⟩ := trodAll_nil r0
  obtain rfl : args = #[v0] := by cases args; simp_all
  obtain ⟨rfl, rfl⟩ := trodVars_none hV
  obtain ⟨a0, rfl, rfl, rfl, w0⟩ := open_string Try.underlying9 (hval 0 9 v0 rfl rfl) h0
  clear hA0 hval0
  simp only [List.append_nil] at hW'
  refine (walk a0 w0 W).mono fun e W' ⟨he, hg⟩ => ?_
  subst he
  exact ⟨_, rfl, _, _, _, [], [], [], hW', trodAll_mk1 (shut_bool Try.underlying4 _), (trodAll_cons_mk (shut_string Try.underlying9 w0) trodAll_mk0), rfl, hg.frame _, fun h => by cases h⟩

theorem closed : joinedFacts Try.prog 8 Try.f8 Rows.fnCleanMatchesStackModelSpec Rows.fnCleanMatchesStackModelRow = true := by
  refine Head.and_mk (Head.and_mk (Head.and_mk (Head.and_mk (Head.and_mk (Head.and_mk (Head.and_mk ?_ Head.may) (Head.no_lift rfl)) (Head.made rfl)) ?_) ?_) ?_) ?_
  all_goals kernel_rfl

theorem over : Rows.fnCleanMatchesStackModelRow.holds Try.pinned (OpenSpec.ofChange Rows.fnCleanMatchesStackModelSpec) :=
  OpenClaim.holds_of_wide 8 Try.f8 rfl rfl rfl rfl rfl rfl rfl ⟨rfl, rfl, rfl, rfl, rfl⟩ rfl rfl rfl rfl rfl (by kernel_rfl) Try.func8 closed
    (of_decide_eq_true (by kernel_rfl)) (by unfold Func.isWrapper; first | (rw [if_pos (by decide +kernel)]; kernel_rfl) | (rw [if_neg (by decide +kernel)]; exact ⟨rfl, rfl⟩))
    (fun os started H enc _ => lifted os started H enc)

/-- ████ THE STATEMENT ████ -/
theorem proved : Rows.FnCleanMatchesStackModelSaid :=
  over
end Go.Proofs.Qxb6002466a.fnCleanMatchesStackModel
