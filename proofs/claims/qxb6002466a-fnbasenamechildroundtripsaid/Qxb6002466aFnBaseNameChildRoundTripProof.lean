/-
  A PROOF OF 'Rows.FnBaseNameChildRoundTripSaid' in the frame that proof-skeleton.mjs wrote (turned from 'Grown' to 'Below'); the walk is ours.
-/
import Derived.Test.Qxb6002466aRows
import Derived.WalkKit
import Derived.ProofKit
import Derived.OpenShut
import Derived.ShutString
import Derived.ChangeOld
import Derived.Below
import Derived.Test.Qxb6002466aHead
import Derived.Test.Qxb6002466aBase
namespace Go.Proofs.Qxb6002466a.fnBaseNameChildRoundTrip
open Go.ChangeShapes Go.WideShapes Go.ChangeAt Go.RowKit
open Go.ChangeMaps (open_string shut_string)
set_option linter.unusedVariables false      -- a walk need not use every 'w<i>' (that an integer argument fits its kind)

theorem own : ownKnob Try.prog.godebug = none := by kernel_rfl

theorem app_list (a b : ByteArray) : (a ++ b).data.toList = a.data.toList ++ b.data.toList := by simp

/-- Both names together within the bound, the parent the root. -/
theorem road_root (a b : ByteArray) (w : World) (h0 : a.size + b.size ≤ 65536) (hw : Be.WF a.data.toList) (hr : a.data.toList = [47]) (hb0 : 0 < b.size) (hbs : 47 ∉ b.data.toList) :
    Calls Try.prog 7 #[.string a, .string b] w fun e w' => e = .returned (.bool true) ∧ Below w.heap.size w w' := by
  have hz : ((b.size : Int) == 0) = false := by simp only [beq_eq_false_iff_ne, ne_eq]; omega
  have ht : a.toList = [47] := by rw [Lib.toList_data]; exact hr
  have hbn : b.data.toList ≠ [] := by intro e; rw [Lib.size_eq, e] at hb0; simp at hb0
  have HW : Hid (Be.WF a.data.toList) := hw
  have HS : Hid (47 ∉ b.data.toList) := hbs
  have HR : Hid (a.data.toList = [47]) := hr
  have HC : Hid ((({ data := #[47] } : ByteArray) ++ b).data.toList = [] ++ 47 :: b.data.toList) := app_list _ _
  have HCn : Hid ((({ data := #[47] } : ByteArray) ++ b).data.toList ≠ [47]) := by
    show _ ≠ _
    rw [app_list]
    simpa using hbn
  have HB : Hid (Be.bel (({ data := #[47] } : ByteArray) ++ b).data.toList a.data.toList = some (({ data := #[47] } : ByteArray) ++ b).data.toList) := by
    have := Be.bel_join hw (r := (({ data := #[47] } : ByteArray) ++ b).data.toList) (by rw [app_list]; rfl)
    rw [if_pos hr] at this
    exact this
  have HE : Hid (Be.el a.data.toList = []) := by show _ = _; rw [hr]; rfl
  have hsz : (({ data := #[47] } : ByteArray) ++ b).size ≤ 200000 := by rw [ByteArray.size_append]; show 1 + b.size ≤ _; omega
  clear hw hr hbs hbn
  go_enter Try.func7, Try.ntmps7
  go_wp2_with (first
    | (go_at_call 22; refine (Be.bytes22_any _ _ _ (by omega)).mono ?_; rintro e w' ⟨rfl, rfl⟩)
    | (go_at_call 14; refine (Be.wf_yes _ _ (by omega) HW.out).mono ?_; rintro e w' ⟨rfl, rfl⟩)
    | (go_at_call 23; refine (Be.slash_no _ _ (by omega) HS.out).mono ?_; rintro e w' ⟨rfl, rfl⟩))
  refine (Be.zzbase_some _ b [] b.data.toList _ hsz HC.out HS.out HCn.out rfl).mono ?_
  rintro e w' ⟨rfl, rfl⟩
  go_wp2_with (go_at_call 15; refine (Be.zz_yes _ _ (({ data := #[47] } : ByteArray) ++ b) _ (by omega) HB.out).mono ?_; rintro e w' ⟨rfl, rfl⟩)
  refine (Be.zzbase_root _ _ rfl).mono ?_
  rintro e w' ⟨rfl, rfl⟩
  go_wp2_with (go_at_call 16; refine (Be.elems_nil _ _ HE.out).mono ?_; rintro e w' ⟨rfl, rfl⟩)
  refine (Be.zzbase_root _ _ HR.out).mono ?_
  rintro e w' ⟨rfl, rfl⟩
  go_wp2
  go_ret
  exact ⟨rfl, Below.refl _ _⟩

/-- The parent not the root. -/
theorem road_deep (a b : ByteArray) (w : World) (h0 : a.size + b.size ≤ 65536) (hw : Be.WF a.data.toList) (hr : a.data.toList ≠ [47]) (hb0 : 0 < b.size) (hbs : 47 ∉ b.data.toList) :
    Calls Try.prog 7 #[.string a, .string b] w fun e w' => e = .returned (.bool true) ∧ Below w.heap.size w w' := by
  have hz : ((b.size : Int) == 0) = false := by simp only [beq_eq_false_iff_ne, ne_eq]; omega
  have ht : (a.toList == [47]) = false := by rw [Lib.toList_data]; simpa using hr
  have HW : Hid (Be.WF a.data.toList) := hw
  have HS : Hid (47 ∉ b.data.toList) := hbs
  have HR : Hid (a.data.toList ≠ [47]) := hr
  have HC : Hid ((a ++ { data := #[47] } ++ b).data.toList = a.data.toList ++ 47 :: b.data.toList) := by show _ = _; rw [app_list, app_list]; simp
  have HCn : Hid ((a ++ { data := #[47] } ++ b).data.toList ≠ [47]) := by
    show _ ≠ _
    rw [HC.out]
    intro e
    have h1 := hw.head
    cases ha : a.data.toList with
    | nil => rw [ha] at h1; cases h1
    | cons c t => rw [ha] at e; simp at e
  have HB : Hid (Be.bel (a ++ { data := #[47] } ++ b).data.toList a.data.toList = some (({ data := #[47] } : ByteArray) ++ b).data.toList) := by
    have := Be.bel_join hw (r := (({ data := #[47] } : ByteArray) ++ b).data.toList) (by rw [app_list]; rfl)
    rw [if_neg hr, app_list] at this
    show _ = _
    rw [HC.out, app_list]
    exact this
  have hsz : (a ++ { data := #[47] } ++ b).size ≤ 200000 := by rw [ByteArray.size_append, ByteArray.size_append]; show a.size + 1 + b.size ≤ _; omega
  have hfl := Be.flat_el hw.head hr
  have hne : Be.el a.data.toList ≠ [] := by
    intro e
    rw [e] at hfl
    have h1 := hw.head
    rw [← hfl] at h1
    cases h1
  obtain ⟨I, x, hI⟩ : ∃ I x, Be.el a.data.toList = I ++ [x] := by
    rcases List.eq_nil_or_concat (Be.el a.data.toList) with e | ⟨I, x, e⟩
    · exact absurd e hne
    · exact ⟨I, x, by rw [e, List.concat_eq_append]⟩
  have HI : Hid (Be.el a.data.toList = I ++ [x]) := hI
  have HP : Hid (a.data.toList = Be.flat I ++ 47 :: x) := by show _ = _; rw [← Be.flat_last, ← hI, hfl]
  have HX : Hid (47 ∉ x) := Be.el_no47 _ x (by rw [hI]; simp)
  have HL : Hid ((I ++ [x]).length = I.length + 1) := by show _ = _; simp
  have HG : Hid ((I ++ [x])[I.length]? = some x) := by show _ = _; simp
  have hIl : I.length ≤ 65536 := by
    have h1 : ∀ ys : List (List UInt8), ys.length ≤ (Be.flat ys).length := by
      intro ys
      induction ys with
      | nil => simp
      | cons y ys ih => rw [Be.flat_cons]; simp only [List.length_cons, List.length_append]; omega
    have h2 := h1 I
    have h3 : a.size = (Be.flat I ++ 47 :: x).length := by rw [Lib.size_eq, HP.out]
    simp only [List.length_append, List.length_cons] at h3
    omega
  obtain ⟨X, hX⟩ : ∃ X : ByteArray, (⟨x.toArray⟩ : ByteArray) = X := ⟨_, rfl⟩
  have HXX : Hid ((⟨x.toArray⟩ : ByteArray) = X) := hX
  clear hw hr hbs hfl hne hI hX
  generalize hm : I.length = m at *
  clear hm
  go_enter Try.func7, Try.ntmps7
  go_wp2_with (first
    | (go_at_call 22; refine (Be.bytes22_any _ _ _ (by omega)).mono ?_; rintro e w' ⟨rfl, rfl⟩)
    | (go_at_call 14; refine (Be.wf_yes _ _ (by omega) HW.out).mono ?_; rintro e w' ⟨rfl, rfl⟩)
    | (go_at_call 23; refine (Be.slash_no _ _ (by omega) HS.out).mono ?_; rintro e w' ⟨rfl, rfl⟩))
  refine (Be.zzbase_some _ b a.data.toList b.data.toList _ hsz HC.out HS.out HCn.out rfl).mono ?_
  rintro e w' ⟨rfl, rfl⟩
  go_wp2_with (go_at_call 15; refine (Be.zz_yes _ _ (({ data := #[47] } : ByteArray) ++ b) _ (by omega) HB.out).mono ?_; rintro e w' ⟨rfl, rfl⟩)
  refine (Be.zzbase_root _ _ rfl).mono ?_
  rintro e w' ⟨rfl, rfl⟩
  go_wp2_with fail
  refine (Be.elems_some _ _ (m + 1) _ (by omega) HI.out HL.out (by omega)).mono ?_
  rintro e w1 ⟨g, c, rfl, hc, hg, hcells, hb1⟩
  have hcell : w1.cell? ⟨g, m, none⟩ = some (.string X) := by
    rw [← HXX.out]
    exact hcells m x HG.out
  clear hcells
  go_wp2_with fail
  refine (Be.zzbase_some _ X (Be.flat I) x _ (by omega) HP.out HX.out HR.out HXX.out).mono ?_
  rintro e w' ⟨rfl, rfl⟩
  go_wp2
  go_ret
  exact ⟨rfl, hb1⟩

/-! ### THE WALK -/
theorem walk (a0 : ByteArray) (a1 : ByteArray) (w0 : a0.size ≤ maxLen) (w1 : a1.size ≤ maxLen) (w : World) :
    Calls Try.prog 7 #[.string a0, .string a1] w fun e w' => e = .returned (.bool true) ∧ Below w.heap.size w w' := by
  unfold maxLen at w0 w1
  by_cases h0 : a0.size + a1.size ≤ 65536
  · by_cases hw : Be.WF a0.data.toList
    · by_cases hz : 0 < a1.size
      · by_cases hs : 47 ∈ a1.data.toList
        · have HW : Hid (Be.WF a0.data.toList) := hw
          have HS : Hid (47 ∈ a1.data.toList) := hs
          have hz' : ((a1.size : Int) == 0) = false := by simp only [beq_eq_false_iff_ne, ne_eq]; omega
          clear hw hs
          go_enter Try.func7, Try.ntmps7
          go_wp2_with (first
            | (go_at_call 22; refine (Be.bytes22_any _ _ _ (by omega)).mono ?_; rintro e w' ⟨rfl, rfl⟩)
            | (go_at_call 14; refine (Be.wf_yes _ _ (by omega) HW.out).mono ?_; rintro e w' ⟨rfl, rfl⟩)
            | (go_at_call 23; refine (Be.slash_yes _ _ (by omega) HS.out).mono ?_; rintro e w' ⟨rfl, rfl⟩))
          go_ret
          exact ⟨rfl, Below.refl _ _⟩
        · by_cases hr : a0.data.toList = [47]
          · exact road_root a0 a1 w h0 hw hr hz hs
          · exact road_deep a0 a1 w h0 hw hr hz hs
      · have HW : Hid (Be.WF a0.data.toList) := hw
        have hz' : ((a1.size : Int) == 0) = true := by rw [show a1.size = 0 from by omega]; rfl
        clear hw hz
        go_enter Try.func7, Try.ntmps7
        go_wp2_with (first
          | (go_at_call 22; refine (Be.bytes22_any _ _ _ (by omega)).mono ?_; rintro e w' ⟨rfl, rfl⟩)
          | (go_at_call 14; refine (Be.wf_yes _ _ (by omega) HW.out).mono ?_; rintro e w' ⟨rfl, rfl⟩))
        go_ret
        exact ⟨rfl, Below.refl _ _⟩
    · have HW : Hid (¬ Be.WF a0.data.toList) := hw
      clear hw
      go_enter Try.func7, Try.ntmps7
      go_wp2_with (first
        | (go_at_call 22; refine (Be.bytes22_any _ _ _ (by omega)).mono ?_; rintro e w' ⟨rfl, rfl⟩)
        | (go_at_call 14; refine (Be.wf_not _ _ (by omega) HW.out).mono ?_; rintro e w' ⟨rfl, rfl⟩))
      go_ret
      exact ⟨rfl, Below.refl _ _⟩
  · by_cases h1 : a0.size + a1.size ≤ 1048576
    · go_enter Try.func7, Try.ntmps7
      go_wp2_with (go_at_call 22; refine (Be.bytes22_any _ _ _ h1).mono ?_; rintro e w' ⟨rfl, rfl⟩)
      go_ret
      exact ⟨rfl, Below.refl _ _⟩
    · go_enter Try.func7, Try.ntmps7
      go_wp2_with (go_at_call 22; refine (Be.bytes22_not _ _ _ w0 w1 (by omega)).mono ?_; rintro e w' ⟨rfl, rfl⟩)
      go_ret
      exact ⟨rfl, Below.refl _ _⟩

/-! ### THE ROW's STEP -/
set_option maxRecDepth 100000 in
theorem lifted (os : Os) (started : os.Started) (H : Type) (enc : TypeId × Value → H) :
    ReturnsInHanded {} Try.checked os 7 .any (Rows.fnBaseNameChildRoundTripSpec.pre6 enc Try.prog Try.f7 Rows.fnBaseNameChildRoundTripRow.domain false) (Rows.fnBaseNameChildRoundTripSpec.post enc Try.prog Try.f7 false true false false) := by
  refine returnsInHanded_of_change (C := Try.checked) own started (by kernel_rfl) Try.func7
    (ChangeSpec.witness6 (enc := enc) (C := Try.checked) false ⟨#[], #[.string ByteArray.empty, .string ByteArray.empty], []⟩ 8 (by kernel_rfl) (by kernel_rfl) (by kernel_rfl) (by kernel_rfl)) ?_
  intro W base args ds gs before hval0 hW hcnd _
  have hval : ∀ (j : Nat) t v, Try.f7.params[j]? = some t → args[j]? = some v → Value.okWide Try.prog W .any base t v := hval0
  have hW' := hW
  obtain ⟨p, q, hA0, hV, rfl, hfz, hnd⟩ := hW
  have hA : DataW.TrodAll enc Try.prog W 0 (fun _ => true) true Try.f7.params.toList args.toList ds p := hA0
  rw [Try.params7] at hA hval
  obtain ⟨v0, vs0, d0, ds0, p0, q0, hargs, rfl, rfl, h0, r0⟩ := trodAll_cons hA
  obtain ⟨v1, vs1, d1, ds1, p1, q1, rfl, rfl, rfl, h1, r1⟩ := trodAll_cons r0
  obtain ⟨rfl, rfl, rfl⟩ := trodAll_nil r1
  obtain rfl : args = #[v0, v1] := by cases args; simp_all
  obtain ⟨rfl, rfl⟩ := trodVars_none hV
  obtain ⟨a0, rfl, rfl, rfl, w0⟩ := open_string Try.underlying9 (hval 0 9 v0 rfl rfl) h0
  obtain ⟨a1, rfl, rfl, rfl, w1⟩ := open_string Try.underlying9 (hval 1 9 v1 rfl rfl) h1
  clear hA0 hval0
  simp only [List.append_nil] at hW'
  refine (walk a0 a1 w0 w1 W).mono fun e W' ⟨he, hg⟩ => ?_
  subst he
  exact ⟨_, rfl, _, _, _, [], [], [], hW', trodAll_mk1 (shut_bool Try.underlying4 _), (trodAll_cons_mk (shut_string Try.underlying9 w0) (trodAll_cons_mk (shut_string Try.underlying9 w1) trodAll_mk0)), rfl, hg.frame _, fun h => by cases h⟩

theorem closed : joinedFacts Try.prog 7 Try.f7 Rows.fnBaseNameChildRoundTripSpec Rows.fnBaseNameChildRoundTripRow = true := by
  refine Head.and_mk (Head.and_mk (Head.and_mk (Head.and_mk (Head.and_mk (Head.and_mk (Head.and_mk ?_ Head.may) (Head.no_lift rfl)) (Head.made rfl)) ?_) ?_) ?_) ?_
  all_goals kernel_rfl

theorem over : Rows.fnBaseNameChildRoundTripRow.holds Try.pinned (OpenSpec.ofChange Rows.fnBaseNameChildRoundTripSpec) :=
  OpenClaim.holds_of_wide 7 Try.f7 rfl rfl rfl rfl rfl rfl rfl ⟨rfl, rfl, rfl, rfl, rfl⟩ rfl rfl rfl rfl rfl (by kernel_rfl) Try.func7 closed
    (of_decide_eq_true (by kernel_rfl)) (by unfold Func.isWrapper; first | (rw [if_pos (by decide +kernel)]; kernel_rfl) | (rw [if_neg (by decide +kernel)]; exact ⟨rfl, rfl⟩))
    (fun os started H enc _ => lifted os started H enc)

/-- ████ THE STATEMENT ████ -/
theorem proved : Rows.FnBaseNameChildRoundTripSaid :=
  over
end Go.Proofs.Qxb6002466a.fnBaseNameChildRoundTrip
