/-
  A PROOF OF 'Rows.FnBelowMatchesElementPrefixSaid' in the frame that proof-skeleton.mjs wrote (turned from 'Grown' to 'Below'); the walk is ours.
-/
import Derived.Test.Qxb6002466aRows
import Derived.WalkKit
import Derived.ProofKit
import Derived.OpenShut
import Derived.ShutString
import Derived.ChangeOld
import Derived.Below
import Derived.Test.Qxb6002466aHead
import Derived.Test.Qxb6002466aEls
namespace Go.Proofs.Qxb6002466a.fnBelowMatchesElementPrefix
open Go.ChangeShapes Go.WideShapes Go.ChangeAt Go.RowKit
open Go.ChangeMaps (open_string shut_string)
set_option linter.unusedVariables false      -- a walk need not use every 'w<i>' (that an integer argument fits its kind)

theorem own : ownKnob Try.prog.godebug = none := by kernel_rfl

theorem els_len : ∀ t : List UInt8, (Lib.Pa.els t).length ≤ t.length + 1
  | [] => by simp [Lib.Pa.els]
  | c :: t => by
    have ih := els_len t
    by_cases hc : c = 47
    · subst hc
      rw [Lib.Pa.els_slash]
      simp only [List.length_cons]
      omega
    · obtain ⟨e, r, he⟩ := Be.els_ne t
      rw [Be.els_cons hc he]
      rw [he] at ih
      simp only [List.length_cons] at ih ⊢
      omega

theorem el_len (l : List UInt8) : (Be.el l).length ≤ l.length := by
  unfold Be.el
  split
  · simp
  · rename_i h
    have h1 := els_len (l.drop 1)
    have h2 : 0 < l.length := List.length_pos_iff.2 fun e => h (.inr e)
    rw [List.length_drop] at h1
    omega

theorem flat_len (l : List UInt8) : (Be.flat (Be.el l)).length ≤ l.length := by
  unfold Be.el
  split
  · simp [Be.flat]
  · rename_i h
    have h2 : 0 < l.length := List.length_pos_iff.2 fun e => h (.inr e)
    rw [Be.flat_els]
    simp only [List.length_cons, List.length_drop]
    omega

/-- Two lists part at a first place, where the one is no prefix of the other. -/
theorem first_part : ∀ {D E : List (List UInt8)}, D.length ≤ E.length → (¬ ∃ R, E = D ++ R) → ∃ j, j < D.length ∧ (∀ i, i < j → E[i]? = D[i]?) ∧ E[j]? ≠ D[j]?
  | [], E, _, h => absurd ⟨E, rfl⟩ h
  | x :: D, [], hl, _ => by simp at hl
  | x :: D, y :: E, hl, h => by
    by_cases hxy : y = x
    · subst hxy
      obtain ⟨j, h1, h2, h3⟩ := first_part (D := D) (E := E) (by simpa using hl) (fun ⟨R, hR⟩ => h ⟨R, by rw [hR]; rfl⟩)
      refine ⟨j + 1, by simpa using h1, ?_, by simpa using h3⟩
      intro i hi
      cases i with
      | zero => rfl
      | succ i => simpa using h2 i (by omega)
    · exact ⟨0, by simp, fun i hi => by omega, by simpa using hxy⟩

open Be in
set_option maxHeartbeats 800000 in
/-- dir has more elements than n. -/
theorem road_less (n d : ByteArray) (kE kD : Nat) (w : World) (h0 : n.size + d.size ≤ 65536) (HWn : Hid (WF n.data.toList)) (HWd : Hid (WF d.data.toList)) (HkE : Hid ((el n.data.toList).length = kE)) (HkD : Hid ((el d.data.toList).length = kD)) (hkE : kE ≤ 65536) (hkD : kD ≤ 65536) (hlt : kE < kD) (HB : Hid (bel n.data.toList d.data.toList = none)) :
    Calls Try.prog 3 #[.string n, .string d] w fun e w' => e = .returned (.bool true) ∧ Below w.heap.size w w' := by
  go_enter Try.func3, Try.ntmps3
  go_wp2_with (first
    | (go_at_call 13; refine (bytes13_any _ _ _ (by omega)).mono ?_; rintro e w' ⟨rfl, rfl⟩)
    | (go_at_call 14; refine (wf_any _ _ (by omega)).mono ?_; rintro e w' ⟨b, rfl, hb, rfl⟩; obtain rfl : b = true := (by first | exact hb.2 HWn.out | exact hb.2 HWd.out); clear hb)
    | (go_at_call 15; refine (zz_no _ _ _ (by omega) HB.out).mono ?_; rintro e w' ⟨rfl, rfl⟩))
  refine (elems_gen _ _ kE _ (by omega) rfl HkE.out).mono ?_
  rintro e w1 ⟨a1, c1, rfl, hc1, hE, hb1⟩
  go_wp2_with fail
  refine (elems_gen _ _ kD _ (by omega) rfl HkD.out).mono ?_
  rintro e w2 ⟨a2, c2, rfl, hc2, hD, hb2⟩
  have hb12 := hb1.trans (hb2.mono hb1.size)
  go_wp2
  refine wp_loop_rounds 1 ?_
  rw [rounds_succ]
  go_wp2
  go_ret
  exact ⟨rfl, hb12⟩

open Be in
set_option maxHeartbeats 1600000 in
/-- dir's elements are a prefix of n's. -/
theorem road_prefix (n d : ByteArray) (kE kD : Nat) (w : World) (h0 : n.size + d.size ≤ 65536) (HWn : Hid (WF n.data.toList)) (HWd : Hid (WF d.data.toList)) (HkE : Hid ((el n.data.toList).length = kE)) (HkD : Hid ((el d.data.toList).length = kD)) (hkE : kE ≤ 65536) (hkD : kD ≤ 65536) (hle : kD ≤ kE) (R : List (List UInt8)) (HR : Hid (el n.data.toList = el d.data.toList ++ R)) (r : ByteArray) (HJ : Hid ((⟨(join R).toArray⟩ : ByteArray) = r)) (HB : Hid (bel n.data.toList d.data.toList = some r.data.toList)) (hF : (flat R).length ≤ 65536) :
    Calls Try.prog 3 #[.string n, .string d] w fun e w' => e = .returned (.bool true) ∧ Below w.heap.size w w' := by
  go_enter Try.func3, Try.ntmps3
  go_wp2_with (first
    | (go_at_call 13; refine (bytes13_any _ _ _ (by omega)).mono ?_; rintro e w' ⟨rfl, rfl⟩)
    | (go_at_call 14; refine (wf_any _ _ (by omega)).mono ?_; rintro e w' ⟨b, rfl, hb, rfl⟩; obtain rfl : b = true := (by first | exact hb.2 HWn.out | exact hb.2 HWd.out); clear hb)
    | (go_at_call 15; refine (zz_yes _ _ r _ (by omega) HB.out).mono ?_; rintro e w' ⟨rfl, rfl⟩))
  refine (elems_gen _ _ kE _ (by omega) rfl HkE.out).mono ?_
  rintro e w1 ⟨a1, c1, rfl, hc1, hE, hb1⟩
  go_wp2_with fail
  refine (elems_gen _ _ kD _ (by omega) rfl HkD.out).mono ?_
  rintro e w2 ⟨a2, c2, rfl, hc2, hD, hb2⟩
  have hb12 := hb1.trans (hb2.mono hb1.size)
  go_wp2
  go_loopw [9, 10] (fun p i wr => ∃ q : Nat, q ≤ kD ∧ p = .bool true ∧ i = .int .i64 q ∧ Below w2.heap.size w2 wr) (fun _ i _ => kD - (intOf i).toNat)
  case atStart => exact ⟨0, by omega, by simp, rfl, Below.refl _ _⟩
  case round =>
    obtain ⟨q, hq, rfl, rfl, hbr⟩ := hrel
    by_cases hlt : q < kD
    · obtain ⟨g1, rfl, hg1, hx1⟩ := hE (by omega)
      obtain ⟨g2, rfl, hg2, hx2⟩ := hD (by omega)
      obtain ⟨x, hx⟩ : ∃ x, (el d.data.toList)[q]? = some x := ⟨_, List.getElem?_eq_getElem (by have := HkD.out; omega)⟩
      have hxe : (el n.data.toList)[q]? = some x := by
        rw [HR.out, List.getElem?_append_left (by have := HkD.out; omega)]
        exact hx
      have e1 : wr.cell? ⟨g1, q, none⟩ = some (.string ⟨x.toArray⟩) := (hbr.cell (p := ⟨g1, q, none⟩) (Nat.lt_of_lt_of_le hg1 hb2.size)).trans ((hb2.cell (p := ⟨g1, q, none⟩) hg1).trans (hx1 q x hxe))
      have e2 : wr.cell? ⟨g2, q, none⟩ = some (.string ⟨x.toArray⟩) := (hbr.cell (p := ⟨g2, q, none⟩) hg2).trans (hx2 q x hx)
      clear hx hxe
      generalize (⟨x.toArray⟩ : ByteArray) = X at e1 e2
      have hqE : q < kE := by omega
      go_wp2
      go_region
      go_wp2
      go_roundw
      case rel => exact ⟨q + 1, by omega, rfl, by go_num, below_drewN hbr _⟩
      case measure => simp [intOf]; omega
    · have hqk : q = kD := by omega
      subst hqk
      have HL : Hid (R.length = kE - q) := by
        show R.length = kE - q
        have h1 := HkE.out
        have h2 := HkD.out
        rw [HR.out, List.length_append] at h1
        omega
      by_cases hlt2 : q < kE
      · obtain ⟨g1, rfl, hg1, hx1⟩ := hE (by omega)
        have hcells : 0 < kE - q → ∃ g o, (some ⟨g1, q, none⟩ : Option Addr) = some ⟨g, o, none⟩ ∧ ∀ j x, R[j]? = some x → wr.cell? ⟨g, o + j, none⟩ = some (strv x) := fun _ => ⟨g1, q, rfl, fun j x hx => by
          have h2 := HkD.out
          have hxe : (el n.data.toList)[q + j]? = some x := by
            rw [HR.out, List.getElem?_append_right (by omega), h2, Nat.add_sub_cancel_left]
            exact hx
          exact (hbr.cell (p := ⟨g1, q + j, none⟩) (Nat.lt_of_lt_of_le hg1 hb2.size)).trans ((hb2.cell (p := ⟨g1, q + j, none⟩) hg1).trans (hx1 (q + j) x hxe))⟩
        go_wp2_with (go_at_call 17; refine (join_gen _ _ _ R r _ HL.out HJ.out hF hcells).mono ?_; rintro e w' ⟨rfl, rfl⟩)
        go_ret
        exact ⟨rfl, hb12.trans (hbr.mono hb12.size)⟩
      · have hno : ∀ a : Option Addr, 0 < kE - q → ∃ g o, a = some ⟨g, o, none⟩ ∧ ∀ j x, R[j]? = some x → wr.cell? ⟨g, o + j, none⟩ = some (strv x) := fun _ h => by omega
        go_wp2_with (go_at_call 17; refine (join_gen _ _ _ R r _ HL.out HJ.out hF (hno _)).mono ?_; rintro e w' ⟨rfl, rfl⟩)
        all_goals (go_ret; exact ⟨rfl, hb12.trans (hbr.mono hb12.size)⟩)

open Be in
set_option maxHeartbeats 1600000 in
/-- At place j the two part. -/
theorem road_part (n d : ByteArray) (kE kD : Nat) (w : World) (h0 : n.size + d.size ≤ 65536) (HWn : Hid (WF n.data.toList)) (HWd : Hid (WF d.data.toList)) (HkE : Hid ((el n.data.toList).length = kE)) (HkD : Hid ((el d.data.toList).length = kD)) (hkE : kE ≤ 65536) (hkD : kD ≤ 65536) (j : Nat) (hjD : j < kD) (hjE : j < kE) (hle : kD ≤ kE) (HS : Hid (∀ i, i < j → (el n.data.toList)[i]? = (el d.data.toList)[i]?)) (HJ : Hid ((el n.data.toList)[j]? ≠ (el d.data.toList)[j]?)) (HB : Hid (bel n.data.toList d.data.toList = none)) :
    Calls Try.prog 3 #[.string n, .string d] w fun e w' => e = .returned (.bool true) ∧ Below w.heap.size w w' := by
  go_enter Try.func3, Try.ntmps3
  go_wp2_with (first
    | (go_at_call 13; refine (bytes13_any _ _ _ (by omega)).mono ?_; rintro e w' ⟨rfl, rfl⟩)
    | (go_at_call 14; refine (wf_any _ _ (by omega)).mono ?_; rintro e w' ⟨b, rfl, hb, rfl⟩; obtain rfl : b = true := (by first | exact hb.2 HWn.out | exact hb.2 HWd.out); clear hb)
    | (go_at_call 15; refine (zz_no _ _ _ (by omega) HB.out).mono ?_; rintro e w' ⟨rfl, rfl⟩))
  refine (elems_gen _ _ kE _ (by omega) rfl HkE.out).mono ?_
  rintro e w1 ⟨a1, c1, rfl, hc1, hE, hb1⟩
  go_wp2_with fail
  refine (elems_gen _ _ kD _ (by omega) rfl HkD.out).mono ?_
  rintro e w2 ⟨a2, c2, rfl, hc2, hD, hb2⟩
  have hb12 := hb1.trans (hb2.mono hb1.size)
  go_wp2
  go_loopw [9, 10] (fun p i wr => ∃ (q : Nat) (b : Bool), q ≤ j + 1 ∧ p = .bool b ∧ i = .int .i64 q ∧ (b = true → q ≤ j) ∧ (b = false → q = j + 1) ∧ Below w2.heap.size w2 wr) (fun _ i _ => j + 1 - (intOf i).toNat)
  case atStart => exact ⟨0, true, by omega, by simp, rfl, fun _ => by omega, fun h => (by cases h), Below.refl _ _⟩
  case round =>
    obtain ⟨q, b, hq, rfl, rfl, hbt, hbf, hbr⟩ := hrel
    cases b with
    | true =>
      have hqj : q ≤ j := hbt rfl
      clear hbt hbf
      obtain ⟨g1, rfl, hg1, hx1⟩ := hE (by omega)
      obtain ⟨g2, rfl, hg2, hx2⟩ := hD (by omega)
      obtain ⟨x, hx⟩ : ∃ x, (el n.data.toList)[q]? = some x := ⟨_, List.getElem?_eq_getElem (by have := HkE.out; omega)⟩
      obtain ⟨y, hy⟩ : ∃ y, (el d.data.toList)[q]? = some y := ⟨_, List.getElem?_eq_getElem (by have := HkD.out; omega)⟩
      have e1 : wr.cell? ⟨g1, q, none⟩ = some (.string ⟨x.toArray⟩) := (hbr.cell (p := ⟨g1, q, none⟩) (Nat.lt_of_lt_of_le hg1 hb2.size)).trans ((hb2.cell (p := ⟨g1, q, none⟩) hg1).trans (hx1 q x hx))
      have e2 : wr.cell? ⟨g2, q, none⟩ = some (.string ⟨y.toArray⟩) := (hbr.cell (p := ⟨g2, q, none⟩) hg2).trans (hx2 q y hy)
      have hqE : q < kE := by omega
      have hqD : q < kD := by omega
      by_cases hlt : q < j
      · have hxy : x = y := by
          have := HS.out q hlt
          rw [hx, hy] at this
          simpa using this
        subst hxy
        clear hx hy
        generalize (⟨x.toArray⟩ : ByteArray) = X at e1 e2
        go_wp2
        go_region
        go_wp2
        go_roundw
        case rel => exact ⟨q + 1, true, by omega, rfl, by go_num, fun _ => by omega, fun h => (by cases h), below_drewN hbr _⟩
        case measure => simp [intOf]; omega
      · have hqe : q = j := by omega
        have hxy : x ≠ y := by
          intro e
          have := HJ.out
          rw [← hqe, hx, hy, e] at this
          exact this rfl
        obtain ⟨X, hX⟩ : ∃ X : ByteArray, X = ⟨x.toArray⟩ := ⟨_, rfl⟩
        obtain ⟨Y, hY⟩ : ∃ Y : ByteArray, Y = ⟨y.toArray⟩ := ⟨_, rfl⟩
        have hne : (X.toList == Y.toList) = false := by
          rw [Lib.toList_data, Lib.toList_data, hX, hY]
          simpa using hxy
        rw [← hX] at e1
        rw [← hY] at e2
        have HQ : Hid (q = j) := hqe
        clear hqe hx hy hX hY hxy
        go_wp2
        go_region
        go_wp2
        go_roundw
        case rel => exact ⟨q + 1, false, by omega, rfl, by go_num, fun h => (by cases h), fun _ => by have := HQ.out; omega, below_drewN hbr _⟩
        case measure => simp [intOf]; omega
    | false =>
      clear hbt hbf
      go_wp2
      go_ret
      exact ⟨rfl, hb12.trans (hbr.mono hb12.size)⟩

/-! ### THE WALK -/
theorem walk (a0 : ByteArray) (a1 : ByteArray) (w0 : a0.size ≤ maxLen) (w1 : a1.size ≤ maxLen) (w : World) :
    Calls Try.prog 3 #[.string a0, .string a1] w fun e w' => e = .returned (.bool true) ∧ Below w.heap.size w w' := by
  unfold maxLen at w0 w1
  by_cases h0 : a0.size + a1.size ≤ 65536
  · by_cases hn : Be.WF a0.data.toList
    · by_cases hd : Be.WF a1.data.toList
      · have hkE : (Be.el a0.data.toList).length ≤ 65536 := Nat.le_trans (el_len _) (by rw [← Lib.size_eq]; omega)
        have hkD : (Be.el a1.data.toList).length ≤ 65536 := Nat.le_trans (el_len _) (by rw [← Lib.size_eq]; omega)
        by_cases hR : ∃ R, Be.el a0.data.toList = Be.el a1.data.toList ++ R
        · obtain ⟨R, hR⟩ := hR
          have hF : (Be.flat R).length ≤ 65536 := by
            have h1 := flat_len a0.data.toList
            rw [hR, Be.flat_app, List.length_append, ← Lib.size_eq] at h1
            omega
          exact road_prefix a0 a1 _ _ w h0 hn hd rfl rfl hkE hkD (by rw [hR]; simp) R hR _ rfl (Be.bel_prefix hn hd hR) hF
        · have hb := Be.bel_apart hn hd hR
          by_cases hlt : (Be.el a0.data.toList).length < (Be.el a1.data.toList).length
          · exact road_less a0 a1 _ _ w h0 hn hd rfl rfl hkE hkD hlt hb
          · obtain ⟨j, h1, h2, h3⟩ := first_part (D := Be.el a1.data.toList) (E := Be.el a0.data.toList) (by omega) hR
            exact road_part a0 a1 _ _ w h0 hn hd rfl rfl hkE hkD j h1 (by omega) (by omega) h2 h3 hb
      · have HWn : Hid (Be.WF a0.data.toList) := hn
        have HWd : Hid (¬ Be.WF a1.data.toList) := hd
        clear hn hd
        go_enter Try.func3, Try.ntmps3
        go_wp2_with (first
          | (go_at_call 13; refine (Be.bytes13_any _ _ _ (by omega)).mono ?_; rintro e w' ⟨rfl, rfl⟩)
          | fail)
        refine (Be.wf_yes _ _ (by omega) HWn.out).mono ?_
        rintro e w' ⟨rfl, rfl⟩
        go_wp2_with fail
        refine (Be.wf_not _ _ (by omega) HWd.out).mono ?_
        rintro e w' ⟨rfl, rfl⟩
        go_wp2
        go_ret
        exact ⟨rfl, Below.refl _ _⟩
    · have HWn : Hid (¬ Be.WF a0.data.toList) := hn
      clear hn
      go_enter Try.func3, Try.ntmps3
      go_wp2_with (first
        | (go_at_call 13; refine (Be.bytes13_any _ _ _ (by omega)).mono ?_; rintro e w' ⟨rfl, rfl⟩)
        | (go_at_call 14; refine (Be.wf_not _ _ (by omega) HWn.out).mono ?_; rintro e w' ⟨rfl, rfl⟩))
      go_ret
      exact ⟨rfl, Below.refl _ _⟩
  · by_cases h1 : a0.size + a1.size ≤ 1048576
    · go_enter Try.func3, Try.ntmps3
      go_wp2_with (go_at_call 13; refine (Be.bytes13_any _ _ _ h1).mono ?_; rintro e w' ⟨rfl, rfl⟩)
      go_ret
      exact ⟨rfl, Below.refl _ _⟩
    · go_enter Try.func3, Try.ntmps3
      go_wp2_with (go_at_call 13; refine (Be.bytes13_not _ _ _ w0 w1 (by omega)).mono ?_; rintro e w' ⟨rfl, rfl⟩)
      go_ret
      exact ⟨rfl, Below.refl _ _⟩

/-! ### THE ROW's STEP -/
set_option maxRecDepth 100000 in
theorem lifted (os : Os) (started : os.Started) (H : Type) (enc : TypeId × Value → H) :
    ReturnsInHanded {} Try.checked os 3 .any (Rows.fnBelowMatchesElementPrefixSpec.pre6 enc Try.prog Try.f3 Rows.fnBelowMatchesElementPrefixRow.domain false) (Rows.fnBelowMatchesElementPrefixSpec.post enc Try.prog Try.f3 false true false false) := by
  refine returnsInHanded_of_change (C := Try.checked) own started (by kernel_rfl) Try.func3
    (ChangeSpec.witness6 (enc := enc) (C := Try.checked) false ⟨#[], #[.string ByteArray.empty, .string ByteArray.empty], []⟩ 8 (by kernel_rfl) (by kernel_rfl) (by kernel_rfl) (by kernel_rfl)) ?_
  intro W base args ds gs before hval0 hW hcnd _
  have hval : ∀ (j : Nat) t v, Try.f3.params[j]? = some t → args[j]? = some v → Value.okWide Try.prog W .any base t v := hval0
  have hW' := hW
  obtain ⟨p, q, hA0, hV, rfl, hfz, hnd⟩ := hW
  have hA : DataW.TrodAll enc Try.prog W 0 (fun _ => true) true Try.f3.params.toList args.toList ds p := hA0
  rw [Try.params3] at hA hval
  obtain ⟨v0, vs0, d0, ds0, p0, q0, hargs, rfl, rfl, h0, r0⟩ := trodAll_cons hA
  obtain ⟨v1, vs1, d1, ds1, p1, q1, rfl, rfl, rfl, h1, r1⟩ := trodAll_cons r0
  obtain ⟨rfl, rfl, rfl⟩ := trodAll_nil r1
  obtain rfl : args = #[v0, v1] := by cases args; simp_all
  obtain ⟨rfl, rfl⟩ := trodVars_none hV
  obtain ⟨a0, rfl, rfl, rfl, w0⟩ := open_string Try.underlying9 (hval 0 9 v0 rfl rfl) h0
  obtain ⟨a1, rfl, rfl, rfl, w1⟩ := open_string Try.underlying9 (hval 1 9 v1 rfl rfl) h1
  clear hA0 hval0
  simp only [List.append_nil] at hW'
  refine (walk a0 a1 w0 w1 W).mono fun e W' ⟨he, hg⟩ => ?_
  subst he
  exact ⟨_, rfl, _, _, _, [], [], [], hW', trodAll_mk1 (shut_bool Try.underlying4 _), (trodAll_cons_mk (shut_string Try.underlying9 w0) (trodAll_cons_mk (shut_string Try.underlying9 w1) trodAll_mk0)), rfl, hg.frame _, fun h => by cases h⟩

theorem closed : joinedFacts Try.prog 3 Try.f3 Rows.fnBelowMatchesElementPrefixSpec Rows.fnBelowMatchesElementPrefixRow = true := by
  refine Head.and_mk (Head.and_mk (Head.and_mk (Head.and_mk (Head.and_mk (Head.and_mk (Head.and_mk ?_ Head.may) (Head.no_lift rfl)) (Head.made rfl)) ?_) ?_) ?_) ?_
  all_goals kernel_rfl

theorem over : Rows.fnBelowMatchesElementPrefixRow.holds Try.pinned (OpenSpec.ofChange Rows.fnBelowMatchesElementPrefixSpec) :=
  OpenClaim.holds_of_wide 3 Try.f3 rfl rfl rfl rfl rfl rfl rfl ⟨rfl, rfl, rfl, rfl, rfl⟩ rfl rfl rfl rfl rfl (by kernel_rfl) Try.func3 closed
    (of_decide_eq_true (by kernel_rfl)) (by unfold Func.isWrapper; first | (rw [if_pos (by decide +kernel)]; kernel_rfl) | (rw [if_neg (by decide +kernel)]; exact ⟨rfl, rfl⟩))
    (fun os started H enc _ => lifted os started H enc)

/-- ████ THE STATEMENT ████ -/
theorem proved : Rows.FnBelowMatchesElementPrefixSaid :=
  over
end Go.Proofs.Qxb6002466a.fnBelowMatchesElementPrefix
