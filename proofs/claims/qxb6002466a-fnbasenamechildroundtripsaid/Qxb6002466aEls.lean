/-
  THE WALKS OF osfsG1Elems AND osfsG1Join.
-/
import Derived.Test.Qxb6002466aElsPlain
import Derived.Test.Qxb6002466aBel
import Derived.Maps.AppendAt
namespace Go.Proofs.Qxb6002466a.Be
open Go.RowKit

theorem info9 : (Try.prog.info? 9).map (fun i => (i.zero, i.size, i.bytes)) = some (some (.string ByteArray.empty), 1, 16) := by kernel_rfl

/-- A list of bytes as a string's value. -/
def strv (x : List UInt8) : Value := .string ⟨x.toArray⟩

theorem one_str (s : ByteArray) : ∀ u ∈ [Value.string s], u.oneCell' = true := by
  intro u hu
  simp at hu
  subst hu
  rfl
theorem le_alloc {B : Nat} {w : World} (h : B ≤ w.heap.size) (o : Obj) : B ≤ (w.alloc o).heap.size := by simp; omega

theorem push_str {B : Nat} {W wx w1 : World} {v v' : Value} {xs : List (List UInt8)} {ob : Obj} (x : List UInt8) (s : ByteArray) (hx : s = ⟨x.toArray⟩) (hB : B ≤ wx.heap.size) (hbx : Below B W wx) (hown : wx.ownsRow B 9 1 v xs.length (xs.map strv))
    (ho : w1.ownsRow B 9 1 v' (xs.length + 1) (xs.map strv ++ [.string s])) (hg : (wx.alloc ob).grownBy w1 v.ownBlock) : w1.ownsRow B 9 1 v' (xs ++ [x]).length ((xs ++ [x]).map strv) ∧ Below B W w1 := by
  subst hx
  refine ⟨by simpa [strv] using ho, ?_⟩
  refine (hbx.alloc hB ob).grown hg (by simp; omega) ?_
  intro k hk
  exact (hown.lt k hk).1

set_option maxHeartbeats 800000 in
/-- osfsG1Elems: a row of the call's own that holds the elements. -/
theorem elems_any (s : ByteArray) (w : World) (hs : s.size ≤ 65536) :
    Calls Try.prog 16 #[.string s] w fun e w' => ∃ v, e = .returned v ∧ w'.ownsRow w.heap.size 9 1 v (el s.data.toList).length ((el s.data.toList).map strv) ∧ Below w.heap.size w w' := by
  by_cases hz : s.data.toList = [47] ∨ s.data.toList = []
  · have he : el s.data.toList = [] := by unfold el; rw [if_pos hz]
    have HE : Hid (el s.data.toList = []) := he
    clear he
    rcases hz with h | h
    · have ht : s.toList = [47] := by rw [Lib.toList_data]; exact h
      clear h
      go_enter Try.func16, Try.ntmps16
      go_wp2
      go_ret
      exact ⟨_, rfl, by rw [HE.out]; exact World.ownsRow_nil _ _ _ _, Below.refl _ _⟩
    · have ht : (s.toList == [47]) = false := by rw [Lib.toList_data, h]; rfl
      have h0 : ((s.size : Int) == 0) = true := by rw [Lib.size_eq, h]; rfl
      clear h
      go_enter Try.func16, Try.ntmps16
      go_wp2
      go_ret
      exact ⟨_, rfl, by rw [HE.out]; exact World.ownsRow_nil _ _ _ _, Below.refl _ _⟩
  · have he : el s.data.toList = Lib.Pa.els (s.data.toList.drop 1) := by unfold el; rw [if_neg hz]
    have HE : Hid (el s.data.toList = Lib.Pa.els (s.data.toList.drop 1)) := he
    have ht : (s.toList == [47]) = false := by rw [Lib.toList_data]; simp; exact fun e => hz (.inl e)
    have hp : 0 < s.data.toList.length := List.length_pos_iff.2 fun e => hz (.inr e)
    have h0 : ((s.size : Int) == 0) = false := by simp only [beq_eq_false_iff_ne, ne_eq]; rw [Lib.size_eq]; omega
    have HST := erel_start hp
    obtain ⟨i0, hi, hz0, hz1, hz2⟩ := info_parts info9
    clear he hz hp
    go_enter Try.func16, Try.ntmps16
    go_wp2
    go_loopw [3, 4, 5] (fun v st i wr => ∃ (q a : Nat) (done : List (List UInt8)), i = .int .i64 q ∧ st = .int .i64 a ∧ ERel s.data.toList q a done ∧ wr.ownsRow w.heap.size 9 1 v done.length (done.map strv) ∧ Below w.heap.size w wr)
      (fun _ _ i _ => s.size + 1 - (intOf i).toNat)
    case atStart => exact ⟨1, 1, [], rfl, rfl, HST, World.ownsRow_nil _ _ _ _, Below.refl _ _⟩
    case round =>
      obtain ⟨q, a, done, rfl, rfl, hE, hown, hbx⟩ := hrel
      have hsz := Lib.size_eq s
      have HZ : Hid (s.size = s.data.toList.length) := hsz
      have hcn := hE.cnt
      have hBx : w.heap.size ≤ wr.heap.size := hbx.size
      by_cases hq : q ≤ s.size
      · obtain ⟨ha1, ha2⟩ := hE.le (by omega)
        have HX : Hid (s.extract a q = ⟨(seg s.data.toList a q).toArray⟩) := Lib.extract_eq s a q
        clear hsz
        by_cases hl : q = s.size
        · have hl1 : ((q : Int) == (s.size : Int)) = true := by rw [hl]; simp
          have hR := hE.last (by have := HZ.out; omega)
          have hql : s.size ≤ q := by omega
          clear hl
          go_wp2_with (first
            | (at_builtin; refine wpList_append_own _ rfl (.tmp 29) (.tmp 34) 26 rfl w.heap.size 9 i0 (.string ByteArray.empty) 1 16 Try.underlying26 hi hz0 hz1 hz2 rfl (by decide) _ _ _ rfl (hown.alloc _) ⟨wr.heap.size, 0, none⟩ 1 1 [.string (s.extract a q)] rfl rfl (cell_one_new _ _ _) (one_str _) (by unfold maxLen; omega) (by omega) (le_alloc hBx _) ?_; intro v1 w1 ho1 hg1 _; have hp1 := push_str _ _ HX.out hBx hbx hown ho1 hg1; clear ho1 hg1))
          go_roundw
          case rel => exact ⟨q + 1, q + 1, _, by go_num, by go_num, hR, hp1.1, hp1.2⟩
          case measure => simp [intOf]; omega
        · have hl1 : ((q : Int) == (s.size : Int)) = false := by simp; omega
          have hlt : q < s.size := by omega
          clear hl
          by_cases h47 : s.data.toList[q]? = some 47
          · have hb : ((s[q].toNat : Int) == 47) = true := (nth hlt 47).1 h47
            have hR := hE.cutAt (by have := HZ.out; omega) h47
            clear h47
            go_wp2_with (first
              | (at_builtin; refine wpList_append_own _ rfl (.tmp 29) (.tmp 34) 26 rfl w.heap.size 9 i0 (.string ByteArray.empty) 1 16 Try.underlying26 hi hz0 hz1 hz2 rfl (by decide) _ _ _ rfl (hown.alloc _) ⟨wr.heap.size, 0, none⟩ 1 1 [.string (s.extract a q)] rfl rfl (cell_one_new _ _ _) (one_str _) (by unfold maxLen; omega) (by omega) (le_alloc hBx _) ?_; intro v1 w1 ho1 hg1 _; have hp1 := push_str _ _ HX.out hBx hbx hown ho1 hg1; clear ho1 hg1))
            go_roundw
            case rel => exact ⟨q + 1, q + 1, _, by go_num, by go_num, hR, hp1.1, hp1.2⟩
            case measure => simp [intOf]; omega
          · have hb : ((s[q].toNat : Int) == 47) = false := (nthF hlt 47).1 h47
            have hR := hE.skip (by have := HZ.out; omega) h47
            clear h47
            go_wp2
            go_roundw
            case rel => exact ⟨q + 1, a, _, by go_num, rfl, hR, hown, hbx⟩
            case measure => simp [intOf]; omega
      · have hd := hE.fin (by omega)
        subst hd
        clear hsz
        go_wp2
        go_ret
        exact ⟨_, rfl, by rw [HE.out]; exact hown, hbx⟩

/-- osfsG1Join of no element. -/
theorem join_none (a : Option Addr) (c : Nat) (w : World) : Calls Try.prog 17 #[.slice a 0 c] w fun e w' => e = .returned (.string ⟨#[47]⟩) ∧ w' = w := by
  go_enter Try.func17, Try.ntmps17
  go_wp2
  go_ret
  exact ⟨rfl, rfl⟩

theorem flat_take (xs : List (List UInt8)) (q : Nat) (x : List UInt8) (h : xs[q]? = some x) : flat (xs.take (q + 1)) = flat (xs.take q) ++ 47 :: x := by
  obtain ⟨hk, e⟩ := List.getElem?_eq_some_iff.1 h
  rw [List.take_succ_eq_append_getElem hk, e, flat_last]

theorem flat_take_le (xs : List (List UInt8)) (q : Nat) : (flat (xs.take q)).length ≤ (flat xs).length := by
  have : flat xs = flat (xs.take q) ++ flat (xs.drop q) := by rw [← flat_app, List.take_append_drop]
  rw [this]
  simp

theorem ret_str {a b : ByteArray} (h : a = b) : Ending.returned (.string a) = .returned (.string b) := by rw [h]

set_option maxHeartbeats 400000 in
/-- osfsG1Join of one element or more. -/
theorem join_some (g o n c : Nat) (xs : List (List UInt8)) (w : World) (hn : xs.length = n) (h0 : 0 < n) (hF : (flat xs).length ≤ 65536) (hc : ∀ j x, xs[j]? = some x → w.cell? ⟨g, o + j, none⟩ = some (strv x)) :
    Calls Try.prog 17 #[.slice (some ⟨g, o, none⟩) n c] w fun e w' => e = .returned (.string ⟨(flat xs).toArray⟩) ∧ w' = w := by
  have HN : Hid (xs.length = n) := hn
  have hn6 : n ≤ 65536 := by
    have : ∀ ys : List (List UInt8), ys.length ≤ (flat ys).length := by
      intro ys
      induction ys with
      | nil => simp
      | cons y ys ih => rw [flat_cons]; simp only [List.length_cons, List.length_append]; omega
    have := this xs
    omega
  have hz : ((n : Int) == 0) = false := by simp; omega
  clear hn
  go_enter Try.func17, Try.ntmps17
  go_wp2
  go_loop [3, 4] (fun sv i => ∃ (q : Nat) (t : ByteArray), q ≤ n ∧ i = .int .i64 q ∧ sv = .string t ∧ Hid (t.data.toList = flat (xs.take q))) (fun _ i => n - (intOf i).toNat)
  case atStart => exact ⟨0, ⟨#[]⟩, by omega, rfl, rfl, rfl⟩
  case round =>
    obtain ⟨q, t, hq, rfl, rfl, HT⟩ := hrel
    have hts : t.size ≤ 65536 := by rw [Lib.size_eq, HT.out]; exact Nat.le_trans (flat_take_le _ _) hF
    by_cases hlt : q < n
    · have hqp : q < xs.length := by have := HN.out; omega
      obtain ⟨x, hx⟩ : ∃ x, xs[q]? = some x := ⟨_, List.getElem?_eq_getElem hqp⟩
      have hcell := hc q x hx
      have hft := flat_take xs q x hx
      have hxs : x.length ≤ 65536 := by
        have h1 := flat_take_le xs (q + 1)
        rw [hft] at h1
        simp only [List.length_append, List.length_cons] at h1
        omega
      obtain ⟨X, hX⟩ : ∃ X : ByteArray, X = ⟨x.toArray⟩ := ⟨_, rfl⟩
      have hXs : X.size ≤ 65536 := by rw [Lib.size_eq, hX]; simpa using hxs
      have HT2 : Hid ((t ++ ⟨#[47]⟩ ++ X).data.toList = flat (xs.take (q + 1))) := by
        show (t ++ ⟨#[47]⟩ ++ X).data.toList = _
        rw [hft, ← HT.out, hX]
        simp
      unfold strv at hcell
      rw [← hX] at hcell
      clear hX hft hx hxs HT hqp
      go_wp2
      go_round
      case rel => exact ⟨q + 1, _, by omega, by go_num, rfl, HT2⟩
      case measure => simp [intOf]; omega
    · have HQ : Hid ((⟨(flat xs).toArray⟩ : ByteArray) = t) := list_of (by rw [HT.out, List.take_of_length_le (by have := HN.out; omega)])
      clear HT
      go_wp2
      go_ret
      exact ⟨ret_str HQ.out.symm, rfl⟩

/-- osfsG1Join, however many there are. -/
theorem join_gen (a : Option Addr) (k c : Nat) (R : List (List UInt8)) (r : ByteArray) (w : World) (hk : R.length = k) (hr : (⟨(join R).toArray⟩ : ByteArray) = r) (hF : (flat R).length ≤ 65536)
    (ha : 0 < k → ∃ g o, a = some ⟨g, o, none⟩ ∧ ∀ j x, R[j]? = some x → w.cell? ⟨g, o + j, none⟩ = some (strv x)) : Calls Try.prog 17 #[.slice a k c] w fun e w' => e = .returned (.string r) ∧ w' = w := by
  subst hr
  by_cases h0 : 0 < k
  · obtain ⟨g, o, rfl, hc⟩ := ha h0
    have hj : join R = flat R := by
      unfold join
      rw [if_neg]
      intro e
      rw [e] at hk
      simp at hk
      omega
    rw [hj]
    exact join_some g o k c R w hk h0 hF hc
  · have hk0 : k = 0 := by omega
    subst hk0
    have hR : R = [] := List.eq_nil_of_length_eq_zero hk
    subst hR
    exact join_none a c w

theorem el_nil {l : List UInt8} (h : el l = []) : l = [47] ∨ l = [] := by
  unfold el at h
  split at h
  · assumption
  · obtain ⟨e, r, he⟩ := els_ne (l.drop 1)
    rw [he] at h
    cases h

/-- osfsG1Elems where there is none. -/
theorem elems_nil (s : ByteArray) (w : World) (h : el s.data.toList = []) : Calls Try.prog 16 #[.string s] w fun e w' => e = .returned (.slice none 0 0) ∧ w' = w := by
  rcases el_nil h with h | h
  · have ht : s.toList = [47] := by rw [Lib.toList_data]; exact h
    clear h
    go_enter Try.func16, Try.ntmps16
    go_wp2
    go_ret
    exact ⟨rfl, rfl⟩
  · have ht : (s.toList == [47]) = false := by rw [Lib.toList_data, h]; rfl
    have h0 : ((s.size : Int) == 0) = true := by rw [Lib.size_eq, h]; rfl
    clear h
    go_enter Try.func16, Try.ntmps16
    go_wp2
    go_ret
    exact ⟨rfl, rfl⟩

/-- osfsG1Elems where there is one or more: where they lie. -/
theorem elems_some (s : ByteArray) (xs : List (List UInt8)) (k : Nat) (w : World) (hs : s.size ≤ 65536) (h : el s.data.toList = xs) (hk : xs.length = k) (h0 : 0 < k) :
    Calls Try.prog 16 #[.string s] w fun e w' => ∃ g c, e = .returned (.slice (some ⟨g, 0, none⟩) k c) ∧ k ≤ c ∧ g < w'.heap.size ∧ (∀ j x, xs[j]? = some x → w'.cell? ⟨g, j, none⟩ = some (strv x)) ∧ Below w.heap.size w w' := by
  refine (elems_any s w hs).mono ?_
  rintro e w' ⟨v, rfl, ho, hb⟩
  rw [h] at ho
  have hl := ho.lt
  rcases ho.2 with ⟨_, h2⟩ | ⟨g, cap, cur, hv, h3, h4, h5, _⟩
  · omega
  · subst hv
    refine ⟨g, cap, by rw [hk], by omega, (hl g rfl).2, ?_, hb⟩
    intro j x hx
    have hj := (List.getElem?_eq_some_iff.1 hx).1
    rw [ho.cellAt j (by omega), List.getElem?_map, hx]
    rfl

/-- osfsG1Elems, however many there are. -/
theorem elems_gen (s : ByteArray) (xs : List (List UInt8)) (k : Nat) (w : World) (hs : s.size ≤ 65536) (h : el s.data.toList = xs) (hk : xs.length = k) :
    Calls Try.prog 16 #[.string s] w fun e w' => ∃ a c, e = .returned (.slice a k c) ∧ k ≤ c ∧ (0 < k → ∃ g, a = some ⟨g, 0, none⟩ ∧ g < w'.heap.size ∧ ∀ j x, xs[j]? = some x → w'.cell? ⟨g, j, none⟩ = some (strv x)) ∧ Below w.heap.size w w' := by
  by_cases h0 : 0 < k
  · refine (elems_some s xs k w hs h hk h0).mono ?_
    rintro e w' ⟨g, c, rfl, h1, h2, h3, h4⟩
    exact ⟨_, _, rfl, h1, fun _ => ⟨g, rfl, h2, h3⟩, h4⟩
  · have hk0 : k = 0 := by omega
    subst hk0
    refine (elems_nil s w (by rw [h]; exact List.eq_nil_of_length_eq_zero hk)).mono ?_
    rintro e w' ⟨rfl, rfl⟩
    exact ⟨_, _, rfl, Nat.le_refl _, fun h => absurd h (by decide), Below.refl _ _⟩

theorem wf_yes (s : ByteArray) (w : World) (hs : s.size ≤ 65536) (h : WF s.data.toList) : Calls Try.prog 14 #[.string s] w fun e w' => e = .returned (.bool true) ∧ w' = w := by
  refine (wf_any s w hs).mono ?_
  rintro e w' ⟨b, rfl, hb, rfl⟩
  rw [hb.2 h]
  exact ⟨rfl, rfl⟩
theorem wf_not (s : ByteArray) (w : World) (hs : s.size ≤ 65536) (h : ¬ WF s.data.toList) : Calls Try.prog 14 #[.string s] w fun e w' => e = .returned (.bool false) ∧ w' = w := by
  refine (wf_any s w hs).mono ?_
  rintro e w' ⟨b, rfl, hb, rfl⟩
  cases b with
  | true => exact absurd (hb.1 rfl) h
  | false => exact ⟨rfl, rfl⟩

end Go.Proofs.Qxb6002466a.Be
