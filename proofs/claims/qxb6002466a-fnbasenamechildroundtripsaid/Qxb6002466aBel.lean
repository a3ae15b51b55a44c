/-
  THE WALKS OF osfs.below, osfs.ZZBelow, osfsG1HasSuffix, osfsG1WellFormed AND THE FOUR BOUNDS ON LENGTHS.
-/
import Derived.Test.Qxb6002466aBelPlain
import Derived.Test.Qxb6002466aChecked
import Derived.Test.Qxb6002466aShelf
import Derived.WalkKit
import Derived.WalkLawsBesides
import Derived.Deep.QuietTactic
import Derived.BigQuiet
namespace Go.Proofs.Qxb6002466a.Be
open Go.RowKit

theorem trim_any (s p t : ByteArray) (w : World) (hs : s.size ≤ 9223372036854775807) (h : (⟨(Lib.trimSuffix s.data.toList p.data.toList).toArray⟩ : ByteArray) = t) :
    Calls Try.prog 43 #[.string s, .string p] w fun e w' => e = .returned (.string t) ∧ w' = w := by
  subst h
  exact Try.strings_TrimSuffix s p w hs

theorem cut_any (s p t : ByteArray) (b : Bool) (w : World) (h : (⟨(Lib.trimPrefix s.data.toList p.data.toList).toArray⟩ : ByteArray) = t) (hb : Lib.hasPrefix s.data.toList p.data.toList = b) :
    Calls Try.prog 42 #[.string s, .string p] w fun e w' => e = .returned (.tuple #[.string t, .bool b]) ∧ w' = w := by
  subst h
  subst hb
  exact Try.strings_CutPrefix s p w

theorem below_miss (n d t r : ByteArray) (w : World) (hd : d.size ≤ 9223372036854775807) (h1 : Hid ((⟨(Lib.trimSuffix d.data.toList [47]).toArray⟩ : ByteArray) = t)) (h2 : Hid ((⟨(Lib.trimPrefix n.data.toList t.data.toList).toArray⟩ : ByteArray) = r)) (h3 : Hid (Lib.hasPrefix n.data.toList t.data.toList = false)) :
    Calls Try.prog 34 #[.string n, .string d] w fun e w' => e = .returned (.tuple #[.string ⟨#[]⟩, .bool false]) ∧ w' = w := by
  go_enter Try.func34, Try.ntmps34
  go_wp2_with (first
    | (go_at_call 43; refine (trim_any _ _ t _ hd h1.out).mono ?_; rintro e w' ⟨rfl, rfl⟩)
    | (go_at_call 42; refine (cut_any _ _ r _ _ h2.out h3.out).mono ?_; rintro e w' ⟨rfl, rfl⟩))
  go_ret2
  exact ⟨rfl, rfl⟩

theorem below_root (n d t r : ByteArray) (w : World) (hd : d.size ≤ 9223372036854775807) (h1 : Hid ((⟨(Lib.trimSuffix d.data.toList [47]).toArray⟩ : ByteArray) = t)) (h2 : Hid ((⟨(Lib.trimPrefix n.data.toList t.data.toList).toArray⟩ : ByteArray) = r)) (h3 : Hid (Lib.hasPrefix n.data.toList t.data.toList = true)) (he : r.toList = []) :
    Calls Try.prog 34 #[.string n, .string d] w fun e w' => e = .returned (.tuple #[.string ⟨#[47]⟩, .bool true]) ∧ w' = w := by
  go_enter Try.func34, Try.ntmps34
  go_wp2_with (first
    | (go_at_call 43; refine (trim_any _ _ t _ hd h1.out).mono ?_; rintro e w' ⟨rfl, rfl⟩)
    | (go_at_call 42; refine (cut_any _ _ r _ _ h2.out h3.out).mono ?_; rintro e w' ⟨rfl, rfl⟩))
  go_ret2
  exact ⟨rfl, rfl⟩

theorem below_odd (n d t r : ByteArray) (w : World) (hd : d.size ≤ 9223372036854775807) (h1 : Hid ((⟨(Lib.trimSuffix d.data.toList [47]).toArray⟩ : ByteArray) = t)) (h2 : Hid ((⟨(Lib.trimPrefix n.data.toList t.data.toList).toArray⟩ : ByteArray) = r)) (h3 : Hid (Lib.hasPrefix n.data.toList t.data.toList = true)) (h0 : 0 < r.size) (he : r.toList.isEmpty = false) (hc : ((r[0].toNat : Int) != 47) = true) :
    Calls Try.prog 34 #[.string n, .string d] w fun e w' => e = .returned (.tuple #[.string ⟨#[]⟩, .bool false]) ∧ w' = w := by
  go_enter Try.func34, Try.ntmps34
  go_wp2_with (first
    | (go_at_call 43; refine (trim_any _ _ t _ hd h1.out).mono ?_; rintro e w' ⟨rfl, rfl⟩)
    | (go_at_call 42; refine (cut_any _ _ r _ _ h2.out h3.out).mono ?_; rintro e w' ⟨rfl, rfl⟩))
  go_ret2
  exact ⟨rfl, rfl⟩

theorem below_rest (n d t r : ByteArray) (w : World) (hd : d.size ≤ 9223372036854775807) (h1 : Hid ((⟨(Lib.trimSuffix d.data.toList [47]).toArray⟩ : ByteArray) = t)) (h2 : Hid ((⟨(Lib.trimPrefix n.data.toList t.data.toList).toArray⟩ : ByteArray) = r)) (h3 : Hid (Lib.hasPrefix n.data.toList t.data.toList = true)) (h0 : 0 < r.size) (he : r.toList.isEmpty = false) (hc : ((r[0].toNat : Int) != 47) = false) :
    Calls Try.prog 34 #[.string n, .string d] w fun e w' => e = .returned (.tuple #[.string r, .bool true]) ∧ w' = w := by
  go_enter Try.func34, Try.ntmps34
  go_wp2_with (first
    | (go_at_call 43; refine (trim_any _ _ t _ hd h1.out).mono ?_; rintro e w' ⟨rfl, rfl⟩)
    | (go_at_call 42; refine (cut_any _ _ r _ _ h2.out h3.out).mono ?_; rintro e w' ⟨rfl, rfl⟩))
  go_ret2
  exact ⟨rfl, rfl⟩

theorem list_of {l : List UInt8} {r : ByteArray} (h : l = r.data.toList) : (⟨l.toArray⟩ : ByteArray) = r := by rw [h]

theorem first_byte {r : ByteArray} {c : UInt8} {t : List UInt8} (h : r.data.toList = c :: t) : ∃ h0 : 0 < r.size, r[0] = c ∧ r.toList.isEmpty = false := by
  have h0 : 0 < r.size := by rw [Lib.size_eq, h]; simp
  refine ⟨h0, ?_, by rw [Lib.toList_data, h]; rfl⟩
  have := Lib.Pa.at_eq r 0 h0
  rw [h] at this
  simpa using this.symm

/-- osfs.below refuses. -/
theorem below_no (n d : ByteArray) (w : World) (hd : d.size ≤ 9223372036854775807) (h : bel n.data.toList d.data.toList = none) :
    Calls Try.prog 34 #[.string n, .string d] w fun e w' => e = .returned (.tuple #[.string ⟨#[]⟩, .bool false]) ∧ w' = w := by
  unfold bel at h
  split at h
  · rename_i hp
    generalize hr : left n.data.toList d.data.toList = l at h
    unfold left at hr
    cases l with
    | nil => cases h
    | cons c l =>
      obtain ⟨h0, h1, he⟩ := first_byte (r := ⟨(c :: l).toArray⟩) (c := c) (t := l) rfl
      have hc : c ≠ 47 := by
        intro e
        subst e
        simp [pick] at h
      exact below_odd n d ⟨(Lib.trimSuffix d.data.toList [47]).toArray⟩ ⟨(c :: l).toArray⟩ w hd rfl (by show _ = _; rw [← hr]) hp h0 he (by rw [h1]; unfold bne; rw [Lib.Pa.beq47]; simpa using hc)
  · rename_i hp
    exact below_miss n d _ _ w hd rfl rfl (by show _ = _; simpa using hp)

/-- osfs.below accepts, and names r. -/
theorem below_yes (n d r : ByteArray) (w : World) (hd : d.size ≤ 9223372036854775807) (h : bel n.data.toList d.data.toList = some r.data.toList) :
    Calls Try.prog 34 #[.string n, .string d] w fun e w' => e = .returned (.tuple #[.string r, .bool true]) ∧ w' = w := by
  unfold bel at h
  split at h
  · rename_i hp
    generalize hr : left n.data.toList d.data.toList = l at h
    unfold left at hr
    cases l with
    | nil =>
      have hr2 : r = ⟨#[47]⟩ := by
        have e : [47] = r.data.toList := by simpa [pick] using h
        exact (list_of e).symm
      subst hr2
      exact below_root n d ⟨(Lib.trimSuffix d.data.toList [47]).toArray⟩ ⟨#[]⟩ w hd rfl (by show _ = _; rw [hr]) hp (by rw [Lib.toList_data])
    | cons c l =>
      have hk : pick (c :: l) = if c = 47 then some (c :: l) else none := rfl
      rw [hk] at h
      split at h
      · rename_i hc
        have e : c :: l = r.data.toList := by simpa using h
        obtain ⟨h0, h1, he⟩ := first_byte (r := r) (c := c) (t := l) e.symm
        exact below_rest n d ⟨(Lib.trimSuffix d.data.toList [47]).toArray⟩ r w hd rfl (by show _ = _; rw [← list_of e, ← hr]) hp h0 he (by rw [h1, hc]; rfl)
      · cases h
  · cases h

/-- osfs.ZZBelow. -/
theorem zz_no (n d : ByteArray) (w : World) (hd : d.size ≤ 9223372036854775807) (h : bel n.data.toList d.data.toList = none) :
    Calls Try.prog 15 #[.string n, .string d] w fun e w' => e = .returned (.tuple #[.string ⟨#[]⟩, .bool false]) ∧ w' = w := by
  have H : Hid (bel n.data.toList d.data.toList = none) := h
  clear h
  go_enter Try.func15, Try.ntmps15
  go_wp2_with (go_at_call 34; refine (below_no _ _ _ hd H.out).mono ?_; rintro e w' ⟨rfl, rfl⟩)
  go_ret2
  exact ⟨rfl, rfl⟩

theorem zz_yes (n d r : ByteArray) (w : World) (hd : d.size ≤ 9223372036854775807) (h : bel n.data.toList d.data.toList = some r.data.toList) :
    Calls Try.prog 15 #[.string n, .string d] w fun e w' => e = .returned (.tuple #[.string r, .bool true]) ∧ w' = w := by
  have H : Hid (bel n.data.toList d.data.toList = some r.data.toList) := h
  clear h
  go_enter Try.func15, Try.ntmps15
  go_wp2_with (go_at_call 34; refine (below_yes _ _ r _ hd H.out).mono ?_; rintro e w' ⟨rfl, rfl⟩)
  go_ret2
  exact ⟨rfl, rfl⟩

theorem bytes13_any (a b : ByteArray) (w : World) (h : a.size + b.size ≤ 1048576) : Calls Try.prog 13 #[.string a, .string b] w fun e w' => e = .returned (.bool true) ∧ w' = w := by
  go_enter Try.func13, Try.ntmps13
  go_wp2
  go_ret
  exact ⟨rfl, rfl⟩
theorem bytes13_not (a b : ByteArray) (w : World) (h0 : a.size ≤ 9223372036854775807) (h1 : b.size ≤ 9223372036854775807) (h : 1048576 < a.size + b.size) : Calls Try.prog 13 #[.string a, .string b] w fun e w' => e = .returned (.bool false) ∧ w' = w := by
  go_enter Try.func13, Try.ntmps13
  go_wp2
  all_goals (go_ret; exact ⟨rfl, rfl⟩)

theorem bytes18_any (a b : ByteArray) (w : World) (h : a.size + b.size ≤ 1048576) : Calls Try.prog 18 #[.string a, .string b] w fun e w' => e = .returned (.bool true) ∧ w' = w := by
  go_enter Try.func18, Try.ntmps18
  go_wp2
  go_ret
  exact ⟨rfl, rfl⟩
theorem bytes18_not (a b : ByteArray) (w : World) (h0 : a.size ≤ 9223372036854775807) (h1 : b.size ≤ 9223372036854775807) (h : 1048576 < a.size + b.size) : Calls Try.prog 18 #[.string a, .string b] w fun e w' => e = .returned (.bool false) ∧ w' = w := by
  go_enter Try.func18, Try.ntmps18
  go_wp2
  all_goals (go_ret; exact ⟨rfl, rfl⟩)

theorem bytes20_any (a b : ByteArray) (w : World) (h : a.size + b.size ≤ 1048576) : Calls Try.prog 20 #[.string a, .string b] w fun e w' => e = .returned (.bool true) ∧ w' = w := by
  go_enter Try.func20, Try.ntmps20
  go_wp2
  go_ret
  exact ⟨rfl, rfl⟩
theorem bytes20_not (a b : ByteArray) (w : World) (h0 : a.size ≤ 9223372036854775807) (h1 : b.size ≤ 9223372036854775807) (h : 1048576 < a.size + b.size) : Calls Try.prog 20 #[.string a, .string b] w fun e w' => e = .returned (.bool false) ∧ w' = w := by
  go_enter Try.func20, Try.ntmps20
  go_wp2
  all_goals (go_ret; exact ⟨rfl, rfl⟩)

theorem bytes22_any (a b : ByteArray) (w : World) (h : a.size + b.size ≤ 1048576) : Calls Try.prog 22 #[.string a, .string b] w fun e w' => e = .returned (.bool true) ∧ w' = w := by
  go_enter Try.func22, Try.ntmps22
  go_wp2
  go_ret
  exact ⟨rfl, rfl⟩
theorem bytes22_not (a b : ByteArray) (w : World) (h0 : a.size ≤ 9223372036854775807) (h1 : b.size ≤ 9223372036854775807) (h : 1048576 < a.size + b.size) : Calls Try.prog 22 #[.string a, .string b] w fun e w' => e = .returned (.bool false) ∧ w' = w := by
  go_enter Try.func22, Try.ntmps22
  go_wp2
  all_goals (go_ret; exact ⟨rfl, rfl⟩)

theorem suf_at {s f : ByteArray} {k m : Nat} (hs : m < f.size) (hk : k + f.size = s.size) (h : ∃ p, s.data.toList = p ++ f.data.toList) (h1 : k + m < s.size) : s[k + m] = f[m] := by
  obtain ⟨p, e⟩ := h
  have hl : p.length = k := by
    have := Lib.size_eq s
    have := Lib.size_eq f
    rw [e, List.length_append] at *
    omega
  have a := Lib.Pa.at_eq s (k + m) h1
  have b := Lib.Pa.at_eq f m hs
  rw [e, List.getElem?_append_right (by omega), show k + m - p.length = m by omega, b] at a
  simpa using a.symm

set_option maxHeartbeats 400000 in
/-- osfsG1HasSuffix finds the suffix. -/
theorem suffix_yes (s f : ByteArray) (w : World) (k : Nat) (hk : k + f.size = s.size) (hs : s.size ≤ 65536) (h : ∃ p, s.data.toList = p ++ f.data.toList) :
    Calls Try.prog 19 #[.string s, .string f] w fun e w' => e = .returned (.bool true) ∧ Below w.heap.size w w' := by
  have HP : Hid (∃ p, s.data.toList = p ++ f.data.toList) := h
  have HK : Hid (k + f.size = s.size) := hk
  have hk1 : f.size ≤ s.size := by omega
  clear h hk
  go_enter Try.func19, Try.ntmps19
  go_wp2
  rw [show ((s.size : Int) - (f.size : Int)) = (k : Int) from by have := HK.out; omega]
  go_loopw [6] (fun i wr => ∃ m : Nat, m ≤ f.size ∧ i = .int .i64 m ∧ Below w.heap.size w wr) (fun i _ => f.size - (intOf i).toNat)
  case atStart => exact ⟨0, Nat.zero_le _, rfl, Below.refl _ _⟩
  case round =>
    obtain ⟨m, hm, rfl, hb⟩ := hrel
    by_cases hlt : m < f.size
    · have hkm : k + m < s.size := by have := HK.out; omega
      have hkm' : (k : Int) + (m : Int) < (s.size : Int) := by omega
      have hc : ((s[k + m].toNat : Int) != (f[m].toNat : Int)) = false := by rw [suf_at hlt HK.out HP.out hkm]; simp
      have hw : IntKind.i64.wrap ((k : Int) + (m : Int)) = ((k + m : Nat) : Int) := by
        rw [IntWalk.i64_left]
        unfold wrap64
        omega
      have hpos : 0 ≤ (k : Int) + (m : Int) := by omega
      go_wp2
      go_region
      go_wp2
      go_roundw
      case rel => exact ⟨m + 1, by omega, by go_num, below_drewN hb _⟩
      case measure => simp [intOf]; omega
    · go_wp2
      go_ret
      exact ⟨rfl, hb⟩

theorem iffF {p : Prop} (h : ¬ p) : false = true ↔ p := ⟨fun e => (by cases e), fun e => absurd e h⟩
theorem iffT {p : Prop} (h : p) : true = true ↔ p := ⟨fun _ => h, fun _ => rfl⟩

theorem nth {s : ByteArray} {k : Nat} (h : k < s.size) (c : UInt8) : s.data.toList[k]? = some c ↔ ((s[k].toNat : Int) == (c.toNat : Int)) = true := by
  rw [Lib.Pa.beq_lit, Lib.Pa.at_eq s k h]
  simp

theorem nthF {s : ByteArray} {k : Nat} (h : k < s.size) (c : UInt8) : s.data.toList[k]? ≠ some c ↔ ((s[k].toNat : Int) == (c.toNat : Int)) = false := by
  rw [ne_eq, nth h c]
  simp

theorem last_at {s : ByteArray} : s.data.toList.getLast? = s.data.toList[s.size - 1]? := by
  rw [List.getLast?_eq_getElem?, ← Lib.size_eq]

theorem head_at {s : ByteArray} : s.data.toList.head? = s.data.toList[0]? := List.head?_eq_getElem? ..

set_option maxHeartbeats 400000 in
/-- osfsG1WellFormed decides 'WF'. -/
theorem wf_any (s : ByteArray) (w : World) (hs : s.size ≤ 65536) :
    Calls Try.prog 14 #[.string s] w fun e w' => ∃ b, e = .returned (.bool b) ∧ (b = true ↔ WF s.data.toList) ∧ w' = w := by
  by_cases h0 : 0 < s.size
  · have hz : ((s.size : Int) == 0) = false := by simp; intro e; rw [e] at h0; exact absurd h0 (by decide)
    by_cases h47 : s.data.toList[0]? = some 47
    · have hb0 : ((s[0].toNat : Int) != 47) = false := by unfold bne; rw [show ((s[0].toNat : Int) == 47) = true from (nth h0 47).1 h47]; rfl
      have hh : s.data.toList.head? = some 47 := by rw [head_at]; exact h47
      by_cases hr : s.data.toList = [47]
      · have ht : s.toList = [47] := by rw [Lib.toList_data, hr]
        have HW : Hid (WF s.data.toList) := ⟨hh, .inl hr⟩
        clear hr hh
        go_enter Try.func14, Try.ntmps14
        go_wp2
        go_ret
        exact ⟨true, rfl, iffT HW.out, rfl⟩
      · have ht : (s.toList == [47]) = false := by rw [Lib.toList_data]; simpa using hr
        have HH : Hid (s.data.toList.head? = some 47) := hh
        have HR : Hid (s.data.toList ≠ [47]) := hr
        clear hr hh h47
        go_enter Try.func14, Try.ntmps14
        go_wp2
        go_loop [3] (fun i => ∃ q : Nat, q + 1 ≤ s.size ∧ i = .int .i64 ((q : Int) + 1) ∧ Hid (∀ j, j + 1 < q + 1 → s.data.toList[j]? = some 47 → s.data.toList[j + 1]? ≠ some 47)) (fun i => s.size - (intOf i).toNat)
        case atStart => exact ⟨0, by omega, rfl, fun j hj => by omega⟩
        case round =>
          obtain ⟨q, hq, rfl, HD⟩ := hrel
          by_cases hlt : q + 1 < s.size
          · by_cases h1 : s.data.toList[q + 1]? = some 47
            · have hb1 : ((s[q + 1].toNat : Int) == 47) = true := (nth hlt 47).1 h1
              have hq' : q < s.size := by omega
              by_cases h2 : s.data.toList[q]? = some 47
              · have hb2 : ((s[q].toNat : Int) == 47) = true := (nth hq' 47).1 h2
                have HN : Hid (¬ WF s.data.toList) := wf_double h2 h1
                clear h1 h2 HD
                go_wp2
                go_ret
                exact ⟨false, rfl, iffF HN.out, rfl⟩
              · have hb2 : ((s[q].toNat : Int) == 47) = false := (nthF hq' 47).1 h2
                have HD2 : Hid (∀ j, j + 1 < q + 1 + 1 → s.data.toList[j]? = some 47 → s.data.toList[j + 1]? ≠ some 47) := fun j hj => by
                  by_cases e : j = q
                  · subst e; exact fun h => absurd h h2
                  · exact HD.out j (by omega)
                clear h1 h2 HD
                go_wp2
                go_round
                case rel => exact ⟨q + 1, by omega, by go_num, HD2⟩
                case measure => simp [intOf]; omega
            · have hb1 : ((s[q + 1].toNat : Int) == 47) = false := (nthF hlt 47).1 h1
              have HD2 : Hid (∀ j, j + 1 < q + 1 + 1 → s.data.toList[j]? = some 47 → s.data.toList[j + 1]? ≠ some 47) := fun j hj => by
                by_cases e : j = q
                · subst e; exact fun _ => h1
                · exact HD.out j (by omega)
              clear h1 HD
              go_wp2
              go_round
              case rel => exact ⟨q + 1, by omega, by go_num, HD2⟩
              case measure => simp [intOf]; omega
          · have hql : q + 1 = s.size := by omega
            have HQ : Hid (q + 1 = s.size) := hql
            have hls : s.size - 1 < s.size := by omega
            by_cases hl : s.data.toList[s.size - 1]? = some 47
            · have hbl : ((s[s.size - 1].toNat : Int) != 47) = false := by unfold bne; rw [show ((s[s.size - 1].toNat : Int) == 47) = true from (nth hls 47).1 hl]; rfl
              have HN : Hid (¬ WF s.data.toList) := wf_last HR.out (by rw [last_at]; exact hl)
              clear hql hl
              go_wp2
              go_ret
              exact ⟨false, rfl, iffF HN.out, rfl⟩
            · have hbl : ((s[s.size - 1].toNat : Int) != 47) = true := by unfold bne; rw [show ((s[s.size - 1].toNat : Int) == 47) = false from (nthF hls 47).1 hl]; rfl
              have HW : Hid (WF s.data.toList) := wf_mk HH.out (fun i hi => HD.out i (by rw [← Lib.size_eq] at hi; omega)) (by rw [last_at]; exact hl)
              clear hql hl HD
              go_wp2
              go_ret
              exact ⟨true, rfl, iffT HW.out, rfl⟩
    · have hb0 : ((s[0].toNat : Int) != 47) = true := by unfold bne; rw [show ((s[0].toNat : Int) == 47) = false from (nthF h0 47).1 h47]; rfl
      have HN : Hid (¬ WF s.data.toList) := fun h => h47 (by rw [← head_at]; exact h.head)
      clear h47
      go_enter Try.func14, Try.ntmps14
      go_wp2
      go_ret
      exact ⟨false, rfl, iffF HN.out, rfl⟩
  · have HN : Hid (¬ WF s.data.toList) := fun h => by
      have h1 := h.head
      rw [head_at] at h1
      have := (List.getElem?_eq_some_iff.1 h1).1
      rw [← Lib.size_eq] at this
      exact h0 this
    have hz : ((s.size : Int) == 0) = true := by rw [show s.size = 0 from by omega]; rfl
    go_enter Try.func14, Try.ntmps14
    go_wp2
    go_ret
    exact ⟨false, rfl, iffF HN.out, rfl⟩

end Go.Proofs.Qxb6002466a.Be
