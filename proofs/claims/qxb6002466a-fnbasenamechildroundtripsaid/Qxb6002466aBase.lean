/-
  THE WALKS OF osfs.baseName, osfs.ZZBaseName AND osfsG1HasSlash.
-/
import Derived.Test.Qxb6002466aEls
namespace Go.Proofs.Qxb6002466a.Be
open Go.RowKit

theorem bang (s : ByteArray) (j : Nat) (h : j < s.size) : s.data.toList[j]? = some (s.data[j]!) := by
  have h' : j < s.data.size := h
  rw [getElem!_pos s.data j h']
  simp

/-- The last slash. -/
theorem last_is (s : ByteArray) (p x : List UInt8) (h : s.data.toList = p ++ 47 :: x) (hx : 47 ∉ x) : Lib.lastIndexByte s 47 = (p.length : Int) := by
  have hp : p.length < s.size := by rw [Lib.size_eq, h]; simp
  have hat : s.data.toList[p.length]? = some 47 := by rw [h]; simp
  have hbeh : ∀ j, p.length < j → s.data.toList[j]? ≠ some 47 := by
    intro j hj e
    rw [h, List.getElem?_append_right (by omega)] at e
    obtain ⟨m, hm⟩ : ∃ m, j - p.length = m + 1 := ⟨j - p.length - 1, by omega⟩
    rw [hm, List.getElem?_cons_succ] at e
    exact hx (List.mem_of_getElem? e)
  have conv : ∀ j, j < s.size → (((s.data[j]!).toNat : Int) = 47 ↔ s.data.toList[j]? = some 47) := by
    intro j hj
    rw [bang s j hj]
    constructor
    · intro e
      have : (s.data[j]!).toNat = (47 : UInt8).toNat := by exact_mod_cast e
      rw [UInt8.toNat_inj.1 this]
    · intro e
      have : s.data[j]! = 47 := by simpa using e
      rw [this]
      rfl
  rcases Lib.lastIndexByte_spec s 47 with ⟨_, h2⟩ | ⟨i, hi, h1, h2, h3⟩
  · exact absurd ((conv _ hp).2 hat) (h2 _ hp)
  · rw [h1]
    have e1 := (conv i hi).1 h2
    by_cases hlt : p.length < i
    · exact absurd e1 (hbeh i hlt)
    · by_cases hgt : i < p.length
      · exact absurd ((conv _ hp).2 hat) (h3 p.length hgt hp)
      · have : i = p.length := by omega
        rw [this]

theorem last_any (s : ByteArray) (k : Nat) (w : World) (hs : s.size ≤ 9223372036854775807) (hs2 : s.size ≤ 200000) (h : Lib.lastIndexByte s 47 = (k : Int)) : Calls Try.prog 44 #[.string s, .int .u8 47] w fun e w' => e = .returned (.int .i64 (k : Int)) ∧ w' = w := by
  rw [← h]
  exact Try.strings_LastIndexByte s 47 (by omega) w

/-- osfs.baseName behind a last slash. -/
theorem base_some (s b : ByteArray) (p x : List UInt8) (w : World) (hs : s.size ≤ 200000) (h : s.data.toList = p ++ 47 :: x) (hx : 47 ∉ x) (hne : s.data.toList ≠ [47]) (hb : (⟨x.toArray⟩ : ByteArray) = b) :
    Calls Try.prog 35 #[.string s] w fun e w' => e = .returned (.string b) ∧ w' = w := by
  have HL : Hid (Lib.lastIndexByte s 47 = (p.length : Int)) := last_is s p x h hx
  have ht : (s.toList == [47]) = false := by rw [Lib.toList_data]; simpa using hne
  have hp : p.length + 1 ≤ s.size := by rw [Lib.size_eq, h]; simp
  have HB : Hid (s.extract (p.length + 1) s.size = b) := by
    show s.extract (p.length + 1) s.size = b
    rw [Lib.extract_eq, ← hb, Lib.size_eq, h]
    congr 2
    have e1 : (p ++ 47 :: x).drop (p.length + 1) = x := by rw [show p ++ 47 :: x = (p ++ [47]) ++ x from by simp, List.drop_left' (by simp)]
    rw [e1, List.take_of_length_le (by simp only [List.length_append, List.length_cons]; omega)]
  generalize p.length = k at *
  clear h hne hb
  go_enter Try.func35, Try.ntmps35
  go_wp2_with (go_at_call 44; refine (last_any _ k _ (by omega) hs HL.out).mono ?_; rintro e w' ⟨rfl, rfl⟩)
  go_ret
  exact ⟨ret_str HB.out, rfl⟩

/-- osfs.baseName of the root. -/
theorem base_root (s : ByteArray) (w : World) (h : s.data.toList = [47]) : Calls Try.prog 35 #[.string s] w fun e w' => e = .returned (.string ⟨#[46]⟩) ∧ w' = w := by
  have ht : s.toList = [47] := by rw [Lib.toList_data]; exact h
  clear h
  go_enter Try.func35, Try.ntmps35
  go_wp2
  go_ret
  exact ⟨rfl, rfl⟩

theorem zzbase_some (s b : ByteArray) (p x : List UInt8) (w : World) (hs : s.size ≤ 200000) (h : s.data.toList = p ++ 47 :: x) (hx : 47 ∉ x) (hne : s.data.toList ≠ [47]) (hb : (⟨x.toArray⟩ : ByteArray) = b) :
    Calls Try.prog 24 #[.string s] w fun e w' => e = .returned (.string b) ∧ w' = w := by
  have H : ∀ w, Calls Try.prog 35 #[.string s] w fun e w' => e = .returned (.string b) ∧ w' = w := fun w => base_some s b p x w hs h hx hne hb
  have HH : Hid (∀ w, Calls Try.prog 35 #[.string s] w fun e w' => e = .returned (.string b) ∧ w' = w) := H
  clear H h hx hne hb
  go_enter Try.func24, Try.ntmps24
  go_wp2_with (go_at_call 35; refine (HH.out _).mono ?_; rintro e w' ⟨rfl, rfl⟩)
  go_ret
  exact ⟨rfl, rfl⟩

theorem zzbase_root (s : ByteArray) (w : World) (h : s.data.toList = [47]) : Calls Try.prog 24 #[.string s] w fun e w' => e = .returned (.string ⟨#[46]⟩) ∧ w' = w := by
  have HH : Hid (s.data.toList = [47]) := h
  clear h
  go_enter Try.func24, Try.ntmps24
  go_wp2_with (go_at_call 35; refine (base_root _ _ HH.out).mono ?_; rintro e w' ⟨rfl, rfl⟩)
  go_ret
  exact ⟨rfl, rfl⟩

/-- osfsG1HasSlash finds none. -/
theorem slash_no (s : ByteArray) (w : World) (hs : s.size ≤ 65536) (h : 47 ∉ s.data.toList) : Calls Try.prog 23 #[.string s] w fun e w' => e = .returned (.bool false) ∧ w' = w := by
  have HN : Hid (47 ∉ s.data.toList) := h
  clear h
  go_enter Try.func23, Try.ntmps23
  go_wp2
  go_loop [3] (fun i => ∃ k : Nat, k ≤ s.size ∧ i = .int .i64 k) (fun i => s.size - (intOf i).toNat)
  case atStart => exact ⟨0, Nat.zero_le _, rfl⟩
  case round =>
    obtain ⟨k, hk, rfl⟩ := hrel
    by_cases hlt : k < s.size
    · have hb : ((s[k].toNat : Int) == 47) = false := (nthF hlt 47).1 fun e => HN.out (List.mem_of_getElem? e)
      go_wp2
      go_round
      case rel => exact ⟨k + 1, by omega, by go_num⟩
      case measure => simp [intOf]; omega
    · go_wp2
      go_ret
      exact ⟨rfl, rfl⟩

/-- osfsG1HasSlash finds one. -/
theorem slash_yes (s : ByteArray) (w : World) (hs : s.size ≤ 65536) (h : 47 ∈ s.data.toList) : Calls Try.prog 23 #[.string s] w fun e w' => e = .returned (.bool true) ∧ w' = w := by
  obtain ⟨j, hj⟩ := List.mem_iff_getElem?.1 h
  have hjs : j < s.size := by rw [Lib.size_eq]; exact (List.getElem?_eq_some_iff.1 hj).1
  have HJ : Hid (s.data.toList[j]? = some 47) := hj
  clear h hj
  go_enter Try.func23, Try.ntmps23
  go_wp2
  go_loop [3] (fun i => ∃ k : Nat, k ≤ j ∧ i = .int .i64 k) (fun i => s.size - (intOf i).toNat)
  case atStart => exact ⟨0, Nat.zero_le _, rfl⟩
  case round =>
    obtain ⟨k, hk, rfl⟩ := hrel
    have hlt : k < s.size := by omega
    by_cases h47 : s.data.toList[k]? = some 47
    · have hb : ((s[k].toNat : Int) == 47) = true := (nth hlt 47).1 h47
      clear h47
      go_wp2
      go_ret
      exact ⟨rfl, rfl⟩
    · have hb : ((s[k].toNat : Int) == 47) = false := (nthF hlt 47).1 h47
      have hkj : k < j := by
        by_cases e : k = j
        · subst e; exact absurd HJ.out h47
        · omega
      clear h47
      go_wp2
      go_round
      case rel => exact ⟨k + 1, by omega, by go_num⟩
      case measure => simp [intOf]; omega

end Go.Proofs.Qxb6002466a.Be
