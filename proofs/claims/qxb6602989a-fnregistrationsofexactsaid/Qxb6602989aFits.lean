/-
  THE WALKS OF THE TWO BOUNDS: zzBytes_FnRegistrationsOfExact AND zzRegBytesFit_b1: each answers a bool, and nothing turns.
-/
import Derived.Test.Qxb6602989aRegs
namespace Go.Proofs.Qxb6602989a.Rg
open Go.RowKit

/-- The call returns a bool, whichever. -/
def Answers (e : Ending) : Prop := ∃ b, e = .returned (.bool b)

set_option maxHeartbeats 1000000 in
theorem bytes_any (s : ByteArray) (a1 a2 a3 : Option Addr) (l1 c1 l2 c2 l3 c3 : Nat) (N : Nat → ByteArray) (w : World) (hs : s.size ≤ 9223372036854775807) (h1 : l1 ≤ 9223372036854775807) (h2 : l2 ≤ 9223372036854775807) (h3 : l3 ≤ 9223372036854775807)
    (hR : Row w a2 l2 fun j => .string (N j)) (hN : ∀ j, j < l2 → (N j).size ≤ 9223372036854775807) :
    Calls Try.prog 14 #[.string s, .slice a1 l1 c1, .slice a2 l2 c2, .slice a3 l3 c3] w fun e w' => Answers e ∧ w' = w := by
  have HR : Hid (Row w a2 l2 fun j => .string (N j)) := hR
  have HN : Hid (∀ j, j < l2 → (N j).size ≤ 9223372036854775807) := hN
  clear hR hN
  by_cases t1 : s.size + l1 + l2 ≤ 1048576
  · go_enter Try.func14, Try.ntmps14
    go_wp2
    go_loop [9, 10] (fun zv i => ∃ k z : Nat, k ≤ l2 ∧ z ≤ 1048576 ∧ zv = .int .i64 z ∧ i = .int .i64 k) (fun _ i => l2 - (intOf i).toNat)
    case atStart => exact ⟨0, s.size + l1 + l2, by omega, t1, by go_num, rfl⟩
    case round =>
      obtain ⟨k, z, hk, hz, rfl, rfl⟩ := hrel
      by_cases hlt : k < l2
      · obtain ⟨b, o, rfl, _, hc⟩ := HR.out (by omega)
        have hcell : w.cell? ⟨b, o + k, none⟩ = some (.string (N k)) := hc k hlt
        have hX := HN.out k hlt
        generalize N k = X at hcell hX
        clear hc
        by_cases t2 : X.size ≤ 1048576
        · by_cases t3 : z + X.size ≤ 1048576
          · go_wp2
            go_round
            case rel => exact ⟨k + 1, z + X.size, by omega, by omega, by go_num, by go_num⟩
            case measure => simp [intOf]; omega
          · go_wp2
            go_ret
            exact ⟨⟨_, rfl⟩, rfl⟩
        · go_wp2
          go_ret
          exact ⟨⟨_, rfl⟩, rfl⟩
      · go_wp2
        all_goals (go_ret; exact ⟨⟨_, rfl⟩, rfl⟩)
  · go_enter Try.func14, Try.ntmps14
    go_wp2
    all_goals (go_ret; exact ⟨⟨_, rfl⟩, rfl⟩)

set_option maxHeartbeats 1000000 in
theorem fits_any (s : ByteArray) (a1 a2 a3 : Option Addr) (l1 c1 l2 c2 l3 c3 : Nat) (N : Nat → ByteArray) (w : World) (hs : s.size ≤ 1048576) (h1 : l1 ≤ 4096) (h2 : l2 ≤ 4096) (h3 : l3 ≤ 4096)
    (hR : Row w a2 l2 fun j => .string (N j)) (hN : ∀ j, j < l2 → (N j).size ≤ 9223372036854775807) :
    Calls Try.prog 15 #[.string s, .slice a1 l1 c1, .slice a2 l2 c2, .slice a3 l3 c3] w fun e w' => Answers e ∧ w' = w := by
  have HR : Hid (Row w a2 l2 fun j => .string (N j)) := hR
  have HN : Hid (∀ j, j < l2 → (N j).size ≤ 9223372036854775807) := hN
  clear hR hN
  by_cases t1 : 8 * l1 + 16 * l2 + l3 + s.size ≤ 1048576
  · go_enter Try.func15, Try.ntmps15
    go_wp2
    go_loop [9, 10] (fun zv i => ∃ k z : Nat, k ≤ l2 ∧ z ≤ 1048576 ∧ zv = .int .i64 z ∧ i = .int .i64 k) (fun _ i => l2 - (intOf i).toNat)
    case atStart => exact ⟨0, 8 * l1 + 16 * l2 + l3 + s.size, by omega, t1, by go_num, rfl⟩
    case round =>
      obtain ⟨k, z, hk, hz, rfl, rfl⟩ := hrel
      by_cases hlt : k < l2
      · obtain ⟨b, o, rfl, _, hc⟩ := HR.out (by omega)
        have hcell : w.cell? ⟨b, o + k, none⟩ = some (.string (N k)) := hc k hlt
        have hX := HN.out k hlt
        generalize N k = X at hcell hX
        clear hc
        by_cases t3 : z + X.size ≤ 1048576
        · go_wp2
          go_round
          case rel => exact ⟨k + 1, z + X.size, by omega, by omega, by go_num, by go_num⟩
          case measure => simp [intOf]; omega
        · go_wp2
          go_ret
          exact ⟨⟨_, rfl⟩, rfl⟩
      · go_wp2
        go_ret
        exact ⟨⟨_, rfl⟩, rfl⟩
  · go_enter Try.func15, Try.ntmps15
    go_wp2
    all_goals (go_ret; exact ⟨⟨_, rfl⟩, rfl⟩)

end Go.Proofs.Qxb6602989a.Rg
