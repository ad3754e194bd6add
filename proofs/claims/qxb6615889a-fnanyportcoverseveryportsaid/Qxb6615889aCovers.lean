/-
  FnAnyPortCoversEveryPort (3): the loop over all ports, in the two cases (every port covered; not).
-/
import Derived.Test.Qxb6615889aPortWalks
namespace Go.Proofs.Qxb6615889a
open Go.RowKit

set_option maxHeartbeats 4000000 in
theorem walk3_not (a0 : Int) (a1 : Int) (a2 : Int) (a3 : Int) (h2 : 0 ≤ a2 ∧ a2 ≤ 65535) (h3 : 0 ≤ a3 ∧ a3 ≤ 65535) (hne : ¬ (a2 = 0 ∧ a3 = 65535)) (w : World) :
    Calls Try.prog 3 #[.int .u8 a0, .int .u8 a1, .int .u16 a2, .int .u16 a3] w fun e w' => e = .returned (.bool true) ∧ Grown w w' := by
  obtain ⟨h20, h21⟩ := h2
  obtain ⟨h30, h31⟩ := h3
  have hany : Hid (anyB a2 a3 = false) := (by unfold anyB; simpa using hne : anyB a2 a3 = false)
  go_enter Try.func3, Try.ntmps3
  go_wp2
  go_loop [9, 10] (fun c i => c = .bool true ∧ ∃ k : Nat, k ≤ 65536 ∧ i = .int .i64 k ∧ (k = 0 ∨ a2 = 0) ∧ (k : Int) ≤ a3 + 1)
    (fun _ i => 65536 - (intOf i).toNat)
  case atStart => exact ⟨rfl, 0, by omega, rfl, Or.inl rfl, by omega⟩
  case round =>
    obtain ⟨rfl, k, hk, rfl, hk0, hk1⟩ := hrel
    by_cases hlast : k = 65536
    · exfalso; omega
    · have hle : (k : Int) ≤ 65535 := by omega
      have hwr : IntKind.u16.wrap (k : Int) = (k : Int) := by
        simp [IntKind.wrap, IntKind.signed, IntKind.bits]; omega
      go_wp2_with fail
      case roundEnd =>
        go_round
        case rel => exact ⟨rfl, k + 1, by omega, by go_num, by omega, by omega⟩
        case measure => simp [intOf]; omega
      all_goals
        refine (ts6 a0 a2 a3 _).mono ?_
        rintro e w1 ⟨rfl, g1⟩
        go_wp2_with fail
        refine (any5 a0 a2 a3 _).mono ?_
        rintro e w2 ⟨rfl, g2⟩
        rw [hany.out]
        go_wp2_with fail
        refine (ts6 a1 a2 a3 _).mono ?_
        rintro e w3 ⟨rfl, g3⟩
        go_wp2_with fail
        refine (any5 a1 a2 a3 _).mono ?_
        rintro e w4 ⟨rfl, g4⟩
        rw [hany.out]
        go_wp2
        go_ret
        exact ⟨rfl, grown_trans g1 (grown_trans g2 (grown_trans g3 g4))⟩

set_option maxHeartbeats 4000000 in
theorem walk3_all (a0 : Int) (a1 : Int) (w : World) :
    Calls Try.prog 3 #[.int .u8 a0, .int .u8 a1, .int .u16 0, .int .u16 65535] w fun e w' => e = .returned (.bool true) ∧ Grown w w' := by
  have hany : Hid (anyB 0 65535 = true) := (by decide : anyB 0 65535 = true)
  go_enter Try.func3, Try.ntmps3
  go_wp2
  go_loop [9, 10] (fun c i => c = .bool true ∧ ∃ k : Nat, k ≤ 65536 ∧ i = .int .i64 k)
    (fun _ i => 65536 - (intOf i).toNat)
  case atStart => exact ⟨rfl, 0, by omega, rfl⟩
  case round =>
    obtain ⟨rfl, k, hk, rfl⟩ := hrel
    by_cases hlast : k = 65536
    · subst hlast
      go_wp2_with fail
      refine (ts6 a0 0 65535 _).mono ?_
      rintro e w1 ⟨rfl, g1⟩
      go_wp2_with fail
      refine (any5 a0 0 65535 _).mono ?_
      rintro e w2 ⟨rfl, g2⟩
      rw [hany.out]
      go_wp2_with fail
      refine (ts6 a1 0 65535 _).mono ?_
      rintro e w3 ⟨rfl, g3⟩
      go_wp2_with fail
      refine (any5 a1 0 65535 _).mono ?_
      rintro e w4 ⟨rfl, g4⟩
      rw [hany.out]
      go_wp2
      go_ret
      exact ⟨rfl, grown_trans g1 (grown_trans g2 (grown_trans g3 g4))⟩
    · have hle : (k : Int) ≤ 65535 := by omega
      have hwr : IntKind.u16.wrap (k : Int) = (k : Int) := by
        simp [IntKind.wrap, IntKind.signed, IntKind.bits]; omega
      have hn0 : ¬ ((k : Int) < 0) := by omega
      have hn1 : ¬ (65535 < (k : Int)) := by omega
      go_wp2_with fail
      case roundEnd =>
        go_round
        case rel => exact ⟨rfl, k + 1, by omega, by go_num⟩
        case measure => simp [intOf]; omega
end Go.Proofs.Qxb6615889a
