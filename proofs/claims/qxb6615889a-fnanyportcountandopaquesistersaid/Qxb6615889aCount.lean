/-
  FnAnyPortCountAndOpaqueSister (4): the loop over all start ports; the count is 1 past port 0 where ep is 65535, else 0.
-/
import Derived.Test.Qxb6615889aPortWalks
namespace Go.Proofs.Qxb6615889a
open Go.RowKit

set_option maxHeartbeats 4000000 in
theorem walk4 (a0 : Int) (a1 : Int) (h1 : 0 ≤ a1 ∧ a1 ≤ 65535) (w : World) :
    Calls Try.prog 4 #[.int .u8 a0, .int .u16 a1] w fun e w' => e = .returned (.bool true) ∧ Grown w w' := by
  obtain ⟨h10, h11⟩ := h1
  go_enter Try.func4, Try.ntmps4
  go_wp2
  go_loopw [5, 6] (fun c i wr => Grown w wr ∧ ∃ k : Nat, k ≤ 65536 ∧ i = .int .i64 k ∧ c = .int .i64 (if a1 = 65535 ∧ 0 < k then 1 else 0))
    (fun _ i _ => 65536 - (intOf i).toNat)
  case atStart => exact ⟨Grown.refl _, 0, by omega, rfl, by simp⟩
  case round =>
    obtain ⟨gr, k, hk, rfl, rfl⟩ := hrel
    generalize hc : (if a1 = 65535 ∧ 0 < k then (1 : Int) else 0) = c
    replace hc : Hid ((if a1 = 65535 ∧ 0 < k then (1 : Int) else 0) = c) := hc
    by_cases hlast : k = 65536
    · subst hlast
      by_cases h5 : a1 = 65535
      · have hc' := hc.out
        simp [h5] at hc'
        subst hc'
        clear hc
        go_wp2
        go_ret
        exact ⟨rfl, gr⟩
      · have hc' := hc.out
        simp [h5] at hc'
        subst hc'
        clear hc
        go_wp2
        go_ret
        exact ⟨rfl, gr⟩
    · have hle : (k : Int) ≤ 65535 := by omega
      have hwr : IntKind.u16.wrap (k : Int) = (k : Int) := by
        simp [IntKind.wrap, IntKind.signed, IntKind.bits]; omega
      go_wp2_with fail
      refine (ts6 a0 k a1 _).mono ?_
      rintro e w1 ⟨rfl, g1⟩
      go_wp2_with fail
      refine (any5 a0 k a1 _).mono ?_
      rintro e w2 ⟨rfl, g2⟩
      go_wp2_with fail
      refine (ts6 a0 k a1 _).mono ?_
      rintro e w3 ⟨rfl, g3⟩
      go_wp2_with fail
      refine (opq7 a0 k a1 _).mono ?_
      rintro e w4 ⟨rfl, g4⟩
      have hno : Hid (anyB k a1 = true → opqB k a1 = false) := (by unfold anyB opqB; simp; omega : anyB k a1 = true → opqB k a1 = false)
      have heq : Hid (opqB a1 k = anyB k a1) := (by unfold anyB opqB; simp [Bool.and_comm] : opqB a1 k = anyB k a1)
      have hk3 : Hid (anyB k a1 = (decide (k = 0) && decide (a1 = 65535))) := (by unfold anyB; simp : anyB k a1 = (decide (k = 0) && decide (a1 = 65535)))
      have gw : Grown w w4 := grown_trans gr (grown_trans g1 (grown_trans g2 (grown_trans g3 g4)))
      clear g1 g2 g3 g4 gr
      cases hA : anyB k a1
      · replace hA : Hid (anyB k a1 = false) := hA
        go_wp2_with fail
        refine (ts6 a0 a1 k _).mono ?_
        rintro e w5 ⟨rfl, g5⟩
        go_wp2_with fail
        refine (opq7 a0 a1 k _).mono ?_
        rintro e w6 ⟨rfl, g6⟩
        rw [heq.out, hA.out]
        go_wp2_with fail
        case roundEnd =>
          go_roundw
          case rel =>
            refine ⟨grown_trans gw (grown_trans g5 g6), k + 1, by omega, by go_num, ?_⟩
            have h3 := hk3.out
            rw [hA.out] at h3
            have hc' := hc.out
            rw [← hc']
            simp at h3
            by_cases h5 : a1 = 65535 <;> simp [h5]
            omega
          case measure => simp [intOf]; omega
      · replace hA : Hid (anyB k a1 = true) := hA
        rw [hno.out hA.out]
        go_wp2_with fail
        refine (ts6 a0 a1 k _).mono ?_
        rintro e w5 ⟨rfl, g5⟩
        go_wp2_with fail
        refine (opq7 a0 a1 k _).mono ?_
        rintro e w6 ⟨rfl, g6⟩
        rw [heq.out, hA.out]
        have hk4 := hk3.out
        rw [hA.out] at hk4
        simp at hk4
        obtain ⟨hk5, h5⟩ := hk4
        have hc' := hc.out
        simp [h5, hk5] at hc'
        subst hc'
        clear hc hk3 hA hno heq
        replace hk5 : Hid (k = 0) := hk5
        replace h5 : Hid (a1 = 65535) := h5
        go_wp2_with fail
        case roundEnd =>
          go_roundw
          case rel =>
            exact ⟨grown_trans gw (grown_trans g5 g6), k + 1, by omega, by go_num, by simp [h5.out]⟩
          case measure => simp [intOf]; omega
end Go.Proofs.Qxb6615889a
