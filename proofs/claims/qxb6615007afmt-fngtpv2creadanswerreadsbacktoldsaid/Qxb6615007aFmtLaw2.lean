/-
  Seat b6615007aF: zzr1IEs (8), zzr1Same (11).
-/
import Derived.Test.Qxb6615007aFmtLaw1
import Derived.Deep.OwnRows
namespace Go.Proofs.Qxb6615007aFmt
open Go.RowKit

/-- What zzr1IEs returns: the first result; the others whatever. -/
def IesRet (b : Bool) (e : Ending) : Prop := ∃ (x y : Bool) (z : Int), e = .returned (.tuple #[.bool b, .bool x, .bool y, .int .u8 z])

set_option maxRecDepth 100000 in
set_option maxHeartbeats 4000000 in
theorem ies8 (A n c E i0 : Nat) (f : Nat → Int) (w : World) (hA : A < w.heap.size) (hEn : E ≤ n) (hmax : (n : Int) ≤ 1048576) (hi0 : i0 ≤ E) (hf : ∀ i, 0 ≤ f i ∧ f i ≤ 255)
    (hc : ∀ i, i < n → w.cell? ⟨A, i, none⟩ = some (.int .u8 (f i))) :
    Calls Tryf.prog 8 #[.slice (some ⟨A, 0, none⟩) n c, .int .i64 (i0 : Int), .int .i64 (E : Int)] w fun e w' => IesRet (wfIE f E i0) e ∧ Below w.heap.size w w' := by
  replace hc : Hid (∀ i, i < n → w.cell? ⟨A, i, none⟩ = some (.int .u8 (f i))) := hc
  replace hf : Hid (∀ i, 0 ≤ f i ∧ f i ≤ 255) := hf
  go_enter Tryf.func8, Tryf.ntmps8
  go_wp2
  go_loopg [10, 11, 12, 13] (E - i0) (fun k fo ne fi p wr => ∃ (i : Nat) (x y : Bool) (z : Int), i + k = E ∧ fo = .bool x ∧ ne = .bool y ∧ fi = .int .u8 z ∧ p = .int .i64 (i : Int) ∧ wfIE f E i = wfIE f E i0 ∧ Below w.heap.size w wr)
  case atStart => exact ⟨i0, false, false, 0, by omega, rfl, rfl, rfl, rfl, rfl, by go_grown⟩
  case round =>
    obtain ⟨i, x, y, z, hk, rfl, rfl, rfl, rfl, hwf, hB⟩ := hrel
    have hiE : (i : Int) ≤ E := by omega
    have hEm : (E : Int) ≤ 1048576 := by omega
    replace hwf : Hid (wfIE f E i = wfIE f E i0) := hwf
    replace hk : Hid (i + gk = E) := hk
    by_cases h0 : i < E
    · have h0' : (i : Int) < E := by omega
      by_cases h4 : E - i < 4
      · have hw : Hid (wfIE f E i0 = false) := by show wfIE f E i0 = false; rw [← hwf.out, wfIE_eq, if_pos h0, if_pos h4]
        have h4' : (E : Int) - i < 4 := by omega
        go_wp2
        go_returns
        refine ⟨?_, hB⟩
        rw [hw.out]
        exact ⟨_, _, _, rfl⟩
      · have h4' : ¬ (E : Int) - i < 4 := by omega
        have c0 : wr.cell? ⟨A, i, none⟩ = some (.int .u8 (f i)) := (hB.cell hA).trans (hc.out i (by omega))
        have c1 : wr.cell? ⟨A, i + 1, none⟩ = some (.int .u8 (f (i + 1))) := (hB.cell hA).trans (hc.out (i + 1) (by omega))
        have c2 : wr.cell? ⟨A, i + 2, none⟩ = some (.int .u8 (f (i + 2))) := (hB.cell hA).trans (hc.out (i + 2) (by omega))
        have c3 : wr.cell? ⟨A, i + 3, none⟩ = some (.int .u8 (f (i + 3))) := (hB.cell hA).trans (hc.out (i + 3) (by omega))
        have n0 : (i : Int) < n := by omega
        have n1 : (i : Int) + 1 < n := by omega
        have n2 : (i : Int) + 2 < n := by omega
        have n3 : (i : Int) + 3 < n := by omega
        obtain ⟨V, hV⟩ : ∃ V : Nat, f (i + 1) * 256 + f (i + 2) = (V : Int) := ⟨(f (i + 1) * 256 + f (i + 2)).toNat, by have := hf.out (i + 1); have := hf.out (i + 2); omega⟩
        have hV1 : (V : Int) ≤ 65535 := by have := hf.out (i + 1); have := hf.out (i + 2); omega
        have hor := or_i64 (f (i + 1)) (f (i + 2)) (hf.out _) (hf.out _)
        rw [hV] at hor
        obtain ⟨h10, h11⟩ := hf.out (i + 1)
        obtain ⟨h20, h21⟩ := hf.out (i + 2)
        have hw : Hid (wfIE f E i0 = (if E < i + 4 + V then false else wfIE f E (i + 4 + V))) := by
          show wfIE f E i0 = _
          rw [← hwf.out, wfIE_eq, if_pos h0, if_neg h4, hV, Int.toNat_natCast]
        replace hV : Hid (f (i + 1) * 256 + f (i + 2) = (V : Int)) := hV
        by_cases hV4 : E < i + 4 + V
        · have hV4' : (E : Int) < (i : Int) + 4 + V := by omega
          have hw' : Hid (wfIE f E i0 = false) := by show wfIE f E i0 = false; rw [hw.out, if_pos hV4]
          go_wp2
          go_quiet (fail)
          go_wp2
          go_returns
          refine ⟨?_, hB.trans ⟨rfl, rfl, rfl, Nat.le_refl _, fun _ _ => rfl⟩⟩
          rw [hw'.out]
          exact ⟨_, _, _, rfl⟩
        · have hV4' : ¬ (E : Int) < (i : Int) + 4 + V := by omega
          have hw' : Hid (wfIE f E i0 = wfIE f E (i + 4 + V)) := by show wfIE f E i0 = _; rw [hw.out, if_neg hV4]
          have hgrow : Hid (∀ m, Below w.heap.size w (wr.drewN m)) := fun m => hB.trans ⟨rfl, rfl, rfl, Nat.le_refl _, fun _ _ => rfl⟩
          cases x with
          | true =>
            go_wp2
            go_quiet (fail)
            go_wp2_with fail
            all_goals go_roundg (gk - (4 + V))
            case measure => have := hk.out; omega
            case rel => exact ⟨i + 4 + V, _, _, _, by have := hk.out; omega, rfl, rfl, rfl, by simp <;> omega, hw'.out.symm, hgrow.out _⟩
          | false =>
            by_cases h3 : f i = 3
            · have e3 : (f i == 3) = true := by simp [h3]
              by_cases h15 : bits .and .u8 (f (i + 3)) 15 = 0
              · have e15 : (bits .and .u8 (f (i + 3)) 15 == 0) = true := by simp [h15]
                by_cases hV0 : V = 0
                · have hV0' : ¬ (0 : Int) < V := by omega
                  go_wp2
                  go_quiet (fail)
                  go_wp2_with fail
                  all_goals go_roundg (gk - (4 + V))
                  case measure => have := hk.out; omega
                  case rel => exact ⟨i + 4 + V, _, _, _, by have := hk.out; omega, rfl, rfl, rfl, by simp <;> omega, hw'.out.symm, hgrow.out _⟩
                · have hV0' : (0 : Int) < V := by omega
                  have c4 : wr.cell? ⟨A, i + 4, none⟩ = some (.int .u8 (f (i + 4))) := (hB.cell hA).trans (hc.out (i + 4) (by omega))
                  have n4 : (i : Int) + 4 < n := by omega
                  go_wp2
                  go_quiet (fail)
                  go_wp2_with fail
                  all_goals go_roundg (gk - (4 + V))
                  case measure => have := hk.out; omega
                  case rel => exact ⟨i + 4 + V, _, _, _, by have := hk.out; omega, rfl, rfl, rfl, by simp <;> omega, hw'.out.symm, hgrow.out _⟩
              · have e15 : (bits .and .u8 (f (i + 3)) 15 == 0) = false := by simpa using h15
                go_wp2
                go_quiet (fail)
                go_wp2_with fail
                all_goals go_roundg (gk - (4 + V))
                case measure => have := hk.out; omega
                case rel => exact ⟨i + 4 + V, _, _, _, by have := hk.out; omega, rfl, rfl, rfl, by simp <;> omega, hw'.out.symm, hgrow.out _⟩
            · have e3 : (f i == 3) = false := by simpa using h3
              go_wp2
              go_quiet (fail)
              go_wp2_with fail
              all_goals go_roundg (gk - (4 + V))
              case measure => have := hk.out; omega
              case rel => exact ⟨i + 4 + V, _, _, _, by have := hk.out; omega, rfl, rfl, rfl, by simp <;> omega, hw'.out.symm, hgrow.out _⟩
    · have h0' : ¬ (i : Int) < E := by omega
      have hw : Hid (wfIE f E i0 = true) := by show wfIE f E i0 = true; rw [← hwf.out, wfIE_eq, if_neg h0]
      go_wp2
      go_returns
      refine ⟨?_, hB⟩
      rw [hw.out]
      exact ⟨_, _, _, rfl⟩

set_option maxRecDepth 100000 in
set_option maxHeartbeats 4000000 in
theorem same11 (A n c : Nat) (f : Nat → Int) (w : World) (hmax : (n : Int) ≤ 1048576) (hA : A < w.heap.size)
    (hc : ∀ i, i < n → w.cell? ⟨A, i, none⟩ = some (.int .u8 (f i))) :
    Calls Tryf.prog 11 #[.slice (some ⟨A, 0, none⟩) n c, .slice (some ⟨A, 0, none⟩) n c] w fun e w' => e = .returned (.bool true) ∧ Below w.heap.size w w' := by
  replace hc : Hid (∀ i, i < n → w.cell? ⟨A, i, none⟩ = some (.int .u8 (f i))) := hc
  go_enter Tryf.func11, Tryf.ntmps11
  go_wp2
  go_loopg [5] n (fun k p wr => ∃ (i : Nat), i + k = n ∧ p = .int .i64 (i : Int) ∧ Below w.heap.size w wr)
  case atStart => exact ⟨0, by omega, rfl, by go_grown⟩
  case round =>
    obtain ⟨i, hk, rfl, hB⟩ := hrel
    have hgrow : Hid (∀ m, Below w.heap.size w (wr.drewN m)) := fun m => hB.trans ⟨rfl, rfl, rfl, Nat.le_refl _, fun _ _ => rfl⟩
    by_cases h0 : i < n
    · have h0' : (i : Int) < n := by omega
      have c0 : wr.cell? ⟨A, i, none⟩ = some (.int .u8 (f i)) := (hB.cell hA).trans (hc.out i (by omega))
      have e0 : (f i != f i) = false := by simp
      replace hk : Hid (i + gk = n) := hk
      go_wp2
      go_quiet (fail)
      go_wp2_with fail
      all_goals go_roundg (gk - 1)
      case measure => have := hk.out; omega
      case rel => exact ⟨i + 1, by have := hk.out; omega, by simp, hgrow.out _⟩
    · have h0' : ¬ (i : Int) < n := by omega
      go_wp2
      go_ret
      exact ⟨rfl, hB⟩
end Go.Proofs.Qxb6615007aFmt
