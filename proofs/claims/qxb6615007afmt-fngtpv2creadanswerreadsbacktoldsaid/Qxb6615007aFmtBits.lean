/-
  Seat b6615007aF: the bit joins as sums; BigEndian.Uint16 (25), headerLength (26).
-/
import Derived.Test.Qxb6615007aFmtErr
import Derived.Test.Qxb6615007aFmtRead3
import Derived.Lib.EndianBits
import Derived.BigQuiet
namespace Go.Proofs.Qxb6615007aFmt
open Go.RowKit

theorem or_u16 (x y : Int) (h0 : 0 ≤ x ∧ x ≤ 255) (h1 : 0 ≤ y ∧ y ≤ 255) : bits .or .u16 y (x * 256) = x * 256 + y := by
  rw [u16_or8 y (x * 256) h1.1 (by omega) (by omega) (by omega) (by omega)]; omega

theorem wraps_i64 (n : Int) (h₀ : 0 ≤ n) (h₁ : n < 2 ^ 63) : IntKind.i64.wrap n = n := by
  simp [IntKind.wrap, IntKind.bits, IntKind.signed]; omega

theorem or_i64 (x y : Int) (h0 : 0 ≤ x ∧ x ≤ 255) (h1 : 0 ≤ y ∧ y ≤ 255) : bits .or .i64 (x * 256) y = x * 256 + y :=
  bits_join .i64 63 (by decide) wraps_i64 8 (x * 256) y (by omega) (by omega) (by omega) h1.1 (by omega) (by omega)

theorem or_u32 (x y z : Int) (h0 : 0 ≤ x ∧ x ≤ 255) (h1 : 0 ≤ y ∧ y ≤ 255) (h2 : 0 ≤ z ∧ z ≤ 255) : bits .or .u32 (bits .or .u32 (x * 65536) (y * 256)) z = x * 65536 + y * 256 + z := by
  rw [bits_join .u32 32 (by decide) wraps_u32 16 (x * 65536) (y * 256) (by omega) (by omega) (by omega) (by omega) (by omega) (by omega)]
  exact bits_join .u32 32 (by decide) wraps_u32 8 (x * 65536 + y * 256) z (by omega) (by omega) (by omega) h2.1 (by omega) (by omega)

theorem and24 (b : Int) (h : 0 ≤ b ∧ b ≤ 255) : (bits .and .u8 b 24 = 0) ↔ (bits .and .u8 b 8 = 0 ∧ bits .and .u8 b 16 = 0) := by
  have key : ∀ x : Fin 256, (bits .and .u8 (x.val : Int) 24 = 0) ↔ (bits .and .u8 (x.val : Int) 8 = 0 ∧ bits .and .u8 (x.val : Int) 16 = 0) := by decide +kernel
  have := key ⟨b.toNat, by omega⟩
  simpa [Int.toNat_of_nonneg h.1] using this

set_option maxRecDepth 100000 in
set_option maxHeartbeats 1000000 in
theorem u16_25 (A o n c : Nat) (x0 x1 : Int) (w : World) (hA : A < w.heap.size) (hn : (1 : Int) < n) (hc0 : w.cell? ⟨A, o, none⟩ = some (.int .u8 x0)) (hc1 : w.cell? ⟨A, o + 1, none⟩ = some (.int .u8 x1))
    (h0 : 0 ≤ x0 ∧ x0 ≤ 255) (h1 : 0 ≤ x1 ∧ x1 ≤ 255) :
    Calls Tryf.prog 25 #[.agg #[], .slice (some ⟨A, o, none⟩) n c] w fun e w' => e = .returned (.int .u16 (x0 * 256 + x1)) ∧ w' = (w.alloc (.cells #[] 68)).drew := by
  have hor := or_u16 x0 x1 h0 h1
  obtain ⟨h00, h01⟩ := h0
  obtain ⟨h10, h11⟩ := h1
  have hn0 : (0 : Int) < n := by omega
  replace hor : Hid (bits .or .u16 x1 (x0 * 256) = x0 * 256 + x1) := hor
  go_enter Tryf.func25, Tryf.ntmps25
  go_wp2
  go_region
  all_goals go_wp2
  all_goals go_ret
  all_goals exact ⟨congrArg (fun v => Ending.returned (.int .u16 v)) hor.out, rfl⟩

set_option maxRecDepth 100000 in
set_option maxHeartbeats 1000000 in
theorem hl26 (A n c : Nat) (b0 : Int) (w : World) (hn : (0 : Int) < n) (hc0 : w.cell? ⟨A, 0, none⟩ = some (.int .u8 b0)) :
    Calls Tryf.prog 26 #[.slice (some ⟨A, 0, none⟩) n c] w fun e w' => e = .returned (.int .i64 (if bits .and .u8 b0 8 = 0 then 8 else 12)) ∧ w' = w := by
  by_cases h : bits .and .u8 b0 8 = 0
  · rw [if_pos h]
    go_enter Tryf.func26, Tryf.ntmps26
    go_wp2
    go_ret
    exact ⟨rfl, rfl⟩
  · rw [if_neg h]
    go_enter Tryf.func26, Tryf.ntmps26
    go_wp2
    go_ret
    exact ⟨rfl, rfl⟩
end Go.Proofs.Qxb6615007aFmt
