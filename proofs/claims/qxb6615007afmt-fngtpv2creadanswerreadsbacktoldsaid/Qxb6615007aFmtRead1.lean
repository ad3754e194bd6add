/-
  Seat b6615007aF, the small callees: unsupportedGTPVersion (15), ZZunsupportedGTPVersion (12), VersionNotSupported (18), (time.Time).IsZero at the zero time (14), errors.AsType (17, 27) at a *VersionError and at a plain error.
-/
import Derived.Test.Qxb6615007aFmtCards
import Derived.WalkKit
import Derived.WalkSpells
import Derived.WalkLawsBesides
import Derived.Handy
import Derived.Below
import Derived.Stop.Asserts
namespace Go.Proofs.Qxb6615007aFmt
open Go.RowKit

/-- unsupportedGTPVersion by value. -/
def unsB (v t : Int) : Bool := decide (v ≠ 1) && decide (t ≠ 3)

set_option maxHeartbeats 1000000 in
theorem uns15 (B : Nat) (v t : Int) (w : World) (h0 : w.cell? ⟨B, 0, none⟩ = some (.int .u8 v)) (h1 : w.cell? ⟨B, 1, none⟩ = some (.int .u8 t)) :
    Calls Tryf.prog 15 #[.pointer (some ⟨B, 0, none⟩)] w fun e w' => e = .returned (.bool (unsB v t)) ∧ w' = w := by
  unfold unsB
  by_cases hv : v = 1
  · subst hv
    go_enter Tryf.func15, Tryf.ntmps15
    go_wp2
    go_ret
    exact ⟨by simp, rfl⟩
  · by_cases ht : t = 3
    · subst ht
      go_enter Tryf.func15, Tryf.ntmps15
      go_wp2
      go_ret
      exact ⟨by simp, rfl⟩
    · go_enter Tryf.func15, Tryf.ntmps15
      go_wp2
      go_ret
      exact ⟨by simp [hv, ht], rfl⟩
set_option maxHeartbeats 1000000 in
theorem uns12 (v t : Int) (w : World) :
    Calls Tryf.prog 12 #[.int .u8 v, .int .u8 t] w fun e w' => e = .returned (.bool (unsB v t)) ∧ w' = w.alloc (.cells #[.int .u8 v, .int .u8 t] 52) := by
  go_enter Tryf.func12, Tryf.ntmps12
  go_wp2_with fail
  refine (uns15 w.heap.size v t _ ?_ ?_).mono ?_
  · go_cell
  · go_cell
  rintro e w' ⟨rfl, rfl⟩
  go_wp2
  go_ret
  exact ⟨rfl, rfl⟩

set_option maxHeartbeats 1000000 in
theorem vns18 (w : World) :
    Calls Tryf.prog 18 #[] w fun e w' => e = .returned (.slice (some ⟨w.heap.size, 0, none⟩) 8 8) ∧ w' = w.alloc (.cells #[.int .u8 64, .int .u8 3, .int .u8 0, .int .u8 4, .int .u8 0, .int .u8 0, .int .u8 0, .int .u8 0] 5) := by
  go_enter Tryf.func18, Tryf.ntmps18
  go_wp2
  go_ret
  exact ⟨rfl, rfl⟩

set_option maxHeartbeats 1000000 in
theorem zero14 (w : World) :
    Calls Tryf.prog 14 #[.agg #[.int .u64 0, .int .i64 0, .pointer none]] w fun e w' => e = .returned (.bool true) ∧ w' = w.alloc (.cells #[.int .u64 0, .int .i64 0, .pointer none] 39) := by
  go_enter Tryf.func14, Tryf.ntmps14
  go_wp2
  go_ret
  exact ⟨rfl, rfl⟩
theorem ta50_50 (p : Option Addr) (w : World) : (Instr.typeAssert (.iface 50 (.pointer p)) 56 50 true).run Tryf.prog w = .ok (.tuple #[.pointer p, .bool true]) w := by kernel_rfl
theorem ta90_50 (v : Value) (w : World) : (Instr.typeAssert (.iface 90 v) 56 50 true).run Tryf.prog w = .ok (.tuple #[.pointer none, .bool false]) w := by kernel_rfl
theorem ta90_82 (v : Value) (w : World) : (Instr.typeAssert (.iface 90 v) 56 82 true).run Tryf.prog w = .ok (.tuple #[.nilIface, .bool false]) w := run_typeAssert_lacksB Tryf.underlying82 (by kernel_rfl) (by kernel_rfl) v 56 w
theorem ta90_85 (v : Value) (w : World) : (Instr.typeAssert (.iface 90 v) 56 85 true).run Tryf.prog w = .ok (.tuple #[.nilIface, .bool false]) w := run_typeAssert_lacksB Tryf.underlying85 (by kernel_rfl) (by kernel_rfl) v 56 w
theorem ta90_87 (v : Value) (w : World) : (Instr.typeAssert (.iface 90 v) 56 87 true).run Tryf.prog w = .ok (.tuple #[.nilIface, .bool false]) w := run_typeAssert_lacksB Tryf.underlying87 (by kernel_rfl) (by kernel_rfl) v 56 w

set_option maxRecDepth 100000 in
set_option maxHeartbeats 4000000 in
theorem as27 (p : Option Addr) (b : Addr) (w : World) :
    Calls Tryf.prog 27 #[.iface 50 (.pointer p), .pointer (some b)] w fun e w' => e = .returned (.tuple #[.pointer p, .bool true]) ∧ w' = w := by
  have h1 := ta50_50 p
  go_enter Tryf.func27, Tryf.ntmps27
  go_wp2
  go_rounds 1
  go_returns
  exact ⟨rfl, rfl⟩

set_option maxRecDepth 100000 in
set_option maxHeartbeats 4000000 in
theorem as27_plain (p : Value) (b : Addr) (w : World) :
    Calls Tryf.prog 27 #[.iface 90 p, .pointer (some b)] w fun e w' => e = .returned (.tuple #[.pointer none, .bool false]) ∧ w' = w := by
  have h1 := ta90_50 p
  have h2 := ta90_82 p
  have h3 := ta90_85 p
  have h4 := ta90_87 p
  go_enter Tryf.func27, Tryf.ntmps27
  go_wp2
  go_rounds 1
  go_returns
  exact ⟨rfl, rfl⟩

set_option maxRecDepth 100000 in
set_option maxHeartbeats 4000000 in
theorem as17 (p : Option Addr) (w : World) :
    Calls Tryf.prog 17 #[.iface 50 (.pointer p)] w fun e w' => e = .returned (.tuple #[.pointer p, .bool true]) ∧ w' = w.alloc (.cells #[.pointer none] 71) := by
  go_enter Tryf.func17, Tryf.ntmps17
  go_wp2_with fail
  refine (as27 p ⟨w.heap.size, 0, none⟩ _).mono ?_
  rintro e w' ⟨rfl, rfl⟩
  go_wp2
  go_returns
  exact ⟨rfl, rfl⟩

set_option maxRecDepth 100000 in
set_option maxHeartbeats 4000000 in
theorem as17_plain (p : Value) (w : World) :
    Calls Tryf.prog 17 #[.iface 90 p] w fun e w' => e = .returned (.tuple #[.pointer none, .bool false]) ∧ w' = w.alloc (.cells #[.pointer none] 71) := by
  go_enter Tryf.func17, Tryf.ntmps17
  go_wp2_with fail
  refine (as27_plain p ⟨w.heap.size, 0, none⟩ _).mono ?_
  rintro e w' ⟨rfl, rfl⟩
  go_wp2
  go_returns
  exact ⟨rfl, rfl⟩
end Go.Proofs.Qxb6615007aFmt
