/-
  Seat b6615007aF: EchoResponse (20), MayBeTriggered (21).
-/
import Derived.Test.Qxb6615007aFmtBits
import Derived.Deep.RegionWith
namespace Go.Proofs.Qxb6615007aFmt
open Go.RowKit

/-- The thirteen octets of an Echo Response. -/
abbrev echoC (s k : Int) : Array Value := #[.int .u8 64, .int .u8 2, .int .u8 0, .int .u8 9, .int .u8 (s / 65536 % 256), .int .u8 (s / 256 % 256), .int .u8 (s % 256), .int .u8 0, .int .u8 3, .int .u8 0, .int .u8 1, .int .u8 0, .int .u8 k]

set_option maxRecDepth 100000 in
set_option maxHeartbeats 1000000 in
theorem echo20 (s k : Int) (w : World) :
    Calls Tryf.prog 20 #[.int .u32 s, .int .u8 k] w fun e w' => e = .returned (.slice (some ⟨w.heap.size, 0, none⟩) 13 13) ∧ w' = w.alloc (.cells (echoC s k) 5) := by
  go_enter Tryf.func20, Tryf.ntmps20
  go_wp2
  go_ret
  exact ⟨rfl, rfl⟩

set_option maxRecDepth 100000 in
set_option maxHeartbeats 1000000 in
theorem trig21 (t : Int) (w : World) : Calls Tryf.prog 21 #[.int .u8 t] w fun e w' => e = .returned (.bool (decide (t = 95 ∨ t = 97 ∨ t = 99))) ∧ w' = w := by
  by_cases h1 : t = 95
  · subst h1
    go_enter Tryf.func21, Tryf.ntmps21
    go_wp2
    go_ret
    exact ⟨by simp, rfl⟩
  · by_cases h2 : t = 97
    · subst h2
      go_enter Tryf.func21, Tryf.ntmps21
      go_wp2
      go_ret
      exact ⟨by simp, rfl⟩
    · by_cases h3 : t = 99
      · subst h3
        go_enter Tryf.func21, Tryf.ntmps21
        go_wp2
        go_ret
        exact ⟨by simp, rfl⟩
      · go_enter Tryf.func21, Tryf.ntmps21
        go_wp2
        go_ret
        exact ⟨by simp [h1, h2, h3], rfl⟩
end Go.Proofs.Qxb6615007aFmt
