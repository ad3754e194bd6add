/-
  Seat b6615007aF: the closed facts of fmt's stopped front fmt.errorf (33) at this program's seven formats (as the guide's NameFmt texts have them), and fmt.Errorf (24) at each: whatever text F gives, a new *errors.errorString comes back.
-/
import Derived.Test.Qxb6615007aFmtRead1
import Derived.Stop.CallBack
import Derived.Stop.IfaceNil
import GoSem.ClaimData
namespace Go.Proofs.Qxb6615007aFmt
open Go.RowKit Go.Extern.Stop Go.Stop Go.Extern

theorem call33 (args : Array Value) (w : World) : (callFunc 33 args).run Tryf.prog w = ((FmtStop.errorf #[9, 80] #[56] args).run Tryf.prog w).andThen fun v w' => .ok (.value v) w' :=
  run_callFunc_extern Tryf.func33 (by kernel_rfl) (by kernel_rfl) (by kernel_rfl) (by kernel_rfl) args w
theorem fguard (name : String) (w : World) : (FmtStop.guard name).run Tryf.prog w = .ok () w := by kernel_rfl
theorem ptr90 (w : World) : (FmtStop.ptrTo "errors.errorString").run Tryf.prog w = .ok 90 w := by kernel_rfl
theorem elem90 (w : World) : (elemOf 90).run Tryf.prog w = .ok 92 w := by kernel_rfl
theorem isError90 (w : World) : (FmtDoors.textMethod 90 "Error").run Tryf.prog w = .ok true w := by kernel_rfl

-- type 3: int
def shape3 : List UInt8 := [5, 3, 0, 0, 0, 0, 0, 0, 0, 105, 110, 116]
theorem op3_118 (name : String) (x : Int) (w : World) : (FmtStop.operand name false 118 false (.iface 3 (.int .i64 x))).run Tryf.prog w = .ok (shape3, Go.Extern.Stop.digits 8 (x % 2 ^ 64).toNat) w := by kernel_rfl
theorem op3_118w (name : String) (x : Int) (w : World) : (FmtStop.operand name true 118 false (.iface 3 (.int .i64 x))).run Tryf.prog w = .ok (shape3, Go.Extern.Stop.digits 8 (x % 2 ^ 64).toNat) w := by kernel_rfl
theorem op3_100 (name : String) (x : Int) (w : World) : (FmtStop.operand name false 100 false (.iface 3 (.int .i64 x))).run Tryf.prog w = .ok (shape3, Go.Extern.Stop.digits 8 (x % 2 ^ 64).toNat) w := by kernel_rfl
theorem op3_100w (name : String) (x : Int) (w : World) : (FmtStop.operand name true 100 false (.iface 3 (.int .i64 x))).run Tryf.prog w = .ok (shape3, Go.Extern.Stop.digits 8 (x % 2 ^ 64).toNat) w := by kernel_rfl

-- type 5: uint8
def shape5 : List UInt8 := [6, 5, 0, 0, 0, 0, 0, 0, 0, 117, 105, 110, 116, 56]
theorem op5_118 (name : String) (x : Int) (w : World) : (FmtStop.operand name false 118 false (.iface 5 (.int .u8 x))).run Tryf.prog w = .ok (shape5, Go.Extern.Stop.digits 8 (x % 2 ^ 64).toNat) w := by kernel_rfl
theorem op5_118w (name : String) (x : Int) (w : World) : (FmtStop.operand name true 118 false (.iface 5 (.int .u8 x))).run Tryf.prog w = .ok (shape5, Go.Extern.Stop.digits 8 (x % 2 ^ 64).toNat) w := by kernel_rfl
theorem op5_100 (name : String) (x : Int) (w : World) : (FmtStop.operand name false 100 false (.iface 5 (.int .u8 x))).run Tryf.prog w = .ok (shape5, Go.Extern.Stop.digits 8 (x % 2 ^ 64).toNat) w := by kernel_rfl
theorem op5_100w (name : String) (x : Int) (w : World) : (FmtStop.operand name true 100 false (.iface 5 (.int .u8 x))).run Tryf.prog w = .ok (shape5, Go.Extern.Stop.digits 8 (x % 2 ^ 64).toNat) w := by kernel_rfl

attribute [local go_sem] call33 fguard ptr90 elem90 isError90 op3_118 op3_118w op3_100 op3_100w op5_118 op5_118w op5_100 op5_100w

-- format 0
theorem fmt0 : FmtStop.printed? ⟨#[103, 116, 112, 118, 50, 99, 58, 32, 37, 100, 32, 111, 99, 116, 101, 116, 115, 44, 32, 115, 104, 111, 114, 116, 101, 114, 32, 116, 104, 97, 110, 32, 97, 32, 104, 101, 97, 100, 101, 114]⟩ 1 = some [(0, 100, false)] := by kernel_rfl
theorem fmt0r (w : World) : (FmtDoors.printed ⟨#[103, 116, 112, 118, 50, 99, 58, 32, 37, 100, 32, 111, 99, 116, 101, 116, 115, 44, 32, 115, 104, 111, 114, 116, 101, 114, 32, 116, 104, 97, 110, 32, 97, 32, 104, 101, 97, 100, 101, 114]⟩ 1).run Tryf.prog w = .ok [(0, 100, false)] w := by kernel_rfl
attribute [local go_sem] fmt0 fmt0r

set_option maxRecDepth 100000 in
set_option maxHeartbeats 1000000 in
theorem errorf0 (F : Interp) (x0 : Int) (blk : Nat) (w : World) (hF : F.answers w.tape) (hc0 : w.cell? ⟨blk, 0, none⟩ = some (.iface 3 (.int .i64 x0))) :
    Calls Tryf.prog 24 #[.string ⟨#[103, 116, 112, 118, 50, 99, 58, 32, 37, 100, 32, 111, 99, 116, 101, 116, 115, 44, 32, 115, 104, 111, 114, 116, 101, 114, 32, 116, 104, 97, 110, 32, 97, 32, 104, 101, 97, 100, 101, 114]⟩, .slice (some ⟨blk, 0, none⟩) 1 1] w fun e w' => ∃ s, e = .returned (.iface 90 (.pointer (some ⟨w.heap.size, 0, none⟩))) ∧ w' = (w.alloc (.cells #[.string s] 92)).drew := by
  have hF' := answers_open hF
  go_enter Tryf.func24, Tryf.ntmps24
  go_wp2
  go_ret
  exact ⟨_, rfl, rfl⟩

-- format 1
theorem fmt1 : FmtStop.printed? ⟨#[103, 116, 112, 118, 50, 99, 58, 32, 108, 101, 110, 103, 116, 104, 32, 37, 100, 32, 108, 101, 97, 118, 101, 115, 32, 110, 111, 32, 114, 111, 111, 109, 32, 102, 111, 114, 32, 116, 104, 101, 32, 104, 101, 97, 100, 101, 114]⟩ 1 = some [(0, 100, false)] := by kernel_rfl
theorem fmt1r (w : World) : (FmtDoors.printed ⟨#[103, 116, 112, 118, 50, 99, 58, 32, 108, 101, 110, 103, 116, 104, 32, 37, 100, 32, 108, 101, 97, 118, 101, 115, 32, 110, 111, 32, 114, 111, 111, 109, 32, 102, 111, 114, 32, 116, 104, 101, 32, 104, 101, 97, 100, 101, 114]⟩ 1).run Tryf.prog w = .ok [(0, 100, false)] w := by kernel_rfl
attribute [local go_sem] fmt1 fmt1r

set_option maxRecDepth 100000 in
set_option maxHeartbeats 1000000 in
theorem errorf1 (F : Interp) (x0 : Int) (blk : Nat) (w : World) (hF : F.answers w.tape) (hc0 : w.cell? ⟨blk, 0, none⟩ = some (.iface 3 (.int .i64 x0))) :
    Calls Tryf.prog 24 #[.string ⟨#[103, 116, 112, 118, 50, 99, 58, 32, 108, 101, 110, 103, 116, 104, 32, 37, 100, 32, 108, 101, 97, 118, 101, 115, 32, 110, 111, 32, 114, 111, 111, 109, 32, 102, 111, 114, 32, 116, 104, 101, 32, 104, 101, 97, 100, 101, 114]⟩, .slice (some ⟨blk, 0, none⟩) 1 1] w fun e w' => ∃ s, e = .returned (.iface 90 (.pointer (some ⟨w.heap.size, 0, none⟩))) ∧ w' = (w.alloc (.cells #[.string s] 92)).drew := by
  have hF' := answers_open hF
  go_enter Tryf.func24, Tryf.ntmps24
  go_wp2
  go_ret
  exact ⟨_, rfl, rfl⟩

-- format 2
theorem fmt2 : FmtStop.printed? ⟨#[103, 116, 112, 118, 50, 99, 58, 32, 108, 101, 110, 103, 116, 104, 32, 37, 100, 32, 114, 117, 110, 115, 32, 112, 97, 115, 116, 32, 116, 104, 101, 32, 37, 100, 32, 111, 99, 116, 101, 116, 115, 32, 114, 101, 99, 101, 105, 118, 101, 100]⟩ 2 = some [(0, 100, false), (1, 100, false)] := by kernel_rfl
theorem fmt2r (w : World) : (FmtDoors.printed ⟨#[103, 116, 112, 118, 50, 99, 58, 32, 108, 101, 110, 103, 116, 104, 32, 37, 100, 32, 114, 117, 110, 115, 32, 112, 97, 115, 116, 32, 116, 104, 101, 32, 37, 100, 32, 111, 99, 116, 101, 116, 115, 32, 114, 101, 99, 101, 105, 118, 101, 100]⟩ 2).run Tryf.prog w = .ok [(0, 100, false), (1, 100, false)] w := by kernel_rfl
attribute [local go_sem] fmt2 fmt2r

set_option maxRecDepth 100000 in
set_option maxHeartbeats 1000000 in
theorem errorf2 (F : Interp) (x0 x1 : Int) (blk : Nat) (w : World) (hF : F.answers w.tape) (hc0 : w.cell? ⟨blk, 0, none⟩ = some (.iface 3 (.int .i64 x0))) (hc1 : w.cell? ⟨blk, 1, none⟩ = some (.iface 3 (.int .i64 x1))) :
    Calls Tryf.prog 24 #[.string ⟨#[103, 116, 112, 118, 50, 99, 58, 32, 108, 101, 110, 103, 116, 104, 32, 37, 100, 32, 114, 117, 110, 115, 32, 112, 97, 115, 116, 32, 116, 104, 101, 32, 37, 100, 32, 111, 99, 116, 101, 116, 115, 32, 114, 101, 99, 101, 105, 118, 101, 100]⟩, .slice (some ⟨blk, 0, none⟩) 2 2] w fun e w' => ∃ s, e = .returned (.iface 90 (.pointer (some ⟨w.heap.size, 0, none⟩))) ∧ w' = (w.alloc (.cells #[.string s] 92)).drew := by
  have hF' := answers_open hF
  go_enter Tryf.func24, Tryf.ntmps24
  go_wp2
  go_ret
  exact ⟨_, rfl, rfl⟩

-- format 3
theorem fmt3 : FmtStop.printed? ⟨#[103, 116, 112, 118, 50, 99, 58, 32, 108, 101, 110, 103, 116, 104, 32, 37, 100, 32, 108, 101, 97, 118, 101, 115, 32, 37, 100, 32, 111, 99, 116, 101, 116, 115, 32, 111, 118, 101, 114]⟩ 2 = some [(0, 100, false), (1, 100, false)] := by kernel_rfl
theorem fmt3r (w : World) : (FmtDoors.printed ⟨#[103, 116, 112, 118, 50, 99, 58, 32, 108, 101, 110, 103, 116, 104, 32, 37, 100, 32, 108, 101, 97, 118, 101, 115, 32, 37, 100, 32, 111, 99, 116, 101, 116, 115, 32, 111, 118, 101, 114]⟩ 2).run Tryf.prog w = .ok [(0, 100, false), (1, 100, false)] w := by kernel_rfl
attribute [local go_sem] fmt3 fmt3r

set_option maxRecDepth 100000 in
set_option maxHeartbeats 1000000 in
theorem errorf3 (F : Interp) (x0 x1 : Int) (blk : Nat) (w : World) (hF : F.answers w.tape) (hc0 : w.cell? ⟨blk, 0, none⟩ = some (.iface 3 (.int .i64 x0))) (hc1 : w.cell? ⟨blk, 1, none⟩ = some (.iface 3 (.int .i64 x1))) :
    Calls Tryf.prog 24 #[.string ⟨#[103, 116, 112, 118, 50, 99, 58, 32, 108, 101, 110, 103, 116, 104, 32, 37, 100, 32, 108, 101, 97, 118, 101, 115, 32, 37, 100, 32, 111, 99, 116, 101, 116, 115, 32, 111, 118, 101, 114]⟩, .slice (some ⟨blk, 0, none⟩) 2 2] w fun e w' => ∃ s, e = .returned (.iface 90 (.pointer (some ⟨w.heap.size, 0, none⟩))) ∧ w' = (w.alloc (.cells #[.string s] 92)).drew := by
  have hF' := answers_open hF
  go_enter Tryf.func24, Tryf.ntmps24
  go_wp2
  go_ret
  exact ⟨_, rfl, rfl⟩

-- format 4
theorem fmt4 : FmtStop.printed? ⟨#[103, 116, 112, 118, 50, 99, 58, 32, 37, 100, 32, 111, 99, 116, 101, 116, 115, 32, 108, 101, 102, 116, 32, 111, 118, 101, 114, 32, 97, 102, 116, 101, 114, 32, 116, 104, 101, 32, 108, 97, 115, 116, 32, 73, 69]⟩ 1 = some [(0, 100, false)] := by kernel_rfl
theorem fmt4r (w : World) : (FmtDoors.printed ⟨#[103, 116, 112, 118, 50, 99, 58, 32, 37, 100, 32, 111, 99, 116, 101, 116, 115, 32, 108, 101, 102, 116, 32, 111, 118, 101, 114, 32, 97, 102, 116, 101, 114, 32, 116, 104, 101, 32, 108, 97, 115, 116, 32, 73, 69]⟩ 1).run Tryf.prog w = .ok [(0, 100, false)] w := by kernel_rfl
attribute [local go_sem] fmt4 fmt4r

set_option maxRecDepth 100000 in
set_option maxHeartbeats 1000000 in
theorem errorf4 (F : Interp) (x0 : Int) (blk : Nat) (w : World) (hF : F.answers w.tape) (hc0 : w.cell? ⟨blk, 0, none⟩ = some (.iface 3 (.int .i64 x0))) :
    Calls Tryf.prog 24 #[.string ⟨#[103, 116, 112, 118, 50, 99, 58, 32, 37, 100, 32, 111, 99, 116, 101, 116, 115, 32, 108, 101, 102, 116, 32, 111, 118, 101, 114, 32, 97, 102, 116, 101, 114, 32, 116, 104, 101, 32, 108, 97, 115, 116, 32, 73, 69]⟩, .slice (some ⟨blk, 0, none⟩) 1 1] w fun e w' => ∃ s, e = .returned (.iface 90 (.pointer (some ⟨w.heap.size, 0, none⟩))) ∧ w' = (w.alloc (.cells #[.string s] 92)).drew := by
  have hF' := answers_open hF
  go_enter Tryf.func24, Tryf.ntmps24
  go_wp2
  go_ret
  exact ⟨_, rfl, rfl⟩

-- format 5
theorem fmt5 : FmtStop.printed? ⟨#[103, 116, 112, 118, 50, 99, 58, 32, 73, 69, 32, 111, 102, 32, 116, 121, 112, 101, 32, 37, 100, 32, 114, 117, 110, 115, 32, 112, 97, 115, 116, 32, 116, 104, 101, 32, 101, 110, 100, 32, 111, 102, 32, 116, 104, 101, 32, 109, 101, 115, 115, 97, 103, 101]⟩ 1 = some [(0, 100, false)] := by kernel_rfl
theorem fmt5r (w : World) : (FmtDoors.printed ⟨#[103, 116, 112, 118, 50, 99, 58, 32, 73, 69, 32, 111, 102, 32, 116, 121, 112, 101, 32, 37, 100, 32, 114, 117, 110, 115, 32, 112, 97, 115, 116, 32, 116, 104, 101, 32, 101, 110, 100, 32, 111, 102, 32, 116, 104, 101, 32, 109, 101, 115, 115, 97, 103, 101]⟩ 1).run Tryf.prog w = .ok [(0, 100, false)] w := by kernel_rfl
attribute [local go_sem] fmt5 fmt5r

set_option maxRecDepth 100000 in
set_option maxHeartbeats 1000000 in
theorem errorf5 (F : Interp) (x0 : Int) (blk : Nat) (w : World) (hF : F.answers w.tape) (hc0 : w.cell? ⟨blk, 0, none⟩ = some (.iface 5 (.int .u8 x0))) :
    Calls Tryf.prog 24 #[.string ⟨#[103, 116, 112, 118, 50, 99, 58, 32, 73, 69, 32, 111, 102, 32, 116, 121, 112, 101, 32, 37, 100, 32, 114, 117, 110, 115, 32, 112, 97, 115, 116, 32, 116, 104, 101, 32, 101, 110, 100, 32, 111, 102, 32, 116, 104, 101, 32, 109, 101, 115, 115, 97, 103, 101]⟩, .slice (some ⟨blk, 0, none⟩) 1 1] w fun e w' => ∃ s, e = .returned (.iface 90 (.pointer (some ⟨w.heap.size, 0, none⟩))) ∧ w' = (w.alloc (.cells #[.string s] 92)).drew := by
  have hF' := answers_open hF
  go_enter Tryf.func24, Tryf.ntmps24
  go_wp2
  go_ret
  exact ⟨_, rfl, rfl⟩

-- format 6
theorem fmt6 : FmtStop.printed? ⟨#[103, 116, 112, 118, 50, 99, 58, 32, 110, 111, 32, 73, 69, 32, 111, 102, 32, 116, 121, 112, 101, 32, 37, 100, 44, 32, 105, 110, 115, 116, 97, 110, 99, 101, 32, 37, 100]⟩ 2 = some [(0, 100, false), (1, 100, false)] := by kernel_rfl
theorem fmt6r (w : World) : (FmtDoors.printed ⟨#[103, 116, 112, 118, 50, 99, 58, 32, 110, 111, 32, 73, 69, 32, 111, 102, 32, 116, 121, 112, 101, 32, 37, 100, 44, 32, 105, 110, 115, 116, 97, 110, 99, 101, 32, 37, 100]⟩ 2).run Tryf.prog w = .ok [(0, 100, false), (1, 100, false)] w := by kernel_rfl
attribute [local go_sem] fmt6 fmt6r

set_option maxRecDepth 100000 in
set_option maxHeartbeats 1000000 in
theorem errorf6 (F : Interp) (x0 x1 : Int) (blk : Nat) (w : World) (hF : F.answers w.tape) (hc0 : w.cell? ⟨blk, 0, none⟩ = some (.iface 5 (.int .u8 x0))) (hc1 : w.cell? ⟨blk, 1, none⟩ = some (.iface 5 (.int .u8 x1))) :
    Calls Tryf.prog 24 #[.string ⟨#[103, 116, 112, 118, 50, 99, 58, 32, 110, 111, 32, 73, 69, 32, 111, 102, 32, 116, 121, 112, 101, 32, 37, 100, 44, 32, 105, 110, 115, 116, 97, 110, 99, 101, 32, 37, 100]⟩, .slice (some ⟨blk, 0, none⟩) 2 2] w fun e w' => ∃ s, e = .returned (.iface 90 (.pointer (some ⟨w.heap.size, 0, none⟩))) ∧ w' = (w.alloc (.cells #[.string s] 92)).drew := by
  have hF' := answers_open hF
  go_enter Tryf.func24, Tryf.ntmps24
  go_wp2
  go_ret
  exact ⟨_, rfl, rfl⟩

end Go.Proofs.Qxb6615007aFmt
