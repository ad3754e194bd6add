/-
  Seat b6615007aF: Parse (16) and read (13) at a datagram of a foreign version, the worlds written out.
-/
import Derived.Test.Qxb6615007aFmtRead1
import Derived.BigRegion
namespace Go.Proofs.Qxb6615007aFmt
open Go.RowKit

set_option maxRecDepth 100000 in
set_option maxHeartbeats 4000000 in
theorem parse16_foreign (A : Nat) (n c : Nat) (b0 b1 : Int) (w : World) (hA : A < w.heap.size) (hn : (8 : Int) ≤ n) (hc0 : w.cell? ⟨A, 0, none⟩ = some (.int .u8 b0)) (hc1 : w.cell? ⟨A, 1, none⟩ = some (.int .u8 b1))
    (hv : ¬ (b0 / 32 = 2)) :
    Calls Tryf.prog 16 #[.slice (some ⟨A, 0, none⟩) n c] w fun e w' => e = .returned (.tuple #[.agg #[.int .u8 0, .int .u32 0, .slice none 0 0, .bool false, .bool false], .iface 50 (.pointer (some ⟨w.heap.size + 1, 0, none⟩))]) ∧ w' = ((w.alloc (.cells #[.int .u8 0, .int .u32 0, .slice none 0 0, .bool false, .bool false] 54)).alloc (.cells #[.int .u8 (b0 / 32), .int .u8 b1] 52)).drew := by
  have hn1 : (1 : Int) < n := by omega
  go_enter Tryf.func16, Tryf.ntmps16
  go_wp2
  go_region
  all_goals go_wp2
  all_goals go_returns
  all_goals exact ⟨rfl, rfl⟩

/-- The zero message (type 43). -/
abbrev m0 : Value := .agg #[.int .u32 0, .int .u8 0, .slice none 0 0, .bool false, .bool false, .int .u8 0, .int .u64 0, .int .i64 0, .pointer none]
/-- The bytes of VersionNotSupported. -/
abbrev vnsC : Array Value := #[.int .u8 64, .int .u8 3, .int .u8 0, .int .u8 4, .int .u8 0, .int .u8 0, .int .u8 0, .int .u8 0]
/-- The world behind read's refusal of a foreign version, up to the answer. -/
abbrev rw (w : World) (k b0 b1 : Int) : World :=
  ((((((((w.alloc (.cells #[] 46)).alloc (.cells #[.int .u8 k, .int .u64 0, .int .i64 0, .pointer none] 41)).alloc (.cells #[.int .u32 0, .int .u8 0, .slice none 0 0, .bool false, .bool false, .int .u8 0, .int .u64 0, .int .i64 0, .pointer none] 43)).alloc
    (.cells #[.int .u8 0, .int .u32 0, .slice none 0 0, .bool false, .bool false] 54)).alloc (.cells #[.int .u8 (b0 / 32), .int .u8 b1] 52)).drew).alloc (.cells #[.int .u8 0, .int .u32 0, .slice none 0 0, .bool false, .bool false] 54)).alloc (.cells #[.pointer none] 71))

set_option maxRecDepth 100000 in
set_option maxHeartbeats 4000000 in
theorem read13_yes (A : Nat) (n c : Nat) (b0 b1 k : Int) (w : World) (hA : A < w.heap.size) (hn : (8 : Int) ≤ n) (hc0 : w.cell? ⟨A, 0, none⟩ = some (.int .u8 b0)) (hc1 : w.cell? ⟨A, 1, none⟩ = some (.int .u8 b1))
    (hv : ¬ (b0 / 32 = 2)) (hu : unsB (b0 / 32) b1 = true) :
    Calls Tryf.prog 13 #[.agg #[], .slice (some ⟨A, 0, none⟩) n c, .agg #[.int .u8 k, .int .u64 0, .int .i64 0, .pointer none]] w fun e w' => e = .returned (.tuple #[.slice (some ⟨w.heap.size + 7, 0, none⟩) 8 8, m0, .bool false]) ∧ w' = ((rw w k b0 b1).alloc (.cells vnsC 5)) := by
  replace hu : Hid (unsB (b0 / 32) b1 = true) := hu
  go_enter Tryf.func13, Tryf.ntmps13
  go_wp2_with fail
  refine (parse16_foreign A n c b0 b1 _ ?_ hn ?_ ?_ hv).mono ?_
  · simp; omega
  · refine (Below.cell (w := w) (B := w.heap.size) ?_ hA).trans hc0
    go_grown
  · refine (Below.cell (w := w) (B := w.heap.size) ?_ hA).trans hc1
    go_grown
  rintro e w' ⟨rfl, rfl⟩
  go_wp2_with fail
  refine (as17 _ _).mono ?_
  rintro e w' ⟨rfl, rfl⟩
  go_wp2_with fail
  refine (uns15 _ (b0 / 32) b1 _ ?_ ?_).mono ?_
  · go_cell
  · go_cell
  rintro e w' ⟨rfl, rfl⟩
  rw [hu.out]
  go_wp2_with fail
  refine (vns18 _).mono ?_
  rintro e w' ⟨rfl, rfl⟩
  go_wp2
  go_returns
  exact ⟨rfl, rfl⟩

set_option maxRecDepth 100000 in
set_option maxHeartbeats 4000000 in
theorem read13_no (A : Nat) (n c : Nat) (b0 b1 k : Int) (w : World) (hA : A < w.heap.size) (hn : (8 : Int) ≤ n) (hc0 : w.cell? ⟨A, 0, none⟩ = some (.int .u8 b0)) (hc1 : w.cell? ⟨A, 1, none⟩ = some (.int .u8 b1))
    (hv : ¬ (b0 / 32 = 2)) (hu : unsB (b0 / 32) b1 = false) :
    Calls Tryf.prog 13 #[.agg #[], .slice (some ⟨A, 0, none⟩) n c, .agg #[.int .u8 k, .int .u64 0, .int .i64 0, .pointer none]] w fun e w' => e = .returned (.tuple #[.slice none 0 0, m0, .bool false]) ∧ w' = rw w k b0 b1 := by
  replace hu : Hid (unsB (b0 / 32) b1 = false) := hu
  go_enter Tryf.func13, Tryf.ntmps13
  go_wp2_with fail
  refine (parse16_foreign A n c b0 b1 _ ?_ hn ?_ ?_ hv).mono ?_
  · simp; omega
  · refine (Below.cell (w := w) (B := w.heap.size) ?_ hA).trans hc0
    go_grown
  · refine (Below.cell (w := w) (B := w.heap.size) ?_ hA).trans hc1
    go_grown
  rintro e w' ⟨rfl, rfl⟩
  go_wp2_with fail
  refine (as17 _ _).mono ?_
  rintro e w' ⟨rfl, rfl⟩
  go_wp2_with fail
  refine (uns15 _ (b0 / 32) b1 _ ?_ ?_).mono ?_
  · go_cell
  · go_cell
  rintro e w' ⟨rfl, rfl⟩
  rw [hu.out]
  go_wp2
  go_returns
  exact ⟨rfl, rfl⟩
end Go.Proofs.Qxb6615007aFmt
