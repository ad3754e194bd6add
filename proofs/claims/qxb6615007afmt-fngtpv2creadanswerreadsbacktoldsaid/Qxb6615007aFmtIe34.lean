/-
  Seat b6615007aF: the closure of ie (34).
-/
import Derived.Test.Qxb6615007aFmtWalk28
namespace Go.Proofs.Qxb6615007aFmt
open Go.RowKit

theorem qsl (w : World) (a : Option Addr) (n c : Nat) : (binOp .eql 22 (.slice a n c) (.slice none 0 0)).run Tryf.prog w = .ok (.bool a.isNone) w := Lib.run_eql_slice_nil w 22 5 a n c 0 0 Tryf.underlying22

set_option maxRecDepth 100000 in
set_option maxHeartbeats 1000000 in
theorem ie34_full (a b : Int) (ad : Addr) (n c : Nat) (v : Value) (B8 B4 B5 : Nat) (w : World) (h8 : w.cell? ⟨B8, 0, none⟩ = some (.slice (some ad) n c)) :
    Calls Tryf.prog 34 #[.int .u8 a, .int .u8 b, v, .pointer (some ⟨B8, 0, none⟩), .pointer (some ⟨B4, 0, none⟩), .pointer (some ⟨B5, 0, none⟩)] w fun e w' => e = .returned (.tuple #[]) ∧ w' = w := by
  have qs := qsl
  go_enter Tryf.func34, Tryf.ntmps34
  go_wp2
  go_returns
  exact ⟨rfl, rfl⟩

set_option maxRecDepth 100000 in
set_option maxHeartbeats 1000000 in
theorem ie34_none (a b T I : Int) (s : Option Addr) (m k : Nat) (B8 B4 B5 : Nat) (w : World) (h8 : w.cell? ⟨B8, 0, none⟩ = some (.slice none 0 0)) (h4 : w.cell? ⟨B4, 0, none⟩ = some (.int .u8 T)) (h5 : w.cell? ⟨B5, 0, none⟩ = some (.int .u8 I))
    (hz : w.frozen? ⟨B8, 0, none⟩ = false) :
    Calls Tryf.prog 34 #[.int .u8 a, .int .u8 b, .slice s m k, .pointer (some ⟨B8, 0, none⟩), .pointer (some ⟨B4, 0, none⟩), .pointer (some ⟨B5, 0, none⟩)] w fun e w' => e = .returned (.tuple #[]) ∧ w' = (if a = T ∧ b = I then w.setCell ⟨B8, 0, none⟩ (.slice s m k) else w) := by
  by_cases h1 : a = T
  · by_cases h2 : b = I
    · rw [if_pos ⟨h1, h2⟩]
      subst h1 h2
      have qs := qsl
      go_enter Tryf.func34, Tryf.ntmps34
      go_wp2
      go_returns
      exact ⟨rfl, rfl⟩
    · rw [if_neg (fun h => h2 h.2)]
      subst h1
      have qs := qsl
      go_enter Tryf.func34, Tryf.ntmps34
      go_wp2
      go_returns
      exact ⟨rfl, rfl⟩
  · rw [if_neg (fun h => h1 h.1)]
    have qs := qsl
    go_enter Tryf.func34, Tryf.ntmps34
    go_wp2
    go_returns
    exact ⟨rfl, rfl⟩
end Go.Proofs.Qxb6615007aFmt
