/-
  The shared walks of seat b6615889a: zzb1TS (6), anyPort (8), opaque (9), ZZanyPort (5), ZZopaque (7), each by value.
-/
import Derived.Test.Qxb6615889aRows
import Derived.WalkKit
import Derived.WalkSpells
import Derived.WalkLawsBesides
import Derived.Handy
namespace Go.Proofs.Qxb6615889a
open Go.RowKit

theorem grown_trans {a b c : World} (h : Grown a b) (k : Grown b c) : Grown a c :=
  ⟨World.keptBut_trans h.1 (World.keptBut_mono (fun _ f => f.elim) k.1), fun x => (k.2.1 x).trans (h.2.1 x), Nat.le_trans h.2.2 k.2.2⟩

theorem u16_bounds {a : Int} (h : (Lit.int .u16 a).wf = true) : 0 ≤ a ∧ a ≤ 65535 := by
  have h' : IntKind.u16.min ≤ a ∧ a ≤ IntKind.u16.max := by simpa [Lit.wf] using h
  exact h'

/-- The selector of a protocol and two ports, all else zero. -/
def ts (a b c : Int) : Value :=
  .agg #[.int .u8 a, .int .u16 b, .int .u16 c, .int .u64 0, .int .u64 0, .pointer none, .int .u64 0, .int .u64 0, .pointer none]

set_option maxHeartbeats 400000 in
theorem ts6 (a b c : Int) (w : World) :
    Calls Try.prog 6 #[.int .u8 a, .int .u16 b, .int .u16 c] w
      fun e w' => e = .returned (ts a b c) ∧ Grown w w' := by
  go_enter Try.func6, Try.ntmps6
  go_wp2
  go_returns
  exact ⟨rfl, by repeat (first | exact Grown.refl _ | apply Grown.drew | apply Grown.alloc)⟩

/-- anyPort by value. -/
def anyB (b c : Int) : Bool := decide (b = 0) && decide (c = 65535)
/-- opaque by value. -/
def opqB (b c : Int) : Bool := decide (b = 65535) && decide (c = 0)

set_option maxHeartbeats 400000 in
theorem any8 (a b c : Int) (w : World) :
    Calls Try.prog 8 #[ts a b c] w fun e w' => e = .returned (.bool (anyB b c)) ∧ Grown w w' := by
  unfold ts anyB
  by_cases hb : b = 0
  · by_cases hc : c = 65535
    · subst hb hc
      go_enter Try.func8, Try.ntmps8
      go_wp2
      go_ret
      exact ⟨by simp, by repeat (first | exact Grown.refl _ | apply Grown.drew | apply Grown.alloc)⟩
    · subst hb
      go_enter Try.func8, Try.ntmps8
      go_wp2
      go_ret
      exact ⟨by simp [hc], by repeat (first | exact Grown.refl _ | apply Grown.drew | apply Grown.alloc)⟩
  · go_enter Try.func8, Try.ntmps8
    go_wp2
    go_ret
    exact ⟨by simp [hb], by repeat (first | exact Grown.refl _ | apply Grown.drew | apply Grown.alloc)⟩

set_option maxHeartbeats 400000 in
theorem opq9 (a b c : Int) (w : World) :
    Calls Try.prog 9 #[ts a b c] w fun e w' => e = .returned (.bool (opqB b c)) ∧ Grown w w' := by
  unfold ts opqB
  by_cases hb : b = 65535
  · by_cases hc : c = 0
    · subst hb hc
      go_enter Try.func9, Try.ntmps9
      go_wp2
      go_ret
      exact ⟨by simp, by repeat (first | exact Grown.refl _ | apply Grown.drew | apply Grown.alloc)⟩
    · subst hb
      go_enter Try.func9, Try.ntmps9
      go_wp2
      go_ret
      exact ⟨by simp [hc], by repeat (first | exact Grown.refl _ | apply Grown.drew | apply Grown.alloc)⟩
  · go_enter Try.func9, Try.ntmps9
    go_wp2
    go_ret
    exact ⟨by simp [hb], by repeat (first | exact Grown.refl _ | apply Grown.drew | apply Grown.alloc)⟩

set_option maxHeartbeats 400000 in
theorem any5 (a b c : Int) (w : World) :
    Calls Try.prog 5 #[ts a b c] w fun e w' => e = .returned (.bool (anyB b c)) ∧ Grown w w' := by
  have h8 : ∀ w1, Calls Try.prog 8 #[.agg #[.int .u8 a, .int .u16 b, .int .u16 c, .int .u64 0, .int .u64 0, .pointer none, .int .u64 0, .int .u64 0, .pointer none]] w1 _ := any8 a b c
  unfold ts
  go_enter Try.func5, Try.ntmps5
  go_wp2_with fail
  refine (h8 _).mono ?_
  rintro e w' ⟨rfl, hg⟩
  go_wp2
  go_ret
  exact ⟨rfl, grown_trans (by repeat (first | exact Grown.refl _ | apply Grown.drew | apply Grown.alloc)) hg⟩

set_option maxHeartbeats 400000 in
theorem opq7 (a b c : Int) (w : World) :
    Calls Try.prog 7 #[ts a b c] w fun e w' => e = .returned (.bool (opqB b c)) ∧ Grown w w' := by
  have h9 : ∀ w1, Calls Try.prog 9 #[.agg #[.int .u8 a, .int .u16 b, .int .u16 c, .int .u64 0, .int .u64 0, .pointer none, .int .u64 0, .int .u64 0, .pointer none]] w1 _ := opq9 a b c
  unfold ts
  go_enter Try.func7, Try.ntmps7
  go_wp2_with fail
  refine (h9 _).mono ?_
  rintro e w' ⟨rfl, hg⟩
  go_wp2
  go_ret
  exact ⟨rfl, grown_trans (by repeat (first | exact Grown.refl _ | apply Grown.drew | apply Grown.alloc)) hg⟩
end Go.Proofs.Qxb6615889a
