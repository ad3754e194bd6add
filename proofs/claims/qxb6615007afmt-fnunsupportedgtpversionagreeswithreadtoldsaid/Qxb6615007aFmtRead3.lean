/-
  Seat b6615007aF: ZZgtpv2cRead (10) over whatever contract of read (13): its last statement draws its order and calls IsZero, which makes a block: the library's quiet walk at all worlds that read alike below.
-/
import Derived.Test.Qxb6615007aFmtRead2
import Derived.BigQuiet
namespace Go.Proofs.Qxb6615007aFmt
open Go.RowKit

/-- The worlds in which all below block N reads as in w0. -/
structure Later (N : Nat) (w0 : World) where
  w : World
  h : Below N w0 w

/-- Such a world (none: w0 itself). -/
def laterAt {N : Nat} {w0 : World} : Option (Later N w0) → World
  | none => w0
  | some y => y.w

theorem laterAt_below {N : Nat} {w0 : World} (y : Option (Later N w0)) : Below N w0 (laterAt y) := by
  cases y with
  | none => exact Below.refl _ _
  | some y => exact y.h

/-- The library's quiet walk, at the image of a map into worlds. -/
theorem quiet_cls {P : Program} {X : Type} {g : X → World} {id : Nat} {Q : Exit → Act → World → Prop} {a : Act} {w : World} {l : List Oper} (hm : P.follows .mixedOrders = true) (hB : Region.lexB .any l.toArray = true)
    (h0 : ∃ x, ({ w with drawn := w.drawn + 1 } : World) = g x)
    (h : wpQuiet P l.toArray (fun w' => ∃ x, w' = g x) (fun a' => ∀ w', (∃ x, w' = g x) → Q .normal a' w') l a) : (Code.region id l.toArray true).wp P Q a w :=
  wp_region_quiet (C := fun w' => ∃ x, w' = g x) hm hB h0 (by simpa using h)

set_option maxRecDepth 100000 in
set_option maxHeartbeats 4000000 in
theorem zz10 (a d : Option Addr) (n c na ca nd cd : Nat) (x : Option Addr) (k seq typ rc : Int) (tr er ok : Bool) (w : World) (R : World → Prop)
    (h13 : Calls Tryf.prog 13 #[.agg #[], .slice x n c, .agg #[.int .u8 k, .int .u64 0, .int .i64 0, .pointer none]] w fun e w' =>
      e = .returned (.tuple #[.slice a na ca, .agg #[.int .u32 seq, .int .u8 typ, .slice d nd cd, .bool tr, .bool er, .int .u8 rc, .int .u64 0, .int .i64 0, .pointer none], .bool ok]) ∧ R w') :
    Calls Tryf.prog 10 #[.slice x n c, .int .u8 k] w fun e w' => e = .returned (.tuple #[.slice a na ca, .int .u32 seq, .int .u8 typ, .slice d nd cd, .bool tr, .bool er, .int .u8 rc, .bool true, .bool ok]) ∧ ∃ w1, R w1 ∧ Below w1.heap.size w1 w' := by
  go_enter Tryf.func10, Tryf.ntmps10
  go_wp2_with fail
  refine h13.mono ?_
  rintro e w1 ⟨rfl, hR⟩
  go_wp2_with fail
  generalize hw0 : w1.alloc (.cells #[.int .u32 seq, .int .u8 typ, .slice d nd cd, .bool tr, .bool er, .int .u8 rc, .int .u64 0, .int .i64 0, .pointer none] 43) = w0
  have hsz : w0.heap.size = w1.heap.size + 1 := by rw [← hw0]; simp
  have hB : Below w1.heap.size w1 w0 := by rw [← hw0]; go_grown
  have c0 : w0.cell? ⟨w1.heap.size, 0, none⟩ = some (.int .u32 seq) := by rw [← hw0]; simp [go_sem]
  have c1 : w0.cell? ⟨w1.heap.size, 1, none⟩ = some (.int .u8 typ) := by rw [← hw0]; simp [go_sem]
  have c2 : w0.cell? ⟨w1.heap.size, 2, none⟩ = some (.slice d nd cd) := by rw [← hw0]; simp [go_sem]
  have c3 : w0.cell? ⟨w1.heap.size, 3, none⟩ = some (.bool tr) := by rw [← hw0]; simp [go_sem]
  have c4 : w0.cell? ⟨w1.heap.size, 4, none⟩ = some (.bool er) := by rw [← hw0]; simp [go_sem]
  have c5 : w0.cell? ⟨w1.heap.size, 5, none⟩ = some (.int .u8 rc) := by rw [← hw0]; simp [go_sem]
  have c6 : w0.cell? ⟨w1.heap.size, 6, none⟩ = some (.int .u64 0) := by rw [← hw0]; simp [go_sem]
  have c7 : w0.cell? ⟨w1.heap.size, 7, none⟩ = some (.int .i64 0) := by rw [← hw0]; simp [go_sem]
  have c8 : w0.cell? ⟨w1.heap.size, 8, none⟩ = some (.pointer none) := by rw [← hw0]; simp [go_sem]
  clear hw0
  have hl : ∀ (y : Option (Later w0.heap.size w0)) (j : Nat) (v : Value), w0.cell? ⟨w1.heap.size, j, none⟩ = some v → (laterAt y).cell? ⟨w1.heap.size, j, none⟩ = some v := fun y j v hv => ((laterAt_below y).cell (by show w1.heap.size < _; omega)).trans hv
  have l0 := fun y => hl y 0 _ c0
  have l1 := fun y => hl y 1 _ c1
  have l2 := fun y => hl y 2 _ c2
  have l3 := fun y => hl y 3 _ c3
  have l4 := fun y => hl y 4 _ c4
  have l5 := fun y => hl y 5 _ c5
  have l6 := fun y => hl y 6 _ c6
  have l7 := fun y => hl y 7 _ c7
  have l8 := fun y => hl y 8 _ c8
  clear hl c0 c1 c2 c3 c4 c5 c6 c7 c8 h13
  refine quiet_cls (X := Option (Later w0.heap.size w0)) (g := laterAt) (by kernel_rfl) (by kernel_rfl) ⟨some ⟨_, (Below.refl _ _).drew⟩, rfl⟩ ?_
  have z14 : Hid (∀ y : Option (Later w0.heap.size w0), Calls Tryf.prog 14 #[.agg #[.int .u64 0, .int .i64 0, .pointer none]] (laterAt y) fun e w' => e = .returned (.bool true) ∧ ∃ z : Option (Later w0.heap.size w0), w' = laterAt z) :=
    (fun y => (zero14 (laterAt y)).mono fun e w' ⟨he, hw⟩ => ⟨he, some ⟨w', by rw [hw]; exact (laterAt_below y).alloc (laterAt_below y).size _⟩, rfl⟩ : ∀ y : Option (Later w0.heap.size w0), Calls Tryf.prog 14 #[.agg #[.int .u64 0, .int .i64 0, .pointer none]] (laterAt y) fun e w' => e = .returned (.bool true) ∧ ∃ z : Option (Later w0.heap.size w0), w' = laterAt z)
  repeat go_big_quiet_step (exact z14.out _)
  refine wpQuiet_nil ?_
  intro _ hw'
  obtain ⟨y, hw''⟩ := hw'
  subst hw''
  go_wp2
  go_returns
  exact ⟨rfl, w1, hR, (hB.trans ((laterAt_below y).mono hB.size))⟩
end Go.Proofs.Qxb6615007aFmt
