/-
  Seat b6615007aF: a store of a whole message (type 43, nine cells) in a world that is a variable: the walk stops at a name of ours, and one law says what the store leaves. And read (13) where Parse refuses by a plain error.
-/
import Derived.Test.Qxb6615007aFmtRead3
import Derived.Deep.MidRow
import Derived.Deep.WholeRow
namespace Go.Proofs.Qxb6615007aFmt
open Go.RowKit

/-- The store of a message, under a name that the walk does not open. -/
def st43v (p v : Value) : Sem Unit := Instr.storeAt 43 p v
theorem st43_eq (p v : Value) : Instr.storeAt 43 p v = st43v p v := rfl
/-- The store of a message at the head of block b. -/
abbrev st43 (b : Nat) (c : Array Value) : Sem Unit := st43v (.pointer (some ⟨b, 0, none⟩)) (.agg c)

theorem Below.setCells {B b : Nat} (hb : B ≤ b) : ∀ (vs : List Value) (o : Nat) (w : World), Below B w (w.setCells b o vs)
  | [], _, _ => Below.refl _ _
  | v :: r, o, w => by
    rw [World.setCells]
    exact ((Below.refl B w).setCell (p := ⟨b, o, none⟩) hb v).trans (Below.setCells hb r (o + 1) _)

theorem st43_run (w : World) (b : Nat) (x0 x1 x2 x3 x4 x5 x6 x7 x8 : Value) (h1 : ∀ v ∈ [x0, x1, x2, x3, x4, x5, x6, x7, x8], v.oneCell' = true) (ht : ∀ j, j < 9 → (w.cell? ⟨b, j, none⟩).isSome = true ∧ w.frozen? ⟨b, j, none⟩ = false) :
    ∃ w3, (st43 b #[x0, x1, x2, x3, x4, x5, x6, x7, x8]).run Tryf.prog w = .ok () w3 ∧ (w3.cell? ⟨b, 0, none⟩ = some x0 ∧ w3.cell? ⟨b, 1, none⟩ = some x1 ∧ w3.cell? ⟨b, 2, none⟩ = some x2 ∧ w3.cell? ⟨b, 3, none⟩ = some x3 ∧ w3.cell? ⟨b, 4, none⟩ = some x4 ∧ w3.cell? ⟨b, 5, none⟩ = some x5 ∧ w3.cell? ⟨b, 6, none⟩ = some x6 ∧ w3.cell? ⟨b, 7, none⟩ = some x7 ∧ w3.cell? ⟨b, 8, none⟩ = some x8) ∧ (∀ B, B ≤ b → Below B w w3) ∧ (∀ p : Addr, p.block ≠ b → w3.cell? p = w.cell? p) := by
  have ht' : w.there b 0 9 := fun j hj => by simpa using ht j hj
  have hr : ∀ j v, [x0, x1, x2, x3, x4, x5, x6, x7, x8][j]? = some v → (w.setCells b 0 [x0, x1, x2, x3, x4, x5, x6, x7, x8]).cell? ⟨b, j, none⟩ = some v := fun j v hv => by
    have := World.rangeAt_setCells_same w b 0 [x0, x1, x2, x3, x4, x5, x6, x7, x8] ht' j v hv
    simpa using this
  exact ⟨w.setCells b 0 [x0, x1, x2, x3, x4, x5, x6, x7, x8], run_storeAt_mid w b 0 43 #[x0, x1, x2, x3, x4, x5, x6, x7, x8] ht' (by kernel_rfl) (all_oneCell_toArray h1), ⟨hr 0 _ rfl, hr 1 _ rfl, hr 2 _ rfl, hr 3 _ rfl, hr 4 _ rfl, hr 5 _ rfl, hr 6 _ rfl, hr 7 _ rfl, hr 8 _ rfl⟩, fun B hB => Below.setCells hB _ _ _, fun p hp => World.cell?_setCells_out b _ 0 w p (fun h => absurd h hp)⟩

theorem st43_new (w : World) (y0 y1 y2 y3 y4 y5 y6 y7 y8 x0 x1 x2 x3 x4 x5 x6 x7 x8 : Value) (h1 : ∀ v ∈ [x0, x1, x2, x3, x4, x5, x6, x7, x8], v.oneCell' = true) : (st43 w.heap.size #[x0, x1, x2, x3, x4, x5, x6, x7, x8]).run Tryf.prog (w.alloc (.cells #[y0, y1, y2, y3, y4, y5, y6, y7, y8] 43)) = .ok () (w.alloc (.cells #[x0, x1, x2, x3, x4, x5, x6, x7, x8] 43)) :=
  run_storeAt_new w 43 #[y0, y1, y2, y3, y4, y5, y6, y7, y8] #[x0, x1, x2, x3, x4, x5, x6, x7, x8] (by kernel_rfl) rfl (all_oneCell_toArray h1)

/-- The nine cells of a message, laid newly, stand in every later world, and may be written. -/
theorem there43 (w w2 : World) (c : Array Value) (hb : Below (w.alloc (.cells c 43)).heap.size (w.alloc (.cells c 43)) w2) (hs : c.size = 9) :
    (∀ j v, c[j]? = some v → w2.cell? ⟨w.heap.size, j, none⟩ = some v) ∧ ∀ j, j < 9 → (w2.cell? ⟨w.heap.size, j, none⟩).isSome = true ∧ w2.frozen? ⟨w.heap.size, j, none⟩ = false := by
  have h1 : ∀ j v, c[j]? = some v → w2.cell? ⟨w.heap.size, j, none⟩ = some v := fun j v hv => (hb.cell (p := ⟨w.heap.size, j, none⟩) (by simp)).trans (by simp [go_sem, hv])
  refine ⟨h1, fun j hj => ⟨?_, ?_⟩⟩
  · rw [h1 j _ (Array.getElem?_eq_getElem (by omega))]; rfl
  · exact (hb.frozen (p := ⟨w.heap.size, j, none⟩) (by simp)).trans (by simp)

attribute [local go_sem ↓] st43_eq

set_option maxRecDepth 100000 in
set_option maxHeartbeats 4000000 in
theorem read13_err (x : Option Addr) (n c : Nat) (k : Int) (w : World)
    (hP : ∀ w1 : World, Below w.heap.size w w1 → Calls Tryf.prog 16 #[.slice x n c] w1 fun e w' => ∃ N, e = .returned (.tuple #[.agg #[.int .u8 0, .int .u32 0, .slice none 0 0, .bool false, .bool false], .iface 90 (.pointer (some ⟨N, 0, none⟩))]) ∧ Below w1.heap.size w1 w') :
    Calls Tryf.prog 13 #[.agg #[], .slice x n c, .agg #[.int .u8 k, .int .u64 0, .int .i64 0, .pointer none]] w fun e w' => e = .returned (.tuple #[.slice none 0 0, m0, .bool false]) ∧ Below w.heap.size w w' := by
  replace hP : Hid (∀ w1 : World, Below w.heap.size w w1 → Calls Tryf.prog 16 #[.slice x n c] w1 fun e w' => ∃ N, e = .returned (.tuple #[.agg #[.int .u8 0, .int .u32 0, .slice none 0 0, .bool false, .bool false], .iface 90 (.pointer (some ⟨N, 0, none⟩))]) ∧ Below w1.heap.size w1 w') := hP
  go_enter Tryf.func13, Tryf.ntmps13
  go_wp2_with fail
  refine (hP.out _ ?_).mono ?_
  · go_grown
  rintro e w' ⟨N, rfl, hb⟩
  clear hP
  have hB : Below w.heap.size w w' := Below.trans (by go_grown) (hb.mono (by simp; omega))
  go_wp2_with fail
  refine (as17_plain _ _).mono ?_
  rintro e w2 ⟨rfl, hw2⟩
  have h2 : Below w'.heap.size w' w2 := by rw [hw2]; exact (((Below.refl _ w').alloc (Nat.le_refl _) _).alloc (by simp) _)
  have hb2 := hb.trans (h2.mono hb.size)
  obtain ⟨-, ht⟩ := there43 _ w2 _ hb2 rfl
  obtain ⟨w3, hst, ⟨r0, r1, r2, r3, r4, r5, r6, r7, r8⟩, hb3, -⟩ := st43_run w2 _ (.int .u32 0) (.int .u8 0) (.slice none 0 0) (.bool false) (.bool false) (.int .u8 0) (.int .u64 0) (.int .i64 0) (.pointer none) (by simp [Value.oneCell']) ht
  simp only [World.size_alloc] at hst r0 r1 r2 r3 r4 r5 r6 r7 r8 hb3
  have hB3 : Below w.heap.size w w3 := (hB.trans (h2.mono hB.size)).trans (hb3 _ (by omega))
  clear hb3 ht hb2 h2 hb hw2
  go_wp2
  try simp only [Exit.inBlock, Exit.then]
  refine bodyPost_ret (by simp [results, Tryf.results13, go_sem, r0, r1, r2, r3, r4, r5, r6, r7, r8]; try rfl) rfl ?_
  exact ⟨rfl, hB3⟩
end Go.Proofs.Qxb6615007aFmt
