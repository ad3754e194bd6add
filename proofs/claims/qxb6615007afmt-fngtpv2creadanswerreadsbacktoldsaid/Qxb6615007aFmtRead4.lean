/-
  Seat b6615007aF: read (13) where Parse accepts: an Echo Request, answered; another message, handed on.
-/
import Derived.Test.Qxb6615007aFmtStore
import Derived.Test.Qxb6615007aFmtEcho
import Derived.Deep.DeepCutAuto
import Derived.Deep.RegionHeld3
namespace Go.Proofs.Qxb6615007aFmt
open Go.RowKit

attribute [local go_sem ↓] st43_eq

/-- An error, as an address or none. -/
def ev : Option Addr → Value
  | none => .nilIface
  | some N => .iface 90 (.pointer (some N))

/-- What Parse gives. -/
abbrev Parses (x : Option Addr) (n c : Nat) (t s : Int) (b1 b2 : Bool) (L P : Nat) (Gd : Addr → Prop) (w : World) : Prop :=
  ∀ w1 : World, Below w.heap.size w w1 → Calls Tryf.prog 16 #[.slice x n c] w1 fun e w' => ∃ ad, Gd ad ∧ e = .returned (.tuple #[.agg #[.int .u8 t, .int .u32 s, .slice (some ad) L P, .bool b1, .bool b2], .nilIface]) ∧ Below w1.heap.size w1 w'
/-- What IsEchoRequest says. -/
abbrev Echoes (t s : Int) (b1 b2 : Bool) (L P : Nat) (Gd : Addr → Prop) (r : Bool) (w : World) : Prop :=
  ∀ ad, Gd ad → ∀ w1 : World, Below w.heap.size w w1 → Calls Tryf.prog 19 #[.agg #[.int .u8 t, .int .u32 s, .slice (some ad) L P, .bool b1, .bool b2]] w1 fun e w' => e = .returned (.bool r) ∧ Below w1.heap.size w1 w'

set_option maxRecDepth 100000 in
set_option maxHeartbeats 4000000 in
theorem read13_echo (x : Option Addr) (n c L P : Nat) (k t s : Int) (b1 b2 : Bool) (Gd : Addr → Prop) (w : World) (hP : Parses x n c t s b1 b2 L P Gd w) (hE : Echoes t s b1 b2 L P Gd true w) :
    Calls Tryf.prog 13 #[.agg #[], .slice x n c, .agg #[.int .u8 k, .int .u64 0, .int .i64 0, .pointer none]] w fun e w' => ∃ N, e = .returned (.tuple #[.slice (some ⟨N, 0, none⟩) 13 13, m0, .bool false]) ∧ (Below w.heap.size w w' ∧ w.heap.size ≤ N ∧ N < w'.heap.size ∧ ∀ j v, (echoC s k)[j]? = some v → w'.cell? ⟨N, j, none⟩ = some v) := by
  replace hP : Hid (Parses x n c t s b1 b2 L P Gd w) := hP
  replace hE : Hid (Echoes t s b1 b2 L P Gd true w) := hE
  go_enter Tryf.func13, Tryf.ntmps13
  go_wp2_with fail
  refine (hP.out _ ?_).mono ?_
  · go_grown
  rintro e w' ⟨ad, hG, rfl, hb⟩
  clear hP
  have hB : Below w.heap.size w w' := Below.trans (by go_grown) (hb.mono (by simp; omega))
  have hs1 : w.heap.size + 3 ≤ w'.heap.size := by have := hb.size; simp at this; omega
  have ck : w'.cell? ⟨w.heap.size + 1, 0, none⟩ = some (.int .u8 k) := (hb.cell (by simp)).trans (by simp [go_sem])
  go_wp2_with fail
  refine (hE.out ad hG _ ?_).mono ?_
  · exact hB.alloc hB.size _
  rintro e w2 ⟨rfl, hb2⟩
  clear hE
  have hW2 : Below w'.heap.size w' w2 := ((Below.refl _ w').alloc (Nat.le_refl _) _).trans (hb2.mono (by simp))
  have hs2 : w'.heap.size + 1 ≤ w2.heap.size := by have := hb2.size; simp at this; omega
  have ck2 : w2.cell? ⟨w.heap.size + 1, 0, none⟩ = some (.int .u8 k) := (hW2.cell (by show w.heap.size + 1 < _; omega)).trans ck
  have d0 : w2.cell? ⟨w'.heap.size, 0, none⟩ = some (.int .u8 t) := (hb2.cell (by simp)).trans (by simp [go_sem])
  have d1 : w2.cell? ⟨w'.heap.size, 1, none⟩ = some (.int .u32 s) := (hb2.cell (by simp)).trans (by simp [go_sem])
  have d2 : w2.cell? ⟨w'.heap.size, 2, none⟩ = some (.slice (some ad) L P) := (hb2.cell (by simp)).trans (by simp [go_sem])
  have d3 : w2.cell? ⟨w'.heap.size, 3, none⟩ = some (.bool b1) := (hb2.cell (by simp)).trans (by simp [go_sem])
  have d4 : w2.cell? ⟨w'.heap.size, 4, none⟩ = some (.bool b2) := (hb2.cell (by simp)).trans (by simp [go_sem])
  clear ck
  replace hb2 : Hid True := trivial
  go_wp2_with fail
  refine (echo20 s k _).mono ?_
  rintro e w3 ⟨rfl, hw3⟩
  have h3 : Below w2.heap.size w2 w3 := by rw [hw3]; exact (Below.refl _ w2).alloc (Nat.le_refl _) _
  have he : ∀ j v, (echoC s k)[j]? = some v → w3.cell? ⟨w2.heap.size, j, none⟩ = some v := fun j v hv => by rw [hw3]; simp [go_sem, hv]
  have hs3 : w2.heap.size < w3.heap.size := by rw [hw3]; simp
  have hb3 := (hb.trans (hW2.mono hb.size)).trans (h3.mono (Nat.le_trans hb.size hW2.size))
  obtain ⟨-, ht⟩ := there43 _ w3 _ hb3 rfl
  obtain ⟨w4, hst, ⟨r0, r1, r2, r3, r4, r5, r6, r7, r8⟩, hb4, hcel⟩ := st43_run w3 _ (.int .u32 0) (.int .u8 0) (.slice none 0 0) (.bool false) (.bool false) (.int .u8 0) (.int .u64 0) (.int .i64 0) (.pointer none) (by simp [Value.oneCell']) ht
  simp only [World.size_alloc] at hst r0 r1 r2 r3 r4 r5 r6 r7 r8 hb4 hcel
  have hB4 : Below w.heap.size w w4 := ((hB.trans (hW2.mono hB.size)).trans (h3.mono (Nat.le_trans hB.size hW2.size))).trans (hb4 _ (by omega))
  have he4 : Hid (∀ j v, (echoC s k)[j]? = some v → w4.cell? ⟨w2.heap.size, j, none⟩ = some v) := fun j v hv => by
    rw [← he j v hv]
    exact hcel _ (by show w2.heap.size ≠ _; omega)
  have hs4 : w3.heap.size ≤ w4.heap.size := (hb4 _ (Nat.le_refl _)).size
  clear hb4 hcel ht hb3 hW2 hb hw3 he h3
  go_wp2
  try simp only [Exit.inBlock, Exit.then]
  refine bodyPost_ret (by simp [results, Tryf.results13, go_sem, r0, r1, r2, r3, r4, r5, r6, r7, r8]; try rfl) rfl ?_
  exact ⟨_, rfl, hB4, by omega, by omega, he4.out⟩
set_option maxRecDepth 100000 in
set_option maxHeartbeats 4000000 in
theorem read13_other (x : Option Addr) (n c L P : Nat) (k t s : Int) (b1 b2 : Bool) (Gd : Addr → Prop) (w : World) (ht2 : ¬ t = 2) (hP : Parses x n c t s b1 b2 L P Gd w) (hE : Echoes t s b1 b2 L P Gd false w) :
    Calls Tryf.prog 13 #[.agg #[], .slice x n c, .agg #[.int .u8 k, .int .u64 0, .int .i64 0, .pointer none]] w fun e w' => e = .returned (.tuple #[.slice none 0 0, .agg #[.int .u32 s, .int .u8 t, .slice x n c, .bool (decide (t = 95 ∨ t = 97 ∨ t = 99)), .bool false, .int .u8 0, .int .u64 0, .int .i64 0, .pointer none], .bool true]) ∧ Below w.heap.size w w' := by
  generalize htr : decide (t = 95 ∨ t = 97 ∨ t = 99) = tr
  replace htr : Hid (decide (t = 95 ∨ t = 97 ∨ t = 99) = tr) := htr
  have T21 : Hid (∀ w1 : World, Calls Tryf.prog 21 #[.int .u8 t] w1 fun e w' => e = .returned (.bool tr) ∧ w' = w1) := fun w1 => by
    have := trig21 t w1
    rwa [htr.out] at this
  replace hP : Hid (Parses x n c t s b1 b2 L P Gd w) := hP
  replace hE : Hid (Echoes t s b1 b2 L P Gd false w) := hE
  go_enter Tryf.func13, Tryf.ntmps13
  go_wp2_with fail
  refine (hP.out _ ?_).mono ?_
  · go_grown
  rintro e w' ⟨ad, hG, rfl, hb⟩
  clear hP
  have hB : Below w.heap.size w w' := Below.trans (by go_grown) (hb.mono (by simp; omega))
  have hs1 : w.heap.size + 3 ≤ w'.heap.size := by have := hb.size; simp at this; omega
  have ck : w'.cell? ⟨w.heap.size + 1, 0, none⟩ = some (.int .u8 k) := (hb.cell (by simp)).trans (by simp [go_sem])
  go_wp2_with fail
  refine (hE.out ad hG _ ?_).mono ?_
  · exact hB.alloc hB.size _
  rintro e w2 ⟨rfl, hb2⟩
  clear hE
  have hW2 : Below w'.heap.size w' w2 := ((Below.refl _ w').alloc (Nat.le_refl _) _).trans (hb2.mono (by simp))
  have hs2 : w'.heap.size + 1 ≤ w2.heap.size := by have := hb2.size; simp at this; omega
  have ck2 : w2.cell? ⟨w.heap.size + 1, 0, none⟩ = some (.int .u8 k) := (hW2.cell (by show w.heap.size + 1 < _; omega)).trans ck
  have d0 : w2.cell? ⟨w'.heap.size, 0, none⟩ = some (.int .u8 t) := (hb2.cell (by simp)).trans (by simp [go_sem])
  have d1 : w2.cell? ⟨w'.heap.size, 1, none⟩ = some (.int .u32 s) := (hb2.cell (by simp)).trans (by simp [go_sem])
  have d2 : w2.cell? ⟨w'.heap.size, 2, none⟩ = some (.slice (some ad) L P) := (hb2.cell (by simp)).trans (by simp [go_sem])
  have d3 : w2.cell? ⟨w'.heap.size, 3, none⟩ = some (.bool b1) := (hb2.cell (by simp)).trans (by simp [go_sem])
  have d4 : w2.cell? ⟨w'.heap.size, 4, none⟩ = some (.bool b2) := (hb2.cell (by simp)).trans (by simp [go_sem])
  clear ck
  replace hb2 : Hid True := trivial
  have hnew : (st43 w2.heap.size #[.int .u32 s, .int .u8 t, .slice x n c, .bool tr, .bool false, .int .u8 0, .int .u64 0, .int .i64 0, .pointer none]).run Tryf.prog (w2.alloc (.cells #[.int .u32 0, .int .u8 0, .slice none 0 0, .bool false, .bool false, .int .u8 0, .int .u64 0, .int .i64 0, .pointer none] 43)).drew
      = .ok () (w2.alloc (.cells #[.int .u32 s, .int .u8 t, .slice x n c, .bool tr, .bool false, .int .u8 0, .int .u64 0, .int .i64 0, .pointer none] 43)).drew := st43_new w2.drew _ _ _ _ _ _ _ _ _ _ _ _ _ _ _ _ _ _ (by simp [Value.oneCell'])
  go_wp2_with fail
  have hF5 : Hid (∀ w5 : World, w5 = (w2.alloc (.cells #[.int .u32 s, .int .u8 t, .slice x n c, .bool tr, .bool false, .int .u8 0, .int .u64 0, .int .i64 0, .pointer none] 43)).drew → Below w2.heap.size w2 w5 ∧ w5.cell? ⟨w'.heap.size, 0, none⟩ = some (.int .u8 t) ∧ w5.cell? ⟨w2.heap.size, 0, none⟩ = some (.int .u32 s) ∧ w5.cell? ⟨w2.heap.size, 1, none⟩ = some (.int .u8 t) ∧ w5.cell? ⟨w2.heap.size, 2, none⟩ = some (.slice x n c) ∧ w5.cell? ⟨w2.heap.size, 3, none⟩ = some (.bool tr) ∧ w5.cell? ⟨w2.heap.size, 4, none⟩ = some (.bool false) ∧ w5.cell? ⟨w2.heap.size, 5, none⟩ = some (.int .u8 0) ∧ w5.cell? ⟨w2.heap.size, 6, none⟩ = some (.int .u64 0) ∧ w5.cell? ⟨w2.heap.size, 7, none⟩ = some (.int .i64 0) ∧ w5.cell? ⟨w2.heap.size, 8, none⟩ = some (.pointer none)) := by
    intro w5 hw5
    have h5 : Below w2.heap.size w2 w5 := by rw [hw5]; exact ((Below.refl _ w2).alloc (Nat.le_refl _) _).drew
    refine ⟨h5, (h5.cell (by show w'.heap.size < _; omega)).trans d0, ?_⟩
    subst hw5
    simp [go_sem]
  have hlt2 : w'.heap.size < w2.heap.size := by omega
  have hne2 : ¬ w'.heap.size = w2.heap.size := by omega
  go_region_held3 (fun wx => wx.cell? ⟨w'.heap.size, 0, none⟩ = some (.int .u8 t) ∧ wx.cell? ⟨w'.heap.size, 1, none⟩ = some (.int .u32 s)) (go_keep) (first | (go_at_call 21; refine (T21.out _).mono ?_; rintro e w4 ⟨rfl, rfl⟩))
  all_goals
    (obtain ⟨w5, hw5⟩ : ∃ w5, w5 = (w2.alloc (.cells #[.int .u32 s, .int .u8 t, .slice x n c, .bool tr, .bool false, .int .u8 0, .int .u64 0, .int .i64 0, .pointer none] 43)).drew := ⟨_, rfl⟩
     rw [← hw5]
     obtain ⟨h5, g0, e0, e1, e2, e3, e4, e5, e6, e7, e8⟩ := hF5.out w5 hw5
     clear hw5)
  all_goals
    (have hb5 := (hb.trans (hW2.mono hb.size)).trans (h5.mono (Nat.le_trans hb.size hW2.size))
     have hB5 := (hB.trans (hW2.mono hB.size)).trans (h5.mono (Nat.le_trans hB.size hW2.size))
     obtain ⟨-, ht⟩ := there43 _ w5.drew _ hb5.drew rfl
     obtain ⟨w6, hst, ⟨r0, r1, r2, r3, r4, r5, r6, r7, r8⟩, hb6, -⟩ := st43_run w5.drew _ (.int .u32 s) (.int .u8 t) (.slice x n c) (.bool tr) (.bool false) (.int .u8 0) (.int .u64 0) (.int .i64 0) (.pointer none) (by simp [Value.oneCell']) ht
     simp only [World.size_alloc] at hst r0 r1 r2 r3 r4 r5 r6 r7 r8 hb6
     have hB6 : Below w.heap.size w w6 := hB5.drew.trans (hb6 _ (by omega))
     clear hb6 ht hb5 hB5 hW2 hb h5 hnew d0 d1 d2 d3 d4 ck2 hF5)
  all_goals go_wp2_with fail
  all_goals go_region
  all_goals go_wp2
  all_goals try simp only [Exit.inBlock, Exit.then]
  all_goals refine bodyPost_ret (by simp [results, Tryf.results13, go_sem, r0, r1, r2, r3, r4, r5, r6, r7, r8]; try rfl) rfl ?_
  all_goals exact ⟨rfl, hB6⟩
set_option maxRecDepth 100000 in
set_option maxHeartbeats 4000000 in
theorem read13_resp (x : Option Addr) (n c L P : Nat) (k s : Int) (b1 b2 : Bool) (Gd : Addr → Prop) (Out : Int → Bool → Prop) (w : World) (hP : Parses x n c 2 s b1 b2 L P Gd w) (hE : Echoes 2 s b1 b2 L P Gd false w)
    (hR : ∀ ad, Gd ad → ∀ w1 : World, Below w.heap.size w w1 → Calls Tryf.prog 22 #[.agg #[.int .u8 2, .int .u32 s, .slice (some ad) L P, .bool b1, .bool b2]] w1 fun e w' => ∃ (rc : Int) (r : Option Addr), e = .returned (.tuple #[.int .u8 rc, ev r]) ∧ Out rc r.isNone ∧ Below w1.heap.size w1 w') :
    Calls Tryf.prog 13 #[.agg #[], .slice x n c, .agg #[.int .u8 k, .int .u64 0, .int .i64 0, .pointer none]] w fun e w' => ∃ (rc : Int) (ok : Bool), e = .returned (.tuple #[.slice none 0 0, .agg #[.int .u32 s, .int .u8 2, .slice x n c, .bool false, .bool ok, .int .u8 rc, .int .u64 0, .int .i64 0, .pointer none], .bool true]) ∧ (Below w.heap.size w w' ∧ Out rc ok) := by
  obtain ⟨t, ht⟩ : ∃ t : Int, t = 2 := ⟨_, rfl⟩
  replace hR : Hid (∀ ad, Gd ad → ∀ w1 : World, Below w.heap.size w w1 → Calls Tryf.prog 22 #[.agg #[.int .u8 2, .int .u32 s, .slice (some ad) L P, .bool b1, .bool b2]] w1 fun e w' => ∃ (rc : Int) (r : Option Addr), e = .returned (.tuple #[.int .u8 rc, ev r]) ∧ Out rc r.isNone ∧ Below w1.heap.size w1 w') := hR
  have T21 : Hid (∀ w1 : World, Calls Tryf.prog 21 #[.int .u8 2] w1 fun e w' => e = .returned (.bool false) ∧ w' = w1) := fun w1 => trig21 2 w1
  replace hP : Hid (Parses x n c 2 s b1 b2 L P Gd w) := hP
  replace hE : Hid (Echoes 2 s b1 b2 L P Gd false w) := hE
  go_enter Tryf.func13, Tryf.ntmps13
  go_wp2_with fail
  refine (hP.out _ ?_).mono ?_
  · go_grown
  rintro e w' ⟨ad, hG, rfl, hb⟩
  clear hP
  have hB : Below w.heap.size w w' := Below.trans (by go_grown) (hb.mono (by simp; omega))
  have hs1 : w.heap.size + 3 ≤ w'.heap.size := by have := hb.size; simp at this; omega
  have ck : w'.cell? ⟨w.heap.size + 1, 0, none⟩ = some (.int .u8 k) := (hb.cell (by simp)).trans (by simp [go_sem])
  go_wp2_with fail
  refine (hE.out ad hG _ ?_).mono ?_
  · exact hB.alloc hB.size _
  rintro e w2 ⟨rfl, hb2⟩
  clear hE
  have hW2 : Below w'.heap.size w' w2 := ((Below.refl _ w').alloc (Nat.le_refl _) _).trans (hb2.mono (by simp))
  have hs2 : w'.heap.size + 1 ≤ w2.heap.size := by have := hb2.size; simp at this; omega
  have ck2 : w2.cell? ⟨w.heap.size + 1, 0, none⟩ = some (.int .u8 k) := (hW2.cell (by show w.heap.size + 1 < _; omega)).trans ck
  have d0 : w2.cell? ⟨w'.heap.size, 0, none⟩ = some (.int .u8 2) := (hb2.cell (by simp)).trans (by simp [go_sem])
  have d1 : w2.cell? ⟨w'.heap.size, 1, none⟩ = some (.int .u32 s) := (hb2.cell (by simp)).trans (by simp [go_sem])
  have d2 : w2.cell? ⟨w'.heap.size, 2, none⟩ = some (.slice (some ad) L P) := (hb2.cell (by simp)).trans (by simp [go_sem])
  have d3 : w2.cell? ⟨w'.heap.size, 3, none⟩ = some (.bool b1) := (hb2.cell (by simp)).trans (by simp [go_sem])
  have d4 : w2.cell? ⟨w'.heap.size, 4, none⟩ = some (.bool b2) := (hb2.cell (by simp)).trans (by simp [go_sem])
  clear ck
  replace hb2 : Hid True := trivial
  clear ht
  have hnew : (st43 w2.heap.size #[.int .u32 s, .int .u8 2, .slice x n c, .bool false, .bool false, .int .u8 0, .int .u64 0, .int .i64 0, .pointer none]).run Tryf.prog (w2.alloc (.cells #[.int .u32 0, .int .u8 0, .slice none 0 0, .bool false, .bool false, .int .u8 0, .int .u64 0, .int .i64 0, .pointer none] 43)).drew
      = .ok () (w2.alloc (.cells #[.int .u32 s, .int .u8 2, .slice x n c, .bool false, .bool false, .int .u8 0, .int .u64 0, .int .i64 0, .pointer none] 43)).drew := st43_new w2.drew _ _ _ _ _ _ _ _ _ _ _ _ _ _ _ _ _ _ (by simp [Value.oneCell'])
  go_wp2_with fail
  have hF5 : Hid (∀ w5 : World, w5 = (w2.alloc (.cells #[.int .u32 s, .int .u8 2, .slice x n c, .bool false, .bool false, .int .u8 0, .int .u64 0, .int .i64 0, .pointer none] 43)).drew → Below w2.heap.size w2 w5 ∧ w2.heap.size < w5.heap.size ∧ (∀ j, w5.frozen? ⟨w2.heap.size, j, none⟩ = false) ∧ w5.cell? ⟨w'.heap.size, 0, none⟩ = some (.int .u8 2) ∧ w5.cell? ⟨w'.heap.size, 1, none⟩ = some (.int .u32 s) ∧ w5.cell? ⟨w'.heap.size, 2, none⟩ = some (.slice (some ad) L P) ∧ w5.cell? ⟨w'.heap.size, 3, none⟩ = some (.bool b1) ∧ w5.cell? ⟨w'.heap.size, 4, none⟩ = some (.bool b2) ∧ w5.cell? ⟨w2.heap.size, 0, none⟩ = some (.int .u32 s) ∧ w5.cell? ⟨w2.heap.size, 1, none⟩ = some (.int .u8 2) ∧ w5.cell? ⟨w2.heap.size, 2, none⟩ = some (.slice x n c) ∧ w5.cell? ⟨w2.heap.size, 3, none⟩ = some (.bool false) ∧ w5.cell? ⟨w2.heap.size, 4, none⟩ = some (.bool false) ∧ w5.cell? ⟨w2.heap.size, 5, none⟩ = some (.int .u8 0) ∧ w5.cell? ⟨w2.heap.size, 6, none⟩ = some (.int .u64 0) ∧ w5.cell? ⟨w2.heap.size, 7, none⟩ = some (.int .i64 0) ∧ w5.cell? ⟨w2.heap.size, 8, none⟩ = some (.pointer none)) := by
    intro w5 hw5
    have h5 : Below w2.heap.size w2 w5 := by rw [hw5]; exact ((Below.refl _ w2).alloc (Nat.le_refl _) _).drew
    refine ⟨h5, by rw [hw5]; simp, fun j => by rw [hw5]; simp, (h5.cell (by show w'.heap.size < _; omega)).trans d0, (h5.cell (by show w'.heap.size < _; omega)).trans d1, (h5.cell (by show w'.heap.size < _; omega)).trans d2, (h5.cell (by show w'.heap.size < _; omega)).trans d3, (h5.cell (by show w'.heap.size < _; omega)).trans d4, ?_⟩
    subst hw5
    simp [go_sem]
  have hlt2 : w'.heap.size < w2.heap.size := by omega
  have hne2 : ¬ w'.heap.size = w2.heap.size := by omega
  go_region_held3 (fun wx => wx.cell? ⟨w'.heap.size, 0, none⟩ = some (.int .u8 2) ∧ wx.cell? ⟨w'.heap.size, 1, none⟩ = some (.int .u32 s)) (go_keep) (first | (go_at_call 21; refine (T21.out _).mono ?_; rintro e w4 ⟨rfl, rfl⟩))
  all_goals
    (obtain ⟨w5, hw5⟩ : ∃ w5, w5 = (w2.alloc (.cells #[.int .u32 s, .int .u8 2, .slice x n c, .bool false, .bool false, .int .u8 0, .int .u64 0, .int .i64 0, .pointer none] 43)).drew := ⟨_, rfl⟩
     rw [← hw5]
     obtain ⟨h5, hs5, z5, g0, g1, g2, g3, g4, e0, e1, e2, e3, e4, e5, e6, e7, e8⟩ := hF5.out w5 hw5
     replace z5 : Hid (∀ j, w5.frozen? ⟨w2.heap.size, j, none⟩ = false) := z5
     have hb5 := (hb.trans (hW2.mono hb.size)).trans (h5.mono (Nat.le_trans hb.size hW2.size))
     have hB5 := (hB.trans (hW2.mono hB.size)).trans (h5.mono (Nat.le_trans hB.size hW2.size))
     clear hw5 hnew d0 d1 d2 d3 d4 hF5)
  all_goals go_wp2_with fail
  all_goals
    (refine (hR.out ad hG _ hB5).mono ?_
     rintro e w7 ⟨rc, r, rfl, hO, hb7⟩
     replace hO : Hid (Out rc r.isNone) := hO
     clear g0 g1 g2 g3 g4
     replace e0 := (hb7.cell hs5).trans e0
     replace e1 := (hb7.cell hs5).trans e1
     replace e2 := (hb7.cell hs5).trans e2
     replace e3 := (hb7.cell hs5).trans e3
     replace e4 := (hb7.cell hs5).trans e4
     replace e5 := (hb7.cell hs5).trans e5
     replace e6 := (hb7.cell hs5).trans e6
     replace e7 := (hb7.cell hs5).trans e7
     replace e8 := (hb7.cell hs5).trans e8
     have z4 : w7.frozen? ⟨w2.heap.size, 4, none⟩ = false := (hb7.frozen hs5).trans (z5.out 4)
     have z5' : w7.frozen? ⟨w2.heap.size, 5, none⟩ = false := (hb7.frozen hs5).trans (z5.out 5)
     have hF8 : Hid (∀ w8 : World, w8 = (w7.setCell ⟨w2.heap.size, 4, none⟩ (.bool r.isNone)).setCell ⟨w2.heap.size, 5, none⟩ (.int .u8 rc) → Below w2.heap.size w7 w8 ∧ w8.cell? ⟨w2.heap.size, 0, none⟩ = some (.int .u32 s) ∧ w8.cell? ⟨w2.heap.size, 1, none⟩ = some (.int .u8 2) ∧ w8.cell? ⟨w2.heap.size, 2, none⟩ = some (.slice x n c) ∧ w8.cell? ⟨w2.heap.size, 3, none⟩ = some (.bool false) ∧ w8.cell? ⟨w2.heap.size, 4, none⟩ = some (.bool r.isNone) ∧ w8.cell? ⟨w2.heap.size, 5, none⟩ = some (.int .u8 rc) ∧ w8.cell? ⟨w2.heap.size, 6, none⟩ = some (.int .u64 0) ∧ w8.cell? ⟨w2.heap.size, 7, none⟩ = some (.int .i64 0) ∧ w8.cell? ⟨w2.heap.size, 8, none⟩ = some (.pointer none)) := by
       intro w8 hw8
       refine ⟨by rw [hw8]; exact ((Below.refl _ w7).setCell (p := ⟨w2.heap.size, 4, none⟩) (Nat.le_refl _) _).setCell (p := ⟨w2.heap.size, 5, none⟩) (Nat.le_refl _) _, ?_⟩
       subst hw8
       simp [go_sem, e0, e1, e2, e3, e4, e5, e6, e7, e8])
  all_goals cases r with
    | none =>
      simp only [ev, Option.isNone] at hF8 ⊢
      go_wp2_with fail
      obtain ⟨w8, hw8⟩ : ∃ w8, w8 = (w7.setCell ⟨w2.heap.size, 4, none⟩ (.bool true)).setCell ⟨w2.heap.size, 5, none⟩ (.int .u8 rc) := ⟨_, rfl⟩
      rw [← hw8]
      obtain ⟨h8, f0, f1, f2, f3, f4, f5, f6, f7, f8⟩ := hF8.out w8 hw8
      have h58 : Below w2.heap.size w5 w8 := (hb7.mono (Nat.le_of_lt hs5)).trans h8
      have hb8 := hb5.trans (h58.mono (Nat.le_trans hb.size hW2.size))
      have hB8 := hB5.trans (h58.mono (Nat.le_trans hB.size hW2.size))
      obtain ⟨-, hthere⟩ := there43 _ w8.drew _ hb8.drew rfl
      obtain ⟨w9, hst, ⟨r0, r1, r2, r3, r4, r5, r6, r7, r8⟩, hb9, -⟩ := st43_run w8.drew _ (.int .u32 s) (.int .u8 2) (.slice x n c) (.bool false) (.bool true) (.int .u8 rc) (.int .u64 0) (.int .i64 0) (.pointer none) (by simp [Value.oneCell']) hthere
      simp only [World.size_alloc] at hst r0 r1 r2 r3 r4 r5 r6 r7 r8 hb9
      have hB9 : Below w.heap.size w w9 := hB8.drew.trans (hb9 _ (by omega))
      clear hw8 hb9 hthere hb8 hB8 h58 h8 hF8 e0 e1 e2 e3 e4 e5 e6 e7 e8 z4 z5' hb7 hb5 hB5 h5 hb hW2 hR T21
      go_region
      go_wp2
      try simp only [Exit.inBlock, Exit.then]
      refine bodyPost_ret (by simp [results, Tryf.results13, go_sem, r0, r1, r2, r3, r4, r5, r6, r7, r8]; try rfl) rfl ?_
      exact ⟨rc, true, rfl, hB9, hO.out⟩
    | some N =>
      simp only [ev, Option.isNone] at hF8 ⊢
      go_wp2_with fail
      obtain ⟨w8, hw8⟩ : ∃ w8, w8 = (w7.setCell ⟨w2.heap.size, 4, none⟩ (.bool false)).setCell ⟨w2.heap.size, 5, none⟩ (.int .u8 rc) := ⟨_, rfl⟩
      rw [← hw8]
      obtain ⟨h8, f0, f1, f2, f3, f4, f5, f6, f7, f8⟩ := hF8.out w8 hw8
      have h58 : Below w2.heap.size w5 w8 := (hb7.mono (Nat.le_of_lt hs5)).trans h8
      have hb8 := hb5.trans (h58.mono (Nat.le_trans hb.size hW2.size))
      have hB8 := hB5.trans (h58.mono (Nat.le_trans hB.size hW2.size))
      obtain ⟨-, hthere⟩ := there43 _ w8.drew _ hb8.drew rfl
      obtain ⟨w9, hst, ⟨r0, r1, r2, r3, r4, r5, r6, r7, r8⟩, hb9, -⟩ := st43_run w8.drew _ (.int .u32 s) (.int .u8 2) (.slice x n c) (.bool false) (.bool false) (.int .u8 rc) (.int .u64 0) (.int .i64 0) (.pointer none) (by simp [Value.oneCell']) hthere
      simp only [World.size_alloc] at hst r0 r1 r2 r3 r4 r5 r6 r7 r8 hb9
      have hB9 : Below w.heap.size w w9 := hB8.drew.trans (hb9 _ (by omega))
      clear hw8 hb9 hthere hb8 hB8 h58 h8 hF8 e0 e1 e2 e3 e4 e5 e6 e7 e8 z4 z5' hb7 hb5 hB5 h5 hb hW2 hR T21
      go_region
      go_wp2
      try simp only [Exit.inBlock, Exit.then]
      refine bodyPost_ret (by simp [results, Tryf.results13, go_sem, r0, r1, r2, r3, r4, r5, r6, r7, r8]; try rfl) rfl ?_
      exact ⟨rc, false, rfl, hB9, hO.out⟩
end Go.Proofs.Qxb6615007aFmt
