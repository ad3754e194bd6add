/-
  Seat b6615007aF: the walk of FnGtpv2cReadAnswerReadsBack (3), by the kinds of datagram, over the contracts of its callees.
-/
import Derived.Test.Qxb6615007aFmtFirst
namespace Go.Proofs.Qxb6615007aFmt
open Go.RowKit

/-- The contracts, at the copy of the datagram (block B). -/
abbrev H7 (B n : Nat) (f : Nat → Int) (fr : Bool) (h E : Int) : Prop := ∀ w1 : World, Holds B n f w1 → Calls Tryf.prog 7 #[.slice (some ⟨B, 0, none⟩) n n] w1 fun e w' => e = .returned (.tuple #[.bool fr, .int .i64 h, .int .i64 E]) ∧ Below w1.heap.size w1 w'
abbrev H8 (B n : Nat) (f : Nat → Int) (wf : Bool) (h E : Int) : Prop := ∀ w1 : World, Holds B n f w1 → Calls Tryf.prog 8 #[.slice (some ⟨B, 0, none⟩) n n, .int .i64 h, .int .i64 E] w1 fun e w' => IesRet wf e ∧ Below w1.heap.size w1 w'
abbrev H9 (B n : Nat) (f : Nat → Int) (h s : Int) : Prop := ∀ w1 : World, Holds B n f w1 → Calls Tryf.prog 9 #[.slice (some ⟨B, 0, none⟩) n n, .int .i64 h] w1 fun e w' => e = .returned (.int .u32 s) ∧ Below w1.heap.size w1 w'
abbrev H10 (w : World) (B n : Nat) (f : Nat → Int) (k : Int) : Prop := ∀ w1 : World, Below w.heap.size w w1 → Holds B n f w1 → Calls Tryf.prog 10 #[.slice (some ⟨B, 0, none⟩) n n, .int .u8 k] w1 fun e w' => NilRet e ∧ Below w1.heap.size w1 w'

set_option maxRecDepth 100000 in
set_option maxHeartbeats 1000000 in
theorem walk3_long (a : Option Addr) (n c : Nat) (k k2 : Int) (w : World) (hn : ¬ n ≤ 1048576) (hm : (n : Int) ≤ 9223372036854775807) :
    Calls Tryf.prog 3 #[.slice a n c, .int .u8 k, .int .u8 k2] w fun e w' => e = .returned (.bool true) ∧ Below w.heap.size w w' := by
  have qs := qsl
  go_enter Tryf.func3, Tryf.ntmps3
  go_wp2_with fail
  refine (bytes5 a n c k k2 w hm).mono ?_
  rintro e w1 ⟨rfl, hw1⟩
  rw [hw1]
  clear hw1 w1
  rw [decide_eq_false hn]
  go_wp2
  go_ret
  exact ⟨rfl, Below.refl _ _⟩

set_option maxRecDepth 100000 in
set_option maxHeartbeats 1000000 in
theorem walk3_short (a x : Option Addr) (n c cc : Nat) (k k2 : Int) (w : World) (hn : (n : Int) < 8) (h6 : Calls Tryf.prog 6 #[.slice a n c] w fun e w' => e = .returned (.slice x n cc) ∧ Below w.heap.size w w')
    (h10 : ∀ w1 : World, Below w.heap.size w w1 → Calls Tryf.prog 10 #[.slice x n cc, .int .u8 k] w1 fun e w' => NilRet e ∧ Below w1.heap.size w1 w') :
    Calls Tryf.prog 3 #[.slice a n c, .int .u8 k, .int .u8 k2] w fun e w' => e = .returned (.bool true) ∧ Below w.heap.size w w' := by
  replace h6 : Hid (Calls Tryf.prog 6 #[.slice a n c] w fun e w' => e = .returned (.slice x n cc) ∧ Below w.heap.size w w') := h6
  replace h10 : Hid (∀ w1 : World, Below w.heap.size w w1 → Calls Tryf.prog 10 #[.slice x n cc, .int .u8 k] w1 fun e w' => NilRet e ∧ Below w1.heap.size w1 w') := h10
  have dn : decide ((8 : Int) ≤ n) = false := decide_eq_false (by omega)
  have g20 : ¬ (1048576 : Int) < n := by omega
  have qs := qsl
  go_enter Tryf.func3, Tryf.ntmps3
  go_wp2_with fail
  refine (bytes5 a n c k k2 w (by omega)).mono ?_
  rintro e w1 ⟨rfl, hw1⟩
  rw [hw1]
  clear hw1 w1
  rw [decide_eq_true (by omega : n ≤ 1048576)]
  go_wp2_with fail
  refine h6.out.mono ?_
  rintro e w2 ⟨rfl, hB2⟩
  go_wp2_with fail
  refine (frame7_short x n cc _ hn).mono ?_
  rintro e w3 ⟨rfl, rfl⟩
  go_wp2_with fail
  refine (h10.out _ hB2).mono ?_
  rintro e w4 ⟨⟨seq, typ, rc, d, nd, cd, tr, er, ok, rfl⟩, hB4⟩
  have hB := hB2.trans (hB4.mono hB2.size)
  go_wp2
  go_ret
  exact ⟨rfl, hB⟩

set_option maxRecDepth 100000 in
set_option maxHeartbeats 4000000 in
theorem walk3_A (ad : Addr) (Ab o n c : Nat) (f : Nat → Int) (k k2 h E : Int) (w : World) (hn : n ≤ 1048576) (hn8 : (8 : Int) ≤ n) (had : n = 0 ∨ (ad = ⟨Ab, o, none⟩ ∧ Ab < w.heap.size)) (hc : ∀ i, i < n → w.cell? ⟨Ab, o + i, none⟩ = some (.int .u8 (f i)))
    (dv2 : (f 0 / 32 != 2) = true) (dv1 : (f 0 / 32 != 1) = false) (h7 : H7 w.heap.size n f false h E) (h10 : H10 w w.heap.size n f k) :
    Calls Tryf.prog 3 #[.slice (some ad) n c, .int .u8 k, .int .u8 k2] w fun e w' => e = .returned (.bool true) ∧ Below w.heap.size w w' := by
  replace h7 : Hid (H7 w.heap.size n f false h E) := h7
  replace h10 : Hid (H10 w w.heap.size n f k) := h10
  have W6 : Hid (Calls Tryf.prog 6 #[.slice (some ad) n c] w fun e w' => e = .returned (.slice (some ⟨w.heap.size, 0, none⟩) n n) ∧ Below w.heap.size w w' ∧ w.heap.size < w'.heap.size ∧ ∀ i, i < n → w'.cell? ⟨w.heap.size, i, none⟩ = some (.int .u8 (f i))) := clone6 ad Ab o n c f w hn had hc
  clear had hc
  have g20 : ¬ (1048576 : Int) < n := by omega
  have dn : decide ((8 : Int) ≤ n) = true := decide_eq_true hn8
  have n0 : (0 : Int) < n := by omega
  have n1 : (1 : Int) < n := by omega
  have n8 : ¬ (n : Int) < 8 := by omega
  have qs := qsl
  go_enter Tryf.func3, Tryf.ntmps3
  go_wp2_with fail
  refine (bytes5 (some ad) n c k k2 w (by omega)).mono ?_
  rintro e w1 ⟨rfl, hw1⟩
  rw [hw1]
  clear hw1 w1
  rw [decide_eq_true hn]
  go_wp2_with fail
  refine W6.out.mono ?_
  rintro e w2 ⟨rfl, hB2, hs2, hc2⟩
  have hH2 : Holds w.heap.size n f w2 := ⟨hs2, hc2⟩
  have c0 := hc2 0 (by omega)
  have c1 := hc2 1 (by omega)
  clear hc2 W6
  go_wp2_with fail
  refine (h7.out _ hH2).mono ?_
  rintro e w3 ⟨rfl, hb3⟩
  have hH3 := hH2.later hb3
  have hB3 := hB2.trans (hb3.mono hB2.size)
  replace c0 := hH3.2 0 (by omega)
  replace c1 := hH3.2 1 (by omega)
  clear hb3 hH2 hB2 hs2
  go_wp2_with fail
  refine (h10.out _ hB3 hH3).mono ?_
  rintro e w9 ⟨⟨seq, typ, rc, d, nd, cd, tr, er, ok, rfl⟩, hB9⟩
  have hB := hB3.trans (hB9.mono hB3.size)
  go_wp2
  go_ret
  exact ⟨rfl, hB⟩

set_option maxRecDepth 100000 in
set_option maxHeartbeats 4000000 in
theorem walk3_B (ad : Addr) (Ab o n c : Nat) (f : Nat → Int) (k k2 h E : Int) (w : World) (hn : n ≤ 1048576) (hn8 : (8 : Int) ≤ n) (had : n = 0 ∨ (ad = ⟨Ab, o, none⟩ ∧ Ab < w.heap.size)) (hc : ∀ i, i < n → w.cell? ⟨Ab, o + i, none⟩ = some (.int .u8 (f i)))
    (dv2 : (f 0 / 32 != 2) = true) (dv1 : (f 0 / 32 != 1) = true) (d3 : (f 1 != 3) = false) (h7 : H7 w.heap.size n f false h E) (h10 : H10 w w.heap.size n f k) :
    Calls Tryf.prog 3 #[.slice (some ad) n c, .int .u8 k, .int .u8 k2] w fun e w' => e = .returned (.bool true) ∧ Below w.heap.size w w' := by
  replace h7 : Hid (H7 w.heap.size n f false h E) := h7
  replace h10 : Hid (H10 w w.heap.size n f k) := h10
  have W6 : Hid (Calls Tryf.prog 6 #[.slice (some ad) n c] w fun e w' => e = .returned (.slice (some ⟨w.heap.size, 0, none⟩) n n) ∧ Below w.heap.size w w' ∧ w.heap.size < w'.heap.size ∧ ∀ i, i < n → w'.cell? ⟨w.heap.size, i, none⟩ = some (.int .u8 (f i))) := clone6 ad Ab o n c f w hn had hc
  clear had hc
  have g20 : ¬ (1048576 : Int) < n := by omega
  have dn : decide ((8 : Int) ≤ n) = true := decide_eq_true hn8
  have n0 : (0 : Int) < n := by omega
  have n1 : (1 : Int) < n := by omega
  have n8 : ¬ (n : Int) < 8 := by omega
  have qs := qsl
  go_enter Tryf.func3, Tryf.ntmps3
  go_wp2_with fail
  refine (bytes5 (some ad) n c k k2 w (by omega)).mono ?_
  rintro e w1 ⟨rfl, hw1⟩
  rw [hw1]
  clear hw1 w1
  rw [decide_eq_true hn]
  go_wp2_with fail
  refine W6.out.mono ?_
  rintro e w2 ⟨rfl, hB2, hs2, hc2⟩
  have hH2 : Holds w.heap.size n f w2 := ⟨hs2, hc2⟩
  have c0 := hc2 0 (by omega)
  have c1 := hc2 1 (by omega)
  clear hc2 W6
  go_wp2_with fail
  refine (h7.out _ hH2).mono ?_
  rintro e w3 ⟨rfl, hb3⟩
  have hH3 := hH2.later hb3
  have hB3 := hB2.trans (hb3.mono hB2.size)
  replace c0 := hH3.2 0 (by omega)
  replace c1 := hH3.2 1 (by omega)
  clear hb3 hH2 hB2 hs2
  go_wp2_with fail
  refine (h10.out _ hB3 hH3).mono ?_
  rintro e w9 ⟨⟨seq, typ, rc, d, nd, cd, tr, er, ok, rfl⟩, hB9⟩
  have hB := hB3.trans (hB9.mono hB3.size)
  go_wp2
  go_ret
  exact ⟨rfl, hB⟩

set_option maxRecDepth 100000 in
set_option maxHeartbeats 4000000 in
theorem walk3_C (ad : Addr) (Ab o n c : Nat) (f : Nat → Int) (k k2 h E : Int) (w : World) (hn : n ≤ 1048576) (hn8 : (8 : Int) ≤ n) (had : n = 0 ∨ (ad = ⟨Ab, o, none⟩ ∧ Ab < w.heap.size)) (hc : ∀ i, i < n → w.cell? ⟨Ab, o + i, none⟩ = some (.int .u8 (f i)))
    (dv2 : (f 0 / 32 != 2) = false) (h7 : H7 w.heap.size n f false h E) (h10 : H10 w w.heap.size n f k) :
    Calls Tryf.prog 3 #[.slice (some ad) n c, .int .u8 k, .int .u8 k2] w fun e w' => e = .returned (.bool true) ∧ Below w.heap.size w w' := by
  replace h7 : Hid (H7 w.heap.size n f false h E) := h7
  replace h10 : Hid (H10 w w.heap.size n f k) := h10
  have W6 : Hid (Calls Tryf.prog 6 #[.slice (some ad) n c] w fun e w' => e = .returned (.slice (some ⟨w.heap.size, 0, none⟩) n n) ∧ Below w.heap.size w w' ∧ w.heap.size < w'.heap.size ∧ ∀ i, i < n → w'.cell? ⟨w.heap.size, i, none⟩ = some (.int .u8 (f i))) := clone6 ad Ab o n c f w hn had hc
  clear had hc
  have g20 : ¬ (1048576 : Int) < n := by omega
  have dn : decide ((8 : Int) ≤ n) = true := decide_eq_true hn8
  have n0 : (0 : Int) < n := by omega
  have n1 : (1 : Int) < n := by omega
  have n8 : ¬ (n : Int) < 8 := by omega
  have qs := qsl
  go_enter Tryf.func3, Tryf.ntmps3
  go_wp2_with fail
  refine (bytes5 (some ad) n c k k2 w (by omega)).mono ?_
  rintro e w1 ⟨rfl, hw1⟩
  rw [hw1]
  clear hw1 w1
  rw [decide_eq_true hn]
  go_wp2_with fail
  refine W6.out.mono ?_
  rintro e w2 ⟨rfl, hB2, hs2, hc2⟩
  have hH2 : Holds w.heap.size n f w2 := ⟨hs2, hc2⟩
  have c0 := hc2 0 (by omega)
  have c1 := hc2 1 (by omega)
  clear hc2 W6
  go_wp2_with fail
  refine (h7.out _ hH2).mono ?_
  rintro e w3 ⟨rfl, hb3⟩
  have hH3 := hH2.later hb3
  have hB3 := hB2.trans (hb3.mono hB2.size)
  replace c0 := hH3.2 0 (by omega)
  replace c1 := hH3.2 1 (by omega)
  clear hb3 hH2 hB2 hs2
  go_wp2_with fail
  refine (h10.out _ hB3 hH3).mono ?_
  rintro e w9 ⟨⟨seq, typ, rc, d, nd, cd, tr, er, ok, rfl⟩, hB9⟩
  have hB := hB3.trans (hB9.mono hB3.size)
  go_wp2
  go_ret
  exact ⟨rfl, hB⟩

set_option maxRecDepth 100000 in
set_option maxHeartbeats 4000000 in
theorem walk3_D (ad : Addr) (Ab o n c : Nat) (f : Nat → Int) (k k2 h E : Int) (w : World) (hn : n ≤ 1048576) (hn8 : (8 : Int) ≤ n) (had : n = 0 ∨ (ad = ⟨Ab, o, none⟩ ∧ Ab < w.heap.size)) (hc : ∀ i, i < n → w.cell? ⟨Ab, o + i, none⟩ = some (.int .u8 (f i)))
    (dv2 : (f 0 / 32 != 2) = false) (q1 : (f 1 == 1) = false) (h7 : H7 w.heap.size n f true h E) (h10 : H10 w w.heap.size n f k) :
    Calls Tryf.prog 3 #[.slice (some ad) n c, .int .u8 k, .int .u8 k2] w fun e w' => e = .returned (.bool true) ∧ Below w.heap.size w w' := by
  replace h7 : Hid (H7 w.heap.size n f true h E) := h7
  replace h10 : Hid (H10 w w.heap.size n f k) := h10
  have W6 : Hid (Calls Tryf.prog 6 #[.slice (some ad) n c] w fun e w' => e = .returned (.slice (some ⟨w.heap.size, 0, none⟩) n n) ∧ Below w.heap.size w w' ∧ w.heap.size < w'.heap.size ∧ ∀ i, i < n → w'.cell? ⟨w.heap.size, i, none⟩ = some (.int .u8 (f i))) := clone6 ad Ab o n c f w hn had hc
  clear had hc
  have g20 : ¬ (1048576 : Int) < n := by omega
  have dn : decide ((8 : Int) ≤ n) = true := decide_eq_true hn8
  have n0 : (0 : Int) < n := by omega
  have n1 : (1 : Int) < n := by omega
  have n8 : ¬ (n : Int) < 8 := by omega
  have qs := qsl
  go_enter Tryf.func3, Tryf.ntmps3
  go_wp2_with fail
  refine (bytes5 (some ad) n c k k2 w (by omega)).mono ?_
  rintro e w1 ⟨rfl, hw1⟩
  rw [hw1]
  clear hw1 w1
  rw [decide_eq_true hn]
  go_wp2_with fail
  refine W6.out.mono ?_
  rintro e w2 ⟨rfl, hB2, hs2, hc2⟩
  have hH2 : Holds w.heap.size n f w2 := ⟨hs2, hc2⟩
  have c0 := hc2 0 (by omega)
  have c1 := hc2 1 (by omega)
  clear hc2 W6
  go_wp2_with fail
  refine (h7.out _ hH2).mono ?_
  rintro e w3 ⟨rfl, hb3⟩
  have hH3 := hH2.later hb3
  have hB3 := hB2.trans (hb3.mono hB2.size)
  replace c0 := hH3.2 0 (by omega)
  replace c1 := hH3.2 1 (by omega)
  clear hb3 hH2 hB2 hs2
  go_wp2_with fail
  refine (h10.out _ hB3 hH3).mono ?_
  rintro e w9 ⟨⟨seq, typ, rc, d, nd, cd, tr, er, ok, rfl⟩, hB9⟩
  have hB := hB3.trans (hB9.mono hB3.size)
  go_wp2
  go_ret
  exact ⟨rfl, hB⟩

set_option maxRecDepth 100000 in
set_option maxHeartbeats 4000000 in
theorem walk3_E (ad : Addr) (Ab o n c : Nat) (f : Nat → Int) (k k2 h E : Int) (w : World) (hn : n ≤ 1048576) (hn8 : (8 : Int) ≤ n) (had : n = 0 ∨ (ad = ⟨Ab, o, none⟩ ∧ Ab < w.heap.size)) (hc : ∀ i, i < n → w.cell? ⟨Ab, o + i, none⟩ = some (.int .u8 (f i)))
    (dv2 : (f 0 / 32 != 2) = false) (q1 : (f 1 == 1) = true) (q24 : (bits .and .u8 (f 0) 24 == 0) = false) (h7 : H7 w.heap.size n f true h E) (h10 : H10 w w.heap.size n f k) :
    Calls Tryf.prog 3 #[.slice (some ad) n c, .int .u8 k, .int .u8 k2] w fun e w' => e = .returned (.bool true) ∧ Below w.heap.size w w' := by
  replace h7 : Hid (H7 w.heap.size n f true h E) := h7
  replace h10 : Hid (H10 w w.heap.size n f k) := h10
  have W6 : Hid (Calls Tryf.prog 6 #[.slice (some ad) n c] w fun e w' => e = .returned (.slice (some ⟨w.heap.size, 0, none⟩) n n) ∧ Below w.heap.size w w' ∧ w.heap.size < w'.heap.size ∧ ∀ i, i < n → w'.cell? ⟨w.heap.size, i, none⟩ = some (.int .u8 (f i))) := clone6 ad Ab o n c f w hn had hc
  clear had hc
  have g20 : ¬ (1048576 : Int) < n := by omega
  have dn : decide ((8 : Int) ≤ n) = true := decide_eq_true hn8
  have n0 : (0 : Int) < n := by omega
  have n1 : (1 : Int) < n := by omega
  have n8 : ¬ (n : Int) < 8 := by omega
  have qs := qsl
  go_enter Tryf.func3, Tryf.ntmps3
  go_wp2_with fail
  refine (bytes5 (some ad) n c k k2 w (by omega)).mono ?_
  rintro e w1 ⟨rfl, hw1⟩
  rw [hw1]
  clear hw1 w1
  rw [decide_eq_true hn]
  go_wp2_with fail
  refine W6.out.mono ?_
  rintro e w2 ⟨rfl, hB2, hs2, hc2⟩
  have hH2 : Holds w.heap.size n f w2 := ⟨hs2, hc2⟩
  have c0 := hc2 0 (by omega)
  have c1 := hc2 1 (by omega)
  clear hc2 W6
  go_wp2_with fail
  refine (h7.out _ hH2).mono ?_
  rintro e w3 ⟨rfl, hb3⟩
  have hH3 := hH2.later hb3
  have hB3 := hB2.trans (hb3.mono hB2.size)
  replace c0 := hH3.2 0 (by omega)
  replace c1 := hH3.2 1 (by omega)
  clear hb3 hH2 hB2 hs2
  go_wp2_with fail
  refine (h10.out _ hB3 hH3).mono ?_
  rintro e w9 ⟨⟨seq, typ, rc, d, nd, cd, tr, er, ok, rfl⟩, hB9⟩
  have hB := hB3.trans (hB9.mono hB3.size)
  go_wp2
  go_ret
  exact ⟨rfl, hB⟩

set_option maxRecDepth 100000 in
set_option maxHeartbeats 4000000 in
theorem walk3_G (ad : Addr) (Ab o n c : Nat) (f : Nat → Int) (k k2 h E s : Int) (w : World) (hn : n ≤ 1048576) (hn8 : (8 : Int) ≤ n) (had : n = 0 ∨ (ad = ⟨Ab, o, none⟩ ∧ Ab < w.heap.size)) (hc : ∀ i, i < n → w.cell? ⟨Ab, o + i, none⟩ = some (.int .u8 (f i)))
    (dv2 : (f 0 / 32 != 2) = false) (q1 : (f 1 == 1) = true) (q24 : (bits .and .u8 (f 0) 24 == 0) = true) (h7 : H7 w.heap.size n f true h E) (h8 : H8 w.heap.size n f false h E) (h9 : H9 w.heap.size n f h s) (h10 : H10 w w.heap.size n f k) :
    Calls Tryf.prog 3 #[.slice (some ad) n c, .int .u8 k, .int .u8 k2] w fun e w' => e = .returned (.bool true) ∧ Below w.heap.size w w' := by
  replace h7 : Hid (H7 w.heap.size n f true h E) := h7
  replace h8 : Hid (H8 w.heap.size n f false h E) := h8
  replace h9 : Hid (H9 w.heap.size n f h s) := h9
  replace h10 : Hid (H10 w w.heap.size n f k) := h10
  have W6 : Hid (Calls Tryf.prog 6 #[.slice (some ad) n c] w fun e w' => e = .returned (.slice (some ⟨w.heap.size, 0, none⟩) n n) ∧ Below w.heap.size w w' ∧ w.heap.size < w'.heap.size ∧ ∀ i, i < n → w'.cell? ⟨w.heap.size, i, none⟩ = some (.int .u8 (f i))) := clone6 ad Ab o n c f w hn had hc
  clear had hc
  have g20 : ¬ (1048576 : Int) < n := by omega
  have dn : decide ((8 : Int) ≤ n) = true := decide_eq_true hn8
  have n0 : (0 : Int) < n := by omega
  have n1 : (1 : Int) < n := by omega
  have n8 : ¬ (n : Int) < 8 := by omega
  have qs := qsl
  go_enter Tryf.func3, Tryf.ntmps3
  go_wp2_with fail
  refine (bytes5 (some ad) n c k k2 w (by omega)).mono ?_
  rintro e w1 ⟨rfl, hw1⟩
  rw [hw1]
  clear hw1 w1
  rw [decide_eq_true hn]
  go_wp2_with fail
  refine W6.out.mono ?_
  rintro e w2 ⟨rfl, hB2, hs2, hc2⟩
  have hH2 : Holds w.heap.size n f w2 := ⟨hs2, hc2⟩
  have c0 := hc2 0 (by omega)
  have c1 := hc2 1 (by omega)
  clear hc2 W6
  go_wp2_with fail
  refine (h7.out _ hH2).mono ?_
  rintro e w3 ⟨rfl, hb3⟩
  have hH3 := hH2.later hb3
  have hB3 := hB2.trans (hb3.mono hB2.size)
  replace c0 := hH3.2 0 (by omega)
  replace c1 := hH3.2 1 (by omega)
  clear hb3 hH2 hB2 hs2
  go_wp2_with fail
  refine (h8.out _ hH3).mono ?_
  rintro e w4 ⟨⟨x0, y0, z0, rfl⟩, hb4⟩
  have hH4 := hH3.later hb4
  have hB4 := hB3.trans (hb4.mono hB3.size)
  clear hb4
  go_wp2_with fail
  refine (h9.out _ hH4).mono ?_
  rintro e w5 ⟨rfl, hb5⟩
  have hH5 := hH4.later hb5
  have hB5 := hB4.trans (hb5.mono hB4.size)
  clear hb5
  go_wp2_with fail
  refine (h10.out _ hB5 hH5).mono ?_
  rintro e w9 ⟨⟨seq, typ, rc, d, nd, cd, tr, er, ok, rfl⟩, hB9⟩
  have hB := hB5.trans (hB9.mono hB5.size)
  go_wp2
  go_ret
  exact ⟨rfl, hB⟩

set_option maxRecDepth 100000 in
set_option maxHeartbeats 4000000 in
theorem walk3_H (ad : Addr) (Ab o n c : Nat) (f : Nat → Int) (k k2 h E s : Int) (g : Nat → Int) (w : World) (hn : n ≤ 1048576) (hn8 : (8 : Int) ≤ n) (had : n = 0 ∨ (ad = ⟨Ab, o, none⟩ ∧ Ab < w.heap.size)) (hc : ∀ i, i < n → w.cell? ⟨Ab, o + i, none⟩ = some (.int .u8 (f i)))
    (dv2 : (f 0 / 32 != 2) = false) (q1 : (f 1 == 1) = true) (q24 : (bits .and .u8 (f 0) 24 == 0) = true) (h7 : H7 w.heap.size n f true h E) (h8 : H8 w.heap.size n f true h E) (h9 : H9 w.heap.size n f h s) (h10 : ∀ w1 : World, Below w.heap.size w w1 → Holds w.heap.size n f w1 → Calls Tryf.prog 10 #[.slice (some ⟨w.heap.size, 0, none⟩) n n, .int .u8 k] w1 fun e w' => ∃ N, e = .returned (.tuple #[.slice (some ⟨N, 0, none⟩) 13 13, .int .u32 0, .int .u8 0, .slice none 0 0, .bool false, .bool false, .int .u8 0, .bool true, .bool false]) ∧ Below w1.heap.size w1 w' ∧ Holds N 13 g w')
    (h10b : ∀ (N : Nat) (w1 : World), Below w.heap.size w w1 → Holds N 13 g w1 → Calls Tryf.prog 10 #[.slice (some ⟨N, 0, none⟩) 13 13, .int .u8 k2] w1 fun e w' => e = .returned (.tuple #[.slice none 0 0, .int .u32 s, .int .u8 2, .slice (some ⟨N, 0, none⟩) 13 13, .bool false, .bool true, .int .u8 k, .bool true, .bool true]) ∧ Below w1.heap.size w1 w') :
    Calls Tryf.prog 3 #[.slice (some ad) n c, .int .u8 k, .int .u8 k2] w fun e w' => e = .returned (.bool true) ∧ Below w.heap.size w w' := by
  replace h7 : Hid (H7 w.heap.size n f true h E) := h7
  replace h8 : Hid (H8 w.heap.size n f true h E) := h8
  replace h9 : Hid (H9 w.heap.size n f h s) := h9
  replace h10 : Hid (∀ w1 : World, Below w.heap.size w w1 → Holds w.heap.size n f w1 → Calls Tryf.prog 10 #[.slice (some ⟨w.heap.size, 0, none⟩) n n, .int .u8 k] w1 fun e w' => ∃ N, e = .returned (.tuple #[.slice (some ⟨N, 0, none⟩) 13 13, .int .u32 0, .int .u8 0, .slice none 0 0, .bool false, .bool false, .int .u8 0, .bool true, .bool false]) ∧ Below w1.heap.size w1 w' ∧ Holds N 13 g w') := h10
  replace h10b : Hid (∀ (N : Nat) (w1 : World), Below w.heap.size w w1 → Holds N 13 g w1 → Calls Tryf.prog 10 #[.slice (some ⟨N, 0, none⟩) 13 13, .int .u8 k2] w1 fun e w' => e = .returned (.tuple #[.slice none 0 0, .int .u32 s, .int .u8 2, .slice (some ⟨N, 0, none⟩) 13 13, .bool false, .bool true, .int .u8 k, .bool true, .bool true]) ∧ Below w1.heap.size w1 w') := h10b
  have W6 : Hid (Calls Tryf.prog 6 #[.slice (some ad) n c] w fun e w' => e = .returned (.slice (some ⟨w.heap.size, 0, none⟩) n n) ∧ Below w.heap.size w w' ∧ w.heap.size < w'.heap.size ∧ ∀ i, i < n → w'.cell? ⟨w.heap.size, i, none⟩ = some (.int .u8 (f i))) := clone6 ad Ab o n c f w hn had hc
  clear had hc
  have g20 : ¬ (1048576 : Int) < n := by omega
  have dn : decide ((8 : Int) ≤ n) = true := decide_eq_true hn8
  have n0 : (0 : Int) < n := by omega
  have n1 : (1 : Int) < n := by omega
  have n8 : ¬ (n : Int) < 8 := by omega
  have qs := qsl
  go_enter Tryf.func3, Tryf.ntmps3
  go_wp2_with fail
  refine (bytes5 (some ad) n c k k2 w (by omega)).mono ?_
  rintro e w1 ⟨rfl, hw1⟩
  rw [hw1]
  clear hw1 w1
  rw [decide_eq_true hn]
  go_wp2_with fail
  refine W6.out.mono ?_
  rintro e w2 ⟨rfl, hB2, hs2, hc2⟩
  have hH2 : Holds w.heap.size n f w2 := ⟨hs2, hc2⟩
  have c0 := hc2 0 (by omega)
  have c1 := hc2 1 (by omega)
  clear hc2 W6
  go_wp2_with fail
  refine (h7.out _ hH2).mono ?_
  rintro e w3 ⟨rfl, hb3⟩
  have hH3 := hH2.later hb3
  have hB3 := hB2.trans (hb3.mono hB2.size)
  replace c0 := hH3.2 0 (by omega)
  replace c1 := hH3.2 1 (by omega)
  clear hb3 hH2 hB2 hs2
  go_wp2_with fail
  refine (h8.out _ hH3).mono ?_
  rintro e w4 ⟨⟨x0, y0, z0, rfl⟩, hb4⟩
  have hH4 := hH3.later hb4
  have hB4 := hB3.trans (hb4.mono hB3.size)
  clear hb4
  go_wp2_with fail
  refine (h9.out _ hH4).mono ?_
  rintro e w5 ⟨rfl, hb5⟩
  have hH5 := hH4.later hb5
  have hB5 := hB4.trans (hb5.mono hB4.size)
  clear hb5
  go_wp2_with fail
  refine (h10.out _ hB5 hH5).mono ?_
  rintro e w6 ⟨N, rfl, hb6, hN6⟩
  have hB6 := hB5.trans (hb6.mono hB5.size)
  clear hb6
  go_wp2_with fail
  refine (h10b.out N _ hB6 hN6).mono ?_
  rintro e w7 ⟨rfl, hb7⟩
  have hN7 := hN6.later hb7
  have hB7 := hB6.trans (hb7.mono hB6.size)
  clear hb7
  go_wp2_with fail
  refine (same11 N 13 13 g _ (by decide) hN7.1 hN7.2).mono ?_
  rintro e w8 ⟨rfl, hb8⟩
  have hB8 := hB7.trans (hb8.mono hB7.size)
  go_wp2
  go_ret
  exact ⟨by simp, hB8⟩

set_option maxRecDepth 100000 in
set_option maxHeartbeats 4000000 in
theorem walk3_I (ad : Addr) (Ab o n c : Nat) (f : Nat → Int) (k k2 h E : Int) (g : Nat → Int) (w : World) (hn : n ≤ 1048576) (hn8 : (8 : Int) ≤ n) (had : n = 0 ∨ (ad = ⟨Ab, o, none⟩ ∧ Ab < w.heap.size)) (hc : ∀ i, i < n → w.cell? ⟨Ab, o + i, none⟩ = some (.int .u8 (f i)))
    (dv2 : (f 0 / 32 != 2) = true) (dv1 : (f 0 / 32 != 1) = true) (d3 : (f 1 != 3) = true) (h7 : H7 w.heap.size n f false h E) (h10 : ∀ w1 : World, Below w.heap.size w w1 → Holds w.heap.size n f w1 → Calls Tryf.prog 10 #[.slice (some ⟨w.heap.size, 0, none⟩) n n, .int .u8 k] w1 fun e w' => ∃ N, e = .returned (.tuple #[.slice (some ⟨N, 0, none⟩) 8 8, .int .u32 0, .int .u8 0, .slice none 0 0, .bool false, .bool false, .int .u8 0, .bool true, .bool false]) ∧ Below w1.heap.size w1 w' ∧ Holds N 8 g w')
    (h10b : ∀ (N : Nat) (w1 : World), Below w.heap.size w w1 → Holds N 8 g w1 → Calls Tryf.prog 10 #[.slice (some ⟨N, 0, none⟩) 8 8, .int .u8 k2] w1 fun e w' => e = .returned (.tuple #[.slice none 0 0, .int .u32 0, .int .u8 3, .slice (some ⟨N, 0, none⟩) 8 8, .bool false, .bool false, .int .u8 0, .bool true, .bool true]) ∧ Below w1.heap.size w1 w') :
    Calls Tryf.prog 3 #[.slice (some ad) n c, .int .u8 k, .int .u8 k2] w fun e w' => e = .returned (.bool true) ∧ Below w.heap.size w w' := by
  replace h7 : Hid (H7 w.heap.size n f false h E) := h7
  replace h10 : Hid (∀ w1 : World, Below w.heap.size w w1 → Holds w.heap.size n f w1 → Calls Tryf.prog 10 #[.slice (some ⟨w.heap.size, 0, none⟩) n n, .int .u8 k] w1 fun e w' => ∃ N, e = .returned (.tuple #[.slice (some ⟨N, 0, none⟩) 8 8, .int .u32 0, .int .u8 0, .slice none 0 0, .bool false, .bool false, .int .u8 0, .bool true, .bool false]) ∧ Below w1.heap.size w1 w' ∧ Holds N 8 g w') := h10
  replace h10b : Hid (∀ (N : Nat) (w1 : World), Below w.heap.size w w1 → Holds N 8 g w1 → Calls Tryf.prog 10 #[.slice (some ⟨N, 0, none⟩) 8 8, .int .u8 k2] w1 fun e w' => e = .returned (.tuple #[.slice none 0 0, .int .u32 0, .int .u8 3, .slice (some ⟨N, 0, none⟩) 8 8, .bool false, .bool false, .int .u8 0, .bool true, .bool true]) ∧ Below w1.heap.size w1 w') := h10b
  have W6 : Hid (Calls Tryf.prog 6 #[.slice (some ad) n c] w fun e w' => e = .returned (.slice (some ⟨w.heap.size, 0, none⟩) n n) ∧ Below w.heap.size w w' ∧ w.heap.size < w'.heap.size ∧ ∀ i, i < n → w'.cell? ⟨w.heap.size, i, none⟩ = some (.int .u8 (f i))) := clone6 ad Ab o n c f w hn had hc
  clear had hc
  have g20 : ¬ (1048576 : Int) < n := by omega
  have dn : decide ((8 : Int) ≤ n) = true := decide_eq_true hn8
  have n0 : (0 : Int) < n := by omega
  have n1 : (1 : Int) < n := by omega
  have n8 : ¬ (n : Int) < 8 := by omega
  have qs := qsl
  go_enter Tryf.func3, Tryf.ntmps3
  go_wp2_with fail
  refine (bytes5 (some ad) n c k k2 w (by omega)).mono ?_
  rintro e w1 ⟨rfl, hw1⟩
  rw [hw1]
  clear hw1 w1
  rw [decide_eq_true hn]
  go_wp2_with fail
  refine W6.out.mono ?_
  rintro e w2 ⟨rfl, hB2, hs2, hc2⟩
  have hH2 : Holds w.heap.size n f w2 := ⟨hs2, hc2⟩
  have c0 := hc2 0 (by omega)
  have c1 := hc2 1 (by omega)
  clear hc2 W6
  go_wp2_with fail
  refine (h7.out _ hH2).mono ?_
  rintro e w3 ⟨rfl, hb3⟩
  have hH3 := hH2.later hb3
  have hB3 := hB2.trans (hb3.mono hB2.size)
  replace c0 := hH3.2 0 (by omega)
  replace c1 := hH3.2 1 (by omega)
  clear hb3 hH2 hB2 hs2
  go_wp2_with fail
  refine (h10.out _ hB3 hH3).mono ?_
  rintro e w6 ⟨N, rfl, hb6, hN6⟩
  have hB6 := hB3.trans (hb6.mono hB3.size)
  clear hb6
  go_wp2_with fail
  refine (h10b.out N _ hB6 hN6).mono ?_
  rintro e w7 ⟨rfl, hb7⟩
  have hN7 := hN6.later hb7
  have hB7 := hB6.trans (hb7.mono hB6.size)
  clear hb7
  go_wp2_with fail
  refine (same11 N 8 8 g _ (by decide) hN7.1 hN7.2).mono ?_
  rintro e w8 ⟨rfl, hb8⟩
  have hB8 := hB7.trans (hb8.mono hB7.size)
  go_wp2
  go_ret
  exact ⟨by simp, hB8⟩

end Go.Proofs.Qxb6615007aFmt
