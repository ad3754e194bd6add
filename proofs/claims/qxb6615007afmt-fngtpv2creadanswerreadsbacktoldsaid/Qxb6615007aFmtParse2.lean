/-
  Seat b6615007aF: Parse (16) at the datagrams that it takes: a header of 8 or 12 octets; the message fills the datagram, or another follows.
-/
import Derived.Test.Qxb6615007aFmtParse1
import Derived.BigRegion
set_option linter.unusedVariables false
namespace Go.Proofs.Qxb6615007aFmt
open Go.RowKit

set_option maxRecDepth 100000 in
set_option maxHeartbeats 4000000 in
theorem parse16_good8a (F : Stop.Interp) (A n c : Nat) (f : Nat → Int) (V H : Int) (w : World) (hF : F.answers w.tape) (hA : A < w.heap.size) (hn : (8 : Int) ≤ n) (hf : ∀ i, 0 ≤ f i ∧ f i ≤ 255)
    (hc : ∀ i, i < n → w.cell? ⟨A, i, none⟩ = some (.int .u8 (f i))) (hcap : (n : Int) ≤ c) (hmax : (c : Int) ≤ 9223372036854775807) (hv : f 0 / 32 = 2)
    (hV : f 2 * 256 + f 3 = V) (hH : (if bits .and .u8 (f 0) 8 = 0 then (8 : Int) else 12) = H) (E : Nat) (hE : 4 + V = (E : Int)) (hH8 : H = 8) (h1 : 8 ≤ E) (h2 : E ≤ n) (h3 : E = n) :
    Calls Tryf.prog 16 #[.slice (some ⟨A, 0, none⟩) n c] w fun e w' => ∃ ad, e = .returned (.tuple #[.agg #[.int .u8 (f 1), .int .u32 (f 4 * 65536 + f 5 * 256 + f 6), .slice (some ad) (E - 8) (c - 8), .bool (bits .and .u8 (f 0) 8 != 0), .bool (bits .and .u8 (f 0) 16 != 0)], .nilIface]) ∧ (E = 8 ∨ ad = ⟨A, 8, none⟩) ∧ Below w.heap.size w w' := by
  have c0 := hc 0 (by omega)
  have c1 := hc 1 (by omega)
  have c2 := hc 2 (by omega)
  have c3 := hc 3 (by omega)
  have hV0 : 0 ≤ V ∧ V ≤ 65535 := by have := hf 2; have := hf 3; omega
  have hH0 : H = 8 ∨ H = 12 := by rw [← hH]; split <;> simp
  obtain ⟨hV0, hV1⟩ := hV0
  have hHa : 8 ≤ H := by omega
  have hHb : H ≤ 12 := by omega
  clear hH0
  have hn2 : (2 : Int) ≤ n := by omega
  have hn4 : (4 : Int) ≤ c := by omega
  have hcn : ¬ c = 2 := by omega
  have H25 : ∀ w1 : World, Below w.heap.size w w1 → Calls Tryf.prog 25 #[.agg #[], .slice (some ⟨A, 2, none⟩) 2 (c - 2)] w1 fun e w' => e = .returned (.int .u16 V) ∧ w' = (w1.alloc (.cells #[] 68)).drew := fun w1 hb => by
    have := u16_25 A 2 2 (c - 2) (f 2) (f 3) w1 (Nat.lt_of_lt_of_le hA hb.size) (by decide) ((hb.cell hA).trans c2) ((hb.cell hA).trans c3) (hf 2) (hf 3)
    rwa [hV] at this
  have H26 : ∀ w1 : World, Below w.heap.size w w1 → Calls Tryf.prog 26 #[.slice (some ⟨A, 0, none⟩) n c] w1 fun e w' => e = .returned (.int .i64 H) ∧ w' = w1 := fun w1 hb => by
    have := hl26 A n c (f 0) w1 (by omega) ((hb.cell hA).trans c0)
    rwa [hH] at this
  have s0 := hc 4 (by omega)
  have s1 := hc 5 (by omega)
  have s2 := hc 6 (by omega)
  have hE0 : E ≤ c := by omega
  have hEc : (E : Int) ≤ c := by omega
  have hcn4 : ¬ c = 4 := by omega
  have hEn : (E : Int) - 8 ≥ 0 := by omega
  have hor0 : bits .or .u32 (bits .or .u32 (f 4 % 4294967296 * 65536 % 4294967296) (f 5 % 4294967296 * 256 % 4294967296)) (f 6 % 4294967296) = f 4 * 65536 + f 5 * 256 + f 6 := by
    have t0 := hf 4
    have t1 := hf 5
    have t2 := hf 6
    rw [show f 4 % 4294967296 * 65536 % 4294967296 = f 4 * 65536 by omega, show f 5 % 4294967296 * 256 % 4294967296 = f 5 * 256 by omega, show f 6 % 4294967296 = f 6 by omega]
    exact or_u32 _ _ _ t0 t1 t2
  have hor : Hid (bits .or .u32 (bits .or .u32 (f 4 % 4294967296 * 65536 % 4294967296) (f 5 % 4294967296 * 256 % 4294967296)) (f 6 % 4294967296) = f 4 * 65536 + f 5 * 256 + f 6) := hor0
  clear hor0
  have hx1 : (1 : Int) < n := by omega
  have hx8 : (8 : Int) ≤ E := by omega
  have hnlt : ¬ (4 + V < (n : Int)) := by omega
  replace hc : Hid (∀ i, i < n → w.cell? ⟨A, i, none⟩ = some (.int .u8 (f i))) := hc
  replace hV : Hid (f 2 * 256 + f 3 = V) := hV
  replace hH : Hid ((if bits .and .u8 (f 0) 8 = 0 then (8 : Int) else 12) = H) := hH
  replace hf : Hid (∀ i, 0 ≤ f i ∧ f i ≤ 255) := hf
  replace H25 : Hid (∀ w1 : World, Below w.heap.size w w1 → Calls Tryf.prog 25 #[.agg #[], .slice (some ⟨A, 2, none⟩) 2 (c - 2)] w1 fun e w' => e = .returned (.int .u16 V) ∧ w' = (w1.alloc (.cells #[] 68)).drew) := H25
  replace H26 : Hid (∀ w1 : World, Below w.heap.size w w1 → Calls Tryf.prog 26 #[.slice (some ⟨A, 0, none⟩) n c] w1 fun e w' => e = .returned (.int .i64 H) ∧ w' = w1) := H26
  go_enter Tryf.func16, Tryf.ntmps16
  go_wp2
  go_region_with (go_at_call 25; refine (H25.out _ ?_).mono ?_; go_grown; rintro e w' ⟨rfl, rfl⟩)
  go_wp2_with fail
  refine (H26.out _ ?_).mono ?_
  · go_grown
  rintro e w' ⟨rfl, rfl⟩
  go_wp2_with fail
  go_region
  all_goals go_wp2
  all_goals go_returns
  all_goals first
    | (refine ⟨⟨A, 8, none⟩, ?_, Or.inr rfl, ?_⟩
       · rw [hor.out]
       · go_grown)
    | (refine ⟨⟨A, 0, none⟩, ?_, Or.inl (by omega), ?_⟩
       · rw [hor.out]
       · go_grown)

set_option maxRecDepth 100000 in
set_option maxHeartbeats 4000000 in
theorem parse16_good8b (F : Stop.Interp) (A n c : Nat) (f : Nat → Int) (V H : Int) (w : World) (hF : F.answers w.tape) (hA : A < w.heap.size) (hn : (8 : Int) ≤ n) (hf : ∀ i, 0 ≤ f i ∧ f i ≤ 255)
    (hc : ∀ i, i < n → w.cell? ⟨A, i, none⟩ = some (.int .u8 (f i))) (hcap : (n : Int) ≤ c) (hmax : (c : Int) ≤ 9223372036854775807) (hv : f 0 / 32 = 2)
    (hV : f 2 * 256 + f 3 = V) (hH : (if bits .and .u8 (f 0) 8 = 0 then (8 : Int) else 12) = H) (E : Nat) (hE : 4 + V = (E : Int)) (hH8 : H = 8) (h1 : 8 ≤ E) (h2 : E ≤ n) (h3 : bits .and .u8 (f 0) 16 ≠ 0) (h4 : E < n) :
    Calls Tryf.prog 16 #[.slice (some ⟨A, 0, none⟩) n c] w fun e w' => ∃ ad, e = .returned (.tuple #[.agg #[.int .u8 (f 1), .int .u32 (f 4 * 65536 + f 5 * 256 + f 6), .slice (some ad) (E - 8) (c - 8), .bool (bits .and .u8 (f 0) 8 != 0), .bool true], .nilIface]) ∧ (E = 8 ∨ ad = ⟨A, 8, none⟩) ∧ Below w.heap.size w w' := by
  have c0 := hc 0 (by omega)
  have c1 := hc 1 (by omega)
  have c2 := hc 2 (by omega)
  have c3 := hc 3 (by omega)
  have hV0 : 0 ≤ V ∧ V ≤ 65535 := by have := hf 2; have := hf 3; omega
  have hH0 : H = 8 ∨ H = 12 := by rw [← hH]; split <;> simp
  obtain ⟨hV0, hV1⟩ := hV0
  have hHa : 8 ≤ H := by omega
  have hHb : H ≤ 12 := by omega
  clear hH0
  have hn2 : (2 : Int) ≤ n := by omega
  have hn4 : (4 : Int) ≤ c := by omega
  have hcn : ¬ c = 2 := by omega
  have H25 : ∀ w1 : World, Below w.heap.size w w1 → Calls Tryf.prog 25 #[.agg #[], .slice (some ⟨A, 2, none⟩) 2 (c - 2)] w1 fun e w' => e = .returned (.int .u16 V) ∧ w' = (w1.alloc (.cells #[] 68)).drew := fun w1 hb => by
    have := u16_25 A 2 2 (c - 2) (f 2) (f 3) w1 (Nat.lt_of_lt_of_le hA hb.size) (by decide) ((hb.cell hA).trans c2) ((hb.cell hA).trans c3) (hf 2) (hf 3)
    rwa [hV] at this
  have H26 : ∀ w1 : World, Below w.heap.size w w1 → Calls Tryf.prog 26 #[.slice (some ⟨A, 0, none⟩) n c] w1 fun e w' => e = .returned (.int .i64 H) ∧ w' = w1 := fun w1 hb => by
    have := hl26 A n c (f 0) w1 (by omega) ((hb.cell hA).trans c0)
    rwa [hH] at this
  have s0 := hc 4 (by omega)
  have s1 := hc 5 (by omega)
  have s2 := hc 6 (by omega)
  have hE0 : E ≤ c := by omega
  have hEc : (E : Int) ≤ c := by omega
  have hcn4 : ¬ c = 4 := by omega
  have hEn : (E : Int) - 8 ≥ 0 := by omega
  have hor0 : bits .or .u32 (bits .or .u32 (f 4 % 4294967296 * 65536 % 4294967296) (f 5 % 4294967296 * 256 % 4294967296)) (f 6 % 4294967296) = f 4 * 65536 + f 5 * 256 + f 6 := by
    have t0 := hf 4
    have t1 := hf 5
    have t2 := hf 6
    rw [show f 4 % 4294967296 * 65536 % 4294967296 = f 4 * 65536 by omega, show f 5 % 4294967296 * 256 % 4294967296 = f 5 * 256 by omega, show f 6 % 4294967296 = f 6 by omega]
    exact or_u32 _ _ _ t0 t1 t2
  have hor : Hid (bits .or .u32 (bits .or .u32 (f 4 % 4294967296 * 65536 % 4294967296) (f 5 % 4294967296 * 256 % 4294967296)) (f 6 % 4294967296) = f 4 * 65536 + f 5 * 256 + f 6) := hor0
  clear hor0
  have hx1 : (1 : Int) < n := by omega
  have hx8 : (8 : Int) ≤ E := by omega
  have hlt : 4 + V < (n : Int) := by omega
  have hp : (bits BinOp.and IntKind.u8 (f 0) 16 != 0) = true := by simpa using h3
  replace hc : Hid (∀ i, i < n → w.cell? ⟨A, i, none⟩ = some (.int .u8 (f i))) := hc
  replace hV : Hid (f 2 * 256 + f 3 = V) := hV
  replace hH : Hid ((if bits .and .u8 (f 0) 8 = 0 then (8 : Int) else 12) = H) := hH
  replace hf : Hid (∀ i, 0 ≤ f i ∧ f i ≤ 255) := hf
  replace H25 : Hid (∀ w1 : World, Below w.heap.size w w1 → Calls Tryf.prog 25 #[.agg #[], .slice (some ⟨A, 2, none⟩) 2 (c - 2)] w1 fun e w' => e = .returned (.int .u16 V) ∧ w' = (w1.alloc (.cells #[] 68)).drew) := H25
  replace H26 : Hid (∀ w1 : World, Below w.heap.size w w1 → Calls Tryf.prog 26 #[.slice (some ⟨A, 0, none⟩) n c] w1 fun e w' => e = .returned (.int .i64 H) ∧ w' = w1) := H26
  go_enter Tryf.func16, Tryf.ntmps16
  go_wp2
  go_region_with (go_at_call 25; refine (H25.out _ ?_).mono ?_; go_grown; rintro e w' ⟨rfl, rfl⟩)
  go_wp2_with fail
  refine (H26.out _ ?_).mono ?_
  · go_grown
  rintro e w' ⟨rfl, rfl⟩
  go_wp2_with fail
  go_region
  all_goals go_wp2
  all_goals go_returns
  all_goals first
    | (refine ⟨⟨A, 8, none⟩, ?_, Or.inr rfl, ?_⟩
       · rw [hor.out]
       · go_grown)
    | (refine ⟨⟨A, 0, none⟩, ?_, Or.inl (by omega), ?_⟩
       · rw [hor.out]
       · go_grown)

set_option maxRecDepth 100000 in
set_option maxHeartbeats 4000000 in
theorem parse16_good12a (F : Stop.Interp) (A n c : Nat) (f : Nat → Int) (V H : Int) (w : World) (hF : F.answers w.tape) (hA : A < w.heap.size) (hn : (8 : Int) ≤ n) (hf : ∀ i, 0 ≤ f i ∧ f i ≤ 255)
    (hc : ∀ i, i < n → w.cell? ⟨A, i, none⟩ = some (.int .u8 (f i))) (hcap : (n : Int) ≤ c) (hmax : (c : Int) ≤ 9223372036854775807) (hv : f 0 / 32 = 2)
    (hV : f 2 * 256 + f 3 = V) (hH : (if bits .and .u8 (f 0) 8 = 0 then (8 : Int) else 12) = H) (E : Nat) (hE : 4 + V = (E : Int)) (hH8 : H = 12) (h1 : 12 ≤ E) (h2 : E ≤ n) (h3 : E = n) :
    Calls Tryf.prog 16 #[.slice (some ⟨A, 0, none⟩) n c] w fun e w' => ∃ ad, e = .returned (.tuple #[.agg #[.int .u8 (f 1), .int .u32 (f 8 * 65536 + f 9 * 256 + f 10), .slice (some ad) (E - 12) (c - 12), .bool (bits .and .u8 (f 0) 8 != 0), .bool (bits .and .u8 (f 0) 16 != 0)], .nilIface]) ∧ (E = 12 ∨ ad = ⟨A, 12, none⟩) ∧ Below w.heap.size w w' := by
  have c0 := hc 0 (by omega)
  have c1 := hc 1 (by omega)
  have c2 := hc 2 (by omega)
  have c3 := hc 3 (by omega)
  have hV0 : 0 ≤ V ∧ V ≤ 65535 := by have := hf 2; have := hf 3; omega
  have hH0 : H = 8 ∨ H = 12 := by rw [← hH]; split <;> simp
  obtain ⟨hV0, hV1⟩ := hV0
  have hHa : 8 ≤ H := by omega
  have hHb : H ≤ 12 := by omega
  clear hH0
  have hn2 : (2 : Int) ≤ n := by omega
  have hn4 : (4 : Int) ≤ c := by omega
  have hcn : ¬ c = 2 := by omega
  have H25 : ∀ w1 : World, Below w.heap.size w w1 → Calls Tryf.prog 25 #[.agg #[], .slice (some ⟨A, 2, none⟩) 2 (c - 2)] w1 fun e w' => e = .returned (.int .u16 V) ∧ w' = (w1.alloc (.cells #[] 68)).drew := fun w1 hb => by
    have := u16_25 A 2 2 (c - 2) (f 2) (f 3) w1 (Nat.lt_of_lt_of_le hA hb.size) (by decide) ((hb.cell hA).trans c2) ((hb.cell hA).trans c3) (hf 2) (hf 3)
    rwa [hV] at this
  have H26 : ∀ w1 : World, Below w.heap.size w w1 → Calls Tryf.prog 26 #[.slice (some ⟨A, 0, none⟩) n c] w1 fun e w' => e = .returned (.int .i64 H) ∧ w' = w1 := fun w1 hb => by
    have := hl26 A n c (f 0) w1 (by omega) ((hb.cell hA).trans c0)
    rwa [hH] at this
  have s0 := hc 8 (by omega)
  have s1 := hc 9 (by omega)
  have s2 := hc 10 (by omega)
  have hE0 : E ≤ c := by omega
  have hEc : (E : Int) ≤ c := by omega
  have hcn4 : ¬ c = 8 := by omega
  have hEn : (E : Int) - 12 ≥ 0 := by omega
  have hor0 : bits .or .u32 (bits .or .u32 (f 8 % 4294967296 * 65536 % 4294967296) (f 9 % 4294967296 * 256 % 4294967296)) (f 10 % 4294967296) = f 8 * 65536 + f 9 * 256 + f 10 := by
    have t0 := hf 8
    have t1 := hf 9
    have t2 := hf 10
    rw [show f 8 % 4294967296 * 65536 % 4294967296 = f 8 * 65536 by omega, show f 9 % 4294967296 * 256 % 4294967296 = f 9 * 256 by omega, show f 10 % 4294967296 = f 10 by omega]
    exact or_u32 _ _ _ t0 t1 t2
  have hor : Hid (bits .or .u32 (bits .or .u32 (f 8 % 4294967296 * 65536 % 4294967296) (f 9 % 4294967296 * 256 % 4294967296)) (f 10 % 4294967296) = f 8 * 65536 + f 9 * 256 + f 10) := hor0
  clear hor0
  have hx1 : (1 : Int) < n := by omega
  have hx8 : (12 : Int) ≤ E := by omega
  have hnlt : ¬ (4 + V < (n : Int)) := by omega
  replace hc : Hid (∀ i, i < n → w.cell? ⟨A, i, none⟩ = some (.int .u8 (f i))) := hc
  replace hV : Hid (f 2 * 256 + f 3 = V) := hV
  replace hH : Hid ((if bits .and .u8 (f 0) 8 = 0 then (8 : Int) else 12) = H) := hH
  replace hf : Hid (∀ i, 0 ≤ f i ∧ f i ≤ 255) := hf
  replace H25 : Hid (∀ w1 : World, Below w.heap.size w w1 → Calls Tryf.prog 25 #[.agg #[], .slice (some ⟨A, 2, none⟩) 2 (c - 2)] w1 fun e w' => e = .returned (.int .u16 V) ∧ w' = (w1.alloc (.cells #[] 68)).drew) := H25
  replace H26 : Hid (∀ w1 : World, Below w.heap.size w w1 → Calls Tryf.prog 26 #[.slice (some ⟨A, 0, none⟩) n c] w1 fun e w' => e = .returned (.int .i64 H) ∧ w' = w1) := H26
  go_enter Tryf.func16, Tryf.ntmps16
  go_wp2
  go_region_with (go_at_call 25; refine (H25.out _ ?_).mono ?_; go_grown; rintro e w' ⟨rfl, rfl⟩)
  go_wp2_with fail
  refine (H26.out _ ?_).mono ?_
  · go_grown
  rintro e w' ⟨rfl, rfl⟩
  go_wp2_with fail
  go_region
  all_goals go_wp2
  all_goals go_returns
  all_goals first
    | (refine ⟨⟨A, 12, none⟩, ?_, Or.inr rfl, ?_⟩
       · rw [hor.out]
       · go_grown)
    | (refine ⟨⟨A, 0, none⟩, ?_, Or.inl (by omega), ?_⟩
       · rw [hor.out]
       · go_grown)

set_option maxRecDepth 100000 in
set_option maxHeartbeats 4000000 in
theorem parse16_good12b (F : Stop.Interp) (A n c : Nat) (f : Nat → Int) (V H : Int) (w : World) (hF : F.answers w.tape) (hA : A < w.heap.size) (hn : (8 : Int) ≤ n) (hf : ∀ i, 0 ≤ f i ∧ f i ≤ 255)
    (hc : ∀ i, i < n → w.cell? ⟨A, i, none⟩ = some (.int .u8 (f i))) (hcap : (n : Int) ≤ c) (hmax : (c : Int) ≤ 9223372036854775807) (hv : f 0 / 32 = 2)
    (hV : f 2 * 256 + f 3 = V) (hH : (if bits .and .u8 (f 0) 8 = 0 then (8 : Int) else 12) = H) (E : Nat) (hE : 4 + V = (E : Int)) (hH8 : H = 12) (h1 : 12 ≤ E) (h2 : E ≤ n) (h3 : bits .and .u8 (f 0) 16 ≠ 0) (h4 : E < n) :
    Calls Tryf.prog 16 #[.slice (some ⟨A, 0, none⟩) n c] w fun e w' => ∃ ad, e = .returned (.tuple #[.agg #[.int .u8 (f 1), .int .u32 (f 8 * 65536 + f 9 * 256 + f 10), .slice (some ad) (E - 12) (c - 12), .bool (bits .and .u8 (f 0) 8 != 0), .bool true], .nilIface]) ∧ (E = 12 ∨ ad = ⟨A, 12, none⟩) ∧ Below w.heap.size w w' := by
  have c0 := hc 0 (by omega)
  have c1 := hc 1 (by omega)
  have c2 := hc 2 (by omega)
  have c3 := hc 3 (by omega)
  have hV0 : 0 ≤ V ∧ V ≤ 65535 := by have := hf 2; have := hf 3; omega
  have hH0 : H = 8 ∨ H = 12 := by rw [← hH]; split <;> simp
  obtain ⟨hV0, hV1⟩ := hV0
  have hHa : 8 ≤ H := by omega
  have hHb : H ≤ 12 := by omega
  clear hH0
  have hn2 : (2 : Int) ≤ n := by omega
  have hn4 : (4 : Int) ≤ c := by omega
  have hcn : ¬ c = 2 := by omega
  have H25 : ∀ w1 : World, Below w.heap.size w w1 → Calls Tryf.prog 25 #[.agg #[], .slice (some ⟨A, 2, none⟩) 2 (c - 2)] w1 fun e w' => e = .returned (.int .u16 V) ∧ w' = (w1.alloc (.cells #[] 68)).drew := fun w1 hb => by
    have := u16_25 A 2 2 (c - 2) (f 2) (f 3) w1 (Nat.lt_of_lt_of_le hA hb.size) (by decide) ((hb.cell hA).trans c2) ((hb.cell hA).trans c3) (hf 2) (hf 3)
    rwa [hV] at this
  have H26 : ∀ w1 : World, Below w.heap.size w w1 → Calls Tryf.prog 26 #[.slice (some ⟨A, 0, none⟩) n c] w1 fun e w' => e = .returned (.int .i64 H) ∧ w' = w1 := fun w1 hb => by
    have := hl26 A n c (f 0) w1 (by omega) ((hb.cell hA).trans c0)
    rwa [hH] at this
  have s0 := hc 8 (by omega)
  have s1 := hc 9 (by omega)
  have s2 := hc 10 (by omega)
  have hE0 : E ≤ c := by omega
  have hEc : (E : Int) ≤ c := by omega
  have hcn4 : ¬ c = 8 := by omega
  have hEn : (E : Int) - 12 ≥ 0 := by omega
  have hor0 : bits .or .u32 (bits .or .u32 (f 8 % 4294967296 * 65536 % 4294967296) (f 9 % 4294967296 * 256 % 4294967296)) (f 10 % 4294967296) = f 8 * 65536 + f 9 * 256 + f 10 := by
    have t0 := hf 8
    have t1 := hf 9
    have t2 := hf 10
    rw [show f 8 % 4294967296 * 65536 % 4294967296 = f 8 * 65536 by omega, show f 9 % 4294967296 * 256 % 4294967296 = f 9 * 256 by omega, show f 10 % 4294967296 = f 10 by omega]
    exact or_u32 _ _ _ t0 t1 t2
  have hor : Hid (bits .or .u32 (bits .or .u32 (f 8 % 4294967296 * 65536 % 4294967296) (f 9 % 4294967296 * 256 % 4294967296)) (f 10 % 4294967296) = f 8 * 65536 + f 9 * 256 + f 10) := hor0
  clear hor0
  have hx1 : (1 : Int) < n := by omega
  have hx8 : (12 : Int) ≤ E := by omega
  have hlt : 4 + V < (n : Int) := by omega
  have hp : (bits BinOp.and IntKind.u8 (f 0) 16 != 0) = true := by simpa using h3
  replace hc : Hid (∀ i, i < n → w.cell? ⟨A, i, none⟩ = some (.int .u8 (f i))) := hc
  replace hV : Hid (f 2 * 256 + f 3 = V) := hV
  replace hH : Hid ((if bits .and .u8 (f 0) 8 = 0 then (8 : Int) else 12) = H) := hH
  replace hf : Hid (∀ i, 0 ≤ f i ∧ f i ≤ 255) := hf
  replace H25 : Hid (∀ w1 : World, Below w.heap.size w w1 → Calls Tryf.prog 25 #[.agg #[], .slice (some ⟨A, 2, none⟩) 2 (c - 2)] w1 fun e w' => e = .returned (.int .u16 V) ∧ w' = (w1.alloc (.cells #[] 68)).drew) := H25
  replace H26 : Hid (∀ w1 : World, Below w.heap.size w w1 → Calls Tryf.prog 26 #[.slice (some ⟨A, 0, none⟩) n c] w1 fun e w' => e = .returned (.int .i64 H) ∧ w' = w1) := H26
  go_enter Tryf.func16, Tryf.ntmps16
  go_wp2
  go_region_with (go_at_call 25; refine (H25.out _ ?_).mono ?_; go_grown; rintro e w' ⟨rfl, rfl⟩)
  go_wp2_with fail
  refine (H26.out _ ?_).mono ?_
  · go_grown
  rintro e w' ⟨rfl, rfl⟩
  go_wp2_with fail
  go_region
  all_goals go_wp2
  all_goals go_returns
  all_goals first
    | (refine ⟨⟨A, 12, none⟩, ?_, Or.inr rfl, ?_⟩
       · rw [hor.out]
       · go_grown)
    | (refine ⟨⟨A, 0, none⟩, ?_, Or.inl (by omega), ?_⟩
       · rw [hor.out]
       · go_grown)

end Go.Proofs.Qxb6615007aFmt
