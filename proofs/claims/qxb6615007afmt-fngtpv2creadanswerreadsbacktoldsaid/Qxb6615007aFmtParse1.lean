/-
  Seat b6615007aF: Parse (16) at the datagrams that it refuses by fmt.Errorf: too short; a length that leaves no room, runs past, leaves octets over.
-/
import Derived.Test.Qxb6615007aFmtBits
import Derived.Deep.RegionWith
namespace Go.Proofs.Qxb6615007aFmt
open Go.RowKit

abbrev z54 : Value := .agg #[.int .u8 0, .int .u32 0, .slice none 0 0, .bool false, .bool false]

set_option maxRecDepth 100000 in
set_option maxHeartbeats 1000000 in
theorem parse16_short (F : Stop.Interp) (a : Option Addr) (n c : Nat) (w : World) (hF : F.answers w.tape) (hn : (n : Int) < 8) :
    Calls Tryf.prog 16 #[.slice a n c] w fun e w' => ∃ N, e = .returned (.tuple #[z54, .iface 90 (.pointer (some ⟨N, 0, none⟩))]) ∧ Below w.heap.size w w' := by
  go_enter Tryf.func16, Tryf.ntmps16
  go_wp2_with fail
  refine (errorf0 F n (w.heap.size + 1) _ ?_ ?_).mono ?_
  · exact hF
  · simp [go_sem]
  rintro e w' ⟨s, rfl, rfl⟩
  go_wp2
  go_returns
  exact ⟨_, rfl, by go_grown⟩

set_option maxRecDepth 100000 in
set_option maxHeartbeats 4000000 in
theorem parse16_under (F : Stop.Interp) (A n c : Nat) (f : Nat → Int) (V H : Int) (w : World) (hF : F.answers w.tape) (hA : A < w.heap.size) (hn : (8 : Int) ≤ n) (hf : ∀ i, 0 ≤ f i ∧ f i ≤ 255)
    (hc : ∀ i, i < n → w.cell? ⟨A, i, none⟩ = some (.int .u8 (f i))) (hcap : (n : Int) ≤ c) (hmax : (c : Int) ≤ 9223372036854775807) (hv : f 0 / 32 = 2)
    (hV : f 2 * 256 + f 3 = V) (hH : (if bits .and .u8 (f 0) 8 = 0 then (8 : Int) else 12) = H) (h : 4 + V < H) :
    Calls Tryf.prog 16 #[.slice (some ⟨A, 0, none⟩) n c] w fun e w' => ∃ N, e = .returned (.tuple #[z54, .iface 90 (.pointer (some ⟨N, 0, none⟩))]) ∧ Below w.heap.size w w' := by
  have c0 := hc 0 (by omega)
  have c1 := hc 1 (by omega)
  have c2 := hc 2 (by omega)
  have c3 := hc 3 (by omega)
  have hV0 : 0 ≤ V ∧ V ≤ 65535 := by have := hf 2; have := hf 3; omega
  have hH0 : H = 8 ∨ H = 12 := by rw [← hH]; split <;> simp
  obtain ⟨hV0, hV1⟩ := hV0
  have hHa : 8 ≤ H := by omega
  have hHb : H ≤ 12 := by omega
  clear hH0
  have hn2 : (2 : Int) ≤ n := by omega
  have hn4 : (4 : Int) ≤ c := by omega
  have hcn : ¬ c = 2 := by omega
  have H25 : ∀ w1 : World, Below w.heap.size w w1 → Calls Tryf.prog 25 #[.agg #[], .slice (some ⟨A, 2, none⟩) 2 (c - 2)] w1 fun e w' => e = .returned (.int .u16 V) ∧ w' = (w1.alloc (.cells #[] 68)).drew := fun w1 hb => by
    have := u16_25 A 2 2 (c - 2) (f 2) (f 3) w1 (Nat.lt_of_lt_of_le hA hb.size) (by decide) ((hb.cell hA).trans c2) ((hb.cell hA).trans c3) (hf 2) (hf 3)
    rwa [hV] at this
  have H26 : ∀ w1 : World, Below w.heap.size w w1 → Calls Tryf.prog 26 #[.slice (some ⟨A, 0, none⟩) n c] w1 fun e w' => e = .returned (.int .i64 H) ∧ w' = w1 := fun w1 hb => by
    have := hl26 A n c (f 0) w1 (by omega) ((hb.cell hA).trans c0)
    rwa [hH] at this
  replace hc : Hid (∀ i, i < n → w.cell? ⟨A, i, none⟩ = some (.int .u8 (f i))) := hc
  replace hV : Hid (f 2 * 256 + f 3 = V) := hV
  replace hH : Hid ((if bits .and .u8 (f 0) 8 = 0 then (8 : Int) else 12) = H) := hH
  replace hf : Hid (∀ i, 0 ≤ f i ∧ f i ≤ 255) := hf
  replace H25 : Hid (∀ w1 : World, Below w.heap.size w w1 → Calls Tryf.prog 25 #[.agg #[], .slice (some ⟨A, 2, none⟩) 2 (c - 2)] w1 fun e w' => e = .returned (.int .u16 V) ∧ w' = (w1.alloc (.cells #[] 68)).drew) := H25
  replace H26 : Hid (∀ w1 : World, Below w.heap.size w w1 → Calls Tryf.prog 26 #[.slice (some ⟨A, 0, none⟩) n c] w1 fun e w' => e = .returned (.int .i64 H) ∧ w' = w1) := H26
  go_enter Tryf.func16, Tryf.ntmps16
  go_wp2
  go_region_with (go_at_call 25; refine (H25.out _ ?_).mono ?_; go_grown; rintro e w' ⟨rfl, rfl⟩)
  go_wp2_with fail
  refine (H26.out _ ?_).mono ?_
  · go_grown
  rintro e w' ⟨rfl, rfl⟩
  go_wp2_with fail
  refine (errorf1 F V (w.heap.size + 2) _ ?_ ?_).mono ?_
  · exact hF
  · simp [go_sem] <;> omega
  rintro e w' ⟨s, rfl, rfl⟩
  go_wp2
  go_returns
  exact ⟨_, rfl, by go_grown⟩

set_option maxRecDepth 100000 in
set_option maxHeartbeats 4000000 in
theorem parse16_over (F : Stop.Interp) (A n c : Nat) (f : Nat → Int) (V H : Int) (w : World) (hF : F.answers w.tape) (hA : A < w.heap.size) (hn : (8 : Int) ≤ n) (hf : ∀ i, 0 ≤ f i ∧ f i ≤ 255)
    (hc : ∀ i, i < n → w.cell? ⟨A, i, none⟩ = some (.int .u8 (f i))) (hcap : (n : Int) ≤ c) (hmax : (c : Int) ≤ 9223372036854775807) (hv : f 0 / 32 = 2)
    (hV : f 2 * 256 + f 3 = V) (hH : (if bits .and .u8 (f 0) 8 = 0 then (8 : Int) else 12) = H) (h1 : H ≤ 4 + V) (h : (n : Int) < 4 + V) :
    Calls Tryf.prog 16 #[.slice (some ⟨A, 0, none⟩) n c] w fun e w' => ∃ N, e = .returned (.tuple #[z54, .iface 90 (.pointer (some ⟨N, 0, none⟩))]) ∧ Below w.heap.size w w' := by
  have c0 := hc 0 (by omega)
  have c1 := hc 1 (by omega)
  have c2 := hc 2 (by omega)
  have c3 := hc 3 (by omega)
  have hV0 : 0 ≤ V ∧ V ≤ 65535 := by have := hf 2; have := hf 3; omega
  have hH0 : H = 8 ∨ H = 12 := by rw [← hH]; split <;> simp
  obtain ⟨hV0, hV1⟩ := hV0
  have hHa : 8 ≤ H := by omega
  have hHb : H ≤ 12 := by omega
  clear hH0
  have hn2 : (2 : Int) ≤ n := by omega
  have hn4 : (4 : Int) ≤ c := by omega
  have hcn : ¬ c = 2 := by omega
  have H25 : ∀ w1 : World, Below w.heap.size w w1 → Calls Tryf.prog 25 #[.agg #[], .slice (some ⟨A, 2, none⟩) 2 (c - 2)] w1 fun e w' => e = .returned (.int .u16 V) ∧ w' = (w1.alloc (.cells #[] 68)).drew := fun w1 hb => by
    have := u16_25 A 2 2 (c - 2) (f 2) (f 3) w1 (Nat.lt_of_lt_of_le hA hb.size) (by decide) ((hb.cell hA).trans c2) ((hb.cell hA).trans c3) (hf 2) (hf 3)
    rwa [hV] at this
  have H26 : ∀ w1 : World, Below w.heap.size w w1 → Calls Tryf.prog 26 #[.slice (some ⟨A, 0, none⟩) n c] w1 fun e w' => e = .returned (.int .i64 H) ∧ w' = w1 := fun w1 hb => by
    have := hl26 A n c (f 0) w1 (by omega) ((hb.cell hA).trans c0)
    rwa [hH] at this
  replace hc : Hid (∀ i, i < n → w.cell? ⟨A, i, none⟩ = some (.int .u8 (f i))) := hc
  replace hV : Hid (f 2 * 256 + f 3 = V) := hV
  replace hH : Hid ((if bits .and .u8 (f 0) 8 = 0 then (8 : Int) else 12) = H) := hH
  replace hf : Hid (∀ i, 0 ≤ f i ∧ f i ≤ 255) := hf
  replace H25 : Hid (∀ w1 : World, Below w.heap.size w w1 → Calls Tryf.prog 25 #[.agg #[], .slice (some ⟨A, 2, none⟩) 2 (c - 2)] w1 fun e w' => e = .returned (.int .u16 V) ∧ w' = (w1.alloc (.cells #[] 68)).drew) := H25
  replace H26 : Hid (∀ w1 : World, Below w.heap.size w w1 → Calls Tryf.prog 26 #[.slice (some ⟨A, 0, none⟩) n c] w1 fun e w' => e = .returned (.int .i64 H) ∧ w' = w1) := H26
  go_enter Tryf.func16, Tryf.ntmps16
  go_wp2
  go_region_with (go_at_call 25; refine (H25.out _ ?_).mono ?_; go_grown; rintro e w' ⟨rfl, rfl⟩)
  go_wp2_with fail
  refine (H26.out _ ?_).mono ?_
  · go_grown
  rintro e w' ⟨rfl, rfl⟩
  go_wp2_with fail
  refine (errorf2 F V n (w.heap.size + 2) _ ?_ ?_ ?_).mono ?_
  · exact hF
  · simp [go_sem] <;> omega
  · simp [go_sem] <;> omega
  rintro e w' ⟨s, rfl, rfl⟩
  go_wp2
  go_returns
  exact ⟨_, rfl, by go_grown⟩

set_option maxRecDepth 100000 in
set_option maxHeartbeats 4000000 in
theorem parse16_left (F : Stop.Interp) (A n c : Nat) (f : Nat → Int) (V H : Int) (w : World) (hF : F.answers w.tape) (hA : A < w.heap.size) (hn : (8 : Int) ≤ n) (hf : ∀ i, 0 ≤ f i ∧ f i ≤ 255)
    (hc : ∀ i, i < n → w.cell? ⟨A, i, none⟩ = some (.int .u8 (f i))) (hcap : (n : Int) ≤ c) (hmax : (c : Int) ≤ 9223372036854775807) (hv : f 0 / 32 = 2)
    (hV : f 2 * 256 + f 3 = V) (hH : (if bits .and .u8 (f 0) 8 = 0 then (8 : Int) else 12) = H) (h1 : H ≤ 4 + V) (h2 : 4 + V < (n : Int)) (h3 : bits .and .u8 (f 0) 16 = 0) :
    Calls Tryf.prog 16 #[.slice (some ⟨A, 0, none⟩) n c] w fun e w' => ∃ N, e = .returned (.tuple #[z54, .iface 90 (.pointer (some ⟨N, 0, none⟩))]) ∧ Below w.heap.size w w' := by
  have c0 := hc 0 (by omega)
  have c1 := hc 1 (by omega)
  have c2 := hc 2 (by omega)
  have c3 := hc 3 (by omega)
  have hV0 : 0 ≤ V ∧ V ≤ 65535 := by have := hf 2; have := hf 3; omega
  have hH0 : H = 8 ∨ H = 12 := by rw [← hH]; split <;> simp
  obtain ⟨hV0, hV1⟩ := hV0
  have hHa : 8 ≤ H := by omega
  have hHb : H ≤ 12 := by omega
  clear hH0
  have hn2 : (2 : Int) ≤ n := by omega
  have hn4 : (4 : Int) ≤ c := by omega
  have hcn : ¬ c = 2 := by omega
  have H25 : ∀ w1 : World, Below w.heap.size w w1 → Calls Tryf.prog 25 #[.agg #[], .slice (some ⟨A, 2, none⟩) 2 (c - 2)] w1 fun e w' => e = .returned (.int .u16 V) ∧ w' = (w1.alloc (.cells #[] 68)).drew := fun w1 hb => by
    have := u16_25 A 2 2 (c - 2) (f 2) (f 3) w1 (Nat.lt_of_lt_of_le hA hb.size) (by decide) ((hb.cell hA).trans c2) ((hb.cell hA).trans c3) (hf 2) (hf 3)
    rwa [hV] at this
  have H26 : ∀ w1 : World, Below w.heap.size w w1 → Calls Tryf.prog 26 #[.slice (some ⟨A, 0, none⟩) n c] w1 fun e w' => e = .returned (.int .i64 H) ∧ w' = w1 := fun w1 hb => by
    have := hl26 A n c (f 0) w1 (by omega) ((hb.cell hA).trans c0)
    rwa [hH] at this
  replace hc : Hid (∀ i, i < n → w.cell? ⟨A, i, none⟩ = some (.int .u8 (f i))) := hc
  replace hV : Hid (f 2 * 256 + f 3 = V) := hV
  replace hH : Hid ((if bits .and .u8 (f 0) 8 = 0 then (8 : Int) else 12) = H) := hH
  replace hf : Hid (∀ i, 0 ≤ f i ∧ f i ≤ 255) := hf
  replace H25 : Hid (∀ w1 : World, Below w.heap.size w w1 → Calls Tryf.prog 25 #[.agg #[], .slice (some ⟨A, 2, none⟩) 2 (c - 2)] w1 fun e w' => e = .returned (.int .u16 V) ∧ w' = (w1.alloc (.cells #[] 68)).drew) := H25
  replace H26 : Hid (∀ w1 : World, Below w.heap.size w w1 → Calls Tryf.prog 26 #[.slice (some ⟨A, 0, none⟩) n c] w1 fun e w' => e = .returned (.int .i64 H) ∧ w' = w1) := H26
  go_enter Tryf.func16, Tryf.ntmps16
  go_wp2
  go_region_with (go_at_call 25; refine (H25.out _ ?_).mono ?_; go_grown; rintro e w' ⟨rfl, rfl⟩)
  go_wp2_with fail
  refine (H26.out _ ?_).mono ?_
  · go_grown
  rintro e w' ⟨rfl, rfl⟩
  go_wp2_with fail
  refine (errorf3 F V (n - (4 + V)) (w.heap.size + 2) _ ?_ ?_ ?_).mono ?_
  · exact hF
  · simp [go_sem] <;> omega
  · simp [go_sem] <;> omega
  rintro e w' ⟨s, rfl, rfl⟩
  go_wp2
  go_returns
  exact ⟨_, rfl, by go_grown⟩

end Go.Proofs.Qxb6615007aFmt
