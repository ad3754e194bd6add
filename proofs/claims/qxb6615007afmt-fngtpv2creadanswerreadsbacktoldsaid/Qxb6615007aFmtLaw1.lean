/-
  Seat b6615007aF: zzr1Clone (6), zzr1Frame (7), zzr1IEs (8), zzr1Seq (9), zzr1Same (11), zzBytes (5).
-/
import Derived.Test.Qxb6615007aFmtIe34
import Derived.Deep.OwnRows
namespace Go.Proofs.Qxb6615007aFmt
open Go.RowKit

theorem info5 : (Tryf.prog.info? 5).map (fun i => (i.zero, i.size, i.bytes)) = some (some (.int .u8 0), 1, 1) := by kernel_rfl

set_option maxRecDepth 100000 in
set_option maxHeartbeats 1000000 in
theorem bytes5 (a : Option Addr) (n c : Nat) (k k2 : Int) (w : World) (hn : (n : Int) ≤ 9223372036854775807) : Calls Tryf.prog 5 #[.slice a n c, .int .u8 k, .int .u8 k2] w fun e w' => e = .returned (.bool (decide (n ≤ 1048576))) ∧ w' = w := by
  by_cases h : n ≤ 1048576
  · have h' : (n : Int) ≤ 1048576 := by omega
    go_enter Tryf.func5, Tryf.ntmps5
    go_wp2
    go_ret
    exact ⟨by simp [h], rfl⟩
  · have h' : ¬ (n : Int) ≤ 1048576 := by omega
    go_enter Tryf.func5, Tryf.ntmps5
    go_wp2
    go_ret
    exact ⟨rfl, rfl⟩

set_option maxRecDepth 100000 in
set_option maxHeartbeats 1000000 in
theorem clone6_nil (w : World) : Calls Tryf.prog 6 #[.slice none 0 0] w fun e w' => e = .returned (.slice none 0 0) ∧ w' = w := by
  have qs := qsl
  go_enter Tryf.func6, Tryf.ntmps6
  go_wp2
  go_ret
  exact ⟨rfl, rfl⟩

set_option maxRecDepth 100000 in
set_option maxHeartbeats 4000000 in
theorem clone6 (ad : Addr) (Ab o n c : Nat) (f : Nat → Int) (w : World) (hn : n ≤ 1048576) (had : n = 0 ∨ (ad = ⟨Ab, o, none⟩ ∧ Ab < w.heap.size)) (hc : ∀ i, i < n → w.cell? ⟨Ab, o + i, none⟩ = some (.int .u8 (f i))) :
    Calls Tryf.prog 6 #[.slice (some ad) n c] w fun e w' => e = .returned (.slice (some ⟨w.heap.size, 0, none⟩) n n) ∧ Below w.heap.size w w' ∧ w.heap.size < w'.heap.size ∧ ∀ i, i < n → w'.cell? ⟨w.heap.size, i, none⟩ = some (.int .u8 (f i)) := by
  replace hc : Hid (∀ i, i < n → w.cell? ⟨Ab, o + i, none⟩ = some (.int .u8 (f i))) := hc
  have hmk := run_make_row' (P := Tryf.prog) 22 5 (.int .u8 0) 1 Tryf.underlying22 info5 rfl .i64 .i64 n (by omega) (by omega)
  have qs := qsl
  have hn' : (n : Int) ≤ 1048576 := by omega
  go_enter Tryf.func6, Tryf.ntmps6
  go_wp2
  clear hmk
  go_loopg [4] n (fun k p wr => ∃ i, i + k = n ∧ p = .int .i64 (i : Int) ∧ (∀ j, j < n → wr.cell? ⟨w.heap.size, j, none⟩ = some (.int .u8 (if j < i then f j else 0))) ∧ (∀ j, wr.frozen? ⟨w.heap.size, j, none⟩ = false) ∧ w.heap.size < wr.heap.size ∧ Below w.heap.size w wr)
  case atStart =>
    refine ⟨0, by omega, rfl, ?_, ?_, by simp, by go_grown⟩
    · intro j hj
      simp [go_sem, madeCells, hj, Nat.mod_one]
    · intro j; simp
  case round =>
    obtain ⟨i, hi, rfl, hcl, hz, hsz, hB⟩ := hrel
    by_cases hk : i < n
    · obtain ⟨rfl, hAb⟩ := had.resolve_left (by omega)
      have hin : (i : Int) < n := by omega
      have ci : wr.cell? ⟨Ab, o + i, none⟩ = some (.int .u8 (f i)) := (hB.cell hAb).trans (hc.out i hk)
      have di : wr.cell? ⟨w.heap.size, i, none⟩ = some (.int .u8 0) := by rw [hcl i hk, if_neg (by omega)]
      have zi := hz i
      replace hcl : Hid (∀ j, j < n → wr.cell? ⟨w.heap.size, j, none⟩ = some (.int .u8 (if j < i then f j else 0))) := hcl
      replace hz : Hid (∀ j, wr.frozen? ⟨w.heap.size, j, none⟩ = false) := hz
      replace hi : Hid (i + gk = n) := hi
      go_wp2_with fail
      all_goals go_roundg (gk - 1)
      case measure => have := hi.out; omega
      case rel =>
        refine ⟨i + 1, by have := hi.out; omega, by simp, ?_, ?_, by simpa [World.setCell] using hsz, hB.setCell (p := ⟨w.heap.size, i, none⟩) (Nat.le_refl _) _⟩
        · intro j hj
          by_cases hji : j = i
          · subst hji
            rw [World.cell?_setCell_same _ _ _ di, if_pos (by omega)]
          · rw [World.cell?_setCell_other _ _ _ _ (by intro h; injection h with _ h2; exact hji h2.symm), hcl.out j hj]
            by_cases h2 : j < i
            · rw [if_pos h2, if_pos (by omega)]
            · rw [if_neg h2, if_neg (by omega)]
        · intro j; rw [World.frozen?_setCell]; exact hz.out j
    · have hin : ¬ (i : Int) < n := by omega
      obtain rfl : i = n := by omega
      replace hcl : Hid (∀ j, j < i → wr.cell? ⟨w.heap.size, j, none⟩ = some (.int .u8 (if j < i then f j else 0))) := hcl
      replace hz : Hid (∀ j, wr.frozen? ⟨w.heap.size, j, none⟩ = false) := hz
      go_wp2
      go_ret
      refine ⟨rfl, hB, hsz, fun j hj => ?_⟩
      rw [hcl.out j hj, if_pos hj]

set_option maxRecDepth 100000 in
set_option maxHeartbeats 1000000 in
theorem frame7_short (a : Option Addr) (n c : Nat) (w : World) (hn : (n : Int) < 8) : Calls Tryf.prog 7 #[.slice a n c] w fun e w' => e = .returned (.tuple #[.bool false, .int .i64 0, .int .i64 0]) ∧ w' = w := by
  go_enter Tryf.func7, Tryf.ntmps7
  go_wp2
  go_returns
  exact ⟨rfl, rfl⟩

set_option maxRecDepth 100000 in
set_option maxHeartbeats 1000000 in
theorem frame7_foreign (A n c : Nat) (b0 : Int) (w : World) (hn : (8 : Int) ≤ n) (hc0 : w.cell? ⟨A, 0, none⟩ = some (.int .u8 b0)) (hv : ¬ b0 / 32 = 2) : Calls Tryf.prog 7 #[.slice (some ⟨A, 0, none⟩) n c] w fun e w' => e = .returned (.tuple #[.bool false, .int .i64 0, .int .i64 0]) ∧ w' = w := by
  have hn0 : (0 : Int) < n := by omega
  have dn : decide ((n : Int) < 8) = false := decide_eq_false (by omega)
  have dv : (b0 / 32 != 2) = true := by simpa using hv
  go_enter Tryf.func7, Tryf.ntmps7
  go_wp2
  go_returns
  exact ⟨rfl, rfl⟩

/-- Does the header frame the datagram? -/
def frB (n : Nat) (H V : Int) (b0 : Int) : Bool := decide (H ≤ 4 + V) && decide (4 + V ≤ (n : Int)) && (decide (4 + V = (n : Int)) || decide (¬ bits .and .u8 b0 16 = 0))

set_option maxRecDepth 100000 in
set_option maxHeartbeats 4000000 in
theorem frame7_v2 (A n c : Nat) (f : Nat → Int) (V H : Int) (w : World) (hn : (8 : Int) ≤ n) (hmax : (n : Int) ≤ 9223372036854775807) (hf : ∀ i, 0 ≤ f i ∧ f i ≤ 255)
    (hc : ∀ i, i < n → w.cell? ⟨A, i, none⟩ = some (.int .u8 (f i))) (hv : f 0 / 32 = 2) (hV : f 2 * 256 + f 3 = V) (hH : (if bits .and .u8 (f 0) 8 = 0 then (8 : Int) else 12) = H) :
    Calls Tryf.prog 7 #[.slice (some ⟨A, 0, none⟩) n c] w fun e w' => e = .returned (.tuple #[.bool (frB n H V (f 0)), .int .i64 H, .int .i64 (4 + V)]) ∧ Below w.heap.size w w' := by
  have c0 := hc 0 (by omega)
  have c2 := hc 2 (by omega)
  have c3 := hc 3 (by omega)
  have hor := or_i64 (f 2) (f 3) (hf 2) (hf 3)
  rw [hV] at hor
  have hV0 : 0 ≤ V ∧ V ≤ 65535 := by have := hf 2; have := hf 3; omega
  obtain ⟨hV0, hV1⟩ := hV0
  have hf2 := hf 2
  obtain ⟨h20, h21⟩ := hf2
  obtain ⟨h30, h31⟩ := hf 3
  have hn0 : (0 : Int) < n := by omega
  have hn2 : (2 : Int) < n := by omega
  have hn3 : (3 : Int) < n := by omega
  clear hf hc hV
  have dn : decide ((n : Int) < 8) = false := decide_eq_false (by omega)
  have dv : (f 0 / 32 != 2) = false := by simp [hv]
  obtain ⟨fr, hfr⟩ : ∃ fr, frB n H V (f 0) = fr := ⟨_, rfl⟩
  rw [hfr]
  unfold frB at hfr
  by_cases h8 : bits .and .u8 (f 0) 8 = 0
  · rw [if_pos h8] at hH
    subst hH
    have d8 : (bits .and .u8 (f 0) 8 != 0) = false := by simp [h8]
    by_cases h1 : 4 + V < 8
    · have : fr = false := by rw [← hfr, decide_eq_false (by omega)]; rfl
      subst this
      clear hfr
      have d1 : decide (4 + V < 8) = true := decide_eq_true h1
      go_enter Tryf.func7, Tryf.ntmps7
      go_wp2
      go_region
      all_goals go_wp2
      all_goals go_returns
      all_goals exact ⟨rfl, by go_grown⟩
    · have d1 : decide (4 + V < 8) = false := decide_eq_false h1
      by_cases h2 : (n : Int) < 4 + V
      · have : fr = false := by rw [← hfr, decide_eq_true (by omega), decide_eq_false (by omega)]; rfl
        subst this
        clear hfr
        have d2 : decide ((n : Int) < 4 + V) = true := decide_eq_true h2
        go_enter Tryf.func7, Tryf.ntmps7
        go_wp2
        go_region
        all_goals go_wp2
        all_goals go_returns
        all_goals exact ⟨rfl, by go_grown⟩
      · have d2 : decide ((n : Int) < 4 + V) = false := decide_eq_false h2
        by_cases h3 : 4 + V < (n : Int)
        · have d3 : decide (4 + V < (n : Int)) = true := decide_eq_true h3
          by_cases h16 : bits .and .u8 (f 0) 16 = 0
          · have : fr = false := by rw [← hfr, decide_eq_true (by omega), decide_eq_true (by omega), decide_eq_false (by omega), decide_eq_false (by simpa using h16)]; rfl
            subst this
            clear hfr
            have d16 : (bits .and .u8 (f 0) 16 == 0) = true := by simp [h16]
            go_enter Tryf.func7, Tryf.ntmps7
            go_wp2
            go_region
            all_goals go_wp2
            all_goals go_returns
            all_goals exact ⟨rfl, by go_grown⟩
          · have : fr = true := by rw [← hfr, decide_eq_true (by omega), decide_eq_true (by omega), decide_eq_false (by omega), decide_eq_true h16]; rfl
            subst this
            clear hfr
            have d16 : (bits .and .u8 (f 0) 16 == 0) = false := by simpa using h16
            go_enter Tryf.func7, Tryf.ntmps7
            go_wp2
            go_region
            all_goals go_wp2
            all_goals go_returns
            all_goals exact ⟨rfl, by go_grown⟩
        · have d3 : decide (4 + V < (n : Int)) = false := decide_eq_false h3
          have : fr = true := by rw [← hfr, decide_eq_true (by omega), decide_eq_true (by omega), decide_eq_true (by omega)]; rfl
          subst this
          clear hfr
          go_enter Tryf.func7, Tryf.ntmps7
          go_wp2
          go_region
          all_goals go_wp2
          all_goals go_returns
          all_goals exact ⟨rfl, by go_grown⟩
  · rw [if_neg h8] at hH
    subst hH
    have d8 : (bits .and .u8 (f 0) 8 != 0) = true := by simpa using h8
    by_cases h1 : 4 + V < 12
    · have : fr = false := by rw [← hfr, decide_eq_false (by omega)]; rfl
      subst this
      clear hfr
      have d1 : decide (4 + V < 12) = true := decide_eq_true h1
      go_enter Tryf.func7, Tryf.ntmps7
      go_wp2
      go_region
      all_goals go_wp2
      all_goals go_returns
      all_goals exact ⟨rfl, by go_grown⟩
    · have d1 : decide (4 + V < 12) = false := decide_eq_false h1
      by_cases h2 : (n : Int) < 4 + V
      · have : fr = false := by rw [← hfr, decide_eq_true (by omega), decide_eq_false (by omega)]; rfl
        subst this
        clear hfr
        have d2 : decide ((n : Int) < 4 + V) = true := decide_eq_true h2
        go_enter Tryf.func7, Tryf.ntmps7
        go_wp2
        go_region
        all_goals go_wp2
        all_goals go_returns
        all_goals exact ⟨rfl, by go_grown⟩
      · have d2 : decide ((n : Int) < 4 + V) = false := decide_eq_false h2
        by_cases h3 : 4 + V < (n : Int)
        · have d3 : decide (4 + V < (n : Int)) = true := decide_eq_true h3
          by_cases h16 : bits .and .u8 (f 0) 16 = 0
          · have : fr = false := by rw [← hfr, decide_eq_true (by omega), decide_eq_true (by omega), decide_eq_false (by omega), decide_eq_false (by simpa using h16)]; rfl
            subst this
            clear hfr
            have d16 : (bits .and .u8 (f 0) 16 == 0) = true := by simp [h16]
            go_enter Tryf.func7, Tryf.ntmps7
            go_wp2
            go_region
            all_goals go_wp2
            all_goals go_returns
            all_goals exact ⟨rfl, by go_grown⟩
          · have : fr = true := by rw [← hfr, decide_eq_true (by omega), decide_eq_true (by omega), decide_eq_false (by omega), decide_eq_true h16]; rfl
            subst this
            clear hfr
            have d16 : (bits .and .u8 (f 0) 16 == 0) = false := by simpa using h16
            go_enter Tryf.func7, Tryf.ntmps7
            go_wp2
            go_region
            all_goals go_wp2
            all_goals go_returns
            all_goals exact ⟨rfl, by go_grown⟩
        · have d3 : decide (4 + V < (n : Int)) = false := decide_eq_false h3
          have : fr = true := by rw [← hfr, decide_eq_true (by omega), decide_eq_true (by omega), decide_eq_true (by omega)]; rfl
          subst this
          clear hfr
          go_enter Tryf.func7, Tryf.ntmps7
          go_wp2
          go_region
          all_goals go_wp2
          all_goals go_returns
          all_goals exact ⟨rfl, by go_grown⟩

set_option maxRecDepth 100000 in
set_option maxHeartbeats 4000000 in
theorem seq9 (A n c : Nat) (f : Nat → Int) (w : World) (hn : (8 : Int) ≤ n) (hf : ∀ i, 0 ≤ f i ∧ f i ≤ 255)
    (hc : ∀ i, i < n → w.cell? ⟨A, i, none⟩ = some (.int .u8 (f i))) :
    Calls Tryf.prog 9 #[.slice (some ⟨A, 0, none⟩) n c, .int .i64 8] w fun e w' => e = .returned (.int .u32 (f 4 * 65536 + f 5 * 256 + f 6)) ∧ Below w.heap.size w w' := by
  have c4 := hc 4 (by omega)
  have c5 := hc 5 (by omega)
  have c6 := hc 6 (by omega)
  have hor : Hid (bits .or .u32 (bits .or .u32 (f 4 * 65536) (f 5 * 256)) (f 6) = f 4 * 65536 + f 5 * 256 + f 6) := or_u32 (f 4) (f 5) (f 6) (hf 4) (hf 5) (hf 6)
  obtain ⟨h40, h41⟩ := hf 4
  obtain ⟨h50, h51⟩ := hf 5
  obtain ⟨h60, h61⟩ := hf 6
  have hn4 : (4 : Int) < n := by omega
  have hn5 : (5 : Int) < n := by omega
  have hn6 : (6 : Int) < n := by omega
  clear hf hc
  go_enter Tryf.func9, Tryf.ntmps9
  go_wp2
  go_quiet (fail)
  go_wp2
  go_ret
  exact ⟨congrArg (fun v => Ending.returned (.int .u32 v)) hor.out, ⟨rfl, rfl, rfl, Nat.le_refl _, fun _ _ => rfl⟩⟩
end Go.Proofs.Qxb6615007aFmt
