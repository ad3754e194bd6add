/-
  Seat b6615007aF: ZZgtpv2cRead (10) at a foreign version, and the walk of FnUnsupportedGTPVersionAgreesWithRead (4).
-/
import Derived.Test.Qxb6615007aFmtRead3
namespace Go.Proofs.Qxb6615007aFmt
open Go.RowKit

theorem zz10_no (A : Nat) (n c : Nat) (b0 b1 k : Int) (w : World) (hA : A < w.heap.size) (hn : (8 : Int) ≤ n) (hc0 : w.cell? ⟨A, 0, none⟩ = some (.int .u8 b0)) (hc1 : w.cell? ⟨A, 1, none⟩ = some (.int .u8 b1))
    (hv : ¬ (b0 / 32 = 2)) (hu : unsB (b0 / 32) b1 = false) :
    Calls Tryf.prog 10 #[.slice (some ⟨A, 0, none⟩) n c, .int .u8 k] w fun e w' => e = .returned (.tuple #[.slice none 0 0, .int .u32 0, .int .u8 0, .slice none 0 0, .bool false, .bool false, .int .u8 0, .bool true, .bool false]) ∧ Below w.heap.size w w' := by
  refine (zz10 none none n c 0 0 0 0 (some ⟨A, 0, none⟩) k 0 0 0 false false false w (fun w1 => w1 = rw w k b0 b1) (read13_no A n c b0 b1 k w hA hn hc0 hc1 hv hu)).mono ?_
  rintro e w' ⟨rfl, w1, rfl, h⟩
  have h1 : Below w.heap.size w (rw w k b0 b1) := by go_grown
  exact ⟨rfl, h1.trans (h.mono h1.size)⟩

theorem zz10_yes (A : Nat) (n c : Nat) (b0 b1 k : Int) (w : World) (hA : A < w.heap.size) (hn : (8 : Int) ≤ n) (hc0 : w.cell? ⟨A, 0, none⟩ = some (.int .u8 b0)) (hc1 : w.cell? ⟨A, 1, none⟩ = some (.int .u8 b1))
    (hv : ¬ (b0 / 32 = 2)) (hu : unsB (b0 / 32) b1 = true) :
    Calls Tryf.prog 10 #[.slice (some ⟨A, 0, none⟩) n c, .int .u8 k] w fun e w' => e = .returned (.tuple #[.slice (some ⟨w.heap.size + 7, 0, none⟩) 8 8, .int .u32 0, .int .u8 0, .slice none 0 0, .bool false, .bool false, .int .u8 0, .bool true, .bool false]) ∧ Below w.heap.size w w' ∧ Below (w.heap.size + 8) ((rw w k b0 b1).alloc (.cells vnsC 5)) w' := by
  refine (zz10 _ none n c 8 8 0 0 (some ⟨A, 0, none⟩) k 0 0 0 false false false w (fun w1 => w1 = (rw w k b0 b1).alloc (.cells vnsC 5)) (read13_yes A n c b0 b1 k w hA hn hc0 hc1 hv hu)).mono ?_
  rintro e w' ⟨rfl, w1, rfl, h⟩
  have h1 : Below w.heap.size w ((rw w k b0 b1).alloc (.cells vnsC 5)) := by go_grown
  exact ⟨rfl, h1.trans (h.mono h1.size), h.mono (by simp)⟩

set_option maxRecDepth 100000 in
set_option maxHeartbeats 4000000 in
theorem walk4 (v t : Int) (hv0 : 0 ≤ v) (w : World) :
    Calls Tryf.prog 4 #[.int .u8 v, .int .u8 t] w fun e w' => e = .returned (.bool true) ∧ Below w.heap.size w w' := by
  by_cases h7 : 7 < v
  · go_enter Tryf.func4, Tryf.ntmps4
    go_wp2
    go_ret
    exact ⟨rfl, Below.refl _ _⟩
  by_cases h2 : v = 2
  · subst h2
    go_enter Tryf.func4, Tryf.ntmps4
    go_wp2
    go_ret
    exact ⟨rfl, Below.refl _ _⟩
  have hsh : IntKind.u8.wrap (v * 32) = v * 32 := by simp [IntKind.wrap, IntKind.signed, IntKind.bits]; omega
  have hdiv : v * 32 / 32 = v := by omega
  by_cases hu : unsB v t = true
  · have hu1 : ¬ v = 1 ∧ ¬ t = 3 := by simpa [unsB] using hu
    obtain ⟨h1, h3⟩ := hu1
    replace hu : Hid (unsB v t = true) := hu
    replace hdiv : Hid (v * 32 / 32 = v) := hdiv
    go_enter Tryf.func4, Tryf.ntmps4
    go_wp2_with fail
    refine (uns12 v t _).mono ?_
    rintro e w1 ⟨rfl, rfl⟩
    rw [hu.out]
    go_wp2_with fail
    refine (zz10_yes (w.heap.size + 1) 8 8 (v * 32) t 0 _ ?_ (by decide) ?_ ?_ ?_ ?_).mono ?_
    · simp
    · simp [go_sem]
    · simp [go_sem]
    · rw [hdiv.out]; exact h2
    · rw [hdiv.out]; exact hu.out
    rintro e w1 ⟨rfl, hb, -⟩
    go_wp2
    go_ret
    exact ⟨(by simp [h1, h3] : Ending.returned (.bool (v != 1 && t != 3)) = _), (Below.trans (by go_grown) (hb.mono (by simp; omega)))⟩
  · have hu' : unsB v t = false := by simpa using hu
    clear hu
    have hnot : ¬ (¬ v = 1 ∧ ¬ t = 3) := by simpa [unsB] using hu'
    have hcase : v = 1 ∨ t = 3 := by omega
    replace hu' : Hid (unsB v t = false) := hu'
    rcases hcase with h1 | h3
    · subst h1
      clear hnot hdiv hsh
      go_enter Tryf.func4, Tryf.ntmps4
      go_wp2_with fail
      refine (uns12 1 t _).mono ?_
      rintro e w1 ⟨rfl, rfl⟩
      rw [hu'.out]
      go_wp2_with fail
      refine (zz10_no (w.heap.size + 1) 8 8 32 t 0 _ ?_ (by decide) ?_ ?_ (by decide) hu'.out).mono ?_
      · simp
      · simp [go_sem]
      · simp [go_sem]
      rintro e w1 ⟨rfl, hb⟩
      go_wp2
      go_ret
      exact ⟨rfl, (Below.trans (by go_grown) (hb.mono (by simp; omega)))⟩
    · subst h3
      by_cases h1 : v = 1
      · subst h1
        clear hnot hdiv hsh
        go_enter Tryf.func4, Tryf.ntmps4
        go_wp2_with fail
        refine (uns12 1 3 _).mono ?_
        rintro e w1 ⟨rfl, rfl⟩
        rw [hu'.out]
        go_wp2_with fail
        refine (zz10_no (w.heap.size + 1) 8 8 32 3 0 _ ?_ (by decide) ?_ ?_ (by decide) hu'.out).mono ?_
        · simp
        · simp [go_sem]
        · simp [go_sem]
        rintro e w1 ⟨rfl, hb⟩
        go_wp2
        go_ret
        exact ⟨rfl, (Below.trans (by go_grown) (hb.mono (by simp; omega)))⟩
      · clear hnot
        replace hdiv : Hid (v * 32 / 32 = v) := hdiv
        go_enter Tryf.func4, Tryf.ntmps4
        go_wp2_with fail
        refine (uns12 v 3 _).mono ?_
        rintro e w1 ⟨rfl, rfl⟩
        rw [hu'.out]
        go_wp2_with fail
        refine (zz10_no (w.heap.size + 1) 8 8 (v * 32) 3 0 _ ?_ (by decide) ?_ ?_ ?_ ?_).mono ?_
        · simp
        · simp [go_sem]
        · simp [go_sem]
        · rw [hdiv.out]; exact h2
        · rw [hdiv.out]; exact hu'.out
        rintro e w1 ⟨rfl, hb⟩
        go_wp2
        go_ret
        exact ⟨rfl, (Below.trans (by go_grown) (hb.mono (by simp; omega)))⟩
end Go.Proofs.Qxb6615007aFmt
