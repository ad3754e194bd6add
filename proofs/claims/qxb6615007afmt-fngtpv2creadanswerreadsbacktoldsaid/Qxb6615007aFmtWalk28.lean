/-
  Seat b6615007aF: walkIEs (28) with the visit that does nothing (29): nil exactly where each element ends within the message.
-/
import Derived.Test.Qxb6615007aFmtBits
import Derived.Deep.RegionWith
import Derived.Deep.LoopGhost
import Derived.Deep.DeepCutAuto
import Derived.BigQuiet
namespace Go.Proofs.Qxb6615007aFmt
open Go.RowKit

/-- Do the elements from i on each end within E? (g: fuel.) -/
def wfN (f : Nat → Int) (E : Nat) : Nat → Nat → Bool
  | 0, _ => true
  | g + 1, i =>
    if i < E then
      if E - i < 4 then false
      else if E < i + 4 + (f (i + 1) * 256 + f (i + 2)).toNat then false
      else wfN f E g (i + 4 + (f (i + 1) * 256 + f (i + 2)).toNat)
    else true

theorem wfN_fuel (f : Nat → Int) (E : Nat) : ∀ g h i, E - i < g → E - i < h → wfN f E g i = wfN f E h i
  | 0, _, _, hg, _ => absurd hg (Nat.not_lt_zero _)
  | _ + 1, 0, _, _, hh => absurd hh (Nat.not_lt_zero _)
  | g + 1, h + 1, i, hg, hh => by
    unfold wfN
    by_cases h1 : i < E
    · rw [if_pos h1, if_pos h1, wfN_fuel f E g h (i + 4 + (f (i + 1) * 256 + f (i + 2)).toNat) (by omega) (by omega)]
    · rw [if_neg h1, if_neg h1]

/-- Do the elements from i on each end within E? -/
def wfIE (f : Nat → Int) (E i : Nat) : Bool := wfN f E (E - i + 1) i

theorem wfIE_eq (f : Nat → Int) (E i : Nat) : wfIE f E i =
    (if i < E then if E - i < 4 then false else if E < i + 4 + (f (i + 1) * 256 + f (i + 2)).toNat then false else wfIE f E (i + 4 + (f (i + 1) * 256 + f (i + 2)).toNat) else true) := by
  unfold wfIE
  by_cases h1 : i < E
  · rw [if_pos h1, wfN, if_pos h1]
    by_cases h2 : E - i < 4
    · rw [if_pos h2, if_pos h2]
    · rw [if_neg h2, if_neg h2, wfN_fuel f E (E - i) (E - (i + 4 + (f (i + 1) * 256 + f (i + 2)).toNat) + 1) _ (by omega) (by omega)]
  · rw [if_neg h1, wfN, if_neg h1]

set_option maxRecDepth 100000 in
set_option maxHeartbeats 1000000 in
theorem nop29 (a b : Int) (v : Value) (w : World) : Calls Tryf.prog 29 #[.int .u8 a, .int .u8 b, v] w fun e w' => e = .returned (.tuple #[]) ∧ w' = w := by
  go_enter Tryf.func29, Tryf.ntmps29
  go_wp2
  go_returns
  exact ⟨rfl, rfl⟩

set_option maxRecDepth 100000 in
set_option maxHeartbeats 4000000 in
theorem walk28 (F : Stop.Interp) (A E i0 C : Nat) (ad : Addr) (f : Nat → Int) (t s : Int) (b1 b2 : Bool) (w : World) (hF : F.answers w.tape) (hA : A < w.heap.size) (hf : ∀ i, 0 ≤ f i ∧ f i ≤ 255)
    (hc : ∀ i, i < E → w.cell? ⟨A, i, none⟩ = some (.int .u8 (f i))) (hi0 : i0 ≤ E) (hEC : E ≤ C) (hmax : (C : Int) ≤ 9223372036854775807) (had : E = i0 ∨ ad = ⟨A, i0, none⟩) :
    Calls Tryf.prog 28 #[.agg #[.int .u8 t, .int .u32 s, .slice (some ad) (E - i0) (C - i0), .bool b1, .bool b2], .func (Fn.func 29) #[] #[]] w fun e w' => ∃ r, e = .returned r ∧ (wfIE f E i0 = true → r = .nilIface) ∧ (wfIE f E i0 = false → ∃ N, r = .iface 90 (.pointer (some N))) ∧ Below w.heap.size w w' := by
  replace hc : Hid (∀ i, i < E → w.cell? ⟨A, i, none⟩ = some (.int .u8 (f i))) := hc
  replace hf : Hid (∀ i, 0 ≤ f i ∧ f i ≤ 255) := hf
  go_enter Tryf.func28, Tryf.ntmps28
  go_wp2
  go_loopg [5] (E - i0) (fun k p wr => ∃ i L P ad, i + L = E ∧ i + P = C ∧ p = .slice (some ad) L P ∧ (L = 0 ∨ ad = ⟨A, i, none⟩) ∧ wfIE f E i = wfIE f E i0 ∧ Below w.heap.size w wr ∧ k = L)
  case atStart => exact ⟨i0, E - i0, C - i0, ad, by omega, by omega, rfl, (by rcases had with h | h; exact Or.inl (by omega); exact Or.inr h), rfl, by go_grown, rfl⟩
  case round =>
    obtain ⟨i, L, P, ad', hL, hP, rfl, had', hwf, hB, hgk⟩ := hrel
    replace hgk : Hid (gk = L) := hgk
    have hLP : L ≤ P := by omega
    have hPm : (P : Int) ≤ 9223372036854775807 := by omega
    replace hwf : Hid (wfIE f E i = wfIE f E i0) := hwf
    by_cases h0 : L = 0
    · have hw : Hid (wfIE f E i0 = true) := (by rw [← hwf.out, wfIE_eq, if_neg (by omega)] : wfIE f E i0 = true)
      subst h0
      go_wp2
      go_ret
      refine ⟨.nilIface, rfl, fun _ => rfl, ?_, hB⟩
      intro h; rw [hw.out] at h; cases h
    · obtain rfl : ad' = ⟨A, i, none⟩ := had'.resolve_left h0
      have hpos : (0 : Int) < L := by omega
      have c0 : wr.cell? ⟨A, i, none⟩ = some (.int .u8 (f i)) := (hB.cell hA).trans (hc.out i (by omega))
      by_cases h4 : L < 4
      · have hw : Hid (wfIE f E i0 = false) := (by rw [← hwf.out, wfIE_eq, if_pos (by omega), if_pos (by omega)] : wfIE f E i0 = false)
        have h4' : (L : Int) < 4 := by omega
        go_wp2_with fail
        refine (errorf4 F L wr.heap.size _ ?_ ?_).mono ?_
        · show F.answers wr.tape
          rw [hB.tape]; exact hF
        · simp [go_sem]
        rintro e w' ⟨s, rfl, rfl⟩
        go_wp2
        go_ret
        refine ⟨.iface 90 (.pointer (some ⟨wr.heap.size + 1, 0, none⟩)), rfl, ?_, fun _ => ⟨_, rfl⟩, ((hB.alloc hB.size _).alloc (by have := hB.size; simp; omega) _).drew⟩
        intro h; rw [hw.out] at h; cases h
      · have hw : Hid (wfIE f E i0 = (if E < i + 4 + (f (i + 1) * 256 + f (i + 2)).toNat then false else wfIE f E (i + 4 + (f (i + 1) * 256 + f (i + 2)).toNat))) := (by rw [← hwf.out, wfIE_eq, if_pos (by omega), if_neg (by omega)] : wfIE f E i0 = (if E < i + 4 + (f (i + 1) * 256 + f (i + 2)).toNat then false else wfIE f E (i + 4 + (f (i + 1) * 256 + f (i + 2)).toNat)))
        have c1 : wr.cell? ⟨A, i + 1, none⟩ = some (.int .u8 (f (i + 1))) := (hB.cell hA).trans (hc.out (i + 1) (by omega))
        have c2 : wr.cell? ⟨A, i + 2, none⟩ = some (.int .u8 (f (i + 2))) := (hB.cell hA).trans (hc.out (i + 2) (by omega))
        have c3 : wr.cell? ⟨A, i + 3, none⟩ = some (.int .u8 (f (i + 3))) := (hB.cell hA).trans (hc.out (i + 3) (by omega))
        obtain ⟨V, hV⟩ : ∃ V : Nat, f (i + 1) * 256 + f (i + 2) = (V : Int) := ⟨(f (i + 1) * 256 + f (i + 2)).toNat, by have := hf.out (i + 1); have := hf.out (i + 2); omega⟩
        have hV1 : (V : Int) ≤ 65535 := by have := hf.out (i + 1); have := hf.out (i + 2); omega
        rw [hV] at hw
        simp only [Int.toNat_natCast] at hw
        have hA' : A < wr.heap.size := Nat.lt_of_lt_of_le hA hB.size
        have H25 : Hid (∀ w1 : World, Below wr.heap.size wr w1 → Calls Tryf.prog 25 #[.agg #[], .slice (some ⟨A, i + 1, none⟩) 2 (P - 1)] w1 fun e w' => e = .returned (.int .u16 V) ∧ w' = (w1.alloc (.cells #[] 68)).drew) := (fun w1 hb => by
          have := u16_25 A (i + 1) 2 (P - 1) (f (i + 1)) (f (i + 2)) w1 (Nat.lt_of_lt_of_le hA' hb.size) (by decide) ((hb.cell hA').trans c1) ((hb.cell hA').trans c2) (hf.out _) (hf.out _)
          rwa [hV] at this : ∀ w1 : World, Below wr.heap.size wr w1 → Calls Tryf.prog 25 #[.agg #[], .slice (some ⟨A, i + 1, none⟩) 2 (P - 1)] w1 fun e w' => e = .returned (.int .u16 V) ∧ w' = (w1.alloc (.cells #[] 68)).drew)
        replace hV : Hid (f (i + 1) * 256 + f (i + 2) = (V : Int)) := hV
        have h4' : ¬ ((L : Int) < 4) := by omega
        have hP1 : ¬ P = 1 := by omega
        have hP3 : (3 : Int) ≤ P := by omega
        go_wp2_with fail
        go_region_with (go_at_call 25; refine (H25.out _ ?_).mono ?_; go_grown; rintro e w' ⟨rfl, rfl⟩)
        by_cases hV4 : L < 4 + V
        · have hV4' : (L : Int) < 4 + V := by omega
          have hw' : Hid (wfIE f E i0 = false) := (by rw [hw.out, if_pos (by omega)] : wfIE f E i0 = false)
          go_wp2_with fail
          refine (errorf5 F (f i) (wr.heap.size + 1) _ ?_ ?_).mono ?_
          · show F.answers wr.tape
            rw [hB.tape]; exact hF
          · simp [go_sem]
          rintro e w' ⟨s, rfl, rfl⟩
          go_wp2
          go_ret
          refine ⟨.iface 90 (.pointer (some ⟨wr.heap.size + 1 + 1, 0, none⟩)), rfl, ?_, fun _ => ⟨_, rfl⟩, ?_⟩
          · intro h; rw [hw'.out] at h; cases h
          · refine hB.trans (Below.mono (B := wr.heap.size) ?_ hB.size)
            go_grown
        · have hV4' : ¬ ((L : Int) < 4 + V) := by omega
          have hw' : Hid (wfIE f E i0 = wfIE f E (i + 4 + V)) := (by rw [hw.out, if_neg (by omega)] : wfIE f E i0 = wfIE f E (i + 4 + V))
          have hx3 : (3 : Int) < L := by omega
          go_wp2_with fail
          have hPV : ((4 : Int) + V) ≤ P := by omega
          have hgrow : Hid (∀ m, Below w.heap.size w ((wr.alloc (.cells #[] 68)).drewN m)) := (fun m => (hB.alloc hB.size _).trans ⟨rfl, rfl, rfl, Nat.le_refl _, fun _ _ => rfl⟩ : ∀ m, Below w.heap.size w ((wr.alloc (.cells #[] 68)).drewN m))
          by_cases hP4 : P = 4
          · go_quiet ((go_at_call 29; exact (nop29 _ _ _ _).mono fun e w' h => ⟨h.1, _, h.2⟩))
            go_wp2_with fail
            all_goals go_roundg (L - (4 + V))
            all_goals first
              | (have := hgk.out; omega)
              | (refine ⟨i + 4 + V, L - (4 + V), _, _, by omega, ?_, rfl, ?_, ?_, ?_, rfl⟩
                 · omega
                 · exact Or.inl (by omega)
                 · exact hw'.out.symm
                 · exact hgrow.out _)
          · go_quiet ((go_at_call 29; exact (nop29 _ _ _ _).mono fun e w' h => ⟨h.1, _, h.2⟩))
            go_wp2_with fail
            all_goals go_roundg (L - (4 + V))
            all_goals first
              | (have := hgk.out; omega)
              | (refine ⟨i + 4 + V, L - (4 + V), _, _, by omega, ?_, rfl, ?_, ?_, ?_, rfl⟩
                 · omega
                 · first | (left; omega) | (right; rw [Nat.add_assoc])
                 · exact hw'.out.symm
                 · exact hgrow.out _)
end Go.Proofs.Qxb6615007aFmt
