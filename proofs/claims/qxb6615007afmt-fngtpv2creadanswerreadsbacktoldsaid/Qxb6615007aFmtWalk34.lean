/-
  Seat b6615007aF: walkIEs (28) with the closure of ie (34): nil exactly where each element ends within the message; the found variable as a relation kept by each element says.
-/
import Derived.Test.Qxb6615007aFmtIe34
namespace Go.Proofs.Qxb6615007aFmt
open Go.RowKit

/-- What the variable 'found' holds. -/
def fv : Option (Addr × Nat × Nat) → Value
  | none => .slice none 0 0
  | some x => .slice (some x.1) x.2.1 x.2.2

/-- One element, seen by the closure. -/
def stepF (acc : Option (Addr × Nat × Nat)) (a b T I : Int) (x : Addr × Nat × Nat) : Option (Addr × Nat × Nat) :=
  match acc with
  | some y => some y
  | none => if a = T ∧ b = I then some x else none

theorem ie34 (a b T I : Int) (acc : Option (Addr × Nat × Nat)) (s : Addr) (m k : Nat) (B8 B4 B5 : Nat) (w : World) (h8 : w.cell? ⟨B8, 0, none⟩ = some (fv acc)) (h4 : w.cell? ⟨B4, 0, none⟩ = some (.int .u8 T)) (h5 : w.cell? ⟨B5, 0, none⟩ = some (.int .u8 I))
    (hz : w.frozen? ⟨B8, 0, none⟩ = false) :
    Calls Tryf.prog 34 #[.int .u8 a, .int .u8 b, .slice (some s) m k, .pointer (some ⟨B8, 0, none⟩), .pointer (some ⟨B4, 0, none⟩), .pointer (some ⟨B5, 0, none⟩)] w fun e w' => e = .returned (.tuple #[]) ∧
      (w'.cell? ⟨B8, 0, none⟩ = some (fv (stepF acc a b T I (s, m, k))) ∧ w'.frozen? ⟨B8, 0, none⟩ = false ∧ Below B8 w w') := by
  cases acc with
  | some y =>
    refine (ie34_full a b y.1 y.2.1 y.2.2 _ B8 B4 B5 w h8).mono ?_
    rintro e w' ⟨rfl, rfl⟩
    exact ⟨rfl, h8, hz, Below.refl _ _⟩
  | none =>
    refine (ie34_none a b T I (some s) m k B8 B4 B5 w h8 h4 h5 hz).mono ?_
    rintro e w' ⟨rfl, rfl⟩
    refine ⟨rfl, ?_⟩
    unfold stepF
    by_cases h : a = T ∧ b = I
    · simp only [if_pos h]
      exact ⟨World.cell?_setCell_same _ _ _ h8, by simpa using hz, Below.setCell (p := ⟨B8, 0, none⟩) (Below.refl B8 w) (Nat.le_refl _) _⟩
    · simp only [if_neg h]
      exact ⟨h8, hz, Below.refl _ _⟩

set_option maxRecDepth 100000 in
set_option maxHeartbeats 4000000 in
theorem walk34 (F : Stop.Interp) (A E i0 C B8 B4 B5 : Nat) (ad : Addr) (T I : Int) (Ph : Nat → Option (Addr × Nat × Nat) → Prop) (f : Nat → Int) (t s : Int) (b1 b2 : Bool) (w : World) (hF : F.answers w.tape) (hA : A < B8) (hB4 : B4 < B8) (hB5 : B5 < B8) (hB8 : B8 < w.heap.size) (q4 : w.cell? ⟨B4, 0, none⟩ = some (.int .u8 T)) (q5 : w.cell? ⟨B5, 0, none⟩ = some (.int .u8 I)) (h8 : w.cell? ⟨B8, 0, none⟩ = some (.slice none 0 0)) (hz : w.frozen? ⟨B8, 0, none⟩ = false)
    (hP0 : Ph i0 none) (hst : ∀ i acc ad k V, (f (i + 1) * 256 + f (i + 2)).toNat = V → Ph i acc → i + 4 + V ≤ E → (V = 0 ∨ ad = ⟨A, i + 4, none⟩) → Ph (i + 4 + V) (stepF acc (f i) (bits .and .u8 (f (i + 3)) 15) T I (ad, V, k)))
    (hf : ∀ i, 0 ≤ f i ∧ f i ≤ 255)
    (hc : ∀ i, i < E → w.cell? ⟨A, i, none⟩ = some (.int .u8 (f i))) (hi0 : i0 ≤ E) (hEC : E ≤ C) (hmax : (C : Int) ≤ 9223372036854775807) (had : E = i0 ∨ ad = ⟨A, i0, none⟩) :
    Calls Tryf.prog 28 #[.agg #[.int .u8 t, .int .u32 s, .slice (some ad) (E - i0) (C - i0), .bool b1, .bool b2], .func (Fn.func 34) #[] #[.pointer (some ⟨B8, 0, none⟩), .pointer (some ⟨B4, 0, none⟩), .pointer (some ⟨B5, 0, none⟩)]] w fun e w' => ∃ r, e = .returned r ∧ (wfIE f E i0 = true → r = .nilIface) ∧ (wfIE f E i0 = false → ∃ N, r = .iface 90 (.pointer (some N))) ∧ Below B8 w w' ∧ (wfIE f E i0 = true → ∃ acc, Ph E acc ∧ w'.cell? ⟨B8, 0, none⟩ = some (fv acc)) := by
  replace hc : Hid (∀ i, i < E → w.cell? ⟨A, i, none⟩ = some (.int .u8 (f i))) := hc
  replace hf : Hid (∀ i, 0 ≤ f i ∧ f i ≤ 255) := hf
  replace hst : Hid (∀ i acc ad k V, (f (i + 1) * 256 + f (i + 2)).toNat = V → Ph i acc → i + 4 + V ≤ E → (V = 0 ∨ ad = ⟨A, i + 4, none⟩) → Ph (i + 4 + V) (stepF acc (f i) (bits .and .u8 (f (i + 3)) 15) T I (ad, V, k))) := hst
  go_enter Tryf.func28, Tryf.ntmps28
  go_wp2
  go_loopg [5] (E - i0) (fun k p wr => ∃ i L P ad acc, i + L = E ∧ i + P = C ∧ p = .slice (some ad) L P ∧ (L = 0 ∨ ad = ⟨A, i, none⟩) ∧ wfIE f E i = wfIE f E i0 ∧ Below B8 w wr ∧ Ph i acc ∧ wr.cell? ⟨B8, 0, none⟩ = some (fv acc) ∧ wr.frozen? ⟨B8, 0, none⟩ = false ∧ k = L)
  case atStart => exact ⟨i0, E - i0, C - i0, ad, none, by omega, by omega, rfl, (by rcases had with h | h; exact Or.inl (by omega); exact Or.inr h), rfl, by go_grown, hP0, (Below.cell (w := w) (B := w.heap.size) (by go_grown) hB8).trans h8, (Below.frozen (w := w) (B := w.heap.size) (by go_grown) hB8).trans hz, rfl⟩
  case round =>
    obtain ⟨i, L, P, ad', acc, hL, hP, rfl, had', hwf, hB, hPh, g8, gz, hgk⟩ := hrel
    have hBs : B8 < wr.heap.size := Nat.lt_of_lt_of_le hB8 hB.size
    replace g8 : Hid (wr.cell? ⟨B8, 0, none⟩ = some (fv acc)) := g8
    replace hgk : Hid (gk = L) := hgk
    have hLP : L ≤ P := by omega
    have hPm : (P : Int) ≤ 9223372036854775807 := by omega
    replace hwf : Hid (wfIE f E i = wfIE f E i0) := hwf
    by_cases h0 : L = 0
    · have hw : Hid (wfIE f E i0 = true) := (by rw [← hwf.out, wfIE_eq, if_neg (by omega)] : wfIE f E i0 = true)
      subst h0
      go_wp2
      go_ret
      refine ⟨.nilIface, rfl, fun _ => rfl, ?_, hB, fun _ => ⟨acc, ?_, g8.out⟩⟩
      · intro h; rw [hw.out] at h; cases h
      · obtain rfl : i = E := by omega
        exact hPh
    · obtain rfl : ad' = ⟨A, i, none⟩ := had'.resolve_left h0
      have hpos : (0 : Int) < L := by omega
      have c0 : wr.cell? ⟨A, i, none⟩ = some (.int .u8 (f i)) := (hB.cell hA).trans (hc.out i (by omega))
      by_cases h4 : L < 4
      · have hw : Hid (wfIE f E i0 = false) := (by rw [← hwf.out, wfIE_eq, if_pos (by omega), if_pos (by omega)] : wfIE f E i0 = false)
        have h4' : (L : Int) < 4 := by omega
        go_wp2_with fail
        refine (errorf4 F L wr.heap.size _ ?_ ?_).mono ?_
        · show F.answers wr.tape
          rw [hB.tape]; exact hF
        · simp [go_sem]
        rintro e w' ⟨s, rfl, rfl⟩
        go_wp2
        go_ret
        refine ⟨.iface 90 (.pointer (some ⟨wr.heap.size + 1, 0, none⟩)), rfl, ?_, fun _ => ⟨_, rfl⟩, ((hB.alloc (by omega) _).alloc (by simp; omega) _).drew, ?_⟩
        · intro h; rw [hw.out] at h; cases h
        · intro h; rw [hw.out] at h; cases h
      · have hw : Hid (wfIE f E i0 = (if E < i + 4 + (f (i + 1) * 256 + f (i + 2)).toNat then false else wfIE f E (i + 4 + (f (i + 1) * 256 + f (i + 2)).toNat))) := (by rw [← hwf.out, wfIE_eq, if_pos (by omega), if_neg (by omega)] : wfIE f E i0 = (if E < i + 4 + (f (i + 1) * 256 + f (i + 2)).toNat then false else wfIE f E (i + 4 + (f (i + 1) * 256 + f (i + 2)).toNat)))
        have c1 : wr.cell? ⟨A, i + 1, none⟩ = some (.int .u8 (f (i + 1))) := (hB.cell hA).trans (hc.out (i + 1) (by omega))
        have c2 : wr.cell? ⟨A, i + 2, none⟩ = some (.int .u8 (f (i + 2))) := (hB.cell hA).trans (hc.out (i + 2) (by omega))
        have c3 : wr.cell? ⟨A, i + 3, none⟩ = some (.int .u8 (f (i + 3))) := (hB.cell hA).trans (hc.out (i + 3) (by omega))
        obtain ⟨V, hV⟩ : ∃ V : Nat, f (i + 1) * 256 + f (i + 2) = (V : Int) := ⟨(f (i + 1) * 256 + f (i + 2)).toNat, by have := hf.out (i + 1); have := hf.out (i + 2); omega⟩
        have hV1 : (V : Int) ≤ 65535 := by have := hf.out (i + 1); have := hf.out (i + 2); omega
        rw [hV] at hw
        simp only [Int.toNat_natCast] at hw
        have hA' : A < wr.heap.size := by omega
        have H25 : Hid (∀ w1 : World, Below wr.heap.size wr w1 → Calls Tryf.prog 25 #[.agg #[], .slice (some ⟨A, i + 1, none⟩) 2 (P - 1)] w1 fun e w' => e = .returned (.int .u16 V) ∧ w' = (w1.alloc (.cells #[] 68)).drew) := (fun w1 hb => by
          have := u16_25 A (i + 1) 2 (P - 1) (f (i + 1)) (f (i + 2)) w1 (Nat.lt_of_lt_of_le hA' hb.size) (by decide) ((hb.cell hA').trans c1) ((hb.cell hA').trans c2) (hf.out _) (hf.out _)
          rwa [hV] at this : ∀ w1 : World, Below wr.heap.size wr w1 → Calls Tryf.prog 25 #[.agg #[], .slice (some ⟨A, i + 1, none⟩) 2 (P - 1)] w1 fun e w' => e = .returned (.int .u16 V) ∧ w' = (w1.alloc (.cells #[] 68)).drew)
        replace hV : Hid (f (i + 1) * 256 + f (i + 2) = (V : Int)) := hV
        have h4' : ¬ ((L : Int) < 4) := by omega
        have hP1 : ¬ P = 1 := by omega
        have hP3 : (3 : Int) ≤ P := by omega
        go_wp2_with fail
        go_region_with (go_at_call 25; refine (H25.out _ ?_).mono ?_; go_grown; rintro e w' ⟨rfl, rfl⟩)
        by_cases hV4 : L < 4 + V
        · have hV4' : (L : Int) < 4 + V := by omega
          have hw' : Hid (wfIE f E i0 = false) := (by rw [hw.out, if_pos (by omega)] : wfIE f E i0 = false)
          go_wp2_with fail
          refine (errorf5 F (f i) (wr.heap.size + 1) _ ?_ ?_).mono ?_
          · show F.answers wr.tape
            rw [hB.tape]; exact hF
          · simp [go_sem]
          rintro e w' ⟨s, rfl, rfl⟩
          go_wp2
          go_ret
          refine ⟨.iface 90 (.pointer (some ⟨wr.heap.size + 1 + 1, 0, none⟩)), rfl, ?_, fun _ => ⟨_, rfl⟩, ?_, ?_⟩
          · intro h; rw [hw'.out] at h; cases h
          · refine hB.trans (Below.mono (B := wr.heap.size) ?_ (by omega))
            go_grown
          · intro h; rw [hw'.out] at h; cases h
        · have hV4' : ¬ ((L : Int) < 4 + V) := by omega
          have hw' : Hid (wfIE f E i0 = wfIE f E (i + 4 + V)) := (by rw [hw.out, if_neg (by omega)] : wfIE f E i0 = wfIE f E (i + 4 + V))
          have hx3 : (3 : Int) < L := by omega
          go_wp2_with fail
          have hPV : ((4 : Int) + V) ≤ P := by omega
          have hvt : (f (i + 1) * 256 + f (i + 2)).toNat = V := by rw [hV.out]; rfl
          have H34 : Hid (∀ (sa : Addr) (m k : Nat) (w1 : World), Below wr.heap.size wr w1 → m = V → (V = 0 ∨ sa = ⟨A, i + 4, none⟩) → Calls Tryf.prog 34 #[.int .u8 (f i), .int .u8 (bits .and .u8 (f (i + 3)) 15), .slice (some sa) m k, .pointer (some ⟨B8, 0, none⟩), .pointer (some ⟨B4, 0, none⟩), .pointer (some ⟨B5, 0, none⟩)] w1 fun e w' => e = .returned (.tuple #[]) ∧ Hid (∃ acc, Ph (i + 4 + V) acc ∧ w'.cell? ⟨B8, 0, none⟩ = some (fv acc) ∧ w'.frozen? ⟨B8, 0, none⟩ = false ∧ Below B8 w w')) := by
            rintro sa m k w1 hb rfl hsa
            refine (ie34 (f i) (bits .and .u8 (f (i + 3)) 15) T I acc sa _ k B8 B4 B5 w1 ((hb.cell hBs).trans g8.out) ?_ ?_ ?_).mono ?_
            · exact (hb.cell (Nat.lt_trans hB4 hBs)).trans ((hB.cell hB4).trans q4)
            · exact (hb.cell (Nat.lt_trans hB5 hBs)).trans ((hB.cell hB5).trans q5)
            · rw [hb.frozen hBs]; exact gz
            · rintro e w' ⟨rfl, k8, kz, kb⟩
              exact ⟨rfl, _, hst.out i acc sa k _ hvt hPh (by omega) hsa, k8, kz, (hB.trans (hb.mono (Nat.le_of_lt hBs))).trans kb⟩
          replace hPh : Hid (Ph i acc) := hPh
          have hgr : Hid (Below wr.heap.size wr (wr.alloc (.cells #[] 68)).drew.drew.drew) := ((((Below.refl _ _).alloc (Nat.le_refl _) _).drew).drew).drew
          by_cases hP4 : P = 4
          · go_region_with (go_at_call 34; refine (H34.out _ _ _ _ ?_ ?_ ?_).mono ?_; exact hgr.out; omega; (left; omega); rintro e w' ⟨rfl, hG⟩)
            all_goals go_wp2_with fail
            all_goals go_roundg (L - (4 + V))
            all_goals first
              | (have := hgk.out; omega)
              | (obtain ⟨acc', k1, k2, k3, k4⟩ := hG.out
                 refine ⟨i + 4 + V, L - (4 + V), _, _, acc', by omega, ?_, rfl, ?_, ?_, k4, k1, k2, k3, rfl⟩
                 · omega
                 · first | (left; omega) | (right; rw [Nat.add_assoc])
                 · exact hw'.out.symm)
          · go_region_with (go_at_call 34; refine (H34.out _ _ _ _ ?_ ?_ ?_).mono ?_; exact hgr.out; omega; (right; rfl); rintro e w' ⟨rfl, hG⟩)
            all_goals go_wp2_with fail
            all_goals go_roundg (L - (4 + V))
            all_goals first
              | (have := hgk.out; omega)
              | (obtain ⟨acc', k1, k2, k3, k4⟩ := hG.out
                 refine ⟨i + 4 + V, L - (4 + V), _, _, acc', by omega, ?_, rfl, ?_, ?_, k4, k1, k2, k3, rfl⟩
                 · omega
                 · first | (left; omega) | (right; rw [Nat.add_assoc])
                 · exact hw'.out.symm)
end Go.Proofs.Qxb6615007aFmt
