/-
  Seat b6615007aF: FnGtpv2cReadAnswerReadsBack (3) returns true at every datagram.
-/
import Derived.Test.Qxb6615007aFmtWalk3
import Derived.Test.Qxb6615007aFmtSecond
import Derived.OpenShut
namespace Go.Proofs.Qxb6615007aFmt
open Go.RowKit

theorem holds_vns (w w' : World) (k b0 b1 : Int) (h : Below (w.heap.size + 8) ((rw w k b0 b1).alloc (.cells vnsC 5)) w') : Holds (w.heap.size + 7) 8 vnsF w' := by
  have hs := h.size
  simp at hs
  refine ⟨by omega, fun i hi => (h.cell (by show w.heap.size + 7 < _; omega)).trans ?_⟩
  match i, hi with
  | 0, _ | 1, _ | 2, _ | 3, _ | 4, _ | 5, _ | 6, _ | 7, _ => simp [go_sem, vnsF]

theorem echoC_at (s k : Int) : ∀ i, i < 13 → (echoC s k)[i]? = some (.int .u8 (echoF s k i)) := by
  intro i hi
  match i, hi with
  | 0, _ | 1, _ | 2, _ | 3, _ | 4, _ | 5, _ | 6, _ | 7, _ | 8, _ | 9, _ | 10, _ | 11, _ | 12, _ => simp [echoF]

theorem law3_big (F : Stop.Interp) (ad : Addr) (Ab o n c : Nat) (f : Nat → Int) (k k2 : Int) (w : World) (hF : F.answers w.tape) (hk : 0 ≤ k ∧ k ≤ 255) (hn : n ≤ 1048576) (hn8 : (8 : Int) ≤ n) (had : ad = ⟨Ab, o, none⟩ ∧ Ab < w.heap.size)
    (hc : ∀ i, i < n → w.cell? ⟨Ab, o + i, none⟩ = some (.int .u8 (f i))) (hf : ∀ i, 0 ≤ f i ∧ f i ≤ 255) :
    Calls Tryf.prog 3 #[.slice (some ad) n c, .int .u8 k, .int .u8 k2] w fun e w' => e = .returned (.bool true) ∧ Below w.heap.size w w' := by
  have hm : (n : Int) ≤ 1048576 := by omega
  have hFw : ∀ w1 : World, Below w.heap.size w w1 → F.answers w1.tape := fun w1 hb => by rw [hb.tape]; exact hF
  by_cases hv : f 0 / 32 = 2
  · have dv2 : (f 0 / 32 != 2) = false := by simp [hv]
    have h7 : ∀ fr, frB n (hlB (f 0)) (f 2 * 256 + f 3) (f 0) = fr → H7 w.heap.size n f fr (hlB (f 0)) (4 + (f 2 * 256 + f 3)) := by
      intro fr hfr w1 h1
      have := frame7_v2 w.heap.size n n f _ _ w1 hn8 (by omega) hf h1.2 hv rfl (hlB_int _)
      rwa [hfr] at this
    cases hfr : frB n (hlB (f 0)) (f 2 * 256 + f 3) (f 0) with
    | false => exact walk3_C ad Ab o n c f k k2 _ _ w hn hn8 (Or.inr had) hc dv2 (h7 false hfr) fun w1 hb h1 => zz_bad F w.heap.size n f k w1 (hFw w1 hb) h1 hn8 hm hf hv hfr
    | true =>
      obtain ⟨E, hE⟩ : ∃ E : Nat, 4 + (f 2 * 256 + f 3) = (E : Int) := ⟨(4 + (f 2 * 256 + f 3)).toNat, by have := hf 2; have := hf 3; omega⟩
      have hfr' := hfr
      unfold frB at hfr'
      simp only [Bool.and_eq_true, Bool.or_eq_true, decide_eq_true_eq] at hfr'
      have hhE : hlB (f 0) ≤ E := by have := hfr'.1.1; omega
      have hEn : E ≤ n := by have := hfr'.1.2; omega
      replace h7 := h7 true hfr
      by_cases h1 : f 1 = 1
      · have q1 : (f 1 == 1) = true := by simp [h1]
        have h24 := and24 (f 0) (hf 0)
        by_cases hq : bits .and .u8 (f 0) 24 = 0
        · have q24 : (bits .and .u8 (f 0) 24 == 0) = true := by simp [hq]
          obtain ⟨h8, h16⟩ := h24.1 hq
          have hh8 : hlB (f 0) = 8 := if_pos h8
          have hr : (decide (f 1 = 1) && !(bits .and .u8 (f 0) 8 != 0) && !(bits .and .u8 (f 0) 16 != 0) && wfIE f E (hlB (f 0))) = wfIE f E (hlB (f 0)) := by simp [h1, h8, h16]
          have H8' : H8 w.heap.size n f (wfIE f E (hlB (f 0))) (hlB (f 0)) (4 + (f 2 * 256 + f 3)) := fun w1 hh => by
            rw [hE]
            exact ies8 w.heap.size n n E (hlB (f 0)) f w1 hh.1 hEn hm hhE hf hh.2
          have H9' : H9 w.heap.size n f (hlB (f 0)) (sqB f (hlB (f 0))) := fun w1 hh => by
            rw [hh8]
            exact seq9 w.heap.size n n f w1 hn8 hf hh.2
          cases hwf : wfIE f E (hlB (f 0)) with
          | false =>
            rw [hwf] at H8'
            exact walk3_G ad Ab o n c f k k2 _ _ _ w hn hn8 (Or.inr had) hc dv2 q1 q24 h7 H8' H9' fun w1 hb hh => zz_other F w.heap.size n E f k w1 (hFw w1 hb) hh hn8 hm hf hv hfr hE hhE hEn (hr.trans hwf)
          | true =>
            rw [hwf] at H8'
            refine walk3_H ad Ab o n c f k k2 _ _ _ (echoF (sqB f (hlB (f 0))) k) w hn hn8 (Or.inr had) hc dv2 q1 q24 h7 H8' H9' (fun w1 hb hh => ?_) (fun N w1 hb hh => ?_)
            · refine (zz_echo F w.heap.size n E f k w1 (hFw w1 hb) hh hn8 hm hf hv hfr hE hhE hEn (hr.trans hwf)).mono ?_
              rintro e w' ⟨N, rfl, hb', hN, hcs⟩
              exact ⟨N, rfl, hb', hN, fun i hi => hcs i _ (echoC_at _ _ i hi)⟩
            · refine zz_resp F N _ k k2 w1 (hFw w1 hb) ?_ hk hh
              rw [hh8]
              have a4 := hf 4; have a5 := hf 5; have a6 := hf 6
              unfold sqB
              simp only [Nat.reduceSub]
              omega
        · have q24 : (bits .and .u8 (f 0) 24 == 0) = false := by simpa using hq
          refine walk3_E ad Ab o n c f k k2 _ _ w hn hn8 (Or.inr had) hc dv2 q1 q24 h7 fun w1 hb hh => zz_other F w.heap.size n E f k w1 (hFw w1 hb) hh hn8 hm hf hv hfr hE hhE hEn ?_
          by_cases h8 : bits .and .u8 (f 0) 8 = 0
          · have h16 : ¬ bits .and .u8 (f 0) 16 = 0 := fun h => hq (h24.2 ⟨h8, h⟩)
            have e16 : (bits .and .u8 (f 0) 16 != 0) = true := by simpa using h16
            rw [e16]; simp
          · have e8 : (bits .and .u8 (f 0) 8 != 0) = true := by simpa using h8
            rw [e8]; simp
      · have q1 : (f 1 == 1) = false := by simpa using h1
        exact walk3_D ad Ab o n c f k k2 _ _ w hn hn8 (Or.inr had) hc dv2 q1 h7 fun w1 hb hh => zz_other F w.heap.size n E f k w1 (hFw w1 hb) hh hn8 hm hf hv hfr hE hhE hEn (by rw [decide_eq_false h1]; rfl)
  · have dv2 : (f 0 / 32 != 2) = true := by simpa using hv
    have h7 : H7 w.heap.size n f false 0 0 := fun w1 hh => (frame7_foreign w.heap.size n n (f 0) w1 hn8 (hh.2 0 (by omega)) hv).mono fun e w' ⟨he, hw⟩ => ⟨he, by rw [hw]; exact Below.refl _ _⟩
    by_cases h1 : f 0 / 32 = 1
    · have dv1 : (f 0 / 32 != 1) = false := by simp [h1]
      refine walk3_A ad Ab o n c f k k2 _ _ w hn hn8 (Or.inr had) hc dv2 dv1 h7 fun w1 hb hh => ?_
      refine (zz10_no w.heap.size n n (f 0) (f 1) k w1 hh.1 hn8 (hh.2 0 (by omega)) (hh.2 1 (by omega)) hv (by simp [unsB, h1])).mono ?_
      rintro e w' ⟨rfl, hb'⟩
      exact ⟨⟨_, _, _, _, _, _, _, _, _, rfl⟩, hb'⟩
    · have dv1 : (f 0 / 32 != 1) = true := by simpa using h1
      by_cases h3 : f 1 = 3
      · have d3 : (f 1 != 3) = false := by simp [h3]
        refine walk3_B ad Ab o n c f k k2 _ _ w hn hn8 (Or.inr had) hc dv2 dv1 d3 h7 fun w1 hb hh => ?_
        refine (zz10_no w.heap.size n n (f 0) (f 1) k w1 hh.1 hn8 (hh.2 0 (by omega)) (hh.2 1 (by omega)) hv (by simp [unsB, h3])).mono ?_
        rintro e w' ⟨rfl, hb'⟩
        exact ⟨⟨_, _, _, _, _, _, _, _, _, rfl⟩, hb'⟩
      · have d3 : (f 1 != 3) = true := by simpa using h3
        refine walk3_I ad Ab o n c f k k2 _ _ vnsF w hn hn8 (Or.inr had) hc dv2 dv1 d3 h7 (fun w1 hb hh => ?_) (fun N w1 hb hh => zz_vns F N k2 w1 (hFw w1 hb) hh)
        refine (zz10_yes w.heap.size n n (f 0) (f 1) k w1 hh.1 hn8 (hh.2 0 (by omega)) (hh.2 1 (by omega)) hv (by simp [unsB, h1, h3])).mono ?_
        rintro e w' ⟨rfl, hb', hb2⟩
        exact ⟨_, rfl, hb', holds_vns w1 w' k (f 0) (f 1) hb2⟩

theorem law3 (F : Stop.Interp) (a : Option Addr) (n c : Nat) (k k2 : Int) (w : World) (hF : F.answers w.tape) (hk : 0 ≤ k ∧ k ≤ 255)
    (hrow : (a = none ∧ n = 0 ∧ c = 0) ∨ ∃ (x : Addr) (zs : List Int), a = some x ∧ n ≤ c ∧ c ≤ maxLen ∧ zs.length = c ∧ (∀ i, i < zs.length → w.cell? (x.add i) = some (.int .u8 (zs.getD i 0))) ∧ ∀ z ∈ zs, (Lit.int .u8 z).wf = true) :
    Calls Tryf.prog 3 #[.slice a n c, .int .u8 k, .int .u8 k2] w fun e w' => e = .returned (.bool true) ∧ Below w.heap.size w w' := by
  rcases hrow with ⟨rfl, rfl, rfl⟩ | ⟨x, zs, rfl, hnc, hcm, hzl, hcell, hwf⟩
  · exact walk3_short none none 0 0 0 k k2 w (by decide) ((clone6_nil w).mono fun e w' ⟨he, hw⟩ => ⟨he, by rw [hw]; exact Below.refl _ _⟩) fun w1 hb => zz_short F none 0 0 k w1 (by rw [hb.tape]; exact hF) (by decide)
  · unfold maxLen at hcm
    by_cases hn : n ≤ 1048576
    · by_cases h0 : n = 0
      · subst h0
        refine walk3_short (some x) (some ⟨w.heap.size, 0, none⟩) 0 c 0 k k2 w (by decide) ((clone6 x 0 0 0 c (fun _ => 0) w (by decide) (Or.inl rfl) (fun i hi => absurd hi (Nat.not_lt_zero i))).mono fun e w' ⟨he, hb, _⟩ => ⟨he, hb⟩) fun w1 hb => zz_short F _ 0 0 k w1 (by rw [hb.tape]; exact hF) (by decide)
      · obtain ⟨Ab, o, rfl, hcs⟩ := ints_at hcell (by omega)
        have hA : Ab < w.heap.size := block_lt_of_cell (hcs 0 (by omega))
        have hc' : ∀ i, i < n → w.cell? ⟨Ab, o + i, none⟩ = some (.int .u8 (zs.getD i 0)) := fun i hi => hcs i (by omega)
        have hf : ∀ i, 0 ≤ zs.getD i 0 ∧ zs.getD i 0 ≤ 255 := by
          intro i
          by_cases hi : i < zs.length
          · have := hwf (zs.getD i 0) (by rw [List.getD_eq_getElem?_getD, List.getElem?_eq_getElem hi]; exact List.getElem_mem hi)
            have : IntKind.u8.min ≤ zs.getD i 0 ∧ zs.getD i 0 ≤ IntKind.u8.max := by simpa [Lit.wf] using this
            exact this
          · rw [List.getD_eq_getElem?_getD, List.getElem?_eq_none (by omega)]; simp
        by_cases h8 : (8 : Int) ≤ n
        · exact law3_big F _ Ab o n c _ k k2 w hF hk hn h8 ⟨rfl, hA⟩ hc' hf
        · exact walk3_short (some ⟨Ab, o, none⟩) (some ⟨w.heap.size, 0, none⟩) n c n k k2 w (by omega) ((clone6 _ Ab o n c _ w hn (Or.inr ⟨rfl, hA⟩) hc').mono fun e w' ⟨he, hb, _⟩ => ⟨he, hb⟩) fun w1 hb => zz_short F _ n n k w1 (by rw [hb.tape]; exact hF) (by omega)
    · exact walk3_long (some x) n c k k2 w hn (by omega)
end Go.Proofs.Qxb6615007aFmt
