/-
  Seat b6615007aF: ie (31), Recovery (22), IsEchoRequest (19).
-/
import Derived.Test.Qxb6615007aFmtWalk34
namespace Go.Proofs.Qxb6615007aFmt
open Go.RowKit

set_option maxRecDepth 100000 in
set_option maxHeartbeats 4000000 in
theorem ie31 (F : Stop.Interp) (A E i0 C : Nat) (ad : Addr) (T I : Int) (Ph : Nat → Option (Addr × Nat × Nat) → Prop) (f : Nat → Int) (t s : Int) (b1 b2 : Bool) (w : World) (hF : F.answers w.tape) (hA : A < w.heap.size)
    (hP0 : Ph i0 none) (hst : ∀ i acc ad k V, (f (i + 1) * 256 + f (i + 2)).toNat = V → Ph i acc → i + 4 + V ≤ E → (V = 0 ∨ ad = ⟨A, i + 4, none⟩) → Ph (i + 4 + V) (stepF acc (f i) (bits .and .u8 (f (i + 3)) 15) T I (ad, V, k)))
    (hf : ∀ i, 0 ≤ f i ∧ f i ≤ 255)
    (hc : ∀ i, i < E → w.cell? ⟨A, i, none⟩ = some (.int .u8 (f i))) (hi0 : i0 ≤ E) (hEC : E ≤ C) (hmax : (C : Int) ≤ 9223372036854775807) (had : E = i0 ∨ ad = ⟨A, i0, none⟩) :
    Calls Tryf.prog 31 #[.agg #[.int .u8 t, .int .u32 s, .slice (some ad) (E - i0) (C - i0), .bool b1, .bool b2], .int .u8 T, .int .u8 I] w fun e w' => ((∃ N, e = .returned (.tuple #[.slice none 0 0, .iface 90 (.pointer (some N))]) ∧ (wfIE f E i0 = true → Ph E none)) ∨ (∃ x, e = .returned (.tuple #[.slice (some x.1) x.2.1 x.2.2, .nilIface]) ∧ Ph E (some x))) ∧ Below w.heap.size w w' := by
  have W34 : Hid (∀ (B8 B4 B5 : Nat) (w1 : World), Below w.heap.size w w1 → w.heap.size ≤ B8 → B4 < B8 → B5 < B8 → B8 < w1.heap.size → w1.cell? ⟨B4, 0, none⟩ = some (.int .u8 T) → w1.cell? ⟨B5, 0, none⟩ = some (.int .u8 I) → w1.cell? ⟨B8, 0, none⟩ = some (.slice none 0 0) → w1.frozen? ⟨B8, 0, none⟩ = false →
      Calls Tryf.prog 28 #[.agg #[.int .u8 t, .int .u32 s, .slice (some ad) (E - i0) (C - i0), .bool b1, .bool b2], .func (Fn.func 34) #[] #[.pointer (some ⟨B8, 0, none⟩), .pointer (some ⟨B4, 0, none⟩), .pointer (some ⟨B5, 0, none⟩)]] w1 fun e w' => ∃ r, e = .returned r ∧ (wfIE f E i0 = true → r = .nilIface) ∧ (wfIE f E i0 = false → ∃ N, r = .iface 90 (.pointer (some N))) ∧ Below B8 w1 w' ∧ (wfIE f E i0 = true → ∃ acc, Ph E acc ∧ w'.cell? ⟨B8, 0, none⟩ = some (fv acc))) := by
    intro B8 B4 B5 w1 hb h1 h2 h3 h4 q4 q5 q8 qz
    refine walk34 F A E i0 C B8 B4 B5 ad T I Ph f t s b1 b2 w1 ?_ (by omega) h2 h3 h4 q4 q5 q8 qz hP0 hst hf ?_ hi0 hEC hmax had
    · rw [hb.tape]; exact hF
    · intro i hi; exact (hb.cell hA).trans (hc i hi)
  clear hst hc hf
  have qs := qsl
  cases hwf : wfIE f E i0 with
  | false =>
    rw [hwf] at W34
    clear hwf
    go_enter Tryf.func31, Tryf.ntmps31
    go_wp2_with fail
    refine (W34.out _ _ _ _ ?_ ?_ ?_ ?_ ?_ ?_ ?_ ?_ ?_).mono ?_
    · go_grown
    · omega
    · omega
    · omega
    · simp
    · simp [go_sem]
    · simp [go_sem]
    · simp [go_sem]
    · simp [go_sem]
    rintro e w' ⟨r, rfl, -, hr, hb, -⟩
    obtain ⟨N, rfl⟩ := hr trivial
    clear hr
    go_wp2
    go_returns
    refine ⟨Or.inl ⟨N, rfl, fun h => by cases h⟩, Below.trans ?_ (hb.mono (by omega))⟩
    go_grown
  | true =>
    rw [hwf] at W34
    clear hwf
    go_enter Tryf.func31, Tryf.ntmps31
    go_wp2_with fail
    refine (W34.out _ _ _ _ ?_ ?_ ?_ ?_ ?_ ?_ ?_ ?_ ?_).mono ?_
    · go_grown
    · omega
    · omega
    · omega
    · simp
    · simp [go_sem]
    · simp [go_sem]
    · simp [go_sem]
    · simp [go_sem]
    rintro e w' ⟨r, rfl, hr, -, hb, hcel⟩
    obtain rfl := hr trivial
    clear hr
    obtain ⟨acc, hPE, c8⟩ := hcel trivial
    clear hcel
    have hB : Below w.heap.size w w' := Below.trans (by go_grown) (hb.mono (by omega))
    have c4 : w'.cell? ⟨w.heap.size + 1, 0, none⟩ = some (.int .u8 T) := (hb.cell (by show w.heap.size + 1 < _; omega)).trans (by simp [go_sem])
    have c5 : w'.cell? ⟨w.heap.size + 1 + 1, 0, none⟩ = some (.int .u8 I) := (hb.cell (by show w.heap.size + 1 + 1 < _; omega)).trans (by simp [go_sem])
    clear W34
    cases acc with
    | none =>
      replace c8 : w'.cell? ⟨w.heap.size + 1 + 1 + 1, 0, none⟩ = some (.slice none 0 0) := c8
      go_wp2_with fail
      refine (errorf6 F T I w'.heap.size _ ?_ ?_ ?_).mono ?_
      · show F.answers w'.tape
        rw [hB.tape]; exact hF
      · simp [go_sem]
      · simp [go_sem]
      rintro e w2 ⟨s, rfl, rfl⟩
      go_wp2
      go_returns
      refine ⟨Or.inl ⟨_, rfl, fun _ => hPE⟩, ((hB.alloc hB.size _).alloc (by have := hB.size; simp; omega) _).drew⟩
    | some x =>
      replace c8 : w'.cell? ⟨w.heap.size + 1 + 1 + 1, 0, none⟩ = some (.slice (some x.1) x.2.1 x.2.2) := c8
      go_wp2
      go_returns
      exact ⟨Or.inr ⟨x, rfl, hPE⟩, hB⟩

set_option maxRecDepth 100000 in
set_option maxHeartbeats 1000000 in
theorem new32 (s : ByteArray) (w : World) : Calls Tryf.prog 32 #[.string s] w fun e w' => e = .returned (.iface 90 (.pointer (some ⟨w.heap.size, 0, none⟩))) ∧ w' = w.alloc (.cells #[.string s] 92) := by
  go_enter Tryf.func32, Tryf.ntmps32
  go_wp2
  go_ret
  exact ⟨rfl, rfl⟩

set_option maxRecDepth 100000 in
set_option maxHeartbeats 4000000 in
theorem rec22 (F : Stop.Interp) (A E i0 C : Nat) (ad : Addr) (Ph : Nat → Option (Addr × Nat × Nat) → Prop) (f : Nat → Int) (t s : Int) (b1 b2 : Bool) (w : World) (hF : F.answers w.tape) (hA : A < w.heap.size)
    (hP0 : Ph i0 none) (hst : ∀ i acc ad k V, (f (i + 1) * 256 + f (i + 2)).toNat = V → Ph i acc → i + 4 + V ≤ E → (V = 0 ∨ ad = ⟨A, i + 4, none⟩) → Ph (i + 4 + V) (stepF acc (f i) (bits .and .u8 (f (i + 3)) 15) 3 0 (ad, V, k)))
    (hf : ∀ i, 0 ≤ f i ∧ f i ≤ 255)
    (hc : ∀ i, i < E → w.cell? ⟨A, i, none⟩ = some (.int .u8 (f i))) (hi0 : i0 ≤ E) (hEC : E ≤ C) (hmax : (C : Int) ≤ 9223372036854775807) (had : E = i0 ∨ ad = ⟨A, i0, none⟩)
    (hsome : ∀ x, Ph E (some x) → x.2.1 = 0 ∨ ∃ o, x.1 = ⟨A, o, none⟩ ∧ o < E) :
    Calls Tryf.prog 22 #[.agg #[.int .u8 t, .int .u32 s, .slice (some ad) (E - i0) (C - i0), .bool b1, .bool b2]] w fun e w' => ((∃ N, e = .returned (.tuple #[.int .u8 0, .iface 90 (.pointer (some N))]) ∧ ((wfIE f E i0 = true → Ph E none) ∨ ∃ x, Ph E (some x) ∧ x.2.1 = 0)) ∨ (∃ x o, e = .returned (.tuple #[.int .u8 (f o), .nilIface]) ∧ Ph E (some x) ∧ x.1 = ⟨A, o, none⟩)) ∧ Below w.heap.size w w' := by
  have W31 : Hid (∀ (w1 : World), Below w.heap.size w w1 → Calls Tryf.prog 31 #[.agg #[.int .u8 t, .int .u32 s, .slice (some ad) (E - i0) (C - i0), .bool b1, .bool b2], .int .u8 3, .int .u8 0] w1 fun e w' => ((∃ N, e = .returned (.tuple #[.slice none 0 0, .iface 90 (.pointer (some N))]) ∧ (wfIE f E i0 = true → Ph E none)) ∨ (∃ x, e = .returned (.tuple #[.slice (some x.1) x.2.1 x.2.2, .nilIface]) ∧ Ph E (some x))) ∧ Below w1.heap.size w1 w') := by
    intro w1 hb
    refine ie31 F A E i0 C ad 3 0 Ph f t s b1 b2 w1 ?_ (Nat.lt_of_lt_of_le hA hb.size) hP0 hst hf ?_ hi0 hEC hmax had
    · rw [hb.tape]; exact hF
    · intro i hi; exact (hb.cell hA).trans (hc i hi)
  replace hc : Hid (∀ i, i < E → w.cell? ⟨A, i, none⟩ = some (.int .u8 (f i))) := hc
  replace hsome : Hid (∀ x, Ph E (some x) → x.2.1 = 0 ∨ ∃ o, x.1 = ⟨A, o, none⟩ ∧ o < E) := hsome
  clear hst hf
  go_enter Tryf.func22, Tryf.ntmps22
  go_wp2_with fail
  refine (W31.out _ ?_).mono ?_
  · go_grown
  rintro e w' ⟨(⟨N, rfl, hN⟩ | ⟨x, rfl, hx⟩), hb⟩
  · replace hN : Hid (wfIE f E i0 = true → Ph E none) := hN
    have hB : Below w.heap.size w w' := Below.trans (by go_grown) (hb.mono (by simp))
    clear W31
    go_wp2
    go_returns
    exact ⟨Or.inl ⟨N, rfl, Or.inl hN.out⟩, hB⟩
  · obtain ⟨xa, m, k⟩ := x
    have hB : Below w.heap.size w w' := Below.trans (by go_grown) (hb.mono (by simp))
    clear W31
    by_cases hm : m = 0
    · subst hm
      go_wp2_with fail
      refine (new32 _ _).mono ?_
      rintro e w2 ⟨rfl, rfl⟩
      go_wp2
      go_returns
      exact ⟨Or.inl ⟨_, rfl, Or.inr ⟨_, hx, rfl⟩⟩, hB.alloc hB.size _⟩
    · obtain ⟨o, ho, hoE⟩ := (hsome.out _ hx).resolve_left hm
      simp only at ho
      subst ho
      have hm' : (0 : Int) < m := by omega
      have co : w'.cell? ⟨A, o, none⟩ = some (.int .u8 (f o)) := (hB.cell hA).trans (hc.out o hoE)
      go_wp2
      go_returns
      exact ⟨Or.inr ⟨_, o, rfl, hx, rfl⟩, hB⟩

set_option maxRecDepth 100000 in
set_option maxHeartbeats 4000000 in
theorem isEcho19 (F : Stop.Interp) (A E i0 C : Nat) (ad : Addr) (f : Nat → Int) (t s : Int) (b1 b2 : Bool) (w : World) (hF : F.answers w.tape) (hA : A < w.heap.size) (hf : ∀ i, 0 ≤ f i ∧ f i ≤ 255)
    (hc : ∀ i, i < E → w.cell? ⟨A, i, none⟩ = some (.int .u8 (f i))) (hi0 : i0 ≤ E) (hEC : E ≤ C) (hmax : (C : Int) ≤ 9223372036854775807) (had : E = i0 ∨ ad = ⟨A, i0, none⟩) :
    Calls Tryf.prog 19 #[.agg #[.int .u8 t, .int .u32 s, .slice (some ad) (E - i0) (C - i0), .bool b1, .bool b2]] w fun e w' => e = .returned (.bool (decide (t = 1) && !b1 && !b2 && wfIE f E i0)) ∧ Below w.heap.size w w' := by
  have W28 : Hid (∀ (w1 : World), Below w.heap.size w w1 → Calls Tryf.prog 28 #[.agg #[.int .u8 t, .int .u32 s, .slice (some ad) (E - i0) (C - i0), .bool b1, .bool b2], .func (Fn.func 29) #[] #[]] w1 fun e w' => ∃ r, e = .returned r ∧ (wfIE f E i0 = true → r = .nilIface) ∧ (wfIE f E i0 = false → ∃ N, r = .iface 90 (.pointer (some N))) ∧ Below w1.heap.size w1 w') := by
    intro w1 hb
    refine walk28 F A E i0 C ad f t s b1 b2 w1 ?_ (Nat.lt_of_lt_of_le hA hb.size) hf ?_ hi0 hEC hmax had
    · rw [hb.tape]; exact hF
    · intro i hi; exact (hb.cell hA).trans (hc i hi)
  clear hc hf
  by_cases ht : t = 1
  · subst ht
    cases b1 with
    | true =>
      clear W28
      go_enter Tryf.func19, Tryf.ntmps19
      go_wp2
      go_ret
      exact ⟨by simp, by go_grown⟩
    | false =>
      cases b2 with
      | true =>
        clear W28
        go_enter Tryf.func19, Tryf.ntmps19
        go_wp2
        go_ret
        exact ⟨by simp, by go_grown⟩
      | false =>
        cases hwf : wfIE f E i0 with
        | true =>
          rw [hwf] at W28
          clear hwf
          go_enter Tryf.func19, Tryf.ntmps19
          go_wp2_with fail
          refine (W28.out _ ?_).mono ?_
          · go_grown
          rintro e w' ⟨r, rfl, hr, -, hb⟩
          obtain rfl := hr trivial
          clear hr
          have hB : Below w.heap.size w w' := Below.trans (by go_grown) (hb.mono (by simp))
          go_wp2
          go_ret
          exact ⟨rfl, hB⟩
        | false =>
          rw [hwf] at W28
          clear hwf
          go_enter Tryf.func19, Tryf.ntmps19
          go_wp2_with fail
          refine (W28.out _ ?_).mono ?_
          · go_grown
          rintro e w' ⟨r, rfl, -, hr, hb⟩
          obtain ⟨N, rfl⟩ := hr trivial
          clear hr
          have hB : Below w.heap.size w w' := Below.trans (by go_grown) (hb.mono (by simp))
          go_wp2
          go_ret
          exact ⟨rfl, hB⟩
  · clear W28
    go_enter Tryf.func19, Tryf.ntmps19
    go_wp2
    go_ret
    exact ⟨by simp [ht], by go_grown⟩
end Go.Proofs.Qxb6615007aFmt
