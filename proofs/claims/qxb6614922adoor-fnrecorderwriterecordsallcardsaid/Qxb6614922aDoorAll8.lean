/-
  Seat b6614922aD: FnRecorderWriteRecordsAll: the ways on which the law answers ahead of all work; what comes in, opened.
-/
import Derived.Test.Qxb6614922aDoorAll6
import Derived.ProofKit
import Derived.SliceStrings
import Derived.Deep.Slices
namespace Go.Proofs.Qxb6614922aDoor
open Go.RowKit Go.Maps

set_option maxRecDepth 100000 in
set_option maxHeartbeats 1000000 in
theorem all_early (a0 a1 a3 a4 : Option Addr) (n0 c0 n1 c1 n3 c3 n4 c4 : Nat) (s : Int) (ss : List ByteArray) (V : List Value) (SS : List (List ByteArray)) (w : World)
    (h : Came w (.slice a0 n0 c0) (.slice a1 n1 c1) ss V SS) (h0 : n0 ≤ maxLen) (h1 : n1 ≤ maxLen) (h3 : n3 ≤ maxLen) (h4 : n4 ≤ maxLen) (hb : 65536 < n0 ∨ 65536 < n1 ∨ 65536 < n3 ∨ 65536 < n4) :
    Calls Tryd.prog 4 #[.slice a0 n0 c0, .slice a1 n1 c1, .int .i64 s, .slice a3 n3 c3, .slice a4 n4 c4] w fun e w' => e = .returned (.bool true) ∧ Below w.heap.size w w' := by
  have H8 := bytes8 a0 a1 a3 a4 n0 c0 n1 c1 n3 c3 n4 c4 s ss V SS w h h0 h1 h3 h4
  unfold maxLen at *
  by_cases g0 : (65536 : Int) < (n0 : Int)
  · go_enter Tryd.func4, Tryd.ntmps4
    go_wp2_with fail
    refine H8.mono ?_
    rintro e w' ⟨⟨rfl, -, -, -⟩ | rfl, rfl⟩
    all_goals
      go_wp2_with fail
      go_ret
      exact ⟨rfl, Below.refl _ _⟩
  by_cases g1 : (65536 : Int) < (n1 : Int)
  · go_enter Tryd.func4, Tryd.ntmps4
    go_wp2_with fail
    refine H8.mono ?_
    rintro e w' ⟨⟨rfl, -, -, -⟩ | rfl, rfl⟩
    all_goals
      go_wp2_with fail
      go_ret
      exact ⟨rfl, Below.refl _ _⟩
  by_cases g3 : (65536 : Int) < (n3 : Int)
  · go_enter Tryd.func4, Tryd.ntmps4
    go_wp2_with fail
    refine H8.mono ?_
    rintro e w' ⟨⟨rfl, -, -, -⟩ | rfl, rfl⟩
    all_goals
      go_wp2_with fail
      go_ret
      exact ⟨rfl, Below.refl _ _⟩
  have g4 : (65536 : Int) < (n4 : Int) := by omega
  go_enter Tryd.func4, Tryd.ntmps4
  go_wp2_with fail
  refine H8.mono ?_
  rintro e w' ⟨⟨rfl, -, -, -⟩ | rfl, rfl⟩
  all_goals
    go_wp2_with fail
    go_ret
    exact ⟨rfl, Below.refl _ _⟩

theorem cells_of_add {w : World} {a : Addr} {cs : List Value} {c : Nat} (h : ∀ j v, cs[j]? = some v → w.cell? (a.add j) = some v) : Cells w (.slice (some a) cs.length c) cs := by
  by_cases h0 : cs.length = 0
  · obtain rfl : cs = [] := List.eq_nil_of_length_eq_zero h0
    exact Or.inl ⟨_, _, rfl, rfl⟩
  · obtain ⟨v0, hv0⟩ : ∃ v, cs[0]? = some v := ⟨_, List.getElem?_eq_getElem (by omega)⟩
    obtain ⟨bk, off, sp⟩ := a
    have := h 0 v0 hv0
    cases sp with
    | some x =>
      exfalso
      simp [Addr.add, World.cell?] at this
      split at this <;> cases this
    | none =>
      refine Or.inr ⟨bk, off, c, rfl, by omega, fun j v hj => ?_⟩
      have := h j v hj
      by_cases hj0 : j = 0
      · subst hj0; simpa [Addr.add] using this
      · simpa [Addr.add, hj0] using this

section
variable {H : Type} {enc : TypeId × Value → H} {w : World} {base : Nat} {spare : Nat → Bool} {held : Bool}
theorem strs_open {fuel : Nat} {v : Value} {x : DataW H × List MemPlace} (h : DataW.trod enc Tryd.prog w base spare held fuel 28 [v] = some x) : ∃ (a : Option Addr) (ss : List ByteArray) (c : Nat), v = .slice a ss.length c ∧ Cells w v (ss.map Value.string) ∧ ss.length ≤ maxLen := by
  rcases Go.ChangeShapes.open_strings Tryd.underlying28 Tryd.underlying9 (by kernel_rfl) h with ⟨hcs, _⟩ | ⟨a, len, cap, ss, hcs, _, hl, hm, hz, _, hcell, _⟩
  · simp at hcs
    subst hcs
    exact ⟨none, [], 0, rfl, Or.inl ⟨_, _, rfl, rfl⟩, Nat.zero_le _⟩
  · simp at hcs
    subst hcs
    have hle : len ≤ ss.length := by rw [hz]; split <;> omega
    have hl2 : (ss.take len).length = len := by simp; omega
    refine ⟨some a, ss.take len, cap, by rw [hl2], ?_, by rw [hl2]; omega⟩
    have h1 : ∀ j u, ((ss.take len).map Value.string)[j]? = some u → w.cell? (a.add j) = some u := by
      intro j u hj
      rw [List.getElem?_map, List.getElem?_take] at hj
      split at hj
      · rename_i hjl
        have hj2 : j < ss.length := by omega
        have := hcell j hj2
        rw [List.getElem?_eq_getElem hj2] at hj
        simp at hj
        rw [this, ← hj]
        simp [hj2]
      · simp at hj
    have h2 := cells_of_add (c := cap) h1
    rwa [List.length_map, hl2] at h2

theorem vals_open {fuel : Nat} {v : Value} {x : DataW H × List MemPlace} (h : DataW.trod enc Tryd.prog w base spare held fuel 29 [v] = some x) :
    ∃ (a : Option Addr) (V : List Value) (c : Nat) (SS : List (List ByteArray)), v = .slice a V.length c ∧ Cells w v V ∧ V.length ≤ maxLen ∧ V.length = SS.length ∧ ∀ i, i < V.length → Cells w (V.getD i (.slice none 0 0)) ((SS.getD i []).map Value.string) := by
  rcases Go.Deep.open_slice1 Tryd.underlying29 (by kernel_rfl) h with ⟨hcs, _⟩ | ⟨a, len, cap, m, n, V, D, Pl, hcs, _, hl, hm, hmm, _, hx⟩
  · simp at hcs
    subst hcs
    exact ⟨none, [], 0, [], rfl, Or.inl ⟨_, _, rfl, rfl⟩, Nat.zero_le _, rfl, by simp⟩
  · simp at hcs
    subst hcs
    have hle : len ≤ m := by rw [hmm]; split <;> omega
    obtain ⟨S, hS⟩ := Go.Deep.choose_lt (α := List ByteArray) (n := len) (p := fun i s => Cells w (V i) (s.map Value.string)) (fun i hi => by
      obtain ⟨_, ss, _, _, hc, _⟩ := strs_open (hx i (by omega)).2
      exact ⟨ss, hc⟩)
    have hl2 : ((List.range len).map V).length = len := by simp
    refine ⟨some a, (List.range len).map V, cap, (List.range len).map S, by rw [hl2], ?_, by rw [hl2]; omega, by simp, fun i hi => ?_⟩
    · have h1 : ∀ j u, ((List.range len).map V)[j]? = some u → w.cell? (a.add j) = some u := by
        intro j u hj
        have hjl : j < len := by have := (List.getElem?_eq_some_iff.1 hj).1; omega
        rw [List.getElem?_map, List.getElem?_range hjl] at hj
        simp at hj
        rw [← hj]
        exact (hx j (by omega)).1
      have h2 := cells_of_add (c := cap) h1
      rwa [hl2] at h2
    · rw [hl2] at hi
      have e1 : ((List.range len).map V).getD i (.slice none 0 0) = V i := by simp [hi]
      have e2 : ((List.range len).map S).getD i [] = S i := by simp [hi]
      rw [e1, e2]
      exact hS i hi
end
end Go.Proofs.Qxb6614922aDoor
