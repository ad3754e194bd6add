/-
  Seat b6614922aD: the body's bytes; the comparison of two slices of bytes; the test on the length.
-/
import Derived.Test.Qxb6614922aDoorRec2
namespace Go.Proofs.Qxb6614922aDoor
open Go.RowKit Go.Maps

set_option maxHeartbeats 400000 in
theorem bytes20 (s ct : Int) (ao : Option Addr) (n c : Nat) (hn : n ≤ maxLen) (w : World) :
    Calls Tryd.prog 20 #[.int .i64 s, .slice ao n c, .int .i64 ct] w fun e w' => (e = .returned (.bool true) ∨ e = .returned (.bool false)) ∧ w' = w := by
  unfold maxLen at hn
  by_cases h1 : 1048576 < (n : Int)
  · go_enter Tryd.func20, Tryd.ntmps20
    go_wp2
    go_ret
    exact ⟨by simp, rfl⟩
  · go_enter Tryd.func20, Tryd.ntmps20
    go_wp2
    go_ret
    exact ⟨by simp, rfl⟩

set_option maxRecDepth 100000 in
set_option maxHeartbeats 400000 in
theorem body25 (T : TypeId) (R : Nat → Option Value) (B b q : Nat) (bs : List Value) (w : World) (h : LibA.IsBuffer T R 5 B b q bs w) (h1 : ∀ v ∈ bs, v.oneCell' = true) :
    Calls Tryd.prog 25 #[.pointer (some ⟨b, q, none⟩)] w fun e w' => ∃ v n, e = .returned v ∧ SrcOf b bs v w ∧ w' = w.drewN n := by
  obtain ⟨hB, lr2, hc⟩ := h.cases
  rcases hc with ⟨hb0, hbk2⟩ | ⟨g, cap, cur, hbk2, -, hg, hnc, hcm, hcs, htk, hgb⟩
  · subst hb0
    have c0 : w.cell? ⟨b, q, none⟩ = some (.slice none 0 0) := hbk2.c0
    have c1 : w.cell? ⟨b, q + 1, none⟩ = some (.int .i64 0) := hbk2.c1
    go_enter Tryd.func25, Tryd.ntmps25
    go_wp2
    go_quiet (fail)
    go_wp2
    go_ret
    exact ⟨_, _, rfl, Or.inl ⟨rfl, rfl⟩, rfl⟩
  · have c0 : w.cell? ⟨b, q, none⟩ = some (.slice (some ⟨g, 0, none⟩) bs.length cap) := hbk2.c0
    have c1 : w.cell? ⟨b, q + 1, none⟩ = some (.int .i64 0) := hbk2.c1
    unfold maxLen at hcm
    go_enter Tryd.func25, Tryd.ntmps25
    go_wp2
    go_quiet (fail)
    go_wp2
    go_ret
    refine ⟨_, _, rfl, Or.inr ⟨⟨g, 0, none⟩, _, _, rfl, rfl, hgb, fun j v hj => ?_, h1⟩, rfl⟩
    have e : cur[j]? = some v := by
      rw [← htk, List.getElem?_take] at hj
      split at hj
      · simpa using hj
      · cases hj
    by_cases hj0 : j = 0
    · subst hj0; simpa [Addr.add, World.cell?, hg] using e
    · simpa [Addr.add, hj0, World.cell?, hg] using e

set_option maxHeartbeats 400000 in
theorem body16 (m : Nat) (s : Int) (sent : Option Nat) (B b : Nat) (bs : List Value) (w : World) (h : RecAt m s sent B b bs w) (h1 : ∀ v ∈ bs, v.oneCell' = true) :
    Calls Tryd.prog 16 #[.pointer (some ⟨b, 0, none⟩)] w fun e w' => ∃ v n, e = .returned v ∧ SrcOf b bs v w ∧ w' = w.drewN n := by
  go_enter Tryd.func16, Tryd.ntmps16
  go_wp2_with fail
  refine (body25 61 _ B b 3 bs w h h1).mono ?_
  rintro e w1 ⟨v, n, rfl, hs, rfl⟩
  go_wp2
  go_ret
  exact ⟨_, _, rfl, hs, rfl⟩

/-- What a loop over such a slice wants to know of it. -/
theorem SrcOf.view {b : Nat} {cs : List Value} {p : Value} {w : World} (h : SrcOf b cs p w) :
    (∃ ao c, p = .slice ao 0 c ∧ cs = []) ∨ (∃ bk off c, p = .slice (some ⟨bk, off, none⟩) cs.length c ∧ 0 < cs.length ∧ bk ≠ b ∧ ∀ j v, cs[j]? = some v → w.cell? ⟨bk, off + j, none⟩ = some v) := by
  rcases h with ⟨rfl, rfl⟩ | ⟨a, n, c, rfl, rfl, h3, h4, h5⟩
  · exact Or.inl ⟨_, _, rfl, rfl⟩
  · by_cases h0 : cs.length = 0
    · obtain rfl : cs = [] := List.eq_nil_of_length_eq_zero h0
      exact Or.inl ⟨_, _, rfl, rfl⟩
    · obtain ⟨v0, hv0⟩ : ∃ v, cs[0]? = some v := ⟨_, List.getElem?_eq_getElem (by omega)⟩
      obtain ⟨bk, off, sp⟩ := a
      have := h4 0 v0 hv0
      cases sp with
      | some x =>
        exfalso
        simp [Addr.add, World.cell?] at this
        split at this <;> cases this
      | none =>
        refine Or.inr ⟨bk, off, c, rfl, by omega, h3, fun j v hj => ?_⟩
        have := h4 j v hj
        by_cases hj0 : j = 0
        · subst hj0; simpa [Addr.add] using this
        · simpa [Addr.add, hj0] using this

set_option maxRecDepth 100000 in
set_option maxHeartbeats 400000 in
theorem bytesEq (b1 b2 : Nat) (zs : List Int) (p1 p2 : Value) (w : World) (hm : zs.length ≤ 140737488355328) (hs1 : SrcOf b1 (zs.map (Value.int .u8)) p1 w) (hs2 : SrcOf b2 (zs.map (Value.int .u8)) p2 w) :
    Calls Tryd.prog 17 #[p1, p2] w fun e w' => e = .returned (.bool true) ∧ ∃ n, w' = w.drewN n := by
  rcases hs1.view with ⟨ao, c, rfl, h0⟩ | ⟨bk, off, c, rfl, hp, -, hc⟩
  · rcases hs2.view with ⟨ao2, c2, rfl, h02⟩ | ⟨bk2, off2, c2, rfl, hp2, -, hc2⟩
    · go_enter Tryd.func17, Tryd.ntmps17
      go_wp2
      refine wp_loop_rounds 1 ?_
      rw [rounds_succ]
      go_wp2
      go_ret
      exact ⟨rfl, 0, rfl⟩
    · rw [h0] at hp2; simp at hp2
  · rcases hs2.view with ⟨ao2, c2, rfl, h02⟩ | ⟨bk2, off2, c2, rfl, hp2, -, hc2⟩
    · rw [h02] at hp; simp at hp
    · rw [List.length_map] at *
      have d1 : ∀ j, j < zs.length → w.cell? ⟨bk, off + j, none⟩ = some (.int .u8 (zs.getD j 0)) := fun j h => hc j _ (by simp [h])
      have d2 : ∀ j, j < zs.length → w.cell? ⟨bk2, off2 + j, none⟩ = some (.int .u8 (zs.getD j 0)) := fun j h => hc2 j _ (by simp [h])
      clear hc hc2 hs1 hs2
      generalize hN : zs.length = N at *
      go_enter Tryd.func17, Tryd.ntmps17
      go_wp2
      go_loopw [5] (fun i wr => ∃ k n : Nat, k ≤ N ∧ i = .int .i64 k ∧ wr = w.drewN n) (fun i _ => N - (intOf i).toNat)
      case atStart => exact ⟨0, 0, Nat.zero_le _, rfl, rfl⟩
      case round =>
        obtain ⟨k, n, hk, rfl, rfl⟩ := hrel
        by_cases hlt : k < N
        · have e1 := d1 k hlt
          have e2 := d2 k hlt
          generalize zs.getD k 0 = z at e1 e2
          clear d1 d2
          go_wp2
          go_quiet (fail)
          go_wp2
          exact ⟨⟨k + 1, _, by omega, by go_num, rfl⟩, by simp [intOf]; omega⟩
        · go_wp2
          go_ret
          exact ⟨rfl, n, rfl⟩
end Go.Proofs.Qxb6614922aDoor
