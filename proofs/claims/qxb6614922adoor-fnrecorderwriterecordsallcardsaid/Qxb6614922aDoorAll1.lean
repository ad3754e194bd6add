/-
  Seat b6614922aD: FnRecorderWriteRecordsAll: the small functions.
-/
import Derived.Test.Qxb6614922aDoorCut
import Derived.Test.Qxb6614922aDoorMaths
import Derived.Lib.LazyBuf
namespace Go.Proofs.Qxb6614922aDoor
open Go.RowKit Go.Maps

/-- The slice value v holds the cells cs. -/
def Cells (w : World) (v : Value) (cs : List Value) : Prop :=
  (∃ ao c, v = .slice ao 0 c ∧ cs = []) ∨ (∃ bk off c, v = .slice (some ⟨bk, off, none⟩) cs.length c ∧ 0 < cs.length ∧ ∀ j u, cs[j]? = some u → w.cell? ⟨bk, off + j, none⟩ = some u)

theorem Cells.shape {w : World} {v : Value} {cs : List Value} (h : Cells w v cs) : ∃ ao c, v = .slice ao cs.length c := by
  rcases h with ⟨ao, c, rfl, rfl⟩ | ⟨bk, off, c, rfl, _⟩
  · exact ⟨_, _, rfl⟩
  · exact ⟨_, _, rfl⟩
theorem Cells.keep {w w' : World} {v : Value} {cs : List Value} (h : Cells w v cs) (hk : ∀ a u, w.cell? a = some u → w'.cell? a = some u) : Cells w' v cs := by
  rcases h with h | ⟨bk, off, c, h1, h2, h3⟩
  · exact Or.inl h
  · exact Or.inr ⟨bk, off, c, h1, h2, fun j u hj => hk _ _ (h3 j u hj)⟩
theorem lt_of_cell {w : World} {a : Addr} {u : Value} (h : w.cell? a = some u) : a.block < w.heap.size := by
  unfold World.cell? at h
  split at h
  · rename_i e; exact Lib.lt_of_heap e
  · cases h
theorem cell_of_block {w w' : World} {a : Addr} {u : Value} (h : w.cell? a = some u) (e : w'.heap[a.block]? = w.heap[a.block]?) : w'.cell? a = some u := by
  unfold World.cell? at h ⊢
  rw [e]; exact h
theorem Cells.below {w w' : World} {v : Value} {cs : List Value} (h : Cells w v cs) (hb : Below w.heap.size w w') : Cells w' v cs :=
  h.keep fun _ _ hc => cell_of_block hc (hb.block _ (lt_of_cell hc))
theorem Cells.grownNone {w w' : World} {v : Value} {cs : List Value} (h : Cells w v cs) (hg : w.grownBy w' none) : Cells w' v cs :=
  h.keep fun _ _ hc => hg.cell hc (by simp)
/-- A store into a map leaves every cell. -/
theorem Cells.grownMap {w w' : World} {v : Value} {cs : List Value} {m : Nat} {es : Array MapEntry} {ck : Nat} (h : Cells w v cs) (hg : w.grownBy w' (some m)) (hm : w.heap[m]? = some (.map es ck)) : Cells w' v cs :=
  h.keep fun a _ hc => hg.cell hc (fun e => by
    have : a.block = m := by simpa using e
    unfold World.cell? at hc
    rw [this, hm] at hc
    cases hc)
theorem map_heap {w : World} {k : TypeId} {H : Type} {R : Value → Option (DataW H × List MemPlace)} {m n : Nat} {D : DataW H} (h : w.ownsMap Tryd.prog k R m n D) : ∃ es ck, w.heap[m]? = some (.map es ck) := by
  obtain ⟨es, ck, hb, _⟩ := h
  exact ⟨es, ck, hb⟩
theorem Cells.drewN {w : World} {v : Value} {cs : List Value} (h : Cells w v cs) (n : Nat) : Cells (w.drewN n) v cs := h

set_option maxHeartbeats 400000 in
theorem valAt (v : Value) (V : List Value) (i : Nat) (w : World) (h : Cells w v V) :
    Calls Tryd.prog 10 #[v, .int .i64 i] w fun e w' => e = .returned (V.getD i (.slice none 0 0)) ∧ w' = w := by
  rcases h with ⟨ao, c, rfl, rfl⟩ | ⟨bk, off, c, rfl, hp, hc⟩
  · go_enter Tryd.func10, Tryd.ntmps10
    go_wp2
    go_ret
    exact ⟨by simp, rfl⟩
  · by_cases hlt : i < V.length
    · have c1 : w.cell? ⟨bk, off + i, none⟩ = some (V.getD i (.slice none 0 0)) := hc i _ (by simp [hlt])
      generalize V.getD i (.slice none 0 0) = u at c1 ⊢
      clear hc
      go_enter Tryd.func10, Tryd.ntmps10
      go_wp2
      go_ret
      exact ⟨rfl, rfl⟩
    · have e : V.getD i (.slice none 0 0) = .slice none 0 0 := by simp; rw [List.getElem?_eq_none (by omega)]; rfl
      rw [e]
      clear hc
      go_enter Tryd.func10, Tryd.ntmps10
      go_wp2
      go_ret
      exact ⟨rfl, rfl⟩

set_option maxHeartbeats 400000 in
theorem hasPre (s p : ByteArray) (w : World) :
    Calls Tryd.prog 11 #[.string s, .string p] w fun e w' => e = .returned (.bool (Lib.hasPrefix s.data.toList p.data.toList)) ∧ w' = w := by
  rw [← Lib.hasPrefix_of_take, ← Lib.size_eq, ← Lib.size_eq]
  go_enter Tryd.func11, Tryd.ntmps11
  go_wp2
  · rename_i h
    go_ret
    refine ⟨?_, rfl⟩
    show Ending.returned (Value.bool ((s.extract 0 p.size).toList == p.toList)) = _
    rw [Lib.extract_toList, Lib.toList_data]
    simp [h]
  · rename_i h
    go_ret
    refine ⟨?_, rfl⟩
    show Ending.returned (Value.bool false) = _
    simp [h]

set_option maxRecDepth 100000 in
set_option maxHeartbeats 400000 in
theorem strsEq (ss : List ByteArray) (p1 p2 : Value) (w : World) (hm : ss.length ≤ 140737488355328) (hs1 : Cells w p1 (ss.map Value.string)) (hs2 : Cells w p2 (ss.map Value.string)) :
    Calls Tryd.prog 19 #[p1, p2] w fun e w' => e = .returned (.bool true) ∧ ∃ n, w' = w.drewN n := by
  rcases hs1 with ⟨ao, c, rfl, h0⟩ | ⟨bk, off, c, rfl, hp, hc⟩
  · rcases hs2 with ⟨ao2, c2, rfl, h02⟩ | ⟨bk2, off2, c2, rfl, hp2, hc2⟩
    · go_enter Tryd.func19, Tryd.ntmps19
      go_wp2
      refine wp_loop_rounds 1 ?_
      rw [rounds_succ]
      go_wp2
      go_ret
      exact ⟨rfl, 0, rfl⟩
    · rw [h0] at hp2; simp at hp2
  · rcases hs2 with ⟨ao2, c2, rfl, h02⟩ | ⟨bk2, off2, c2, rfl, hp2, hc2⟩
    · rw [h02] at hp; simp at hp
    · rw [List.length_map] at *
      have d1 : ∀ j, j < ss.length → w.cell? ⟨bk, off + j, none⟩ = some (.string (ss.getD j ⟨#[]⟩)) := fun j h => hc j _ (by simp [h])
      have d2 : ∀ j, j < ss.length → w.cell? ⟨bk2, off2 + j, none⟩ = some (.string (ss.getD j ⟨#[]⟩)) := fun j h => hc2 j _ (by simp [h])
      clear hc hc2
      generalize hN : ss.length = N at *
      go_enter Tryd.func19, Tryd.ntmps19
      go_wp2
      go_loopw [5] (fun i wr => ∃ k n : Nat, k ≤ N ∧ i = .int .i64 k ∧ wr = w.drewN n) (fun i _ => N - (intOf i).toNat)
      case atStart => exact ⟨0, 0, Nat.zero_le _, rfl, rfl⟩
      case round =>
        obtain ⟨k, n, hk, rfl, rfl⟩ := hrel
        by_cases hlt : k < N
        · have e1 := d1 k hlt
          have e2 := d2 k hlt
          generalize ss.getD k ⟨#[]⟩ = z at e1 e2
          clear d1 d2
          go_wp2
          go_quiet (fail)
          go_wp2
          exact ⟨⟨k + 1, _, by omega, by go_num, rfl⟩, by simp [intOf]; omega⟩
        · go_wp2
          go_ret
          exact ⟨rfl, n, rfl⟩

set_option maxRecDepth 100000 in
set_option maxHeartbeats 400000 in
theorem cloneStrs_some (a : Addr) (N cp : Nat) (C : List Value) (w : World) (hN : C.length = N) (hm : N ≤ 4294967296) (h1 : ∀ v ∈ C, v.oneCell' = true) (hc : ∀ j v, C[j]? = some v → w.cell? (a.add j) = some v) :
    Calls Tryd.prog 9 #[.slice (some a) N cp] w fun e w' => e = .returned (.slice (some ⟨w.heap.size, 0, none⟩) N N) ∧ w'.heap[w.heap.size]? = some (.cells C.toArray 9 (0, 0)) ∧ Below w.heap.size w w' := by
  have qs : ∀ (w : World) (a : Option Addr) (n c : Nat), (binOp .eql 28 (.slice a n c) (.slice none 0 0)).run Tryd.prog w = .ok (.bool a.isNone) w := fun w a n c => Go.run_eql_slice_nil w 28 9 a n c Tryd.underlying28
  obtain ⟨i0, hi, hz0, hz1, hz2⟩ := info_parts info9
  have hinfo : (Tryd.prog.info? 9).map (·.size) = some 1 := by rw [hi]; simp [hz1]
  have HN : Hid (C.length = N) := hN
  have hN1 : C.length ≤ N := by omega
  have hN2 : N ≤ C.length := by omega
  clear hN
  go_enter Tryd.func9, Tryd.ntmps9
  go_wp2_with (first | (at_make; refine wpList_make_full _ rfl _ _ 28 rfl w.heap.size 9 i0 _ 1 Tryd.underlying28 hi hz0 hz1 .i64 .i64 _ _ N rfl rfl rfl rfl (by rw [hz2]; omega) (by unfold maxLen; omega) (Nat.le_refl _) ?_; intro w1 ho1 hg1; obtain ⟨cur, hcur, hcl⟩ := row_of ho1; clear ho1) | (refine wpList_copy_splice rfl (.tmp 9) (.tmp 10) 28 28 rfl 9 Tryd.underlying28 hinfo _ _ _ _ _ _ rfl rfl w.heap.size 0 cur 9 hcur C (by rw [HN.out]; simp) (fun _ => ⟨rfl, a, rfl, fun j v hj => hg1.cell (hc j v hj) (by simp)⟩) (by omega) h1 w.heap.size w ((Below.refl _ _).grown hg1 (Nat.le_refl _) (by simp)) (Nat.le_refl _) ?_; intro w2 HG2 hB2) | fail)
  go_ret
  have G2 := HG2.out
  rw [splice_all (by omega)] at G2
  exact ⟨rfl, G2, hB2⟩

set_option maxHeartbeats 400000 in
theorem cloneStrs_nil (n c : Nat) (w : World) : Calls Tryd.prog 9 #[.slice none n c] w fun e w' => e = .returned (.slice none 0 0) ∧ w' = w := by
  have qs : ∀ (w : World) (a : Option Addr) (n c : Nat), (binOp .eql 28 (.slice a n c) (.slice none 0 0)).run Tryd.prog w = .ok (.bool a.isNone) w := fun w a n c => Go.run_eql_slice_nil w 28 9 a n c Tryd.underlying28
  go_enter Tryd.func9, Tryd.ntmps9
  go_wp2
  go_ret
  exact ⟨rfl, rfl⟩

theorem strs_one (ss : List ByteArray) : ∀ v ∈ ss.map Value.string, v.oneCell' = true := by
  intro v hv
  obtain ⟨s, _, rfl⟩ := List.mem_map.1 hv
  rfl
/-- .. in a row of strings. -/
def Row9 (w : World) (v : Value) (cs : List Value) : Prop :=
  (∃ ao c, v = .slice ao 0 c ∧ cs = []) ∨ (∃ (bk off c : Nat) (cur : Array Value), v = .slice (some ⟨bk, off, none⟩) cs.length c ∧ 0 < cs.length ∧ w.heap[bk]? = some (.cells cur 9 (0, 0)) ∧ ∀ (j : Nat) (u : Value), cs[j]? = some u → cur[off + j]? = some u)
/-- Every row of strings is as it was. -/
def Keep9 (w w' : World) : Prop := ∀ (k : Nat) (c : Array Value), w.heap[k]? = some (.cells c 9 (0, 0)) → w'.heap[k]? = some (.cells c 9 (0, 0))
theorem Keep9.refl (w : World) : Keep9 w w := fun _ _ h => h
theorem Keep9.trans {a b c : World} (h : Keep9 a b) (k : Keep9 b c) : Keep9 a c := fun i x hi => k i x (h i x hi)
theorem Row9.keep {w w' : World} {v : Value} {cs : List Value} (h : Row9 w v cs) (hk : Keep9 w w') : Row9 w' v cs := by
  rcases h with h | ⟨bk, off, c, cur, h1, h2, h3, h4⟩
  · exact Or.inl h
  · exact Or.inr ⟨bk, off, c, cur, h1, h2, hk _ _ h3, h4⟩
theorem Row9.cells {w : World} {v : Value} {cs : List Value} (h : Row9 w v cs) : Cells w v cs := by
  rcases h with h | ⟨bk, off, c, cur, h1, h2, h3, h4⟩
  · exact Or.inl h
  · exact Or.inr ⟨bk, off, c, h1, h2, fun j u hj => by simpa [World.cell?, h3] using h4 j u hj⟩
theorem keep9_below {w w' : World} (h : Below w.heap.size w w') : Keep9 w w' := fun k _ hk => (h.block k (Lib.lt_of_heap hk)).trans hk
theorem keep9_none {w w' : World} (h : w.grownBy w' none) : Keep9 w w' := fun k _ hk => (h.block k (Lib.lt_of_heap hk) (by simp)).trans hk
theorem keep9_but {w w' : World} {r : Nat} (h : w.grownBy w' (some r)) (hr : ∀ c, w.heap[r]? ≠ some (.cells c 9 (0, 0))) : Keep9 w w' := fun k c hk =>
  (h.block k (Lib.lt_of_heap hk) (fun e' => by have : k = r := by simpa using e'
                                               subst this; exact hr c hk)).trans hk
theorem row9_block {w : World} {g : Nat} {C : List Value} {N c : Nat} (h : w.heap[g]? = some (.cells C.toArray 9 (0, 0))) (hN : C.length = N) : Row9 w (.slice (some ⟨g, 0, none⟩) N c) C := by
  by_cases h0 : C.length = 0
  · obtain rfl : C = [] := List.eq_nil_of_length_eq_zero h0
    subst hN
    exact Or.inl ⟨_, _, rfl, rfl⟩
  · subst hN
    exact Or.inr ⟨g, 0, c, _, rfl, by omega, h, fun j u hj => by simpa using hj⟩

theorem cloneStrs (ss : List ByteArray) (v : Value) (w : World) (hm : ss.length ≤ 4294967296) (h : Cells w v (ss.map Value.string)) :
    Calls Tryd.prog 9 #[v] w fun e w' => ∃ ao c, e = .returned (.slice ao ss.length c) ∧ Row9 w' (.slice ao ss.length c) (ss.map Value.string) ∧ Below w.heap.size w w' := by
  rcases h with ⟨ao, c, rfl, h0⟩ | ⟨bk, off, c, rfl, hp, hc⟩
  · obtain rfl : ss = [] := by simpa using h0
    cases ao with
    | none =>
      refine (cloneStrs_nil 0 c w).mono ?_
      rintro e w' ⟨rfl, rfl⟩
      exact ⟨none, 0, rfl, Or.inl ⟨_, _, rfl, rfl⟩, Below.refl _ _⟩
    | some a =>
      refine (cloneStrs_some a 0 c [] w rfl (by omega) (by simp) (by simp)).mono ?_
      rintro e w' ⟨rfl, hG, hb⟩
      exact ⟨_, _, rfl, Or.inl ⟨_, _, rfl, rfl⟩, hb⟩
  · have hl : (ss.map Value.string).length = ss.length := List.length_map _
    rw [hl]
    refine (cloneStrs_some ⟨bk, off, none⟩ ss.length c (ss.map Value.string) w hl hm (strs_one ss) (fun j v hj => ?_)).mono ?_
    · have := hc j v hj
      by_cases hj0 : j = 0
      · subst hj0; simpa [Addr.add] using this
      · simpa [Addr.add, hj0] using this
    · rintro e w' ⟨rfl, hG, hb⟩
      exact ⟨_, _, rfl, row9_block hG hl, hb⟩
end Go.Proofs.Qxb6614922aDoor
