/-
  FnRecorderWriteRecordsAll (4): the main walk, whole (its parts stand each in an auxiliary lemma of its own, against the kernel memory).
-/
import Derived.Test.Qxb6614922aDoorAll6
import Derived.WalkSmall
namespace Go.Proofs.Qxb6614922aDoor
open Go.RowKit Go.Maps

/-- A slice of bytes that came in. -/
def InB (w : World) (a : Option Addr) (n c : Nat) (C : List Value) : Prop :=
  C.length = n ∧ (∀ v ∈ C, v.oneCell' = true) ∧ ((a = none ∧ n = 0 ∧ c = 0) ∨ ∃ x, a = some x ∧ ∀ j v, C[j]? = some v → w.cell? (x.add j) = some v)

set_option maxRecDepth 100000 in
set_option maxHeartbeats 400000000 in
theorem walk_all (a0 a1 a3 a4 : Option Addr) (n0 c0 n1 c1 n3 c3 n4 c4 : Nat) (s : Int) (ss : List ByteArray) (V : List Value) (SS : List (List ByteArray)) (z3 z4 : List Int) (w : World)
    (h : Came w (.slice a0 n0 c0) (.slice a1 n1 c1) ss V SS) (h3 : InB w a3 n3 c3 (z3.map (Value.int .u8))) (h4 : InB w a4 n4 c4 (z4.map (Value.int .u8)))
    (hb0 : n0 ≤ 65536) (hb1 : n1 ≤ 65536) (hb3 : n3 ≤ 65536) (hb4 : n4 ≤ 65536) :
    Calls Tryd.prog 4 #[.slice a0 n0 c0, .slice a1 n1 c1, .int .i64 s, .slice a3 n3 c3, .slice a4 n4 c4] w fun e w' => e = .returned (.bool true) ∧ Below w.heap.size w w' := by
  have hmm := @run_makeMap Tryd.prog
  have qs : ∀ (w : World) (a : Option Addr) (n c : Nat), (binOp .neq 23 (.slice a n c) (.slice none 0 0)).run Tryd.prog w = .ok (.bool (!a.isNone)) w := fun w a n c => run_neq_slice_nil_any w 23 5 a n c 0 0 Tryd.underlying23
  obtain ⟨i0, hi, hz0, hz1, hz2⟩ := info_parts info5
  have hinfo : (Tryd.prog.info? 5).map (·.size) = some 1 := by rw [hi]; simp [hz1]
  have H8 := bytes8 a0 a1 a3 a4 n0 c0 n1 c1 n3 c3 n4 c4 s ss V SS w h (by unfold maxLen; omega) (by unfold maxLen; omega) (by unfold maxLen; omega) (by unfold maxLen; omega)
  obtain ⟨C3, hC3⟩ : ∃ C, C = z3.map (Value.int .u8) := ⟨_, rfl⟩
  obtain ⟨C4, hC4⟩ : ∃ C, C = z4.map (Value.int .u8) := ⟨_, rfl⟩
  rw [← hC3] at h3
  rw [← hC4] at h4
  have HC3 : Hid (C3 = z3.map (Value.int .u8)) := hC3
  have HC4 : Hid (C4 = z4.map (Value.int .u8)) := hC4
  clear hC3 hC4
  obtain ⟨hl3, h31, h3c⟩ := h3
  obtain ⟨hl4, h41, h4c⟩ := h4
  have Hl3 : Hid (C3.length = n3) := hl3
  have Hl4 : Hid (C4.length = n4) := hl4
  clear hl3 hl4
  go_enter Tryd.func4, Tryd.ntmps4
  go_wp2_with fail
  refine H8.mono ?_
  rintro e w' ⟨⟨rfl, hSn, hSv, hSl⟩ | rfl, rfl⟩
  rotate_left
  · go_wp2
    go_ret
    exact ⟨rfl, Below.refl _ _⟩
  have HSn : Hid (∀ j, j < ss.length → (ss.getD j ⟨#[]⟩).size ≤ 1048576) := hSn
  have HSv : Hid (∀ i j, i < SS.length → j < (SS.getD i []).length → ((SS.getD i []).getD j ⟨#[]⟩).size ≤ 1048576) := hSv
  have HSl : Hid (lens SS SS.length ≤ 1048576) := hSl
  clear H8 hSn hSv hSl
  go_upto_if 54 with fail
  go_cut [3, 11] (fun p _ wx => (∃ ao c, p = .slice ao n3 c) ∧ Byt wx p C3 ∧ Below w'.heap.size w' wx)
  case first =>
    as_aux_lemma =>
    rcases h3c with ⟨rfl, rfl, rfl⟩ | ⟨x, rfl, hc⟩
    · go_wp2_with fail
      go_meet
      case rel => exact ⟨⟨_, _, rfl⟩, Or.inl ⟨rfl, List.eq_nil_of_length_eq_zero Hl3.out⟩, Below.refl _ _⟩
    · go_wp2_with (first | (at_make; refine wpList_make_full _ rfl _ _ 23 rfl w'.heap.size 5 i0 _ 1 Tryd.underlying23 hi hz0 hz1 .i64 .i64 _ _ n3 rfl rfl rfl rfl (by rw [hz2]; omega) (by unfold maxLen; omega) (Nat.le_refl _) ?_; intro w1 ho1 hg1; obtain ⟨cur, hcur, hcl⟩ := row_of ho1; clear ho1) | (refine wpList_copy_splice rfl (.tmp 58) (.tmp 59) 23 23 rfl 5 Tryd.underlying23 hinfo _ _ _ _ _ _ rfl rfl w'.heap.size 0 cur 5 hcur C3 (by rw [Hl3.out]; simp) (fun _ => ⟨rfl, x, rfl, fun j v hj => hg1.cell (hc j v hj) (by simp)⟩) (by have := Hl3.out; omega) h31 w'.heap.size w' ((Below.refl _ _).grown hg1 (Nat.le_refl _) (by simp)) (Nat.le_refl _) ?_; intro w2 HG2 hB2) | fail)
      go_meet
      case rel =>
        have G2 := HG2.out
        rw [splice_all (by have := Hl3.out; omega)] at G2
        exact ⟨⟨_, _, rfl⟩, Or.inr ⟨_, by rw [Hl3.out], G2⟩, hB2⟩
  case rest =>
  as_aux_lemma =>
  obtain ⟨⟨ao3, cc3, rfl⟩, hB3, hbA⟩ := hcut
  have hA0 := hbA.size
  go_upto_if 63 with fail
  go_cut [4, 12] (fun p _ wx => (∃ ao c, p = .slice ao n4 c) ∧ Byt wx p C4 ∧ Below wc.heap.size wc wx)
  case first =>
    as_aux_lemma =>
    rcases h4c with ⟨rfl, rfl, rfl⟩ | ⟨x, rfl, hc⟩
    · go_wp2_with fail
      go_meet
      case rel => exact ⟨⟨_, _, rfl⟩, Or.inl ⟨rfl, List.eq_nil_of_length_eq_zero Hl4.out⟩, Below.refl _ _⟩
    · have hc' : ∀ j v, C4[j]? = some v → wc.cell? (x.add j) = some v := fun j v hj => cell_of_block (hc j v hj) (hbA.block _ (lt_of_cell (hc j v hj)))
      clear hc
      go_wp2_with (first | (at_make; refine wpList_make_full _ rfl _ _ 23 rfl wc.heap.size 5 i0 _ 1 Tryd.underlying23 hi hz0 hz1 .i64 .i64 _ _ n4 rfl rfl rfl rfl (by rw [hz2]; omega) (by unfold maxLen; omega) (Nat.le_refl _) ?_; intro w1 ho1 hg1; obtain ⟨cur, hcur, hcl⟩ := row_of ho1; clear ho1) | (refine wpList_copy_splice rfl (.tmp 67) (.tmp 68) 23 23 rfl 5 Tryd.underlying23 hinfo _ _ _ _ _ _ rfl rfl wc.heap.size 0 cur 5 hcur C4 (by rw [Hl4.out]; simp) (fun _ => ⟨rfl, x, rfl, fun j v hj => hg1.cell (hc' j v hj) (by simp)⟩) (by have := Hl4.out; omega) h41 wc.heap.size wc ((Below.refl _ _).grown hg1 (Nat.le_refl _) (by simp)) (Nat.le_refl _) ?_; intro w2 HG2 hB2) | fail)
      go_meet
      case rel =>
        have G2 := HG2.out
        rw [splice_all (by have := Hl4.out; omega)] at G2
        exact ⟨⟨_, _, rfl⟩, Or.inr ⟨_, by rw [Hl4.out], G2⟩, hB2⟩
  case rest =>
  as_aux_lemma =>
  obtain ⟨⟨ao4, cc4, rfl⟩, hB4, hbA4⟩ := hcut
  have hBa := hB3.below hbA4
  have hCm := (h.below hbA).below hbA4
  have hbW := hbA.trans (hbA4.mono hA0)
  clear hB3 hbA hbA4 h h3c h4c hA0 hinfo hz2 hz1 hz0 hi qs
  obtain ⟨wA, rfl⟩ : ∃ x, x = wc := ⟨_, rfl⟩
  go_upto_block 0 with fail
  go_cut [13, 14] (fun t _ wx => (∃ q : Nat, t = .int .i64 q ∧ q ≤ 1048576) ∧ wx = wA)
  case first =>
    as_aux_lemma =>
    obtain ⟨hN, -, -, -⟩ := hCm
    rcases hN with ⟨ao, c, e0, hs0⟩ | ⟨bk, off, c, e0, hp, hc⟩
    · cases e0
      go_wp2_with fail
      refine wp_loop_rounds 1 ?_
      rw [rounds_succ]
      go_wp2_with fail
      go_meet
      case rel => exact ⟨⟨n3 + n4, by simp, by omega⟩, rfl⟩
    · cases e0
      rw [List.length_map] at *
      have d1 : ∀ j, j < ss.length → wA.cell? ⟨bk, off + j, none⟩ = some (.string (ss.getD j ⟨#[]⟩)) := fun j h => hc j _ (by simp [h])
      clear hc
      generalize ss.length = N at *
      go_wp2_with fail
      go_loopg [13, 14] N (fun g z i wx => ∃ k q : Nat, k ≤ N ∧ g = N - k ∧ i = .int .i64 k ∧ z = .int .i64 q ∧ q ≤ 1048576 ∧ wx = wA)
      case atStart => exact ⟨0, n3 + n4, by omega, by omega, rfl, by simp, by omega, rfl⟩
      case round =>
        obtain ⟨k, q, hk, rfl, rfl, rfl, hq, rfl⟩ := hrel
        by_cases hlt : k < N
        · have e1 := d1 k hlt
          have hzs : (ss.getD k ⟨#[]⟩).size ≤ 1048576 := HSn.out k hlt
          generalize ss.getD k ⟨#[]⟩ = z at e1 hzs
          clear d1
          by_cases hz2 : 1048576 < (q : Int) + (16 + (z.size : Int))
          · go_wp2_with fail
            go_ret
            exact ⟨rfl, hbW⟩
          · go_wp2_with fail
            go_roundg (N - (k + 1))
            case measure => omega
            case rel => exact ⟨k + 1, q + (16 + z.size), by omega, rfl, by go_num, by go_num, by omega, rfl⟩
        · go_wp2_with fail
          go_meet
          case rel => exact ⟨⟨q, rfl, hq⟩, rfl⟩
  case rest =>
  as_aux_lemma =>
  obtain ⟨⟨q1, rfl, hq1⟩, rfl⟩ := hcut
  go_upto_block 2 with fail
  go_cut [13, 15, 16] (fun t _ _ wx => (∃ q : Nat, t = .int .i64 q ∧ q ≤ 1048576) ∧ wx = wc)
  case first =>
    as_aux_lemma =>
    obtain ⟨-, hVs, hVl, hE⟩ := hCm
    rcases hVs with ⟨ao, c, e0, hs0⟩ | ⟨bk, off, c, e0, hp, hc⟩
    · cases e0
      go_wp2_with fail
      refine wp_loop_rounds 1 ?_
      rw [rounds_succ]
      go_wp2_with fail
      go_meet
      case rel => exact ⟨⟨q1, by simp, by omega⟩, rfl⟩
    · cases e0
      have d1 : ∀ j, j < V.length → wc.cell? ⟨bk, off + j, none⟩ = some (V.getD j (.slice none 0 0)) := fun j h => hc j _ (by simp [h])
      have HVl : Hid (V.length = SS.length) := hVl
      clear hc hVl
      generalize V.length = N at *
      go_wp2_with fail
      go_loopg [13, 15, 16] N (fun g z i _ wx => ∃ k q : Nat, k ≤ N ∧ g = N - k ∧ i = .int .i64 k ∧ z = .int .i64 q ∧ q ≤ 1048576 ∧ wx = wc)
      case atStart => exact ⟨0, q1, by omega, by omega, rfl, rfl, by omega, rfl⟩
      case round =>
        obtain ⟨k, q2, hk, rfl, rfl, rfl, hq2, rfl⟩ := hrel
        by_cases hlt : k < N
        · have e1 := d1 k hlt
          have f1 := hE k hlt
          have g1 := HSv.out k
          generalize V.getD k (.slice none 0 0) = z at e1 f1
          obtain ⟨fs, hfs0⟩ : ∃ fs, fs = SS.getD k [] := ⟨_, rfl⟩
          rw [← hfs0] at f1 g1
          have G1 : Hid (∀ j, j < fs.length → (fs.getD j ⟨#[]⟩).size ≤ 1048576) := fun j hj => g1 j (by have := HVl.out; omega) hj
          have hfl : fs.length ≤ 1048576 := by
            have h1 := lens_le SS (k + 1)
            have h2 := HSl.out
            simp only [lens] at h1
            rw [hfs0]
            omega
          clear d1 hE hfs0 g1
          by_cases hz2 : 1048576 < (q2 : Int) + 24
          · go_wp2_with fail
            go_ret
            exact ⟨rfl, hbW⟩
          rcases f1 with ⟨ao2, cc2, rfl, hfs⟩ | ⟨bk2, off2, cc2, rfl, hp2, hc2⟩
          · go_wp2_with fail
            refine wp_loop_rounds 1 ?_
            rw [rounds_succ]
            go_wp2_with fail
            go_roundg (N - (k + 1))
            case measure => omega
            case rel => exact ⟨k + 1, q2 + 24, by omega, rfl, by go_num, by go_num, by omega, rfl⟩
          · rw [List.length_map] at *
            have d2 : ∀ j, j < fs.length → wr.cell? ⟨bk2, off2 + j, none⟩ = some (.string (fs.getD j ⟨#[]⟩)) := fun j h => hc2 j _ (by simp [h])
            clear hc2
            obtain ⟨M, hM⟩ : ∃ M, M = fs.length := ⟨_, rfl⟩
            rw [← hM] at e1 hp2 d2 G1 hfl
            clear hM
            go_wp2_with fail
            go_loopg [13, 16] M (fun g z i wx => ∃ j q : Nat, j ≤ M ∧ g = M - j ∧ i = .int .i64 j ∧ z = .int .i64 q ∧ q ≤ 1048576 ∧ wx = wr)
            case atStart => exact ⟨0, q2 + 24, by omega, by omega, rfl, by go_num, by omega, rfl⟩
            case round =>
              obtain ⟨j, q3, hj, rfl, rfl, rfl, hq3, rfl⟩ := hrel
              by_cases hlj : j < M
              · have e2 := d2 j hlj
                have hys := G1.out j hlj
                generalize fs.getD j ⟨#[]⟩ = y at e2 hys
                clear d2
                by_cases hy2 : 1048576 < (q3 : Int) + (16 + (y.size : Int))
                · go_wp2_with fail
                  go_ret
                  exact ⟨rfl, hbW⟩
                go_wp2_with fail
                go_roundg (M - (j + 1))
                case measure => omega
                case rel => exact ⟨j + 1, q3 + (16 + y.size), by omega, rfl, by go_num, by go_num, by omega, rfl⟩
              · go_wp2_with fail
                go_roundg (N - (k + 1))
                case measure => omega
                case rel => exact ⟨k + 1, q3, by omega, rfl, by go_num, rfl, by omega, rfl⟩
        · go_wp2_with fail
          go_meet
          case rel => exact ⟨⟨q2, rfl, hq2⟩, rfl⟩
  case rest =>
  as_aux_lemma =>
  obtain ⟨⟨q2, rfl, hq2⟩, rfl⟩ := hcut
  obtain ⟨wA, rfl⟩ : ∃ x, x = wc := ⟨_, rfl⟩
  obtain ⟨L, hL⟩ : ∃ L : List (List UInt8), L = ss.map (·.data.toList) := ⟨_, rfl⟩
  have HL : Hid (L = ss.map (·.data.toList)) := hL
  clear hL
  go_upto_block 6 with fail
  go_cut [18] (fun _ wx => ∃ D, wx.ownsMap Tryd.prog 9 sliceE wA.heap.size n0 D ∧ Hid (∀ kl, has D kl = inL L n0 kl) ∧ Vals wx D (Fk L SS n0) ∧ Hid (sumD (fun _ => true) D ≤ lens SS n0) ∧ Below wA.heap.size wA wx)
  case first =>
    as_aux_lemma =>
    have hCm' := hCm
    obtain ⟨hN, -, -, -⟩ := hCm
    rcases hN with ⟨ao, c, e0, hs0⟩ | ⟨bk, off, c, e0, hp, hc⟩
    · cases e0
      go_wp2_with fail
      refine wp_loop_rounds 1 ?_
      rw [rounds_succ]
      go_wp2_with fail
      go_meet
      case rel => exact ⟨.map [], World.ownsMap_made _ _ _ _, fun kl => by rw [inL_zero]; rfl, vals_empty _ _, Nat.zero_le _, (Below.refl _ _).alloc (Nat.le_refl _) _⟩
    · cases e0
      have d1 : ∀ j, j < ss.length → wA.cell? ⟨bk, off + j, none⟩ = some (.string (ss.getD j ⟨#[]⟩)) := fun j h => hc j _ (by simp [h])
      clear hc
      rw [List.length_map] at *
      have hLk : ∀ k, k < ss.length → (ss.getD k ⟨#[]⟩).data.toList = L.getD k [] := fun k hk => by rw [HL.out]; simp [hk]
      have HLk : Hid (∀ k, k < ss.length → (ss.getD k ⟨#[]⟩).data.toList = L.getD k []) := hLk
      clear hLk
      generalize ss.length = N at *
      go_wp2_with fail
      go_loopg [18] N (fun g i wx => ∃ (k : Nat) (D : DataW Value), k ≤ N ∧ g = N - k ∧ i = .int .i64 k ∧ wx.ownsMap Tryd.prog 9 sliceE wA.heap.size k D ∧ Hid (∀ kl, has D kl = inL L k kl) ∧ Vals wx D (Fk L SS k) ∧ Hid (sumD (fun _ => true) D ≤ lens SS k) ∧ Below wA.heap.size wA wx ∧ wA.heap.size + 1 ≤ wx.heap.size)
      case atStart => exact ⟨0, .map [], by omega, by omega, rfl, World.ownsMap_made _ _ _ _, fun kl => by rw [inL_zero]; rfl, vals_empty _ _, Nat.zero_le _, (Below.refl _ _).alloc (Nat.le_refl _) _, by simp⟩
      case round =>
        obtain ⟨k, D, hk, rfl, rfl, hown, Hha, hVr, Hsu, hnx, hsz⟩ := hrel
        by_cases hlt : k < N
        · have e1 : wr.cell? ⟨bk, off + k, none⟩ = some (.string (ss.getD k ⟨#[]⟩)) := cell_of_block (d1 k hlt) (hnx.block _ (lt_of_cell (d1 k hlt)))
          have e2 := HLk.out k hlt
          have hxs := HSn.out k hlt
          obtain ⟨x, hx⟩ : ∃ x, x = ss.getD k ⟨#[]⟩ := ⟨_, rfl⟩
          rw [← hx] at e1 e2 hxs
          have HX : Hid (x.data.toList = L.getD k []) := e2
          clear d1 e2 hx
          have hkey : keyOf Tryd.prog 9 (.string x) = some (.string x.data.toList) := Go.WideMaps.keyOf_string_mk Tryd.underlying9 (by unfold maxLen; omega)
          have hCr := hCm'.below hnx
          have hfl : (SS.getD k []).length ≤ 1048576 := by
            have h1 := lens_le SS (k + 1)
            have h2 := HSl.out
            simp only [lens] at h1
            omega
          have hVk : Cells wr (V.getD k (.slice none 0 0)) ((SS.getD k []).map Value.string) := by
            by_cases hkv : k < V.length
            · exact hCr.each k hkv
            · have h1 : V.getD k (.slice none 0 0) = .slice none 0 0 := by simp; rw [List.getElem?_eq_none (by omega)]; rfl
              have h2 : SS.getD k [] = [] := by simp; rw [List.getElem?_eq_none (by rw [← hCr.len]; omega)]; rfl
              rw [h1, h2]
              exact Or.inl ⟨_, _, rfl, rfl⟩
          have hcell1 := hCr.vals
          clear hCr hCm'
          have hml := hown.lt
          obtain ⟨vk, hvk⟩ : ∃ vk, vk = V.getD k (.slice none 0 0) := ⟨_, rfl⟩
          have H10 : Calls Tryd.prog 10 #[.slice a1 n1 c1, .int .i64 k] wr.drew fun e w' => e = .returned vk ∧ w' = wr.drew := by rw [hvk]; exact valAt _ V k _ hcell1
          rw [← hvk] at hVk
          have H9 := cloneStrs (SS.getD k []) vk wr.drew (by omega) hVk
          obtain ⟨ln, hln⟩ : ∃ ln, ln = (SS.getD k []).length := ⟨_, rfl⟩
          rw [← hln] at H9 hfl
          have Hln : Hid (ln = (SS.getD k []).length) := hln
          have HH10 : Hid (Calls Tryd.prog 10 #[.slice a1 n1 c1, .int .i64 k] wr.drew fun e w' => e = .returned vk ∧ w' = wr.drew) := H10
          have HH9 : Hid (Calls Tryd.prog 9 #[vk] wr.drew fun e w' => ∃ ao c, e = .returned (.slice ao ln c) ∧ Row9 w' (.slice ao ln c) ((SS.getD k []).map Value.string) ∧ Below wr.drew.heap.size wr.drew w') := H9
          clear H10 H9 hvk hcell1 hVk hln
          have hup : ∀ (w3 : World) (ao : Option Addr) (c : Nat), Below wr.heap.size wr w3 → ∃ w4, (Instr.mapUpdate 31 (.map (some wA.heap.size)) (.string x) (.slice ao ln c)).run Tryd.prog w3 = .ok () w4 ∧ w4.ownsMap Tryd.prog 9 sliceE wA.heap.size (k + 1) (D.put (.string x.data.toList) (.held (.slice ao ln c))) ∧ w3.grownBy w4 (some wA.heap.size) := fun w3 ao c hb3 =>
            (map_below hown hb3 hml).update law9 Tryd.underlying31 (by unfold maxLen; omega) hkey (sliceE_mk ao ln c)
          have Hup : Hid (∀ (w3 : World) (ao : Option Addr) (c : Nat), Below wr.heap.size wr w3 → ∃ w4, (Instr.mapUpdate 31 (.map (some wA.heap.size)) (.string x) (.slice ao ln c)).run Tryd.prog w3 = .ok () w4 ∧ w4.ownsMap Tryd.prog 9 sliceE wA.heap.size (k + 1) (D.put (.string x.data.toList) (.held (.slice ao ln c))) ∧ w3.grownBy w4 (some wA.heap.size)) := hup
          clear hup
          go_upto_block 7 with fail
          go_cut [] (fun wx => ∃ D', wx.ownsMap Tryd.prog 9 sliceE wA.heap.size (k + 1) D' ∧ Hid (∀ kl, has D' kl = inL L (k + 1) kl) ∧ Vals wx D' (Fk L SS (k + 1)) ∧ Hid (sumD (fun _ => true) D' ≤ lens SS (k + 1)) ∧ Below wA.heap.size wA wx ∧ wA.heap.size + 1 ≤ wx.heap.size)
          case first =>
            have hmL := hown.isMap
            go_wp2_with fail
            go_region_with (first | (go_at_call 10; refine HH10.out.mono ?_; rintro e w2 ⟨rfl, rfl⟩) | (go_at_call 9; go_must (refine HH9.out.mono ?_; rintro e w3 ⟨ao, c, rfl, hr3, hb3⟩; have hb3' : Below wr.heap.size wr w3 := ⟨hb3.os, hb3.tape, hb3.output, hb3.size, hb3.block⟩; have e3 : w3.cell? ⟨bk, off + k, none⟩ = some (.string x) := cell_of_block e1 (hb3'.block _ (lt_of_cell e1)); obtain ⟨w4, hrun, ho4, hg4⟩ := Hup.out w3 ao c hb3')) | fail)
            all_goals
              go_wp2_with fail
              go_meet
              case rel =>
                have hne : ∀ c, w3.heap[wA.heap.size]? ≠ some (.cells c 9 (0, 0)) := fun c => own_map (map_below hown hb3' hml) c 9 (0, 0)
                have k4 : Keep9 wr w4 := (keep9_below hb3').trans (keep9_but hg4 hne)
                have v4 := hdr_vals (hVr.keep k4) hmL (hr3.keep (keep9_but hg4 hne))
                have z3 := hb3'.size
                have z4 := hg4.size
                refine ⟨_, ho4, ?_, ?_, ?_, (hnx.trans (hb3'.mono (by omega))).grown hg4 (by omega) (fun j hj => by cases hj; exact Nat.le_refl _), by omega⟩
                · rw [HX.out]; exact hdr_has Hha.out hmL _
                · rw [HX.out]; exact v4
                · have h1 := sumD_put D (.string x.data.toList) (.held (.slice ao ln c))
                  have h2 := Hsu.out
                  have h3 : lenOf (.held (.slice ao ln c)) = ln := rfl
                  have h4 := Hln.out
                  show _ ≤ lens SS k + (SS.getD k []).length
                  omega
          case rest =>
            obtain ⟨D', ho', Hh', hV', Hs', hb', hz'⟩ := hcut
            go_wp2_with fail
            go_roundg (N - (k + 1))
            case measure => omega
            case rel => exact ⟨k + 1, D', by omega, rfl, by go_num, ho', Hh', hV', Hs', hb', hz'⟩
        · have e0 : k = N := by omega
          subst e0
          go_wp2_with fail
          go_meet
          case rel => exact ⟨D, hown, Hha, hVr, Hsu, hnx⟩
  case rest =>
  as_aux_lemma =>
  obtain ⟨D, hown, Hha, hVD, Hsu, hbB⟩ := hcut
  have hCm := hCm.below hbB
  have hBa := hBa.below hbB
  have hB4 := hB4.below hbB
  have hbzB := hbB.size
  have hml := hown.lt
  have hbW : Below w'.heap.size w' wc := hbW.trans (hbB.mono hbW.size)
  obtain ⟨wB, rfl⟩ : ∃ x, x = wc := ⟨_, rfl⟩
  obtain ⟨m, hm⟩ : ∃ m, m = wA.heap.size := ⟨_, rfl⟩
  rw [← hm] at hown hml ⊢
  have Hm : Hid (m = wA.heap.size) := hm
  clear hm
  have hHL : n0 = ss.length := by have := hCm.names.shape; obtain ⟨_, _, e⟩ := this; simp at e; exact e.2.1
  have HN0 : Hid (n0 = ss.length) := hHL
  clear hHL
  go_upto_block 8 with fail
  go_cut [20] (fun _ wx => ∃ K, wx.ownsMap (H := Unit) Tryd.prog 9 (plainElem Tryd.prog 3) wB.heap.size n0 K ∧ KeptAt L n0 K ∧ Below wB.heap.size wB wx)
  case first =>
    as_aux_lemma =>
    obtain ⟨hN, -, -, -⟩ := hCm
    rcases hN with ⟨ao, c, e0, hs0⟩ | ⟨bk, off, c, e0, hp, hc⟩
    · cases e0
      go_wp2_with fail
      refine wp_loop_rounds 1 ?_
      rw [rounds_succ]
      go_wp2_with fail
      go_meet
      case rel => exact ⟨.map [], World.ownsMap_made _ _ _ _, kept_zero L, (Below.refl _ _).alloc (Nat.le_refl _) _⟩
    · cases e0
      have d1 : ∀ j, j < ss.length → wB.cell? ⟨bk, off + j, none⟩ = some (.string (ss.getD j ⟨#[]⟩)) := fun j h => hc j _ (by simp [h])
      clear hc HN0
      rw [List.length_map] at *
      have hLk : ∀ k, k < ss.length → (ss.getD k ⟨#[]⟩).data.toList = L.getD k [] := fun k hk => by rw [HL.out]; simp [hk]
      have HLk : Hid (∀ k, k < ss.length → (ss.getD k ⟨#[]⟩).data.toList = L.getD k []) := hLk
      clear hLk
      generalize ss.length = N at *
      go_wp2_with fail
      go_loopg [20] N (fun g i wx => ∃ (k : Nat) (K : DataW Unit), k ≤ N ∧ g = N - k ∧ i = .int .i64 k ∧ wx.ownsMap (H := Unit) Tryd.prog 9 (plainElem Tryd.prog 3) wB.heap.size k K ∧ KeptAt L k K ∧ Below wB.heap.size wB wx)
      case atStart => exact ⟨0, .map [], by omega, by omega, rfl, World.ownsMap_made _ _ _ _, kept_zero L, (Below.refl _ _).alloc (Nat.le_refl _) _⟩
      case round =>
        obtain ⟨k, K, hk, rfl, rfl, hoK, hKp, hnx⟩ := hrel
        by_cases hlt : k < N
        · have e1 : wr.cell? ⟨bk, off + k, none⟩ = some (.string (ss.getD k ⟨#[]⟩)) := cell_of_block (d1 k hlt) (hnx.block _ (lt_of_cell (d1 k hlt)))
          have e2 := HLk.out k hlt
          have hxs := HSn.out k hlt
          obtain ⟨x, hx⟩ : ∃ x, x = ss.getD k ⟨#[]⟩ := ⟨_, rfl⟩
          rw [← hx] at e1 e2 hxs
          have HX : Hid (x.data.toList = L.getD k []) := e2
          clear d1 e2 hx
          have hkey : keyOf Tryd.prog 9 (.string x) = some (.string x.data.toList) := Go.WideMaps.keyOf_string_mk Tryd.underlying9 (by unfold maxLen; omega)
          have HP := hasPre x ⟨#[84, 114, 97, 105, 108, 101, 114, 58]⟩ wr
          have hmK := hoK.isMap
          cases hpre : Lib.hasPrefix x.data.toList trl
          · have e3 : Lib.hasPrefix x.data.toList ([84, 114, 97, 105, 108, 101, 114, 58] : List UInt8) = false := hpre
            rw [show ((⟨#[84, 114, 97, 105, 108, 101, 114, 58]⟩ : ByteArray).data.toList) = [84, 114, 97, 105, 108, 101, 114, 58] from rfl, e3] at HP
            have HHP : Hid (Calls Tryd.prog 11 #[.string x, .string ⟨#[84, 114, 97, 105, 108, 101, 114, 58]⟩] wr fun e w' => e = .returned (.bool false) ∧ w' = wr) := HP
            clear HP e3
            go_wp2_with (first | (go_at_call 11; refine HHP.out.mono ?_; rintro e w5 ⟨rfl, rfl⟩) | (at_mapUpdate; refine wpList_mapUpdate_own _ rfl _ _ _ 34 rfl 9 3 law9 Tryd.underlying34 _ wB.heap.size _ _ rfl hoK (by unfold maxLen; omega) _ _ _ rfl rfl hkey _ [] (plainElem_int Tryd.underlying3 (WalkArith.wf_i64 (by omega))) ?_; intro w4 ho4 hg4; go_frame) | fail)
            go_roundg (N - (k + 1))
            case measure => omega
            case rel =>
              have h1 := kept_put hKp hmK (by rw [← HX.out]; exact hpre)
              rw [← HX.out] at h1
              exact ⟨k + 1, _, by omega, rfl, by go_num, ho4, h1, hnx.grown hg4 hnx.size (fun j hj => by cases hj; exact Nat.le_refl _)⟩
          · have e3 : Lib.hasPrefix x.data.toList ([84, 114, 97, 105, 108, 101, 114, 58] : List UInt8) = true := hpre
            rw [show ((⟨#[84, 114, 97, 105, 108, 101, 114, 58]⟩ : ByteArray).data.toList) = [84, 114, 97, 105, 108, 101, 114, 58] from rfl, e3] at HP
            have HHP : Hid (Calls Tryd.prog 11 #[.string x, .string ⟨#[84, 114, 97, 105, 108, 101, 114, 58]⟩] wr fun e w' => e = .returned (.bool true) ∧ w' = wr) := HP
            clear HP e3
            go_wp2_with (first | (go_at_call 11; refine HHP.out.mono ?_; rintro e w5 ⟨rfl, rfl⟩) | fail)
            go_roundg (N - (k + 1))
            case measure => omega
            case rel => exact ⟨k + 1, K, by omega, rfl, by go_num, hoK.mono (by omega), kept_skip hKp (by rw [← HX.out]; exact hpre), hnx⟩
        · have e0 : k = N := by omega
          subst e0
          go_wp2_with fail
          go_meet
          case rel => exact ⟨K, hoK, hKp, hnx⟩
  case rest =>
  as_aux_lemma =>
  obtain ⟨K, hoK, hKp, hbC⟩ := hcut
  have hCm := hCm.below hbC
  have hBa := hBa.below hbC
  have hB4 := hB4.below hbC
  have hown := map_below hown hbC hml
  have hVD := hVD.keep (keep9_below hbC)
  have hbzC := hbC.size
  have hbW : Below w'.heap.size w' wc := hbW.trans (hbC.mono hbW.size)
  have hmK := hoK.lt
  obtain ⟨wC, rfl⟩ : ∃ x, x = wc := ⟨_, rfl⟩
  obtain ⟨mk, hmk⟩ : ∃ mk, mk = wB.heap.size := ⟨_, rfl⟩
  rw [← hmk] at hoK hmK ⊢
  have Hmk : Hid (mk = wB.heap.size) := hmk
  clear hmk
  have hml : m < wC.heap.size := hown.lt
  have hsD := hown.size_le
  have hsu : sumD (fun _ => true) D ≤ 4294967296 := by have h1 := Hsu.out; have h2 := lens_le SS n0; have h3 := HSl.out; omega
  go_upto_if 160 with fail
  go_cut [21] (fun t wx => t = .int .i64 (stOf s) ∧ wx = wC)
  case first =>
    as_aux_lemma =>
    by_cases hs : s < 200
    · have e0 : stOf s = 200 := by simp [stOf, hs]
      have He : Hid (stOf s = 200) := e0
      clear e0
      go_wp2_with fail
      go_meet
      case rel => exact ⟨by rw [He.out], rfl⟩
    · have e0 : stOf s = s := by simp only [stOf]; rw [if_neg hs]
      have He : Hid (stOf s = s) := e0
      clear e0
      go_wp2_with fail
      go_meet
      case rel => exact ⟨by rw [He.out], rfl⟩
  case rest =>
  as_aux_lemma =>
  obtain ⟨rfl, rfl⟩ := hcut
  have hstg := stOf_ge s
  go_wp2_with fail
  refine (newRec m wc).mono ?_
  rintro e w1 ⟨rfl, hR1, hg1, hs1⟩
  obtain ⟨b, hb⟩ : ∃ b, b = wc.heap.size := ⟨_, rfl⟩
  rw [← hb] at hR1 hs1 hml hmK ⊢
  have hK1 := keep_none hg1
  have hown1 := hown.kept hg1 (by simp)
  have hV1 := hVD.keep (keep9_none hg1)
  have hbel1 : Below wc.heap.size wc w1 := (Below.refl _ _).grown hg1 (Nat.le_refl _) (by simp)
  rw [← hb] at hbel1
  have hBa1 : Byt w1 (.slice ao3 n3 cc3) C3 := hBa.below (by rw [← hb]; exact hbel1)
  have hB41 : Byt w1 (.slice ao4 n4 cc4) C4 := hB4.below (by rw [← hb]; exact hbel1)
  have Hb : Hid (b = wc.heap.size) := hb
  clear hb
  go_wp2_with fail
  refine (g13 m n0 s b b D (Fk L SS n0) w1 hR1 hown1 (by omega) hV1 (by omega) hsu).mono ?_
  rintro e w2 ⟨rfl, hA2, hg2⟩
  have hz2 := hg2.size
  have hbel2 : Below b wc w2 := hbel1.trans (below_of_grown hg2 (Nat.le_refl _) (by omega))
  have hBa2 := hBa.belowB hbel2 Hb.out
  have hB42 := hB4.belowB hbel2 Hb.out
  go_wp2_with fail
  refine (g14a m n0 s b b C3 n3 _ D (Fk L SS n0) w2 hA2 (by omega) hsu (by omega) (hBa2.src h31 (after_tag hA2)) Hl3.out (by omega)).mono ?_
  rintro e w3 ⟨rfl, hS3, hbel3⟩
  have hz3 := hbel3.size
  have hbelC := hbel2.trans hbel3
  have hB43 := hB4.belowB hbelC Hb.out
  go_wp2_with fail
  refine (zwrite_sent m (stOf s) b b C3 C4 n4 _ D (Fk L SS n0) w3 hS3 hstg (by omega) h31 (hB43.src h41 (sent_tag hS3)) Hl4.out (by have := Hl3.out; omega)).mono ?_
  rintro e w4 ⟨rfl, hS4, hbel4⟩
  have hbelF := hbelC.trans hbel4
  have hBa4 := hBa.belowB hbelF Hb.out
  have hB44 := hB4.belowB hbelF Hb.out
  have hCm4 := hCm.belowB hbelF Hb.out
  have hoK4 := map_belowU hoK hbelF hmK
  have hbW4 : Below w'.heap.size w' w4 := hbW.trans (hbelF.mono (by rw [Hb.out]; exact hbW.size))
  obtain ⟨m2, n2, D2, hR4, ho4, hmb, hh4, hV4⟩ := hS4
  have HH4 : Hid (∀ k, has D2 k = has K k) := fun k => by rw [hh4, Hha.out, hKp.has]
  have hDK : Maps.size D2 = Maps.size K := size_eq_of_has (ho4.canon law9) (hoK4.canon law9) HH4.out
  have HDK : Hid (Maps.size D2 = Maps.size K) := hDK
  have hbl : (C3 ++ C4).length = n3 + n4 := by rw [List.length_append, Hl3.out, Hl4.out]
  have H16 := body16x m (stOf s) (some m2) b b (C3 ++ C4) w4 hR4
  rw [hbl] at H16
  have HH16 : Hid (Calls Tryd.prog 16 #[.pointer (some ⟨b, 0, none⟩)] w4 fun e w' => ∃ n, w' = w4.drewN n ∧ ((e = .returned (.slice none 0 0) ∧ C3 ++ C4 = []) ∨ ∃ (g cap : Nat) (cur : List Value), e = .returned (.slice (some ⟨g, 0, none⟩) (n3 + n4) cap) ∧ n3 + n4 ≤ cap ∧ cap ≤ maxLen ∧
      w4.heap[g]? = some (.cells cur.toArray 5 (0, 0)) ∧ cur.take (n3 + n4) = C3 ++ C4 ∧ cur.length = cap)) := H16
  have qe31 : ∀ (w : World) (r : Option Nat), (binOp .eql 31 (.map r) (.map none)).run Tryd.prog w = .ok (.bool r.isNone) w := fun w r => run_eql_map_nil w _ _ _ r Tryd.underlying31
  have l1 : ∀ ty nq, (Builtin.len_ #[31] ty #[.map (some m2)]).run Tryd.prog (w4.drewN nq) = .ok (.int .i64 (Maps.size K)) (w4.drewN nq) := fun ty nq => by
    have h1 := World.ownsMap.len (w := w4.drewN nq) (D := D2) ho4 Tryd.underlying31 ty
    rwa [HDK.out] at h1
  have l2 : ∀ ty nq, (Builtin.len_ #[34] ty #[.map (some mk)]).run Tryd.prog (w4.drewN nq) = .ok (.int .i64 (Maps.size K)) (w4.drewN nq) := fun ty nq => World.ownsMap.len (w := w4.drewN nq) (D := K) hoK4 Tryd.underlying34 ty
  clear hDK hbl H16 hbel4 hbel3 hbel2 hbelC hA2 hg2 hS3 hown1 hV1 hR1 hK1 hg1 hBa1 hB41 hBa2 hB42 hB43 hown hVD hh4 hoK hBa hB4 hCm hbW hbC hbel1 hbelF
  go_wp2_with fail
  refine (zstatus _ _ _ _ _ _ w4 hR4).mono ?_
  rintro e w4 ⟨rfl, rfl⟩
  go_upto_region 62 with fail
  go_cut [27] (fun v wx => (∃ ao c, v = .slice ao (n3 + n4) c ∧ ((ao = none ∧ c = 0 ∧ n3 + n4 = 0) ∨ ∃ (g : Nat) (cur : List Value), ao = some ⟨g, 0, none⟩ ∧ n3 + n4 ≤ c ∧ c ≤ maxLen ∧ w4.heap[g]? = some (.cells cur.toArray 5 (0, 0)) ∧ Hid (cur.take (n3 + n4) = C3 ++ C4) ∧ Hid (cur.length = c))) ∧ ∃ n, wx = w4.drewN n)
  case first =>
    as_aux_lemma =>
    go_wp2_with fail
    refine HH16.out.mono ?_
    rintro e w5 ⟨n5, rfl, ⟨rfl, hbs⟩ | ⟨g, cap, cur, rfl, hc1, hc2, hc3, hc4, hc5⟩⟩
    · have hz : n3 + n4 = 0 := by have h1 := congrArg List.length hbs; rw [List.length_append, Hl3.out, Hl4.out] at h1; simpa using h1
      have Hz : Hid (n3 + n4 = 0) := hz
      clear hz
      go_wp2_with fail
      go_meet
      case rel => exact ⟨⟨none, 0, by rw [Hz.out], Or.inl ⟨rfl, rfl, Hz.out⟩⟩, n5, rfl⟩
    · have Hc4 : Hid (cur.take (n3 + n4) = C3 ++ C4) := hc4
      have Hc5 : Hid (cur.length = cap) := hc5
      clear hc4 hc5
      go_wp2_with fail
      go_meet
      case rel => exact ⟨⟨_, cap, rfl, Or.inr ⟨g, cur, rfl, hc1, hc2, hc3, Hc4, Hc5⟩⟩, n5, rfl⟩
  case rest =>
  as_aux_lemma =>
  obtain ⟨⟨aob, cb, rfl, hbod⟩, n5, rfl⟩ := hcut
  clear HH16
  go_upto_region 65 with fail
  go_cut [224] (fun r wx => r = .bool false ∧ ∃ n, wx = w4.drewN n)
  case first =>
    as_aux_lemma =>
    have S3 : SrcOf b C3 (.slice ao3 n3 cc3) w4 := hBa4.src h31 (rec_tag5 hR4)
    have S4 : SrcOf b C4 (.slice ao4 n4 cc4) w4 := hB44.src h41 (rec_tag5 hR4)
    rcases hbod with ⟨rfl, rfl, hz⟩ | ⟨g, cur, rfl, hc1, hc2, hc3, Hc4, Hc5⟩
    · have e3 : n3 = 0 := by omega
      have e4 : n4 = 0 := by omega
      subst e3
      subst e4
      have E3 : C3 = [] := List.eq_nil_of_length_eq_zero Hl3.out
      have E4 : C4 = [] := List.eq_nil_of_length_eq_zero Hl4.out
      subst E3
      subst E4
      go_wp2_with fail
      refine (bytesEqC b b [] [] rfl _ _ w4 n5 (by simp) (Or.inl ⟨rfl, rfl⟩) S3).mono ?_
      rintro e w6 ⟨rfl, n6, rfl⟩
      go_wp2_with fail
      refine (bytesEqC b b [] [] rfl _ _ w4 n6 (by simp) (Or.inl ⟨rfl, rfl⟩) S4).mono ?_
      rintro e w7 ⟨rfl, n7, rfl⟩
      go_wp2_with fail
      go_meet
      case rel => exact ⟨rfl, n7, rfl⟩
    · unfold maxLen at hc2
      have hgb : g ≠ b := fun e => rec_tag5 hR4 _ (e ▸ hc3)
      have hcl : n3 + n4 ≤ cur.length := by rw [Hc5.out]; exact hc1
      have hone : ∀ i n, i + n ≤ n3 + n4 → ∀ v ∈ (cur.drop i).take n, v.oneCell' = true := fun i n hin v hv => by
        have h1 : (cur.drop i).take n = ((C3 ++ C4).drop i).take n := by
          rw [← Hc4.out, List.drop_take, List.take_take]
          congr 1
          omega
        rw [h1] at hv
        have h2 := List.mem_of_mem_drop (List.mem_of_mem_take hv)
        rcases List.mem_append.1 h2 with h3 | h3
        · exact h31 v h3
        · exact h41 v h3
      have hb3c : (cur.drop 0).take n3 = C3 := by
        have h1 : cur.take n3 = (C3 ++ C4).take n3 := by rw [← Hc4.out, List.take_take]; congr 1; omega
        rw [List.drop_zero, h1, List.take_left' Hl3.out]
      have hb4c : (cur.drop n3).take n4 = C4 := by
        have h1 : (cur.drop n3).take n4 = ((C3 ++ C4).drop n3).take n4 := by
          rw [← Hc4.out, List.drop_take, List.take_take]
          congr 1
          omega
        rw [h1, List.drop_left' Hl3.out, List.take_of_length_le (by rw [Hl4.out]; exact Nat.le_refl _)]
      have B3 : SrcOf b C3 (.slice (some ⟨g, 0, none⟩) n3 cb) w4 := by
        have h1 := src_part (i := 0) (n := n3) (cp := cb) hc3 hgb (by omega) (hone 0 n3 (by omega))
        rwa [hb3c] at h1
      have B4 : SrcOf b C4 (.slice (some ⟨g, n3, none⟩) n4 (cb - n3)) w4 := by
        have h1 := src_part (i := n3) (n := n4) (cp := cb - n3) hc3 hgb (by omega) (hone n3 n4 (by omega))
        rwa [hb4c] at h1
      have B4' : n3 = cb → SrcOf b C4 (.slice (some ⟨g, 0, none⟩) n4 0) w4 := fun e => by
        have h0 : n4 = 0 := by omega
        have h1 : C4 = [] := List.eq_nil_of_length_eq_zero (by rw [Hl4.out, h0])
        exact Or.inr ⟨⟨g, 0, none⟩, n4, 0, rfl, Hl4.out, hgb, by rw [h1]; simp, by rw [h1]; simp⟩
      have HB4' : Hid (n3 = cb → SrcOf b C4 (.slice (some ⟨g, 0, none⟩) n4 0) w4) := B4'
      clear hb3c hb4c hone hc3 B4'
      have hC3l : C3.length ≤ 65536 := by rw [Hl3.out]; exact hb3
      have hC4l : C4.length ≤ 65536 := by rw [Hl4.out]; exact hb4
      have hsub : n3 + n4 - n3 = n4 := by omega
      rcases Nat.lt_or_ge n3 cb with hlr | hlr
      · go_wp2_with fail
        refine (bytesEqC b b z3 C3 HC3.out.symm _ _ w4 n5 hC3l B3 S3).mono ?_
        rintro e w6 ⟨rfl, n6, rfl⟩
        go_wp2_with fail
        refine (bytesEqC b b z4 C4 HC4.out.symm _ _ w4 n6 hC4l B4 S4).mono ?_
        rintro e w7 ⟨rfl, n7, rfl⟩
        go_wp2_with fail
        go_meet
        case rel => exact ⟨rfl, n7, rfl⟩
      · have e1 := HB4'.out (by omega)
        clear hsub
        go_wp2_with fail
        refine (bytesEqC b b z3 C3 HC3.out.symm _ _ w4 n5 hC3l B3 S3).mono ?_
        rintro e w6 ⟨rfl, n6, rfl⟩
        go_wp2_with fail
        refine (bytesEqC b b z4 C4 HC4.out.symm _ _ w4 n6 hC4l e1 S4).mono ?_
        rintro e w7 ⟨rfl, n7, rfl⟩
        go_wp2_with fail
        go_meet
        case rel => exact ⟨rfl, n7, rfl⟩
  case rest =>
  as_aux_lemma =>
  obtain ⟨rfl, n6, rfl⟩ := hcut
  clear hBa4 hB44 hbod
  go_wp2_with fail
  refine (zsent _ _ _ _ _ _ _ (hR4.drewN n6)).mono ?_
  rintro e w5 ⟨rfl, rfl⟩
  go_upto_block 10 with fail
  as_aux_lemma =>
  have hCm4' := hCm4
  obtain ⟨hN, -, -, -⟩ := hCm4
  rcases hN with ⟨ao, c, e0, hs0⟩ | ⟨bk, off, c, e0, hp, hc⟩
  · cases e0
    go_wp2_with fail
    refine wp_loop_rounds 1 ?_
    rw [rounds_succ]
    go_wp2_with fail
    go_ret
    exact ⟨rfl, below_drewN hbW4 n6⟩
  · cases e0
    have d1 : ∀ j, j < ss.length → w4.cell? ⟨bk, off + j, none⟩ = some (.string (ss.getD j ⟨#[]⟩)) := fun j h => hc j _ (by simp [h])
    clear hc HN0
    rw [List.length_map] at *
    have hLk : ∀ k, k < ss.length → (ss.getD k ⟨#[]⟩).data.toList = L.getD k [] := fun k hk => by rw [HL.out]; simp [hk]
    have HLk : Hid (∀ k, k < ss.length → (ss.getD k ⟨#[]⟩).data.toList = L.getD k []) := hLk
    clear hLk
    generalize ss.length = N at *
    go_wp2_with fail
    go_loopg [29] N (fun g i wx => ∃ k n : Nat, k ≤ N ∧ g = N - k ∧ i = .int .i64 k ∧ wx = w4.drewN n)
    case atStart => exact ⟨0, n6, by omega, by omega, rfl, rfl⟩
    case round =>
      obtain ⟨k, nn, hk, rfl, rfl, rfl⟩ := hrel
      by_cases hlt : k < N
      · have e1 : w4.cell? ⟨bk, off + k, none⟩ = some (.string (ss.getD k ⟨#[]⟩)) := d1 k hlt
        have hxs := HSn.out k hlt
        obtain ⟨x, hx⟩ : ∃ x, x = ss.getD k ⟨#[]⟩ := ⟨_, rfl⟩
        rw [← hx] at e1 hxs
        clear d1 hx
        have hkey : keyOf Tryd.prog 9 (.string x) = some (.string x.data.toList) := Go.WideMaps.keyOf_string_mk Tryd.underlying9 (by unfold maxLen; omega)
        have hoS : (w4.drewN nn).ownsMap Tryd.prog 9 sliceE m2 n2 D2 := ho4
        have hoT : (w4.drewN nn).ownsMap (H := Unit) Tryd.prog 9 (plainElem Tryd.prog 3) mk N K := hoK4
        have h2 := HH4.out (.string x.data.toList)
        cases hpk : has K (.string x.data.toList)
        · rw [hpk] at h2
          have hk0 : K.atKey (.string x.data.toList) (.lit (.int .i64 0)) = .lit (.int .i64 0) := atKey_of_not_has hpk _
          have Hk0 : Hid (K.atKey (.string x.data.toList) (.lit (.int .i64 0)) = .lit (.int .i64 0)) := hk0
          clear hk0
          go_wp2_with (first | (at_lookup; refine lookup_sl _ rfl (.tmp 243) (.tmp 247) rfl m2 n2 D2 rfl hoS _ _ rfl hkey ?_; intro aog lng cg hat) | (at_lookup; refine lookup_kept _ rfl (.tmp 252) (.tmp 256) rfl mk N K rfl hoT _ _ rfl hkey 0 Hk0.out ?_) | fail)
          go_roundg (N - (k + 1))
          case measure => omega
          case rel => exact ⟨k + 1, nn, by omega, rfl, by go_num, rfl⟩
        · rw [hpk] at h2
          obtain ⟨i, hi, hil, hiK⟩ := kept_facts hKp hpk
          have HiK : Hid (∀ z, K.atKey (.string x.data.toList) z = .lit (.int .i64 i)) := hiK
          have Hi : Hid (lastIdx L N x.data.toList = some i) := hi
          have H2 : Hid (has D2 (.string x.data.toList) = true) := h2
          clear hiK hi
          go_wp2_with (first | (at_lookup; refine lookup_sl _ rfl (.tmp 243) (.tmp 247) rfl m2 n2 D2 rfl hoS _ _ rfl hkey ?_; intro aog lng cg hat) | (at_lookup; refine lookup_kept _ rfl (.tmp 252) (.tmp 256) rfl mk N K rfl hoT _ _ rfl hkey (i : Int) (HiK.out _) ?_) | fail)
          have hvi : Cells w4 (V.getD i (.slice none 0 0)) ((SS.getD i []).map Value.string) := by
            by_cases hkv : i < V.length
            · exact hCm4'.each i hkv
            · have h1 : V.getD i (.slice none 0 0) = .slice none 0 0 := by simp; rw [List.getElem?_eq_none (by omega)]; rfl
              have h2 : SS.getD i [] = [] := by simp; rw [List.getElem?_eq_none (by rw [← hCm4'.len]; omega)]; rfl
              rw [h1, h2]
              exact Or.inl ⟨_, _, rfl, rfl⟩
          obtain ⟨u, hu⟩ : ∃ u, u = V.getD i (.slice none 0 0) := ⟨_, rfl⟩
          have H10 : Calls Tryd.prog 10 #[.slice a1 n1 c1, .int .i64 i] (w4.drewN nn) fun e w' => e = .returned u ∧ w' = w4.drewN nn := by rw [hu]; exact valAt _ V i _ hCm4'.vals
          rw [← hu] at hvi
          clear hu
          have hfl : (SS.getD i []).length ≤ 1048576 := by
            have h1 := lens_le SS (i + 1)
            have h2 := HSl.out
            simp only [lens] at h1
            omega
          have hgot : Cells w4 (.slice aog lng cg) ((SS.getD i []).map Value.string) := by
            obtain ⟨v, hv, hr⟩ := hV4 _ _ (atKey_held ho4 H2.out hat)
            cases hv
            rw [Fk_at Hi.out] at hr
            exact hr.cells
          refine H10.mono ?_
          rintro e w6 ⟨rfl, rfl⟩
          go_wp2_with fail
          refine (strsEq (SS.getD i []) _ _ (w4.drewN nn) (by omega) hgot hvi).mono ?_
          rintro e w7 ⟨rfl, n7, rfl⟩
          go_wp2_with fail
          go_roundg (N - (k + 1))
          case measure => omega
          case rel => exact ⟨k + 1, nn + n7, by omega, rfl, by go_num, rfl⟩
      · go_wp2_with fail
        go_ret
        exact ⟨rfl, below_drewN hbW4 nn⟩
end Go.Proofs.Qxb6614922aDoor
