/-
  Seat b6614922aD: FnRecorderWriteAnyCut: the walk.
-/
import Derived.Test.Qxb6614922aDoorCut
import Derived.WalkSmall
namespace Go.Proofs.Qxb6614922aDoor
open Go.RowKit Go.Maps

set_option maxRecDepth 100000 in
set_option maxHeartbeats 2000000 in
theorem walk_some_lo (s ct : Int) (a : Addr) (cp : Nat) (zs : List Int) (w : World) (hz : zs.length ≤ 65536) (h0 : 0 ≤ ct) (h1 : ct ≤ zs.length) (hs : s < 200)
    (hc : ∀ j v, (zs.map (Value.int .u8))[j]? = some v → w.cell? (a.add j) = some v) :
    Calls Tryd.prog 5 #[.int .i64 s, .slice (some a) zs.length cp, .int .i64 ct] w fun e w' => e = .returned (.bool true) ∧ Below w.heap.size w w' := by
  obtain ⟨k, rfl⟩ := Int.eq_ofNat_of_zero_le h0
  have hmm := @run_makeMap Tryd.prog
  have qs : ∀ (w : World) (a : Option Addr) (n c : Nat), (binOp .neq 23 (.slice a n c) (.slice none 0 0)).run Tryd.prog w = .ok (.bool (!a.isNone)) w := fun w a n c => run_neq_slice_nil_any w 23 5 a n c 0 0 Tryd.underlying23
  have qm : ∀ (w : World) (r : Option Nat), (binOp .neq 31 (.map r) (.map none)).run Tryd.prog w = .ok (.bool (!r.isNone)) w := fun w r => run_neq_map_nil w _ _ _ r Tryd.underlying31
  obtain ⟨i0, hi, hz0, hz1, hz2⟩ := info_parts info5
  have hinfo : (Tryd.prog.info? 5).map (·.size) = some 1 := by rw [hi]; simp [hz1]
  generalize hN : zs.length = N at *
  generalize hC : zs.map (Value.int .u8) = C at *
  have hCl : C.length = N := by rw [← hC, List.length_map, hN]
  have HCl : Hid (C.length = N) := hCl
  have hC1 : ∀ v ∈ C, v.oneCell' = true := by rw [← hC]; exact ints_oneCell _ _
  have HC : Hid (zs.map (Value.int .u8) = C) := hC
  have hle : C.length ≤ N := by omega
  have hge : N ≤ C.length := by omega
  clear hC hN hCl
  go_enter Tryd.func5, Tryd.ntmps5
  go_wp2_with fail
  refine (bytes20 s k (some a) N cp (by unfold maxLen; omega) w).mono ?_
  rintro e w' ⟨rfl | rfl, rfl⟩
  · go_wp2_with (first | (at_make; refine wpList_make_full _ rfl _ _ 23 rfl w'.heap.size 5 i0 _ 1 Tryd.underlying23 hi hz0 hz1 .i64 .i64 _ _ N rfl rfl rfl rfl (by rw [hz2]; omega) (by unfold maxLen; omega) (Nat.le_refl _) ?_; intro w1 ho1 hg1; obtain ⟨cur, hcur, hcl⟩ := row_of ho1; clear ho1) | ((refine wpList_copy_splice rfl (.tmp 40) (.tmp 41) 23 23 rfl 5 Tryd.underlying23 hinfo _ _ _ _ _ _ rfl rfl w'.heap.size 0 cur 5 hcur C (by rw [HCl.out]; simp) (fun _ => ⟨rfl, a, rfl, fun j v hj => hg1.cell (hc j v hj) (by simp)⟩) (by omega) hC1 w'.heap.size w' ((Below.refl _ _).grown hg1 (Nat.le_refl _) (by simp)) (Nat.le_refl _) ?_); intro w2 HG2 hB2) | fail)
    have G2 : w2.heap[w'.heap.size]? = some (.cells C.toArray 5 (0, 0)) := by have := HG2.out; rwa [splice_all (by omega)] at this
    have hz2' : w'.heap.size < w2.heap.size := Lib.lt_of_heap G2
    clear HG2 hg1 hcur hcl hc
    refine (newRec2 w2).mono ?_
    rintro e w3 ⟨rfl, hR3, hm3, hb3, hs3⟩
    have G3 := heap_below G2 hb3 hz2'
    have hgm : w'.heap.size ≠ w2.heap.size + 1 := by omega
    go_wp2_with fail
    refine (z13 _ s _ _ w3 hR3 hm3 (by omega)).mono ?_
    rintro e w4 ⟨rfl, hA4, hg4⟩
    have G4 := heap_grown_but G3 hg4 hgm
    have hs4 := hg4.size
    go_wp2_with fail
    have S4 : SrcOf (w2.heap.size + 1) C (.slice (some ⟨w'.heap.size, 0, none⟩) N N) w4 := by
      have := src_block (i := 0) (n := N) (cp := N) G4 hgm (by omega) hC1
      rwa [List.drop_zero, List.take_of_length_le hle] at this
    refine (z14a _ s _ _ C N _ w4 hA4 (by omega) S4 HCl.out (by omega)).mono ?_
    rintro e w5 ⟨rfl, hW5⟩
    have G5 := heap_below G4 hW5.bel (by omega)
    have hs5 := hW5.bel.size
    go_wp2_with fail
    refine (newRec2 w5).mono ?_
    rintro e w6 ⟨rfl, hR6, hm6, hb6, hs6⟩
    have G6 := heap_below G5 hb6 (by omega)
    have hgm2 : w'.heap.size ≠ w5.heap.size + 1 := by omega
    go_wp2_with fail
    refine (z13 _ s _ _ w6 hR6 hm6 (by omega)).mono ?_
    rintro e w7 ⟨rfl, hA7, hg7⟩
    have G7 := heap_grown_but G6 hg7 hgm2
    have hs7 := hg7.size
    go_wp2_with fail
    have S7 : SrcOf (w5.heap.size + 1) (C.take k) (.slice (some ⟨w'.heap.size, 0, none⟩) k N) w7 := by
      have := src_block (i := 0) (n := k) (cp := N) G7 hgm2 (by omega) hC1
      rwa [List.drop_zero] at this
    refine (z14a _ s _ _ (C.take k) k _ w7 hA7 (by omega) S7 (by simp; omega) (by omega)).mono ?_
    rintro e w8 ⟨rfl, hW8⟩
    have G8 := heap_below G7 hW8.bel (by omega)
    have hs8 := hW8.bel.size
    have hTD : C.take k ++ C.drop k = C := List.take_append_drop k C
    have hst := stOf_ge s
    have hkt : ∀ v ∈ C.take k, v.oneCell' = true := fun v hv => hC1 v (List.mem_of_mem_take hv)
    have hlt : (C.take k).length ≤ N := by simp; omega
    have hld : (C.drop k).length = N - k := by simp; omega
    have HTD : Hid (C.take k ++ C.drop k = C) := hTD
    have Hld : Hid ((C.drop k).length = N - k) := hld
    clear hTD hld
    have S8a : k = N → SrcOf (w5.heap.size + 1) (C.drop k) (.slice (some ⟨w'.heap.size, 0, none⟩) 0 0) w8 := by
      intro e
      have := src_block (i := 0) (n := 0) (cp := 0) G8 hgm2 (by omega) hC1
      rwa [List.drop_zero, List.take_zero, ← List.drop_of_length_le (l := C) (i := k) (by omega)] at this
    have S8b : SrcOf (w5.heap.size + 1) (C.drop k) (.slice (some ⟨w'.heap.size, k, none⟩) (N - k) (N - k)) w8 := by
      have := src_block (i := k) (n := N - k) (cp := N - k) G8 hgm2 (by omega) hC1
      rwa [List.take_of_length_le (by rw [Hld.out]; exact Nat.le_refl _)] at this
    rcases Nat.lt_or_ge k N with hkN | hkN
    case' inl =>
      go_wp2_with fail
      refine (z14b _ _ _ _ _ (C.drop k) (N - k) _ _ w8 hst hW8 (by omega) hkt S8b Hld.out (by omega)).mono ?_
    case' inr =>
      go_wp2_with fail
      refine (z14b _ _ _ _ _ (C.drop k) (N - k) _ _ w8 hst hW8 (by omega) hkt (S8a (by omega)) Hld.out (by omega)).mono ?_
    all_goals
      rintro e w9 ⟨rfl, hW9⟩
      rw [HTD.out] at hW9
      have G9 := heap_below G8 hW9.bel (by omega)
      have b59 : Below w5.heap.size w5 w9 := ((hb6.trans (below_of_grown hg7 (by omega) (by omega))).trans (hW8.bel.mono (by omega))).trans (hW9.bel.mono (by omega))
      obtain ⟨m2, r1, r2, r3⟩ := hW5.recd
      have R1 := r1.old b59
      have M1 := map_below r2 b59 r2.lt
      obtain ⟨m3, R2, M2, q3⟩ := hW9.recd
      have hS : stOf s = 200 := by simp [stOf, hs]
      rw [hS] at R1 R2
      have bfin : Below w'.heap.size w' w9 := (((hB2.trans (hb3.mono (by omega))).trans (below_of_grown hg4 (by omega) (by omega))).trans (hW5.bel.mono (by omega))).trans (b59.mono (by omega))
      clear hS hW9 b59 r1 r2 r3 q3 hW5 hW8 hg7 hb6 hA7 hA4 hg4 hR3 hR6 hm3 hm6 hb3 hB2 S7 S4 S8a S8b G2 G3 G4 G5 G6 G7 G8
      go_wp2_with fail
    all_goals
      refine (zstatus _ _ _ _ _ _ w9 R1).mono ?_
      rintro e w10 ⟨rfl, rfl⟩
      go_wp2_with fail
      refine (zstatus _ _ _ _ _ _ _ R2).mono ?_
      rintro e w11 ⟨rfl, rfl⟩
      go_wp2_with fail
    all_goals
      have SC : SrcOf (w2.heap.size + 1) C (.slice (some ⟨w'.heap.size, 0, none⟩) N N) w11 := by
        have := src_block (i := 0) (n := N) (cp := N) G9 hgm (by omega) hC1
        rwa [List.drop_zero, List.take_of_length_le hle] at this
      refine (body16 _ _ _ _ _ _ _ R1 hC1).mono ?_
      rintro e w12 ⟨v1, n1, rfl, hv1, rfl⟩
      go_wp2_with fail
      refine (bytesEqC _ _ zs C HC.out _ _ w11 n1 (by omega) hv1 SC).mono ?_
      rintro e w13 ⟨rfl, n2, rfl⟩
      go_wp2_with fail
      refine (body16 _ _ _ _ _ _ _ (R2.drewN n2) hC1).mono ?_
      rintro e w12 ⟨v2, n3, rfl, hv2, rfl⟩
      go_wp2_with fail
      refine (bytesEqC _ _ zs C HC.out _ _ w11 (n2 + n3) (by omega) hv2 SC).mono ?_
      rintro e w14 ⟨rfl, n4, rfl⟩
      go_wp2_with fail
      refine (zsent _ _ _ _ _ _ _ (R1.drewN n4)).mono ?_
      rintro e w15 ⟨rfl, rfl⟩
      go_wp2_with fail
      refine (zsent _ _ _ _ _ _ _ (R2.drewN n4)).mono ?_
      rintro e w16 ⟨rfl, rfl⟩
      have l1 : ∀ ty, (Builtin.len_ #[31] ty #[.map (some m2)]).run Tryd.prog (w11.drewN n4) = .ok (.int .i64 0) (w11.drewN n4) := fun ty => World.ownsMap.len (w := w11.drewN n4) (D := .map []) M1 Tryd.underlying31 ty
      have l2 : ∀ ty, (Builtin.len_ #[31] ty #[.map (some m3)]).run Tryd.prog (w11.drewN n4) = .ok (.int .i64 0) (w11.drewN n4) := fun ty => World.ownsMap.len (w := w11.drewN n4) (D := .map []) M2 Tryd.underlying31 ty
      go_wp2_with fail
      go_ret
      exact ⟨rfl, below_drewN bfin n4⟩
  · go_wp2
    go_ret
    exact ⟨rfl, Below.refl _ _⟩
set_option maxRecDepth 100000 in
set_option maxHeartbeats 2000000 in
theorem walk_some_hi (s ct : Int) (a : Addr) (cp : Nat) (zs : List Int) (w : World) (hz : zs.length ≤ 65536) (h0 : 0 ≤ ct) (h1 : ct ≤ zs.length) (hs : 200 ≤ s)
    (hc : ∀ j v, (zs.map (Value.int .u8))[j]? = some v → w.cell? (a.add j) = some v) :
    Calls Tryd.prog 5 #[.int .i64 s, .slice (some a) zs.length cp, .int .i64 ct] w fun e w' => e = .returned (.bool true) ∧ Below w.heap.size w w' := by
  obtain ⟨k, rfl⟩ := Int.eq_ofNat_of_zero_le h0
  have hmm := @run_makeMap Tryd.prog
  have qs : ∀ (w : World) (a : Option Addr) (n c : Nat), (binOp .neq 23 (.slice a n c) (.slice none 0 0)).run Tryd.prog w = .ok (.bool (!a.isNone)) w := fun w a n c => run_neq_slice_nil_any w 23 5 a n c 0 0 Tryd.underlying23
  have qm : ∀ (w : World) (r : Option Nat), (binOp .neq 31 (.map r) (.map none)).run Tryd.prog w = .ok (.bool (!r.isNone)) w := fun w r => run_neq_map_nil w _ _ _ r Tryd.underlying31
  obtain ⟨i0, hi, hz0, hz1, hz2⟩ := info_parts info5
  have hinfo : (Tryd.prog.info? 5).map (·.size) = some 1 := by rw [hi]; simp [hz1]
  generalize hN : zs.length = N at *
  generalize hC : zs.map (Value.int .u8) = C at *
  have hCl : C.length = N := by rw [← hC, List.length_map, hN]
  have HCl : Hid (C.length = N) := hCl
  have hC1 : ∀ v ∈ C, v.oneCell' = true := by rw [← hC]; exact ints_oneCell _ _
  have HC : Hid (zs.map (Value.int .u8) = C) := hC
  have hle : C.length ≤ N := by omega
  have hge : N ≤ C.length := by omega
  clear hC hN hCl
  go_enter Tryd.func5, Tryd.ntmps5
  go_wp2_with fail
  refine (bytes20 s k (some a) N cp (by unfold maxLen; omega) w).mono ?_
  rintro e w' ⟨rfl | rfl, rfl⟩
  · go_wp2_with (first | (at_make; refine wpList_make_full _ rfl _ _ 23 rfl w'.heap.size 5 i0 _ 1 Tryd.underlying23 hi hz0 hz1 .i64 .i64 _ _ N rfl rfl rfl rfl (by rw [hz2]; omega) (by unfold maxLen; omega) (Nat.le_refl _) ?_; intro w1 ho1 hg1; obtain ⟨cur, hcur, hcl⟩ := row_of ho1; clear ho1) | ((refine wpList_copy_splice rfl (.tmp 40) (.tmp 41) 23 23 rfl 5 Tryd.underlying23 hinfo _ _ _ _ _ _ rfl rfl w'.heap.size 0 cur 5 hcur C (by rw [HCl.out]; simp) (fun _ => ⟨rfl, a, rfl, fun j v hj => hg1.cell (hc j v hj) (by simp)⟩) (by omega) hC1 w'.heap.size w' ((Below.refl _ _).grown hg1 (Nat.le_refl _) (by simp)) (Nat.le_refl _) ?_); intro w2 HG2 hB2) | fail)
    have G2 : w2.heap[w'.heap.size]? = some (.cells C.toArray 5 (0, 0)) := by have := HG2.out; rwa [splice_all (by omega)] at this
    have hz2' : w'.heap.size < w2.heap.size := Lib.lt_of_heap G2
    clear HG2 hg1 hcur hcl hc
    refine (newRec2 w2).mono ?_
    rintro e w3 ⟨rfl, hR3, hm3, hb3, hs3⟩
    have G3 := heap_below G2 hb3 hz2'
    have hgm : w'.heap.size ≠ w2.heap.size + 1 := by omega
    go_wp2_with fail
    refine (z13 _ s _ _ w3 hR3 hm3 (by omega)).mono ?_
    rintro e w4 ⟨rfl, hA4, hg4⟩
    have G4 := heap_grown_but G3 hg4 hgm
    have hs4 := hg4.size
    go_wp2_with fail
    have S4 : SrcOf (w2.heap.size + 1) C (.slice (some ⟨w'.heap.size, 0, none⟩) N N) w4 := by
      have := src_block (i := 0) (n := N) (cp := N) G4 hgm (by omega) hC1
      rwa [List.drop_zero, List.take_of_length_le hle] at this
    refine (z14a _ s _ _ C N _ w4 hA4 (by omega) S4 HCl.out (by omega)).mono ?_
    rintro e w5 ⟨rfl, hW5⟩
    have G5 := heap_below G4 hW5.bel (by omega)
    have hs5 := hW5.bel.size
    go_wp2_with fail
    refine (newRec2 w5).mono ?_
    rintro e w6 ⟨rfl, hR6, hm6, hb6, hs6⟩
    have G6 := heap_below G5 hb6 (by omega)
    have hgm2 : w'.heap.size ≠ w5.heap.size + 1 := by omega
    go_wp2_with fail
    refine (z13 _ s _ _ w6 hR6 hm6 (by omega)).mono ?_
    rintro e w7 ⟨rfl, hA7, hg7⟩
    have G7 := heap_grown_but G6 hg7 hgm2
    have hs7 := hg7.size
    go_wp2_with fail
    have S7 : SrcOf (w5.heap.size + 1) (C.take k) (.slice (some ⟨w'.heap.size, 0, none⟩) k N) w7 := by
      have := src_block (i := 0) (n := k) (cp := N) G7 hgm2 (by omega) hC1
      rwa [List.drop_zero] at this
    refine (z14a _ s _ _ (C.take k) k _ w7 hA7 (by omega) S7 (by simp; omega) (by omega)).mono ?_
    rintro e w8 ⟨rfl, hW8⟩
    have G8 := heap_below G7 hW8.bel (by omega)
    have hs8 := hW8.bel.size
    have hTD : C.take k ++ C.drop k = C := List.take_append_drop k C
    have hst := stOf_ge s
    have hkt : ∀ v ∈ C.take k, v.oneCell' = true := fun v hv => hC1 v (List.mem_of_mem_take hv)
    have hlt : (C.take k).length ≤ N := by simp; omega
    have hld : (C.drop k).length = N - k := by simp; omega
    have HTD : Hid (C.take k ++ C.drop k = C) := hTD
    have Hld : Hid ((C.drop k).length = N - k) := hld
    clear hTD hld
    have S8a : k = N → SrcOf (w5.heap.size + 1) (C.drop k) (.slice (some ⟨w'.heap.size, 0, none⟩) 0 0) w8 := by
      intro e
      have := src_block (i := 0) (n := 0) (cp := 0) G8 hgm2 (by omega) hC1
      rwa [List.drop_zero, List.take_zero, ← List.drop_of_length_le (l := C) (i := k) (by omega)] at this
    have S8b : SrcOf (w5.heap.size + 1) (C.drop k) (.slice (some ⟨w'.heap.size, k, none⟩) (N - k) (N - k)) w8 := by
      have := src_block (i := k) (n := N - k) (cp := N - k) G8 hgm2 (by omega) hC1
      rwa [List.take_of_length_le (by rw [Hld.out]; exact Nat.le_refl _)] at this
    rcases Nat.lt_or_ge k N with hkN | hkN
    case' inl =>
      go_wp2_with fail
      refine (z14b _ _ _ _ _ (C.drop k) (N - k) _ _ w8 hst hW8 (by omega) hkt S8b Hld.out (by omega)).mono ?_
    case' inr =>
      go_wp2_with fail
      refine (z14b _ _ _ _ _ (C.drop k) (N - k) _ _ w8 hst hW8 (by omega) hkt (S8a (by omega)) Hld.out (by omega)).mono ?_
    all_goals
      rintro e w9 ⟨rfl, hW9⟩
      rw [HTD.out] at hW9
      have G9 := heap_below G8 hW9.bel (by omega)
      have b59 : Below w5.heap.size w5 w9 := ((hb6.trans (below_of_grown hg7 (by omega) (by omega))).trans (hW8.bel.mono (by omega))).trans (hW9.bel.mono (by omega))
      obtain ⟨m2, r1, r2, r3⟩ := hW5.recd
      have R1 := r1.old b59
      have M1 := map_below r2 b59 r2.lt
      obtain ⟨m3, R2, M2, q3⟩ := hW9.recd
      have hS : stOf s = s := by simp only [stOf]; rw [if_neg (by omega)]
      rw [hS] at R1 R2
      have bfin : Below w'.heap.size w' w9 := (((hB2.trans (hb3.mono (by omega))).trans (below_of_grown hg4 (by omega) (by omega))).trans (hW5.bel.mono (by omega))).trans (b59.mono (by omega))
      clear hS hW9 b59 r1 r2 r3 q3 hW5 hW8 hg7 hb6 hA7 hA4 hg4 hR3 hR6 hm3 hm6 hb3 hB2 S7 S4 S8a S8b G2 G3 G4 G5 G6 G7 G8
      go_wp2_with fail
    all_goals
      refine (zstatus _ _ _ _ _ _ w9 R1).mono ?_
      rintro e w10 ⟨rfl, rfl⟩
      go_wp2_with fail
      refine (zstatus _ _ _ _ _ _ _ R2).mono ?_
      rintro e w11 ⟨rfl, rfl⟩
      go_wp2_with fail
    all_goals
      have SC : SrcOf (w2.heap.size + 1) C (.slice (some ⟨w'.heap.size, 0, none⟩) N N) w11 := by
        have := src_block (i := 0) (n := N) (cp := N) G9 hgm (by omega) hC1
        rwa [List.drop_zero, List.take_of_length_le hle] at this
      refine (body16 _ _ _ _ _ _ _ R1 hC1).mono ?_
      rintro e w12 ⟨v1, n1, rfl, hv1, rfl⟩
      go_wp2_with fail
      refine (bytesEqC _ _ zs C HC.out _ _ w11 n1 (by omega) hv1 SC).mono ?_
      rintro e w13 ⟨rfl, n2, rfl⟩
      go_wp2_with fail
      refine (body16 _ _ _ _ _ _ _ (R2.drewN n2) hC1).mono ?_
      rintro e w12 ⟨v2, n3, rfl, hv2, rfl⟩
      go_wp2_with fail
      refine (bytesEqC _ _ zs C HC.out _ _ w11 (n2 + n3) (by omega) hv2 SC).mono ?_
      rintro e w14 ⟨rfl, n4, rfl⟩
      go_wp2_with fail
      refine (zsent _ _ _ _ _ _ _ (R1.drewN n4)).mono ?_
      rintro e w15 ⟨rfl, rfl⟩
      go_wp2_with fail
      refine (zsent _ _ _ _ _ _ _ (R2.drewN n4)).mono ?_
      rintro e w16 ⟨rfl, rfl⟩
      have l1 : ∀ ty, (Builtin.len_ #[31] ty #[.map (some m2)]).run Tryd.prog (w11.drewN n4) = .ok (.int .i64 0) (w11.drewN n4) := fun ty => World.ownsMap.len (w := w11.drewN n4) (D := .map []) M1 Tryd.underlying31 ty
      have l2 : ∀ ty, (Builtin.len_ #[31] ty #[.map (some m3)]).run Tryd.prog (w11.drewN n4) = .ok (.int .i64 0) (w11.drewN n4) := fun ty => World.ownsMap.len (w := w11.drewN n4) (D := .map []) M2 Tryd.underlying31 ty
      go_wp2_with fail
      go_ret
      exact ⟨rfl, below_drewN bfin n4⟩
  · go_wp2
    go_ret
    exact ⟨rfl, Below.refl _ _⟩
end Go.Proofs.Qxb6614922aDoor
