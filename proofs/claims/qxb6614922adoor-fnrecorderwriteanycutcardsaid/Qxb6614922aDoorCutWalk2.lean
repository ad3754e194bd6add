/-
  Seat b6614922aD: FnRecorderWriteAnyCut: the walk.
-/
import Derived.Test.Qxb6614922aDoorCut
import Derived.WalkSmall
namespace Go.Proofs.Qxb6614922aDoor
open Go.RowKit Go.Maps

set_option maxRecDepth 100000 in
set_option maxHeartbeats 2000000 in
theorem walk_nil_lo (s ct : Int) (w : World) (h0 : 0 ≤ ct) (h1 : ct ≤ 0) (hs : s < 200) :
    Calls Tryd.prog 5 #[.int .i64 s, .slice none 0 0, .int .i64 ct] w fun e w' => e = .returned (.bool true) ∧ Below w.heap.size w w' := by
  obtain rfl : ct = 0 := by omega
  have hmm := @run_makeMap Tryd.prog
  have qs : ∀ (w : World) (a : Option Addr) (n c : Nat), (binOp .neq 23 (.slice a n c) (.slice none 0 0)).run Tryd.prog w = .ok (.bool (!a.isNone)) w := fun w a n c => run_neq_slice_nil_any w 23 5 a n c 0 0 Tryd.underlying23
  have qm : ∀ (w : World) (r : Option Nat), (binOp .neq 31 (.map r) (.map none)).run Tryd.prog w = .ok (.bool (!r.isNone)) w := fun w r => run_neq_map_nil w _ _ _ r Tryd.underlying31
  have SN : ∀ b w, SrcOf b [] (.slice none 0 0) w := fun b w => Or.inl ⟨rfl, rfl⟩
  have hN1 : ∀ v ∈ ([] : List Value), v.oneCell' = true := by simp
  go_enter Tryd.func5, Tryd.ntmps5
  go_wp2_with fail
  refine (bytes20 s 0 none 0 0 (by unfold maxLen; omega) w).mono ?_
  rintro e w2 ⟨rfl | rfl, rfl⟩
  · go_wp2_with fail
    refine (newRec2 w2).mono ?_
    rintro e w3 ⟨rfl, hR3, hm3, hb3, hs3⟩
    go_wp2_with fail
    refine (z13 _ s _ _ w3 hR3 hm3 (by omega)).mono ?_
    rintro e w4 ⟨rfl, hA4, hg4⟩
    have hs4 := hg4.size
    go_wp2_with fail
    refine (z14a _ s _ _ [] 0 _ w4 hA4 (by omega) (SN _ _) rfl (by omega)).mono ?_
    rintro e w5 ⟨rfl, hW5⟩
    have hs5 := hW5.bel.size
    go_wp2_with fail
    refine (newRec2 w5).mono ?_
    rintro e w6 ⟨rfl, hR6, hm6, hb6, hs6⟩
    go_wp2_with fail
    refine (z13 _ s _ _ w6 hR6 hm6 (by omega)).mono ?_
    rintro e w7 ⟨rfl, hA7, hg7⟩
    have hs7 := hg7.size
    go_wp2_with fail
    refine (z14a _ s _ _ [] 0 _ w7 hA7 (by omega) (SN _ _) rfl (by omega)).mono ?_
    rintro e w8 ⟨rfl, hW8⟩
    have hs8 := hW8.bel.size
    have hst := stOf_ge s
    go_wp2_with fail
    refine (z14b _ _ _ _ [] [] 0 _ _ w8 hst hW8 (by omega) hN1 (SN _ _) rfl (by simp)).mono ?_
    rintro e w9 ⟨rfl, hW9⟩
    rw [List.append_nil] at hW9
    have b59 : Below w5.heap.size w5 w9 := ((hb6.trans (below_of_grown hg7 (by omega) (by omega))).trans (hW8.bel.mono (by omega))).trans (hW9.bel.mono (by omega))
    obtain ⟨m2, r1, r2, r3⟩ := hW5.recd
    have R1 := r1.old b59
    have M1 := map_below r2 b59 r2.lt
    obtain ⟨m3, R2, M2, q3⟩ := hW9.recd
    have hS : stOf s = 200 := by simp [stOf, hs]
    rw [hS] at R1 R2
    have bfin : Below w2.heap.size w2 w9 := ((hb3.trans (below_of_grown hg4 (by omega) (by omega))).trans (hW5.bel.mono (by omega))).trans (b59.mono (by omega))
    clear hS hW9 b59 r1 r2 r3 q3 hW5 hW8 hg7 hb6 hA7 hA4 hg4 hR3 hR6 hm3 hm6 hb3
    go_wp2_with fail
    refine (zstatus _ _ _ _ _ _ w9 R1).mono ?_
    rintro e w10 ⟨rfl, rfl⟩
    go_wp2_with fail
    refine (zstatus _ _ _ _ _ _ _ R2).mono ?_
    rintro e w11 ⟨rfl, rfl⟩
    go_wp2_with fail
    refine (body16 _ _ _ _ _ _ _ R1 hN1).mono ?_
    rintro e w12 ⟨v1, n1, rfl, hv1, rfl⟩
    go_wp2_with fail
    refine (bytesEqC _ 0 [] [] rfl _ _ w11 n1 (by simp) hv1 (SN _ _)).mono ?_
    rintro e w13 ⟨rfl, n2, rfl⟩
    go_wp2_with fail
    refine (body16 _ _ _ _ _ _ _ (R2.drewN n2) hN1).mono ?_
    rintro e w12 ⟨v2, n3, rfl, hv2, rfl⟩
    go_wp2_with fail
    refine (bytesEqC _ 0 [] [] rfl _ _ w11 (n2 + n3) (by simp) hv2 (SN _ _)).mono ?_
    rintro e w14 ⟨rfl, n4, rfl⟩
    go_wp2_with fail
    refine (zsent _ _ _ _ _ _ _ (R1.drewN n4)).mono ?_
    rintro e w15 ⟨rfl, rfl⟩
    go_wp2_with fail
    refine (zsent _ _ _ _ _ _ _ (R2.drewN n4)).mono ?_
    rintro e w16 ⟨rfl, rfl⟩
    have l1 : ∀ ty, (Builtin.len_ #[31] ty #[.map (some m2)]).run Tryd.prog (w11.drewN n4) = .ok (.int .i64 0) (w11.drewN n4) := fun ty => World.ownsMap.len (w := w11.drewN n4) (D := .map []) M1 Tryd.underlying31 ty
    have l2 : ∀ ty, (Builtin.len_ #[31] ty #[.map (some m3)]).run Tryd.prog (w11.drewN n4) = .ok (.int .i64 0) (w11.drewN n4) := fun ty => World.ownsMap.len (w := w11.drewN n4) (D := .map []) M2 Tryd.underlying31 ty
    go_wp2_with fail
    go_ret
    exact ⟨rfl, below_drewN bfin n4⟩
  · go_wp2
    go_ret
    exact ⟨rfl, Below.refl _ _⟩

set_option maxRecDepth 100000 in
set_option maxHeartbeats 2000000 in
theorem walk_nil_hi (s ct : Int) (w : World) (h0 : 0 ≤ ct) (h1 : ct ≤ 0) (hs : 200 ≤ s) :
    Calls Tryd.prog 5 #[.int .i64 s, .slice none 0 0, .int .i64 ct] w fun e w' => e = .returned (.bool true) ∧ Below w.heap.size w w' := by
  obtain rfl : ct = 0 := by omega
  have hmm := @run_makeMap Tryd.prog
  have qs : ∀ (w : World) (a : Option Addr) (n c : Nat), (binOp .neq 23 (.slice a n c) (.slice none 0 0)).run Tryd.prog w = .ok (.bool (!a.isNone)) w := fun w a n c => run_neq_slice_nil_any w 23 5 a n c 0 0 Tryd.underlying23
  have qm : ∀ (w : World) (r : Option Nat), (binOp .neq 31 (.map r) (.map none)).run Tryd.prog w = .ok (.bool (!r.isNone)) w := fun w r => run_neq_map_nil w _ _ _ r Tryd.underlying31
  have SN : ∀ b w, SrcOf b [] (.slice none 0 0) w := fun b w => Or.inl ⟨rfl, rfl⟩
  have hN1 : ∀ v ∈ ([] : List Value), v.oneCell' = true := by simp
  go_enter Tryd.func5, Tryd.ntmps5
  go_wp2_with fail
  refine (bytes20 s 0 none 0 0 (by unfold maxLen; omega) w).mono ?_
  rintro e w2 ⟨rfl | rfl, rfl⟩
  · go_wp2_with fail
    refine (newRec2 w2).mono ?_
    rintro e w3 ⟨rfl, hR3, hm3, hb3, hs3⟩
    go_wp2_with fail
    refine (z13 _ s _ _ w3 hR3 hm3 (by omega)).mono ?_
    rintro e w4 ⟨rfl, hA4, hg4⟩
    have hs4 := hg4.size
    go_wp2_with fail
    refine (z14a _ s _ _ [] 0 _ w4 hA4 (by omega) (SN _ _) rfl (by omega)).mono ?_
    rintro e w5 ⟨rfl, hW5⟩
    have hs5 := hW5.bel.size
    go_wp2_with fail
    refine (newRec2 w5).mono ?_
    rintro e w6 ⟨rfl, hR6, hm6, hb6, hs6⟩
    go_wp2_with fail
    refine (z13 _ s _ _ w6 hR6 hm6 (by omega)).mono ?_
    rintro e w7 ⟨rfl, hA7, hg7⟩
    have hs7 := hg7.size
    go_wp2_with fail
    refine (z14a _ s _ _ [] 0 _ w7 hA7 (by omega) (SN _ _) rfl (by omega)).mono ?_
    rintro e w8 ⟨rfl, hW8⟩
    have hs8 := hW8.bel.size
    have hst := stOf_ge s
    go_wp2_with fail
    refine (z14b _ _ _ _ [] [] 0 _ _ w8 hst hW8 (by omega) hN1 (SN _ _) rfl (by simp)).mono ?_
    rintro e w9 ⟨rfl, hW9⟩
    rw [List.append_nil] at hW9
    have b59 : Below w5.heap.size w5 w9 := ((hb6.trans (below_of_grown hg7 (by omega) (by omega))).trans (hW8.bel.mono (by omega))).trans (hW9.bel.mono (by omega))
    obtain ⟨m2, r1, r2, r3⟩ := hW5.recd
    have R1 := r1.old b59
    have M1 := map_below r2 b59 r2.lt
    obtain ⟨m3, R2, M2, q3⟩ := hW9.recd
    have hS : stOf s = s := by simp only [stOf]; rw [if_neg (by omega)]
    rw [hS] at R1 R2
    have bfin : Below w2.heap.size w2 w9 := ((hb3.trans (below_of_grown hg4 (by omega) (by omega))).trans (hW5.bel.mono (by omega))).trans (b59.mono (by omega))
    clear hS hW9 b59 r1 r2 r3 q3 hW5 hW8 hg7 hb6 hA7 hA4 hg4 hR3 hR6 hm3 hm6 hb3
    go_wp2_with fail
    refine (zstatus _ _ _ _ _ _ w9 R1).mono ?_
    rintro e w10 ⟨rfl, rfl⟩
    go_wp2_with fail
    refine (zstatus _ _ _ _ _ _ _ R2).mono ?_
    rintro e w11 ⟨rfl, rfl⟩
    go_wp2_with fail
    refine (body16 _ _ _ _ _ _ _ R1 hN1).mono ?_
    rintro e w12 ⟨v1, n1, rfl, hv1, rfl⟩
    go_wp2_with fail
    refine (bytesEqC _ 0 [] [] rfl _ _ w11 n1 (by simp) hv1 (SN _ _)).mono ?_
    rintro e w13 ⟨rfl, n2, rfl⟩
    go_wp2_with fail
    refine (body16 _ _ _ _ _ _ _ (R2.drewN n2) hN1).mono ?_
    rintro e w12 ⟨v2, n3, rfl, hv2, rfl⟩
    go_wp2_with fail
    refine (bytesEqC _ 0 [] [] rfl _ _ w11 (n2 + n3) (by simp) hv2 (SN _ _)).mono ?_
    rintro e w14 ⟨rfl, n4, rfl⟩
    go_wp2_with fail
    refine (zsent _ _ _ _ _ _ _ (R1.drewN n4)).mono ?_
    rintro e w15 ⟨rfl, rfl⟩
    go_wp2_with fail
    refine (zsent _ _ _ _ _ _ _ (R2.drewN n4)).mono ?_
    rintro e w16 ⟨rfl, rfl⟩
    have l1 : ∀ ty, (Builtin.len_ #[31] ty #[.map (some m2)]).run Tryd.prog (w11.drewN n4) = .ok (.int .i64 0) (w11.drewN n4) := fun ty => World.ownsMap.len (w := w11.drewN n4) (D := .map []) M1 Tryd.underlying31 ty
    have l2 : ∀ ty, (Builtin.len_ #[31] ty #[.map (some m3)]).run Tryd.prog (w11.drewN n4) = .ok (.int .i64 0) (w11.drewN n4) := fun ty => World.ownsMap.len (w := w11.drewN n4) (D := .map []) M2 Tryd.underlying31 ty
    go_wp2_with fail
    go_ret
    exact ⟨rfl, below_drewN bfin n4⟩
  · go_wp2
    go_ret
    exact ⟨rfl, Below.refl _ _⟩

set_option maxHeartbeats 1000000 in
/-- The ways on which the law answers ahead of all work. -/
theorem walk_early (s ct : Int) (ao : Option Addr) (n cp : Nat) (hn : n ≤ maxLen) (w : World) (h : 65536 < n ∨ ct < 0 ∨ (n : Int) < ct) :
    Calls Tryd.prog 5 #[.int .i64 s, .slice ao n cp, .int .i64 ct] w fun e w' => e = .returned (.bool true) ∧ Below w.heap.size w w' := by
  have H20 := bytes20 s ct ao n cp hn w
  unfold maxLen at hn
  by_cases h1 : (65536 : Int) < (n : Int)
  · go_enter Tryd.func5, Tryd.ntmps5
    go_wp2_with fail
    refine H20.mono ?_
    rintro e w2 ⟨rfl | rfl, rfl⟩
    all_goals
      go_wp2
      go_ret
      exact ⟨rfl, Below.refl _ _⟩
  · by_cases h2 : ct < 0
    · go_enter Tryd.func5, Tryd.ntmps5
      go_wp2_with fail
      refine H20.mono ?_
      rintro e w2 ⟨rfl | rfl, rfl⟩
      all_goals
        go_wp2
        go_ret
        exact ⟨rfl, Below.refl _ _⟩
    · have h3 : (n : Int) < ct := by omega
      go_enter Tryd.func5, Tryd.ntmps5
      go_wp2_with fail
      refine H20.mono ?_
      rintro e w2 ⟨rfl | rfl, rfl⟩
      all_goals
        go_wp2
        go_ret
        exact ⟨rfl, Below.refl _ _⟩

end Go.Proofs.Qxb6614922aDoor
