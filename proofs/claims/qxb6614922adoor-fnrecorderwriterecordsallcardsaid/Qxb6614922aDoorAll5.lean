/-
  Seat b6614922aD: FnRecorderWriteRecordsAll: the test on the total length.
-/
import Derived.Test.Qxb6614922aDoorAll4
import Derived.Deep.DeepCutAuto
import Derived.Deep.CutBlock
namespace Go.Proofs.Qxb6614922aDoor
open Go.RowKit Go.Maps

/-- What came in: the names, the values, list by list. -/
structure Came (w : World) (v0 v1 : Value) (ss : List ByteArray) (V : List Value) (SS : List (List ByteArray)) : Prop where
  names : Cells w v0 (ss.map Value.string)
  vals : Cells w v1 V
  len : V.length = SS.length
  each : ∀ i, i < V.length → Cells w (V.getD i (.slice none 0 0)) ((SS.getD i []).map Value.string)

set_option maxRecDepth 100000 in
set_option maxHeartbeats 1000000 in
theorem bytes8 (a0 a1 a3 a4 : Option Addr) (n0 c0 n1 c1 n3 c3 n4 c4 : Nat) (s : Int) (ss : List ByteArray) (V : List Value) (SS : List (List ByteArray)) (w : World) (h : Came w (.slice a0 n0 c0) (.slice a1 n1 c1) ss V SS)
    (h0 : n0 ≤ maxLen) (h1 : n1 ≤ maxLen) (h3 : n3 ≤ maxLen) (h4 : n4 ≤ maxLen) :
    Calls Tryd.prog 8 #[.slice a0 n0 c0, .slice a1 n1 c1, .int .i64 s, .slice a3 n3 c3, .slice a4 n4 c4] w fun e w' => ((e = .returned (.bool true) ∧ (∀ j, j < ss.length → (ss.getD j ⟨#[]⟩).size ≤ 1048576) ∧ (∀ i j, i < SS.length → j < (SS.getD i []).length → ((SS.getD i []).getD j ⟨#[]⟩).size ≤ 1048576) ∧ lens SS SS.length ≤ 1048576) ∨ e = .returned (.bool false)) ∧ w' = w := by
  unfold maxLen at *
  obtain ⟨hN, hVs, hVl, hE⟩ := h
  by_cases hb0 : 1048576 < (n0 : Int)
  · go_enter Tryd.func8, Tryd.ntmps8
    go_wp2
    go_ret
    exact ⟨by simp, rfl⟩
  go_enter Tryd.func8, Tryd.ntmps8
  go_upto_block 0 with fail
  go_cut [11, 12] (fun z _ wx => (∃ q : Nat, z = .int .i64 q ∧ q ≤ 1048576) ∧ Hid (∀ j, j < ss.length → (ss.getD j ⟨#[]⟩).size ≤ 1048576) ∧ wx = w)
  case first =>
    rcases hN with ⟨ao, c, e0, hs0⟩ | ⟨bk, off, c, e0, hp, hc⟩
    · cases e0
      go_wp2_with fail
      refine wp_loop_rounds 1 ?_
      rw [rounds_succ]
      go_wp2_with fail
      go_meet
      case rel => exact ⟨⟨0, by simp, by omega⟩, fun j hj => by rw [List.map_eq_nil_iff.1 hs0] at hj; exact absurd hj (Nat.not_lt_zero _), rfl⟩
    · cases e0
      rw [List.length_map] at *
      have d1 : ∀ j, j < ss.length → w.cell? ⟨bk, off + j, none⟩ = some (.string (ss.getD j ⟨#[]⟩)) := fun j h => hc j _ (by simp [h])
      clear hc
      generalize ss.length = N at *
      go_wp2_with fail
      go_loopg [11, 12] N (fun g z i wx => ∃ k q : Nat, k ≤ N ∧ g = N - k ∧ i = .int .i64 k ∧ z = .int .i64 q ∧ q ≤ 1048576 ∧ Hid (∀ j, j < k → (ss.getD j ⟨#[]⟩).size ≤ 1048576) ∧ wx = w)
      case atStart => exact ⟨0, N, by omega, by omega, rfl, rfl, by omega, fun j hj => by omega, rfl⟩
      case round =>
        obtain ⟨k, q, hk, rfl, rfl, rfl, hq, HS, rfl⟩ := hrel
        by_cases hlt : k < N
        · have e1 := d1 k hlt
          obtain ⟨z, hz⟩ : ∃ z, z = ss.getD k ⟨#[]⟩ := ⟨_, rfl⟩
          rw [← hz] at e1
          have Hz : Hid (z = ss.getD k ⟨#[]⟩) := hz
          clear d1 hz
          by_cases hz1 : 1048576 < (z.size : Int)
          · go_wp2_with fail
            go_ret
            exact ⟨by simp, rfl⟩
          · by_cases hz2 : 1048576 < (q : Int) + (z.size : Int)
            · go_wp2_with fail
              go_ret
              exact ⟨by simp, rfl⟩
            · go_wp2_with fail
              go_roundg (N - (k + 1))
              case measure => omega
              case rel => exact ⟨k + 1, q + z.size, by omega, rfl, by go_num, by go_num, by omega, fun j hj => by
                by_cases hjk : j = k
                · subst hjk; rw [← Hz.out]; omega
                · exact HS.out j (by omega), rfl⟩
        · go_wp2_with fail
          go_meet
          case rel => exact ⟨⟨q, rfl, hq⟩, fun j hj => HS.out j (by omega), rfl⟩
  case rest =>
    obtain ⟨⟨q, rfl, hq⟩, HSn, rfl⟩ := hcut
    by_cases hb1 : 1048576 < (n1 : Int)
    · go_wp2_with fail
      go_ret
      exact ⟨by simp, rfl⟩
    by_cases hb2 : 1048576 < (q : Int) + (n1 : Int)
    · go_wp2_with fail
      go_ret
      exact ⟨by simp, rfl⟩
    go_upto_block 2 with fail
    go_cut [11, 13, 14] (fun z _ _ wx => (∃ q : Nat, z = .int .i64 q ∧ q ≤ 1048576 ∧ Hid (lens SS SS.length ≤ q)) ∧ Hid (∀ i j, i < SS.length → j < (SS.getD i []).length → ((SS.getD i []).getD j ⟨#[]⟩).size ≤ 1048576) ∧ wx = wc)
    case first =>
      rcases hVs with ⟨ao, c, e0, hs0⟩ | ⟨bk, off, c, e0, hp, hc⟩
      · cases e0
        go_wp2_with fail
        refine wp_loop_rounds 1 ?_
        rw [rounds_succ]
        go_wp2_with fail
        go_meet
        case rel => exact ⟨⟨q, by simp, by omega, by show _ ≤ _; rw [← hVl, hs0]; exact Nat.zero_le _⟩, fun i j hi => by rw [← hVl, hs0] at hi; exact absurd hi (Nat.not_lt_zero _), rfl⟩
      · cases e0
        have d1 : ∀ j, j < V.length → wc.cell? ⟨bk, off + j, none⟩ = some (V.getD j (.slice none 0 0)) := fun j h => hc j _ (by simp [h])
        have HVl : Hid (V.length = SS.length) := hVl
        clear hc hVl
        generalize V.length = N at *
        go_wp2_with fail
        go_loopg [11, 13, 14] N (fun g z i _ wx => ∃ k q : Nat, k ≤ N ∧ g = N - k ∧ i = .int .i64 k ∧ z = .int .i64 q ∧ q ≤ 1048576 ∧ Hid (lens SS k ≤ q) ∧ Hid (∀ i j, i < k → j < (SS.getD i []).length → ((SS.getD i []).getD j ⟨#[]⟩).size ≤ 1048576) ∧ wx = wc)
        case atStart => exact ⟨0, q + N, by omega, by omega, rfl, by go_num, by omega, Nat.zero_le _, fun i j hi => by omega, rfl⟩
        case round =>
          obtain ⟨k, q2, hk, rfl, rfl, rfl, hq2, HL, HT, rfl⟩ := hrel
          by_cases hlt : k < N
          · have e1 := d1 k hlt
            have f1 := hE k hlt
            generalize V.getD k (.slice none 0 0) = z at e1 f1
            obtain ⟨fs, hfs0⟩ : ∃ fs, fs = SS.getD k [] := ⟨_, rfl⟩
            rw [← hfs0] at f1
            have Hfs : Hid (fs = SS.getD k []) := hfs0
            clear d1 hE hfs0
            rcases f1 with ⟨ao2, cc2, rfl, hfs⟩ | ⟨bk2, off2, cc2, rfl, hp2, hc2⟩
            · go_wp2_with fail
              refine wp_loop_rounds 1 ?_
              rw [rounds_succ]
              go_wp2_with fail
              go_roundg (N - (k + 1))
              case measure => omega
              case rel =>
                have e0 : SS.getD k [] = [] := by rw [← Hfs.out]; exact List.map_eq_nil_iff.1 hfs
                exact ⟨k + 1, q2, by omega, rfl, by go_num, by simp, by omega, by show lens SS k + _ ≤ q2; rw [e0]; exact HL.out, fun i j hi hj => by
                  by_cases hik : i = k
                  · subst hik; rw [e0] at hj; exact absurd hj (Nat.not_lt_zero _)
                  · exact HT.out i j (by omega) hj, rfl⟩
            · rw [List.length_map] at *
              have d2 : ∀ j, j < fs.length → wr.cell? ⟨bk2, off2 + j, none⟩ = some (.string (fs.getD j ⟨#[]⟩)) := fun j h => hc2 j _ (by simp [h])
              clear hc2
              obtain ⟨M, hM⟩ : ∃ M, M = fs.length := ⟨_, rfl⟩
              rw [← hM] at e1 hp2 d2
              have HM : Hid (M = fs.length) := hM
              clear hM
              by_cases hz1 : 1048576 < (M : Int)
              · go_wp2_with fail
                go_ret
                exact ⟨by simp, rfl⟩
              by_cases hz2 : 1048576 < (q2 : Int) + (M : Int)
              · go_wp2_with fail
                go_ret
                exact ⟨by simp, rfl⟩
              go_wp2_with fail
              go_loopg [11, 14] M (fun g z i wx => ∃ j q : Nat, j ≤ M ∧ g = M - j ∧ i = .int .i64 j ∧ z = .int .i64 q ∧ q ≤ 1048576 ∧ Hid (lens SS k + M ≤ q) ∧ Hid (∀ i, i < j → (fs.getD i ⟨#[]⟩).size ≤ 1048576) ∧ wx = wr)
              case atStart => exact ⟨0, q2 + M, by omega, by omega, rfl, by go_num, by omega, by have := HL.out; show _ ≤ _; omega, fun i hi => by omega, rfl⟩
              case round =>
                obtain ⟨j, q3, hj, rfl, rfl, rfl, hq3, HL3, HT3, rfl⟩ := hrel
                by_cases hlj : j < M
                · have e2 := d2 j hlj
                  obtain ⟨y, hy⟩ : ∃ y, y = fs.getD j ⟨#[]⟩ := ⟨_, rfl⟩
                  rw [← hy] at e2
                  have Hy : Hid (y = fs.getD j ⟨#[]⟩) := hy
                  clear d2 hy
                  by_cases hy1 : 1048576 < (y.size : Int)
                  · go_wp2_with fail
                    go_ret
                    exact ⟨by simp, rfl⟩
                  by_cases hy2 : 1048576 < (q3 : Int) + (y.size : Int)
                  · go_wp2_with fail
                    go_ret
                    exact ⟨by simp, rfl⟩
                  go_wp2_with fail
                  go_roundg (M - (j + 1))
                  case measure => omega
                  case rel => exact ⟨j + 1, q3 + y.size, by omega, rfl, by go_num, by go_num, by omega, by have := HL3.out; show _ ≤ _; omega, fun i hi => by
                    by_cases hij : i = j
                    · subst hij; rw [← Hy.out]; omega
                    · exact HT3.out i (by omega), rfl⟩
                · go_wp2_with fail
                  go_roundg (N - (k + 1))
                  case measure => omega
                  case rel => exact ⟨k + 1, q3, by omega, rfl, by go_num, rfl, by omega, by have h1 := HL3.out; have h2 := HM.out; have h3 := Hfs.out; show lens SS k + _ ≤ q3; rw [← h3, ← h2]; exact h1, fun i j' hi hj' => by
                    by_cases hik : i = k
                    · subst hik
                      rw [← Hfs.out] at hj' ⊢
                      exact HT3.out j' (by have := HM.out; omega)
                    · exact HT.out i j' (by omega) hj', rfl⟩
          · go_wp2_with fail
            go_meet
            case rel =>
              have e0 : k = SS.length := by have := HVl.out; omega
              exact ⟨⟨q2, rfl, hq2, by rw [← e0]; exact HL⟩, by rw [← e0]; exact HT, rfl⟩
    case rest =>
      obtain ⟨⟨q2, rfl, hq2, HLs⟩, HTs, rfl⟩ := hcut
      by_cases hb3 : 1048576 < (n3 : Int)
      · go_wp2_with fail
        go_ret
        exact ⟨by simp, rfl⟩
      by_cases hb4 : 1048576 < (q2 : Int) + (n3 : Int)
      · go_wp2_with fail
        go_ret
        exact ⟨by simp, rfl⟩
      by_cases hb5 : 1048576 < (n4 : Int)
      · go_wp2_with fail
        go_ret
        exact ⟨by simp, rfl⟩
      by_cases hb6 : 1048576 < (q2 : Int) + (n3 : Int) + (n4 : Int)
      · go_wp2_with fail
        go_ret
        exact ⟨by simp, rfl⟩
      go_wp2_with fail
      go_ret
      exact ⟨Or.inl ⟨rfl, HSn.out, HTs.out, Nat.le_trans HLs.out hq2⟩, rfl⟩
end Go.Proofs.Qxb6614922aDoor
