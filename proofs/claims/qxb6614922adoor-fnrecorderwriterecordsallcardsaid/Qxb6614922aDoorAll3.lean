/-
  Seat b6614922aD: FnRecorderWriteRecordsAll: the recorder's WriteHeader and Write at whatever header.
-/
import Derived.Test.Qxb6614922aDoorAll2
namespace Go.Proofs.Qxb6614922aDoor
open Go.RowKit Go.Maps

/-- Every row of cells is as it was. -/
def KeepC (w w' : World) : Prop := ∀ (k : Nat) (c : Array Value) (e : TypeId) (fz : Nat × Nat), w.heap[k]? = some (.cells c e fz) → w'.heap[k]? = some (.cells c e fz)
theorem KeepC.refl (w : World) : KeepC w w := fun _ _ _ _ h => h
theorem KeepC.trans {a b c : World} (h : KeepC a b) (k : KeepC b c) : KeepC a c := fun i x e fz hi => k i x e fz (h i x e fz hi)
theorem KeepC.cell {w w' : World} (h : KeepC w w') (a : Addr) (u : Value) (hc : w.cell? a = some u) : w'.cell? a = some u := by
  unfold World.cell? at hc ⊢
  split at hc
  · rename_i e; rw [h _ _ _ _ e]; exact hc
  · cases hc
theorem keep_none {w w' : World} (h : w.grownBy w' none) : KeepC w w' := fun k _ _ _ hk => (h.block k (Lib.lt_of_heap hk) (by simp)).trans hk
theorem keep_below {w w' : World} (h : Below w.heap.size w w') : KeepC w w' := fun k _ _ _ hk => (h.block k (Lib.lt_of_heap hk)).trans hk
theorem keep_map {w w' : World} {r : Nat} (h : w.grownBy w' (some r)) (hr : ∀ c e fz, w.heap[r]? ≠ some (.cells c e fz)) : KeepC w w' := fun k c e fz hk =>
  (h.block k (Lib.lt_of_heap hk) (fun e' => by have : k = r := by simpa using e'
                                               subst this; exact hr c e fz hk)).trans hk
theorem rec_keep {T : TypeId} {R : Nat → Option Value} {e B b o : Nat} {bs : List Value} {w w' : World} (h : LibA.IsBuffer T R e B b o bs w) (hk : KeepC w w') : LibA.IsBuffer T R e B b o bs w' := by
  obtain ⟨hB, lr, hc⟩ := h.cases
  rcases hc with ⟨rfl, cs, h0, h1⟩ | ⟨g, cap, cur, ⟨cs, h0, h1⟩, hBg, hg, hnc, hcm, hcs, htk, hgb⟩
  · exact LibA.zero_isBuffer hB (lr := lr) ⟨cs, hk _ _ _ _ h0, h1⟩
  · have := LibA.isBuffer_mk (T := T) (R := R) (o := o) (lr := lr) hB ⟨cs, hk _ _ _ _ h0, h1⟩ hBg (hk _ _ _ _ hg) hnc hcm hcs hgb
    rwa [htk] at this
theorem rec_tag {R : Nat → Option Value} {e B b o : Nat} {bs : List Value} {w : World} (h : LibA.IsBuffer 61 R e B b o bs w) : ∀ c, w.heap[b]? ≠ some (.cells c 9 (0, 0)) := by
  obtain ⟨_, v, lr, ⟨cs, hb, _⟩, _⟩ := h
  intro c hc
  rw [hb] at hc
  cases hc
theorem ranges_iter {H : Type} {P : Program} {k : TypeId} {R : Value → Option (DataW H × List MemPlace)} {w : World} {b r n : Nat} {D : DataW H} {left : Lit → Bool} {cnt : Nat} (h : w.ranges P k R b r n D left cnt) :
    ∀ c e fz, w.heap[r]? ≠ some (.cells c e fz) := by
  obtain ⟨es, clock, since, seen, c0, _, _, _, _, hr, _⟩ := h
  intro c e fz h'
  rw [hr] at h'
  cases h'
theorem own_map {H : Type} {P : Program} {k : TypeId} {R : Value → Option (DataW H × List MemPlace)} {w : World} {b n : Nat} {D : DataW H} (h : w.ownsMap P k R b n D) :
    ∀ c e fz, w.heap[b]? ≠ some (.cells c e fz) := by
  obtain ⟨es, clock, hb, _⟩ := h
  intro c e fz h'
  rw [hb] at h'
  cases h'

/-- The names under the trailer's prefix. -/
def trl : List UInt8 := [84, 114, 97, 105, 108, 101, 114, 58]
def isTr : Lit → Bool
  | .string x => Lib.hasPrefix x trl
  | _ => false

theorem vals_del {w : World} {D : DataW Value} {F : Lit → List ByteArray} (h : Vals w D F) (k : Lit) : Vals w (D.del k) F := by
  intro kl y hy
  by_cases e : kl = k
  · subst e
    have h1 := hy .nil
    have h2 := hy (.lit (.bool true))
    rw [atKey_del_same] at h1 h2
    rw [← h1] at h2
    cases h2
  · exact h kl y (fun z => by rw [← hy z, atKey_del_other e])

theorem sweep_del {D Dr : DataW Value} {left : Lit → Bool} {x : List UInt8} (h : ∀ k, has Dr k = (has D k && (left k || !isTr k))) (hp : isTr (.string x) = true) :
    ∀ k, has (Dr.del (.string x)) k = (has D k && ((left k && !k.sameKey (.string x)) || !isTr k)) := by
  intro k
  by_cases e : k = .string x
  · subst e
    rw [has_del_same, hp]
    simp [Lit.sameKey]
  · rw [has_del_other e, h k, sameKey_ne e]
    simp
theorem sweep_stay {D Dr : DataW Value} {left : Lit → Bool} {x : List UInt8} (h : ∀ k, has Dr k = (has D k && (left k || !isTr k))) (hp : isTr (.string x) = false) :
    ∀ k, has Dr k = (has D k && ((left k && !k.sameKey (.string x)) || !isTr k)) := by
  intro k
  by_cases e : k = .string x
  · subst e
    rw [h, hp]
    simp
  · rw [h k, sameKey_ne e]
    simp

set_option maxRecDepth 100000 in
set_option maxHeartbeats 1000000 in
theorem wh_gen (m n : Nat) (s : Int) (B b : Nat) (bs : List Value) (D : DataW Value) (F : Lit → List ByteArray) (w : World) (h : RecAt m 0 none B b bs w) (hs : 200 ≤ s) (hm : w.ownsMap Tryd.prog 9 sliceE m n D) (hmb : m ≠ b)
    (hV : Vals w D F) (hn : Maps.size D ≤ 4294967296) (hsum : sumD (fun _ => true) D ≤ 4294967296) :
    Calls Tryd.prog 23 #[.pointer (some ⟨b, 0, none⟩), .int .i64 s] w fun e w' => e = .returned (.tuple #[]) ∧ ∃ m2 n2 D2, RecAt m s (some m2) B b bs w' ∧ w'.ownsMap Tryd.prog 9 sliceE m2 n2 D2 ∧ w.heap.size ≤ m2 ∧ w.grownBy w' (some b) ∧
      (∀ k, has D2 k = (has D k && !isTr k)) ∧ Vals w' D2 F := by
  have c0 : w.cell? ⟨b, 0, none⟩ = some (.map (some m)) := h.rest 0 (by omega)
  have c1 : w.cell? ⟨b, 1, none⟩ = some (.int .i64 0) := h.rest 1 (by omega)
  have f1 : w.frozen? ⟨b, 1, none⟩ = false := h.notFrozen 1
  have hb := h.lt
  have h1 := h.setOther 1 (by omega) (old := .int .i64 0) rfl (.int .i64 s)
  rw [recR_st] at h1
  have hm1 := hm.setCell (a := ⟨b, 1, none⟩) hmb (.int .i64 s)
  have hne : ¬ s < 200 := by omega
  have d0 : (w.setCell ⟨b, 1, none⟩ (.int .i64 s)).cell? ⟨b, 0, none⟩ = some (.map (some m)) := h1.rest 0 (by omega)
  have hV1 : Vals (w.setCell ⟨b, 1, none⟩ (.int .i64 s)) D F := hV.keep (keep9_but (Lib.grownBy_setCell w b 1 _) (rec_tag h))
  go_enter Tryd.func23, Tryd.ntmps23
  go_wp2_with fail
  refine (clone_any m n D F _ hm1 hV1 hn hsum).mono ?_
  rintro e w2 ⟨m2, D1, rfl, ho2, hle, hbel, hh1, hV2⟩
  have h2 := h1.old hbel
  have f2 : w2.frozen? ⟨b, 2, none⟩ = false := h2.notFrozen 2
  have c2 : w2.cell? ⟨b, 2, none⟩ = some (.map none) := h2.rest 2 (by omega)
  have h3 := h2.setOther 2 (by omega) (old := .map none) rfl (.map (some m2))
  rw [recR_sent] at h3
  have d2 : (w2.setCell ⟨b, 2, none⟩ (.map (some m2))).cell? ⟨b, 2, none⟩ = some (.map (some m2)) := h3.rest 2 (by omega)
  have hle2 : w.heap.size ≤ m2 := by simpa [World.setCell] using hle
  have ho3 := ho2.setCell (a := ⟨b, 2, none⟩) (by show m2 ≠ b; omega) (.map (some m2))
  have hV3 : Vals (w2.setCell ⟨b, 2, none⟩ (.map (some m2))) D1 F := hV2.keep (keep9_but (Lib.grownBy_setCell w2 b 2 _) (rec_tag h2))
  have g1 : w.grownBy (w.setCell ⟨b, 1, none⟩ (.int .i64 s)) (some b) := Lib.grownBy_setCell w b 1 _
  have g2 := g1.andThen (grown_of_below hbel none) (by simp)
  have g3 := g2.andThen (Lib.grownBy_setCell w2 b 2 (.map (some m2))) (by simp)
  have Hh1 : Hid (∀ k, has D1 k = has D k) := hh1
  have hbz := hbel.size
  clear c0 c1 f1 d0 hh1 g1 g2 hV hV1 hV2 hm hm1 h h1 hbel hle ho2
  go_wp2_with (first | (at_range; refine wpList_range_own _ rfl _ 55 rfl 9 28 law9 Tryd.underlying55 _ m2 _ _ rfl ho3 ?_; intro w3 hrg3 hg3 hs3) | fail)
  go_frame
  have e1 : (w2.setCell ⟨b, 2, none⟩ (.map (some m2))).heap.size = w2.heap.size := by simp [World.setCell]
  rw [e1] at hrg3 hs3 ⊢
  have hm2l : m2 < w2.heap.size := by have := ho3.lt; rw [e1] at this; exact this
  have e2 : (w.setCell ⟨b, 1, none⟩ (.int .i64 s)).heap.size = w.heap.size := by simp [World.setCell]
  rw [e2] at hbz
  have h4 := rec_keep h3 (keep_none hg3)
  have hV4 := hV3.keep (keep9_none hg3)
  have g4 := g3.andThen hg3 (by simp)
  clear h2 h3 hV3 g3 hg3 f2 c2 d2 ho3
  go_loopw [4] (fun _ wr => ∃ (left : Lit → Bool) (cnt : Nat) (Dr : DataW Value), wr.ranges Tryd.prog 9 sliceE m2 w2.heap.size (Maps.size D) Dr left cnt ∧ (∀ k, has Dr k = (has D1 k && (left k || !isTr k))) ∧ Vals wr Dr F ∧ RecAt m s (some m2) B b bs wr ∧ w.grownBy wr (some b))
    (fun _ wr => wr.rangeLeft m2 w2.heap.size)
  case atStart => exact ⟨_, _, D1, hrg3, fun k => by cases has D1 k <;> simp, hV4, h4, g4⟩
  case round =>
    obtain ⟨left, cnt, Dr, hrg, hha, hVr, hR, hgr⟩ := hrel
    have Hha : Hid (∀ k, has Dr k = (has D1 k && (left k || !isTr k))) := hha
    clear hha hrg3 hV4 h4 g4
    go_wp2_with (first | (at_next; refine next_sl _ rfl _ rfl m2 w2.heap.size _ Dr _ _ rfl hrg ?_ ?_) | fail)
    · intro hc0 hl0
      go_wp2_with fail
      go_end0
      exact ⟨rfl, m2, _, Dr, hR, hrg.owns, hle2, hgr, fun k => by rw [Hha.out, hl0, Hh1.out]; simp, hVr⟩
    · intro x ao ln cp w4 cnt4 hkey hlk hat hrg4 hlt hg4 hs4 hen
      have hR4 := rec_keep hR (keep_map hg4 (ranges_iter hrg))
      have hV5 := hVr.keep (keep9_but hg4 (fun c => ranges_iter hrg c 9 (0, 0)))
      have hg5 := hgr.andThen hg4 (fun j hj => by cases hj; exact Or.inl hbz)
      have cs2 : w4.cell? ⟨b, 2, none⟩ = some (.map (some m2)) := hR4.rest 2 (by omega)
      cases hpre : Lib.hasPrefix x.data.toList trl
      · have HP := Tryd.strings_HasPrefix x ⟨#[84, 114, 97, 105, 108, 101, 114, 58]⟩ w4
        have e3 : Lib.hasPrefix x.data.toList ([84, 114, 97, 105, 108, 101, 114, 58] : List UInt8) = false := hpre
        rw [show ((⟨#[84, 114, 97, 105, 108, 101, 114, 58]⟩ : ByteArray).data.toList) = [84, 114, 97, 105, 108, 101, 114, 58] from rfl, e3] at HP
        go_wp2_with fail
        refine HP.mono ?_
        rintro e w5 ⟨rfl, rfl⟩
        go_wp2_with fail
        go_roundw
        case rel => exact ⟨_, cnt4, Dr, hrg4, sweep_stay Hha.out hpre, hV5, hR4, hg5⟩
        case measure => rw [hrg4.left_eq, hrg.left_eq]; exact hlt
      · have HP := Tryd.strings_HasPrefix x ⟨#[84, 114, 97, 105, 108, 101, 114, 58]⟩ w4
        have e3 : Lib.hasPrefix x.data.toList ([84, 114, 97, 105, 108, 101, 114, 58] : List UInt8) = true := hpre
        rw [show ((⟨#[84, 114, 97, 105, 108, 101, 114, 58]⟩ : ByteArray).data.toList) = [84, 114, 97, 105, 108, 101, 114, 58] from rfl, e3] at HP
        go_wp2_with fail
        refine HP.mono ?_
        rintro e w5 ⟨rfl, rfl⟩
        go_wp2_with (first | (at_delete; refine wpList_delete_ranges _ rfl _ _ 55 9 rfl 28 law9 Tryd.underlying55 _ m2 w2.heap.size _ Dr _ _ rfl hrg4 _ _ rfl hkey ?_; intro w6 cnt6 hrg6 hle6 hturn; go_frame) | fail)
        rw [strike_twice] at hrg6
        have hgm := hturn.grown
        have hom := own_map hrg4.owns
        exact ⟨⟨_, cnt6, _, hrg6, sweep_del Hha.out hpre, vals_del (hV5.keep (keep9_but hgm (fun c => hom c 9 (0, 0)))) _, rec_keep hR4 (keep_map hgm hom), hg5.andThen hgm (fun j hj => by cases hj; exact Or.inl hle2)⟩, by rw [hrg6.left_eq, hrg.left_eq]; omega⟩
end Go.Proofs.Qxb6614922aDoor
