/-
  Seat b6614922aD: the recorder's Write, and the small readers.
-/
import Derived.Test.Qxb6614922aDoorRec
namespace Go.Proofs.Qxb6614922aDoor
open Go.RowKit Go.Maps

/-- The slice value p holds the cells cs, outside block b. -/
def SrcOf (b : Nat) (cs : List Value) (p : Value) (w : World) : Prop :=
  (p = .slice none 0 0 ∧ cs = []) ∨ (∃ a n c, p = .slice (some a) n c ∧ cs.length = n ∧ a.block ≠ b ∧ (∀ j v, cs[j]? = some v → w.cell? (a.add j) = some v) ∧ ∀ v ∈ cs, v.oneCell' = true)

theorem SrcOf.grown {b : Nat} {cs : List Value} {p : Value} {w w' : World} (h : SrcOf b cs p w) (hg : w.grownBy w' (some b)) : SrcOf b cs p w' := by
  rcases h with h | ⟨a, n, c, h1, h2, h3, h4, h5⟩
  · exact Or.inl h
  · refine Or.inr ⟨a, n, c, h1, h2, h3, fun j v hj => ?_, h5⟩
    have := h4 j v hj
    have hlt : (a.add j).block < w.heap.size := by
      unfold World.cell? at this
      split at this
      · rename_i e; exact Lib.lt_of_heap e
      · cases this
    have hb := hg.block (a.add j).block hlt (by have : (a.add j).block = a.block := (by unfold Addr.add; split <;> rfl); rw [this]; simpa using h3)
    simpa [World.cell?, hb] using this

theorem map_others {w w' : World} {b : Option Nat} {k : TypeId} {R : Value → Option (DataW Value × List MemPlace)} {m n : Nat} {D : DataW Value} (h : w.ownsMap Tryd.prog k R m n D) (ho : Lib.OthersKept 5 b w w') (hne : some m ≠ b) : w'.ownsMap Tryd.prog k R m n D := by
  obtain ⟨es, clock, hb, r⟩ := h
  exact ⟨es, clock, ho m _ hb hne (by intro c fz e; cases e), r⟩

theorem below_of_grown {B b : Nat} {w w' : World} (h : w.grownBy w' (some b)) (hB : B ≤ b) (hw : B ≤ w.heap.size) : Below B w w' :=
  (Below.refl B w).grown h hw (fun k hk => by cases hk; exact hB)

set_option maxRecDepth 100000 in
set_option maxHeartbeats 800000 in
theorem buf_write_nil (T : TypeId) (R : Nat → Option Value) (B b q : Nat) (bs : List Value) (w : World) (h : LibA.IsBuffer T R 5 B b q bs w) :
    Calls Tryd.prog 32 #[.pointer (some ⟨b, q, none⟩), .slice none 0 0] w fun e w' => e = .returned (.tuple #[.int .i64 0, .nilIface]) ∧ LibA.IsBuffer T R 5 B b q bs w' ∧ Below B w w' ∧ Lib.OthersKept 5 (some b) w w' := by
  obtain ⟨hB, v0, lr, hbk, -, -⟩ := id h
  have c2 : w.cell? ⟨b, q + 2, none⟩ = some (.int .i8 lr) := hbk.c2
  have f2 : w.frozen? ⟨b, q + 2, none⟩ = false := hbk.f (q + 2)
  have h' := h.setLast 0
  have hbel0 : Below B w (w.setCell ⟨b, q + 2, none⟩ (.int .i8 0)) := (Below.refl B w).setCell (p := ⟨b, q + 2, none⟩) hB _
  have hk0 : Lib.OthersKept 5 (some b) w (w.setCell ⟨b, q + 2, none⟩ (.int .i8 0)) := (Lib.OthersKept.refl _ _ w).setCell ⟨b, q + 2, none⟩ rfl _
  clear hbk v0
  have hinfo : (Tryd.prog.info? 5).map (·.size) = some 1 := by
    obtain ⟨i0, hi, -, hz1, -⟩ := info_parts info5
    rw [hi]; simp [hz1]
  have hce : ∀ d dLen dCap W, (Builtin.copy_ #[23, 23] 3 #[.slice d dLen dCap, .slice none 0 0]).run Tryd.prog W = .ok (goInt 0) W := fun d dLen dCap W => run_copy_none W 23 23 3 5 d none dLen dCap 0 0 Tryd.underlying23 hinfo (by simp)
  have hT := Tryd.Buffer_tryGrow_at T R B b q 0 bs _ h'
  go_enter Tryd.func32, Tryd.ntmps32
  go_wp2_with fail
  refine hT.mono ?_
  rintro e W1 (⟨rfl, xs, hxl, hI, hbel, hk, hg⟩ | ⟨rfl, rfl, hnr⟩)
  · clear h' c2 f2 hT
    have hx0 : xs = [] := List.eq_nil_of_length_eq_zero hxl
    subst hx0
    rw [List.append_nil] at hI
    obtain ⟨-, lr2, hc⟩ := hI.cases
    rcases hc with ⟨hb0, hbk2⟩ | ⟨g, cap, cur, hbk2, -, -, hnc, hcm, -, -, -⟩
    · subst hb0
      have d0 : W1.cell? ⟨b, q, none⟩ = some (.slice none 0 0) := hbk2.c0
      go_wp2
      all_goals (go_ret2; first | exact ⟨rfl, hI, hbel0.trans hbel, hk0.trans hk⟩ | exact ⟨by simp, by simpa using hI, hbel0.trans hbel, hk0.trans hk⟩)
    · have d0 : W1.cell? ⟨b, q, none⟩ = some (.slice (some ⟨g, 0, none⟩) bs.length cap) := hbk2.c0
      go_wp2
      all_goals (go_ret2; first | exact ⟨rfl, hI, hbel0.trans hbel, hk0.trans hk⟩ | exact ⟨by simp, by simpa using hI, hbel0.trans hbel, hk0.trans hk⟩)
  · obtain ⟨ao, l, cap, -, hlt⟩ := hnr
    omega

theorem buf_write (T : TypeId) (R : Nat → Option Value) (B b q : Nat) (bs cs : List Value) (p : Value) (w : World) (h : LibA.IsBuffer T R 5 B b q bs w) (hBw : B ≤ w.heap.size) (h1 : ∀ v ∈ bs, v.oneCell' = true) (hs : SrcOf b cs p w) (hlim : bs.length + cs.length ≤ 140737488355328) :
    Calls Tryd.prog 32 #[.pointer (some ⟨b, q, none⟩), p] w fun e w' => e = .returned (.tuple #[.int .i64 cs.length, .nilIface]) ∧ LibA.IsBuffer T R 5 B b q (bs ++ cs) w' ∧ Below B w w' ∧ Lib.OthersKept 5 (some b) w w' := by
  rcases hs with ⟨rfl, rfl⟩ | ⟨a, n, c, rfl, rfl, h3, h4, h5⟩
  · rw [List.append_nil]
    exact buf_write_nil T R B b q bs w h
  · exact Tryd.Buffer_Write_at T R B b q bs cs a _ c w h hBw h1 rfl h3 h4 h5 hlim

/-- The writes' world, as a caller knows it. -/
structure Wrote (m : Nat) (st : Int) (B b : Nat) (bs : List Value) (w w' : World) : Prop where
  recd : ∃ m2, RecAt m st (some m2) B b bs w' ∧ w'.ownsMap Tryd.prog 9 sliceE m2 0 (.map []) ∧ m2 ≠ b
  bel : Below B w w'

set_option maxHeartbeats 400000 in
/-- Write on a recorder whose status is set. -/
theorem write_done (m m2 : Nat) (st : Int) (B b : Nat) (bs cs : List Value) (p : Value) (w : World) (h : RecAt m st (some m2) B b bs w) (hst : 200 ≤ st) (hm : w.ownsMap Tryd.prog 9 sliceE m2 0 (.map [])) (hmb : m2 ≠ b)
    (hBw : B ≤ w.heap.size) (h1 : ∀ v ∈ bs, v.oneCell' = true) (hs : SrcOf b cs p w) (hlim : bs.length + cs.length ≤ 140737488355328) :
    Calls Tryd.prog 24 #[.pointer (some ⟨b, 0, none⟩), p] w fun e w' => e = .returned (.tuple #[.int .i64 cs.length, .nilIface]) ∧ Wrote m st B b (bs ++ cs) w w' := by
  go_enter Tryd.func24, Tryd.ntmps24
  go_wp2_with fail
  refine (wh_done m st 200 (some m2) B b bs w h hst).mono ?_
  rintro e w1 ⟨rfl, rfl⟩
  go_wp2_with fail
  refine (buf_write 61 _ B b 3 bs cs p _ h hBw h1 hs hlim).mono ?_
  rintro e w1 ⟨rfl, hI, hbel, hk⟩
  go_wp2
  go_ret2
  exact ⟨rfl, ⟨m2, hI, map_others hm hk (by simpa using hmb), hmb⟩, hbel⟩

set_option maxHeartbeats 400000 in
/-- Write on a recorder whose status is not set. -/
theorem write_first (m n : Nat) (B b : Nat) (bs cs : List Value) (p : Value) (w : World) (h : RecAt m 0 none B b bs w) (hm : w.ownsMap Tryd.prog 9 sliceE m n (.map [])) (hmb : m ≠ b)
    (hBw : B ≤ w.heap.size) (h1 : ∀ v ∈ bs, v.oneCell' = true) (hs : SrcOf b cs p w) (hlim : bs.length + cs.length ≤ 140737488355328) :
    Calls Tryd.prog 24 #[.pointer (some ⟨b, 0, none⟩), p] w fun e w' => e = .returned (.tuple #[.int .i64 cs.length, .nilIface]) ∧ Wrote m 200 B b (bs ++ cs) w w' := by
  have hb := h.lt
  have hB : B ≤ b := h.1
  go_enter Tryd.func24, Tryd.ntmps24
  go_wp2_with fail
  refine (wh_set m n 200 B b bs w h (by omega) hm hmb).mono ?_
  rintro e w1 ⟨rfl, m2, h2, ho2, hle, hg⟩
  have hz := hg.size
  go_wp2_with fail
  refine (buf_write 61 _ B b 3 bs cs p _ h2 (by omega) h1 (hs.grown hg) hlim).mono ?_
  rintro e w1 ⟨rfl, hI, hbel, hk⟩
  go_wp2
  go_ret2
  exact ⟨rfl, ⟨m2, hI, map_others ho2 hk (by simp; omega), by omega⟩, (below_of_grown hg hB hBw).trans hbel⟩

set_option maxHeartbeats 400000 in
theorem zwrite_done (m m2 : Nat) (st : Int) (B b : Nat) (bs cs : List Value) (p : Value) (w : World) (h : RecAt m st (some m2) B b bs w) (hst : 200 ≤ st) (hm : w.ownsMap Tryd.prog 9 sliceE m2 0 (.map [])) (hmb : m2 ≠ b)
    (hBw : B ≤ w.heap.size) (h1 : ∀ v ∈ bs, v.oneCell' = true) (hs : SrcOf b cs p w) (hlim : bs.length + cs.length ≤ 140737488355328) :
    Calls Tryd.prog 14 #[.pointer (some ⟨b, 0, none⟩), p] w fun e w' => e = .returned (.tuple #[.int .i64 cs.length, .nilIface]) ∧ Wrote m st B b (bs ++ cs) w w' := by
  go_enter Tryd.func14, Tryd.ntmps14
  go_wp2_with fail
  refine (write_done m m2 st B b bs cs p w h hst hm hmb hBw h1 hs hlim).mono ?_
  rintro e w1 ⟨rfl, hw⟩
  go_wp2
  go_ret2
  exact ⟨rfl, hw⟩

set_option maxHeartbeats 400000 in
theorem zwrite_first (m n : Nat) (B b : Nat) (bs cs : List Value) (p : Value) (w : World) (h : RecAt m 0 none B b bs w) (hm : w.ownsMap Tryd.prog 9 sliceE m n (.map [])) (hmb : m ≠ b)
    (hBw : B ≤ w.heap.size) (h1 : ∀ v ∈ bs, v.oneCell' = true) (hs : SrcOf b cs p w) (hlim : bs.length + cs.length ≤ 140737488355328) :
    Calls Tryd.prog 14 #[.pointer (some ⟨b, 0, none⟩), p] w fun e w' => e = .returned (.tuple #[.int .i64 cs.length, .nilIface]) ∧ Wrote m 200 B b (bs ++ cs) w w' := by
  go_enter Tryd.func14, Tryd.ntmps14
  go_wp2_with fail
  refine (write_first m n B b bs cs p w h hm hmb hBw h1 hs hlim).mono ?_
  rintro e w1 ⟨rfl, hw⟩
  go_wp2
  go_ret2
  exact ⟨rfl, hw⟩

set_option maxHeartbeats 400000 in
theorem zwh_info (m : Nat) (s : Int) (sent : Option Nat) (B b : Nat) (bs : List Value) (w : World) (h : RecAt m 0 sent B b bs w) (hs : s < 200) :
    Calls Tryd.prog 13 #[.pointer (some ⟨b, 0, none⟩), .int .i64 s] w fun e w' => e = .returned (.tuple #[]) ∧ w' = w := by
  go_enter Tryd.func13, Tryd.ntmps13
  go_wp2_with fail
  refine (wh_info m s sent B b bs w h hs).mono ?_
  rintro e w1 ⟨rfl, rfl⟩
  go_wp2
  go_end0
  exact ⟨rfl, rfl⟩

set_option maxHeartbeats 400000 in
theorem zwh_set (m n : Nat) (s : Int) (B b : Nat) (bs : List Value) (w : World) (h : RecAt m 0 none B b bs w) (hs : 200 ≤ s) (hm : w.ownsMap Tryd.prog 9 sliceE m n (.map [])) (hmb : m ≠ b) :
    Calls Tryd.prog 13 #[.pointer (some ⟨b, 0, none⟩), .int .i64 s] w fun e w' => e = .returned (.tuple #[]) ∧ ∃ m2, RecAt m s (some m2) B b bs w' ∧ w'.ownsMap Tryd.prog 9 sliceE m2 0 (.map []) ∧ w.heap.size ≤ m2 ∧ w.grownBy w' (some b) := by
  go_enter Tryd.func13, Tryd.ntmps13
  go_wp2_with fail
  refine (wh_set m n s B b bs w h hs hm hmb).mono ?_
  rintro e w1 ⟨rfl, hw⟩
  go_wp2
  go_end0
  exact ⟨rfl, hw⟩

set_option maxHeartbeats 400000 in
theorem zstatus (m : Nat) (s : Int) (sent : Option Nat) (B b : Nat) (bs : List Value) (w : World) (h : RecAt m s sent B b bs w) :
    Calls Tryd.prog 15 #[.pointer (some ⟨b, 0, none⟩)] w fun e w' => e = .returned (.int .i64 s) ∧ w' = w := by
  have c1 : w.cell? ⟨b, 1, none⟩ = some (.int .i64 s) := h.rest 1 (by omega)
  clear h
  go_enter Tryd.func15, Tryd.ntmps15
  go_wp2
  go_ret
  exact ⟨rfl, rfl⟩

set_option maxHeartbeats 400000 in
theorem zsent (m : Nat) (s : Int) (sent : Option Nat) (B b : Nat) (bs : List Value) (w : World) (h : RecAt m s sent B b bs w) :
    Calls Tryd.prog 18 #[.pointer (some ⟨b, 0, none⟩)] w fun e w' => e = .returned (.map sent) ∧ w' = w := by
  have c1 : w.cell? ⟨b, 2, none⟩ = some (.map sent) := h.rest 2 (by omega)
  clear h
  go_enter Tryd.func18, Tryd.ntmps18
  go_wp2
  go_ret
  exact ⟨rfl, rfl⟩

end Go.Proofs.Qxb6614922aDoor
