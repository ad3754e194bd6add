/-
  Seat b6614922aD: FnRecorderWriteRecordsAll: the recorder's calls, as the law makes them.
-/
import Derived.Test.Qxb6614922aDoorAll3
namespace Go.Proofs.Qxb6614922aDoor
open Go.RowKit Go.Maps

/-- A recorder whose status is set: what it has sent is the header less the trailer's names. -/
def Sent (m : Nat) (st : Int) (B b : Nat) (bs : List Value) (D : DataW Value) (F : Lit → List ByteArray) (w : World) : Prop :=
  ∃ m2 n2 D2, RecAt m st (some m2) B b bs w ∧ w.ownsMap Tryd.prog 9 sliceE m2 n2 D2 ∧ m2 ≠ b ∧ (∀ k, has D2 k = (has D k && !isTr k)) ∧ Vals w D2 F

/-- A recorder behind WriteHeader(s). -/
def AfterG (m n : Nat) (s : Int) (B b : Nat) (D : DataW Value) (F : Lit → List ByteArray) (w : World) : Prop :=
  (s < 200 ∧ RecAt m 0 none B b [] w ∧ w.ownsMap Tryd.prog 9 sliceE m n D ∧ m ≠ b ∧ Vals w D F) ∨ (200 ≤ s ∧ Sent m s B b [] D F w)

set_option maxHeartbeats 400000 in
theorem zwh_gen (m n : Nat) (s : Int) (B b : Nat) (bs : List Value) (D : DataW Value) (F : Lit → List ByteArray) (w : World) (h : RecAt m 0 none B b bs w) (hs : 200 ≤ s) (hm : w.ownsMap Tryd.prog 9 sliceE m n D) (hmb : m ≠ b)
    (hV : Vals w D F) (hn : Maps.size D ≤ 4294967296) (hsum : sumD (fun _ => true) D ≤ 4294967296) :
    Calls Tryd.prog 13 #[.pointer (some ⟨b, 0, none⟩), .int .i64 s] w fun e w' => e = .returned (.tuple #[]) ∧ ∃ m2 n2 D2, RecAt m s (some m2) B b bs w' ∧ w'.ownsMap Tryd.prog 9 sliceE m2 n2 D2 ∧ w.heap.size ≤ m2 ∧ w.grownBy w' (some b) ∧
      (∀ k, has D2 k = (has D k && !isTr k)) ∧ Vals w' D2 F := by
  go_enter Tryd.func13, Tryd.ntmps13
  go_wp2_with fail
  refine (wh_gen m n s B b bs D F w h hs hm hmb hV hn hsum).mono ?_
  rintro e w1 ⟨rfl, hw⟩
  go_wp2
  go_end0
  exact ⟨rfl, hw⟩

theorem g13 (m n : Nat) (s : Int) (B b : Nat) (D : DataW Value) (F : Lit → List ByteArray) (w : World) (h : RecAt m 0 none B b [] w) (hm : w.ownsMap Tryd.prog 9 sliceE m n D) (hmb : m ≠ b)
    (hV : Vals w D F) (hn : Maps.size D ≤ 4294967296) (hsum : sumD (fun _ => true) D ≤ 4294967296) :
    Calls Tryd.prog 13 #[.pointer (some ⟨b, 0, none⟩), .int .i64 s] w fun e w' => e = .returned (.tuple #[]) ∧ AfterG m n s B b D F w' ∧ w.grownBy w' (some b) := by
  by_cases hs : s < 200
  · refine (zwh_info m s none B b [] w h hs).mono ?_
    rintro e w' ⟨rfl, rfl⟩
    exact ⟨rfl, Or.inl ⟨hs, h, hm, hmb, hV⟩, grown_of_below (Below.refl _ _) _⟩
  · refine (zwh_gen m n s B b [] D F w h (by omega) hm hmb hV hn hsum).mono ?_
    rintro e w' ⟨rfl, m2, n2, D2, h2, ho, hle, hg, hh, hV2⟩
    have := h.lt
    exact ⟨rfl, Or.inr ⟨by omega, m2, n2, D2, h2, ho, by omega, hh, hV2⟩, hg⟩

theorem keep9_others {R : Nat → Option Value} {e B b o : Nat} {bs : List Value} {w w' : World} (h : LibA.IsBuffer 61 R e B b o bs w) (hk : Lib.OthersKept 5 (some b) w w') : Keep9 w w' := by
  intro k c hc
  refine hk k _ hc (fun e' => ?_) (fun c' fz e' => by cases e')
  have : k = b := by simpa using e'
  subst this
  exact rec_tag h c hc

set_option maxHeartbeats 400000 in
/-- Write on a recorder whose status is set. -/
theorem write_sent (m : Nat) (st : Int) (B b : Nat) (bs cs : List Value) (p : Value) (D : DataW Value) (F : Lit → List ByteArray) (w : World) (h : Sent m st B b bs D F w) (hst : 200 ≤ st)
    (hBw : B ≤ w.heap.size) (h1 : ∀ v ∈ bs, v.oneCell' = true) (hs : SrcOf b cs p w) (hlim : bs.length + cs.length ≤ 140737488355328) :
    Calls Tryd.prog 24 #[.pointer (some ⟨b, 0, none⟩), p] w fun e w' => e = .returned (.tuple #[.int .i64 cs.length, .nilIface]) ∧ Sent m st B b (bs ++ cs) D F w' ∧ Below B w w' := by
  obtain ⟨m2, n2, D2, hR, ho, hmb, hh, hV⟩ := h
  have HH : Hid (∀ k, has D2 k = (has D k && !isTr k)) := hh
  clear hh
  go_enter Tryd.func24, Tryd.ntmps24
  go_wp2_with fail
  refine (wh_done m st 200 (some m2) B b bs w hR hst).mono ?_
  rintro e w1 ⟨rfl, rfl⟩
  go_wp2_with fail
  refine (buf_write 61 _ B b 3 bs cs p _ hR hBw h1 hs hlim).mono ?_
  rintro e w1 ⟨rfl, hI, hbel, hk⟩
  go_wp2
  go_ret2
  exact ⟨rfl, ⟨m2, n2, D2, hI, map_others ho hk (by simpa using hmb), hmb, HH.out, hV.keep (keep9_others hR hk)⟩, hbel⟩

set_option maxHeartbeats 400000 in
/-- Write on a recorder whose status is not set. -/
theorem write_fst (m n : Nat) (B b : Nat) (bs cs : List Value) (p : Value) (D : DataW Value) (F : Lit → List ByteArray) (w : World) (h : RecAt m 0 none B b bs w) (hm : w.ownsMap Tryd.prog 9 sliceE m n D) (hmb : m ≠ b)
    (hV : Vals w D F) (hn : Maps.size D ≤ 4294967296) (hsum : sumD (fun _ => true) D ≤ 4294967296)
    (hBw : B ≤ w.heap.size) (h1 : ∀ v ∈ bs, v.oneCell' = true) (hs : SrcOf b cs p w) (hlim : bs.length + cs.length ≤ 140737488355328) :
    Calls Tryd.prog 24 #[.pointer (some ⟨b, 0, none⟩), p] w fun e w' => e = .returned (.tuple #[.int .i64 cs.length, .nilIface]) ∧ Sent m 200 B b (bs ++ cs) D F w' ∧ Below B w w' := by
  have hb := h.lt
  have hB : B ≤ b := h.1
  go_enter Tryd.func24, Tryd.ntmps24
  go_wp2_with fail
  refine (wh_gen m n 200 B b bs D F w h (by omega) hm hmb hV hn hsum).mono ?_
  rintro e w1 ⟨rfl, m2, n2, D2, h2, ho2, hle, hg, hh, hV2⟩
  have HH : Hid (∀ k, has D2 k = (has D k && !isTr k)) := hh
  clear hh
  have hz := hg.size
  go_wp2_with fail
  refine (buf_write 61 _ B b 3 bs cs p _ h2 (by omega) h1 (hs.grown hg) hlim).mono ?_
  rintro e w1 ⟨rfl, hI, hbel, hk⟩
  go_wp2
  go_ret2
  exact ⟨rfl, ⟨m2, n2, D2, hI, map_others ho2 hk (by simp; omega), by omega, HH.out, hV2.keep (keep9_others h2 hk)⟩, (below_of_grown hg hB hBw).trans hbel⟩

set_option maxHeartbeats 400000 in
theorem zwrite_sent (m : Nat) (st : Int) (B b : Nat) (bs cs : List Value) (n : Nat) (p : Value) (D : DataW Value) (F : Lit → List ByteArray) (w : World) (h : Sent m st B b bs D F w) (hst : 200 ≤ st)
    (hBw : B ≤ w.heap.size) (h1 : ∀ v ∈ bs, v.oneCell' = true) (hs : SrcOf b cs p w) (hn : cs.length = n) (hlim : bs.length + n ≤ 140737488355328) :
    Calls Tryd.prog 14 #[.pointer (some ⟨b, 0, none⟩), p] w fun e w' => e = .returned (.tuple #[.int .i64 n, .nilIface]) ∧ Sent m st B b (bs ++ cs) D F w' ∧ Below B w w' := by
  subst hn
  go_enter Tryd.func14, Tryd.ntmps14
  go_wp2_with fail
  refine (write_sent m st B b bs cs p D F w h hst hBw h1 hs hlim).mono ?_
  rintro e w1 ⟨rfl, hw⟩
  go_wp2
  go_ret2
  exact ⟨rfl, hw⟩

set_option maxHeartbeats 400000 in
theorem zwrite_fst (m n : Nat) (B b : Nat) (cs : List Value) (p : Value) (D : DataW Value) (F : Lit → List ByteArray) (w : World) (h : RecAt m 0 none B b [] w) (hm : w.ownsMap Tryd.prog 9 sliceE m n D) (hmb : m ≠ b)
    (hV : Vals w D F) (hn : Maps.size D ≤ 4294967296) (hsum : sumD (fun _ => true) D ≤ 4294967296)
    (hBw : B ≤ w.heap.size) (hs : SrcOf b cs p w) (hlim : cs.length ≤ 140737488355328) :
    Calls Tryd.prog 14 #[.pointer (some ⟨b, 0, none⟩), p] w fun e w' => e = .returned (.tuple #[.int .i64 cs.length, .nilIface]) ∧ Sent m 200 B b cs D F w' ∧ Below B w w' := by
  go_enter Tryd.func14, Tryd.ntmps14
  go_wp2_with fail
  refine (write_fst m n B b [] cs p D F w h hm hmb hV hn hsum hBw (by simp) hs (by simpa using hlim)).mono ?_
  rintro e w1 ⟨rfl, hw⟩
  go_wp2
  go_ret2
  exact ⟨rfl, hw⟩

theorem g14a (m n : Nat) (s : Int) (B b : Nat) (cs : List Value) (l : Nat) (p : Value) (D : DataW Value) (F : Lit → List ByteArray) (w : World) (h : AfterG m n s B b D F w) (hn : Maps.size D ≤ 4294967296) (hsum : sumD (fun _ => true) D ≤ 4294967296)
    (hBw : B ≤ w.heap.size) (hs : SrcOf b cs p w) (hl : cs.length = l) (hlim : l ≤ 140737488355328) :
    Calls Tryd.prog 14 #[.pointer (some ⟨b, 0, none⟩), p] w fun e w' => e = .returned (.tuple #[.int .i64 l, .nilIface]) ∧ Sent m (stOf s) B b cs D F w' ∧ Below B w w' := by
  subst hl
  rcases h with ⟨hlt, h1, h2, h3, h4⟩ | ⟨hge, h1⟩
  · have e : stOf s = 200 := by simp [stOf, hlt]
    rw [e]
    exact zwrite_fst m n B b cs p D F w h1 h2 h3 h4 hn hsum hBw hs hlim
  · have e : stOf s = s := by simp only [stOf]; rw [if_neg (by omega)]
    rw [e]
    exact zwrite_sent m s B b [] cs _ p D F w h1 hge hBw (by simp) hs rfl (by simpa using hlim)
end Go.Proofs.Qxb6614922aDoor
