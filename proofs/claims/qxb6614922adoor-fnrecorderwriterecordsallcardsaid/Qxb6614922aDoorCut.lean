/-
  Seat b6614922aD: FnRecorderWriteAnyCut: the parts of the walk.
-/
import Derived.Test.Qxb6614922aDoorRec3
import Derived.Laws.CopyOwn
namespace Go.Proofs.Qxb6614922aDoor
open Go.RowKit Go.Maps

/-- The status behind WriteHeader(s) and a Write. -/
def stOf (s : Int) : Int := if s < 200 then 200 else s

/-- A recorder behind WriteHeader(s). -/
def After (m : Nat) (s : Int) (B b : Nat) (w : World) : Prop :=
  (s < 200 ∧ RecAt m 0 none B b [] w ∧ w.ownsMap Tryd.prog 9 sliceE m 0 (.map []) ∧ m ≠ b) ∨
  (200 ≤ s ∧ ∃ m2, RecAt m s (some m2) B b [] w ∧ w.ownsMap Tryd.prog 9 sliceE m2 0 (.map []) ∧ m2 ≠ b)

theorem z13 (m : Nat) (s : Int) (B b : Nat) (w : World) (h : RecAt m 0 none B b [] w) (hm : w.ownsMap Tryd.prog 9 sliceE m 0 (.map [])) (hmb : m ≠ b) :
    Calls Tryd.prog 13 #[.pointer (some ⟨b, 0, none⟩), .int .i64 s] w fun e w' => e = .returned (.tuple #[]) ∧ After m s B b w' ∧ w.grownBy w' (some b) := by
  by_cases hs : s < 200
  · refine (zwh_info m s none B b [] w h hs).mono ?_
    rintro e w' ⟨rfl, rfl⟩
    exact ⟨rfl, Or.inl ⟨hs, h, hm, hmb⟩, grown_of_below (Below.refl _ _) _⟩
  · refine (zwh_set m 0 s B b [] w h (by omega) hm hmb).mono ?_
    rintro e w' ⟨rfl, m2, h2, ho, hle, hg⟩
    have := h.lt
    exact ⟨rfl, Or.inr ⟨by omega, m2, h2, ho, by omega⟩, hg⟩

theorem z14a (m : Nat) (s : Int) (B b : Nat) (cs : List Value) (n : Nat) (p : Value) (w : World) (h : After m s B b w) (hBw : B ≤ w.heap.size) (hs : SrcOf b cs p w) (hn : cs.length = n) (hlim : n ≤ 140737488355328) :
    Calls Tryd.prog 14 #[.pointer (some ⟨b, 0, none⟩), p] w fun e w' => e = .returned (.tuple #[.int .i64 n, .nilIface]) ∧ Wrote m (stOf s) B b cs w w' := by
  subst hn
  rcases h with ⟨hlt, h1, h2, h3⟩ | ⟨hge, m2, h1, h2, h3⟩
  · have e : stOf s = 200 := by simp [stOf, hlt]
    rw [e]
    exact zwrite_first m 0 B b [] cs p w h1 h2 h3 hBw (by simp) hs (by simpa using hlim)
  · have e : stOf s = s := by simp only [stOf]; rw [if_neg (by omega)]
    rw [e]
    exact zwrite_done m m2 s B b [] cs p w h1 hge h2 h3 hBw (by simp) hs (by simpa using hlim)

theorem stOf_ge (s : Int) : 200 ≤ stOf s := by unfold stOf; split <;> omega

theorem z14b (m : Nat) (st : Int) (B b : Nat) (bs cs : List Value) (n : Nat) (p : Value) (w0 w : World) (hst : 200 ≤ st) (h : Wrote m st B b bs w0 w) (hBw : B ≤ w.heap.size) (h1 : ∀ v ∈ bs, v.oneCell' = true) (hs : SrcOf b cs p w) (hn : cs.length = n) (hlim : bs.length + n ≤ 140737488355328) :
    Calls Tryd.prog 14 #[.pointer (some ⟨b, 0, none⟩), p] w fun e w' => e = .returned (.tuple #[.int .i64 n, .nilIface]) ∧ Wrote m st B b (bs ++ cs) w w' := by
  subst hn
  obtain ⟨m2, r1, r2, r3⟩ := h.recd
  exact zwrite_done m m2 st B b bs cs p w r1 hst r2 r3 hBw h1 hs hlim

/-- Cells of a block, as the source of a Write. -/
theorem src_block {g b i n cp : Nat} {C : List Value} {w : World} {t : TypeId} (hg : w.heap[g]? = some (.cells C.toArray t (0, 0))) (hb : g ≠ b) (hin : i + n ≤ C.length) (h1 : ∀ v ∈ C, v.oneCell' = true) :
    SrcOf b ((C.drop i).take n) (.slice (some ⟨g, i, none⟩) n cp) w := by
  refine Or.inr ⟨⟨g, i, none⟩, n, cp, rfl, by simp; omega, hb, fun j v hj => ?_, fun v hv => h1 v (List.mem_of_mem_drop (List.mem_of_mem_take hv))⟩
  have e : C[i + j]? = some v := by
    rw [List.getElem?_take] at hj
    split at hj
    · simpa using hj
    · cases hj
  by_cases hj0 : j = 0
  · subst hj0; simpa [Addr.add, World.cell?, hg] using e
  · simpa [Addr.add, hj0, World.cell?, hg] using e

theorem row_of {w : World} {B e g N c : Nat} {xs : List Value} (h : w.ownsRow B e 1 (.slice (some ⟨g, 0, none⟩) N c) N xs) : ∃ cur : List Value, w.heap[g]? = some (.cells cur.toArray e (0, 0)) ∧ cur.length = c := by
  rcases h.2 with ⟨h0, _⟩ | ⟨g', cap, cur, h0, _, hg, _, _, hs, _⟩
  · cases h0
  · cases h0
    exact ⟨cur.toList, by simpa using hg, by simpa using hs⟩

theorem splice_all {cur C : List Value} (h : C.length = cur.length) : splice cur 0 C = C := by simp [splice, h]

theorem heap_grown {w w' : World} {k : Nat} {o : Obj} (h : w.heap[k]? = some o) (hg : w.grownBy w' none) : w'.heap[k]? = some o := by
  rw [hg.block k (Lib.lt_of_heap h) (by simp)]; exact h
theorem heap_below {w w' : World} {k B : Nat} {o : Obj} (h : w.heap[k]? = some o) (hb : Below B w w') (hk : k < B) : w'.heap[k]? = some o := by
  rw [hb.block k hk]; exact h
theorem heap_grown_but {w w' : World} {k b : Nat} {o : Obj} (h : w.heap[k]? = some o) (hg : w.grownBy w' (some b)) (hk : k ≠ b) : w'.heap[k]? = some o := by
  rw [hg.block k (Lib.lt_of_heap h) (by simpa using hk)]; exact h

/-- A new map, a new recorder over it. -/
theorem newRec2 (w : World) :
    Calls Tryd.prog 12 #[.map (some w.heap.size)] (w.alloc (.map #[] 0)) fun e w' => e = .returned (.pointer (some ⟨w.heap.size + 1, 0, none⟩)) ∧ RecAt w.heap.size 0 none (w.heap.size + 1) (w.heap.size + 1) [] w' ∧
      w'.ownsMap Tryd.prog 9 sliceE w.heap.size 0 (.map []) ∧ Below w.heap.size w w' ∧ w'.heap.size = w.heap.size + 2 := by
  refine (newRec w.heap.size (w.alloc (.map #[] 0))).mono ?_
  rintro e w' ⟨rfl, h1, h2, h3⟩
  have e1 : (w.alloc (.map #[] 0)).heap.size = w.heap.size + 1 := by simp
  rw [e1] at h1 h3 ⊢
  refine ⟨rfl, h1, (World.ownsMap_made _ _ _ _).kept h2 (by simp), ((Below.refl _ _).alloc (Nat.le_refl _) _).grown h2 (by simp) (by simp), h3⟩

theorem map_below {w w' : World} {k : TypeId} {R : Value → Option (DataW Value × List MemPlace)} {m n B : Nat} {D : DataW Value} (h : w.ownsMap Tryd.prog k R m n D) (hb : Below B w w') (hm : m < B) : w'.ownsMap Tryd.prog k R m n D := by
  obtain ⟨es, clock, h1, r⟩ := h
  exact ⟨es, clock, (hb.block m hm).trans h1, r⟩

theorem bytesEqC (b1 b2 : Nat) (zs : List Int) (C : List Value) (hC : zs.map (Value.int .u8) = C) (p1 p2 : Value) (w0 : World) (n : Nat) (hm : C.length ≤ 65536) (hs1 : SrcOf b1 C p1 w0) (hs2 : SrcOf b2 C p2 w0) :
    Calls Tryd.prog 17 #[p1, p2] (w0.drewN n) fun e w' => e = .returned (.bool true) ∧ ∃ n, w' = w0.drewN n := by
  subst hC
  refine (bytesEq b1 b2 zs p1 p2 (w0.drewN n) (by rw [List.length_map] at hm; omega) hs1 hs2).mono ?_
  rintro e w' ⟨rfl, n2, rfl⟩
  exact ⟨rfl, n + n2, by simp⟩

end Go.Proofs.Qxb6614922aDoor
