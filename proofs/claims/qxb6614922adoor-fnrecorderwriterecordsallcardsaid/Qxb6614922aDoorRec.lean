/-
  Seat b6614922aD: the recorder's functions over the shelf's contracts for bytes.Buffer as a field; a map that is empty.
-/
import Derived.Test.Qxb6614922aDoorRows
import Derived.Test.Qxb6614922aDoorShelf
import Derived.WalkKit
import Derived.WalkSpells
import Derived.WalkLawsBesides
import Derived.Maps.RangeWalk
import Derived.Maps.OwnSet
import Derived.Maps.OwnOps
import Derived.Deep.QuietTactic
import Derived.BigQuiet
namespace Go.Proofs.Qxb6614922aDoor
open Go.RowKit Go.Maps

theorem law9 : Keyed Tryd.prog 9 := string_keyed Tryd.underlying9
/-- How a slice in a map reads: as itself. -/
def sliceE : Value → Option (DataW Value × List MemPlace)
  | .slice a n c => some (.held (.slice a n c), [])
  | _ => .none
def mkSl (x : Option Addr × Nat × Nat) : Value := .slice x.1 x.2.1 x.2.2
theorem invK9 (key : Value) (kl : Lit) (h : keyOf Tryd.prog 9 key = some kl) : ∃ s, key = Value.string s := by
  obtain ⟨s, hs, _⟩ := Go.WideMaps.string_of_keyOf Tryd.underlying9 h
  exact ⟨s, hs⟩
theorem invSl (v : Value) (y : DataW Value × List MemPlace) (h : sliceE v = some y) : ∃ c, v = mkSl c := by
  cases v <;> simp [sliceE] at h
  exact ⟨(_, _, _), rfl⟩
theorem info9 : (Tryd.prog.info? 9).map (fun i => (i.zero, i.size, i.bytes)) = some (some (.string ⟨#[]⟩), 1, 16) := by kernel_rfl
theorem info5 : (Tryd.prog.info? 5).map (fun i => (i.zero, i.size, i.bytes)) = some (some (.int .u8 0), 1, 1) := by kernel_rfl
theorem run_makeMap_hint {P : Program} {t k e : TypeId} (h : P.underlying t = some (.map k e)) (q : IntKind) (n : Int) (w : World) : (Instr.makeMap t (some (.int q n))).run P w = .ok (.map (some w.heap.size)) (w.alloc (.map #[] 0)) := by
  simp [Instr.makeMap, run_underlying h, go_sem]

set_option maxRecDepth 100000 in
set_option maxHeartbeats 400000 in
theorem clone_empty (m n : Nat) (w : World) (hown : w.ownsMap Tryd.prog 9 sliceE m n (.map [])) :
    Calls Tryd.prog 30 #[.map (some m)] w fun e w' => ∃ m2, e = .returned (.map (some m2)) ∧ w'.ownsMap Tryd.prog 9 sliceE m2 0 (.map []) ∧ w.heap.size ≤ m2 ∧ Below w.heap.size w w' := by
  have hmm := @run_makeMap Tryd.prog
  have hm2 := run_makeMap_hint (P := Tryd.prog) Tryd.underlying55
  obtain ⟨i0, hi, hz0, hz1, hz2⟩ := info_parts info9
  have q55 : ∀ (w : World) (r : Option Nat), (binOp .eql 55 (.map r) (.map none)).run Tryd.prog w = .ok (.bool r.isNone) w := fun w r => run_eql_map_nil w _ _ _ r Tryd.underlying55
  go_enter Tryd.func30, Tryd.ntmps30
  go_wp2_with (first | (at_range; refine wpList_range_own _ rfl _ 55 rfl 9 28 law9 Tryd.underlying55 _ m n _ rfl hown ?_; intro w0 hrg0 hg0 hs0) | go_in)
  go_frame
  refine wp_loop_rounds 1 ?_
  rw [rounds_succ]
  go_wp2_with (first | (at_next; refine wpList_next_ranges _ rfl _ rfl 9 law9 sliceE Value.string mkSl invK9 invSl m w.heap.size n _ _ _ rfl hrg0 ?_ ?_) | go_in)
  · intro _ _
    go_wp2_with (first | (at_make; refine wpList_make_full _ rfl _ _ 28 rfl 0 9 i0 _ 1 Tryd.underlying28 hi hz0 hz1 .i64 .i64 0 0 0 rfl rfl rfl rfl (by omega) (by unfold maxLen; omega) (Nat.zero_le _) ?_; intro w1 _ hg1) | (at_len; refine wpList_len_own _ rfl _ 55 rfl 9 28 Tryd.underlying55 _ m n _ rfl ((hown.kept hg0 (by simp)).kept hg1 (by simp)) ?_) | (at_range; refine wpList_range_own _ rfl _ 55 rfl 9 28 law9 Tryd.underlying55 _ m n _ rfl (((hown.kept hg0 (by simp)).kept hg1 (by simp)).alloc _) ?_; intro w2 hrg2 hg2 hs2) )
    go_frame
    refine wp_loop_rounds 1 ?_
    rw [rounds_succ]
    go_wp2_with (first | (at_next; refine wpList_next_ranges _ rfl _ rfl 9 law9 sliceE Value.string mkSl invK9 invSl m _ n _ _ _ rfl hrg2 ?_ ?_) | go_in)
    go_ret
    have ho1 : (w1.alloc (.map #[] 0)).ownsMap Tryd.prog 9 sliceE w1.heap.size 0 (.map []) := World.ownsMap_made _ _ _ _
    have hz := hg1.size
    have hz2 : w.heap.size ≤ w1.heap.size := by omega
    refine ⟨_, rfl, ho1.kept hg2 (by simp), hz2, ?_⟩
    exact ((((Below.refl _ _).grown hg0 (Nat.le_refl _) (by simp)).grown hg1 (by omega) (by simp)).alloc hz2 _).grown hg2 (by simp; omega) (by simp)
  · intro x a a1 a2 kl y y1 w' cnt' _ hl
    exact absurd (show false = true from hl) (by decide)

/-- The fields of a recorder that are not its body. -/
def recR (m : Nat) (st : Int) (sent : Option Nat) : Nat → Option Value
  | 0 => some (.map (some m))
  | 1 => some (.int .i64 st)
  | 2 => some (.map sent)
  | _ => .none

set_option maxHeartbeats 400000 in
theorem newRec (m : Nat) (w : World) :
    Calls Tryd.prog 12 #[.map (some m)] w fun e w' => e = .returned (.pointer (some ⟨w.heap.size, 0, none⟩)) ∧ LibA.IsBuffer 61 (recR m 0 none) 5 w.heap.size w.heap.size 3 [] w' ∧ w.grownBy w' none ∧ w'.heap.size = w.heap.size + 1 := by
  go_enter Tryd.func12, Tryd.ntmps12
  go_wp2
  go_ret
  refine ⟨rfl, LibA.zero_isBuffer (Nat.le_refl _) (lr := 0) ⟨#[.map (some m), .int .i64 0, .map none, .slice none 0 0, .int .i64 0, .int .i8 0], (MapKept.heap_alloc w _).1, rfl, rfl, rfl, ?_⟩, World.grownBy_alloc _ _ _, by simp⟩
  intro i hi
  match i with
  | 0 => rfl
  | 1 => rfl
  | 2 => rfl
  | 3 => omega
  | 4 => omega
  | 5 => omega
  | n + 6 => simp [recR]

theorem recR_st (m : Nat) (st s : Int) (sent : Option Nat) : (fun j => if j = 1 then some (.int .i64 s) else recR m st sent j) = recR m s sent := by
  funext j
  match j with
  | 0 => rfl
  | 1 => rfl
  | 2 => rfl
  | n + 3 => simp [recR]
theorem recR_sent (m : Nat) (st : Int) (sent sent' : Option Nat) : (fun j => if j = 2 then some (.map sent') else recR m st sent j) = recR m st sent' := by
  funext j
  match j with
  | 0 => rfl
  | 1 => rfl
  | 2 => rfl
  | n + 3 => simp [recR]

theorem grown_of_below {w w' : World} (h : Below w.heap.size w w') (r : Option Nat) : w.grownBy w' r := ⟨h.os, h.tape, h.output, h.size, fun k hk _ => h.block k hk⟩
theorem buf_grown {T e : TypeId} {R : Nat → Option Value} {B b o : Nat} {bs : List Value} {w w' : World} (h : LibA.IsBuffer T R e B b o bs w) (hg : w.grownBy w' none) : LibA.IsBuffer T R e B b o bs w' :=
  h.carry fun k hk => hg.block k hk (by simp)

abbrev RecAt (m : Nat) (st : Int) (sent : Option Nat) (B b : Nat) (bs : List Value) (w : World) : Prop := LibA.IsBuffer 61 (recR m st sent) 5 B b 3 bs w

set_option maxHeartbeats 400000 in
theorem wh_done (m : Nat) (st s : Int) (sent : Option Nat) (B b : Nat) (bs : List Value) (w : World) (h : RecAt m st sent B b bs w) (hst : 200 ≤ st) :
    Calls Tryd.prog 23 #[.pointer (some ⟨b, 0, none⟩), .int .i64 s] w fun e w' => e = .returned (.tuple #[]) ∧ w' = w := by
  have c1 : w.cell? ⟨b, 1, none⟩ = some (.int .i64 st) := h.rest 1 (by omega)
  clear h
  go_enter Tryd.func23, Tryd.ntmps23
  go_wp2
  exact bodyPost_ret (results_none Tryd.results23 _ _ _) rfl ⟨rfl, rfl⟩

set_option maxHeartbeats 400000 in
theorem wh_info (m : Nat) (s : Int) (sent : Option Nat) (B b : Nat) (bs : List Value) (w : World) (h : RecAt m 0 sent B b bs w) (hs : s < 200) :
    Calls Tryd.prog 23 #[.pointer (some ⟨b, 0, none⟩), .int .i64 s] w fun e w' => e = .returned (.tuple #[]) ∧ w' = w := by
  have c1 : w.cell? ⟨b, 1, none⟩ = some (.int .i64 0) := h.rest 1 (by omega)
  clear h
  go_enter Tryd.func23, Tryd.ntmps23
  go_wp2
  exact bodyPost_ret (results_none Tryd.results23 _ _ _) rfl ⟨rfl, rfl⟩

set_option maxRecDepth 100000 in
set_option maxHeartbeats 400000 in
theorem wh_set (m n : Nat) (s : Int) (B b : Nat) (bs : List Value) (w : World) (h : RecAt m 0 none B b bs w) (hs : 200 ≤ s) (hm : w.ownsMap Tryd.prog 9 sliceE m n (.map [])) (hmb : m ≠ b) :
    Calls Tryd.prog 23 #[.pointer (some ⟨b, 0, none⟩), .int .i64 s] w fun e w' => e = .returned (.tuple #[]) ∧ ∃ m2, RecAt m s (some m2) B b bs w' ∧ w'.ownsMap Tryd.prog 9 sliceE m2 0 (.map []) ∧ w.heap.size ≤ m2 ∧ w.grownBy w' (some b) := by
  have c0 : w.cell? ⟨b, 0, none⟩ = some (.map (some m)) := h.rest 0 (by omega)
  have c1 : w.cell? ⟨b, 1, none⟩ = some (.int .i64 0) := h.rest 1 (by omega)
  have f1 : w.frozen? ⟨b, 1, none⟩ = false := h.notFrozen 1
  have hb := h.lt
  have h1 := h.setOther 1 (by omega) (old := .int .i64 0) rfl (.int .i64 s)
  rw [recR_st] at h1
  have hm1 := hm.setCell (a := ⟨b, 1, none⟩) hmb (.int .i64 s)
  have d0 : (w.setCell ⟨b, 1, none⟩ (.int .i64 s)).cell? ⟨b, 0, none⟩ = some (.map (some m)) := h1.rest 0 (by omega)
  have hne : ¬ s < 200 := by omega
  go_enter Tryd.func23, Tryd.ntmps23
  go_wp2_with fail
  refine (clone_empty m n _ hm1).mono ?_
  rintro e w2 ⟨m2, rfl, ho2, hle, hbel⟩
  have h2 := h1.old hbel
  have f2 : w2.frozen? ⟨b, 2, none⟩ = false := h2.notFrozen 2
  have c2 : w2.cell? ⟨b, 2, none⟩ = some (.map none) := h2.rest 2 (by omega)
  have h3 := h2.setOther 2 (by omega) (old := .map none) rfl (.map (some m2))
  rw [recR_sent] at h3
  have d2 : (w2.setCell ⟨b, 2, none⟩ (.map (some m2))).cell? ⟨b, 2, none⟩ = some (.map (some m2)) := h3.rest 2 (by omega)
  have hle2 : w.heap.size ≤ m2 := by simpa [World.setCell] using hle
  have ho3 := ho2.setCell (a := ⟨b, 2, none⟩) (by show m2 ≠ b; omega) (.map (some m2))
  clear c0 c1 f1 d0
  go_wp2_with (first | (at_range; refine wpList_range_own _ rfl _ 55 rfl 9 28 law9 Tryd.underlying55 _ m2 0 _ rfl ho3 ?_; intro w3 hrg3 hg3 hs3) | fail)
  go_frame
  refine wp_loop_rounds 1 ?_
  rw [rounds_succ]
  go_wp2_with (first | (at_next; refine wpList_next_ranges _ rfl _ rfl 9 law9 sliceE Value.string mkSl invK9 invSl m2 _ 0 _ _ _ rfl hrg3 ?_ ?_) | fail)
  · intro _ _
    go_wp2
    go_end0
    refine ⟨rfl, m2, buf_grown h3 hg3, ho3.kept hg3 (by simp), hle2, ?_⟩
    have g1 : w.grownBy (w.setCell ⟨b, 1, none⟩ (.int .i64 s)) (some b) := Lib.grownBy_setCell w b 1 _
    have g2 := g1.andThen (grown_of_below hbel none) (by simp)
    have g3 := g2.andThen (Lib.grownBy_setCell w2 b 2 (.map (some m2))) (by simp)
    exact g3.andThen hg3 (by simp)
  · intro x a a1 a2 kl y y1 w' cnt' _ hl
    exact absurd (show false = true from hl) (by decide)
end Go.Proofs.Qxb6614922aDoor
