/-
  Seat b6614922aD: a start for the witness: the look over the package-level variables, in one pass along each great table (the kit's own look goes back to the head at each cell).
-/
import Derived.Test.Qxb6614922aDoorRows
import Derived.Shaped
import Derived.ProofKit
import Derived.LaidMore
import Derived.Stop.Joined
namespace Go.Proofs.Qxb6614922aDoor

/-- A row of one element, cell by cell. -/
def rowB (P : Program) (t : TypeId) (cs : Array Value) : Bool :=
  match P.cellTypes P.depth t with
  | some ts => cs.toList.length == ts.length && (cs.toList.zip ts).all fun x => Cell.okB P x.2 x.1
  | .none => false

theorem row_of_B {P : Program} {w : World} {r : Reach} {base : Nat} {t : TypeId} {cs : Array Value} (h : rowB P t cs = true) : Row.ok P w r base t cs := by
  unfold rowB at h
  split at h
  · rename_i ts hts
    simp only [Bool.and_eq_true, beq_iff_eq, List.all_eq_true] at h
    have hl : cs.size = ts.length := by rw [← h.1]; simp
    refine ⟨ts, hts, ⟨1, by omega⟩, fun i v hv => ?_⟩
    have hi : i < cs.size := (Array.getElem?_eq_some_iff.1 hv).1
    rw [Nat.mod_eq_of_lt (by omega)]
    obtain ⟨u, hu⟩ : ∃ u, ts[i]? = some u := ⟨_, List.getElem?_eq_getElem (by omega)⟩
    refine ⟨u, hu, Cell.ok_of_okB (h.2 (v, u) ?_)⟩
    have hz : (cs.toList.zip ts)[i]? = some (v, u) := by
      rw [List.getElem?_zip_eq_some]
      exact ⟨by simpa using hv, hu⟩
    exact List.mem_of_getElem? hz
  · cases h

def varsB (P : Program) (w : World) : Bool :=
  let w₀ := (begin P (fun _ _ => 0) default).world
  (List.range P.globals.size).all fun g =>
    match (w₀.heap[g]?).bind Obj.row? with
    | .none => true
    | some (zero, t) =>
      match w.heap[g]? with
      | some (.cells cs t' frozen) => decide (t' = t) && decide (frozen = (0, 0)) && cs.size == zero.size && (!P.buildable t || rowB P t cs)
      | _ => false

theorem shaped_of_varsB {P : Program} {w : World} (hv : varsB P w = true)
    (hr : (w.heap.toList.drop P.globals.size).take ((begin P (fun _ _ => 0) default).world.heap.size - P.globals.size) =
      (begin P (fun _ _ => 0) default).world.heap.toList.drop P.globals.size) : w.Shaped P := by
  refine ⟨fun g zero t hg hz => ?_, fun k h1 h2 => ?_⟩
  case refine_2 =>
    have := congrArg (·[k - P.globals.size]?) hr
    simp only [List.getElem?_take, List.getElem?_drop] at this
    rw [if_pos (by omega)] at this
    rw [show P.globals.size + (k - P.globals.size) = k from by omega] at this
    simpa using this
  · have := List.all_eq_true.1 hv g (List.mem_range.2 hg)
    simp only [hz] at this
    split at this
    · rename_i cs t' frozen hc
      simp only [Bool.and_eq_true, decide_eq_true_eq, beq_iff_eq, Bool.or_eq_true, Bool.not_eq_true'] at this
      obtain ⟨⟨⟨rfl, rfl⟩, h3⟩, h4⟩ := this
      refine ⟨cs, hc, h3, fun hb => ?_⟩
      rcases h4 with h4 | h4
      · rw [hb] at h4; cases h4
      · exact row_of_B h4
    · cases this

theorem start_vars (os : Os) (args : Array Value) : varsB Tryd.prog (World.forCall ({ World.holding Tryd.prog os ⟨#[.cells #[.string ⟨#[98, 121, 116, 101, 115, 46, 66, 117, 102, 102, 101, 114, 58, 32, 116, 111, 111, 32, 108, 97, 114, 103, 101]⟩] 134], #[], []⟩ with heap := (World.holding Tryd.prog os ⟨#[.cells #[.string ⟨#[98, 121, 116, 101, 115, 46, 66, 117, 102, 102, 101, 114, 58, 32, 116, 111, 111, 32, 108, 97, 114, 103, 101]⟩] 134], #[], []⟩).heap.modify 1 fun | .cells _ t frozen => .cells #[.iface 132 (.pointer (some ⟨15, 0, none⟩))] t frozen | o => o } : World) (fun _ _ => 0) ⟨#[], args, []⟩) = true := by kernel_rfl
end Go.Proofs.Qxb6614922aDoor
