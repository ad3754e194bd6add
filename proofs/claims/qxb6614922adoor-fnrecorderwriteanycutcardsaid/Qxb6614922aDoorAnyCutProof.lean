/-
  Seat b6614922aD: FnRecorderWriteAnyCut: the row and its tied card.
-/
import Derived.Test.Qxb6614922aDoorRows
import Derived.Test.Qxb6614922aDoorTie
import Derived.Test.Qxb6614922aDoorCards
import Derived.Test.Qxb6614922aDoorCutWalk
import Derived.Test.Qxb6614922aDoorCutWalk2
import Derived.Test.Qxb6614922aDoorStart
import Derived.ProofKit
import Derived.OpenShut
import Derived.ShutString
import Derived.ChangeOld
import Derived.Below
import Derived.LaidMore
import Derived.Stop.Joined
import Derived.SevenTiedAt
namespace Go.Proofs.Qxb6614922aDoor.fnRecorderWriteAnyCut
open Go.ChangeShapes Go.WideShapes Go.ChangeAt Go.RowKit

theorem own : ownKnob Tryd.prog.godebug = none := by kernel_rfl
theorem laidOut : laidOutB Tryd.prog = true := by kernel_rfl

/-- What is known of the slice that came in. -/
def IsRow (k : IntKind) (w : World) (a : Option Addr) (len cap : Nat) (zs : List Int) : Prop :=
  (a = none ∧ len = 0 ∧ cap = 0 ∧ zs = []) ∨
  ∃ x, a = some x ∧ len ≤ cap ∧ cap ≤ maxLen ∧ zs.length = cap ∧ (∀ i, i < zs.length → w.cell? (x.add i) = some (.int k (zs.getD i 0))) ∧ ∀ n ∈ zs, (Lit.int k n).wf = true

theorem walk (a0 a2 : Int) (a1 : Option Addr) (len1 cap1 : Nat) (z1 : List Int) (w : World) (w1 : IsRow .u8 w a1 len1 cap1 z1) :
    Calls Tryd.prog 5 #[.int .i64 a0, .slice a1 len1 cap1, .int .i64 a2] w fun e w' => e = .returned (.bool true) ∧ Below w.heap.size w w' := by
  have hlen : len1 ≤ maxLen := by
    rcases w1 with ⟨-, h, -, -⟩ | ⟨x, -, h1, h2, -⟩
    · rw [h]; exact Nat.zero_le _
    · exact Nat.le_trans h1 h2
  by_cases he : 65536 < len1 ∨ a2 < 0 ∨ (len1 : Int) < a2
  · exact walk_early a0 a2 a1 len1 cap1 hlen w he
  · rcases w1 with ⟨rfl, rfl, rfl, -⟩ | ⟨x, rfl, hlc, hcm, hzl, hcell, -⟩
    · by_cases hs : a0 < 200
      · exact walk_nil_lo a0 a2 w (by omega) (by omega) hs
      · exact walk_nil_hi a0 a2 w (by omega) (by omega) (by omega)
    · have hl : (z1.take len1).length = len1 := by simp; omega
      have hc : ∀ j v, ((z1.take len1).map (Value.int .u8))[j]? = some v → w.cell? (x.add j) = some v := by
        intro j v hj
        rw [List.getElem?_map, List.getElem?_take] at hj
        split at hj
        · rename_i hjl
          have hj2 : j < z1.length := by omega
          have := hcell j hj2
          rw [List.getElem?_eq_getElem hj2] at hj
          simp at hj
          rw [this, ← hj]
          simp [hj2]
        · simp at hj
      have h1 : (z1.take len1).length ≤ 65536 := by omega
      have h2 : 0 ≤ a2 := by omega
      have h3 : a2 ≤ ((z1.take len1).length : Int) := by rw [hl]; omega
      by_cases hs : a0 < 200
      · have := walk_some_lo a0 a2 x cap1 (z1.take len1) w h1 h2 h3 hs hc
        rwa [hl] at this
      · have := walk_some_hi a0 a2 x cap1 (z1.take len1) w h1 h2 h3 (by omega) hc
        rwa [hl] at this

/-- A start that meets the condition: the settled world, the one listed variable laid. -/
theorem laid_met (os : Os) (args : Array Value) : laidMetH Tryd.prog Rows.fnRecorderWriteAnyCutRow.laid (World.forCall ({ World.holding Tryd.prog os ⟨#[.cells #[.string ⟨#[98, 121, 116, 101, 115, 46, 66, 117, 102, 102, 101, 114, 58, 32, 116, 111, 111, 32, 108, 97, 114, 103, 101]⟩] 134], #[], []⟩ with heap := (World.holding Tryd.prog os ⟨#[.cells #[.string ⟨#[98, 121, 116, 101, 115, 46, 66, 117, 102, 102, 101, 114, 58, 32, 116, 111, 111, 32, 108, 97, 114, 103, 101]⟩] 134], #[], []⟩).heap.modify 1 fun | .cells _ t frozen => .cells #[.iface 132 (.pointer (some ⟨15, 0, none⟩))] t frozen | o => o } : World) (fun _ _ => 0) ⟨#[], args, []⟩).memory :=
  laidMetH_of_parts3 (fuel := 8) (laidMet_of_run' 8 (by kernel_rfl) (by kernel_rfl)) (by kernel_rfl) (by kernel_rfl)

set_option maxRecDepth 100000 in
theorem lifted (os : Os) (started : os.Started) (H : Type) (enc : TypeId × Value → H) :
    ReturnsInHanded {} Tryd.checked os 5 .any (fun w args => (Rows.fnRecorderWriteAnyCutSpec.pre enc Tryd.prog Tryd.f5 [] false w args ∧ laidMetH Tryd.prog Rows.fnRecorderWriteAnyCutRow.laid w) ∧ sizedMet enc Tryd.prog Tryd.f5 (OpenSpec.ofChange Rows.fnRecorderWriteAnyCutSpec) false w args)
      (Rows.fnRecorderWriteAnyCutSpec.post enc Tryd.prog Tryd.f5 false true false false) := by
  refine returnsInHanded_of_change_and (C := Tryd.checked) (X := fun w _ => laidMetH Tryd.prog Rows.fnRecorderWriteAnyCutRow.laid w) (fun _ _ _ hh h => h.of_heap hh) own started (by kernel_rfl) Tryd.func5
    (ChangeSpec.witness_shaped (enc := enc) (C := Tryd.checked) (os := os) (X := fun w _ => laidMetH Tryd.prog Rows.fnRecorderWriteAnyCutRow.laid w) false ({ World.holding Tryd.prog os ⟨#[.cells #[.string ⟨#[98, 121, 116, 101, 115, 46, 66, 117, 102, 102, 101, 114, 58, 32, 116, 111, 111, 32, 108, 97, 114, 103, 101]⟩] 134], #[], []⟩ with heap := (World.holding Tryd.prog os ⟨#[.cells #[.string ⟨#[98, 121, 116, 101, 115, 46, 66, 117, 102, 102, 101, 114, 58, 32, 116, 111, 111, 32, 108, 97, 114, 103, 101]⟩] 134], #[], []⟩).heap.modify 1 fun | .cells _ t frozen => .cells #[.iface 132 (.pointer (some ⟨15, 0, none⟩))] t frozen | o => o } : World) #[.int .i64 0, .slice none 0 0, .int .i64 0] 8 rfl (shaped_of_varsB (start_vars os _) (by kernel_rfl)) (by kernel_rfl) (by kernel_rfl) (by kernel_rfl) (laid_met os _)) ?_
  intro W base args ds gs before hval0 hW _ _ _ _
  have hval : ∀ (j : Nat) t v, Tryd.f5.params[j]? = some t → args[j]? = some v → Value.okWide Tryd.prog W .any base t v := hval0
  have hW' := hW
  obtain ⟨p, q, hA0, hV, rfl, hfz, hnd⟩ := hW
  have hA : DataW.TrodAll enc Tryd.prog W 0 (fun _ => true) true Tryd.f5.params.toList args.toList ds p := hA0
  rw [Tryd.params5] at hA hval
  obtain ⟨v0, vs0, d0, ds0, p0, q0, hargs, rfl, rfl, h0, r0⟩ := trodAll_cons hA
  obtain ⟨v1, vs1, d1, ds1, p1, q1, rfl, rfl, rfl, h1, r1⟩ := trodAll_cons r0
  obtain ⟨v2, vs2, d2, ds2, p2, q2, rfl, rfl, rfl, h2, r2⟩ := trodAll_cons r1
  obtain ⟨rfl, rfl, rfl⟩ := trodAll_nil r2
  obtain rfl : args = #[v0, v1, v2] := by cases args; simp_all
  obtain ⟨rfl, rfl⟩ := trodVars_none hV
  obtain ⟨a0, rfl, rfl, rfl, w0⟩ := open_int Tryd.underlying3 (hval 0 3 v0 rfl rfl) h0
  obtain ⟨a1, len1, cap1, rfl⟩ := okWide_slice Tryd.underlying23 (hval 1 23 v1 rfl rfl)
  have k1 := h1
  have lt1 : ∀ x ∈ p1, x.block < W.heap.size := by obtain ⟨m, hm⟩ := k1; exact DataW.trod_lt m _ _ _ hm
  obtain ⟨z1, w1⟩ : ∃ zs, IsRow .u8 W a1 len1 cap1 zs := by
    obtain ⟨fuel, hf⟩ := h1
    rcases open_ints Tryd.underlying23 Tryd.underlying5 (by kernel_rfl) hf with ⟨hcs, _⟩ | ⟨x, l, c, zs, hcs, _, hl, hm, hz, _, hcell, hwz⟩
    · simp [Value.cells] at hcs
      obtain ⟨rfl, rfl, rfl⟩ := hcs
      exact ⟨[], .inl ⟨rfl, rfl, rfl, rfl⟩⟩
    · simp [Value.cells] at hcs
      obtain ⟨rfl, rfl, rfl⟩ := hcs
      exact ⟨zs, .inr ⟨_, rfl, hl, hm, by simpa using hz, hcell, hwz⟩⟩
  obtain ⟨a2, rfl, rfl, rfl, w2⟩ := open_int Tryd.underlying3 (hval 2 3 v2 rfl rfl) h2
  clear hA0 hval0
  refine (walk a0 a2 a1 len1 cap1 z1 W w1).mono fun e W' ⟨he, bel⟩ => ?_
  subst he
  exact ⟨_, rfl, _, _, _, [], _, [], hW', trodAll_mk1 (shut_bool Tryd.underlying4 _), (trodAll_cons_mk (shut_int Tryd.underlying3 w0) (trodAll_cons_mk (Below.trod laidOut (by kernel_rfl) (of_decide_eq_true (by kernel_rfl)) k1 bel lt1) (trodAll_cons_mk (shut_int Tryd.underlying3 w2) trodAll_mk0))), rfl, bel.frame _, fun h => by cases h⟩

theorem over : Rows.FnRecorderWriteAnyCutSaid :=
  OpenClaim.holds_of_wide 5 Tryd.f5 rfl rfl rfl rfl rfl rfl rfl ⟨rfl, rfl, rfl, rfl, rfl⟩ rfl rfl rfl rfl rfl (by kernel_rfl) Tryd.func5 (by kernel_rfl)
    (of_decide_eq_true (by kernel_rfl)) (by unfold Func.isWrapper; first | (rw [if_pos (by decide +kernel)]; kernel_rfl) | (rw [if_neg (by decide +kernel)]; exact ⟨rfl, rfl⟩))
    (fun os started H enc _ => lifted os started H enc)

/-- ████ THE STATEMENT ████ -/
theorem proved : Rows.FnRecorderWriteAnyCutCardSaid :=
  Claim7.holds_tied_plain_at .later [] [.sentinel] true (true, "390ea42f71deb45d2a2eed31eaeb64f62056e1812627ddd5c772083f0af198da") true
    over (fun _ h => by cases h) (by kernel_rfl) (fun _ h => by cases h) fnRecorderWriteAnyCut_row_tie rfl ⟨rfl, rfl⟩ (by kernel_rfl) rfl
    (fun f fn hf hfn => by
      obtain rfl : f = 5 := Option.some.inj ((show Tryd.prog.funcNamed Tryd.f5.name = some 5 by kernel_rfl).symm.trans hf) |>.symm
      obtain rfl : fn = Tryd.f5 := (Option.some.inj (Tryd.func5.symm.trans hfn)).symm
      exact ⟨by kernel_rfl, fun j t ht => by
        rw [Tryd.params5] at ht
        have hm : t ∈ [3, 23, 3] := by simpa using Array.mem_of_getElem? ht
        have hall : ([3, 23, 3].all fun u => !Tryd.prog.wantsStandIn u) = true := by kernel_rfl
        exact (show Tryd.prog.wantsStandIn t = false by simpa using List.all_eq_true.1 hall t hm)⟩)
    (by kernel_rfl)
#print axioms proved
end Go.Proofs.Qxb6614922aDoor.fnRecorderWriteAnyCut
