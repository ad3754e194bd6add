/-
  Seat b6614922aD: FnRecorderWriteRecordsAll: the row and its tied card.
-/
import Derived.Test.Qxb6614922aDoorRows
import Derived.Test.Qxb6614922aDoorTie
import Derived.Test.Qxb6614922aDoorCards
import Derived.Test.Qxb6614922aDoorAll7
import Derived.Test.Qxb6614922aDoorAll8
import Derived.Test.Qxb6614922aDoorStart
import Derived.ProofKit
import Derived.OpenShut
import Derived.ShutString
import Derived.ChangeOld
import Derived.Below
import Derived.LaidMore
import Derived.Stop.Joined
import Derived.SevenTiedAt
namespace Go.Proofs.Qxb6614922aDoor.fnRecorderWriteRecordsAll
open Go.ChangeShapes Go.WideShapes Go.ChangeAt Go.RowKit

theorem own : ownKnob Tryd.prog.godebug = none := by kernel_rfl
theorem laidOut : laidOutB Tryd.prog = true := by kernel_rfl

/-- What is known of a slice of bytes that came in. -/
theorem inB_open {H : Type} {enc : TypeId × Value → H} {w : World} {base : Nat} {spare : Nat → Bool} {held : Bool} {fuel : Nat} {a : Option Addr} {n c : Nat} {x : DataW H × List MemPlace}
    (h : DataW.trod enc Tryd.prog w base spare held fuel 23 [.slice a n c] = some x) : n ≤ maxLen ∧ ∃ z : List Int, InB w a n c (z.map (Value.int .u8)) := by
  rcases open_ints Tryd.underlying23 Tryd.underlying5 (by kernel_rfl) h with ⟨hcs, _⟩ | ⟨y, l, cp, zs, hcs, _, hl, hm, hz, _, hcell, _⟩
  · simp at hcs
    obtain ⟨rfl, rfl, rfl⟩ := hcs
    exact ⟨Nat.zero_le _, [], rfl, by simp, Or.inl ⟨rfl, rfl, rfl⟩⟩
  · simp at hcs
    obtain ⟨rfl, rfl, rfl⟩ := hcs
    have hle : n ≤ zs.length := by rw [hz]; split <;> omega
    have hl2 : (zs.take n).length = n := by simp; omega
    refine ⟨by omega, zs.take n, by rw [List.length_map, hl2], ints_oneCell _ _, Or.inr ⟨y, rfl, ?_⟩⟩
    intro j v hj
    rw [List.getElem?_map, List.getElem?_take] at hj
    split at hj
    · rename_i hjl
      have hj2 : j < zs.length := by omega
      have := hcell j hj2
      rw [List.getElem?_eq_getElem hj2] at hj
      simp at hj
      rw [this, ← hj]
      simp [hj2]
    · simp at hj

/-- A start that meets the condition: the settled world, the one listed variable laid. -/
theorem laid_met (os : Os) (args : Array Value) : laidMetH Tryd.prog Rows.fnRecorderWriteRecordsAllRow.laid (World.forCall ({ World.holding Tryd.prog os ⟨#[.cells #[.string ⟨#[98, 121, 116, 101, 115, 46, 66, 117, 102, 102, 101, 114, 58, 32, 116, 111, 111, 32, 108, 97, 114, 103, 101]⟩] 134], #[], []⟩ with heap := (World.holding Tryd.prog os ⟨#[.cells #[.string ⟨#[98, 121, 116, 101, 115, 46, 66, 117, 102, 102, 101, 114, 58, 32, 116, 111, 111, 32, 108, 97, 114, 103, 101]⟩] 134], #[], []⟩).heap.modify 1 fun | .cells _ t frozen => .cells #[.iface 132 (.pointer (some ⟨15, 0, none⟩))] t frozen | o => o } : World) (fun _ _ => 0) ⟨#[], args, []⟩).memory :=
  laidMetH_of_parts3 (fuel := 8) (laidMet_of_run' 8 (by kernel_rfl) (by kernel_rfl)) (by kernel_rfl) (by kernel_rfl)

set_option maxRecDepth 100000 in
theorem lifted (os : Os) (started : os.Started) (H : Type) (enc : TypeId × Value → H) :
    ReturnsInHanded {} Tryd.checked os 4 .any (fun w args => (Rows.fnRecorderWriteRecordsAllSpec.pre enc Tryd.prog Tryd.f4 [] false w args ∧ laidMetH Tryd.prog Rows.fnRecorderWriteRecordsAllRow.laid w) ∧ sizedMet enc Tryd.prog Tryd.f4 (OpenSpec.ofChange Rows.fnRecorderWriteRecordsAllSpec) false w args)
      (Rows.fnRecorderWriteRecordsAllSpec.post enc Tryd.prog Tryd.f4 false true false false) := by
  refine returnsInHanded_of_change_and (C := Tryd.checked) (X := fun w _ => laidMetH Tryd.prog Rows.fnRecorderWriteRecordsAllRow.laid w) (fun _ _ _ hh h => h.of_heap hh) own started (by kernel_rfl) Tryd.func4
    (ChangeSpec.witness_shaped (enc := enc) (C := Tryd.checked) (os := os) (X := fun w _ => laidMetH Tryd.prog Rows.fnRecorderWriteRecordsAllRow.laid w) false ({ World.holding Tryd.prog os ⟨#[.cells #[.string ⟨#[98, 121, 116, 101, 115, 46, 66, 117, 102, 102, 101, 114, 58, 32, 116, 111, 111, 32, 108, 97, 114, 103, 101]⟩] 134], #[], []⟩ with heap := (World.holding Tryd.prog os ⟨#[.cells #[.string ⟨#[98, 121, 116, 101, 115, 46, 66, 117, 102, 102, 101, 114, 58, 32, 116, 111, 111, 32, 108, 97, 114, 103, 101]⟩] 134], #[], []⟩).heap.modify 1 fun | .cells _ t frozen => .cells #[.iface 132 (.pointer (some ⟨15, 0, none⟩))] t frozen | o => o } : World) #[.slice none 0 0, .slice none 0 0, .int .i64 0, .slice none 0 0, .slice none 0 0] 8 rfl (shaped_of_varsB (start_vars os _) (by kernel_rfl)) (by kernel_rfl) (by kernel_rfl) (by kernel_rfl) (laid_met os _)) ?_
  intro W base args ds gs before hval0 hW _ _ _ _
  have hval : ∀ (j : Nat) t v, Tryd.f4.params[j]? = some t → args[j]? = some v → Value.okWide Tryd.prog W .any base t v := hval0
  have hW' := hW
  obtain ⟨p, q, hA0, hV, rfl, hfz, hnd⟩ := hW
  have hA : DataW.TrodAll enc Tryd.prog W 0 (fun _ => true) true Tryd.f4.params.toList args.toList ds p := hA0
  rw [Tryd.params4] at hA hval
  obtain ⟨v0, vs0, d0, ds0, p0, q0, hargs, rfl, rfl, h0, r0⟩ := trodAll_cons hA
  obtain ⟨v1, vs1, d1, ds1, p1, q1, rfl, rfl, rfl, h1, r1⟩ := trodAll_cons r0
  obtain ⟨v2, vs2, d2, ds2, p2, q2, rfl, rfl, rfl, h2, r2⟩ := trodAll_cons r1
  obtain ⟨v3, vs3, d3, ds3, p3, q3, rfl, rfl, rfl, h3, r3⟩ := trodAll_cons r2
  obtain ⟨v4, vs4, d4, ds4, p4, q4, rfl, rfl, rfl, h4, r4⟩ := trodAll_cons r3
  obtain ⟨rfl, rfl, rfl⟩ := trodAll_nil r4
  obtain rfl : args = #[v0, v1, v2, v3, v4] := by cases args; simp_all
  obtain ⟨rfl, rfl⟩ := trodVars_none hV
  obtain ⟨a0, n0, c0, rfl⟩ := okWide_slice Tryd.underlying28 (hval 0 28 v0 rfl rfl)
  obtain ⟨a1, n1, c1, rfl⟩ := okWide_slice Tryd.underlying29 (hval 1 29 v1 rfl rfl)
  obtain ⟨s, rfl, rfl, rfl, w2⟩ := open_int Tryd.underlying3 (hval 2 3 v2 rfl rfl) h2
  obtain ⟨a3, n3, c3, rfl⟩ := okWide_slice Tryd.underlying23 (hval 3 23 v3 rfl rfl)
  obtain ⟨a4, n4, c4, rfl⟩ := okWide_slice Tryd.underlying23 (hval 4 23 v4 rfl rfl)
  have k0 := h0
  have k1 := h1
  have k3 := h3
  have k4 := h4
  have lt0 : ∀ x ∈ p0, x.block < W.heap.size := by obtain ⟨m, hm⟩ := k0; exact DataW.trod_lt m _ _ _ hm
  have lt1 : ∀ x ∈ p1, x.block < W.heap.size := by obtain ⟨m, hm⟩ := k1; exact DataW.trod_lt m _ _ _ hm
  have lt3 : ∀ x ∈ p3, x.block < W.heap.size := by obtain ⟨m, hm⟩ := k3; exact DataW.trod_lt m _ _ _ hm
  have lt4 : ∀ x ∈ p4, x.block < W.heap.size := by obtain ⟨m, hm⟩ := k4; exact DataW.trod_lt m _ _ _ hm
  obtain ⟨f0, hf0⟩ := h0
  obtain ⟨f1, hf1⟩ := h1
  obtain ⟨f3, hf3⟩ := h3
  obtain ⟨f4, hf4⟩ := h4
  obtain ⟨_, ss, _, e0, hss, hl0⟩ := strs_open (by simpa [Value.cells] using hf0)
  obtain ⟨_, V, _, SS, e1, hVs, hl1, hVl, hE⟩ := vals_open (by simpa [Value.cells] using hf1)
  obtain ⟨hl3, z3, i3⟩ := inB_open (by simpa [Value.cells] using hf3)
  obtain ⟨hl4, z4, i4⟩ := inB_open (by simpa [Value.cells] using hf4)
  have en0 : n0 = ss.length := by simp at e0; exact e0.2.1
  have en1 : n1 = V.length := by simp at e1; exact e1.2.1
  have came : Came W (.slice a0 n0 c0) (.slice a1 n1 c1) ss V SS := ⟨hss, hVs, hVl, hE⟩
  clear hA0 hval0
  have walked : Calls Tryd.prog 4 #[.slice a0 n0 c0, .slice a1 n1 c1, .int .i64 s, .slice a3 n3 c3, .slice a4 n4 c4] W fun e w' => e = .returned (.bool true) ∧ Below W.heap.size W w' := by
    by_cases hb : 65536 < n0 ∨ 65536 < n1 ∨ 65536 < n3 ∨ 65536 < n4
    · exact all_early a0 a1 a3 a4 n0 c0 n1 c1 n3 c3 n4 c4 s ss V SS W came (by omega) (by omega) hl3 hl4 hb
    · exact walk_all a0 a1 a3 a4 n0 c0 n1 c1 n3 c3 n4 c4 s ss V SS z3 z4 W came i3 i4 (by omega) (by omega) (by omega) (by omega)
  refine walked.mono fun e W' ⟨he, bel⟩ => ?_
  subst he
  exact ⟨_, rfl, _, _, _, [], _, [], hW', trodAll_mk1 (shut_bool Tryd.underlying4 _),
    (trodAll_cons_mk (Below.trod laidOut (by kernel_rfl) (of_decide_eq_true (by kernel_rfl)) k0 bel lt0) (trodAll_cons_mk (Below.trod laidOut (by kernel_rfl) (of_decide_eq_true (by kernel_rfl)) k1 bel lt1) (trodAll_cons_mk (shut_int Tryd.underlying3 w2)
      (trodAll_cons_mk (Below.trod laidOut (by kernel_rfl) (of_decide_eq_true (by kernel_rfl)) k3 bel lt3) (trodAll_cons_mk (Below.trod laidOut (by kernel_rfl) (of_decide_eq_true (by kernel_rfl)) k4 bel lt4) trodAll_mk0))))), rfl, bel.frame _, fun h => by cases h⟩

theorem over : Rows.FnRecorderWriteRecordsAllSaid :=
  OpenClaim.holds_of_wide 4 Tryd.f4 rfl rfl rfl rfl rfl rfl rfl ⟨rfl, rfl, rfl, rfl, rfl⟩ rfl rfl rfl rfl rfl (by kernel_rfl) Tryd.func4 (by kernel_rfl)
    (of_decide_eq_true (by kernel_rfl)) (by unfold Func.isWrapper; first | (rw [if_pos (by decide +kernel)]; kernel_rfl) | (rw [if_neg (by decide +kernel)]; exact ⟨rfl, rfl⟩))
    (fun os started H enc _ => lifted os started H enc)

/-- ████ THE STATEMENT ████ -/
theorem proved : Rows.FnRecorderWriteRecordsAllCardSaid :=
  Claim7.holds_tied_plain_at .later [] [.sentinel] true (true, "390ea42f71deb45d2a2eed31eaeb64f62056e1812627ddd5c772083f0af198da") true
    over (fun _ h => by cases h) (by kernel_rfl) (fun _ h => by cases h) fnRecorderWriteRecordsAll_row_tie rfl ⟨rfl, rfl⟩ (by kernel_rfl) rfl
    (fun f fn hf hfn => by
      obtain rfl : f = 4 := Option.some.inj ((show Tryd.prog.funcNamed Tryd.f4.name = some 4 by kernel_rfl).symm.trans hf) |>.symm
      obtain rfl : fn = Tryd.f4 := (Option.some.inj (Tryd.func4.symm.trans hfn)).symm
      exact ⟨by kernel_rfl, fun j t ht => by
        rw [Tryd.params4] at ht
        have hm : t ∈ [28, 29, 3, 23, 23] := by simpa using Array.mem_of_getElem? ht
        have hall : ([28, 29, 3, 23, 23].all fun u => !Tryd.prog.wantsStandIn u) = true := by kernel_rfl
        exact (show Tryd.prog.wantsStandIn t = false by simpa using List.all_eq_true.1 hall t hm)⟩)
    (by kernel_rfl)
#print axioms proved
end Go.Proofs.Qxb6614922aDoor.fnRecorderWriteRecordsAll
