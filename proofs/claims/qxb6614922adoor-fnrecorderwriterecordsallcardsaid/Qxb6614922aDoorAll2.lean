/-
  Seat b6614922aD: FnRecorderWriteRecordsAll: (net/http.Header).Clone at whatever header.
-/
import Derived.Test.Qxb6614922aDoorAll1
namespace Go.Proofs.Qxb6614922aDoor
open Go.RowKit Go.Maps

/-- Every element of the map D is a slice that holds the strings F key. -/
def Vals (w : World) (D : DataW Value) (F : Lit → List ByteArray) : Prop :=
  ∀ kl y, (∀ z, D.atKey kl z = y) → ∃ v, y = .held v ∧ Row9 w v ((F kl).map Value.string)

theorem Vals.keep {w w' : World} {D : DataW Value} {F : Lit → List ByteArray} (h : Vals w D F) (hk : Keep9 w w') : Vals w' D F :=
  fun kl y hy => let ⟨v, h1, h2⟩ := h kl y hy; ⟨v, h1, h2.keep hk⟩

section
variable (w : World) {ops : Array Oper} {rest : List Oper} {o : Oper} {a : Act} {Q : Exit → Act → World → Prop}
/-- A range loop's step over a map of slices keyed by strings, the shapes written out. -/
theorem next_sl (hg : o.guard = none) (it : Operand) (hop : o.op = Op.next it false) (b r n : Nat) (D : DataW Value) (left : Lit → Bool) (cnt : Nat)
    (hit : a.eval it = .pointer (some ⟨r, 0, none⟩)) (h : w.ranges Tryd.prog 9 sliceE b r n D left cnt)
    (hDone : cnt = 0 → (∀ kl, left kl = false) → wpList Tryd.prog ops Q rest (a.put o.dst (.tuple #[.bool false])) w)
    (hMore : ∀ (x : ByteArray) (ao : Option Addr) (ln cp : Nat) (w' : World) (cnt' : Nat), keyOf Tryd.prog 9 (.string x) = some (.string x.data.toList) → left (.string x.data.toList) = true →
      (∀ zd, D.atKey (.string x.data.toList) zd = .held (.slice ao ln cp)) → w'.ranges Tryd.prog 9 sliceE b r n D (fun z => left z && !z.sameKey (.string x.data.toList)) cnt' → cnt' < cnt →
      w.grownBy w' (some r) → w'.heap.size = w.heap.size → (Instr.entry (.pointer (some ⟨r, 0, none⟩))).run Tryd.prog w' = .ok (.tuple #[.string x, .slice ao ln cp]) w' →
      wpList Tryd.prog ops Q rest (a.put o.dst (.tuple #[.bool true, .string x, .slice ao ln cp])) w') :
    wpList Tryd.prog ops Q (o :: rest) a w := by
  refine wpList_next_ranges w hg it hop 9 law9 sliceE Value.string mkSl invK9 invSl b r n D left cnt hit h hDone ?_
  intro x c kl y w' cnt' hkey hlk hv hat hrg hlt hgr hsz hen
  obtain ⟨s, hs, hkl, _⟩ := Go.WideMaps.string_of_keyOf Tryd.underlying9 hkey
  cases hs
  subst hkl
  have hy : y.1 = .held (.slice c.1 c.2.1 c.2.2) := by
    simp [sliceE, mkSl] at hv
    rw [← hv]
  exact hMore x c.1 c.2.1 c.2.2 w' cnt' hkey hlk (fun zd => (hat zd).trans hy) hrg hlt hgr hsz hen
end

theorem sliceE_mk (ao : Option Addr) (n c : Nat) : sliceE (.slice ao n c) = some (.held (.slice ao n c), []) := rfl

theorem take_splice {cur cs : List Value} {off o n : Nat} (h : o + n ≤ off) (hf : off ≤ cur.length) : ((splice cur off cs).drop o).take n = (cur.drop o).take n := by
  unfold splice
  rw [List.drop_append_of_le_length (by simp; omega), List.take_append_of_le_length (by simp; omega), List.drop_take, List.take_take]
  congr 1
  omega
theorem take_splice_new {cur cs : List Value} {off : Nat} (hf : off ≤ cur.length) : ((splice cur off cs).drop off).take cs.length = cs := by
  unfold splice
  rw [List.drop_append_of_le_length (by simp; omega)]
  have : (cur.take off).drop off = [] := by simp
  rw [this, List.nil_append, List.take_left']
  rfl

/-- Where a copied slice lies in the one new row. -/
def Laid (g off : Nat) (cur : List Value) (fs : List ByteArray) (v : Value) : Prop :=
  (v = .slice none 0 0 ∧ fs = []) ∨ ∃ o, v = .slice (some ⟨g, o, none⟩) fs.length fs.length ∧ o + fs.length ≤ off ∧ (cur.drop o).take fs.length = fs.map Value.string

theorem Laid.row9 {g off : Nat} {cur : List Value} {fs : List ByteArray} {v : Value} {w : World} (h : Laid g off cur fs v) (hg : w.heap[g]? = some (.cells cur.toArray 9 (0, 0))) : Row9 w v (fs.map Value.string) := by
  rcases h with ⟨rfl, rfl⟩ | ⟨o, rfl, h1, h2⟩
  · exact Or.inl ⟨_, _, rfl, rfl⟩
  · by_cases h0 : fs.length = 0
    · obtain rfl : fs = [] := List.eq_nil_of_length_eq_zero h0
      exact Or.inl ⟨_, _, rfl, rfl⟩
    · refine Or.inr ⟨g, o, fs.length, _, by simp, by simp; omega, hg, fun j u hj => ?_⟩
      rw [← h2, List.getElem?_take] at hj
      split at hj
      · simpa using hj
      · cases hj

theorem Laid.mono {g off off' : Nat} {cur cur' : List Value} {fs : List ByteArray} {v : Value} (h : Laid g off cur fs v) (ho : off ≤ off') (hc : ∀ o n, o + n ≤ off → (cur'.drop o).take n = (cur.drop o).take n) : Laid g off' cur' fs v := by
  rcases h with h | ⟨o, h1, h2, h3⟩
  · exact Or.inl h
  · exact Or.inr ⟨o, h1, by omega, by rw [hc o _ h2]; exact h3⟩

theorem keyS (x : List UInt8) : WideAt.IsKeyLit (.string x) := trivial

theorem has_step {D D2 : DataW Value} {left : Lit → Bool} {x : List UInt8} (h : ∀ k, has D2 k = (has D k && !left k)) (hm : IsMap D2) (hD : has D (.string x) = true) (d : DataW Value) :
    ∀ k, has (D2.put (.string x) d) k = (has D k && !(left k && !k.sameKey (.string x))) := by
  intro k
  by_cases e : k = .string x
  · subst e
    rw [has_put_same hm (keyS x), hD]
    simp [Lit.sameKey]
  · rw [has_put_other e, h k, sameKey_ne e]
    simp

theorem laid_step {g off off' : Nat} {cur cur' : List Value} {D2 : DataW Value} {F : Lit → List ByteArray} {x : List UInt8} {v0 : Value} (h : ∀ kl y, (∀ z, D2.atKey kl z = y) → ∃ v, y = .held v ∧ Laid g off cur (F kl) v)
    (hm : IsMap D2) (ho : off ≤ off') (hc : ∀ o n, o + n ≤ off → (cur'.drop o).take n = (cur.drop o).take n) (hv : Laid g off' cur' (F (.string x)) v0) :
    ∀ kl y, (∀ z, (D2.put (.string x) (.held v0)).atKey kl z = y) → ∃ v, y = .held v ∧ Laid g off' cur' (F kl) v := by
  intro kl y hy
  by_cases e : kl = .string x
  · subst e
    have := hy .nil
    rw [atKey_put_same hm (keyS x)] at this
    exact ⟨v0, this.symm, hv⟩
  · obtain ⟨v, h1, h2⟩ := h kl y (fun z => by rw [← hy z, atKey_put_other e])
    exact ⟨v, h1, h2.mono ho hc⟩

/-- 'copy' into a row of the call's own: the one row has turned, nothing else. -/
theorem copy_grown {P : Program} {w : World} {ops : Array Oper} {rest : List Oper} {o : Oper} {a : Act} {Q : Exit → Act → World → Prop} (hgd : o.guard = none) (d s : Operand) (dT sT : TypeId)
    (ho : o.op = .call { callee := .builtin .copy, args := #[d, s], argTypes := #[dT, sT] }) (elem : TypeId) (hu : P.underlying dT = some (.slice elem)) (hsz : (P.info? elem).map (·.size) = some 1)
    (dp sp : Option Addr) (dLen dCap sLen sCap : Nat) (hd : a.eval d = .slice dp dLen dCap) (hs : a.eval s = .slice sp sLen sCap)
    (g off : Nat) (cur : List Value) (t : TypeId) (hg : w.heap[g]? = some (.cells cur.toArray t (0, 0))) (cs : List Value) (hn : cs.length = Nat.min sLen dLen)
    (hpos : 0 < cs.length → dp = some ⟨g, off, none⟩ ∧ ∃ ad, sp = some ad ∧ ∀ j v, cs[j]? = some v → w.cell? (ad.add j) = some v)
    (hfit : off + cs.length ≤ cur.length) (h1 : ∀ v ∈ cs, v.oneCell' = true)
    (h : ∀ w', Hid (w'.heap[g]? = some (.cells (splice cur off cs).toArray t (0, 0))) → w.grownBy w' (some g) → w'.heap.size = w.heap.size → wpList P ops Q rest (a.put o.dst (goInt cs.length)) w') :
    wpList P ops Q (o :: rest) a w := by
  by_cases h0 : cs.length = 0
  · obtain rfl : cs = [] := List.eq_nil_of_length_eq_zero h0
    refine wpList_copy_nothing hgd d s dT sT ho elem hu hsz dp sp dLen dCap sLen sCap hd hs (by simpa using hn.symm) ?_
    exact h w (show _ = _ by simpa [splice] using hg) (grown_of_below (Below.refl _ _) _) rfl
  · obtain ⟨rfl, ad, rfl, hsrc⟩ := hpos (by omega)
    refine wpList_copy_own hgd d s dT sT ho elem hu hsz g off dLen dCap ad sLen sCap hd hs cur.toArray t hg cs hn hsrc (by simpa using hfit) h1 ?_
    refine h _ ?_ ⟨rfl, rfl, rfl, by simp [World.setRow], fun k _ hk => setRow_other w g k _ (fun e => hk (by rw [e]))⟩ (by simp [World.setRow])
    show _ = _
    rw [setRow_heap w g cur.toArray _ t (0, 0) hg]
    simp [splice]

set_option maxRecDepth 100000 in
set_option maxHeartbeats 2000000 in
theorem clone_any (m n : Nat) (D : DataW Value) (F : Lit → List ByteArray) (w : World) (hown : w.ownsMap Tryd.prog 9 sliceE m n D) (hV : Vals w D F) (hn : Maps.size D ≤ 4294967296) (hsum : sumD (fun _ => true) D ≤ 4294967296) :
    Calls Tryd.prog 30 #[.map (some m)] w fun e w' => ∃ m2 D2, e = .returned (.map (some m2)) ∧ w'.ownsMap Tryd.prog 9 sliceE m2 (Maps.size D) D2 ∧ w.heap.size ≤ m2 ∧ Below w.heap.size w w' ∧ (∀ k, has D2 k = has D k) ∧ Vals w' D2 F := by
  have hmm := @run_makeMap Tryd.prog
  have hm2 := run_makeMap_hint (P := Tryd.prog) Tryd.underlying55
  have q55 : ∀ (w : World) (r : Option Nat), (binOp .eql 55 (.map r) (.map none)).run Tryd.prog w = .ok (.bool r.isNone) w := fun w r => run_eql_map_nil w _ _ _ r Tryd.underlying55
  have q28 : ∀ (w : World) (a : Option Addr) (n c : Nat), (binOp .eql 28 (.slice a n c) (.slice none 0 0)).run Tryd.prog w = .ok (.bool a.isNone) w := fun w a n c => Go.run_eql_slice_nil w 28 9 a n c Tryd.underlying28
  obtain ⟨i0, hi, hz0, hz1, hz2⟩ := info_parts info9
  have hinfo : (Tryd.prog.info? 9).map (·.size) = some 1 := by rw [hi]; simp [hz1]
  have ht := hown.tidy law9
  have hml := hown.lt
  obtain ⟨NV, hNV⟩ : ∃ NV, NV = sumD (has D) D := ⟨_, rfl⟩
  have hNle : NV ≤ 4294967296 := by rw [hNV]; exact Nat.le_trans (sumD_le _ D) hsum
  have HNV : Hid (NV = sumD (has D) D) := hNV
  clear hNV hsum
  go_enter Tryd.func30, Tryd.ntmps30
  go_wp2_with (first | (at_range; refine wpList_range_own _ rfl _ 55 rfl 9 28 law9 Tryd.underlying55 _ m n _ rfl hown ?_; intro w0 hrg0 hg0 hs0) | fail)
  go_frame
  go_loopw [3] (fun s wr => ∃ (left : Lit → Bool) (cnt nv : Nat), wr.ranges Tryd.prog 9 sliceE m w.heap.size n D left cnt ∧ s = .int .i64 nv ∧ nv + sumD left D = NV ∧ Below w.heap.size w wr ∧ wr.heap.size = w.heap.size + 1) (fun _ wr => wr.rangeLeft m w.heap.size)
  case atStart =>
    exact ⟨_, _, 0, hrg0, rfl, by rw [HNV.out]; simp, (Below.refl _ _).grown hg0 (Nat.le_refl _) (by simp), hs0⟩
  case round =>
    obtain ⟨left, cnt, nv, hrg, rfl, hnv, hnx, hsz⟩ := hrel
    have Hnv : Hid (nv + sumD left D = NV) := hnv
    have hnl : nv ≤ NV := by omega
    clear hnv
    go_wp2_with (first | (at_next; refine next_sl _ rfl _ rfl m w.heap.size n D _ _ rfl hrg ?_ ?_) | fail)
    · intro hc0 hl0
      obtain rfl : NV = nv := by have := Hnv.out; rw [sumD_none hl0] at this; omega
      clear Hnv hnl
      have hown1 := hrg.owns
      go_wp2_with (first | (at_make; refine wpList_make_full _ rfl _ _ 28 rfl 0 9 i0 _ 1 Tryd.underlying28 hi hz0 hz1 .i64 .i64 _ _ NV rfl rfl rfl rfl (by rw [hz2]; omega) (by unfold maxLen; omega) (Nat.zero_le _) ?_; intro w1 ho1 hg1; obtain ⟨cur0, hcur0, hcl0⟩ := row_of ho1; clear ho1) | (at_len; refine wpList_len_own _ rfl _ 55 rfl 9 28 Tryd.underlying55 _ m n _ rfl (hown1.kept hg1 (by simp)) ?_) | (at_range; refine wpList_range_own _ rfl _ 55 rfl 9 28 law9 Tryd.underlying55 _ m n _ rfl ((hown1.kept hg1 (by simp)).alloc _) ?_; intro w2 hrg2 hg2 hs2) | fail)
      go_frame
      rw [hsz] at hcur0
      have e1 : (w1.alloc (.map #[] 0)).heap.size = w1.heap.size + 1 := by simp
      rw [e1] at hrg2 hs2 ⊢
      have hgl : w.heap.size + 1 < w1.heap.size := Lib.lt_of_heap hcur0
      have hb1 : Below w.heap.size w w1 := hnx.grown hg1 hnx.size (by simp)
      have hG2 : w2.heap[w.heap.size + 1]? = some (.cells cur0.toArray 9 (0, 0)) := heap_grown (by rw [Below.heap_alloc _ _ _ hgl]; exact hcur0) hg2
      have hM2 : w2.ownsMap Tryd.prog 9 sliceE w1.heap.size 0 (.map []) := (World.ownsMap_made _ _ _ _).kept hg2 (by simp)
      have hb2 : Below w.heap.size w w2 := (hb1.alloc (by omega) _).grown hg2 (by simp; omega) (by simp)
      clear hcur0 hg2 hg1 hrg hown1 hrg0 hg0 hs0 hc0 hl0 hnx
      go_loopw [6] (fun s wr => ∃ (left : Lit → Bool) (cnt o6 lim rem : Nat) (D2 : DataW Value) (cur : List Value), wr.ranges Tryd.prog 9 sliceE m (w1.heap.size + 1) n D left cnt ∧ cnt ≤ Maps.size D ∧ wr.ownsMap Tryd.prog 9 sliceE w1.heap.size (Maps.size D - cnt) D2 ∧
          (∀ k, has D2 k = (has D k && !left k)) ∧ s = .slice (some ⟨w.heap.size + 1, o6, none⟩) rem rem ∧ o6 ≤ lim ∧ (0 < rem → o6 = lim) ∧ lim + rem ≤ NV ∧ sumD left D = rem ∧ wr.heap[w.heap.size + 1]? = some (.cells cur.toArray 9 (0, 0)) ∧ cur.length = NV ∧
          (∀ kl y, (∀ z, D2.atKey kl z = y) → ∃ v, y = .held v ∧ Laid (w.heap.size + 1) lim cur (F kl) v) ∧ Below w.heap.size w wr ∧ w1.heap.size + 2 ≤ wr.heap.size) (fun _ wr => wr.rangeLeft m (w1.heap.size + 1))
      case atStart =>
        refine ⟨_, _, 0, 0, NV, .map [], cur0, hrg2, Nat.le_refl _, hM2.mono (Nat.zero_le _), fun k => by cases has D k <;> rfl, rfl, Nat.le_refl _, fun _ => rfl, by omega, HNV.out.symm, hG2, hcl0, fun kl y hy => ?_, hb2, by omega⟩
        have h1 := hy .nil
        have h2 := hy (.lit (.bool true))
        rw [← h1] at h2
        cases h2
      case round =>
        obtain ⟨left, cnt, o6, lim, rem, D2, cur, hrg, hcs, ho2, hha, rfl, ho6, ho6r, hor, hsm, hG, hcl, hLd, hnx, hsz2⟩ := hrel
        have Ho6 : Hid (0 < rem → o6 = lim) := ho6r
        clear ho6r
        have Hsm : Hid (sumD left D = rem) := hsm
        have Hcl : Hid (cur.length = NV) := hcl
        have hcl1 : lim + rem ≤ cur.length := by omega
        have Hha : Hid (∀ k, has D2 k = (has D k && !left k)) := hha
        clear hsm hcl hha
        go_wp2_with (first | (at_next; refine next_sl _ rfl _ rfl m (w1.heap.size + 1) n D _ _ rfl hrg ?_ ?_) | fail)
        · intro hc0 hl0
          go_wp2_with fail
          go_ret
          refine ⟨_, D2, rfl, ho2.mono (by omega), by omega, hnx, fun k => by rw [Hha.out, hl0]; simp, fun kl y hy => ?_⟩
          obtain ⟨v, rfl, hl⟩ := hLd kl y hy
          exact ⟨v, rfl, hl.row9 hG⟩
        · intro x ao ln cp w3 cnt3 hkey hlk hat hrg3 hlt hg3 hs3 hen
          have hst := sumD_step ht hlk hat
          have hl2 : lenOf (.held (.slice ao ln cp)) = ln := rfl
          rw [hl2, Hsm.out] at hst
          have hsm3 : ln ≤ rem := by omega
          have Hst : Hid (rem = ln + sumD (fun z => left z && !z.sameKey (.string x.data.toList)) D) := hst
          clear hst hl2
          obtain ⟨v, hv, hcell9⟩ := hV _ _ hat
          cases hv
          have hcell := hcell9.cells
          clear hcell9
          have hD : has D (.string x.data.toList) = true := has_true_of_atKey hat
          have hM := ho2.isMap
          have ho3 := ho2.kept hg3 (by simp)
          have hG3 := heap_grown_but hG hg3 (by omega)
          have hnx3 := hnx.grown hg3 (by omega) (fun j hj => by cases hj; omega)
          have hha3 : ∀ d, ∀ k, has (D2.put (.string x.data.toList) d) k = (has D k && !(left k && !k.sameKey (.string x.data.toList))) := has_step Hha.out hM hD
          have Hha3 : Hid (∀ d, ∀ k, has (D2.put (.string x.data.toList) d) k = (has D k && !(left k && !k.sameKey (.string x.data.toList)))) := hha3
          have hlen : ln = (F (.string x.data.toList)).length := by
            obtain ⟨_, _, e⟩ := hcell.shape
            simp at e
            exact e.2.1
          have Hlen : Hid (ln = (F (.string x.data.toList)).length) := hlen
          have hrem : rem - ln = sumD (fun z => left z && !z.sameKey (.string x.data.toList)) D := by have := Hst.out; omega
          have Hrem : Hid (rem - ln = sumD (fun z => left z && !z.sameKey (.string x.data.toList)) D) := hrem
          clear hha3 hlen hrem hat hlk hD hG ho2
          cases ao with
          | none =>
            have hF : F (.string x.data.toList) = [] := by
              rcases hcell with ⟨_, _, _, h⟩ | ⟨_, _, _, h, _⟩
              · simpa using h
              · cases h
            have HF : Hid (F (.string x.data.toList) = []) := hF
            clear hF
            go_wp2_with (first | (at_mapUpdate; refine wpList_mapUpdate_own _ rfl _ _ _ 55 rfl 9 28 law9 Tryd.underlying55 _ w1.heap.size _ _ rfl ho3 (by unfold maxLen; omega) _ _ _ rfl rfl hkey _ [] (sliceE_mk _ _ _) ?_; intro w4 ho4 hg4; go_frame) | fail)
            go_roundw
            case rel =>
              have hln0 : ln = 0 := by rw [Hlen.out, HF.out]; rfl
              exact ⟨_, cnt3, o6, lim, rem, _, cur, hrg3.kept hg4 (fun e => by have := Option.some.inj e; omega) (fun e => by have := Option.some.inj e; omega), by omega, ho4.mono (by omega), Hha3.out _, rfl, ho6, Ho6.out, hor, by rw [← Hrem.out, hln0]; rfl, heap_grown_but hG3 hg4 (by omega), Hcl.out,
                laid_step hLd hM (Nat.le_refl _) (fun _ _ _ => rfl) (Or.inl ⟨rfl, HF.out⟩), hnx3.grown hg4 (by omega) (fun j hj => by cases hj; omega), by have := hg4.size; omega⟩
            case measure => rw [(hrg3.kept hg4 (fun e => by have := Option.some.inj e; omega) (fun e => by have := Option.some.inj e; omega)).left_eq, hrg.left_eq]; exact hlt
          | some a =>
            have hsrc : ∀ j v, ((F (.string x.data.toList)).map Value.string)[j]? = some v → w3.cell? (a.add j) = some v := by
              rcases hcell with ⟨_, _, _, h⟩ | ⟨bk, of, _, h, _, hc⟩
              · rw [h]; intro j v hj; simp at hj
              · cases h
                intro j v hj
                have h1 := hc j v hj
                have h2 := cell_of_block h1 (hnx3.block _ (lt_of_cell h1))
                by_cases hj0 : j = 0
                · subst hj0; simpa [Addr.add] using h2
                · simpa [Addr.add, hj0] using h2
            have h1c := strs_one (F (.string x.data.toList))
            have hCl : ((F (.string x.data.toList)).map Value.string).length = ln := by rw [List.length_map]; exact Hlen.out.symm
            obtain ⟨C, hC⟩ : ∃ C, C = (F (.string x.data.toList)).map Value.string := ⟨_, rfl⟩
            rw [← hC] at hsrc h1c hCl
            have HC : Hid (C = (F (.string x.data.toList)).map Value.string) := hC
            clear hC hcell
            subst hCl
            have hfit : lim + C.length ≤ cur.length := by omega
            have hlim : lim ≤ cur.length := by omega
            have hpos : 0 < C.length → o6 = lim := fun h => Ho6.out (by omega)
            have Hpos : Hid (0 < C.length → o6 = lim) := hpos
            clear hpos
            rcases Nat.lt_or_ge C.length rem with hlr | hlr
            all_goals
              go_wp2_with (first | (refine copy_grown rfl (.tmp 39) (.tmp 40) 28 28 rfl 9 Tryd.underlying28 hinfo _ _ _ _ _ _ rfl rfl (w.heap.size + 1) lim cur 9 hG3 C (Nat.min_eq_left hsm3).symm (fun h => ⟨by rw [Hpos.out h], a, rfl, hsrc⟩) hfit h1c ?_; intro w4 HG4 hg4 hs4; have ho4 := ho3.kept hg4 (fun e => by have := Option.some.inj e; omega)) | (at_mapUpdate; refine wpList_mapUpdate_own _ rfl _ _ _ 55 rfl 9 28 law9 Tryd.underlying55 _ w1.heap.size _ _ rfl ho4 (by unfold maxLen; omega) _ _ _ rfl rfl hkey _ [] (sliceE_mk _ _ _) ?_; intro w5 ho5 hg5) | fail)
            all_goals
              have hcf : C.length = (F (.string x.data.toList)).length := by rw [HC.out, List.length_map]
              have hLv : Laid (w.heap.size + 1) (lim + C.length) (splice cur lim C) (F (.string x.data.toList)) (.slice (some ⟨w.heap.size + 1, o6, none⟩) C.length C.length) := by
                refine Or.inr ⟨o6, by rw [hcf], ?_, ?_⟩
                · rw [← hcf]; omega
                · rw [← hcf, ← HC.out]
                  by_cases h0 : 0 < C.length
                  · rw [Hpos.out h0]; exact take_splice_new hlim
                  · obtain rfl : C = [] := List.eq_nil_of_length_eq_zero (by omega)
                    rfl
              have hL5 := laid_step hLd hM (Nat.le_add_right lim C.length) (fun o n h => take_splice h hlim) hLv
              have hrg4 := hrg3.kept hg4 (fun e => by have := Option.some.inj e; omega) (fun e => by have := Option.some.inj e; omega)
              have hrg5 := hrg4.kept hg5 (fun e => by have := Option.some.inj e; omega) (fun e => by have := Option.some.inj e; omega)
              have hG5 := heap_grown_but HG4.out hg5 (by omega)
              have hlc : (splice cur lim C).length = NV := by rw [length_splice _ _ _ hfit]; exact Hcl.out
              have hnx5 := (hnx3.grown hg4 (by omega) (fun j hj => by cases hj; omega)).grown hg5 (by omega) (fun j hj => by cases hj; omega)
              have hs5 := hg5.size
            · exact ⟨⟨_, cnt3, o6 + C.length, lim + C.length, rem - C.length, _, _, hrg5, by omega, ho5.mono (by omega), Hha3.out _, rfl, by omega, fun _ => by rw [Ho6.out (by omega)], by omega, Hrem.out.symm, hG5, hlc, hL5, hnx5, by omega⟩, by rw [hrg5.left_eq, hrg.left_eq]; exact hlt⟩
            · exact ⟨⟨_, cnt3, o6, lim + C.length, 0, _, _, hrg5, by omega, ho5.mono (by omega), Hha3.out _, rfl, by omega, fun h => absurd h (by omega), by omega, by rw [← Hrem.out]; omega, hG5, hlc, hL5, hnx5, by omega⟩, by rw [hrg5.left_eq, hrg.left_eq]; exact hlt⟩
    · intro x ao ln cp w1 cnt1 hkey hlk hat hrg1 hlt hg1 hs1 hen
      have hst := sumD_step ht hlk hat
      have hl2 : lenOf (.held (.slice ao ln cp)) = ln := rfl
      rw [hl2] at hst
      have hsm : nv + ln ≤ NV := by have := Hnv.out; omega
      have Hst : Hid (sumD left D = ln + sumD (fun z => left z && !z.sameKey (.string x.data.toList)) D) := hst
      clear hst hl2
      go_wp2_with fail
      go_roundw
      case rel => exact ⟨_, cnt1, nv + ln, hrg1, by go_num, by have := Hnv.out; have := Hst.out; omega, hnx.grown hg1 hnx.size (fun j hj => by cases hj; exact Nat.le_refl _), by omega⟩
      case measure => rw [hrg1.left_eq, hrg.left_eq]; exact hlt
end Go.Proofs.Qxb6614922aDoor
