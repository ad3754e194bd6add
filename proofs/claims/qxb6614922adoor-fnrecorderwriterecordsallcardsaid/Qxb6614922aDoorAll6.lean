/-
  Seat b6614922aD: FnRecorderWriteRecordsAll: what the loops keep.
-/
import Derived.Test.Qxb6614922aDoorAll5
namespace Go.Proofs.Qxb6614922aDoor
open Go.RowKit Go.Maps

/-- A slice of bytes that the call has made for itself (or nil). -/
def Byt (w : World) (p : Value) (C : List Value) : Prop :=
  (p = .slice none 0 0 ∧ C = []) ∨ ∃ g, p = .slice (some ⟨g, 0, none⟩) C.length C.length ∧ w.heap[g]? = some (.cells C.toArray 5 (0, 0))
theorem Byt.shape {w : World} {p : Value} {C : List Value} (h : Byt w p C) : ∃ ao c, p = .slice ao C.length c := by
  rcases h with ⟨rfl, rfl⟩ | ⟨g, rfl, _⟩
  · exact ⟨_, _, rfl⟩
  · exact ⟨_, _, rfl⟩
theorem Byt.below {w w' : World} {p : Value} {C : List Value} (h : Byt w p C) (hb : Below w.heap.size w w') : Byt w' p C := by
  rcases h with h | ⟨g, h1, h2⟩
  · exact Or.inl h
  · exact Or.inr ⟨g, h1, (hb.block g (Lib.lt_of_heap h2)).trans h2⟩
theorem Byt.src {w : World} {p : Value} {C : List Value} {b : Nat} (h : Byt w p C) (h1 : ∀ v ∈ C, v.oneCell' = true) (hb : ∀ c, w.heap[b]? ≠ some (.cells c 5 (0, 0))) : SrcOf b C p w := by
  rcases h with h | ⟨g, rfl, h2⟩
  · exact Or.inl h
  · have := src_block (i := 0) (n := C.length) (cp := C.length) (b := b) h2 (fun e => hb _ (e ▸ h2)) (by omega) h1
    rwa [List.drop_zero, List.take_of_length_le (Nat.le_refl _)] at this
theorem rec_tag5 {R : Nat → Option Value} {e B b o : Nat} {bs : List Value} {w : World} (h : LibA.IsBuffer 61 R e B b o bs w) : ∀ c, w.heap[b]? ≠ some (.cells c 5 (0, 0)) := by
  obtain ⟨_, v, lr, ⟨cs, hb, _⟩, _⟩ := h
  intro c hc
  rw [hb] at hc
  cases hc
theorem Came.below {w w' : World} {v0 v1 : Value} {ss : List ByteArray} {V : List Value} {SS : List (List ByteArray)} (h : Came w v0 v1 ss V SS) (hb : Below w.heap.size w w') : Came w' v0 v1 ss V SS :=
  ⟨h.names.below hb, h.vals.below hb, h.len, fun i hi => (h.each i hi).below hb⟩

theorem sent_tag {m : Nat} {st : Int} {B b : Nat} {bs : List Value} {D : DataW Value} {F : Lit → List ByteArray} {w : World} (h : Sent m st B b bs D F w) : ∀ c, w.heap[b]? ≠ some (.cells c 5 (0, 0)) := by
  obtain ⟨m2, n2, D2, hR, _⟩ := h
  exact rec_tag5 hR
theorem after_tag {m n : Nat} {s : Int} {B b : Nat} {D : DataW Value} {F : Lit → List ByteArray} {w : World} (h : AfterG m n s B b D F w) : ∀ c, w.heap[b]? ≠ some (.cells c 5 (0, 0)) := by
  rcases h with ⟨_, hR, _⟩ | ⟨_, h⟩
  · exact rec_tag5 hR
  · exact sent_tag h
theorem Byt.belowB {w w' : World} {p : Value} {C : List Value} {b : Nat} (h : Byt w p C) (hb : Below b w w') (e : b = w.heap.size) : Byt w' p C := h.below (e ▸ hb)
theorem Came.belowB {w w' : World} {v0 v1 : Value} {ss : List ByteArray} {V : List Value} {SS : List (List ByteArray)} {b : Nat} (h : Came w v0 v1 ss V SS) (hb : Below b w w') (e : b = w.heap.size) : Came w' v0 v1 ss V SS := h.below (e ▸ hb)

section
variable (w : World) {ops : Array Oper} {rest : List Oper} {o : Oper} {a : Act} {Q : Exit → Act → World → Prop}
/-- A look-up with its second answer, in a map of slices; the shape written out. -/
theorem lookup_sl (hg : o.guard = none) (mo x : Operand) (hop : o.op = Op.lookup 31 mo x true) (b n : Nat) (D : DataW Value) (hm : a.eval mo = .map (some b)) (hown : w.ownsMap Tryd.prog 9 sliceE b n D) (key : Value) (kl : Lit)
    (hx : a.eval x = key) (hkey : keyOf Tryd.prog 9 key = some kl)
    (hK : ∀ ao n c, D.atKey kl (.held (.slice none 0 0)) = .held (.slice ao n c) → wpList Tryd.prog ops Q rest (a.put o.dst (.tuple #[.slice ao n c, .bool (Maps.has D kl)])) w) :
    wpList Tryd.prog ops Q (o :: rest) a w := by
  refine wpList_lookup_own_ok w hg mo x 31 hop 9 28 law9 Tryd.underlying31 sliceE (z := .slice none 0 0) (by kernel_rfl) (.held (.slice none 0 0)) [] rfl b n D hm hown key kl hx hkey ?_
  intro v ps hv
  obtain ⟨c, rfl⟩ := invSl _ _ hv
  refine hK _ _ _ ?_
  simp [sliceE, mkSl] at hv
  exact hv.1.symm
/-- .. in the map of what is kept. -/
theorem lookup_kept (hg : o.guard = none) (mo x : Operand) (hop : o.op = Op.lookup 34 mo x true) (b n : Nat) (K : DataW Unit) (hm : a.eval mo = .map (some b)) (hown : w.ownsMap Tryd.prog 9 (plainElem Tryd.prog 3) b n K) (key : Value) (kl : Lit)
    (hx : a.eval x = key) (hkey : keyOf Tryd.prog 9 key = some kl) (c : Int) (hat : K.atKey kl (.lit (.int .i64 0)) = .lit (.int .i64 c))
    (hK : wpList Tryd.prog ops Q rest (a.put o.dst (.tuple #[.int .i64 c, .bool (Maps.has K kl)])) w) :
    wpList Tryd.prog ops Q (o :: rest) a w := by
  refine wpList_lookup_own_ok_int w hg mo x 34 hop 9 3 .i64 law9 Tryd.underlying34 Tryd.underlying3 (by kernel_rfl) b n K hm hown key kl hx hkey ?_
  intro c' hat' _
  rw [hat] at hat'
  cases hat'
  exact hK
end
theorem atKey_held {w : World} {b n : Nat} {D : DataW Value} {x : ByteArray} (h : w.ownsMap Tryd.prog 9 sliceE b n D) (hh : has D (.string x.data.toList) = true) {v : Value} (ha : D.atKey (.string x.data.toList) (.held (.slice none 0 0)) = .held v) :
    ∀ z, D.atKey (.string x.data.toList) z = .held v := by
  obtain ⟨es, rfl⟩ := h.isMap
  intro z
  rw [has_eq, List.any_eq_true] at hh
  obtain ⟨p, hp, hs⟩ := hh
  unfold DataW.atKey at ha ⊢
  simp only at ha ⊢
  cases hf : es.find? (fun p => p.1.sameKey (.string x.data.toList)) with
  | none => exact absurd hs (by simpa using List.find?_eq_none.1 hf p hp)
  | some q => rw [hf] at ha; exact ha

theorem map_belowU {w w' : World} {k : TypeId} {R : Value → Option (DataW Unit × List MemPlace)} {m n B : Nat} {D : DataW Unit} (h : w.ownsMap Tryd.prog k R m n D) (hb : Below B w w') (hm : m < B) : w'.ownsMap Tryd.prog k R m n D := by
  obtain ⟨es, clock, h1, r⟩ := h
  exact ⟨es, clock, (hb.block m hm).trans h1, r⟩

theorem src_part {g b i n cp : Nat} {C : List Value} {w : World} {t : TypeId} (hg : w.heap[g]? = some (.cells C.toArray t (0, 0))) (hb : g ≠ b) (hin : i + n ≤ C.length) (h1 : ∀ v ∈ (C.drop i).take n, v.oneCell' = true) :
    SrcOf b ((C.drop i).take n) (.slice (some ⟨g, i, none⟩) n cp) w := by
  refine Or.inr ⟨⟨g, i, none⟩, n, cp, rfl, by simp; omega, hb, fun j v hj => ?_, h1⟩
  have e : C[i + j]? = some v := by
    rw [List.getElem?_take] at hj
    split at hj
    · simpa using hj
    · cases hj
  by_cases hj0 : j = 0
  · subst hj0; simpa [Addr.add, World.cell?, hg] using e
  · simpa [Addr.add, hj0, World.cell?, hg] using e

/-! ### the header -/
def inL (L : List (List UInt8)) (k : Nat) : Lit → Bool
  | .string x => (lastIdx L k x).isSome
  | _ => false
def Fk (L : List (List UInt8)) (SS : List (List ByteArray)) (k : Nat) : Lit → List ByteArray
  | .string x => match lastIdx L k x with
    | some i => SS.getD i []
    | .none => []
  | _ => []
theorem inL_here (L : List (List UInt8)) (k : Nat) : inL L (k + 1) (.string (L.getD k [])) = true := by simp only [inL]; rw [lastIdx_here]; rfl
theorem inL_other {L : List (List UInt8)} {k : Nat} {kl : Lit} (h : kl ≠ .string (L.getD k [])) : inL L (k + 1) kl = inL L k kl := by
  cases kl with
  | string x => simp only [inL]; rw [lastIdx_other (fun e => h (by rw [e]))]
  | _ => rfl
theorem Fk_here (L : List (List UInt8)) (SS : List (List ByteArray)) (k : Nat) : Fk L SS (k + 1) (.string (L.getD k [])) = SS.getD k [] := by simp only [Fk]; rw [lastIdx_here]
theorem Fk_other {L : List (List UInt8)} {SS : List (List ByteArray)} {k : Nat} {kl : Lit} (h : kl ≠ .string (L.getD k [])) : Fk L SS (k + 1) kl = Fk L SS k kl := by
  cases kl with
  | string x => simp only [Fk]; rw [lastIdx_other (fun e => h (by rw [e]))]
  | _ => rfl
theorem inL_zero (L : List (List UInt8)) (kl : Lit) : inL L 0 kl = false := by cases kl <;> rfl

theorem hdr_has {H : Type} {D : DataW H} {L : List (List UInt8)} {k : Nat} (h : ∀ kl, has D kl = inL L k kl) (hm : IsMap D) (d : DataW H) : ∀ kl, has (D.put (.string (L.getD k [])) d) kl = inL L (k + 1) kl := by
  intro kl
  by_cases e : kl = .string (L.getD k [])
  · subst e
    rw [has_put_same hm (keyS _), inL_here]
  · rw [has_put_other e, h, inL_other e]
theorem hdr_vals {w : World} {D : DataW Value} {L : List (List UInt8)} {SS : List (List ByteArray)} {k : Nat} {v : Value} (h : Vals w D (Fk L SS k)) (hm : IsMap D) (hr : Row9 w v ((SS.getD k []).map Value.string)) :
    Vals w (D.put (.string (L.getD k [])) (.held v)) (Fk L SS (k + 1)) := by
  intro kl y hy
  by_cases e : kl = .string (L.getD k [])
  · subst e
    have := hy .nil
    rw [atKey_put_same hm (keyS _)] at this
    exact ⟨v, this.symm, by rw [Fk_here]; exact hr⟩
  · obtain ⟨u, h1, h2⟩ := h kl y (fun z => by rw [← hy z, atKey_put_other e])
    exact ⟨u, h1, by rw [Fk_other e]; exact h2⟩
theorem vals_empty (w : World) (F : Lit → List ByteArray) : Vals w (.map []) F := by
  intro kl y hy
  have h1 := hy .nil
  have h2 := hy (.lit (.bool true))
  rw [← h1] at h2
  cases h2

theorem lens_mono {α : Type} (SS : List (List α)) : ∀ {k k' : Nat}, k ≤ k' → lens SS k ≤ lens SS k'
  | _, 0, h => by
    obtain rfl : _ = 0 := Nat.le_zero.1 h
    exact Nat.le_refl _
  | k, k' + 1, h => by
    by_cases e : k = k' + 1
    · subst e; exact Nat.le_refl _
    · have := lens_mono SS (k := k) (k' := k') (by omega)
      simp only [lens]
      omega
theorem lens_beyond {α : Type} (SS : List (List α)) : ∀ d, lens SS (SS.length + d) = lens SS SS.length
  | 0 => rfl
  | d + 1 => by
    show lens SS (SS.length + d) + _ = _
    rw [lens_beyond SS d]
    have : SS.getD (SS.length.add d) [] = [] := by show SS.getD (SS.length + d) [] = []; simp
    rw [this]
    rfl
theorem lens_le {α : Type} (SS : List (List α)) (k : Nat) : lens SS k ≤ lens SS SS.length := by
  by_cases h : k ≤ SS.length
  · exact lens_mono SS h
  · have := lens_beyond SS (k - SS.length)
    rw [show SS.length + (k - SS.length) = k from by omega] at this
    omega

/-! ### what is kept -/
structure KeptAt (L : List (List UInt8)) (k : Nat) (K : DataW Unit) : Prop where
  has : ∀ kl, Maps.has K kl = (inL L k kl && !isTr kl)
  at_ : ∀ x i, lastIdx L k x = some i → isTr (.string x) = false → ∀ z, K.atKey (.string x) z = .lit (.int .i64 i)
theorem kept_zero (L : List (List UInt8)) : KeptAt L 0 (.map []) := ⟨fun kl => by rw [inL_zero]; rfl, fun x i h => by cases h⟩
theorem kept_put {L : List (List UInt8)} {k : Nat} {K : DataW Unit} (h : KeptAt L k K) (hm : IsMap K) (ht : isTr (.string (L.getD k [])) = false) : KeptAt L (k + 1) (K.put (.string (L.getD k [])) (.lit (.int .i64 k))) := by
  refine ⟨fun kl => ?_, fun x i hx hxt z => ?_⟩
  · by_cases e : kl = .string (L.getD k [])
    · subst e
      rw [has_put_same hm (keyS _), inL_here, ht]
      rfl
    · rw [has_put_other e, h.has, inL_other e]
  · by_cases e : x = L.getD k []
    · subst e
      rw [lastIdx_here] at hx
      cases hx
      rw [atKey_put_same hm (keyS _)]
    · rw [atKey_put_other (fun e' => e (by injection e'))]
      exact h.at_ x i (by rw [← lastIdx_other e]; exact hx) hxt z
theorem kept_skip {L : List (List UInt8)} {k : Nat} {K : DataW Unit} (h : KeptAt L k K) (ht : isTr (.string (L.getD k [])) = true) : KeptAt L (k + 1) K := by
  refine ⟨fun kl => ?_, fun x i hx hxt z => ?_⟩
  · by_cases e : kl = .string (L.getD k [])
    · subst e
      rw [h.has, ht]
      simp
    · rw [h.has, inL_other e]
  · have e : x ≠ L.getD k [] := fun e => by rw [e, ht] at hxt; cases hxt
    exact h.at_ x i (by rw [← lastIdx_other e]; exact hx) hxt z

theorem kept_facts {L : List (List UInt8)} {k : Nat} {K : DataW Unit} (h : KeptAt L k K) {x : List UInt8} (hh : has K (.string x) = true) : ∃ i, lastIdx L k x = some i ∧ i < k ∧ ∀ z, K.atKey (.string x) z = .lit (.int .i64 i) := by
  rw [h.has] at hh
  simp only [Bool.and_eq_true, Bool.not_eq_true'] at hh
  obtain ⟨h1, h2⟩ := hh
  simp only [inL] at h1
  obtain ⟨i, hi⟩ := Option.isSome_iff_exists.1 h1
  exact ⟨i, hi, (lastIdx_some hi).1, h.at_ x i hi h2⟩
theorem Fk_at {L : List (List UInt8)} {SS : List (List ByteArray)} {k i : Nat} {x : List UInt8} (h : lastIdx L k x = some i) : Fk L SS k (.string x) = SS.getD i [] := by simp only [Fk]; rw [h]

/-! ### the body -/
set_option maxRecDepth 100000 in
set_option maxHeartbeats 400000 in
theorem body25x (T : TypeId) (R : Nat → Option Value) (B b q : Nat) (bs : List Value) (w : World) (h : LibA.IsBuffer T R 5 B b q bs w) :
    Calls Tryd.prog 25 #[.pointer (some ⟨b, q, none⟩)] w fun e w' => ∃ n, w' = w.drewN n ∧ ((e = .returned (.slice none 0 0) ∧ bs = []) ∨ ∃ (g cap : Nat) (cur : List Value), e = .returned (.slice (some ⟨g, 0, none⟩) bs.length cap) ∧ bs.length ≤ cap ∧ cap ≤ maxLen ∧
      w.heap[g]? = some (.cells cur.toArray 5 (0, 0)) ∧ cur.take bs.length = bs ∧ cur.length = cap) := by
  obtain ⟨hB, lr2, hc⟩ := h.cases
  rcases hc with ⟨hb0, hbk2⟩ | ⟨g, cap, cur, hbk2, -, hg, hnc, hcm, hcs, htk, hgb⟩
  · subst hb0
    have c0 : w.cell? ⟨b, q, none⟩ = some (.slice none 0 0) := hbk2.c0
    have c1 : w.cell? ⟨b, q + 1, none⟩ = some (.int .i64 0) := hbk2.c1
    go_enter Tryd.func25, Tryd.ntmps25
    go_wp2
    go_quiet (fail)
    go_wp2
    go_ret
    exact ⟨_, rfl, Or.inl ⟨rfl, by simp⟩⟩
  · have c0 : w.cell? ⟨b, q, none⟩ = some (.slice (some ⟨g, 0, none⟩) bs.length cap) := hbk2.c0
    have c1 : w.cell? ⟨b, q + 1, none⟩ = some (.int .i64 0) := hbk2.c1
    have hcm' := hcm
    unfold maxLen at hcm
    go_enter Tryd.func25, Tryd.ntmps25
    go_wp2
    go_quiet (fail)
    go_wp2
    go_ret
    exact ⟨_, rfl, Or.inr ⟨g, cap, cur.toList, rfl, hnc, hcm', by simpa using hg, htk, by simpa using hcs⟩⟩

set_option maxHeartbeats 400000 in
theorem body16x (m : Nat) (s : Int) (sent : Option Nat) (B b : Nat) (bs : List Value) (w : World) (h : RecAt m s sent B b bs w) :
    Calls Tryd.prog 16 #[.pointer (some ⟨b, 0, none⟩)] w fun e w' => ∃ n, w' = w.drewN n ∧ ((e = .returned (.slice none 0 0) ∧ bs = []) ∨ ∃ (g cap : Nat) (cur : List Value), e = .returned (.slice (some ⟨g, 0, none⟩) bs.length cap) ∧ bs.length ≤ cap ∧ cap ≤ maxLen ∧
      w.heap[g]? = some (.cells cur.toArray 5 (0, 0)) ∧ cur.take bs.length = bs ∧ cur.length = cap) := by
  go_enter Tryd.func16, Tryd.ntmps16
  go_wp2_with fail
  refine (body25x 61 _ B b 3 bs w h).mono ?_
  rintro e w1 ⟨n, rfl, ⟨rfl, hb⟩ | ⟨g, cap, cur, rfl, h1, h2, h3, h4, h5⟩⟩
  · go_wp2
    go_ret
    exact ⟨_, rfl, Or.inl ⟨rfl, hb⟩⟩
  · go_wp2
    go_ret
    exact ⟨_, rfl, Or.inr ⟨g, cap, cur, rfl, h1, h2, h3, h4, h5⟩⟩
end Go.Proofs.Qxb6614922aDoor
