/-
  Seat b6614922aD: plain laws on maps as read (the elements held as they are), and on the last place of a name. No Go in sight.
-/
import Derived.Maps.Views
import Derived.Maps.Ext
namespace Go.Proofs.Qxb6614922aDoor
open Go.Maps

/-- The length of a slice that is held in a map. -/
def lenOf : DataW Value → Nat
  | .held (.slice _ n _) => n
  | _ => 0
/-- The lengths of those entries that are still to come. -/
def sumL (left : Lit → Bool) : List (Lit × DataW Value) → Nat
  | [] => 0
  | p :: es => (if left p.1 then lenOf p.2 else 0) + sumL left es
def sumD (left : Lit → Bool) : DataW Value → Nat
  | .map es => sumL left es
  | _ => 0

theorem sumL_congr {l l' : Lit → Bool} : ∀ es : List (Lit × DataW Value), (∀ p ∈ es, l p.1 = l' p.1) → sumL l es = sumL l' es
  | [], _ => rfl
  | p :: es, h => by
    simp only [sumL]
    rw [h p (by simp), sumL_congr es (fun q hq => h q (by simp [hq]))]

theorem sumL_le (l : Lit → Bool) : ∀ es : List (Lit × DataW Value), sumL l es ≤ sumL (fun _ => true) es
  | [] => Nat.le_refl _
  | p :: es => by
    have := sumL_le l es
    simp only [sumL]
    split <;> simp <;> omega

theorem sumL_none {l : Lit → Bool} (h : ∀ k, l k = false) : ∀ es : List (Lit × DataW Value), sumL l es = 0
  | [] => rfl
  | p :: es => by simp [sumL, h, sumL_none h es]

theorem sumL_step {left : Lit → Bool} {kl : Lit} (hl : left kl = true) {y : DataW Value} : ∀ es : List (Lit × DataW Value), es.Pairwise (fun p q => p.1 ≠ q.1) →
    (∀ z, (DataW.map es).atKey kl z = y) → sumL left es = lenOf y + sumL (fun z => left z && !z.sameKey kl) es
  | [], _, h => by
    have h1 := h .nil
    have h2 := h (.lit (.bool true))
    rw [← h1] at h2
    simp [DataW.atKey] at h2
  | p :: es, hp, h => by
    rw [List.pairwise_cons] at hp
    simp only [sumL]
    by_cases hs : p.1.sameKey kl = true
    rotate_left
    · have hs : p.1.sameKey kl = false := by simpa using hs
      have h' : ∀ z, (DataW.map es).atKey kl z = y := fun z => by have := h z; simpa [DataW.atKey, hs] using this
      rw [sumL_step hl es hp.2 h']
      simp [hs]
      omega
    · have e : p.1 = kl := WideAt.sameKey_eq hs
      have hy : p.2 = y := by have := h .nil; simpa [DataW.atKey, hs] using this
      rw [sumL_congr (l := fun z => left z && !z.sameKey kl) (l' := left) es (fun q hq => by
        have : q.1 ≠ kl := fun e' => hp.1 q hq (e.trans e'.symm)
        simp [sameKey_ne this])]
      rw [e] at hs ⊢
      simp [hl, hy, hs]

theorem sumD_step {D : DataW Value} (ht : Tidy D) {left : Lit → Bool} {kl : Lit} (hl : left kl = true) {y : DataW Value} (h : ∀ z, D.atKey kl z = y) :
    sumD left D = lenOf y + sumD (fun z => left z && !z.sameKey kl) D := by
  obtain ⟨es, rfl, hp⟩ := ht
  exact sumL_step hl es hp h
theorem sumD_none {D : DataW Value} {left : Lit → Bool} (h : ∀ k, left k = false) : sumD left D = 0 := by
  cases D <;> simp [sumD, sumL_none h]
theorem sumD_le (l : Lit → Bool) (D : DataW Value) : sumD l D ≤ sumD (fun _ => true) D := by
  cases D <;> simp [sumD, sumL_le]

theorem sumL_insert (l : Lit → Bool) (x : Lit × DataW Value) : ∀ es : List (Lit × DataW Value), sumL l (DataW.insert x es) = (if l x.1 then lenOf x.2 else 0) + sumL l es
  | [] => rfl
  | y :: r => by
    unfold DataW.insert
    split
    · rfl
    · simp only [sumL]; rw [sumL_insert l x r]; omega
theorem sumL_filter (l : Lit → Bool) (f : Lit × DataW Value → Bool) : ∀ es : List (Lit × DataW Value), sumL l (es.filter f) ≤ sumL l es
  | [] => Nat.le_refl _
  | y :: r => by
    have := sumL_filter l f r
    rw [List.filter_cons]
    split <;> simp only [sumL] <;> omega
theorem sumD_put (D : DataW Value) (k : Lit) (d : DataW Value) : sumD (fun _ => true) (D.put k d) ≤ sumD (fun _ => true) D + lenOf d := by
  cases D with
  | map es =>
    show sumL _ (DataW.insert (k, d) _) ≤ sumL _ es + _
    rw [sumL_insert]
    have := sumL_filter (fun _ => true) (fun p => !p.1.sameKey k) es
    simp
    omega
  | _ => simp [DataW.put, sumD]

/-! ### the same keys, as many entries -/
theorem length_le_of_sub : ∀ (a b : List Lit), a.Nodup → (∀ x ∈ a, x ∈ b) → a.length ≤ b.length
  | [], _, _, _ => Nat.zero_le _
  | x :: r, b, hn, h => by
    obtain ⟨s, t, rfl⟩ := List.append_of_mem (h x (by simp))
    have hr := length_le_of_sub r (s ++ t) (List.nodup_cons.1 hn).2 (fun y hy => by
      have hne : y ≠ x := fun e => (List.nodup_cons.1 hn).1 (e ▸ hy)
      have := h y (by simp [hy])
      simp only [List.mem_append, List.mem_cons] at this ⊢
      rcases this with h1 | h1 | h1
      · exact Or.inl h1
      · exact absurd h1 hne
      · exact Or.inr h1)
    simp at hr ⊢
    omega

theorem mem_of_has {H : Type} {es : List (Lit × DataW H)} {k : Lit} (h : has (.map es) k = true) : k ∈ es.map (·.1) := by
  rw [has_eq, List.any_eq_true] at h
  obtain ⟨p, hp, hs⟩ := h
  rw [← WideAt.sameKey_eq hs]
  exact List.mem_map_of_mem hp
theorem sameKey_refl {k : Lit} (h : WideAt.IsKeyLit k) : k.sameKey k = true := by
  cases k <;> simp [WideAt.IsKeyLit] at h <;> simp [Lit.sameKey]
theorem has_of_mem {H : Type} {es : List (Lit × DataW H)} {p : Lit × DataW H} (h : p ∈ es) (hk : WideAt.IsKeyLit p.1) : has (.map es) p.1 = true := by
  rw [has_eq, List.any_eq_true]
  exact ⟨p, h, sameKey_refl hk⟩
theorem size_le_of_has {H H' : Type} {D : DataW H} {D' : DataW H'} (h : Canon D) (h' : Canon D') (hh : ∀ k, has D k = true → has D' k = true) : Maps.size D ≤ Maps.size D' := by
  obtain ⟨es, rfl, hp, hk⟩ := h
  obtain ⟨es', rfl, hp', hk'⟩ := h'
  rw [size_eq, size_eq]
  have hn : (es.map (·.1)).Nodup := by
    rw [List.Nodup, List.pairwise_map]
    exact apart_of_rising hp
  have := length_le_of_sub (es.map (·.1)) (es'.map (·.1)) hn (fun x hx => by
    obtain ⟨p, hpm, rfl⟩ := List.mem_map.1 hx
    exact mem_of_has (hh _ (has_of_mem hpm (hk p hpm))))
  simpa using this
theorem size_eq_of_has {H H' : Type} {D : DataW H} {D' : DataW H'} (h : Canon D) (h' : Canon D') (hh : ∀ k, has D k = has D' k) : Maps.size D = Maps.size D' :=
  Nat.le_antisymm (size_le_of_has h h' (fun k hk => by rw [← hh]; exact hk)) (size_le_of_has h' h (fun k hk => by rw [hh]; exact hk))

/-! ### the last place of a name among the first k -/
def lastIdx (L : List (List UInt8)) : Nat → List UInt8 → Option Nat
  | 0, _ => none
  | k + 1, x => if L.getD k [] = x then some k else lastIdx L k x
theorem lastIdx_some {L : List (List UInt8)} {x : List UInt8} : ∀ {k i : Nat}, lastIdx L k x = some i → i < k ∧ L.getD i [] = x
  | 0, _, h => by cases h
  | k + 1, i, h => by
    unfold lastIdx at h
    split at h
    · cases h; exact ⟨Nat.lt_succ_self _, by assumption⟩
    · have := lastIdx_some h; exact ⟨by omega, this.2⟩
theorem lastIdx_isSome {L : List (List UInt8)} {x : List UInt8} : ∀ {k i : Nat}, i < k → L.getD i [] = x → (lastIdx L k x).isSome = true
  | 0, _, h, _ => by omega
  | k + 1, i, h, e => by
    unfold lastIdx
    split
    · rfl
    · rename_i hne
      have : i ≠ k := fun e' => hne (e' ▸ e)
      exact lastIdx_isSome (by omega) e
theorem lastIdx_here (L : List (List UInt8)) (k : Nat) : lastIdx L (k + 1) (L.getD k []) = some k := by simp [lastIdx]
theorem lastIdx_other {L : List (List UInt8)} {k : Nat} {x : List UInt8} (h : x ≠ L.getD k []) : lastIdx L (k + 1) x = lastIdx L k x := by
  show (if L.getD k [] = x then some k else lastIdx L k x) = _
  rw [if_neg (fun e => h e.symm)]

/-- Of the first k lists the lengths, together. -/
def lens {α : Type} (SS : List (List α)) : Nat → Nat
  | 0 => 0
  | k + 1 => lens SS k + (SS.getD k []).length
end Go.Proofs.Qxb6614922aDoor
