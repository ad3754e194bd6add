/-
  Seat b6615007aF: ZZgtpv2cRead (10) where the answer is nil, where it is an Echo Response, and at the two answers themselves.
-/
import Derived.Test.Qxb6615007aFmtRead4
import Derived.Test.Qxb6615007aFmtRec
import Derived.Test.Qxb6615007aFmtParse2
import Derived.Test.Qxb6615007aFmtLaw2
import Derived.Test.Qxb6615007aFmtUns
namespace Go.Proofs.Qxb6615007aFmt
open Go.RowKit

set_option maxRecDepth 100000 in
set_option maxHeartbeats 4000000 in
theorem zz10g {G : Type} (a d : G → Option Addr) (na ca nd cd : G → Nat) (seq typ rc : G → Int) (tr er ok : G → Bool) (x : Option Addr) (n c : Nat) (k : Int) (w : World) (R : G → World → Prop)
    (h13 : Calls Tryf.prog 13 #[.agg #[], .slice x n c, .agg #[.int .u8 k, .int .u64 0, .int .i64 0, .pointer none]] w fun e w' =>
      ∃ g, e = .returned (.tuple #[.slice (a g) (na g) (ca g), .agg #[.int .u32 (seq g), .int .u8 (typ g), .slice (d g) (nd g) (cd g), .bool (tr g), .bool (er g), .int .u8 (rc g), .int .u64 0, .int .i64 0, .pointer none], .bool (ok g)]) ∧ R g w') :
    Calls Tryf.prog 10 #[.slice x n c, .int .u8 k] w fun e w' => ∃ g, e = .returned (.tuple #[.slice (a g) (na g) (ca g), .int .u32 (seq g), .int .u8 (typ g), .slice (d g) (nd g) (cd g), .bool (tr g), .bool (er g), .int .u8 (rc g), .bool true, .bool (ok g)]) ∧ ∃ w1, R g w1 ∧ Below w1.heap.size w1 w' := by
  go_enter Tryf.func10, Tryf.ntmps10
  go_wp2_with fail
  refine h13.mono ?_
  rintro e w1 ⟨g, rfl, hR⟩
  go_wp2_with fail
  generalize hw0 : w1.alloc (.cells #[.int .u32 (seq g), .int .u8 (typ g), .slice (d g) (nd g) (cd g), .bool (tr g), .bool (er g), .int .u8 (rc g), .int .u64 0, .int .i64 0, .pointer none] 43) = w0
  have hsz : w0.heap.size = w1.heap.size + 1 := by rw [← hw0]; simp
  have hB : Below w1.heap.size w1 w0 := by rw [← hw0]; go_grown
  have c0 : w0.cell? ⟨w1.heap.size, 0, none⟩ = some (.int .u32 (seq g)) := by rw [← hw0]; simp [go_sem]
  have c1 : w0.cell? ⟨w1.heap.size, 1, none⟩ = some (.int .u8 (typ g)) := by rw [← hw0]; simp [go_sem]
  have c2 : w0.cell? ⟨w1.heap.size, 2, none⟩ = some (.slice (d g) (nd g) (cd g)) := by rw [← hw0]; simp [go_sem]
  have c3 : w0.cell? ⟨w1.heap.size, 3, none⟩ = some (.bool (tr g)) := by rw [← hw0]; simp [go_sem]
  have c4 : w0.cell? ⟨w1.heap.size, 4, none⟩ = some (.bool (er g)) := by rw [← hw0]; simp [go_sem]
  have c5 : w0.cell? ⟨w1.heap.size, 5, none⟩ = some (.int .u8 (rc g)) := by rw [← hw0]; simp [go_sem]
  have c6 : w0.cell? ⟨w1.heap.size, 6, none⟩ = some (.int .u64 0) := by rw [← hw0]; simp [go_sem]
  have c7 : w0.cell? ⟨w1.heap.size, 7, none⟩ = some (.int .i64 0) := by rw [← hw0]; simp [go_sem]
  have c8 : w0.cell? ⟨w1.heap.size, 8, none⟩ = some (.pointer none) := by rw [← hw0]; simp [go_sem]
  clear hw0
  have hl : ∀ (y : Option (Later w0.heap.size w0)) (j : Nat) (v : Value), w0.cell? ⟨w1.heap.size, j, none⟩ = some v → (laterAt y).cell? ⟨w1.heap.size, j, none⟩ = some v := fun y j v hv => ((laterAt_below y).cell (by show w1.heap.size < _; omega)).trans hv
  have l0 := fun y => hl y 0 _ c0
  have l1 := fun y => hl y 1 _ c1
  have l2 := fun y => hl y 2 _ c2
  have l3 := fun y => hl y 3 _ c3
  have l4 := fun y => hl y 4 _ c4
  have l5 := fun y => hl y 5 _ c5
  have l6 := fun y => hl y 6 _ c6
  have l7 := fun y => hl y 7 _ c7
  have l8 := fun y => hl y 8 _ c8
  clear hl c0 c1 c2 c3 c4 c5 c6 c7 c8 h13
  refine quiet_cls (X := Option (Later w0.heap.size w0)) (g := laterAt) (by kernel_rfl) (by kernel_rfl) ⟨some ⟨_, (Below.refl _ _).drew⟩, rfl⟩ ?_
  have z14 : Hid (∀ y : Option (Later w0.heap.size w0), Calls Tryf.prog 14 #[.agg #[.int .u64 0, .int .i64 0, .pointer none]] (laterAt y) fun e w' => e = .returned (.bool true) ∧ ∃ z : Option (Later w0.heap.size w0), w' = laterAt z) :=
    (fun y => (zero14 (laterAt y)).mono fun e w' ⟨he, hw⟩ => ⟨he, some ⟨w', by rw [hw]; exact (laterAt_below y).alloc (laterAt_below y).size _⟩, rfl⟩ : ∀ y : Option (Later w0.heap.size w0), Calls Tryf.prog 14 #[.agg #[.int .u64 0, .int .i64 0, .pointer none]] (laterAt y) fun e w' => e = .returned (.bool true) ∧ ∃ z : Option (Later w0.heap.size w0), w' = laterAt z)
  repeat go_big_quiet_step (exact z14.out _)
  refine wpQuiet_nil ?_
  intro _ hw'
  obtain ⟨y, hw''⟩ := hw'
  subst hw''
  go_wp2
  go_returns
  exact ⟨g, rfl, w1, hR, (hB.trans ((laterAt_below y).mono hB.size))⟩

/-- The answer is nil. -/
def NilRet (e : Ending) : Prop := ∃ (seq typ rc : Int) (d : Option Addr) (nd cd : Nat) (tr er ok : Bool), e = .returned (.tuple #[.slice none 0 0, .int .u32 seq, .int .u8 typ, .slice d nd cd, .bool tr, .bool er, .int .u8 rc, .bool true, .bool ok])

/-- A world that holds the bytes f 0 .. f (n - 1) in block A. -/
def Holds (A n : Nat) (f : Nat → Int) (w : World) : Prop := A < w.heap.size ∧ ∀ i, i < n → w.cell? ⟨A, i, none⟩ = some (.int .u8 (f i))
theorem Holds.later {A n : Nat} {f : Nat → Int} {w w' : World} (h : Holds A n f w) (hb : Below w.heap.size w w') : Holds A n f w' :=
  ⟨Nat.lt_of_lt_of_le h.1 hb.size, fun i hi => (hb.cell h.1).trans (h.2 i hi)⟩

theorem zz_err (x : Option Addr) (n c : Nat) (k : Int) (w : World)
    (hP : ∀ w1 : World, Below w.heap.size w w1 → Calls Tryf.prog 16 #[.slice x n c] w1 fun e w' => ∃ N, e = .returned (.tuple #[.agg #[.int .u8 0, .int .u32 0, .slice none 0 0, .bool false, .bool false], .iface 90 (.pointer (some ⟨N, 0, none⟩))]) ∧ Below w1.heap.size w1 w') :
    Calls Tryf.prog 10 #[.slice x n c, .int .u8 k] w fun e w' => NilRet e ∧ Below w.heap.size w w' := by
  refine (zz10 none none n c 0 0 0 0 x k 0 0 0 false false false w (fun w1 => Below w.heap.size w w1) (read13_err x n c k w hP)).mono ?_
  rintro e w' ⟨rfl, w1, h1, h⟩
  exact ⟨⟨_, _, _, _, _, _, _, _, _, rfl⟩, h1.trans (h.mono h1.size)⟩

theorem zz_short (F : Stop.Interp) (x : Option Addr) (n c : Nat) (k : Int) (w : World) (hF : F.answers w.tape) (hn : (n : Int) < 8) :
    Calls Tryf.prog 10 #[.slice x n c, .int .u8 k] w fun e w' => NilRet e ∧ Below w.heap.size w w' :=
  zz_err x n c k w fun w1 hb => parse16_short F x n c w1 (by rw [hb.tape]; exact hF) hn

/-- The header's length. -/
def hlB (b0 : Int) : Nat := if bits .and .u8 b0 8 = 0 then 8 else 12
theorem hlB_int (b0 : Int) : (if bits .and .u8 b0 8 = 0 then (8 : Int) else 12) = (hlB b0 : Int) := by unfold hlB; split <;> rfl
/-- The Sequence Number, behind a header of h octets. -/
def sqB (f : Nat → Int) (h : Nat) : Int := f (h - 4) * 65536 + f (h - 3) * 256 + f (h - 2)
/-- The IEs' address. -/
abbrev adB (A E h : Nat) : Addr → Prop := fun ad => E = h ∨ ad = ⟨A, h, none⟩

theorem zz_bad (F : Stop.Interp) (A n : Nat) (f : Nat → Int) (k : Int) (w : World) (hF : F.answers w.tape) (hh : Holds A n f w) (hn : (8 : Int) ≤ n) (hmax : (n : Int) ≤ 1048576) (hf : ∀ i, 0 ≤ f i ∧ f i ≤ 255) (hv : f 0 / 32 = 2)
    (hfr : frB n (hlB (f 0)) (f 2 * 256 + f 3) (f 0) = false) :
    Calls Tryf.prog 10 #[.slice (some ⟨A, 0, none⟩) n n, .int .u8 k] w fun e w' => NilRet e ∧ Below w.heap.size w w' := by
  refine zz_err _ n n k w fun w1 hb => ?_
  have h1 := hh.later hb
  have hF1 : F.answers w1.tape := by rw [hb.tape]; exact hF
  unfold frB at hfr
  by_cases ha : (4 + (f 2 * 256 + f 3) : Int) < hlB (f 0)
  · exact parse16_under F A n n f _ _ w1 hF1 h1.1 hn hf h1.2 (Int.le_refl _) (by omega) hv rfl (hlB_int _) ha
  · by_cases hb2 : (n : Int) < 4 + (f 2 * 256 + f 3)
    · exact parse16_over F A n n f _ _ w1 hF1 h1.1 hn hf h1.2 (Int.le_refl _) (by omega) hv rfl (hlB_int _) (by omega) hb2
    · rw [decide_eq_true (by omega), decide_eq_true (by omega)] at hfr
      simp only [Bool.true_and, Bool.or_eq_false_iff, decide_eq_false_iff_not] at hfr
      exact parse16_left F A n n f _ _ w1 hF1 h1.1 hn hf h1.2 (Int.le_refl _) (by omega) hv rfl (hlB_int _) (by omega) (by omega) (Decidable.not_not.1 hfr.2)

theorem parses_good (F : Stop.Interp) (A n E : Nat) (f : Nat → Int) (w : World) (hF : F.answers w.tape) (hh : Holds A n f w) (hn : (8 : Int) ≤ n) (hmax : (n : Int) ≤ 1048576) (hf : ∀ i, 0 ≤ f i ∧ f i ≤ 255) (hv : f 0 / 32 = 2)
    (hfr : frB n (hlB (f 0)) (f 2 * 256 + f 3) (f 0) = true) (hE : 4 + (f 2 * 256 + f 3) = (E : Int)) :
    Parses (some ⟨A, 0, none⟩) n n (f 1) (sqB f (hlB (f 0))) (bits .and .u8 (f 0) 8 != 0) (bits .and .u8 (f 0) 16 != 0) (E - hlB (f 0)) (n - hlB (f 0)) (adB A E (hlB (f 0))) w := by
  intro w1 hb
  have h1 := hh.later hb
  have hF1 : F.answers w1.tape := by rw [hb.tape]; exact hF
  unfold frB at hfr
  simp only [Bool.and_eq_true, Bool.or_eq_true, decide_eq_true_eq] at hfr
  obtain ⟨⟨ha, hb2⟩, hc⟩ := hfr
  by_cases h8 : bits .and .u8 (f 0) 8 = 0
  · have hh8 : hlB (f 0) = 8 := if_pos h8
    rw [hh8] at ha ⊢
    by_cases hen : E = n
    · refine (parse16_good8a F A n n f _ _ w1 hF1 h1.1 hn hf h1.2 (Int.le_refl _) (by omega) hv rfl (hlB_int _) E hE (by rw [hh8]; rfl) (by omega) (by omega) hen).mono ?_
      rintro e w' ⟨ad, rfl, had, hb'⟩
      exact ⟨ad, had, rfl, hb'⟩
    · have h16 : bits .and .u8 (f 0) 16 ≠ 0 := hc.resolve_left (by omega)
      have e16 : (bits .and .u8 (f 0) 16 != 0) = true := by simpa using h16
      rw [e16]
      refine (parse16_good8b F A n n f _ _ w1 hF1 h1.1 hn hf h1.2 (Int.le_refl _) (by omega) hv rfl (hlB_int _) E hE (by rw [hh8]; rfl) (by omega) (by omega) h16 (by omega)).mono ?_
      rintro e w' ⟨ad, rfl, had, hb'⟩
      exact ⟨ad, had, rfl, hb'⟩
  · have hh8 : hlB (f 0) = 12 := if_neg h8
    rw [hh8] at ha ⊢
    by_cases hen : E = n
    · refine (parse16_good12a F A n n f _ _ w1 hF1 h1.1 hn hf h1.2 (Int.le_refl _) (by omega) hv rfl (hlB_int _) E hE (by rw [hh8]; rfl) (by omega) (by omega) hen).mono ?_
      rintro e w' ⟨ad, rfl, had, hb'⟩
      exact ⟨ad, had, rfl, hb'⟩
    · have h16 : bits .and .u8 (f 0) 16 ≠ 0 := hc.resolve_left (by omega)
      have e16 : (bits .and .u8 (f 0) 16 != 0) = true := by simpa using h16
      rw [e16]
      refine (parse16_good12b F A n n f _ _ w1 hF1 h1.1 hn hf h1.2 (Int.le_refl _) (by omega) hv rfl (hlB_int _) E hE (by rw [hh8]; rfl) (by omega) (by omega) h16 (by omega)).mono ?_
      rintro e w' ⟨ad, rfl, had, hb'⟩
      exact ⟨ad, had, rfl, hb'⟩

theorem echoes_of (F : Stop.Interp) (A n E h : Nat) (f : Nat → Int) (t s : Int) (b1 b2 r : Bool) (w : World) (hF : F.answers w.tape) (hh : Holds A n f w) (hmax : (n : Int) ≤ 1048576) (hf : ∀ i, 0 ≤ f i ∧ f i ≤ 255)
    (hhE : h ≤ E) (hEn : E ≤ n) (hr : (decide (t = 1) && !b1 && !b2 && wfIE f E h) = r) : Echoes t s b1 b2 (E - h) (n - h) (adB A E h) r w := by
  intro ad had w1 hb
  have h1 := hh.later hb
  have := isEcho19 F A E h n ad f t s b1 b2 w1 (by rw [hb.tape]; exact hF) h1.1 hf (fun i hi => h1.2 i (by omega)) hhE hEn (by omega) had
  rwa [hr] at this

/-- What 'found' may hold. -/
def PhAny (A E : Nat) (_ : Nat) (acc : Option (Addr × Nat × Nat)) : Prop := ∀ x, acc = some x → x.2.1 = 0 ∨ ∃ o, x.1 = ⟨A, o, none⟩ ∧ o < E

theorem phAny_step (A E : Nat) (f : Nat → Int) (T I : Int) : ∀ i acc ad k V, (f (i + 1) * 256 + f (i + 2)).toNat = V → PhAny A E i acc → i + 4 + V ≤ E → (V = 0 ∨ ad = ⟨A, i + 4, none⟩) → PhAny A E (i + 4 + V) (stepF acc (f i) (bits .and .u8 (f (i + 3)) 15) T I (ad, V, k)) := by
  intro i acc ad k V _ hp hE had x hx
  cases acc with
  | some y => exact hp x hx
  | none =>
    unfold stepF at hx
    simp only at hx
    split at hx
    · injection hx with hx
      subst hx
      by_cases hV : V = 0
      · exact Or.inl hV
      · exact Or.inr ⟨i + 4, had.resolve_left hV, by omega⟩
    · cases hx

theorem zz_other (F : Stop.Interp) (A n E : Nat) (f : Nat → Int) (k : Int) (w : World) (hF : F.answers w.tape) (hh : Holds A n f w) (hn : (8 : Int) ≤ n) (hmax : (n : Int) ≤ 1048576) (hf : ∀ i, 0 ≤ f i ∧ f i ≤ 255) (hv : f 0 / 32 = 2)
    (hfr : frB n (hlB (f 0)) (f 2 * 256 + f 3) (f 0) = true) (hE : 4 + (f 2 * 256 + f 3) = (E : Int)) (hhE : hlB (f 0) ≤ E) (hEn : E ≤ n)
    (hr : (decide (f 1 = 1) && !(bits .and .u8 (f 0) 8 != 0) && !(bits .and .u8 (f 0) 16 != 0) && wfIE f E (hlB (f 0))) = false) :
    Calls Tryf.prog 10 #[.slice (some ⟨A, 0, none⟩) n n, .int .u8 k] w fun e w' => NilRet e ∧ Below w.heap.size w w' := by
  have hP := parses_good F A n E f w hF hh hn hmax hf hv hfr hE
  have hEc := echoes_of F A n E (hlB (f 0)) f (f 1) (sqB f (hlB (f 0))) _ _ false w hF hh hmax hf hhE hEn hr
  by_cases h2 : f 1 = 2
  · rw [h2] at hP hEc
    refine (zz10g (G := Int × Bool) (fun _ => none) (fun _ => some ⟨A, 0, none⟩) (fun _ => 0) (fun _ => 0) (fun _ => n) (fun _ => n) (fun _ => sqB f (hlB (f 0))) (fun _ => 2) (fun g => g.1) (fun _ => false) (fun g => g.2) (fun _ => true) (some ⟨A, 0, none⟩) n n k w
      (fun _ w1 => Below w.heap.size w w1) ((read13_resp (some ⟨A, 0, none⟩) n n _ _ k _ _ _ _ (fun _ _ => True) w hP hEc ?_).mono ?_)).mono ?_
    · intro ad had w1 hb
      have h1 := hh.later hb
      refine (rec22 F A E (hlB (f 0)) n ad (PhAny A E) f 2 _ _ _ w1 (by rw [hb.tape]; exact hF) h1.1 (fun x hx => by cases hx) (phAny_step A E f 3 0) hf (fun i hi => h1.2 i (by omega)) hhE hEn (by omega) had (fun x hx => hx x rfl)).mono ?_
      rintro e w' ⟨(⟨N, rfl, -⟩ | ⟨x, o, rfl, -, -⟩), hb'⟩
      · exact ⟨0, some N, rfl, trivial, hb'⟩
      · exact ⟨f o, none, rfl, trivial, hb'⟩
    · rintro e w' ⟨rc, ok, rfl, hb', -⟩
      exact ⟨(rc, ok), rfl, hb'⟩
    · rintro e w' ⟨g, rfl, w1, hb1, hb'⟩
      exact ⟨⟨_, _, _, _, _, _, _, _, _, rfl⟩, hb1.trans (hb'.mono hb1.size)⟩
  · refine (zz10 none (some ⟨A, 0, none⟩) n n 0 0 n n (some ⟨A, 0, none⟩) k _ _ 0 _ false true w (fun w1 => Below w.heap.size w w1) (read13_other (some ⟨A, 0, none⟩) n n _ _ k (f 1) _ _ _ _ w h2 hP hEc)).mono ?_
    rintro e w' ⟨rfl, w1, h1, h⟩
    exact ⟨⟨_, _, _, _, _, _, _, _, _, rfl⟩, h1.trans (h.mono h1.size)⟩

theorem zz_echo (F : Stop.Interp) (A n E : Nat) (f : Nat → Int) (k : Int) (w : World) (hF : F.answers w.tape) (hh : Holds A n f w) (hn : (8 : Int) ≤ n) (hmax : (n : Int) ≤ 1048576) (hf : ∀ i, 0 ≤ f i ∧ f i ≤ 255) (hv : f 0 / 32 = 2)
    (hfr : frB n (hlB (f 0)) (f 2 * 256 + f 3) (f 0) = true) (hE : 4 + (f 2 * 256 + f 3) = (E : Int)) (hhE : hlB (f 0) ≤ E) (hEn : E ≤ n)
    (hr : (decide (f 1 = 1) && !(bits .and .u8 (f 0) 8 != 0) && !(bits .and .u8 (f 0) 16 != 0) && wfIE f E (hlB (f 0))) = true) :
    Calls Tryf.prog 10 #[.slice (some ⟨A, 0, none⟩) n n, .int .u8 k] w fun e w' => ∃ N, e = .returned (.tuple #[.slice (some ⟨N, 0, none⟩) 13 13, .int .u32 0, .int .u8 0, .slice none 0 0, .bool false, .bool false, .int .u8 0, .bool true, .bool false]) ∧
      (Below w.heap.size w w' ∧ N < w'.heap.size ∧ ∀ j v, (echoC (sqB f (hlB (f 0))) k)[j]? = some v → w'.cell? ⟨N, j, none⟩ = some v) := by
  have hP := parses_good F A n E f w hF hh hn hmax hf hv hfr hE
  have hEc := echoes_of F A n E (hlB (f 0)) f (f 1) (sqB f (hlB (f 0))) _ _ true w hF hh hmax hf hhE hEn hr
  refine (zz10g (G := Nat) (fun N => some ⟨N, 0, none⟩) (fun _ => none) (fun _ => 13) (fun _ => 13) (fun _ => 0) (fun _ => 0) (fun _ => 0) (fun _ => 0) (fun _ => 0) (fun _ => false) (fun _ => false) (fun _ => false) (some ⟨A, 0, none⟩) n n k w
    _ (read13_echo (some ⟨A, 0, none⟩) n n _ _ k (f 1) _ _ _ _ w hP hEc)).mono ?_
  rintro e w' ⟨N, rfl, w1, ⟨hb1, hN0, hN1, hcs⟩, hb'⟩
  exact ⟨N, rfl, hb1.trans (hb'.mono hb1.size), Nat.lt_of_lt_of_le hN1 hb'.size, fun j v hv => (hb'.cell hN1).trans (hcs j v hv)⟩
end Go.Proofs.Qxb6615007aFmt
