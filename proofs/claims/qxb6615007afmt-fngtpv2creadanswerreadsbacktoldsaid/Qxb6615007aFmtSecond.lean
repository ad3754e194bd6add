/-
  Seat b6615007aF: ZZgtpv2cRead (10) at the two answers: a Version Not Supported Indication, an Echo Response.
-/
import Derived.Test.Qxb6615007aFmtFirst
namespace Go.Proofs.Qxb6615007aFmt
open Go.RowKit

/-- The bytes of a Version Not Supported Indication. -/
def vnsF (j : Nat) : Int := [64, 3, 0, 4, 0, 0, 0, 0].getD j 0
/-- The bytes of an Echo Response. -/
def echoF (s k : Int) (j : Nat) : Int := [64, 2, 0, 9, s / 65536 % 256, s / 256 % 256, s % 256, 0, 3, 0, 1, 0, k].getD j 0

theorem vnsF_ok : ∀ j, 0 ≤ vnsF j ∧ vnsF j ≤ 255 := by
  intro j
  unfold vnsF
  match j with
  | 0 | 1 | 2 | 3 | 4 | 5 | 6 | 7 => simp
  | j + 8 => simp

theorem echoF_ok (s k : Int) (hk : 0 ≤ k ∧ k ≤ 255) : ∀ j, 0 ≤ echoF s k j ∧ echoF s k j ≤ 255 := by
  intro j
  unfold echoF
  match j with
  | 0 | 1 | 2 | 3 | 7 | 8 | 9 | 10 | 11 => simp
  | 4 | 5 | 6 => simp; omega
  | 12 => simpa using hk
  | j + 13 => simp

theorem zz_vns (F : Stop.Interp) (N : Nat) (k : Int) (w : World) (hF : F.answers w.tape) (hh : Holds N 8 vnsF w) :
    Calls Tryf.prog 10 #[.slice (some ⟨N, 0, none⟩) 8 8, .int .u8 k] w fun e w' => e = .returned (.tuple #[.slice none 0 0, .int .u32 0, .int .u8 3, .slice (some ⟨N, 0, none⟩) 8 8, .bool false, .bool false, .int .u8 0, .bool true, .bool true]) ∧ Below w.heap.size w w' := by
  have hP := parses_good F N 8 8 vnsF w hF hh (by decide) (by decide) vnsF_ok (by decide) (by decide) (by decide)
  have hEc := echoes_of F N 8 8 8 vnsF 3 0 false false false w hF hh (by decide) vnsF_ok (by decide) (by decide) (by simp)
  refine (zz10 none (some ⟨N, 0, none⟩) 8 8 0 0 8 8 (some ⟨N, 0, none⟩) k 0 3 0 false false true w (fun w1 => Below w.heap.size w w1) (read13_other (some ⟨N, 0, none⟩) 8 8 _ _ k 3 0 false false _ w (by decide) hP hEc)).mono ?_
  rintro e w' ⟨rfl, w1, h1, h⟩
  exact ⟨rfl, h1.trans (h.mono h1.size)⟩

theorem wf_echoF (s k : Int) : wfIE (echoF s k) 13 8 = true := by
  rw [wfIE_eq, if_pos (by decide), if_neg (by decide)]
  have : (echoF s k (8 + 1) * 256 + echoF s k (8 + 2)).toNat = 1 := by simp [echoF]
  rw [this, if_neg (by decide), wfIE_eq, if_neg (by decide)]

/-- 'found', in an Echo Response. -/
def PhEcho (N : Nat) (i : Nat) (acc : Option (Addr × Nat × Nat)) : Prop := (i = 8 ∧ acc = none) ∨ (i = 13 ∧ ∃ kk, acc = some (⟨N, 12, none⟩, 1, kk))

theorem phEcho_step (N : Nat) (s k : Int) : ∀ i acc ad kk V, (echoF s k (i + 1) * 256 + echoF s k (i + 2)).toNat = V → PhEcho N i acc → i + 4 + V ≤ 13 → (V = 0 ∨ ad = ⟨N, i + 4, none⟩) → PhEcho N (i + 4 + V) (stepF acc (echoF s k i) (bits .and .u8 (echoF s k (i + 3)) 15) 3 0 (ad, V, kk)) := by
  rintro i acc ad kk V hV (⟨rfl, rfl⟩ | ⟨rfl, -⟩) hE had
  · have h1 : V = 1 := by rw [← hV]; simp [echoF]
    subst h1
    right
    refine ⟨rfl, kk, ?_⟩
    obtain rfl : ad = ⟨N, 12, none⟩ := had.resolve_left (by decide)
    have e1 : echoF s k 8 = 3 := by simp [echoF]
    have e2 : bits .and .u8 (echoF s k (8 + 3)) 15 = 0 := by
      have : echoF s k (8 + 3) = 0 := by simp [echoF]
      rw [this]; decide
    unfold stepF
    simp only
    rw [if_pos ⟨e1, e2⟩]
  · omega

theorem zz_resp (F : Stop.Interp) (N : Nat) (s k k2 : Int) (w : World) (hF : F.answers w.tape) (hs : 0 ≤ s ∧ s < 16777216) (hk : 0 ≤ k ∧ k ≤ 255) (hh : Holds N 13 (echoF s k) w) :
    Calls Tryf.prog 10 #[.slice (some ⟨N, 0, none⟩) 13 13, .int .u8 k2] w fun e w' => e = .returned (.tuple #[.slice none 0 0, .int .u32 s, .int .u8 2, .slice (some ⟨N, 0, none⟩) 13 13, .bool false, .bool true, .int .u8 k, .bool true, .bool true]) ∧ Below w.heap.size w w' := by
  have hok := echoF_ok s k hk
  have e0 : echoF s k 0 = 64 := by simp [echoF]
  have e1 : echoF s k 1 = 2 := by simp [echoF]
  have e2 : echoF s k 2 = 0 := by simp [echoF]
  have e3 : echoF s k 3 = 9 := by simp [echoF]
  have hl : hlB (echoF s k 0) = 8 := by rw [e0]; decide
  have hq : sqB (echoF s k) 8 = s := by simp [sqB, echoF]; omega
  have hP := parses_good F N 13 13 (echoF s k) w hF hh (by decide) (by decide) hok (by rw [e0]; decide) (by rw [e0, e2, e3]; decide) (by rw [e2, e3]; decide)
  rw [hl, hq, e0, e1] at hP
  have hEc := echoes_of F N 13 13 8 (echoF s k) 2 s false false false w hF hh (by decide) hok (by decide) (by decide) (by simp)
  refine (zz10g (G := Int × Bool) (fun _ => none) (fun _ => some ⟨N, 0, none⟩) (fun _ => 0) (fun _ => 0) (fun _ => 13) (fun _ => 13) (fun _ => s) (fun _ => 2) (fun g => g.1) (fun _ => false) (fun g => g.2) (fun _ => true) (some ⟨N, 0, none⟩) 13 13 k2 w
    (fun g w1 => Below w.heap.size w w1 ∧ g.1 = k ∧ g.2 = true) ((read13_resp (some ⟨N, 0, none⟩) 13 13 (13 - 8) (13 - 8) k2 s false false (adB N 13 8) (fun rc ok => rc = k ∧ ok = true) w hP hEc ?_).mono ?_)).mono ?_
  · intro ad had w1 hb
    have h1 := hh.later hb
    refine (rec22 F N 13 8 13 ad (PhEcho N) (echoF s k) 2 s false false w1 (by rw [hb.tape]; exact hF) h1.1 (Or.inl ⟨rfl, rfl⟩) (phEcho_step N s k) hok h1.2 (by decide) (by decide) (by decide) had ?_).mono ?_
    · rintro x (⟨h, -⟩ | ⟨-, kk, hx⟩)
      · cases h
      · injection hx with hx
        subst hx
        exact Or.inr ⟨12, rfl, by decide⟩
    · rintro e w' ⟨(⟨M, rfl, (h | ⟨x, hx, h0⟩)⟩ | ⟨x, o, rfl, hx, hxo⟩), hb'⟩
      · rcases h (wf_echoF s k) with ⟨h, -⟩ | ⟨-, kk, h⟩
        · cases h
        · cases h
      · rcases hx with ⟨h, -⟩ | ⟨-, kk, h⟩
        · cases h
        · injection h with h
          subst h
          cases h0
      · rcases hx with ⟨h, -⟩ | ⟨-, kk, h⟩
        · cases h
        · injection h with h
          subst h
          injection hxo with _ ho
          subst ho
          exact ⟨_, none, rfl, ⟨by simp [echoF], rfl⟩, hb'⟩
  · rintro e w' ⟨rc, ok, rfl, hb', hrc, hok'⟩
    exact ⟨(rc, ok), rfl, hb', hrc, hok'⟩
  · rintro e w' ⟨⟨rc, ok⟩, rfl, w1, ⟨hb1, hrc, hok'⟩, hb'⟩
    simp only at hrc hok'
    subst hrc hok'
    exact ⟨rfl, hb1.trans (hb'.mono hb1.size)⟩
end Go.Proofs.Qxb6615007aFmt
