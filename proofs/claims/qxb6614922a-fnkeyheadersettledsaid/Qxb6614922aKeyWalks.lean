/-
  The shared walks of seat b6614922a: (Guard).keyHeader (8), ZZguardKeyHeader (6), the two length tests (5, 7).
-/
import Derived.Test.Qxb6614922aRows
import Derived.WalkKit
import Derived.WalkSpells
import Derived.WalkLawsBesides
namespace Go.Proofs.Qxb6614922a
open Go.RowKit

theorem grown_trans {a b c : World} (h : Grown a b) (k : Grown b c) : Grown a c :=
  ⟨World.keptBut_trans h.1 (World.keptBut_mono (fun _ f => f.elim) k.1), fun x => (k.2.1 x).trans (h.2.1 x), Nat.le_trans h.2.2 k.2.2⟩

/-- The default header's bytes. -/
def dflt : ByteArray := { data := #[73, 100, 101, 109, 112, 111, 116, 101, 110, 99, 121, 45, 75, 101, 121] }
/-- The key header that is read for the field a. -/
def kh (a : ByteArray) : ByteArray := if a.toList.isEmpty then dflt else a

theorem empty_of (a : ByteArray) (h : a.toList.isEmpty = true) : a = ⟨#[]⟩ := by
  cases a with | mk d => cases d with | mk l => rw [ByteArray.toList_eq] at h; simp at h; simp [h]

set_option maxHeartbeats 400000 in
theorem kh8_empty (w : World) :
    Calls Try.prog 8 #[.agg #[.nilIface, .string ⟨#[]⟩, .slice none 0 0, .string ⟨#[]⟩, .int .i64 0, .int .i64 0, .slice none 0 0, .string ⟨#[]⟩, .string ⟨#[]⟩, .string ⟨#[]⟩, .slice none 0 0, .slice none 0 0, .nilFunc]] w
      fun e w' => e = .returned (.string dflt) ∧ Grown w w' := by
  go_enter Try.func8, Try.ntmps8
  go_wp2
  go_ret
  exact ⟨rfl, by repeat (first | exact Grown.refl _ | apply Grown.drew | apply Grown.alloc)⟩

set_option maxHeartbeats 400000 in
theorem kh8_set (a : ByteArray) (h : a.toList.isEmpty = false) (w : World) :
    Calls Try.prog 8 #[.agg #[.nilIface, .string a, .slice none 0 0, .string ⟨#[]⟩, .int .i64 0, .int .i64 0, .slice none 0 0, .string ⟨#[]⟩, .string ⟨#[]⟩, .string ⟨#[]⟩, .slice none 0 0, .slice none 0 0, .nilFunc]] w
      fun e w' => e = .returned (.string a) ∧ Grown w w' := by
  go_enter Try.func8, Try.ntmps8
  go_wp2
  go_ret
  exact ⟨rfl, by repeat (first | exact Grown.refl _ | apply Grown.drew | apply Grown.alloc)⟩

theorem kh8 (a : ByteArray) (w : World) :
    Calls Try.prog 8 #[.agg #[.nilIface, .string a, .slice none 0 0, .string ⟨#[]⟩, .int .i64 0, .int .i64 0, .slice none 0 0, .string ⟨#[]⟩, .string ⟨#[]⟩, .string ⟨#[]⟩, .slice none 0 0, .slice none 0 0, .nilFunc]] w
      fun e w' => e = .returned (.string (kh a)) ∧ Grown w w' := by
  by_cases h : a.toList.isEmpty
  · have e : kh a = dflt := by simp [kh, h]
    rw [e]
    have e2 : a = ⟨#[]⟩ := empty_of a h
    rw [e2]
    exact kh8_empty w
  · have e : kh a = a := by simp [kh, h]
    rw [e]
    exact kh8_set a (by simpa using h) w

set_option maxHeartbeats 400000 in
theorem kh6 (a : ByteArray) (w : World) :
    Calls Try.prog 6 #[.string a] w fun e w' => e = .returned (.string (kh a)) ∧ Grown w w' := by
  go_enter Try.func6, Try.ntmps6
  go_wp2_with fail
  refine (kh8 a _).mono ?_
  rintro e w' ⟨rfl, hg⟩
  go_wp2
  go_ret
  exact ⟨rfl, hg⟩

set_option maxHeartbeats 400000 in
theorem bytes5 (a : ByteArray) (h : a.size ≤ maxLen) (w : World) :
    Calls Try.prog 5 #[.string a] w fun e w' => e = .returned (.bool (decide (a.size ≤ 1048576))) ∧ w' = w := by
  unfold maxLen at h
  by_cases hs : a.size ≤ 1048576
  · have h1 : ¬ (1048576 < (a.size : Int)) := by omega
    have h2 : (a.size : Int) ≤ 1048576 := by omega
    go_enter Try.func5, Try.ntmps5
    go_wp2
    go_ret
    exact ⟨by simp, rfl⟩
  · have h1 : (1048576 < (a.size : Int)) := by omega
    go_enter Try.func5, Try.ntmps5
    go_wp2
    go_ret
    exact ⟨by simp [hs], rfl⟩

set_option maxHeartbeats 400000 in
theorem bytes7 (a b : ByteArray) (ha : a.size ≤ maxLen) (hb : b.size ≤ maxLen) (w : World) :
    Calls Try.prog 7 #[.string a, .string b] w fun e w' => (e = .returned (.bool true) ∨ e = .returned (.bool false)) ∧ w' = w := by
  unfold maxLen at ha hb
  by_cases h1 : 1048576 < (a.size : Int)
  · go_enter Try.func7, Try.ntmps7
    go_wp2
    go_ret
    exact ⟨by simp, rfl⟩
  · by_cases h2 : 1048576 < (b.size : Int)
    · go_enter Try.func7, Try.ntmps7
      go_wp2
      go_ret
      exact ⟨by simp, rfl⟩
    · by_cases h3 : 1048576 < (a.size : Int) + (b.size : Int)
      · go_enter Try.func7, Try.ntmps7
        go_wp2
        go_ret
        exact ⟨by simp, rfl⟩
      · go_enter Try.func7, Try.ntmps7
        go_wp2
        go_ret
        exact ⟨by simp, rfl⟩

theorem kh_ne (a : ByteArray) : (kh a).toList.isEmpty = false := by
  unfold kh
  split <;> rename_i h
  · rw [ByteArray.toList_eq]; rfl
  · simpa using h
theorem kh_set (a : ByteArray) (h : a.toList.isEmpty = false) : kh a = a := by simp [kh, h]
theorem kh_empty : kh ⟨#[]⟩ = dflt := by simp [kh, ByteArray.toList_eq]
theorem dflt_ne : dflt.toList.isEmpty = false := by rw [ByteArray.toList_eq]; rfl
theorem kh6_set (a : ByteArray) (h : a.toList.isEmpty = false) (w : World) :
    Calls Try.prog 6 #[.string a] w fun e w' => e = .returned (.string a) ∧ Grown w w' := by
  have := kh6 a w
  rwa [kh_set a h] at this
theorem kh6_empty (w : World) :
    Calls Try.prog 6 #[.string ⟨#[]⟩] w fun e w' => e = .returned (.string dflt) ∧ Grown w w' := by
  have := kh6 ⟨#[]⟩ w
  rwa [kh_empty] at this
theorem kh_list (a : ByteArray) : (kh a).toList = if a.toList = [] then [73, 100, 101, 109, 112, 111, 116, 101, 110, 99, 121, 45, 75, 101, 121] else a.toList := by
  unfold kh
  by_cases h : a.toList = []
  · simp [h]; rw [ByteArray.toList_eq]; rfl
  · simp [h]
theorem kh_kh (a : ByteArray) : kh (kh a) = kh a := kh_set _ (kh_ne a)
end Go.Proofs.Qxb6614922a
