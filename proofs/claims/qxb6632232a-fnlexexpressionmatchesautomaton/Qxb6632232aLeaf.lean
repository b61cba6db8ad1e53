/-
  THE LEAVES: the tests on a byte, nameLength, the bounds on the length.
-/
import Derived.Test.Qxb6632232aRows
import Derived.Test.Qxb6632232aMath
import Derived.WalkKit
import Derived.WalkSpells
import Derived.WalkSmall
namespace Go.Proofs.Qxb6632232a
open Go.RowKit
set_option linter.unusedVariables false

theorem retB {a b : Bool} (h : a = b) : Ending.returned (.bool a) = .returned (.bool b) := by rw [h]

theorem space_any (c : Int) (w : World) : Calls Try.prog 9 #[.int .u8 c] w fun e w' => e = .returned (.bool (M.isSp c)) ∧ w' = w := by
  have key : ∀ r, r = M.isSp c → Ending.returned (.bool r) = .returned (.bool (M.isSp c)) := fun r h => by rw [h]
  by_cases h1 : c = 32
  · have H : Hid (M.isSp c = true) := by show _ = _; subst h1; decide
    subst h1
    go_enter Try.func9, Try.ntmps9
    go_wp2
    go_ret
    exact ⟨retB (by rw [H.out]), rfl⟩
  · by_cases h2 : c = 9
    · have H : Hid (M.isSp c = true) := by show _ = _; subst h2; decide
      subst h2
      go_enter Try.func9, Try.ntmps9
      go_wp2
      go_ret
      exact ⟨retB (by rw [H.out]), rfl⟩
    · by_cases h3 : c = 10
      · have H : Hid (M.isSp c = true) := by show _ = _; subst h3; decide
        subst h3
        go_enter Try.func9, Try.ntmps9
        go_wp2
        go_ret
        exact ⟨retB (by rw [H.out]), rfl⟩
      · have g1 : (c == 32) = false := by simpa using h1
        have g2 : (c == 9) = false := by simpa using h2
        have g3 : (c == 10) = false := by simpa using h3
        have H : Hid (M.isSp c = (c == 13)) := by show _ = _; unfold M.isSp; rw [g1, g2, g3]; simp
        clear h1 h2 h3
        go_enter Try.func9, Try.ntmps9
        go_wp2
        go_ret
        exact ⟨retB (by rw [H.out]), rfl⟩

theorem digit_any (c : Int) (w : World) : Calls Try.prog 13 #[.int .u8 c] w fun e w' => e = .returned (.bool (M.isDig c)) ∧ w' = w := by
  by_cases h1 : 48 ≤ c
  · have H : Hid (M.isDig c = decide (c ≤ 57)) := by show _ = _; unfold M.isDig; simp [h1]
    go_enter Try.func13, Try.ntmps13
    go_wp2
    go_ret
    exact ⟨retB (by rw [H.out]), rfl⟩
  · have H : Hid (M.isDig c = false) := by show _ = _; unfold M.isDig; simp [h1]
    have g1 : decide (48 ≤ c) = false := by simpa using h1
    go_enter Try.func13, Try.ntmps13
    go_wp2
    go_ret
    exact ⟨retB (by rw [H.out]), rfl⟩


theorem isLet_iff (c : Int) : M.isLet c = true ↔ c = 95 ∨ (97 ≤ c ∧ c ≤ 122) ∨ (65 ≤ c ∧ c ≤ 90) := by
  unfold M.isLet; simp [or_assoc]
theorem isDig_iff (c : Int) : M.isDig c = true ↔ 48 ≤ c ∧ c ≤ 57 := by
  unfold M.isDig; simp
theorem isSp_iff (c : Int) : M.isSp c = true ↔ c = 32 ∨ c = 9 ∨ c = 10 ∨ c = 13 := by
  unfold M.isSp; simp [or_assoc]
theorem isNm_iff (c : Int) : M.isNm c = true ↔ c = 45 ∨ (c = 95 ∨ (97 ≤ c ∧ c ≤ 122) ∨ (65 ≤ c ∧ c ≤ 90)) ∨ (48 ≤ c ∧ c ≤ 57) := by
  unfold M.isNm; rw [Bool.or_eq_true, Bool.or_eq_true, isLet_iff, isDig_iff]; simp [or_assoc]

theorem letter_any (c : Int) (w : World) : Calls Try.prog 12 #[.int .u8 c] w fun e w' => e = .returned (.bool (M.isLet c)) ∧ w' = w := by
  by_cases h : M.isLet c = true
  · rw [h]
    rw [isLet_iff] at h
    rcases h with h | ⟨h, h'⟩ | ⟨h, h'⟩
    all_goals
      go_enter Try.func12, Try.ntmps12
      go_wp2
      go_ret
      exact ⟨rfl, rfl⟩
  · have hf : M.isLet c = false := by simpa using h
    rw [hf]
    rw [isLet_iff] at h
    clear hf
    rcases (show c < 65 ∨ (90 < c ∧ c < 95) ∨ c = 96 ∨ 122 < c by omega) with g | ⟨g, g'⟩ | g | g
    all_goals
      clear h
      go_enter Try.func12, Try.ntmps12
      go_wp2
      go_ret
      exact ⟨retB (by simp <;> omega), rfl⟩

theorem nameChar_any (c : Int) (w : World) : Calls Try.prog 15 #[.int .u8 c] w fun e w' => e = .returned (.bool (M.isNm c)) ∧ w' = w := by
  by_cases h : M.isNm c = true
  · rw [h]
    rw [isNm_iff] at h
    rcases h with h | (h | ⟨h, h'⟩ | ⟨h, h'⟩) | ⟨h, h'⟩
    all_goals
      go_enter Try.func15, Try.ntmps15
      go_wp2
      go_ret
      exact ⟨rfl, rfl⟩
  · have hf : M.isNm c = false := by simpa using h
    rw [hf]
    rw [isNm_iff] at h
    clear hf
    have g95 : (c == 95) = false := by simp; omega
    have g45 : (c == 45) = false := by simp; omega
    rcases (show c < 48 ∨ (57 < c ∧ c < 65) ∨ (90 < c ∧ c < 97) ∨ 122 < c by omega) with g | ⟨g, g'⟩ | ⟨g, g'⟩ | g
    · have d1 : decide (48 ≤ c) = false := decide_eq_false (by omega)
      have d2 : decide (97 ≤ c) = false := decide_eq_false (by omega)
      have d3 : decide (65 ≤ c) = false := decide_eq_false (by omega)
      clear h g
      go_enter Try.func15, Try.ntmps15
      go_wp2
      go_ret
      exact ⟨rfl, rfl⟩
    · have d1 : decide (c ≤ 57) = false := decide_eq_false (by omega)
      have e1 : 48 ≤ c := by omega
      have d2 : decide (97 ≤ c) = false := decide_eq_false (by omega)
      have d3 : decide (65 ≤ c) = false := decide_eq_false (by omega)
      clear h g g'
      go_enter Try.func15, Try.ntmps15
      go_wp2
      go_ret
      exact ⟨rfl, rfl⟩
    · have d1 : decide (c ≤ 57) = false := decide_eq_false (by omega)
      have e1 : 48 ≤ c := by omega
      have d2 : decide (97 ≤ c) = false := decide_eq_false (by omega)
      have d3 : decide (c ≤ 90) = false := decide_eq_false (by omega)
      have e2 : 65 ≤ c := by omega
      clear h g g'
      go_enter Try.func15, Try.ntmps15
      go_wp2
      go_ret
      exact ⟨rfl, rfl⟩
    · have d1 : decide (c ≤ 57) = false := decide_eq_false (by omega)
      have e1 : 48 ≤ c := by omega
      have d2 : decide (c ≤ 122) = false := decide_eq_false (by omega)
      have e3 : 97 ≤ c := by omega
      have d3 : decide (c ≤ 90) = false := decide_eq_false (by omega)
      have e2 : 65 ≤ c := by omega
      clear h g
      go_enter Try.func15, Try.ntmps15
      go_wp2
      go_ret
      exact ⟨rfl, rfl⟩

theorem nameByte_any (c : Int) (w : World) : Calls Try.prog 11 #[.int .u8 c] w fun e w' => e = .returned (.bool (M.isNm c)) ∧ w' = w := by
  by_cases h1 : c = 45
  · have H : Hid (M.isNm c = true) := by show _ = _; subst h1; decide
    subst h1
    go_enter Try.func11, Try.ntmps11
    go_wp2
    go_ret
    exact ⟨retB (by rw [H.out]), rfl⟩
  · have g1 : (c == 45) = false := by simpa using h1
    have H0 : M.isNm c = (M.isLet c || M.isDig c) := by unfold M.isNm; rw [g1]; simp
    clear h1
    cases hl : M.isLet c with
    | true =>
      have H : Hid (M.isNm c = true) := by show _ = _; rw [H0, hl]; rfl
      have HL : Hid (M.isLet c = true) := hl
      clear H0 hl
      go_enter Try.func11, Try.ntmps11
      go_wp2_with fail
      refine (letter_any c _).mono ?_
      rintro e w' ⟨rfl, hw⟩
      rw [hw, HL.out]
      go_wp2
      go_ret
      exact ⟨retB (by rw [H.out]), rfl⟩
    | false =>
      have H : Hid (M.isNm c = M.isDig c) := by show _ = _; rw [H0, hl]; rfl
      have HL : Hid (M.isLet c = false) := hl
      clear H0 hl
      go_enter Try.func11, Try.ntmps11
      go_wp2_with fail
      refine (letter_any c _).mono ?_
      rintro e w' ⟨rfl, hw⟩
      rw [hw, HL.out]
      clear hw
      go_wp2_with fail
      refine (digit_any c _).mono ?_
      rintro e w' ⟨rfl, hw⟩
      rw [hw]
      go_wp2
      go_ret
      exact ⟨retB (by rw [H.out]), rfl⟩

theorem bytes5_any (s : ByteArray) (w : World) (hn : s.size ≤ 1048576) : Calls Try.prog 5 #[.string s] w fun e w' => e = .returned (.bool true) ∧ w' = w := by
  go_enter Try.func5, Try.ntmps5
  go_wp2
  go_ret
  exact ⟨rfl, rfl⟩
theorem bytes5_no (s : ByteArray) (w : World) (hn : ¬ s.size ≤ 1048576) (hm : s.size ≤ 9223372036854775807) : Calls Try.prog 5 #[.string s] w fun e w' => e = .returned (.bool false) ∧ w' = w := by
  go_enter Try.func5, Try.ntmps5
  go_wp2
  go_ret
  exact ⟨rfl, rfl⟩
theorem bytes8_any (s : ByteArray) (w : World) (hn : s.size ≤ 1048576) : Calls Try.prog 8 #[.string s] w fun e w' => e = .returned (.bool true) ∧ w' = w := by
  go_enter Try.func8, Try.ntmps8
  go_wp2
  go_ret
  exact ⟨rfl, rfl⟩
theorem bytes8_no (s : ByteArray) (w : World) (hn : ¬ s.size ≤ 1048576) (hm : s.size ≤ 9223372036854775807) : Calls Try.prog 8 #[.string s] w fun e w' => e = .returned (.bool false) ∧ w' = w := by
  go_enter Try.func8, Try.ntmps8
  go_wp2
  go_ret
  exact ⟨rfl, rfl⟩

/-! ### bytes of a string, as a list -/
set_option maxRecDepth 100000 in
theorem byte_at (s : ByteArray) (l : List UInt8) (hl : s.data.toList = l) (k : Nat) (h : k < s.size) (d : UInt8) (r : List UInt8) (hd : l.drop k = d :: r) : s[k] = d := by
  have h1 : l[k]? = some d := by
    have := congrArg List.head? hd
    rw [List.head?_drop] at this
    simpa using this
  subst hl
  rw [List.getElem?_eq_getElem (by simpa using h)] at h1
  exact Option.some.inj h1

theorem size_list (s : ByteArray) : s.data.toList.length = s.size := Array.length_toList

theorem drop_step {l : List UInt8} {k : Nat} {d : UInt8} {r : List UInt8} (hd : l.drop k = d :: r) : l.drop (k + 1) = r := by
  have : l.drop (k + 1) = (l.drop k).drop 1 := by rw [List.drop_drop]
  rw [this, hd]; rfl


end Go.Proofs.Qxb6632232a
