/-
  THE WALKS: mulWide, negWide, wide, subWide, addWide, fitsInt64, Index, ZZIndex.
-/
import Derived.Test.Qxb6631316aRows
import Derived.Test.Qxb6631316aMath
import Derived.WalkKit
import Derived.WalkSpells
namespace Go.Proofs.Qxb6631316a
open Go.RowKit
set_option linter.unusedVariables false

theorem ret2 {a b c d : Int} (h1 : a = c) (h2 : b = d) : Ending.returned (.tuple #[.int .u64 a, .int .u64 b]) = .returned (.tuple #[.int .u64 c, .int .u64 d]) := by rw [h1, h2]
theorem ret1 {k : IntKind} {a b : Int} (h : a = b) : Ending.returned (.int k a) = .returned (.int k b) := by rw [h]

set_option maxHeartbeats 400000 in
theorem mul_pos (a b : Int) (w : World) (ha : 0 ≤ a) (ha' : a ≤ 9223372036854775807) (hb : 1 ≤ b) (hb' : b ≤ 9223372036854775807) :
    Calls Try.prog 6 #[.int .i64 a, .int .i64 b] w fun e w' => e = .returned (.tuple #[.int .u64 (M.hM a b), .int .u64 (M.lM a b)]) ∧ w' = w := by
  have hda : decide (a < 0) = false := decide_eq_false (by omega)
  have hdb : decide (b < 0) = false := decide_eq_false (by omega)
  go_enter Try.func6, Try.ntmps6
  go_wp2
  go_ret2
  exact ⟨rfl, rfl⟩

theorem neg_any (p : Int) (w : World) :
    Calls Try.prog 12 #[.int .u64 (M.hiW p), .int .u64 (M.loW p)] w fun e w' => e = .returned (.tuple #[.int .u64 (M.hiW (-p)), .int .u64 (M.loW (-p))]) ∧ w' = w := by
  have h1 := M.neg_lo p
  have h2 := M.neg_hi0 p
  have h3 := M.neg_hi1 p
  by_cases h0 : M.loW p = 0
  · have E1 : Hid _ := h1
    have E2 : Hid _ := h2 h0
    have hb : (M.loW p == 0) = true := by simpa using h0
    clear h0 h1 h2 h3
    generalize M.hiW p = x at *
    generalize M.loW p = y at *
    go_enter Try.func12, Try.ntmps12
    go_wp2
    go_ret2
    exact ⟨ret2 E2.out E1.out, rfl⟩
  · have E1 : Hid _ := h1
    have E2 : Hid _ := h3 h0
    have hb : (M.loW p == 0) = false := by simpa using h0
    clear h0 h1 h2 h3
    generalize M.hiW p = x at *
    generalize M.loW p = y at *
    go_enter Try.func12, Try.ntmps12
    go_wp2
    go_ret2
    exact ⟨ret2 E2.out E1.out, rfl⟩

set_option maxHeartbeats 400000 in
theorem mul_neg (a b : Int) (w : World) (ha : a < 0) (ha' : -9223372036854775808 ≤ a) (hb : 1 ≤ b) (hb' : b ≤ 9223372036854775807) :
    Calls Try.prog 6 #[.int .i64 a, .int .i64 b] w fun e w' => e = .returned (.tuple #[.int .u64 (M.hiW (a * b)), .int .u64 (M.loW (a * b))]) ∧ w' = w := by
  have hda : decide (a < 0) = true := decide_eq_true (by omega)
  have hdb : decide (b < 0) = false := decide_eq_false (by omega)
  have EA : Hid (IntKind.u64.wrap (-IntKind.u64.wrap a) = -a) := M.abs_neg a ha ha'
  have EW : Hid (M.hM (-a) b = M.hiW (-a * b) ∧ M.lM (-a) b = M.loW (-a * b)) := M.words_pos (-a) b (by omega) (by omega) (by omega) (by omega)
  have EN : Hid (a * b = -(-a * b)) := by show a * b = _; rw [Int.neg_mul, Int.neg_neg]
  go_enter Try.func6, Try.ntmps6
  go_wp2_with fail
  show Calls Try.prog 12 #[.int .u64 (M.hM (IntKind.u64.wrap (-IntKind.u64.wrap a)) b), .int .u64 (M.lM (IntKind.u64.wrap (-IntKind.u64.wrap a)) b)] _ _
  rw [EA.out, EW.out.1, EW.out.2]
  refine (neg_any (-a * b) w).mono ?_
  rintro e w' ⟨rfl, hw⟩
  rw [hw, ← EN.out]
  go_wp2
  go_ret2
  exact ⟨rfl, rfl⟩

theorem mul_any (a b : Int) (w : World) (ha : -9223372036854775808 ≤ a) (ha' : a ≤ 9223372036854775807) (hb : 1 ≤ b) (hb' : b ≤ 9223372036854775807) :
    Calls Try.prog 6 #[.int .i64 a, .int .i64 b] w fun e w' => e = .returned (.tuple #[.int .u64 (M.hiW (a * b)), .int .u64 (M.loW (a * b))]) ∧ w' = w := by
  by_cases h : a < 0
  · exact mul_neg a b w h ha hb hb'
  · have e := M.words_pos a b (by omega) (by omega) (by omega) (by omega)
    refine (mul_pos a b w (by omega) ha' hb hb').mono ?_
    rintro _ w' ⟨rfl, hw⟩
    exact ⟨ret2 e.1 e.2, hw⟩

theorem wide_any (x : Int) (w : World) (h : -9223372036854775808 ≤ x) (h' : x ≤ 9223372036854775807) :
    Calls Try.prog 7 #[.int .i64 x] w fun e w' => e = .returned (.tuple #[.int .u64 (M.hiW x), .int .u64 (M.loW x)]) ∧ w' = w := by
  by_cases hx : x < 0
  · have E1 : Hid ((18446744073709551615 : Int) = M.hiW x) := by show _ = _; unfold M.hiW; omega
    have E2 : Hid (IntKind.u64.wrap x = M.loW x) := by show _ = _; rw [M.wrapU]; unfold M.loW; omega
    go_enter Try.func7, Try.ntmps7
    go_wp2
    go_ret2
    exact ⟨ret2 E1.out E2.out, rfl⟩
  · have E1 : Hid ((0 : Int) = M.hiW x) := by show _ = _; unfold M.hiW; omega
    have E2 : Hid (x = M.loW x) := by show _ = _; unfold M.loW; omega
    go_enter Try.func7, Try.ntmps7
    go_wp2
    go_ret2
    exact ⟨ret2 E1.out E2.out, rfl⟩

theorem sub_any (e p : Int) (w : World) :
    Calls Try.prog 8 #[.int .u64 (M.hiW e), .int .u64 (M.loW e), .int .u64 (M.hiW p), .int .u64 (M.loW p)] w fun r w' => r = .returned (.tuple #[.int .u64 (M.hiW (e - p)), .int .u64 (M.loW (e - p))]) ∧ w' = w := by
  have E1 : Hid _ := M.sub_lo e p
  by_cases h : M.loW e < M.loW p
  · have E2 : Hid _ := M.sub_hi1 e p h
    generalize M.hiW e = x at *
    generalize M.loW e = y at *
    generalize M.hiW p = z at *
    generalize M.loW p = u at *
    go_enter Try.func8, Try.ntmps8
    go_wp2
    go_ret2
    exact ⟨ret2 E2.out E1.out, rfl⟩
  · have E2 : Hid _ := M.sub_hi0 e p h
    have E3 : Hid (IntKind.u64.wrap (M.hiW (e - p)) = M.hiW (e - p)) := by show _ = _; rw [M.wrapU]; have := M.hiW_bd (e - p); omega
    generalize M.hiW e = x at *
    generalize M.loW e = y at *
    generalize M.hiW p = z at *
    generalize M.loW p = u at *
    go_enter Try.func8, Try.ntmps8
    go_wp2
    go_ret2
    refine ⟨ret2 ?_ E1.out, rfl⟩
    exact (congrArg IntKind.u64.wrap E2.out).trans E3.out

theorem add_any (e p : Int) (w : World) :
    Calls Try.prog 9 #[.int .u64 (M.hiW e), .int .u64 (M.loW e), .int .u64 (M.hiW p), .int .u64 (M.loW p)] w fun r w' => r = .returned (.tuple #[.int .u64 (M.hiW (e + p)), .int .u64 (M.loW (e + p))]) ∧ w' = w := by
  have E1 : Hid _ := M.add_lo e p
  by_cases h : M.loW (e + p) < M.loW e
  · have E2 : Hid _ := M.add_hi1 e p h
    rw [← E1.out] at h
    generalize M.hiW e = x at *
    generalize M.loW e = y at *
    generalize M.hiW p = z at *
    generalize M.loW p = u at *
    go_enter Try.func9, Try.ntmps9
    go_wp2
    go_ret2
    exact ⟨ret2 E2.out E1.out, rfl⟩
  · have E2 : Hid _ := M.add_hi0 e p h
    have E3 : Hid (IntKind.u64.wrap (M.hiW (e + p)) = M.hiW (e + p)) := by show _ = _; rw [M.wrapU]; have := M.hiW_bd (e + p); omega
    rw [← E1.out] at h
    generalize M.hiW e = x at *
    generalize M.loW e = y at *
    generalize M.hiW p = z at *
    generalize M.loW p = u at *
    go_enter Try.func9, Try.ntmps9
    go_wp2
    go_ret2
    refine ⟨ret2 ?_ E1.out, rfl⟩
    exact (congrArg IntKind.u64.wrap E2.out).trans E3.out

end Go.Proofs.Qxb6631316a
