/-
  Index, ZZIndex, fitsInt64 and the two laws.
-/
import Derived.Test.Qxb6631316aWalks
namespace Go.Proofs.Qxb6631316a
open Go.RowKit
set_option linter.unusedVariables false

theorem tdiv_dvd {e l : Int} (hl : 1 ≤ l) (h : e % l = 0) : e.tdiv l = e / l ∧ e.tdiv l * l = e := by
  have hd : l ∣ e := Int.dvd_of_emod_eq_zero h
  have e1 : e.tdiv l = e / l := Int.tdiv_eq_ediv_of_dvd hd
  exact ⟨e1, by rw [e1]; exact Int.ediv_mul_cancel hd⟩

theorem tdiv_rest {e l : Int} (he : e < 0) (hl : 1 ≤ l) (h : e % l ≠ 0) : e.tdiv l - 1 = e / l ∧ e.tdiv l * l ≠ e ∧ e < e.tdiv l * l ∧ e.tdiv l * l ≤ 0 ∧ e ≤ e.tdiv l ∧ e.tdiv l ≤ 0 ∧ e < e.tdiv l := by
  have h3 := Int.emod_nonneg e (show l ≠ 0 by omega)
  have h4 := Int.emod_lt_of_pos e (show 0 < l by omega)
  have h5 := Int.mul_ediv_add_emod e l
  have hnd : ¬ l ∣ e := fun hd => h (Int.emod_eq_zero_of_dvd hd)
  have e1 : e.tdiv l = e / l + 1 := by
    rw [Int.tdiv_eq_ediv, if_neg (by simp [hnd]; omega), Int.sign_eq_one_of_pos (by omega)]
  have e2 : e.tdiv l * l = e - e % l + l := by
    rw [e1, Int.add_mul, Int.mul_comm (e / l) l]; omega
  have e3 : e / l < 0 := Int.ediv_neg_of_neg_of_pos he (by omega)
  have e4 : e ≤ e / l := by
    by_cases hh : e ≤ e / l
    · exact hh
    · have h6 : l * (e / l) ≤ e / l := by
        have : l * (e / l) ≤ 1 * (e / l) := Int.mul_le_mul_of_nonpos_right hl (by omega)
        omega
      have h7 : e < e / l + l := by omega
      -- e / l < e would make l * (e / l) + l > e fail
      have h8 : e / l + 1 ≤ e := by omega
      have h9 : l * (e / l + 1) ≤ e / l + 1 := by
        have : l * (e / l + 1) ≤ 1 * (e / l + 1) := Int.mul_le_mul_of_nonpos_right hl (by omega)
        omega
      rw [Int.mul_add, Int.mul_one] at h9
      omega
  refine ⟨by omega, by omega, by omega, ?_, by omega, by omega, by omega⟩
  have h10 : (e / l + 1) * l ≤ 0 := Int.mul_nonpos_of_nonpos_of_nonneg (by omega) (by omega)
  rw [e1]; exact h10


theorem index_any (e l : Int) (w : World) (h1 : -9223372036854775808 ≤ e) (h2 : e ≤ 9223372036854775807) (hl : 1 ≤ l) (hl' : l ≤ 9223372036854775807) :
    Calls Try.prog 11 #[.int .i64 e, .int .i64 l] w fun r w' => r = .returned (.int .i64 (e / l)) ∧ w' = w := by
  have hl0 : (l == 0) = false := by simp; omega
  by_cases he : e < 0
  · by_cases hm : e % l = 0
    · obtain ⟨t1, t2⟩ := tdiv_dvd hl hm
      have E : Hid (e.tdiv l = e / l) := t1
      have b1 : e.tdiv l * l ≤ e := by omega
      have b2 : e ≤ e.tdiv l * l := by omega
      clear t1 t2 hm
      go_enter Try.func11, Try.ntmps11
      go_wp2
      go_ret
      exact ⟨ret1 E.out, rfl⟩
    · obtain ⟨t1, t2, t3, t4, t5, t6, t7⟩ := tdiv_rest he hl hm
      have E : Hid (e.tdiv l - 1 = e / l) := t1
      clear t1 t2 hm
      go_enter Try.func11, Try.ntmps11
      go_wp2
      go_ret
      exact ⟨ret1 E.out, rfl⟩
  · go_enter Try.func11, Try.ntmps11
    go_wp2
    go_ret
    exact ⟨rfl, rfl⟩

theorem zz_any (e l : Int) (w : World) (h1 : -9223372036854775808 ≤ e) (h2 : e ≤ 9223372036854775807) (hl : 1 ≤ l) (hl' : l ≤ 9223372036854775807) :
    Calls Try.prog 5 #[.int .i64 e, .int .i64 l] w fun r w' => r = .returned (.int .i64 (e / l)) ∧ w' = w := by
  go_enter Try.func5, Try.ntmps5
  go_wp2_with fail
  refine (index_any e l _ h1 h2 hl hl').mono ?_
  rintro r w' ⟨rfl, hw⟩
  rw [hw]
  go_wp2
  go_ret
  exact ⟨rfl, rfl⟩

/-! ### the first law -/
set_option maxHeartbeats 400000 in
theorem floor_any (e l : Int) (w : World) (h1 : -9223372036854775808 ≤ e) (h2 : e ≤ 9223372036854775807) (hl' : l ≤ 9223372036854775807) :
    Calls Try.prog 3 #[.int .i64 e, .int .i64 l] w fun r w' => r = .returned (.bool true) ∧ w' = w := by
  by_cases hl : 1 ≤ l
  · have hr := M.floor_bd h1 h2 hl
    have hd := M.rem_is e l hl
    have E1 : Hid (M.hiW (e - e / l * l) = 0) := M.small_hi _ hd.1 (by omega)
    have E2 : Hid (M.loW (e - e / l * l) = e - e / l * l) := M.small_lo _ hd.1 (by omega)
    generalize hq : e / l = q at *
    have HQ : Hid (e / l = q) := hq
    clear hq
    go_enter Try.func3, Try.ntmps3
    go_wp2_with fail
    refine (zz_any e l _ h1 h2 hl hl').mono ?_
    rintro r w' ⟨rfl, hw⟩
    rw [hw, HQ.out]
    clear hw w'
    go_wp2_with fail
    refine (mul_any q l _ hr.1 hr.2 hl hl').mono ?_
    rintro r w' ⟨rfl, hw⟩
    rw [hw]
    clear hw w'
    go_wp2_with fail
    refine (wide_any e _ h1 h2).mono ?_
    rintro r w' ⟨rfl, hw⟩
    rw [hw]
    clear hw w'
    go_wp2_with fail
    refine (sub_any e (q * l) _).mono ?_
    rintro r w' ⟨rfl, hw⟩
    rw [hw, E1.out, E2.out]
    clear hw w'
    generalize e - q * l = d at hd
    go_wp2
    go_ret
    exact ⟨by simp, rfl⟩
  · go_enter Try.func3, Try.ntmps3
    go_wp2
    go_ret
    exact ⟨rfl, rfl⟩


/-! ### the second law -/
theorem mul_span {m l : Int} (hm : -9223372036854775808 ≤ m) (hm' : m ≤ 9223372036854775807) (hl : 1 ≤ l) (hl' : l ≤ 9223372036854775807) : -85070591730234615865843651857942052864 ≤ m * l ∧ m * l ≤ 85070591730234615865843651857942052864 := by
  by_cases h : m < 0
  · have := M.mul_range (A := -m) (B := l) (by omega) (by omega) (by omega) (by omega)
    rw [Int.neg_mul] at this
    omega
  · have := M.mul_range (A := m) (B := l) (by omega) (by omega) (by omega) (by omega)
    omega

theorem fits_any (t : Int) (w : World) (h1 : -85070591730234615865843651857942052864 - 9223372036854775808 ≤ t) (h2 : t ≤ 85070591730234615865843651857942052864 + 9223372036854775807) :
    Calls Try.prog 10 #[.int .u64 (M.hiW t), .int .u64 (M.loW t)] w fun r w' => (∃ b : Bool, r = .returned (.bool b) ∧ (b = true → -9223372036854775808 ≤ t ∧ t ≤ 9223372036854775807)) ∧ w' = w := by
  by_cases hA : 0 ≤ t ∧ t ≤ 18446744073709551615
  · have e1 : M.hiW t = 0 := by unfold M.hiW; omega
    have e2 : M.loW t = t := by unfold M.loW; omega
    rw [e1, e2]
    clear e1 e2
    obtain ⟨a1, a2⟩ := hA
    go_enter Try.func10, Try.ntmps10
    go_wp2
    go_ret
    exact ⟨⟨_, rfl, fun h => by have := of_decide_eq_true h; omega⟩, rfl⟩
  · by_cases hB : -18446744073709551616 ≤ t ∧ t < 0
    · have e1 : M.hiW t = 18446744073709551615 := by unfold M.hiW; omega
      have e2 : M.loW t = t + 18446744073709551616 := by unfold M.loW; omega
      rw [e1, e2]
      clear e1 e2
      obtain ⟨u, hu⟩ : ∃ u, u = t + 18446744073709551616 := ⟨_, rfl⟩
      rw [← hu]
      have HU : Hid (u = t + 18446744073709551616) := hu
      have b1 : 0 ≤ u := by omega
      have b2 : u ≤ 18446744073709551615 := by omega
      clear hu hA
      obtain ⟨a1, a2⟩ := hB
      go_enter Try.func10, Try.ntmps10
      go_wp2
      go_ret
      exact ⟨⟨_, rfl, fun h => by have := of_decide_eq_true h; have := HU.out; omega⟩, rfl⟩
    · have e1 : (M.hiW t == 0) = false := by simp; unfold M.hiW; omega
      have e2 : (M.hiW t == 18446744073709551615) = false := by simp; unfold M.hiW; omega
      generalize M.hiW t = x at *
      generalize M.loW t = y at *
      go_enter Try.func10, Try.ntmps10
      go_wp2
      go_ret
      exact ⟨⟨false, rfl, fun h => by cases h⟩, rfl⟩

theorem wrap_lo (t : Int) (h1 : -9223372036854775808 ≤ t) (h2 : t ≤ 9223372036854775807) : wrap64 (M.loW t) = t := by
  unfold wrap64 M.loW; omega

set_option maxHeartbeats 400000 in
theorem shift_any (e l m : Int) (w : World) (h1 : -9223372036854775808 ≤ e) (h2 : e ≤ 9223372036854775807) (hl' : l ≤ 9223372036854775807) (h3 : -9223372036854775808 ≤ m) (h4 : m ≤ 9223372036854775807) :
    Calls Try.prog 4 #[.int .i64 e, .int .i64 l, .int .i64 m] w fun r w' => r = .returned (.bool true) ∧ w' = w := by
  by_cases hl : 1 ≤ l
  · have hs := mul_span h3 h4 hl hl'
    go_enter Try.func4, Try.ntmps4
    go_wp2_with fail
    refine (mul_any m l _ h3 h4 hl hl').mono ?_
    rintro r w' ⟨rfl, hw⟩
    rw [hw]
    clear hw w'
    go_wp2_with fail
    refine (wide_any e _ h1 h2).mono ?_
    rintro r w' ⟨rfl, hw⟩
    rw [hw]
    clear hw w'
    go_wp2_with fail
    refine (add_any e (m * l) _).mono ?_
    rintro r w' ⟨rfl, hw⟩
    rw [hw]
    clear hw w'
    go_wp2_with fail
    refine (fits_any (e + m * l) _ (by omega) (by omega)).mono ?_
    rintro r w' ⟨⟨b, rfl, hb⟩, hw⟩
    rw [hw]
    clear hw w'
    cases b with
    | false =>
      go_wp2
      go_ret
      exact ⟨rfl, rfl⟩
    | true =>
      obtain ⟨b1, b2⟩ := hb rfl
      have E1 : Hid (wrap64 (M.loW (e + m * l)) = e + m * l) := wrap_lo _ b1 b2
      have E2 : Hid ((e + m * l) / l = e / l + m) := Int.add_mul_ediv_right e m (by omega)
      have hq := M.floor_bd b1 b2 hl
      rw [E2.out] at hq
      have hr := M.floor_bd h1 h2 hl
      clear hb
      generalize e + m * l = t at *
      generalize hqq : e / l = q at *
      have HQ : Hid (e / l = q) := hqq
      clear hqq
      go_wp2_with fail
      rw [E1.out]
      refine (zz_any e l _ h1 h2 hl hl').mono ?_
      rintro r w' ⟨rfl, hw⟩
      rw [hw, HQ.out]
      clear hw w'
      go_wp2_with fail
      refine (zz_any t l _ b1 b2 hl hl').mono ?_
      rintro r w' ⟨rfl, hw⟩
      rw [hw, E2.out]
      clear hw w'
      go_wp2
      go_ret
      exact ⟨by simp, rfl⟩
  · go_enter Try.func4, Try.ntmps4
    go_wp2
    go_ret
    exact ⟨rfl, rfl⟩

end Go.Proofs.Qxb6631316a
