/-
  THE LEAVES: (*Full).distance, (*Full).advance, slices.BinarySearch at []int (its text walked, after the shelf's own walk), (*Full).next.
-/
import Derived.Test.Qxb6631256aRows
import Derived.Test.Qxb6631256aMath
import Derived.WalkKit
import Derived.WalkSpells
import Derived.Deep.LoopGhost
import Derived.Deep.Draws
import Derived.Lib.Walk
import Derived.Lib.SlicesSearch
namespace Go.Proofs.Qxb6631256a
open Go.RowKit Go.Lib
set_option linter.unusedVariables false

set_option maxHeartbeats 400000 in
theorem dist_any (rb : Nat) (s a b : Int) (w : World) (hc : w.cell? ⟨rb, 0, none⟩ = some (.int .i64 s)) (hs : 2 ≤ s) (hs' : s ≤ 65536) (ha : 0 ≤ a) (ha' : a < s) (hb : 0 ≤ b) (hb' : b < s) :
    Calls Try.prog 15 #[.pointer (some ⟨rb, 0, none⟩), .int .i64 a, .int .i64 b] w fun e w' => e = .returned (.int .i64 (M.dist s a b)) ∧ w' = w := by
  unfold M.dist
  by_cases h : a ≤ b
  · rw [if_pos h]
    go_enter Try.func15, Try.ntmps15
    go_wp2
    go_ret
    exact ⟨rfl, rfl⟩
  · rw [if_neg h]
    go_enter Try.func15, Try.ntmps15
    go_wp2
    go_ret
    exact ⟨rfl, rfl⟩

set_option maxHeartbeats 400000 in
theorem adv_any (rb : Nat) (s a j : Int) (w : World) (hc : w.cell? ⟨rb, 0, none⟩ = some (.int .i64 s)) (hs : 2 ≤ s) (hs' : s ≤ 65536) (ha : 0 ≤ a) (ha' : a < s) (hj : 0 ≤ j) (hj' : j < s) :
    Calls Try.prog 17 #[.pointer (some ⟨rb, 0, none⟩), .int .i64 a, .int .i64 j] w fun e w' => e = .returned (.int .i64 (M.adv s a j)) ∧ w' = w := by
  unfold M.adv
  by_cases h : s - a ≤ j
  · rw [if_pos h]
    go_enter Try.func17, Try.ntmps17
    go_wp2
    go_ret
    exact ⟨rfl, rfl⟩
  · rw [if_neg h]
    go_enter Try.func17, Try.ntmps17
    go_wp2
    go_ret
    exact ⟨rfl, rfl⟩

theorem cmpNaN_any (x : Int) (w : World) : Calls Try.prog 20 #[.int .i64 x] w fun e w' => e = .returned (.bool false) ∧ w' = w := by
  go_enter Try.func20, Try.ntmps20
  go_wp2
  go_ret
  exact ⟨by simp, rfl⟩

theorem slNaN_any (x : Int) (w : World) : Calls Try.prog 19 #[.int .i64 x] w fun e w' => e = .returned (.bool false) ∧ w' = w := by
  go_enter Try.func19, Try.ntmps19
  go_wp2
  go_ret
  exact ⟨by simp, rfl⟩

theorem less_any (x y : Int) (w : World) : Calls Try.prog 18 #[.int .i64 x, .int .i64 y] w fun e w' => e = .returned (.bool (decide (x < y))) ∧ w' = w := by
  go_enter Try.func18, Try.ntmps18
  go_wp2_with (go_at_call 20; refine (cmpNaN_any _ _).mono ?_; rintro e w' ⟨rfl, rfl⟩)
  go_ret
  exact ⟨rfl, rfl⟩


set_option maxHeartbeats 4000000 in
set_option maxRecDepth 1000000 in
/-- slices.BinarySearch over a row that is in order: the first place whose number is not below x, and whether x stands there. -/
theorem search_any (b off n c : Nat) (zs : List Int) (x : Int) (w : World) (hz : n ≤ zs.length) (hbig : n ≤ 65536) (hc : ∀ j, j < zs.length → w.cell? ⟨b, off + j, none⟩ = some (.int .i64 (zs.getD j 0)))
    (hs : ∀ a b, a ≤ b → b < n → zs.getD a 0 ≤ zs.getD b 0) :
    Calls Try.prog 16 #[.slice (some ⟨b, off, none⟩) n c, .int .i64 x] w fun e w' =>
      (∃ i : Nat, ∃ found : Bool, e = .returned (.tuple #[.int .i64 i, .bool found]) ∧ i ≤ n ∧ (∀ t, t < i → zs.getD t 0 < x) ∧ (∀ t, i ≤ t → t < n → x ≤ zs.getD t 0) ∧ (found = true → i < n ∧ zs.getD i 0 = x) ∧ (found = false → i < n → zs.getD i 0 ≠ x)) ∧ ∃ q, w' = w.drewN q := by
  have S : Aside (∀ a b, a ≤ b → b < n → zs.getD a 0 ≤ zs.getD b 0) := hs
  clear hs
  go_enter Try.func16, Try.ntmps16
  go_wp2
  go_loopg [7, 8] n (fun g s7 s8 wr => ∃ lo hi q : Nat, s7 = .int .i64 lo ∧ s8 = .int .i64 hi ∧ lo ≤ hi ∧ hi ≤ n ∧ hi - lo ≤ g ∧ wr = w.drewN q ∧ (∀ t, t < lo → zs.getD t 0 < x) ∧ (∀ t, hi ≤ t → t < n → x ≤ zs.getD t 0))
  case atStart => exact ⟨0, n, 0, rfl, rfl, Nat.zero_le _, Nat.le_refl _, by omega, rfl, fun t ht => absurd ht (Nat.not_lt_zero _), fun t h1 h2 => by omega⟩
  case round =>
    obtain ⟨lo, hi, q, rfl, rfl, hlh, hin, hg, rfl, h1, h2⟩ := hrel
    have I : Aside ((∀ t, t < lo → zs.getD t 0 < x) ∧ (∀ t, hi ≤ t → t < n → x ≤ zs.getD t 0)) := ⟨h1, h2⟩
    clear h1 h2
    by_cases hlt : lo < hi
    · have cm : w.cell? ⟨b, off + (lo + hi) / 2, none⟩ = some (.int .i64 (zs.getD ((lo + hi) / 2) 0)) := hc _ (by omega)
      clear hc
      generalize hy : zs.getD ((lo + hi) / 2) 0 = y at cm
      have Y : Aside (zs.getD ((lo + hi) / 2) 0 = y) := hy
      clear hy
      by_cases hyx : y < x
      · go_wp2_with (first | (go_at_call 18; refine (less_any _ _ _).mono ?_; rintro e w' ⟨rfl, rfl⟩) | (go_at_call 19; refine (slNaN_any _ _).mono ?_; rintro e w' ⟨rfl, rfl⟩))
        go_roundg (hi - ((lo + hi) / 2 + 1))
        case measure => omega
        case rel =>
          refine ⟨(lo + hi) / 2 + 1, hi, _, by rw [show ((lo : Int) + (hi : Int)) / 2 + 1 = (((lo + hi) / 2 + 1 : Nat) : Int) by omega], rfl, by omega, hin, Nat.le_refl _, rfl, fun t ht => ?_, I.out.2⟩
          have := S.out t ((lo + hi) / 2) (by omega) (by omega)
          rw [Y.out] at this
          omega
      · go_wp2_with (first | (go_at_call 18; refine (less_any _ _ _).mono ?_; rintro e w' ⟨rfl, rfl⟩) | (go_at_call 19; refine (slNaN_any _ _).mono ?_; rintro e w' ⟨rfl, rfl⟩))
        go_roundg ((lo + hi) / 2 - lo)
        case measure => omega
        case rel =>
          refine ⟨lo, (lo + hi) / 2, _, rfl, by rw [show ((lo : Int) + (hi : Int)) / 2 = (((lo + hi) / 2 : Nat) : Int) by omega], by omega, by omega, Nat.le_refl _, rfl, I.out.1, fun t ht htn => ?_⟩
          have := S.out ((lo + hi) / 2) t ht htn
          rw [Y.out] at this
          omega
    · have : hi = lo := by omega
      subst this
      by_cases hn : hi < n
      · have cl : w.cell? ⟨b, off + hi, none⟩ = some (.int .i64 (zs.getD hi 0)) := hc _ (by omega)
        clear hc
        generalize hy : zs.getD hi 0 = y at cl
        have Y : Aside (zs.getD hi 0 = y) := hy
        clear hy
        by_cases hyx : y = x
        · go_wp2_with (first | (go_at_call 18; refine (less_any _ _ _).mono ?_; rintro e w' ⟨rfl, rfl⟩) | (go_at_call 19; refine (slNaN_any _ _).mono ?_; rintro e w' ⟨rfl, rfl⟩))
          go_ret2
          refine ⟨⟨hi, true, ?_, hin, I.out.1, I.out.2, fun _ => ⟨hn, by rw [Y.out]; exact hyx⟩, fun h => (by cases h)⟩, _, rfl⟩
          first | rfl | simp [*]
        · go_wp2_with (first | (go_at_call 18; refine (less_any _ _ _).mono ?_; rintro e w' ⟨rfl, rfl⟩) | (go_at_call 19; refine (slNaN_any _ _).mono ?_; rintro e w' ⟨rfl, rfl⟩))
          go_ret2
          refine ⟨⟨hi, false, ?_, hin, I.out.1, I.out.2, fun h => (by cases h), fun _ _ => by rw [Y.out]; exact hyx⟩, _, rfl⟩
          first | rfl | simp [*]
      · clear hc
        go_wp2_with (first | (go_at_call 18; refine (less_any _ _ _).mono ?_; rintro e w' ⟨rfl, rfl⟩) | (go_at_call 19; refine (slNaN_any _ _).mono ?_; rintro e w' ⟨rfl, rfl⟩))
        go_ret2
        refine ⟨⟨hi, false, ?_, hin, I.out.1, I.out.2, fun h => (by cases h), fun _ h => absurd h hn⟩, _, rfl⟩
        first | rfl | simp [*]

end Go.Proofs.Qxb6631256a
