/-
  zzValidJumps, the two bounds on lengths, zzHas, zzEqualInts, ZZnewFull.
-/
import Derived.Test.Qxb6631256aRoute
import Derived.Deep.QuietTactic
import Derived.BigQuiet
namespace Go.Proofs.Qxb6631256a
open Go.RowKit
set_option linter.unusedVariables false

theorem valid_empty (s : Int) (a : Option Addr) (c : Nat) (w : World) :
    Calls Try.prog 6 #[.int .i64 s, .slice a 0 c] w fun e w' => e = .returned (.bool false) ∧ w' = w := by
  go_enter Try.func6, Try.ntmps6
  go_wp2
  go_ret
  exact ⟨rfl, rfl⟩

theorem take_getD (zs : List Int) (n t : Nat) (h : t < n) : (zs.take n).getD t 0 = zs.getD t 0 := by
  simp [List.getD_eq_getElem?_getD, h]

theorem valid_take {s : Int} {zs : List Int} {n : Nat} (hz : n ≤ zs.length) (h0 : 1 ≤ n) (h1 : zs.getD 0 0 = 1) (h2 : ∀ i, i + 1 < n → zs.getD i 0 < zs.getD (i + 1) 0) (h3 : zs.getD (n - 1) 0 < s) : M.Valid s (zs.take n) := by
  have hl : (zs.take n).length = n := by rw [List.length_take]; omega
  refine M.valid_of (by omega) ?_ ?_ ?_
  · rw [take_getD _ _ _ (by omega)]; exact h1
  · intro i hi
    rw [hl] at hi
    rw [take_getD _ _ _ (by omega), take_getD _ _ _ (by omega)]; exact h2 i hi
  · rw [hl, take_getD _ _ _ (by omega)]; exact h3

set_option maxHeartbeats 1000000 in
theorem valid_any (s : Int) (b off n c : Nat) (zs : List Int) (w : World) (hz : n ≤ zs.length) (h0 : 1 ≤ n) (hn : n ≤ 65536)
    (hc : ∀ j, j < zs.length → w.cell? ⟨b, off + j, none⟩ = some (.int .i64 (zs.getD j 0))) :
    Calls Try.prog 6 #[.int .i64 s, .slice (some ⟨b, off, none⟩) n c] w fun e w' => (∃ r : Bool, e = .returned (.bool r) ∧ (r = true → M.Valid s (zs.take n))) ∧ ∃ q, w' = w.drewN q := by
  have HC : Hid (∀ j, j < zs.length → w.cell? ⟨b, off + j, none⟩ = some (.int .i64 (zs.getD j 0))) := hc
  have c0 : w.cell? ⟨b, off, none⟩ = some (.int .i64 (zs.getD 0 0)) := hc 0 (by omega)
  clear hc
  have hn0 : ((n : Int) == 0) = false := by simp; omega
  by_cases h1 : zs.getD 0 0 = 1
  · rw [h1] at c0
    have H1 : Hid (zs.getD 0 0 = 1) := h1
    clear h1
    go_enter Try.func6, Try.ntmps6
    go_wp2
    go_loopw [5] (fun i wr => ∃ k q : Nat, 1 ≤ k ∧ k ≤ n ∧ i = .int .i64 k ∧ wr = w.drewN q ∧ Hid (∀ t, t + 1 < k → zs.getD t 0 < zs.getD (t + 1) 0)) (fun i _ => n - (intOf i).toNat)
    case atStart => exact ⟨1, 0, Nat.le_refl _, h0, rfl, rfl, fun t ht => by omega⟩
    case round =>
      obtain ⟨k, q, hk1, hk, rfl, rfl, HT⟩ := hrel
      by_cases hlt : k < n
      · have ck : w.cell? ⟨b, off + k, none⟩ = some (.int .i64 (zs.getD k 0)) := HC.out k (by omega)
        have cj : w.cell? ⟨b, off + (k - 1), none⟩ = some (.int .i64 (zs.getD (k - 1) 0)) := HC.out (k - 1) (by omega)
        have HK : Hid (zs.getD (k - 1) 0 < zs.getD k 0 → ∀ t, t + 1 < k + 1 → zs.getD t 0 < zs.getD (t + 1) 0) := by
          intro h t ht
          by_cases ht' : t + 1 < k
          · exact HT.out t ht'
          · obtain rfl : t = k - 1 := by omega
            have e : k - 1 + 1 = k := by omega
            rw [e]; exact h
        generalize zs.getD k 0 = y at ck HK
        generalize zs.getD (k - 1) 0 = x at cj HK
        by_cases hyx : y ≤ x
        · go_wp2
          go_quiet (fail)
          go_wp2
          go_ret
          exact ⟨⟨false, rfl, fun h => by cases h⟩, q + nq, by simp⟩
        · go_wp2
          go_quiet (fail)
          go_wp2
          go_roundw
          case rel => exact ⟨k + 1, _, by omega, by omega, by go_num, rfl, HK.out (by omega)⟩
          case measure => simp [intOf]; omega
      · obtain rfl : k = n := by omega
        have cj : w.cell? ⟨b, off + (k - 1), none⟩ = some (.int .i64 (zs.getD (k - 1) 0)) := HC.out (k - 1) (by omega)
        have HF : Hid (zs.getD (k - 1) 0 < s → M.Valid s (zs.take k)) := fun h => valid_take hz h0 H1.out HT.out h
        generalize zs.getD (k - 1) 0 = x at cj HF
        go_wp2
        go_ret
        exact ⟨⟨decide (x < s), rfl, fun h => HF.out (by simpa using h)⟩, _, rfl⟩
  · have h1' : (zs.getD 0 0 == 1) = false := by simpa using h1
    generalize zs.getD 0 0 = y at c0 h1'
    go_enter Try.func6, Try.ntmps6
    go_wp2
    go_ret
    exact ⟨⟨false, rfl, fun h => by cases h⟩, 0, rfl⟩


/-! ### zzHas -/
set_option maxHeartbeats 1000000 in
theorem has_any (b off c : Nat) (J : List Int) (x : Int) (w : World) (hn : J.length ≤ 65536) (hs : ∀ a b, a ≤ b → b < J.length → J.getD a 0 ≤ J.getD b 0) (hx : x ∈ J)
    (hc : ∀ j, j < J.length → w.cell? ⟨b, off + j, none⟩ = some (.int .i64 (J.getD j 0))) :
    Calls Try.prog 13 #[.slice (some ⟨b, off, none⟩) J.length c, .int .i64 x] w fun e w' => e = .returned (.bool true) ∧ w' = w := by
  have S : Hid (∀ a b, a ≤ b → b < J.length → J.getD a 0 ≤ J.getD b 0) := hs
  have HC : Hid (∀ j, j < J.length → w.cell? ⟨b, off + j, none⟩ = some (.int .i64 (J.getD j 0))) := hc
  have HX : Hid (∃ t, t < J.length ∧ J.getD t 0 = x) := by
    obtain ⟨t, ht, h⟩ := List.getElem_of_mem hx
    exact ⟨t, ht, by rw [List.getD_eq_getElem?_getD, List.getElem?_eq_getElem ht]; exact h⟩
  clear hs hc hx
  go_enter Try.func13, Try.ntmps13
  go_wp2
  go_loopg [5, 6] J.length (fun g s5 s6 wr => ∃ lo hi : Nat, s5 = .int .i64 lo ∧ s6 = .int .i64 hi ∧ lo ≤ hi ∧ hi ≤ J.length ∧ hi - lo ≤ g ∧ wr = w ∧ Hid ((∀ t, t < lo → J.getD t 0 < x) ∧ (∀ t, hi ≤ t → t < J.length → x ≤ J.getD t 0)))
  case atStart => exact ⟨0, J.length, rfl, rfl, Nat.zero_le _, Nat.le_refl _, by omega, rfl, fun t ht => absurd ht (Nat.not_lt_zero _), fun t h1 h2 => by omega⟩
  case round =>
    obtain ⟨lo, hi, rfl, rfl, hlh, hin, hg, rfl, I⟩ := hrel
    by_cases hlt : lo < hi
    · have cm : wr.cell? ⟨b, off + (lo + (hi - lo) / 2), none⟩ = some (.int .i64 (J.getD (lo + (hi - lo) / 2) 0)) := HC.out _ (by omega)
      generalize hy : J.getD (lo + (hi - lo) / 2) 0 = y at cm
      have Y : Hid (J.getD (lo + (hi - lo) / 2) 0 = y) := hy
      clear hy
      by_cases hyx : y < x
      · go_wp2
        go_roundg (hi - (lo + (hi - lo) / 2 + 1))
        case measure => omega
        case rel =>
          refine ⟨lo + (hi - lo) / 2 + 1, hi, by rw [show ((lo : Int) + ((hi : Int) - (lo : Int)) / 2 + 1) = ((lo + (hi - lo) / 2 + 1 : Nat) : Int) by omega], rfl, by omega, hin, Nat.le_refl _, rfl, fun t ht => ?_, I.out.2⟩
          have := S.out t (lo + (hi - lo) / 2) (by omega) (by omega)
          rw [Y.out] at this
          omega
      · go_wp2
        go_roundg (lo + (hi - lo) / 2 - lo)
        case measure => omega
        case rel =>
          refine ⟨lo, lo + (hi - lo) / 2, rfl, by rw [show ((lo : Int) + ((hi : Int) - (lo : Int)) / 2) = ((lo + (hi - lo) / 2 : Nat) : Int) by omega], by omega, by omega, Nat.le_refl _, rfl, I.out.1, fun t ht htn => ?_⟩
          have := S.out (lo + (hi - lo) / 2) t ht htn
          rw [Y.out] at this
          omega
    · obtain rfl : hi = lo := by omega
      have hpl : hi < J.length ∧ J.getD hi 0 = x := by
        obtain ⟨t, ht, h⟩ := HX.out
        have h1 : ¬ t < hi := fun hh => by have := I.out.1 t hh; omega
        have h2 := S.out hi t (by omega) ht
        have h3 := I.out.2 hi (Nat.le_refl _) (by omega)
        exact ⟨by omega, by omega⟩
      obtain ⟨hl, hx⟩ := hpl
      have cl : wr.cell? ⟨b, off + hi, none⟩ = some (.int .i64 x) := by rw [← hx]; exact HC.out _ hl
      clear hx
      go_wp2
      go_ret
      exact ⟨by simp, rfl⟩

/-! ### zzEqualInts: of two rows that hold the same numbers: true -/
set_option maxHeartbeats 1000000 in
theorem equal_any (b1 o1 c1 b2 o2 c2 : Nat) (L : List Int) (w : World) (hn : L.length ≤ 65536)
    (hc : ∀ j, j < L.length → w.cell? ⟨b1, o1 + j, none⟩ = some (.int .i64 (L.getD j 0))) (hd : ∀ j, j < L.length → w.cell? ⟨b2, o2 + j, none⟩ = some (.int .i64 (L.getD j 0))) :
    Calls Try.prog 11 #[.slice (some ⟨b1, o1, none⟩) L.length c1, .slice (some ⟨b2, o2, none⟩) L.length c2] w fun e w' => e = .returned (.bool true) ∧ ∃ q, w' = w.drewN q := by
  have HC : Hid (∀ j, j < L.length → w.cell? ⟨b1, o1 + j, none⟩ = some (.int .i64 (L.getD j 0))) := hc
  have HD : Hid (∀ j, j < L.length → w.cell? ⟨b2, o2 + j, none⟩ = some (.int .i64 (L.getD j 0))) := hd
  clear hc hd
  generalize L.length = n at *
  go_enter Try.func11, Try.ntmps11
  go_wp2
  go_loopw [5] (fun i wr => ∃ k q : Nat, k ≤ n ∧ i = .int .i64 k ∧ wr = w.drewN q) (fun i _ => n - (intOf i).toNat)
  case atStart => exact ⟨0, 0, Nat.zero_le _, rfl, rfl⟩
  case round =>
    obtain ⟨k, q, hk, rfl, rfl⟩ := hrel
    by_cases hlt : k < n
    · have ck := HC.out k hlt
      have cj := HD.out k hlt
      generalize L.getD k 0 = y at ck cj
      go_wp2
      go_quiet (fail)
      go_wp2
      go_roundw
      case rel => exact ⟨k + 1, q + nq, by omega, by go_num, by simp⟩
      case measure => simp [intOf]; omega
    · go_wp2
      go_ret
      exact ⟨rfl, _, rfl⟩

/-! ### the bounds on the lengths -/
theorem bytes5_any (s : Int) (a : Option Addr) (n c : Nat) (f t k : Int) (w : World) (hn : n ≤ 1048576) :
    Calls Try.prog 5 #[.int .i64 s, .slice a n c, .int .i64 f, .int .i64 t, .int .i64 k] w fun e w' => e = .returned (.bool true) ∧ w' = w := by
  go_enter Try.func5, Try.ntmps5
  go_wp2
  go_ret
  exact ⟨rfl, rfl⟩

theorem bytes12_any (s : Int) (a : Option Addr) (n c : Nat) (f t k : Int) (w : World) (hn : n ≤ 1048576) :
    Calls Try.prog 12 #[.int .i64 s, .slice a n c, .int .i64 f, .int .i64 t, .int .i64 k] w fun e w' => e = .returned (.bool true) ∧ w' = w := by
  go_enter Try.func12, Try.ntmps12
  go_wp2
  go_ret
  exact ⟨rfl, rfl⟩

theorem bytes5_no (s : Int) (a : Option Addr) (n c : Nat) (f t k : Int) (w : World) (hn : ¬ n ≤ 1048576) :
    Calls Try.prog 5 #[.int .i64 s, .slice a n c, .int .i64 f, .int .i64 t, .int .i64 k] w fun e w' => e = .returned (.bool false) ∧ w' = w := by
  go_enter Try.func5, Try.ntmps5
  go_wp2
  go_ret
  exact ⟨rfl, rfl⟩

theorem bytes12_no (s : Int) (a : Option Addr) (n c : Nat) (f t k : Int) (w : World) (hn : ¬ n ≤ 1048576) :
    Calls Try.prog 12 #[.int .i64 s, .slice a n c, .int .i64 f, .int .i64 t, .int .i64 k] w fun e w' => e = .returned (.bool false) ∧ w' = w := by
  go_enter Try.func12, Try.ntmps12
  go_wp2
  go_ret
  exact ⟨rfl, rfl⟩

/-! ### ZZnewFull -/
theorem full_any (s : Int) (v : Value) (jb n c : Nat) (w : World) :
    Calls Try.prog 8 #[.int .i64 s, .slice (some ⟨jb, 0, none⟩) n c] w fun e w' => e = .returned (.pointer (some ⟨w.heap.size, 0, none⟩)) ∧ w' = w.alloc (.cells #[.int .i64 s, .slice (some ⟨jb, 0, none⟩) n c] 33) := by
  go_enter Try.func8, Try.ntmps8
  go_wp2
  go_ret
  exact ⟨rfl, rfl⟩

end Go.Proofs.Qxb6631256a
