/-
  (*Full).next by its callees' contracts.
-/
import Derived.Test.Qxb6631256aLeaf
namespace Go.Proofs.Qxb6631256a
open Go.RowKit Go.Lib
set_option linter.unusedVariables false

theorem sorted_getD {J : List Int} (h : J.Pairwise (· < ·)) : ∀ a b, a ≤ b → b < J.length → J.getD a 0 ≤ J.getD b 0 := by
  intro a b hab hb
  have get : ∀ u (hu : u < J.length), J.getD u 0 = J[u] := fun u hu => by rw [List.getD_eq_getElem?_getD, List.getElem?_eq_getElem hu]; rfl
  rcases Nat.lt_or_eq_of_le hab with h1 | rfl
  · have := List.pairwise_iff_getElem.1 h a b (by omega) hb h1
    rw [get a (by omega), get b hb]; omega
  · exact Int.le_refl _

theorem valid_first {s : Int} {J : List Int} (hv : M.Valid s J) : 0 < J.length ∧ J.getD 0 0 = 1 := by
  have hl : 0 < J.length := by
    cases J with
    | nil => have := hv.1; simp at this
    | cons x xs => simp
  refine ⟨hl, ?_⟩
  obtain ⟨t, ht, h1⟩ := List.getElem_of_mem hv.1
  have h0 := sorted_getD hv.2.2 0 t (Nat.zero_le _) ht
  have get : ∀ u (hu : u < J.length), J.getD u 0 = J[u] := fun u hu => by rw [List.getD_eq_getElem?_getD, List.getElem?_eq_getElem hu]; rfl
  rw [get t ht, h1] at h0
  have := (hv.2.1 (J.getD 0 0) (by rw [get 0 hl]; exact List.getElem_mem _)).1
  omega

theorem valid_at {s : Int} {J : List Int} (hv : M.Valid s J) (t : Nat) (ht : t < J.length) : 1 ≤ J.getD t 0 ∧ J.getD t 0 < s := by
  rw [List.getD_eq_getElem?_getD, List.getElem?_eq_getElem ht]
  exact hv.2.1 _ (List.getElem_mem _)

set_option maxHeartbeats 1000000 in
theorem next_any (rb jb off c : Nat) (J : List Int) (s a b : Int) (w : World) (hv : M.Valid s J) (hn : J.length ≤ 65536)
    (hc0 : w.cell? ⟨rb, 0, none⟩ = some (.int .i64 s)) (hc1 : w.cell? ⟨rb, 1, none⟩ = some (.slice (some ⟨jb, off, none⟩) J.length c))
    (hc : ∀ j, j < J.length → w.cell? ⟨jb, off + j, none⟩ = some (.int .i64 (J.getD j 0)))
    (hs : 2 ≤ s) (hs' : s ≤ 65536) (ha : 0 ≤ a) (ha' : a < s) (hb : 0 ≤ b) (hb' : b < s) (hne : a ≠ b) :
    Calls Try.prog 14 #[.pointer (some ⟨rb, 0, none⟩), .int .i64 a, .int .i64 b] w fun e w' => (∃ j, M.IsBest J (M.dist s a b) j ∧ e = .returned (.int .i64 (M.adv s a j))) ∧ ∃ q, w' = w.drewN q := by
  have hd := M.dist_pos ha ha' hb hb' hne
  have H1 : Hid (J.getD 0 0 = 1) := (valid_first hv).2
  have hl := (valid_first hv).1
  have V : Hid (M.Valid s J) := hv
  have HC : Hid (∀ j, j < J.length → w.cell? ⟨jb, off + j, none⟩ = some (.int .i64 (J.getD j 0))) := hc
  clear hc hv hne
  go_enter Try.func14, Try.ntmps14
  go_wp2_with (go_at_call 15; refine (dist_any rb s a b _ hc0 hs hs' ha ha' hb hb').mono ?_; rintro e w' ⟨rfl, rfl⟩)
  refine (search_any jb off J.length c J (M.dist s a b) _ (Nat.le_refl _) hn HC.out (sorted_getD V.out.2.2)).mono ?_
  rintro e w' ⟨⟨i, found, rfl, hi, h1, h2, h3, h4⟩, q, rfl⟩
  have X : Hid ((∀ t, t < i → J.getD t 0 < M.dist s a b) ∧ (∀ t, i ≤ t → t < J.length → M.dist s a b ≤ J.getD t 0)) := ⟨h1, h2⟩
  clear h1 h2
  cases found with
  | true =>
    obtain ⟨hin, hj⟩ := h3 rfl
    have HB : Hid (M.IsBest J (M.dist s a b) (J.getD i 0)) := M.isBest_at V.out.2.2 i hin (by omega) (fun h => by
      have h5 := List.pairwise_iff_getElem.1 V.out.2.2 i (i + 1) hin h (by omega)
      rw [List.getD_eq_getElem?_getD, List.getElem?_eq_getElem hin] at hj
      rw [List.getD_eq_getElem?_getD, List.getElem?_eq_getElem h]
      simp at hj ⊢; omega)
    have hx := HC.out i hin
    have hvb := valid_at V.out i hin
    generalize J.getD i 0 = y at hx HB hvb hj
    clear hj h3 h4
    go_wp2_with (go_at_call 17; refine (adv_any rb s a y _ (by simpa using hc0) hs hs' ha ha' (by omega) (by omega)).mono ?_; rintro e w' ⟨rfl, rfl⟩)
    go_ret
    exact ⟨⟨y, HB.out, rfl⟩, _, rfl⟩
  | false =>
    have hi0 : 1 ≤ i := by
      rcases Nat.eq_zero_or_pos i with h0 | h0
      · exfalso
        subst h0
        have h5 := X.out.2 0 (Nat.le_refl _) hl
        have h6 := h4 rfl hl
        have h7 := H1.out
        omega
      · exact h0
    have hin : i - 1 < J.length := by omega
    have HB : Hid (M.IsBest J (M.dist s a b) (J.getD (i - 1) 0)) := M.isBest_at V.out.2.2 (i - 1) hin (by have := X.out.1 (i - 1) (by omega); omega) (fun h => by
      have e : i - 1 + 1 = i := by omega
      rw [e] at h ⊢
      have h5 := X.out.2 i (Nat.le_refl _) h
      have h6 := h4 rfl h
      omega)
    have hx := HC.out (i - 1) hin
    have hvb := valid_at V.out (i - 1) hin
    generalize J.getD (i - 1) 0 = y at hx HB hvb
    clear h3 h4
    go_wp2_with (go_at_call 17; refine (adv_any rb s a y _ (by simpa using hc0) hs hs' ha ha' (by omega) (by omega)).mono ?_; rintro e w' ⟨rfl, rfl⟩)
    go_ret
    exact ⟨⟨y, HB.out, rfl⟩, _, rfl⟩

end Go.Proofs.Qxb6631256a
