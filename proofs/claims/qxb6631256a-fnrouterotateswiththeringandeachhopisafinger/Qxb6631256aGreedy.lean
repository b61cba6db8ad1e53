/-
  zzGreedyPath: two loops, one within the other.
-/
import Derived.Test.Qxb6631256aSmall
namespace Go.Proofs.Qxb6631256a
open Go.RowKit
set_option linter.unusedVariables false

theorem one_new (w : World) (x : Int) (t : TypeId) : ∀ (j : Nat) (u : Value), [Value.int .i64 x][j]? = some u → (w.alloc (.cells #[.int .i64 x] t)).cell? ((⟨w.heap.size, 0, none⟩ : Addr).add j) = some u := by
  intro j u hj
  match j, hj with
  | 0, hj => simp at hj; subst hj; simp [Addr.add]
theorem one_int (x : Int) : ∀ u ∈ [Value.int .i64 x], u.oneCell' = true := by
  intro u hu; simp at hu; subst hu; rfl

set_option maxHeartbeats 4000000 in
set_option maxRecDepth 1000000 in
theorem greedy_any (jb off c : Nat) (J : List Int) (s a b : Int) (w : World) (hv : M.Valid s J) (hn : J.length ≤ 65536) (hjb : jb < w.heap.size)
    (hc : ∀ j, j < J.length → w.cell? ⟨jb, off + j, none⟩ = some (.int .i64 (J.getD j 0)))
    (hs : 2 ≤ s) (hs' : s ≤ 65536) (ha : 0 ≤ a) (ha' : a < s) (hb : 0 ≤ b) (hb' : b < s) :
    Calls Try.prog 10 #[.int .i64 s, .slice (some ⟨jb, off, none⟩) J.length c, .int .i64 a, .int .i64 b] w fun e w' =>
      ∃ v, e = .returned v ∧ w'.ownsRow w.heap.size 3 1 v (M.path J s a b).length ((M.path J s a b).map (Value.int .i64)) ∧ Below w.heap.size w w' := by
  obtain ⟨i0, hi, hz0, hz1, hz2⟩ := info_parts Try.info3
  have V : Hid (M.Valid s J) := hv
  have HC : Hid (∀ j, j < J.length → w.cell? ⟨jb, off + j, none⟩ = some (.int .i64 (J.getD j 0))) := hc
  have hl := (valid_first hv).1
  have H1 : Hid (J.getD 0 0 = 1) := (valid_first hv).2
  have hdb := M.dist_bd ha ha' hb hb'
  have HD : Hid (M.dist s a b = if b - a < 0 then b - a + s else b - a) := by
    show M.dist s a b = _
    unfold M.dist; split <;> split <;> omega
  clear hc hv
  by_cases hlt0 : b - a < 0
  all_goals
    rw [Hid] at HD
    simp only [hlt0, if_true, if_false] at HD
    have HD' := HD
    have HDD : Hid (M.dist s a b = _) := HD
    clear HD HD'
    go_enter Try.func10, Try.ntmps10
    go_wp2
    go_loopw [9, 10, 11, 12] (fun r v p i wr => ∃ (L : List Int) (rem pos : Int) (k : Nat), i = .int .i64 ((k : Int) - 1) ∧ r = .int .i64 rem ∧ p = .int .i64 pos ∧ k ≤ J.length ∧ 0 ≤ rem ∧ rem < s ∧ 0 ≤ pos ∧ pos < s ∧ Hid (k < J.length → rem < J.getD k 0)
        ∧ Hid (L ++ M.walkP s pos (M.hops J rem) = M.path J s a b) ∧ wr.ownsRow w.heap.size 3 1 v (L.length + 1) ((L ++ [pos]).map (Value.int .i64)) ∧ Below w.heap.size w wr)
      (fun _ _ _ i _ => (intOf i + 1).toNat)
    case atStart =>
      refine ⟨[], M.dist s a b, a, J.length, rfl, ?_, rfl, Nat.le_refl _, hdb.1, hdb.2, ha, ha', fun h => absurd h (Nat.lt_irrefl _), rfl, ?_, (Below.refl _ _).alloc (Nat.le_refl _) _⟩
      · rw [HDD.out]
      · exact World.ownsRow_lit (base := w.heap.size) (size := 1) w #[.int .i64 a] 1 (Nat.le_refl _) (by decide) rfl
    case round =>
      obtain ⟨L, rem, pos, k, hu, rfl, rfl, hk, hr0, hr1, hp0, hp1, HK, HL, hown, hnx⟩ := hrel
      cases k with
      | zero =>
        have e : ((0 : Nat) : Int) - 1 = -1 := by omega
        rw [e] at hu; subst hu
        go_wp2
        go_ret
        refine ⟨_, rfl, ?_, hnx⟩
        have h0 : rem ≤ 0 := by have h1 := HK.out hl; have h2 := H1.out; omega
        have h3 := HL.out
        rw [M.hops_zero J h0] at h3
        rw [← h3]
        simpa [M.walkP] using hown
      | succ m =>
        have e : ((m + 1 : Nat) : Int) - 1 = (m : Int) := by omega
        rw [e] at hu; subst hu
        have hvb := valid_at V.out m (by omega)
        have HY := HC.out m (by omega)
        have HB : Hid (∀ rem, J.getD m 0 ≤ rem → (m + 1 < J.length → rem < J.getD (m + 1) 0) → M.IsBest J rem (J.getD m 0)) := fun rem h1 h2 => M.isBest_at V.out.2.2 m (by omega) h1 h2
        obtain ⟨y, hy⟩ : ∃ y, y = J.getD m 0 := ⟨_, rfl⟩
        have HM : Hid (J.getD m 0 = y) := hy.symm
        rw [← hy] at hvb HY HB
        clear hy
        go_wp2
        go_loopw [9, 10, 11] (fun r v p wr => ∃ (L : List Int) (rem pos : Int), r = .int .i64 rem ∧ p = .int .i64 pos ∧ 0 ≤ rem ∧ rem < s ∧ 0 ≤ pos ∧ pos < s ∧ Hid (m + 1 < J.length → rem < J.getD (m + 1) 0)
            ∧ Hid (L ++ M.walkP s pos (M.hops J rem) = M.path J s a b) ∧ wr.ownsRow w.heap.size 3 1 v (L.length + 1) ((L ++ [pos]).map (Value.int .i64)) ∧ Below w.heap.size w wr)
          (fun r _ _ _ => (intOf r).toNat)
        case atStart => exact ⟨L, rem, pos, rfl, rfl, hr0, hr1, hp0, hp1, HK, HL, hown, hnx⟩
        case round =>
          clear hr0 hr1 hp0 hp1 HK HL hown hnx
          obtain ⟨L, rem, pos, rfl, rfl, hr0, hr1, hp0, hp1, HK, HL, hown, hnx⟩ := hrel
          have cy : wr.cell? ⟨jb, off + m, none⟩ = some (.int .i64 y) := (hnx.cell (by exact hjb)).trans HY
          by_cases hyr : y ≤ rem
          · have hsz := hnx.size
            have HS : Hid (M.hops J rem = y :: M.hops J (rem - y)) := M.hops_step V.out (by omega) (HB.out rem hyr HK.out)
            have hLl : L.length + 1 ≤ 65536 := by
              have h1 := congrArg List.length HL.out
              rw [List.length_append, M.walkP_len] at h1
              have h2 := M.path_len J s a b
              omega
            have HK' : Hid (m + 1 < J.length → rem - y < J.getD (m + 1) 0) := fun h => by have := HK.out h; omega
            clear HK
            by_cases hps : s ≤ pos + y
            · have HA : Hid (M.adv s pos y = pos + y - s) := by show M.adv s pos y = _; unfold M.adv; rw [if_pos (by omega)]; omega
              go_wp2_with (at_builtin; refine wpList_append_own _ rfl (.tmp 55) (.tmp 57) 22 rfl w.heap.size 3 i0 (.int .i64 0) 1 8 Try.underlying22 hi hz0 hz1 hz2 rfl (by decide) _ _ _ rfl (hown.alloc _) ⟨wr.heap.size, 0, none⟩ 1 1 [.int .i64 (pos + y - s)] rfl rfl (one_new _ _ _) (one_int _) (by unfold maxLen; omega) (by omega) (by simp; omega) ?_; intro v' w2 hown2 hgrow _)
              have hbel : Below w.heap.size w w2 := (hnx.alloc hsz _).grown hgrow (by simp; omega) (fun j hj => (hown.lt j hj).1)
              clear hgrow hnx hown cy
              go_wp2
              go_roundw
              case rel =>
                refine ⟨L ++ [pos], rem - y, pos + y - s, rfl, rfl, by omega, by omega, by omega, by omega, HK', ?_, ?_, hbel⟩
                · have h1 := HL.out
                  rw [HS.out, M.walkP, HA.out] at h1
                  show (L ++ [pos]) ++ _ = _
                  rw [List.append_assoc]; exact h1
                · simpa using hown2
              case measure => simp [intOf]; omega
            · have HA : Hid (M.adv s pos y = pos + y) := by show M.adv s pos y = _; unfold M.adv; rw [if_neg (by omega)]
              go_wp2_with (at_builtin; refine wpList_append_own _ rfl (.tmp 55) (.tmp 57) 22 rfl w.heap.size 3 i0 (.int .i64 0) 1 8 Try.underlying22 hi hz0 hz1 hz2 rfl (by decide) _ _ _ rfl (hown.alloc _) ⟨wr.heap.size, 0, none⟩ 1 1 [.int .i64 (pos + y)] rfl rfl (one_new _ _ _) (one_int _) (by unfold maxLen; omega) (by omega) (by simp; omega) ?_; intro v' w2 hown2 hgrow _)
              have hbel : Below w.heap.size w w2 := (hnx.alloc hsz _).grown hgrow (by simp; omega) (fun j hj => (hown.lt j hj).1)
              clear hgrow hnx hown cy
              go_wp2
              go_roundw
              case rel =>
                refine ⟨L ++ [pos], rem - y, pos + y, rfl, rfl, by omega, by omega, by omega, by omega, HK', ?_, ?_, hbel⟩
                · have h1 := HL.out
                  rw [HS.out, M.walkP, HA.out] at h1
                  show (L ++ [pos]) ++ _ = _
                  rw [List.append_assoc]; exact h1
                · simpa using hown2
              case measure => simp [intOf]; omega
          · go_wp2
            go_roundw
            case rel => exact ⟨L, rem, pos, m, rfl, rfl, rfl, by omega, hr0, hr1, hp0, hp1, (fun _ => by rw [HM.out]; omega), HL, hown, hnx⟩
            case measure => simp [intOf]

end Go.Proofs.Qxb6631256a
