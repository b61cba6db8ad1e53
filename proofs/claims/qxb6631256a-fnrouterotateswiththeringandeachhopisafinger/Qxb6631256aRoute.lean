/-
  (*Full).Route: a loop that calls next and appends.
-/
import Derived.Test.Qxb6631256aNext
import Derived.WalkSmall
namespace Go.Proofs.Qxb6631256a
open Go.RowKit
set_option linter.unusedVariables false

theorem Try.info3 : (Try.prog.info? 3).map (fun i => (i.zero, i.size, i.bytes)) = some (some (.int .i64 0), 1, 8) := by kernel_rfl

theorem ret_v {a b : Value} (h : a = b) : Ending.returned a = .returned b := by rw [h]

set_option maxHeartbeats 1000000 in
set_option maxRecDepth 1000000 in
theorem route_any (rb jb off c : Nat) (J : List Int) (s a b : Int) (w : World) (hv : M.Valid s J) (hn : J.length ≤ 65536)
    (hrb : rb < w.heap.size) (hjb : jb < w.heap.size)
    (hc0 : w.cell? ⟨rb, 0, none⟩ = some (.int .i64 s)) (hc1 : w.cell? ⟨rb, 1, none⟩ = some (.slice (some ⟨jb, off, none⟩) J.length c))
    (hc : ∀ j, j < J.length → w.cell? ⟨jb, off + j, none⟩ = some (.int .i64 (J.getD j 0)))
    (hs : 2 ≤ s) (hs' : s ≤ 65536) (ha : 0 ≤ a) (ha' : a < s) (hb : 0 ≤ b) (hb' : b < s) :
    Calls Try.prog 9 #[.pointer (some ⟨rb, 0, none⟩), .int .i64 a, .int .i64 b] w fun e w' =>
      ∃ v, e = .returned v ∧ w'.ownsRow w.heap.size 3 1 v (M.path J s a b).length ((M.path J s a b).map (Value.int .i64)) ∧ Below w.heap.size w w' := by
  obtain ⟨i0, hi, hz0, hz1, hz2⟩ := info_parts Try.info3
  have V : Hid (M.Valid s J) := hv
  have HC : Hid (∀ j, j < J.length → w.cell? ⟨jb, off + j, none⟩ = some (.int .i64 (J.getD j 0))) := hc
  have HC0 : Hid (w.cell? ⟨rb, 0, none⟩ = some (.int .i64 s)) := hc0
  have HC1 : Hid (w.cell? ⟨rb, 1, none⟩ = some (.slice (some ⟨jb, off, none⟩) J.length c)) := hc1
  clear hc hc0 hc1 hv
  go_enter Try.func9, Try.ntmps9
  go_wp2
  go_loopw [7, 8] (fun v i wr => ∃ (L : List Int) (x : Int), i = .int .i64 x ∧ 0 ≤ x ∧ x < s ∧ Hid (L ++ M.path J s x b = M.path J s a b) ∧ wr.ownsRow w.heap.size 3 1 v (L.length + 1) ((L ++ [x]).map (Value.int .i64)) ∧ Below w.heap.size w wr)
    (fun _ i _ => (M.dist s (intOf i) b).toNat)
  case atStart =>
    refine ⟨[], a, rfl, ha, ha', rfl, ?_, (Below.refl _ _).alloc (Nat.le_refl _) _⟩
    exact World.ownsRow_lit (base := w.heap.size) (size := 1) w #[.int .i64 a] 1 (Nat.le_refl _) (by decide) rfl
  case round =>
    obtain ⟨L, x, rfl, hx, hx', HL, hown, hnx⟩ := hrel
    have hpl := M.path_len J s a b
    have hdb := M.dist_bd ha ha' hb hb'
    have hLl : L.length + 1 ≤ 65536 := by
      have h1 := congrArg List.length HL.out
      rw [List.length_append] at h1
      have h2 := M.path_pos J s x b
      omega
    clear hpl hdb
    by_cases hne : x = b
    · subst hne
      go_wp2
      go_ret
      refine ⟨_, rfl, ?_, hnx⟩
      rw [← HL.out, M.path_end]
      simpa using hown
    · have hnb : (x == b) = false := by simpa using hne
      go_wp2_with fail
      refine (next_any rb jb off c J s x b _ V.out hn ((hnx.cell (by exact hrb)).trans HC0.out) ((hnx.cell (by exact hrb)).trans HC1.out) (fun j hj => (hnx.cell (by exact hjb)).trans (HC.out j hj)) hs hs' hx hx' hb hb' hne).mono ?_
      rintro e w' ⟨⟨j, hj, rfl⟩, q, rfl⟩
      have hj1 := (V.out.2.1 _ hj.1).1
      have hab := M.adv_bd hx hx' hb hb' hj1 hj.2.1
      have HP : Hid (M.path J s x b = x :: M.path J s (M.adv s x j) b) := M.path_step V.out hx hx' hb hb' hne hj
      have hown1 : (wr.drewN q).ownsRow w.heap.size 3 1 u7 (L.length + 1) ((L ++ [x]).map (Value.int .i64)) := hown
      have hnx1 : Below w.heap.size w (wr.drewN q) := below_drewN hnx q
      generalize wr.drewN q = w1 at hown1 hnx1
      have hsz := hnx1.size
      have hdp := M.dist_pos hx hx' hb hb' hne
      clear hown hnx hj
      generalize hy : M.adv s x j = y at hab HP
      clear hy
      go_wp2_with (at_builtin; refine wpList_append_own _ rfl (.tmp 19) (.tmp 21) 22 rfl w.heap.size 3 i0 (.int .i64 0) 1 8 Try.underlying22 hi hz0 hz1 hz2 rfl (by decide) _ _ _ rfl (hown1.alloc _) ⟨w1.heap.size, 0, none⟩ 1 1 [.int .i64 y] rfl rfl ?c1 ?c2 ?c3 ?c4 ?c5 ?_)
      case c1 =>
        intro j u hj
        match j, hj with
        | 0, hj => simp at hj; subst hj; simp [Addr.add]
      case c2 => intro u hu; simp at hu; subst hu; rfl
      case c3 => unfold maxLen; omega
      case c4 => omega
      case c5 => simp; omega
      intro v' w2 hown2 hgrow _
      have hbel : Below w.heap.size w w2 := (hnx1.alloc hsz _).grown hgrow (by simp; omega) (fun j hj => (hown1.lt j hj).1)
      clear hgrow hnx1 hown1
      go_wp2
      go_roundw
      case rel =>
        refine ⟨L ++ [x], y, rfl, hab.1, hab.2.1, ?_, ?_, hbel⟩
        · have h1 := HL.out
          rw [HP.out] at h1
          show (L ++ [x]) ++ _ = _
          rw [List.append_assoc]; exact h1
        · simpa using hown2
      case measure => simp [intOf]; omega


/-! ### zzCopyInts: a copy in new memory -/
theorem set_take_drop (zs : List Int) (n k : Nat) (hk : k < n) (hn : n ≤ zs.length) :
    (((zs.take k).map (Value.int .i64)) ++ List.replicate (n - k) (Value.int .i64 0)).set k (.int .i64 (zs.getD k 0)) = ((zs.take (k + 1)).map (Value.int .i64)) ++ List.replicate (n - (k + 1)) (Value.int .i64 0) := by
  have e1 : (zs.take k).length = k := by rw [List.length_take]; omega
  have e2 : n - k = (n - (k + 1)) + 1 := by omega
  rw [List.set_append_right _ _ (by rw [List.length_map, e1]; omega), List.length_map, e1, Nat.sub_self, e2, List.replicate_succ, List.set_cons_zero, List.take_succ_eq_append_getElem (by omega), List.map_append, List.append_assoc]
  simp only [List.map_cons, List.map_nil, List.cons_append, List.nil_append, List.getD_eq_getElem?_getD, List.getElem?_eq_getElem (show k < zs.length by omega), Option.getD_some]

set_option maxHeartbeats 1000000 in
set_option maxRecDepth 1000000 in
theorem copy_any (b off n c : Nat) (zs : List Int) (w : World) (hz : n ≤ zs.length) (hn : n ≤ 65536) (hb : b < w.heap.size)
    (hc : ∀ j, j < zs.length → w.cell? ⟨b, off + j, none⟩ = some (.int .i64 (zs.getD j 0))) :
    Calls Try.prog 7 #[.slice (some ⟨b, off, none⟩) n c] w fun e w' =>
      e = .returned (.slice (some ⟨w.heap.size, 0, none⟩) n n) ∧ w'.ownsRow w.heap.size 3 1 (.slice (some ⟨w.heap.size, 0, none⟩) n n) n ((zs.take n).map (Value.int .i64)) ∧ Below w.heap.size w w' := by
  obtain ⟨i0, hi, hz0, hz1, hz2⟩ := info_parts Try.info3
  have HC : Hid (∀ j, j < zs.length → w.cell? ⟨b, off + j, none⟩ = some (.int .i64 (zs.getD j 0))) := hc
  clear hc
  have hnil := fun (w : World) => Lib.run_eql_slice_nil (P := Try.prog) w 22 3 (some ⟨b, off, none⟩) n c 0 0 Try.underlying22
  go_enter Try.func7, Try.ntmps7
  go_wp2_with (at_make; refine wpList_make_full _ rfl (.tmp 8) (.tmp 8) 22 rfl w.heap.size 3 i0 (.int .i64 0) 1 Try.underlying22 hi hz0 hz1 .i64 .i64 _ _ n rfl rfl rfl rfl ?b2 ?b3 ?b4 ?_)
  case b2 => rw [hz2]; omega
  case b3 => unfold maxLen; omega
  case b4 => exact Nat.le_refl _
  intro w1 hown hgrow
  have hb1 : Below w.heap.size w w1 := (Below.refl _ _).grown hgrow (Nat.le_refl _) (fun k hk => by cases hk)
  have hown0 : w1.ownsRow w.heap.size 3 1 (.slice (some ⟨w.heap.size, 0, none⟩) n n) n (((zs.take 0).map (Value.int .i64)) ++ List.replicate (n - 0) (Value.int .i64 0)) := by
    rw [toList_madeCells_one] at hown
    simpa using hown
  clear hown hgrow hnil
  go_wp2
  go_loopw [4] (fun i wr => ∃ k : Nat, k ≤ n ∧ i = .int .i64 k ∧ wr.ownsRow w.heap.size 3 1 (.slice (some ⟨w.heap.size, 0, none⟩) n n) n (((zs.take k).map (Value.int .i64)) ++ List.replicate (n - k) (Value.int .i64 0)) ∧ Below w.heap.size w wr)
    (fun i _ => n - (intOf i).toNat)
  case atStart => exact ⟨0, Nat.zero_le _, rfl, hown0, hb1⟩
  case round =>
    obtain ⟨k, hk, rfl, hown, hbel⟩ := hrel
    clear hb1 hown0
    by_cases hlt : k < n
    · have c1 : wr.cell? ⟨b, off + k, none⟩ = some (.int .i64 (zs.getD k 0)) := (hbel.cell (by exact hb)).trans (HC.out k (by omega))
      have c2 : wr.cell? ⟨w.heap.size, k, none⟩ = some (.int .i64 0) := by
        rw [hown.cellAt k (by omega), List.getElem?_append_right (by rw [List.length_map, List.length_take]; omega), List.getElem?_replicate, if_pos]
        rw [List.length_map, List.length_take]; omega
      have f2 : wr.frozen? ⟨w.heap.size, k, none⟩ = false := hown.frozenAt k
      have hst := hown.stored k (.int .i64 (zs.getD k 0))
      rw [set_take_drop zs n k hlt hz] at hst
      have HST : Hid ((wr.setCell ⟨w.heap.size, k, none⟩ (.int .i64 (zs.getD k 0))).ownsRow w.heap.size 3 1 (.slice (some ⟨w.heap.size, 0, none⟩) n n) n (((zs.take (k + 1)).map (Value.int .i64)) ++ List.replicate (n - (k + 1)) (Value.int .i64 0))) := hst.1
      clear hst hown
      generalize zs.getD k 0 = y at c1 HST
      go_wp2
      go_roundw
      case rel => exact ⟨k + 1, by omega, by go_num, HST.out, hbel.setCell (Nat.le_refl _) _⟩
      case measure => simp [intOf]; omega
    · obtain rfl : k = n := by omega
      go_wp2
      go_ret
      refine ⟨rfl, ?_, hbel⟩
      simpa using hown

end Go.Proofs.Qxb6631256a
