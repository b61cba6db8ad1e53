/-
  FnMeasureAgreesWithStringSpanModel: the walk out of the contracts.
-/
import Derived.Test.Qxb6632282aSpan
import Derived.Laws.CopyOwn
namespace Go.Proofs.Qxb6632282a
open Go.RowKit
set_option linter.unusedVariables false

theorem Try.info5 : (Try.prog.info? 5).map (fun i => (i.zero, i.size, i.bytes)) = some (some (.int .u8 0), 1, 1) := by kernel_rfl
theorem Try.size5 : (Try.prog.info? 5).map (·.size) = some 1 := by kernel_rfl

theorem bytes5_any (a : Option Addr) (n c : Nat) (w : World) (hn : n ≤ 1048576) : Calls Try.prog 5 #[.slice a n c] w fun e w' => e = .returned (.bool true) ∧ w' = w := by
  go_enter Try.func5, Try.ntmps5
  go_wp2
  go_ret
  exact ⟨rfl, rfl⟩
theorem bytes5_no (a : Option Addr) (n c : Nat) (w : World) (hn : ¬ n ≤ 1048576) : Calls Try.prog 5 #[.slice a n c] w fun e w' => e = .returned (.bool false) ∧ w' = w := by
  go_enter Try.func5, Try.ntmps5
  go_wp2
  go_ret
  exact ⟨rfl, rfl⟩

theorem top1_no (a : Option Addr) (n c : Nat) (w : World) (hn : ¬ n ≤ 1048576) : Calls Try.prog 3 #[.slice a n c] w fun e w' => e = .returned (.bool true) ∧ Below w.heap.size w w' := by
  go_enter Try.func3, Try.ntmps3
  go_wp2_with (go_at_call 5; refine (bytes5_no _ _ _ _ hn).mono ?_; rintro e w' ⟨rfl, rfl⟩)
  go_ret
  exact ⟨rfl, Below.refl _ _⟩

/-- the block of a row that is owned whole -/
theorem own_block {w : World} {base : Nat} {e : TypeId} {g n : Nat} {xs : List Value} (h : w.ownsRow base e 1 (.slice (some ⟨g, 0, none⟩) n n) n xs) : w.heap[g]? = some (.cells xs.toArray e (0, 0)) := by
  rcases h.2 with ⟨h', _⟩ | ⟨g', cap', cur, h', _, hg, _, _, hcs, htake⟩
  · simp at h'
  · simp only [Value.slice.injEq, Option.some.injEq, Addr.mk.injEq, and_true, true_and] at h'
    obtain ⟨rfl, rfl⟩ := h'
    rw [hg]
    have e1 : cur.toList = xs := by
      rw [← htake, List.take_of_length_le]
      rw [Array.length_toList, hcs]; exact Nat.le_refl _
    rw [← e1]

/-- a row of bytes in a block of its own -/
theorem block_cells {w : World} {g : Nat} {t : TypeId} {zs : List Int} (h : w.heap[g]? = some (.cells (zs.map (Value.int .u8)).toArray t (0, 0))) : ∀ k, k < zs.length → w.cell? ⟨g, 0 + k, none⟩ = some (.int .u8 (zs.getD k 0)) := by
  intro k hk
  rw [Nat.zero_add]
  simp [World.cell?, h, List.getD_eq_getElem?_getD, List.getElem?_eq_getElem hk]

theorem top1_nil (w : World) : Calls Try.prog 3 #[.slice none 0 0] w fun e w' => e = .returned (.bool true) ∧ Below w.heap.size w w' := by
  have hnil := fun (w : World) => run_neq_slice_nil_any (P := Try.prog) w 22 5 none 0 0 0 0 Try.underlying22
  have hc : ∀ (W : World) k, k < ([] : List Int).length → ∃ b off, (none : Option Addr) = some ⟨b, off, none⟩ ∧ b < W.heap.size ∧ W.cell? ⟨b, off + k, none⟩ = some (.int .u8 (([] : List Int).getD k 0)) := fun W k h => by simp at h
  have HC : Hid _ := hc
  clear hc
  go_enter Try.func3, Try.ntmps3
  go_wp2_with (go_at_call 5; refine (bytes5_any _ _ _ _ (by omega)).mono ?_; rintro e w' ⟨rfl, hw⟩; subst w')
  refine (span_any none 0 [] w (by simp) (HC.out w)).mono ?_
  rintro e w1 ⟨rfl, hw⟩
  rw [hw]
  clear hw
  go_wp2_with fail
  refine (measure_any none 0 [] w (by simp) (HC.out w)).mono ?_
  rintro e w2 ⟨rfl, hb⟩
  have hsz := hb.size
  go_wp2
  go_ret
  exact ⟨by simp, hb.alloc hsz _⟩


theorem one_bytes (zs : List Int) : ∀ v ∈ zs.map (Value.int .u8), v.oneCell' = true := by
  intro v hv
  simp only [List.mem_map] at hv
  obtain ⟨a, _, rfl⟩ := hv
  rfl

/-- behind make: what the copy asks -/
theorem copy_ready {w w1 : World} {x : Addr} {n : Nat} {zs : List Int} {xs : List Value} (hown : w1.ownsRow w.heap.size 5 1 (.slice (some ⟨w.heap.size, 0, none⟩) n n) n xs) (hgrow : w.grownBy w1 none) (hz : zs.length = n) (hc : ∀ k, k < n → w.cell? (x.add k) = some (.int .u8 (zs.getD k 0))) :
    ∃ cur : List Value, w1.heap[w.heap.size]? = some (.cells cur.toArray 5 (0, 0)) ∧ cur.length = n ∧ Below w.heap.size w w1 ∧ (∀ j v, (zs.map (Value.int .u8))[j]? = some v → w1.cell? (x.add j) = some v) := by
  have hb : Below w.heap.size w w1 := (Below.refl _ _).grown hgrow (Nat.le_refl _) (fun k hk => by cases hk)
  refine ⟨xs, own_block hown, by have := hown.1; omega, hb, ?_⟩
  intro j v hj
  have hjl : j < zs.length := by
    rcases Nat.lt_or_ge j zs.length with h | h
    · exact h
    · simp [List.getElem?_eq_none (show (zs.map (Value.int .u8)).length ≤ j by simpa using h)] at hj
  rw [List.getElem?_map, List.getElem?_eq_getElem hjl] at hj
  have h1 := hc j (by omega)
  rw [List.getD_eq_getElem?_getD, List.getElem?_eq_getElem hjl] at h1
  have h2 : w.cell? (x.add j) = some v := by rw [h1]; simpa using hj
  exact hgrow.cell h2 (by simp)

theorem splice_all {cur cs : List Value} (h : cur.length = cs.length) : splice cur 0 cs = cs := by
  unfold splice
  rw [List.take_zero, List.nil_append, Nat.zero_add, List.drop_eq_nil_of_le (by omega), List.append_nil]

set_option maxHeartbeats 1000000 in
theorem top1_any (x : Addr) (n c : Nat) (zs : List Int) (w : World) (hn : n ≤ 1048576) (hz : zs.length = n) (hc : ∀ k, k < n → w.cell? (x.add k) = some (.int .u8 (zs.getD k 0))) :
    Calls Try.prog 3 #[.slice (some x) n c] w fun e w' => e = .returned (.bool true) ∧ Below w.heap.size w w' := by
  obtain ⟨i5, hi5, hz50, hz51, hz52⟩ := info_parts Try.info5
  have HZ : Hid (zs.length = n) := hz
  have HC : Hid (∀ k, k < n → w.cell? (x.add k) = some (.int .u8 (zs.getD k 0))) := hc
  have hnil := fun (w : World) => run_neq_slice_nil_any (P := Try.prog) w 22 5 (some x) n c 0 0 Try.underlying22
  clear hc hz
  go_enter Try.func3, Try.ntmps3
  go_wp2_with (first
    | (go_at_call 5; refine (bytes5_any _ _ _ _ hn).mono ?_; rintro e w' ⟨rfl, hw⟩; subst w')
    | (at_make; refine wpList_make_full _ rfl (.tmp 17) (.tmp 17) 22 rfl w.heap.size 5 i5 (.int .u8 0) 1 Try.underlying22 hi5 hz50 hz51 .i64 .i64 _ _ n rfl rfl rfl rfl (by rw [hz52]; omega) (by unfold maxLen; omega) (Nat.le_refl _) ?_; intro w1 hown hgrow; obtain ⟨cur, q1, q2, q3, q4⟩ := copy_ready hown hgrow HZ.out HC.out; have Q1 : Hid _ := q1; have Q2 : Hid (cur.length = n) := q2; have Q4 : Hid _ := q4; clear hown hgrow q1 q2 q4)
    | (have _t := Q1; refine wpList_copy_splice rfl (.tmp 19) (.tmp 20) 22 22 rfl 5 Try.underlying22 Try.size5 (some ⟨w.heap.size, 0, none⟩) (some x) n n n c rfl rfl w.heap.size 0 cur 5 Q1.out (zs.map (Value.int .u8)) (by rw [List.length_map, HZ.out]; exact (Nat.min_self n).symm) (fun _ => ⟨rfl, x, rfl, Q4.out⟩) (by rw [List.length_map, HZ.out, Q2.out]; omega) (one_bytes zs) w.heap.size w q3 (Nat.le_refl _) ?_; intro w2 HG hb2; clear Q1 _t))
  have hblk : w2.heap[w.heap.size]? = some (.cells (zs.map (Value.int .u8)).toArray 5 (0, 0)) := by
    have h := HG.out
    rw [splice_all (by rw [List.length_map, HZ.out, Q2.out])] at h
    exact h
  have hlt := lt_of_block hblk
  have HCC : Hid (∀ k, k < zs.length → ∃ b off, (some ⟨w.heap.size, 0, none⟩ : Option Addr) = some ⟨b, off, none⟩ ∧ b < w2.heap.size ∧ w2.cell? ⟨b, off + k, none⟩ = some (.int .u8 (zs.getD k 0))) :=
    fun k hk => ⟨_, _, rfl, hlt, block_cells hblk k hk⟩
  clear hblk HG Q4 HC q3
  have hln : (n : Int) = (zs.length : Int) := by rw [HZ.out]
  have hnn : n = zs.length := HZ.out.symm
  subst hnn
  refine (span_any (some ⟨w.heap.size, 0, none⟩) zs.length zs w2 hn HCC.out).mono ?_
  rintro e w3 ⟨rfl, hw⟩
  rw [hw]
  clear hw
  go_wp2_with fail
  refine (measure_any (some ⟨w.heap.size, 0, none⟩) zs.length zs w2 hn HCC.out).mono ?_
  rintro e w4 ⟨rfl, hb4⟩
  have hbel : Below w.heap.size w w4 := hb2.trans (hb4.mono hb2.size)
  have hsz := hbel.size
  clear HCC hb4 hb2
  generalize (M.meas zs false false 0 0 0 0).1 = p1
  generalize (M.meas zs false false 0 0 0 0).2.1 = p2
  generalize (M.meas zs false false 0 0 0 0).2.2 = p3
  go_wp2
  go_ret
  exact ⟨by simp, hbel.alloc hsz _⟩

end Go.Proofs.Qxb6632282a
