/-
  FnMeasureQuoteFreePrefixJoins: the walk out of the contracts.
-/
import Derived.Test.Qxb6632282aTop1
import Derived.Deep.DeepCutAuto
namespace Go.Proofs.Qxb6632282a
open Go.RowKit
set_option linter.unusedVariables false

/-- what is told of a row of bytes -/
def Bytes (w : World) (ao : Option Addr) (zs : List Int) : Prop := ∀ k, k < zs.length → ∃ b off, ao = some ⟨b, off, none⟩ ∧ b < w.heap.size ∧ w.cell? ⟨b, off + k, none⟩ = some (.int .u8 (zs.getD k 0))

theorem Bytes.below {w w' : World} {B : Nat} {ao : Option Addr} {zs : List Int} (h : Bytes w ao zs) (hb : Below B w w') (hB : w.heap.size ≤ B) : Bytes w' ao zs := by
  intro k hk
  obtain ⟨b, off, e, hlt, hc⟩ := h k hk
  exact ⟨b, off, e, Nat.lt_of_lt_of_le hlt hb.size, (hb.cell (show b < B by omega)).trans hc⟩

theorem bytes8_any (a : Option Addr) (n c : Nat) (a' : Option Addr) (n' c' : Nat) (w : World) (hn : n + n' ≤ 1048576) : Calls Try.prog 8 #[.slice a n c, .slice a' n' c'] w fun e w' => e = .returned (.bool true) ∧ w' = w := by
  go_enter Try.func8, Try.ntmps8
  go_wp2
  go_ret
  exact ⟨rfl, rfl⟩
theorem bytes8_no (a : Option Addr) (n c : Nat) (a' : Option Addr) (n' c' : Nat) (w : World) (hn : ¬ n + n' ≤ 1048576) : Calls Try.prog 8 #[.slice a n c, .slice a' n' c'] w fun e w' => e = .returned (.bool false) ∧ w' = w := by
  rcases (show 1048576 < n ∨ (n ≤ 1048576 ∧ 1048576 < n') ∨ (n ≤ 1048576 ∧ n' ≤ 1048576 ∧ 1048576 < n + n') by omega) with h | ⟨h, h'⟩ | ⟨h, h', h''⟩
  all_goals
    clear hn
    go_enter Try.func8, Try.ntmps8
    go_wp2
    go_ret
    exact ⟨rfl, rfl⟩

set_option maxRecDepth 1000000 in
theorem top2_no (a : Option Addr) (n c : Nat) (a' : Option Addr) (n' c' : Nat) (w : World) (hn : ¬ (n ≤ 524288 ∧ n' ≤ 524288)) : Calls Try.prog 4 #[.slice a n c, .slice a' n' c'] w fun e w' => e = .returned (.bool true) ∧ Below w.heap.size w w' := by
  by_cases hs : n + n' ≤ 1048576
  · rcases (show 524288 < n ∨ (n ≤ 524288 ∧ 524288 < n') by omega) with h | ⟨h, h'⟩
    all_goals
      clear hn
      go_enter Try.func4, Try.ntmps4
      go_wp2_with (go_at_call 8; refine (bytes8_any _ _ _ _ _ _ _ hs).mono ?_; rintro e w' ⟨rfl, rfl⟩)
      go_ret
      exact ⟨rfl, Below.refl _ _⟩
  · clear hn
    go_enter Try.func4, Try.ntmps4
    go_wp2_with (go_at_call 8; refine (bytes8_no _ _ _ _ _ _ _ hs).mono ?_; rintro e w' ⟨rfl, rfl⟩)
    go_ret
    exact ⟨rfl, Below.refl _ _⟩

theorem set_take_drop (zs : List Int) (n k : Nat) (hk : k < n) (hn : n ≤ zs.length) :
    (((zs.take k).map (Value.int .u8)) ++ List.replicate (n - k) (Value.int .u8 0)).set k (.int .u8 (zs.getD k 0)) = ((zs.take (k + 1)).map (Value.int .u8)) ++ List.replicate (n - (k + 1)) (Value.int .u8 0) := by
  have e1 : (zs.take k).length = k := by rw [List.length_take]; omega
  have e2 : n - k = (n - (k + 1)) + 1 := by omega
  rw [List.set_append_right _ _ (by rw [List.length_map, e1]; omega), List.length_map, e1, Nat.sub_self, e2, List.replicate_succ, List.set_cons_zero, List.take_succ_eq_append_getElem (by omega), List.map_append, List.append_assoc]
  simp only [List.map_cons, List.map_nil, List.cons_append, List.nil_append, List.getD_eq_getElem?_getD, List.getElem?_eq_getElem (show k < zs.length by omega), Option.getD_some]

/-- the row that is being filled: the first m bytes of L -/
def Filled (w : World) (g : Nat) (L : List Int) (n m : Nat) : Prop := w.ownsRow g 5 1 (.slice (some ⟨g, 0, none⟩) n n) n (((L.take m).map (Value.int .u8)) ++ List.replicate (n - m) (Value.int .u8 0))

theorem Filled.step {w : World} {g : Nat} {L : List Int} {n m : Nat} (h : Filled w g L n m) (hm : m < n) (hn : n ≤ L.length) :
    w.cell? ⟨g, m, none⟩ = some (.int .u8 0) ∧ w.frozen? ⟨g, m, none⟩ = false ∧ Filled (w.setCell ⟨g, m, none⟩ (.int .u8 (L.getD m 0))) g L n (m + 1) := by
  refine ⟨?_, World.ownsRow.frozenAt h m, ?_⟩
  · rw [World.ownsRow.cellAt h m (by omega), List.getElem?_append_right (by rw [List.length_map, List.length_take]; omega), List.getElem?_replicate, if_pos]
    rw [List.length_map, List.length_take]; omega
  · have hst := World.ownsRow.stored h m (.int .u8 (L.getD m 0))
    rw [set_take_drop L n m hm hn] at hst
    exact hst.1

theorem Filled.bytes {w : World} {g : Nat} {L : List Int} {n : Nat} (h : Filled w g L n n) (hn : L.length = n) : Bytes w (some ⟨g, 0, none⟩) L := by
  have hb := own_block h
  rw [Nat.sub_self, List.replicate_zero, List.append_nil, List.take_of_length_le (by omega)] at hb
  exact fun k hk => ⟨g, 0, rfl, lt_of_block hb, block_cells hb k hk⟩

theorem measure_n (ao : Option Addr) (n c : Nat) (zs : List Int) (w : World) (hz : zs.length = n) (hn : n ≤ 1048576) (hc : Bytes w ao zs) :
    Calls Try.prog 7 #[.slice ao n c] w fun e w' => e = .returned (.agg #[.int .i64 (M.meas zs false false 0 0 0 0).1, .int .i64 (M.meas zs false false 0 0 0 0).2.1, .int .i64 (M.meas zs false false 0 0 0 0).2.2]) ∧ Below w.heap.size w w' := by
  subst hz; exact measure_any ao c zs w hn hc

/-- the first measure's struct, behind the second call -/
theorem whole_cell {w5 w7 : World} {cs : Array Value} {t : TypeId} {v : Value} (hb : Below (w5.alloc (.cells cs t)).heap.size (w5.alloc (.cells cs t)) w7) (j : Nat) (hv : cs[j]? = some v) (o : Obj) : (w7.alloc o).cell? ⟨w5.heap.size, j, none⟩ = some v := by
  have h1 : (w5.alloc (.cells cs t)).cell? ⟨w5.heap.size, j, none⟩ = some v := by rw [World.cell?_alloc_at _ _ _ _ rfl]; exact hv
  have h2 : w7.cell? ⟨w5.heap.size, j, none⟩ = some v := (hb.cell (show w5.heap.size < _ by simp)).trans h1
  rw [World.cell?_alloc_past _ _ _ (World.block_lt_of_cell? w7 _ h2)]; exact h2

set_option maxHeartbeats 8000000 in
set_option maxRecDepth 1000000 in
theorem top2_any (pa : Option Addr) (pc : Nat) (ps : List Int) (ta : Option Addr) (tc : Nat) (ts : List Int) (w : World) (h1 : ps.length ≤ 524288) (h2 : ts.length ≤ 524288) (hp : Bytes w pa ps)
    (ht : (ta = none ∧ ts = [] ∧ tc = 0) ∨ ∃ x, ta = some x ∧ ∀ k, k < ts.length → w.cell? (x.add k) = some (.int .u8 (ts.getD k 0))) :
    Calls Try.prog 4 #[.slice pa ps.length pc, .slice ta ts.length tc] w fun e w' => e = .returned (.bool true) ∧ Below w.heap.size w w' := by
  obtain ⟨i5, hi5, hz50, hz51, hz52⟩ := info_parts Try.info5
  have HP : Hid (Bytes w pa ps) := hp
  have HT : Hid _ := ht
  have hnil := fun (w : World) => run_neq_slice_nil_any (P := Try.prog) w 22 5 ta ts.length tc 0 0 Try.underlying22
  clear hp ht
  go_enter Try.func4, Try.ntmps4
  go_upto_if 29 with (go_at_call 8; refine (bytes8_any _ _ _ _ _ _ _ (by omega)).mono ?_; rintro e w' ⟨rfl, hw⟩; subst w')
  go_cut [1] (fun v wx => ∃ ao c, v = .slice ao ts.length c ∧ Below w.heap.size w wx ∧ Hid (Bytes wx ao ts))
  case first =>
    rcases HT.out with ⟨rfl, rfl, rfl⟩ | ⟨x, rfl, hcx⟩
    · clear HT
      go_wp2
      go_meet
      case rel => exact ⟨none, 0, rfl, Below.refl _ _, fun k hk => by simp at hk⟩
    · have HC : Hid (∀ k, k < ts.length → w.cell? (x.add k) = some (.int .u8 (ts.getD k 0))) := hcx
      have HZ : Hid (ts.length = ts.length) ∨ True := .inr trivial
      clear HT hcx HZ
      go_wp2_with (first
        | (at_make; refine wpList_make_full _ rfl (.tmp 31) (.tmp 31) 22 rfl w.heap.size 5 i5 (.int .u8 0) 1 Try.underlying22 hi5 hz50 hz51 .i64 .i64 _ _ ts.length rfl rfl rfl rfl (by rw [hz52]; omega) (by unfold maxLen; omega) (Nat.le_refl _) ?_; intro w1 hown hgrow; obtain ⟨cur, q1, q2, q3, q4⟩ := copy_ready hown hgrow rfl HC.out; have Q1 : Hid _ := q1; have Q2 : Hid (cur.length = ts.length) := q2; have Q4 : Hid _ := q4; clear hown hgrow q1 q2 q4)
        | (have _t := Q1; refine wpList_copy_splice rfl (.tmp 33) (.tmp 34) 22 22 rfl 5 Try.underlying22 Try.size5 (some ⟨w.heap.size, 0, none⟩) (some x) ts.length ts.length ts.length tc rfl rfl w.heap.size 0 cur 5 Q1.out (ts.map (Value.int .u8)) (by rw [List.length_map]; exact (Nat.min_self _).symm) (fun _ => ⟨rfl, x, rfl, Q4.out⟩) (by rw [List.length_map, Q2.out]; omega) (one_bytes ts) w.heap.size w q3 (Nat.le_refl _) ?_; intro w2 HG hb2; clear Q1 _t))
      go_meet
      case rel =>
        have hblk : w2.heap[w.heap.size]? = some (.cells (ts.map (Value.int .u8)).toArray 5 (0, 0)) := by
          have h := HG.out
          rw [splice_all (by rw [List.length_map, Q2.out])] at h
          exact h
        exact ⟨some ⟨w.heap.size, 0, none⟩, ts.length, rfl, hb2, fun k hk => ⟨_, _, rfl, lt_of_block hblk, block_cells hblk k hk⟩⟩
  case rest =>
    obtain ⟨ao, c, rfl, hbc, HTT⟩ := hcut
    clear HT hnil
    have HPC : Hid (Bytes wc pa ps) := HP.out.below hbc (Nat.le_refl _)
    clear HP
    have hszc := hbc.size
    go_wp2
    go_loop [6] (fun i => ∃ k : Nat, i = .int .i64 k ∧ k ≤ ps.length ∧ Hid (∀ j, j < k → ps.getD j 0 ≠ 34)) (fun i => ps.length - (intOf i).toNat)
    case atStart => exact ⟨0, rfl, Nat.zero_le _, fun j hj => absurd hj (Nat.not_lt_zero _)⟩
    case round =>
      obtain ⟨k, rfl, hk, HQ⟩ := hrel
      by_cases hlt : k < ps.length
      · obtain ⟨b, off, rfl, hb, cell⟩ := HPC.out k hlt
        by_cases h34 : ps.getD k 0 = 34
        · rw [h34] at cell
          clear h34
          go_wp2
          go_ret
          exact ⟨rfl, hbc⟩
        · have g34 : (ps.getD k 0 == 34) = false := by simpa using h34
          have HN : Hid (∀ j, j < k + 1 → ps.getD j 0 ≠ 34) := fun j hj => by
            rcases Nat.lt_or_eq_of_le (show j ≤ k by omega) with h | rfl
            · exact HQ.out j h
            · exact h34
          clear h34 HQ
          generalize ps.getD k 0 = y at cell g34
          go_wp2
          go_round
          case rel => exact ⟨k + 1, by go_num, by omega, HN⟩
          case measure => simp [intOf]; omega
      · obtain rfl : k = ps.length := by omega
        have HNQ : Hid (∀ x, x ∈ ps → x ≠ 34) := by
          intro x hx
          obtain ⟨j, hj, rfl⟩ := List.getElem_of_mem hx
          have := HQ.out j hj
          rwa [List.getD_eq_getElem?_getD, List.getElem?_eq_getElem hj] at this
        clear HQ hk hlt
        go_wp2
        go_loop [7, 8, 9, 10, 11] (fun sR sD sO sB sI => ∃ (k : Nat) (r D O B : Int), sI = .int .i64 k ∧ sR = .int .i64 r ∧ sD = .int .i64 D ∧ sO = .int .i64 O ∧ sB = .int .i64 B ∧ k ≤ ps.length ∧ -k ≤ r ∧ r ≤ k ∧ 0 ≤ D ∧ D ≤ k ∧ 0 ≤ O ∧ O ≤ k ∧ 0 ≤ B ∧ B ≤ k ∧ Hid (M.pre (ps.drop k) r D O B = M.pre ps 0 0 0 0))
          (fun _ _ _ _ sI => ps.length - (intOf sI).toNat)
        case atStart => exact ⟨0, 0, 0, 0, 0, rfl, rfl, rfl, rfl, rfl, Nat.zero_le _, by omega, by omega, by omega, by omega, by omega, by omega, by omega, by omega, rfl⟩
        case round =>
          obtain ⟨k, r, D, O, B, rfl, rfl, rfl, rfl, rfl, hk, hr1, hr2, hD1, hD2, hO1, hO2, hB1, hB2, HM⟩ := hrel
          by_cases hlt : k < ps.length
          · obtain ⟨b, off, rfl, hb, cell⟩ := HPC.out k hlt
            have hm := HM.out
            rw [drop_get hlt, M.pre_cons] at hm
            clear HM
            generalize ps.getD k 0 = y at cell hm
            by_cases h91 : y = 91
            · rw [if_pos h91] at hm
              subst h91
              by_cases hgt : D < r + 1
              · rw [show max D (r + 1) = r + 1 by omega] at hm
                have HN : Hid (M.pre (ps.drop (k + 1)) (r + 1) (r + 1) O B = M.pre ps 0 0 0 0) := hm
                clear hm
                go_wp2
                go_round
                case rel => exact ⟨k + 1, (r + 1), (r + 1), O, B, by go_num, rfl, rfl, rfl, rfl, by omega, (by first | omega | (split <;> omega)), (by first | omega | (split <;> omega)), (by first | omega | (split <;> omega)), (by first | omega | (split <;> omega)), (by first | omega | (split <;> omega)), (by first | omega | (split <;> omega)), (by first | omega | (split <;> omega)), (by first | omega | (split <;> omega)), HN⟩
                case measure => simp [intOf]; omega

              · rw [show max D (r + 1) = D by omega] at hm
                have HN : Hid (M.pre (ps.drop (k + 1)) (r + 1) D O B = M.pre ps 0 0 0 0) := hm
                clear hm
                go_wp2
                go_round
                case rel => exact ⟨k + 1, (r + 1), D, O, B, by go_num, rfl, rfl, rfl, rfl, by omega, (by first | omega | (split <;> omega)), (by first | omega | (split <;> omega)), (by first | omega | (split <;> omega)), (by first | omega | (split <;> omega)), (by first | omega | (split <;> omega)), (by first | omega | (split <;> omega)), (by first | omega | (split <;> omega)), (by first | omega | (split <;> omega)), HN⟩
                case measure => simp [intOf]; omega

            · rw [if_neg h91] at hm
              have g91 : (y == 91) = false := by simpa using h91
              clear h91
              by_cases h123 : y = 123
              · rw [if_pos h123] at hm
                subst h123
                clear g91
                by_cases hgt : D < r + 1
                · rw [show max D (r + 1) = r + 1 by omega] at hm
                  have HN : Hid (M.pre (ps.drop (k + 1)) (r + 1) (r + 1) (O + 1) B = M.pre ps 0 0 0 0) := hm
                  clear hm
                  go_wp2
                  go_round
                  case rel => exact ⟨k + 1, (r + 1), (r + 1), (O + 1), B, by go_num, rfl, rfl, rfl, rfl, by omega, (by first | omega | (split <;> omega)), (by first | omega | (split <;> omega)), (by first | omega | (split <;> omega)), (by first | omega | (split <;> omega)), (by first | omega | (split <;> omega)), (by first | omega | (split <;> omega)), (by first | omega | (split <;> omega)), (by first | omega | (split <;> omega)), HN⟩
                  case measure => simp [intOf]; omega

                · rw [show max D (r + 1) = D by omega] at hm
                  have HN : Hid (M.pre (ps.drop (k + 1)) (r + 1) D (O + 1) B = M.pre ps 0 0 0 0) := hm
                  clear hm
                  go_wp2
                  go_round
                  case rel => exact ⟨k + 1, (r + 1), D, (O + 1), B, by go_num, rfl, rfl, rfl, rfl, by omega, (by first | omega | (split <;> omega)), (by first | omega | (split <;> omega)), (by first | omega | (split <;> omega)), (by first | omega | (split <;> omega)), (by first | omega | (split <;> omega)), (by first | omega | (split <;> omega)), (by first | omega | (split <;> omega)), (by first | omega | (split <;> omega)), HN⟩
                  case measure => simp [intOf]; omega

              · rw [if_neg h123] at hm
                have g123 : (y == 123) = false := by simpa using h123
                clear h123
                by_cases h93 : y = 93
                · rw [if_pos (.inl h93)] at hm
                  have HN : Hid (M.pre (ps.drop (k + 1)) (r - 1) D O B = M.pre ps 0 0 0 0) := hm
                  subst h93
                  clear hm g91 g123
                  go_wp2
                  go_round
                  case rel => exact ⟨k + 1, (r - 1), D, O, B, by go_num, rfl, rfl, rfl, rfl, by omega, (by first | omega | (split <;> omega)), (by first | omega | (split <;> omega)), (by first | omega | (split <;> omega)), (by first | omega | (split <;> omega)), (by first | omega | (split <;> omega)), (by first | omega | (split <;> omega)), (by first | omega | (split <;> omega)), (by first | omega | (split <;> omega)), HN⟩
                  case measure => simp [intOf]; omega

                · by_cases h125 : y = 125
                  · rw [if_pos (.inr h125)] at hm
                    have HN : Hid (M.pre (ps.drop (k + 1)) (r - 1) D O B = M.pre ps 0 0 0 0) := hm
                    subst h125
                    clear hm g91 g123 h93
                    go_wp2
                    go_round
                    case rel => exact ⟨k + 1, (r - 1), D, O, B, by go_num, rfl, rfl, rfl, rfl, by omega, (by first | omega | (split <;> omega)), (by first | omega | (split <;> omega)), (by first | omega | (split <;> omega)), (by first | omega | (split <;> omega)), (by first | omega | (split <;> omega)), (by first | omega | (split <;> omega)), (by first | omega | (split <;> omega)), (by first | omega | (split <;> omega)), HN⟩
                    case measure => simp [intOf]; omega

                  · rw [if_neg (by omega)] at hm
                    have g93 : (y == 93) = false := by simpa using h93
                    have g125 : (y == 125) = false := by simpa using h125
                    clear h93 h125
                    by_cases h116 : y = 116
                    · rw [if_pos (.inl h116)] at hm
                      have HN : Hid (M.pre (ps.drop (k + 1)) r D O (B + 1) = M.pre ps 0 0 0 0) := hm
                      subst h116
                      clear hm g91 g123 g93 g125
                      go_wp2
                      go_round
                      case rel => exact ⟨k + 1, r, D, O, (B + 1), by go_num, rfl, rfl, rfl, rfl, by omega, (by first | omega | (split <;> omega)), (by first | omega | (split <;> omega)), (by first | omega | (split <;> omega)), (by first | omega | (split <;> omega)), (by first | omega | (split <;> omega)), (by first | omega | (split <;> omega)), (by first | omega | (split <;> omega)), (by first | omega | (split <;> omega)), HN⟩
                      case measure => simp [intOf]; omega

                    · by_cases h102 : y = 102
                      · rw [if_pos (.inr h102)] at hm
                        have HN : Hid (M.pre (ps.drop (k + 1)) r D O (B + 1) = M.pre ps 0 0 0 0) := hm
                        subst h102
                        clear hm g91 g123 g93 g125 h116
                        go_wp2
                        go_round
                        case rel => exact ⟨k + 1, r, D, O, (B + 1), by go_num, rfl, rfl, rfl, rfl, by omega, (by first | omega | (split <;> omega)), (by first | omega | (split <;> omega)), (by first | omega | (split <;> omega)), (by first | omega | (split <;> omega)), (by first | omega | (split <;> omega)), (by first | omega | (split <;> omega)), (by first | omega | (split <;> omega)), (by first | omega | (split <;> omega)), HN⟩
                        case measure => simp [intOf]; omega

                      · rw [if_neg (by omega)] at hm
                        have g116 : (y == 116) = false := by simpa using h116
                        have g102 : (y == 102) = false := by simpa using h102
                        clear h116 h102
                        have HN : Hid (M.pre (ps.drop (k + 1)) r D O B = M.pre ps 0 0 0 0) := hm
                        clear hm
                        go_wp2
                        go_round
                        case rel => exact ⟨k + 1, r, D, O, B, by go_num, rfl, rfl, rfl, rfl, by omega, (by first | omega | (split <;> omega)), (by first | omega | (split <;> omega)), (by first | omega | (split <;> omega)), (by first | omega | (split <;> omega)), (by first | omega | (split <;> omega)), (by first | omega | (split <;> omega)), (by first | omega | (split <;> omega)), (by first | omega | (split <;> omega)), HN⟩
                        case measure => simp [intOf]; omega

          · obtain rfl : k = ps.length := by omega
            have h3 : ps.drop ps.length = [] := List.drop_eq_nil_of_le (Nat.le_refl _)
            have hm := HM.out
            rw [h3] at hm
            have HF : Hid (M.pre ps 0 0 0 0 = (r, D, O, B)) := hm.symm
            have hrb : -524288 ≤ r ∧ r ≤ 524288 ∧ D ≤ 524288 ∧ O ≤ 524288 ∧ B ≤ 524288 := by omega
            obtain ⟨hr3, hr4, hD3, hO3, hB3⟩ := hrb
            clear hm HM h3 hk hlt hr1 hr2 hD2 hO2 hB2
            have HLEN : Hid ((ps ++ ts).length = ps.length + ts.length) := List.length_append
            have HLP : Hid (∀ j, j < ps.length → (ps ++ ts).getD j 0 = ps.getD j 0) := fun j hj => by
              rw [List.getD_eq_getElem?_getD, List.getD_eq_getElem?_getD, List.getElem?_append_left hj]
            have HLT : Hid (∀ j, (ps ++ ts).getD (ps.length + j) 0 = ts.getD j 0) := fun j => by
              rw [List.getD_eq_getElem?_getD, List.getD_eq_getElem?_getD, List.getElem?_append_right (by omega), Nat.add_sub_cancel_left]
            have HJ := M.meas_join ps ts HNQ.out r D O B HF.out
            have HBD := M.meas_bd ts false false 0 0 0 0 0 (by omega) (by omega) (by omega) (by omega) (by omega) (by omega) (by omega) (by omega)
            obtain ⟨f1, hf1⟩ : ∃ f, (M.meas ts false false 0 0 0 0).1 = f := ⟨_, rfl⟩
            obtain ⟨f2, hf2⟩ : ∃ f, (M.meas ts false false 0 0 0 0).2.1 = f := ⟨_, rfl⟩
            obtain ⟨f3, hf3⟩ : ∃ f, (M.meas ts false false 0 0 0 0).2.2 = f := ⟨_, rfl⟩
            rw [hf1, hf2, hf3] at HBD HJ
            obtain ⟨hf10, hf11, hf20, hf21, hf30, hf31⟩ := HBD
            have HJ1 : Hid ((M.meas (ps ++ ts) false false 0 0 0 0).1 = max D (r + f1)) := by rw [HJ]; rfl
            have HJ2 : Hid ((M.meas (ps ++ ts) false false 0 0 0 0).2.1 = O + f2) := by rw [HJ]; rfl
            have HJ3 : Hid ((M.meas (ps ++ ts) false false 0 0 0 0).2.2 = B + f3) := by rw [HJ]; rfl
            have HF1 : Hid _ := hf1
            have HF2 : Hid _ := hf2
            have HF3 : Hid _ := hf3
            clear HJ HNQ HF hf1 hf2 hf3
            go_wp2_with (at_make; refine wpList_make_full _ rfl (.tmp 88) (.tmp 88) 22 rfl wc.heap.size 5 i5 (.int .u8 0) 1 Try.underlying22 hi5 hz50 hz51 .i64 .i64 _ _ (ps.length + ts.length) rfl rfl (by omega) (by omega) (by rw [hz52]; omega) (by unfold maxLen; omega) (Nat.le_refl _) ?_; intro w1 hown hgrow)
            have hb1 : Below wc.heap.size wc w1 := (Below.refl _ _).grown hgrow (Nat.le_refl _) (fun k hk => by cases hk)
            have hfill : Filled w1 wc.heap.size (ps ++ ts) (ps.length + ts.length) 0 := by
              unfold Filled
              rw [Nat.mul_one] at hown
              change w1.ownsRow wc.heap.size 5 1 _ _ (madeCells #[.int .u8 0] (ps.length + ts.length)).toList at hown
              rw [toList_madeCells_one] at hown
              simpa using hown
            have HFL : Hid (Filled w1 wc.heap.size (ps ++ ts) (ps.length + ts.length) 0) := hfill
            clear hown hgrow hfill
            go_wp2
            go_loopw [13] (fun i wr => ∃ k : Nat, i = .int .i64 k ∧ k ≤ ps.length ∧ Hid (Filled wr wc.heap.size (ps ++ ts) (ps.length + ts.length) k) ∧ Below wc.heap.size wc wr) (fun i _ => ps.length - (intOf i).toNat)
            case atStart => exact ⟨0, rfl, Nat.zero_le _, HFL, hb1⟩
            case round =>
              clear HFL hb1
              obtain ⟨k, rfl, hk, HFL, hb1⟩ := hrel
              by_cases hlt : k < ps.length
              · obtain ⟨b, off, rfl, hb, cell⟩ := HPC.out k hlt
                have cell2 : wr.cell? ⟨b, off + k, none⟩ = some (.int .u8 (ps.getD k 0)) := (hb1.cell (by exact hb)).trans cell
                obtain ⟨c2, f2, hst⟩ := HFL.out.step (show k < ps.length + ts.length by omega) (by rw [HLEN.out]; exact Nat.le_refl _)
                rw [HLP.out k hlt] at hst
                have HST : Hid _ := hst
                clear HFL hst cell
                generalize ps.getD k 0 = y at cell2 HST
                go_wp2
                go_roundw
                case rel => exact ⟨k + 1, by go_num, by omega, HST, hb1.setCell (Nat.le_refl _) _⟩
                case measure => simp [intOf]; omega
              · obtain rfl : k = ps.length := by omega
                clear hk hlt
                go_wp2
                go_loopw [14] (fun i wr => ∃ k : Nat, i = .int .i64 k ∧ k ≤ ts.length ∧ Hid (Filled wr wc.heap.size (ps ++ ts) (ps.length + ts.length) (ps.length + k)) ∧ Below wc.heap.size wc wr) (fun i _ => ts.length - (intOf i).toNat)
                case atStart => exact ⟨0, rfl, Nat.zero_le _, HFL, hb1⟩
                case round =>
                  clear HFL hb1
                  obtain ⟨k, rfl, hk, HFL, hb1⟩ := hrel
                  by_cases hlt : k < ts.length
                  · obtain ⟨b, off, rfl, hb, cell⟩ := HTT.out k hlt
                    have cell2 : wr.cell? ⟨b, off + k, none⟩ = some (.int .u8 (ts.getD k 0)) := (hb1.cell (by exact hb)).trans cell
                    obtain ⟨c2, f2, hst⟩ := HFL.out.step (show ps.length + k < ps.length + ts.length by omega) (by rw [HLEN.out]; exact Nat.le_refl _)
                    rw [HLT.out k] at hst
                    have HST : Hid _ := hst
                    clear HFL hst cell
                    generalize ts.getD k 0 = y at cell2 HST
                    go_wp2
                    go_roundw
                    case rel => exact ⟨k + 1, by go_num, by omega, HST, hb1.setCell (Nat.le_refl _) _⟩
                    case measure => simp [intOf]; omega
                  · obtain rfl : k = ts.length := by omega
                    have HB1 : Hid (Bytes wr (some ⟨wc.heap.size, 0, none⟩) (ps ++ ts)) := HFL.out.bytes HLEN.out
                    have HB2 : Hid (Bytes wr ao ts) := HTT.out.below hb1 (Nat.le_refl _)
                    have hbel : Below w.heap.size w wr := hbc.trans (hb1.mono hszc)
                    have hszr := hbel.size
                    clear hk hlt HFL hb1 hbc HPC HTT HLP HLT
                    go_wp2_with fail
                    refine (measure_n (some ⟨wc.heap.size, 0, none⟩) (ps.length + ts.length) (ps.length + ts.length) (ps ++ ts) wr HLEN.out (by omega) HB1.out).mono ?_
                    rintro e w5 ⟨rfl, hb5⟩
                    rw [HJ1.out, HJ2.out, HJ3.out]
                    have hsz5 := hb5.size
                    have HB3 : Hid (∀ o, Bytes (w5.alloc o) ao ts) := fun o => (HB2.out.below hb5 (Nat.le_refl _)).below ((Below.refl w5.heap.size w5).alloc (Nat.le_refl _) o) (Nat.le_refl _)
                    have hbel5 : Below w.heap.size w w5 := hbel.trans (hb5.mono hszr)
                    have hs5 := hbel5.size
                    clear HB1 HB2 hb5 hbel HJ1 HJ2 HJ3
                    by_cases hgt : D < r + f1
                    · rw [show max D (r + f1) = r + f1 by omega]
                      go_wp2_with fail
                      refine (measure_n ao ts.length c ts _ rfl (by omega) (HB3.out _)).mono ?_
                      rintro e w7 ⟨rfl, hb7⟩
                      rw [HF1.out, HF2.out, HF3.out]
                      have c0 : ∀ o, (w7.alloc o).cell? ⟨w5.heap.size, 0, none⟩ = some (.int .i64 (r + f1)) := fun o => whole_cell hb7 0 (by simp) o
                      have c1 : ∀ o, (w7.alloc o).cell? ⟨w5.heap.size, 1, none⟩ = some (.int .i64 (O + f2)) := fun o => whole_cell hb7 1 (by simp) o
                      have c2 : ∀ o, (w7.alloc o).cell? ⟨w5.heap.size, 2, none⟩ = some (.int .i64 (B + f3)) := fun o => whole_cell hb7 2 (by simp) o
                      have hbel7 : Below w.heap.size w w7 := (hbel5.alloc hs5 _).trans (hb7.mono (by simp; omega))
                      have hs7 := hbel7.size
                      clear HB3 hb7 HF1 HF2 HF3
                      go_wp2
                      go_ret
                      exact ⟨by simp, hbel7.alloc hs7 _⟩
                    · rw [show max D (r + f1) = D by omega]
                      go_wp2_with fail
                      refine (measure_n ao ts.length c ts _ rfl (by omega) (HB3.out _)).mono ?_
                      rintro e w7 ⟨rfl, hb7⟩
                      rw [HF1.out, HF2.out, HF3.out]
                      have c0 : ∀ o, (w7.alloc o).cell? ⟨w5.heap.size, 0, none⟩ = some (.int .i64 D) := fun o => whole_cell hb7 0 (by simp) o
                      have c1 : ∀ o, (w7.alloc o).cell? ⟨w5.heap.size, 1, none⟩ = some (.int .i64 (O + f2)) := fun o => whole_cell hb7 1 (by simp) o
                      have c2 : ∀ o, (w7.alloc o).cell? ⟨w5.heap.size, 2, none⟩ = some (.int .i64 (B + f3)) := fun o => whole_cell hb7 2 (by simp) o
                      have hbel7 : Below w.heap.size w w7 := (hbel5.alloc hs5 _).trans (hb7.mono (by simp; omega))
                      have hs7 := hbel7.size
                      clear HB3 hb7 HF1 HF2 HF3
                      go_wp2
                      go_ret
                      exact ⟨by simp, hbel7.alloc hs7 _⟩

end Go.Proofs.Qxb6632282a
