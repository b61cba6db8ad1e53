/-
  FnLexExpressionGluesBackToInput: the walk out of the contracts.
-/
import Derived.Test.Qxb6632232aZz
import Derived.Laws.BytesArg
import Derived.Laws.IdiomStrings
namespace Go.Proofs.Qxb6632232a
open Go.RowKit
set_option linter.unusedVariables false

theorem conv_own {w : World} {base : Nat} {v : Value} {l : List UInt8} (h : w.ownsRow base 5 1 v l.length (Lib.byteCells l)) : (convert 27 9 v).run Try.prog w = .ok (.string (bs l)) w := by
  rcases h.2 with ⟨rfl, h0⟩ | ⟨g, cap, cur, rfl, hb, hg, h1, h2, h3, h4⟩
  · have e : l = [] := List.eq_nil_of_length_eq_zero h0
    subst e
    exact run_convert_bytes_nil (P := Try.prog) w 27 5 Try.underlying27 Try.underlying5 0 0 9 Try.underlying9
  · refine run_convert_bytes_back (P := Try.prog) w 27 9 5 ⟨g, 0, none⟩ cap l Try.underlying27 Try.underlying5 Try.underlying9 ?_
    intro j hj
    have h' : w.ownsRow base 5 1 (.slice (some ⟨g, 0, none⟩) l.length cap) l.length (Lib.byteCells l) := ⟨h.1, .inr ⟨g, cap, cur, rfl, hb, hg, h1, h2, h3, h4⟩⟩
    have e : (⟨g, 0, none⟩ : Addr).add j = ⟨g, j, none⟩ := by simp [Addr.add]; omega
    rw [e, h'.cellAt j (by omega)]
    unfold Lib.byteCells
    rw [List.getElem?_map, List.getElem?_eq_getElem hj]
    rfl

theorem kinds_at {T : List (Int × List UInt8)} {k : Nat} {t : Int × List UInt8} (h : T[k]? = some t) : (kinds T)[k]? = some (.int .i64 t.1) ∧ (texts T)[k]? = some (.string (bs t.2)) := by
  unfold kinds texts
  rw [List.getElem?_map, List.getElem?_map, h]
  exact ⟨rfl, rfl⟩

/-- both rows, read: the values, and the cells of each place -/
theorem rows_open {w : World} {base : Nat} {v1 v2 : Value} {T : List (Int × List UInt8)} (h1 : w.ownsRow base 3 1 v1 T.length (kinds T)) (h2 : w.ownsRow base 9 1 v2 T.length (texts T)) :
    ∃ a1 c1 a2 c2, v1 = .slice a1 T.length c1 ∧ v2 = .slice a2 T.length c2 ∧ ∀ k t, T[k]? = some t → ∃ g1 g2, a1 = some ⟨g1, 0, none⟩ ∧ a2 = some ⟨g2, 0, none⟩ ∧ g1 < w.heap.size ∧ g2 < w.heap.size ∧ w.cell? ⟨g1, k, none⟩ = some (.int .i64 t.1) ∧ w.cell? ⟨g2, k, none⟩ = some (.string (bs t.2)) := by
  obtain ⟨a1, c1, e1, f1⟩ := owns_shape h1
  obtain ⟨a2, c2, e2, f2⟩ := owns_shape h2
  refine ⟨a1, c1, a2, c2, e1, e2, fun k t hk => ?_⟩
  have hlt : k < T.length := by
    rcases Nat.lt_or_ge k T.length with h' | h'
    · exact h'
    · rw [List.getElem?_eq_none h'] at hk; simp at hk
  obtain ⟨g1, rfl, _, l1, m1⟩ := f1 (by omega)
  obtain ⟨g2, rfl, _, l2, m2⟩ := f2 (by omega)
  have := kinds_at hk
  exact ⟨g1, g2, rfl, rfl, l1, l2, by rw [m1 k (by omega)]; exact this.1, by rw [m2 k (by omega)]; exact this.2⟩

theorem topG_no (s : ByteArray) (w : World) (hn : ¬ s.size ≤ 1048576) (hm : s.size ≤ 9223372036854775807) : Calls Try.prog 4 #[.string s] w fun e w' => e = .returned (.bool true) ∧ Below w.heap.size w w' := by
  go_enter Try.func4, Try.ntmps4
  go_wp2_with (go_at_call 8; refine (bytes8_no _ _ hn hm).mono ?_; rintro e w' ⟨rfl, rfl⟩)
  go_ret
  exact ⟨rfl, Below.refl _ _⟩

theorem glue_take {T : List (Int × List UInt8)} {k : Nat} {t : Int × List UInt8} (h : T[k]? = some t) : M.glue (T.take (k + 1)) = M.glue (T.take k) ++ M.render t ∧ (M.glue (T.take k)).length + (M.render t).length ≤ (M.glue T).length := by
  have hk : k < T.length := by
    rcases Nat.lt_or_ge k T.length with h' | h'
    · exact h'
    · rw [List.getElem?_eq_none h'] at h; simp at h
  rw [List.getElem?_eq_getElem hk] at h
  have e : T[k] = t := Option.some.inj h
  have e1 : M.glue (T.take (k + 1)) = M.glue (T.take k) ++ M.render t := by
    rw [List.take_succ_eq_append_getElem hk, M.glue_append, e]; simp [M.glue]
  refine ⟨e1, ?_⟩
  have e2 : M.glue T = M.glue (T.take (k + 1)) ++ M.glue (T.drop (k + 1)) := by rw [← M.glue_append, List.take_append_drop]
  rw [e2, e1]
  simp only [List.length_append]
  omega

theorem byteCells_snoc (a b : List UInt8) : Lib.byteCells (a ++ b) = Lib.byteCells a ++ Lib.byteCells b := by unfold Lib.byteCells; rw [List.map_append]

theorem two_new (w : World) (a b : Value) (t : TypeId) : ∀ (j : Nat) (u : Value), [a, b][j]? = some u → (w.alloc (.cells #[a, b] t)).cell? ((⟨w.heap.size, 0, none⟩ : Addr).add j) = some u := by
  intro j u hj
  match j, hj with
  | 0, hj => simp at hj; subst hj; simp [Addr.add]
  | 1, hj => simp at hj; subst hj; simp [Addr.add]
theorem two_int (k : IntKind) (x y : Int) : ∀ u ∈ [Value.int k x, Value.int k y], u.oneCell' = true := by
  intro u hu; simp at hu; rcases hu with rfl | rfl <;> rfl

/-- one append of bytes to the row that is glued -/
theorem glue_step {w1 wr w2 : World} {u : Value} {o : Obj} {n : Nat} {X : List Value} (hb : Below w1.heap.size w1 wr) (hown : wr.ownsRow w1.heap.size 5 1 u n X) (hg : (wr.alloc o).grownBy w2 u.ownBlock) : Below w1.heap.size w1 w2 ∧ w1.heap.size ≤ w2.heap.size := by
  have hsz := hb.size
  have := (hb.alloc hsz o).grown hg (by simp; omega) (fun j hj => (hown.lt j hj).1)
  exact ⟨this, this.size⟩


theorem bs_list (l : List UInt8) : (bs l).data.toList = l := by unfold bs; simp

theorem dbl_take {l : List UInt8} {j : Nat} {d : UInt8} {r : List UInt8} (h : l.drop j = d :: r) : M.dbl (l.take (j + 1)) = M.dbl (l.take j) ++ (if d = 39 then [39, 39] else [d]) := by
  have hj := drop_cons_len h
  have e : l[j] = d := by
    have := congrArg List.head? h
    rw [List.head?_drop, List.getElem?_eq_getElem hj] at this
    simpa using this
  rw [List.take_succ_eq_append_getElem hj, M.dbl_append, e]
  congr 1

theorem dbl_le (l : List UInt8) (j : Nat) : (M.dbl (l.take j)).length ≤ (M.dbl l).length := by
  have e : M.dbl l = M.dbl (l.take j) ++ M.dbl (l.drop j) := by rw [← M.dbl_append, List.take_append_drop]
  rw [e, List.length_append]; omega

set_option maxHeartbeats 4000000 in
set_option maxRecDepth 1000000 in
theorem topG_any (s : ByteArray) (w : World) (hs : s.size ≤ 1048576) : Calls Try.prog 4 #[.string s] w fun e w' => e = .returned (.bool true) ∧ Below w.heap.size w w' := by
  obtain ⟨i5, hi5, hz50, hz51, hz52⟩ := info_parts Try.info5
  go_enter Try.func4, Try.ntmps4
  go_wp2_with (go_at_call 8; refine (bytes8_any _ _ hs).mono ?_; rintro e w' ⟨rfl, hw⟩; subst w')
  refine (zz_any s w hs).mono ?_
  rintro e w1 ⟨v1, v2, rfl, hr1, hr2, hbel⟩
  have HG : Hid (M.glue (M.lex s.data.toList) = M.want false s.data.toList) := M.glue_lex _
  have HW := M.want_len s.data.toList false
  rw [size_list] at HW
  have HWL : Hid ((M.glue (M.lex s.data.toList)).length ≤ s.size + 1) := by rw [HG.out]; exact HW
  have hNl : (M.lex s.data.toList).length ≤ 1048576 := by have := M.lex_len s.data.toList; rw [size_list] at this; omega
  generalize M.lex s.data.toList = T at *
  obtain ⟨a1, c1, a2, c2, e1, e2, hrows⟩ := rows_open hr1 hr2
  rw [e1, e2]
  have HR : Hid _ := hrows
  clear hrows e1 e2 hr1 hr2 HW
  have hsz := hbel.size
  go_wp2
  go_loopw [5, 6] (fun v i wr => ∃ k : Nat, i = .int .i64 k ∧ k ≤ T.length ∧ wr.ownsRow w1.heap.size 5 1 v (M.glue (T.take k)).length (Lib.byteCells (M.glue (T.take k))) ∧ Below w1.heap.size w1 wr)
    (fun _ i _ => T.length - (intOf i).toNat)
  case atStart => exact ⟨0, rfl, Nat.zero_le _, World.ownsRow_nil _ _ _ _, Below.refl _ _⟩
  case round =>
    obtain ⟨k, rfl, hk, hown, hb1⟩ := hrel
    have hsz1 := hb1.size
    by_cases hlt : k < T.length
    · obtain ⟨t, ht⟩ : ∃ t, T[k]? = some t := ⟨T[k], List.getElem?_eq_getElem hlt⟩
      obtain ⟨g1, g2, rfl, rfl, l1, l2, d1, d2⟩ := HR.out k t ht
      have d1 : wr.cell? ⟨g1, k, none⟩ = some (.int .i64 t.1) := (hb1.cell (by exact l1)).trans d1
      have d2' : w1.cell? ⟨g2, k, none⟩ = some (.string (bs t.2)) := d2
      have d2 : wr.cell? ⟨g2, k, none⟩ = some (.string (bs t.2)) := (hb1.cell (by exact l2)).trans d2
      obtain ⟨hg1, hg2⟩ := glue_take ht
      have HGT : Hid (M.glue (T.take (k + 1)) = M.glue (T.take k) ++ M.render t) := hg1
      have hgl : (M.glue (T.take k)).length + (M.render t).length ≤ 1048577 := by have := HWL.out; omega
      clear hg1 hg2 ht
      generalize M.glue (T.take k) = G at *
      by_cases hkind : t.1 = 1
      · have HRE : Hid (M.render t = 39 :: (M.dbl t.2 ++ [39])) := by show _ = _; unfold M.render; rw [if_pos hkind]
        have hrl : G.length + ((M.dbl t.2).length + 2) ≤ 1048577 := by rw [HRE.out] at hgl; simp at hgl; omega
        rw [hkind] at d1
        clear hgl hkind
        go_wp2_with (at_builtin; refine wpList_append_own _ rfl (.tmp 39) (.tmp 40) 27 rfl w1.heap.size 5 i5 (.int .u8 0) 1 1 Try.underlying27 hi5 hz50 hz51 hz52 rfl (by decide) _ _ _ rfl (hown.alloc _) ⟨wr.heap.size, 0, none⟩ 1 1 [.int .u8 39] rfl rfl (one_new _ _ _ _ rfl) (one_int _ _) (by unfold maxLen; omega) (by omega) (by simp; omega) ?_; intro v' w2 hown2 hgrow _; clear d1 d2)
        obtain ⟨B2, S2⟩ := glue_step hb1 hown hgrow
        have hown3 : w2.ownsRow w1.heap.size 5 1 v' (G ++ 39 :: M.dbl (t.2.take 0)).length (Lib.byteCells (G ++ 39 :: M.dbl (t.2.take 0))) := by
          rw [byteCells_snoc, List.length_append]; exact hown2
        clear hgrow hown hb1 hown2
        obtain ⟨x, hx⟩ : ∃ x, x = bs t.2 := ⟨_, rfl⟩
        have HXL : Hid (x.data.toList = t.2) := by rw [hx]; exact bs_list _
        have hxs : x.size = t.2.length := by rw [← size_list, HXL.out]
        have HXS : Hid (x.size = t.2.length) := hxs
        have hx20 : x.size ≤ 1048577 := by
          have h1 : ∀ l : List UInt8, l.length ≤ (M.dbl l).length := by
            intro l
            induction l with
            | nil => exact Nat.le_refl _
            | cons c r ih => unfold M.dbl; split <;> simp <;> omega
          have := h1 t.2; omega
        rw [← hx] at d2'
        clear hx hxs
        generalize t.2 = tx at *
        go_wp2
        go_loopw [5, 7] (fun v i wr => ∃ j : Nat, i = .int .i64 j ∧ j ≤ x.size ∧ wr.ownsRow w1.heap.size 5 1 v (G ++ 39 :: M.dbl (tx.take j)).length (Lib.byteCells (G ++ 39 :: M.dbl (tx.take j))) ∧ Below w1.heap.size w1 wr)
          (fun _ i _ => x.size - (intOf i).toNat)
        case atStart => exact ⟨0, rfl, Nat.zero_le _, hown3, B2⟩
        case round =>
          clear hown3 B2 S2
          obtain ⟨j, rfl, hj, hown, hb1⟩ := hrel
          have hsz2 := hb1.size
          have d2 : wr.cell? ⟨g2, k, none⟩ = some (.string x) := (hb1.cell (by exact l2)).trans d2'
          have hdl := dbl_le tx j
          have hEl : (G ++ 39 :: M.dbl (tx.take j)).length ≤ 1048577 := by simp only [List.length_append, List.length_cons]; omega
          clear hdl
          by_cases hltj : j < x.size
          · obtain ⟨d, r, hdr⟩ : ∃ d r, tx.drop j = d :: r := by
              cases h : tx.drop j with
              | nil => have := drop_nil_len h; have := HXS.out; omega
              | cons d r => exact ⟨d, r, rfl⟩
            have EB : x[j]'hltj = d := byte_at x _ HXL.out j hltj d r hdr
            have HDT : Hid (G ++ 39 :: M.dbl (tx.take (j + 1)) = (G ++ 39 :: M.dbl (tx.take j)) ++ (if d = 39 then [39, 39] else [d])) := by
              show _ = _; rw [dbl_take hdr]; simp
            clear hdr
            generalize G ++ 39 :: M.dbl (tx.take j) = E at *
            by_cases hd : d = 39
            · have hq : (((x[j]'hltj).toNat : Int) == 39) = true := by rw [EB, hd]; rfl
              rw [if_pos hd] at HDT
              clear EB hd
              go_wp2_with (at_builtin; refine wpList_append_own _ rfl (.tmp 58) (.tmp 59) 27 rfl w1.heap.size 5 i5 (.int .u8 0) 1 1 Try.underlying27 hi5 hz50 hz51 hz52 rfl (by decide) _ _ _ rfl (hown.alloc _) ⟨wr.heap.size, 0, none⟩ 2 2 [.int .u8 39, .int .u8 39] rfl rfl (two_new _ _ _ _) (two_int _ _ _) (by unfold maxLen; omega) (by omega) (by simp; omega) ?_; intro v4 w4 hown4 hgrow _)
              obtain ⟨B4, S4⟩ := glue_step hb1 hown hgrow
              clear hgrow hown hb1 d2
              go_wp2
              go_roundw
              case rel =>
                refine ⟨j + 1, by go_num, by omega, ?_, B4⟩
                rw [HDT.out, byteCells_snoc, List.length_append]; exact hown4
              case measure => simp [intOf]; omega
            · have hq : (((x[j]'hltj).toNat : Int) == 39) = false := by
                rw [EB]
                simp only [beq_eq_false_iff_ne, ne_eq]
                intro h
                exact hd (UInt8.toNat_inj.1 (by show d.toNat = 39; omega))
              rw [if_neg hd] at HDT
              have HC : Hid (((x[j]'hltj).toNat : Int) = (d.toNat : Int)) := by rw [EB]; rfl
              clear EB hd
              go_wp2_with (at_builtin; refine wpList_append_own _ rfl (.tmp 61) (.tmp 68) 27 rfl w1.heap.size 5 i5 (.int .u8 0) 1 1 Try.underlying27 hi5 hz50 hz51 hz52 rfl (by decide) _ _ _ rfl (hown.alloc _) ⟨wr.heap.size, 0, none⟩ 1 1 [.int .u8 ((x[j]'hltj).toNat : Int)] rfl rfl (one_new _ _ _ _ rfl) (one_int _ _) (by unfold maxLen; omega) (by omega) (by simp; omega) ?_; intro v4 w4 hown4 hgrow _)
              obtain ⟨B4, S4⟩ := glue_step hb1 hown hgrow
              clear hgrow hown hb1 d2
              go_wp2
              go_roundw
              case rel =>
                refine ⟨j + 1, by go_num, by omega, ?_, B4⟩
                rw [HC.out] at hown4
                rw [HDT.out, byteCells_snoc, List.length_append]; exact hown4
              case measure => simp [intOf]; omega
          · have HF : Hid (G ++ M.render t = (G ++ 39 :: M.dbl (tx.take j)) ++ [39]) := by
              show _ = _
              rw [HRE.out, List.take_of_length_le (by have := HXS.out; omega)]; simp
            generalize G ++ 39 :: M.dbl (tx.take j) = E at *
            go_wp2_with (at_builtin; refine wpList_append_own _ rfl (.tmp 70) (.tmp 71) 27 rfl w1.heap.size 5 i5 (.int .u8 0) 1 1 Try.underlying27 hi5 hz50 hz51 hz52 rfl (by decide) _ _ _ rfl (hown.alloc _) ⟨wr.heap.size, 0, none⟩ 1 1 [.int .u8 39] rfl rfl (one_new _ _ _ _ rfl) (one_int _ _) (by unfold maxLen; omega) (by omega) (by simp; omega) ?_; intro v4 w4 hown4 hgrow _)
            obtain ⟨B4, S4⟩ := glue_step hb1 hown hgrow
            clear hgrow hown hb1 d2
            go_wp2
            go_roundw
            case rel =>
              refine ⟨k + 1, by go_num, by omega, ?_, B4⟩
              rw [HGT.out, HF.out, byteCells_snoc, List.length_append]; exact hown4
            case measure => simp [intOf]; omega
      · have hkf : (t.1 == 1) = false := by simpa using hkind
        have HRE : Hid (M.render t = t.2) := by show _ = _; unfold M.render; rw [if_neg hkind]
        have hrl : G.length + t.2.length ≤ 1048577 := by rw [HRE.out] at hgl; exact hgl
        obtain ⟨x, hx⟩ : ∃ x, x = bs t.2 := ⟨_, rfl⟩
        have HXL : Hid (x.data.toList = t.2) := by rw [hx]; exact bs_list _
        have hxs : x.size ≤ t.2.length := by rw [← size_list, HXL.out]; exact Nat.le_refl _
        rw [← hx] at d2
        clear hx hgl hkind
        go_wp2_with (at_builtin; refine Lib.wpList_append_own_string _ rfl (.tmp 73) (.tmp 77) 27 9 rfl w1.heap.size 5 i5 Try.underlying27 Try.underlying9 hi5 hz50 hz51 hz52 _ _ _ rfl hown x rfl (by unfold maxLen; omega) (by omega) hsz1 ?_; intro v4 w4 hown4 hgrow _)
        have B4 : Below w1.heap.size w1 w4 := hb1.grown hgrow hsz1 (fun j hj => (hown.lt j hj).1)
        clear hgrow hown hb1 d2 d1
        go_wp2
        go_roundw
        case rel =>
          refine ⟨k + 1, by go_num, by omega, ?_, B4⟩
          rw [Lib.strCells_eq, HXL.out] at hown4
          have e : x.size = t.2.length := by rw [← size_list, HXL.out]
          rw [e] at hown4
          rw [HGT.out, HRE.out, byteCells_snoc, List.length_append]; exact hown4
        case measure => simp [intOf]; omega
    · obtain rfl : k = T.length := by omega
      rw [List.take_length] at hown
      obtain ⟨w2, rfl⟩ : ∃ x, x = wr := ⟨wr, rfl⟩
      have HOWN : Hid (w2.ownsRow w1.heap.size 5 1 u5 (M.glue T).length (Lib.byteCells (M.glue T))) := hown
      have hwr : Below w.heap.size w w2 := hbel.trans (hb1.mono hsz)
      have hszw := hwr.size
      clear hown hb1 hbel HR hk hlt
      have HWN : Hid ((M.want false s.data.toList).length ≤ s.size + 1) := by rw [← HG.out]; exact HWL.out
      have HS : Hid (s.data.toList.length = s.size) := size_list s
      go_wp2
      go_loopw [8, 9, 10] (fun v q i wx => ∃ (n m : Nat) (W : List UInt8), i = .int .i64 n ∧ n ≤ s.size ∧ q = .int .i64 m ∧ m ≤ n ∧ Hid (W ++ M.want (decide (m % 2 = 1)) (s.data.toList.drop n) = M.want false s.data.toList) ∧ wx.ownsRow w2.heap.size 5 1 v W.length (Lib.byteCells W) ∧ Below w2.heap.size w2 wx)
        (fun _ _ i _ => s.size - (intOf i).toNat)
      case atStart => exact ⟨0, 0, [], rfl, Nat.zero_le _, rfl, Nat.le_refl _, rfl, World.ownsRow_nil _ _ _ _, Below.refl _ _⟩
      case round =>
        obtain ⟨n, m, W, rfl, hn, rfl, hmn, HW, hown, hb1⟩ := hrel
        have hWl : W.length ≤ 1048577 := by
          have h1 := congrArg List.length HW.out
          rw [List.length_append] at h1
          have := HWN.out; omega
        have hsz1 := hb1.size
        by_cases hltn : n < s.size
        · obtain ⟨c, cs, hdr⟩ : ∃ d r, s.data.toList.drop n = d :: r := by
            cases h : s.data.toList.drop n with
            | nil => have := drop_nil_len h; have := HS.out; omega
            | cons d r => exact ⟨d, r, rfl⟩
          have EB : s[n]'hltn = c := byte_at s _ rfl n hltn c cs hdr
          have hrest := drop_step hdr
          have HC : Hid (((s[n]'hltn).toNat : Int) = (c.toNat : Int)) := by rw [EB]; rfl
          have h0 := HW.out
          rw [hdr, M.want] at h0
          by_cases hd : c = 39
          · have hq : (((s[n]'hltn).toNat : Int) == 39) = true := by rw [EB, hd]; rfl
            rw [if_pos hd] at h0
            have HN : Hid ((W ++ [c]) ++ M.want (decide ((m + 1) % 2 = 1)) (s.data.toList.drop (n + 1)) = M.want false s.data.toList) := by
              have e : decide ((m + 1) % 2 = 1) = !decide (m % 2 = 1) := by
                by_cases h : m % 2 = 1
                · rw [decide_eq_true h, decide_eq_false (by omega)]; rfl
                · rw [decide_eq_false h, decide_eq_true (by omega)]; rfl
              rw [e, hrest]
              show _ = _
              rw [← h0]; simp
            clear h0 hrest hdr EB hd HW
            go_wp2_with (at_builtin; refine wpList_append_own _ rfl (.tmp 99) (.tmp 101) 27 rfl w2.heap.size 5 i5 (.int .u8 0) 1 1 Try.underlying27 hi5 hz50 hz51 hz52 rfl (by decide) _ _ _ rfl (hown.alloc _) ⟨wr.heap.size, 0, none⟩ 1 1 [.int .u8 ((s[n]'hltn).toNat : Int)] rfl rfl (one_new _ _ _ _ rfl) (one_int _ _) (by unfold maxLen; omega) (by omega) (by simp; omega) ?_; intro v4 w4 hown4 hgrow _)
            obtain ⟨B4, S4⟩ := glue_step hb1 hown hgrow
            clear hgrow hown hb1
            go_wp2
            go_roundw
            case rel =>
              refine ⟨n + 1, m + 1, W ++ [c], by go_num, by omega, by go_num, by omega, HN, ?_, B4⟩
              rw [HC.out] at hown4
              rw [byteCells_snoc, List.length_append]; exact hown4
            case measure => simp [intOf]; omega
          · have hq : (((s[n]'hltn).toNat : Int) == 39) = false := by
              rw [EB]
              simp only [beq_eq_false_iff_ne, ne_eq]
              intro h
              exact hd (UInt8.toNat_inj.1 (by show c.toNat = 39; omega))
            rw [if_neg hd] at h0
            by_cases hm : m % 2 = 1
            · have hev : (((m : Int) % 2) == 0) = false := by simp only [beq_eq_false_iff_ne, ne_eq]; omega
              have HN : Hid ((W ++ [c]) ++ M.want (decide (m % 2 = 1)) (s.data.toList.drop (n + 1)) = M.want false s.data.toList) := by
                rw [if_neg (by rw [decide_eq_true hm]; simp)] at h0
                rw [hrest]
                show _ = _
                rw [← h0]; simp
              clear h0 hrest hdr EB hd HW hm
              go_wp2_with (at_builtin; refine wpList_append_own _ rfl (.tmp 99) (.tmp 101) 27 rfl w2.heap.size 5 i5 (.int .u8 0) 1 1 Try.underlying27 hi5 hz50 hz51 hz52 rfl (by decide) _ _ _ rfl (hown.alloc _) ⟨wr.heap.size, 0, none⟩ 1 1 [.int .u8 ((s[n]'hltn).toNat : Int)] rfl rfl (one_new _ _ _ _ rfl) (one_int _ _) (by unfold maxLen; omega) (by omega) (by simp; omega) ?_; intro v4 w4 hown4 hgrow _)
              obtain ⟨B4, S4⟩ := glue_step hb1 hown hgrow
              clear hgrow hown hb1
              go_wp2
              go_roundw
              case rel =>
                refine ⟨n + 1, m, W ++ [c], by go_num, by omega, rfl, by omega, HN, ?_, B4⟩
                rw [HC.out] at hown4
                rw [byteCells_snoc, List.length_append]; exact hown4
              case measure => simp [intOf]; omega
            · have hev : (((m : Int) % 2) == 0) = true := by simp only [beq_iff_eq]; omega
              by_cases hsp : M.isSp (c.toNat : Int) = true
              · have HSP : Hid (M.isSp ((s[n]'hltn).toNat : Int) = true) := by rw [EB]; exact hsp
                have HN : Hid (W ++ M.want (decide (m % 2 = 1)) (s.data.toList.drop (n + 1)) = M.want false s.data.toList) := by
                  rw [if_pos ⟨decide_eq_false hm, hsp⟩] at h0
                  rw [hrest]; exact h0
                clear h0 hrest hdr EB hd HW hm hsp
                go_wp2_with fail
                refine (space_any _ _).mono ?_
                rintro e w' ⟨rfl, hw⟩
                rw [hw, HSP.out]
                clear hw
                go_wp2
                go_roundw
                case rel => exact ⟨n + 1, m, W, by go_num, by omega, rfl, by omega, HN, hown, hb1⟩
                case measure => simp [intOf]; omega
              · have HSP : Hid (M.isSp ((s[n]'hltn).toNat : Int) = false) := by rw [EB]; show _ = _; simpa using hsp
                have HN : Hid ((W ++ [c]) ++ M.want (decide (m % 2 = 1)) (s.data.toList.drop (n + 1)) = M.want false s.data.toList) := by
                  rw [if_neg (fun h => hsp h.2)] at h0
                  rw [hrest]
                  show _ = _
                  rw [← h0]; simp
                clear h0 hrest hdr EB hd HW hm hsp
                go_wp2_with fail
                refine (space_any _ _).mono ?_
                rintro e w' ⟨rfl, hw⟩
                rw [hw, HSP.out]
                clear hw
                go_wp2_with (at_builtin; refine wpList_append_own _ rfl (.tmp 99) (.tmp 101) 27 rfl w2.heap.size 5 i5 (.int .u8 0) 1 1 Try.underlying27 hi5 hz50 hz51 hz52 rfl (by decide) _ _ _ rfl (hown.alloc _) ⟨wr.heap.size, 0, none⟩ 1 1 [.int .u8 ((s[n]'hltn).toNat : Int)] rfl rfl (one_new _ _ _ _ rfl) (one_int _ _) (by unfold maxLen; omega) (by omega) (by simp; omega) ?_; intro v4 w4 hown4 hgrow _)
                obtain ⟨B4, S4⟩ := glue_step hb1 hown hgrow
                clear hgrow hown hb1
                go_wp2
                go_roundw
                case rel =>
                  refine ⟨n + 1, m, W ++ [c], by go_num, by omega, rfl, by omega, HN, ?_, B4⟩
                  rw [HC.out] at hown4
                  rw [byteCells_snoc, List.length_append]; exact hown4
                case measure => simp [intOf]; omega
        · have h3 : s.data.toList.drop n = [] := List.drop_eq_nil_of_le (by rw [HS.out]; omega)
          have h0 := HW.out
          rw [h3, M.want] at h0
          by_cases hm : m % 2 = 1
          · have hodd : (((m : Int) % 2) == 1) = true := by simp only [beq_iff_eq]; omega
            rw [if_pos (decide_eq_true hm)] at h0
            have HF : Hid (M.glue T = W ++ [39]) := by rw [HG.out, ← h0]; rfl
            clear h0 h3 HW hm
            go_wp2_with (at_builtin; refine wpList_append_own _ rfl (.tmp 106) (.tmp 107) 27 rfl w2.heap.size 5 i5 (.int .u8 0) 1 1 Try.underlying27 hi5 hz50 hz51 hz52 rfl (by decide) _ _ _ rfl (hown.alloc _) ⟨wr.heap.size, 0, none⟩ 1 1 [.int .u8 39] rfl rfl (one_new _ _ _ _ rfl) (one_int _ _) (by unfold maxLen; omega) (by omega) (by simp; omega) ?_; intro v4 w4 hown4 hgrow _; obtain ⟨B4, S4⟩ := glue_step hb1 hown hgrow; have K1 := conv_own (owns_below HOWN.out B4); have K2 := conv_own (show w4.ownsRow w2.heap.size 5 1 v4 (M.glue T).length (Lib.byteCells (M.glue T)) from by (rw [HF.out, byteCells_snoc, List.length_append]; exact hown4)); clear hgrow hown hb1 hown4)
            go_ret
            exact ⟨by simp, hwr.trans (B4.mono hszw)⟩
          · have hodd : (((m : Int) % 2) == 1) = false := by simp only [beq_eq_false_iff_ne, ne_eq]; omega
            rw [if_neg (by simpa using hm), List.append_nil] at h0
            have HF : Hid (M.glue T = W) := by rw [HG.out, ← h0]; rfl
            have K1 := conv_own (owns_below HOWN.out hb1)
            have K2 := conv_own hown
            rw [← HF.out] at K2
            clear h0 h3 HW hm hown
            go_wp2
            go_ret
            exact ⟨by simp, hwr.trans (hb1.mono hszw)⟩

end Go.Proofs.Qxb6632232a
