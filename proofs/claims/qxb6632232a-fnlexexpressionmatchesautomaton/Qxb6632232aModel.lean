/-
  lexModel: the automaton's loop, state by state.
-/
import Derived.Test.Qxb6632232aTopG
namespace Go.Proofs.Qxb6632232a
open Go.RowKit
set_option linter.unusedVariables false

/-- what is still to come, at place n, in each state of the automaton -/
def Rel (l : List UInt8) (T : List (Int × List UInt8)) (start : Nat) (U : List UInt8) (n : Nat) : Nat → Prop
  | 0 => T ++ M.lex (l.drop n) = M.lex l
  | 1 => T ++ (0, (l.drop start).take (n - start) ++ (l.drop n).takeWhile M.nm) :: M.lex ((l.drop n).dropWhile M.nm) = M.lex l
  | 2 => T ++ (2, (l.drop start).take (n - start) ++ (l.drop n).takeWhile M.nmd) :: M.lex ((l.drop n).dropWhile M.nmd) = M.lex l
  | 3 => T ++ (1, U ++ (M.strA false (l.drop n)).1) :: M.lex (M.strA false (l.drop n)).2 = M.lex l
  | _ => T ++ (1, U ++ (M.strA true (l.drop n)).1) :: M.lex (M.strA true (l.drop n)).2 = M.lex l

theorem take_more {l : List UInt8} {start n : Nat} {c : UInt8} {cs : List UInt8} (h : l.drop n = c :: cs) (hs : start ≤ n) : (l.drop start).take (n + 1 - start) = (l.drop start).take (n - start) ++ [c] := by
  have e : n + 1 - start = (n - start) + 1 := by omega
  have hn := drop_cons_len h
  have hl : n - start < (l.drop start).length := by rw [List.length_drop]; omega
  rw [e, List.take_succ_eq_append_getElem hl]
  congr 1
  have h1 : (l.drop start)[n - start]? = some c := by
    rw [List.getElem?_drop]
    have : start + (n - start) = n := by omega
    rw [this]
    have h2 := congrArg List.head? h
    rw [List.head?_drop] at h2
    simpa using h2
  rw [List.getElem?_eq_getElem hl] at h1
  simpa using h1

theorem keep3 {base : Nat} {w wr w2 : World} {e1 e2 e3 : TypeId} {s1 s2 s3 : Nat} {v1 v2 v3 : Value} {n1 n2 n3 : Nat} {x1 x2 x3 : List Value} {o : Obj} (h1 : wr.ownsRow base e1 s1 v1 n1 x1) (h2 : wr.ownsRow base e2 s2 v2 n2 x2) (h3 : wr.ownsRow base e3 s3 v3 n3 x3)
    (hb : Below base w wr) (hw : base ≤ w.heap.size) (hg : (wr.alloc o).grownBy w2 v1.ownBlock) (h12 : e2 ≠ e1) (h13 : e3 ≠ e1) :
    w2.ownsRow base e2 s2 v2 n2 x2 ∧ w2.ownsRow base e3 s3 v3 n3 x3 ∧ Below base w w2 ∧ base ≤ w2.heap.size := by
  have hsz := hb.size
  have B := (hb.alloc (by omega) o).grown hg (by simp; omega) (fun j hj => (h1.lt j hj).1)
  exact ⟨(h2.alloc o).kept hg (owns_apart h2 h1 h12), (h3.alloc o).kept hg (owns_apart h3 h1 h13), B, Nat.le_trans hw B.size⟩

theorem kinds_snoc (T : List (Int × List UInt8)) (t : Int × List UInt8) : kinds (T ++ [t]) = kinds T ++ [.int .i64 t.1] ∧ texts (T ++ [t]) = texts T ++ [.string (bs t.2)] := by
  unfold kinds texts; simp

theorem len_of {T R : List (Int × List UInt8)} {L : List (Int × List UInt8)} (h : T ++ R = L) (hl : L.length ≤ 1048576) : T.length + R.length ≤ 1048576 := by
  rw [← h, List.length_append] at hl; exact hl

set_option maxHeartbeats 8000000 in
set_option maxRecDepth 1000000 in
theorem model_any (s : ByteArray) (w : World) (hs : s.size ≤ 1048576) :
    Calls Try.prog 7 #[.string s] w fun e w' => ∃ v1 v2, e = .returned (.tuple #[v1, v2]) ∧ w'.ownsRow w.heap.size 3 1 v1 (M.lex s.data.toList).length (kinds (M.lex s.data.toList)) ∧ w'.ownsRow w.heap.size 9 1 v2 (M.lex s.data.toList).length (texts (M.lex s.data.toList)) ∧ Below w.heap.size w w' := by
  obtain ⟨i3, hi3, hz30, hz31, hz32⟩ := info_parts Try.info3
  obtain ⟨i9, hi9, hz90, hz91, hz92⟩ := info_parts Try.info9
  obtain ⟨i5, hi5, hz50, hz51, hz52⟩ := info_parts Try.info5
  have HLL := M.lex_len s.data.toList
  rw [size_list] at HLL
  have HLN : Hid ((M.lex s.data.toList).length ≤ 1048576) := by show _ ≤ _; omega
  have HS : Hid (s.data.toList.length = s.size) := size_list s
  clear HLL
  go_enter Try.func7, Try.ntmps7
  go_wp2
  go_loopw [4, 5, 6, 7, 8, 9] (fun a b st sa bf i wr => ∃ (n q start : Nat) (T : List (Int × List UInt8)) (U : List UInt8), i = .int .i64 n ∧ n ≤ s.size ∧ st = .int .i64 q ∧ q ≤ 4 ∧ sa = .int .i64 start ∧ start ≤ n ∧ T.length ≤ 1048576 ∧ U.length ≤ n ∧
      Hid (Rel s.data.toList T start U n q) ∧ wr.ownsRow w.heap.size 3 1 a T.length (kinds T) ∧ wr.ownsRow w.heap.size 9 1 b T.length (texts T) ∧ wr.ownsRow w.heap.size 5 1 bf U.length (Lib.byteCells U) ∧ Below w.heap.size w wr)
    (fun _ _ _ _ _ i _ => s.size - (intOf i).toNat)
  case atStart => exact ⟨0, 0, 0, [], [], rfl, Nat.zero_le _, rfl, by omega, rfl, Nat.le_refl _, Nat.zero_le _, Nat.le_refl _, rfl, World.ownsRow_nil _ _ _ _, World.ownsRow_nil _ _ _ _, World.ownsRow_nil _ _ _ _, Below.refl _ _⟩
  case round =>
    obtain ⟨n, q, start, T, U, rfl, hn, rfl, hq, rfl, hst, hTl, hUl, HREL, hk, ht, hb, hbel⟩ := hrel
    have hsz := hbel.size
    by_cases hlt : n < s.size
    · obtain ⟨c, cs, hdr⟩ : ∃ d r, s.data.toList.drop n = d :: r := by
        cases h : s.data.toList.drop n with
        | nil => have := drop_nil_len h; have := HS.out; omega
        | cons d r => exact ⟨d, r, rfl⟩
      have HEB : Hid (s[n]'hlt = c) := byte_at s _ rfl n hlt c cs hdr
      have HDR : Hid (s.data.toList.drop n = c :: cs) := hdr
      have HR1 : Hid (s.data.toList.drop (n + 1) = cs) := drop_step hdr
      have HC : Hid (((s[n]'hlt).toNat : Int) = (c.toNat : Int)) := by rw [HEB.out]; rfl
      clear hdr
      rcases (show q = 0 ∨ q = 1 ∨ q = 2 ∨ q = 3 ∨ q = 4 by omega) with rfl | rfl | rfl | rfl | rfl
      · have HG : Hid (T ++ M.lex (s.data.toList.drop n) = M.lex s.data.toList) := HREL.out
        clear HREL
        have hX := M.lex_cons c cs
        by_cases g1 : M.isSp (c.toNat : Int) = true
        · have H1 : Hid (M.isSp ((s[n]'hlt).toNat : Int) = true) := by rw [HEB.out]; exact g1
          have HN : Hid (Rel s.data.toList T start U (n + 1) 0) := by
            have h2 := HG.out
            rw [HDR.out, hX, if_pos g1] at h2
            show T ++ M.lex (s.data.toList.drop (n + 1)) = _
            rw [HR1.out]; exact h2
          clear hX g1 HEB
          go_wp2_with fail
          refine (space_any _ _).mono ?_
          rintro e w' ⟨rfl, hw⟩
          rw [hw, H1.out]
          clear hw
          go_wp2
          go_roundw
          case rel => exact ⟨n + 1, 0, start, T, U, by go_num, by omega, by go_num, by omega, rfl, by omega, hTl, by omega, HN, hk, ht, hb, hbel⟩
          case measure => simp [intOf]; omega
        · have H1 : Hid (M.isSp ((s[n]'hlt).toNat : Int) = false) := by rw [HEB.out]; show _ = _; simpa using g1
          rw [if_neg g1] at hX
          by_cases g2 : M.isLet (c.toNat : Int) = true
          · have H2 : Hid (M.isLet ((s[n]'hlt).toNat : Int) = true) := by rw [HEB.out]; exact g2
            have HN : Hid (Rel s.data.toList T n U (n + 1) 1) := by
              have h2 := HG.out
              rw [HDR.out, hX, if_pos g2] at h2
              show T ++ (0, (s.data.toList.drop n).take (n + 1 - n) ++ (s.data.toList.drop (n + 1)).takeWhile M.nm) :: M.lex ((s.data.toList.drop (n + 1)).dropWhile M.nm) = _
              rw [HR1.out, HDR.out, Nat.add_sub_cancel_left]; exact h2
            clear hX g1 g2 HEB
            go_wp2_with fail
            refine (space_any _ _).mono ?_
            rintro e w' ⟨rfl, hw⟩
            rw [hw, H1.out]
            clear hw
            go_wp2_with fail
            refine (letter_any _ _).mono ?_
            rintro e w' ⟨rfl, hw⟩
            rw [hw, H2.out]
            clear hw
            go_wp2
            go_roundw
            case rel => exact ⟨n + 1, 1, n, T, U, by go_num, by omega, by go_num, by omega, rfl, by omega, hTl, by omega, HN, hk, ht, hb, hbel⟩
            case measure => simp [intOf]; omega
          · have H2 : Hid (M.isLet ((s[n]'hlt).toNat : Int) = false) := by rw [HEB.out]; show _ = _; simpa using g2
            rw [if_neg g2] at hX
            by_cases g3 : M.isDig (c.toNat : Int) = true
            · have H3 : Hid (M.isDig ((s[n]'hlt).toNat : Int) = true) := by rw [HEB.out]; exact g3
              have HN : Hid (Rel s.data.toList T n U (n + 1) 2) := by
                have h2 := HG.out
                rw [HDR.out, hX, if_pos g3] at h2
                show T ++ (2, (s.data.toList.drop n).take (n + 1 - n) ++ (s.data.toList.drop (n + 1)).takeWhile M.nmd) :: M.lex ((s.data.toList.drop (n + 1)).dropWhile M.nmd) = _
                rw [HR1.out, HDR.out, Nat.add_sub_cancel_left]; exact h2
              clear hX g1 g2 g3 HEB
              go_wp2_with fail
              refine (space_any _ _).mono ?_
              rintro e w' ⟨rfl, hw⟩
              rw [hw, H1.out]
              clear hw
              go_wp2_with fail
              refine (letter_any _ _).mono ?_
              rintro e w' ⟨rfl, hw⟩
              rw [hw, H2.out]
              clear hw
              go_wp2_with fail
              refine (digit_any _ _).mono ?_
              rintro e w' ⟨rfl, hw⟩
              rw [hw, H3.out]
              clear hw
              go_wp2
              go_roundw
              case rel => exact ⟨n + 1, 2, n, T, U, by go_num, by omega, by go_num, by omega, rfl, by omega, hTl, by omega, HN, hk, ht, hb, hbel⟩
              case measure => simp [intOf]; omega
            · have H3 : Hid (M.isDig ((s[n]'hlt).toNat : Int) = false) := by rw [HEB.out]; show _ = _; simpa using g3
              rw [if_neg g3] at hX
              by_cases g4 : c = 39
              · have hq39 : (((s[n]'hlt).toNat : Int) == 39) = true := by rw [HEB.out, g4]; rfl
                have HN : Hid (Rel s.data.toList T start [] (n + 1) 3) := by
                  have h2 := HG.out
                  rw [HDR.out, hX, if_pos g4] at h2
                  show T ++ (1, [] ++ (M.strA false (s.data.toList.drop (n + 1))).1) :: M.lex (M.strA false (s.data.toList.drop (n + 1))).2 = _
                  rw [HR1.out]; exact h2
                clear hX g1 g2 g3 g4 HEB
                go_wp2_with fail
                refine (space_any _ _).mono ?_
                rintro e w' ⟨rfl, hw⟩
                rw [hw, H1.out]
                clear hw
                go_wp2_with fail
                refine (letter_any _ _).mono ?_
                rintro e w' ⟨rfl, hw⟩
                rw [hw, H2.out]
                clear hw
                go_wp2_with fail
                refine (digit_any _ _).mono ?_
                rintro e w' ⟨rfl, hw⟩
                rw [hw, H3.out]
                clear hw
                go_wp2
                go_roundw
                case rel => exact ⟨n + 1, 3, start, T, [], by go_num, by omega, by go_num, by omega, rfl, by omega, hTl, Nat.zero_le _, HN, hk, ht, World.ownsRow_nil _ _ _ _, hbel⟩
                case measure => simp [intOf]; omega
              · have hq39 : (((s[n]'hlt).toNat : Int) == 39) = false := by
                  rw [HEB.out]
                  simp only [beq_eq_false_iff_ne, ne_eq]
                  intro h
                  exact g4 (UInt8.toNat_inj.1 (by show c.toNat = 39; omega))
                have HE := HG.out
                rw [HDR.out, hX, if_neg g4] at HE
                have hT1 : T.length + 1 ≤ 1048576 := by have := len_of HE HLN.out; simp only [List.length_cons] at this; omega
                have HN : Hid (Rel s.data.toList (T ++ [(2, [c])]) start U (n + 1) 0) := by
                  show (T ++ [(2, [c])]) ++ M.lex (s.data.toList.drop (n + 1)) = _
                  rw [HR1.out, ← HE]; simp
                have HTX : Hid (s.extract n (n + 1) = bs [c]) := ext_eq _ _ _ _ (by rw [Nat.add_sub_cancel_left, HDR.out]; rfl)
                have HKS : Hid _ := kinds_snoc T (2, [c])
                clear hX g1 g2 g3 g4 HEB HE
                go_wp2_with fail
                refine (space_any _ _).mono ?_
                rintro e w' ⟨rfl, hw⟩
                rw [hw, H1.out]
                clear hw
                go_wp2_with fail
                refine (letter_any _ _).mono ?_
                rintro e w' ⟨rfl, hw⟩
                rw [hw, H2.out]
                clear hw
                go_wp2_with fail
                refine (digit_any _ _).mono ?_
                rintro e w' ⟨rfl, hw⟩
                rw [hw, H3.out]
                clear hw
                go_wp2_with (first
                  | (at_builtin; refine wpList_append_own _ rfl (.tmp 86) (.tmp 87) 23 rfl w.heap.size 3 i3 (.int .i64 0) 1 8 Try.underlying23 hi3 hz30 hz31 hz32 rfl (by decide) _ _ _ rfl (hk.alloc _) ⟨wr.heap.size, 0, none⟩ 1 1 [.int .i64 2] rfl rfl (one_new _ _ _ _ rfl) (one_int _ _) (by unfold maxLen; omega) (by omega) (by simp; omega) ?_; intro vk wk hk' hgk _; obtain ⟨ht', hb', hbel', hsz'⟩ := keep3 hk ht hb hbel (Nat.le_refl _) hgk (by decide) (by decide); clear hk ht hb hbel hgk)
                  | (at_builtin; refine wpList_append_own _ rfl (.tmp 89) (.tmp 95) 24 rfl w.heap.size 9 i9 (.string ⟨#[]⟩) 1 16 Try.underlying24 hi9 hz90 hz91 hz92 rfl (by decide) _ _ _ rfl (ht'.alloc _) ⟨wk.heap.size, 0, none⟩ 1 1 [.string (s.extract n (n + 1))] rfl rfl (one_new _ _ _ _ rfl) (one_str _) (by unfold maxLen; omega) (by omega) (by simp; omega) ?_; intro vt wt ht2 hgt _; obtain ⟨hk2, hb2, hbel2, hsz2⟩ := keep3 ht' hk' hb' hbel' (Nat.le_refl _) hgt (by decide) (by decide); clear hk' ht' hb' hbel' hgt))
                go_roundw
                case rel =>
                  refine ⟨n + 1, 0, start, T ++ [(2, [c])], U, by go_num, by omega, by go_num, by omega, rfl, by omega, by simp only [List.length_append, List.length_cons, List.length_nil]; omega, by omega, HN, ?_, ?_, hb2, hbel2⟩
                  · rw [HKS.out.1, List.length_append]; exact hk2
                  · rw [HTX.out] at ht2
                    rw [HKS.out.2, List.length_append]; exact ht2
                case measure => simp [intOf]; omega

      · have h0 := HREL.out
        have HEXT : Hid (s.extract start n = bs ((s.data.toList.drop start).take (n - start))) := ext_eq _ _ _ _ rfl
        replace h0 : T ++ (0, (s.data.toList.drop start).take (n - start) ++ (s.data.toList.drop n).takeWhile M.nm) :: M.lex ((s.data.toList.drop n).dropWhile M.nm) = M.lex s.data.toList := h0
        by_cases g0 : M.nm c = true
        · have HN : Hid (Rel s.data.toList T start U (n + 1) 1) := by
            show T ++ (0, (s.data.toList.drop start).take (n + 1 - start) ++ (s.data.toList.drop (n + 1)).takeWhile M.nm) :: M.lex ((s.data.toList.drop (n + 1)).dropWhile M.nm) = _
            rw [HDR.out, M.tw_cons, if_pos g0, M.dw_cons, if_pos g0] at h0
            rw [take_more HDR.out hst, HR1.out, ← h0]; simp
          clear h0 HREL
          have H0 : Hid (M.isNm ((s[n]'hlt).toNat : Int) = true) := by rw [HEB.out]; exact g0
          clear g0 HEB
          go_wp2_with fail
          refine (nameByte_any _ _).mono ?_
          rintro e w' ⟨rfl, hw⟩
          rw [hw, H0.out]
          clear hw
          go_wp2
          go_roundw
          case rel => exact ⟨n + 1, 1, start, T, U, by go_num, by omega, by go_num, by omega, rfl, by omega, hTl, by omega, HN, hk, ht, hb, hbel⟩
          case measure => simp [intOf]; omega
        · have HT1 := h0
          have hT1 : T.length + 1 ≤ 1048576 := by have := len_of h0 HLN.out; simp only [List.length_cons] at this; omega
          have HG : Hid ((T ++ [(0, (s.data.toList.drop start).take (n - start))]) ++ M.lex (s.data.toList.drop n) = M.lex s.data.toList) := by
            rw [HDR.out, M.tw_cons, if_neg g0, M.dw_cons, if_neg g0, List.append_nil] at h0
            show _ = _
            rw [HDR.out, ← h0]; simp
          have HKS : Hid _ := kinds_snoc T (0, (s.data.toList.drop start).take (n - start))
          have HTX : Hid (s.extract start n = bs ((s.data.toList.drop start).take (n - start))) := HEXT
          clear h0 HREL HT1 HEXT
          have H0 : Hid (M.isNm ((s[n]'hlt).toNat : Int) = false) := by rw [HEB.out]; show _ = _; simpa [M.nm] using g0
          clear g0
          go_wp2_with fail
          refine (nameByte_any _ _).mono ?_
          rintro e w' ⟨rfl, hw⟩
          rw [hw, H0.out]
          clear hw
          go_wp2_with (first
            | (at_builtin; refine wpList_append_own _ rfl (.tmp 24) (.tmp 25) 23 rfl w.heap.size 3 i3 (.int .i64 0) 1 8 Try.underlying23 hi3 hz30 hz31 hz32 rfl (by decide) _ _ _ rfl (hk.alloc _) ⟨wr.heap.size, 0, none⟩ 1 1 [.int .i64 0] rfl rfl (one_new _ _ _ _ rfl) (one_int _ _) (by unfold maxLen; omega) (by omega) (by simp; omega) ?_; intro vk wk hk' hgk _; obtain ⟨ht', hb', hbel', hsz'⟩ := keep3 hk ht hb hbel (Nat.le_refl _) hgk (by decide) (by decide); clear hk ht hb hbel hgk)
            | (at_builtin; refine wpList_append_own _ rfl (.tmp 27) (.tmp 32) 24 rfl w.heap.size 9 i9 (.string ⟨#[]⟩) 1 16 Try.underlying24 hi9 hz90 hz91 hz92 rfl (by decide) _ _ _ rfl (ht'.alloc _) ⟨wk.heap.size, 0, none⟩ 1 1 [.string (s.extract start n)] rfl rfl (one_new _ _ _ _ rfl) (one_str _) (by unfold maxLen; omega) (by omega) (by simp; omega) ?_; intro vt wt ht2 hgt _; obtain ⟨hk2, hb2, hbel2, hsz2⟩ := keep3 ht' hk' hb' hbel' (Nat.le_refl _) hgt (by decide) (by decide); clear hk' ht' hb' hbel' hgt)
            | fail)
          have hk : wt.ownsRow w.heap.size 3 1 vk (T ++ [(0, (s.data.toList.drop start).take (n - start))]).length (kinds (T ++ [(0, (s.data.toList.drop start).take (n - start))])) := by rw [HKS.out.1, List.length_append]; exact hk2
          have ht : wt.ownsRow w.heap.size 9 1 vt (T ++ [(0, (s.data.toList.drop start).take (n - start))]).length (texts (T ++ [(0, (s.data.toList.drop start).take (n - start))])) := by
            rw [HTX.out] at ht2
            rw [HKS.out.2, List.length_append]; exact ht2
          have hb := hb2
          have hbel := hbel2
          have hsz := hsz2
          have hTl : (T ++ [(0, (s.data.toList.drop start).take (n - start))]).length ≤ 1048576 := by simp only [List.length_append, List.length_cons, List.length_nil]; omega
          clear hk2 ht2 hb2 hbel2 hsz2 HKS HTX hsz' hT1
          generalize T ++ [(0, (s.data.toList.drop start).take (n - start))] = T at hk ht HG hTl
          have hX := M.lex_cons c cs
          by_cases g1 : M.isSp (c.toNat : Int) = true
          · have H1 : Hid (M.isSp ((s[n]'hlt).toNat : Int) = true) := by rw [HEB.out]; exact g1
            have HN : Hid (Rel s.data.toList T start U (n + 1) 0) := by
              have h2 := HG.out
              rw [HDR.out, hX, if_pos g1] at h2
              show T ++ M.lex (s.data.toList.drop (n + 1)) = _
              rw [HR1.out]; exact h2
            clear hX g1 HEB
            go_wp2_with fail
            refine (space_any _ _).mono ?_
            rintro e w' ⟨rfl, hw⟩
            rw [hw, H1.out]
            clear hw
            go_wp2
            go_roundw
            case rel => exact ⟨n + 1, 0, start, T, U, by go_num, by omega, by go_num, by omega, rfl, by omega, hTl, by omega, HN, hk, ht, hb, hbel⟩
            case measure => simp [intOf]; omega
          · have H1 : Hid (M.isSp ((s[n]'hlt).toNat : Int) = false) := by rw [HEB.out]; show _ = _; simpa using g1
            rw [if_neg g1] at hX
            by_cases g2 : M.isLet (c.toNat : Int) = true
            · have H2 : Hid (M.isLet ((s[n]'hlt).toNat : Int) = true) := by rw [HEB.out]; exact g2
              have HN : Hid (Rel s.data.toList T n U (n + 1) 1) := by
                have h2 := HG.out
                rw [HDR.out, hX, if_pos g2] at h2
                show T ++ (0, (s.data.toList.drop n).take (n + 1 - n) ++ (s.data.toList.drop (n + 1)).takeWhile M.nm) :: M.lex ((s.data.toList.drop (n + 1)).dropWhile M.nm) = _
                rw [HR1.out, HDR.out, Nat.add_sub_cancel_left]; exact h2
              clear hX g1 g2 HEB
              go_wp2_with fail
              refine (space_any _ _).mono ?_
              rintro e w' ⟨rfl, hw⟩
              rw [hw, H1.out]
              clear hw
              go_wp2_with fail
              refine (letter_any _ _).mono ?_
              rintro e w' ⟨rfl, hw⟩
              rw [hw, H2.out]
              clear hw
              go_wp2
              go_roundw
              case rel => exact ⟨n + 1, 1, n, T, U, by go_num, by omega, by go_num, by omega, rfl, by omega, hTl, by omega, HN, hk, ht, hb, hbel⟩
              case measure => simp [intOf]; omega
            · have H2 : Hid (M.isLet ((s[n]'hlt).toNat : Int) = false) := by rw [HEB.out]; show _ = _; simpa using g2
              rw [if_neg g2] at hX
              by_cases g3 : M.isDig (c.toNat : Int) = true
              · have H3 : Hid (M.isDig ((s[n]'hlt).toNat : Int) = true) := by rw [HEB.out]; exact g3
                have HN : Hid (Rel s.data.toList T n U (n + 1) 2) := by
                  have h2 := HG.out
                  rw [HDR.out, hX, if_pos g3] at h2
                  show T ++ (2, (s.data.toList.drop n).take (n + 1 - n) ++ (s.data.toList.drop (n + 1)).takeWhile M.nmd) :: M.lex ((s.data.toList.drop (n + 1)).dropWhile M.nmd) = _
                  rw [HR1.out, HDR.out, Nat.add_sub_cancel_left]; exact h2
                clear hX g1 g2 g3 HEB
                go_wp2_with fail
                refine (space_any _ _).mono ?_
                rintro e w' ⟨rfl, hw⟩
                rw [hw, H1.out]
                clear hw
                go_wp2_with fail
                refine (letter_any _ _).mono ?_
                rintro e w' ⟨rfl, hw⟩
                rw [hw, H2.out]
                clear hw
                go_wp2_with fail
                refine (digit_any _ _).mono ?_
                rintro e w' ⟨rfl, hw⟩
                rw [hw, H3.out]
                clear hw
                go_wp2
                go_roundw
                case rel => exact ⟨n + 1, 2, n, T, U, by go_num, by omega, by go_num, by omega, rfl, by omega, hTl, by omega, HN, hk, ht, hb, hbel⟩
                case measure => simp [intOf]; omega
              · have H3 : Hid (M.isDig ((s[n]'hlt).toNat : Int) = false) := by rw [HEB.out]; show _ = _; simpa using g3
                rw [if_neg g3] at hX
                by_cases g4 : c = 39
                · have hq39 : (((s[n]'hlt).toNat : Int) == 39) = true := by rw [HEB.out, g4]; rfl
                  have HN : Hid (Rel s.data.toList T start [] (n + 1) 3) := by
                    have h2 := HG.out
                    rw [HDR.out, hX, if_pos g4] at h2
                    show T ++ (1, [] ++ (M.strA false (s.data.toList.drop (n + 1))).1) :: M.lex (M.strA false (s.data.toList.drop (n + 1))).2 = _
                    rw [HR1.out]; exact h2
                  clear hX g1 g2 g3 g4 HEB
                  go_wp2_with fail
                  refine (space_any _ _).mono ?_
                  rintro e w' ⟨rfl, hw⟩
                  rw [hw, H1.out]
                  clear hw
                  go_wp2_with fail
                  refine (letter_any _ _).mono ?_
                  rintro e w' ⟨rfl, hw⟩
                  rw [hw, H2.out]
                  clear hw
                  go_wp2_with fail
                  refine (digit_any _ _).mono ?_
                  rintro e w' ⟨rfl, hw⟩
                  rw [hw, H3.out]
                  clear hw
                  go_wp2
                  go_roundw
                  case rel => exact ⟨n + 1, 3, start, T, [], by go_num, by omega, by go_num, by omega, rfl, by omega, hTl, Nat.zero_le _, HN, hk, ht, World.ownsRow_nil _ _ _ _, hbel⟩
                  case measure => simp [intOf]; omega
                · have hq39 : (((s[n]'hlt).toNat : Int) == 39) = false := by
                    rw [HEB.out]
                    simp only [beq_eq_false_iff_ne, ne_eq]
                    intro h
                    exact g4 (UInt8.toNat_inj.1 (by show c.toNat = 39; omega))
                  have HE := HG.out
                  rw [HDR.out, hX, if_neg g4] at HE
                  have hT1 : T.length + 1 ≤ 1048576 := by have := len_of HE HLN.out; simp only [List.length_cons] at this; omega
                  have HN : Hid (Rel s.data.toList (T ++ [(2, [c])]) start U (n + 1) 0) := by
                    show (T ++ [(2, [c])]) ++ M.lex (s.data.toList.drop (n + 1)) = _
                    rw [HR1.out, ← HE]; simp
                  have HTX : Hid (s.extract n (n + 1) = bs [c]) := ext_eq _ _ _ _ (by rw [Nat.add_sub_cancel_left, HDR.out]; rfl)
                  have HKS : Hid _ := kinds_snoc T (2, [c])
                  clear hX g1 g2 g3 g4 HEB HE
                  go_wp2_with fail
                  refine (space_any _ _).mono ?_
                  rintro e w' ⟨rfl, hw⟩
                  rw [hw, H1.out]
                  clear hw
                  go_wp2_with fail
                  refine (letter_any _ _).mono ?_
                  rintro e w' ⟨rfl, hw⟩
                  rw [hw, H2.out]
                  clear hw
                  go_wp2_with fail
                  refine (digit_any _ _).mono ?_
                  rintro e w' ⟨rfl, hw⟩
                  rw [hw, H3.out]
                  clear hw
                  go_wp2_with (first
                    | (at_builtin; refine wpList_append_own _ rfl (.tmp 86) (.tmp 87) 23 rfl w.heap.size 3 i3 (.int .i64 0) 1 8 Try.underlying23 hi3 hz30 hz31 hz32 rfl (by decide) _ _ _ rfl (hk.alloc _) ⟨wt.heap.size, 0, none⟩ 1 1 [.int .i64 2] rfl rfl (one_new _ _ _ _ rfl) (one_int _ _) (by unfold maxLen; omega) (by omega) (by simp; omega) ?_; intro vk wk hk' hgk _; obtain ⟨ht', hb', hbel', hsz'⟩ := keep3 hk ht hb hbel (Nat.le_refl _) hgk (by decide) (by decide); clear hk ht hb hbel hgk)
                    | (at_builtin; refine wpList_append_own _ rfl (.tmp 89) (.tmp 95) 24 rfl w.heap.size 9 i9 (.string ⟨#[]⟩) 1 16 Try.underlying24 hi9 hz90 hz91 hz92 rfl (by decide) _ _ _ rfl (ht'.alloc _) ⟨wk.heap.size, 0, none⟩ 1 1 [.string (s.extract n (n + 1))] rfl rfl (one_new _ _ _ _ rfl) (one_str _) (by unfold maxLen; omega) (by omega) (by simp; omega) ?_; intro vt wt ht2 hgt _; obtain ⟨hk2, hb2, hbel2, hsz2⟩ := keep3 ht' hk' hb' hbel' (Nat.le_refl _) hgt (by decide) (by decide); clear hk' ht' hb' hbel' hgt))
                  go_roundw
                  case rel =>
                    refine ⟨n + 1, 0, start, T ++ [(2, [c])], U, by go_num, by omega, by go_num, by omega, rfl, by omega, by simp only [List.length_append, List.length_cons, List.length_nil]; omega, by omega, HN, ?_, ?_, hb2, hbel2⟩
                    · rw [HKS.out.1, List.length_append]; exact hk2
                    · rw [HTX.out] at ht2
                      rw [HKS.out.2, List.length_append]; exact ht2
                  case measure => simp [intOf]; omega

      · have h0 := HREL.out
        have HEXT : Hid (s.extract start n = bs ((s.data.toList.drop start).take (n - start))) := ext_eq _ _ _ _ rfl
        replace h0 : T ++ (2, (s.data.toList.drop start).take (n - start) ++ (s.data.toList.drop n).takeWhile M.nmd) :: M.lex ((s.data.toList.drop n).dropWhile M.nmd) = M.lex s.data.toList := h0
        by_cases g0 : M.nmd c = true
        · have HN : Hid (Rel s.data.toList T start U (n + 1) 2) := by
            show T ++ (2, (s.data.toList.drop start).take (n + 1 - start) ++ (s.data.toList.drop (n + 1)).takeWhile M.nmd) :: M.lex ((s.data.toList.drop (n + 1)).dropWhile M.nmd) = _
            rw [HDR.out, M.tw_cons, if_pos g0, M.dw_cons, if_pos g0] at h0
            rw [take_more HDR.out hst, HR1.out, ← h0]; simp
          clear h0 HREL
          have H0 : Hid (M.isNm ((s[n]'hlt).toNat : Int) = true ∨ (M.isNm ((s[n]'hlt).toNat : Int) = false ∧ (((s[n]'hlt).toNat : Int) == 46) = true)) := by
            rw [HEB.out]
            unfold M.nmd at g0
            cases hh : M.isNm (c.toNat : Int) with
            | true => exact .inl rfl
            | false => rw [hh] at g0; exact .inr ⟨rfl, by simpa using g0⟩
          clear g0 HEB
          rcases H0.out with hA | ⟨hA, hdot⟩
          · have HA : Hid (M.isNm ((s[n]'hlt).toNat : Int) = true) := hA
            clear hA H0
            go_wp2_with fail
            refine (nameByte_any _ _).mono ?_
            rintro e w' ⟨rfl, hw⟩
            rw [hw, HA.out]
            clear hw
            go_wp2
            go_roundw
            case rel => exact ⟨n + 1, 2, start, T, U, by go_num, by omega, by go_num, by omega, rfl, by omega, hTl, by omega, HN, hk, ht, hb, hbel⟩
            case measure => simp [intOf]; omega
          · have HA : Hid (M.isNm ((s[n]'hlt).toNat : Int) = false) := hA
            clear hA H0
            go_wp2_with fail
            refine (nameByte_any _ _).mono ?_
            rintro e w' ⟨rfl, hw⟩
            rw [hw, HA.out]
            clear hw
            go_wp2
            go_roundw
            case rel => exact ⟨n + 1, 2, start, T, U, by go_num, by omega, by go_num, by omega, rfl, by omega, hTl, by omega, HN, hk, ht, hb, hbel⟩
            case measure => simp [intOf]; omega

        · have HT1 := h0
          have hT1 : T.length + 1 ≤ 1048576 := by have := len_of h0 HLN.out; simp only [List.length_cons] at this; omega
          have HG : Hid ((T ++ [(2, (s.data.toList.drop start).take (n - start))]) ++ M.lex (s.data.toList.drop n) = M.lex s.data.toList) := by
            rw [HDR.out, M.tw_cons, if_neg g0, M.dw_cons, if_neg g0, List.append_nil] at h0
            show _ = _
            rw [HDR.out, ← h0]; simp
          have HKS : Hid _ := kinds_snoc T (2, (s.data.toList.drop start).take (n - start))
          have HTX : Hid (s.extract start n = bs ((s.data.toList.drop start).take (n - start))) := HEXT
          clear h0 HREL HT1 HEXT
          have hN0 : M.isNm ((s[n]'hlt).toNat : Int) = false ∧ (((s[n]'hlt).toNat : Int) == 46) = false := by
            rw [HEB.out]
            have g0' : M.nmd c = false := by simpa using g0
            unfold M.nmd at g0'
            simpa only [Bool.or_eq_false_iff] using g0'
          have H0 : Hid (M.isNm ((s[n]'hlt).toNat : Int) = false) := hN0.1
          have hdot := hN0.2
          clear g0 hN0
          go_wp2_with fail
          refine (nameByte_any _ _).mono ?_
          rintro e w' ⟨rfl, hw⟩
          rw [hw, H0.out]
          clear hw
          go_wp2_with (first
            | (at_builtin; refine wpList_append_own _ rfl (.tmp 42) (.tmp 43) 23 rfl w.heap.size 3 i3 (.int .i64 0) 1 8 Try.underlying23 hi3 hz30 hz31 hz32 rfl (by decide) _ _ _ rfl (hk.alloc _) ⟨wr.heap.size, 0, none⟩ 1 1 [.int .i64 2] rfl rfl (one_new _ _ _ _ rfl) (one_int _ _) (by unfold maxLen; omega) (by omega) (by simp; omega) ?_; intro vk wk hk' hgk _; obtain ⟨ht', hb', hbel', hsz'⟩ := keep3 hk ht hb hbel (Nat.le_refl _) hgk (by decide) (by decide); clear hk ht hb hbel hgk)
            | (at_builtin; refine wpList_append_own _ rfl (.tmp 45) (.tmp 50) 24 rfl w.heap.size 9 i9 (.string ⟨#[]⟩) 1 16 Try.underlying24 hi9 hz90 hz91 hz92 rfl (by decide) _ _ _ rfl (ht'.alloc _) ⟨wk.heap.size, 0, none⟩ 1 1 [.string (s.extract start n)] rfl rfl (one_new _ _ _ _ rfl) (one_str _) (by unfold maxLen; omega) (by omega) (by simp; omega) ?_; intro vt wt ht2 hgt _; obtain ⟨hk2, hb2, hbel2, hsz2⟩ := keep3 ht' hk' hb' hbel' (Nat.le_refl _) hgt (by decide) (by decide); clear hk' ht' hb' hbel' hgt)
            | fail)
          have hk : wt.ownsRow w.heap.size 3 1 vk (T ++ [(2, (s.data.toList.drop start).take (n - start))]).length (kinds (T ++ [(2, (s.data.toList.drop start).take (n - start))])) := by rw [HKS.out.1, List.length_append]; exact hk2
          have ht : wt.ownsRow w.heap.size 9 1 vt (T ++ [(2, (s.data.toList.drop start).take (n - start))]).length (texts (T ++ [(2, (s.data.toList.drop start).take (n - start))])) := by
            rw [HTX.out] at ht2
            rw [HKS.out.2, List.length_append]; exact ht2
          have hb := hb2
          have hbel := hbel2
          have hsz := hsz2
          have hTl : (T ++ [(2, (s.data.toList.drop start).take (n - start))]).length ≤ 1048576 := by simp only [List.length_append, List.length_cons, List.length_nil]; omega
          clear hk2 ht2 hb2 hbel2 hsz2 HKS HTX hsz' hT1
          generalize T ++ [(2, (s.data.toList.drop start).take (n - start))] = T at hk ht HG hTl
          have hX := M.lex_cons c cs
          by_cases g1 : M.isSp (c.toNat : Int) = true
          · have H1 : Hid (M.isSp ((s[n]'hlt).toNat : Int) = true) := by rw [HEB.out]; exact g1
            have HN : Hid (Rel s.data.toList T start U (n + 1) 0) := by
              have h2 := HG.out
              rw [HDR.out, hX, if_pos g1] at h2
              show T ++ M.lex (s.data.toList.drop (n + 1)) = _
              rw [HR1.out]; exact h2
            clear hX g1 HEB
            go_wp2_with fail
            refine (space_any _ _).mono ?_
            rintro e w' ⟨rfl, hw⟩
            rw [hw, H1.out]
            clear hw
            go_wp2
            go_roundw
            case rel => exact ⟨n + 1, 0, start, T, U, by go_num, by omega, by go_num, by omega, rfl, by omega, hTl, by omega, HN, hk, ht, hb, hbel⟩
            case measure => simp [intOf]; omega
          · have H1 : Hid (M.isSp ((s[n]'hlt).toNat : Int) = false) := by rw [HEB.out]; show _ = _; simpa using g1
            rw [if_neg g1] at hX
            by_cases g2 : M.isLet (c.toNat : Int) = true
            · have H2 : Hid (M.isLet ((s[n]'hlt).toNat : Int) = true) := by rw [HEB.out]; exact g2
              have HN : Hid (Rel s.data.toList T n U (n + 1) 1) := by
                have h2 := HG.out
                rw [HDR.out, hX, if_pos g2] at h2
                show T ++ (0, (s.data.toList.drop n).take (n + 1 - n) ++ (s.data.toList.drop (n + 1)).takeWhile M.nm) :: M.lex ((s.data.toList.drop (n + 1)).dropWhile M.nm) = _
                rw [HR1.out, HDR.out, Nat.add_sub_cancel_left]; exact h2
              clear hX g1 g2 HEB
              go_wp2_with fail
              refine (space_any _ _).mono ?_
              rintro e w' ⟨rfl, hw⟩
              rw [hw, H1.out]
              clear hw
              go_wp2_with fail
              refine (letter_any _ _).mono ?_
              rintro e w' ⟨rfl, hw⟩
              rw [hw, H2.out]
              clear hw
              go_wp2
              go_roundw
              case rel => exact ⟨n + 1, 1, n, T, U, by go_num, by omega, by go_num, by omega, rfl, by omega, hTl, by omega, HN, hk, ht, hb, hbel⟩
              case measure => simp [intOf]; omega
            · have H2 : Hid (M.isLet ((s[n]'hlt).toNat : Int) = false) := by rw [HEB.out]; show _ = _; simpa using g2
              rw [if_neg g2] at hX
              by_cases g3 : M.isDig (c.toNat : Int) = true
              · have H3 : Hid (M.isDig ((s[n]'hlt).toNat : Int) = true) := by rw [HEB.out]; exact g3
                have HN : Hid (Rel s.data.toList T n U (n + 1) 2) := by
                  have h2 := HG.out
                  rw [HDR.out, hX, if_pos g3] at h2
                  show T ++ (2, (s.data.toList.drop n).take (n + 1 - n) ++ (s.data.toList.drop (n + 1)).takeWhile M.nmd) :: M.lex ((s.data.toList.drop (n + 1)).dropWhile M.nmd) = _
                  rw [HR1.out, HDR.out, Nat.add_sub_cancel_left]; exact h2
                clear hX g1 g2 g3 HEB
                go_wp2_with fail
                refine (space_any _ _).mono ?_
                rintro e w' ⟨rfl, hw⟩
                rw [hw, H1.out]
                clear hw
                go_wp2_with fail
                refine (letter_any _ _).mono ?_
                rintro e w' ⟨rfl, hw⟩
                rw [hw, H2.out]
                clear hw
                go_wp2_with fail
                refine (digit_any _ _).mono ?_
                rintro e w' ⟨rfl, hw⟩
                rw [hw, H3.out]
                clear hw
                go_wp2
                go_roundw
                case rel => exact ⟨n + 1, 2, n, T, U, by go_num, by omega, by go_num, by omega, rfl, by omega, hTl, by omega, HN, hk, ht, hb, hbel⟩
                case measure => simp [intOf]; omega
              · have H3 : Hid (M.isDig ((s[n]'hlt).toNat : Int) = false) := by rw [HEB.out]; show _ = _; simpa using g3
                rw [if_neg g3] at hX
                by_cases g4 : c = 39
                · have hq39 : (((s[n]'hlt).toNat : Int) == 39) = true := by rw [HEB.out, g4]; rfl
                  have HN : Hid (Rel s.data.toList T start [] (n + 1) 3) := by
                    have h2 := HG.out
                    rw [HDR.out, hX, if_pos g4] at h2
                    show T ++ (1, [] ++ (M.strA false (s.data.toList.drop (n + 1))).1) :: M.lex (M.strA false (s.data.toList.drop (n + 1))).2 = _
                    rw [HR1.out]; exact h2
                  clear hX g1 g2 g3 g4 HEB
                  go_wp2_with fail
                  refine (space_any _ _).mono ?_
                  rintro e w' ⟨rfl, hw⟩
                  rw [hw, H1.out]
                  clear hw
                  go_wp2_with fail
                  refine (letter_any _ _).mono ?_
                  rintro e w' ⟨rfl, hw⟩
                  rw [hw, H2.out]
                  clear hw
                  go_wp2_with fail
                  refine (digit_any _ _).mono ?_
                  rintro e w' ⟨rfl, hw⟩
                  rw [hw, H3.out]
                  clear hw
                  go_wp2
                  go_roundw
                  case rel => exact ⟨n + 1, 3, start, T, [], by go_num, by omega, by go_num, by omega, rfl, by omega, hTl, Nat.zero_le _, HN, hk, ht, World.ownsRow_nil _ _ _ _, hbel⟩
                  case measure => simp [intOf]; omega
                · have hq39 : (((s[n]'hlt).toNat : Int) == 39) = false := by
                    rw [HEB.out]
                    simp only [beq_eq_false_iff_ne, ne_eq]
                    intro h
                    exact g4 (UInt8.toNat_inj.1 (by show c.toNat = 39; omega))
                  have HE := HG.out
                  rw [HDR.out, hX, if_neg g4] at HE
                  have hT1 : T.length + 1 ≤ 1048576 := by have := len_of HE HLN.out; simp only [List.length_cons] at this; omega
                  have HN : Hid (Rel s.data.toList (T ++ [(2, [c])]) start U (n + 1) 0) := by
                    show (T ++ [(2, [c])]) ++ M.lex (s.data.toList.drop (n + 1)) = _
                    rw [HR1.out, ← HE]; simp
                  have HTX : Hid (s.extract n (n + 1) = bs [c]) := ext_eq _ _ _ _ (by rw [Nat.add_sub_cancel_left, HDR.out]; rfl)
                  have HKS : Hid _ := kinds_snoc T (2, [c])
                  clear hX g1 g2 g3 g4 HEB HE
                  go_wp2_with fail
                  refine (space_any _ _).mono ?_
                  rintro e w' ⟨rfl, hw⟩
                  rw [hw, H1.out]
                  clear hw
                  go_wp2_with fail
                  refine (letter_any _ _).mono ?_
                  rintro e w' ⟨rfl, hw⟩
                  rw [hw, H2.out]
                  clear hw
                  go_wp2_with fail
                  refine (digit_any _ _).mono ?_
                  rintro e w' ⟨rfl, hw⟩
                  rw [hw, H3.out]
                  clear hw
                  go_wp2_with (first
                    | (at_builtin; refine wpList_append_own _ rfl (.tmp 86) (.tmp 87) 23 rfl w.heap.size 3 i3 (.int .i64 0) 1 8 Try.underlying23 hi3 hz30 hz31 hz32 rfl (by decide) _ _ _ rfl (hk.alloc _) ⟨wt.heap.size, 0, none⟩ 1 1 [.int .i64 2] rfl rfl (one_new _ _ _ _ rfl) (one_int _ _) (by unfold maxLen; omega) (by omega) (by simp; omega) ?_; intro vk wk hk' hgk _; obtain ⟨ht', hb', hbel', hsz'⟩ := keep3 hk ht hb hbel (Nat.le_refl _) hgk (by decide) (by decide); clear hk ht hb hbel hgk)
                    | (at_builtin; refine wpList_append_own _ rfl (.tmp 89) (.tmp 95) 24 rfl w.heap.size 9 i9 (.string ⟨#[]⟩) 1 16 Try.underlying24 hi9 hz90 hz91 hz92 rfl (by decide) _ _ _ rfl (ht'.alloc _) ⟨wk.heap.size, 0, none⟩ 1 1 [.string (s.extract n (n + 1))] rfl rfl (one_new _ _ _ _ rfl) (one_str _) (by unfold maxLen; omega) (by omega) (by simp; omega) ?_; intro vt wt ht2 hgt _; obtain ⟨hk2, hb2, hbel2, hsz2⟩ := keep3 ht' hk' hb' hbel' (Nat.le_refl _) hgt (by decide) (by decide); clear hk' ht' hb' hbel' hgt))
                  go_roundw
                  case rel =>
                    refine ⟨n + 1, 0, start, T ++ [(2, [c])], U, by go_num, by omega, by go_num, by omega, rfl, by omega, by simp only [List.length_append, List.length_cons, List.length_nil]; omega, by omega, HN, ?_, ?_, hb2, hbel2⟩
                    · rw [HKS.out.1, List.length_append]; exact hk2
                    · rw [HTX.out] at ht2
                      rw [HKS.out.2, List.length_append]; exact ht2
                  case measure => simp [intOf]; omega

      · have h0 := HREL.out
        replace h0 : T ++ (1, U ++ (M.strA false (s.data.toList.drop n)).1) :: M.lex (M.strA false (s.data.toList.drop n)).2 = M.lex s.data.toList := h0
        rw [HDR.out] at h0
        by_cases g4 : c = 39
        · have hq39 : (((s[n]'hlt).toNat : Int) == 39) = true := by rw [HEB.out, g4]; rfl
          have HN : Hid (Rel s.data.toList T start U (n + 1) 4) := by
            show T ++ (1, U ++ (M.strA true (s.data.toList.drop (n + 1))).1) :: M.lex (M.strA true (s.data.toList.drop (n + 1))).2 = _
            rw [M.strA, if_pos g4] at h0
            rw [HR1.out]; exact h0
          clear h0 HREL g4 HEB
          go_wp2
          go_roundw
          case rel => exact ⟨n + 1, 4, start, T, U, by go_num, by omega, by go_num, by omega, rfl, by omega, hTl, by omega, HN, hk, ht, hb, hbel⟩
          case measure => simp [intOf]; omega
        · have hq39 : (((s[n]'hlt).toNat : Int) == 39) = false := by
            rw [HEB.out]
            simp only [beq_eq_false_iff_ne, ne_eq]
            intro h
            exact g4 (UInt8.toNat_inj.1 (by show c.toNat = 39; omega))
          have HN : Hid (Rel s.data.toList T start (U ++ [c]) (n + 1) 3) := by
            show T ++ (1, (U ++ [c]) ++ (M.strA false (s.data.toList.drop (n + 1))).1) :: M.lex (M.strA false (s.data.toList.drop (n + 1))).2 = _
            rw [M.strA, if_neg g4] at h0
            rw [HR1.out, ← h0]; simp
          clear h0 HREL g4 HEB
          go_wp2_with (at_builtin; refine wpList_append_own _ rfl (.tmp 56) (.tmp 58) 27 rfl w.heap.size 5 i5 (.int .u8 0) 1 1 Try.underlying27 hi5 hz50 hz51 hz52 rfl (by decide) _ _ _ rfl (hb.alloc _) ⟨wr.heap.size, 0, none⟩ 1 1 [.int .u8 ((s[n]'hlt).toNat : Int)] rfl rfl (one_new _ _ _ _ rfl) (one_int _ _) (by unfold maxLen; omega) (by omega) (by simp; omega) ?_; intro vb wb hb2 hgb _; obtain ⟨hk2, ht2, hbel2, hsz2⟩ := keep3 hb hk ht hbel (Nat.le_refl _) hgb (by decide) (by decide); clear hk ht hb hbel hgb)
          go_roundw
          case rel =>
            refine ⟨n + 1, 3, start, T, U ++ [c], by go_num, by omega, by go_num, by omega, rfl, by omega, hTl, by simp only [List.length_append, List.length_cons, List.length_nil]; omega, HN, hk2, ht2, ?_, hbel2⟩
            rw [HC.out] at hb2
            rw [byteCells_snoc, List.length_append]; exact hb2
          case measure => simp [intOf]; omega

      · have h0 := HREL.out
        replace h0 : T ++ (1, U ++ (M.strA true (s.data.toList.drop n)).1) :: M.lex (M.strA true (s.data.toList.drop n)).2 = M.lex s.data.toList := h0
        rw [HDR.out] at h0
        by_cases g4 : c = 39
        · have hq39 : (((s[n]'hlt).toNat : Int) == 39) = true := by rw [HEB.out, g4]; rfl
          have HN : Hid (Rel s.data.toList T start (U ++ [c]) (n + 1) 3) := by
            show T ++ (1, (U ++ [c]) ++ (M.strA false (s.data.toList.drop (n + 1))).1) :: M.lex (M.strA false (s.data.toList.drop (n + 1))).2 = _
            rw [M.strA, if_pos g4] at h0
            rw [HR1.out, ← h0, g4]; simp
          clear h0 HREL g4 HEB
          go_wp2_with (at_builtin; refine wpList_append_own _ rfl (.tmp 64) (.tmp 66) 27 rfl w.heap.size 5 i5 (.int .u8 0) 1 1 Try.underlying27 hi5 hz50 hz51 hz52 rfl (by decide) _ _ _ rfl (hb.alloc _) ⟨wr.heap.size, 0, none⟩ 1 1 [.int .u8 ((s[n]'hlt).toNat : Int)] rfl rfl (one_new _ _ _ _ rfl) (one_int _ _) (by unfold maxLen; omega) (by omega) (by simp; omega) ?_; intro vb wb hb2 hgb _; obtain ⟨hk2, ht2, hbel2, hsz2⟩ := keep3 hb hk ht hbel (Nat.le_refl _) hgb (by decide) (by decide); clear hk ht hb hbel hgb)
          go_roundw
          case rel =>
            refine ⟨n + 1, 3, start, T, U ++ [c], by go_num, by omega, by go_num, by omega, rfl, by omega, hTl, by simp only [List.length_append, List.length_cons, List.length_nil]; omega, HN, hk2, ht2, ?_, hbel2⟩
            rw [HC.out] at hb2
            rw [byteCells_snoc, List.length_append]; exact hb2
          case measure => simp [intOf]; omega
        · have hq39x : (((s[n]'hlt).toNat : Int) == 39) = false := by
            rw [HEB.out]
            simp only [beq_eq_false_iff_ne, ne_eq]
            intro h
            exact g4 (UInt8.toNat_inj.1 (by show c.toNat = 39; omega))
          have hT1 : T.length + 1 ≤ 1048576 := by have := len_of h0 HLN.out; simp only [List.length_cons] at this; omega
          have HG : Hid ((T ++ [(1, U)]) ++ M.lex (s.data.toList.drop n) = M.lex s.data.toList) := by
            rw [M.strA, if_neg g4] at h0
            show _ = _
            rw [HDR.out, ← h0]; simp
          have HKS : Hid _ := kinds_snoc T (1, U)
          have g4x : ¬ c = 39 := g4
          clear h0 HREL g4
          go_wp2_with (first
            | (at_builtin; refine wpList_append_own _ rfl (.tmp 68) (.tmp 69) 23 rfl w.heap.size 3 i3 (.int .i64 0) 1 8 Try.underlying23 hi3 hz30 hz31 hz32 rfl (by decide) _ _ _ rfl (hk.alloc _) ⟨wr.heap.size, 0, none⟩ 1 1 [.int .i64 1] rfl rfl (one_new _ _ _ _ rfl) (one_int _ _) (by unfold maxLen; omega) (by omega) (by simp; omega) ?_; intro vk wk hk' hgk _; obtain ⟨ht', hb', hbel', hsz'⟩ := keep3 hk ht hb hbel (Nat.le_refl _) hgk (by decide) (by decide); have hcv := conv_own hb'; clear hk ht hb hbel hgk)
            | (at_builtin; refine wpList_append_own _ rfl (.tmp 71) (.tmp 74) 24 rfl w.heap.size 9 i9 (.string ⟨#[]⟩) 1 16 Try.underlying24 hi9 hz90 hz91 hz92 rfl (by decide) _ _ _ rfl (ht'.alloc _) ⟨wk.heap.size, 0, none⟩ 1 1 [.string (bs U)] rfl rfl (one_new _ _ _ _ rfl) (one_str _) (by unfold maxLen; omega) (by omega) (by simp; omega) ?_; intro vt wt ht2 hgt _; obtain ⟨hk2, hb2, hbel2, hsz2⟩ := keep3 ht' hk' hb' hbel' (Nat.le_refl _) hgt (by decide) (by decide); clear hk' ht' hb' hbel' hgt)
            | fail)
          clear hcv
          have hk : wt.ownsRow w.heap.size 3 1 vk (T ++ [(1, U)]).length (kinds (T ++ [(1, U)])) := by rw [HKS.out.1, List.length_append]; exact hk2
          have ht : wt.ownsRow w.heap.size 9 1 vt (T ++ [(1, U)]).length (texts (T ++ [(1, U)])) := by
            rw [HKS.out.2, List.length_append]; exact ht2
          have hb : wt.ownsRow w.heap.size 5 1 (.slice none 0 0) ([] : List UInt8).length (Lib.byteCells []) := World.ownsRow_nil _ _ _ _
          have hUl : ([] : List UInt8).length ≤ n := Nat.zero_le _
          have hbel := hbel2
          have hsz := hsz2
          have hTl : (T ++ [(1, U)]).length ≤ 1048576 := by simp only [List.length_append, List.length_cons, List.length_nil]; omega
          clear hk2 ht2 hb2 hbel2 hsz2 HKS hsz' hT1
          generalize T ++ [(1, U)] = T at hk ht HG hTl
          generalize ([] : List UInt8) = U at hb hUl
          have hX := M.lex_cons c cs
          by_cases g1 : M.isSp (c.toNat : Int) = true
          · have H1 : Hid (M.isSp ((s[n]'hlt).toNat : Int) = true) := by rw [HEB.out]; exact g1
            have HN : Hid (Rel s.data.toList T start U (n + 1) 0) := by
              have h2 := HG.out
              rw [HDR.out, hX, if_pos g1] at h2
              show T ++ M.lex (s.data.toList.drop (n + 1)) = _
              rw [HR1.out]; exact h2
            clear hX g1 HEB
            go_wp2_with fail
            refine (space_any _ _).mono ?_
            rintro e w' ⟨rfl, hw⟩
            rw [hw, H1.out]
            clear hw
            go_wp2
            go_roundw
            case rel => exact ⟨n + 1, 0, start, T, U, by go_num, by omega, by go_num, by omega, rfl, by omega, hTl, by omega, HN, hk, ht, hb, hbel⟩
            case measure => simp [intOf]; omega
          · have H1 : Hid (M.isSp ((s[n]'hlt).toNat : Int) = false) := by rw [HEB.out]; show _ = _; simpa using g1
            rw [if_neg g1] at hX
            by_cases g2 : M.isLet (c.toNat : Int) = true
            · have H2 : Hid (M.isLet ((s[n]'hlt).toNat : Int) = true) := by rw [HEB.out]; exact g2
              have HN : Hid (Rel s.data.toList T n U (n + 1) 1) := by
                have h2 := HG.out
                rw [HDR.out, hX, if_pos g2] at h2
                show T ++ (0, (s.data.toList.drop n).take (n + 1 - n) ++ (s.data.toList.drop (n + 1)).takeWhile M.nm) :: M.lex ((s.data.toList.drop (n + 1)).dropWhile M.nm) = _
                rw [HR1.out, HDR.out, Nat.add_sub_cancel_left]; exact h2
              clear hX g1 g2 HEB
              go_wp2_with fail
              refine (space_any _ _).mono ?_
              rintro e w' ⟨rfl, hw⟩
              rw [hw, H1.out]
              clear hw
              go_wp2_with fail
              refine (letter_any _ _).mono ?_
              rintro e w' ⟨rfl, hw⟩
              rw [hw, H2.out]
              clear hw
              go_wp2
              go_roundw
              case rel => exact ⟨n + 1, 1, n, T, U, by go_num, by omega, by go_num, by omega, rfl, by omega, hTl, by omega, HN, hk, ht, hb, hbel⟩
              case measure => simp [intOf]; omega
            · have H2 : Hid (M.isLet ((s[n]'hlt).toNat : Int) = false) := by rw [HEB.out]; show _ = _; simpa using g2
              rw [if_neg g2] at hX
              by_cases g3 : M.isDig (c.toNat : Int) = true
              · have H3 : Hid (M.isDig ((s[n]'hlt).toNat : Int) = true) := by rw [HEB.out]; exact g3
                have HN : Hid (Rel s.data.toList T n U (n + 1) 2) := by
                  have h2 := HG.out
                  rw [HDR.out, hX, if_pos g3] at h2
                  show T ++ (2, (s.data.toList.drop n).take (n + 1 - n) ++ (s.data.toList.drop (n + 1)).takeWhile M.nmd) :: M.lex ((s.data.toList.drop (n + 1)).dropWhile M.nmd) = _
                  rw [HR1.out, HDR.out, Nat.add_sub_cancel_left]; exact h2
                clear hX g1 g2 g3 HEB
                go_wp2_with fail
                refine (space_any _ _).mono ?_
                rintro e w' ⟨rfl, hw⟩
                rw [hw, H1.out]
                clear hw
                go_wp2_with fail
                refine (letter_any _ _).mono ?_
                rintro e w' ⟨rfl, hw⟩
                rw [hw, H2.out]
                clear hw
                go_wp2_with fail
                refine (digit_any _ _).mono ?_
                rintro e w' ⟨rfl, hw⟩
                rw [hw, H3.out]
                clear hw
                go_wp2
                go_roundw
                case rel => exact ⟨n + 1, 2, n, T, U, by go_num, by omega, by go_num, by omega, rfl, by omega, hTl, by omega, HN, hk, ht, hb, hbel⟩
                case measure => simp [intOf]; omega
              · have H3 : Hid (M.isDig ((s[n]'hlt).toNat : Int) = false) := by rw [HEB.out]; show _ = _; simpa using g3
                rw [if_neg g3] at hX
                by_cases g4 : c = 39
                · exact absurd g4 g4x
                · have hq39 : (((s[n]'hlt).toNat : Int) == 39) = false := by
                    rw [HEB.out]
                    simp only [beq_eq_false_iff_ne, ne_eq]
                    intro h
                    exact g4 (UInt8.toNat_inj.1 (by show c.toNat = 39; omega))
                  have HE := HG.out
                  rw [HDR.out, hX, if_neg g4] at HE
                  have hT1 : T.length + 1 ≤ 1048576 := by have := len_of HE HLN.out; simp only [List.length_cons] at this; omega
                  have HN : Hid (Rel s.data.toList (T ++ [(2, [c])]) start U (n + 1) 0) := by
                    show (T ++ [(2, [c])]) ++ M.lex (s.data.toList.drop (n + 1)) = _
                    rw [HR1.out, ← HE]; simp
                  have HTX : Hid (s.extract n (n + 1) = bs [c]) := ext_eq _ _ _ _ (by rw [Nat.add_sub_cancel_left, HDR.out]; rfl)
                  have HKS : Hid _ := kinds_snoc T (2, [c])
                  clear hX g1 g2 g3 g4 HEB HE
                  go_wp2_with fail
                  refine (space_any _ _).mono ?_
                  rintro e w' ⟨rfl, hw⟩
                  rw [hw, H1.out]
                  clear hw
                  go_wp2_with fail
                  refine (letter_any _ _).mono ?_
                  rintro e w' ⟨rfl, hw⟩
                  rw [hw, H2.out]
                  clear hw
                  go_wp2_with fail
                  refine (digit_any _ _).mono ?_
                  rintro e w' ⟨rfl, hw⟩
                  rw [hw, H3.out]
                  clear hw
                  go_wp2_with (first
                    | (at_builtin; refine wpList_append_own _ rfl (.tmp 86) (.tmp 87) 23 rfl w.heap.size 3 i3 (.int .i64 0) 1 8 Try.underlying23 hi3 hz30 hz31 hz32 rfl (by decide) _ _ _ rfl (hk.alloc _) ⟨wt.heap.size, 0, none⟩ 1 1 [.int .i64 2] rfl rfl (one_new _ _ _ _ rfl) (one_int _ _) (by unfold maxLen; omega) (by omega) (by simp; omega) ?_; intro vk wk hk' hgk _; obtain ⟨ht', hb', hbel', hsz'⟩ := keep3 hk ht hb hbel (Nat.le_refl _) hgk (by decide) (by decide); clear hk ht hb hbel hgk)
                    | (at_builtin; refine wpList_append_own _ rfl (.tmp 89) (.tmp 95) 24 rfl w.heap.size 9 i9 (.string ⟨#[]⟩) 1 16 Try.underlying24 hi9 hz90 hz91 hz92 rfl (by decide) _ _ _ rfl (ht'.alloc _) ⟨wk.heap.size, 0, none⟩ 1 1 [.string (s.extract n (n + 1))] rfl rfl (one_new _ _ _ _ rfl) (one_str _) (by unfold maxLen; omega) (by omega) (by simp; omega) ?_; intro vt wt ht2 hgt _; obtain ⟨hk2, hb2, hbel2, hsz2⟩ := keep3 ht' hk' hb' hbel' (Nat.le_refl _) hgt (by decide) (by decide); clear hk' ht' hb' hbel' hgt))
                  go_roundw
                  case rel =>
                    refine ⟨n + 1, 0, start, T ++ [(2, [c])], U, by go_num, by omega, by go_num, by omega, rfl, by omega, by simp only [List.length_append, List.length_cons, List.length_nil]; omega, by omega, HN, ?_, ?_, hb2, hbel2⟩
                    · rw [HKS.out.1, List.length_append]; exact hk2
                    · rw [HTX.out] at ht2
                      rw [HKS.out.2, List.length_append]; exact ht2
                  case measure => simp [intOf]; omega

    · have hn' : n = s.size := by omega
      subst hn'
      have h3 : s.data.toList.drop s.size = [] := List.drop_eq_nil_of_le (by rw [HS.out]; exact Nat.le_refl _)
      rcases (show q = 0 ∨ q = 1 ∨ q = 2 ∨ q = 3 ∨ q = 4 by omega) with rfl | rfl | rfl | rfl | rfl
      · have HF : Hid (T = M.lex s.data.toList) := by
          have h0 := HREL.out
          replace h0 : T ++ M.lex (s.data.toList.drop s.size) = M.lex s.data.toList := h0
          rw [h3, M.lex_nil, List.append_nil] at h0
          exact h0
        clear HREL h3
        go_wp2
        go_ret2
        refine ⟨_, _, rfl, ?_, ?_, hbel⟩
        · rw [← HF.out]; exact hk
        · rw [← HF.out]; exact ht
      · have h0 := HREL.out
        replace h0 : T ++ (0, (s.data.toList.drop start).take (s.size - start) ++ (s.data.toList.drop s.size).takeWhile M.nm) :: M.lex ((s.data.toList.drop s.size).dropWhile M.nm) = M.lex s.data.toList := h0
        have HF : Hid (T ++ [(0, (s.data.toList.drop start).take (s.size - start))] = M.lex s.data.toList) := by
          rw [h3] at h0
          show _ = _
          simpa [M.lex_nil] using h0
        have HTX : Hid (s.extract start s.size = bs ((s.data.toList.drop start).take (s.size - start))) := ext_eq _ _ _ _ rfl
        have hT1 : T.length + 1 ≤ 1048576 := by have := congrArg List.length HF.out; simp only [List.length_append, List.length_cons, List.length_nil] at this; have := HLN.out; omega
        have HKS : Hid _ := kinds_snoc T (0, (s.data.toList.drop start).take (s.size - start))
        clear h0 HREL h3
        go_wp2_with (first
          | (at_builtin; refine wpList_append_own _ rfl (.tmp 99) (.tmp 100) 23 rfl w.heap.size 3 i3 (.int .i64 0) 1 8 Try.underlying23 hi3 hz30 hz31 hz32 rfl (by decide) _ _ _ rfl (hk.alloc _) ⟨wr.heap.size, 0, none⟩ 1 1 [.int .i64 0] rfl rfl (one_new _ _ _ _ rfl) (one_int _ _) (by unfold maxLen; omega) (by omega) (by simp; omega) ?_; intro vk wk hk' hgk _; obtain ⟨ht', hb', hbel', hsz'⟩ := keep3 hk ht hb hbel (Nat.le_refl _) hgk (by decide) (by decide); clear hk ht hb hbel hgk)
          | (at_builtin; refine wpList_append_own _ rfl (.tmp 102) (.tmp 106) 24 rfl w.heap.size 9 i9 (.string ⟨#[]⟩) 1 16 Try.underlying24 hi9 hz90 hz91 hz92 rfl (by decide) _ _ _ rfl (ht'.alloc _) ⟨wk.heap.size, 0, none⟩ 1 1 [.string (s.extract start s.size)] rfl rfl (one_new _ _ _ _ rfl) (one_str _) (by unfold maxLen; omega) (by omega) (by simp; omega) ?_; intro vt wt ht2 hgt _; obtain ⟨hk2, hb2, hbel2, hsz2⟩ := keep3 ht' hk' hb' hbel' (Nat.le_refl _) hgt (by decide) (by decide); clear hk' ht' hb' hbel' hgt))

        go_ret2
        refine ⟨_, _, rfl, ?_, ?_, hbel2⟩
        · rw [← HF.out, HKS.out.1, List.length_append]; exact hk2
        · rw [HTX.out] at ht2; rw [← HF.out, HKS.out.2, List.length_append]; exact ht2

      · have h0 := HREL.out
        replace h0 : T ++ (2, (s.data.toList.drop start).take (s.size - start) ++ (s.data.toList.drop s.size).takeWhile M.nmd) :: M.lex ((s.data.toList.drop s.size).dropWhile M.nmd) = M.lex s.data.toList := h0
        have HF : Hid (T ++ [(2, (s.data.toList.drop start).take (s.size - start))] = M.lex s.data.toList) := by
          rw [h3] at h0
          show _ = _
          simpa [M.lex_nil] using h0
        have HTX : Hid (s.extract start s.size = bs ((s.data.toList.drop start).take (s.size - start))) := ext_eq _ _ _ _ rfl
        have hT1 : T.length + 1 ≤ 1048576 := by have := congrArg List.length HF.out; simp only [List.length_append, List.length_cons, List.length_nil] at this; have := HLN.out; omega
        have HKS : Hid _ := kinds_snoc T (2, (s.data.toList.drop start).take (s.size - start))
        clear h0 HREL h3
        go_wp2_with (first
          | (at_builtin; refine wpList_append_own _ rfl (.tmp 110) (.tmp 111) 23 rfl w.heap.size 3 i3 (.int .i64 0) 1 8 Try.underlying23 hi3 hz30 hz31 hz32 rfl (by decide) _ _ _ rfl (hk.alloc _) ⟨wr.heap.size, 0, none⟩ 1 1 [.int .i64 2] rfl rfl (one_new _ _ _ _ rfl) (one_int _ _) (by unfold maxLen; omega) (by omega) (by simp; omega) ?_; intro vk wk hk' hgk _; obtain ⟨ht', hb', hbel', hsz'⟩ := keep3 hk ht hb hbel (Nat.le_refl _) hgk (by decide) (by decide); clear hk ht hb hbel hgk)
          | (at_builtin; refine wpList_append_own _ rfl (.tmp 113) (.tmp 117) 24 rfl w.heap.size 9 i9 (.string ⟨#[]⟩) 1 16 Try.underlying24 hi9 hz90 hz91 hz92 rfl (by decide) _ _ _ rfl (ht'.alloc _) ⟨wk.heap.size, 0, none⟩ 1 1 [.string (s.extract start s.size)] rfl rfl (one_new _ _ _ _ rfl) (one_str _) (by unfold maxLen; omega) (by omega) (by simp; omega) ?_; intro vt wt ht2 hgt _; obtain ⟨hk2, hb2, hbel2, hsz2⟩ := keep3 ht' hk' hb' hbel' (Nat.le_refl _) hgt (by decide) (by decide); clear hk' ht' hb' hbel' hgt))

        go_ret2
        refine ⟨_, _, rfl, ?_, ?_, hbel2⟩
        · rw [← HF.out, HKS.out.1, List.length_append]; exact hk2
        · rw [HTX.out] at ht2; rw [← HF.out, HKS.out.2, List.length_append]; exact ht2

      · have h0 := HREL.out
        replace h0 : T ++ (1, U ++ (M.strA false (s.data.toList.drop s.size)).1) :: M.lex (M.strA false (s.data.toList.drop s.size)).2 = M.lex s.data.toList := h0
        have HF : Hid (T ++ [(1, U)] = M.lex s.data.toList) := by
          rw [h3] at h0
          show _ = _
          simpa [M.lex_nil, M.strA] using h0

        have hT1 : T.length + 1 ≤ 1048576 := by have := congrArg List.length HF.out; simp only [List.length_append, List.length_cons, List.length_nil] at this; have := HLN.out; omega
        have HKS : Hid _ := kinds_snoc T (1, U)
        clear h0 HREL h3
        go_wp2_with (first
          | (at_builtin; refine wpList_append_own _ rfl (.tmp 125) (.tmp 126) 23 rfl w.heap.size 3 i3 (.int .i64 0) 1 8 Try.underlying23 hi3 hz30 hz31 hz32 rfl (by decide) _ _ _ rfl (hk.alloc _) ⟨wr.heap.size, 0, none⟩ 1 1 [.int .i64 1] rfl rfl (one_new _ _ _ _ rfl) (one_int _ _) (by unfold maxLen; omega) (by omega) (by simp; omega) ?_; intro vk wk hk' hgk _; obtain ⟨ht', hb', hbel', hsz'⟩ := keep3 hk ht hb hbel (Nat.le_refl _) hgk (by decide) (by decide); have hcv := conv_own hb'; clear hk ht hb hbel hgk)
          | (at_builtin; refine wpList_append_own _ rfl (.tmp 128) (.tmp 131) 24 rfl w.heap.size 9 i9 (.string ⟨#[]⟩) 1 16 Try.underlying24 hi9 hz90 hz91 hz92 rfl (by decide) _ _ _ rfl (ht'.alloc _) ⟨wk.heap.size, 0, none⟩ 1 1 [.string (bs U)] rfl rfl (one_new _ _ _ _ rfl) (one_str _) (by unfold maxLen; omega) (by omega) (by simp; omega) ?_; intro vt wt ht2 hgt _; obtain ⟨hk2, hb2, hbel2, hsz2⟩ := keep3 ht' hk' hb' hbel' (Nat.le_refl _) hgt (by decide) (by decide); clear hk' ht' hb' hbel' hgt))

        go_ret2
        refine ⟨_, _, rfl, ?_, ?_, hbel2⟩
        · rw [← HF.out, HKS.out.1, List.length_append]; exact hk2
        · rw [← HF.out, HKS.out.2, List.length_append]; exact ht2

      · have h0 := HREL.out
        replace h0 : T ++ (1, U ++ (M.strA true (s.data.toList.drop s.size)).1) :: M.lex (M.strA true (s.data.toList.drop s.size)).2 = M.lex s.data.toList := h0
        have HF : Hid (T ++ [(1, U)] = M.lex s.data.toList) := by
          rw [h3] at h0
          show _ = _
          simpa [M.lex_nil, M.strA] using h0

        have hT1 : T.length + 1 ≤ 1048576 := by have := congrArg List.length HF.out; simp only [List.length_append, List.length_cons, List.length_nil] at this; have := HLN.out; omega
        have HKS : Hid _ := kinds_snoc T (1, U)
        clear h0 HREL h3
        go_wp2_with (first
          | (at_builtin; refine wpList_append_own _ rfl (.tmp 125) (.tmp 126) 23 rfl w.heap.size 3 i3 (.int .i64 0) 1 8 Try.underlying23 hi3 hz30 hz31 hz32 rfl (by decide) _ _ _ rfl (hk.alloc _) ⟨wr.heap.size, 0, none⟩ 1 1 [.int .i64 1] rfl rfl (one_new _ _ _ _ rfl) (one_int _ _) (by unfold maxLen; omega) (by omega) (by simp; omega) ?_; intro vk wk hk' hgk _; obtain ⟨ht', hb', hbel', hsz'⟩ := keep3 hk ht hb hbel (Nat.le_refl _) hgk (by decide) (by decide); have hcv := conv_own hb'; clear hk ht hb hbel hgk)
          | (at_builtin; refine wpList_append_own _ rfl (.tmp 128) (.tmp 131) 24 rfl w.heap.size 9 i9 (.string ⟨#[]⟩) 1 16 Try.underlying24 hi9 hz90 hz91 hz92 rfl (by decide) _ _ _ rfl (ht'.alloc _) ⟨wk.heap.size, 0, none⟩ 1 1 [.string (bs U)] rfl rfl (one_new _ _ _ _ rfl) (one_str _) (by unfold maxLen; omega) (by omega) (by simp; omega) ?_; intro vt wt ht2 hgt _; obtain ⟨hk2, hb2, hbel2, hsz2⟩ := keep3 ht' hk' hb' hbel' (Nat.le_refl _) hgt (by decide) (by decide); clear hk' ht' hb' hbel' hgt))

        go_ret2
        refine ⟨_, _, rfl, ?_, ?_, hbel2⟩
        · rw [← HF.out, HKS.out.1, List.length_append]; exact hk2
        · rw [← HF.out, HKS.out.2, List.length_append]; exact ht2


end Go.Proofs.Qxb6632232a
