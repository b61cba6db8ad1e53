/-
  lexExpression: the loop over the text.
-/
import Derived.Test.Qxb6632232aName
namespace Go.Proofs.Qxb6632232a
open Go.RowKit
set_option linter.unusedVariables false

theorem Try.info33 : (Try.prog.info? 33).map (fun i => (i.zero, i.size, i.bytes)) = some (some (.agg #[.int .i64 0, .string ⟨#[]⟩]), 2, 24) := by kernel_rfl

def bs (l : List UInt8) : ByteArray := ⟨l.toArray⟩
/-- the cells of a row of tokens -/
def tokCells : List (Int × List UInt8) → List Value
  | [] => []
  | t :: ts => .int .i64 t.1 :: .string (bs t.2) :: tokCells ts

theorem tokCells_append : ∀ a b, tokCells (a ++ b) = tokCells a ++ tokCells b := by
  intro a
  induction a with
  | nil => intro b; rfl
  | cons t ts ih => intro b; simp [tokCells, ih]

theorem tok_new (w : World) (k : Int) (s : ByteArray) (t : TypeId) : ∀ (j : Nat) (u : Value), [Value.int .i64 k, .string s][j]? = some u → (w.alloc (.cells #[.int .i64 k, .string s] t)).cell? ((⟨w.heap.size, 0, none⟩ : Addr).add j) = some u := by
  intro j u hj
  match j, hj with
  | 0, hj => simp at hj; subst hj; simp [Addr.add]
  | 1, hj => simp at hj; subst hj; simp [Addr.add]
theorem tok_one (k : Int) (s : ByteArray) : ∀ u ∈ [Value.int .i64 k, .string s], u.oneCell' = true := by
  intro u hu; simp at hu; rcases hu with rfl | rfl <;> rfl

theorem ext_eq (s : ByteArray) (a b : Nat) (L : List UInt8) (h : (s.data.toList.drop a).take (b - a) = L) : s.extract a b = bs L := by
  have e := Lib.extract_data s a b
  rw [h] at e
  unfold bs
  rw [← e]

theorem ext_end (s : ByteArray) (a : Nat) : (s.extract a s.size).data.toList = s.data.toList.drop a := by
  rw [Lib.extract_data, List.take_of_length_le]
  rw [List.length_drop, size_list]
  exact Nat.le_refl _

theorem nmd_of_nm {c : UInt8} (h : M.nm c = true) : M.nmd c = true := by
  unfold M.nmd; unfold M.nm at h; rw [h]; rfl

theorem tw_mono : ∀ l : List UInt8, (l.takeWhile M.nm).length ≤ (l.takeWhile M.nmd).length := by
  intro l
  induction l with
  | nil => exact Nat.le_refl _
  | cons c cs ih =>
    rw [M.tw_cons, M.tw_cons]
    by_cases h : M.nm c = true
    · rw [if_pos h, if_pos (nmd_of_nm h)]; simpa using ih
    · rw [if_neg h]; exact Nat.zero_le _

theorem owns_below {w w' : World} {base : Nat} {e : TypeId} {size : Nat} {v : Value} {n : Nat} {xs : List Value} (h : w.ownsRow base e size v n xs) (hb : Below w.heap.size w w') : w'.ownsRow base e size v n xs := by
  refine ⟨h.1, ?_⟩
  rcases h.2 with hn | ⟨g, cap, cur, rfl, hbb, hgg, rest⟩
  · exact .inl hn
  · exact .inr ⟨g, cap, cur, rfl, hbb, by rw [hb.block g (lt_of_block hgg)]; exact hgg, rest⟩

/-- what the loop holds behind one token more -/
theorem tok_step {l : List UInt8} {T : List (Int × List UInt8)} {i j : Nat} {k : Int} {t : List UInt8} {rest : List UInt8} (h : T ++ M.lex (l.drop i) = M.lex l) (hx : M.lex (l.drop i) = (k, t) :: M.lex rest) (hr : l.drop j = rest) : (T ++ [(k, t)]) ++ M.lex (l.drop j) = M.lex l := by
  rw [← h, hx, hr]; simp

set_option maxHeartbeats 4000000 in
set_option maxRecDepth 1000000 in
theorem lex_any (s : ByteArray) (w : World) (hs : s.size ≤ 1048576) :
    Calls Try.prog 10 #[.string s] w fun e w' => ∃ v, e = .returned v ∧ w'.ownsRow w.heap.size 33 2 v (M.lex s.data.toList).length (tokCells (M.lex s.data.toList)) ∧ Below w.heap.size w w' := by
  obtain ⟨i0, hi, hz0, hz1, hz2⟩ := info_parts Try.info33
  have HS : Hid (s.data.toList.length = s.size) := size_list s
  have HLL := M.lex_len s.data.toList
  have HLN : Hid ((M.lex s.data.toList).length ≤ s.size) := by rw [← size_list]; exact HLL
  clear HLL
  go_enter Try.func10, Try.ntmps10
  go_wp2
  go_loopw [3, 4] (fun v i wr => ∃ (n : Nat) (T : List (Int × List UInt8)), i = .int .i64 n ∧ n ≤ s.size ∧ Hid (T ++ M.lex (s.data.toList.drop n) = M.lex s.data.toList) ∧ wr.ownsRow w.heap.size 33 2 v T.length (tokCells T) ∧ Below w.heap.size w wr)
    (fun _ i _ => s.size - (intOf i).toNat)
  case atStart => exact ⟨0, [], rfl, Nat.zero_le _, rfl, World.ownsRow_nil _ _ _ _, Below.refl _ _⟩
  case round =>
    obtain ⟨n, T, rfl, hn, HT, hown, hbel⟩ := hrel
    have hTl : T.length ≤ 1048576 := by
      have h1 := congrArg List.length HT.out
      rw [List.length_append] at h1
      have := HLN.out
      omega
    have hsz := hbel.size
    by_cases hlt : n < s.size
    · obtain ⟨c, cs, hdr⟩ : ∃ d r, s.data.toList.drop n = d :: r := by
        cases h : s.data.toList.drop n with
        | nil => have := drop_nil_len h; have := HS.out; omega
        | cons d r => exact ⟨d, r, rfl⟩
      have EB : s[n]'hlt = c := byte_at s _ rfl n hlt c cs hdr
      have HR : Hid (s.data.toList.drop (n + 1) = cs) := drop_step hdr
      have HDR : Hid (s.data.toList.drop n = c :: cs) := hdr
      have HX := M.lex_cons c cs
      have hcl : cs.length + (n + 1) = s.size := by have h1 := congrArg List.length hdr; simp at h1; have := HS.out; simp at this; omega
      have HCL : Hid (cs.length + (n + 1) = s.size) := hcl
      have hX0 : 0 ≤ ((s[n]'hlt).toNat : Int) := by omega
      clear hdr hcl
      by_cases h1 : M.isSp (c.toNat : Int) = true
      · -- a blank
        rw [if_pos h1] at HX
        have HN : Hid (T ++ M.lex (s.data.toList.drop (n + 1)) = M.lex s.data.toList) := by
          have h2 := HT.out
          rw [HDR.out, HX] at h2
          rw [HR.out]; exact h2
        rw [← EB, isSp_iff] at h1
        clear HX HT EB
        rcases h1 with h1 | h1 | h1 | h1
        all_goals
          go_wp2
          go_roundw
          case rel => exact ⟨n + 1, T, by go_num, by omega, HN, hown, hbel⟩
          case measure => simp [intOf]; omega
      · rw [if_neg h1] at HX
        have hsp : M.isSp ((s[n]'hlt).toNat : Int) = false := by rw [EB]; simpa using h1
        have hn32 : (((s[n]'hlt).toNat : Int) == 32) = false ∧ (((s[n]'hlt).toNat : Int) == 9) = false ∧ (((s[n]'hlt).toNat : Int) == 10) = false ∧ (((s[n]'hlt).toNat : Int) == 13) = false := by
          unfold M.isSp at hsp
          simp only [Bool.or_eq_false_iff] at hsp
          exact ⟨hsp.1.1.1, hsp.1.1.2, hsp.1.2, hsp.2⟩
        obtain ⟨g32, g9, g10, g13⟩ := hn32
        clear hsp h1
        have hex : (s.extract n s.size).data.toList = c :: cs := by rw [ext_end]; exact HDR.out
        have HEX : Hid ((s.extract n s.size).data.toList = c :: cs) := hex
        have hes : (s.extract n s.size).size ≤ 1048576 := by rw [← size_list, hex]; simp; have := HCL.out; omega
        clear hex
        by_cases h2 : M.isLet (c.toNat : Int) = true
        · -- a name
          rw [if_pos h2] at HX
          obtain ⟨K, hK⟩ : ∃ K, K = 1 + (cs.takeWhile M.nm).length := ⟨_, rfl⟩
          have HK : Hid (1 + (cs.takeWhile M.nm).length = K) := hK.symm
          have hK1 : 1 ≤ K := by omega
          have hK2 : n + K ≤ s.size := by have := (List.takeWhile_prefix M.nm (l := cs)).length_le; have := HCL.out; omega
          have HTX : Hid (s.extract n (n + K) = bs (c :: cs.takeWhile M.nm)) := ext_eq _ _ _ _ (by
            rw [Nat.add_sub_cancel_left, HDR.out, hK, Nat.add_comm, List.take_succ_cons, (M.tw_take M.nm cs).1])
          have HN : Hid ((T ++ [(0, c :: cs.takeWhile M.nm)]) ++ M.lex (s.data.toList.drop (n + K)) = M.lex s.data.toList) :=
            tok_step HT.out (by rw [HDR.out]; exact HX) (by
              rw [← List.drop_drop, HDR.out, hK, Nat.add_comm, List.drop_succ_cons, (M.tw_take M.nm cs).2])
          rw [← EB, isLet_iff] at h2
          clear HX HT EB hK
          rcases h2 with h2 | ⟨h2, h2'⟩ | ⟨h2, h2'⟩
          all_goals
            go_wp2_with fail
            refine (nameLen_any _ c cs _ HEX.out hes).mono ?_
            rintro e w' ⟨rfl, hw⟩
            rw [hw, HK.out]
            clear hw
            go_wp2_with (at_builtin; refine wpList_append_own _ rfl (.tmp 68) (.tmp 76) 29 rfl w.heap.size 33 i0 (.agg #[.int .i64 0, .string ⟨#[]⟩]) 2 24 Try.underlying29 hi hz0 hz1 hz2 rfl (by decide) _ _ _ rfl (hown.alloc _) ⟨wr.heap.size, 0, none⟩ 1 1 [.int .i64 0, .string (s.extract n (n + K))] rfl rfl (tok_new _ _ _ _) (tok_one _ _) (by unfold maxLen; omega) (by omega) (by simp; omega) ?_; intro v' w2 hown2 hgrow _)
            have hbel2 : Below w.heap.size w w2 := (hbel.alloc hsz _).grown hgrow (by simp; omega) (fun j hj => (hown.lt j hj).1)
            clear hgrow hown hbel
            go_wp2
            go_roundw
            case rel =>
              refine ⟨n + K, T ++ [(0, c :: cs.takeWhile M.nm)], by go_num, hK2, HN, ?_, hbel2⟩
              rw [HTX.out] at hown2
              rw [tokCells_append, List.length_append]; exact hown2
            case measure => simp [intOf]; omega
        · rw [if_neg h2] at HX
          have hlet : ¬ (((s[n]'hlt).toNat : Int) = 95 ∨ (97 ≤ ((s[n]'hlt).toNat : Int) ∧ ((s[n]'hlt).toNat : Int) ≤ 122) ∨ (65 ≤ ((s[n]'hlt).toNat : Int) ∧ ((s[n]'hlt).toNat : Int) ≤ 90)) := by
            rw [← isLet_iff, EB]; exact h2
          have g95 : (((s[n]'hlt).toNat : Int) == 95) = false := by simp only [beq_eq_false_iff_ne, ne_eq]; omega
          clear h2
          by_cases h3 : M.isDig (c.toNat : Int) = true
          · -- a number
            rw [if_pos h3] at HX
            rw [← EB, isDig_iff] at h3
            have d97 : decide (97 ≤ ((s[n]'hlt).toNat : Int)) = false := decide_eq_false (by omega)
            have d65 : decide (65 ≤ ((s[n]'hlt).toNat : Int)) = false := decide_eq_false (by omega)
            obtain ⟨h3, h3'⟩ := h3
            have HM := tw_mono cs
            obtain ⟨K1, hK1⟩ : ∃ K, K = 1 + (cs.takeWhile M.nm).length := ⟨_, rfl⟩
            have HK1 : Hid (1 + (cs.takeWhile M.nm).length = K1) := hK1.symm
            obtain ⟨K, hK⟩ : ∃ K, K = 1 + (cs.takeWhile M.nmd).length := ⟨_, rfl⟩
            have HK : Hid (K = 1 + (cs.takeWhile M.nmd).length) := hK
            have hK12 : K1 ≤ K := by omega
            have hKa : 1 ≤ K1 := by omega
            have hK2 : n + K ≤ s.size := by have := (List.takeWhile_prefix M.nmd (l := cs)).length_le; have := HCL.out; omega
            have HTX : Hid (s.extract n (n + K) = bs (c :: cs.takeWhile M.nmd)) := ext_eq _ _ _ _ (by
              rw [Nat.add_sub_cancel_left, HDR.out, hK, Nat.add_comm, List.take_succ_cons, (M.tw_take M.nmd cs).1])
            have HN : Hid ((T ++ [(2, c :: cs.takeWhile M.nmd)]) ++ M.lex (s.data.toList.drop (n + K)) = M.lex s.data.toList) :=
              tok_step HT.out (by rw [HDR.out]; exact HX) (by
                rw [← List.drop_drop, HDR.out, hK, Nat.add_comm, List.drop_succ_cons, (M.tw_take M.nmd cs).2])
            have HA : Hid (∀ k, k < (cs.takeWhile M.nmd).length → ∃ d r, cs.drop k = d :: r ∧ M.nmd d = true) := tw_at M.nmd cs
            have HE : Hid (cs.drop (cs.takeWhile M.nmd).length = [] ∨ ∃ d r, cs.drop (cs.takeWhile M.nmd).length = d :: r ∧ M.nmd d = false) := tw_end M.nmd cs
            clear HX HT EB hK hK1 HM hlet
            go_wp2_with fail
            refine (nameLen_any _ c cs _ HEX.out hes).mono ?_
            rintro e w' ⟨rfl, hw⟩
            rw [hw, HK1.out]
            clear hw HK1
            go_wp2
            go_loop [7] (fun i => ∃ m : Nat, i = .int .i64 m ∧ 1 ≤ m ∧ m ≤ K) (fun i => s.size - (intOf i).toNat)
            case atStart => exact ⟨K1, rfl, hKa, hK12⟩
            case round =>
              obtain ⟨m, rfl, hm1, hm2⟩ := hrel
              by_cases hltm : m < K
              · have hin : n + m < s.size := by omega
                have HBY : Hid (M.isNm ((s[n + m]'hin).toNat : Int) = true ∨ (M.isNm ((s[n + m]'hin).toNat : Int) = false ∧ ((s[n + m]'hin).toNat : Int) = 46)) := by
                  obtain ⟨d, r, e1, e2⟩ := HA.out (m - 1) (by have := HK.out; omega)
                  have e3 : s.data.toList.drop (n + m) = d :: r := by
                    have : n + m = (n + 1) + (m - 1) := by omega
                    rw [this, ← List.drop_drop, HR.out]; exact e1
                  rw [byte_at s _ rfl (n + m) hin d r e3]
                  unfold M.nmd at e2
                  cases hq : M.isNm (d.toNat : Int) with
                  | true => exact .inl rfl
                  | false => rw [hq] at e2; exact .inr ⟨rfl, by simpa using e2⟩
                rcases HBY.out with hb | ⟨hb, hb'⟩
                · have HB : Hid (M.isNm ((s[n + m]'hin).toNat : Int) = true) := hb
                  clear hb HBY
                  have hn46 : (((s[n + m]'hin).toNat : Int) == 46) = false := by
                    simp only [beq_eq_false_iff_ne, ne_eq]
                    intro h46
                    have := HB.out
                    rw [h46] at this
                    revert this; decide
                  go_wp2_with fail
                  refine (nameChar_any _ _).mono ?_
                  rintro e w' ⟨rfl, hw⟩
                  rw [hw, HB.out]
                  clear hw
                  go_wp2
                  go_round
                  case rel => exact ⟨m + 1, by go_num, by omega, by omega⟩
                  case measure => simp [intOf]; omega
                · clear hb HBY
                  go_wp2
                  go_round
                  case rel => exact ⟨m + 1, by go_num, by omega, by omega⟩
                  case measure => simp [intOf]; omega
              · obtain rfl : m = K := by omega
                have HEND : Hid (n + m = s.size ∨ ∃ h : n + m < s.size, M.isNm ((s[n + m]'h).toNat : Int) = false ∧ (((s[n + m]'h).toNat : Int) == 46) = false) := by
                  rcases HE.out with e1 | ⟨d, r, e1, e2⟩
                  · left; have := drop_nil_len e1; have := HK.out; have := HCL.out; omega
                  · right
                    have e4 := drop_cons_len e1
                    have hin : n + m < s.size := by have := HK.out; have := HCL.out; omega
                    have e3 : s.data.toList.drop (n + m) = d :: r := by
                      have : n + m = (n + 1) + (m - 1) := by omega
                      have e5 : m - 1 = (cs.takeWhile M.nmd).length := by have := HK.out; omega
                      rw [this, ← List.drop_drop, HR.out, e5]; exact e1
                    refine ⟨hin, ?_⟩
                    rw [byte_at s _ rfl (n + m) hin d r e3]
                    unfold M.nmd at e2
                    simp only [Bool.or_eq_false_iff] at e2
                    exact e2
                rcases HEND.out with hend | ⟨hin, hb, hn46⟩
                · have hge : decide ((n : Int) + (m : Int) < (s.size : Int)) = false := decide_eq_false (by omega)
                  clear hend HEND
                  go_wp2_with (at_builtin; refine wpList_append_own _ rfl (.tmp 116) (.tmp 124) 29 rfl w.heap.size 33 i0 (.agg #[.int .i64 0, .string ⟨#[]⟩]) 2 24 Try.underlying29 hi hz0 hz1 hz2 rfl (by decide) _ _ _ rfl (hown.alloc _) ⟨wr.heap.size, 0, none⟩ 1 1 [.int .i64 2, .string (s.extract n (n + m))] rfl rfl (tok_new _ _ _ _) (tok_one _ _) (by unfold maxLen; omega) (by omega) (by simp; omega) ?_; intro v' w2 hown2 hgrow _)
                  have hbel2 : Below w.heap.size w w2 := (hbel.alloc hsz _).grown hgrow (by simp; omega) (fun j hj => (hown.lt j hj).1)
                  clear hgrow hown hbel
                  go_wp2
                  go_roundw
                  case rel =>
                    refine ⟨n + m, T ++ [(2, c :: cs.takeWhile M.nmd)], by go_num, hK2, HN, ?_, hbel2⟩
                    rw [HTX.out] at hown2
                    rw [tokCells_append, List.length_append]; exact hown2
                  case measure => simp [intOf]; omega
                · have HB : Hid (M.isNm ((s[n + m]'hin).toNat : Int) = false) := hb
                  clear hb HEND
                  go_wp2_with fail
                  refine (nameChar_any _ _).mono ?_
                  rintro e w' ⟨rfl, hw⟩
                  rw [hw, HB.out]
                  clear hw
                  go_wp2_with (at_builtin; refine wpList_append_own _ rfl (.tmp 116) (.tmp 124) 29 rfl w.heap.size 33 i0 (.agg #[.int .i64 0, .string ⟨#[]⟩]) 2 24 Try.underlying29 hi hz0 hz1 hz2 rfl (by decide) _ _ _ rfl (hown.alloc _) ⟨wr.heap.size, 0, none⟩ 1 1 [.int .i64 2, .string (s.extract n (n + m))] rfl rfl (tok_new _ _ _ _) (tok_one _ _) (by unfold maxLen; omega) (by omega) (by simp; omega) ?_; intro v' w2 hown2 hgrow _)
                  have hbel2 : Below w.heap.size w w2 := (hbel.alloc hsz _).grown hgrow (by simp; omega) (fun j hj => (hown.lt j hj).1)
                  clear hgrow hown hbel
                  go_wp2
                  go_roundw
                  case rel =>
                    refine ⟨n + m, T ++ [(2, c :: cs.takeWhile M.nmd)], by go_num, hK2, HN, ?_, hbel2⟩
                    rw [HTX.out] at hown2
                    rw [tokCells_append, List.length_append]; exact hown2
                  case measure => simp [intOf]; omega
          · rw [if_neg h3] at HX
            have hdig : ¬ (48 ≤ ((s[n]'hlt).toNat : Int) ∧ ((s[n]'hlt).toNat : Int) ≤ 57) := by rw [← isDig_iff, EB]; exact h3
            clear h3
            by_cases h4 : c = 39
            · -- a literal
              rw [if_pos h4] at HX
              have hX : ((s[n]'hlt).toNat : Int) = 39 := by rw [EB, h4]; rfl
              have hes2 : (s.extract n s.size).size = s.size - n := by rw [← size_list, ext_end, List.length_drop, size_list]
              have HES : Hid ((s.extract n s.size).size = s.size - n) := hes2
              clear EB h4 hlet hdig g32 g9 g10 g13 g95 hX0 hes2
              go_wp2_with fail
              refine (strLit_any _ c cs _ HEX.out hes).mono ?_
              rintro e w1 ⟨m, rfl, hm1, hm2, hm3, hb1⟩
              have hm4 : n + m ≤ s.size := by have := HES.out; omega
              have HN : Hid ((T ++ [(1, (M.strA false cs).1)]) ++ M.lex (s.data.toList.drop (n + m)) = M.lex s.data.toList) :=
                tok_step HT.out (by rw [HDR.out]; exact HX) (by rw [← List.drop_drop, ← ext_end]; exact hm3)
              have hown1 := owns_below hown hb1
              have hbel1 : Below w.heap.size w w1 := hbel.trans (hb1.mono hsz)
              have hsz1 := hbel1.size
              clear hm2 hm3 hb1 hown hbel HT HX HES
              generalize (M.strA false cs).1 = V at HN
              go_wp2_with (at_builtin; refine wpList_append_own _ rfl (.tmp 139) (.tmp 142) 29 rfl w.heap.size 33 i0 (.agg #[.int .i64 0, .string ⟨#[]⟩]) 2 24 Try.underlying29 hi hz0 hz1 hz2 rfl (by decide) _ _ _ rfl (hown1.alloc _) ⟨w1.heap.size, 0, none⟩ 1 1 [.int .i64 1, .string ⟨V.toArray⟩] rfl rfl (tok_new _ _ _ _) (tok_one _ _) (by unfold maxLen; omega) (by omega) (by simp; omega) ?_; intro v' w2 hown2 hgrow _)
              have hbel2 : Below w.heap.size w w2 := (hbel1.alloc hsz1 _).grown hgrow (by simp; omega) (fun j hj => (hown1.lt j hj).1)
              clear hgrow hown1 hbel1
              go_wp2
              go_roundw
              case rel =>
                refine ⟨n + m, T ++ [(1, V)], by go_num, hm4, HN, ?_, hbel2⟩
                rw [tokCells_append, List.length_append]; exact hown2
              case measure => simp [intOf]; omega
            · -- a byte of its own
              rw [if_neg h4] at HX
              have g39 : (((s[n]'hlt).toNat : Int) == 39) = false := by
                rw [EB]
                simp only [beq_eq_false_iff_ne, ne_eq]
                intro h
                exact h4 (UInt8.toNat_inj.1 (by show c.toNat = 39; omega))
              have HTX : Hid (s.extract n (n + 1) = bs [c]) := ext_eq _ _ _ _ (by rw [Nat.add_sub_cancel_left, HDR.out]; rfl)
              have HN : Hid ((T ++ [(2, [c])]) ++ M.lex (s.data.toList.drop (n + 1)) = M.lex s.data.toList) := tok_step HT.out (by rw [HDR.out]; exact HX) HR.out
              clear EB h4 HX HT HEX hes
              rcases (show ((s[n]'hlt).toNat : Int) < 48 ∨ (57 < ((s[n]'hlt).toNat : Int) ∧ ((s[n]'hlt).toNat : Int) < 65) ∨ (90 < ((s[n]'hlt).toNat : Int) ∧ ((s[n]'hlt).toNat : Int) < 97) ∨ 122 < ((s[n]'hlt).toNat : Int) by omega) with g | ⟨g, g'⟩ | ⟨g, g'⟩ | g
              all_goals
                have d1 : (decide (48 ≤ ((s[n]'hlt).toNat : Int)) && decide (((s[n]'hlt).toNat : Int) ≤ 57)) = false := by simp; omega
                have d2 : (decide (97 ≤ ((s[n]'hlt).toNat : Int)) && decide (((s[n]'hlt).toNat : Int) ≤ 122)) = false := by simp; omega
                have d3 : (decide (65 ≤ ((s[n]'hlt).toNat : Int)) && decide (((s[n]'hlt).toNat : Int) ≤ 90)) = false := by simp; omega
                first | have e1 : decide (48 ≤ ((s[n]'hlt).toNat : Int)) = false := decide_eq_false (by omega) | have e1 : decide (((s[n]'hlt).toNat : Int) ≤ 57) = false := decide_eq_false (by omega)
                first | have e2 : decide (97 ≤ ((s[n]'hlt).toNat : Int)) = false := decide_eq_false (by omega) | have e2 : decide (((s[n]'hlt).toNat : Int) ≤ 122) = false := decide_eq_false (by omega)
                first | have e3 : decide (65 ≤ ((s[n]'hlt).toNat : Int)) = false := decide_eq_false (by omega) | have e3 : decide (((s[n]'hlt).toNat : Int) ≤ 90) = false := decide_eq_false (by omega)
                clear hlet hdig d1 d2 d3
                go_wp2_with (at_builtin; refine wpList_append_own _ rfl (.tmp 17) (.tmp 24) 29 rfl w.heap.size 33 i0 (.agg #[.int .i64 0, .string ⟨#[]⟩]) 2 24 Try.underlying29 hi hz0 hz1 hz2 rfl (by decide) _ _ _ rfl (hown.alloc _) ⟨wr.heap.size, 0, none⟩ 1 1 [.int .i64 2, .string (s.extract n (n + 1))] rfl rfl (tok_new _ _ _ _) (tok_one _ _) (by unfold maxLen; omega) (by omega) (by simp; omega) ?_; intro v' w2 hown2 hgrow _)
                have hbel2 : Below w.heap.size w w2 := (hbel.alloc hsz _).grown hgrow (by simp; omega) (fun j hj => (hown.lt j hj).1)
                clear hgrow hown hbel
                go_wp2
                go_roundw
                case rel =>
                  refine ⟨n + 1, T ++ [(2, [c])], by go_num, by omega, HN, ?_, hbel2⟩
                  rw [HTX.out] at hown2
                  rw [tokCells_append, List.length_append]; exact hown2
                case measure => simp [intOf]; omega
    · obtain rfl : n = s.size := by omega
      have h3 : s.data.toList.drop s.size = [] := List.drop_eq_nil_of_le (by rw [HS.out]; exact Nat.le_refl _)
      have HF : Hid (T = M.lex s.data.toList) := by
        have h5 := HT.out
        rw [h3, M.lex_nil, List.append_nil] at h5
        exact h5
      clear h3 HT
      go_wp2
      go_ret
      refine ⟨_, rfl, ?_, hbel⟩
      rw [← HF.out]; exact hown

end Go.Proofs.Qxb6632232a
