/-
  nameLength and stringLiteral.
-/
import Derived.Test.Qxb6632232aLeaf
import Derived.Test.Qxb6632232aShelf
import Derived.Deep.LoopGhost
namespace Go.Proofs.Qxb6632232a
open Go.RowKit
set_option linter.unusedVariables false

theorem ret1 {k : IntKind} {a b : Int} (h : a = b) : Ending.returned (.int k a) = .returned (.int k b) := by rw [h]

theorem tw_at (p : UInt8 → Bool) : ∀ (l : List UInt8) (k : Nat), k < (l.takeWhile p).length → ∃ d r, l.drop k = d :: r ∧ p d = true := by
  intro l
  induction l with
  | nil => intro k h; simp at h
  | cons c cs ih =>
    intro k h
    rw [M.tw_cons] at h
    by_cases hc : p c = true
    · rw [if_pos hc] at h
      cases k with
      | zero => exact ⟨c, cs, rfl, hc⟩
      | succ k => exact ih k (by simpa using h)
    · rw [if_neg hc] at h; simp at h

theorem tw_end (p : UInt8 → Bool) : ∀ (l : List UInt8), l.drop (l.takeWhile p).length = [] ∨ ∃ d r, l.drop (l.takeWhile p).length = d :: r ∧ p d = false := by
  intro l
  induction l with
  | nil => left; rfl
  | cons c cs ih =>
    rw [M.tw_cons]
    by_cases hc : p c = true
    · rw [if_pos hc]; exact ih
    · rw [if_neg hc]; right; exact ⟨c, cs, rfl, by simpa using hc⟩

theorem drop_nil_len {l : List UInt8} {k : Nat} (h : l.drop k = []) : l.length ≤ k := by
  have := congrArg List.length h
  simp at this
  omega
theorem drop_cons_len {l : List UInt8} {k : Nat} {d : UInt8} {r : List UInt8} (h : l.drop k = d :: r) : k < l.length := by
  have := congrArg List.length h
  simp at this
  omega

set_option maxHeartbeats 400000 in
theorem nameLen_any (s : ByteArray) (c : UInt8) (cs : List UInt8) (w : World) (hl : s.data.toList = c :: cs) (hs : s.size ≤ 1048576) :
    Calls Try.prog 14 #[.string s] w fun e w' => e = .returned (.int .i64 (1 + (cs.takeWhile M.nm).length : Nat)) ∧ w' = w := by
  have hsz : cs.length + 1 = s.size := by rw [← size_list, hl]; rfl
  have HL : Hid (s.data.toList = c :: cs) := hl
  have hle : (cs.takeWhile M.nm).length + 1 ≤ s.size := by have := (List.takeWhile_prefix M.nm (l := cs)).length_le; omega
  have HS : Hid (cs.length + 1 = s.size) := hsz
  have HA : Hid (∀ k, k < (cs.takeWhile M.nm).length → ∃ d r, cs.drop k = d :: r ∧ M.nm d = true) := tw_at M.nm cs
  have HE : Hid (cs.drop (cs.takeWhile M.nm).length = [] ∨ ∃ d r, cs.drop (cs.takeWhile M.nm).length = d :: r ∧ M.nm d = false) := tw_end M.nm cs
  generalize (cs.takeWhile M.nm).length = K at *
  clear hl hsz
  go_enter Try.func14, Try.ntmps14
  go_wp2
  go_loop [3] (fun i => ∃ n : Nat, i = .int .i64 n ∧ 1 ≤ n ∧ n ≤ K + 1) (fun i => s.size - (intOf i).toNat)
  case atStart => exact ⟨1, rfl, by omega, by omega⟩
  case round =>
    obtain ⟨n, rfl, hn1, hn2⟩ := hrel
    obtain ⟨m, rfl⟩ : ∃ m, n = m + 1 := ⟨n - 1, by omega⟩
    by_cases hlt : m < K
    · have hin : m + 1 < s.size := by omega
      have HB : Hid (M.isNm ((s[m + 1]'hin).toNat : Int) = true) := by
        obtain ⟨d, r, h1, h2⟩ := HA.out m hlt
        show _ = _
        rw [byte_at s _ HL.out (m + 1) hin d r h1]
        exact h2
      go_wp2_with fail
      refine (nameChar_any _ _).mono ?_
      rintro e w' ⟨rfl, hw⟩
      rw [hw, HB.out]
      clear hw
      go_wp2
      go_round
      case rel => exact ⟨m + 1 + 1, by go_num, by omega, by omega⟩
      case measure => simp [intOf]; omega
    · obtain rfl : m = K := by omega
      rcases HE.out with h | ⟨d, r, h1, h2⟩
      · have h3 := drop_nil_len h
        have hge : ¬ ((m : Int) + 1 < s.size) := by have := HS.out; omega
        have hge' : decide ((m : Int) + 1 < s.size) = false := decide_eq_false hge
        clear hge h3 h
        go_wp2
        go_ret
        exact ⟨ret1 (by omega), rfl⟩
      · have h3 := drop_cons_len h1
        have hin : m + 1 < s.size := by have := HS.out; omega
        have HB : Hid (M.isNm ((s[m + 1]'hin).toNat : Int) = false) := by
          show _ = _
          rw [byte_at s _ HL.out (m + 1) hin d r h1]
          exact h2
        clear h1 h3
        go_wp2_with fail
        refine (nameChar_any _ _).mono ?_
        rintro e w' ⟨rfl, hw⟩
        rw [hw, HB.out]
        clear hw
        go_wp2
        go_ret
        exact ⟨ret1 (by omega), rfl⟩


set_option maxHeartbeats 1000000 in
theorem strLit_any (s : ByteArray) (c : UInt8) (cs : List UInt8) (w : World) (hl : s.data.toList = c :: cs) (hs : s.size ≤ 1048576) :
    Calls Try.prog 16 #[.string s] w fun e w' => ∃ n : Nat, e = .returned (.tuple #[.string ⟨(M.strA false cs).1.toArray⟩, .int .i64 n]) ∧ 1 ≤ n ∧ n ≤ s.size ∧ s.data.toList.drop n = (M.strA false cs).2 ∧ Below w.heap.size w w' := by
  have HS : Hid (s.data.toList.length = s.size) := size_list s
  have HV := (M.strA_len cs false).1
  have hcs : cs.length + 1 = s.size := by rw [← size_list, hl]; rfl
  have hvl : (M.strA false cs).1.length ≤ 1048576 := by omega
  have H0 : Hid ((M.strA false (s.data.toList.drop 1)).1 = (M.strA false cs).1 ∧ (M.strA false (s.data.toList.drop 1)).2 = (M.strA false cs).2) := by rw [hl]; exact ⟨rfl, rfl⟩
  have hs1 : 1 ≤ s.size := by omega
  clear hl HV hcs
  generalize (M.strA false cs).1 = V at *
  generalize (M.strA false cs).2 = R at *
  go_enter Try.func16, Try.ntmps16
  go_wp2
  go_loopw [3] (fun i wr => ∃ (n : Nat) (U : List UInt8), i = .int .i64 n ∧ 1 ≤ n ∧ n ≤ s.size ∧ Hid (U ++ (M.strA false (s.data.toList.drop n)).1 = V ∧ (M.strA false (s.data.toList.drop n)).2 = R) ∧ Lib.IsBuilder 39 5 w.heap.size w.heap.size (Lib.byteCells U) wr ∧ Below w.heap.size w wr)
    (fun i _ => s.size - (intOf i).toNat)
  case atStart => 
    refine ⟨1, [], rfl, Nat.le_refl _, hs1, ⟨H0.out.1, H0.out.2⟩, ?_, (Below.refl _ _).alloc (Nat.le_refl _) _⟩
    exact .inl ⟨Nat.le_refl _, .slice none 0 0, heap_alloc_new w _, World.ownsRow_nil _ _ _ _, by simp [Value.ownBlock]⟩
  case round =>
    obtain ⟨n, U, rfl, hn1, hn2, HU, hbd, hbel⟩ := hrel
    have hUl : U.length ≤ 1048576 := by
      have h1 := congrArg List.length HU.out.1
      rw [List.length_append] at h1; omega
    have hsz := hbel.size
    by_cases hlt : n < s.size
    · obtain ⟨d, r, hdr⟩ : ∃ d r, s.data.toList.drop n = d :: r := by
        cases h : s.data.toList.drop n with
        | nil => have := drop_nil_len h; have := HS.out; omega
        | cons d r => exact ⟨d, r, rfl⟩
      have EB : s[n]'hlt = d := byte_at s _ rfl n hlt d r hdr
      have HR : Hid (s.data.toList.drop (n + 1) = r) := drop_step hdr
      by_cases hd : d = 39
      · have hq : (((s[n]'hlt).toNat : Int) == 39) = true := by rw [EB, hd]; rfl
        have HA : Hid (U ++ (M.strA true r).1 = V ∧ (M.strA true r).2 = R) := by
          have h1 := HU.out
          rw [hdr, M.strA, if_pos hd] at h1
          exact h1
        clear EB hdr HU
        cases hr : r with
        | nil =>
          have h3 : s.data.toList.drop (n + 1) = [] := by rw [HR.out, hr]
          have h4 := drop_nil_len h3
          have hge : decide ((n : Int) + 1 < (s.size : Int)) = false := decide_eq_false (by have := HS.out; omega)
          have HF : Hid (U = V ∧ s.data.toList.drop (n + 1) = R) := by
            have h5 := HA.out
            rw [hr] at h5
            simp [M.strA] at h5
            exact ⟨h5.1, by rw [h3]; first | exact h5.2 | exact h5.2.symm⟩
          have hn3 : n + 1 ≤ s.size := by omega
          clear h3 h4 hr HA HR
          go_wp2_with fail
          refine (builderString w.heap.size w.heap.size U _ hbd hsz).mono ?_
          rintro e w' ⟨rfl, hb'⟩
          go_wp2
          go_ret2
          exact ⟨n + 1, by rw [HF.out.1]; rfl, by omega, hn3, HF.out.2, hbel.trans hb'⟩
        | cons d2 r2 =>
          have h3 : s.data.toList.drop (n + 1) = d2 :: r2 := by rw [HR.out, hr]
          have h4 := drop_cons_len h3
          have hlt2 : n + 1 < s.size := by have := HS.out; omega
          have EB2 : s[n + 1]'hlt2 = d2 := byte_at s _ rfl (n + 1) hlt2 d2 r2 h3
          by_cases hd2 : d2 = 39
          · have hq2 : (((s[n + 1]'hlt2).toNat : Int) == 39) = true := by rw [EB2, hd2]; rfl
            have HC : Hid (((s[n + 1]'hlt2).toNat : Int) = (((39 : UInt8)).toNat : Int)) := by rw [EB2, hd2]; rfl
            have HN : Hid ((U ++ [39]) ++ (M.strA false (s.data.toList.drop (n + 1 + 1))).1 = V ∧ (M.strA false (s.data.toList.drop (n + 1 + 1))).2 = R) := by
              have h5 := HA.out
              rw [hr, M.strA, if_pos hd2] at h5
              rw [drop_step h3, List.append_assoc]
              exact h5
            clear h3 h4 hr HA HR EB2 hd2
            go_wp2_with fail
            refine (writeByte w.heap.size w.heap.size (Lib.byteCells U) _ _ hbd (by rw [Lib.byteCells_length]; omega) hsz).mono ?_
            rintro e w' ⟨rfl, hbd', hb'⟩
            go_wp2
            go_roundw
            case rel =>
              refine ⟨n + 1 + 1, U ++ [39], by go_num, by omega, by omega, HN, .inr ?_, hbel.trans hb'⟩
              rw [HC.out] at hbd'
              simpa [Lib.byteCells] using hbd'
            case measure => simp [intOf]; omega
          · have hq2 : (((s[n + 1]'hlt2).toNat : Int) == 39) = false := by
              rw [EB2]
              simp only [beq_eq_false_iff_ne, ne_eq]
              intro h
              exact hd2 (UInt8.toNat_inj.1 (by show d2.toNat = 39; omega))
            have HF : Hid (U = V ∧ s.data.toList.drop (n + 1) = R) := by
              have h5 := HA.out
              rw [hr, M.strA, if_neg hd2] at h5
              simp at h5
              exact ⟨h5.1, by rw [h3]; first | exact h5.2 | exact h5.2.symm⟩
            clear h3 h4 hr HA HR EB2 hd2
            go_wp2_with fail
            refine (builderString w.heap.size w.heap.size U _ hbd hsz).mono ?_
            rintro e w' ⟨rfl, hb'⟩
            go_wp2
            go_ret2
            exact ⟨n + 1, by rw [HF.out.1]; rfl, by omega, by omega, HF.out.2, hbel.trans hb'⟩
      · have hq : (((s[n]'hlt).toNat : Int) == 39) = false := by
          rw [EB]
          simp only [beq_eq_false_iff_ne, ne_eq]
          intro h
          exact hd (UInt8.toNat_inj.1 (by show d.toNat = 39; omega))
        have HC : Hid (((s[n]'hlt).toNat : Int) = (d.toNat : Int)) := by rw [EB]; rfl
        have HN : Hid ((U ++ [d]) ++ (M.strA false (s.data.toList.drop (n + 1))).1 = V ∧ (M.strA false (s.data.toList.drop (n + 1))).2 = R) := by
          have h5 := HU.out
          rw [hdr, M.strA, if_neg hd] at h5
          rw [HR.out, List.append_assoc]
          exact h5
        clear EB hdr HU hd HR
        go_wp2_with fail
        refine (writeByte w.heap.size w.heap.size (Lib.byteCells U) _ _ hbd (by rw [Lib.byteCells_length]; omega) hsz).mono ?_
        rintro e w' ⟨rfl, hbd', hb'⟩
        go_wp2
        go_roundw
        case rel =>
          refine ⟨n + 1, U ++ [d], by go_num, by omega, by omega, HN, .inr ?_, hbel.trans hb'⟩
          rw [HC.out] at hbd'
          simpa [Lib.byteCells] using hbd'
        case measure => simp [intOf]; omega
    · obtain rfl : n = s.size := by omega
      have h3 : s.data.toList.drop s.size = [] := List.drop_eq_nil_of_le (by rw [HS.out]; exact Nat.le_refl _)
      have HF : Hid (U = V ∧ s.data.toList.drop s.size = R) := by
        have h5 := HU.out
        rw [h3] at h5
        simp [M.strA] at h5
        exact ⟨h5.1, by rw [h3]; first | exact h5.2 | exact h5.2.symm⟩
      clear HU h3
      go_wp2_with fail
      refine (builderString w.heap.size w.heap.size U _ hbd hsz).mono ?_
      rintro e w' ⟨rfl, hb'⟩
      go_wp2
      go_ret2
      exact ⟨s.size, by rw [HF.out.1]; rfl, by omega, by omega, HF.out.2, hbel.trans hb'⟩

end Go.Proofs.Qxb6632232a
