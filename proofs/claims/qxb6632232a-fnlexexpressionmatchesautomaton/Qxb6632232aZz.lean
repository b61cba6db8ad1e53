/-
  ZZlexExpression: the tokens handed out field by field.
-/
import Derived.Test.Qxb6632232aLex
namespace Go.Proofs.Qxb6632232a
open Go.RowKit
set_option linter.unusedVariables false

theorem Try.info3 : (Try.prog.info? 3).map (fun i => (i.zero, i.size, i.bytes)) = some (some (.int .i64 0), 1, 8) := by kernel_rfl
theorem Try.info9 : (Try.prog.info? 9).map (fun i => (i.zero, i.size, i.bytes)) = some (some (.string ⟨#[]⟩), 1, 16) := by kernel_rfl
theorem Try.info5 : (Try.prog.info? 5).map (fun i => (i.zero, i.size, i.bytes)) = some (some (.int .u8 0), 1, 1) := by kernel_rfl

theorem owns_apart {w : World} {b1 b2 : Nat} {e1 e2 : TypeId} {s1 s2 : Nat} {v1 v2 : Value} {n1 n2 : Nat} {x1 x2 : List Value} (h1 : w.ownsRow b1 e1 s1 v1 n1 x1) (h2 : w.ownsRow b2 e2 s2 v2 n2 x2) (he : e1 ≠ e2) : v1.ownBlock = none ∨ v1.ownBlock ≠ v2.ownBlock := by
  rcases h1.2 with ⟨rfl, _⟩ | ⟨g, cap, cur, rfl, _, hg, _⟩
  · exact .inl rfl
  · right
    rcases h2.2 with ⟨rfl, _⟩ | ⟨g', cap', cur', rfl, _, hg', _⟩
    · simp [Value.ownBlock]
    · simp only [Value.ownBlock, ne_eq, Option.some.injEq]
      intro e
      subst e
      rw [hg] at hg'
      simp at hg'
      exact he hg'.2

theorem owns_base {w : World} {b b' : Nat} {e : TypeId} {size : Nat} {v : Value} {n : Nat} {xs : List Value} (h : w.ownsRow b e size v n xs) (hb : b' ≤ b) : w.ownsRow b' e size v n xs := by
  refine ⟨h.1, ?_⟩
  rcases h.2 with hn | ⟨g, cap, cur, rfl, hbb, rest⟩
  · exact .inl hn
  · exact .inr ⟨g, cap, cur, rfl, by omega, rest⟩

theorem owns_shape {w : World} {b : Nat} {e : TypeId} {size : Nat} {v : Value} {n : Nat} {xs : List Value} (h : w.ownsRow b e size v n xs) :
    ∃ ao cap, v = .slice ao n cap ∧ (0 < n → ∃ g, ao = some ⟨g, 0, none⟩ ∧ b ≤ g ∧ g < w.heap.size ∧ ∀ j, j < n * size → w.cell? ⟨g, j, none⟩ = xs[j]?) := by
  rcases h.2 with ⟨rfl, rfl⟩ | ⟨g, cap, cur, rfl, hbb, hgg, h1, h2, h3, h4⟩
  · exact ⟨none, 0, rfl, fun h => by omega⟩
  · refine ⟨_, cap, rfl, fun _ => ⟨g, rfl, hbb, lt_of_block hgg, ?_⟩⟩
    exact (show w.ownsRow b e size (.slice (some ⟨g, 0, none⟩) n cap) n xs from ⟨h.1, .inr ⟨g, cap, cur, rfl, hbb, hgg, h1, h2, h3, h4⟩⟩).cellAt

theorem one_new (w : World) (B : Nat) (v : Value) (t : TypeId) (hB : w.heap.size = B) : ∀ (j : Nat) (u : Value), [v][j]? = some u → (w.alloc (.cells #[v] t)).cell? ((⟨B, 0, none⟩ : Addr).add j) = some u := by
  intro j u hj
  subst hB
  match j, hj with
  | 0, hj => simp at hj; subst hj; simp [Addr.add]
theorem one_int (k : IntKind) (x : Int) : ∀ u ∈ [Value.int k x], u.oneCell' = true := by
  intro u hu; simp at hu; subst hu; rfl
theorem one_str (s : ByteArray) : ∀ u ∈ [Value.string s], u.oneCell' = true := by
  intro u hu; simp at hu; subst hu; rfl

theorem tokCells_at : ∀ (T : List (Int × List UInt8)) (k : Nat) (t : Int × List UInt8), T[k]? = some t → (tokCells T)[k * 2]? = some (.int .i64 t.1) ∧ (tokCells T)[k * 2 + 1]? = some (.string (bs t.2)) := by
  intro T
  induction T with
  | nil => intro k t h; simp at h
  | cons x xs ih =>
    intro k t h
    cases k with
    | zero => simp at h; subst h; exact ⟨rfl, rfl⟩
    | succ k => 
      have := ih k t (by simpa using h)
      have e : (k + 1) * 2 = k * 2 + 2 := by omega
      rw [e]
      exact this

def kinds (T : List (Int × List UInt8)) : List Value := T.map fun t => .int .i64 t.1
def texts (T : List (Int × List UInt8)) : List Value := T.map fun t => .string (bs t.2)

theorem kinds_step {T : List (Int × List UInt8)} {k : Nat} {t : Int × List UInt8} (h : T[k]? = some t) : kinds (T.take (k + 1)) = kinds (T.take k) ++ [.int .i64 t.1] ∧ texts (T.take (k + 1)) = texts (T.take k) ++ [.string (bs t.2)] := by
  have hk : k < T.length := by
    rcases Nat.lt_or_ge k T.length with h' | h'
    · exact h'
    · rw [List.getElem?_eq_none h'] at h; simp at h
  rw [List.getElem?_eq_getElem hk] at h
  have e : T[k] = t := Option.some.inj h
  unfold kinds texts
  rw [List.take_succ_eq_append_getElem hk, List.map_append, List.map_append, e]
  exact ⟨rfl, rfl⟩

theorem zz_mid {w1 wr w2 : World} {u2 u3 v' : Value} {n1 n2 : Nat} {X Y : List Value} {k : Int} {x : ByteArray} (h1 : wr.ownsRow w1.heap.size 3 1 u2 n1 X) (h2 : wr.ownsRow w1.heap.size 9 1 u3 n2 Y) (hb : Below w1.heap.size w1 wr)
    (hg : ((wr.alloc (.cells #[.int .i64 k, .string x] 33)).alloc (.cells #[.int .i64 k] 3)).grownBy w2 u2.ownBlock) :
    w2.cell? ⟨wr.heap.size, 1, none⟩ = some (.string x) ∧ w2.ownsRow w1.heap.size 9 1 u3 n2 Y ∧ Below w1.heap.size w1 w2 ∧ w1.heap.size ≤ w2.heap.size := by
  have hsz := hb.size
  have A3 : ((wr.alloc (.cells #[.int .i64 k, .string x] 33)).alloc (.cells #[.int .i64 k] 3)).cell? ⟨wr.heap.size, 1, none⟩ = some (.string x) := by
    rw [World.cell?_alloc_past _ _ _ (by simp), World.cell?_alloc_at _ _ _ _ rfl]; rfl
  have B1 : Below w1.heap.size w1 ((wr.alloc (.cells #[.int .i64 k, .string x] 33)).alloc (.cells #[.int .i64 k] 3)) := (hb.alloc hsz _).alloc (by simp; omega) _
  have B2 := B1.grown hg (by simp; omega) (fun j hj => (h1.lt j hj).1)
  refine ⟨hg.cell A3 (fun e => ?_), ((h2.alloc _).alloc _).kept hg (owns_apart h2 h1 (by decide)), B2, B2.size⟩
  have := (h1.lt _ e.symm).2
  simp at this

set_option maxHeartbeats 1000000 in
theorem zz_any (s : ByteArray) (w : World) (hs : s.size ≤ 1048576) :
    Calls Try.prog 6 #[.string s] w fun e w' => ∃ v1 v2, e = .returned (.tuple #[v1, v2]) ∧ w'.ownsRow w.heap.size 3 1 v1 (M.lex s.data.toList).length (kinds (M.lex s.data.toList)) ∧ w'.ownsRow w.heap.size 9 1 v2 (M.lex s.data.toList).length (texts (M.lex s.data.toList)) ∧ Below w.heap.size w w' := by
  obtain ⟨i3, hi3, hz30, hz31, hz32⟩ := info_parts Try.info3
  obtain ⟨i9, hi9, hz90, hz91, hz92⟩ := info_parts Try.info9
  have HLL := M.lex_len s.data.toList
  rw [size_list] at HLL
  go_enter Try.func6, Try.ntmps6
  go_wp2_with fail
  refine (lex_any s w hs).mono ?_
  rintro e w1 ⟨v, rfl, hown, hbel⟩
  generalize hTT : M.lex s.data.toList = T at *
  have HTT : Hid (M.lex s.data.toList = T) := hTT
  clear hTT
  obtain ⟨ao, cap, hv, hcell⟩ := owns_shape hown
  rw [hv]
  have hsz := hbel.size
  have hNl : T.length ≤ 1048576 := by omega
  have HT : Hid (∀ k t, T[k]? = some t → ∃ g, ao = some ⟨g, 0, none⟩ ∧ g < w1.heap.size ∧ w1.cell? ⟨g, k * 2, none⟩ = some (.int .i64 t.1) ∧ w1.cell? ⟨g, k * 2 + 1, none⟩ = some (.string (bs t.2))) := by
    intro k t hk
    have hlt : k < T.length := by
      rcases Nat.lt_or_ge k T.length with h' | h'
      · exact h'
      · rw [List.getElem?_eq_none h'] at hk; simp at hk
    obtain ⟨g, rfl, _, hg, hc⟩ := hcell (by omega)
    have := tokCells_at T k t hk
    exact ⟨g, rfl, hg, by rw [hc _ (by omega)]; exact this.1, by rw [hc _ (by omega)]; exact this.2⟩
  clear hv hcell hown HLL
  go_wp2
  go_loopw [2, 3, 9] (fun a b i wr => ∃ k : Nat, i = .int .i64 k ∧ k ≤ T.length ∧ wr.ownsRow w1.heap.size 3 1 a k (kinds (T.take k)) ∧ wr.ownsRow w1.heap.size 9 1 b k (texts (T.take k)) ∧ Below w1.heap.size w1 wr)
    (fun _ _ i _ => T.length - (intOf i).toNat)
  case atStart => exact ⟨0, rfl, Nat.zero_le _, World.ownsRow_nil _ _ _ _, World.ownsRow_nil _ _ _ _, Below.refl _ _⟩
  case round =>
    obtain ⟨k, rfl, hk, hk1, hk2, hb1⟩ := hrel
    by_cases hlt : k < T.length
    · obtain ⟨t, ht⟩ : ∃ t, T[k]? = some t := ⟨T[k], List.getElem?_eq_getElem hlt⟩
      obtain ⟨g, rfl, hg, c1, c2⟩ := HT.out k t ht
      have c1 : wr.cell? ⟨g, k * 2, none⟩ = some (.int .i64 t.1) := (hb1.cell (by exact hg)).trans c1
      have c2 : wr.cell? ⟨g, k * 2 + 1, none⟩ = some (.string (bs t.2)) := (hb1.cell (by exact hg)).trans c2
      have HST : Hid _ := kinds_step ht
      have hsz1 := hb1.size
      clear ht
      have HM : Hid _ := fun v' w2 => zz_mid (v' := v') (w2 := w2) (k := t.1) (x := bs t.2) hk1 hk2 hb1
      have hlen : w1.heap.size ≤ wr.heap.size := hsz1
      go_wp2_with (first
        | (at_builtin; refine wpList_append_own _ rfl (.tmp 13) (.tmp 16) 23 rfl w1.heap.size 3 i3 (.int .i64 0) 1 8 Try.underlying23 hi3 hz30 hz31 hz32 rfl (by decide) _ _ _ rfl ((hk1.alloc _).alloc _) ⟨wr.heap.size + 1, 0, none⟩ 1 1 [.int .i64 t.1] rfl rfl (one_new _ _ _ _ (by simp)) (one_int _ _) (by unfold maxLen; omega) (by omega) (by simp; omega) ?_; intro v' w2 hown2 hgrow _; obtain ⟨D1, D2, D3, D4⟩ := HM.out v' w2 hgrow; have HG : Hid (w2.ownsRow w1.heap.size 3 1 v' (k + 1) (kinds (T.take k) ++ [.int .i64 t.1])) := hown2; clear hk1 hgrow hown2 hk2 HM)
        | (at_builtin; refine wpList_append_own _ rfl (.tmp 18) (.tmp 21) 24 rfl w1.heap.size 9 i9 (.string ⟨#[]⟩) 1 16 Try.underlying24 hi9 hz90 hz91 hz92 rfl (by decide) _ _ _ rfl (D2.alloc _) ⟨w2.heap.size, 0, none⟩ 1 1 [.string (bs t.2)] rfl rfl (one_new _ _ _ _ rfl) (one_str _) (by unfold maxLen; omega) (by omega) (by simp; omega) ?_; intro v3 w3 hown3 hgrow3 _))
      have E1 : Below w1.heap.size w1 w3 := (D3.alloc D4 _).grown hgrow3 (by simp; omega) (fun j hj => (D2.lt j hj).1)
      have E2 : w3.ownsRow w1.heap.size 3 1 v' (k + 1) (kinds (T.take k) ++ [.int .i64 t.1]) := (World.ownsRow.alloc HG.out _).kept hgrow3 (owns_apart HG.out D2 (by decide))
      clear hgrow3 D1 D2 D3
      go_wp2
      go_roundw
      case rel =>
        refine ⟨k + 1, by go_num, by omega, ?_, ?_, E1⟩
        · rw [HST.out.1]; exact E2
        · rw [HST.out.2]; exact hown3
      case measure => simp [intOf]; omega
    · obtain rfl : k = T.length := by omega
      go_wp2
      go_ret2
      refine ⟨_, _, rfl, ?_, ?_, hbel.trans (hb1.mono hsz)⟩
      all_goals rw [HTT.out]
      · rw [List.take_length] at hk1; exact owns_base hk1 hsz
      · rw [List.take_length] at hk2; exact owns_base hk2 hsz

end Go.Proofs.Qxb6632232a
