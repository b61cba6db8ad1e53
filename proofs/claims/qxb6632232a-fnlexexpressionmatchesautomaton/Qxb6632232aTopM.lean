/-
  FnLexExpressionMatchesAutomaton: the walk out of the contracts.
-/
import Derived.Test.Qxb6632232aModel
import Derived.Deep.QuietTactic
import Derived.BigQuiet
namespace Go.Proofs.Qxb6632232a
open Go.RowKit
set_option linter.unusedVariables false

theorem topM_no (s : ByteArray) (w : World) (hn : ¬ s.size ≤ 1048576) (hm : s.size ≤ 9223372036854775807) : Calls Try.prog 3 #[.string s] w fun e w' => e = .returned (.bool true) ∧ Below w.heap.size w w' := by
  go_enter Try.func3, Try.ntmps3
  go_wp2_with (go_at_call 5; refine (bytes5_no _ _ hn hm).mono ?_; rintro e w' ⟨rfl, rfl⟩)
  go_ret
  exact ⟨rfl, Below.refl _ _⟩

set_option maxHeartbeats 1000000 in
set_option maxRecDepth 1000000 in
theorem topM_any (s : ByteArray) (w : World) (hs : s.size ≤ 1048576) : Calls Try.prog 3 #[.string s] w fun e w' => e = .returned (.bool true) ∧ Below w.heap.size w w' := by
  go_enter Try.func3, Try.ntmps3
  go_wp2_with (go_at_call 5; refine (bytes5_any _ _ hs).mono ?_; rintro e w' ⟨rfl, hw⟩; subst w')
  refine (zz_any s w hs).mono ?_
  rintro e w1 ⟨v1, v2, rfl, hr1, hr2, hbel⟩
  have hNl : (M.lex s.data.toList).length ≤ 1048576 := by have := M.lex_len s.data.toList; rw [size_list] at this; omega
  obtain ⟨a1, c1, a2, c2, e1, e2, hrows⟩ := rows_open hr1 hr2
  rw [e1, e2]
  have HR : Hid _ := hrows
  clear hrows e1 e2 hr1 hr2
  have hsz := hbel.size
  go_wp2_with fail
  refine (model_any s w1 hs).mono ?_
  rintro e w2 ⟨v3, v4, rfl, hr3, hr4, hbel2⟩
  obtain ⟨a3, c3, a4, c4, e3, e4, hrows2⟩ := rows_open hr3 hr4
  rw [e3, e4]
  have HR2 : Hid _ := hrows2
  clear hrows2 e3 e4 hr3 hr4
  have hfin : Below w.heap.size w w2 := hbel.trans (hbel2.mono hsz)
  generalize M.lex s.data.toList = T at *
  go_wp2
  go_loopw [7] (fun i wr => ∃ k q : Nat, i = .int .i64 k ∧ k ≤ T.length ∧ wr = w2.drewN q) (fun i _ => T.length - (intOf i).toNat)
  case atStart => exact ⟨0, 0, rfl, Nat.zero_le _, rfl⟩
  case round =>
    obtain ⟨k, q, rfl, hk, rfl⟩ := hrel
    by_cases hlt : k < T.length
    · obtain ⟨t, ht⟩ : ∃ t, T[k]? = some t := ⟨T[k], List.getElem?_eq_getElem hlt⟩
      obtain ⟨g1, g2, rfl, rfl, l1, l2, d1, d2⟩ := HR.out k t ht
      obtain ⟨g3, g4, rfl, rfl, l3, l4, d3, d4⟩ := HR2.out k t ht
      have d1 : w2.cell? ⟨g1, k, none⟩ = some (.int .i64 t.1) := (hbel2.cell (by exact l1)).trans d1
      have d2 : w2.cell? ⟨g2, k, none⟩ = some (.string (bs t.2)) := (hbel2.cell (by exact l2)).trans d2
      clear ht
      generalize t.1 = x at *
      generalize bs t.2 = y at *
      go_wp2
      go_quiet (fail)
      go_wp2
      go_roundw
      case rel => exact ⟨k + 1, q + nq, by go_num, by omega, by simp⟩
      case measure => simp [intOf]; omega
    · go_wp2
      go_ret
      exact ⟨rfl, below_drewN hfin q⟩

end Go.Proofs.Qxb6632232a
