/-
  zzSpanModel: it jumps over whole strings.
-/
import Derived.Test.Qxb6632282aMeasure
namespace Go.Proofs.Qxb6632282a
open Go.RowKit
set_option linter.unusedVariables false

set_option maxHeartbeats 4000000 in
set_option maxRecDepth 1000000 in
theorem span_any (ao : Option Addr) (c : Nat) (zs : List Int) (w : World) (hn : zs.length ≤ 1048576)
    (hc : ∀ k, k < zs.length → ∃ b off, ao = some ⟨b, off, none⟩ ∧ b < w.heap.size ∧ w.cell? ⟨b, off + k, none⟩ = some (.int .u8 (zs.getD k 0))) :
    Calls Try.prog 6 #[.slice ao zs.length c] w fun e w' => e = .returned (.tuple #[.int .i64 (M.meas zs false false 0 0 0 0).1, .int .i64 (M.meas zs false false 0 0 0 0).2.1, .int .i64 (M.meas zs false false 0 0 0 0).2.2]) ∧ w' = w := by
  have HC : Hid (∀ k, k < zs.length → ∃ b off, ao = some ⟨b, off, none⟩ ∧ b < w.heap.size ∧ w.cell? ⟨b, off + k, none⟩ = some (.int .u8 (zs.getD k 0))) := hc
  clear hc
  go_enter Try.func6, Try.ntmps6
  go_wp2
  go_loop [5, 6, 7, 8, 10] (fun sD sO sB sR sI => ∃ (k : Nat) (r D O B : Int), sI = .int .i64 k ∧ sR = .int .i64 r ∧ sD = .int .i64 D ∧ sO = .int .i64 O ∧ sB = .int .i64 B ∧ k ≤ zs.length + 1 ∧ -k ≤ r ∧ r ≤ k ∧ 0 ≤ D ∧ D ≤ k ∧ 0 ≤ O ∧ O ≤ k ∧ 0 ≤ B ∧ B ≤ k ∧ Hid (M.meas (zs.drop k) false false r D O B = M.meas zs false false 0 0 0 0))
    (fun _ _ _ _ sI => zs.length + 1 - (intOf sI).toNat)
  case atStart => exact ⟨0, 0, 0, 0, 0, rfl, rfl, rfl, rfl, rfl, Nat.zero_le _, by omega, by omega, by omega, by omega, by omega, by omega, by omega, by omega, rfl⟩
  case round =>
    obtain ⟨k, r, D, O, B, rfl, rfl, rfl, rfl, rfl, hk, hr1, hr2, hD1, hD2, hO1, hO2, hB1, hB2, HM⟩ := hrel
    by_cases hlt : k < zs.length
    · obtain ⟨b, off, rfl, hb, cell⟩ := HC.out k hlt
      have hm := HM.out
      rw [drop_get hlt, M.meas_out] at hm
      clear HM
      generalize zs.getD k 0 = y at cell hm
      by_cases h34 : y = 34
      · rw [if_pos h34] at hm
        have HS : Hid (M.meas (zs.drop (k + 1)) true false r D O B = M.meas zs false false 0 0 0 0) := hm
        subst h34
        clear hm
        go_wp2
        go_loop [12, 13, 14] (fun sJ sS _ => ∃ (m q : Nat), sJ = .int .i64 m ∧ sS = .int .i64 q ∧ k + 1 ≤ m ∧ m ≤ zs.length ∧ q ≤ m ∧ Hid (M.meas (zs.drop m) true (decide (q % 2 = 1)) r D O B = M.meas zs false false 0 0 0 0))
          (fun sJ _ _ => zs.length - (intOf sJ).toNat)
        case atStart => exact ⟨k + 1, 0, by go_num, rfl, Nat.le_refl _, by omega, Nat.zero_le _, HS⟩
        case round =>
          clear HS cell
          obtain ⟨m, q, rfl, rfl, hm1, hm2, hqm, HQ⟩ := hrel
          by_cases hltm : m < zs.length
          · obtain ⟨b', off', hbo, hb', cell⟩ := HC.out m hltm
            simp only [Option.some.injEq, Addr.mk.injEq, and_true] at hbo
            obtain ⟨rfl, rfl⟩ := hbo
            have hq := HQ.out
            rw [drop_get hltm] at hq
            clear HQ
            generalize zs.getD m 0 = z at cell hq
            by_cases hpar : q % 2 = 1
            · rw [decide_eq_true hpar, M.meas_esc] at hq
              have hev : (((q : Int) % 2) == 0) = false := by simp only [beq_eq_false_iff_ne, ne_eq]; omega
              by_cases h92 : z = 92
              · have HN : Hid (M.meas (zs.drop (m + 1)) true (decide ((q + 1) % 2 = 1)) r D O B = M.meas zs false false 0 0 0 0) := by
                  rw [decide_eq_false (by omega)]; exact hq
                subst h92
                clear hq hpar
                go_wp2
                go_round
                case rel => exact ⟨m + 1, q + 1, by go_num, by go_num, by omega, by omega, by omega, HN⟩
                case measure => simp [intOf]; omega
              · have g92 : (z == 92) = false := by simpa using h92
                have HN : Hid (M.meas (zs.drop (m + 1)) true (decide (0 % 2 = 1)) r D O B = M.meas zs false false 0 0 0 0) := hq
                clear hq hpar h92
                by_cases h34 : z = 34
                · subst h34
                  go_wp2
                  go_round
                  case rel => exact ⟨m + 1, 0, by go_num, by go_num, by omega, by omega, by omega, HN⟩
                  case measure => simp [intOf]; omega
                · have g34 : (z == 34) = false := by simpa using h34
                  clear h34
                  go_wp2
                  go_round
                  case rel => exact ⟨m + 1, 0, by go_num, by go_num, by omega, by omega, by omega, HN⟩
                  case measure => simp [intOf]; omega
            · rw [decide_eq_false hpar, M.meas_in] at hq
              have hev : (((q : Int) % 2) == 0) = true := by simp only [beq_iff_eq]; omega
              by_cases h92 : z = 92
              · rw [if_pos h92] at hq
                have HN : Hid (M.meas (zs.drop (m + 1)) true (decide ((q + 1) % 2 = 1)) r D O B = M.meas zs false false 0 0 0 0) := by
                  rw [decide_eq_true (show (q + 1) % 2 = 1 by omega)]; exact hq
                subst h92
                clear hq hpar
                go_wp2
                go_round
                case rel => exact ⟨m + 1, q + 1, by go_num, by go_num, by omega, by omega, by omega, HN⟩
                case measure => simp [intOf]; omega
              · rw [if_neg h92] at hq
                have g92 : (z == 92) = false := by simpa using h92
                by_cases h34 : z = 34
                · rw [if_pos h34] at hq
                  have HN : Hid (M.meas (zs.drop (m + 1)) false false r D O B = M.meas zs false false 0 0 0 0) := hq
                  subst h34
                  clear hq hpar h92 g92
                  go_wp2
                  go_round
                  case rel => exact ⟨m + 1, r, D, O, B, by go_num, rfl, rfl, rfl, rfl, by omega, by omega, by omega, by omega, by omega, by omega, by omega, by omega, by omega, HN⟩
                  case measure => simp [intOf]; omega
                · rw [if_neg h34] at hq
                  have HN : Hid (M.meas (zs.drop (m + 1)) true (decide (0 % 2 = 1)) r D O B = M.meas zs false false 0 0 0 0) := hq
                  have g34 : (z == 34) = false := by simpa using h34
                  clear hq hpar h92 h34
                  go_wp2
                  go_round
                  case rel => exact ⟨m + 1, 0, by go_num, by go_num, by omega, by omega, by omega, HN⟩
                  case measure => simp [intOf]; omega
          · have HN : Hid (M.meas (zs.drop (m + 1)) false false r D O B = M.meas zs false false 0 0 0 0) := by
              have hq := HQ.out
              rw [List.drop_eq_nil_of_le (by omega), M.meas_nil] at hq
              rw [List.drop_eq_nil_of_le (by omega), M.meas_nil]
              exact hq
            clear HQ
            go_wp2
            go_round
            case rel => exact ⟨m + 1, r, D, O, B, by go_num, rfl, rfl, rfl, rfl, by omega, by omega, by omega, by omega, by omega, by omega, by omega, by omega, by omega, HN⟩
            case measure => simp [intOf]; omega

      · rw [if_neg h34] at hm
        have g34 : (y == 34) = false := by simpa using h34
        clear h34
        by_cases h91 : y = 91
        · rw [if_pos h91] at hm
          subst h91
          clear g34
          by_cases hgt : D < r + 1
          · rw [show max D (r + 1) = r + 1 by omega] at hm
            have HN : Hid (M.meas (zs.drop (k + 1)) false false (r + 1) (r + 1) O B = M.meas zs false false 0 0 0 0) := hm
            clear hm
            go_wp2
            go_round
            case rel => exact ⟨k + 1, (r + 1), (r + 1), O, B, by go_num, rfl, rfl, rfl, rfl, by omega, (by first | omega | (split <;> omega)), (by first | omega | (split <;> omega)), (by first | omega | (split <;> omega)), (by first | omega | (split <;> omega)), (by first | omega | (split <;> omega)), (by first | omega | (split <;> omega)), (by first | omega | (split <;> omega)), (by first | omega | (split <;> omega)), HN⟩
            case measure => simp [intOf]; omega

          · rw [show max D (r + 1) = D by omega] at hm
            have HN : Hid (M.meas (zs.drop (k + 1)) false false (r + 1) D O B = M.meas zs false false 0 0 0 0) := hm
            clear hm
            go_wp2
            go_round
            case rel => exact ⟨k + 1, (r + 1), D, O, B, by go_num, rfl, rfl, rfl, rfl, by omega, (by first | omega | (split <;> omega)), (by first | omega | (split <;> omega)), (by first | omega | (split <;> omega)), (by first | omega | (split <;> omega)), (by first | omega | (split <;> omega)), (by first | omega | (split <;> omega)), (by first | omega | (split <;> omega)), (by first | omega | (split <;> omega)), HN⟩
            case measure => simp [intOf]; omega

        · rw [if_neg h91] at hm
          have g91 : (y == 91) = false := by simpa using h91
          clear h91
          by_cases h123 : y = 123
          · rw [if_pos h123] at hm
            subst h123
            clear g34 g91
            by_cases hgt : D < r + 1
            · rw [show max D (r + 1) = r + 1 by omega] at hm
              have HN : Hid (M.meas (zs.drop (k + 1)) false false (r + 1) (r + 1) (O + 1) B = M.meas zs false false 0 0 0 0) := hm
              clear hm
              go_wp2
              go_round
              case rel => exact ⟨k + 1, (r + 1), (r + 1), (O + 1), B, by go_num, rfl, rfl, rfl, rfl, by omega, (by first | omega | (split <;> omega)), (by first | omega | (split <;> omega)), (by first | omega | (split <;> omega)), (by first | omega | (split <;> omega)), (by first | omega | (split <;> omega)), (by first | omega | (split <;> omega)), (by first | omega | (split <;> omega)), (by first | omega | (split <;> omega)), HN⟩
              case measure => simp [intOf]; omega

            · rw [show max D (r + 1) = D by omega] at hm
              have HN : Hid (M.meas (zs.drop (k + 1)) false false (r + 1) D (O + 1) B = M.meas zs false false 0 0 0 0) := hm
              clear hm
              go_wp2
              go_round
              case rel => exact ⟨k + 1, (r + 1), D, (O + 1), B, by go_num, rfl, rfl, rfl, rfl, by omega, (by first | omega | (split <;> omega)), (by first | omega | (split <;> omega)), (by first | omega | (split <;> omega)), (by first | omega | (split <;> omega)), (by first | omega | (split <;> omega)), (by first | omega | (split <;> omega)), (by first | omega | (split <;> omega)), (by first | omega | (split <;> omega)), HN⟩
              case measure => simp [intOf]; omega

          · rw [if_neg h123] at hm
            have g123 : (y == 123) = false := by simpa using h123
            clear h123
            by_cases h93 : y = 93
            · rw [if_pos (.inl h93)] at hm
              have HN : Hid (M.meas (zs.drop (k + 1)) false false (r - 1) D O B = M.meas zs false false 0 0 0 0) := hm
              subst h93
              clear hm g34 g91 g123
              go_wp2
              go_round
              case rel => exact ⟨k + 1, (r - 1), D, O, B, by go_num, rfl, rfl, rfl, rfl, by omega, (by first | omega | (split <;> omega)), (by first | omega | (split <;> omega)), (by first | omega | (split <;> omega)), (by first | omega | (split <;> omega)), (by first | omega | (split <;> omega)), (by first | omega | (split <;> omega)), (by first | omega | (split <;> omega)), (by first | omega | (split <;> omega)), HN⟩
              case measure => simp [intOf]; omega

            · by_cases h125 : y = 125
              · rw [if_pos (.inr h125)] at hm
                have HN : Hid (M.meas (zs.drop (k + 1)) false false (r - 1) D O B = M.meas zs false false 0 0 0 0) := hm
                subst h125
                clear hm g34 g91 g123 h93
                go_wp2
                go_round
                case rel => exact ⟨k + 1, (r - 1), D, O, B, by go_num, rfl, rfl, rfl, rfl, by omega, (by first | omega | (split <;> omega)), (by first | omega | (split <;> omega)), (by first | omega | (split <;> omega)), (by first | omega | (split <;> omega)), (by first | omega | (split <;> omega)), (by first | omega | (split <;> omega)), (by first | omega | (split <;> omega)), (by first | omega | (split <;> omega)), HN⟩
                case measure => simp [intOf]; omega

              · rw [if_neg (by omega)] at hm
                have g93 : (y == 93) = false := by simpa using h93
                have g125 : (y == 125) = false := by simpa using h125
                clear h93 h125
                by_cases h116 : y = 116
                · rw [if_pos (.inl h116)] at hm
                  have HN : Hid (M.meas (zs.drop (k + 1)) false false r D O (B + 1) = M.meas zs false false 0 0 0 0) := hm
                  subst h116
                  clear hm g34 g91 g123 g93 g125
                  go_wp2
                  go_round
                  case rel => exact ⟨k + 1, r, D, O, (B + 1), by go_num, rfl, rfl, rfl, rfl, by omega, (by first | omega | (split <;> omega)), (by first | omega | (split <;> omega)), (by first | omega | (split <;> omega)), (by first | omega | (split <;> omega)), (by first | omega | (split <;> omega)), (by first | omega | (split <;> omega)), (by first | omega | (split <;> omega)), (by first | omega | (split <;> omega)), HN⟩
                  case measure => simp [intOf]; omega

                · by_cases h102 : y = 102
                  · rw [if_pos (.inr h102)] at hm
                    have HN : Hid (M.meas (zs.drop (k + 1)) false false r D O (B + 1) = M.meas zs false false 0 0 0 0) := hm
                    subst h102
                    clear hm g34 g91 g123 g93 g125 h116
                    go_wp2
                    go_round
                    case rel => exact ⟨k + 1, r, D, O, (B + 1), by go_num, rfl, rfl, rfl, rfl, by omega, (by first | omega | (split <;> omega)), (by first | omega | (split <;> omega)), (by first | omega | (split <;> omega)), (by first | omega | (split <;> omega)), (by first | omega | (split <;> omega)), (by first | omega | (split <;> omega)), (by first | omega | (split <;> omega)), (by first | omega | (split <;> omega)), HN⟩
                    case measure => simp [intOf]; omega

                  · rw [if_neg (by omega)] at hm
                    have g116 : (y == 116) = false := by simpa using h116
                    have g102 : (y == 102) = false := by simpa using h102
                    clear h116 h102
                    have HN : Hid (M.meas (zs.drop (k + 1)) false false r D O B = M.meas zs false false 0 0 0 0) := hm
                    clear hm
                    go_wp2
                    go_round
                    case rel => exact ⟨k + 1, r, D, O, B, by go_num, rfl, rfl, rfl, rfl, by omega, (by first | omega | (split <;> omega)), (by first | omega | (split <;> omega)), (by first | omega | (split <;> omega)), (by first | omega | (split <;> omega)), (by first | omega | (split <;> omega)), (by first | omega | (split <;> omega)), (by first | omega | (split <;> omega)), (by first | omega | (split <;> omega)), HN⟩
                    case measure => simp [intOf]; omega

    · have h3 : zs.drop k = [] := List.drop_eq_nil_of_le (by omega)
      have hm := HM.out
      rw [h3, M.meas_nil] at hm
      have HF : Hid (M.meas zs false false 0 0 0 0 = (D, O, B)) := hm.symm
      clear hm HM h3
      go_wp2
      go_ret3
      exact ⟨by rw [HF.out]; rfl, rfl⟩

end Go.Proofs.Qxb6632282a
