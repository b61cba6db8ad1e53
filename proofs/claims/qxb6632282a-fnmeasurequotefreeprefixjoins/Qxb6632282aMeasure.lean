/-
  Measure and (*nesting).next: the loop over the text.
-/
import Derived.Test.Qxb6632282aRows
import Derived.Test.Qxb6632282aMath
import Derived.WalkKit
import Derived.WalkSpells
import Derived.WalkSmall
namespace Go.Proofs.Qxb6632282a
open Go.RowKit
set_option linter.unusedVariables false

theorem max_if (a b : Int) : max a b = if a < b then b else a := by split <;> omega

theorem drop_get {zs : List Int} {k : Nat} (h : k < zs.length) : zs.drop k = zs.getD k 0 :: zs.drop (k + 1) := by
  rw [List.drop_eq_getElem_cons h, List.getD_eq_getElem?_getD, List.getElem?_eq_getElem h]; rfl

set_option maxHeartbeats 4000000 in
set_option maxRecDepth 1000000 in
theorem measure_any (ao : Option Addr) (c : Nat) (zs : List Int) (w : World) (hn : zs.length ≤ 1048576)
    (hc : ∀ k, k < zs.length → ∃ b off, ao = some ⟨b, off, none⟩ ∧ b < w.heap.size ∧ w.cell? ⟨b, off + k, none⟩ = some (.int .u8 (zs.getD k 0))) :
    Calls Try.prog 7 #[.slice ao zs.length c] w fun e w' => e = .returned (.agg #[.int .i64 (M.meas zs false false 0 0 0 0).1, .int .i64 (M.meas zs false false 0 0 0 0).2.1, .int .i64 (M.meas zs false false 0 0 0 0).2.2]) ∧ Below w.heap.size w w' := by
  have HC : Hid (∀ k, k < zs.length → ∃ b off, ao = some ⟨b, off, none⟩ ∧ b < w.heap.size ∧ w.cell? ⟨b, off + k, none⟩ = some (.int .u8 (zs.getD k 0))) := hc
  clear hc
  go_enter Try.func7, Try.ntmps7
  go_wp2
  go_loopw [12] (fun j wr => ∃ (k : Nat) (r D O B : Int) (i e : Bool), j = .int .i64 k ∧ k ≤ zs.length ∧ (i = false → e = false) ∧ -k ≤ r ∧ r ≤ k ∧ 0 ≤ D ∧ D ≤ k ∧ 0 ≤ O ∧ O ≤ k ∧ 0 ≤ B ∧ B ≤ k ∧ Hid (M.meas (zs.drop k) i e r D O B = M.meas zs false false 0 0 0 0) ∧
      wr = ((w.alloc (.cells #[.int .i64 0, .int .i64 0, .int .i64 0] 27)).alloc (.cells #[.int .i64 r, .bool i, .bool e] 31)).alloc (.cells #[.int .i64 D, .int .i64 O, .int .i64 B] 27))
    (fun j _ => zs.length - (intOf j).toNat)
  case atStart => exact ⟨0, 0, 0, 0, 0, false, false, rfl, Nat.zero_le _, fun _ => rfl, by omega, by omega, by omega, by omega, by omega, by omega, by omega, by omega, rfl, rfl⟩
  case round =>
    obtain ⟨k, r, D, O, B, i, e, rfl, hk, hie, hr1, hr2, hD1, hD2, hO1, hO2, hB1, hB2, HM, rfl⟩ := hrel
    by_cases hlt : k < zs.length
    · obtain ⟨b, off, rfl, hb, cell⟩ := HC.out k hlt
      have hcx : ∀ o1 o2 o3, (((w.alloc o1).alloc o2).alloc o3).cell? ⟨b, off + k, none⟩ = some (.int .u8 (zs.getD k 0)) := fun o1 o2 o3 => by
        rw [World.cell?_alloc_past _ _ _ (by simp; omega), World.cell?_alloc_past _ _ _ (by simp; omega), World.cell?_alloc_past _ _ _ hb]; exact cell
      have hm := HM.out
      rw [drop_get hlt] at hm
      clear cell HM
      generalize zs.getD k 0 = y at hcx hm
      cases i with
      | true =>
        cases e with
        | true =>
          rw [M.meas_esc] at hm
          have HN : Hid (M.meas (zs.drop (k + 1)) true false r D O B = M.meas zs false false 0 0 0 0) := hm
          clear hm hie
          go_wp2
          go_roundw
          case rel => exact ⟨k + 1, r, D, O, B, true, false, by go_num, by omega, fun h => (by first | rfl | cases h), (by first | omega | (split <;> omega)), (by first | omega | (split <;> omega)), (by first | omega | (split <;> omega)), (by first | omega | (split <;> omega)), (by first | omega | (split <;> omega)), (by first | omega | (split <;> omega)), (by first | omega | (split <;> omega)), (by first | omega | (split <;> omega)), HN, rfl⟩
          case measure => simp [intOf]; omega

        | false =>
          rw [M.meas_in] at hm
          by_cases h92 : y = 92
          · rw [if_pos h92] at hm
            have HN : Hid (M.meas (zs.drop (k + 1)) true true r D O B = M.meas zs false false 0 0 0 0) := hm
            subst h92
            clear hm hie
            go_wp2
            go_roundw
            case rel => exact ⟨k + 1, r, D, O, B, true, true, by go_num, by omega, fun h => (by first | rfl | cases h), (by first | omega | (split <;> omega)), (by first | omega | (split <;> omega)), (by first | omega | (split <;> omega)), (by first | omega | (split <;> omega)), (by first | omega | (split <;> omega)), (by first | omega | (split <;> omega)), (by first | omega | (split <;> omega)), (by first | omega | (split <;> omega)), HN, rfl⟩
            case measure => simp [intOf]; omega

          · rw [if_neg h92] at hm
            have g92 : (y == 92) = false := by simpa using h92
            by_cases h34 : y = 34
            · rw [if_pos h34] at hm
              have HN : Hid (M.meas (zs.drop (k + 1)) false false r D O B = M.meas zs false false 0 0 0 0) := hm
              subst h34
              clear hm hie h92
              go_wp2
              go_roundw
              case rel => exact ⟨k + 1, r, D, O, B, false, false, by go_num, by omega, fun h => (by first | rfl | cases h), (by first | omega | (split <;> omega)), (by first | omega | (split <;> omega)), (by first | omega | (split <;> omega)), (by first | omega | (split <;> omega)), (by first | omega | (split <;> omega)), (by first | omega | (split <;> omega)), (by first | omega | (split <;> omega)), (by first | omega | (split <;> omega)), HN, rfl⟩
              case measure => simp [intOf]; omega

            · rw [if_neg h34] at hm
              have g34 : (y == 34) = false := by simpa using h34
              have HN : Hid (M.meas (zs.drop (k + 1)) true false r D O B = M.meas zs false false 0 0 0 0) := hm
              clear hm hie h92 h34
              go_wp2
              go_roundw
              case rel => exact ⟨k + 1, r, D, O, B, true, false, by go_num, by omega, fun h => (by first | rfl | cases h), (by first | omega | (split <;> omega)), (by first | omega | (split <;> omega)), (by first | omega | (split <;> omega)), (by first | omega | (split <;> omega)), (by first | omega | (split <;> omega)), (by first | omega | (split <;> omega)), (by first | omega | (split <;> omega)), (by first | omega | (split <;> omega)), HN, rfl⟩
              case measure => simp [intOf]; omega

      | false =>
        obtain rfl : e = false := hie rfl
        rw [M.meas_out] at hm
        clear hie
        by_cases h34 : y = 34
        · rw [if_pos h34] at hm
          have HN : Hid (M.meas (zs.drop (k + 1)) true false r D O B = M.meas zs false false 0 0 0 0) := hm
          subst h34
          clear hm
          go_wp2
          go_roundw
          case rel => exact ⟨k + 1, r, D, O, B, true, false, by go_num, by omega, fun h => (by first | rfl | cases h), (by first | omega | (split <;> omega)), (by first | omega | (split <;> omega)), (by first | omega | (split <;> omega)), (by first | omega | (split <;> omega)), (by first | omega | (split <;> omega)), (by first | omega | (split <;> omega)), (by first | omega | (split <;> omega)), (by first | omega | (split <;> omega)), HN, rfl⟩
          case measure => simp [intOf]; omega

        · rw [if_neg h34] at hm
          have g34 : (y == 34) = false := by simpa using h34
          clear h34
          by_cases h91 : y = 91
          · rw [if_pos h91, max_if] at hm
            have HN : Hid (M.meas (zs.drop (k + 1)) false false (r + 1) (if D < r + 1 then r + 1 else D) O B = M.meas zs false false 0 0 0 0) := hm
            subst h91
            clear hm g34
            go_wp2
            go_roundw
            case rel => exact ⟨k + 1, (r + 1), (if D < r + 1 then r + 1 else D), O, B, false, false, by go_num, by omega, fun h => (by first | rfl | cases h), (by first | omega | (split <;> omega)), (by first | omega | (split <;> omega)), (by first | omega | (split <;> omega)), (by first | omega | (split <;> omega)), (by first | omega | (split <;> omega)), (by first | omega | (split <;> omega)), (by first | omega | (split <;> omega)), (by first | omega | (split <;> omega)), HN, rfl⟩
            case measure => simp [intOf]; omega

          · rw [if_neg h91] at hm
            have g91 : (y == 91) = false := by simpa using h91
            clear h91
            by_cases h123 : y = 123
            · rw [if_pos h123, max_if] at hm
              have HN : Hid (M.meas (zs.drop (k + 1)) false false (r + 1) (if D < r + 1 then r + 1 else D) (O + 1) B = M.meas zs false false 0 0 0 0) := hm
              subst h123
              clear hm g34 g91
              go_wp2
              go_roundw
              case rel => exact ⟨k + 1, (r + 1), (if D < r + 1 then r + 1 else D), (O + 1), B, false, false, by go_num, by omega, fun h => (by first | rfl | cases h), (by first | omega | (split <;> omega)), (by first | omega | (split <;> omega)), (by first | omega | (split <;> omega)), (by first | omega | (split <;> omega)), (by first | omega | (split <;> omega)), (by first | omega | (split <;> omega)), (by first | omega | (split <;> omega)), (by first | omega | (split <;> omega)), HN, rfl⟩
              case measure => simp [intOf]; omega

            · rw [if_neg h123] at hm
              have g123 : (y == 123) = false := by simpa using h123
              clear h123
              by_cases h93 : y = 93
              · rw [if_pos (.inl h93)] at hm
                have HN : Hid (M.meas (zs.drop (k + 1)) false false (r - 1) D O B = M.meas zs false false 0 0 0 0) := hm
                subst h93
                clear hm g34 g91 g123
                go_wp2
                go_roundw
                case rel => exact ⟨k + 1, (r - 1), D, O, B, false, false, by go_num, by omega, fun h => (by first | rfl | cases h), (by first | omega | (split <;> omega)), (by first | omega | (split <;> omega)), (by first | omega | (split <;> omega)), (by first | omega | (split <;> omega)), (by first | omega | (split <;> omega)), (by first | omega | (split <;> omega)), (by first | omega | (split <;> omega)), (by first | omega | (split <;> omega)), HN, rfl⟩
                case measure => simp [intOf]; omega

              · by_cases h125 : y = 125
                · rw [if_pos (.inr h125)] at hm
                  have HN : Hid (M.meas (zs.drop (k + 1)) false false (r - 1) D O B = M.meas zs false false 0 0 0 0) := hm
                  subst h125
                  clear hm g34 g91 g123 h93
                  go_wp2
                  go_roundw
                  case rel => exact ⟨k + 1, (r - 1), D, O, B, false, false, by go_num, by omega, fun h => (by first | rfl | cases h), (by first | omega | (split <;> omega)), (by first | omega | (split <;> omega)), (by first | omega | (split <;> omega)), (by first | omega | (split <;> omega)), (by first | omega | (split <;> omega)), (by first | omega | (split <;> omega)), (by first | omega | (split <;> omega)), (by first | omega | (split <;> omega)), HN, rfl⟩
                  case measure => simp [intOf]; omega

                · rw [if_neg (by omega)] at hm
                  have g93 : (y == 93) = false := by simpa using h93
                  have g125 : (y == 125) = false := by simpa using h125
                  clear h93 h125
                  by_cases h116 : y = 116
                  · rw [if_pos (.inl h116)] at hm
                    have HN : Hid (M.meas (zs.drop (k + 1)) false false r D O (B + 1) = M.meas zs false false 0 0 0 0) := hm
                    subst h116
                    clear hm g34 g91 g123 g93 g125
                    go_wp2
                    go_roundw
                    case rel => exact ⟨k + 1, r, D, O, (B + 1), false, false, by go_num, by omega, fun h => (by first | rfl | cases h), (by first | omega | (split <;> omega)), (by first | omega | (split <;> omega)), (by first | omega | (split <;> omega)), (by first | omega | (split <;> omega)), (by first | omega | (split <;> omega)), (by first | omega | (split <;> omega)), (by first | omega | (split <;> omega)), (by first | omega | (split <;> omega)), HN, rfl⟩
                    case measure => simp [intOf]; omega

                  · by_cases h102 : y = 102
                    · rw [if_pos (.inr h102)] at hm
                      have HN : Hid (M.meas (zs.drop (k + 1)) false false r D O (B + 1) = M.meas zs false false 0 0 0 0) := hm
                      subst h102
                      clear hm g34 g91 g123 g93 g125 h116
                      go_wp2
                      go_roundw
                      case rel => exact ⟨k + 1, r, D, O, (B + 1), false, false, by go_num, by omega, fun h => (by first | rfl | cases h), (by first | omega | (split <;> omega)), (by first | omega | (split <;> omega)), (by first | omega | (split <;> omega)), (by first | omega | (split <;> omega)), (by first | omega | (split <;> omega)), (by first | omega | (split <;> omega)), (by first | omega | (split <;> omega)), (by first | omega | (split <;> omega)), HN, rfl⟩
                      case measure => simp [intOf]; omega

                    · rw [if_neg (by omega)] at hm
                      have g116 : (y == 116) = false := by simpa using h116
                      have g102 : (y == 102) = false := by simpa using h102
                      clear h116 h102
                      have HN : Hid (M.meas (zs.drop (k + 1)) false false r D O B = M.meas zs false false 0 0 0 0) := hm
                      clear hm
                      go_wp2
                      go_roundw
                      case rel => exact ⟨k + 1, r, D, O, B, false, false, by go_num, by omega, fun h => (by first | rfl | cases h), (by first | omega | (split <;> omega)), (by first | omega | (split <;> omega)), (by first | omega | (split <;> omega)), (by first | omega | (split <;> omega)), (by first | omega | (split <;> omega)), (by first | omega | (split <;> omega)), (by first | omega | (split <;> omega)), (by first | omega | (split <;> omega)), HN, rfl⟩
                      case measure => simp [intOf]; omega

    · have h3 : zs.drop k = [] := List.drop_eq_nil_of_le (by omega)
      have hm := HM.out
      rw [h3, M.meas_nil] at hm
      have HF : Hid (M.meas zs false false 0 0 0 0 = (D, O, B)) := hm.symm
      clear hm HM h3 hie
      go_wp2
      refine bodyPost_ret (v := .agg #[.int .i64 D, .int .i64 O, .int .i64 B]) (by simp [results, Try.results7, go_sem]) rfl ⟨by rw [HF.out], ?_⟩
      exact (((Below.refl _ _).alloc (Nat.le_refl _) _).alloc (by simp) _).alloc (by simp; omega) _

end Go.Proofs.Qxb6632282a
