/-
  FnRouteRotatesWithTheRingAndEachHopIsAFinger: the walk out of the contracts.
-/
import Derived.Test.Qxb6631256aTopA
namespace Go.Proofs.Qxb6631256a
open Go.RowKit
set_option linter.unusedVariables false

theorem has_n (b off c n : Nat) (J : List Int) (x : Int) (w : World) (hJ : J.length = n) (hn : n ≤ 65536) (hs : J.Pairwise (· < ·)) (hx : x ∈ J)
    (hc : ∀ j, j < n → w.cell? ⟨b, off + j, none⟩ = some (.int .i64 (J.getD j 0))) :
    Calls Try.prog 13 #[.slice (some ⟨b, off, none⟩) n c, .int .i64 x] w fun e w' => e = .returned (.bool true) ∧ w' = w := by
  subst hJ; exact has_any b off c J x w hn (sorted_getD hs) hx hc

theorem map_getD {L : List Int} {f : Int → Int} {k : Nat} (hk : k < L.length) : (L.map f).getD k 0 = f (L.getD k 0) := by
  simp [List.getD_eq_getElem?_getD, List.getElem?_eq_getElem hk]

theorem hop_is {s x j : Int} (hx : 0 ≤ x) (hx' : x < s) (h1 : 1 ≤ j) (h2 : j < s) : 0 ≤ M.adv s x j ∧ M.adv s x j < s ∧ (if M.adv s x j - x < 0 then M.adv s x j - x + s else M.adv s x j - x) = j := by
  unfold M.adv
  split <;> (refine ⟨by omega, by omega, ?_⟩; split <;> omega)

set_option maxRecDepth 1000000 in
theorem topB_bytes_no (a0 : Int) (a1 : Option Addr) (n c : Nat) (a2 a3 a4 : Int) (w : World) (h : ¬ n ≤ 1048576) :
    Calls Try.prog 4 #[.int .i64 a0, .slice a1 n c, .int .i64 a2, .int .i64 a3, .int .i64 a4] w fun e w' => e = .returned (.bool true) ∧ Below w.heap.size w w' := by
  go_enter Try.func4, Try.ntmps4
  go_wp2_with (go_at_call 12; refine (bytes12_no _ _ _ _ _ _ _ _ h).mono ?_; rintro e w' ⟨rfl, rfl⟩)
  go_ret
  exact ⟨rfl, Below.refl _ _⟩

set_option maxRecDepth 1000000 in
theorem topB_long (a0 : Int) (a1 : Option Addr) (n c : Nat) (a2 a3 a4 : Int) (w : World) (h : n ≤ 1048576) (h' : ¬ n ≤ 65536) :
    Calls Try.prog 4 #[.int .i64 a0, .slice a1 n c, .int .i64 a2, .int .i64 a3, .int .i64 a4] w fun e w' => e = .returned (.bool true) ∧ Below w.heap.size w w' := by
  go_enter Try.func4, Try.ntmps4
  go_wp2_with (go_at_call 12; refine (bytes12_any _ _ _ _ _ _ _ _ h).mono ?_; rintro e w' ⟨rfl, rfl⟩)
  go_ret
  exact ⟨rfl, Below.refl _ _⟩

set_option maxRecDepth 1000000 in
theorem topB_size (a0 : Int) (a1 : Option Addr) (n c : Nat) (a2 a3 a4 : Int) (w : World) (h : n ≤ 65536) (hs : ¬ (2 ≤ a0 ∧ a0 ≤ 65536)) :
    Calls Try.prog 4 #[.int .i64 a0, .slice a1 n c, .int .i64 a2, .int .i64 a3, .int .i64 a4] w fun e w' => e = .returned (.bool true) ∧ Below w.heap.size w w' := by
  rcases (show a0 < 2 ∨ (2 ≤ a0 ∧ 65536 < a0) by omega) with h1 | ⟨h1, h2⟩
  all_goals
    clear hs
    go_enter Try.func4, Try.ntmps4
    go_wp2_with (go_at_call 12; refine (bytes12_any _ _ _ _ _ _ _ _ (by omega)).mono ?_; rintro e w' ⟨rfl, rfl⟩)
    go_ret
    exact ⟨rfl, Below.refl _ _⟩

set_option maxRecDepth 1000000 in
theorem topB_empty (a0 : Int) (a1 : Option Addr) (c : Nat) (a2 a3 a4 : Int) (w : World) (hs : 2 ≤ a0) (hs' : a0 ≤ 65536) :
    Calls Try.prog 4 #[.int .i64 a0, .slice a1 0 c, .int .i64 a2, .int .i64 a3, .int .i64 a4] w fun e w' => e = .returned (.bool true) ∧ Below w.heap.size w w' := by
  go_enter Try.func4, Try.ntmps4
  go_wp2_with (first | (go_at_call 12; refine (bytes12_any _ _ _ _ _ _ _ _ (by omega)).mono ?_; rintro e w' ⟨rfl, rfl⟩) | (go_at_call 6; refine (valid_empty _ _ _ _).mono ?_; rintro e w' ⟨rfl, rfl⟩))
  go_ret
  exact ⟨rfl, Below.refl _ _⟩

set_option maxHeartbeats 4000000 in
set_option maxRecDepth 1000000 in
theorem topB_any (s : Int) (b off n c : Nat) (zs : List Int) (a2 a3 a4 : Int) (w : World) (hn1 : 1 ≤ n) (hn : n ≤ 65536) (hz : n ≤ zs.length) (hs : 2 ≤ s) (hs' : s ≤ 65536) (hb : b < w.heap.size)
    (hc : ∀ j, j < zs.length → w.cell? ⟨b, off + j, none⟩ = some (.int .i64 (zs.getD j 0))) :
    Calls Try.prog 4 #[.int .i64 s, .slice (some ⟨b, off, none⟩) n c, .int .i64 a2, .int .i64 a3, .int .i64 a4] w fun e w' => e = .returned (.bool true) ∧ Below w.heap.size w w' := by
  have HC : Hid (∀ j, j < zs.length → w.cell? ⟨b, off + j, none⟩ = some (.int .i64 (zs.getD j 0))) := hc
  clear hc
  go_enter Try.func4, Try.ntmps4
  go_wp2_with (go_at_call 12; refine (bytes12_any _ _ _ _ _ _ _ _ (by omega)).mono ?_; rintro e w' ⟨rfl, hw⟩; subst w')
  refine (valid_any s b off n c zs _ hz hn1 hn HC.out).mono ?_
  rintro e w1 ⟨⟨r, rfl, hr⟩, q, rfl⟩
  have hbel : Below w.heap.size w (w.drewN q) := below_drewN (Below.refl _ _) q
  cases r with
  | false =>
    go_wp2
    go_ret
    exact ⟨rfl, hbel⟩
  | true =>
    have V : Hid (M.Valid s (zs.take n)) := hr rfl
    clear hr
    rcases (show a2 < 0 ∨ (0 ≤ a2 ∧ s ≤ a2) ∨ ((0 ≤ a2 ∧ a2 < s) ∧ a3 < 0) ∨ ((0 ≤ a2 ∧ a2 < s) ∧ 0 ≤ a3 ∧ s ≤ a3) ∨ ((0 ≤ a2 ∧ a2 < s) ∧ (0 ≤ a3 ∧ a3 < s) ∧ a4 < 0) ∨ ((0 ≤ a2 ∧ a2 < s) ∧ (0 ≤ a3 ∧ a3 < s) ∧ 0 ≤ a4 ∧ s ≤ a4) ∨ ((0 ≤ a2 ∧ a2 < s) ∧ (0 ≤ a3 ∧ a3 < s) ∧ 0 ≤ a4 ∧ a4 < s) by omega) with h | ⟨h, h'⟩ | ⟨⟨h, h'⟩, h''⟩ | ⟨⟨h, h'⟩, h'', h3⟩ | ⟨⟨h, h'⟩, ⟨h'', h3⟩, h4⟩ | ⟨⟨h, h'⟩, ⟨h'', h3⟩, h4, h5⟩ | ⟨⟨h, h'⟩, ⟨h'', h3⟩, h4, h5⟩
    case inr.inr.inr.inr.inr.inr =>
      have HC1 : Hid (∀ j, j < zs.length → (w.drewN q).cell? ⟨b, off + j, none⟩ = some (.int .i64 (zs.getD j 0))) := HC.out
      have hb1 : b < (w.drewN q).heap.size := hb
      generalize w.drewN q = w1 at HC1 hb1 hbel
      clear HC hb
      go_wp2_with fail
      refine (copy_any b off n c zs w1 hz hn hb1 HC1.out).mono ?_
      rintro e w2 ⟨rfl, hown2, hb2⟩
      have HJ : Hid ((zs.take n).length = n) := by show (zs.take n).length = n; rw [List.length_take]; omega
      have CJ2 : Hid (∀ j, j < n → w2.cell? ⟨w1.heap.size, 0 + j, none⟩ = some (.int .i64 ((zs.take n).getD j 0))) := by
        intro j hj
        rw [Nat.zero_add, hown2.cellAt j (by omega), List.getElem?_map, List.getD_eq_getElem?_getD, List.getElem?_eq_getElem (by rw [HJ.out]; exact hj)]
        rfl
      have hsz2 : w1.heap.size < w2.heap.size := (hown2.lt _ rfl).2
      clear hown2 HC1
      generalize zs.take n = J at V HJ CJ2
      have hsz1 := hbel.size
      have hbel2 : Below w.heap.size w w2 := hbel.trans (hb2.mono hsz1)
      go_wp2_with fail
      refine (full_any s (.int .i64 0) w1.heap.size n n w2).mono ?_
      rintro e w3 ⟨rfl, hw3⟩
      have hs3 : w2.heap.size < w3.heap.size := by rw [hw3]; simp
      have hb3 : Below w2.heap.size w2 w3 := by rw [hw3]; exact (Below.refl _ _).alloc (Nat.le_refl _) _
      have HF0 : Hid (w3.cell? ⟨w2.heap.size, 0, none⟩ = some (.int .i64 s)) := by rw [hw3]; simp [Hid]
      have HF1 : Hid (w3.cell? ⟨w2.heap.size, 1, none⟩ = some (.slice (some ⟨w1.heap.size, 0, none⟩) n n)) := by rw [hw3]; simp [Hid]
      clear hw3
      have CJ3 : Hid (∀ j, j < n → w3.cell? ⟨w1.heap.size, 0 + j, none⟩ = some (.int .i64 (J.getD j 0))) := cells_below hb3 hsz2 CJ2.out
      have hbel3 : Below w.heap.size w w3 := hbel2.trans (hb3.mono (by omega))
      clear hb1 hbel hb2 hbel2 hb3 CJ2
      go_wp2_with fail
      refine (route_n w2.heap.size w1.heap.size 0 n n J s a2 a3 w3 HJ.out V.out hn hs3 (by omega) HF0.out HF1.out CJ3.out hs hs' h h' h'' h3).mono ?_
      rintro e w4 ⟨v4, rfl, hown4, hb4⟩
      have hPl : (M.path J s a2 a3).length ≤ 65536 := by have h1 := M.path_len J s a2 a3; have h2 := M.dist_bd h h' h'' h3; omega
      have hP1 := M.path_pos J s a2 a3
      obtain ⟨g, gc, hv4, hg1, hg2, hgc, hgm, CP0⟩ := owns_cells hown4 hP1
      rw [hv4]
      clear hv4 hown4
      have CP4 : Hid (∀ j, j < (M.path J s a2 a3).length → w4.cell? ⟨g, 0 + j, none⟩ = some (.int .i64 ((M.path J s a2 a3).getD j 0))) := CP0
      clear CP0
      have hs4 := hb4.size
      have CJ4 : Hid (∀ j, j < n → w4.cell? ⟨w1.heap.size, 0 + j, none⟩ = some (.int .i64 (J.getD j 0))) := cells_below hb4 (by omega) CJ3.out
      have HF0 : Hid (w4.cell? ⟨w2.heap.size, 0, none⟩ = some (.int .i64 s)) := (hb4.cell (by exact hs3)).trans HF0.out
      have HF1 : Hid (w4.cell? ⟨w2.heap.size, 1, none⟩ = some (.slice (some ⟨w1.heap.size, 0, none⟩) n n)) := (hb4.cell (by exact hs3)).trans HF1.out
      have hbel4 : Below w.heap.size w w4 := hbel3.trans (hb4.mono (by omega))
      have HAT : Hid (∀ k, k < (M.path J s a2 a3).length → ∃ x, 0 ≤ x ∧ x < s ∧ (M.path J s a2 a3).drop k = M.path J s x a3 ∧ (M.path J s a2 a3).getD k 0 = x) := M.path_at V.out h h' h'' h3
      clear hb4 hbel3 CJ3
      generalize hP : (M.path J s a2 a3).length = N at *
      have HP : Hid ((M.path J s a2 a3).length = N) := hP
      clear hP
      unfold maxLen at hgm
      have HH : Hid (∀ k, k + 1 < N → 0 ≤ (M.path J s a2 a3).getD k 0 ∧ (M.path J s a2 a3).getD k 0 < s ∧ ∃ j, M.IsBest J (M.dist s ((M.path J s a2 a3).getD k 0) a3) j ∧ (M.path J s a2 a3).getD (k + 1) 0 = M.adv s ((M.path J s a2 a3).getD k 0) j) := by
        intro k hk; exact M.path_hop V.out h h' h'' h3 k (by rw [HP.out]; exact hk)
      have H0 : Hid ((M.path J s a2 a3).getD 0 0 = a2) := M.path_head _ _ _ _
      have HN : Hid ((M.path J s a2 a3).getD (N - 1) 0 = a3) := by have := M.path_last V.out h h' h'' h3; rw [HP.out] at this; exact this
      have c0 : w4.cell? ⟨g, 0, none⟩ = some (.int .i64 a2) := by have := CP4.out 0 (by omega); rw [H0.out] at this; exact this
      have cN : w4.cell? ⟨g, N - 1, none⟩ = some (.int .i64 a3) := by have := CP4.out (N - 1) (by omega); rw [HN.out, Nat.zero_add] at this; exact this
      have hN0 : ((N : Int) == 0) = false := by simp; omega
      go_wp2
      clear c0 cN
      go_loop [13] (fun i => ∃ k : Nat, k ≤ N ∧ i = .int .i64 k) (fun i => N - (intOf i).toNat)
      case atStart => exact ⟨0, Nat.zero_le _, rfl⟩
      case round =>
        obtain ⟨k, hk, rfl⟩ := hrel
        by_cases hlt : k < N
        · obtain ⟨x, hx, hx', _, hget⟩ := HAT.out k hlt
          have cx : w4.cell? ⟨g, k, none⟩ = some (.int .i64 x) := by have := CP4.out k hlt; rw [hget, Nat.zero_add] at this; exact this
          clear hget
          go_wp2
          go_round
          case rel => exact ⟨k + 1, by omega, by go_num⟩
          case measure => simp [intOf]; omega
        · clear HAT hk
          have HD : Hid (M.dist s a2 a3 = if a3 - a2 < 0 then a3 - a2 + s else a3 - a2) := by
            show M.dist s a2 a3 = _
            unfold M.dist; split <;> split <;> omega
          by_cases hlt0 : a3 - a2 < 0
          all_goals
            rw [Hid] at HD
            simp only [hlt0, if_true, if_false] at HD
            have HDD : Hid (M.dist s a2 a3 = _) := HD
            clear HD
            go_wp2
            go_loopw [14, 15] (fun r i wr => ∃ (k q : Nat) (d : Int), i = .int .i64 k ∧ r = .int .i64 d ∧ Hid (d = M.dist s ((M.path J s a2 a3).getD k 0) a3) ∧ 0 ≤ d ∧ d < s ∧ k + 1 ≤ N ∧ wr = w4.drewN q) (fun _ i _ => N - (intOf i).toNat)
            case atStart =>
              refine ⟨0, 0, _, rfl, rfl, ?_, by omega, by omega, by omega, rfl⟩
              show _ = _
              rw [H0.out, HDD.out]
            case round =>
              obtain ⟨k2, q2, d, rfl, rfl, HR, hd0, hd1, hk2, rfl⟩ := hrel
              by_cases hlt2 : k2 + 1 < N
              · obtain ⟨hx, hx', j, hj, hz⟩ := HH.out k2 hlt2
                have cx : w4.cell? ⟨g, k2, none⟩ = some (.int .i64 ((M.path J s a2 a3).getD k2 0)) := by have := CP4.out k2 (by omega); rw [Nat.zero_add] at this; exact this
                have cz : w4.cell? ⟨g, k2 + 1, none⟩ = some (.int .i64 ((M.path J s a2 a3).getD (k2 + 1) 0)) := by have := CP4.out (k2 + 1) (by omega); rw [Nat.zero_add] at this; exact this
                have HR' : Hid (d = M.dist s ((M.path J s a2 a3).getD k2 0) a3) := HR
                have HZ : Hid (∀ d', d' = d - j → d' = M.dist s ((M.path J s a2 a3).getD (k2 + 1) 0) a3) := by
                  intro d' hd'
                  have hj1 := (V.out.2.1 j hj.1).1
                  rw [hz, (M.adv_bd hx hx' h'' h3 hj1 hj.2.1).2.2, ← HR'.out]; exact hd'
                have hhop := hop_is hx hx' (V.out.2.1 j hj.1).1 (V.out.2.1 j hj.1).2
                rw [← hz] at hhop
                have hjd : j ≤ d := by rw [HR'.out]; exact hj.2.1
                have hjm := hj.1
                have hj1 := (V.out.2.1 j hj.1).1
                clear hj hz HR HR'
                generalize (M.path J s a2 a3).getD k2 0 = x at cx hx hx' hhop
                obtain ⟨z, hzz⟩ : ∃ z, z = (M.path J s a2 a3).getD (k2 + 1) 0 := ⟨_, rfl⟩
                rw [← hzz] at cz hhop HZ
                have HZE : Hid ((M.path J s a2 a3).getD (k2 + 1) 0 = z) := hzz.symm
                clear hzz
                obtain ⟨hz0, hz1, hhop⟩ := hhop
                by_cases hzx : z - x < 0
                · have HE : Hid (z - x + s = j) := by rw [if_pos hzx] at hhop; exact hhop
                  rw [if_pos hzx] at hhop
                  have hb1 : 1 ≤ z - x + s := by omega
                  have hb2 : z - x + s ≤ d := by omega
                  clear hhop
                  go_wp2
                  go_quiet (fail)
                  go_wp2_with fail
                  have hmem : (z - x + s) ∈ J := by rw [HE.out]; exact hjm
                  refine (has_n w1.heap.size 0 n n J (z - x + s) _ HJ.out hn V.out.2.2 hmem (by exact CJ4.out)).mono ?_
                  rintro e w' ⟨rfl, hw⟩
                  rw [hw]
                  clear hw hmem
                  go_wp2
                  go_roundw
                  case rel => exact ⟨k2 + 1, _, _, by go_num, rfl, (by show _ = _; rw [HZE.out]; exact HZ.out _ (by rw [HE.out])), by omega, by omega, by omega, rfl⟩
                  case measure => simp [intOf]; omega
                · have HE : Hid (z - x = j) := by rw [if_neg hzx] at hhop; exact hhop
                  rw [if_neg hzx] at hhop
                  have hb1 : 1 ≤ z - x := by omega
                  have hb2 : z - x ≤ d := by omega
                  clear hhop
                  go_wp2
                  go_quiet (fail)
                  go_wp2_with fail
                  have hmem : (z - x) ∈ J := by rw [HE.out]; exact hjm
                  refine (has_n w1.heap.size 0 n n J (z - x) _ HJ.out hn V.out.2.2 hmem (by exact CJ4.out)).mono ?_
                  rintro e w' ⟨rfl, hw⟩
                  rw [hw]
                  clear hw hmem
                  go_wp2
                  go_roundw
                  case rel => exact ⟨k2 + 1, _, _, by go_num, rfl, (by show _ = _; rw [HZE.out]; exact HZ.out _ (by rw [HE.out])), by omega, by omega, by omega, rfl⟩
                  case measure => simp [intOf]; omega
              · have hdz : d = 0 := by
                  have hkN : k2 = N - 1 := by omega
                  rw [HR.out, hkN, HN.out, M.dist_self]
                subst hdz
                clear HR HDD hlt0
                have CPx : Hid (∀ j, j < N → (w4.drewN q2).cell? ⟨g, 0 + j, none⟩ = some (.int .i64 ((M.path J s a2 a3).getD j 0))) := CP4.out
                have CJx : Hid (∀ j, j < n → (w4.drewN q2).cell? ⟨w1.heap.size, 0 + j, none⟩ = some (.int .i64 (J.getD j 0))) := CJ4.out
                have HFx : Hid ((w4.drewN q2).cell? ⟨w2.heap.size, 0, none⟩ = some (.int .i64 s)) := HF0.out
                have HGx : Hid ((w4.drewN q2).cell? ⟨w2.heap.size, 1, none⟩ = some (.slice (some ⟨w1.heap.size, 0, none⟩) n n)) := HF1.out
                have hs5 : w4.heap.size ≤ (w4.drewN q2).heap.size := Nat.le_refl _
                have hbel5 : Below w.heap.size w (w4.drewN q2) := below_drewN hbel4 q2
                have HRT : Hid (M.path J s (M.rot s a4 a2) (M.rot s a4 a3) = (M.path J s a2 a3).map (M.rot s a4)) := M.path_rot V.out h4 h5 h h' h'' h3
                have hr2 := M.rot_bd h4 h5 h h'
                have hr3 := M.rot_bd h4 h5 h'' h3
                generalize w4.drewN q2 = w5 at CPx CJx HFx HGx hs5 hbel5
                by_cases hf : s ≤ a2 + a4 <;> by_cases ht : s ≤ a3 + a4
                all_goals
                  simp only [M.rot, hf, ht, if_true, if_false] at HRT hr2 hr3
                  go_wp2_with fail
                  refine (route_n w2.heap.size w1.heap.size 0 n n J s _ _ w5 HJ.out V.out hn (by omega) (by omega) HFx.out HGx.out CJx.out hs hs' hr2.1 hr2.2 hr3.1 hr3.2).mono ?_
                  rintro e w6 ⟨v6, rfl, hown6, hb6⟩
                  rw [HRT.out] at hown6
                  have hml : ((M.path J s a2 a3).map (M.rot s a4)).length = N := by rw [List.length_map]; exact HP.out
                  obtain ⟨g6, gc6, hv6, hg61, hg62, hgc6, hgm6, CP6⟩ := owns_cells hown6 (by rw [hml]; exact hP1)
                  rw [hml] at hv6 CP6
                  rw [hv6]
                  have CPy : Hid (∀ j, j < N → w6.cell? ⟨g, 0 + j, none⟩ = some (.int .i64 ((M.path J s a2 a3).getD j 0))) := cells_below hb6 (by omega) CPx.out
                  have CQy : Hid (∀ j, j < N → w6.cell? ⟨g6, 0 + j, none⟩ = some (.int .i64 (((M.path J s a2 a3).map (M.rot s a4)).getD j 0))) := CP6
                  have hbel6 : Below w.heap.size w w6 := hbel5.trans (hb6.mono (by omega))
                  clear CP6 hv6 hown6 hgm6 hgc6 hb6 hbel5 CJx HFx HGx CPx hml HRT
                  go_wp2
                  go_loop [20] (fun i => ∃ k : Nat, k ≤ N ∧ i = .int .i64 k) (fun i => N - (intOf i).toNat)
                  case atStart => exact ⟨0, Nat.zero_le _, rfl⟩
                  case round =>
                    obtain ⟨k3, hk3, rfl⟩ := hrel
                    by_cases hlt3 : k3 < N
                    · obtain ⟨x, hx, hx', _, hget⟩ := M.path_at V.out h h' h'' h3 k3 (by rw [HP.out]; exact hlt3)
                      have cx : w6.cell? ⟨g, k3, none⟩ = some (.int .i64 x) := by have := CPy.out k3 hlt3; rw [hget, Nat.zero_add] at this; exact this
                      have cy : w6.cell? ⟨g6, k3, none⟩ = some (.int .i64 (M.rot s a4 x)) := by
                        have := CQy.out k3 hlt3
                        rw [Nat.zero_add, map_getD (by rw [HP.out]; exact hlt3), hget] at this
                        exact this
                      clear hget
                      unfold M.rot at cy
                      by_cases hxr : s ≤ x + a4
                      · rw [if_pos hxr] at cy
                        go_wp2
                        go_round
                        case rel => exact ⟨k3 + 1, by omega, by go_num⟩
                        case measure => simp [intOf]; omega
                      · rw [if_neg hxr] at cy
                        go_wp2
                        go_round
                        case rel => exact ⟨k3 + 1, by omega, by go_num⟩
                        case measure => simp [intOf]; omega
                    · go_wp2
                      go_ret
                      exact ⟨rfl, hbel6⟩
    all_goals
      go_wp2
      go_ret
      exact ⟨rfl, hbel⟩

end Go.Proofs.Qxb6631256a
