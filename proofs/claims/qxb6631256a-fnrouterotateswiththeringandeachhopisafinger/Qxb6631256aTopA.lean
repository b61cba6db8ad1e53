/-
  FnRouteIsGreedyDecompositionAndSuffixClosed: the walk out of the contracts.
-/
import Derived.Test.Qxb6631256aGreedy
namespace Go.Proofs.Qxb6631256a
open Go.RowKit
set_option linter.unusedVariables false

theorem owns_below {w w' : World} {base : Nat} {e : TypeId} {size : Nat} {v : Value} {n : Nat} {xs : List Value} (h : w.ownsRow base e size v n xs) (hb : Below w.heap.size w w') : w'.ownsRow base e size v n xs := by
  refine ⟨h.1, ?_⟩
  rcases h.2 with hn | ⟨g, cap, cur, rfl, hbb, hgg, rest⟩
  · exact .inl hn
  · exact .inr ⟨g, cap, cur, rfl, hbb, by rw [hb.block g (lt_of_block hgg)]; exact hgg, rest⟩

theorem owns_cells {w : World} {base : Nat} {v : Value} {L : List Int} (h : w.ownsRow base 3 1 v L.length (L.map (Value.int .i64))) (hp : 1 ≤ L.length) :
    ∃ g cap, v = .slice (some ⟨g, 0, none⟩) L.length cap ∧ base ≤ g ∧ g < w.heap.size ∧ L.length ≤ cap ∧ cap ≤ maxLen ∧ ∀ j, j < L.length → w.cell? ⟨g, 0 + j, none⟩ = some (.int .i64 (L.getD j 0)) := by
  rcases h.2 with ⟨_, hn⟩ | ⟨g, cap, cur, rfl, hbb, hgg, h1, h2, h3, h4⟩
  · omega
  · refine ⟨g, cap, rfl, hbb, lt_of_block hgg, h1, h2, fun j hj => ?_⟩
    have h' : w.ownsRow base 3 1 (.slice (some ⟨g, 0, none⟩) L.length cap) L.length (L.map (Value.int .i64)) := ⟨h.1, .inr ⟨g, cap, cur, rfl, hbb, hgg, h1, h2, h3, h4⟩⟩
    rw [Nat.zero_add, h'.cellAt j (by omega), List.getElem?_map, List.getD_eq_getElem?_getD, List.getElem?_eq_getElem hj]
    rfl

theorem route_n (rb jb off c n : Nat) (J : List Int) (s a b : Int) (w : World) (hJ : J.length = n) (hv : M.Valid s J) (hn : n ≤ 65536)
    (hrb : rb < w.heap.size) (hjb : jb < w.heap.size)
    (hc0 : w.cell? ⟨rb, 0, none⟩ = some (.int .i64 s)) (hc1 : w.cell? ⟨rb, 1, none⟩ = some (.slice (some ⟨jb, off, none⟩) n c))
    (hc : ∀ j, j < n → w.cell? ⟨jb, off + j, none⟩ = some (.int .i64 (J.getD j 0)))
    (hs : 2 ≤ s) (hs' : s ≤ 65536) (ha : 0 ≤ a) (ha' : a < s) (hb : 0 ≤ b) (hb' : b < s) :
    Calls Try.prog 9 #[.pointer (some ⟨rb, 0, none⟩), .int .i64 a, .int .i64 b] w fun e w' =>
      ∃ v, e = .returned v ∧ w'.ownsRow w.heap.size 3 1 v (M.path J s a b).length ((M.path J s a b).map (Value.int .i64)) ∧ Below w.heap.size w w' := by
  subst hJ; exact route_any rb jb off c J s a b w hv hn hrb hjb hc0 hc1 hc hs hs' ha ha' hb hb'

theorem greedy_n (jb off c n : Nat) (J : List Int) (s a b : Int) (w : World) (hJ : J.length = n) (hv : M.Valid s J) (hn : n ≤ 65536) (hjb : jb < w.heap.size)
    (hc : ∀ j, j < n → w.cell? ⟨jb, off + j, none⟩ = some (.int .i64 (J.getD j 0)))
    (hs : 2 ≤ s) (hs' : s ≤ 65536) (ha : 0 ≤ a) (ha' : a < s) (hb : 0 ≤ b) (hb' : b < s) :
    Calls Try.prog 10 #[.int .i64 s, .slice (some ⟨jb, off, none⟩) n c, .int .i64 a, .int .i64 b] w fun e w' =>
      ∃ v, e = .returned v ∧ w'.ownsRow w.heap.size 3 1 v (M.path J s a b).length ((M.path J s a b).map (Value.int .i64)) ∧ Below w.heap.size w w' := by
  subst hJ; exact greedy_any jb off c J s a b w hv hn hjb hc hs hs' ha ha' hb hb'

theorem equal_n (b1 o1 c1 b2 o2 c2 n : Nat) (L : List Int) (w : World) (hL : L.length = n) (hn : n ≤ 65536)
    (hc : ∀ j, j < n → w.cell? ⟨b1, o1 + j, none⟩ = some (.int .i64 (L.getD j 0))) (hd : ∀ j, j < n → w.cell? ⟨b2, o2 + j, none⟩ = some (.int .i64 (L.getD j 0))) :
    Calls Try.prog 11 #[.slice (some ⟨b1, o1, none⟩) n c1, .slice (some ⟨b2, o2, none⟩) n c2] w fun e w' => e = .returned (.bool true) ∧ ∃ q, w' = w.drewN q := by
  subst hL; exact equal_any b1 o1 c1 b2 o2 c2 L w hn hc hd

theorem cells_below {w w' : World} {B b off n : Nat} {L : List Int} (hb : Below B w w') (hB : b < B) (h : ∀ j, j < n → w.cell? ⟨b, off + j, none⟩ = some (.int .i64 (L.getD j 0))) : ∀ j, j < n → w'.cell? ⟨b, off + j, none⟩ = some (.int .i64 (L.getD j 0)) :=
  fun j hj => (hb.cell (by exact hB)).trans (h j hj)

/-- the lengths pass all bounds: what is left of FnRouteIsGreedyDecompositionAndSuffixClosed -/
theorem topA_bytes_no (a0 : Int) (a1 : Option Addr) (n c : Nat) (a2 a3 a4 : Int) (w : World) (h : ¬ n ≤ 1048576) :
    Calls Try.prog 3 #[.int .i64 a0, .slice a1 n c, .int .i64 a2, .int .i64 a3, .int .i64 a4] w fun e w' => e = .returned (.bool true) ∧ Below w.heap.size w w' := by
  go_enter Try.func3, Try.ntmps3
  go_wp2_with (go_at_call 5; refine (bytes5_no _ _ _ _ _ _ _ _ h).mono ?_; rintro e w' ⟨rfl, rfl⟩)
  go_ret
  exact ⟨rfl, Below.refl _ _⟩

theorem topA_long (a0 : Int) (a1 : Option Addr) (n c : Nat) (a2 a3 a4 : Int) (w : World) (h : n ≤ 1048576) (h' : ¬ n ≤ 65536) :
    Calls Try.prog 3 #[.int .i64 a0, .slice a1 n c, .int .i64 a2, .int .i64 a3, .int .i64 a4] w fun e w' => e = .returned (.bool true) ∧ Below w.heap.size w w' := by
  go_enter Try.func3, Try.ntmps3
  go_wp2_with (go_at_call 5; refine (bytes5_any _ _ _ _ _ _ _ _ h).mono ?_; rintro e w' ⟨rfl, rfl⟩)
  go_ret
  exact ⟨rfl, Below.refl _ _⟩

theorem topA_size (a0 : Int) (a1 : Option Addr) (n c : Nat) (a2 a3 a4 : Int) (w : World) (h : n ≤ 65536) (hs : ¬ (2 ≤ a0 ∧ a0 ≤ 65536)) :
    Calls Try.prog 3 #[.int .i64 a0, .slice a1 n c, .int .i64 a2, .int .i64 a3, .int .i64 a4] w fun e w' => e = .returned (.bool true) ∧ Below w.heap.size w w' := by
  rcases (show a0 < 2 ∨ (2 ≤ a0 ∧ 65536 < a0) by omega) with h1 | ⟨h1, h2⟩
  all_goals
    clear hs
    go_enter Try.func3, Try.ntmps3
    go_wp2_with (go_at_call 5; refine (bytes5_any _ _ _ _ _ _ _ _ (by omega)).mono ?_; rintro e w' ⟨rfl, rfl⟩)
    go_ret
    exact ⟨rfl, Below.refl _ _⟩

theorem topA_empty (a0 : Int) (a1 : Option Addr) (c : Nat) (a2 a3 a4 : Int) (w : World) (hs : 2 ≤ a0) (hs' : a0 ≤ 65536) :
    Calls Try.prog 3 #[.int .i64 a0, .slice a1 0 c, .int .i64 a2, .int .i64 a3, .int .i64 a4] w fun e w' => e = .returned (.bool true) ∧ Below w.heap.size w w' := by
  go_enter Try.func3, Try.ntmps3
  go_wp2_with (first | (go_at_call 5; refine (bytes5_any _ _ _ _ _ _ _ _ (by omega)).mono ?_; rintro e w' ⟨rfl, rfl⟩) | (go_at_call 6; refine (valid_empty _ _ _ _).mono ?_; rintro e w' ⟨rfl, rfl⟩))
  go_ret
  exact ⟨rfl, Below.refl _ _⟩

set_option maxHeartbeats 4000000 in
set_option maxRecDepth 1000000 in
theorem topA_any (s : Int) (b off n c : Nat) (zs : List Int) (a2 a3 a4 : Int) (w : World) (hn1 : 1 ≤ n) (hn : n ≤ 65536) (hz : n ≤ zs.length) (hs : 2 ≤ s) (hs' : s ≤ 65536) (hb : b < w.heap.size)
    (hc : ∀ j, j < zs.length → w.cell? ⟨b, off + j, none⟩ = some (.int .i64 (zs.getD j 0))) :
    Calls Try.prog 3 #[.int .i64 s, .slice (some ⟨b, off, none⟩) n c, .int .i64 a2, .int .i64 a3, .int .i64 a4] w fun e w' => e = .returned (.bool true) ∧ Below w.heap.size w w' := by
  have HC : Hid (∀ j, j < zs.length → w.cell? ⟨b, off + j, none⟩ = some (.int .i64 (zs.getD j 0))) := hc
  clear hc
  go_enter Try.func3, Try.ntmps3
  go_wp2_with (go_at_call 5; refine (bytes5_any _ _ _ _ _ _ _ _ (by omega)).mono ?_; rintro e w' ⟨rfl, hw⟩; subst w')
  refine (valid_any s b off n c zs _ hz hn1 hn HC.out).mono ?_
  rintro e w1 ⟨⟨r, rfl, hr⟩, q, rfl⟩
  have hbel : Below w.heap.size w (w.drewN q) := below_drewN (Below.refl _ _) q
  cases r with
  | false =>
    go_wp2
    go_ret
    exact ⟨rfl, hbel⟩
  | true =>
    have V : Hid (M.Valid s (zs.take n)) := hr rfl
    clear hr
    rcases (show a2 < 0 ∨ (0 ≤ a2 ∧ s ≤ a2) ∨ ((0 ≤ a2 ∧ a2 < s) ∧ a3 < 0) ∨ ((0 ≤ a2 ∧ a2 < s) ∧ 0 ≤ a3 ∧ s ≤ a3) ∨ ((0 ≤ a2 ∧ a2 < s) ∧ (0 ≤ a3 ∧ a3 < s) ∧ a4 < 0) ∨ ((0 ≤ a2 ∧ a2 < s) ∧ (0 ≤ a3 ∧ a3 < s) ∧ 0 ≤ a4 ∧ 65536 < a4) ∨ ((0 ≤ a2 ∧ a2 < s) ∧ (0 ≤ a3 ∧ a3 < s) ∧ 0 ≤ a4 ∧ a4 ≤ 65536) by omega) with h | ⟨h, h'⟩ | ⟨⟨h, h'⟩, h''⟩ | ⟨⟨h, h'⟩, h'', h3⟩ | ⟨⟨h, h'⟩, ⟨h'', h3⟩, h4⟩ | ⟨⟨h, h'⟩, ⟨h'', h3⟩, h4, h5⟩ | ⟨⟨h, h'⟩, ⟨h'', h3⟩, h4, h5⟩
    case inr.inr.inr.inr.inr.inr =>
      have HC1 : Hid (∀ j, j < zs.length → (w.drewN q).cell? ⟨b, off + j, none⟩ = some (.int .i64 (zs.getD j 0))) := HC.out
      have hb1 : b < (w.drewN q).heap.size := hb
      generalize w.drewN q = w1 at HC1 hb1 hbel
      clear HC hb
      go_wp2_with fail
      refine (copy_any b off n c zs w1 hz hn hb1 HC1.out).mono ?_
      rintro e w2 ⟨rfl, hown2, hb2⟩
      have HJ : Hid ((zs.take n).length = n) := by show (zs.take n).length = n; rw [List.length_take]; omega
      have CJ2 : Hid (∀ j, j < n → w2.cell? ⟨w1.heap.size, 0 + j, none⟩ = some (.int .i64 ((zs.take n).getD j 0))) := by
        intro j hj
        rw [Nat.zero_add, hown2.cellAt j (by omega), List.getElem?_map, List.getD_eq_getElem?_getD, List.getElem?_eq_getElem (by rw [HJ.out]; exact hj)]
        rfl
      have hsz2 : w1.heap.size < w2.heap.size := (hown2.lt _ rfl).2
      clear hown2 HC1
      generalize zs.take n = J at V HJ CJ2
      have hsz1 := hbel.size
      have hbel2 : Below w.heap.size w w2 := hbel.trans (hb2.mono hsz1)
      go_wp2_with fail
      refine (full_any s (.int .i64 0) w1.heap.size n n w2).mono ?_
      rintro e w3 ⟨rfl, hw3⟩
      have hs3 : w2.heap.size < w3.heap.size := by rw [hw3]; simp
      have hb3 : Below w2.heap.size w2 w3 := by rw [hw3]; exact (Below.refl _ _).alloc (Nat.le_refl _) _
      have HF0 : Hid (w3.cell? ⟨w2.heap.size, 0, none⟩ = some (.int .i64 s)) := by rw [hw3]; simp [Hid]
      have HF1 : Hid (w3.cell? ⟨w2.heap.size, 1, none⟩ = some (.slice (some ⟨w1.heap.size, 0, none⟩) n n)) := by rw [hw3]; simp [Hid]
      clear hw3
      have CJ3 : Hid (∀ j, j < n → w3.cell? ⟨w1.heap.size, 0 + j, none⟩ = some (.int .i64 (J.getD j 0))) := cells_below hb3 hsz2 CJ2.out
      have hbel3 : Below w.heap.size w w3 := hbel2.trans (hb3.mono (by omega))
      clear hb1 hbel hb2 hbel2 hb3 CJ2
      go_wp2_with fail
      refine (route_n w2.heap.size w1.heap.size 0 n n J s a2 a3 w3 HJ.out V.out hn hs3 (by omega) HF0.out HF1.out CJ3.out hs hs' h h' h'' h3).mono ?_
      rintro e w4 ⟨v4, rfl, hown4, hb4⟩
      have hPl : (M.path J s a2 a3).length ≤ 65536 := by have h1 := M.path_len J s a2 a3; have h2 := M.dist_bd h h' h'' h3; omega
      have hP1 := M.path_pos J s a2 a3
      obtain ⟨g, gc, hv4, hg1, hg2, hgc, hgm, CP0⟩ := owns_cells hown4 hP1
      rw [hv4]
      clear hv4 hown4
      have CP4 : Hid (∀ j, j < (M.path J s a2 a3).length → w4.cell? ⟨g, 0 + j, none⟩ = some (.int .i64 ((M.path J s a2 a3).getD j 0))) := CP0
      clear CP0
      have hs4 := hb4.size
      have CJ4 : Hid (∀ j, j < n → w4.cell? ⟨w1.heap.size, 0 + j, none⟩ = some (.int .i64 (J.getD j 0))) := cells_below hb4 (by omega) CJ3.out
      have HF0 : Hid (w4.cell? ⟨w2.heap.size, 0, none⟩ = some (.int .i64 s)) := (hb4.cell (by exact hs3)).trans HF0.out
      have HF1 : Hid (w4.cell? ⟨w2.heap.size, 1, none⟩ = some (.slice (some ⟨w1.heap.size, 0, none⟩) n n)) := (hb4.cell (by exact hs3)).trans HF1.out
      have hbel4 : Below w.heap.size w w4 := hbel3.trans (hb4.mono (by omega))
      have HAT : Hid (∀ k, k < (M.path J s a2 a3).length → ∃ x, 0 ≤ x ∧ x < s ∧ (M.path J s a2 a3).drop k = M.path J s x a3 ∧ (M.path J s a2 a3).getD k 0 = x) := M.path_at V.out h h' h'' h3
      clear hb4 hbel3 CJ3
      generalize hP : (M.path J s a2 a3).length = N at *
      have HP : Hid ((M.path J s a2 a3).length = N) := hP
      clear hP
      unfold maxLen at hgm
      go_wp2_with fail
      refine (greedy_n w1.heap.size 0 n n J s a2 a3 w4 HJ.out V.out hn (by omega) CJ4.out hs hs' h h' h'' h3).mono ?_
      rintro e w5 ⟨v5, rfl, hown5, hb5⟩
      obtain ⟨g5, gc5, hv5, hg51, hg52, hgc5, hgm5, CP5⟩ := owns_cells hown5 (by rw [HP.out]; exact hP1)
      rw [HP.out] at hv5 CP5
      rw [hv5]
      have CPw : Hid (∀ j, j < N → w5.cell? ⟨g, 0 + j, none⟩ = some (.int .i64 ((M.path J s a2 a3).getD j 0))) := cells_below hb5 hg2 CP4.out
      have CPv : Hid (∀ j, j < N → w5.cell? ⟨g5, 0 + j, none⟩ = some (.int .i64 ((M.path J s a2 a3).getD j 0))) := CP5
      have CJ5 : Hid (∀ j, j < n → w5.cell? ⟨w1.heap.size, 0 + j, none⟩ = some (.int .i64 (J.getD j 0))) := cells_below hb5 (by omega) CJ4.out
      have HG0 : Hid (w5.cell? ⟨w2.heap.size, 0, none⟩ = some (.int .i64 s)) := (hb5.cell (show w2.heap.size < _ by omega)).trans HF0.out
      have HG1 : Hid (w5.cell? ⟨w2.heap.size, 1, none⟩ = some (.slice (some ⟨w1.heap.size, 0, none⟩) n n)) := (hb5.cell (show w2.heap.size < _ by omega)).trans HF1.out
      have hs5 := hb5.size
      have hbel5 : Below w.heap.size w w5 := hbel4.trans (hb5.mono (by omega))
      clear CP5 hv5 hown5 hgm5 hgc5 hb5 hbel4 CJ4 CP4 HF0 HF1
      go_wp2_with fail
      refine (equal_n g 0 gc g5 0 gc5 N (M.path J s a2 a3) w5 HP.out hPl CPw.out CPv.out).mono ?_
      rintro e w6 ⟨rfl, q6, rfl⟩
      have CPx : Hid (∀ j, j < N → (w5.drewN q6).cell? ⟨g, 0 + j, none⟩ = some (.int .i64 ((M.path J s a2 a3).getD j 0))) := CPw.out
      have CJx : Hid (∀ j, j < n → (w5.drewN q6).cell? ⟨w1.heap.size, 0 + j, none⟩ = some (.int .i64 (J.getD j 0))) := CJ5.out
      have HFx : Hid ((w5.drewN q6).cell? ⟨w2.heap.size, 0, none⟩ = some (.int .i64 s)) := HG0.out
      have HGx : Hid ((w5.drewN q6).cell? ⟨w2.heap.size, 1, none⟩ = some (.slice (some ⟨w1.heap.size, 0, none⟩) n n)) := HG1.out
      have hs6 : w4.heap.size ≤ (w5.drewN q6).heap.size := hs5
      have hbel6 : Below w.heap.size w (w5.drewN q6) := below_drewN hbel5 q6
      clear CPv CPw CJ5 HG0 HG1 hs5 hbel5 hg51 hg52
      generalize w5.drewN q6 = w6 at CPx CJx HFx HGx hs6 hbel6
      -- which place of the path: k, or the last
      obtain ⟨kk, hkk, hkE⟩ : ∃ kk : Nat, kk < N ∧ ((N : Int) ≤ a4 ∧ (kk : Int) = N - 1 ∨ ¬ (N : Int) ≤ a4 ∧ (kk : Int) = a4) := by
        by_cases hk : (N : Int) ≤ a4
        · exact ⟨N - 1, by omega, .inl ⟨hk, by omega⟩⟩
        · exact ⟨a4.toNat, by omega, .inr ⟨hk, by omega⟩⟩
      obtain ⟨x, hx, hx', hdrop, hget⟩ := HAT.out kk hkk
      have cx : w6.cell? ⟨g, kk, none⟩ = some (.int .i64 x) := by have := CPx.out kk hkk; rw [hget, Nat.zero_add] at this; exact this
      have HDR : Hid ((M.path J s a2 a3).drop kk = M.path J s x a3) := hdrop
      have HDL : Hid ((M.path J s x a3).length = N - kk) := by show _ = _; rw [← hdrop, List.length_drop, HP.out]
      have CPk : Hid (∀ j, j < N - kk → w6.cell? ⟨g, kk + j, none⟩ = some (.int .i64 ((M.path J s x a3).getD j 0))) := by
        intro j hj
        have h1 := CPx.out (kk + j) (by omega)
        rw [Nat.zero_add] at h1
        rw [h1, ← hdrop]
        simp [List.getD_eq_getElem?_getD]
      clear hdrop hget HAT CPx
      rcases hkE with ⟨hk1, hk2⟩ | ⟨hk1, hk2⟩
      · obtain rfl : kk = N - 1 := by omega
        clear hk2
        go_wp2_with fail
        refine (route_n w2.heap.size w1.heap.size 0 n n J s x a3 w6 HJ.out V.out hn (by omega) (by omega) HFx.out HGx.out CJx.out hs hs' hx hx' h'' h3).mono ?_
        rintro e w7 ⟨v7, rfl, hown7, hb7⟩
        obtain ⟨g7, gc7, hv7, hg71, hg72, hgc7, hgm7, CP7⟩ := owns_cells hown7 (by rw [HDL.out]; omega)
        rw [HDL.out] at hv7 CP7
        rw [hv7]
        have CQ : Hid (∀ j, j < N - (N - 1) → w7.cell? ⟨g, (N - 1) + j, none⟩ = some (.int .i64 ((M.path J s x a3).getD j 0))) := cells_below hb7 (by omega) CPk.out
        have CR : Hid (∀ j, j < N - (N - 1) → w7.cell? ⟨g7, 0 + j, none⟩ = some (.int .i64 ((M.path J s x a3).getD j 0))) := CP7
        have hbel7 : Below w.heap.size w w7 := hbel6.trans (hb7.mono (by omega))
        clear CP7 hv7 hown7 hgm7 hgc7 hb7 hbel6 CPk CJx HFx HGx
        go_wp2_with fail
        refine (equal_n g7 0 gc7 g (N - 1) (gc - (N - 1)) (N - (N - 1)) (M.path J s x a3) w7 HDL.out (by omega) CR.out CQ.out).mono ?_
        rintro e w8 ⟨rfl, q8, rfl⟩
        go_wp2
        go_ret
        exact ⟨rfl, below_drewN hbel7 q8⟩
      · subst hk2
        go_wp2_with fail
        refine (route_n w2.heap.size w1.heap.size 0 n n J s x a3 w6 HJ.out V.out hn (by omega) (by omega) HFx.out HGx.out CJx.out hs hs' hx hx' h'' h3).mono ?_
        rintro e w7 ⟨v7, rfl, hown7, hb7⟩
        obtain ⟨g7, gc7, hv7, hg71, hg72, hgc7, hgm7, CP7⟩ := owns_cells hown7 (by rw [HDL.out]; omega)
        rw [HDL.out] at hv7 CP7
        rw [hv7]
        have CQ : Hid (∀ j, j < N - kk → w7.cell? ⟨g, kk + j, none⟩ = some (.int .i64 ((M.path J s x a3).getD j 0))) := cells_below hb7 (by omega) CPk.out
        have CR : Hid (∀ j, j < N - kk → w7.cell? ⟨g7, 0 + j, none⟩ = some (.int .i64 ((M.path J s x a3).getD j 0))) := CP7
        have hbel7 : Below w.heap.size w w7 := hbel6.trans (hb7.mono (by omega))
        clear CP7 hv7 hown7 hgm7 hgc7 hb7 hbel6 CPk CJx HFx HGx
        go_wp2_with fail
        refine (equal_n g7 0 gc7 g kk (gc - kk) (N - kk) (M.path J s x a3) w7 HDL.out (by omega) CR.out CQ.out).mono ?_
        rintro e w8 ⟨rfl, q8, rfl⟩
        go_wp2
        go_ret
        exact ⟨rfl, below_drewN hbel7 q8⟩
    all_goals
      go_wp2
      go_ret
      exact ⟨rfl, hbel⟩

end Go.Proofs.Qxb6631256a
