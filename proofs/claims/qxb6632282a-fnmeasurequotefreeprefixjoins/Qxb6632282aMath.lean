/-
  THE PLAIN LAW OF Measure: on lists of bytes (as integers): no Go in sight.
-/
namespace Go.Proofs.Qxb6632282a.M
set_option linter.unusedVariables false

/-- the measure's machine: inside a string, behind a backslash, the balance, the peak, the objects, the booleans -/
def meas : List Int → Bool → Bool → Int → Int → Int → Int → Int × Int × Int
  | [], _, _, _, D, O, B => (D, O, B)
  | b :: bs, true, true, r, D, O, B => meas bs true false r D O B
  | b :: bs, true, false, r, D, O, B => if b = 92 then meas bs true true r D O B else if b = 34 then meas bs false false r D O B else meas bs true false r D O B
  | b :: bs, false, e, r, D, O, B =>
    if b = 34 then meas bs true e r D O B
    else if b = 91 then meas bs false e (r + 1) (max D (r + 1)) O B
    else if b = 123 then meas bs false e (r + 1) (max D (r + 1)) (O + 1) B
    else if b = 93 ∨ b = 125 then meas bs false e (r - 1) D O B
    else if b = 116 ∨ b = 102 then meas bs false e r D O (B + 1)
    else meas bs false e r D O B

theorem meas_out (b : Int) (bs : List Int) (e : Bool) (r D O B : Int) : meas (b :: bs) false e r D O B =
    if b = 34 then meas bs true e r D O B
    else if b = 91 then meas bs false e (r + 1) (max D (r + 1)) O B
    else if b = 123 then meas bs false e (r + 1) (max D (r + 1)) (O + 1) B
    else if b = 93 ∨ b = 125 then meas bs false e (r - 1) D O B
    else if b = 116 ∨ b = 102 then meas bs false e r D O (B + 1)
    else meas bs false e r D O B := by rw [meas]
theorem meas_in (b : Int) (bs : List Int) (r D O B : Int) : meas (b :: bs) true false r D O B = if b = 92 then meas bs true true r D O B else if b = 34 then meas bs false false r D O B else meas bs true false r D O B := by rw [meas]
theorem meas_esc (b : Int) (bs : List Int) (r D O B : Int) : meas (b :: bs) true true r D O B = meas bs true false r D O B := by rw [meas]
theorem meas_nil (i e : Bool) (r D O B : Int) : meas [] i e r D O B = (D, O, B) := by rw [meas]

theorem meas_shift (R E o b : Int) : ∀ (t : List Int) (i e : Bool) (r D O B : Int),
    meas t i e (R + r) (max E (R + D)) (o + O) (b + B) = (max E (R + (meas t i e r D O B).1), o + (meas t i e r D O B).2.1, b + (meas t i e r D O B).2.2) := by
  intro t
  induction t with
  | nil => intro i e r D O B; cases i <;> cases e <;> rfl
  | cons x xs ih =>
    intro i e r D O B
    cases i
    · unfold meas
      by_cases h1 : x = 34
      · rw [if_pos h1, if_pos h1]; exact ih _ _ _ _ _ _
      · rw [if_neg h1, if_neg h1]
        by_cases h2 : x = 91
        · rw [if_pos h2, if_pos h2]
          have e1 : R + r + 1 = R + (r + 1) := by omega
          have e2 : max (max E (R + D)) (R + r + 1) = max E (R + max D (r + 1)) := by omega
          rw [e2, e1]; exact ih _ _ _ _ _ _
        · rw [if_neg h2, if_neg h2]
          by_cases h3 : x = 123
          · rw [if_pos h3, if_pos h3]
            have e1 : R + r + 1 = R + (r + 1) := by omega
            have e2 : max (max E (R + D)) (R + r + 1) = max E (R + max D (r + 1)) := by omega
            have e3 : o + O + 1 = o + (O + 1) := by omega
            rw [e2, e1, e3]; exact ih _ _ _ _ _ _
          · rw [if_neg h3, if_neg h3]
            by_cases h4 : x = 93 ∨ x = 125
            · rw [if_pos h4, if_pos h4]
              have e1 : R + r - 1 = R + (r - 1) := by omega
              rw [e1]; exact ih _ _ _ _ _ _
            · rw [if_neg h4, if_neg h4]
              by_cases h5 : x = 116 ∨ x = 102
              · rw [if_pos h5, if_pos h5]
                have e3 : b + B + 1 = b + (B + 1) := by omega
                rw [e3]; exact ih _ _ _ _ _ _
              · rw [if_neg h5, if_neg h5]; exact ih _ _ _ _ _ _
    · cases e
      · unfold meas
        by_cases h1 : x = 92
        · rw [if_pos h1, if_pos h1]; exact ih _ _ _ _ _ _
        · rw [if_neg h1, if_neg h1]
          by_cases h2 : x = 34
          · rw [if_pos h2, if_pos h2]; exact ih _ _ _ _ _ _
          · rw [if_neg h2, if_neg h2]; exact ih _ _ _ _ _ _
      · unfold meas; exact ih _ _ _ _ _ _

/-- what the balance, the peak and the counts are behind a text without quotes -/
def pre : List Int → Int → Int → Int → Int → Int × Int × Int × Int
  | [], r, D, O, B => (r, D, O, B)
  | b :: bs, r, D, O, B =>
    if b = 91 then pre bs (r + 1) (max D (r + 1)) O B
    else if b = 123 then pre bs (r + 1) (max D (r + 1)) (O + 1) B
    else if b = 93 ∨ b = 125 then pre bs (r - 1) D O B
    else if b = 116 ∨ b = 102 then pre bs r D O (B + 1)
    else pre bs r D O B

theorem pre_cons (b : Int) (bs : List Int) (r D O B : Int) : pre (b :: bs) r D O B =
    if b = 91 then pre bs (r + 1) (max D (r + 1)) O B
    else if b = 123 then pre bs (r + 1) (max D (r + 1)) (O + 1) B
    else if b = 93 ∨ b = 125 then pre bs (r - 1) D O B
    else if b = 116 ∨ b = 102 then pre bs r D O (B + 1)
    else pre bs r D O B := by rw [pre]

theorem meas_pre : ∀ (p t : List Int) (r D O B : Int), (∀ x, x ∈ p → x ≠ 34) →
    meas (p ++ t) false false r D O B = meas t false false (pre p r D O B).1 (pre p r D O B).2.1 (pre p r D O B).2.2.1 (pre p r D O B).2.2.2 := by
  intro p
  induction p with
  | nil => intro t r D O B _; rfl
  | cons x xs ih =>
    intro t r D O B h
    have h34 : x ≠ 34 := h x List.mem_cons_self
    have hxs : ∀ y, y ∈ xs → y ≠ 34 := fun y hy => h y (List.mem_cons_of_mem _ hy)
    show meas (x :: (xs ++ t)) false false r D O B = _
    rw [meas_out, pre_cons, if_neg h34]
    by_cases h2 : x = 91
    · rw [if_pos h2, if_pos h2]; exact ih _ _ _ _ _ hxs
    · rw [if_neg h2, if_neg h2]
      by_cases h3 : x = 123
      · rw [if_pos h3, if_pos h3]; exact ih _ _ _ _ _ hxs
      · rw [if_neg h3, if_neg h3]
        by_cases h4 : x = 93 ∨ x = 125
        · rw [if_pos h4, if_pos h4]; exact ih _ _ _ _ _ hxs
        · rw [if_neg h4, if_neg h4]
          by_cases h5 : x = 116 ∨ x = 102
          · rw [if_pos h5, if_pos h5]; exact ih _ _ _ _ _ hxs
          · rw [if_neg h5, if_neg h5]; exact ih _ _ _ _ _ hxs

theorem pre_le : ∀ (p : List Int) (r D O B : Int), r ≤ D → (pre p r D O B).1 ≤ (pre p r D O B).2.1 := by
  intro p
  induction p with
  | nil => intro r D O B h; exact h
  | cons x xs ih =>
    intro r D O B h
    unfold pre
    by_cases h2 : x = 91
    · rw [if_pos h2]; exact ih _ _ _ _ (by omega)
    · rw [if_neg h2]
      by_cases h3 : x = 123
      · rw [if_pos h3]; exact ih _ _ _ _ (by omega)
      · rw [if_neg h3]
        by_cases h4 : x = 93 ∨ x = 125
        · rw [if_pos h4]; exact ih _ _ _ _ (by omega)
        · rw [if_neg h4]
          by_cases h5 : x = 116 ∨ x = 102
          · rw [if_pos h5]; exact ih _ _ _ _ h
          · rw [if_neg h5]; exact ih _ _ _ _ h

/-- the law of the join -/
theorem meas_join (p t : List Int) (h : ∀ x, x ∈ p → x ≠ 34) (r D O B : Int) (hp : pre p 0 0 0 0 = (r, D, O, B)) :
    meas (p ++ t) false false 0 0 0 0 = (max D (r + (meas t false false 0 0 0 0).1), O + (meas t false false 0 0 0 0).2.1, B + (meas t false false 0 0 0 0).2.2) := by
  have hle := pre_le p 0 0 0 0 (Int.le_refl 0)
  rw [meas_pre p t 0 0 0 0 h]
  rw [hp] at hle ⊢
  have hm := meas_shift r D O B t false false 0 0 0 0
  have e1 : r + 0 = r := by omega
  have e2 : max D (r + 0) = D := by show max D (r + 0) = D; have : r ≤ D := hle; omega
  have e3 : O + 0 = O := by omega
  have e4 : B + 0 = B := by omega
  rw [e2, e1, e3, e4] at hm
  exact hm

/-- bounds: each count moves by at most one a byte -/
theorem meas_bd : ∀ (t : List Int) (i e : Bool) (r D O B : Int) (n : Int), 0 ≤ D → D ≤ n → 0 ≤ O → O ≤ n → 0 ≤ B → B ≤ n → r ≤ n → 0 ≤ n →
    0 ≤ (meas t i e r D O B).1 ∧ (meas t i e r D O B).1 ≤ n + t.length ∧ 0 ≤ (meas t i e r D O B).2.1 ∧ (meas t i e r D O B).2.1 ≤ n + t.length ∧ 0 ≤ (meas t i e r D O B).2.2 ∧ (meas t i e r D O B).2.2 ≤ n + t.length := by
  intro t
  induction t with
  | nil => intro i e r D O B n h1 h2 h3 h4 h5 h6 h7 h8; cases i <;> cases e <;> (simp only [meas, List.length_nil]; omega)
  | cons x xs ih =>
    intro i e r D O B n h1 h2 h3 h4 h5 h6 h7 h8
    have key : ∀ i e r' D' O' B', 0 ≤ D' → D' ≤ n + 1 → 0 ≤ O' → O' ≤ n + 1 → 0 ≤ B' → B' ≤ n + 1 → r' ≤ n + 1 →
        0 ≤ (meas xs i e r' D' O' B').1 ∧ (meas xs i e r' D' O' B').1 ≤ n + (x :: xs).length ∧ 0 ≤ (meas xs i e r' D' O' B').2.1 ∧ (meas xs i e r' D' O' B').2.1 ≤ n + (x :: xs).length ∧ 0 ≤ (meas xs i e r' D' O' B').2.2 ∧ (meas xs i e r' D' O' B').2.2 ≤ n + (x :: xs).length := by
      intro i e r' D' O' B' a1 a2 a3 a4 a5 a6 a7
      have := ih i e r' D' O' B' (n + 1) a1 a2 a3 a4 a5 a6 a7 (by omega)
      simp only [List.length_cons]
      omega
    cases i
    · unfold meas
      split
      · exact key _ _ _ _ _ _ h1 (by omega) h3 (by omega) h5 (by omega) (by omega)
      · split
        · exact key _ _ _ _ _ _ (by omega) (by omega) h3 (by omega) h5 (by omega) (by omega)
        · split
          · exact key _ _ _ _ _ _ (by omega) (by omega) (by omega) (by omega) h5 (by omega) (by omega)
          · split
            · exact key _ _ _ _ _ _ h1 (by omega) h3 (by omega) h5 (by omega) (by omega)
            · split
              · exact key _ _ _ _ _ _ h1 (by omega) h3 (by omega) (by omega) (by omega) (by omega)
              · exact key _ _ _ _ _ _ h1 (by omega) h3 (by omega) h5 (by omega) (by omega)
    · cases e
      · unfold meas
        split
        · exact key _ _ _ _ _ _ h1 (by omega) h3 (by omega) h5 (by omega) (by omega)
        · split
          · exact key _ _ _ _ _ _ h1 (by omega) h3 (by omega) h5 (by omega) (by omega)
          · exact key _ _ _ _ _ _ h1 (by omega) h3 (by omega) h5 (by omega) (by omega)
      · unfold meas
        exact key _ _ _ _ _ _ h1 (by omega) h3 (by omega) h5 (by omega) (by omega)

end Go.Proofs.Qxb6632282a.M
