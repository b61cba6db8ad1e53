/-
  THE PLAIN LAW OF THE LEXER: on lists of bytes: no Go in sight.
-/
namespace Go.Proofs.Qxb6632232a.M
set_option linter.unusedVariables false

def isSp (c : Int) : Bool := c == 32 || c == 9 || c == 10 || c == 13
def isLet (c : Int) : Bool := c == 95 || (decide (97 ≤ c) && decide (c ≤ 122)) || (decide (65 ≤ c) && decide (c ≤ 90))
def isDig (c : Int) : Bool := decide (48 ≤ c) && decide (c ≤ 57)
def isNm (c : Int) : Bool := c == 45 || isLet c || isDig c

def nm (c : UInt8) : Bool := isNm (c.toNat : Int)
def nmd (c : UInt8) : Bool := isNm (c.toNat : Int) || (c.toNat : Int) == 46

/-- inside a literal (false), or just behind a quote of it (true): its value from here on, and what is left behind it -/
def strA : Bool → List UInt8 → List UInt8 × List UInt8
  | _, [] => ([], [])
  | false, c :: r => if c = 39 then strA true r else (c :: (strA false r).1, (strA false r).2)
  | true, c :: r => if c = 39 then (39 :: (strA false r).1, (strA false r).2) else ([], c :: r)

theorem strA_len : ∀ (l : List UInt8) (b : Bool), (strA b l).1.length ≤ l.length ∧ (strA b l).2.length ≤ l.length ∧ (strA b l).1.length + (strA b l).2.length ≤ l.length := by
  intro l
  induction l with
  | nil => intro b; cases b <;> simp [strA]
  | cons c r ih =>
    intro b
    have h1 := ih true
    have h2 := ih false
    cases b
    · unfold strA
      split
      · simp only [List.length_cons]; omega
      · simp only [List.length_cons]; omega
    · unfold strA
      split
      · simp only [List.length_cons]; omega
      · simp

def lexF : Nat → List UInt8 → List (Int × List UInt8)
  | 0, _ => []
  | _ + 1, [] => []
  | f + 1, c :: cs =>
    if isSp (c.toNat : Int) then lexF f cs
    else if isLet (c.toNat : Int) then (0, c :: cs.takeWhile nm) :: lexF f (cs.dropWhile nm)
    else if isDig (c.toNat : Int) then (2, c :: cs.takeWhile nmd) :: lexF f (cs.dropWhile nmd)
    else if c = 39 then (1, (strA false cs).1) :: lexF f (strA false cs).2
    else (2, [c]) :: lexF f cs

theorem drop_len (p : UInt8 → Bool) (l : List UInt8) : (l.dropWhile p).length ≤ l.length := by
  have h := congrArg List.length (List.takeWhile_append_dropWhile (p := p) (l := l))
  rw [List.length_append] at h
  omega

theorem lexF_fuel : ∀ (f g : Nat) (l : List UInt8), l.length ≤ f → l.length ≤ g → lexF f l = lexF g l := by
  intro f
  induction f with
  | zero =>
    intro g l h1 h2
    cases l with
    | nil => cases g <;> rfl
    | cons c cs => simp at h1
  | succ f ih =>
    intro g l h1 h2
    cases l with
    | nil => cases g <;> rfl
    | cons c cs =>
      cases g with
      | zero => simp at h2
      | succ g =>
        simp only [List.length_cons] at h1 h2
        have d1 := drop_len nm cs
        have d2 := drop_len nmd cs
        have d3 := (strA_len cs false).2.1
        unfold lexF
        rw [ih g cs (by omega) (by omega), ih g _ (show (cs.dropWhile nm).length ≤ f by omega) (by omega), ih g _ (show (cs.dropWhile nmd).length ≤ f by omega) (by omega),
          ih g _ (show (strA false cs).2.length ≤ f by omega) (by omega)]

def lex (l : List UInt8) : List (Int × List UInt8) := lexF l.length l

theorem lex_nil : lex [] = [] := rfl
theorem lex_cons (c : UInt8) (cs : List UInt8) : lex (c :: cs) =
    if isSp (c.toNat : Int) then lex cs
    else if isLet (c.toNat : Int) then (0, c :: cs.takeWhile nm) :: lex (cs.dropWhile nm)
    else if isDig (c.toNat : Int) then (2, c :: cs.takeWhile nmd) :: lex (cs.dropWhile nmd)
    else if c = 39 then (1, (strA false cs).1) :: lex (strA false cs).2
    else (2, [c]) :: lex cs := by
  have d1 := drop_len nm cs
  have d2 := drop_len nmd cs
  have d3 := (strA_len cs false).2.1
  show lexF (cs.length + 1) (c :: cs) = _
  rw [lexF]
  unfold lex
  rw [lexF_fuel cs.length _ (cs.dropWhile nm) d1 (Nat.le_refl _), lexF_fuel cs.length _ (cs.dropWhile nmd) d2 (Nat.le_refl _), lexF_fuel cs.length _ (strA false cs).2 d3 (Nat.le_refl _)]

theorem lexF_len : ∀ (f : Nat) (l : List UInt8), (lexF f l).length ≤ l.length := by
  intro f
  induction f with
  | zero => intro l; simp [lexF]
  | succ f ih =>
    intro l
    cases l with
    | nil => simp [lexF]
    | cons c cs =>
      have d1 := drop_len nm cs
      have d2 := drop_len nmd cs
      have d3 := (strA_len cs false).2.1
      have i1 := ih cs
      have i2 := ih (cs.dropWhile nm)
      have i3 := ih (cs.dropWhile nmd)
      have i4 := ih (strA false cs).2
      unfold lexF
      split
      · simp only [List.length_cons]; omega
      · split
        · simp only [List.length_cons]; omega
        · split
          · simp only [List.length_cons]; omega
          · split
            · simp only [List.length_cons]; omega
            · simp only [List.length_cons]; omega

theorem lex_len (l : List UInt8) : (lex l).length ≤ l.length := lexF_len _ _

/-! ### takeWhile, by places -/
theorem tw_take (p : UInt8 → Bool) (l : List UInt8) : l.take (l.takeWhile p).length = l.takeWhile p ∧ l.drop (l.takeWhile p).length = l.dropWhile p := by
  have e := List.takeWhile_append_dropWhile (p := p) (l := l)
  constructor
  · conv => lhs; rw [← e]
    rw [e]
    have : (l.takeWhile p ++ l.dropWhile p).take (l.takeWhile p).length = l.takeWhile p := List.take_left
    rwa [e] at this
  · have : (l.takeWhile p ++ l.dropWhile p).drop (l.takeWhile p).length = l.dropWhile p := List.drop_left
    rwa [e] at this

theorem tw_cons (p : UInt8 → Bool) (c : UInt8) (l : List UInt8) : (c :: l).takeWhile p = if p c then c :: l.takeWhile p else [] := by
  rw [List.takeWhile_cons]
theorem dw_cons (p : UInt8 → Bool) (c : UInt8) (l : List UInt8) : (c :: l).dropWhile p = if p c then l.dropWhile p else c :: l := by
  rw [List.dropWhile_cons]

/-! ### the tokens written back -/
def dbl : List UInt8 → List UInt8
  | [] => []
  | c :: r => if c = 39 then 39 :: 39 :: dbl r else c :: dbl r

def render (t : Int × List UInt8) : List UInt8 := if t.1 = 1 then 39 :: (dbl t.2 ++ [39]) else t.2

def glue : List (Int × List UInt8) → List UInt8
  | [] => []
  | t :: ts => render t ++ glue ts

/-- blanks outside literals dropped; q: an odd number of quotes stands before -/
def want : Bool → List UInt8 → List UInt8
  | q, [] => if q then [39] else []
  | q, c :: cs => if c = 39 then c :: want (!q) cs else if q = false ∧ isSp (c.toNat : Int) = true then want q cs else c :: want q cs

theorem want_len : ∀ (l : List UInt8) (q : Bool), (want q l).length ≤ l.length + 1 := by
  intro l
  induction l with
  | nil => intro q; cases q <;> simp [want]
  | cons c cs ih =>
    intro q
    have h1 := ih q
    have h2 := ih (!q)
    unfold want
    split
    · simp only [List.length_cons]; omega
    · split
      · simp only [List.length_cons]; omega
      · simp only [List.length_cons]; omega

theorem nm_plain {c : UInt8} (h : nm c = true) : c ≠ 39 ∧ isSp (c.toNat : Int) = false := by
  refine ⟨fun e => ?_, ?_⟩
  · subst e; revert h; decide
  · unfold nm isNm isLet isDig at h
    unfold isSp
    simp at h ⊢
    omega

theorem nmd_plain {c : UInt8} (h : nmd c = true) : c ≠ 39 ∧ isSp (c.toNat : Int) = false := by
  refine ⟨fun e => ?_, ?_⟩
  · subst e; revert h; decide
  · unfold nmd isNm isLet isDig at h
    unfold isSp
    simp at h ⊢
    omega

theorem want_run (p : UInt8 → Bool) (hp : ∀ c, p c = true → c ≠ 39 ∧ isSp (c.toNat : Int) = false) : ∀ l : List UInt8, want false l = l.takeWhile p ++ want false (l.dropWhile p) := by
  intro l
  induction l with
  | nil => simp
  | cons c cs ih =>
    rw [tw_cons, dw_cons]
    by_cases h : p c = true
    · obtain ⟨h1, h2⟩ := hp c h
      rw [if_pos h, if_pos h]
      conv => lhs; unfold want
      rw [if_neg h1, if_neg (by simp [h2]), ih]
      rfl
    · rw [if_neg h, if_neg h]; rfl

theorem want_str : ∀ (l : List UInt8), want true l = dbl (strA false l).1 ++ 39 :: want false (strA false l).2 ∧ 39 :: want false l = dbl (strA true l).1 ++ 39 :: want false (strA true l).2 := by
  intro l
  induction l with
  | nil => exact ⟨by simp [want, strA, dbl], by simp [want, strA, dbl]⟩
  | cons c cs ih =>
    constructor
    · conv => lhs; unfold want
      by_cases h : c = 39
      · have e : strA false (c :: cs) = strA true cs := by rw [strA, if_pos h]
        rw [if_pos h, e, h]
        exact ih.2
      · have e : strA false (c :: cs) = (c :: (strA false cs).1, (strA false cs).2) := by rw [strA, if_neg h]
        rw [if_neg h, if_neg (by simp), ih.1, e]
        show _ = dbl (c :: (strA false cs).1) ++ _
        rw [dbl, if_neg h]; rfl
    · by_cases h : c = 39
      · have e : strA true (c :: cs) = (39 :: (strA false cs).1, (strA false cs).2) := by rw [strA, if_pos h]
        have e2 : want false (c :: cs) = 39 :: want true cs := by rw [want, if_pos h, h]; rfl
        rw [e, e2, ih.1]
        simp [dbl]
      · have e : strA true (c :: cs) = ([], c :: cs) := by rw [strA, if_neg h]
        rw [e]; rfl

theorem glue_lexF : ∀ (f : Nat) (l : List UInt8), l.length ≤ f → glue (lexF f l) = want false l := by
  intro f
  induction f with
  | zero =>
    intro l h
    cases l with
    | nil => rfl
    | cons c cs => simp at h
  | succ f ih =>
    intro l h
    cases l with
    | nil => rfl
    | cons c cs =>
      simp only [List.length_cons] at h
      have d1 := drop_len nm cs
      have d2 := drop_len nmd cs
      have d3 := (strA_len cs false).2.1
      unfold lexF
      by_cases h1 : isSp (c.toNat : Int) = true
      · rw [if_pos h1, ih cs (by omega)]
        have hc : c ≠ 39 := fun e => by subst e; revert h1; decide
        rw [want, if_neg hc, if_pos ⟨rfl, h1⟩]
      · rw [if_neg h1]
        by_cases h2 : isLet (c.toNat : Int) = true
        · rw [if_pos h2]
          have hc : c ≠ 39 := fun e => by subst e; revert h2; decide
          show render (0, c :: cs.takeWhile nm) ++ glue _ = _
          rw [ih _ (by omega), want, if_neg hc, if_neg (by simp [h1]), want_run nm (fun c h => nm_plain h) cs]
          rfl
        · rw [if_neg h2]
          by_cases h3 : isDig (c.toNat : Int) = true
          · rw [if_pos h3]
            have hc : c ≠ 39 := fun e => by subst e; revert h3; decide
            show render (2, c :: cs.takeWhile nmd) ++ glue _ = _
            rw [ih _ (by omega), want, if_neg hc, if_neg (by simp [h1]), want_run nmd (fun c h => nmd_plain h) cs]
            rfl
          · rw [if_neg h3]
            by_cases h4 : c = 39
            · rw [if_pos h4]
              show render (1, (strA false cs).1) ++ glue _ = _
              rw [ih _ (by omega), want, if_pos h4]
              show _ = c :: want true cs
              rw [(want_str cs).1, h4]
              simp [render]
            · rw [if_neg h4]
              show render (2, [c]) ++ glue _ = _
              rw [ih _ (by omega), want, if_neg h4, if_neg (by simp [h1])]
              rfl

theorem glue_lex (l : List UInt8) : glue (lex l) = want false l := glue_lexF _ _ (Nat.le_refl _)

theorem glue_append : ∀ a b : List (Int × List UInt8), glue (a ++ b) = glue a ++ glue b := by
  intro a
  induction a with
  | nil => intro b; rfl
  | cons t ts ih => intro b; simp [glue, ih]

theorem dbl_append : ∀ a b : List UInt8, dbl (a ++ b) = dbl a ++ dbl b := by
  intro a
  induction a with
  | nil => intro b; rfl
  | cons c r ih =>
    intro b
    show dbl (c :: (r ++ b)) = _
    by_cases h : c = 39
    · rw [dbl, if_pos h, ih, dbl, if_pos h]; rfl
    · rw [dbl, if_neg h, ih, dbl, if_neg h]; rfl

end Go.Proofs.Qxb6632232a.M
