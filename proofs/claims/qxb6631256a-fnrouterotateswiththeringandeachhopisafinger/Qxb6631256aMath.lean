/-
  THE PLAIN MATHEMATICS OF THE RING's ROUTES: no Go in sight.
-/
namespace Go.Proofs.Qxb6631256a.M
set_option linter.unusedVariables false

def adv (s x j : Int) : Int := if s - x ≤ j then j - (s - x) else x + j
def dist (s a b : Int) : Int := if a ≤ b then b - a else s - (a - b)

/-- j is the greatest jump not above d -/
def IsBest (J : List Int) (d j : Int) : Prop := j ∈ J ∧ j ≤ d ∧ ∀ x, x ∈ J → x ≤ d → x ≤ j

/-- the shape of a finger scheme -/
def Valid (s : Int) (J : List Int) : Prop := (1 : Int) ∈ J ∧ (∀ x, x ∈ J → 1 ≤ x ∧ x < s) ∧ J.Pairwise (· < ·)

def best : List Int → Int → Int
  | [], _ => 0
  | x :: xs, d => if x ≤ d then max x (best xs d) else best xs d

theorem best_nonneg (J : List Int) (d : Int) : 0 ≤ best J d := by
  induction J with
  | nil => simp [best]
  | cons x xs ih =>
    unfold best
    split
    · omega
    · exact ih

theorem best_ge (J : List Int) (d x : Int) (hx : x ∈ J) (h : x ≤ d) : x ≤ best J d := by
  induction J with
  | nil => simp at hx
  | cons y ys ih =>
    unfold best
    rcases List.mem_cons.1 hx with rfl | hm
    · rw [if_pos h]; omega
    · have := ih hm
      split <;> omega

theorem best_mem (J : List Int) (d : Int) : best J d = 0 ∨ (best J d ∈ J ∧ best J d ≤ d) := by
  induction J with
  | nil => left; simp [best]
  | cons y ys ih =>
    unfold best
    split
    · rename_i h
      rcases ih with h0 | ⟨h1, h2⟩
      · rw [h0]
        by_cases hy : y ≤ 0
        · left; omega
        · right
          have : max y 0 = y := by omega
          rw [this]; exact ⟨List.mem_cons_self, h⟩
      · by_cases hy : y ≤ best ys d
        · right
          have : max y (best ys d) = best ys d := by omega
          rw [this]; exact ⟨List.mem_cons_of_mem _ h1, h2⟩
        · right
          have : max y (best ys d) = y := by omega
          rw [this]; exact ⟨List.mem_cons_self, h⟩
    · rcases ih with h0 | ⟨h1, h2⟩
      · left; exact h0
      · right; exact ⟨List.mem_cons_of_mem _ h1, h2⟩

theorem best_eq {s : Int} {J : List Int} {d j : Int} (hv : Valid s J) (hj : IsBest J d j) : best J d = j := by
  have h1 := best_ge J d j hj.1 hj.2.1
  have h2 := (hv.2.1 j hj.1).1
  rcases best_mem J d with h | ⟨h3, h4⟩
  · omega
  · have := hj.2.2 _ h3 h4; omega

theorem best_is {s : Int} {J : List Int} {d : Int} (hv : Valid s J) (hd : 1 ≤ d) : IsBest J d (best J d) := by
  have h1 := best_ge J d 1 hv.1 hd
  rcases best_mem J d with h | ⟨h3, h4⟩
  · omega
  · exact ⟨h3, h4, fun x hx hxd => best_ge J d x hx hxd⟩

def hopsF (J : List Int) : Nat → Int → List Int
  | 0, _ => []
  | f + 1, d => if d ≤ 0 then [] else best J d :: hopsF J f (d - best J d)

def hops (J : List Int) (d : Int) : List Int := hopsF J d.toNat d

theorem hopsF_fuel {s : Int} {J : List Int} (hv : Valid s J) : ∀ (f g : Nat) (d : Int), d.toNat ≤ f → d.toNat ≤ g → hopsF J f d = hopsF J g d := by
  intro f
  induction f with
  | zero =>
    intro g d h1 _
    cases g with
    | zero => rfl
    | succ g => unfold hopsF; rw [if_pos (by omega)]
  | succ f ih =>
    intro g d h1 h2
    cases g with
    | zero => unfold hopsF; rw [if_pos (by omega)]
    | succ g =>
      unfold hopsF
      by_cases hd : d ≤ 0
      · rw [if_pos hd, if_pos hd]
      · rw [if_neg hd, if_neg hd]
        have hb := best_is (d := d) hv (by omega)
        have := (hv.2.1 _ hb.1).1
        rw [ih g (d - best J d) (by omega) (by omega)]

theorem hops_zero (J : List Int) {d : Int} (h : d ≤ 0) : hops J d = [] := by
  unfold hops
  have : d.toNat = 0 := by omega
  rw [this]; rfl

theorem hops_step {s : Int} {J : List Int} {d j : Int} (hv : Valid s J) (hd : 1 ≤ d) (hj : IsBest J d j) : hops J d = j :: hops J (d - j) := by
  have e := best_eq hv hj
  have hj1 := (hv.2.1 _ hj.1).1
  unfold hops
  obtain ⟨f, hf⟩ : ∃ f, d.toNat = f + 1 := ⟨d.toNat - 1, by omega⟩
  rw [hf]
  show hopsF J (f + 1) d = _
  rw [hopsF, if_neg (by omega), e, hopsF_fuel hv f (d - j).toNat (d - j) (by omega) (by omega)]

theorem hopsF_all {s : Int} {J : List Int} (hv : Valid s J) : ∀ (f : Nat) (d h : Int), h ∈ hopsF J f d → 1 ≤ h ∧ h < s := by
  intro f
  induction f with
  | zero => intro d h hh; simp [hopsF] at hh
  | succ f ih =>
    intro d h hh
    unfold hopsF at hh
    by_cases hd : d ≤ 0
    · rw [if_pos hd] at hh; simp at hh
    · rw [if_neg hd] at hh
      rcases List.mem_cons.1 hh with rfl | hm
      · exact hv.2.1 _ (best_is hv (by omega)).1
      · exact ih _ _ hm

theorem hopsF_len (J : List Int) : ∀ (f : Nat) (d : Int), (hopsF J f d).length ≤ f := by
  intro f
  induction f with
  | zero => intro d; simp [hopsF]
  | succ f ih =>
    intro d
    unfold hopsF
    split
    · simp
    · simp; exact ih _

def walkP (s : Int) : Int → List Int → List Int
  | x, [] => [x]
  | x, h :: hs => x :: walkP s (adv s x h) hs

theorem walkP_len (s : Int) : ∀ (hs : List Int) (x : Int), (walkP s x hs).length = hs.length + 1 := by
  intro hs
  induction hs with
  | nil => intro x; rfl
  | cons h hs ih => intro x; simp [walkP, ih]

theorem walkP_head (s : Int) (hs : List Int) (x : Int) : (walkP s x hs).getD 0 0 = x := by
  cases hs <;> simp [walkP]

def path (J : List Int) (s a b : Int) : List Int := walkP s a (hops J (dist s a b))

theorem path_len (J : List Int) (s a b : Int) : (path J s a b).length ≤ (dist s a b).toNat + 1 := by
  unfold path
  rw [walkP_len]
  have := hopsF_len J (dist s a b).toNat (dist s a b)
  unfold hops; omega

theorem path_pos (J : List Int) (s a b : Int) : 1 ≤ (path J s a b).length := by
  unfold path; rw [walkP_len]; omega

theorem path_head (J : List Int) (s a b : Int) : (path J s a b).getD 0 0 = a := walkP_head _ _ _

theorem dist_self (s b : Int) : dist s b b = 0 := by unfold dist; rw [if_pos (by omega)]; omega

theorem path_end (J : List Int) (s b : Int) : path J s b b = [b] := by
  unfold path; rw [dist_self, hops_zero J (by omega)]; rfl

theorem dist_pos {s a b : Int} (ha : 0 ≤ a) (ha' : a < s) (hb : 0 ≤ b) (hb' : b < s) (hne : a ≠ b) : 1 ≤ dist s a b ∧ dist s a b < s := by
  unfold dist; split <;> omega

theorem dist_bd {s a b : Int} (ha : 0 ≤ a) (ha' : a < s) (hb : 0 ≤ b) (hb' : b < s) : 0 ≤ dist s a b ∧ dist s a b < s := by
  unfold dist; split <;> omega

theorem adv_bd {s a b j : Int} (ha : 0 ≤ a) (ha' : a < s) (hb : 0 ≤ b) (hb' : b < s) (h1 : 1 ≤ j) (h2 : j ≤ dist s a b) : 0 ≤ adv s a j ∧ adv s a j < s ∧ dist s (adv s a j) b = dist s a b - j := by
  unfold dist at *
  unfold adv
  by_cases h : a ≤ b
  · rw [if_pos h] at *
    rw [if_neg (by omega), if_pos (by omega)]
    omega
  · rw [if_neg h] at *
    by_cases h3 : s - a ≤ j
    · rw [if_pos h3, if_pos (by omega)]; omega
    · rw [if_neg h3, if_neg (by omega)]; omega

theorem path_step {J : List Int} {s a b j : Int} (hv : Valid s J) (ha : 0 ≤ a) (ha' : a < s) (hb : 0 ≤ b) (hb' : b < s) (hne : a ≠ b) (hj : IsBest J (dist s a b) j) :
    path J s a b = a :: path J s (adv s a j) b := by
  have hd := dist_pos ha ha' hb hb' hne
  have hj1 := (hv.2.1 _ hj.1).1
  have e := (adv_bd ha ha' hb hb' hj1 hj.2.1).2.2
  unfold path
  rw [hops_step hv hd.1 hj, e]
  rfl

/-- from any place on the route the rest is the route from there -/
theorem path_at {J : List Int} {s a b : Int} (hv : Valid s J) (ha : 0 ≤ a) (ha' : a < s) (hb : 0 ≤ b) (hb' : b < s) : ∀ k : Nat, k < (path J s a b).length →
    ∃ x, 0 ≤ x ∧ x < s ∧ (path J s a b).drop k = path J s x b ∧ (path J s a b).getD k 0 = x := by
  intro k
  induction k with
  | zero => intro _; exact ⟨a, ha, ha', by simp, path_head _ _ _ _⟩
  | succ k ih =>
    intro hk
    obtain ⟨x, hx, hx', hd, hg⟩ := ih (by omega)
    have hne : x ≠ b := by
      intro h
      subst h
      rw [path_end] at hd
      have := congrArg List.length hd
      simp at this
      omega
    have hbst := best_is (d := dist s x b) hv (dist_pos hx hx' hb hb' hne).1
    have hj1 := (hv.2.1 _ hbst.1).1
    have hst := path_step hv hx hx' hb hb' hne hbst
    have hab := adv_bd hx hx' hb hb' hj1 hbst.2.1
    refine ⟨adv s x (best J (dist s x b)), hab.1, hab.2.1, ?_, ?_⟩
    · have : (path J s a b).drop (k + 1) = ((path J s a b).drop k).drop 1 := by rw [List.drop_drop]
      rw [this, hd, hst]; rfl
    · have e1 : (path J s a b).getD (k + 1) 0 = ((path J s a b).drop k).getD 1 0 := by
        simp [List.getD_eq_getElem?_getD]
      rw [e1, hd, hst]
      show (path J s _ b).getD 0 0 = _
      exact path_head _ _ _ _

/-- what each hop is -/
theorem path_hop {J : List Int} {s a b : Int} (hv : Valid s J) (ha : 0 ≤ a) (ha' : a < s) (hb : 0 ≤ b) (hb' : b < s) (k : Nat) (hk : k + 1 < (path J s a b).length) :
    0 ≤ (path J s a b).getD k 0 ∧ (path J s a b).getD k 0 < s ∧ ∃ j, IsBest J (dist s ((path J s a b).getD k 0) b) j ∧ (path J s a b).getD (k + 1) 0 = adv s ((path J s a b).getD k 0) j := by
  obtain ⟨x, hx, hx', hd, hg⟩ := path_at hv ha ha' hb hb' k (by omega)
  have hne : x ≠ b := by
    intro h
    subst h
    rw [path_end] at hd
    have := congrArg List.length hd
    simp at this
    omega
  have hbst := best_is (d := dist s x b) hv (dist_pos hx hx' hb hb' hne).1
  have hst := path_step hv hx hx' hb hb' hne hbst
  rw [hg]
  refine ⟨hx, hx', _, hbst, ?_⟩
  have e1 : (path J s a b).getD (k + 1) 0 = ((path J s a b).drop k).getD 1 0 := by
    simp [List.getD_eq_getElem?_getD]
  rw [e1, hd, hst]
  show (path J s _ b).getD 0 0 = _
  exact path_head _ _ _ _

theorem path_last {J : List Int} {s a b : Int} (hv : Valid s J) (ha : 0 ≤ a) (ha' : a < s) (hb : 0 ≤ b) (hb' : b < s) : (path J s a b).getD ((path J s a b).length - 1) 0 = b := by
  have hp := path_pos J s a b
  obtain ⟨x, hx, hx', hd, hg⟩ := path_at hv ha ha' hb hb' ((path J s a b).length - 1) (by omega)
  rw [hg]
  by_cases hne : x = b
  · exact hne
  · exfalso
    have hbst := best_is (d := dist s x b) hv (dist_pos hx hx' hb hb' hne).1
    rw [path_step hv hx hx' hb hb' hne hbst] at hd
    have := congrArg List.length hd
    have hq := path_pos J s (adv s x (best J (dist s x b))) b
    simp at this
    omega

def rot (s c x : Int) : Int := if s ≤ x + c then x + c - s else x + c

theorem rot_bd {s c x : Int} (hc : 0 ≤ c) (hc' : c < s) (hx : 0 ≤ x) (hx' : x < s) : 0 ≤ rot s c x ∧ rot s c x < s := by
  unfold rot; split <;> omega

theorem rot_dist {s c a b : Int} (hc : 0 ≤ c) (hc' : c < s) (ha : 0 ≤ a) (ha' : a < s) (hb : 0 ≤ b) (hb' : b < s) : dist s (rot s c a) (rot s c b) = dist s a b := by
  unfold rot dist
  by_cases h1 : s ≤ a + c <;> by_cases h2 : s ≤ b + c <;> by_cases h3 : a ≤ b
  all_goals simp only [h1, h2, h3, if_true, if_false]
  all_goals (split <;> omega)

theorem walk_rot {s c : Int} (hc : 0 ≤ c) (hc' : c < s) : ∀ (hs : List Int) (a : Int), 0 ≤ a → a < s → (∀ h, h ∈ hs → 1 ≤ h ∧ h < s) → walkP s (rot s c a) hs = (walkP s a hs).map (rot s c) := by
  intro hs
  induction hs with
  | nil => intro a _ _ _; rfl
  | cons h hs ih =>
    intro a ha ha' hall
    have hh := hall h List.mem_cons_self
    have e : adv s (rot s c a) h = rot s c (adv s a h) := by
      unfold adv rot
      by_cases h1 : s ≤ a + c <;> by_cases h2 : s - a ≤ h
      all_goals simp only [h1, h2, if_true, if_false]
      all_goals (split <;> split <;> omega)
    have hb : 0 ≤ adv s a h ∧ adv s a h < s := by unfold adv; split <;> omega
    simp only [walkP, List.map_cons]
    rw [e, ih (adv s a h) hb.1 hb.2 (fun x hx => hall x (List.mem_cons_of_mem _ hx))]

theorem path_rot {J : List Int} {s c a b : Int} (hv : Valid s J) (hc : 0 ≤ c) (hc' : c < s) (ha : 0 ≤ a) (ha' : a < s) (hb : 0 ≤ b) (hb' : b < s) :
    path J s (rot s c a) (rot s c b) = (path J s a b).map (rot s c) := by
  unfold path
  rw [rot_dist hc hc' ha ha' hb hb']
  exact walk_rot hc hc' _ _ ha ha' (fun h hh => hopsF_all hv _ _ _ hh)

/-- the greatest jump not above d, by its place in the list -/
theorem best_of_count {J : List Int} {d : Int} (hs : J.Pairwise (· < ·)) (hi : ∃ i, i < J.length ∧ J.getD i 0 ≤ d ∧ (i + 1 < J.length → d < J.getD (i + 1) 0)) : ∃ i, i < J.length ∧ IsBest J d (J.getD i 0) := by
  obtain ⟨i, hl, h1, h2⟩ := hi
  refine ⟨i, hl, ?_, h1, ?_⟩
  · rw [List.getD_eq_getElem?_getD, List.getElem?_eq_getElem hl]; exact List.getElem_mem _
  · intro x hx hxd
    obtain ⟨t, ht, rfl⟩ := List.getElem_of_mem hx
    have get : ∀ u (hu : u < J.length), J.getD u 0 = J[u] := fun u hu => by rw [List.getD_eq_getElem?_getD, List.getElem?_eq_getElem hu]; rfl
    by_cases hti : t ≤ i
    · rcases Nat.lt_or_eq_of_le hti with h | h
      · have := List.pairwise_iff_getElem.1 hs t i ht hl h
        rw [get i hl]; omega
      · subst h; rw [get t ht]; omega
    · have hi1 : i + 1 < J.length := by omega
      have h3 := h2 hi1
      rw [get _ hi1] at h3
      rcases Nat.lt_or_eq_of_le (show i + 1 ≤ t by omega) with h | h
      · have := List.pairwise_iff_getElem.1 hs (i + 1) t hi1 ht h
        omega
      · subst h; omega

theorem isBest_at {J : List Int} {d : Int} (hs : J.Pairwise (· < ·)) (i : Nat) (hl : i < J.length) (h1 : J.getD i 0 ≤ d) (h2 : i + 1 < J.length → d < J.getD (i + 1) 0) : IsBest J d (J.getD i 0) := by
  have get : ∀ u (hu : u < J.length), J.getD u 0 = J[u] := fun u hu => by rw [List.getD_eq_getElem?_getD, List.getElem?_eq_getElem hu]; rfl
  refine ⟨by rw [get i hl]; exact List.getElem_mem _, h1, ?_⟩
  intro x hx hxd
  obtain ⟨t, ht, rfl⟩ := List.getElem_of_mem hx
  by_cases hti : t ≤ i
  · rcases Nat.lt_or_eq_of_le hti with h | h
    · have := List.pairwise_iff_getElem.1 hs t i ht hl h
      rw [get i hl]; omega
    · subst h; rw [get t ht]; omega
  · have hi1 : i + 1 < J.length := by omega
    have h3 := h2 hi1
    rw [get _ hi1] at h3
    rcases Nat.lt_or_eq_of_le (show i + 1 ≤ t by omega) with h | h
    · have := List.pairwise_iff_getElem.1 hs (i + 1) t hi1 ht h
      omega
    · subst h; omega

/-- a strictly increasing row, said cell by cell -/
theorem pairwise_of_steps {J : List Int} (h : ∀ i, i + 1 < J.length → J.getD i 0 < J.getD (i + 1) 0) : J.Pairwise (· < ·) := by
  have get : ∀ u (hu : u < J.length), J.getD u 0 = J[u] := fun u hu => by rw [List.getD_eq_getElem?_getD, List.getElem?_eq_getElem hu]; rfl
  have far : ∀ k i, i + k + 1 < J.length → J.getD i 0 < J.getD (i + k + 1) 0 := by
    intro k
    induction k with
    | zero => intro i hi; exact h i (by omega)
    | succ k ih =>
      intro i hi
      have h1 := ih i (by omega)
      have h2 := h (i + k + 1) (by omega)
      have e : i + (k + 1) + 1 = i + k + 1 + 1 := by omega
      rw [e]; omega
  rw [List.pairwise_iff_getElem]
  intro i j hi hj hij
  have := far (j - i - 1) i (by omega)
  have e : i + (j - i - 1) + 1 = j := by omega
  rw [e, get i hi, get j hj] at this
  exact this

theorem valid_of {s : Int} {J : List Int} (h0 : 0 < J.length) (h1 : J.getD 0 0 = 1) (h2 : ∀ i, i + 1 < J.length → J.getD i 0 < J.getD (i + 1) 0) (h3 : J.getD (J.length - 1) 0 < s) : Valid s J := by
  have get : ∀ u (hu : u < J.length), J.getD u 0 = J[u] := fun u hu => by rw [List.getD_eq_getElem?_getD, List.getElem?_eq_getElem hu]; rfl
  have hp := pairwise_of_steps h2
  refine ⟨?_, ?_, hp⟩
  · rw [← h1, get 0 h0]; exact List.getElem_mem _
  · intro x hx
    obtain ⟨t, ht, rfl⟩ := List.getElem_of_mem hx
    rw [get 0 h0] at h1
    rw [get (J.length - 1) (by omega)] at h3
    constructor
    · rcases Nat.eq_zero_or_pos t with rfl | hp0
      · omega
      · have := List.pairwise_iff_getElem.1 hp 0 t h0 ht hp0; omega
    · rcases Nat.lt_or_ge t (J.length - 1) with h | h
      · have := List.pairwise_iff_getElem.1 hp t (J.length - 1) ht (by omega) h; omega
      · have : t = J.length - 1 := by omega
        subst this; exact h3

end Go.Proofs.Qxb6631256a.M
