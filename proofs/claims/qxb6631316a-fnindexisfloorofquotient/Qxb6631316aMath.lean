/-
  THE PLAIN ARITHMETIC OF TWO WORDS: the walk's own spellings on the left, plain integers on the right.
-/
import Derived.Laws.Bits64
import Derived.Laws.BitsAllLaws
namespace Go.Proofs.Qxb6631316a.M
set_option linter.unusedVariables false

/-- the high and the low word of a number in two's complement -/
def hiW (p : Int) : Int := p / 18446744073709551616 % 18446744073709551616
def loW (p : Int) : Int := p % 18446744073709551616

theorem loW_bd (p : Int) : 0 ≤ loW p ∧ loW p ≤ 18446744073709551615 := by unfold loW; omega
theorem hiW_bd (p : Int) : 0 ≤ hiW p ∧ hiW p ≤ 18446744073709551615 := by unfold hiW; omega

theorem wrapU (x : Int) : IntKind.u64.wrap x = x % 18446744073709551616 := IntKind.wrap_u64 x

theorem mask (x : Int) (h : 0 ≤ x) (h' : x < 18446744073709551616) : bits BinOp.and IntKind.u64 x 4294967295 = x % 4294967296 := by
  rw [u64_and x 4294967295 h h' (by decide) (by decide)]
  have e : x.toNat &&& (4294967295 : Int).toNat = x.toNat % 4294967296 := Nat.and_two_pow_sub_one_eq_mod x.toNat 32
  rw [e]; omega

theorem flip_nat (x : Nat) (h : x < 18446744073709551616) : 18446744073709551615 ^^^ x = 18446744073709551615 - x := by
  have e1 : (BitVec.allOnes 64 ^^^ BitVec.ofNat 64 x).toNat = 18446744073709551615 ^^^ x := by
    rw [BitVec.toNat_xor, BitVec.toNat_allOnes, BitVec.toNat_ofNat, Nat.mod_eq_of_lt (by omega)]
  have e2 : (BitVec.allOnes 64 ^^^ BitVec.ofNat 64 x) = ~~~ (BitVec.ofNat 64 x) := BitVec.allOnes_xor
  rw [← e1, e2, BitVec.toNat_not, BitVec.toNat_ofNat, Nat.mod_eq_of_lt (by omega)]

theorem maxU : IntKind.u64.max = 18446744073709551615 := by decide

theorem flip (x : Int) (h : 0 ≤ x) (h' : x < 18446744073709551616) : bits BinOp.xor IntKind.u64 IntKind.u64.max x = 18446744073709551615 - x := by
  rw [maxU, u64_xor 18446744073709551615 x (by decide) (by decide) h h']
  have e : (18446744073709551615 : Int).toNat ^^^ x.toNat = 18446744073709551615 - x.toNat := flip_nat x.toNat (by omega)
  rw [e]; omega

/-- mulWide's words, as the walk writes them -/
def tM (A B : Int) : Int := IntKind.u64.wrap (IntKind.u64.wrap (A / 4294967296 * bits BinOp.and IntKind.u64 B 4294967295) + IntKind.u64.wrap (bits BinOp.and IntKind.u64 A 4294967295 * bits BinOp.and IntKind.u64 B 4294967295) / 4294967296)
def hM (A B : Int) : Int := IntKind.u64.wrap (IntKind.u64.wrap (IntKind.u64.wrap (A / 4294967296 * (B / 4294967296)) + tM A B / 4294967296) + IntKind.u64.wrap (bits BinOp.and IntKind.u64 (tM A B) 4294967295 + IntKind.u64.wrap (bits BinOp.and IntKind.u64 A 4294967295 * (B / 4294967296))) / 4294967296)
def lM (A B : Int) : Int := IntKind.u64.wrap (A * B)

theorem mul_bd {x y n m : Int} (hx : 0 ≤ x) (hx' : x ≤ n) (hy : 0 ≤ y) (hy' : y ≤ m) : 0 ≤ x * y ∧ x * y ≤ n * m :=
  ⟨Int.mul_nonneg hx hy, Int.mul_le_mul hx' hy' hy (by omega)⟩

theorem hM_is (A B : Int) (hA : 0 ≤ A) (hA' : A ≤ 9223372036854775808) (hB : 0 ≤ B) (hB' : B ≤ 9223372036854775808) : hM A B = A * B / 18446744073709551616 := by
  obtain ⟨a1, ha1⟩ : ∃ a1, a1 = A / 4294967296 := ⟨_, rfl⟩
  obtain ⟨a0, ha0⟩ : ∃ a0, a0 = A % 4294967296 := ⟨_, rfl⟩
  obtain ⟨b1, hb1⟩ : ∃ b1, b1 = B / 4294967296 := ⟨_, rfl⟩
  obtain ⟨b0, hb0⟩ : ∃ b0, b0 = B % 4294967296 := ⟨_, rfl⟩
  have eA : A = a1 * 4294967296 + a0 := by omega
  have eB : B = b1 * 4294967296 + b0 := by omega
  have p00 := mul_bd (x := a0) (y := b0) (n := 4294967295) (m := 4294967295) (by omega) (by omega) (by omega) (by omega)
  have p01 := mul_bd (x := a0) (y := b1) (n := 4294967295) (m := 2147483648) (by omega) (by omega) (by omega) (by omega)
  have p10 := mul_bd (x := a1) (y := b0) (n := 2147483648) (m := 4294967295) (by omega) (by omega) (by omega) (by omega)
  have p11 := mul_bd (x := a1) (y := b1) (n := 2147483648) (m := 2147483648) (by omega) (by omega) (by omega) (by omega)
  have eP : A * B = a1 * b1 * 18446744073709551616 + (a1 * b0 + a0 * b1) * 4294967296 + a0 * b0 := by
    rw [eA, eB, Int.add_mul, Int.mul_add, Int.mul_add]
    have e1 : a1 * 4294967296 * (b1 * 4294967296) = a1 * b1 * 18446744073709551616 := by
      rw [Int.mul_assoc a1, Int.mul_comm 4294967296 (b1 * 4294967296), Int.mul_assoc b1, ← Int.mul_assoc a1]; rfl
    have e2 : a1 * 4294967296 * b0 = a1 * b0 * 4294967296 := by rw [Int.mul_assoc, Int.mul_comm 4294967296 b0, ← Int.mul_assoc]
    have e3 : a0 * (b1 * 4294967296) = a0 * b1 * 4294967296 := by rw [← Int.mul_assoc]
    rw [e1, e2, e3]; omega
  have e4 : bits BinOp.and IntKind.u64 A 4294967295 = a0 := by rw [mask A hA (by omega), ha0]
  have e5 : bits BinOp.and IntKind.u64 B 4294967295 = b0 := by rw [mask B hB (by omega), hb0]
  obtain ⟨t, ht⟩ : ∃ t, t = a1 * b0 + a0 * b0 / 4294967296 := ⟨_, rfl⟩
  have e6 : tM A B = t := by
    unfold tM
    rw [e4, e5, ← ha1, wrapU (a1 * b0), wrapU (a0 * b0), wrapU, ht]
    generalize a1 * b0 = x at *
    generalize a0 * b0 = y at *
    omega
  have ht0 : 0 ≤ t ∧ t < 18446744073709551616 := by
    generalize a1 * b0 = x at *
    generalize a0 * b0 = y at *
    omega
  have e7 : bits BinOp.and IntKind.u64 t 4294967295 = t % 4294967296 := mask t ht0.1 ht0.2
  unfold hM
  rw [e6, e7, e4, ← ha1, ← hb1, wrapU (a1 * b1), wrapU (a0 * b1), eP]
  rw [wrapU, wrapU, wrapU]
  generalize a1 * b0 = x at *
  generalize a0 * b0 = y at *
  generalize a0 * b1 = z at *
  generalize a1 * b1 = u at *
  omega

theorem mul_range {A B : Int} (hA : 0 ≤ A) (hA' : A ≤ 9223372036854775808) (hB : 0 ≤ B) (hB' : B ≤ 9223372036854775808) : 0 ≤ A * B ∧ A * B ≤ 85070591730234615865843651857942052864 := mul_bd hA hA' hB hB'

theorem words_pos (A B : Int) (hA : 0 ≤ A) (hA' : A ≤ 9223372036854775808) (hB : 0 ≤ B) (hB' : B ≤ 9223372036854775808) : hM A B = hiW (A * B) ∧ lM A B = loW (A * B) := by
  have h := mul_range hA hA' hB hB'
  rw [hM_is A B hA hA' hB hB']
  unfold hiW loW lM
  rw [wrapU]
  generalize A * B = p at *
  omega

theorem neg_lo (p : Int) : IntKind.u64.wrap (bits BinOp.xor IntKind.u64 IntKind.u64.max (loW p) + 1) = loW (-p) := by
  have h := loW_bd p
  rw [flip _ h.1 (by omega), wrapU]
  unfold loW at *
  omega
theorem neg_hi0 (p : Int) (h0 : loW p = 0) : IntKind.u64.wrap (bits BinOp.xor IntKind.u64 IntKind.u64.max (hiW p) + 1) = hiW (-p) := by
  have h := hiW_bd p
  rw [flip _ h.1 (by omega), wrapU]
  unfold hiW at *
  unfold loW at h0
  omega
theorem neg_hi1 (p : Int) (h0 : loW p ≠ 0) : bits BinOp.xor IntKind.u64 IntKind.u64.max (hiW p) = hiW (-p) := by
  have h := hiW_bd p
  rw [flip _ h.1 (by omega)]
  unfold hiW at *
  unfold loW at h0
  omega

theorem abs_neg (a : Int) (h : a < 0) (h' : -9223372036854775808 ≤ a) : IntKind.u64.wrap (-IntKind.u64.wrap a) = -a := by
  rw [wrapU, wrapU]; omega

/-- sum and difference of two words -/
theorem sub_lo (e p : Int) : IntKind.u64.wrap (loW e - loW p) = loW (e - p) := by
  rw [wrapU]; unfold loW; omega
theorem sub_hi1 (e p : Int) (h : loW e < loW p) : IntKind.u64.wrap (IntKind.u64.wrap (hiW e - hiW p) - 1) = hiW (e - p) := by
  rw [wrapU, wrapU]; unfold hiW; unfold loW at h; omega
theorem sub_hi0 (e p : Int) (h : ¬ loW e < loW p) : IntKind.u64.wrap (hiW e - hiW p) = hiW (e - p) := by
  rw [wrapU]; unfold hiW; unfold loW at h; omega
theorem add_lo (e p : Int) : IntKind.u64.wrap (loW e + loW p) = loW (e + p) := by
  rw [wrapU]; unfold loW; omega
theorem add_hi1 (e p : Int) (h : loW (e + p) < loW e) : IntKind.u64.wrap (IntKind.u64.wrap (hiW e + hiW p) + 1) = hiW (e + p) := by
  rw [wrapU, wrapU]; unfold hiW; unfold loW at h; omega
theorem add_hi0 (e p : Int) (h : ¬ loW (e + p) < loW e) : IntKind.u64.wrap (hiW e + hiW p) = hiW (e + p) := by
  rw [wrapU]; unfold hiW; unfold loW at h; omega

theorem small_hi (d : Int) (h : 0 ≤ d) (h' : d < 9223372036854775808) : hiW d = 0 := by unfold hiW; omega
theorem small_lo (d : Int) (h : 0 ≤ d) (h' : d < 9223372036854775808) : loW d = d := by unfold loW; omega

/-- floor division -/
theorem floor_bd {e l : Int} (h1 : -9223372036854775808 ≤ e) (h2 : e ≤ 9223372036854775807) (hl : 1 ≤ l) : -9223372036854775808 ≤ e / l ∧ e / l ≤ 9223372036854775807 := by
  have h3 := Int.emod_nonneg e (show l ≠ 0 by omega)
  have h4 := Int.emod_lt_of_pos e (show 0 < l by omega)
  have h5 := Int.mul_ediv_add_emod e l
  constructor
  · by_cases h : e / l < -9223372036854775808
    · exfalso
      have : l * (e / l) ≤ l * (-9223372036854775808 - 1) := Int.mul_le_mul_of_nonneg_left (by omega) (by omega)
      have h7 : l * (-9223372036854775808 - 1) = l * -9223372036854775808 - l := by rw [Int.mul_sub, Int.mul_one]
      have h8 : l * -9223372036854775808 ≤ -9223372036854775808 := by omega
      omega
    · omega
  · by_cases h : 9223372036854775807 < e / l
    · exfalso
      have : l * 9223372036854775808 ≤ l * (e / l) := Int.mul_le_mul_of_nonneg_left (by omega) (by omega)
      omega
    · omega

theorem rem_is (e l : Int) (hl : 1 ≤ l) : 0 ≤ e - e / l * l ∧ e - e / l * l < l := by
  have h3 := Int.emod_nonneg e (show l ≠ 0 by omega)
  have h4 := Int.emod_lt_of_pos e (show 0 < l by omega)
  have h5 := Int.mul_ediv_add_emod e l
  rw [Int.mul_comm] at h5
  omega

end Go.Proofs.Qxb6631316a.M
