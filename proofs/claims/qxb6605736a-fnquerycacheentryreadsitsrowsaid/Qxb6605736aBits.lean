import Derived.Laws.BitsLemmas
namespace Go.Proofs.Qxb6605736a

theorem wr32 (n : Int) (h0 : 0 ≤ n) (h1 : n < 2 ^ 32) : IntKind.u32.wrap n = n := by rw [IntKind.wrap_u32]; omega
theorem andNot_nat (a b : Nat) (ha : a < 4294967296) (hb : b < 4294967296) : bits .andNot .u32 (a : Int) (b : Int) = ((a &&& (4294967295 - b) : Nat) : Int) := by
  have h : (a &&& (4294967295 - b) : Nat) ≤ a := Nat.and_le_left
  show IntKind.u32.wrap ((BitVec.ofInt 32 (a : Int) &&& ~~~BitVec.ofInt 32 (b : Int)).toNat : Int) = _
  have ha' : (BitVec.ofInt 32 (a : Int)).toNat = a := by rw [BitVec.ofInt_natCast, BitVec.toNat_ofNat]; exact Nat.mod_eq_of_lt (by omega)
  have hb' : (BitVec.ofInt 32 (b : Int)).toNat = b := by rw [BitVec.ofInt_natCast, BitVec.toNat_ofNat]; exact Nat.mod_eq_of_lt (by omega)
  have e : 2 ^ 32 - 1 - b = 4294967295 - b := by omega
  rw [BitVec.toNat_and, BitVec.toNat_not, ha', hb', e]
  exact wr32 _ (by omega) (by omega)

theorem and_high (k a : Nat) (hk : k ≤ 32) (ha : a < 2 ^ 32) : a &&& (4294967295 - (2 ^ k - 1)) = a / 2 ^ k * 2 ^ k := by
  have e : 4294967295 - (2 ^ k - 1) = 2 ^ 32 - ((2 ^ k - 1) + 1) := by
    have := Nat.one_le_two_pow (n := k)
    have h2 := Nat.pow_le_pow_right (n := 2) (by omega) hk
    omega
  have hlt : 2 ^ k - 1 < 2 ^ 32 := by
    have h2 := Nat.pow_le_pow_right (n := 2) (by omega) hk
    omega
  rw [e]
  apply Nat.eq_of_testBit_eq
  intro i
  rw [Nat.testBit_and, Nat.testBit_two_pow_sub_succ hlt, Nat.testBit_two_pow_sub_one, Nat.testBit_mul_two_pow, Nat.testBit_div_two_pow]
  by_cases h1 : k ≤ i
  · have e2 : i - k + k = i := by omega
    by_cases h3 : i < 32
    · simp [h1, h3, e2]
    · have : a.testBit i = false := Nat.testBit_lt_two_pow (Nat.lt_of_lt_of_le ha (Nat.pow_le_pow_right (by omega) (by omega)))
      simp [this, h1, e2]
  · simp [h1]; omega

theorem andNot_mask (k a : Nat) (hk : k ≤ 32) (ha : a < 4294967296) : bits .andNot .u32 (a : Int) ((2 ^ k - 1 : Nat) : Int) = ((a / 2 ^ k * 2 ^ k : Nat) : Int) := by
  have h2 := Nat.pow_le_pow_right (n := 2) (by omega) hk
  have := Nat.one_le_two_pow (n := k)
  rw [andNot_nat a (2 ^ k - 1) ha (by omega), and_high k a hk ha]

theorem and_mask (k a : Nat) (hk : k ≤ 32) (ha : a < 4294967296) : bits .and .u32 (a : Int) ((2 ^ k - 1 : Nat) : Int) = ((a % 2 ^ k : Nat) : Int) := by
  have h2 := Nat.pow_le_pow_right (n := 2) (by omega) hk
  have := Nat.one_le_two_pow (n := k)
  rw [(bits_nat .u32 32 (by decide) wr32 a (2 ^ k - 1) ha (by omega)).1, Nat.and_two_pow_sub_one_eq_mod]

theorem set_val (k a p : Nat) (hk : k ≤ 32) (ha : a < 4294967296) (hp : p < 2 ^ k) : bits .or .u32 (bits .andNot .u32 (a : Int) ((2 ^ k - 1 : Nat) : Int)) (p : Int) = ((a / 2 ^ k * 2 ^ k + p : Nat) : Int) := by
  rw [andNot_mask k a hk ha]
  have h2 := Nat.pow_le_pow_right (n := 2) (by omega) hk
  have h3 : a / 2 ^ k * 2 ^ k ≤ a := Nat.div_mul_le_self a (2 ^ k)
  rw [(bits_nat .u32 32 (by decide) wr32 _ p (by omega) (by omega)).2, Nat.mul_comm, ← Nat.two_pow_add_eq_or_of_lt hp]
end Go.Proofs.Qxb6605736a
