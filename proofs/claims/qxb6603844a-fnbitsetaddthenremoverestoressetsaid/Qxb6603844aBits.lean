/-
  Seat b6603844a: plain laws on words and their bits.
-/
import Derived.Test.Qxb6603844aBase
namespace Go.Proofs.Qxb6603844a
open Go.RowKit

theorem two_pow_le {s : Nat} (hs : s < 64) : 2 ^ s < 18446744073709551616 := by
  have : 2 ^ s < 2 ^ 64 := Nat.pow_lt_pow_right (by decide) hs
  simpa using this

theorem ofInt_toNat (a : Nat) (ha : a < 18446744073709551616) : (BitVec.ofInt 64 (a : Int)).toNat = a := by
  rw [BitVec.ofInt_natCast, BitVec.toNat_ofNat]; exact Nat.mod_eq_of_lt (by simpa using ha)

theorem bits_and_nat (a b : Nat) (ha : a < 18446744073709551616) (hb : b < 18446744073709551616) : bits .and .u64 (a : Int) (b : Int) = ((a &&& b : Nat) : Int) := by
  show IntKind.u64.wrap ((BitVec.ofInt 64 (a : Int) &&& BitVec.ofInt 64 (b : Int)).toNat : Int) = _
  have hl : a &&& b ≤ a := Nat.and_le_left
  rw [BitVec.toNat_and, ofInt_toNat a ha, ofInt_toNat b hb, IntKind.wrap_u64]
  omega

theorem bits_or_nat (a b : Nat) (ha : a < 18446744073709551616) (hb : b < 18446744073709551616) : bits .or .u64 (a : Int) (b : Int) = ((a ||| b : Nat) : Int) ∧ a ||| b < 18446744073709551616 := by
  have hl : a ||| b < 2 ^ 64 := Nat.or_lt_two_pow (by simpa using ha) (by simpa using hb)
  have hl' : a ||| b < 18446744073709551616 := by simpa using hl
  refine ⟨?_, hl'⟩
  show IntKind.u64.wrap ((BitVec.ofInt 64 (a : Int) ||| BitVec.ofInt 64 (b : Int)).toNat : Int) = _
  rw [BitVec.toNat_or, ofInt_toNat a ha, ofInt_toNat b hb, IntKind.wrap_u64]
  omega

theorem wrap_pow (s : Nat) (hs : s < 64) : IntKind.u64.wrap ((2 : Int) ^ s) = ((2 ^ s : Nat) : Int) := by
  have h := two_pow_le hs
  have e : ((2 : Int) ^ s) = ((2 ^ s : Nat) : Int) := by simp
  rw [e, IntKind.wrap_u64]
  generalize 2 ^ s = p at h ⊢
  omega

theorem or_pow (x s : Nat) (hx : x < 18446744073709551616) (hs : s < 64) : bits .or .u64 (x : Int) (IntKind.u64.wrap ((2 : Int) ^ s)) = ((x ||| 2 ^ s : Nat) : Int) := by
  rw [wrap_pow s hs]
  exact (bits_or_nat x (2 ^ s) hx (two_pow_le hs)).1

/-- 'x &^ 1<<s'. -/
def andn (x s : Nat) : Nat := (BitVec.ofNat 64 x &&& ~~~ BitVec.ofNat 64 (2 ^ s)).toNat

theorem andn_lt (x s : Nat) : andn x s < 18446744073709551616 := by
  have := (BitVec.ofNat 64 x &&& ~~~ BitVec.ofNat 64 (2 ^ s)).isLt
  simpa [andn] using this

theorem bits_andn (a s : Nat) : bits .andNot .u64 (a : Int) ((2 ^ s : Nat) : Int) = ((andn a s : Nat) : Int) := by
  show IntKind.u64.wrap ((BitVec.ofInt 64 (a : Int) &&& ~~~ BitVec.ofInt 64 ((2 ^ s : Nat) : Int)).toNat : Int) = _
  rw [BitVec.ofInt_natCast, BitVec.ofInt_natCast, IntKind.wrap_u64]
  have := andn_lt a s
  show ((andn a s : Nat) : Int) % _ = _
  omega

theorem andn_pow (x s : Nat) (hs : s < 64) : bits .andNot .u64 (x : Int) (IntKind.u64.wrap ((2 : Int) ^ s)) = ((andn x s : Nat) : Int) := by
  rw [wrap_pow s hs]
  exact bits_andn x s

theorem testBit_andn (x s t : Nat) (ht : t < 64) : (andn x s).testBit t = (x.testBit t && !decide (t = s)) := by
  unfold andn
  rw [← BitVec.getLsbD]
  simp only [BitVec.getLsbD_and, BitVec.getLsbD_not, BitVec.getLsbD_ofNat, ht, decide_true, Bool.true_and, Nat.testBit_two_pow]
  congr 2
  simp [eq_comm]

theorem testBit_or_pow (x s t : Nat) : (x ||| 2 ^ s).testBit t = (x.testBit t || decide (t = s)) := by
  rw [Nat.testBit_or, Nat.testBit_two_pow]
  simp [eq_comm]

theorem bit_test (x s : Nat) (hx : x < 18446744073709551616) : (bits .and .u64 ((x : Int) / 2 ^ s) 1 == 1) = x.testBit s := by
  have e : ((x : Int) / 2 ^ s) = ((x / 2 ^ s : Nat) : Int) := by
    rw [Int.natCast_ediv]
    simp
  have hd : x / 2 ^ s ≤ x := Nat.div_le_self _ _
  have h1 := bits_and_nat (x / 2 ^ s) 1 (by omega) (by omega)
  rw [e]
  rw [show (1 : Int) = ((1 : Nat) : Int) from rfl, h1, Nat.and_one_is_mod, Nat.testBit_eq_decide_div_mod_eq]
  rw [Bool.eq_iff_iff]
  simp
  omega

/-- A word without bits is nought. -/
theorem zero_of_bits (x : Nat) (hx : x < 18446744073709551616) (h : ∀ t, t < 64 → x.testBit t = false) : x = 0 := by
  apply Nat.eq_of_testBit_eq
  intro i
  rw [Nat.zero_testBit]
  by_cases hi : i < 64
  · exact h i hi
  · exact Nat.testBit_lt_two_pow (Nat.lt_of_lt_of_le hx (by
      have : 2 ^ 64 ≤ 2 ^ i := Nat.pow_le_pow_right (by decide) (by omega)
      simpa using this))

theorem eq_of_bits (x y : Nat) (hx : x < 18446744073709551616) (hy : y < 18446744073709551616) (h : ∀ t, t < 64 → x.testBit t = y.testBit t) : x = y := by
  have big : ∀ z i, z < 18446744073709551616 → ¬ i < 64 → z.testBit i = false := fun z i hz hi => Nat.testBit_lt_two_pow (Nat.lt_of_lt_of_le hz (by
    have : 2 ^ 64 ≤ 2 ^ i := Nat.pow_le_pow_right (by decide) (by omega)
    simpa using this))
  apply Nat.eq_of_testBit_eq
  intro i
  by_cases hi : i < 64
  · exact h i hi
  · rw [big x i hx hi, big y i hy hi]

end Go.Proofs.Qxb6603844a
