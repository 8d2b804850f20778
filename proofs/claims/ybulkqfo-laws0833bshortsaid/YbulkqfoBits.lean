import Derived.Test.YbulkqfoFl
import Derived.Laws.BitsAllLaws
namespace Go.Proofs.Ybulkqfo.Fl

theorem abs_bits (a : Nat) (ha : a < 2^64) : (bits .andNot .u64 (a : Int) 9223372036854775808).toNat = rg a := by
  have := u64_andNot_nat a 9223372036854775808 (by omega) (by omega)
  rw [show ((9223372036854775808 : Nat) : Int) = 9223372036854775808 from rfl] at this
  rw [this, Int.toNat_natCast, show 18446744073709551615 - 9223372036854775808 = 2^63 - 1 from rfl, Nat.and_two_pow_sub_one_eq_mod]
  rfl

theorem exp_bits (a : Nat) (ha : a < 2^64) : bits .and .u64 ((a : Int) / 4503599627370496) 2047 = ((rg a / 2^52 : Nat) : Int) := by
  have := u64_and_nat (a / 4503599627370496) 2047 (by omega) (by omega)
  rw [show ((2047 : Nat) : Int) = 2047 from rfl, Int.natCast_ediv, show ((4503599627370496 : Nat) : Int) = 4503599627370496 from rfl] at this
  rw [this, show 2047 = 2^11 - 1 from rfl, Nat.and_two_pow_sub_one_eq_mod]
  unfold rg
  congr 1
  omega

theorem exp_test (a : Nat) (ha : a < 2^64) (h : 2^52 ≤ rg a) : (bits .and .u64 ((a : Int) / 4503599627370496) 2047 == 0) = false := by
  rw [exp_bits a ha, beq_eq_false_iff_ne]
  omega

theorem few_bits (a : Nat) (ha : a < 2^64) (h : rg a % 2^27 = 0) :
    (bits .and .u64 (bits .or .u64 (bits .and .u64 (a : Int) 4503599627370495) 4503599627370496) 134217727 == 0) = true := by
  have h1 := u64_and_nat a 4503599627370495 (by omega) (by omega)
  rw [show ((4503599627370495 : Nat) : Int) = 4503599627370495 from rfl, show 4503599627370495 = 2^52 - 1 from rfl, Nat.and_two_pow_sub_one_eq_mod] at h1
  have h1' : bits .and .u64 (a : Int) 4503599627370495 = ((a % 2^52 : Nat) : Int) := h1
  rw [h1']
  have h2 := u64_or_nat (a % 2^52) 4503599627370496 (by omega) (by omega)
  rw [show ((4503599627370496 : Nat) : Int) = 4503599627370496 from rfl] at h2
  rw [h2]
  have hb : a % 2^52 ||| 4503599627370496 < 18446744073709551616 := Nat.or_lt_two_pow (n := 64) (by omega) (by omega)
  have h3 := u64_and_nat (a % 2^52 ||| 4503599627370496) 134217727 hb (by omega)
  rw [show ((134217727 : Nat) : Int) = 134217727 from rfl] at h3
  rw [h3, show 134217727 = 2^27 - 1 from rfl, Nat.and_two_pow_sub_one_eq_mod, Nat.or_mod_two_pow, show 4503599627370496 % 2^27 = 0 from rfl, Nat.or_zero, beq_iff_eq]
  unfold rg at h
  omega

end Go.Proofs.Ybulkqfo.Fl
