import Derived.Test.YbulkqfoBits
namespace Go.Proofs.Ybulkqfo.Fl

theorem i64_and_small (a b : Nat) (ha : a < 2^62) (hb : b < 2^62) : bits .and .i64 (a : Int) (b : Int) = ((a &&& b : Nat) : Int) := by
  have hx : a &&& b < 2^62 := Nat.and_lt_two_pow _ hb
  show IntKind.i64.wrap ((BitVec.ofInt 64 (a : Int) &&& BitVec.ofInt 64 (b : Int)).toNat : Int) = _
  have e1 : (BitVec.ofInt 64 (a : Int)).toNat = a := by simp; omega
  have e2 : (BitVec.ofInt 64 (b : Int)).toNat = b := by simp; omega
  rw [BitVec.toNat_and, e1, e2]
  unfold IntKind.wrap
  generalize a &&& b = c at *
  simp [IntKind.bits, IntKind.signed]
  omega

theorem exp_i64 (f : Nat) (hf : f < 2^64) : bits .and .i64 ((f : Int) / 4503599627370496) 2047 = ((rg f / 2^52 : Nat) : Int) := by
  have := i64_and_small (f / 4503599627370496) 2047 (by omega) (by omega)
  rw [show ((2047 : Nat) : Int) = 2047 from rfl, Int.natCast_ediv, show ((4503599627370496 : Nat) : Int) = 4503599627370496 from rfl] at this
  rw [this, show 2047 = 2^11 - 1 from rfl, Nat.and_two_pow_sub_one_eq_mod]
  unfold rg
  congr 1
  omega

theorem or_add (a b i : Nat) (h : b < 2^i) : a * 2^i ||| b = a * 2^i + b := by
  have := Nat.shiftLeft_add_eq_or_of_lt h a
  rw [Nat.shiftLeft_eq] at this
  exact this.symm

theorem set_exp (f E : Nat) (hf : f < 2^64) (hE : E < 2047) :
    bits .or .u64 (bits .andNot .u64 (f : Int) 9218868437227405312) (((E * 2^52 : Nat)) : Int) = ((f / 2^63 % 2 * 2^63 + (E * 2^52 + f % 2^52) : Nat) : Int) := by
  have h1 := u64_andNot_nat f 9218868437227405312 (by omega) (by omega)
  rw [show ((9218868437227405312 : Nat) : Int) = 9218868437227405312 from rfl] at h1
  have h2 : f &&& (18446744073709551615 - 9218868437227405312) = f / 2^63 % 2 * 2^63 + f % 2^52 := by
    rw [show 18446744073709551615 - 9218868437227405312 = 1 * 2^63 + (2^52 - 1) from rfl, ← or_add 1 (2^52-1) 63 (by omega), Nat.and_or_distrib_left, Nat.and_two_pow_sub_one_eq_mod, Nat.one_mul, nat_bit, or_add _ _ 63 (by omega)]
  rw [h1, h2]
  rw [u64_or_nat _ _ (by omega) (by omega)]
  congr 1
  rw [← or_add _ (f % 2^52) 63 (by omega), Nat.or_assoc, Nat.or_comm (f % 2^52), or_add E _ 52 (by omega), or_add _ _ 63 (by omega)]

end Go.Proofs.Ybulkqfo.Fl
