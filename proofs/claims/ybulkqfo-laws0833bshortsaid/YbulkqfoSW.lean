import Derived.Test.YbulkqfoFW
import Derived.Test.YbulkqfoBits2
namespace Go.Proofs.Ybulkqfo
open Go.RowKit Fl

set_option maxHeartbeats 400000 in
theorem isInf_walk (f : Nat) (w : World) (hf : f < 2^64) (h : (FloatKind.f64.format.order (rg f) 9218868437227405311 == some .gt) = false) :
    Calls Yba.prog 13 #[.float .f64 f, .int .i64 0] w fun e w' => e = .returned (.bool false) ∧ w' = w := by
  go_enter Yba.func13, Yba.ntmps13
  go_wp2_with fail
  refine (abs_walk f _ hf).mono ?_
  rintro e w' ⟨rfl, rfl⟩
  go_wp2_with fail
  go_ret
  exact ⟨rfl, rfl⟩

set_option maxHeartbeats 400000 in
theorem isNaN_walk (f : Nat) (w : World) (h : (FloatKind.f64.format.order f f != some .eq) = false) :
    Calls Yba.prog 14 #[.float .f64 f] w fun e w' => e = .returned (.bool false) ∧ w' = w := by
  go_enter Yba.func14, Yba.ntmps14
  go_wp2
  go_ret
  exact ⟨rfl, rfl⟩

set_option maxHeartbeats 400000 in
theorem norm_walk (f : Nat) (w : World) (hf : f < 2^64) (h : (FloatKind.f64.format.order (rg f) 4503599627370496 == some .lt) = false) :
    Calls Yba.prog 15 #[.float .f64 f] w fun e w' => e = .returned (.tuple #[.float .f64 f, .int .i64 0]) ∧ w' = w := by
  go_enter Yba.func15, Yba.ntmps15
  go_wp2_with fail
  refine (abs_walk f _ hf).mono ?_
  rintro e w' ⟨rfl, rfl⟩
  go_wp2_with fail
  go_ret2
  exact ⟨rfl, rfl⟩

set_option maxHeartbeats 400000 in
theorem ldexp_zero (f : Nat) (e : Int) (w : World) (h : (FloatKind.f64.format.order f 0 == some .eq) = true) :
    Calls Yba.prog 12 #[.float .f64 f, .int .i64 e] w fun e w' => e = .returned (.float .f64 f) ∧ w' = w := by
  go_enter Yba.func12, Yba.ntmps12
  go_wp2_with fail
  go_ret
  exact ⟨rfl, rfl⟩

set_option maxHeartbeats 400000 in
theorem ldexp_mid (f r : Nat) (e : Int) (w : World) (hf : f < 2^64) (he1 : -100 ≤ e) (he2 : e ≤ 99)
    (h0 : (FloatKind.f64.format.order f 0 == some .eq) = false)
    (h1 : (FloatKind.f64.format.order (rg f) 9218868437227405311 == some .gt) = false)
    (h2 : (FloatKind.f64.format.order f f != some .eq) = false)
    (h3 : (FloatKind.f64.format.order (rg f) 4503599627370496 == some .lt) = false)
    (E : Int) (hE : bits .and .i64 ((f : Int) / 4503599627370496) 2047 = E) (E1 : 1023 ≤ E) (E2 : E ≤ 1048)
    (x : Nat) (hx : bits .or .u64 (bits .andNot .u64 (f : Int) 9218868437227405312) ((e + (E - 1023) + 1023) * 4503599627370496) = (x : Int))
    (hm : Ieee.double.mul 4607182418800017408 x = some r) :
    Calls Yba.prog 12 #[.float .f64 f, .int .i64 e] w fun e w' => e = .returned (.float .f64 r) ∧ w' = w := by
  have o1 := fun u w => run_float_arith (P := Yba.prog) w .mul u .f64 4607182418800017408 x r hm
  clear hm
  go_enter Yba.func12, Yba.ntmps12
  go_wp2_with fail
  refine (isInf_walk f _ hf h1).mono ?_
  rintro e w' ⟨rfl, rfl⟩
  go_wp2_with fail
  refine (isNaN_walk f _ h2).mono ?_
  rintro e w' ⟨rfl, rfl⟩
  go_wp2_with fail
  refine (norm_walk f _ hf h3).mono ?_
  rintro e w' ⟨rfl, rfl⟩
  go_wp2_with (first | simp only [bits_call] | simp only [frombits_call])
  go_ret
  exact ⟨rfl, rfl⟩

set_option maxHeartbeats 400000 in
theorem Ldexp_walk (f r : Nat) (e : Int) (w : World) (h : ∀ w, Calls Yba.prog 12 #[.float .f64 f, .int .i64 e] w fun e w' => e = .returned (.float .f64 r) ∧ w' = w) :
    Calls Yba.prog 8 #[.float .f64 f, .int .i64 e] w fun e w' => e = .returned (.float .f64 r) ∧ w' = w := by
  have H := hide h
  clear h
  go_enter Yba.func8, Yba.ntmps8
  go_wp2_with fail
  refine (unhide H _).mono ?_
  rintro e w' ⟨rfl, rfl⟩
  go_wp2_with fail
  go_ret
  exact ⟨rfl, rfl⟩

set_option maxHeartbeats 400000 in
theorem short_walk (n e : Int) (a c t hi lo : Nat) (w : World) (e0 : 0 ≤ e) (e1 : e ≤ 255) (n0 : -2147483648 ≤ n) (n1 : n ≤ 2147483647)
    (hl : ∀ w, Calls Yba.prog 12 #[.float .f64 (floatOfInt .f64 (n.tmod 33554432)), .int .i64 (e % 200 - 100)] w fun e w' => e = .returned (.float .f64 a) ∧ w' = w)
    (m1 : Ieee.double.mul a konst = some c) (m2 : Ieee.double.sub c a = some t) (m3 : Ieee.double.sub c t = some hi) (m4 : Ieee.double.sub a hi = some lo)
    (m6 : (FloatKind.f64.format.order hi a == some .eq) = true) (m7 : (FloatKind.f64.format.order lo 0 == some .eq) = true) :
    Calls Yba.prog 4 #[.int .i32 n, .int .u8 e] w fun e w' => e = .returned (.bool true) ∧ w' = w := by
  have M1 := hide m1; have M2 := hide m2; have M3 := hide m3; have M4 := hide m4; have H := hide hl
  clear m1 m2 m3 m4 hl
  go_enter Yba.func4, Yba.ntmps4
  go_wp2_with fail
  refine (Ldexp_walk _ a _ _ (unhide H)).mono ?_
  rintro e w' ⟨rfl, rfl⟩
  go_wp2_with fail
  refine (halves_walk a c t hi lo _ (unhide M1) (unhide M2) (unhide M3) (unhide M4)).mono ?_
  rintro e w' ⟨rfl, rfl⟩
  go_wp2_with fail
  go_ret
  exact ⟨rfl, rfl⟩
end Go.Proofs.Ybulkqfo
