import Derived.Test.YbulkqfoRows
import Derived.Test.YbulkqfoVelt
import Derived.Test.YbulkqfoBits
import Derived.WalkKit
import Derived.WalkSpells
import Derived.WalkLawsBesides
namespace Go.Proofs.Ybulkqfo
open Go.RowKit Fl

theorem hide {p : Prop} (h : p) : Hid p := h
theorem unhide {p : Prop} (h : Hid p) : p := h

set_option maxHeartbeats 400000 in
theorem halves_walk (a c t hi lo : Nat) (w : World) (h1 : Ieee.double.mul a konst = some c) (h2 : Ieee.double.sub c a = some t) (h3 : Ieee.double.sub c t = some hi) (h4 : Ieee.double.sub a hi = some lo) :
    Calls Yba.prog 6 #[.float .f64 a] w fun e w' => e = .returned (.tuple #[.float .f64 hi, .float .f64 lo]) ∧ w' = w := by
  have o1 := fun t w => run_float_arith (P := Yba.prog) w .mul t .f64 a 4728779608772575232 c h1
  have o2 := fun t w => run_float_arith (P := Yba.prog) w .sub t .f64 c a _ h2
  have o3 := fun u w => run_float_arith (P := Yba.prog) w .sub u .f64 c t _ h3
  have o4 := fun u w => run_float_arith (P := Yba.prog) w .sub u .f64 a hi _ h4
  clear h1 h2 h3 h4
  go_enter Yba.func6, Yba.ntmps6
  go_wp2
  go_ret2
  exact ⟨rfl, rfl⟩

theorem bits_call (a : Nat) (w : World) : (callFunc 10 #[.float .f64 a]).run Yba.prog w = .ok (.value (.int .u64 a)) w := by
  rw [run_callFunc_extern Yba.func10 (by kernel_rfl) (by kernel_rfl) (by kernel_rfl) (e := Extern.MathFloatBits.float64bits) (by kernel_rfl)]; rfl
theorem frombits_call (n : Int) (w : World) : (callFunc 9 #[.int .u64 n]).run Yba.prog w = .ok (.value (.float .f64 n.toNat)) w := by
  rw [run_callFunc_extern Yba.func9 (by kernel_rfl) (by kernel_rfl) (by kernel_rfl) (e := Extern.MathFloatBits.float64frombits) (by kernel_rfl)]; rfl

set_option maxHeartbeats 400000 in
theorem abs_walk (a : Nat) (w : World) (ha : a < 2^64) :
    Calls Yba.prog 5 #[.float .f64 a] w fun e w' => e = .returned (.float .f64 (rg a)) ∧ w' = w := by
  go_enter Yba.func5, Yba.ntmps5
  go_wp2_with (first | simp only [bits_call] | simp only [frombits_call])
  go_ret
  refine ⟨?_, rfl⟩
  show Ending.returned (Value.float .f64 (bits .andNot .u64 (a : Int) 9223372036854775808).toNat) = _
  rw [abs_bits a ha]

set_option maxHeartbeats 400000 in
theorem few_zero (a : Nat) (w : World) (h : (FloatKind.f64.format.order a 0 == some .eq) = true) :
    Calls Yba.prog 7 #[.float .f64 a] w fun e w' => e = .returned (.bool true) ∧ w' = w := by
  go_enter Yba.func7, Yba.ntmps7
  go_wp2
  go_ret
  exact ⟨rfl, rfl⟩

set_option maxHeartbeats 400000 in
theorem few_pos (a : Nat) (w : World) (ha : a < 2^64) (h : (FloatKind.f64.format.order a 0 == some .eq) = false) (h1 : 2^52 ≤ rg a) (h2 : rg a % 2^27 = 0) :
    Calls Yba.prog 7 #[.float .f64 a] w fun e w' => e = .returned (.bool true) ∧ w' = w := by
  have t1 := exp_test a ha h1
  have t2 := hide (few_bits a ha h2)
  clear ha h1 h2
  go_enter Yba.func7, Yba.ntmps7
  go_wp2_with (first | simp only [bits_call] | simp only [frombits_call])
  go_ret
  refine ⟨?_, rfl⟩
  show Ending.returned (Value.bool (bits .and .u64 (bits .or .u64 (bits .and .u64 (a : Int) 4503599627370495) 4503599627370496) 134217727 == 0)) = _
  rw [unhide t2]

set_option maxHeartbeats 400000 in
theorem split_great (a : Nat) (w : World) (ha : a < 2^64)
    (h : (FloatKind.f64.format.order (rg a) 9065746049896808448 == some .lt || FloatKind.f64.format.order (rg a) 9065746049896808448 == some .eq) = false) :
    Calls Yba.prog 3 #[.float .f64 a] w fun e w' => e = .returned (.bool true) ∧ w' = w := by
  go_enter Yba.func3, Yba.ntmps3
  go_wp2_with fail
  refine (abs_walk a _ ha).mono ?_
  rintro e w' ⟨rfl, rfl⟩
  go_wp2_with fail
  go_ret
  exact ⟨rfl, rfl⟩

set_option maxHeartbeats 400000 in
theorem split_small (a : Nat) (w : World) (ha : a < 2^64)
    (h : (FloatKind.f64.format.order (rg a) 9065746049896808448 == some .lt || FloatKind.f64.format.order (rg a) 9065746049896808448 == some .eq) = true)
    (h2 : (FloatKind.f64.format.order (rg a) 0 != some .eq) = true) (h3 : (FloatKind.f64.format.order (rg a) 553942754166571008 == some .lt) = true) :
    Calls Yba.prog 3 #[.float .f64 a] w fun e w' => e = .returned (.bool true) ∧ w' = w := by
  go_enter Yba.func3, Yba.ntmps3
  go_wp2_with fail
  refine (abs_walk a _ ha).mono ?_
  rintro e w' ⟨rfl, rfl⟩
  go_wp2_with fail
  go_ret
  exact ⟨rfl, rfl⟩

def few7 (x : Nat) : Prop := ∀ w, Calls Yba.prog 7 #[.float .f64 x] w fun e w' => e = .returned (.bool true) ∧ w' = w

set_option maxHeartbeats 400000 in
theorem split_mid (a c t hi lo s : Nat) (w : World) (ha : a < 2^64)
    (h : (FloatKind.f64.format.order (rg a) 9065746049896808448 == some .lt || FloatKind.f64.format.order (rg a) 9065746049896808448 == some .eq) = true)
    (h2 : (FloatKind.f64.format.order (rg a) 0 != some .eq) = false ∨ (FloatKind.f64.format.order (rg a) 553942754166571008 == some .lt) = false)
    (m1 : Ieee.double.mul a konst = some c) (m2 : Ieee.double.sub c a = some t) (m3 : Ieee.double.sub c t = some hi) (m4 : Ieee.double.sub a hi = some lo)
    (m5 : Ieee.double.add hi lo = some s) (m6 : (FloatKind.f64.format.order s a != some .eq) = false) (f1 : few7 hi) (f2 : few7 lo) :
    Calls Yba.prog 3 #[.float .f64 a] w fun e w' => e = .returned (.bool true) ∧ w' = w := by
  have o1 := fun u w => run_float_arith (P := Yba.prog) w .add u .f64 hi lo s m5
  have M1 := hide m1; have M2 := hide m2; have M3 := hide m3; have M4 := hide m4
  clear m1 m2 m3 m4 m5
  cases hz : (FloatKind.f64.format.order (rg a) 0 != some .eq)
  · clear h2
    go_enter Yba.func3, Yba.ntmps3
    go_wp2_with fail
    refine (abs_walk a _ ha).mono ?_
    rintro e w' ⟨rfl, rfl⟩
    go_wp2_with fail
    refine (halves_walk a c t hi lo _ (unhide M1) (unhide M2) (unhide M3) (unhide M4)).mono ?_
    rintro e w' ⟨rfl, rfl⟩
    go_wp2_with fail
    refine (f1 _).mono ?_
    rintro e w' ⟨rfl, rfl⟩
    go_wp2_with fail
    refine (f2 _).mono ?_
    rintro e w' ⟨rfl, rfl⟩
    go_wp2_with fail
    go_ret
    exact ⟨rfl, rfl⟩
  · have h3 : (FloatKind.f64.format.order (rg a) 553942754166571008 == some .lt) = false := by
      rcases h2 with h2 | h2
      · rw [hz] at h2; cases h2
      · exact h2
    clear h2
    go_enter Yba.func3, Yba.ntmps3
    go_wp2_with fail
    refine (abs_walk a _ ha).mono ?_
    rintro e w' ⟨rfl, rfl⟩
    go_wp2_with fail
    refine (halves_walk a c t hi lo _ (unhide M1) (unhide M2) (unhide M3) (unhide M4)).mono ?_
    rintro e w' ⟨rfl, rfl⟩
    go_wp2_with fail
    refine (f1 _).mono ?_
    rintro e w' ⟨rfl, rfl⟩
    go_wp2_with fail
    refine (f2 _).mono ?_
    rintro e w' ⟨rfl, rfl⟩
    go_wp2_with fail
    go_ret
    exact ⟨rfl, rfl⟩

end Go.Proofs.Ybulkqfo
