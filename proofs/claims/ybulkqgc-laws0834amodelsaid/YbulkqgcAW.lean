import Derived.Test.YbulkqgcRows
import Derived.WalkKit
import Derived.WalkSpells
import Derived.WalkLawsBesides
namespace Go.Proofs.Ybulkqgc
open Go.RowKit
set_option linter.unusedVariables false

theorem hide {p : Prop} (h : p) : Hid p := h
theorem unhide {p : Prop} (h : Hid p) : p := h

def modelB (H R h r : Int) : Bool :=
  decide ((h = H ∧ -8 ≤ r - R ∧ r - R ≤ 8) ∨ (h ≠ H ∧ H < h ∧ H ≤ 18446744073709551611 ∧ h - H ≤ 4 ∧ r ≤ 8))

theorem u64_wrap (x : Int) : IntKind.u64.wrap x = x % 18446744073709551616 := by
  simp [IntKind.wrap, IntKind.bits, IntKind.signed]
theorem u64_bd (x : Int) : 0 ≤ IntKind.u64.wrap x ∧ IntKind.u64.wrap x < 18446744073709551616 := by
  rw [u64_wrap]; omega

theorem ret_bool {a b : Bool} (h : a = b) : Ending.returned (.bool a) = .returned (.bool b) := by rw [h]

set_option maxHeartbeats 1000000 in
theorem pick_any (H R m dh dr h r : Int) (w : World) (a0 : 0 ≤ H) (a1 : H < 18446744073709551616) (b0 : 0 ≤ R) (b1 : R < 4294967296) (m0 : 0 ≤ m) (m1 : m < 256)
    (c0 : 0 ≤ dh) (c1 : dh < 18446744073709551616) (d0 : 0 ≤ dr) (d1 : dr < 4294967296) (e0 : 0 ≤ h) (e1 : h < 18446744073709551616) (f0 : 0 ≤ r) (f1 : r < 4294967296) :
    Calls Yba.prog 9 #[.int .u64 H, .int .u32 R, .int .u8 m, .int .u64 dh, .int .u32 dr, .int .u64 h, .int .u32 r] w fun e w' =>
      ∃ h' r' : Int, e = .returned (.tuple #[.int .u64 h', .int .u32 r']) ∧ 0 ≤ h' ∧ h' < 18446744073709551616 ∧ 0 ≤ r' ∧ r' < 4294967296 ∧ w' = w := by
  go_enter Yba.func9, Yba.ntmps9
  go_wp2
  all_goals
    go_ret2
    refine ⟨_, _, rfl, ?_, ?_, ?_, ?_, rfl⟩
  all_goals first | omega | exact (u64_bd _).1 | exact (u64_bd _).2

set_option maxHeartbeats 400000 in
theorem model_any (H R h r : Int) (w : World) (a0 : 0 ≤ H) (a1 : H < 18446744073709551616) (b0 : 0 ≤ R) (b1 : R < 4294967296) 
     (e0 : 0 ≤ h) (e1 : h < 18446744073709551616) (f0 : 0 ≤ r) (f1 : r < 4294967296) :
    Calls Yba.prog 11 #[.int .u64 H, .int .u32 R, .int .u64 h, .int .u32 r] w fun e w' =>
      e = .returned (.bool (modelB H R h r)) ∧ w' = w := by
  go_enter Yba.func11, Yba.ntmps11
  go_wp2
  all_goals
    simp only [beq_iff_eq, beq_eq_false_iff_ne] at *
    go_ret
    refine ⟨ret_bool ?_, rfl⟩
    unfold modelB
    first | (refine (decide_eq_decide.2 ?_); omega) | (symm; refine decide_eq_false ?_; omega)

set_option maxHeartbeats 400000 in
theorem keeps_any (H R h r : Int) (b : Nat) (w : World) (a0 : 0 ≤ H) (a1 : H < 18446744073709551616) (b0 : 0 ≤ R) (b1 : R < 4294967296) 
     (e0 : 0 ≤ h) (e1 : h < 18446744073709551616) (f0 : 0 ≤ r) (f1 : r < 4294967296)
     (h3 : w.cell? ⟨b, 7, Option.none⟩ = some (.int .u64 H)) (h4 : w.cell? ⟨b, 8, Option.none⟩ = some (.int .u32 R)) :
    Calls Yba.prog 10 #[.pointer (some ⟨b, 0, Option.none⟩), .int .u64 h, .int .u32 r] w fun e w' =>
      e = .returned (.bool (modelB H R h r)) ∧ w' = w := by
  go_enter Yba.func10, Yba.ntmps10
  go_wp2
  all_goals
    simp only [beq_iff_eq, beq_eq_false_iff_ne, u64_wrap] at *
    go_ret
    refine ⟨ret_bool ?_, rfl⟩
    unfold modelB
    first | (refine (decide_eq_decide.2 ?_); omega) | (symm; refine decide_eq_false ?_; omega)

set_option maxHeartbeats 400000 in
theorem law_any (H R m dh dr h r : Int) (w : World) (a0 : 0 ≤ H) (a1 : H < 18446744073709551616) (b0 : 0 ≤ R) (b1 : R < 4294967296) (m0 : 0 ≤ m) (m1 : m < 256)
    (c0 : 0 ≤ dh) (c1 : dh < 18446744073709551616) (d0 : 0 ≤ dr) (d1 : dr < 4294967296) (e0 : 0 ≤ h) (e1 : h < 18446744073709551616) (f0 : 0 ≤ r) (f1 : r < 4294967296) :
    Calls Yba.prog 3 #[.int .u64 H, .int .u32 R, .int .u8 m, .int .u64 dh, .int .u32 dr, .int .u64 h, .int .u32 r] w fun e w' =>
      e = .returned (.bool true) ∧ Grown w w' := by
  go_enter Yba.func3, Yba.ntmps3
  go_wp2_with fail
  refine (pick_any H R m dh dr h r _ a0 a1 b0 b1 m0 m1 c0 c1 d0 d1 e0 e1 f0 f1).mono ?_
  rintro e w' ⟨h', r', rfl, h0', h1', r0', r1', rfl⟩
  go_wp2_with fail
  refine (keeps_any H R h' r' _ _ a0 a1 b0 b1 h0' h1' r0' r1' (by rw [World.cell?_alloc_new]; simp) (by rw [World.cell?_alloc_new]; simp)).mono ?_
  rintro e w'' ⟨rfl, rfl⟩
  go_wp2_with fail
  refine (model_any H R h' r' _ a0 a1 b0 b1 h0' h1' r0' r1').mono ?_
  rintro e w'' ⟨rfl, rfl⟩
  go_wp2_with fail
  go_ret
  refine ⟨ret_bool (by simp), by repeat (first | exact Grown.refl _ | apply Grown.drew | apply Grown.alloc)⟩
end Go.Proofs.Ybulkqgc
