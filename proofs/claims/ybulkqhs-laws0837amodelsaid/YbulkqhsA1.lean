import Derived.Test.YbulkqhsA0
import Derived.Deep.QuietTactic
import Derived.BigQuiet
import Derived.BigRegion
import Derived.Laws.EntriesVeiled
namespace Go.Proofs.Ybulkqhs
open Go.RowKit
set_option linter.unusedVariables false

set_option maxHeartbeats 1000000 in
theorem read_settled (T ib k c : Nat) (fr up md lo hi : Int) (w : World) (n : Int) (wt mr : Bool) (F U L H Th : Nat → Int) (ht : TailIs w T n wt mr F U L H Th) :
    Calls Yba.prog 7 #[.pointer (some ⟨T, 0, Option.none⟩), .agg #[.int .u64 fr, .slice Option.none 0 0], .agg #[.int .u64 up, .slice Option.none 0 0, .int .u64 md, .int .u8 0, .int .u8 0, .int .u8 0, .int .u8 0, .int .u8 0, .int .u8 0, .int .u8 0, .int .u8 0, .int .u8 0, .int .u8 0, .int .u8 0, .int .u8 0, .int .u8 0, .int .u8 0, .int .u8 0, .int .u8 0, .slice (some ⟨ib, 0, Option.none⟩) k c], .agg #[.nilIface, .int .i64 lo, .int .i64 hi], .bool true] w fun e w' =>
      e = .returned (.bool true) ∧ TailIs w' T n false mr F U L H Th ∧ Only T w w' := by
  have hT := ht.lt
  have hT1 : T < w.heap.size + 1 := by omega
  have hT2 : T < w.heap.size + 1 + 1 := by omega
  have hf := ht.free
  obtain ⟨c153, c154, c155⟩ := ht.marks
  have HT := hide ht; clear ht
  go_enter Yba.func7, Yba.ntmps7
  go_wp2_with fail
  go_ret
  refine ⟨rfl, ?_, (((((Only.refl T w).setCell _ _).alloc _).alloc _).alloc _)⟩
  have h := (unhide HT).setW false
  exact (((h.alloc _).alloc _).alloc _)

set_option maxHeartbeats 1000000 in
theorem read_full (T ib k c : Nat) (fr up md lo hi : Int) (w : World) (mr : Bool) (F U L H Th : Nat → Int) (ht : TailIs w T 8 false mr F U L H Th) :
    Calls Yba.prog 7 #[.pointer (some ⟨T, 0, Option.none⟩), .agg #[.int .u64 fr, .slice Option.none 0 0], .agg #[.int .u64 up, .slice Option.none 0 0, .int .u64 md, .int .u8 0, .int .u8 0, .int .u8 0, .int .u8 0, .int .u8 0, .int .u8 0, .int .u8 0, .int .u8 0, .int .u8 0, .int .u8 0, .int .u8 0, .int .u8 0, .int .u8 0, .int .u8 0, .int .u8 0, .int .u8 0, .slice (some ⟨ib, 0, Option.none⟩) k c], .agg #[.nilIface, .int .i64 lo, .int .i64 hi], .bool false] w fun e w' =>
      e = .returned (.bool false) ∧ TailIs w' T 8 false true F U L H Th ∧ Only T w w' := by
  have hT := ht.lt
  have hT1 : T < w.heap.size + 1 := by omega
  have hT2 : T < w.heap.size + 1 + 1 := by omega
  have hf := ht.free
  obtain ⟨c153, c154, c155⟩ := ht.marks
  have HT := hide ht; clear ht
  go_enter Yba.func7, Yba.ntmps7
  go_wp2_with fail
  go_ret
  refine ⟨rfl, ?_, (((((Only.refl T w).setCell _ _).alloc _).alloc _).alloc _)⟩
  have h := (unhide HT).setM true
  exact (((h.alloc _).alloc _).alloc _)

set_option maxHeartbeats 1000000 in
theorem read_open2 (T ib k c : Nat) (fr up md lo hi : Int) (w : World) (n : Nat) (hn : n < 8) (hk : k ≤ 1024) (hmd : (md != 2) = false) (mr : Bool) (F U L H Th : Nat → Int) (ht : TailIs w T n false mr F U L H Th) :
    Calls Yba.prog 7 #[.pointer (some ⟨T, 0, Option.none⟩), .agg #[.int .u64 fr, .slice Option.none 0 0], .agg #[.int .u64 up, .slice Option.none 0 0, .int .u64 md, .int .u8 0, .int .u8 0, .int .u8 0, .int .u8 0, .int .u8 0, .int .u8 0, .int .u8 0, .int .u8 0, .int .u8 0, .int .u8 0, .int .u8 0, .int .u8 0, .int .u8 0, .int .u8 0, .int .u8 0, .int .u8 0, .slice (some ⟨ib, 0, Option.none⟩) k c], .agg #[.nilIface, .int .i64 lo, .int .i64 hi], .bool false] w fun e w' =>
      e = .returned (.bool true) ∧ TailIs w' T ((n : Int) + 1) true mr (upd F n fr) (upd U n up) (upd L n lo) (upd H n hi) (upd Th n ((k : Int) / 32)) ∧ Only T w w' := by
  have hT := ht.lt
  have hT1 : T < w.heap.size + 1 := by omega
  have hT2 : T < w.heap.size + 1 + 1 := by omega
  have hf := ht.free
  obtain ⟨c153, c154, c155⟩ := ht.marks
  obtain ⟨d0, d1, d2, d3, d4, d5, d6, d7⟩ := ht.cells n hn
  have hne : ((n : Int) == 8) = false := by rw [beq_eq_false_iff_ne]; omega
  have HT := hide ht; clear ht
  go_enter Yba.func7, Yba.ntmps7
  go_wp2_with fail
  go_region
  go_wp2_with fail
  go_region
  go_wp2_with fail
  go_region
  go_wp2_with fail
  go_region
  go_wp2_with fail
  go_ret
  refine ⟨rfl, ?_, ((((((((((((((((((Only.refl T w).setCell _ _).setCell _ _).setCell _ _).setCell _ _).setCell _ _).setCell _ _).setCell _ _).setCell _ _).setCell _ _).setCell _ _).setCell _ _).setCell _ _).setCell _ _).setCell _ _).alloc _).alloc _).alloc _).drew.drew.drew.drew⟩
  have h := (unhide HT).setF n hn fr |>.same1 n hn |>.setU n hn 0 |>.same3 n hn |>.same4 n hn |>.setL n hn lo |>.setH n hn hi |>.setTh n hn 0 |>.setN ((n : Int) + 1) |>.setW true |>.setU n hn up |>.same3 n hn |>.setH n hn hi |>.setTh n hn ((k : Int) / 32)
  rw [upd_upd, upd_upd, upd_upd] at h
  exact (((h.alloc _).alloc _).alloc _).drew.drew.drew.drew

set_option maxHeartbeats 1000000 in
theorem read_open1 (T ib k c : Nat) (fr up md lo hi : Int) (w : World) (n : Nat) (hn : n < 8) (hk : k ≤ 1024) (hmd : (md != 2) = true) (mr : Bool) (F U L H Th : Nat → Int) (ht : TailIs w T n false mr F U L H Th) :
    Calls Yba.prog 7 #[.pointer (some ⟨T, 0, Option.none⟩), .agg #[.int .u64 fr, .slice Option.none 0 0], .agg #[.int .u64 up, .slice Option.none 0 0, .int .u64 md, .int .u8 0, .int .u8 0, .int .u8 0, .int .u8 0, .int .u8 0, .int .u8 0, .int .u8 0, .int .u8 0, .int .u8 0, .int .u8 0, .int .u8 0, .int .u8 0, .int .u8 0, .int .u8 0, .int .u8 0, .int .u8 0, .slice (some ⟨ib, 0, Option.none⟩) k c], .agg #[.nilIface, .int .i64 lo, .int .i64 hi], .bool false] w fun e w' =>
      e = .returned (.bool true) ∧ TailIs w' T ((n : Int) + 1) true mr (upd F n fr) (upd U n up) (upd L n lo) (upd H n hi) (upd Th n (-1)) ∧ Only T w w' := by
  have hT := ht.lt
  have hT1 : T < w.heap.size + 1 := by omega
  have hT2 : T < w.heap.size + 1 + 1 := by omega
  have hf := ht.free
  obtain ⟨c153, c154, c155⟩ := ht.marks
  obtain ⟨d0, d1, d2, d3, d4, d5, d6, d7⟩ := ht.cells n hn
  have hne : ((n : Int) == 8) = false := by rw [beq_eq_false_iff_ne]; omega
  have HT := hide ht; clear ht
  go_enter Yba.func7, Yba.ntmps7
  go_wp2_with fail
  go_region
  go_wp2_with fail
  go_region
  go_wp2_with fail
  go_region
  go_wp2_with fail
  go_ret
  refine ⟨rfl, ?_, ((((((((((((((((((Only.refl T w).setCell _ _).setCell _ _).setCell _ _).setCell _ _).setCell _ _).setCell _ _).setCell _ _).setCell _ _).setCell _ _).setCell _ _).setCell _ _).setCell _ _).setCell _ _).setCell _ _).alloc _).alloc _).alloc _).drew.drew.drew⟩
  have h := (unhide HT).setF n hn fr |>.same1 n hn |>.setU n hn 0 |>.same3 n hn |>.same4 n hn |>.setL n hn lo |>.setH n hn hi |>.setTh n hn 0 |>.setN ((n : Int) + 1) |>.setW true |>.setU n hn up |>.same3 n hn |>.setH n hn hi |>.setTh n hn (-1)
  rw [upd_upd, upd_upd, upd_upd] at h
  exact (((h.alloc _).alloc _).alloc _).drew.drew.drew

set_option maxHeartbeats 1000000 in
theorem read_cont1 (T ib k c : Nat) (fr up md lo hi : Int) (w : World) (n : Nat) (hn : n < 8) (hk : k ≤ 1024) (hmd : (md != 2) = true) (mr : Bool) (F U L H Th : Nat → Int)  (ht : TailIs w T ((n : Int) + 1) true mr F U L H Th) :
    Calls Yba.prog 7 #[.pointer (some ⟨T, 0, Option.none⟩), .agg #[.int .u64 fr, .slice Option.none 0 0], .agg #[.int .u64 up, .slice Option.none 0 0, .int .u64 md, .int .u8 0, .int .u8 0, .int .u8 0, .int .u8 0, .int .u8 0, .int .u8 0, .int .u8 0, .int .u8 0, .int .u8 0, .int .u8 0, .int .u8 0, .int .u8 0, .int .u8 0, .int .u8 0, .int .u8 0, .int .u8 0, .slice (some ⟨ib, 0, Option.none⟩) k c], .agg #[.nilIface, .int .i64 lo, .int .i64 hi], .bool false] w fun e w' =>
      e = .returned (.bool true) ∧ TailIs w' T ((n : Int) + 1) true mr F (upd U n up) L (upd H n hi) (upd Th n (-1)) ∧ Only T w w' := by
  have hT := ht.lt
  have hT1 : T < w.heap.size + 1 := by omega
  have hT2 : T < w.heap.size + 1 + 1 := by omega
  have hf := ht.free
  obtain ⟨c153, c154, c155⟩ := ht.marks
  obtain ⟨d0, d1, d2, d3, d4, d5, d6, d7⟩ := ht.cells n hn
  have HT := hide ht; clear ht
  go_enter Yba.func7, Yba.ntmps7
  go_wp2_with fail
  go_region
  go_wp2_with fail
  go_region
  go_wp2_with fail
  go_ret
  refine ⟨rfl, ?_, ((((((((Only.refl T w).setCell _ _).setCell _ _).setCell _ _).setCell _ _).alloc _).alloc _).alloc _).drew.drew⟩
  have h := (unhide HT).setU n hn up |>.same3 n hn |>.setH n hn hi |>.setTh n hn (-1)
  exact (((h.alloc _).alloc _).alloc _).drew.drew

set_option maxHeartbeats 1000000 in
theorem read_cont2 (T ib k c : Nat) (fr up md lo hi : Int) (w : World) (n : Nat) (hn : n < 8) (hk : k ≤ 1024) (hmd : (md != 2) = false) (mr : Bool) (F U L H Th : Nat → Int) (hth : 0 ≤ Th n) (ht : TailIs w T ((n : Int) + 1) true mr F U L H Th) :
    Calls Yba.prog 7 #[.pointer (some ⟨T, 0, Option.none⟩), .agg #[.int .u64 fr, .slice Option.none 0 0], .agg #[.int .u64 up, .slice Option.none 0 0, .int .u64 md, .int .u8 0, .int .u8 0, .int .u8 0, .int .u8 0, .int .u8 0, .int .u8 0, .int .u8 0, .int .u8 0, .int .u8 0, .int .u8 0, .int .u8 0, .int .u8 0, .int .u8 0, .int .u8 0, .int .u8 0, .int .u8 0, .slice (some ⟨ib, 0, Option.none⟩) k c], .agg #[.nilIface, .int .i64 lo, .int .i64 hi], .bool false] w fun e w' =>
      e = .returned (.bool true) ∧ TailIs w' T ((n : Int) + 1) true mr F (upd U n up) L (upd H n hi) (upd Th n (wrap64 (Th n + (k : Int) / 32))) ∧ Only T w w' := by
  have hT := ht.lt
  have hT1 : T < w.heap.size + 1 := by omega
  have hT2 : T < w.heap.size + 1 + 1 := by omega
  have hf := ht.free
  obtain ⟨c153, c154, c155⟩ := ht.marks
  obtain ⟨d0, d1, d2, d3, d4, d5, d6, d7⟩ := ht.cells n hn
  have HT := hide ht; clear ht
  go_enter Yba.func7, Yba.ntmps7
  go_wp2_with fail
  go_region
  go_wp2_with fail
  go_region
  go_wp2_with fail
  go_region
  go_wp2_with fail
  go_ret
  refine ⟨rfl, ?_, ((((((((Only.refl T w).setCell _ _).setCell _ _).setCell _ _).setCell _ _).alloc _).alloc _).alloc _).drew.drew.drew⟩
  have h := (unhide HT).setU n hn up |>.same3 n hn |>.setH n hn hi |>.setTh n hn (wrap64 (Th n + (k : Int) / 32))
  exact (((h.alloc _).alloc _).alloc _).drew.drew.drew

set_option maxHeartbeats 1000000 in
theorem read_cont3 (T ib k c : Nat) (fr up md lo hi : Int) (w : World) (n : Nat) (hn : n < 8) (hk : k ≤ 1024) (hmd : (md != 2) = false) (mr : Bool) (F U L H Th : Nat → Int) (hth : Th n < 0) (ht : TailIs w T ((n : Int) + 1) true mr F U L H Th) :
    Calls Yba.prog 7 #[.pointer (some ⟨T, 0, Option.none⟩), .agg #[.int .u64 fr, .slice Option.none 0 0], .agg #[.int .u64 up, .slice Option.none 0 0, .int .u64 md, .int .u8 0, .int .u8 0, .int .u8 0, .int .u8 0, .int .u8 0, .int .u8 0, .int .u8 0, .int .u8 0, .int .u8 0, .int .u8 0, .int .u8 0, .int .u8 0, .int .u8 0, .int .u8 0, .int .u8 0, .int .u8 0, .slice (some ⟨ib, 0, Option.none⟩) k c], .agg #[.nilIface, .int .i64 lo, .int .i64 hi], .bool false] w fun e w' =>
      e = .returned (.bool true) ∧ TailIs w' T ((n : Int) + 1) true mr F (upd U n up) L (upd H n hi) Th ∧ Only T w w' := by
  have hT := ht.lt
  have hT1 : T < w.heap.size + 1 := by omega
  have hT2 : T < w.heap.size + 1 + 1 := by omega
  have hf := ht.free
  obtain ⟨c153, c154, c155⟩ := ht.marks
  obtain ⟨d0, d1, d2, d3, d4, d5, d6, d7⟩ := ht.cells n hn
  have HT := hide ht; clear ht
  go_enter Yba.func7, Yba.ntmps7
  go_wp2_with fail
  go_region
  go_wp2_with fail
  go_region
  go_wp2_with fail
  go_ret
  refine ⟨rfl, ?_, (((((((Only.refl T w).setCell _ _).setCell _ _).setCell _ _).alloc _).alloc _).alloc _).drew.drew⟩
  have h := (unhide HT).setU n hn up |>.same3 n hn |>.setH n hn hi
  exact (((h.alloc _).alloc _).alloc _).drew.drew

end Go.Proofs.Ybulkqhs
