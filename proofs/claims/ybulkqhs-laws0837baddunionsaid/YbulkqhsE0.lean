import Derived.Test.YbulkqhsB3
import Derived.ChangeKeysEq
import Derived.Laws.StructEq
import Derived.Shelf.SlicesQ.Contains
import Derived.Shelf.SlicesQ.Equal
namespace Go.Proofs.Ybulkqhs
open Go.RowKit Go.Shelf Go.Lib
set_option linter.unusedVariables false

theorem items_run (d : Nat) (e : TypeId) (hu : Yba.prog.underlying e = some (.int .u8)) (w : World) (f g : Nat → Int) (xs ys : Array Value)
    (hx : ∀ i, i < 32 → (part e xs (i * 1)).run Yba.prog w = .ok (.int .u8 (f i)) w) (hy : ∀ i, i < 32 → (part e ys (i * 1)).run Yba.prog w = .ok (.int .u8 (g i)) w) :
    ∀ is : List Nat, (∀ i ∈ is, i < 32) → (Op.eqItems (d + 1) e 1 xs ys is).run Yba.prog w = .ok (is.all fun i => f i == g i) w
  | [], _ => by simp [Op.eqItems]
  | i :: is, h => by
    have ih := items_run d e hu w f g xs ys hx hy is fun j hj => h j (List.mem_cons_of_mem _ hj)
    simp only [Op.eqItems, Sem.run_bind, hx i (h i List.mem_cons_self), hy i (h i List.mem_cons_self), Result.andThen_ok, run_equalIn_int w d e .u8 .u8 _ _ hu, List.all_cons]
    cases hfg : (f i == g i)
    · simp
    · simpa using ih

theorem rl_split (k : Nat) : rl k = rcell k 0 :: (List.range 32).map fun r => rcell k (r + 1) := by
  unfold rl
  rw [show (33 : Nat) = 32 + 1 from rfl, List.range_succ_eq_map, List.map_cons, List.map_map]
  rfl
theorem part_u64 (k : Nat) (w : World) : (part 30 (rl k).toArray 0).run Yba.prog w = .ok (.int .u64 ((k / 2 ^ 256 : Nat) : Int)) w := by
  have h := Yba.isAgg30 w
  have hc : (rl k).toArray[0]? = some (rcell k 0) := by rw [List.getElem?_toArray]; exact rl_get k 0 (by omega)
  simp only [part, Sem.run_bind, h, Result.andThen_ok, Bool.false_eq_true, if_false, hc]
  rfl
theorem part_arr (k : Nat) (w : World) : (part 32 (rl k).toArray 1).run Yba.prog w = .ok (.agg ((List.range 32).map fun r => rcell k (r + 1)).toArray) w := by
  have h := Yba.isAgg32 w
  have hz := Yba.sizeOf32 w
  have he : (rl k).toArray.extract 1 (1 + 32) = ((List.range 32).map fun r => rcell k (r + 1)).toArray := by
    rw [rl_split]
    generalize hl : ((List.range 32).map fun r => rcell k (r + 1)) = l
    have hlen : l.length = 32 := by rw [← hl]; simp
    rw [List.extract_toArray]
    simp [List.extract, hlen, List.take_of_length_le]
  simp only [part, Sem.run_bind, h, hz, Result.andThen_ok, if_true, he]
  rfl
theorem part_byte (k r : Nat) (hr : r < 32) (w : World) : (part 5 ((List.range 32).map fun r => rcell k (r + 1)).toArray (r * 1)).run Yba.prog w = .ok (.int .u8 ((k / 256 ^ (32 - (r + 1)) % 256 : Nat) : Int)) w := by
  have h := Yba.isAgg5 w
  have hc : ((List.range 32).map fun r => rcell k (r + 1)).toArray[r * 1]? = some (rcell k (r + 1)) := by
    rw [List.getElem?_toArray, Nat.mul_one, List.getElem?_map, List.getElem?_range hr]; rfl
  simp only [part, Sem.run_bind, h, Result.andThen_ok, Bool.false_eq_true, if_false, hc]
  unfold rcell
  rw [if_neg (by omega)]
  rfl

theorem eqk (k1 k2 : Nat) : ((((k1 / 2 ^ 256 : Nat) : Int) == ((k2 / 2 ^ 256 : Nat) : Int)) && (List.range 32).all fun r => (((k1 / 256 ^ (32 - (r + 1)) % 256 : Nat) : Int) == ((k2 / 256 ^ (32 - (r + 1)) % 256 : Nat) : Int))) = (k1 == k2) := by
  rw [Bool.eq_iff_iff]
  simp only [Bool.and_eq_true, beq_iff_eq, List.all_eq_true, List.mem_range]
  constructor
  · rintro ⟨h0, h1⟩
    refine rcell_inj fun r hr => ?_
    unfold rcell
    by_cases hr0 : r = 0
    · rw [if_pos hr0, if_pos hr0, h0]
    · rw [if_neg hr0, if_neg hr0]
      have := h1 (r - 1) (by omega)
      rw [show r - 1 + 1 = r by omega] at this
      rw [this]
  · rintro rfl
    exact ⟨rfl, fun _ _ => rfl⟩

theorem eq34_run (k1 k2 : Nat) (w : World) : (Op.equalIn 10000 34 (rv k1) (rv k2)).run Yba.prog w = .ok (k1 == k2) w := by
  have hS : Yba.prog.underlying 34 = some (.struct (Yba.prog.fieldsOf 34)) := by kernel_rfl
  have hp : Yba.prog.stoodInHeld 34 = false := by kernel_rfl
  have h32 : Yba.prog.underlying 32 = some (.array 32 5) := Yba.underlying32
  have hi : ∃ i, Yba.prog.info? 5 = some i := info_of_underlying Yba.underlying5
  obtain ⟨i, hi⟩ := hi
  have hc2 : Yba.prog.cellsOf 5 = 1 := by kernel_rfl
  have u30 := Yba.underlying30
  unfold rv
  rw [show (10000 : Nat) = 9999 + 1 from rfl, run_equalIn_agg w 9999 34 _ _ hS hp]
  simp only [Program.fieldsOf, Yba.underlying34]
  have hI := items_run 9997 5 Yba.underlying5 w (fun r => ((k1 / 256 ^ (32 - (r + 1)) % 256 : Nat) : Int)) (fun r => ((k2 / 256 ^ (32 - (r + 1)) % 256 : Nat) : Int)) _ _ (fun i hi => part_byte k1 i hi w) (fun i hi => part_byte k2 i hi w) (List.range 32) (fun i hi => List.mem_range.1 hi)
  have hA := (run_equalIn_array w 9998 ((List.range 32).map fun r => rcell k1 (r + 1)).toArray ((List.range 32).map fun r => rcell k2 (r + 1)).toArray h32 hi)
  rw [hc2, hI] at hA
  have hT := run_equalIn_int w 9998 30 .u64 .u64 ((k1 / 2 ^ 256 : Nat) : Int) ((k2 / 2 ^ 256 : Nat) : Int) u30
  rw [← eqk k1 k2]
  simp only [Op.eqFields, Sem.run_bind, Sem.run_ite, part_u64, part_arr, Result.andThen_ok, hT, hA]
  generalize ((List.range 32).all fun r => (((k1 / 256 ^ (32 - (r + 1)) % 256 : Nat) : Int) == ((k2 / 256 ^ (32 - (r + 1)) % 256 : Nat) : Int))) = B
  generalize (((k1 / 2 ^ 256 : Nat) : Int) == ((k2 / 2 ^ 256 : Nat) : Int)) = A
  cases A <;> cases B <;> rfl

theorem eql34 : EqlAt Yba.prog 34 (fun k => .agg (rl k).toArray) (fun x y => x == y) := by
  refine ⟨fun x y w => ?_, GuardAt.agg _ (by kernel_rfl)⟩
  have h := eq34_run x y w
  unfold rv at h
  rw [run_eql_struct, h]
  rfl
theorem neq34 : NeqAt Yba.prog 34 (fun k => .agg (rl k).toArray) (fun x y => x == y) := by
  refine ⟨fun x y w => ?_, GuardAt.agg _ (by kernel_rfl)⟩
  have h := eq34_run x y w
  unfold rv at h
  rw [run_neq_struct, h]
  rfl
theorem eql34_run (x y : Nat) (w : World) : (binOp .eql 34 (rv x) (rv y)).run Yba.prog w = .ok (.bool (x == y)) w := eql34.1 x y w
theorem neq34_run (x y : Nat) (w : World) : (binOp .neq 34 (rv x) (rv y)).run Yba.prog w = .ok (.bool (!(x == y))) w := neq34.1 x y w
theorem guard34 (op : BinOp) (a b : Operand) (x y : Nat) (w : World) : (eqGuard op 34 a b (rv x) (rv y)).run Yba.prog w = .ok () w := eql34.2 op a b x y w

end Go.Proofs.Ybulkqhs
