import Derived.Test.YbulkqhsB37
namespace Go.Proofs.Ybulkqhs
open Go.RowKit
set_option linter.unusedVariables false
set_option linter.unusedSimpArgs false

/-! ### Cutting a slice of records in two -/
theorem run_sl_nil_head (w : World) : (sl56 (.slice none 0 0) none (some (.int .i64 0)) none).run Yba.prog w = .ok (.slice none 0 0) w := by
  have hu := Yba.underlying56
  have hz := Yba.sizeOf34 w
  unfold sl56 Instr.slice Instr.sliceBounds Instr.sliceBound
  simp [Sem.run_bind, run_underlying hu, asIntOf, hz]
theorem run_sl_nil_tail (w : World) : (sl56 (.slice none 0 0) (some (.int .i64 0)) none none).run Yba.prog w = .ok (.slice none 0 0) w := by
  have hu := Yba.underlying56
  have hz := Yba.sizeOf34 w
  unfold sl56 Instr.slice Instr.sliceBounds Instr.sliceBound
  simp [Sem.run_bind, run_underlying hu, asIntOf, hz]
theorem RS.cut {w : World} {v : Value} {ks : List Nat} (h : RS w v ks) (k : Nat) (hk : k ≤ ks.length) : ∃ v1 v2, (∀ w, (sl56 v none (some (.int .i64 (k : Int))) none).run Yba.prog w = .ok v1 w) ∧ (∀ w, (sl56 v (some (.int .i64 (k : Int))) none none).run Yba.prog w = .ok v2 w) ∧ RS w v1 (ks.take k) ∧ RS w v2 (ks.drop k) ∧
    (∃ a n c, v1 = .slice a n c) ∧ ∃ a n c, v2 = .slice a n c := by
  rcases h with ⟨rfl, rfl⟩ | ⟨b, o, cap, rfl, h2, h3⟩
  · have hk0 : k = 0 := by simpa using hk
    subst hk0
    exact ⟨_, _, run_sl_nil_head, run_sl_nil_tail, .inl ⟨rfl, rfl⟩, .inl ⟨rfl, rfl⟩, ⟨_, _, _, rfl⟩, ⟨_, _, _, rfl⟩⟩
  · have hb : RSb (fun _ => True) w (.slice (some ⟨b, o, none⟩) ks.length cap) ks := .inr ⟨b, o, cap, rfl, h2, fun _ => trivial, h3⟩
    obtain ⟨h4, h5⟩ := hb.head k hk
    obtain ⟨a', h6, h7⟩ := hb.tail k hk
    exact ⟨_, _, h4, h6, h5.rs, h7.rs, ⟨_, _, _, rfl⟩, ⟨_, _, _, rfl⟩⟩

/-! ### == at a Sum -/
theorem items_same (d : Nat) (e : TypeId) (k : IntKind) (hu : Yba.prog.underlying e = some (.int k)) (w : World) (f : Nat → Int) (n : Nat) (xs : Array Value)
    (hx : ∀ i, i < n → (part e xs (i * 1)).run Yba.prog w = .ok (.int k (f i)) w) :
    ∀ is : List Nat, (∀ i ∈ is, i < n) → (Op.eqItems (d + 1) e 1 xs xs is).run Yba.prog w = .ok true w
  | [], _ => by simp [Op.eqItems]
  | i :: is, h => by
    have ih := items_same d e k hu w f n xs hx is fun j hj => h j (List.mem_cons_of_mem _ hj)
    simp only [Op.eqItems, Sem.run_bind, hx i (h i List.mem_cons_self), Result.andThen_ok, run_equalIn_int w d e k k _ _ hu]
    simpa using ih
def ws (N : Nat) : Array Value := #[.int .u64 (wd N 0), .int .u64 (wd N 1), .int .u64 (wd N 2), .int .u64 (wd N 3)]
theorem part_ws (N i : Nat) (hi : i < 4) (w : World) : (part 30 (ws N) (i * 1)).run Yba.prog w = .ok (.int .u64 (wd N i)) w := by
  have h := Yba.isAgg30 w
  have hc : (ws N)[i * 1]? = some (.int .u64 (wd N i)) := by
    match i, hi with
    | 0, _ => rfl
    | 1, _ => rfl
    | 2, _ => rfl
    | 3, _ => rfl
  simp only [part, Sem.run_bind, h, Result.andThen_ok, Bool.false_eq_true, if_false, hc]
  rfl
theorem neq70 (N c : Nat) (w : World) : (binOp .neq 70 (sv N c) (sv N c)).run Yba.prog w = .ok (.bool false) w := by
  have hS : Yba.prog.underlying 70 = some (.struct (Yba.prog.fieldsOf 70)) := by kernel_rfl
  have hp : Yba.prog.stoodInHeld 70 = false := by kernel_rfl
  obtain ⟨i, hi⟩ : ∃ i, Yba.prog.info? 30 = some i := info_of_underlying Yba.underlying30
  have hc2 : Yba.prog.cellsOf 30 = 1 := by kernel_rfl
  have hI := items_same 9997 30 .u64 Yba.underlying30 w (wd N) 4 (ws N) (fun i hi => part_ws N i hi w) (List.range 4) (fun i hi => List.mem_range.1 hi)
  have hA := run_equalIn_array w 9998 (ws N) (ws N) Yba.underlying68 hi
  rw [hc2, hI] at hA
  have hT := run_equalIn_int w 9998 3 .i64 .i64 (c : Int) (c : Int) Yba.underlying3
  have p1 : (part 68 #[.int .u64 (wd N 0), .int .u64 (wd N 1), .int .u64 (wd N 2), .int .u64 (wd N 3), .int .i64 c] 0).run Yba.prog w = .ok (.agg (ws N)) w := by
    have h := Yba.isAgg68 w
    have hz := Yba.sizeOf68 w
    simp only [part, Sem.run_bind, h, hz, Result.andThen_ok, if_true]
    rfl
  have p2 : (part 3 #[.int .u64 (wd N 0), .int .u64 (wd N 1), .int .u64 (wd N 2), .int .u64 (wd N 3), .int .i64 c] 4).run Yba.prog w = .ok (.int .i64 c) w := by
    have h := Yba.isAgg3 w
    simp only [part, Sem.run_bind, h, Result.andThen_ok, Bool.false_eq_true, if_false]
    rfl
  unfold sv
  rw [run_neq_struct, show (10000 : Nat) = 9999 + 1 from rfl, run_equalIn_agg w 9999 70 _ _ hS hp]
  simp only [Program.fieldsOf, Yba.underlying70]
  simp only [Op.eqFields, Sem.run_bind, Sem.run_ite, p1, p2, Result.andThen_ok, hA, hT]
  simp
theorem guard70 (op : BinOp) (a b : Operand) (N c N' c' : Nat) (w : World) : (eqGuard op 70 a b (sv N c) (sv N' c')).run Yba.prog w = .ok () w := run_eqGuard_agg w op 70 a b _ _ (by kernel_rfl)
end Go.Proofs.Ybulkqhs
