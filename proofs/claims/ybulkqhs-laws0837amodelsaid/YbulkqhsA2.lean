import Derived.Test.YbulkqhsA1
import Derived.Deep.RegionHeld3
import Derived.Laws.Tables
namespace Go.Proofs.Ybulkqhs
open Go.RowKit
set_option linter.unusedVariables false

/-! ### The model's arrays of eight. -/
def arr8 (k : IntKind) (f : Nat → Int) : Array Value := #[.int k (f 0), .int k (f 1), .int k (f 2), .int k (f 3), .int k (f 4), .int k (f 5), .int k (f 6), .int k (f 7)]
def A8 (w : World) (b t : Nat) (k : IntKind) (f : Nat → Int) : Prop := w.heap[b]? = some (.cells (arr8 k f) t (0, 0))

theorem arr8_get (k : IntKind) (f : Nat → Int) (i : Nat) (hi : i < 8) : (arr8 k f)[i]? = some (.int k (f i)) := by
  match i, hi with
  | 0, _ => rfl
  | 1, _ => rfl
  | 2, _ => rfl
  | 3, _ => rfl
  | 4, _ => rfl
  | 5, _ => rfl
  | 6, _ => rfl
  | 7, _ => rfl
theorem arr8_set (k : IntKind) (f : Nat → Int) (i : Nat) (hi : i < 8) (x : Int) : (arr8 k f).setIfInBounds i (.int k x) = arr8 k (upd f i x) := by
  match i, hi with
  | 0, _ => rfl
  | 1, _ => rfl
  | 2, _ => rfl
  | 3, _ => rfl
  | 4, _ => rfl
  | 5, _ => rfl
  | 6, _ => rfl
  | 7, _ => rfl
theorem A8.cell {w : World} {b t : Nat} {k : IntKind} {f : Nat → Int} (h : A8 w b t k f) (i : Nat) (hi : i < 8) : w.cell? ⟨b, i, Option.none⟩ = some (.int k (f i)) := cell_at h (arr8_get k f i hi)
theorem A8.free {w : World} {b t : Nat} {k : IntKind} {f : Nat → Int} (h : A8 w b t k f) (o : Nat) : w.frozen? ⟨b, o, Option.none⟩ = false := free_at h
theorem A8.set {w : World} {b t : Nat} {k : IntKind} {f : Nat → Int} (h : A8 w b t k f) (i : Nat) (hi : i < 8) (x : Int) : A8 (w.setCell ⟨b, i, Option.none⟩ (.int k x)) b t k (upd f i x) := by
  unfold A8; rw [setCell_heap h, arr8_set k f i hi x]
theorem A8.other {w : World} {b t : Nat} {k : IntKind} {f : Nat → Int} (h : A8 w b t k f) {b' : Nat} (hne : b ≠ b') (o : Nat) (v : Value) : A8 (w.setCell ⟨b', o, Option.none⟩ v) b t k f :=
  (Below.heap_setCell _ _ _ _ hne).trans h
theorem A8.alloc {w : World} {b t : Nat} {k : IntKind} {f : Nat → Int} (h : A8 w b t k f) (ob : Obj) : A8 (w.alloc ob) b t k f := (Below.heap_alloc w ob b (lt_at h)).trans h
theorem A8.only {w w' : World} {b t g : Nat} {k : IntKind} {f : Nat → Int} (h : A8 w b t k f) (ho : Only g w w') (hg : b ≠ g) : A8 w' b t k f := (ho.block b (lt_at h) hg).trans h
theorem TailIs.other {w : World} {T : Nat} {n : Int} {wt mr : Bool} {F U L H Th : Nat → Int} (h : TailIs w T n wt mr F U L H Th) {b : Nat} (hb : T ≠ b) (o : Nat) (v : Value) : TailIs (w.setCell ⟨b, o, Option.none⟩ v) T n wt mr F U L H Th :=
  h.of_block (Below.heap_setCell _ _ _ _ hb)

/-- The two sides agree: the tail in block B, the model's five arrays in G .. G+4. -/
structure St (B G : Nat) (w wr : World) (n : Nat) (wt mr : Bool) (F U L H Th : Nat → Int) : Prop where
  tail : TailIs wr B n wt mr F U L H Th
  mf : A8 wr G 44 .u64 F
  mu : A8 wr (G+1) 44 .u64 U
  ml : A8 wr (G+2) 45 .i64 L
  mh : A8 wr (G+3) 45 .i64 H
  mt : A8 wr (G+4) 45 .i64 Th
  n8 : n ≤ 8
  pos : wt = true → 0 < n
  zero : ∀ i, n ≤ i → i < 8 → F i = 0 ∧ U i = 0 ∧ L i = 0 ∧ H i = 0 ∧ Th i = 0
  below : Below B w wr

theorem St.alloc {B G : Nat} {w wr : World} {n : Nat} {wt mr : Bool} {F U L H Th : Nat → Int} (h : St B G w wr n wt mr F U L H Th) (hB : B ≤ wr.heap.size) (ob : Obj) : St B G w (wr.alloc ob) n wt mr F U L H Th :=
  ⟨h.tail.alloc ob, h.mf.alloc ob, h.mu.alloc ob, h.ml.alloc ob, h.mh.alloc ob, h.mt.alloc ob, h.n8, h.pos, h.zero, h.below.alloc hB ob⟩
theorem St.drew {B G : Nat} {w wr : World} {n : Nat} {wt mr : Bool} {F U L H Th : Nat → Int} (h : St B G w wr n wt mr F U L H Th) : St B G w wr.drew n wt mr F U L H Th :=
  ⟨h.tail, h.mf, h.mu, h.ml, h.mh, h.mt, h.n8, h.pos, h.zero, h.below.drew⟩

theorem Yba.info5 : (Yba.prog.info? 5).map (fun i => (i.zero, i.size, i.bytes)) = some (some (.int .u8 0), 1, 1) := by kernel_rfl

theorem rep8 {f : Nat → Option Value} {v : Option Value} (h : (List.range 8).map f = List.replicate 8 v) (i : Nat) (hi : i < 8) : f i = v := by
  have := congrArg (fun l => l[i]?) h
  rw [List.getElem?_map, List.getElem?_range hi, List.getElem?_replicate, if_pos hi] at this
  simpa using this
theorem z43_0 : (List.range 8).map (fun i => Yba.zeroCells43[89 + i * 8]?) = List.replicate 8 (some (.int .u64 0)) := by kernel_rfl
theorem z43_1 : (List.range 8).map (fun i => Yba.zeroCells43[89 + i * 8 + 1]?) = List.replicate 8 (some (.slice Option.none 0 0)) := by kernel_rfl
theorem z43_2 : (List.range 8).map (fun i => Yba.zeroCells43[89 + i * 8 + 2]?) = List.replicate 8 (some (.int .u64 0)) := by kernel_rfl
theorem z43_3 : (List.range 8).map (fun i => Yba.zeroCells43[89 + i * 8 + 3]?) = List.replicate 8 (some (.slice Option.none 0 0)) := by kernel_rfl
theorem z43_4 : (List.range 8).map (fun i => Yba.zeroCells43[89 + i * 8 + 4]?) = List.replicate 8 (some (.nilIface)) := by kernel_rfl
theorem z43_5 : (List.range 8).map (fun i => Yba.zeroCells43[89 + i * 8 + 5]?) = List.replicate 8 (some (.int .i64 0)) := by kernel_rfl
theorem z43_6 : (List.range 8).map (fun i => Yba.zeroCells43[89 + i * 8 + 6]?) = List.replicate 8 (some (.int .i64 0)) := by kernel_rfl
theorem z43_7 : (List.range 8).map (fun i => Yba.zeroCells43[89 + i * 8 + 7]?) = List.replicate 8 (some (.int .i64 0)) := by kernel_rfl
theorem z43 : Tail Yba.zeroCells43 0 false false (fun _ => 0) (fun _ => 0) (fun _ => 0) (fun _ => 0) (fun _ => 0) := by
  have h : decide (Yba.zeroCells43.size = 156) = true := by kernel_rfl
  exact ⟨of_decide_eq_true h, by kernel_rfl, by kernel_rfl, by kernel_rfl, fun i hi => rep8 z43_0 i hi, fun i hi => rep8 z43_1 i hi, fun i hi => rep8 z43_2 i hi, fun i hi => rep8 z43_3 i hi, fun i hi => rep8 z43_4 i hi, fun i hi => rep8 z43_5 i hi, fun i hi => rep8 z43_6 i hi, fun i hi => rep8 z43_7 i hi⟩

theorem start (w w1 : World) (hg : (w.alloc (.cells Yba.zeroCells43 43)).grownBy w1 Option.none) :
    St w.heap.size w1.heap.size w (((((w1.alloc (.cells (arr8 .u64 fun _ => 0) 44)).alloc (.cells (arr8 .u64 fun _ => 0) 44)).alloc (.cells (arr8 .i64 fun _ => 0) 45)).alloc (.cells (arr8 .i64 fun _ => 0) 45)).alloc (.cells (arr8 .i64 fun _ => 0) 45)) 0 false false (fun _ => 0) (fun _ => 0) (fun _ => 0) (fun _ => 0) (fun _ => 0) := by
  have hsz : w.heap.size + 1 ≤ w1.heap.size := by simpa using hg.size
  have ht : TailIs w1 w.heap.size (0 : Nat) false false (fun _ => 0) (fun _ => 0) (fun _ => 0) (fun _ => 0) (fun _ => 0) :=
    ⟨_, (hg.block w.heap.size (by simp) (by simp)).trans (heap_alloc_new w _), z43⟩
  have hb : Below w.heap.size w w1 := ((Below.refl _ w).alloc (Nat.le_refl _) _).grown hg (by simp) (fun k hk => by cases hk)
  have a0 : A8 (w1.alloc (.cells (arr8 .u64 fun _ => 0) 44)) w1.heap.size 44 .u64 fun _ => 0 := heap_alloc_new _ _
  have a1 : A8 ((w1.alloc (.cells (arr8 .u64 fun _ => 0) 44)).alloc (.cells (arr8 .u64 fun _ => 0) 44)) (w1.heap.size + 1) 44 .u64 fun _ => 0 := by
    have := heap_alloc_new (w1.alloc (.cells (arr8 .u64 fun _ => 0) 44)) (.cells (arr8 .u64 fun _ => 0) 44); simpa [A8] using this
  have a2 : A8 (((w1.alloc (.cells (arr8 .u64 fun _ => 0) 44)).alloc (.cells (arr8 .u64 fun _ => 0) 44)).alloc (.cells (arr8 .i64 fun _ => 0) 45)) (w1.heap.size + 2) 45 .i64 fun _ => 0 := by
    have := heap_alloc_new ((w1.alloc (.cells (arr8 .u64 fun _ => 0) 44)).alloc (.cells (arr8 .u64 fun _ => 0) 44)) (.cells (arr8 .i64 fun _ => 0) 45); simpa [A8] using this
  have a3 : A8 ((((w1.alloc (.cells (arr8 .u64 fun _ => 0) 44)).alloc (.cells (arr8 .u64 fun _ => 0) 44)).alloc (.cells (arr8 .i64 fun _ => 0) 45)).alloc (.cells (arr8 .i64 fun _ => 0) 45)) (w1.heap.size + 3) 45 .i64 fun _ => 0 := by
    have := heap_alloc_new (((w1.alloc (.cells (arr8 .u64 fun _ => 0) 44)).alloc (.cells (arr8 .u64 fun _ => 0) 44)).alloc (.cells (arr8 .i64 fun _ => 0) 45)) (.cells (arr8 .i64 fun _ => 0) 45); simpa [A8] using this
  have a4 : A8 (((((w1.alloc (.cells (arr8 .u64 fun _ => 0) 44)).alloc (.cells (arr8 .u64 fun _ => 0) 44)).alloc (.cells (arr8 .i64 fun _ => 0) 45)).alloc (.cells (arr8 .i64 fun _ => 0) 45)).alloc (.cells (arr8 .i64 fun _ => 0) 45)) (w1.heap.size + 4) 45 .i64 fun _ => 0 := by
    have := heap_alloc_new ((((w1.alloc (.cells (arr8 .u64 fun _ => 0) 44)).alloc (.cells (arr8 .u64 fun _ => 0) 44)).alloc (.cells (arr8 .i64 fun _ => 0) 45)).alloc (.cells (arr8 .i64 fun _ => 0) 45)) (.cells (arr8 .i64 fun _ => 0) 45); simpa [A8] using this
  exact ⟨(((((ht.alloc _).alloc _).alloc _).alloc _).alloc _), (((a0.alloc _).alloc _).alloc _).alloc _, ((a1.alloc _).alloc _).alloc _, (a2.alloc _).alloc _, a3.alloc _, a4, by omega, (by intro h; cases h), fun _ _ _ => ⟨rfl, rfl, rfl, rfl, rfl⟩,
    ((((hb.alloc (by omega) _).alloc (by simp; omega) _).alloc (by simp; omega) _).alloc (by simp; omega) _).alloc (by simp; omega) _⟩

theorem push_modify {α : Type} (a : Array α) (x : α) (f : α → α) : (a.push x).modify a.size f = a.push (f x) := by
  apply Array.ext_getElem?
  intro i
  rw [Array.getElem?_modify, Array.getElem?_push, Array.getElem?_push]
  by_cases h : i = a.size
  · subst h; simp
  · rw [if_neg (by omega), if_neg h, if_neg h]

theorem setRow_alloc (W : World) (old cells : Array Value) (t : TypeId) : (W.alloc (.cells old t)).setRow W.heap.size cells = W.alloc (.cells cells t) := by
  show ({ (W.alloc (.cells old t)) with heap := (W.heap.push (.cells old t)).modify W.heap.size _ } : World) = { W with heap := W.heap.push (.cells cells t) }
  rw [push_modify]
  rfl

theorem st53 (W : World) (o : Obj) (up md : Int) (b N kk : Nat) : (storeVar 53 ⟨W.heap.size + 1, 0, Option.none⟩ (.agg #[.int .u64 up, .slice Option.none 0 0, .int .u64 md, .int .u8 0, .int .u8 0, .int .u8 0, .int .u8 0, .int .u8 0, .int .u8 0, .int .u8 0, .int .u8 0, .int .u8 0, .int .u8 0, .int .u8 0, .int .u8 0, .int .u8 0, .int .u8 0, .int .u8 0, .int .u8 0, .slice (some ⟨b, 0, Option.none⟩) kk N])).run Yba.prog ((W.alloc o).alloc (.cells #[.int .u64 0, .slice Option.none 0 0, .int .u64 0, .int .u8 0, .int .u8 0, .int .u8 0, .int .u8 0, .int .u8 0, .int .u8 0, .int .u8 0, .int .u8 0, .int .u8 0, .int .u8 0, .int .u8 0, .int .u8 0, .int .u8 0, .int .u8 0, .int .u8 0, .int .u8 0, .slice Option.none 0 0] 53)).drew = .ok () ((W.alloc o).alloc (.cells #[.int .u64 up, .slice Option.none 0 0, .int .u64 md, .int .u8 0, .int .u8 0, .int .u8 0, .int .u8 0, .int .u8 0, .int .u8 0, .int .u8 0, .int .u8 0, .int .u8 0, .int .u8 0, .int .u8 0, .int .u8 0, .int .u8 0, .int .u8 0, .int .u8 0, .int .u8 0, .slice (some ⟨b, 0, Option.none⟩) kk N] 53)).drew := by
  have hs : (W.alloc o).heap.size = W.heap.size + 1 := by simp
  have h := run_storeVar_row (P := Yba.prog) ((W.alloc o).alloc (.cells #[.int .u64 0, .slice Option.none 0 0, .int .u64 0, .int .u8 0, .int .u8 0, .int .u8 0, .int .u8 0, .int .u8 0, .int .u8 0, .int .u8 0, .int .u8 0, .int .u8 0, .int .u8 0, .int .u8 0, .int .u8 0, .int .u8 0, .int .u8 0, .int .u8 0, .int .u8 0, .slice Option.none 0 0] 53)).drew (W.heap.size + 1) 53 53 #[.int .u64 0, .slice Option.none 0 0, .int .u64 0, .int .u8 0, .int .u8 0, .int .u8 0, .int .u8 0, .int .u8 0, .int .u8 0, .int .u8 0, .int .u8 0, .int .u8 0, .int .u8 0, .int .u8 0, .int .u8 0, .int .u8 0, .int .u8 0, .int .u8 0, .int .u8 0, .slice Option.none 0 0] #[.int .u64 up, .slice Option.none 0 0, .int .u64 md, .int .u8 0, .int .u8 0, .int .u8 0, .int .u8 0, .int .u8 0, .int .u8 0, .int .u8 0, .int .u8 0, .int .u8 0, .int .u8 0, .int .u8 0, .int .u8 0, .int .u8 0, .int .u8 0, .int .u8 0, .int .u8 0, .slice (some ⟨b, 0, Option.none⟩) kk N] (by rw [← hs]; exact heap_alloc_new (W.alloc o) _) (by kernel_rfl) rfl (by simp [Value.oneCell'])
  have h2 := setRow_alloc (W.alloc o) #[.int .u64 0, .slice Option.none 0 0, .int .u64 0, .int .u8 0, .int .u8 0, .int .u8 0, .int .u8 0, .int .u8 0, .int .u8 0, .int .u8 0, .int .u8 0, .int .u8 0, .int .u8 0, .int .u8 0, .int .u8 0, .int .u8 0, .int .u8 0, .int .u8 0, .int .u8 0, .slice Option.none 0 0] #[.int .u64 up, .slice Option.none 0 0, .int .u64 md, .int .u8 0, .int .u8 0, .int .u8 0, .int .u8 0, .int .u8 0, .int .u8 0, .int .u8 0, .int .u8 0, .int .u8 0, .int .u8 0, .int .u8 0, .int .u8 0, .int .u8 0, .int .u8 0, .int .u8 0, .int .u8 0, .slice (some ⟨b, 0, Option.none⟩) kk N] 53
  rw [hs] at h2
  exact h.trans (congrArg (fun x => Result.ok () (World.drew x)) h2)

theorem ld53 (W : World) (o : Obj) (up md : Int) (b N kk : Nat) : (loadVar 53 ⟨W.heap.size + 1, 0, Option.none⟩).run Yba.prog ((W.alloc o).alloc (.cells #[.int .u64 up, .slice Option.none 0 0, .int .u64 md, .int .u8 0, .int .u8 0, .int .u8 0, .int .u8 0, .int .u8 0, .int .u8 0, .int .u8 0, .int .u8 0, .int .u8 0, .int .u8 0, .int .u8 0, .int .u8 0, .int .u8 0, .int .u8 0, .int .u8 0, .int .u8 0, .slice (some ⟨b, 0, Option.none⟩) kk N] 53)).drew = .ok (.agg #[.int .u64 up, .slice Option.none 0 0, .int .u64 md, .int .u8 0, .int .u8 0, .int .u8 0, .int .u8 0, .int .u8 0, .int .u8 0, .int .u8 0, .int .u8 0, .int .u8 0, .int .u8 0, .int .u8 0, .int .u8 0, .int .u8 0, .int .u8 0, .int .u8 0, .int .u8 0, .slice (some ⟨b, 0, Option.none⟩) kk N]) ((W.alloc o).alloc (.cells #[.int .u64 up, .slice Option.none 0 0, .int .u64 md, .int .u8 0, .int .u8 0, .int .u8 0, .int .u8 0, .int .u8 0, .int .u8 0, .int .u8 0, .int .u8 0, .int .u8 0, .int .u8 0, .int .u8 0, .int .u8 0, .int .u8 0, .int .u8 0, .int .u8 0, .int .u8 0, .slice (some ⟨b, 0, Option.none⟩) kk N] 53)).drew := by
  have hs : (W.alloc o).heap.size = W.heap.size + 1 := by simp
  exact run_loadVar_row (P := Yba.prog) ((W.alloc o).alloc (.cells #[.int .u64 up, .slice Option.none 0 0, .int .u64 md, .int .u8 0, .int .u8 0, .int .u8 0, .int .u8 0, .int .u8 0, .int .u8 0, .int .u8 0, .int .u8 0, .int .u8 0, .int .u8 0, .int .u8 0, .int .u8 0, .int .u8 0, .int .u8 0, .int .u8 0, .int .u8 0, .slice (some ⟨b, 0, Option.none⟩) kk N] 53)).drew (W.heap.size + 1) 53 53 #[.int .u64 up, .slice Option.none 0 0, .int .u64 md, .int .u8 0, .int .u8 0, .int .u8 0, .int .u8 0, .int .u8 0, .int .u8 0, .int .u8 0, .int .u8 0, .int .u8 0, .int .u8 0, .int .u8 0, .int .u8 0, .int .u8 0, .int .u8 0, .int .u8 0, .int .u8 0, .slice (some ⟨b, 0, Option.none⟩) kk N] (0, 0) _ (by rw [← hs]; exact heap_alloc_new (W.alloc o) _) Yba.underlying53 rfl (by kernel_rfl)

/-! Twenty cells stored or loaded at once: the walk's own rules, cell by cell, make proofs that the kernel cannot check; so the whole operation is met by one rule. -/
def exStore53 (p v : Value) : Sem Next := do Instr.storeAt 53 p v; pure .skip
def exLoad53 (p : Value) : Sem Next := do pure (.value (← Instr.loadAt 53 p))
theorem exec_store53 (ρ : Operand → Value) (dst : Option Tmp) (x y : Operand) (ty : TypeId) (pos : String) (after : Array Edge) (guard : Option (Nat × Bool)) :
    execOp ρ { dst := dst, op := Op.store 53 x y, type := ty, pos := pos, after := after, guard := guard } = exStore53 (ρ x) (ρ y) := rfl
theorem exec_load53 (ρ : Operand → Value) (dst : Option Tmp) (x : Operand) (ty : TypeId) (pos : String) (after : Array Edge) (guard : Option (Nat × Bool)) :
    execOp ρ { dst := dst, op := Op.load 53 x, type := ty, pos := pos, after := after, guard := guard } = exLoad53 (ρ x) := rfl
theorem run_exStore53 (W : World) (o : Obj) (up md : Int) (b N kk : Nat) : (exStore53 (.pointer (some ⟨W.heap.size + 1, 0, Option.none⟩)) (.agg #[.int .u64 up, .slice Option.none 0 0, .int .u64 md, .int .u8 0, .int .u8 0, .int .u8 0, .int .u8 0, .int .u8 0, .int .u8 0, .int .u8 0, .int .u8 0, .int .u8 0, .int .u8 0, .int .u8 0, .int .u8 0, .int .u8 0, .int .u8 0, .int .u8 0, .int .u8 0, .slice (some ⟨b, 0, Option.none⟩) kk N])).run Yba.prog ((W.alloc o).alloc (.cells #[.int .u64 0, .slice Option.none 0 0, .int .u64 0, .int .u8 0, .int .u8 0, .int .u8 0, .int .u8 0, .int .u8 0, .int .u8 0, .int .u8 0, .int .u8 0, .int .u8 0, .int .u8 0, .int .u8 0, .int .u8 0, .int .u8 0, .int .u8 0, .int .u8 0, .int .u8 0, .slice Option.none 0 0] 53)).drew = .ok .skip ((W.alloc o).alloc (.cells #[.int .u64 up, .slice Option.none 0 0, .int .u64 md, .int .u8 0, .int .u8 0, .int .u8 0, .int .u8 0, .int .u8 0, .int .u8 0, .int .u8 0, .int .u8 0, .int .u8 0, .int .u8 0, .int .u8 0, .int .u8 0, .int .u8 0, .int .u8 0, .int .u8 0, .int .u8 0, .slice (some ⟨b, 0, Option.none⟩) kk N] 53)).drew := by
  unfold exStore53 Instr.storeAt Instr.sureAddr
  simp only [Sem.run_bind, Sem.run_pure, Result.andThen_ok, st53]
theorem run_exLoad53 (W : World) (o : Obj) (up md : Int) (b N kk : Nat) : (exLoad53 (.pointer (some ⟨W.heap.size + 1, 0, Option.none⟩))).run Yba.prog ((W.alloc o).alloc (.cells #[.int .u64 up, .slice Option.none 0 0, .int .u64 md, .int .u8 0, .int .u8 0, .int .u8 0, .int .u8 0, .int .u8 0, .int .u8 0, .int .u8 0, .int .u8 0, .int .u8 0, .int .u8 0, .int .u8 0, .int .u8 0, .int .u8 0, .int .u8 0, .int .u8 0, .int .u8 0, .slice (some ⟨b, 0, Option.none⟩) kk N] 53)).drew = .ok (.value (.agg #[.int .u64 up, .slice Option.none 0 0, .int .u64 md, .int .u8 0, .int .u8 0, .int .u8 0, .int .u8 0, .int .u8 0, .int .u8 0, .int .u8 0, .int .u8 0, .int .u8 0, .int .u8 0, .int .u8 0, .int .u8 0, .int .u8 0, .int .u8 0, .int .u8 0, .int .u8 0, .slice (some ⟨b, 0, Option.none⟩) kk N])) ((W.alloc o).alloc (.cells #[.int .u64 up, .slice Option.none 0 0, .int .u64 md, .int .u8 0, .int .u8 0, .int .u8 0, .int .u8 0, .int .u8 0, .int .u8 0, .int .u8 0, .int .u8 0, .int .u8 0, .int .u8 0, .int .u8 0, .int .u8 0, .int .u8 0, .int .u8 0, .int .u8 0, .int .u8 0, .slice (some ⟨b, 0, Option.none⟩) kk N] 53)).drew := by
  unfold exLoad53 Instr.loadAt Instr.sureAddr
  simp only [Sem.run_bind, Sem.run_pure, Result.andThen_ok, ld53]


theorem Only.cell {g : Nat} {w w' : World} (h : Only g w w') {k o : Nat} (hk : k < w.heap.size) (hg : k ≠ g) : w'.cell? ⟨k, o, Option.none⟩ = w.cell? ⟨k, o, Option.none⟩ :=
  World.cell?_of_block (h.block k hk hg)

section
variable {B G : Nat} {w W w2 : World} {n : Nat} {wt mr : Bool} {F U L H Th : Nat → Int}

theorem St.same (h : St B G w W n wt mr F U L H Th) (hBG : B < G) (ho : Only B W w2) (wt' mr' : Bool) (hp : wt' = true → wt = true) (ht : TailIs w2 B n wt' mr' F U L H Th) : St B G w w2 n wt' mr' F U L H Th :=
  ⟨ht, h.mf.only ho (by omega), h.mu.only ho (by omega), h.ml.only ho (by omega), h.mh.only ho (by omega), h.mt.only ho (by omega), h.n8, fun e => h.pos (hp e), h.zero, h.below.trans (ho.below (Nat.le_refl _) (by have := h.tail.lt; omega))⟩

theorem St.later (h : St B G w W n wt mr F U L H Th) (hb : Below W.heap.size W w2) : St B G w w2 n wt mr F U L H Th := by
  have ht := h.tail.lt
  refine ⟨h.tail.of_block (hb.block B ht), (hb.block _ (lt_at h.mf)).trans h.mf, (hb.block _ (lt_at h.mu)).trans h.mu, (hb.block _ (lt_at h.ml)).trans h.ml, (hb.block _ (lt_at h.mh)).trans h.mh, (hb.block _ (lt_at h.mt)).trans h.mt, h.n8, h.pos, h.zero, h.below.trans (hb.mono (by omega))⟩

theorem upd_ne (f : Nat → Int) (m : Nat) (x : Int) (i : Nat) (h : i ≠ m) : upd f m x i = f i := by simp [upd, h]

theorem St.opened (h : St B G w W n false mr F U L H Th) (hBG : B < G) (hn : n < 8) (ho : Only B W w2) (fr up lo hi x : Int)
    (ht : TailIs w2 B ((n : Int) + 1) true mr (upd F n fr) (upd U n up) (upd L n lo) (upd H n hi) (upd Th n x)) :
    St B G w ((((((w2.setCell ⟨G, n, Option.none⟩ (.int .u64 fr)).setCell ⟨G + 1 + 1, n, Option.none⟩ (.int .i64 lo)).setCell ⟨G + 1 + 1 + 1 + 1, n, Option.none⟩ (.int .i64 0)).setCell ⟨G + 1, n, Option.none⟩ (.int .u64 up)).setCell ⟨G + 1 + 1 + 1, n, Option.none⟩ (.int .i64 hi)).setCell ⟨G + 1 + 1 + 1 + 1, n, Option.none⟩ (.int .i64 x)) (n + 1) true mr (upd F n fr) (upd U n up) (upd L n lo) (upd H n hi) (upd Th n x) := by
  have mf := h.mf.only ho (by omega); have mu := h.mu.only ho (by omega); have ml := h.ml.only ho (by omega); have mh := h.mh.only ho (by omega); have mt := h.mt.only ho (by omega)
  have hb := h.below.trans (ho.below (Nat.le_refl _) (by have := h.tail.lt; omega))
  refine ⟨?_, ?_, ?_, ?_, ?_, ?_, by omega, fun _ => by omega, ?_, ?_⟩
  · exact (((((ht.other (by omega) _ _).other (by omega) _ _).other (by omega) _ _).other (by omega) _ _).other (by omega) _ _).other (by omega) _ _
  · exact ((((((mf.set n hn fr).other (by omega) _ _).other (by omega) _ _).other (by omega) _ _).other (by omega) _ _).other (by omega) _ _)
  · exact (((((mu.other (by omega) _ _).other (by omega) _ _).other (by omega) _ _).set n hn up).other (by omega) _ _).other (by omega) _ _
  · exact (((((ml.other (by omega) _ _).set n hn lo).other (by omega) _ _).other (by omega) _ _).other (by omega) _ _).other (by omega) _ _
  · exact (((((mh.other (by omega) _ _).other (by omega) _ _).other (by omega) _ _).other (by omega) _ _).set n hn hi).other (by omega) _ _
  · have := (((((mt.other (b' := G) (by omega) n (.int .u64 fr)).other (b' := G + 1 + 1) (by omega) n (.int .i64 lo)).set n hn 0).other (b' := G + 1) (by omega) n (.int .u64 up)).other (b' := G + 1 + 1 + 1) (by omega) n (.int .i64 hi)).set n hn x
    rw [upd_upd] at this
    exact this
  · intro i hi1 hi2
    have := h.zero i (by omega) hi2
    rw [upd_ne _ _ _ _ (by omega), upd_ne _ _ _ _ (by omega), upd_ne _ _ _ _ (by omega), upd_ne _ _ _ _ (by omega), upd_ne _ _ _ _ (by omega)]
    exact this
  · exact (((((hb.setCell (p := ⟨G, n, Option.none⟩) (Nat.le_of_lt hBG) _).setCell (p := ⟨G + 1 + 1, n, Option.none⟩) (by show B ≤ G + 1 + 1; omega) _).setCell (p := ⟨G + 1 + 1 + 1 + 1, n, Option.none⟩) (by show B ≤ G + 1 + 1 + 1 + 1; omega) _).setCell (p := ⟨G + 1, n, Option.none⟩) (by show B ≤ G + 1; omega) _).setCell (p := ⟨G + 1 + 1 + 1, n, Option.none⟩) (by show B ≤ G + 1 + 1 + 1; omega) _).setCell (p := ⟨G + 1 + 1 + 1 + 1, n, Option.none⟩) (by show B ≤ G + 1 + 1 + 1 + 1; omega) _

theorem St.goneOn (h : St B G w W (n + 1) true mr F U L H Th) (hBG : B < G) (hn : n < 8) (ho : Only B W w2) (up hi : Int)
    (Th' : Nat → Int) (ht : TailIs w2 B ((n : Int) + 1) true mr F (upd U n up) L (upd H n hi) Th') (hT : A8 w2 (G+4) 45 .i64 Th') (hz : ∀ i, n + 1 ≤ i → i < 8 → Th' i = 0) :
    St B G w ((w2.setCell ⟨G + 1, n, Option.none⟩ (.int .u64 up)).setCell ⟨G + 1 + 1 + 1, n, Option.none⟩ (.int .i64 hi)) (n + 1) true mr F (upd U n up) L (upd H n hi) Th' := by
  have mf := h.mf.only ho (by omega); have mu := h.mu.only ho (by omega); have ml := h.ml.only ho (by omega); have mh := h.mh.only ho (by omega)
  have hb := h.below.trans (ho.below (Nat.le_refl _) (by have := h.tail.lt; omega))
  refine ⟨?_, ?_, ?_, ?_, ?_, ?_, by omega, fun _ => by omega, ?_, ?_⟩
  · exact (ht.other (by omega) _ _).other (by omega) _ _
  · exact (mf.other (by omega) _ _).other (by omega) _ _
  · exact (mu.set n hn up).other (by omega) _ _
  · exact (ml.other (by omega) _ _).other (by omega) _ _
  · exact (mh.other (by omega) _ _).set n hn hi
  · exact (hT.other (by omega) _ _).other (by omega) _ _
  · intro i hi1 hi2
    obtain ⟨z1, z2, z3, z4, z5⟩ := h.zero i (by omega) hi2
    rw [upd_ne _ _ _ _ (by omega), upd_ne _ _ _ _ (by omega)]
    exact ⟨z1, z2, z3, z4, hz i hi1 hi2⟩
  · exact (hb.setCell (p := ⟨G + 1, n, Option.none⟩) (by show B ≤ G + 1; omega) _).setCell (p := ⟨G + 1 + 1 + 1, n, Option.none⟩) (by show B ≤ G + 1 + 1 + 1; omega) _

theorem St.goneOnTh (h : St B G w W (n + 1) true mr F U L H Th) (hBG : B < G) (hn : n < 8) (ho : Only B W w2) (up hi x : Int)
    (ht : TailIs w2 B ((n : Int) + 1) true mr F (upd U n up) L (upd H n hi) (upd Th n x)) :
    St B G w (((w2.setCell ⟨G + 1, n, Option.none⟩ (.int .u64 up)).setCell ⟨G + 1 + 1 + 1, n, Option.none⟩ (.int .i64 hi)).setCell ⟨G + 1 + 1 + 1 + 1, n, Option.none⟩ (.int .i64 x)) (n + 1) true mr F (upd U n up) L (upd H n hi) (upd Th n x) := by
  have mf := h.mf.only ho (by omega); have mu := h.mu.only ho (by omega); have ml := h.ml.only ho (by omega); have mh := h.mh.only ho (by omega); have mt := h.mt.only ho (by omega)
  have hb := h.below.trans (ho.below (Nat.le_refl _) (by have := h.tail.lt; omega))
  refine ⟨?_, ?_, ?_, ?_, ?_, ?_, by omega, fun _ => by omega, ?_, ?_⟩
  · exact ((ht.other (by omega) _ _).other (by omega) _ _).other (by omega) _ _
  · exact ((mf.other (by omega) _ _).other (by omega) _ _).other (by omega) _ _
  · exact ((mu.set n hn up).other (by omega) _ _).other (by omega) _ _
  · exact ((ml.other (by omega) _ _).other (by omega) _ _).other (by omega) _ _
  · exact ((mh.other (by omega) _ _).set n hn hi).other (by omega) _ _
  · exact ((mt.other (by omega) _ _).other (by omega) _ _).set n hn x
  · intro i hi1 hi2
    obtain ⟨z1, z2, z3, z4, z5⟩ := h.zero i (by omega) hi2
    rw [upd_ne _ _ _ _ (by omega), upd_ne _ _ _ _ (by omega), upd_ne _ _ _ _ (by omega)]
    exact ⟨z1, z2, z3, z4, z5⟩
  · exact ((hb.setCell (p := ⟨G + 1, n, Option.none⟩) (by show B ≤ G + 1; omega) _).setCell (p := ⟨G + 1 + 1 + 1, n, Option.none⟩) (by show B ≤ G + 1 + 1 + 1; omega) _).setCell (p := ⟨G + 1 + 1 + 1 + 1, n, Option.none⟩) (by show B ≤ G + 1 + 1 + 1 + 1; omega) _
end

end Go.Proofs.Ybulkqhs
