import Derived.Test.YbulkqhsB18
import Derived.Deep.RegionWith
import Derived.Deep.RegionLaw
namespace Go.Proofs.Ybulkqhs
open Go.RowKit
set_option linter.unusedVariables false
attribute [local go_sem ↓] exec_store34 exec_load34 exec_box34
attribute [local go_sem] run_box34 eql34_run neq34_run guard34

/-! ### A node: 41 cells -/
def tail8 (N c : Nat) (v cv : Value) : List Value := [.int .u64 (wd N 0), .int .u64 (wd N 1), .int .u64 (wd N 2), .int .u64 (wd N 3), .int .i64 c, v, cv, .int .u32 0]
def nc (f N c : Nat) (v cv : Value) : Array Value := (rl f ++ tail8 N c v cv).toArray
def nv (f N c : Nat) (v cv : Value) : Value := .agg (nc f N c v cv)
def nilS : Value := .slice none 0 0

def exBuild78 (ps : Array (Nat × Value)) : Sem Next := do pure (.value (← Instr.build 78 ps))
def exBox78 (v : Value) : Sem Next := do pure (.value (← Instr.box 78 v))
def exLoad70 (p : Value) : Sem Next := do pure (.value (← Instr.loadAt 70 p))
theorem exec_build78 (ρ : Operand → Value) (dst : Option Tmp) (ps : Array (Nat × Operand)) (ty : TypeId) (pos : String) (after : Array Edge) (guard : Option (Nat × Bool)) :
    execOp ρ { dst := dst, op := Op.build 78 ps, type := ty, pos := pos, after := after, guard := guard } = exBuild78 (ps.map fun q => (q.1, ρ q.2)) := rfl
theorem exec_box78 (ρ : Operand → Value) (dst : Option Tmp) (x : Operand) (ty : TypeId) (pos : String) (after : Array Edge) (guard : Option (Nat × Bool)) :
    execOp ρ { dst := dst, op := Op.box 78 x, type := ty, pos := pos, after := after, guard := guard } = exBox78 (ρ x) := rfl
theorem exec_load70 (ρ : Operand → Value) (dst : Option Tmp) (x : Operand) (ty : TypeId) (pos : String) (after : Array Edge) (guard : Option (Nat × Bool)) :
    execOp ρ { dst := dst, op := Op.load 70 x, type := ty, pos := pos, after := after, guard := guard } = exLoad70 (ρ x) := rfl
theorem run_box78 (w : World) (f N c : Nat) (v cv : Value) : (exBox78 (nv f N c v cv)).run Yba.prog w = .ok (.value (.pointer (some ⟨w.heap.size, 0, none⟩))) (w.alloc (.cells (nc f N c v cv) 78)) := rfl

theorem put_from (off : Nat) : ∀ (X A B C : List Value) (k : Nat), A.length = off + k → X.length = B.length →
    (X.zipIdx k).foldl (fun (cs : Array Value) (q : Value × Nat) => cs.setIfInBounds (off + q.2) q.1) (A ++ B ++ C).toArray = (A ++ X ++ C).toArray
  | [], A, B, C, k, hA, hX => by
    have : B = [] := List.eq_nil_of_length_eq_zero hX.symm
    subst this
    simp
  | x :: X, A, [], C, k, hA, hX => by simp at hX
  | x :: X, A, b :: B, C, k, hA, hX => by
    have h := put_from off X (A ++ [x]) B C (k + 1) (by simp [hA]; omega) (by simpa using hX)
    rw [List.zipIdx_cons, List.foldl_cons]
    have hset : (A ++ b :: B ++ C).toArray.setIfInBounds (off + k) x = (A ++ [x] ++ B ++ C).toArray := by
      rw [← hA]
      simp
    rw [hset, h]
    simp
theorem put_mid (off : Nat) (X : Array Value) (A B C : List Value) (hA : A.length = off) (hX : X.size = B.length) :
    X.zipIdx.foldl (fun (cs : Array Value) (q : Value × Nat) => cs.setIfInBounds (off + q.2) q.1) (A ++ B ++ C).toArray = (A ++ X.toList ++ C).toArray := by
  have h := put_from off X.toList A B C 0 (by omega) (by simpa using hX)
  rw [← h, ← Array.foldl_toList]
  simp

theorem fill_step (place : Nat → Option (Nat × Nat)) (i off n : Nat) (v : Value) (X : Array Value) (hv : v.cells = X) (hn : X.size = n) (rest : List (Nat × Value)) (cells : Array Value) (A B C : List Value) (hc : cells = (A ++ B ++ C).toArray) (hA : A.length = off) (hB : B.length = n)
    (hp : place i = some (off, n)) : Instr.fill place cells ((i, v) :: rest) = Instr.fill place (A ++ X.toList ++ C).toArray rest := by
  subst hc
  rw [Instr.fill, hp]
  simp only [hv]
  rw [if_neg (by simp [hn, ← hA, ← hB])]
  congr 1
  exact put_mid off X A B C hA (by omega)

theorem zero78 : (#[Value.int IntKind.u64 0, Value.int IntKind.u8 0, Value.int IntKind.u8 0, Value.int IntKind.u8 0,
          Value.int IntKind.u8 0, Value.int IntKind.u8 0, Value.int IntKind.u8 0, Value.int IntKind.u8 0,
          Value.int IntKind.u8 0, Value.int IntKind.u8 0, Value.int IntKind.u8 0, Value.int IntKind.u8 0,
          Value.int IntKind.u8 0, Value.int IntKind.u8 0, Value.int IntKind.u8 0, Value.int IntKind.u8 0,
          Value.int IntKind.u8 0, Value.int IntKind.u8 0, Value.int IntKind.u8 0, Value.int IntKind.u8 0,
          Value.int IntKind.u8 0, Value.int IntKind.u8 0, Value.int IntKind.u8 0, Value.int IntKind.u8 0,
          Value.int IntKind.u8 0, Value.int IntKind.u8 0, Value.int IntKind.u8 0, Value.int IntKind.u8 0,
          Value.int IntKind.u8 0, Value.int IntKind.u8 0, Value.int IntKind.u8 0, Value.int IntKind.u8 0,
          Value.int IntKind.u8 0, Value.int IntKind.u64 0, Value.int IntKind.u64 0, Value.int IntKind.u64 0,
          Value.int IntKind.u64 0, Value.int IntKind.i64 0, Value.slice none 0 0, Value.slice none 0 0,
          Value.int IntKind.u32 0] : Array Value) = nc 0 0 0 nilS nilS := by rfl

def places78 : Array (Nat × Nat) := #[(0, 33), (33, 5), (38, 1), (39, 1), (40, 1)]
theorem build78 (w : World) (ps : Array (Nat × Value)) (cells : Array Value) (h : Instr.fill (places78[·]?) (nc 0 0 0 nilS nilS) ps.toList = some cells) : (exBuild78 ps).run Yba.prog w = .ok (.value (.agg cells)) w := by
  have hz := Yba.zeroValue78 w
  have hu := Yba.underlying78
  have h34 := Yba.sizeOf34; have h70 := Yba.sizeOf70; have h56 := Yba.sizeOf56; have h71 := Yba.sizeOf71; have h76 := Yba.sizeOf76
  rw [zero78] at hz
  simp only [exBuild78, Instr.build, Sem.run_bind, hz, Result.andThen_ok, run_underlying hu]
  have hm : ∀ w, (Array.mapM (fun (f : Field) => do pure (f.offset, ← sizeOf f.type)) (Yba.prog.fieldsOf 78)).run Yba.prog w = .ok places78 w := by
    intro w
    simp only [Program.fieldsOf, hu, Array.mapM_eq_mapM_toList, List.mapM_cons, List.mapM_nil, map_eq_pure_bind, Sem.run_bind, Sem.run_pure, h34, h70, h56, h71, h76, Result.andThen_ok]
    rfl
  simp only [Program.fieldsOf, hu] at hm
  simp only [Value.cells, hm, Result.andThen_ok, h, Sem.run_pure]

/-- The parts of a node's cells. -/
theorem nc_split (f N c : Nat) (v cv : Value) : nc f N c v cv = (rl f ++ tail8 N c v cv).toArray := rfl
theorem run_build_leaf (w : World) (f N c : Nat) (v : Value) (hv : v.cells = #[v]) : (exBuild78 #[(0, rv f), (1, sv N c), (2, v)]).run Yba.prog w = .ok (.value (nv f N c v nilS)) w := by
  refine build78 w _ _ ?_
  refine Eq.trans (fill_step _ 0 0 33 (rv f) (rl f).toArray rfl (rl_size f) _ _ [] (rl 0) (tail8 0 0 nilS nilS) rfl rfl (rl_len 0) rfl) ?_
  refine Eq.trans (fill_step _ 1 33 5 (sv N c) _ rfl rfl _ _ (rl f) [.int .u64 (wd 0 0), .int .u64 (wd 0 1), .int .u64 (wd 0 2), .int .u64 (wd 0 3), .int .i64 0] [nilS, nilS, .int .u32 0] rfl (rl_len f) rfl rfl) ?_
  refine Eq.trans (fill_step _ 2 38 1 v _ hv rfl _ _ (rl f ++ [.int .u64 (wd N 0), .int .u64 (wd N 1), .int .u64 (wd N 2), .int .u64 (wd N 3), .int .i64 c]) [nilS] [nilS, .int .u32 0] (by simp [sv, Value.cells]) (by simp [rl_len]) rfl rfl) ?_
  simp [Instr.fill, nc, tail8]
theorem run_build_inner (w : World) (f : Nat) (cv : Value) (hv : cv.cells = #[cv]) : (exBuild78 #[(0, rv f), (3, cv)]).run Yba.prog w = .ok (.value (nv f 0 0 nilS cv)) w := by
  refine build78 w _ _ ?_
  refine Eq.trans (fill_step _ 0 0 33 (rv f) (rl f).toArray rfl (rl_size f) _ _ [] (rl 0) (tail8 0 0 nilS nilS) rfl rfl (rl_len 0) rfl) ?_
  refine Eq.trans (fill_step _ 3 39 1 cv _ hv rfl _ _ (rl f ++ [.int .u64 (wd 0 0), .int .u64 (wd 0 1), .int .u64 (wd 0 2), .int .u64 (wd 0 3), .int .i64 0, nilS]) [nilS] [.int .u32 0] (by simp [tail8]) (by simp [rl_len]) rfl rfl) ?_
  simp [Instr.fill, nc, tail8]
theorem run_build_empty (w : World) : (exBuild78 #[]).run Yba.prog w = .ok (.value (nv 0 0 0 nilS nilS)) w := build78 w _ _ rfl

/-- A node's block. -/
def NB (w : World) (p f N c : Nat) (v cv : Value) : Prop := w.heap[p]? = some (.cells (nc f N c v cv) 78 (0, 0))
theorem nc_get (f N c : Nat) (v cv : Value) (j : Nat) (u : Value) (h : (tail8 N c v cv)[j]? = some u) : (nc f N c v cv)[33 + j]? = some u := by
  rw [nc, List.getElem?_toArray, List.getElem?_append_right (by rw [rl_len]; omega), rl_len, show 33 + j - 33 = j by omega]
  exact h
theorem NB.recs {w : World} {p f N c : Nat} {v cv : Value} (h : NB w p f N c v cv) : w.cell? ⟨p, 38, none⟩ = some v := cellB h (nc_get f N c v cv 5 _ rfl)
theorem NB.kids {w : World} {p f N c : Nat} {v cv : Value} (h : NB w p f N c v cv) : w.cell? ⟨p, 39, none⟩ = some cv := cellB h (nc_get f N c v cv 6 _ rfl)
theorem NB.first {w : World} {p f N c : Nat} {v cv : Value} (h : NB w p f N c v cv) : RA w p 0 f := by
  intro j u hu
  refine cellB h ?_
  have hj : j < (rl f).length := (List.getElem?_eq_some_iff.1 hu).1
  rw [Nat.zero_add, nc, List.getElem?_toArray, List.getElem?_append_left hj]
  exact hu
theorem NB.sum {w : World} {p f N c : Nat} {v cv : Value} (h : NB w p f N c v cv) : (exLoad70 (.pointer (some ⟨p, 33, none⟩))).run Yba.prog w = .ok (.value (sv N c)) w := by
  have hr : w.rangeAt p 33 [.int .u64 (wd N 0), .int .u64 (wd N 1), .int .u64 (wd N 2), .int .u64 (wd N 3), .int .i64 c] := by
    intro j u hu
    refine cellB h (nc_get f N c v cv j u ?_)
    match j, hu with
    | 0, hu => exact hu
    | 1, hu => exact hu
    | 2, hu => exact hu
    | 3, hu => exact hu
    | 4, hu => exact hu
    | j + 5, hu => simp at hu
  unfold exLoad70
  simp only [Sem.run_bind, Sem.run_pure, Result.andThen_ok, run_loadAt_mid (P := Yba.prog) w p 33 70 _ _ hr Yba.underlying70 rfl (by kernel_rfl)]
  rfl
theorem NB.lt {w : World} {p f N c : Nat} {v cv : Value} (h : NB w p f N c v cv) : p < w.heap.size := ltB h
theorem NB.later {w w' : World} {p f N c : Nat} {v cv : Value} (h : NB w p f N c v cv) (hb : w'.heap[p]? = w.heap[p]?) : NB w' p f N c v cv := hb.trans h
end Go.Proofs.Ybulkqhs
