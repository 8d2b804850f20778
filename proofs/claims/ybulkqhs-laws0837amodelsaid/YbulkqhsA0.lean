import Derived.Test.YbulkqhsRows
import Derived.WalkKit
import Derived.WalkSpells
import Derived.WalkLawsBesides
namespace Go.Proofs.Ybulkqhs
open Go.RowKit

theorem hide {p : Prop} (h : p) : Hid p := h
theorem unhide {p : Prop} (h : Hid p) : p := h

/-! ### The lean tail's block: its eight runs, how many there are, the two marks. -/
def upd (f : Nat → Int) (n : Nat) (x : Int) : Nat → Int := fun i => if i = n then x else f i

structure Tail (cur : Array Value) (n : Int) (wt mr : Bool) (F U L H Th : Nat → Int) : Prop where
  size : cur.size = 156
  n_ : cur[153]? = some (.int .i64 n)
  w_ : cur[154]? = some (.bool wt)
  m_ : cur[155]? = some (.bool mr)
  f : ∀ i, i < 8 → cur[89 + i * 8]? = some (.int .u64 (F i))
  p1 : ∀ i, i < 8 → cur[89 + i * 8 + 1]? = some (.slice Option.none 0 0)
  u : ∀ i, i < 8 → cur[89 + i * 8 + 2]? = some (.int .u64 (U i))
  p3 : ∀ i, i < 8 → cur[89 + i * 8 + 3]? = some (.slice Option.none 0 0)
  r4 : ∀ i, i < 8 → cur[89 + i * 8 + 4]? = some (.nilIface)
  l : ∀ i, i < 8 → cur[89 + i * 8 + 5]? = some (.int .i64 (L i))
  h : ∀ i, i < 8 → cur[89 + i * 8 + 6]? = some (.int .i64 (H i))
  th : ∀ i, i < 8 → cur[89 + i * 8 + 7]? = some (.int .i64 (Th i))

section
variable {cur : Array Value} {n : Int} {wt mr : Bool} {F U L H Th : Nat → Int}
theorem Tail.setN (t : Tail cur n wt mr F U L H Th) (x : Int) : Tail (cur.setIfInBounds (153) (.int .i64 x)) x wt mr F U L H Th := by
  have hs := t.size
  constructor
  · rw [Array.size_setIfInBounds, hs]
  · rw [Array.getElem?_setIfInBounds, if_pos rfl, if_pos (by omega)]
  · rw [Array.getElem?_setIfInBounds, if_neg (by omega)]; exact t.w_
  · rw [Array.getElem?_setIfInBounds, if_neg (by omega)]; exact t.m_
  · intro i hi
    rw [Array.getElem?_setIfInBounds, if_neg (by omega)]; exact t.f i hi
  · intro i hi
    rw [Array.getElem?_setIfInBounds, if_neg (by omega)]; exact t.p1 i hi
  · intro i hi
    rw [Array.getElem?_setIfInBounds, if_neg (by omega)]; exact t.u i hi
  · intro i hi
    rw [Array.getElem?_setIfInBounds, if_neg (by omega)]; exact t.p3 i hi
  · intro i hi
    rw [Array.getElem?_setIfInBounds, if_neg (by omega)]; exact t.r4 i hi
  · intro i hi
    rw [Array.getElem?_setIfInBounds, if_neg (by omega)]; exact t.l i hi
  · intro i hi
    rw [Array.getElem?_setIfInBounds, if_neg (by omega)]; exact t.h i hi
  · intro i hi
    rw [Array.getElem?_setIfInBounds, if_neg (by omega)]; exact t.th i hi

theorem Tail.setW (t : Tail cur n wt mr F U L H Th) (x : Bool) : Tail (cur.setIfInBounds (154) (.bool x)) n x mr F U L H Th := by
  have hs := t.size
  constructor
  · rw [Array.size_setIfInBounds, hs]
  · rw [Array.getElem?_setIfInBounds, if_neg (by omega)]; exact t.n_
  · rw [Array.getElem?_setIfInBounds, if_pos rfl, if_pos (by omega)]
  · rw [Array.getElem?_setIfInBounds, if_neg (by omega)]; exact t.m_
  · intro i hi
    rw [Array.getElem?_setIfInBounds, if_neg (by omega)]; exact t.f i hi
  · intro i hi
    rw [Array.getElem?_setIfInBounds, if_neg (by omega)]; exact t.p1 i hi
  · intro i hi
    rw [Array.getElem?_setIfInBounds, if_neg (by omega)]; exact t.u i hi
  · intro i hi
    rw [Array.getElem?_setIfInBounds, if_neg (by omega)]; exact t.p3 i hi
  · intro i hi
    rw [Array.getElem?_setIfInBounds, if_neg (by omega)]; exact t.r4 i hi
  · intro i hi
    rw [Array.getElem?_setIfInBounds, if_neg (by omega)]; exact t.l i hi
  · intro i hi
    rw [Array.getElem?_setIfInBounds, if_neg (by omega)]; exact t.h i hi
  · intro i hi
    rw [Array.getElem?_setIfInBounds, if_neg (by omega)]; exact t.th i hi

theorem Tail.setM (t : Tail cur n wt mr F U L H Th) (x : Bool) : Tail (cur.setIfInBounds (155) (.bool x)) n wt x F U L H Th := by
  have hs := t.size
  constructor
  · rw [Array.size_setIfInBounds, hs]
  · rw [Array.getElem?_setIfInBounds, if_neg (by omega)]; exact t.n_
  · rw [Array.getElem?_setIfInBounds, if_neg (by omega)]; exact t.w_
  · rw [Array.getElem?_setIfInBounds, if_pos rfl, if_pos (by omega)]
  · intro i hi
    rw [Array.getElem?_setIfInBounds, if_neg (by omega)]; exact t.f i hi
  · intro i hi
    rw [Array.getElem?_setIfInBounds, if_neg (by omega)]; exact t.p1 i hi
  · intro i hi
    rw [Array.getElem?_setIfInBounds, if_neg (by omega)]; exact t.u i hi
  · intro i hi
    rw [Array.getElem?_setIfInBounds, if_neg (by omega)]; exact t.p3 i hi
  · intro i hi
    rw [Array.getElem?_setIfInBounds, if_neg (by omega)]; exact t.r4 i hi
  · intro i hi
    rw [Array.getElem?_setIfInBounds, if_neg (by omega)]; exact t.l i hi
  · intro i hi
    rw [Array.getElem?_setIfInBounds, if_neg (by omega)]; exact t.h i hi
  · intro i hi
    rw [Array.getElem?_setIfInBounds, if_neg (by omega)]; exact t.th i hi

theorem Tail.setF (t : Tail cur n wt mr F U L H Th) (m : Nat) (hm : m < 8) (x : Int) : Tail (cur.setIfInBounds (89 + m * 8) (.int .u64 x)) n wt mr (upd F m x) U L H Th := by
  have hs := t.size
  constructor
  · rw [Array.size_setIfInBounds, hs]
  · rw [Array.getElem?_setIfInBounds, if_neg (by omega)]; exact t.n_
  · rw [Array.getElem?_setIfInBounds, if_neg (by omega)]; exact t.w_
  · rw [Array.getElem?_setIfInBounds, if_neg (by omega)]; exact t.m_
  · intro i hi
    rw [Array.getElem?_setIfInBounds]
    by_cases hin : i = m
    · subst hin; rw [if_pos rfl, if_pos (by omega)]; simp [upd]
    · rw [if_neg (by omega)]; simp only [upd, if_neg hin]; exact t.f i hi
  · intro i hi
    rw [Array.getElem?_setIfInBounds, if_neg (by omega)]; exact t.p1 i hi
  · intro i hi
    rw [Array.getElem?_setIfInBounds, if_neg (by omega)]; exact t.u i hi
  · intro i hi
    rw [Array.getElem?_setIfInBounds, if_neg (by omega)]; exact t.p3 i hi
  · intro i hi
    rw [Array.getElem?_setIfInBounds, if_neg (by omega)]; exact t.r4 i hi
  · intro i hi
    rw [Array.getElem?_setIfInBounds, if_neg (by omega)]; exact t.l i hi
  · intro i hi
    rw [Array.getElem?_setIfInBounds, if_neg (by omega)]; exact t.h i hi
  · intro i hi
    rw [Array.getElem?_setIfInBounds, if_neg (by omega)]; exact t.th i hi

theorem Tail.same1 (t : Tail cur n wt mr F U L H Th) (m : Nat) (hm : m < 8) : Tail (cur.setIfInBounds (89 + m * 8 + 1) (.slice Option.none 0 0)) n wt mr F U L H Th := by
  have hs := t.size
  constructor
  · rw [Array.size_setIfInBounds, hs]
  · rw [Array.getElem?_setIfInBounds, if_neg (by omega)]; exact t.n_
  · rw [Array.getElem?_setIfInBounds, if_neg (by omega)]; exact t.w_
  · rw [Array.getElem?_setIfInBounds, if_neg (by omega)]; exact t.m_
  · intro i hi
    rw [Array.getElem?_setIfInBounds, if_neg (by omega)]; exact t.f i hi
  · intro i hi
    rw [Array.getElem?_setIfInBounds]
    by_cases hin : i = m
    · subst hin; rw [if_pos rfl, if_pos (by omega)]
    · rw [if_neg (by omega)]; exact t.p1 i hi
  · intro i hi
    rw [Array.getElem?_setIfInBounds, if_neg (by omega)]; exact t.u i hi
  · intro i hi
    rw [Array.getElem?_setIfInBounds, if_neg (by omega)]; exact t.p3 i hi
  · intro i hi
    rw [Array.getElem?_setIfInBounds, if_neg (by omega)]; exact t.r4 i hi
  · intro i hi
    rw [Array.getElem?_setIfInBounds, if_neg (by omega)]; exact t.l i hi
  · intro i hi
    rw [Array.getElem?_setIfInBounds, if_neg (by omega)]; exact t.h i hi
  · intro i hi
    rw [Array.getElem?_setIfInBounds, if_neg (by omega)]; exact t.th i hi

theorem Tail.setU (t : Tail cur n wt mr F U L H Th) (m : Nat) (hm : m < 8) (x : Int) : Tail (cur.setIfInBounds (89 + m * 8 + 2) (.int .u64 x)) n wt mr F (upd U m x) L H Th := by
  have hs := t.size
  constructor
  · rw [Array.size_setIfInBounds, hs]
  · rw [Array.getElem?_setIfInBounds, if_neg (by omega)]; exact t.n_
  · rw [Array.getElem?_setIfInBounds, if_neg (by omega)]; exact t.w_
  · rw [Array.getElem?_setIfInBounds, if_neg (by omega)]; exact t.m_
  · intro i hi
    rw [Array.getElem?_setIfInBounds, if_neg (by omega)]; exact t.f i hi
  · intro i hi
    rw [Array.getElem?_setIfInBounds, if_neg (by omega)]; exact t.p1 i hi
  · intro i hi
    rw [Array.getElem?_setIfInBounds]
    by_cases hin : i = m
    · subst hin; rw [if_pos rfl, if_pos (by omega)]; simp [upd]
    · rw [if_neg (by omega)]; simp only [upd, if_neg hin]; exact t.u i hi
  · intro i hi
    rw [Array.getElem?_setIfInBounds, if_neg (by omega)]; exact t.p3 i hi
  · intro i hi
    rw [Array.getElem?_setIfInBounds, if_neg (by omega)]; exact t.r4 i hi
  · intro i hi
    rw [Array.getElem?_setIfInBounds, if_neg (by omega)]; exact t.l i hi
  · intro i hi
    rw [Array.getElem?_setIfInBounds, if_neg (by omega)]; exact t.h i hi
  · intro i hi
    rw [Array.getElem?_setIfInBounds, if_neg (by omega)]; exact t.th i hi

theorem Tail.same3 (t : Tail cur n wt mr F U L H Th) (m : Nat) (hm : m < 8) : Tail (cur.setIfInBounds (89 + m * 8 + 3) (.slice Option.none 0 0)) n wt mr F U L H Th := by
  have hs := t.size
  constructor
  · rw [Array.size_setIfInBounds, hs]
  · rw [Array.getElem?_setIfInBounds, if_neg (by omega)]; exact t.n_
  · rw [Array.getElem?_setIfInBounds, if_neg (by omega)]; exact t.w_
  · rw [Array.getElem?_setIfInBounds, if_neg (by omega)]; exact t.m_
  · intro i hi
    rw [Array.getElem?_setIfInBounds, if_neg (by omega)]; exact t.f i hi
  · intro i hi
    rw [Array.getElem?_setIfInBounds, if_neg (by omega)]; exact t.p1 i hi
  · intro i hi
    rw [Array.getElem?_setIfInBounds, if_neg (by omega)]; exact t.u i hi
  · intro i hi
    rw [Array.getElem?_setIfInBounds]
    by_cases hin : i = m
    · subst hin; rw [if_pos rfl, if_pos (by omega)]
    · rw [if_neg (by omega)]; exact t.p3 i hi
  · intro i hi
    rw [Array.getElem?_setIfInBounds, if_neg (by omega)]; exact t.r4 i hi
  · intro i hi
    rw [Array.getElem?_setIfInBounds, if_neg (by omega)]; exact t.l i hi
  · intro i hi
    rw [Array.getElem?_setIfInBounds, if_neg (by omega)]; exact t.h i hi
  · intro i hi
    rw [Array.getElem?_setIfInBounds, if_neg (by omega)]; exact t.th i hi

theorem Tail.same4 (t : Tail cur n wt mr F U L H Th) (m : Nat) (hm : m < 8) : Tail (cur.setIfInBounds (89 + m * 8 + 4) (.nilIface)) n wt mr F U L H Th := by
  have hs := t.size
  constructor
  · rw [Array.size_setIfInBounds, hs]
  · rw [Array.getElem?_setIfInBounds, if_neg (by omega)]; exact t.n_
  · rw [Array.getElem?_setIfInBounds, if_neg (by omega)]; exact t.w_
  · rw [Array.getElem?_setIfInBounds, if_neg (by omega)]; exact t.m_
  · intro i hi
    rw [Array.getElem?_setIfInBounds, if_neg (by omega)]; exact t.f i hi
  · intro i hi
    rw [Array.getElem?_setIfInBounds, if_neg (by omega)]; exact t.p1 i hi
  · intro i hi
    rw [Array.getElem?_setIfInBounds, if_neg (by omega)]; exact t.u i hi
  · intro i hi
    rw [Array.getElem?_setIfInBounds, if_neg (by omega)]; exact t.p3 i hi
  · intro i hi
    rw [Array.getElem?_setIfInBounds]
    by_cases hin : i = m
    · subst hin; rw [if_pos rfl, if_pos (by omega)]
    · rw [if_neg (by omega)]; exact t.r4 i hi
  · intro i hi
    rw [Array.getElem?_setIfInBounds, if_neg (by omega)]; exact t.l i hi
  · intro i hi
    rw [Array.getElem?_setIfInBounds, if_neg (by omega)]; exact t.h i hi
  · intro i hi
    rw [Array.getElem?_setIfInBounds, if_neg (by omega)]; exact t.th i hi

theorem Tail.setL (t : Tail cur n wt mr F U L H Th) (m : Nat) (hm : m < 8) (x : Int) : Tail (cur.setIfInBounds (89 + m * 8 + 5) (.int .i64 x)) n wt mr F U (upd L m x) H Th := by
  have hs := t.size
  constructor
  · rw [Array.size_setIfInBounds, hs]
  · rw [Array.getElem?_setIfInBounds, if_neg (by omega)]; exact t.n_
  · rw [Array.getElem?_setIfInBounds, if_neg (by omega)]; exact t.w_
  · rw [Array.getElem?_setIfInBounds, if_neg (by omega)]; exact t.m_
  · intro i hi
    rw [Array.getElem?_setIfInBounds, if_neg (by omega)]; exact t.f i hi
  · intro i hi
    rw [Array.getElem?_setIfInBounds, if_neg (by omega)]; exact t.p1 i hi
  · intro i hi
    rw [Array.getElem?_setIfInBounds, if_neg (by omega)]; exact t.u i hi
  · intro i hi
    rw [Array.getElem?_setIfInBounds, if_neg (by omega)]; exact t.p3 i hi
  · intro i hi
    rw [Array.getElem?_setIfInBounds, if_neg (by omega)]; exact t.r4 i hi
  · intro i hi
    rw [Array.getElem?_setIfInBounds]
    by_cases hin : i = m
    · subst hin; rw [if_pos rfl, if_pos (by omega)]; simp [upd]
    · rw [if_neg (by omega)]; simp only [upd, if_neg hin]; exact t.l i hi
  · intro i hi
    rw [Array.getElem?_setIfInBounds, if_neg (by omega)]; exact t.h i hi
  · intro i hi
    rw [Array.getElem?_setIfInBounds, if_neg (by omega)]; exact t.th i hi

theorem Tail.setH (t : Tail cur n wt mr F U L H Th) (m : Nat) (hm : m < 8) (x : Int) : Tail (cur.setIfInBounds (89 + m * 8 + 6) (.int .i64 x)) n wt mr F U L (upd H m x) Th := by
  have hs := t.size
  constructor
  · rw [Array.size_setIfInBounds, hs]
  · rw [Array.getElem?_setIfInBounds, if_neg (by omega)]; exact t.n_
  · rw [Array.getElem?_setIfInBounds, if_neg (by omega)]; exact t.w_
  · rw [Array.getElem?_setIfInBounds, if_neg (by omega)]; exact t.m_
  · intro i hi
    rw [Array.getElem?_setIfInBounds, if_neg (by omega)]; exact t.f i hi
  · intro i hi
    rw [Array.getElem?_setIfInBounds, if_neg (by omega)]; exact t.p1 i hi
  · intro i hi
    rw [Array.getElem?_setIfInBounds, if_neg (by omega)]; exact t.u i hi
  · intro i hi
    rw [Array.getElem?_setIfInBounds, if_neg (by omega)]; exact t.p3 i hi
  · intro i hi
    rw [Array.getElem?_setIfInBounds, if_neg (by omega)]; exact t.r4 i hi
  · intro i hi
    rw [Array.getElem?_setIfInBounds, if_neg (by omega)]; exact t.l i hi
  · intro i hi
    rw [Array.getElem?_setIfInBounds]
    by_cases hin : i = m
    · subst hin; rw [if_pos rfl, if_pos (by omega)]; simp [upd]
    · rw [if_neg (by omega)]; simp only [upd, if_neg hin]; exact t.h i hi
  · intro i hi
    rw [Array.getElem?_setIfInBounds, if_neg (by omega)]; exact t.th i hi

theorem Tail.setTh (t : Tail cur n wt mr F U L H Th) (m : Nat) (hm : m < 8) (x : Int) : Tail (cur.setIfInBounds (89 + m * 8 + 7) (.int .i64 x)) n wt mr F U L H (upd Th m x) := by
  have hs := t.size
  constructor
  · rw [Array.size_setIfInBounds, hs]
  · rw [Array.getElem?_setIfInBounds, if_neg (by omega)]; exact t.n_
  · rw [Array.getElem?_setIfInBounds, if_neg (by omega)]; exact t.w_
  · rw [Array.getElem?_setIfInBounds, if_neg (by omega)]; exact t.m_
  · intro i hi
    rw [Array.getElem?_setIfInBounds, if_neg (by omega)]; exact t.f i hi
  · intro i hi
    rw [Array.getElem?_setIfInBounds, if_neg (by omega)]; exact t.p1 i hi
  · intro i hi
    rw [Array.getElem?_setIfInBounds, if_neg (by omega)]; exact t.u i hi
  · intro i hi
    rw [Array.getElem?_setIfInBounds, if_neg (by omega)]; exact t.p3 i hi
  · intro i hi
    rw [Array.getElem?_setIfInBounds, if_neg (by omega)]; exact t.r4 i hi
  · intro i hi
    rw [Array.getElem?_setIfInBounds, if_neg (by omega)]; exact t.l i hi
  · intro i hi
    rw [Array.getElem?_setIfInBounds, if_neg (by omega)]; exact t.h i hi
  · intro i hi
    rw [Array.getElem?_setIfInBounds]
    by_cases hin : i = m
    · subst hin; rw [if_pos rfl, if_pos (by omega)]; simp [upd]
    · rw [if_neg (by omega)]; simp only [upd, if_neg hin]; exact t.th i hi

end

/-! ### Blocks. -/
theorem setCell_heap {w : World} {g o : Nat} {cur : Array Value} {t : TypeId} {fr : Nat × Nat} (h : w.heap[g]? = some (.cells cur t fr)) (v : Value) :
    (w.setCell ⟨g, o, Option.none⟩ v).heap[g]? = some (.cells (cur.setIfInBounds o v) t fr) := by
  rw [setCell_eq_setRow w g o cur t fr v h, setRow_heap w g cur _ t fr h]
theorem cell_at {w : World} {g o : Nat} {cur : Array Value} {t : TypeId} {fr : Nat × Nat} {u : Value} (h : w.heap[g]? = some (.cells cur t fr)) (hu : cur[o]? = some u) : w.cell? ⟨g, o, Option.none⟩ = some u := by
  simp only [World.cell?, h]
  simpa using hu
theorem free_at {w : World} {g o : Nat} {cur : Array Value} {t : TypeId} (h : w.heap[g]? = some (.cells cur t (0, 0))) : w.frozen? ⟨g, o, Option.none⟩ = false := by
  simp [World.frozen?, h]
theorem lt_at {w : World} {g : Nat} {ob : Obj} (h : w.heap[g]? = some ob) : g < w.heap.size := (Array.getElem?_eq_some_iff.1 h).1

/-- w' is w with new blocks and with writes to block g alone. -/
structure Only (g : Nat) (w w' : World) : Prop where
  os : w'.os = w.os
  tape : w'.tape = w.tape
  output : w'.output = w.output
  size : w.heap.size ≤ w'.heap.size
  block : ∀ k, k < w.heap.size → k ≠ g → w'.heap[k]? = w.heap[k]?
theorem Only.refl (g : Nat) (w : World) : Only g w w := ⟨rfl, rfl, rfl, Nat.le_refl _, fun _ _ _ => rfl⟩
theorem Only.trans {g : Nat} {a b c : World} (h : Only g a b) (k : Only g b c) : Only g a c :=
  ⟨k.os.trans h.os, k.tape.trans h.tape, k.output.trans h.output, Nat.le_trans h.size k.size, fun i hi hg => (k.block i (Nat.lt_of_lt_of_le hi h.size) hg).trans (h.block i hi hg)⟩
theorem Only.drew {g : Nat} {a w : World} (h : Only g a w) : Only g a w.drew := ⟨h.os, h.tape, h.output, h.size, h.block⟩
theorem Only.drewN {g : Nat} {a w : World} (h : Only g a w) (n : Nat) : Only g a (w.drewN n) := ⟨h.os, h.tape, h.output, h.size, h.block⟩
theorem Only.alloc {g : Nat} {a w : World} (h : Only g a w) (ob : Obj) : Only g a (w.alloc ob) :=
  h.trans ⟨rfl, rfl, rfl, by simp, fun k hk _ => Below.heap_alloc _ _ _ hk⟩
theorem Only.setCell {g : Nat} {a w : World} (h : Only g a w) (o : Nat) (v : Value) : Only g a (w.setCell ⟨g, o, Option.none⟩ v) :=
  h.trans ⟨rfl, rfl, rfl, by simp [World.setCell], fun k _ hk => Below.heap_setCell _ _ _ _ hk⟩
theorem Only.below {B g : Nat} {w w' : World} (h : Only g w w') (hB : B ≤ g) (hs : B ≤ w.heap.size) : Below B w w' :=
  ⟨h.os, h.tape, h.output, h.size, fun k hk => h.block k (by omega) (by omega)⟩

/-- The block of the tail. -/
def TailIs (w : World) (T : Nat) (n : Int) (wt mr : Bool) (F U L H Th : Nat → Int) : Prop := ∃ cur, w.heap[T]? = some (.cells cur 43 (0, 0)) ∧ Tail cur n wt mr F U L H Th

section
variable {w : World} {T : Nat} {n : Int} {wt mr : Bool} {F U L H Th : Nat → Int}
theorem TailIs.lt (h : TailIs w T n wt mr F U L H Th) : T < w.heap.size := by obtain ⟨cur, hb, _⟩ := h; exact lt_at hb
theorem TailIs.free (h : TailIs w T n wt mr F U L H Th) (o : Nat) : w.frozen? ⟨T, o, Option.none⟩ = false := by obtain ⟨cur, hb, _⟩ := h; exact free_at hb
theorem TailIs.drew (h : TailIs w T n wt mr F U L H Th) : TailIs w.drew T n wt mr F U L H Th := h
theorem TailIs.alloc (h : TailIs w T n wt mr F U L H Th) (ob : Obj) : TailIs (w.alloc ob) T n wt mr F U L H Th := by
  obtain ⟨cur, hb, ht⟩ := h
  exact ⟨cur, (Below.heap_alloc w ob T (lt_at hb)).trans hb, ht⟩
theorem TailIs.of_block {w' : World} (h : TailIs w T n wt mr F U L H Th) (hb : w'.heap[T]? = w.heap[T]?) : TailIs w' T n wt mr F U L H Th := by
  obtain ⟨cur, h1, ht⟩ := h
  exact ⟨cur, hb.trans h1, ht⟩
theorem TailIs.setN (h : TailIs w T n wt mr F U L H Th) (x : Int) : TailIs (w.setCell ⟨T, 153, Option.none⟩ (.int .i64 x)) T x wt mr F U L H Th := by
  obtain ⟨cur, hb, ht⟩ := h
  exact ⟨_, setCell_heap hb _, ht.setN x⟩
theorem TailIs.setW (h : TailIs w T n wt mr F U L H Th) (x : Bool) : TailIs (w.setCell ⟨T, 154, Option.none⟩ (.bool x)) T n x mr F U L H Th := by
  obtain ⟨cur, hb, ht⟩ := h
  exact ⟨_, setCell_heap hb _, ht.setW x⟩
theorem TailIs.setM (h : TailIs w T n wt mr F U L H Th) (x : Bool) : TailIs (w.setCell ⟨T, 155, Option.none⟩ (.bool x)) T n wt x F U L H Th := by
  obtain ⟨cur, hb, ht⟩ := h
  exact ⟨_, setCell_heap hb _, ht.setM x⟩
theorem TailIs.setF (h : TailIs w T n wt mr F U L H Th) (m : Nat) (hm : m < 8) (x : Int) : TailIs (w.setCell ⟨T, 89 + m * 8, Option.none⟩ (.int .u64 x)) T n wt mr (upd F m x) U L H Th := by
  obtain ⟨cur, hb, ht⟩ := h
  exact ⟨_, setCell_heap hb _, ht.setF m hm x⟩
theorem TailIs.same1 (h : TailIs w T n wt mr F U L H Th) (m : Nat) (hm : m < 8) : TailIs (w.setCell ⟨T, 89 + m * 8 + 1, Option.none⟩ (.slice Option.none 0 0)) T n wt mr F U L H Th := by
  obtain ⟨cur, hb, ht⟩ := h
  exact ⟨_, setCell_heap hb _, ht.same1 m hm⟩
theorem TailIs.setU (h : TailIs w T n wt mr F U L H Th) (m : Nat) (hm : m < 8) (x : Int) : TailIs (w.setCell ⟨T, 89 + m * 8 + 2, Option.none⟩ (.int .u64 x)) T n wt mr F (upd U m x) L H Th := by
  obtain ⟨cur, hb, ht⟩ := h
  exact ⟨_, setCell_heap hb _, ht.setU m hm x⟩
theorem TailIs.same3 (h : TailIs w T n wt mr F U L H Th) (m : Nat) (hm : m < 8) : TailIs (w.setCell ⟨T, 89 + m * 8 + 3, Option.none⟩ (.slice Option.none 0 0)) T n wt mr F U L H Th := by
  obtain ⟨cur, hb, ht⟩ := h
  exact ⟨_, setCell_heap hb _, ht.same3 m hm⟩
theorem TailIs.same4 (h : TailIs w T n wt mr F U L H Th) (m : Nat) (hm : m < 8) : TailIs (w.setCell ⟨T, 89 + m * 8 + 4, Option.none⟩ (.nilIface)) T n wt mr F U L H Th := by
  obtain ⟨cur, hb, ht⟩ := h
  exact ⟨_, setCell_heap hb _, ht.same4 m hm⟩
theorem TailIs.setL (h : TailIs w T n wt mr F U L H Th) (m : Nat) (hm : m < 8) (x : Int) : TailIs (w.setCell ⟨T, 89 + m * 8 + 5, Option.none⟩ (.int .i64 x)) T n wt mr F U (upd L m x) H Th := by
  obtain ⟨cur, hb, ht⟩ := h
  exact ⟨_, setCell_heap hb _, ht.setL m hm x⟩
theorem TailIs.setH (h : TailIs w T n wt mr F U L H Th) (m : Nat) (hm : m < 8) (x : Int) : TailIs (w.setCell ⟨T, 89 + m * 8 + 6, Option.none⟩ (.int .i64 x)) T n wt mr F U L (upd H m x) Th := by
  obtain ⟨cur, hb, ht⟩ := h
  exact ⟨_, setCell_heap hb _, ht.setH m hm x⟩
theorem TailIs.setTh (h : TailIs w T n wt mr F U L H Th) (m : Nat) (hm : m < 8) (x : Int) : TailIs (w.setCell ⟨T, 89 + m * 8 + 7, Option.none⟩ (.int .i64 x)) T n wt mr F U L H (upd Th m x) := by
  obtain ⟨cur, hb, ht⟩ := h
  exact ⟨_, setCell_heap hb _, ht.setTh m hm x⟩
theorem TailIs.cells (h : TailIs w T n wt mr F U L H Th) (i : Nat) (hi : i < 8) :
    w.cell? ⟨T, 89 + i * 8, Option.none⟩ = some (.int .u64 (F i)) ∧ w.cell? ⟨T, 89 + i * 8 + 1, Option.none⟩ = some (.slice Option.none 0 0) ∧ w.cell? ⟨T, 89 + i * 8 + 2, Option.none⟩ = some (.int .u64 (U i)) ∧ w.cell? ⟨T, 89 + i * 8 + 3, Option.none⟩ = some (.slice Option.none 0 0) ∧ w.cell? ⟨T, 89 + i * 8 + 4, Option.none⟩ = some (.nilIface) ∧ w.cell? ⟨T, 89 + i * 8 + 5, Option.none⟩ = some (.int .i64 (L i)) ∧ w.cell? ⟨T, 89 + i * 8 + 6, Option.none⟩ = some (.int .i64 (H i)) ∧ w.cell? ⟨T, 89 + i * 8 + 7, Option.none⟩ = some (.int .i64 (Th i)) := by
  obtain ⟨cur, hb, ht⟩ := h
  exact ⟨cell_at hb (ht.f i hi), cell_at hb (ht.p1 i hi), cell_at hb (ht.u i hi), cell_at hb (ht.p3 i hi), cell_at hb (ht.r4 i hi), cell_at hb (ht.l i hi), cell_at hb (ht.h i hi), cell_at hb (ht.th i hi)⟩
theorem TailIs.marks (h : TailIs w T n wt mr F U L H Th) : w.cell? ⟨T, 153, Option.none⟩ = some (.int .i64 n) ∧ w.cell? ⟨T, 154, Option.none⟩ = some (.bool wt) ∧ w.cell? ⟨T, 155, Option.none⟩ = some (.bool mr) := by
  obtain ⟨cur, hb, ht⟩ := h
  exact ⟨cell_at hb ht.n_, cell_at hb ht.w_, cell_at hb ht.m_⟩
end
theorem upd_upd (f : Nat → Int) (n : Nat) (x y : Int) : upd (upd f n x) n y = upd f n y := by
  funext i; unfold upd; split <;> rfl
theorem upd_self (f : Nat → Int) (n : Nat) (x : Int) : upd f n x n = x := by simp [upd]

end Go.Proofs.Ybulkqhs
