import Derived.Test.YbulkqgcRows
import Derived.WalkKit
import Derived.WalkSpells
import Derived.WalkLawsBesides
import Derived.Laws.EntriesVeiled
namespace Go.Proofs.Ybulkqgc
open Go.RowKit

/-! ### An event of the queue, as the law lays it: due time, number, addressee; the sender -1, no message, no timer, no function. -/
structure Ev where
  at_ : Int
  seq : Int
  to_ : Int

def Ev.cells (e : Ev) : List Value := [.int .i64 e.at_, .int .u64 e.seq, .int .i64 e.to_, .int .i64 (-1), .pointer Option.none, .int .u64 0, .int .u32 0, .nilFunc]
def flat : List Ev → List Value
  | [] => []
  | e :: es => e.cells ++ flat es

theorem Ev.cells_len (e : Ev) : e.cells.length = 8 := rfl
theorem flat_len : ∀ es : List Ev, (flat es).length = es.length * 8
  | [] => rfl
  | e :: es => by rw [flat, List.length_append, flat_len es, Ev.cells_len, List.length_cons]; omega
theorem flat_append : ∀ (xs ys : List Ev), flat (xs ++ ys) = flat xs ++ flat ys
  | [], ys => rfl
  | x :: xs, ys => by rw [List.cons_append, flat, flat, flat_append xs ys, List.append_assoc]

theorem flat_get : ∀ (es : List Ev) (q r : Nat), r < 8 → (flat es)[q * 8 + r]? = (es[q]?).bind fun e => e.cells[r]?
  | [], q, r, _ => by simp [flat]
  | e :: es, 0, r, h => by
    rw [flat, List.getElem?_append_left (by rw [Ev.cells_len]; omega)]; simp
  | e :: es, q + 1, r, h => by
    rw [flat, List.getElem?_append_right (by rw [Ev.cells_len]; omega), Ev.cells_len, show (q + 1) * 8 + r - 8 = q * 8 + r by omega, flat_get es q r h]
    simp

/-- Eight cells put at once. -/
def putEv (cur : Array Value) (o : Nat) (e : Ev) : Array Value :=
  (((((((cur.setIfInBounds o (.int .i64 e.at_)).setIfInBounds (o+1) (.int .u64 e.seq)).setIfInBounds (o+2) (.int .i64 e.to_)).setIfInBounds (o+3) (.int .i64 (-1))).setIfInBounds (o+4) (.pointer Option.none)).setIfInBounds (o+5) (.int .u64 0)).setIfInBounds (o+6) (.int .u32 0)).setIfInBounds (o+7) .nilFunc

theorem putEv_size (cur : Array Value) (o : Nat) (e : Ev) : (putEv cur o e).size = cur.size := by simp [putEv]

theorem getElem?_putEv (cur : Array Value) (i q r : Nat) (e : Ev) (hr : r < 8) (hs : i * 8 + 8 ≤ cur.size) :
    (putEv cur (i * 8) e)[q * 8 + r]? = if q = i then e.cells[r]? else cur[q * 8 + r]? := by
  unfold putEv
  simp only [Array.getElem?_setIfInBounds, Array.size_setIfInBounds]
  by_cases hq : q = i
  · subst hq
    rw [if_pos rfl]
    match r, hr with
    | 0, _ => simp [Ev.cells]; omega
    | 1, _ => simp [Ev.cells]; omega
    | 2, _ => simp [Ev.cells]; omega
    | 3, _ => simp [Ev.cells]; omega
    | 4, _ => simp [Ev.cells]; omega
    | 5, _ => simp [Ev.cells]; omega
    | 6, _ => simp [Ev.cells]; omega
    | 7, _ => simp [Ev.cells]; omega
  · rw [if_neg hq]
    rw [if_neg (by omega), if_neg (by omega), if_neg (by omega), if_neg (by omega), if_neg (by omega), if_neg (by omega), if_neg (by omega), if_neg (by omega)]

/-- The array's first cells are these events. -/
def Fits (cur : Array Value) (es : List Ev) : Prop := ∀ q r, r < 8 → q < es.length → cur[q * 8 + r]? = (es[q]?).bind fun e => e.cells[r]?

theorem fits_iff (cur : Array Value) (es : List Ev) : Fits cur es ↔ cur.toList.take (es.length * 8) = flat es := by
  constructor
  · intro h
    apply List.ext_getElem?
    intro k
    rw [List.getElem?_take]
    have hk := Nat.div_add_mod k 8
    have e1 : k = k / 8 * 8 + k % 8 := by omega
    by_cases hlt : k < es.length * 8
    · rw [if_pos hlt, e1, Array.getElem?_toList, h (k/8) (k%8) (by omega) (by omega), ← flat_get es (k/8) (k%8) (by omega)]
    · rw [if_neg hlt]
      symm
      apply List.getElem?_eq_none
      rw [flat_len]; omega
  · intro h q r hr hq
    rw [← flat_get es q r hr, ← h, List.getElem?_take, if_pos (by omega), Array.getElem?_toList]

theorem Fits.put {cur : Array Value} {es : List Ev} (h : Fits cur es) (hs : es.length * 8 ≤ cur.size) (i : Nat) (hi : i < es.length) (e : Ev) : Fits (putEv cur (i * 8) e) (es.set i e) := by
  intro q r hr hq
  rw [List.length_set] at hq
  rw [getElem?_putEv cur i q r e hr (by omega), List.getElem?_set]
  by_cases hqi : q = i
  · subst hqi
    rw [if_pos rfl, if_pos rfl, if_pos hi]; rfl
  · rw [if_neg hqi, if_neg (by omega), h q r hr hq]

/-- The row of events in the memory. -/
def Queue (w : World) (g cap : Nat) (es : List Ev) : Prop :=
  ∃ cur, w.heap[g]? = some (.cells cur 96 (0, 0)) ∧ es.length ≤ cap ∧ cap ≤ maxLen ∧ cur.size = cap * 8 ∧ Fits cur es

theorem Queue.cell {w : World} {g cap : Nat} {es : List Ev} (h : Queue w g cap es) (i r : Nat) (hr : r < 8) (hi : i < es.length) : w.cell? ⟨g, i * 8 + r, Option.none⟩ = (es[i]).cells[r]? := by
  obtain ⟨cur, hg, h1, h2, h3, hf⟩ := h
  have := hf i r hr hi
  rw [List.getElem?_eq_getElem hi] at this
  simp [World.cell?, hg]
  simpa using this

theorem Queue.frozen {w : World} {g cap : Nat} {es : List Ev} (h : Queue w g cap es) (o : Nat) : w.frozen? ⟨g, o, Option.none⟩ = false := by
  obtain ⟨cur, hg, h1, h2, h3, hf⟩ := h
  simp [World.frozen?, hg]

theorem Queue.lt {w : World} {g cap : Nat} {es : List Ev} (h : Queue w g cap es) : g < w.heap.size := by
  obtain ⟨cur, hg, _⟩ := h
  exact (Array.getElem?_eq_some_iff.1 hg).1

theorem Queue.of_block {w w' : World} {g cap : Nat} {es : List Ev} (h : Queue w g cap es) (hb : w'.heap[g]? = w.heap[g]?) : Queue w' g cap es := by
  obtain ⟨cur, hg, rest⟩ := h
  exact ⟨cur, hb.trans hg, rest⟩

/-- Eight stores. -/
def storeEv (w : World) (g o : Nat) (e : Ev) : World :=
  (((((((w.setCell ⟨g, o, Option.none⟩ (.int .i64 e.at_)).setCell ⟨g, o+1, Option.none⟩ (.int .u64 e.seq)).setCell ⟨g, o+2, Option.none⟩ (.int .i64 e.to_)).setCell ⟨g, o+3, Option.none⟩ (.int .i64 (-1))).setCell ⟨g, o+4, Option.none⟩ (.pointer Option.none)).setCell ⟨g, o+5, Option.none⟩ (.int .u64 0)).setCell ⟨g, o+6, Option.none⟩ (.int .u32 0)).setCell ⟨g, o+7, Option.none⟩ .nilFunc

theorem setCell_heap {w : World} {g o : Nat} {cur : Array Value} {t : TypeId} {fr : Nat × Nat} (h : w.heap[g]? = some (.cells cur t fr)) (v : Value) :
    (w.setCell ⟨g, o, Option.none⟩ v).heap[g]? = some (.cells (cur.setIfInBounds o v) t fr) := by
  rw [setCell_eq_setRow w g o cur t fr v h, setRow_heap w g cur _ t fr h]

theorem storeEv_heap {w : World} {g : Nat} {cur : Array Value} {t : TypeId} {fr : Nat × Nat} (h : w.heap[g]? = some (.cells cur t fr)) (o : Nat) (e : Ev) :
    (storeEv w g o e).heap[g]? = some (.cells (putEv cur o e) t fr) := by
  unfold storeEv putEv
  exact setCell_heap (setCell_heap (setCell_heap (setCell_heap (setCell_heap (setCell_heap (setCell_heap (setCell_heap h _) _) _) _) _) _) _) _

/-- What writes only into block g: the heap is as large, and every other block as it was. -/
structure Only (g : Nat) (w w' : World) : Prop where
  os : w'.os = w.os
  tape : w'.tape = w.tape
  output : w'.output = w.output
  size : w'.heap.size = w.heap.size
  block : ∀ k, k ≠ g → w'.heap[k]? = w.heap[k]?

theorem Only.refl (g : Nat) (w : World) : Only g w w := ⟨rfl, rfl, rfl, rfl, fun _ _ => rfl⟩
theorem Only.trans {g : Nat} {a b c : World} (h : Only g a b) (k : Only g b c) : Only g a c :=
  ⟨k.os.trans h.os, k.tape.trans h.tape, k.output.trans h.output, k.size.trans h.size, fun i hi => (k.block i hi).trans (h.block i hi)⟩
theorem Only.drew {g : Nat} {a w : World} (h : Only g a w) : Only g a w.drew := ⟨h.os, h.tape, h.output, h.size, h.block⟩
theorem Only.drewN {g : Nat} {a w : World} (h : Only g a w) (n : Nat) : Only g a (w.drewN n) := ⟨h.os, h.tape, h.output, h.size, h.block⟩
theorem Only.setCell {g : Nat} {a w : World} (h : Only g a w) (o : Nat) (v : Value) : Only g a (w.setCell ⟨g, o, Option.none⟩ v) :=
  h.trans ⟨rfl, rfl, rfl, by simp [World.setCell], fun k hk => Below.heap_setCell _ _ _ _ hk⟩
theorem Only.storeEv {g : Nat} {a w : World} (h : Only g a w) (o : Nat) (e : Ev) : Only g a (storeEv w g o e) := by
  unfold Ybulkqgc.storeEv
  exact ((((((((h.setCell _ _).setCell _ _).setCell _ _).setCell _ _).setCell _ _).setCell _ _).setCell _ _).setCell _ _)

theorem Queue.stored {w : World} {g cap : Nat} {es : List Ev} (h : Queue w g cap es) (i : Nat) (hi : i < es.length) (e : Ev) : Queue (storeEv w g (i * 8) e) g cap (es.set i e) := by
  obtain ⟨cur, hg, h1, h2, h3, hf⟩ := h
  refine ⟨_, storeEv_heap hg _ _, by simpa using h1, h2, by rw [putEv_size, h3], hf.put (by omega) i hi e⟩

theorem Queue.drewN {w : World} {g cap : Nat} {es : List Ev} (h : Queue w g cap es) (n : Nat) : Queue (w.drewN n) g cap es := h
theorem Queue.drew {w : World} {g cap : Nat} {es : List Ev} (h : Queue w g cap es) : Queue w.drew g cap es := h

def swapL (es : List Ev) (i j : Nat) (hi : i < es.length) (hj : j < es.length) : List Ev := (es.set i es[j]).set j es[i]

/-! ### The methods of *events: the receiver is read through the pointer. -/
theorem run_wrapChk (P : Program) (T : TypeId) (a : Addr) (name : String) (w : World) : (Builtin.ssaWrapNilChk_ #[T] T #[.pointer (some a), strVal "", strVal name]).run P w = .ok (.pointer (some a)) w := rfl

theorem method_val (T E f : Nat) (name : String) (B o : Nat) (i : TypeInfo) (m : Method) (hi : Yba.prog.info? T = some i) (hm : i.methods.find? (·.name == name) = some m) (hp : m.path = #[]) (hf : m.func = some (f, false))
    (hu : Yba.prog.underlying T = some (.pointer E)) (E' : TypeId) (hE : Yba.prog.underlying E = some (.slice E'))
    (w : World) (v : Value) (hc : w.cell? ⟨B, o, Option.none⟩ = some v) (n : Nat) :
    (method (n + 1) T (.pointer (some ⟨B, o, Option.none⟩)) name).run Yba.prog w = .ok (f, v) w := by
  unfold method
  simp [typeInfo, hi, hm, hp, hf, follow, receiverAt, Place.get, run_underlying hu, run_wrapChk, asAddr, loadVar, isAgg, run_underlying hE, hc]

theorem method_ptr (T E f : Nat) (name : String) (p : Value) (i : TypeInfo) (m : Method) (hi : Yba.prog.info? T = some i) (hm : i.methods.find? (·.name == name) = some m) (hp : m.path = #[]) (hf : m.func = some (f, true))
    (hu : Yba.prog.underlying T = some (.pointer E)) (w : World) (n : Nat) :
    (method (n + 1) T p name).run Yba.prog w = .ok (f, p) w := by
  unfold method
  simp [typeInfo, hi, hm, hp, hf, follow, receiverAt, Place.get, run_underlying hu]

theorem parts {T : TypeId} {name : String} {m : Method} (h : ((Yba.prog.info? T).bind fun i => i.methods.find? (·.name == name)) = some m) : ∃ i, Yba.prog.info? T = some i ∧ i.methods.find? (·.name == name) = some m := by
  cases hi : Yba.prog.info? T with
  | none => rw [hi] at h; cases h
  | some i => rw [hi] at h; exact ⟨i, rfl, h⟩

theorem find_less : ((Yba.prog.info? 112).bind fun i => i.methods.find? (·.name == "Less")) = some ⟨"Less", 132, #[], some (65, false)⟩ := by kernel_rfl
theorem find_len : ((Yba.prog.info? 112).bind fun i => i.methods.find? (·.name == "Len")) = some ⟨"Len", 128, #[], some (64, false)⟩ := by kernel_rfl
theorem find_swap : ((Yba.prog.info? 112).bind fun i => i.methods.find? (·.name == "Swap")) = some ⟨"Swap", 133, #[], some (66, false)⟩ := by kernel_rfl
theorem find_push : ((Yba.prog.info? 112).bind fun i => i.methods.find? (·.name == "Push")) = some ⟨"Push", 126, #[], some (72, true)⟩ := by kernel_rfl

theorem m_less (B o : Nat) (w : World) (v : Value) (hc : w.cell? ⟨B, o, Option.none⟩ = some v) : (method 349 112 (.pointer (some ⟨B, o, Option.none⟩)) "Less").run Yba.prog w = .ok (65, v) w := by
  obtain ⟨i, h1, h2⟩ := parts find_less
  exact method_val 112 84 65 "Less" B o i _ h1 h2 rfl rfl Yba.underlying112 96 Yba.underlying84 w v hc 348
theorem m_len (B o : Nat) (w : World) (v : Value) (hc : w.cell? ⟨B, o, Option.none⟩ = some v) : (method 349 112 (.pointer (some ⟨B, o, Option.none⟩)) "Len").run Yba.prog w = .ok (64, v) w := by
  obtain ⟨i, h1, h2⟩ := parts find_len
  exact method_val 112 84 64 "Len" B o i _ h1 h2 rfl rfl Yba.underlying112 96 Yba.underlying84 w v hc 348
theorem m_swap (B o : Nat) (w : World) (v : Value) (hc : w.cell? ⟨B, o, Option.none⟩ = some v) : (method 349 112 (.pointer (some ⟨B, o, Option.none⟩)) "Swap").run Yba.prog w = .ok (66, v) w := by
  obtain ⟨i, h1, h2⟩ := parts find_swap
  exact method_val 112 84 66 "Swap" B o i _ h1 h2 rfl rfl Yba.underlying112 96 Yba.underlying84 w v hc 348
theorem m_push (p : Value) (w : World) : (method 349 112 p "Push").run Yba.prog w = .ok (72, p) w := by
  obtain ⟨i, h1, h2⟩ := parts find_push
  exact method_ptr 112 84 72 "Push" p i _ h1 h2 rfl rfl Yba.underlying112 w 348

end Go.Proofs.Ybulkqgc
