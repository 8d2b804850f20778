import Derived.Test.YbulkqhsRows
import Derived.WalkKit
import Derived.WalkSpells
import Derived.WalkLawsBesides
import Derived.Deep.MidRow
import Derived.Deep.QuietTactic
import Derived.BigQuiet
import Derived.Shelf.SlSortCmp.QuietGrown
namespace Go.Proofs.Ybulkqhs
open Go.RowKit
set_option linter.unusedVariables false

theorem hideB {p : Prop} (h : p) : Hid p := h
theorem unhideB {p : Prop} (h : Hid p) : p := h

/-! ### A record is a number: the timestamp above, below it the 32 bytes of the ID, the first byte the greatest. -/
def rcell (k r : Nat) : Value := if r = 0 then .int .u64 ((k / 2 ^ 256 : Nat) : Int) else .int .u8 ((k / 256 ^ (32 - r) % 256 : Nat) : Int)
def rl (k : Nat) : List Value := (List.range 33).map (rcell k)

theorem rl_len (k : Nat) : (rl k).length = 33 := by simp [rl]
theorem rl_get (k r : Nat) (hr : r < 33) : (rl k)[r]? = some (rcell k r) := by
  unfold rl
  rw [List.getElem?_map, List.getElem?_range hr]; rfl
theorem rcell_one (k r : Nat) : (rcell k r).oneCell' = true := by
  unfold rcell; split <;> rfl
theorem rl_one (k : Nat) : ∀ v ∈ rl k, v.oneCell' = true := by
  intro v hv
  unfold rl at hv
  rw [List.mem_map] at hv
  obtain ⟨r, _, rfl⟩ := hv
  exact rcell_one k r
theorem rl_all (k : Nat) : (rl k).toArray.all (·.oneCell') = true := all_oneCell_toArray (rl_one k)
theorem rl_size (k : Nat) : (rl k).toArray.size = 33 := by simp [rl_len]

theorem rcell_inj {k k' : Nat} (h : ∀ r, r < 33 → rcell k r = rcell k' r) : k = k' := by
  have h0 : k / 2 ^ 256 = k' / 2 ^ 256 := by
    have := h 0 (by omega)
    simp only [rcell, if_pos, Value.int.injEq, true_and] at this
    exact Int.ofNat.inj this
  have hb : ∀ n, n < 32 → k / 256 ^ n % 256 = k' / 256 ^ n % 256 := by
    intro n hn
    have := h (32 - n) (by omega)
    simp only [rcell] at this
    rw [if_neg (by omega), if_neg (by omega)] at this
    simp only [Value.int.injEq, true_and] at this
    rw [show 32 - (32 - n) = n by omega] at this
    exact Int.ofNat.inj this
  have hm : ∀ n, n ≤ 32 → k % 256 ^ n = k' % 256 ^ n := by
    intro n
    induction n with
    | zero => intro _; simp [Nat.mod_one]
    | succ n ih =>
      intro hn
      rw [Nat.pow_succ, Nat.mod_mul, Nat.mod_mul, ih (by omega), hb n (by omega)]
  have h32 := hm 32 (Nat.le_refl _)
  have e : (256 : Nat) ^ 32 = 2 ^ 256 := by decide
  rw [e] at h32
  calc k = 2 ^ 256 * (k / 2 ^ 256) + k % 2 ^ 256 := (Nat.div_add_mod k _).symm
    _ = 2 ^ 256 * (k' / 2 ^ 256) + k' % 2 ^ 256 := by rw [h0, h32]
    _ = k' := Nat.div_add_mod k' _

theorem rl_inj {k k' : Nat} (h : rl k = rl k') : k = k' := rcell_inj fun r hr => by
  have := congrArg (fun l => l[r]?) h
  simp only [rl_get _ r hr] at this
  exact Option.some.inj this

/-- A record lies in block b from offset o on. -/
def RA (w : World) (b o k : Nat) : Prop := w.rangeAt b o (rl k)
theorem RA.cell {w : World} {b o k : Nat} (h : RA w b o k) (r : Nat) (hr : r < 33) : w.cell? ⟨b, o + r, none⟩ = some (rcell k r) := h r _ (rl_get k r hr)
theorem RA.lt {w : World} {b o k : Nat} (h : RA w b o k) : b < w.heap.size := World.block_lt_of_cell? w _ (h.cell 0 (by omega))
theorem RA.of_block {w w' : World} {b o k : Nat} (h : RA w b o k) (hb : w'.heap[b]? = w.heap[b]?) : RA w' b o k := fun j v hv => by
  rw [World.cell?_of_block (w := w) (w' := w') (a := ⟨b, o + j, none⟩) hb]; exact h j v hv
theorem RA.ts {w : World} {b o k : Nat} (h : RA w b o k) : w.cell? ⟨b, o, none⟩ = some (.int .u64 ((k / 2 ^ 256 : Nat) : Int)) := by
  have := h.cell 0 (by omega)
  simpa [rcell] using this
theorem RA.byte {w : World} {b o k : Nat} (h : RA w b o k) (r : Nat) (hr : r < 32) : w.cell? ⟨b, o + 1 + r, none⟩ = some (.int .u8 ((k / 256 ^ (31 - r) % 256 : Nat) : Int)) := by
  have := h.cell (r + 1) (by omega)
  rw [show o + 1 + r = o + (r + 1) by omega, this]
  simp only [rcell]
  rw [if_neg (by omega), show 32 - (r + 1) = 31 - r by omega]

/-! ### The worlds behind w: what lay there lies there; blocks may have come, draws been made. -/
abbrev Gp := GrownBy
def gr (w : World) (p : Gp) : World := { w with heap := w.heap ++ p.os, drawn := p.n }
theorem gr_below (w : World) (p : Gp) : Below w.heap.size w (gr w p) := ⟨rfl, rfl, rfl, by simp [gr], fun k hk => by simp [gr, Array.getElem?_append, hk]⟩
theorem below_gr {w w' : World} (h : Below w.heap.size w w') : ∃ p, w' = gr w p := by
  refine ⟨⟨w'.drawn, w'.heap.extract w.heap.size⟩, ?_⟩
  have hh : w'.heap = w.heap ++ w'.heap.extract w.heap.size := by
    apply Array.ext_getElem?
    intro i
    rw [Array.getElem?_append]
    by_cases hi : i < w.heap.size
    · rw [if_pos hi]; exact h.block i hi
    · rw [if_neg hi, Array.getElem?_extract]
      have := h.size
      by_cases h2 : i < w'.heap.size
      · rw [if_pos (by omega)]; congr 1; omega
      · rw [if_neg (by omega), Array.getElem?_eq_none (by omega)]
  obtain ⟨hp, tp, dr, os, ou⟩ := w'
  have h1 := h.os; have h2 := h.tape; have h3 := h.output
  simp only at h1 h2 h3 hh
  unfold gr
  rw [h1, h2, h3]
  simp only [World.mk.injEq, and_true]
  exact hh
theorem Below.loose {S : Nat} {w a b : World} (h : Below w.heap.size w a) (k : Below a.heap.size a b) : Below w.heap.size w b := h.trans (k.mono h.size)

theorem gr_cell {w : World} {a : Addr} {v : Value} (h : w.cell? a = some v) (p : Gp) : (gr w p).cell? a = some v := by
  rw [World.cell?_of_block ((gr_below w p).block a.block (World.block_lt_of_cell? w a h))]; exact h
theorem gr_RA {w : World} {b o k : Nat} (h : RA w b o k) (p : Gp) : RA (gr w p) b o k := h.of_block ((gr_below w p).block b h.lt)
@[simp] theorem gr_size (w : World) (p : Gp) : w.heap.size ≤ (gr w p).heap.size := (gr_below w p).size

theorem wp_region_gr {P : Program} {id : Nat} {Q : Exit → Act → World → Prop} {a : Act} {w : World} {l : List Oper} (hm : P.follows .mixedOrders = true) (hB : Region.lexB .any l.toArray = true)
    (h : wpQuiet P l.toArray (fun w' => ∃ p : Gp, w' = gr w p) (fun a' => ∀ w', (∃ p : Gp, w' = gr w p) → Q .normal a' w') l a) : (Code.region id l.toArray true).wp P Q a w :=
  wp_region_quiet (C := fun w' => ∃ p : Gp, w' = gr w p) hm hB ⟨⟨w.drawn + 1, #[]⟩, by simp [gr]⟩ (by simpa using h)

theorem Calls.gr_of {P : Program} {f : FuncId} {args : Array Value} {w : World} {p : Gp} {v : Value}
    (h : Calls P f args (gr w p) fun e w' => e = .returned v ∧ Below (gr w p).heap.size (gr w p) w') : Calls P f args (gr w p) fun e w'' => e = .returned v ∧ ∃ p : Gp, w'' = gr w p :=
  h.mono fun _ _ ⟨he, hb⟩ => ⟨he, below_gr ((gr_below w p).trans (hb.mono (gr_below w p).size))⟩
theorem Calls.gr_same {P : Program} {f : FuncId} {args : Array Value} {w : World} {p : Gp} {v : Value}
    (h : Calls P f args (gr w p) fun e w' => e = .returned v ∧ w' = gr w p) : Calls P f args (gr w p) fun e w'' => e = .returned v ∧ ∃ p : Gp, w'' = gr w p :=
  h.mono fun _ _ ⟨he, hb⟩ => ⟨he, p, hb⟩

/-! ### The operations at a record (33 cells), each met whole. -/
def exStore34 (p v : Value) : Sem Next := do Instr.storeAt 34 p v; pure .skip
def exLoad34 (p : Value) : Sem Next := do pure (.value (← Instr.loadAt 34 p))
def exBox34 (v : Value) : Sem Next := do pure (.value (← Instr.box 34 v))
theorem exec_store34 (ρ : Operand → Value) (dst : Option Tmp) (x y : Operand) (ty : TypeId) (pos : String) (after : Array Edge) (guard : Option (Nat × Bool)) :
    execOp ρ { dst := dst, op := Op.store 34 x y, type := ty, pos := pos, after := after, guard := guard } = exStore34 (ρ x) (ρ y) := rfl
theorem exec_load34 (ρ : Operand → Value) (dst : Option Tmp) (x : Operand) (ty : TypeId) (pos : String) (after : Array Edge) (guard : Option (Nat × Bool)) :
    execOp ρ { dst := dst, op := Op.load 34 x, type := ty, pos := pos, after := after, guard := guard } = exLoad34 (ρ x) := rfl
theorem exec_box34 (ρ : Operand → Value) (dst : Option Tmp) (x : Operand) (ty : TypeId) (pos : String) (after : Array Edge) (guard : Option (Nat × Bool)) :
    execOp ρ { dst := dst, op := Op.box 34 x, type := ty, pos := pos, after := after, guard := guard } = exBox34 (ρ x) := rfl
def rv (k : Nat) : Value := .agg (rl k).toArray
theorem Yba.size34 : (Yba.prog.info? 34).map (·.size) = some 33 := by kernel_rfl
theorem run_load34 {w : World} {b o k : Nat} (h : RA w b o k) : (exLoad34 (.pointer (some ⟨b, o, none⟩))).run Yba.prog w = .ok (.value (rv k)) w := by
  unfold exLoad34
  simp only [Sem.run_bind, Sem.run_pure, Result.andThen_ok, run_loadAt_mid (P := Yba.prog) w b o 34 (rl k) _ h Yba.underlying34 rfl (by rw [rl_len]; exact Yba.size34)]
  rfl
theorem run_store34 {w : World} {b o : Nat} (k : Nat) (h : w.there b o 33) : (exStore34 (.pointer (some ⟨b, o, none⟩)) (rv k)).run Yba.prog w = .ok .skip (w.setCells b o (rl k)) := by
  unfold exStore34 rv
  simp only [Sem.run_bind, Sem.run_pure, Result.andThen_ok, run_storeAt_mid (P := Yba.prog) w b o 34 (rl k).toArray (by rw [rl_size]; exact h) (by rw [rl_size]; exact Yba.size34) (rl_all k)]
theorem run_box34 (w : World) (k : Nat) : (exBox34 (rv k)).run Yba.prog w = .ok (.value (.pointer (some ⟨w.heap.size, 0, none⟩))) (w.alloc (.cells (rl k).toArray 34)) := rfl
theorem RA_box (w : World) (k : Nat) (t : TypeId) : RA (w.alloc (.cells (rl k).toArray t)) w.heap.size 0 k := fun j v hv => by
  simp only [World.cell?, heap_alloc_new]
  simpa using hv
theorem RA.alloc {w : World} {b o k : Nat} (h : RA w b o k) (ob : Obj) : RA (w.alloc ob) b o k := h.of_block (Below.heap_alloc w ob b h.lt)

end Go.Proofs.Ybulkqhs
