import Derived.Test.YbulkqhsB2
import Derived.Deep.Upon
import Derived.BigRegion
import Derived.Sort.Defs
namespace Go.Proofs.Ybulkqhs
open Go.RowKit
set_option linter.unusedVariables false
attribute [local go_sem ↓] exec_store34 exec_load34 exec_box34
attribute [local go_sem] run_box34

/-! ### A row of records that a function may turn -/
/-- Only block g has been turned; blocks may have come. -/
structure Turn (g : Nat) (w w' : World) : Prop where
  os : w'.os = w.os
  tape : w'.tape = w.tape
  output : w'.output = w.output
  size : w.heap.size ≤ w'.heap.size
  block : ∀ k, k < w.heap.size → k ≠ g → w'.heap[k]? = w.heap[k]?
theorem Turn.refl (g : Nat) (w : World) : Turn g w w := ⟨rfl, rfl, rfl, Nat.le_refl _, fun _ _ _ => rfl⟩
theorem Turn.trans {g : Nat} {a b c : World} (h : Turn g a b) (k : Turn g b c) : Turn g a c :=
  ⟨k.os.trans h.os, k.tape.trans h.tape, k.output.trans h.output, Nat.le_trans h.size k.size, fun i hi hg => (k.block i (Nat.lt_of_lt_of_le hi h.size) hg).trans (h.block i hi hg)⟩
theorem Turn.of_below {g : Nat} {w w' : World} (h : Below w.heap.size w w') : Turn g w w' := ⟨h.os, h.tape, h.output, h.size, fun k hk _ => h.block k hk⟩
theorem tape_setCells (w : World) (g : Nat) : ∀ (vs : List Value) (o : Nat), (w.setCells g o vs).tape = w.tape
  | [], o => rfl
  | v :: r, o => by rw [World.setCells]; exact (tape_setCells _ g r (o + 1)).trans rfl
theorem size_setCells (g : Nat) : ∀ (vs : List Value) (w : World) (o : Nat), (w.setCells g o vs).heap.size = w.heap.size
  | [], w, o => rfl
  | v :: r, w, o => by rw [World.setCells, size_setCells g r _ (o + 1)]; simp [World.setCell]
theorem Turn.setCells (g : Nat) (w : World) (o : Nat) (vs : List Value) : Turn g w (w.setCells g o vs) :=
  ⟨World.os_setCells _ _ _ _, tape_setCells _ _ _ _, World.output_setCells _ _ _ _, Nat.le_of_eq (size_setCells _ _ _ _).symm, fun k hk hg => World.heap_setCells_other _ _ _ _ hk hg⟩

structure Row (w0 : World) (g n : Nat) (w : World) (d : Array Nat) : Prop where
  size : d.size = n
  recs : ∀ i, i < n → RA w g (i * 33) d[i]!
  free : ∀ o, w.frozen? ⟨g, o, none⟩ = false
  turn : Turn g w0 w

theorem Row.later {w0 w w' : World} {g n : Nat} {d : Array Nat} (h : Row w0 g n w d) (hg : g < w.heap.size) (hb : Below w.heap.size w w') : Row w0 g n w' d :=
  ⟨h.size, fun i hi => (h.recs i hi).of_block (hb.block g hg), fun o => (World.frozen?_of_block (a := ⟨g, o, none⟩) (hb.block g hg)).trans (h.free o), h.turn.trans (Turn.of_below hb)⟩
theorem RA.there {w : World} {g o k : Nat} (h : RA w g o k) (hf : ∀ o, w.frozen? ⟨g, o, none⟩ = false) : w.there g o 33 := fun j hj => ⟨by rw [h.cell j hj]; rfl, hf _⟩
theorem Row.put {w0 w : World} {g n : Nat} {d : Array Nat} (h : Row w0 g n w d) (i k : Nat) (hi : i < n) : Row w0 g n (w.setCells g (i * 33) (rl k)) (d.setIfInBounds i k) := by
  refine ⟨by simp [h.size], ?_, ?_, h.turn.trans (Turn.setCells _ _ _ _)⟩
  · intro q hq
    have hqs : q < (d.setIfInBounds i k).size := by simp [h.size, hq]
    rw [getElem!_pos _ q hqs, Array.getElem_setIfInBounds]
    by_cases hqi : i = q
    · subst hqi
      rw [if_pos rfl]
      exact World.rangeAt_setCells_same w g (i * 33) (rl k) (by rw [rl_len]; exact (h.recs i hi).there h.free)
    · rw [if_neg hqi]
      have := h.recs q hq
      rw [getElem!_pos d q (by rw [h.size]; exact hq)] at this
      exact World.rangeAt_setCells_apart this g (i * 33) (rl k) (.inr (by rw [rl_len, rl_len]; omega))
  · intro o
    rw [World.frozen?_setCells]; exact h.free o
theorem Row.drew {w0 w : World} {g n : Nat} {d : Array Nat} (h : Row w0 g n w d) : Row w0 g n w.drew d :=
  ⟨h.size, h.recs, h.free, ⟨h.turn.os, h.turn.tape, h.turn.output, h.turn.size, h.turn.block⟩⟩
theorem Row.swp {w0 w : World} {g n : Nat} {d : Array Nat} (h : Row w0 g n w d) (i j : Nat) (hi : i < n) (hj : j < n) :
    Row w0 g n ((w.setCells g (i * 33) (rl d[j]!)).setCells g (j * 33) (rl d[i]!)) (Sort.swp d i j) := (h.put i _ hi).put j _ hj
theorem Row.lt {w0 w : World} {g n : Nat} {d : Array Nat} (h : Row w0 g n w d) (hn : 0 < n) : g < w.heap.size := (h.recs 0 hn).lt

def ltN (x y : Nat) : Bool := decide (x < y)
theorem ltN_cmp (x y : Nat) : decide (cmpN x y < 0) = ltN x y := by
  unfold ltN
  rw [decide_eq_decide]
  rcases Nat.lt_trichotomy x y with h | h | h
  · rw [cmpN_lt (by omega)]; omega
  · subst h; rw [cmpN_eq]; omega
  · rw [cmpN_gt (by omega)]; omega

theorem len_any (p : Option Addr) (n cap : Nat) (w : World) : Calls Yba.prog 116 #[.slice p n cap] w fun e w' => e = .returned (.int .i64 n) ∧ w' = w := by
  go_enter Yba.func116, Yba.ntmps116
  go_wp2
  go_ret
  exact ⟨rfl, rfl⟩

set_option maxRecDepth 100000 in
theorem less_any {w0 w : World} {g n cap : Nat} {d : Array Nat} (h : Row w0 g n w d) (i j : Nat) (hi : i < n) (hj : j < n) :
    Calls Yba.prog 117 #[.slice (some ⟨g, 0, none⟩) n cap, .int .i64 i, .int .i64 j] w fun e w' =>
      e = .returned (.bool (ltN d[i]! d[j]!)) ∧ Below w.heap.size w w' := by
  have HC := hideB fun p => Calls.gr_of (cmpRec_any g (i * 33) d[i]! g (j * 33) d[j]! (gr w p) (gr_RA (h.recs i hi) p) (gr_RA (h.recs j hj) p))
  generalize hb : ltN d[i]! d[j]! = b
  rw [← ltN_cmp] at hb
  generalize cmpN (d[i]! : Nat) (d[j]! : Nat) = c at HC hb
  have hi' : (i : Int) < n := by omega
  have hj' : (j : Int) < n := by omega
  clear h
  go_enter Yba.func117, Yba.ntmps117
  go_wp2_with fail
  refine wp_region_gr (by kernel_rfl) (by kernel_rfl) ?_
  repeat (quiet_step (first | (go_at_call 27; exact (unhideB HC) _)))
  refine wpQuiet_nil ?_
  intro w1 hw1
  obtain ⟨p1, rfl⟩ := hw1
  go_wp2_with fail
  go_ret
  exact ⟨rfl, gr_below w p1⟩

set_option maxHeartbeats 1000000 in
set_option maxRecDepth 100000 in
theorem swap_core (g n cap i j ki kj : Nat) (w : World) (hi : i < n) (hj : j < n) (ri : RA w g (i * 33) ki) (rj : RA w g (j * 33) kj) (ti : w.there g (i * 33) 33) (tj : w.there g (j * 33) 33) :
    Calls Yba.prog 118 #[.slice (some ⟨g, 0, none⟩) n cap, .int .i64 i, .int .i64 j] w fun e w' =>
      e = .returned (.tuple #[]) ∧ w' = ((w.drew.setCells g (i * 33) (rl kj)).setCells g (j * 33) (rl ki)) := by
  have l1 : (exLoad34 (.pointer (some ⟨g, i * 33, none⟩))).run Yba.prog w.drew = .ok (.value (rv ki)) w.drew := run_load34 ri
  have l2 : (exLoad34 (.pointer (some ⟨g, j * 33, none⟩))).run Yba.prog w.drew = .ok (.value (rv kj)) w.drew := run_load34 rj
  have s1 : (exStore34 (.pointer (some ⟨g, i * 33, none⟩)) (rv kj)).run Yba.prog w.drew = .ok .skip (w.drew.setCells g (i * 33) (rl kj)) := run_store34 kj ti
  have s2 : (exStore34 (.pointer (some ⟨g, j * 33, none⟩)) (rv ki)).run Yba.prog (w.drew.setCells g (i * 33) (rl kj)) = .ok .skip ((w.drew.setCells g (i * 33) (rl kj)).setCells g (j * 33) (rl ki)) := run_store34 ki (World.there_setCells (w := w.drew) tj _ _ _)
  have hi' : (i : Int) < n := by omega
  have hj' : (j : Int) < n := by omega
  clear ri rj ti tj
  generalize rv ki = vi at *
  generalize rv kj = vj at *
  generalize rl ki = li at *
  generalize rl kj = lj at *
  go_enter Yba.func118, Yba.ntmps118
  go_wp2_with fail
  go_region
  all_goals
    go_end0
    exact ⟨rfl, rfl⟩

theorem swap_any {w0 w : World} {g n cap : Nat} {d : Array Nat} (h : Row w0 g n w d) (i j : Nat) (hi : i < n) (hj : j < n) :
    Calls Yba.prog 118 #[.slice (some ⟨g, 0, none⟩) n cap, .int .i64 i, .int .i64 j] w fun e w' =>
      e = .returned (.tuple #[]) ∧ Row w0 g n w' (Sort.swp d i j) ∧ Turn g w w' := by
  refine (swap_core g n cap i j d[i]! d[j]! w hi hj (h.recs i hi) (h.recs j hj) ((h.recs i hi).there h.free) ((h.recs j hj).there h.free)).mono ?_
  rintro e w' ⟨rfl, rfl⟩
  exact ⟨rfl, h.drew.swp i j hi hj, (show Turn g w w.drew from ⟨rfl, rfl, rfl, Nat.le_refl _, fun _ _ _ => rfl⟩).trans ((Turn.setCells g w.drew _ _).trans (Turn.setCells _ _ _ _))⟩

/-- The value that is handed to package sort. -/
def dv (g n cap : Nat) : Value := .iface 123 (.slice (some ⟨g, 0, none⟩) n cap)

theorem less_at {w0 w : World} {g n cap : Nat} {d : Array Nat} (h : Row w0 g n w d) (i j : Nat) (x y : Int) (hx : x = i) (hy : y = j) (hi : i < n) (hj : j < n) (b : Bool) (hb : ltN d[i]! d[j]! = b) :
    Calls Yba.prog 117 #[.slice (some ⟨g, 0, none⟩) n cap, .int .i64 x, .int .i64 y] w fun e w' => e = .returned (.bool b) ∧ Row w0 g n w' d ∧ Below w.heap.size w w' := by
  subst hx; subst hy; subst hb
  refine (less_any h i j hi hj).mono ?_
  rintro e w' ⟨rfl, hb⟩
  exact ⟨rfl, h.later (h.lt (by omega)) hb, hb⟩
theorem swap_at {w0 w : World} {g n cap : Nat} {d : Array Nat} (h : Row w0 g n w d) (i j : Nat) (x y : Int) (hx : x = i) (hy : y = j) (hi : i < n) (hj : j < n) :
    Calls Yba.prog 118 #[.slice (some ⟨g, 0, none⟩) n cap, .int .i64 x, .int .i64 y] w fun e w' => e = .returned (.tuple #[]) ∧ Row w0 g n w' (Sort.swp d i j) ∧ Turn g w w' := by
  subst hx; subst hy
  exact swap_any h i j hi hj

theorem find_less : ((Yba.prog.info? 123).bind fun i => i.methods.find? (·.name == "Less")).map (fun m => (m.path.size, m.func)) = some (0, some (117, false)) := by kernel_rfl
theorem find_len : ((Yba.prog.info? 123).bind fun i => i.methods.find? (·.name == "Len")).map (fun m => (m.path.size, m.func)) = some (0, some (116, false)) := by kernel_rfl
theorem find_swap : ((Yba.prog.info? 123).bind fun i => i.methods.find? (·.name == "Swap")).map (fun m => (m.path.size, m.func)) = some (0, some (118, false)) := by kernel_rfl

theorem method_own {T f : Nat} {name : String} (h : ((Yba.prog.info? T).bind fun i => i.methods.find? (·.name == name)).map (fun m => (m.path.size, m.func)) = some (0, some (f, false)))
    (E' : TypeId) (hu : Yba.prog.underlying T = some (.slice E')) (v : Value) (w : World) (n : Nat) :
    (method (n + 1) T v name).run Yba.prog w = .ok (f, v) w := by
  cases hi : Yba.prog.info? T with
  | none => rw [hi] at h; cases h
  | some i =>
    rw [hi] at h
    cases hm : i.methods.find? (·.name == name) with
    | none => simp [hm] at h
    | some m =>
      simp only [Option.bind_some, hm, Option.map_some, Option.some.injEq, Prod.mk.injEq] at h
      have hp : m.path = #[] := Array.eq_empty_of_size_eq_zero h.1
      unfold method
      simp [typeInfo, hi, hm, hp, h.2, follow, receiverAt, Place.get, run_underlying hu]
end Go.Proofs.Ybulkqhs
