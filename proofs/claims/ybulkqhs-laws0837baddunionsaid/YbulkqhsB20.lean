import Derived.Test.YbulkqhsB19
namespace Go.Proofs.Ybulkqhs
open Go.RowKit
set_option linter.unusedVariables false
attribute [local go_sem ↓] exec_store34 exec_load34 exec_box34 exec_build78 exec_box78 exec_load70
attribute [local go_sem] run_box34 run_box78 eql34_run neq34_run guard34

/-! The same operations one layer below (for the elder walk of a region) -/
def ld34 (p : Value) : Sem Value := Instr.loadAt 34 p
def bd78 (ps : Array (Nat × Value)) : Sem Value := Instr.build 78 ps
def bx78 (v : Value) : Sem Value := Instr.box 78 v
def ld70 (p : Value) : Sem Value := Instr.loadAt 70 p
theorem to_ld34 (p : Value) : Instr.loadAt 34 p = ld34 p := rfl
theorem to_bd78 (ps : Array (Nat × Value)) : Instr.build 78 ps = bd78 ps := rfl
theorem to_bx78 (v : Value) : Instr.box 78 v = bx78 v := rfl
theorem to_ld70 (p : Value) : Instr.loadAt 70 p = ld70 p := rfl
attribute [local go_sem ↓] to_ld34 to_bd78 to_bx78 to_ld70
theorem below_run {α : Type} {w : World} {x : Sem α} {f : α → Next} {v : α} (h : (do pure (f (← x)) : Sem Next).run Yba.prog w = .ok (f v) w) (hf : ∀ a b, f a = f b → a = b) : x.run Yba.prog w = .ok v w := by
  simp only [Sem.run_bind, Sem.run_pure] at h
  cases hx : x.run Yba.prog w with
  | ok a w1 =>
    rw [hx] at h
    simp only [Result.andThen_ok, Result.ok.injEq] at h
    rw [hf _ _ h.1, h.2]
  | halt e w1 => rw [hx] at h; cases h
theorem run_ld34 {w : World} {b o k : Nat} (h : RA w b o k) : (ld34 (.pointer (some ⟨b, o, none⟩))).run Yba.prog w = .ok (rv k) w :=
  below_run (f := Next.value) (run_load34 h) (fun a b h => by cases h; rfl)
theorem run_bd_leaf (w : World) (f N c : Nat) (v : Value) (hv : v.cells = #[v]) : (bd78 #[(0, rv f), (1, sv N c), (2, v)]).run Yba.prog w = .ok (nv f N c v nilS) w :=
  below_run (f := Next.value) (run_build_leaf w f N c v hv) (fun a b h => by cases h; rfl)
theorem run_bx78 (w : World) (f N c : Nat) (v cv : Value) : (bx78 (nv f N c v cv)).run Yba.prog w = .ok (.pointer (some ⟨w.heap.size, 0, none⟩)) (w.alloc (.cells (nc f N c v cv) 78)) := rfl
attribute [local go_sem] run_bx78

set_option maxRecDepth 100000 in
set_option maxHeartbeats 2000000 in
theorem newLeaf_core (b o cap : Nat) (k : Nat) (ks : List Nat) (w : World) (h : Recs w b o (k :: ks)) (hn : (k :: ks).length ≤ 1099511627776) :
    Calls Yba.prog 25 #[.slice (some ⟨b, o, none⟩) (k :: ks).length cap] w fun e w' => ∃ p, e = .returned (.pointer (some ⟨p, 0, none⟩)) ∧ w.heap.size ≤ p ∧ NB w' p k (sumN (k :: ks)) (k :: ks).length (.slice (some ⟨b, o, none⟩) (k :: ks).length cap) nilS ∧ Below w.heap.size w w' := by
  have hS : ∀ W, Below w.heap.size w W → Calls Yba.prog 15 #[.slice (some ⟨b, o, none⟩) (k :: ks).length cap] W fun e w' => e = .returned (sv (sumN (k :: ks)) (k :: ks).length) ∧ ∃ p, w' = gr w p := fun W hW =>
    (sumOf_core (some ⟨b, o, none⟩) cap (k :: ks) W (.inr ⟨b, o, rfl, h.later hW⟩) hn).mono fun e w' hh => ⟨hh.1, below_gr (hW.trans (hh.2.mono hW.size))⟩
  have HS := hideB hS
  clear hS
  have hb2 := fun w => run_bd_leaf w k (sumN (k :: ks)) (k :: ks).length (.slice (some ⟨b, o, none⟩) (k :: ks).length cap) rfl
  have hb := fun w => run_build_leaf w k (sumN (k :: ks)) (k :: ks).length (.slice (some ⟨b, o, none⟩) (k :: ks).length cap) rfl
  have h0 := h 0 (by simp)
  simp only [Nat.zero_mul, Nat.add_zero, List.getElem!_cons_zero] at h0
  have l1 : ∀ p, (exLoad34 (.pointer (some ⟨b, o, none⟩))).run Yba.prog (gr w p) = .ok (.value (rv k)) (gr w p) := fun p => run_load34 (gr_RA h0 p)
  have l0 : (exLoad34 (.pointer (some ⟨b, o, none⟩))).run Yba.prog w.drew = .ok (.value (rv k)) w.drew := run_load34 h0
  have l2 : ∀ p, (ld34 (.pointer (some ⟨b, o, none⟩))).run Yba.prog (gr w p) = .ok (rv k) (gr w p) := fun p => run_ld34 (gr_RA h0 p)
  have l3 : (ld34 (.pointer (some ⟨b, o, none⟩))).run Yba.prog w.drew = .ok (rv k) w.drew := run_ld34 h0
  have hlt : 0 < (k :: ks).length := by simp
  generalize (k :: ks).length = n at *
  generalize sumN (k :: ks) = N at *
  clear h h0
  go_enter Yba.func25, Yba.ntmps25
  go_wp2_with fail
  go_region_with (go_at_call 15; refine (unhideB HS _ ?_).mono ?_; (first | exact gr_below w _ | exact (Below.refl _ w).drew); rintro e w' ⟨rfl, p, rfl⟩)
  all_goals
    go_wp2_with fail
    go_ret
    exact ⟨_, rfl, (gr_below w _).size, heap_alloc_new _ _, (gr_below w _).alloc (gr_below w _).size _⟩

/-! ### Trees -/
/-- A slice of records whose block meets U. -/
def RSb (U : Nat → Prop) (w : World) (v : Value) (ks : List Nat) : Prop :=
  (v = nilS ∧ ks = []) ∨ ∃ b o cap, v = .slice (some ⟨b, o, none⟩) ks.length cap ∧ ks.length ≤ cap ∧ (ks ≠ [] → U b) ∧ Recs w b o ks
theorem RSb.rs {U : Nat → Prop} {w : World} {v : Value} {ks : List Nat} (h : RSb U w v ks) : RS w v ks := by
  rcases h with h | ⟨b, o, cap, h1, h2, h3, h4⟩
  · exact .inl h
  · exact .inr ⟨b, o, cap, h1, h2, h4⟩
theorem RSb.of {w : World} {v : Value} {ks : List Nat} (h : RS w v ks) : RSb (· < w.heap.size) w v ks := by
  rcases h with h | ⟨b, o, cap, h1, h2, h3⟩
  · exact .inl h
  · exact .inr ⟨b, o, cap, h1, h2, fun hne => (h3 0 (List.length_pos_iff.2 hne)).lt, h3⟩
theorem RSb.keep {U U' : Nat → Prop} {w w' : World} {v : Value} {ks : List Nat} (h : RSb U w v ks) (hb : ∀ b, U b → w'.heap[b]? = w.heap[b]?) (hU : ∀ b, U b → U' b) : RSb U' w' v ks := by
  rcases h with h | ⟨b, o, cap, h1, h2, h3, h4⟩
  · exact .inl h
  · refine .inr ⟨b, o, cap, h1, h2, fun hne => hU _ (h3 hne), fun i hi => (h4 i hi).of_block (hb b (h3 (by intro e; rw [e] at hi; simp at hi)))⟩

/-- A slice of pointers to nodes: cells in a row. -/
def Ptrs (w : World) (b o : Nat) (ps : List Nat) : Prop := ∀ i, i < ps.length → w.cell? ⟨b, o + i, none⟩ = some (.pointer (some ⟨ps[i]!, 0, none⟩))
theorem Ptrs.lt {w : World} {b o : Nat} {ps : List Nat} (h : Ptrs w b o ps) (hne : ps ≠ []) : b < w.heap.size := World.block_lt_of_cell? w _ (h 0 (List.length_pos_iff.2 hne))
theorem Ptrs.of_block {w w' : World} {b o : Nat} {ps : List Nat} (h : Ptrs w b o ps) (hb : w'.heap[b]? = w.heap[b]?) : Ptrs w' b o ps := fun i hi => (World.cell?_of_block (a := ⟨b, o + i, none⟩) hb).trans (h i hi)

/-- A node at depth d, all of its memory in blocks that meet U, the records below it ks. -/
def NodeAt : Nat → (Nat → Prop) → World → Nat → List Nat → Prop
  | 0, U, w, p, ks => U p ∧ ∃ v, NB w p (ks.headD 0) (sumN ks) ks.length v nilS ∧ RSb U w v ks
  | d + 1, U, w, p, ks => U p ∧ ∃ (b o cap : Nat) (cs : List (Nat × List Nat)), cs ≠ [] ∧ U b ∧ NB w p (ks.headD 0) (sumN ks) ks.length nilS (.slice (some ⟨b, o, none⟩) cs.length cap) ∧ cs.length ≤ cap ∧ Ptrs w b o (cs.map (·.1)) ∧
      (∀ c ∈ cs, c.2 ≠ [] ∧ NodeAt d U w c.1 c.2) ∧ ks = cs.flatMap (·.2)

theorem NodeAt.keep {U U' : Nat → Prop} {w w' : World} (hb : ∀ b, U b → w'.heap[b]? = w.heap[b]?) (hU : ∀ b, U b → U' b) : ∀ (d p : Nat) (ks : List Nat), NodeAt d U w p ks → NodeAt d U' w' p ks
  | 0, p, ks, ⟨hp, v, h1, h2⟩ => ⟨hU p hp, v, h1.later (hb p hp), h2.keep hb hU⟩
  | d + 1, p, ks, ⟨hp, b, o, cap, cs, h0, h1, h2, h3, h4, h5, h6⟩ => ⟨hU p hp, b, o, cap, cs, h0, hU b h1, h2.later (hb p hp), h3, h4.of_block (hb b h1), fun c hc => ⟨(h5 c hc).1, NodeAt.keep hb hU d c.1 c.2 (h5 c hc).2⟩, h6⟩
theorem NodeAt.later {S S' : Nat} {w w' : World} (hb : Below S w w') (hS : S ≤ S') (d p : Nat) (ks : List Nat) (h : NodeAt d (· < S) w p ks) : NodeAt d (· < S') w' p ks :=
  NodeAt.keep (fun b hlt => hb.block b hlt) (fun b hlt => Nat.lt_of_lt_of_le hlt hS) d p ks h
theorem NodeAt.use {U : Nat → Prop} {w : World} : ∀ {d p : Nat} {ks : List Nat}, NodeAt d U w p ks → U p
  | 0, _, _, h => h.1
  | _ + 1, _, _, h => h.1

/-- What a new leaf is. -/
theorem newLeaf_any {w : World} (b o cap : Nat) (ks : List Nat) (hne : ks ≠ []) (hc : ks.length ≤ cap) (h : Recs w b o ks) (hn : ks.length ≤ 1099511627776) :
    Calls Yba.prog 25 #[.slice (some ⟨b, o, none⟩) ks.length cap] w fun e w' => ∃ p, e = .returned (.pointer (some ⟨p, 0, none⟩)) ∧ w.heap.size ≤ p ∧ p < w'.heap.size ∧ (∀ U : Nat → Prop, U p → U b → NodeAt 0 U w' p ks) ∧ Below w.heap.size w w' := by
  cases ks with
  | nil => exact absurd rfl hne
  | cons k ks =>
    refine (newLeaf_core b o cap k ks w h hn).mono ?_
    rintro e w' ⟨p, rfl, h1, h2, h3⟩
    exact ⟨p, rfl, h1, h2.lt, fun U hp hb => ⟨hp, _, h2, .inr ⟨b, o, cap, rfl, hc, fun _ => hb, h.later h3⟩⟩, h3⟩
end Go.Proofs.Ybulkqhs
