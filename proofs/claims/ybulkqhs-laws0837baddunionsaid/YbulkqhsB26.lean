import Derived.Test.YbulkqhsB25
namespace Go.Proofs.Ybulkqhs
open Go.RowKit
set_option linter.unusedVariables false
attribute [local go_sem ↓] exec_store34 exec_load34 exec_box34 exec_build78 exec_box78 exec_load70
attribute [local go_sem] run_box34 run_box78 eql34_run neq34_run guard34

/-! ### Reslicing records; a slice of one record -/
def sl56 (x : Value) (lo hi mx : Option Value) : Sem Value := Instr.slice 56 x lo hi mx
def bs56 (n : Nat) (ps : Array (Nat × Value)) : Sem Value := Instr.buildSlice 56 n ps
theorem to_sl56 (x : Value) (lo hi mx : Option Value) : Instr.slice 56 x lo hi mx = sl56 x lo hi mx := rfl
theorem to_bs56 (n : Nat) (ps : Array (Nat × Value)) : Instr.buildSlice 56 n ps = bs56 n ps := rfl

theorem Addr.add_none (b o j : Nat) : (⟨b, o, none⟩ : Addr).add j = ⟨b, o + j, none⟩ := Addr.add_mid b o j

theorem run_sl_tail (b o n cap l : Nat) (hl : l ≤ n) (hn : n ≤ cap) (w : World) : (sl56 (.slice (some ⟨b, o, none⟩) n cap) (some (.int .i64 (l : Int))) none none).run Yba.prog w =
    .ok (.slice (some (if cap = l then ⟨b, o, none⟩ else ⟨b, o + l * 33, none⟩)) (n - l) (cap - l)) w := by
  have hu := Yba.underlying56
  have hz := Yba.sizeOf34 w
  have h1 : (0 : Int) ≤ (l : Int) ∧ (l : Int) ≤ (n : Int) := by omega
  unfold sl56 Instr.slice Instr.sliceBounds Instr.sliceBound
  simp only [Sem.run_bind, run_underlying hu, Result.andThen_ok, Sem.run_pure, asIntOf, Sem.run_ite, if_pos h1, Int.toNat_natCast, hz]
  by_cases hc : cap = l
  · simp [hc]
  · simp [hc, Addr.add_none]
theorem run_sl_head (b o n cap h : Nat) (hh : h ≤ cap) (w : World) : (sl56 (.slice (some ⟨b, o, none⟩) n cap) none (some (.int .i64 (h : Int))) none).run Yba.prog w =
    .ok (.slice (some ⟨b, o, none⟩) h cap) w := by
  have hu := Yba.underlying56
  have hz := Yba.sizeOf34 w
  have h1 : (0 : Int) ≤ (h : Int) ∧ (h : Int) ≤ (cap : Int) := by omega
  unfold sl56 Instr.slice Instr.sliceBounds Instr.sliceBound
  simp only [Sem.run_bind, run_underlying hu, Result.andThen_ok, Sem.run_pure, asIntOf, Sem.run_ite, if_pos h1, Int.toNat_natCast, hz]
  by_cases hc : cap = 0
  · simp [hc]
  · simp [hc, Addr.add_none]

theorem RSb.tail {U : Nat → Prop} {w : World} {b o n cap : Nat} {ks : List Nat} (h : RSb U w (.slice (some ⟨b, o, none⟩) n cap) ks) (l : Nat) (hl : l ≤ ks.length) :
    ∃ a', (∀ w, (sl56 (.slice (some ⟨b, o, none⟩) n cap) (some (.int .i64 (l : Int))) none none).run Yba.prog w = .ok (.slice (some a') (n - l) (cap - l)) w) ∧ RSb U w (.slice (some a') (n - l) (cap - l)) (ks.drop l) := by
  rcases h with ⟨h, _⟩ | ⟨b', o', cap', h1, h2, h3, h4⟩
  · cases h
  · simp only [Value.slice.injEq, Option.some.injEq, Addr.mk.injEq, and_true] at h1
    obtain ⟨⟨rfl, rfl⟩, rfl, rfl⟩ := h1
    refine ⟨_, fun w => run_sl_tail b o ks.length cap l hl h2 w, ?_⟩
    by_cases hc : cap = l
    · rw [if_pos hc]
      have hd : ks.drop l = [] := List.drop_eq_nil_of_le (by omega)
      rw [hd]
      refine .inr ⟨b, o, cap - l, by rw [show ks.length - l = 0 by omega]; rfl, by simp, fun h => absurd rfl h, fun i hi => by simp at hi⟩
    · rw [if_neg hc]
      refine .inr ⟨b, o + l * 33, cap - l, by rw [List.length_drop], by rw [List.length_drop]; omega, fun hne => h3 (by intro e; rw [e] at hne; simp at hne), fun i hi => ?_⟩
      rw [List.length_drop] at hi
      have := h4 (l + i) (by omega)
      rw [show o + l * 33 + i * 33 = o + (l + i) * 33 by omega, getElem!_pos _ i (by rw [List.length_drop]; exact hi), List.getElem_drop]
      rwa [getElem!_pos ks (l + i) (by omega)] at this
theorem RSb.head {U : Nat → Prop} {w : World} {b o n cap : Nat} {ks : List Nat} (h : RSb U w (.slice (some ⟨b, o, none⟩) n cap) ks) (l : Nat) (hl : l ≤ ks.length) :
    (∀ w, (sl56 (.slice (some ⟨b, o, none⟩) n cap) none (some (.int .i64 (l : Int))) none).run Yba.prog w = .ok (.slice (some ⟨b, o, none⟩) l cap) w) ∧ RSb U w (.slice (some ⟨b, o, none⟩) l cap) (ks.take l) := by
  rcases h with ⟨h, _⟩ | ⟨b', o', cap', h1, h2, h3, h4⟩
  · cases h
  · simp only [Value.slice.injEq, Option.some.injEq, Addr.mk.injEq, and_true] at h1
    obtain ⟨⟨rfl, rfl⟩, rfl, rfl⟩ := h1
    refine ⟨fun w => run_sl_head b o ks.length cap l (by omega) w, .inr ⟨b, o, cap, by rw [List.length_take]; congr 1; omega, by rw [List.length_take]; omega, fun hne => h3 (by intro e; rw [e] at hne; simp at hne), fun i hi => ?_⟩⟩
    rw [List.length_take] at hi
    have := h4 i (by omega)
    rw [getElem!_pos _ i (by rw [List.length_take]; exact hi), List.getElem_take]
    rwa [getElem!_pos ks i (by omega)] at this

theorem run_bs56 (w : World) (k : Nat) : (bs56 1 #[(0, rv k)]).run Yba.prog w = .ok (.slice (some ⟨w.heap.size, 0, none⟩) 1 1) (w.alloc (.cells (rl k).toArray 34)) := by
  have hu := Yba.underlying56
  have hz := Yba.sizeOf34
  have hzv := zero34
  have hfill : Instr.fill (fun i => some (i * 33, 33)) ((Array.range (1 * 33)).map ((rv 0).cells[· % (rv 0).cells.size]!)) [(0, rv k)] = some (rl k).toArray := by
    refine Eq.trans (fill_step _ 0 0 33 (rv k) (rl k).toArray rfl (rl_size k) [] _ [] ((Array.range (1 * 33)).map ((rv 0).cells[· % (rv 0).cells.size]!)).toList [] (by rw [List.nil_append, List.append_nil, Array.toArray_toList]) rfl (by simp) (by simp)) ?_
    simp [Instr.fill]
  unfold bs56 Instr.buildSlice
  simp only [Sem.run_bind, run_underlying hu, Result.andThen_ok, Sem.run_pure, Sem.run_ite, hz, hzv]
  rw [if_neg (by decide), if_neg (by decide)]
  simp only [Sem.run_bind, Sem.run_pure, hfill]
  rfl

/-! ### Two ascending lists made one -/
structure Mg (xs ys xs' ys' zs : List Nat) : Prop where
  za : zs.Pairwise (· < ·)
  pa : xs'.Pairwise (· < ·)
  pb : ys'.Pairwise (· < ·)
  low : ∀ z ∈ zs, (∀ y ∈ xs', z < y) ∧ ∀ y ∈ ys', z < y
  mem : ∀ x, (x ∈ zs ∨ x ∈ xs' ∨ x ∈ ys') ↔ (x ∈ xs ∨ x ∈ ys)
  len : zs.length + xs'.length + ys'.length ≤ xs.length + ys.length
theorem Mg.start {xs ys : List Nat} (ha : xs.Pairwise (· < ·)) (hb : ys.Pairwise (· < ·)) : Mg xs ys xs ys [] :=
  ⟨.nil, ha, hb, fun z hz => by simp at hz, fun x => by simp, by simp⟩
theorem snoc_asc {zs : List Nat} {k : Nat} (h : zs.Pairwise (· < ·)) (hk : ∀ z ∈ zs, z < k) : (zs ++ [k]).Pairwise (· < ·) := by
  rw [List.pairwise_append]
  exact ⟨h, by simp, fun a ha b hb => by simp at hb; subst hb; exact hk a ha⟩
theorem Mg.left {xs ys xs' ys' zs : List Nat} {k : Nat} (h : Mg xs ys (k :: xs') ys' zs) (hk : ∀ y ∈ ys', k < y) : Mg xs ys xs' ys' (zs ++ [k]) := by
  have hp := List.pairwise_cons.1 h.pa
  refine ⟨snoc_asc h.za fun z hz => (h.low z hz).1 k List.mem_cons_self, hp.2, h.pb, fun z hz => ?_, fun x => ?_, by have := h.len; simp at *; omega⟩
  · rw [List.mem_append] at hz
    rcases hz with hz | hz
    · exact ⟨fun y hy => (h.low z hz).1 y (List.mem_cons_of_mem _ hy), (h.low z hz).2⟩
    · simp at hz; subst hz; exact ⟨hp.1, hk⟩
  · rw [← h.mem x]
    simp only [List.mem_append, List.mem_cons, List.not_mem_nil, or_false]
    constructor
    · rintro ((h1 | h1) | h1 | h1) <;> simp [h1]
    · rintro (h1 | (h1 | h1) | h1) <;> simp [h1]
theorem Mg.right {xs ys xs' ys' zs : List Nat} {k : Nat} (h : Mg xs ys xs' (k :: ys') zs) (hk : ∀ y ∈ xs', k < y) : Mg xs ys xs' ys' (zs ++ [k]) := by
  have hp := List.pairwise_cons.1 h.pb
  refine ⟨snoc_asc h.za fun z hz => (h.low z hz).2 k List.mem_cons_self, h.pa, hp.2, fun z hz => ?_, fun x => ?_, by have := h.len; simp at *; omega⟩
  · rw [List.mem_append] at hz
    rcases hz with hz | hz
    · exact ⟨(h.low z hz).1, fun y hy => (h.low z hz).2 y (List.mem_cons_of_mem _ hy)⟩
    · simp at hz; subst hz; exact ⟨hk, hp.1⟩
  · rw [← h.mem x]
    simp only [List.mem_append, List.mem_cons, List.not_mem_nil, or_false]
    constructor
    · rintro ((h1 | h1) | h1 | h1) <;> simp [h1]
    · rintro (h1 | h1 | (h1 | h1)) <;> simp [h1]
theorem Mg.both {xs ys xs' ys' zs : List Nat} {k : Nat} (h : Mg xs ys (k :: xs') (k :: ys') zs) : Mg xs ys xs' ys' (zs ++ [k]) := by
  have hp := List.pairwise_cons.1 h.pa
  have hq := List.pairwise_cons.1 h.pb
  refine ⟨snoc_asc h.za fun z hz => (h.low z hz).2 k List.mem_cons_self, hp.2, hq.2, fun z hz => ?_, fun x => ?_, by have := h.len; simp at *; omega⟩
  · rw [List.mem_append] at hz
    rcases hz with hz | hz
    · exact ⟨fun y hy => (h.low z hz).1 y (List.mem_cons_of_mem _ hy), fun y hy => (h.low z hz).2 y (List.mem_cons_of_mem _ hy)⟩
    · simp at hz; subst hz; exact ⟨hp.1, hq.1⟩
  · rw [← h.mem x]
    simp only [List.mem_append, List.mem_cons, List.not_mem_nil, or_false]
    constructor
    · rintro ((h1 | h1) | h1 | h1) <;> simp [h1]
    · rintro (h1 | (h1 | h1) | (h1 | h1)) <;> simp [h1]
/-- What a union is: ascending, the members of both. -/
structure Uni (xs ys zs : List Nat) : Prop where
  asc : zs.Pairwise (· < ·)
  mem : ∀ x, x ∈ zs ↔ (x ∈ xs ∨ x ∈ ys)
theorem Mg.done {xs ys xs' ys' zs : List Nat} (h : Mg xs ys xs' ys' zs) (he : xs' = [] ∨ ys' = []) : Uni xs ys (zs ++ xs' ++ ys') := by
  refine ⟨?_, fun x => by rw [← h.mem x]; simp⟩
  rw [List.pairwise_append, List.pairwise_append]
  refine ⟨⟨h.za, h.pa, fun a ha b hb => (h.low a ha).1 b hb⟩, h.pb, fun a ha b hb => ?_⟩
  rw [List.mem_append] at ha
  rcases ha with ha | ha
  · exact (h.low a ha).2 b hb
  · rcases he with rfl | rfl
    · simp at ha
    · simp at hb
end Go.Proofs.Ybulkqhs
