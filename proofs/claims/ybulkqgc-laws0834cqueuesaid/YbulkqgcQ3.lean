import Derived.Test.YbulkqgcQ2
import Derived.Deep.RegionLaw
namespace Go.Proofs.Ybulkqgc
open Go.RowKit
set_option linter.unusedVariables false

theorem step_append_own {P : Program} {ops : Array Oper} {o : Oper} {a : Act} {w : World} {K : Act → World → Prop} {Q : Exit → Act → World → Prop} {E : Prop}
    (hg : o.guard = Option.none) (s x : Operand) (t : TypeId) (ho : o.op = .call { callee := .builtin .append, args := #[s, x], argTypes := #[t, t] })
    (base : Nat) (e : TypeId) (i : TypeInfo) (z : Value) (size bytes : Nat) (ht : P.underlying t = some (.slice e)) (hi : P.info? e = some i) (hz : i.zero = some z)
    (hsize : i.size = size) (hby : i.bytes = bytes) (hzs : z.cells.size = size) (hsz : 0 < size)
    (v : Value) (n : Nat) (xs : List Value) (hs : a.eval s = v) (hown : w.ownsRow base e size v n xs)
    (ad : Addr) (m c : Nat) (news : List Value) (hx : a.eval x = .slice (some ad) m c) (hl : news.length = m * size) (hnews : ∀ j u, news[j]? = some u → w.cell? (ad.add j) = some u) (h1 : ∀ u ∈ news, u.oneCell' = true)
    (h63 : n + m ≤ maxLen) (hbytes : (n + m) * bytes ≤ 140737488355328) (hbase : base ≤ w.heap.size)
    (h : ∀ v' w', w'.ownsRow base e size v' (n + m) (xs ++ news) → w.grownBy w' v.ownBlock → K (a.put o.dst v') w') :
    if Region.wanted o (yielded ops a.tmps) = true then Oper.wp P o a w K Q else E := by
  rw [if_pos (by simp [Region.wanted, hg])]
  exact wp_append_own w s x t ho base e i z size bytes ht hi hz hsize hby hzs hsz v n xs hs hown ad m c news hx hl hnews h1 h63 hbytes hbase (fun v' w' a b _ => h v' w' a b)

theorem row_form {w : World} {base e size n : Nat} {v : Value} {xs : List Value} (h : w.ownsRow base e size v n xs) (hn : 0 < n) : ∃ g cap, v = .slice (some ⟨g, 0, Option.none⟩) n cap ∧ base ≤ g ∧ g < w.heap.size := by
  rcases h.2 with ⟨_, rfl⟩ | ⟨g, cap, cur, rfl, hb, hg, _⟩
  · omega
  · exact ⟨g, cap, rfl, hb, (Array.getElem?_eq_some_iff.1 hg).1⟩

theorem Yba.info96 : (Yba.prog.info? 96).map (fun i => (i.zero, i.size, i.bytes)) = some (some (.agg #[.int .i64 0, .int .u64 0, .int .i64 0, .int .i64 0, .pointer Option.none, .int .u64 0, .int .u32 0, .nilFunc]), 8, 64) := by kernel_rfl

theorem run_assert_ev (v : Value) (w : World) : (Instr.typeAssert (.iface 96 v) 20 96 false).run Yba.prog w = .ok v w := by
  simp [Instr.typeAssert, run_underlying Yba.underlying96]

theorem cells_at {w : World} {g : Nat} {cur : Array Value} {t : TypeId} {fr : Nat × Nat} (h : w.heap[g]? = some (.cells cur t fr)) (j : Nat) (u : Value) (hu : cur[j]? = some u) : w.cell? ((⟨g, 0, Option.none⟩ : Addr).add j) = some u := by
  have hadd : (⟨g, 0, Option.none⟩ : Addr).add j = ⟨g, j, Option.none⟩ := by unfold Addr.add; split <;> simp_all
  rw [hadd]
  simp only [World.cell?, h]
  simpa using hu

theorem cell_at {w : World} {g o : Nat} {cur : Array Value} {t : TypeId} {fr : Nat × Nat} {u : Value} (h : w.heap[g]? = some (.cells cur t fr)) (hu : cur[o]? = some u) : w.cell? ⟨g, o, Option.none⟩ = some u := by
  simp only [World.cell?, h]
  simpa using hu
theorem free_at {w : World} {g o : Nat} {cur : Array Value} {t : TypeId} (h : w.heap[g]? = some (.cells cur t (0, 0))) : w.frozen? ⟨g, o, Option.none⟩ = false := by
  simp [World.frozen?, h]
theorem lt_at {w : World} {g : Nat} {ob : Obj} (h : w.heap[g]? = some ob) : g < w.heap.size := (Array.getElem?_eq_some_iff.1 h).1

theorem row_ne {w : World} {B e size n : Nat} {v : Value} {xs : List Value} (h : w.ownsRow (B + 1) e size v n xs) : some B ≠ v.ownBlock := by
  intro hh
  have := (h.lt B hh.symm).1
  omega

theorem Ev.one (e : Ev) : ∀ u ∈ e.cells, u.oneCell' = true := by
  intro u hu
  simp only [Ev.cells, List.mem_cons, List.not_mem_nil, or_false] at hu
  rcases hu with rfl | rfl | rfl | rfl | rfl | rfl | rfl | rfl <;> rfl

theorem queue_of_row {w : World} {base g cap n : Nat} {es : List Ev} (h : w.ownsRow base 96 8 (.slice (some ⟨g, 0, Option.none⟩) n cap) n (flat es)) (hn : n = es.length) : Queue w g cap es := by
  rcases h.2 with ⟨hh, _⟩ | ⟨g', cap', cur, hv, hb, hg, h1, h2, h3, h4⟩
  · cases hh
  · simp only [Value.slice.injEq, Option.some.injEq, Addr.mk.injEq, and_true, true_and] at hv
    obtain ⟨rfl, rfl⟩ := hv
    subst hn
    exact ⟨cur, hg, h1, h2, h3, (fits_iff cur es).2 h4⟩

theorem row_of_queue {w : World} {base g cap n : Nat} {es : List Ev} (h : Queue w g cap es) (hn : n = es.length) (hb : base ≤ g) : w.ownsRow base 96 8 (.slice (some ⟨g, 0, Option.none⟩) n cap) n (flat es) := by
  subst hn
  obtain ⟨cur, hg, h1, h2, h3, h4⟩ := h
  exact ⟨flat_len es, .inr ⟨g, cap, cur, rfl, hb, hg, h1, h2, h3, (fits_iff cur es).1 h4⟩⟩

theorem Queue.setCell_other {w : World} {g cap B o : Nat} {es : List Ev} (h : Queue w g cap es) (hB : B ≠ g) (v : Value) : Queue (w.setCell ⟨B, o, Option.none⟩ v) g cap es :=
  h.of_block (Below.heap_setCell _ _ _ _ (Ne.symm hB))

theorem alloc_frozen (w : World) (ob : Obj) (B o : Nat) (h : B < w.heap.size) : (w.alloc ob).frozen? ⟨B, o, Option.none⟩ = w.frozen? ⟨B, o, Option.none⟩ :=
  World.frozen?_of_block (Below.heap_alloc _ _ _ h)

set_option maxHeartbeats 800000 in
theorem push_core (B o n : Nat) (v : Value) (es : List Ev) (e : Ev) (w : World) (hl : n ≤ 2000) (hB : B < w.heap.size)
    (hc : w.cell? ⟨B, o, Option.none⟩ = some v) (hf : w.frozen? ⟨B, o, Option.none⟩ = false) (hown : w.ownsRow (B + 1) 96 8 v n (flat es)) :
    Calls Yba.prog 72 #[.pointer (some ⟨B, o, Option.none⟩), .iface 96 (.agg e.cells.toArray)] w fun ee w' =>
      ee = .returned (.tuple #[]) ∧ ∃ g cap w1, w' = w1.setCell ⟨B, o, Option.none⟩ (.slice (some ⟨g, 0, Option.none⟩) (n + 1) cap) ∧ B < g ∧
        w1.ownsRow (B + 1) 96 8 (.slice (some ⟨g, 0, Option.none⟩) (n + 1) cap) (n + 1) (flat es ++ e.cells) ∧ (w.alloc (.cells e.cells.toArray 96)).drew.grownBy w1 v.ownBlock := by
  obtain ⟨i0, hi, hz0, hz1, hz2⟩ := info_parts Yba.info96
  have hne := hide (row_ne hown)
  have OWN := hide hown; clear hown
  have hta := run_assert_ev
  unfold Ev.cells
  go_enter Yba.func72, Yba.ntmps72
  go_wp2_with fail
  go_region_law (refine step_append_own rfl (.tmp 7) (.tmp 10) 84 rfl (B + 1) 96 i0 _ 8 64 Yba.underlying84 hi hz0 hz1 hz2 rfl (by decide) v n (flat es) (by simp [Act.eval]) ((unhide OWN).alloc _) ⟨w.heap.size, 0, Option.none⟩ 1 1 e.cells (by simp [Act.eval]) rfl (fun j u hu => cells_at (cur := e.cells.toArray) (t := 96) (fr := (0, 0)) (by exact heap_alloc_new w _) j u (by simpa using hu)) e.one (by unfold maxLen; omega) (by omega) (by simp; omega) ?_; intro v' w1 hown hgrow; obtain ⟨g, cap, rfl, hg1, hg2⟩ := row_form hown (by omega); have hc1 : w1.cell? ⟨B, o, Option.none⟩ = some v := hgrow.cell (by simpa [World.cell?_alloc_lt _ _ ⟨B, o, Option.none⟩ hB] using hc) (unhide hne); have hf1 : w1.frozen? ⟨B, o, Option.none⟩ = false := (World.frozen?_of_block (hgrow.block B (by simp; omega) (unhide hne))).trans (by exact (alloc_frozen _ _ _ _ hB).trans hf); have OW := hide hown; have GR := hide hgrow; clear hown hgrow)
  all_goals
    go_end0
    exact ⟨rfl, g, cap, w1, rfl, hg1, unhide OW, unhide GR⟩

/-- (*events).Push: the queue that block B's cell o holds is one event longer. -/
theorem push_any (B o n : Nat) (cur : Array Value) (t : TypeId) (v : Value) (es : List Ev) (e : Ev) (w : World) (hn : n = es.length) (hl : n ≤ 2000)
    (hblk : w.heap[B]? = some (.cells cur t (0, 0))) (hv : cur[o]? = some v) (hown : w.ownsRow (B + 1) 96 8 v n (flat es)) :
    Calls Yba.prog 72 #[.pointer (some ⟨B, o, Option.none⟩), .iface 96 (.agg e.cells.toArray)] w fun ee w' =>
      ee = .returned (.tuple #[]) ∧ ∃ g cap, B < g ∧ w'.heap[B]? = some (.cells (cur.setIfInBounds o (.slice (some ⟨g, 0, Option.none⟩) (n + 1) cap)) t (0, 0)) ∧ Queue w' g cap (es ++ [e]) ∧ Below B w w' := by
  refine (push_core B o n v es e w hl (lt_at hblk) (cell_at hblk hv) (free_at hblk) hown).mono ?_
  rintro ee w' ⟨rfl, g, cap, w1, rfl, hg, hrow, hgr⟩
  have hB := lt_at hblk
  have hb1 : w1.heap[B]? = some (.cells cur t (0, 0)) := (hgr.block B (by simp; omega) (row_ne hown)).trans ((Below.heap_alloc w _ B hB).trans hblk)
  refine ⟨rfl, g, cap, hg, setCell_heap hb1 _, ?_, ?_⟩
  · refine Queue.setCell_other ?_ (by omega) _
    refine queue_of_row (n := n + 1) (base := B + 1) ?_ (by simp [hn])
    rw [flat_append]
    simpa [flat] using hrow
  · refine Below.setCell (B := B) (p := ⟨B, o, Option.none⟩) ?_ (Nat.le_refl B) _
    refine Below.grown (w := (w.alloc (.cells e.cells.toArray 96)).drew) ?_ hgr (by simp; omega) ?_
    · exact ((Below.refl B w).alloc (by omega) _).drew
    · intro k hk
      have := (hown.lt k hk).1
      omega
end Go.Proofs.Ybulkqgc
