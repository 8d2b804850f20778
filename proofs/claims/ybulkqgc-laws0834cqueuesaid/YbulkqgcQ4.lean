import Derived.Test.YbulkqgcQ3
namespace Go.Proofs.Ybulkqgc
open Go.RowKit
set_option linter.unusedVariables false

theorem len_any (p : Option Addr) (n cap : Nat) (w : World) : Calls Yba.prog 64 #[.slice p n cap] w fun e w' => e = .returned (.int .i64 n) ∧ w' = w := by
  go_enter Yba.func64, Yba.ntmps64
  go_wp2
  go_ret
  exact ⟨rfl, rfl⟩

theorem Only.below {B g : Nat} {w w' : World} (h : Only g w w') (hB : B ≤ g) : Below B w w' :=
  ⟨h.os, h.tape, h.output, Nat.le_of_eq h.size.symm, fun k hk => h.block k (by omega)⟩

set_option maxHeartbeats 800000 in
theorem hpush_any (B o n : Nat) (cur : Array Value) (t : TypeId) (v : Value) (es : List Ev) (e : Ev) (w : World) (hn : n = es.length) (hl : n < 2000) (ho : o < cur.size)
    (hblk : w.heap[B]? = some (.cells cur t (0, 0))) (hv : cur[o]? = some v) (hown : w.ownsRow (B + 1) 96 8 v n (flat es)) (hheap : HeapOK es) :
    Calls Yba.prog 26 #[.iface 112 (.pointer (some ⟨B, o, Option.none⟩)), .iface 96 (.agg e.cells.toArray)] w fun ee w' =>
      ee = .returned (.tuple #[]) ∧ ∃ g cap es', B < g ∧ w'.heap[B]? = some (.cells (cur.setIfInBounds o (.slice (some ⟨g, 0, Option.none⟩) (n + 1) cap)) t (0, 0)) ∧ es'.Perm (es ++ [e]) ∧ HeapOK es' ∧ Queue w' g cap es' ∧ Below B w w' := by
  have HN := hide hn; have HB := hide hblk; have HV := hide hv; have HO := hide hown; have HH := hide hheap
  clear hn hblk hv hown hheap
  have mP := m_push (.pointer (some ⟨B, o, Option.none⟩))
  go_enter Yba.func26, Yba.ntmps26
  go_wp2_with fail
  refine (push_any B o n cur t v es e w (unhide HN) (by omega) (unhide HB) (unhide HV) (unhide HO)).mono ?_
  rintro ee w1 ⟨rfl, g, cap, hg, hb1, hq1, hbel⟩
  have hc1 : w1.cell? ⟨B, o, Option.none⟩ = some (.slice (some ⟨g, 0, Option.none⟩) (n + 1) cap) := cell_at hb1 (by simp [ho])
  have mN := m_len B o w1 _ hc1
  have B1 := hide hb1; have Q1 := hide hq1; have BL := hide hbel; have C1 := hide hc1
  clear hb1 hq1 hbel hc1 mP
  go_wp2_with fail
  refine (len_any _ _ _ _).mono ?_
  rintro ee w2 ⟨rfl, rfl⟩
  go_wp2_with fail
  have hlen : (es ++ [e]).length = n + 1 := by simp [unhide HN]
  have hup := up_any B o g cap n (es ++ [e]) w2 (by omega) (by omega) (by omega) (by rw [hlen]; exact unhide C1) (unhide Q1) (by rw [unhide HN]; exact (unhide HH).push e)
  clear hlen
  refine hup.mono ?_
  rintro ee w3 ⟨rfl, es', hp, hh, hq, hon⟩
  have U := hide (And.intro hp (And.intro hh (And.intro hq hon)))
  clear hp hh hq hon hup
  go_wp2_with fail
  go_end0
  obtain ⟨hp, hh, hq, hon⟩ := unhide U
  exact ⟨rfl, g, cap, es', hg, (hon.block B (by omega)).trans (unhide B1), hp, hh, hq, (unhide BL).trans (hon.below (by omega))⟩

/-- The law's network: its block B; the number, the time and the queue in it. -/
structure Net (B : Nat) (w : World) (now seq : Int) (v : Value) (es : List Ev) (cur : Array Value) : Prop where
  blk : w.heap[B]? = some (.cells cur 90 (0, 0))
  size : cur.size = 44
  now_ : cur[17]? = some (.int .i64 now)
  ev : cur[18]? = some v
  seq_ : cur[19]? = some (.int .u64 seq)
  row : w.ownsRow (B + 1) 96 8 v es.length (flat es)

/-- The same memory, the same streams. -/
structure Same (w w' : World) : Prop where
  os : w'.os = w.os
  tape : w'.tape = w.tape
  output : w'.output = w.output
  heap : w'.heap = w.heap

def evOf (at_ seq to_ : Int) : Ev := ⟨at_, seq, to_⟩

set_option maxHeartbeats 800000 in
theorem sched_core (B : Nat) (now seq d k : Int) (v : Value) (w : World) (hB : B < w.heap.size) (K : World → Prop)
    (c17 : w.cell? ⟨B, 17, Option.none⟩ = some (.int .i64 now)) (c18 : w.cell? ⟨B, 18, Option.none⟩ = some v) (c19 : w.cell? ⟨B, 19, Option.none⟩ = some (.int .u64 seq))
    (f19 : w.frozen? ⟨B, 19, Option.none⟩ = false)
    (hp : ∀ W, Same ((w.setCell ⟨B, 19, Option.none⟩ (.int .u64 (IntKind.u64.wrap (seq + 1)))).alloc (.cells #[.int .i64 (wrap64 (now + d)), .int .u64 (IntKind.u64.wrap (seq + 1)), .int .i64 k, .int .i64 (-1), .pointer Option.none, .int .u64 0, .int .u32 0, .nilFunc] 96)) W →
      Calls Yba.prog 26 #[.iface 112 (.pointer (some ⟨B, 18, Option.none⟩)), .iface 96 (.agg #[.int .i64 (wrap64 (now + d)), .int .u64 (IntKind.u64.wrap (seq + 1)), .int .i64 k, .int .i64 (-1), .pointer Option.none, .int .u64 0, .int .u32 0, .nilFunc])] W fun ee w' => ee = .returned (.tuple #[]) ∧ K w') :
    Calls Yba.prog 16 #[.pointer (some ⟨B, 0, Option.none⟩), .int .i64 d, .agg #[.int .i64 0, .int .u64 0, .int .i64 k, .int .i64 (-1), .pointer Option.none, .int .u64 0, .int .u32 0, .nilFunc]] w fun ee w' =>
      ee = .returned (.tuple #[]) ∧ K w' := by
  have HP := hide hp; clear hp
  go_enter Yba.func16, Yba.ntmps16
  go_wp2_with fail
  go_region
  go_wp2_with fail
  go_region_with (go_at_call 26; refine (unhide HP _ (by exact ⟨rfl, rfl, rfl, rfl⟩)).mono ?_; rintro ee w' ⟨rfl, hk⟩)
  all_goals
    go_end0
    exact ⟨rfl, hk⟩

/-- The law's step: one event more, queued for now + d under the next number. -/
theorem sched_any (B : Nat) (now seq d k : Int) (v : Value) (es : List Ev) (cur : Array Value) (w : World) (h : Net B w now seq v es cur) (hl : es.length < 2000) (hh : HeapOK es) :
    Calls Yba.prog 16 #[.pointer (some ⟨B, 0, Option.none⟩), .int .i64 d, .agg #[.int .i64 0, .int .u64 0, .int .i64 k, .int .i64 (-1), .pointer Option.none, .int .u64 0, .int .u32 0, .nilFunc]] w fun ee w' =>
      ee = .returned (.tuple #[]) ∧ ∃ v' es' cur', Net B w' now (IntKind.u64.wrap (seq + 1)) v' es' cur' ∧ es'.Perm (es ++ [evOf (wrap64 (now + d)) (IntKind.u64.wrap (seq + 1)) k]) ∧ HeapOK es' ∧ Below B w w' := by
  obtain ⟨hblk, hsz, h17, h18, h19, hrow⟩ := h
  have hB := lt_at hblk
  refine sched_core B now seq d k v w hB _ (cell_at hblk h17) (cell_at hblk h18) (cell_at hblk h19) (free_at hblk) ?_
  intro W hS
  have hb1 : (w.setCell ⟨B, 19, Option.none⟩ (.int .u64 (IntKind.u64.wrap (seq + 1)))).heap[B]? = some (.cells (cur.setIfInBounds 19 (.int .u64 (IntKind.u64.wrap (seq + 1)))) 90 (0, 0)) := setCell_heap hblk _
  have hb2 : W.heap[B]? = some (.cells (cur.setIfInBounds 19 (.int .u64 (IntKind.u64.wrap (seq + 1)))) 90 (0, 0)) := by
    rw [hS.heap]; exact (Below.heap_alloc _ _ B (lt_at hb1)).trans hb1
  have hbel : Below B w W := by
    have : Below B w ((w.setCell ⟨B, 19, Option.none⟩ (.int .u64 (IntKind.u64.wrap (seq + 1)))).alloc (.cells (evOf (wrap64 (now + d)) (IntKind.u64.wrap (seq + 1)) k).cells.toArray 96)) :=
      ((Below.refl B w).setCell (p := ⟨B, 19, Option.none⟩) (Nat.le_refl B) _).alloc (Nat.le_of_lt (lt_at hb1)) _
    exact ⟨hS.os.trans this.os, hS.tape.trans this.tape, hS.output.trans this.output, by rw [hS.heap]; exact this.size, fun i hi => by rw [hS.heap]; exact this.block i hi⟩
  have hrow2 : W.ownsRow (B + 1) 96 8 v es.length (flat es) := by
    refine hrow.kept (row := some B) ⟨hbel.os, hbel.tape, hbel.output, hbel.size, ?_⟩ (Or.inr (Ne.symm (row_ne hrow)))
    intro i hi hne
    rw [hS.heap]
    refine (Below.heap_alloc _ _ i (by simpa [World.setCell] using hi)).trans (Below.heap_setCell _ _ _ _ ?_)
    intro e; exact hne (by rw [e])
  refine (hpush_any B 18 es.length _ 90 v es (evOf (wrap64 (now + d)) (IntKind.u64.wrap (seq + 1)) k) W rfl hl (by simp [hsz]) hb2 (by simpa using h18) hrow2 hh).mono ?_
  rintro ee w' ⟨rfl, g, cap, es', hg, hb, hp, hho, hq, hbw⟩
  have hlen : es'.length = es.length + 1 := by rw [hp.length_eq]; simp
  refine ⟨rfl, .slice (some ⟨g, 0, Option.none⟩) es'.length cap, es', (cur.setIfInBounds 19 (.int .u64 (IntKind.u64.wrap (seq + 1)))).setIfInBounds 18 (.slice (some ⟨g, 0, Option.none⟩) es'.length cap), ⟨by rw [hlen]; exact hb, by simp [hsz], ?_, ?_, ?_, row_of_queue hq rfl hg⟩, hp, hho, hbel.trans hbw⟩
  · simpa using h17
  · simp [hsz]
  · simp [hsz]

end Go.Proofs.Ybulkqgc
