import Derived.Test.YbulkqhsB6
import Derived.Laws.Tables
namespace Go.Proofs.Ybulkqhs
open Go.RowKit
set_option linter.unusedVariables false

theorem cellB {w : World} {g o : Nat} {cur : Array Value} {t : TypeId} {fr : Nat × Nat} {u : Value} (h : w.heap[g]? = some (.cells cur t fr)) (hu : cur[o]? = some u) : w.cell? ⟨g, o, Option.none⟩ = some u := by
  simp only [World.cell?, h]
  simpa using hu
theorem freeB {w : World} {g o : Nat} {cur : Array Value} {t : TypeId} (h : w.heap[g]? = some (.cells cur t (0, 0))) : w.frozen? ⟨g, o, Option.none⟩ = false := by
  simp [World.frozen?, h]
theorem ltB {w : World} {g : Nat} {ob : Obj} (h : w.heap[g]? = some ob) : g < w.heap.size := (Array.getElem?_eq_some_iff.1 h).1
theorem setCellB {w : World} {g o : Nat} {cur : Array Value} {t : TypeId} {fr : Nat × Nat} (h : w.heap[g]? = some (.cells cur t fr)) (v : Value) :
    (w.setCell ⟨g, o, Option.none⟩ v).heap[g]? = some (.cells (cur.setIfInBounds o v) t fr) := by
  rw [setCell_eq_setRow w g o cur t fr v h, setRow_heap w g cur _ t fr h]

/-- A block whose cells may be turned, behind w0's. -/
theorem Row.setCell {w0 w : World} {g n : Nat} {d : Array Nat} (h : Row w0 g n w d) {B o : Nat} (hB : w0.heap.size ≤ B) (hg : g ≠ B) (v : Value) : Row w0 g n (w.setCell ⟨B, o, none⟩ v) d := by
  have hb : (w.setCell ⟨B, o, none⟩ v).heap[g]? = w.heap[g]? := Below.heap_setCell _ _ _ _ hg
  refine ⟨h.size, fun i hi => (h.recs i hi).of_block hb, fun o => (World.frozen?_of_block (a := ⟨g, o, none⟩) hb).trans (h.free o), h.turn.os, h.turn.tape, h.turn.output, ?_, ?_⟩
  · exact Nat.le_trans h.turn.size (Nat.le_of_eq (by simp [World.setCell]))
  · intro k hk hne
    exact (Below.heap_setCell _ _ _ _ (show k ≠ B by omega)).trans (h.turn.block k hk hne)
theorem Row.alloc {w0 w : World} {g n : Nat} {d : Array Nat} (h : Row w0 g n w d) (hg : g < w.heap.size) (ob : Obj) : Row w0 g n (w.alloc ob) d :=
  h.later hg ((Below.refl _ w).alloc (Nat.le_refl _) ob)

/-- The row, and a variable of package sort's own in block B. -/
structure Sw (w0 : World) (g n B : Nat) (w : World) (d : Array Nat) : Prop where
  row : Row w0 g n w d
  far : w0.heap.size ≤ B
  ne : g ≠ B
  own : ∃ z, w.heap[B]? = some (.cells #[.int .i64 z] 3 (0, 0))

theorem Sw.later {w0 w w' : World} {g n B : Nat} {d : Array Nat} (h : Sw w0 g n B w d) (hn : 0 < n) (hb : Below w.heap.size w w') : Sw w0 g n B w' d := by
  obtain ⟨z, hz⟩ := h.own
  exact ⟨h.row.later (h.row.lt hn) hb, h.far, h.ne, z, (hb.block B (ltB hz)).trans hz⟩

set_option maxRecDepth 100000 in
set_option maxHeartbeats 1000000 in
theorem order2_any {w0 w : World} {g n cap B : Nat} {d : Array Nat} (h : Sw w0 g n B w d) (a b : Nat) (ha : a < n) (hb : b < n) (x y : Int) (hx : x = a) (hy : y = b) :
    Calls Yba.prog 78 #[.iface 123 (.slice (some ⟨g, 0, none⟩) n cap), .int .i64 x, .int .i64 y, .pointer (some ⟨B, 0, none⟩)] w fun e w' =>
      ∃ p q : Nat, e = .returned (.tuple #[.int .i64 p, .int .i64 q]) ∧ ((p = a ∧ q = b) ∨ (p = b ∧ q = a)) ∧ Sw w0 g n B w' d := by
  subst hx; subst hy
  have mL := fun v w n => method_own find_less 34 Yba.underlying123 v w n
  have H := hideB h; clear h
  cases hc : ltN d[b]! d[a]!
  · have HC := hideB hc; clear hc
    go_enter Yba.func78, Yba.ntmps78
    go_wp2_with fail
    refine (less_at (unhideB H).row b a _ _ rfl rfl hb ha false (unhideB HC)).mono ?_
    rintro e w' ⟨rfl, -, hbl⟩
    have H2 := hideB ((unhideB H).later (by omega) hbl); clear hbl
    go_wp2_with fail
    go_ret2
    exact ⟨a, b, rfl, .inl ⟨rfl, rfl⟩, unhideB H2⟩
  · have HC := hideB hc; clear hc
    go_enter Yba.func78, Yba.ntmps78
    go_wp2_with fail
    refine (less_at (unhideB H).row b a _ _ rfl rfl hb ha true (unhideB HC)).mono ?_
    rintro e w' ⟨rfl, -, hbl⟩
    have h2 := (unhideB H).later (by omega) hbl
    obtain ⟨z, hz⟩ := h2.own
    have hc := cellB (o := 0) hz rfl
    have hf := freeB (o := 0) hz
    have H2 := hideB h2; have HZ := hideB hz; clear hbl h2 hz
    go_wp2_with fail
    go_ret2
    exact ⟨b, a, rfl, .inr ⟨rfl, rfl⟩, (unhideB H2).row.setCell (unhideB H2).far (unhideB H2).ne _, (unhideB H2).far, (unhideB H2).ne, _, setCellB (unhideB HZ) _⟩

set_option maxRecDepth 100000 in
set_option maxHeartbeats 1000000 in
theorem median_any {w0 w : World} {g n cap B : Nat} {d : Array Nat} (h : Sw w0 g n B w d) (a b c : Nat) (ha : a < n) (hb : b < n) (hc : c < n) (x y z : Int) (hx : x = a) (hy : y = b) (hz : z = c) :
    Calls Yba.prog 77 #[.iface 123 (.slice (some ⟨g, 0, none⟩) n cap), .int .i64 x, .int .i64 y, .int .i64 z, .pointer (some ⟨B, 0, none⟩)] w fun e w' =>
      ∃ p : Nat, e = .returned (.int .i64 p) ∧ (p = a ∨ p = b ∨ p = c) ∧ Sw w0 g n B w' d := by
  subst hx; subst hy; subst hz
  have H := hideB h; clear h
  go_enter Yba.func77, Yba.ntmps77
  go_wp2_with fail
  refine (order2_any (unhideB H) a b ha hb _ _ rfl rfl).mono ?_
  rintro e w' ⟨p1, q1, rfl, hpq1, h1⟩
  have H1 := hideB h1; have PQ1 := hideB hpq1; clear h1 hpq1 H
  go_wp2_with fail
  refine (order2_any (unhideB H1) q1 c (by have := unhideB PQ1; omega) hc _ _ rfl rfl).mono ?_
  rintro e w'' ⟨p2, q2, rfl, hpq2, h2⟩
  have H2 := hideB h2; have PQ2 := hideB hpq2; clear h2 hpq2
  go_wp2_with fail
  refine (order2_any (unhideB H2) p1 p2 (by have := unhideB PQ1; omega) (by have := unhideB PQ1; have := unhideB PQ2; omega) _ _ rfl rfl).mono ?_
  rintro e w3 ⟨p3, q3, rfl, hpq3, h3⟩
  have H3 := hideB h3; have PQ3 := hideB hpq3; clear h3 hpq3
  go_wp2_with fail
  go_ret
  refine ⟨q3, rfl, ?_, unhideB H3⟩
  have a1 := unhideB PQ1; have a2 := unhideB PQ2; have a3 := unhideB PQ3
  omega

set_option maxRecDepth 100000 in
theorem medianAdj_any {w0 w : World} {g n cap B : Nat} {d : Array Nat} (h : Sw w0 g n B w d) (a : Nat) (h1 : 1 ≤ a) (ha : a + 1 < n) (hn : n ≤ 1099511627776) (x : Int) (hx : x = a) :
    Calls Yba.prog 76 #[.iface 123 (.slice (some ⟨g, 0, none⟩) n cap), .int .i64 x, .pointer (some ⟨B, 0, none⟩)] w fun e w' =>
      ∃ p : Nat, e = .returned (.int .i64 p) ∧ (p = a - 1 ∨ p = a ∨ p = a + 1) ∧ Sw w0 g n B w' d := by
  subst hx
  have H := hideB h; clear h
  go_enter Yba.func76, Yba.ntmps76
  go_wp2_with fail
  refine (median_any (unhideB H) (a - 1) a (a + 1) (by omega) (by omega) (by omega) _ _ _ (by omega) (by omega) (by omega)).mono ?_
  rintro e w' ⟨p, rfl, hp, h2⟩
  have H2 := hideB h2; have HP := hideB hp; clear h2 hp
  go_wp2_with fail
  go_ret
  exact ⟨p, rfl, unhideB HP, unhideB H2⟩

/-- What choosePivot hands back: a place in the row, a hint. -/
structure Pick (a b : Nat) (p hint : Int) : Prop where
  lo : (a : Int) ≤ p
  hi : p < b
  hint : hint = 0 ∨ hint = 1 ∨ hint = 2

theorem Sw.cell {w0 w : World} {g n B : Nat} {d : Array Nat} (h : Sw w0 g n B w d) : ∃ z, w.cell? ⟨B, 0, none⟩ = some (.int .i64 z) := by
  obtain ⟨z, hz⟩ := h.own
  exact ⟨z, cellB hz rfl⟩

set_option maxRecDepth 100000 in
set_option maxHeartbeats 2000000 in
theorem pivot_any {w0 w : World} {g n cap : Nat} {d : Array Nat} (h : Row w0 g n w d) (a b : Nat) (hab : a + 12 < b) (hbn : b ≤ n) (hn : n ≤ 1099511627776) :
    Calls Yba.prog 66 #[dv g n cap, .int .i64 a, .int .i64 b] w fun e w' => ∃ p q, e = .returned (.tuple #[.int .i64 p, .int .i64 q]) ∧ Pick a b p q ∧ Row w0 g n w' d := by
  unfold dv
  obtain ⟨l, hl⟩ : ∃ l : Nat, l = (b - a) / 4 := ⟨_, rfl⟩
  have hq : ((b : Int) - a).tdiv 4 = (l : Int) := by
    rw [Int.tdiv_eq_ediv_of_nonneg (by omega)]; omega
  have h8 : (8 : Int) ≤ (b : Int) - a := by omega
  have S := hideB (show Sw w0 g n w.heap.size (w.alloc (.cells #[.int .i64 0] 3)) d from ⟨h.alloc (h.lt (by omega)) _, h.turn.size, Nat.ne_of_lt (h.lt (by omega)), 0, heap_alloc_new w _⟩)
  clear h
  by_cases h50 : (50 : Int) ≤ (b : Int) - a
  · go_enter Yba.func66, Yba.ntmps66
    go_wp2_with fail
    refine (medianAdj_any (unhideB S) (a + l) (by omega) (by omega) hn _ (by omega)).mono ?_
    rintro e w1 ⟨p1, rfl, hp1, s1⟩
    have S1 := hideB s1; have P1 := hideB hp1; clear s1 hp1
    go_wp2_with fail
    refine (medianAdj_any (unhideB S1) (a + l * 2) (by omega) (by omega) hn _ (by omega)).mono ?_
    rintro e w2 ⟨p2, rfl, hp2, s2⟩
    have S2 := hideB s2; have P2 := hideB hp2; clear s2 hp2
    go_wp2_with fail
    refine (medianAdj_any (unhideB S2) (a + l * 3) (by omega) (by omega) hn _ (by omega)).mono ?_
    rintro e w3 ⟨p3, rfl, hp3, s3⟩
    have S3 := hideB s3; have P3 := hideB hp3; clear s3 hp3
    go_wp2_with fail
    refine (median_any (unhideB S3) p1 p2 p3 (by have := unhideB P1; omega) (by have := unhideB P2; omega) (by have := unhideB P3; omega) _ _ _ rfl rfl rfl).mono ?_
    rintro e w4 ⟨p4, rfl, hp4, s4⟩
    obtain ⟨z, hz⟩ := s4.cell
    have hR : (a : Int) ≤ p4 ∧ (p4 : Int) < b := by have := unhideB P1; have := unhideB P2; have := unhideB P3; omega
    have S4 := hideB s4; clear s4 hp4
    by_cases z0 : z = 0
    · subst z0
      go_wp2_with fail
      go_ret2
      exact ⟨p4, 1, rfl, ⟨hR.1, hR.2, by omega⟩, (unhideB S4).row⟩
    · by_cases z1 : z = 12
      · subst z1
        go_wp2_with fail
        go_ret2
        exact ⟨p4, 2, rfl, ⟨hR.1, hR.2, by omega⟩, (unhideB S4).row⟩
      · go_wp2_with fail
        go_ret2
        exact ⟨p4, 0, rfl, ⟨hR.1, hR.2, by omega⟩, (unhideB S4).row⟩
  · go_enter Yba.func66, Yba.ntmps66
    go_wp2_with fail
    refine (median_any (unhideB S) (a + l) (a + l * 2) (a + l * 3) (by omega) (by omega) (by omega) _ _ _ (by omega) (by omega) (by omega)).mono ?_
    rintro e w4 ⟨p4, rfl, hp4, s4⟩
    obtain ⟨z, hz⟩ := s4.cell
    have hR : (a : Int) ≤ p4 ∧ (p4 : Int) < b := by omega
    have S4 := hideB s4; clear s4 hp4
    by_cases z0 : z = 0
    · subst z0
      go_wp2_with fail
      go_ret2
      exact ⟨p4, 1, rfl, ⟨hR.1, hR.2, by omega⟩, (unhideB S4).row⟩
    · by_cases z1 : z = 12
      · subst z1
        go_wp2_with fail
        go_ret2
        exact ⟨p4, 2, rfl, ⟨hR.1, hR.2, by omega⟩, (unhideB S4).row⟩
      · go_wp2_with fail
        go_ret2
        exact ⟨p4, 0, rfl, ⟨hR.1, hR.2, by omega⟩, (unhideB S4).row⟩
end Go.Proofs.Ybulkqhs
