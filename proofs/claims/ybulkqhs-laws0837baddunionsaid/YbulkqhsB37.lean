import Derived.Test.YbulkqhsB36
namespace Go.Proofs.Ybulkqhs
open Go.RowKit
set_option linter.unusedVariables false
set_option linter.unusedSimpArgs false
attribute [local go_sem ↓] exec_store34 exec_load34 exec_box34 exec_build78 exec_box78 exec_load70
attribute [local go_sem] run_box34 run_box78 eql34_run neq34_run guard34 eqNil71

/-- The records of a slice with address a. -/
def RO (w : World) (a : Option Addr) (ks : List Nat) : Prop := ks = [] ∨ ∃ b o, a = some ⟨b, o, none⟩ ∧ Recs w b o ks
theorem RS.ro {w : World} {v : Value} {ks : List Nat} (h : RS w v ks) : ∃ a cap, v = .slice a ks.length cap ∧ RO w a ks := by
  rcases h with ⟨rfl, rfl⟩ | ⟨b, o, cap, rfl, _, h⟩
  · exact ⟨none, 0, rfl, .inl rfl⟩
  · exact ⟨_, cap, rfl, .inr ⟨b, o, rfl, h⟩⟩
theorem RO.later {w w' : World} {a : Option Addr} {ks : List Nat} (h : RO w a ks) (hb : Below w.heap.size w w') : RO w' a ks := by
  rcases h with h | ⟨b, o, h1, h2⟩
  · exact .inl h
  · exact .inr ⟨b, o, h1, h2.later hb⟩
theorem RO.at {w : World} {a : Option Addr} {ks : List Nat} (h : RO w a ks) (i : Nat) (hi : i < ks.length) : ∃ b o, a = some ⟨b, o, none⟩ ∧ RA w b (o + i * 33) ks[i]! := by
  rcases h with h | ⟨b, o, h1, h2⟩
  · rw [h] at hi; simp at hi
  · exact ⟨b, o, h1, h2 i hi⟩

set_option maxRecDepth 100000 in
set_option maxHeartbeats 1000000 in
theorem equalR_any {w : World} {a1 a2 : Option Addr} {c1 c2 : Nat} {xs ys : List Nat} (h1 : RO w a1 xs) (h2 : RO w a2 ys) (hx : xs.length ≤ 1099511627776) (hy : ys.length ≤ 1099511627776) :
    Calls Yba.prog 12 #[.slice a1 xs.length c1, .slice a2 ys.length c2] w fun e w' => e = .returned (.bool (decide (xs = ys))) ∧ Below w.heap.size w w' := by
  obtain ⟨n, hn⟩ : ∃ n, n = xs.length := ⟨_, rfl⟩
  obtain ⟨m, hm⟩ : ∃ m, m = ys.length := ⟨_, rfl⟩
  rw [← hn] at hx
  rw [← hm] at hy
  rw [← hn, ← hm]
  by_cases hnm : n = m
  · subst hnm
    have HN := hideB hn; have HM := hideB hm; have H1 := hideB h1; have H2 := hideB h2
    clear hn hm h1 h2
    go_enter Yba.func12, Yba.ntmps12
    go_wp2_with fail
    go_loopw [13] (fun s13 wr => ∃ i : Nat, s13 = .int .i64 i ∧ i ≤ n ∧ (∀ j, j < i → xs[j]! = ys[j]!) ∧ Below w.heap.size w wr) (fun s13 _ => n - (intOf s13).toNat)
    case atStart => exact ⟨0, rfl, by omega, fun j hj => by omega, Below.refl _ _⟩
    case round =>
      obtain ⟨i, rfl, hin, heq, hbel⟩ := hrel
      have HEQ := hideB heq; have HBL := hideB hbel
      by_cases hlt : i < n
      · have hlt' : (i : Int) < n := by omega
        obtain ⟨b1, o1, rfl, r1⟩ := ((unhideB H1).later hbel).at i (by rw [← unhideB HN]; exact hlt)
        obtain ⟨b2, o2, rfl, r2⟩ := ((unhideB H2).later hbel).at i (by rw [← unhideB HM]; exact hlt)
        have g1 : ∀ p', (exLoad34 (.pointer (some ⟨b1, o1 + i * 33, none⟩))).run Yba.prog (gr wr p') = .ok (.value (rv xs[i]!)) (gr wr p') := fun p' => run_load34 (gr_RA r1 p')
        have g2 : ∀ p', (exLoad34 (.pointer (some ⟨b2, o2 + i * 33, none⟩))).run Yba.prog (gr wr p') = .ok (.value (rv ys[i]!)) (gr wr p') := fun p' => run_load34 (gr_RA r2 p')
        obtain ⟨x, hx⟩ : ∃ x, x = xs[i]! := ⟨_, rfl⟩
        obtain ⟨y, hy⟩ : ∃ y, y = ys[i]! := ⟨_, rfl⟩
        rw [← hx] at g1
        rw [← hy] at g2
        have HX := hideB hx; have HY := hideB hy
        clear hx hy heq hbel r1 r2
        by_cases hxy : x = y
        · subst hxy
          have hb : (!(x == x)) = false := by simp
          go_wp2_with fail
          refine wp_region_gr (by kernel_rfl) (by kernel_rfl) ?_
          repeat (quiet_step (fail))
          refine wpQuiet_nil ?_
          intro w5 hw5
          obtain ⟨p5, rfl⟩ := hw5
          go_wp2_with fail
          refine ⟨⟨i + 1, by simp, by omega, fun j hj => ?_, (unhideB HBL).trans ((gr_below wr p5).mono (unhideB HBL).size)⟩, by simp [intOf]; omega⟩
          by_cases e : j = i
          · subst e; rw [← unhideB HX, ← unhideB HY]
          · exact unhideB HEQ j (by omega)
        · have hb : (!(x == y)) = true := by simp [hxy]
          have hb' : (x == y) = false := by simp [hxy]
          go_wp2_with fail
          refine wp_region_gr (by kernel_rfl) (by kernel_rfl) ?_
          repeat (quiet_step (fail))
          refine wpQuiet_nil ?_
          intro w5 hw5
          obtain ⟨p5, rfl⟩ := hw5
          go_wp2_with fail
          go_ret
          refine ⟨?_, (unhideB HBL).trans ((gr_below wr p5).mono (unhideB HBL).size)⟩
          have : decide (xs = ys) = false := by
            rw [decide_eq_false_iff_not]
            intro e
            apply hxy
            rw [unhideB HX, unhideB HY, e]
          rw [this]
          rfl
      · have hlt' : ¬ ((i : Int) < n) := by omega
        clear heq hbel
        go_wp2_with fail
        go_ret
        refine ⟨?_, unhideB HBL⟩
        have : decide (xs = ys) = true := by
          rw [decide_eq_true_iff]
          exact list_eq_get (by rw [← unhideB HN, ← unhideB HM]) fun j hj => unhideB HEQ j (by rw [← unhideB HN] at hj; omega)
        rw [this]
        rfl
  · have hnm' : ¬ ((n : Int) = m) := by omega
    have hd : decide (xs = ys) = false := by
      rw [decide_eq_false_iff_not]
      intro e
      apply hnm
      rw [hn, hm, e]
    rw [hd]
    clear hn hm h1 h2 hd
    go_enter Yba.func12, Yba.ntmps12
    go_wp2_with fail
    go_ret
    exact ⟨rfl, Below.refl _ _⟩

set_option maxRecDepth 100000 in
set_option maxHeartbeats 1000000 in
theorem index_any {w : World} {a : Option Addr} {c k : Nat} {xs : List Nat} (h : RO w a xs) (hx : xs.length ≤ 1099511627776) :
    Calls Yba.prog 28 #[.slice a xs.length c, rv k] w fun e w' => ∃ z : Int, e = .returned (.int .i64 z) ∧ (0 ≤ z ↔ k ∈ xs) ∧ Below w.heap.size w w' := by
  obtain ⟨n, hn⟩ : ∃ n, n = xs.length := ⟨_, rfl⟩
  rw [← hn] at hx ⊢
  have HF : Hid (RA (w.alloc (.cells (rl k).toArray 34)) w.heap.size 0 k) := RA_box w k 34
  have HB : Hid (Below w.heap.size w (w.alloc (.cells (rl k).toArray 34))) := (Below.refl _ w).alloc (Nat.le_refl _) _
  have H := hideB h; have HN := hideB hn
  clear h hn
  go_enter Yba.func28, Yba.ntmps28
  go_wp2_with fail
  generalize (w.alloc (.cells (rl k).toArray 34)) = W at HF HB ⊢
  generalize hBe : w.heap.size = B at HF ⊢
  have HBE := hideB hBe
  clear hBe
  go_loopw [8] (fun s8 wr => ∃ i : Nat, s8 = .int .i64 i ∧ i ≤ n ∧ (∀ j, j < i → xs[j]! ≠ k) ∧ Below W.heap.size W wr) (fun s8 _ => n - (intOf s8).toNat)
  case atStart => exact ⟨0, rfl, by omega, fun j hj => by omega, Below.refl _ _⟩
  case round =>
    obtain ⟨i, rfl, hin, hnot, hbel⟩ := hrel
    have HNO := hideB hnot; have HBL := hideB hbel
    have hall : Below w.heap.size w wr := (unhideB HB).trans (hbel.mono (unhideB HB).size)
    have rf : RA wr B 0 k := (unhideB HF).of_block (hbel.block B (unhideB HF).lt)
    have lf : ∀ p, (exLoad34 (.pointer (some ⟨B, 0, none⟩))).run Yba.prog (gr wr p) = .ok (.value (rv k)) (gr wr p) := fun p => run_load34 (gr_RA rf p)
    have HALL := hideB hall
    by_cases hlt : i < n
    · have hlt' : (i : Int) < n := by omega
      obtain ⟨b, o, rfl, r1⟩ := ((unhideB H).later hall).at i (by rw [← unhideB HN]; exact hlt)
      have g1 : ∀ p', (exLoad34 (.pointer (some ⟨b, o + i * 33, none⟩))).run Yba.prog (gr wr p') = .ok (.value (rv xs[i]!)) (gr wr p') := fun p' => run_load34 (gr_RA r1 p')
      obtain ⟨x, hx⟩ : ∃ x, x = xs[i]! := ⟨_, rfl⟩
      rw [← hx] at g1
      have HX := hideB hx
      clear hx hnot hbel r1 rf hall
      by_cases hxk : k = x
      · subst hxk
        have hb : (k == k) = true := by simp
        go_wp2_with fail
        refine wp_region_gr (by kernel_rfl) (by kernel_rfl) ?_
        repeat (quiet_step (fail))
        refine wpQuiet_nil ?_
        intro w5 hw5
        obtain ⟨p5, rfl⟩ := hw5
        go_wp2_with fail
        go_ret
        refine ⟨i, rfl, ⟨fun _ => ?_, fun _ => by omega⟩, ?_⟩
        · rw [unhideB HX, getElem!_pos xs i (by rw [← unhideB HN]; exact hlt)]; exact List.getElem_mem _
        · exact (unhideB HALL).trans ((gr_below wr p5).mono (unhideB HALL).size)
      · have hb : (k == x) = false := by simp [hxk]
        go_wp2_with fail
        refine wp_region_gr (by kernel_rfl) (by kernel_rfl) ?_
        repeat (quiet_step (fail))
        refine wpQuiet_nil ?_
        intro w5 hw5
        obtain ⟨p5, rfl⟩ := hw5
        go_wp2_with fail
        refine ⟨⟨i + 1, by simp, by omega, fun j hj => ?_, (unhideB HBL).trans ((gr_below wr p5).mono (unhideB HBL).size)⟩, by simp [intOf]; omega⟩
        by_cases e : j = i
        · subst e; rw [← unhideB HX]; exact Ne.symm hxk
        · exact unhideB HNO j (by omega)
    · have hlt' : ¬ ((i : Int) < n) := by omega
      clear hnot hbel rf hall
      go_wp2_with fail
      go_ret
      refine ⟨-1, rfl, ⟨fun h => by omega, fun hm => ?_⟩, unhideB HALL⟩
      obtain ⟨j, hj, e⟩ := List.mem_iff_getElem.1 hm
      have := unhideB HNO j (by have := unhideB HN; omega)
      rw [getElem!_pos xs j hj] at this
      exact absurd e this

set_option maxRecDepth 100000 in
theorem contains_any {w : World} {a : Option Addr} {c k : Nat} {xs : List Nat} (h : RO w a xs) (hx : xs.length ≤ 1099511627776) :
    Calls Yba.prog 14 #[.slice a xs.length c, rv k] w fun e w' => e = .returned (.bool (decide (k ∈ xs))) ∧ Below w.heap.size w w' := by
  have hb : Below w.heap.size w (w.alloc (.cells (rl k).toArray 34)) := (Below.refl _ w).alloc (Nat.le_refl _) _
  have HI := hideB (index_any (c := c) (k := k) (h.later hb) hx)
  have l1 := run_load34 (RA_box w k 34)
  have HB := hideB hb
  clear h hb
  go_enter Yba.func14, Yba.ntmps14
  go_wp2_with fail
  refine (unhideB HI).mono ?_
  rintro e w2 ⟨z, rfl, hz, hb2⟩
  have HZ := hideB hz; have HB2 := hideB hb2
  clear hz hb2 l1
  go_wp2_with fail
  go_ret
  refine ⟨?_, (unhideB HB).trans ((unhideB HB2).mono (unhideB HB).size)⟩
  have := unhideB HZ
  have e : decide (0 ≤ z) = decide (k ∈ xs) := by rw [decide_eq_decide]; exact this
  rw [← e]
  rfl
end Go.Proofs.Ybulkqhs
