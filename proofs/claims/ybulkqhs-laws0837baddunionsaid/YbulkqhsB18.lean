import Derived.Test.YbulkqhsB17
namespace Go.Proofs.Ybulkqhs
open Go.RowKit
set_option linter.unusedVariables false
attribute [local go_sem ↓] exec_store34 exec_load34 exec_box34
attribute [local go_sem] run_box34 eql34_run neq34_run guard34

/-- The value of a Sum. -/
def sv (N c : Nat) : Value := .agg #[.int .u64 (wd N 0), .int .u64 (wd N 1), .int .u64 (wd N 2), .int .u64 (wd N 3), .int .i64 c]

theorem sumN_take (ks : List Nat) (i : Nat) (hi : i < ks.length) : sumN (ks.take (i + 1)) = sumN (ks.take i) + idv ks[i]! := by
  rw [List.take_succ_eq_append_getElem hi, sumN_append, getElem!_pos ks i hi]
  simp [sumN]

theorem addStep (N k q : Nat) (hq : q < 4) (w : World) : (callFunc 19 #[.int .u64 (wd N q), .int .u64 (lw k q), .int .u64 (car (wd N) (wd (idv k)) q)]).run Yba.prog w =
    .ok (.value (.tuple #[.int .u64 (wd (N + idv k) q), .int .u64 (car (wd N) (wd (idv k)) (q + 1))])) w := by
  have hc := car_range (wd N) (wd (idv k)) (fun i => ⟨wd_lo N i, wd_hi N i⟩) (fun i => ⟨wd_lo _ i, wd_hi _ i⟩) q
  rw [add64_call _ _ _ (wd_lo N q) (lw_range k q).1 hc.1 hc.2, ← sm_wd N (idv k) q hq, ← wd_idv k q hq]
  rfl

set_option maxRecDepth 100000 in
set_option maxHeartbeats 4000000 in
theorem sumOf_core (p : Option Addr) (cap : Nat) (ks : List Nat) (w : World) (h : ks = [] ∨ ∃ b o, p = some ⟨b, o, none⟩ ∧ Recs w b o ks) (hn : ks.length ≤ 1099511627776) :
    Calls Yba.prog 15 #[.slice p ks.length cap] w fun e w' => e = .returned (sv (sumN ks) ks.length) ∧ Below w.heap.size w w' := by
  obtain ⟨n, hn0⟩ : ∃ n, n = ks.length := ⟨_, rfl⟩
  rw [← hn0] at hn ⊢
  have HN := hideB hn0
  have H := hideB h
  clear h hn0
  go_enter Yba.func15, Yba.ntmps15
  go_wp2_with fail
  generalize hW : (w.alloc (.cells #[.int .u64 0, .int .u64 0, .int .u64 0, .int .u64 0, .int .i64 0] 70)) = W
  go_loopw [3, 4, 5, 6, 12] (fun s3 s4 s5 s6 s12 wr => ∃ i : Nat, s12 = .int .i64 i ∧ i ≤ n ∧ s3 = .int .u64 (wd (sumN (ks.take i)) 0) ∧ s4 = .int .u64 (wd (sumN (ks.take i)) 1) ∧ s5 = .int .u64 (wd (sumN (ks.take i)) 2) ∧ s6 = .int .u64 (wd (sumN (ks.take i)) 3) ∧ Below W.heap.size W wr) (fun _ _ _ _ s12 _ => n - (intOf s12).toNat)
  case atStart => exact ⟨0, rfl, by omega, by simp [sumN, wd0], by simp [sumN, wd1], by simp [sumN, wd2], by simp [sumN, wd3], Below.refl _ _⟩
  case round =>
    obtain ⟨i, rfl, hin, rfl, rfl, rfl, rfl, hbl⟩ := hrel
    have BL0 := hideB hbl
    clear hbl
    have HW := hideB hW
    clear hW
    obtain ⟨N, hNN⟩ : ∃ N, N = sumN (ks.take i) := ⟨_, rfl⟩
    rw [← hNN]
    have HNN := hideB hNN
    clear hNN
    by_cases hlt : i < n
    · have hlt' : (i : Int) < n := by omega
      obtain ⟨b, o, rfl, hrec⟩ : ∃ b o, p = some ⟨b, o, none⟩ ∧ Recs w b o ks := by
        rcases unhideB H with h0 | h0
        · have := unhideB HN; rw [h0] at this; simp at this; omega
        · exact h0
      obtain ⟨k, hk⟩ : ∃ k, k = ks[i]! := ⟨_, rfl⟩
      have R0 : Hid (RA wr b (o + i * 33) k) := by
        rw [hk]
        have h1 : RA W b (o + i * 33) ks[i]! := by rw [← unhideB HW]; exact (hrec i (by rw [← unhideB HN]; exact hlt)).alloc _
        exact h1.of_block ((unhideB BL0).block b h1.lt)
      have HK := hideB hk
      clear hk hrec
      have a0 : ∀ w, (callFunc 19 #[.int .u64 (wd N 0), .int .u64 (lw k 0), .int .u64 0]).run Yba.prog w = .ok (.value (.tuple #[.int .u64 (wd (N + idv k) 0), .int .u64 (car (wd N) (wd (idv k)) 1)])) w := fun w => addStep N k 0 (by omega) w
      have a1 := addStep N k 1 (by omega)
      have a2 := addStep N k 2 (by omega)
      have a3 := addStep N k 3 (by omega)
      obtain ⟨W0, rfl⟩ : ∃ W0, W0 = wr := ⟨_, rfl⟩
      go_wp2_with fail
      refine wp_region_gr (by kernel_rfl) (by kernel_rfl) ?_
      repeat (quiet_step (first | (go_at_call 20; refine Calls.gr_of (le_any b (o + i * 33) k 0 (by omega) 32 (by omega) 32 _ (gr_RA (unhideB R0) _)))))
      refine wpQuiet_nil ?_
      intro w1 hw1
      obtain ⟨p1, rfl⟩ := hw1
      have R1 := hideB (gr_RA (unhideB R0) p1)
      have BL1 := hideB ((unhideB BL0).trans ((gr_below W0 p1).mono (unhideB BL0).size))
      generalize gr W0 p1 = W1 at R1 BL1 ⊢
      go_wp2_with fail
      refine wp_region_gr (by kernel_rfl) (by kernel_rfl) ?_
      repeat (quiet_step (first | (go_at_call 20; refine Calls.gr_of (le_any b (o + i * 33) k 1 (by omega) 24 (by omega) 24 _ (gr_RA (unhideB R1) _)))))
      refine wpQuiet_nil ?_
      intro w1 hw1
      obtain ⟨p1, rfl⟩ := hw1
      have R2 := hideB (gr_RA (unhideB R1) p1)
      have BL2 := hideB ((unhideB BL1).trans ((gr_below W1 p1).mono (unhideB BL1).size))
      generalize gr W1 p1 = W2 at R2 BL2 ⊢
      go_wp2_with fail
      refine wp_region_gr (by kernel_rfl) (by kernel_rfl) ?_
      repeat (quiet_step (first | (go_at_call 20; refine Calls.gr_of (le_any b (o + i * 33) k 2 (by omega) 16 (by omega) 16 _ (gr_RA (unhideB R2) _)))))
      refine wpQuiet_nil ?_
      intro w1 hw1
      obtain ⟨p1, rfl⟩ := hw1
      have R3 := hideB (gr_RA (unhideB R2) p1)
      have BL3 := hideB ((unhideB BL2).trans ((gr_below W2 p1).mono (unhideB BL2).size))
      generalize gr W2 p1 = W3 at R3 BL3 ⊢
      go_wp2_with fail
      refine wp_region_gr (by kernel_rfl) (by kernel_rfl) ?_
      repeat (quiet_step (first | (go_at_call 20; refine Calls.gr_of (le_any b (o + i * 33) k 3 (by omega) 8 (by omega) 8 _ (gr_RA (unhideB R3) _)))))
      refine wpQuiet_nil ?_
      intro w1 hw1
      obtain ⟨p1, rfl⟩ := hw1
      have R4 := hideB (gr_RA (unhideB R3) p1)
      have BL4 := hideB ((unhideB BL3).trans ((gr_below W3 p1).mono (unhideB BL3).size))
      generalize gr W3 p1 = W4 at R4 BL4 ⊢
      go_wp2_with fail
      refine ⟨⟨i + 1, by simp, by omega, ?_, ?_, ?_, ?_, unhideB BL4⟩, by simp [intOf]; omega⟩
      all_goals rw [sumN_take ks i (by rw [← unhideB HN]; exact hlt), ← unhideB HK, ← unhideB HNN]
    · have hlt' : ¬ ((i : Int) < n) := by omega
      have hb : W.heap[w.heap.size]? = some (.cells #[.int .u64 0, .int .u64 0, .int .u64 0, .int .u64 0, .int .i64 0] 70) := by rw [← unhideB HW]; exact heap_alloc_new w _
      have hb2 : wr.heap[w.heap.size]? = some (.cells #[.int .u64 0, .int .u64 0, .int .u64 0, .int .u64 0, .int .i64 0] 70 (0, 0)) := ((unhideB BL0).block _ (ltB hb)).trans hb
      have hc0 := cellB (o := 0) hb2 rfl
      have hc1 := cellB (o := 1) hb2 rfl
      have hc2 := cellB (o := 2) hb2 rfl
      have hc3 := cellB (o := 3) hb2 rfl
      have hc4 := cellB (o := 4) hb2 rfl
      have hf := fun o => freeB (o := o) hb2
      have HB2 := hideB hb2
      clear hb hb2
      go_wp2_with fail
      have hfin := setCellB (o := 4) (setCellB (o := 3) (setCellB (o := 2) (setCellB (o := 1) (setCellB (o := 0) (unhideB HB2) (.int .u64 (wd N 0))) (.int .u64 (wd N 1))) (.int .u64 (wd N 2))) (.int .u64 (wd N 3))) (.int .i64 (n : Int))
      refine bodyPost_ret (results_cell_row rfl _ _ w.heap.size 70 _ (0, 0) _ rfl hfin Yba.underlying70 rfl (by kernel_rfl)) rfl ?_
      have hin2 : i = n := by omega
      have e1 := unhideB HNN
      rw [hin2, unhideB HN, List.take_length] at e1
      refine ⟨by rw [e1, unhideB HN]; rfl, ?_⟩
      have hwb : Below w.heap.size w W := by rw [← unhideB HW]; exact (Below.refl _ w).alloc (Nat.le_refl _) _
      exact ((((((hwb.trans ((unhideB BL0).mono hwb.size)).setCell (Nat.le_refl _) _).setCell (Nat.le_refl _) _).setCell (Nat.le_refl _) _).setCell (Nat.le_refl _) _).setCell (Nat.le_refl _) _)

theorem sumOf_any {w : World} {v : Value} {ks : List Nat} (h : RS w v ks) (hn : ks.length ≤ 1099511627776) :
    Calls Yba.prog 15 #[v] w fun e w' => e = .returned (sv (sumN ks) ks.length) ∧ Below w.heap.size w w' := by
  rcases h with ⟨rfl, rfl⟩ | ⟨b, o, cap, rfl, h2, h3⟩
  · exact sumOf_core none 0 [] w (.inl rfl) (by simp)
  · exact sumOf_core (some ⟨b, o, none⟩) cap ks w (.inr ⟨b, o, rfl, h3⟩) hn
end Go.Proofs.Ybulkqhs
