import Derived.Test.YbulkqhsB4
namespace Go.Proofs.Ybulkqhs
open Go.RowKit
set_option linter.unusedVariables false

theorem sift_stop (hi f r : Nat) (d : Array Nat) (h : 2 * r + 1 ≥ hi) : Sort.siftDown ltN hi f r d = d := by
  unfold Sort.siftDown; rw [dif_pos h]
theorem sift_two (hi f r : Nat) (d : Array Nat) (h : 2 * r + 2 < hi) (h1 : ltN d[f + (2 * r + 1)]! d[f + (2 * r + 1) + 1]! = true) :
    Sort.siftDown ltN hi f r d = if ltN d[f + r]! d[f + (2 * r + 2)]! then Sort.siftDown ltN hi f (2 * r + 2) (Sort.swp d (f + r) (f + (2 * r + 2))) else d := by
  conv => lhs; unfold Sort.siftDown
  rw [dif_neg (by omega), if_pos (by simp [h1]; omega), dif_pos h]
  cases ltN d[f + r]! d[f + (2 * r + 2)]! <;> simp
theorem sift_one (hi f r : Nat) (d : Array Nat) (h : 2 * r + 1 < hi) (h1 : 2 * r + 2 < hi → ltN d[f + (2 * r + 1)]! d[f + (2 * r + 1) + 1]! = false) :
    Sort.siftDown ltN hi f r d = if ltN d[f + r]! d[f + (2 * r + 1)]! then Sort.siftDown ltN hi f (2 * r + 1) (Sort.swp d (f + r) (f + (2 * r + 1))) else d := by
  conv => lhs; unfold Sort.siftDown
  rw [dif_neg (by omega), if_neg (by
    simp only [Bool.and_eq_true, decide_eq_true_eq, not_and]
    intro h2; rw [h1 h2]; simp)]
  cases ltN d[f + r]! d[f + (2 * r + 1)]! <;> simp

set_option maxRecDepth 100000 in
set_option maxHeartbeats 2000000 in
theorem sift_any {w0 w : World} {g n cap : Nat} {d : Array Nat} (h : Row w0 g n w d) (lo hi f : Nat) (hlo : lo ≤ 1099511627776) (hf : f + hi ≤ n) (hn : n ≤ 1099511627776) :
    Calls Yba.prog 73 #[dv g n cap, .int .i64 lo, .int .i64 hi, .int .i64 f] w fun e w' => e = .returned (.tuple #[]) ∧ Row w0 g n w' (Sort.siftDown ltN hi f lo d) := by
  unfold dv
  have mL := fun v w n => method_own find_less 34 Yba.underlying123 v w n
  have mS := fun v w n => method_own find_swap 34 Yba.underlying123 v w n
  have H := hideB h; clear h
  go_enter Yba.func73, Yba.ntmps73
  go_wp2_with fail
  go_loopw [8] (fun rv wr => ∃ (r : Nat) (d' : Array Nat), rv = .int .i64 r ∧ r ≤ 1099511627776 ∧ Row w0 g n wr d' ∧ Sort.siftDown ltN hi f r d' = Sort.siftDown ltN hi f lo d) (fun rv _ => ((hi : Int) - intOf rv).toNat)
  case atStart => exact ⟨lo, d, rfl, hlo, unhideB H, rfl⟩
  case round =>
    obtain ⟨r, d', rfl, hr, hrow, heq⟩ := hrel
    have RW := hideB hrow; have EQ := hideB heq; clear hrow heq H
    by_cases hs : 2 * r + 1 ≥ hi
    · have hs' : ((hi : Int) ≤ 2 * r + 1) := by omega
      go_wp2_with fail
      go_end0
      refine ⟨rfl, ?_⟩
      rw [← unhideB EQ, sift_stop _ _ _ _ hs]
      exact unhideB RW
    · have hs' : ¬ ((hi : Int) ≤ 2 * r + 1) := by omega
      by_cases h2 : 2 * r + 2 < hi
      · have h2' : ((2 : Int) * r + 1 + 1 < hi) := by omega
        cases hb : ltN d'[f + (2 * r + 1)]! d'[f + (2 * r + 1) + 1]!
        · have hsel := sift_one hi f r d' (by omega) (fun _ => hb)
          have HB := hideB hb; clear hb
          have SEL := hideB hsel; clear hsel
          cases hc : ltN d'[f + r]! d'[f + (2 * r + 1)]!
          · have HC := hideB hc; clear hc
            go_wp2_with fail
            refine (less_at (unhideB RW) (f + (2 * r + 1)) (f + (2 * r + 1) + 1) _ _ (by omega) (by omega) (by omega) (by omega) false (unhideB HB)).mono ?_
            rintro e w' ⟨rfl, hrow2, -⟩
            have RW2 := hideB hrow2; clear hrow2
            go_wp2_with fail
            refine (less_at (unhideB RW2) (f + r) (f + (2 * r + 1)) _ _ (by omega) (by omega) (by omega) (by omega) false (unhideB HC)).mono ?_
            rintro e w'' ⟨rfl, hrow3, -⟩
            have RW3 := hideB hrow3; clear hrow3
            go_wp2_with fail
            (try simp only [Exit.inBlock, Exit.then])
            refine bodyPost_ret (results_none rfl _ _ _) rfl ?_
            refine ⟨rfl, ?_⟩
            rw [← unhideB EQ, unhideB SEL, unhideB HC]
            exact unhideB RW3
          · have HC := hideB hc; clear hc
            go_wp2_with fail
            refine (less_at (unhideB RW) (f + (2 * r + 1)) (f + (2 * r + 1) + 1) _ _ (by omega) (by omega) (by omega) (by omega) false (unhideB HB)).mono ?_
            rintro e w' ⟨rfl, hrow2, -⟩
            have RW2 := hideB hrow2; clear hrow2
            go_wp2_with fail
            refine (less_at (unhideB RW2) (f + r) (f + (2 * r + 1)) _ _ (by omega) (by omega) (by omega) (by omega) true (unhideB HC)).mono ?_
            rintro e w'' ⟨rfl, hrow3, -⟩
            have RW3 := hideB hrow3; clear hrow3
            go_wp2_with fail
            refine (swap_at (unhideB RW3) (f + r) (f + (2 * r + 1)) _ _ (by omega) (by omega) (by omega) (by omega)).mono ?_
            rintro e w3 ⟨rfl, hrow4, -⟩
            have RW4 := hideB hrow4; clear hrow4
            go_wp2_with fail
            refine ⟨⟨2 * r + 1, _, by simp <;> omega, by omega, unhideB RW4, ?_⟩, by simp [intOf]; omega⟩
            rw [← unhideB EQ, unhideB SEL, unhideB HC]
            rfl
        · have hsel := sift_two hi f r d' h2 hb
          have HB := hideB hb; clear hb
          have SEL := hideB hsel; clear hsel
          cases hc : ltN d'[f + r]! d'[f + (2 * r + 2)]!
          · have HC := hideB hc; clear hc
            go_wp2_with fail
            refine (less_at (unhideB RW) (f + (2 * r + 1)) (f + (2 * r + 1) + 1) _ _ (by omega) (by omega) (by omega) (by omega) true (unhideB HB)).mono ?_
            rintro e w' ⟨rfl, hrow2, -⟩
            have RW2 := hideB hrow2; clear hrow2
            go_wp2_with fail
            refine (less_at (unhideB RW2) (f + r) (f + (2 * r + 2)) _ _ (by omega) (by omega) (by omega) (by omega) false (unhideB HC)).mono ?_
            rintro e w'' ⟨rfl, hrow3, -⟩
            have RW3 := hideB hrow3; clear hrow3
            go_wp2_with fail
            (try simp only [Exit.inBlock, Exit.then])
            refine bodyPost_ret (results_none rfl _ _ _) rfl ?_
            refine ⟨rfl, ?_⟩
            rw [← unhideB EQ, unhideB SEL, unhideB HC]
            exact unhideB RW3
          · have HC := hideB hc; clear hc
            go_wp2_with fail
            refine (less_at (unhideB RW) (f + (2 * r + 1)) (f + (2 * r + 1) + 1) _ _ (by omega) (by omega) (by omega) (by omega) true (unhideB HB)).mono ?_
            rintro e w' ⟨rfl, hrow2, -⟩
            have RW2 := hideB hrow2; clear hrow2
            go_wp2_with fail
            refine (less_at (unhideB RW2) (f + r) (f + (2 * r + 2)) _ _ (by omega) (by omega) (by omega) (by omega) true (unhideB HC)).mono ?_
            rintro e w'' ⟨rfl, hrow3, -⟩
            have RW3 := hideB hrow3; clear hrow3
            go_wp2_with fail
            refine (swap_at (unhideB RW3) (f + r) (f + (2 * r + 2)) _ _ (by omega) (by omega) (by omega) (by omega)).mono ?_
            rintro e w3 ⟨rfl, hrow4, -⟩
            have RW4 := hideB hrow4; clear hrow4
            go_wp2_with fail
            refine ⟨⟨2 * r + 2, _, by simp <;> omega, by omega, unhideB RW4, ?_⟩, by simp [intOf]; omega⟩
            rw [← unhideB EQ, unhideB SEL, unhideB HC]
            rfl
      · have h2' : ¬ ((2 : Int) * r + 1 + 1 < hi) := by omega
        have hsel := sift_one hi f r d' (by omega) (fun h => absurd h h2)
        have SEL := hideB hsel; clear hsel
        cases hc : ltN d'[f + r]! d'[f + (2 * r + 1)]!
        · have HC := hideB hc; clear hc
          go_wp2_with fail
          refine (less_at (unhideB RW) (f + r) (f + (2 * r + 1)) _ _ (by omega) (by omega) (by omega) (by omega) false (unhideB HC)).mono ?_
          rintro e w'' ⟨rfl, hrow3, -⟩
          have RW3 := hideB hrow3; clear hrow3
          go_wp2_with fail
          (try simp only [Exit.inBlock, Exit.then])
          refine bodyPost_ret (results_none rfl _ _ _) rfl ?_
          refine ⟨rfl, ?_⟩
          rw [← unhideB EQ, unhideB SEL, unhideB HC]
          exact unhideB RW3
        · have HC := hideB hc; clear hc
          go_wp2_with fail
          refine (less_at (unhideB RW) (f + r) (f + (2 * r + 1)) _ _ (by omega) (by omega) (by omega) (by omega) true (unhideB HC)).mono ?_
          rintro e w'' ⟨rfl, hrow3, -⟩
          have RW3 := hideB hrow3; clear hrow3
          go_wp2_with fail
          refine (swap_at (unhideB RW3) (f + r) (f + (2 * r + 1)) _ _ (by omega) (by omega) (by omega) (by omega)).mono ?_
          rintro e w3 ⟨rfl, hrow4, -⟩
          have RW4 := hideB hrow4; clear hrow4
          go_wp2_with fail
          refine ⟨⟨2 * r + 1, _, by simp <;> omega, by omega, unhideB RW4, ?_⟩, by simp [intOf]; omega⟩
          rw [← unhideB EQ, unhideB SEL, unhideB HC]
          rfl
end Go.Proofs.Ybulkqhs
