import Derived.Test.YbulkqhsB5
namespace Go.Proofs.Ybulkqhs
open Go.RowKit
set_option linter.unusedVariables false

theorem sift_at {w0 w : World} {g n cap : Nat} {d : Array Nat} (h : Row w0 g n w d) (lo hi f : Nat) (x y z : Int) (hx : x = lo) (hy : y = hi) (hz : z = f) (hlo : lo ≤ 1099511627776) (hf : f + hi ≤ n) (hn : n ≤ 1099511627776) :
    Calls Yba.prog 73 #[.iface 123 (.slice (some ⟨g, 0, none⟩) n cap), .int .i64 x, .int .i64 y, .int .i64 z] w fun e w' => e = .returned (.tuple #[]) ∧ Row w0 g n w' (Sort.siftDown ltN hi f lo d) := by
  subst hx; subst hy; subst hz
  exact sift_any h lo hi f hlo hf hn

set_option maxRecDepth 100000 in
set_option maxHeartbeats 1000000 in
theorem heap_any {w0 w : World} {g n cap : Nat} {d : Array Nat} (h : Row w0 g n w d) (a b : Nat) (hab : a < b) (hbn : b ≤ n) (hn : n ≤ 1099511627776) :
    Calls Yba.prog 64 #[dv g n cap, .int .i64 a, .int .i64 b] w fun e w' => e = .returned (.tuple #[]) ∧ Row w0 g n w' (Sort.heapSort ltN d a b) := by
  unfold dv
  have mS := fun v w n => method_own find_swap 34 Yba.underlying123 v w n
  have hq : ((b : Int) - a - 1).tdiv 2 = (((b - a - 1) / 2 : Nat) : Int) := by
    rw [Int.tdiv_eq_ediv_of_nonneg (by omega)]; omega
  have H := hideB h; clear h
  go_enter Yba.func64, Yba.ntmps64
  go_wp2_with fail
  go_loopw [9] (fun iv wr => ∃ (k : Nat) (x : Int) (d' : Array Nat), iv = .int .i64 x ∧ x = (k : Int) - 1 ∧ k ≤ (b - a - 1) / 2 + 1 ∧ Row w0 g n wr d' ∧ Sort.heapBuild ltN (b - a) a k d' = Sort.heapBuild ltN (b - a) a ((b - a - 1) / 2 + 1) d) (fun iv _ => (intOf iv + 1).toNat)
  case atStart => exact ⟨(b - a - 1) / 2 + 1, _, d, rfl, by omega, by omega, unhideB H, rfl⟩
  case round =>
    obtain ⟨k, x, d', rfl, hx, hk, hrow, heq⟩ := hrel
    have RW := hideB hrow; have EQ := hideB heq; clear hrow heq H
    cases k with
    | succ m =>
      have hge : (0 : Int) ≤ x := by omega
      go_wp2_with fail
      refine (sift_at (unhideB RW) m (b - a) a _ _ _ (by omega) (by omega) (by omega) (by omega) (by omega) hn).mono ?_
      rintro e w' ⟨rfl, hrow2⟩
      have RW2 := hideB hrow2; clear hrow2
      go_wp2_with fail
      refine ⟨⟨m, _, _, rfl, by omega, by omega, unhideB RW2, ?_⟩, by simp [intOf] <;> omega⟩
      rw [← unhideB EQ]
      rfl
    | zero =>
      obtain ⟨W0, rfl⟩ : ∃ W0, W0 = wr := ⟨_, rfl⟩
      have E0 : Sort.heapBuild ltN (b - a) a ((b - a - 1) / 2 + 1) d = d' := (unhideB EQ).symm
      have E1 := hideB E0; clear E0 EQ
      have hge : ¬ (0 : Int) ≤ x := by omega
      go_wp2_with fail
      go_loopw [10] (fun iv wr => ∃ (k : Nat) (d2 : Array Nat), iv = .int .i64 ((k : Int) - 1) ∧ k ≤ b - a ∧ Row w0 g n wr d2 ∧ Sort.heapPop ltN a k d2 = Sort.heapPop ltN a (b - a) d') (fun iv _ => (intOf iv + 1).toNat)
      case atStart => exact ⟨b - a, d', by simp <;> omega, by omega, unhideB RW, rfl⟩
      case round =>
        obtain ⟨k, d2, rfl, hk2, hrow, heq⟩ := hrel
        have RW1 := hideB hrow; have EQ1 := hideB heq; clear hrow heq RW
        cases k with
        | succ m =>
          have hge : (0 : Int) ≤ ((m + 1 : Nat) : Int) - 1 := by omega
          go_wp2_with fail
          refine (swap_at (unhideB RW1) a (a + m) _ _ (by omega) (by omega) (by omega) (by omega)).mono ?_
          rintro e w' ⟨rfl, hrow2, -⟩
          have RW2 := hideB hrow2; clear hrow2
          go_wp2_with fail
          refine (sift_at (unhideB RW2) 0 m a _ _ _ (by omega) (by omega) (by omega) (by omega) (by omega) hn).mono ?_
          rintro e w'' ⟨rfl, hrow3⟩
          have RW3 := hideB hrow3; clear hrow3
          go_wp2_with fail
          refine ⟨⟨m, _, by simp, by omega, unhideB RW3, by rw [← unhideB EQ1]; rfl⟩, by simp [intOf] <;> omega⟩
        | zero =>
          go_wp2_with fail
          go_end0
          refine ⟨rfl, ?_⟩
          unfold Sort.heapSort
          rw [unhideB E1, ← unhideB EQ1]
          exact unhideB RW1

theorem reverse_step (i j : Nat) (d : Array Nat) (h : i < j) : Sort.reverseLoop i j d = Sort.reverseLoop (i + 1) (j - 1) (Sort.swp d i j) := by
  conv => lhs; unfold Sort.reverseLoop
  rw [if_pos h]
theorem reverse_stop (i j : Nat) (d : Array Nat) (h : ¬ i < j) : Sort.reverseLoop i j d = d := by
  unfold Sort.reverseLoop
  rw [if_neg h]

set_option maxRecDepth 100000 in
set_option maxHeartbeats 1000000 in
theorem reverse_any {w0 w : World} {g n cap : Nat} {d : Array Nat} (h : Row w0 g n w d) (a b : Nat) (hab : a < b) (hbn : b ≤ n) (hn : n ≤ 1099511627776) :
    Calls Yba.prog 67 #[dv g n cap, .int .i64 a, .int .i64 b] w fun e w' => e = .returned (.tuple #[]) ∧ Row w0 g n w' (Sort.reverseRange d a b) := by
  unfold dv
  have mS := fun v w n => method_own find_swap 34 Yba.underlying123 v w n
  have H := hideB h; clear h
  go_enter Yba.func67, Yba.ntmps67
  go_wp2_with fail
  go_loopw [6, 7] (fun iv jv wr => ∃ (i j : Nat) (d' : Array Nat), iv = .int .i64 i ∧ jv = .int .i64 j ∧ i ≤ b ∧ j < b ∧ Row w0 g n wr d' ∧ Sort.reverseLoop i j d' = Sort.reverseLoop a (b - 1) d) (fun iv jv _ => (intOf jv - intOf iv).toNat)
  case atStart => exact ⟨a, b - 1, d, rfl, by simp; omega, by omega, by omega, unhideB H, rfl⟩
  case round =>
    obtain ⟨i, j, d', rfl, rfl, hi, hj, hrow, heq⟩ := hrel
    have RW := hideB hrow; have EQ := hideB heq; clear hrow heq H
    by_cases hij : i < j
    · have hij' : (i : Int) < j := by omega
      go_wp2_with fail
      refine (swap_at (unhideB RW) i j _ _ rfl rfl (by omega) (by omega)).mono ?_
      rintro e w' ⟨rfl, hrow2, -⟩
      have RW2 := hideB hrow2; clear hrow2
      go_wp2_with fail
      refine ⟨⟨i + 1, j - 1, _, by simp, by simp; omega, by omega, by omega, unhideB RW2, ?_⟩, by simp [intOf]; omega⟩
      rw [← unhideB EQ, reverse_step i j d' hij]
    · have hij' : ¬ ((i : Int) < j) := by omega
      go_wp2_with fail
      go_end0
      refine ⟨rfl, ?_⟩
      unfold Sort.reverseRange
      rw [← unhideB EQ, reverse_stop i j d' hij]
      exact unhideB RW
end Go.Proofs.Ybulkqhs
