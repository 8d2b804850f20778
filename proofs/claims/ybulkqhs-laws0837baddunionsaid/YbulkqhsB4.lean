import Derived.Test.YbulkqhsB3
namespace Go.Proofs.Ybulkqhs
open Go.RowKit
set_option linter.unusedVariables false

theorem insInner_stop (a j : Nat) (d : Array Nat) (h : j ≤ a) : Sort.insInner ltN a j d = d := by
  cases j with
  | zero => rfl
  | succ j => simp only [Sort.insInner]; rw [if_neg]; simp; omega
theorem insInner_no (a j : Nat) (d : Array Nat) (h : ltN d[j]! d[j - 1]! = false) : Sort.insInner ltN a j d = d := by
  cases j with
  | zero => rfl
  | succ j => simp only [Sort.insInner]; rw [if_neg]; simp at h ⊢; intro _; exact h
theorem insInner_yes (a j : Nat) (d : Array Nat) (hj : a < j) (h : ltN d[j]! d[j - 1]! = true) : Sort.insInner ltN a j d = Sort.insInner ltN a (j - 1) (Sort.swp d j (j - 1)) := by
  cases j with
  | zero => omega
  | succ j => 
    conv => lhs; unfold Sort.insInner
    rw [if_pos]
    · rfl
    · simp at h ⊢; exact ⟨by omega, h⟩

theorem outer_step (a b i : Nat) (d : Array Nat) (h : i < b) : Sort.insOuter ltN a b i d = Sort.insOuter ltN a b (i + 1) (Sort.insInner ltN a i d) := by
  conv => lhs; unfold Sort.insOuter
  rw [if_pos h]

set_option maxRecDepth 100000 in
set_option maxHeartbeats 1000000 in
theorem insertion_any {w0 w : World} {g n cap : Nat} {d : Array Nat} (h : Row w0 g n w d) (a b : Nat) (hab : a ≤ b) (hbn : b ≤ n) (hn : n ≤ 1099511627776) :
    Calls Yba.prog 63 #[dv g n cap, .int .i64 a, .int .i64 b] w fun e w' => e = .returned (.tuple #[]) ∧ Row w0 g n w' (Sort.insertionSort ltN d a b) := by
  unfold dv
  have mL := fun v w n => method_own find_less 34 Yba.underlying123 v w n
  have mS := fun v w n => method_own find_swap 34 Yba.underlying123 v w n
  have H := hideB h; clear h
  go_enter Yba.func63, Yba.ntmps63
  go_wp2_with fail
  go_loopw [6] (fun iv wr => ∃ (i : Nat) (d' : Array Nat), iv = .int .i64 i ∧ a + 1 ≤ i ∧ (i ≤ b ∨ i = a + 1) ∧ Row w0 g n wr d' ∧ Sort.insOuter ltN a b i d' = Sort.insOuter ltN a b (a + 1) d) (fun iv _ => ((b : Int) - intOf iv).toNat)
  case atStart => exact ⟨a + 1, d, by simp, by omega, by omega, unhideB H, rfl⟩
  case round =>
    obtain ⟨i, d', rfl, hai, hib, hrow, heq⟩ := hrel
    have RW := hideB hrow; have EQ := hideB heq; clear hrow heq
    by_cases hlt : i < b
    · have hlt' : (i : Int) < b := by omega
      obtain ⟨W0, rfl⟩ : ∃ W0, W0 = wr := ⟨_, rfl⟩
      go_wp2_with fail
      go_loopw [7] (fun jv wr => ∃ (j : Nat) (d2 : Array Nat), jv = .int .i64 j ∧ a ≤ j ∧ j ≤ i ∧ Row w0 g n wr d2 ∧ Sort.insInner ltN a j d2 = Sort.insInner ltN a i d') (fun jv _ => (intOf jv).toNat)
      case atStart => exact ⟨i, d', rfl, by omega, by omega, unhideB RW, rfl⟩
      case round =>
        obtain ⟨j, d2, rfl, haj, hji, hrow, heq⟩ := hrel
        have RW2 := hideB hrow; have EQ2 := hideB heq; clear hrow heq
        by_cases hja : a < j
        · have hja' : (a : Int) < j := by omega
          have hd : decide ((a : Int) < j) = true := by simpa using hja
          cases hb : ltN d2[j]! d2[j - 1]!
          · have HB := hideB hb; clear hb
            go_wp2_with fail
            refine (less_at (unhideB RW2) j (j - 1) _ _ rfl (by omega) (by omega) (by omega) false (unhideB HB)).mono ?_
            rintro e w' ⟨rfl, hrow3, -⟩
            have RW3 := hideB hrow3; clear hrow3
            go_wp2_with fail
            refine ⟨⟨i + 1, d2, by simp, by omega, by omega, unhideB RW3, ?_⟩, by simp [intOf]; omega⟩
            have e1 := insInner_no a j d2 (unhideB HB)
            rw [← unhideB EQ, outer_step _ _ _ _ hlt, ← unhideB EQ2, e1]
          · have HB := hideB hb; clear hb
            go_wp2_with fail
            refine (less_at (unhideB RW2) j (j - 1) _ _ rfl (by omega) (by omega) (by omega) true (unhideB HB)).mono ?_
            rintro e w' ⟨rfl, hrow3, -⟩
            have RW3 := hideB hrow3; clear hrow3
            go_wp2_with fail
            refine (swap_at (unhideB RW3) j (j - 1) _ _ rfl (by omega) (by omega) (by omega)).mono ?_
            rintro e w'' ⟨rfl, hrow4, -⟩
            have RW4 := hideB hrow4; clear hrow4
            go_wp2_with fail
            refine ⟨⟨j - 1, _, by simp; omega, by omega, by omega, unhideB RW4, ?_⟩, by simp [intOf]; omega⟩
            rw [← unhideB EQ2, insInner_yes a j d2 hja (unhideB HB)]
        · have hd : ¬ ((a : Int) < j) := by omega
          go_wp2_with fail
          refine ⟨⟨i + 1, d2, by simp, by omega, by omega, unhideB RW2, ?_⟩, by simp [intOf]; omega⟩
          have e1 := insInner_stop a j d2 (by omega)
          rw [← unhideB EQ, outer_step _ _ _ _ hlt, ← unhideB EQ2, e1]
    · have hlt' : ¬ ((i : Int) < b) := by omega
      go_wp2_with fail
      go_end0
      refine ⟨rfl, ?_⟩
      have e1 : Sort.insertionSort ltN d a b = d' := by
        unfold Sort.insertionSort
        rw [← unhideB EQ]
        unfold Sort.insOuter
        rw [if_neg hlt]
      rw [e1]; exact unhideB RW
end Go.Proofs.Ybulkqhs
