import Derived.Test.YbulkqhsB9
namespace Go.Proofs.Ybulkqhs
open Go.RowKit
set_option linter.unusedVariables false

theorem sorted_go (d : Array Nat) (b i : Nat) (h : i < b) (hp : ltN d[i]! d[i - 1]! = false) : Sort.scanSorted ltN d b i = Sort.scanSorted ltN d b (i + 1) := by
  conv => lhs; unfold Sort.scanSorted
  rw [if_pos (by simp [hp, h])]
theorem sorted_stop (d : Array Nat) (b i : Nat) (h : ¬ i < b ∨ ltN d[i]! d[i - 1]! = true) : Sort.scanSorted ltN d b i = i := by
  unfold Sort.scanSorted
  rw [if_neg (by rcases h with h | h <;> simp [h])]
theorem shDown_go (d : Array Nat) (j : Nat) (h0 : 0 < j) (hp : ltN d[j]! d[j - 1]! = true) : Sort.shiftDown ltN j d = Sort.shiftDown ltN (j - 1) (Sort.swp d j (j - 1)) := by
  cases j with
  | zero => omega
  | succ j =>
    conv => lhs; unfold Sort.shiftDown
    simp only [Nat.add_sub_cancel] at hp ⊢
    rw [hp]; rfl
theorem shDown_stop (d : Array Nat) (j : Nat) (h : j = 0 ∨ ltN d[j]! d[j - 1]! = false) : Sort.shiftDown ltN j d = d := by
  cases j with
  | zero => rfl
  | succ j =>
    unfold Sort.shiftDown
    rcases h with h | h
    · omega
    · simp only [Nat.add_sub_cancel] at h
      rw [h]; rfl
theorem shUp_go (d : Array Nat) (b j : Nat) (h0 : j < b) (hp : ltN d[j]! d[j - 1]! = true) : Sort.shiftUp ltN b j d = Sort.shiftUp ltN b (j + 1) (Sort.swp d j (j - 1)) := by
  conv => lhs; unfold Sort.shiftUp
  rw [if_pos h0, hp]; rfl
theorem shUp_stop (d : Array Nat) (b j : Nat) (h : ¬ j < b ∨ ltN d[j]! d[j - 1]! = false) : Sort.shiftUp ltN b j d = d := by
  unfold Sort.shiftUp
  by_cases hj : j < b
  · rcases h with h | h
    · omega
    · rw [if_pos hj, h]; rfl
  · rw [if_neg hj]

set_option maxRecDepth 100000 in
set_option maxHeartbeats 4000000 in
theorem partial_any {w0 w : World} {g n cap : Nat} {d : Array Nat} (h : Row w0 g n w d) (a b : Nat) (hab : a + 1 < b) (hbn : b ≤ n) (hn : n ≤ 1099511627776) :
    Calls Yba.prog 68 #[dv g n cap, .int .i64 a, .int .i64 b] w fun e w' => e = .returned (.bool (Sort.partialInsertionSort ltN d a b).2) ∧ Row w0 g n w' (Sort.partialInsertionSort ltN d a b).1 := by
  unfold dv
  have mL := fun v w n => method_own find_less 34 Yba.underlying123 v w n
  have mS := fun v w n => method_own find_swap 34 Yba.underlying123 v w n
  have H := hideB h; clear h
  obtain ⟨R, hR⟩ : ∃ R, R = Sort.partialIns ltN a b 5 (a + 1) d := ⟨_, rfl⟩
  have e1 : Sort.partialInsertionSort ltN d a b = R := hR.symm
  rw [e1]
  have HR := hideB hR; clear hR e1
  go_enter Yba.func68, Yba.ntmps68
  go_wp2_with fail
  go_loopw [7, 8, 9, 10] (fun iv jv _ _ wr => ∃ (i s : Nat) (x : Int) (d' : Array Nat), iv = .int .i64 i ∧ jv = .int .i64 x ∧ x = 5 - (s : Int) ∧ s ≤ 5 ∧ a + 1 ≤ i ∧ i ≤ b ∧ Row w0 g n wr d' ∧ R = Sort.partialIns ltN a b s i d') (fun iv jv _ _ _ => (5 - intOf jv).toNat)
  case atStart => exact ⟨a + 1, 5, _, d, by simp, rfl, by omega, by omega, by omega, by omega, unhideB H, unhideB HR⟩
  case round =>
    obtain ⟨i, s, x, d', rfl, rfl, hx, hs5, hai, hib, hrow, heq⟩ := hrel
    have RW := hideB hrow; have EQ := hideB heq; clear hrow heq HR H
    obtain ⟨W0, rfl⟩ : ∃ W0, W0 = wr := ⟨_, rfl⟩
    cases s with
    | zero =>
      have hx5 : ¬ (x < 5) := by omega
      have HX := hideB hx; clear hx
      have HQ := hideB (show R = (d', false) from unhideB EQ)
      go_wp2_with fail
      go_ret
      rw [unhideB HQ]
      exact ⟨rfl, unhideB RW⟩
    | succ s =>
      have hx5 : x < 5 := by omega
      have hx0 : 0 ≤ x := by omega
      have HX := hideB hx; clear hx
      go_upto_block 2 with fail
      go_cut [7] (fun iv wx => ∃ i2 : Nat, iv = .int .i64 i2 ∧ a + 1 ≤ i2 ∧ i2 ≤ b ∧ Sort.scanSorted ltN d' b i = i2 ∧ Row w0 g n wx d')
      case first =>
        go_wp2_with fail
        go_loopw [7] (fun iv wr => ∃ i2 : Nat, iv = .int .i64 i2 ∧ a + 1 ≤ i2 ∧ i2 ≤ b ∧ Row w0 g n wr d' ∧ Sort.scanSorted ltN d' b i2 = Sort.scanSorted ltN d' b i) (fun iv _ => ((b : Int) - intOf iv).toNat)
        case atStart => exact ⟨i, rfl, by omega, by omega, unhideB RW, rfl⟩
        case round =>
          obtain ⟨i2, rfl, hi1, hi2, hrow, heq⟩ := hrel
          have RWu := hideB hrow; have EQu := hideB heq; clear hrow heq
          by_cases hle : i2 < b
          · have hle' : (i2 : Int) < b := by omega
            cases hb : ltN d'[i2]! d'[i2 - 1]!
            · have HB := hideB hb; clear hb
              go_wp2_with fail
              refine (less_at (unhideB RWu) i2 (i2 - 1) _ _ rfl (by omega) (by omega) (by omega) false (unhideB HB)).mono ?_
              rintro e w' ⟨rfl, hrow2, -⟩
              have RWv := hideB hrow2; clear hrow2
              go_wp2_with fail
              refine ⟨⟨i2 + 1, by simp, by omega, by omega, unhideB RWv, ?_⟩, by simp [intOf]; omega⟩
              rw [← unhideB EQu]
              exact (sorted_go d' b i2 hle (unhideB HB)).symm
            · have HB := hideB hb; clear hb
              go_wp2_with fail
              refine (less_at (unhideB RWu) i2 (i2 - 1) _ _ rfl (by omega) (by omega) (by omega) true (unhideB HB)).mono ?_
              rintro e w' ⟨rfl, hrow2, -⟩
              have RWv := hideB hrow2; clear hrow2
              go_wp2_with fail
              go_meet
              case rel => exact ⟨i2, rfl, hi1, hi2, by rw [← unhideB EQu]; exact sorted_stop d' b i2 (.inr (unhideB HB)), unhideB RWv⟩
          · have hle' : ¬ ((i2 : Int) < b) := by omega
            go_wp2_with fail
            go_meet
            case rel => exact ⟨i2, rfl, hi1, hi2, by rw [← unhideB EQu]; exact sorted_stop d' b i2 (.inl hle), unhideB RWu⟩
      case rest =>
        obtain ⟨i2, rfl, hi1, hi2, hsc, hrow2⟩ := hcut
        have RW2 := hideB hrow2; clear hrow2
        have ES := hideB (show R = if i2 = b then (d', true) else if b - a < 50 then (d', false) else Sort.partialIns ltN a b s i2 (Sort.fixUp ltN b i2 (Sort.fixDown ltN a i2 (Sort.swp d' i2 (i2 - 1)))) by
          rw [unhideB EQ, Sort.partialIns_succ, hsc])
        clear hsc EQ
        obtain ⟨W1, rfl⟩ : ∃ W1, W1 = wc := ⟨_, rfl⟩
        by_cases hend : i2 = b
        · have HQ := hideB (show R = (d', true) by rw [unhideB ES, if_pos hend])
          have he : (i2 : Int) = b := by omega
          go_wp2_with fail
          go_ret
          rw [unhideB HQ]
          exact ⟨rfl, unhideB RW2⟩
        · have he : ¬ ((i2 : Int) = b) := by omega
          have heb : ((i2 : Int) == b) = false := by simpa using he
          by_cases h50 : b - a < 50
          · have HQ := hideB (show R = (d', false) by rw [unhideB ES, if_neg hend, if_pos h50])
            have h5 : (b : Int) - a < 50 := by omega
            go_wp2_with fail
            go_ret
            rw [unhideB HQ]
            exact ⟨rfl, unhideB RW2⟩
          · have HQ := hideB (show R = Sort.partialIns ltN a b s i2 (Sort.fixUp ltN b i2 (Sort.fixDown ltN a i2 (Sort.swp d' i2 (i2 - 1)))) by rw [unhideB ES, if_neg hend, if_neg h50])
            have h5 : ¬ ((b : Int) - a < 50) := by omega
            clear ES RW
            go_wp2_with fail
            refine (swap_at (unhideB RW2) i2 (i2 - 1) _ _ rfl (by omega) (by omega) (by omega)).mono ?_
            rintro e w4 ⟨rfl, hrow4, -⟩
            obtain ⟨d1, hd1⟩ : ∃ d1, d1 = Sort.swp d' i2 (i2 - 1) := ⟨_, rfl⟩
            rw [← hd1] at hrow4
            have HQ1 := hideB (show R = Sort.partialIns ltN a b s i2 (Sort.fixUp ltN b i2 (Sort.fixDown ltN a i2 d1)) by rw [unhideB HQ, hd1])
            have RW4 := hideB hrow4; clear hrow4 hd1 RW2 HQ
            go_upto_if 45 with fail
            go_cut [9] (fun _ wx => Row w0 g n wx (Sort.fixDown ltN a i2 d1))
            case first =>
              by_cases h2 : i2 - a ≥ 2
              · have h2' : (2 : Int) ≤ (i2 : Int) - a := by omega
                have FX := hideB (show Sort.fixDown ltN a i2 d1 = Sort.shiftDown ltN (i2 - 1) d1 by unfold Sort.fixDown; rw [if_pos h2])
                have hd : decide ((2 : Int) ≤ (i2 : Int) - a) = true := by simpa using h2'
                rw [hd]
                go_wp2_with fail
                go_loopw [9] (fun jv wr => ∃ (j : Nat) (d2 : Array Nat), jv = .int .i64 j ∧ j ≤ i2 - 1 ∧ Row w0 g n wr d2 ∧ Sort.shiftDown ltN j d2 = Sort.shiftDown ltN (i2 - 1) d1) (fun jv _ => (intOf jv).toNat)
                case atStart => exact ⟨i2 - 1, d1, by simp; omega, by omega, unhideB RW4, rfl⟩
                case round =>
                  obtain ⟨j, d2, rfl, hj, hrow, heq⟩ := hrel
                  have RWu := hideB hrow; have EQu := hideB heq; clear hrow heq
                  by_cases hj0 : j = 0
                  · have hj1 : ¬ ((1 : Int) ≤ j) := by omega
                    go_wp2_with fail
                    go_meet
                    case rel =>
                      rw [unhideB FX, ← unhideB EQu, shDown_stop d2 j (.inl hj0)]
                      exact unhideB RWu
                  · have hj1 : (1 : Int) ≤ j := by omega
                    cases hb : ltN d2[j]! d2[j - 1]!
                    · have HB := hideB hb; clear hb
                      go_wp2_with fail
                      refine (less_at (unhideB RWu) j (j - 1) _ _ rfl (by omega) (by omega) (by omega) false (unhideB HB)).mono ?_
                      rintro e w' ⟨rfl, hrow2, -⟩
                      have RWv := hideB hrow2; clear hrow2
                      go_wp2_with fail
                      go_meet
                      case rel =>
                        rw [unhideB FX, ← unhideB EQu, shDown_stop d2 j (.inr (unhideB HB))]
                        exact unhideB RWv
                    · have HB := hideB hb; clear hb
                      go_wp2_with fail
                      refine (less_at (unhideB RWu) j (j - 1) _ _ rfl (by omega) (by omega) (by omega) true (unhideB HB)).mono ?_
                      rintro e w' ⟨rfl, hrow2, -⟩
                      have RWv := hideB hrow2; clear hrow2
                      go_wp2_with fail
                      refine (swap_at (unhideB RWv) j (j - 1) _ _ rfl (by omega) (by omega) (by omega)).mono ?_
                      rintro e w'' ⟨rfl, hrow3, -⟩
                      have RWw := hideB hrow3; clear hrow3
                      go_wp2_with fail
                      go_roundw
                      case rel => exact ⟨j - 1, _, by simp; omega, by omega, unhideB RWw, by rw [← unhideB EQu]; exact (shDown_go d2 j (by omega) (unhideB HB)).symm⟩
                      case measure => simp [intOf]; omega
              · have h2' : ¬ ((2 : Int) ≤ (i2 : Int) - a) := by omega
                have FX := hideB (show Sort.fixDown ltN a i2 d1 = d1 by unfold Sort.fixDown; rw [if_neg h2])
                go_wp2_with fail
                go_meet
                case rel =>
                  rw [unhideB FX]
                  exact unhideB RW4
            case rest =>
              obtain ⟨d5, hd5⟩ : ∃ d5, d5 = Sort.fixDown ltN a i2 d1 := ⟨_, rfl⟩
              rw [← hd5] at hcut
              have HQ2 := hideB (show R = Sort.partialIns ltN a b s i2 (Sort.fixUp ltN b i2 d5) by rw [unhideB HQ1, hd5])
              have RW5 := hideB hcut; clear hcut hd5 RW4 HQ1
              obtain ⟨W5, rfl⟩ : ∃ W5, W5 = wc := ⟨_, rfl⟩
              by_cases h2 : b - i2 ≥ 2
              · have h2' : (2 : Int) ≤ (b : Int) - i2 := by omega
                have FX := hideB (show Sort.fixUp ltN b i2 d5 = Sort.shiftUp ltN b (i2 + 1) d5 by unfold Sort.fixUp; rw [if_pos h2])
                go_wp2_with fail
                go_loopw [10] (fun jv wr => ∃ (j : Nat) (d2 : Array Nat), jv = .int .i64 j ∧ i2 + 1 ≤ j ∧ j ≤ b ∧ Row w0 g n wr d2 ∧ Sort.shiftUp ltN b j d2 = Sort.shiftUp ltN b (i2 + 1) d5) (fun jv _ => ((b : Int) - intOf jv).toNat)
                case atStart => exact ⟨i2 + 1, d5, by simp, by omega, by omega, unhideB RW5, rfl⟩
                case round =>
                  obtain ⟨j, d2, rfl, hj, hjb, hrow, heq⟩ := hrel
                  have RWu := hideB hrow; have EQu := hideB heq; clear hrow heq
                  by_cases hj0 : j < b
                  · have hj1 : (j : Int) < b := by omega
                    cases hb : ltN d2[j]! d2[j - 1]!
                    · have HB := hideB hb; clear hb
                      go_wp2_with fail
                      refine (less_at (unhideB RWu) j (j - 1) _ _ rfl (by omega) (by omega) (by omega) false (unhideB HB)).mono ?_
                      rintro e w' ⟨rfl, hrow2, -⟩
                      have RWv := hideB hrow2; clear hrow2
                      go_wp2_with fail
                      go_roundw
                      case rel => exact ⟨i2, s, _, d2, rfl, rfl, by have := unhideB HX; omega, by omega, by omega, by omega, unhideB RWv, by rw [unhideB HQ2, unhideB FX, ← unhideB EQu, shUp_stop d2 b j (.inr (unhideB HB))]⟩
                      case measure => simp [intOf]; omega
                    · have HB := hideB hb; clear hb
                      go_wp2_with fail
                      refine (less_at (unhideB RWu) j (j - 1) _ _ rfl (by omega) (by omega) (by omega) true (unhideB HB)).mono ?_
                      rintro e w' ⟨rfl, hrow2, -⟩
                      have RWv := hideB hrow2; clear hrow2
                      go_wp2_with fail
                      refine (swap_at (unhideB RWv) j (j - 1) _ _ rfl (by omega) (by omega) (by omega)).mono ?_
                      rintro e w'' ⟨rfl, hrow3, -⟩
                      have RWw := hideB hrow3; clear hrow3
                      go_wp2_with fail
                      go_roundw
                      case rel => exact ⟨j + 1, _, by simp, by omega, by omega, unhideB RWw, by rw [← unhideB EQu]; exact (shUp_go d2 b j hj0 (unhideB HB)).symm⟩
                      case measure => simp [intOf]; omega
                  · have hj1 : ¬ ((j : Int) < b) := by omega
                    go_wp2_with fail
                    go_roundw
                    case rel => exact ⟨i2, s, _, d2, rfl, rfl, by have := unhideB HX; omega, by omega, by omega, by omega, unhideB RWu, by rw [unhideB HQ2, unhideB FX, ← unhideB EQu, shUp_stop d2 b j (.inl hj0)]⟩
                    case measure => simp [intOf]; omega
              · have h2' : ¬ ((2 : Int) ≤ (b : Int) - i2) := by omega
                have FX := hideB (show Sort.fixUp ltN b i2 d5 = d5 by unfold Sort.fixUp; rw [if_neg h2])
                go_wp2_with fail
                go_roundw
                case rel => exact ⟨i2, s, _, d5, rfl, rfl, by have := unhideB HX; omega, by omega, by omega, by omega, unhideB RW5, by rw [unhideB HQ2, unhideB FX]⟩
                case measure => simp [intOf]; omega
end Go.Proofs.Ybulkqhs
