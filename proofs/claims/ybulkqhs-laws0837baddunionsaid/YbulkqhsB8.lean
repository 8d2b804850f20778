import Derived.Test.YbulkqhsB7
import Derived.Deep.CutBlock
import Derived.Deep.DeepCutAuto
import Derived.Sort.LotD3
import Derived.Sort.LotC
import Derived.Sort.LotA
import Derived.Sort.LotB
namespace Go.Proofs.Ybulkqhs
open Go.RowKit
set_option linter.unusedVariables false

theorem up_go (p : Nat → Bool) (d : Array Nat) (j i : Nat) (h : i ≤ j) (hp : p d[i]! = true) : Sort.scanUp p d j i = Sort.scanUp p d j (i + 1) := by
  conv => lhs; unfold Sort.scanUp
  rw [if_pos (by simp [hp, h])]
theorem up_stop (p : Nat → Bool) (d : Array Nat) (j i : Nat) (h : ¬ i ≤ j ∨ p d[i]! = false) : Sort.scanUp p d j i = i := by
  unfold Sort.scanUp
  rw [if_neg (by rcases h with h | h <;> simp [h])]
theorem down_go (p : Nat → Bool) (d : Array Nat) (i j : Nat) (h : i ≤ j) (h0 : 0 < j) (hp : p d[j]! = true) : Sort.scanDown p d i j = Sort.scanDown p d i (j - 1) := by
  cases j with
  | zero => omega
  | succ j =>
    conv => lhs; unfold Sort.scanDown
    rw [if_pos (by simp [hp, h])]; rfl
theorem down_stop (p : Nat → Bool) (d : Array Nat) (i j : Nat) (h : ¬ i ≤ j ∨ p d[j]! = false) : Sort.scanDown p d i j = j := by
  cases j with
  | zero => rfl
  | succ j =>
    unfold Sort.scanDown
    rw [if_neg (by rcases h with h | h <;> simp [h])]

theorem scan_ne (p q : Nat → Bool) (hq : ∀ x, q x = !p x) (d : Array Nat) (i j i2 j2 : Nat) (hu : Sort.scanUp p d j i = i2) (hd : Sort.scanDown q d i2 j = j2) (h1 : i2 ≤ j2) (h2 : j2 ≤ j) (h0 : 0 < i2) : i2 ≠ j2 := by
  intro e
  have a1 := (Sort.scanUp_spec p d j _ i rfl).2.2.2
  have a2 := (Sort.scanDown_spec q d i2 j).2.2.2
  rw [hu] at a1
  rw [hd] at a2
  have b1 := a1 (by omega)
  have b2 := a2 (by omega) (by omega)
  rw [← e, hq, b1] at b2
  cases b2

set_option maxRecDepth 100000 in
set_option maxHeartbeats 2000000 in
theorem partEq_any {w0 w : World} {g n cap : Nat} {d : Array Nat} (h : Row w0 g n w d) (a b pv : Nat) (hab : a + 1 < b) (hbn : b ≤ n) (hn : n ≤ 1099511627776) (hp1 : a ≤ pv) (hp2 : pv < b) :
    Calls Yba.prog 69 #[dv g n cap, .int .i64 a, .int .i64 b, .int .i64 pv] w fun e w' => e = .returned (.int .i64 ((Sort.partitionEqual ltN d a b pv).1 : Nat)) ∧ Row w0 g n w' (Sort.partitionEqual ltN d a b pv).2 := by
  unfold dv
  have mL := fun v w n => method_own find_less 34 Yba.underlying123 v w n
  have mS := fun v w n => method_own find_swap 34 Yba.underlying123 v w n
  have H := hideB h; clear h
  obtain ⟨R, hR⟩ : ∃ R, R = Sort.partEqLoop ltN a (a + 1) (b - 1) (Sort.swp d a pv) := ⟨_, rfl⟩
  have e1 : Sort.partitionEqual ltN d a b pv = R := hR.symm
  rw [e1]
  have HR := hideB hR; clear hR e1
  go_enter Yba.func69, Yba.ntmps69
  go_wp2_with fail
  refine (swap_at (unhideB H) a pv _ _ rfl rfl (by omega) (by omega)).mono ?_
  rintro e w1 ⟨rfl, hrow, -⟩
  have H1 := hideB hrow; clear hrow H
  go_wp2_with fail
  go_loopw [9, 10] (fun iv jv wr => ∃ (i j : Nat) (d' : Array Nat), iv = .int .i64 i ∧ jv = .int .i64 j ∧ a < i ∧ i ≤ j + 1 ∧ j < b ∧ Row w0 g n wr d' ∧ R = Sort.partEqLoop ltN a i j d') (fun iv jv _ => (intOf jv + 1 - intOf iv).toNat)
  case atStart => exact ⟨a + 1, b - 1, _, by simp, by simp; omega, by omega, by omega, by omega, unhideB H1, unhideB HR⟩
  case round =>
    obtain ⟨i, j, d', rfl, rfl, hai, hij, hjb, hrow, heq⟩ := hrel
    have RW := hideB hrow; have EQ := hideB heq; clear hrow heq HR H1
    obtain ⟨W0, rfl⟩ : ∃ W0, W0 = wr := ⟨_, rfl⟩
    go_upto_block 2 with fail
    go_cut [9] (fun iv wx => ∃ i2 : Nat, iv = .int .i64 i2 ∧ i ≤ i2 ∧ i2 ≤ j + 1 ∧ Sort.scanUp (fun x => !ltN d'[a]! x) d' j i = i2 ∧ Row w0 g n wx d')
    case first =>
      go_wp2_with fail
      go_loopw [9] (fun iv wr => ∃ i2 : Nat, iv = .int .i64 i2 ∧ i ≤ i2 ∧ i2 ≤ j + 1 ∧ Row w0 g n wr d' ∧ Sort.scanUp (fun x => !ltN d'[a]! x) d' j i2 = Sort.scanUp (fun x => !ltN d'[a]! x) d' j i) (fun iv _ => ((j : Int) + 1 - intOf iv).toNat)
      case atStart => exact ⟨i, rfl, by omega, by omega, unhideB RW, rfl⟩
      case round =>
        obtain ⟨i2, rfl, hi1, hi2, hrow, heq⟩ := hrel
        have RWu := hideB hrow; have EQu := hideB heq; clear hrow heq
        by_cases hle : i2 ≤ j
        · have hle' : (i2 : Int) ≤ j := by omega
          cases hb : ltN d'[a]! d'[i2]!
          · have HB := hideB hb; clear hb
            go_wp2_with fail
            refine (less_at (unhideB RWu) a i2 _ _ rfl rfl (by omega) (by omega) false (unhideB HB)).mono ?_
            rintro e w' ⟨rfl, hrow2, -⟩
            have RWv := hideB hrow2; clear hrow2
            go_wp2_with fail
            refine ⟨⟨i2 + 1, by simp, by omega, by omega, unhideB RWv, ?_⟩, by simp [intOf]; omega⟩
            rw [← unhideB EQu]
            exact (up_go _ d' j i2 hle (by have := unhideB HB; simp [this])).symm
          · have HB := hideB hb; clear hb
            go_wp2_with fail
            refine (less_at (unhideB RWu) a i2 _ _ rfl rfl (by omega) (by omega) true (unhideB HB)).mono ?_
            rintro e w' ⟨rfl, hrow2, -⟩
            have RWv := hideB hrow2; clear hrow2
            go_wp2_with fail
            go_meet
            case rel => exact ⟨i2, rfl, hi1, hi2, by rw [← unhideB EQu]; exact up_stop _ d' j i2 (.inr (by have := unhideB HB; simp [this])), unhideB RWv⟩
        · have hle' : ¬ ((i2 : Int) ≤ j) := by omega
          go_wp2_with fail
          go_meet
          case rel => exact ⟨i2, rfl, hi1, hi2, by rw [← unhideB EQu]; exact up_stop _ d' j i2 (.inl hle), unhideB RWu⟩
    case rest =>
      obtain ⟨i2, rfl, hi1, hi2, hup, hrow2⟩ := hcut
      have RW2 := hideB hrow2; have UP := hideB hup; clear hrow2 hup
      obtain ⟨W1, rfl⟩ : ∃ W1, W1 = wc := ⟨_, rfl⟩
      go_upto_block 4 with fail
      go_cut [10] (fun jv wx => ∃ j2 : Nat, jv = .int .i64 j2 ∧ j2 ≤ j ∧ i2 ≤ j2 + 1 ∧ Sort.scanDown (fun x => ltN d'[a]! x) d' i2 j = j2 ∧ Row w0 g n wx d')
      case first =>
        go_wp2_with fail
        go_loopw [10] (fun jv wr => ∃ j2 : Nat, jv = .int .i64 j2 ∧ j2 ≤ j ∧ i2 ≤ j2 + 1 ∧ Row w0 g n wr d' ∧ Sort.scanDown (fun x => ltN d'[a]! x) d' i2 j2 = Sort.scanDown (fun x => ltN d'[a]! x) d' i2 j) (fun jv _ => (intOf jv).toNat)
        case atStart => exact ⟨j, rfl, by omega, by omega, unhideB RW2, rfl⟩
        case round =>
          obtain ⟨j2, rfl, hj1, hj2, hrow, heq⟩ := hrel
          have RWu := hideB hrow; have EQu := hideB heq; clear hrow heq
          by_cases hle : i2 ≤ j2
          · have hle' : (i2 : Int) ≤ j2 := by omega
            cases hb : ltN d'[a]! d'[j2]!
            · have HB := hideB hb; clear hb
              go_wp2_with fail
              refine (less_at (unhideB RWu) a j2 _ _ rfl rfl (by omega) (by omega) false (unhideB HB)).mono ?_
              rintro e w' ⟨rfl, hrow2, -⟩
              have RWv := hideB hrow2; clear hrow2
              go_wp2_with fail
              go_meet
              case rel => exact ⟨j2, rfl, hj1, hj2, by rw [← unhideB EQu]; exact down_stop _ d' i2 j2 (.inr (by have := unhideB HB; simp [this])), unhideB RWv⟩
            · have HB := hideB hb; clear hb
              go_wp2_with fail
              refine (less_at (unhideB RWu) a j2 _ _ rfl rfl (by omega) (by omega) true (unhideB HB)).mono ?_
              rintro e w' ⟨rfl, hrow2, -⟩
              have RWv := hideB hrow2; clear hrow2
              go_wp2_with fail
              refine ⟨⟨j2 - 1, by simp; omega, by omega, by omega, unhideB RWv, ?_⟩, by simp [intOf]; omega⟩
              rw [← unhideB EQu]
              exact (down_go _ d' i2 j2 hle (by omega) (by have := unhideB HB; simp [this])).symm
          · have hle' : ¬ ((i2 : Int) ≤ j2) := by omega
            go_wp2_with fail
            go_meet
            case rel => exact ⟨j2, rfl, hj1, hj2, by rw [← unhideB EQu]; exact down_stop _ d' i2 j2 (.inl hle), unhideB RWu⟩
      case rest =>
        obtain ⟨j2, rfl, hj1, hj2, hdn, hrow3⟩ := hcut
        have RW3 := hideB hrow3; have DN := hideB hdn; clear hrow3 hdn
        have ES := hideB (show R = if i2 > j2 then (i2, d') else Sort.partEqLoop ltN a (i2 + 1) (j2 - 1) (Sort.swp d' i2 j2) by
          rw [unhideB EQ, Sort.partEqLoop_eq, unhideB UP, unhideB DN])
        by_cases hgt : i2 > j2
        · have hgt' : (j2 : Int) < i2 := by omega
          have HE := hideB (show R = (i2, d') by rw [unhideB ES, if_pos hgt])
          go_wp2_with fail
          go_ret
          rw [unhideB HE]
          exact ⟨rfl, unhideB RW3⟩
        · have hgt' : ¬ ((j2 : Int) < i2) := by omega
          have hne : i2 ≠ j2 := scan_ne _ _ (fun x => by simp) d' i j i2 j2 (unhideB UP) (unhideB DN) (by omega) (by omega) (by omega)
          have HE := hideB (show R = Sort.partEqLoop ltN a (i2 + 1) (j2 - 1) (Sort.swp d' i2 j2) by rw [unhideB ES, if_neg hgt])
          go_wp2_with fail
          refine (swap_at (unhideB RW3) i2 j2 _ _ rfl rfl (by omega) (by omega)).mono ?_
          rintro e w4 ⟨rfl, hrow4, -⟩
          have RW4 := hideB hrow4; clear hrow4
          go_wp2_with fail
          go_roundw
          case rel => exact ⟨i2 + 1, j2 - 1, _, by simp, by simp; omega, by omega, by omega, by omega, unhideB RW4, unhideB HE⟩
          case measure => simp [intOf]; omega
end Go.Proofs.Ybulkqhs
