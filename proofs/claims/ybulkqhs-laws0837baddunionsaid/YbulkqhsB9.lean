import Derived.Test.YbulkqhsB8
namespace Go.Proofs.Ybulkqhs
open Go.RowKit
set_option linter.unusedVariables false

set_option maxRecDepth 100000 in
set_option maxHeartbeats 4000000 in
theorem part_any {w0 w : World} {g n cap : Nat} {d : Array Nat} (h : Row w0 g n w d) (a b pv : Nat) (hab : a + 1 < b) (hbn : b ≤ n) (hn : n ≤ 1099511627776) (hp1 : a ≤ pv) (hp2 : pv < b) :
    Calls Yba.prog 70 #[dv g n cap, .int .i64 a, .int .i64 b, .int .i64 pv] w fun e w' => ∃ (mid : Nat) (ap : Bool) (d4 : Array Nat), e = .returned (.tuple #[.int .i64 mid, .bool ap]) ∧ Sort.partition ltN d a b pv = (mid, ap, d4) ∧ Row w0 g n w' d4 := by
  unfold dv
  have mL := fun v w n => method_own find_less 34 Yba.underlying123 v w n
  have mS := fun v w n => method_own find_swap 34 Yba.underlying123 v w n
  have H := hideB h; clear h
  obtain ⟨R, hR⟩ : ∃ R, R = Sort.partition ltN d a b pv := ⟨_, rfl⟩
  obtain ⟨d', hd'⟩ : ∃ d', d' = Sort.swp d a pv := ⟨_, rfl⟩
  rw [← hR]
  have HR := hideB hR; have HD := hideB hd'; clear hR hd'
  go_enter Yba.func70, Yba.ntmps70
  go_wp2_with fail
  refine (swap_at (unhideB H) a pv _ _ rfl rfl (by omega) (by omega)).mono ?_
  rintro e w1 ⟨rfl, hrow, -⟩
  rw [← unhideB HD] at hrow
  have RW := hideB hrow; clear hrow H
  go_upto_block 0 with fail
  go_cut [10] (fun iv wx => ∃ i2 : Nat, iv = .int .i64 i2 ∧ (a + 1) ≤ i2 ∧ i2 ≤ (b - 1) + 1 ∧ Sort.scanUp (fun x => ltN x d'[a]!) d' (b - 1) (a + 1) = i2 ∧ Row w0 g n wx d')
  case first =>
    go_wp2_with fail
    go_loopw [10] (fun iv wr => ∃ i2 : Nat, iv = .int .i64 i2 ∧ (a + 1) ≤ i2 ∧ i2 ≤ (b - 1) + 1 ∧ Row w0 g n wr d' ∧ Sort.scanUp (fun x => ltN x d'[a]!) d' (b - 1) i2 = Sort.scanUp (fun x => ltN x d'[a]!) d' (b - 1) (a + 1)) (fun iv _ => ((((b : Int) - 1) : Int) + 1 - intOf iv).toNat)
    case atStart => exact ⟨(a + 1), by simp <;> omega, by omega, by omega, unhideB RW, rfl⟩
    case round =>
      obtain ⟨i2, rfl, hi1, hi2, hrow, heq⟩ := hrel
      have RWu := hideB hrow; have EQu := hideB heq; clear hrow heq
      by_cases hle : i2 ≤ (b - 1)
      · have hle' : (i2 : Int) ≤ ((b : Int) - 1) := by omega
        cases hb : ltN d'[i2]! d'[a]!
        · have HB := hideB hb; clear hb
          go_wp2_with fail
          refine (less_at (unhideB RWu) i2 a _ _ rfl rfl (by omega) (by omega) false (unhideB HB)).mono ?_
          rintro e w' ⟨rfl, hrow2, -⟩
          have RWv := hideB hrow2; clear hrow2
          go_wp2_with fail
          go_meet
          case rel => exact ⟨i2, rfl, hi1, hi2, by rw [← unhideB EQu]; exact up_stop _ d' (b - 1) i2 (.inr (by have := unhideB HB; simp [this])), unhideB RWv⟩
        · have HB := hideB hb; clear hb
          go_wp2_with fail
          refine (less_at (unhideB RWu) i2 a _ _ rfl rfl (by omega) (by omega) true (unhideB HB)).mono ?_
          rintro e w' ⟨rfl, hrow2, -⟩
          have RWv := hideB hrow2; clear hrow2
          go_wp2_with fail
          refine ⟨⟨i2 + 1, by simp, by omega, by omega, unhideB RWv, ?_⟩, by simp [intOf]; omega⟩
          rw [← unhideB EQu]
          exact (up_go _ d' (b - 1) i2 hle (by have := unhideB HB; simp [this])).symm
      · have hle' : ¬ ((i2 : Int) ≤ ((b : Int) - 1)) := by omega
        go_wp2_with fail
        go_meet
        case rel => exact ⟨i2, rfl, hi1, hi2, by rw [← unhideB EQu]; exact up_stop _ d' (b - 1) i2 (.inl hle), unhideB RWu⟩
  case rest =>
    obtain ⟨i2, rfl, hi1, hi2, hup, hrow2⟩ := hcut
    have RW2 := hideB hrow2; have UP := hideB hup; clear hrow2 hup
    obtain ⟨W1, rfl⟩ : ∃ W1, W1 = wc := ⟨_, rfl⟩
    go_upto_block 2 with fail
    go_cut [11] (fun jv wx => ∃ j2 : Nat, jv = .int .i64 j2 ∧ j2 ≤ (b - 1) ∧ i2 ≤ j2 + 1 ∧ Sort.scanDown (fun x => !ltN x d'[a]!) d' i2 (b - 1) = j2 ∧ Row w0 g n wx d')
    case first =>
      go_wp2_with fail
      go_loopw [11] (fun jv wr => ∃ j2 : Nat, jv = .int .i64 j2 ∧ j2 ≤ (b - 1) ∧ i2 ≤ j2 + 1 ∧ Row w0 g n wr d' ∧ Sort.scanDown (fun x => !ltN x d'[a]!) d' i2 j2 = Sort.scanDown (fun x => !ltN x d'[a]!) d' i2 (b - 1)) (fun jv _ => (intOf jv).toNat)
      case atStart => exact ⟨(b - 1), by simp <;> omega, by omega, by omega, unhideB RW2, rfl⟩
      case round =>
        obtain ⟨j2, rfl, hj1, hj2, hrow, heq⟩ := hrel
        have RWu := hideB hrow; have EQu := hideB heq; clear hrow heq
        by_cases hle : i2 ≤ j2
        · have hle' : (i2 : Int) ≤ j2 := by omega
          cases hb : ltN d'[j2]! d'[a]!
          · have HB := hideB hb; clear hb
            go_wp2_with fail
            refine (less_at (unhideB RWu) j2 a _ _ rfl rfl (by omega) (by omega) false (unhideB HB)).mono ?_
            rintro e w' ⟨rfl, hrow2, -⟩
            have RWv := hideB hrow2; clear hrow2
            go_wp2_with fail
            refine ⟨⟨j2 - 1, by simp; omega, by omega, by omega, unhideB RWv, ?_⟩, by simp [intOf]; omega⟩
            rw [← unhideB EQu]
            exact (down_go _ d' i2 j2 hle (by omega) (by have := unhideB HB; simp [this])).symm
          · have HB := hideB hb; clear hb
            go_wp2_with fail
            refine (less_at (unhideB RWu) j2 a _ _ rfl rfl (by omega) (by omega) true (unhideB HB)).mono ?_
            rintro e w' ⟨rfl, hrow2, -⟩
            have RWv := hideB hrow2; clear hrow2
            go_wp2_with fail
            go_meet
            case rel => exact ⟨j2, rfl, hj1, hj2, by rw [← unhideB EQu]; exact down_stop _ d' i2 j2 (.inr (by have := unhideB HB; simp [this])), unhideB RWv⟩
        · have hle' : ¬ ((i2 : Int) ≤ j2) := by omega
          go_wp2_with fail
          go_meet
          case rel => exact ⟨j2, rfl, hj1, hj2, by rw [← unhideB EQu]; exact down_stop _ d' i2 j2 (.inl hle), unhideB RWu⟩
    case rest =>
      obtain ⟨j2, rfl, hj1, hj2, hdn, hrow3⟩ := hcut
      obtain ⟨W2, rfl⟩ : ∃ W2, W2 = wc := ⟨_, rfl⟩
      have RW3 := hideB hrow3; have DN := hideB hdn; clear hrow3 hdn
      have ES := hideB (show R = if i2 > j2 then (j2, true, Sort.swp d' j2 a) else ((Sort.partLoop ltN a (i2 + 1) (j2 - 1) (Sort.swp d' i2 j2)).1, false, Sort.swp (Sort.partLoop ltN a (i2 + 1) (j2 - 1) (Sort.swp d' i2 j2)).2 (Sort.partLoop ltN a (i2 + 1) (j2 - 1) (Sort.swp d' i2 j2)).1 a) by
        rw [unhideB HR]
        unfold Sort.partition
        simp only [← unhideB HD, unhideB UP, unhideB DN])
      by_cases hgt : i2 > j2
      · have hgt' : (j2 : Int) < i2 := by omega
        have HE := hideB (show R = (j2, true, Sort.swp d' j2 a) by rw [unhideB ES, if_pos hgt])
        go_wp2_with fail
        refine (swap_at (unhideB RW3) j2 a _ _ rfl rfl (by omega) (by omega)).mono ?_
        rintro e w4 ⟨rfl, hrow4, -⟩
        have RW4 := hideB hrow4; clear hrow4
        go_wp2_with fail
        go_ret2
        exact ⟨j2, true, _, rfl, unhideB HE, unhideB RW4⟩
      · have hgt' : ¬ ((j2 : Int) < i2) := by omega
        have hne : i2 ≠ j2 := scan_ne _ _ (fun x => by simp) d' (a + 1) (b - 1) i2 j2 (unhideB UP) (unhideB DN) (by omega) (by omega) (by omega)
        obtain ⟨P, hP⟩ : ∃ P, P = Sort.partLoop ltN a (i2 + 1) (j2 - 1) (Sort.swp d' i2 j2) := ⟨_, rfl⟩
        have HE := hideB (show R = (P.1, false, Sort.swp P.2 P.1 a) by rw [unhideB ES, if_neg hgt, hP])
        have HP := hideB hP; clear hP ES UP DN HR HD RW RW2
        go_wp2_with fail
        refine (swap_at (unhideB RW3) i2 j2 _ _ rfl rfl (by omega) (by omega)).mono ?_
        rintro e w4 ⟨rfl, hrow4, -⟩
        have RW4 := hideB hrow4; clear hrow4
        go_wp2_with fail
        go_loopw [10, 11] (fun iv jv wr => ∃ (i3 j3 : Nat) (d3 : Array Nat), iv = .int .i64 i3 ∧ jv = .int .i64 j3 ∧ a < i3 ∧ i3 ≤ j3 + 1 ∧ j3 < b ∧ Row w0 g n wr d3 ∧ P = Sort.partLoop ltN a i3 j3 d3) (fun iv jv _ => (intOf jv + 1 - intOf iv).toNat)
        case atStart => exact ⟨i2 + 1, j2 - 1, _, by simp, by simp; omega, by omega, by omega, by omega, unhideB RW4, unhideB HP⟩
        case round =>
          obtain ⟨i3, j3, d3, rfl, rfl, hai, hij, hjb, hrow, heq⟩ := hrel
          have RW5 := hideB hrow; have EQ := hideB heq; clear hrow heq HP RW4
          obtain ⟨W5, rfl⟩ : ∃ W5, W5 = wr := ⟨_, rfl⟩
          go_upto_block 6 with fail
          go_cut [10] (fun iv wx => ∃ i4 : Nat, iv = .int .i64 i4 ∧ i3 ≤ i4 ∧ i4 ≤ j3 + 1 ∧ Sort.scanUp (fun x => ltN x d3[a]!) d3 j3 i3 = i4 ∧ Row w0 g n wx d3)
          case first =>
            go_wp2_with fail
            go_loopw [10] (fun iv wr => ∃ i4 : Nat, iv = .int .i64 i4 ∧ i3 ≤ i4 ∧ i4 ≤ j3 + 1 ∧ Row w0 g n wr d3 ∧ Sort.scanUp (fun x => ltN x d3[a]!) d3 j3 i4 = Sort.scanUp (fun x => ltN x d3[a]!) d3 j3 i3) (fun iv _ => ((j3 : Int) + 1 - intOf iv).toNat)
            case atStart => exact ⟨i3, by simp <;> omega, by omega, by omega, unhideB RW5, rfl⟩
            case round =>
              obtain ⟨i4, rfl, hi5, hi6, hrow, heq⟩ := hrel
              have RWu := hideB hrow; have EQu := hideB heq; clear hrow heq
              by_cases hle : i4 ≤ j3
              · have hle' : (i4 : Int) ≤ j3 := by omega
                cases hb : ltN d3[i4]! d3[a]!
                · have HB := hideB hb; clear hb
                  go_wp2_with fail
                  refine (less_at (unhideB RWu) i4 a _ _ rfl rfl (by omega) (by omega) false (unhideB HB)).mono ?_
                  rintro e w' ⟨rfl, hrow2, -⟩
                  have RWv := hideB hrow2; clear hrow2
                  go_wp2_with fail
                  go_meet
                  case rel => exact ⟨i4, rfl, hi5, hi6, by rw [← unhideB EQu]; exact up_stop _ d3 j3 i4 (.inr (by have := unhideB HB; simp [this])), unhideB RWv⟩
                · have HB := hideB hb; clear hb
                  go_wp2_with fail
                  refine (less_at (unhideB RWu) i4 a _ _ rfl rfl (by omega) (by omega) true (unhideB HB)).mono ?_
                  rintro e w' ⟨rfl, hrow2, -⟩
                  have RWv := hideB hrow2; clear hrow2
                  go_wp2_with fail
                  refine ⟨⟨i4 + 1, by simp, by omega, by omega, unhideB RWv, ?_⟩, by simp [intOf]; omega⟩
                  rw [← unhideB EQu]
                  exact (up_go _ d3 j3 i4 hle (by have := unhideB HB; simp [this])).symm
              · have hle' : ¬ ((i4 : Int) ≤ j3) := by omega
                go_wp2_with fail
                go_meet
                case rel => exact ⟨i4, rfl, hi5, hi6, by rw [← unhideB EQu]; exact up_stop _ d3 j3 i4 (.inl hle), unhideB RWu⟩
          case rest =>
            obtain ⟨i4, rfl, hi5, hi6, hup, hrow2⟩ := hcut
            have RW6 := hideB hrow2; have UP := hideB hup; clear hrow2 hup
            obtain ⟨W6, rfl⟩ : ∃ W6, W6 = wc := ⟨_, rfl⟩
            go_upto_block 8 with fail
            go_cut [11] (fun jv wx => ∃ j4 : Nat, jv = .int .i64 j4 ∧ j4 ≤ j3 ∧ i4 ≤ j4 + 1 ∧ Sort.scanDown (fun x => !ltN x d3[a]!) d3 i4 j3 = j4 ∧ Row w0 g n wx d3)
            case first =>
              go_wp2_with fail
              go_loopw [11] (fun jv wr => ∃ j4 : Nat, jv = .int .i64 j4 ∧ j4 ≤ j3 ∧ i4 ≤ j4 + 1 ∧ Row w0 g n wr d3 ∧ Sort.scanDown (fun x => !ltN x d3[a]!) d3 i4 j4 = Sort.scanDown (fun x => !ltN x d3[a]!) d3 i4 j3) (fun jv _ => (intOf jv).toNat)
              case atStart => exact ⟨j3, by simp <;> omega, by omega, by omega, unhideB RW6, rfl⟩
              case round =>
                obtain ⟨j4, rfl, hj5, hj6, hrow, heq⟩ := hrel
                have RWu := hideB hrow; have EQu := hideB heq; clear hrow heq
                by_cases hle : i4 ≤ j4
                · have hle' : (i4 : Int) ≤ j4 := by omega
                  cases hb : ltN d3[j4]! d3[a]!
                  · have HB := hideB hb; clear hb
                    go_wp2_with fail
                    refine (less_at (unhideB RWu) j4 a _ _ rfl rfl (by omega) (by omega) false (unhideB HB)).mono ?_
                    rintro e w' ⟨rfl, hrow2, -⟩
                    have RWv := hideB hrow2; clear hrow2
                    go_wp2_with fail
                    refine ⟨⟨j4 - 1, by simp; omega, by omega, by omega, unhideB RWv, ?_⟩, by simp [intOf]; omega⟩
                    rw [← unhideB EQu]
                    exact (down_go _ d3 i4 j4 hle (by omega) (by have := unhideB HB; simp [this])).symm
                  · have HB := hideB hb; clear hb
                    go_wp2_with fail
                    refine (less_at (unhideB RWu) j4 a _ _ rfl rfl (by omega) (by omega) true (unhideB HB)).mono ?_
                    rintro e w' ⟨rfl, hrow2, -⟩
                    have RWv := hideB hrow2; clear hrow2
                    go_wp2_with fail
                    go_meet
                    case rel => exact ⟨j4, rfl, hj5, hj6, by rw [← unhideB EQu]; exact down_stop _ d3 i4 j4 (.inr (by have := unhideB HB; simp [this])), unhideB RWv⟩
                · have hle' : ¬ ((i4 : Int) ≤ j4) := by omega
                  go_wp2_with fail
                  go_meet
                  case rel => exact ⟨j4, rfl, hj5, hj6, by rw [← unhideB EQu]; exact down_stop _ d3 i4 j4 (.inl hle), unhideB RWu⟩
            case rest =>
              obtain ⟨j4, rfl, hj5, hj6, hdn, hrow3⟩ := hcut
              have RW7 := hideB hrow3; have DN := hideB hdn; clear hrow3 hdn
              have ES := hideB (show P = if i4 > j4 then (j4, d3) else Sort.partLoop ltN a (i4 + 1) (j4 - 1) (Sort.swp d3 i4 j4) by
                rw [unhideB EQ, Sort.partLoop_eq, unhideB UP, unhideB DN])
              by_cases hgt4 : i4 > j4
              · have hgt5 : (j4 : Int) < i4 := by omega
                have HQ := hideB (show P = (j4, d3) by rw [unhideB ES, if_pos hgt4])
                go_wp2_with fail
                refine (swap_at (unhideB RW7) j4 a _ _ rfl rfl (by omega) (by omega)).mono ?_
                rintro e w8 ⟨rfl, hrow8, -⟩
                have RW8 := hideB hrow8; clear hrow8
                go_wp2_with fail
                go_ret2
                refine ⟨j4, false, _, rfl, ?_, unhideB RW8⟩
                rw [unhideB HE, unhideB HQ]
              · have hgt5 : ¬ ((j4 : Int) < i4) := by omega
                have hne4 : i4 ≠ j4 := scan_ne _ _ (fun x => by simp) d3 i3 j3 i4 j4 (unhideB UP) (unhideB DN) (by omega) (by omega) (by omega)
                have HQ := hideB (show P = Sort.partLoop ltN a (i4 + 1) (j4 - 1) (Sort.swp d3 i4 j4) by rw [unhideB ES, if_neg hgt4])
                go_wp2_with fail
                refine (swap_at (unhideB RW7) i4 j4 _ _ rfl rfl (by omega) (by omega)).mono ?_
                rintro e w8 ⟨rfl, hrow8, -⟩
                have RW8 := hideB hrow8; clear hrow8
                go_wp2_with fail
                go_roundw
                case rel => exact ⟨i4 + 1, j4 - 1, _, by simp, by simp; omega, by omega, by omega, by omega, unhideB RW8, unhideB HQ⟩
                case measure => simp [intOf]; omega
end Go.Proofs.Ybulkqhs
