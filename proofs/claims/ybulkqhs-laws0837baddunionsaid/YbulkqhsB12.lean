import Derived.Test.YbulkqhsB11
import Derived.Sort.LotD4
import Derived.Sort.LotB
import Derived.Sort.LotC
import Derived.Sort.LotD3
import Derived.Deep.Cut
namespace Go.Proofs.Ybulkqhs
open Go.RowKit
set_option linter.unusedVariables false

theorem swoN : Sort.SWO ltN where
  irrefl x := by simp [ltN]
  trans x y z h1 h2 := by simp only [ltN, decide_eq_true_eq] at *; omega
  ntrans x y z h1 h2 := by simp only [ltN, decide_eq_false_iff_not] at *; omega

/-- What a part sorted gives the whole. -/
def Ends (a b : Nat) (d : Array Nat) (a' b' : Nat) (dk : Array Nat) : Prop :=
  ∀ R, Sort.PermIn a' b' dk R → Sort.SortedIn ltN a' b' R → Sort.PermIn a b d R ∧ Sort.SortedIn ltN a b R

theorem Ends.perm {a b a' b' : Nat} {d dk d1 : Array Nat} (h : Ends a b d a' b' dk) (hp : Sort.PermIn a' b' dk d1) : Ends a b d a' b' d1 :=
  fun R h1 h2 => h R (Sort.permIn_trans _ _ _ _ _ hp h1) h2

set_option maxHeartbeats 6400000 in
set_option maxRecDepth 1000000 in
theorem pdq_any (w0 : World) (g n cap : Nat) (hn : n ≤ 1099511627776) : ∀ (N a b limit : Nat) (d : Array Nat) (w : World), b - a < N → Row w0 g n w d → a ≤ b → b ≤ n → limit ≤ 1099511627776 → Sort.Below ltN a b d →
    Calls Yba.prog 54 #[dv g n cap, .int .i64 a, .int .i64 b, .int .i64 limit] w fun e w' => e = .returned (.tuple #[]) ∧ ∃ d', Row w0 g n w' d' ∧ Sort.PermIn a b d d' ∧ Sort.SortedIn ltN a b d' := by
  intro N
  induction N with
  | zero => intro _ _ _ _ _ h; exact absurd h (Nat.not_lt_zero _)
  | succ N ih =>
    intro a b limit d w hN hRow hab hb hlimit hBel0
    have mL := fun v w n => method_own find_less 34 Yba.underlying123 v w n
    have IH := hideB ih
    have R0 := hideB hRow; have B0 := hideB hBel0
    clear ih hRow hBel0
    unfold dv
    go_enter Yba.func54, Yba.ntmps54
    go_wp2_with fail
    go_loopg [1, 2, 3, 8, 9] (b - a) (fun k s1 s2 s3 s8 s9 wr => ∃ (a' b' lim : Nat) (wb wp : Bool) (dk : Array Nat), s1 = .int .i64 a' ∧ s2 = .int .i64 b' ∧ s3 = .int .i64 lim ∧ s8 = .bool wb ∧ s9 = .bool wp ∧
      a' ≤ b' ∧ b' ≤ n ∧ b' - a' ≤ k ∧ k ≤ b - a ∧ lim ≤ limit ∧ Sort.Below ltN a' b' dk ∧ Row w0 g n wr dk ∧ Ends a b d a' b' dk)
    case atStart => exact ⟨a, b, limit, true, true, d, rfl, rfl, rfl, rfl, rfl, hab, hb, Nat.le_refl _, Nat.le_refl _, Nat.le_refl _, unhideB B0, unhideB R0, fun R h1 h2 => ⟨h1, h2⟩⟩
    case round =>
      obtain ⟨a', b', lim, wb, wp, dk, rfl, rfl, rfl, rfl, rfl, hab', hb', hk, hkN, hlim, hbel, hrow, hends⟩ := hrel
      have HB := hideB hbel; have HR := hideB hrow; have HE := hideB hends
      have hds : dk.size = n := hrow.size
      clear hbel hrow hends R0 B0
      by_cases h12 : b' - a' ≤ 12
      · have h12z : (b' : Int) - (a' : Int) ≤ 12 := by omega
        go_wp2_with fail
        refine (insertion_any (unhideB HR) a' b' hab' hb' hn).mono ?_
        rintro e w1 ⟨rfl, hr1⟩
        have HR1 := hideB hr1; clear hr1
        go_wp2_with fail
        (try simp only [Exit.inBlock, Exit.then]); refine bodyPost_ret (results_none rfl _ _ _) rfl ?_
        have hI := Sort.insertionSort_holds swoN dk a' b' hab' (by omega)
        exact ⟨rfl, _, unhideB HR1, unhideB HE _ hI.1 hI.2⟩
      · have h12z : ¬ ((b' : Int) - (a' : Int) ≤ 12) := by omega
        by_cases hl0 : lim = 0
        · subst hl0
          go_wp2_with fail
          refine (heap_any (unhideB HR) a' b' (by omega) hb' hn).mono ?_
          rintro e w1 ⟨rfl, hr1⟩
          have HR1 := hideB hr1; clear hr1
          go_wp2_with fail
          (try simp only [Exit.inBlock, Exit.then]); refine bodyPost_ret (results_none rfl _ _ _) rfl ?_
          have hI := Sort.heapSort_holds swoN dk a' b' hab' (by omega)
          exact ⟨rfl, _, unhideB HR1, unhideB HE _ hI.1 hI.2⟩
        · have hl0z : ¬ ((lim : Int) = 0) := by omega
          go_upto_if 35 with fail
          go_cut [3] from 19 (fun s3 wc => ∃ (lim1 : Nat) (d1 : Array Nat), s3 = .int .i64 lim1 ∧ lim1 ≤ limit ∧ Sort.PermIn a' b' dk d1 ∧ Row w0 g n wc d1)
          case first =>
            cases wb
            · go_wp2_with fail
              refine (break_any (unhideB HR) a' b' (by omega) hb' hn).mono ?_
              rintro e w1 ⟨rfl, d1, hr1, hp1⟩
              have HR1 := hideB hr1; have HP1 := hideB hp1; clear hr1 hp1
              go_wp2_with fail
              go_meet
              case rel => exact ⟨lim - 1, d1, by congr 1; omega, by omega, unhideB HP1, unhideB HR1⟩
            · go_wp2_with fail
              go_meet
              case rel => exact ⟨lim, dk, rfl, hlim, Sort.permIn_refl _ _ _, unhideB HR⟩
          case rest =>
            obtain ⟨lim1, d1, rfl, hlim1, hp1, hr1⟩ := hcut
            have HE1 := hideB ((unhideB HE).perm hp1)
            have HB1 := hideB ((unhideB HB).perm (by omega) hp1)
            have hds1 : d1.size = n := hr1.size
            have HR1 := hideB hr1
            clear hp1 hr1 HE HB HR hds
            go_upto_if 50 with (go_at_call 66; refine (pivot_any (unhideB HR1) a' b' (by omega) hb' hn).mono ?_; rintro e w2 ⟨p, q, rfl, hpk, hr2⟩)
            obtain ⟨pv0, rfl⟩ : ∃ pv0 : Nat, p = pv0 := ⟨p.toNat, by have := hpk.lo; omega⟩
            have hlo0 : a' ≤ pv0 := by have := hpk.lo; omega
            have hhi0 : pv0 < b' := by have := hpk.hi; omega
            have hq := hpk.hint
            have HR2 := hideB hr2
            clear hpk hr2 HR1
            go_cut [11, 12] from 19 (fun s11 s12 wc => ∃ (pv : Nat) (ht : Int) (d2 : Array Nat), s11 = .int .i64 pv ∧ s12 = .int .i64 ht ∧ (ht = 0 ∨ ht = 1) ∧ a' ≤ pv ∧ pv < b' ∧ Sort.PermIn a' b' d1 d2 ∧ Row w0 g n wc d2)
            case first =>
              by_cases hq2 : q = 2
              · subst hq2
                go_wp2_with fail
                refine (reverse_any (unhideB HR2) a' b' (by omega) hb' hn).mono ?_
                rintro e w3 ⟨rfl, hr3⟩
                have HR3 := hideB hr3; clear hr3
                go_wp2_with fail
                go_meet
                case rel => exact ⟨b' - 1 - (pv0 - a'), 1, _, by congr 1; omega, rfl, .inr rfl, by omega, by omega, Sort.reverseRange_holds d1 a' b' hab' (by omega), unhideB HR3⟩
              · go_wp2_with fail
                go_meet
                case rel => exact ⟨pv0, q, d1, rfl, rfl, by omega, hlo0, hhi0, Sort.permIn_refl _ _ _, unhideB HR2⟩
            case rest =>
              obtain ⟨pv, ht, d2, rfl, rfl, hht, hlo, hhi, hp2, hr2⟩ := hcut
              have HE2 := hideB ((unhideB HE1).perm hp2)
              have HB2 := hideB ((unhideB HB1).perm (by omega) hp2)
              have hds2 : d2.size = n := hr2.size
              have HR2 := hideB hr2
              clear hp2 hr2 HE1 HB1 hds1 hq hlo0 hhi0
              go_upto_region 15 with fail
              go_cut [68] from 19 (fun s68 wx => ∃ t : Bool, s68 = .bool t ∧ wx = wc)
              case first =>
                rcases hht with rfl | rfl <;> cases wb <;> cases wp <;>
                  (go_wp2_with fail
                   go_meet
                   exact ⟨_, rfl, rfl⟩)
              case rest =>
                obtain ⟨t, rfl, rfl⟩ := hcut
                go_upto_if 68 with fail
                go_cut [] from 19 (fun wx => ∃ d3 : Array Nat, Sort.PermIn a' b' d2 d3 ∧ Row w0 g n wx d3)
                case first =>
                  cases t
                  · go_wp2_with fail
                    go_meet
                    case rel => exact ⟨d2, Sort.permIn_refl _ _ _, unhideB HR2⟩
                  · have hP := Sort.partialInsertionSort_holds swoN d2 a' b' (by omega) (by omega) (unhideB HB2)
                    have HPP := hideB hP
                    clear hP
                    cases hpi : (Sort.partialInsertionSort ltN d2 a' b').2
                    · have HPI := hideB hpi; clear hpi
                      go_wp2_with fail
                      refine (partial_any (unhideB HR2) a' b' (by omega) hb' hn).mono ?_
                      rw [unhideB HPI]
                      rintro e w4 ⟨rfl, hr4⟩
                      have HR4 := hideB hr4; clear hr4
                      go_wp2_with fail
                      go_meet
                      case rel => exact ⟨_, (unhideB HPP).1, unhideB HR4⟩
                    · have HPI := hideB hpi; clear hpi
                      go_wp2_with fail
                      refine (partial_any (unhideB HR2) a' b' (by omega) hb' hn).mono ?_
                      rw [unhideB HPI]
                      rintro e w4 ⟨rfl, hr4⟩
                      have HR4 := hideB hr4; clear hr4
                      go_wp2_with fail
                      (try simp only [Exit.inBlock, Exit.then]); refine bodyPost_ret (results_none rfl _ _ _) rfl ?_
                      exact ⟨rfl, _, unhideB HR4, unhideB HE2 _ (unhideB HPP).1 ((unhideB HPP).2 (unhideB HPI))⟩
                case rest =>
                  obtain ⟨d3, hp3, hr3⟩ := hcut
                  have HE3 := hideB ((unhideB HE2).perm hp3)
                  have HB3 := hideB ((unhideB HB2).perm (by omega) hp3)
                  have hds3 : d3.size = n := hr3.size
                  have HR3 := hideB hr3
                  clear hp3 hr3 HE2 HB2 hds2 HR2
                  go_upto_region 17 with fail
                  go_cut [82] from 19 (fun s82 wx => ∃ t : Bool, s82 = .bool t ∧ (t = true → 0 < a' ∧ ltN d3[a' - 1]! d3[pv]! = false) ∧ Row w0 g n wx d3)
                  case first =>
                    rcases Nat.eq_zero_or_pos a' with ha0 | ha0
                    · subst ha0
                      go_wp2_with fail
                      go_meet
                      case rel => exact ⟨false, rfl, by simp, unhideB HR3⟩
                    · have ha0z : (a' : Int) > 0 := by omega
                      cases hlt : ltN d3[a' - 1]! d3[pv]!
                      · have HLT := hideB hlt; clear hlt
                        go_wp2_with fail
                        refine (less_at (unhideB HR3) (a' - 1) pv _ _ (by omega) rfl (by omega) (by omega) false (unhideB HLT)).mono ?_
                        rintro e w' ⟨rfl, hrow2, -⟩
                        have HR4 := hideB hrow2; clear hrow2
                        go_wp2_with fail
                        go_meet
                        case rel => exact ⟨true, rfl, fun _ => ⟨ha0, unhideB HLT⟩, unhideB HR4⟩
                      · have HLT := hideB hlt; clear hlt
                        go_wp2_with fail
                        refine (less_at (unhideB HR3) (a' - 1) pv _ _ (by omega) rfl (by omega) (by omega) true (unhideB HLT)).mono ?_
                        rintro e w' ⟨rfl, hrow2, -⟩
                        have HR4 := hideB hrow2; clear hrow2
                        go_wp2_with fail
                        go_meet
                        case rel => exact ⟨false, rfl, by simp, unhideB HR4⟩
                  case rest =>
                    obtain ⟨t, rfl, ht2, hr4⟩ := hcut
                    have HR4 := hideB hr4; clear hr4 HR3
                    cases t
                    · clear ht2
                      go_wp2_with (go_at_call 70; refine (part_any (unhideB HR4) a' b' pv (by omega) hb' hn hlo hhi).mono ?_; rintro e w7 ⟨mid, ap, d4, rfl, hx, hr7⟩; have HR7 := hideB hr7; have HX := hideB hx; obtain ⟨r1, r2, r3, r4, r5, r6, r7⟩ := Sort.round_part swoN (Sort.partition_holds ltN) hlo hhi (show b' ≤ d3.size by omega) (unhideB HB3) hx; have HR4a := hideB r4; have HR5a := hideB r5; have HR6a := hideB r6; have HR7a := hideB r7; clear hr7 hx r3 r4 r5 r6 r7)
                      · have hI := unhideB IH a' mid lim1 d4 w7 (by omega) (unhideB HR7) r1 (by omega) (by omega) (unhideB HR4a)
                        unfold dv at hI
                        refine hI.mono ?_
                        rintro e w8 ⟨rfl, dL, hr8, hpL, hsL⟩
                        obtain ⟨q1, q2⟩ := unhideB HR6a dL hpL hsL
                        have HR8 := hideB hr8; have HQ1 := hideB q1; have HQ2 := hideB q2; clear hr8 hpL hsL q1 q2 hI
                        go_wp2_with fail
                        go_roundg (b' - (mid + 1))
                        case measure => omega
                        case rel =>
                          exact ⟨mid + 1, b', lim1, _, ap, dL, by congr 1, rfl, rfl, rfl, rfl, by omega, hb', Nat.le_refl _, by omega, hlim1, unhideB HQ1, unhideB HR8, fun R h1 h2 => unhideB HE3 R (unhideB HQ2 R h1 h2).1 (unhideB HQ2 R h1 h2).2⟩
                      · have hI := unhideB IH (mid + 1) b' lim1 d4 w7 (by omega) (unhideB HR7) (by omega) (by omega) (by omega) (unhideB HR5a)
                        unfold dv at hI
                        rw [show (((mid + 1 : Nat)) : Int) = (mid : Int) + 1 by omega] at hI
                        refine hI.mono ?_
                        rintro e w8 ⟨rfl, dL, hr8, hpL, hsL⟩
                        obtain ⟨q1, q2⟩ := unhideB HR7a dL hpL hsL
                        have HR8 := hideB hr8; have HQ1 := hideB q1; have HQ2 := hideB q2; clear hr8 hpL hsL q1 q2 hI
                        go_wp2_with fail
                        go_roundg (mid - a')
                        case measure => omega
                        case rel =>
                          exact ⟨a', mid, lim1, _, ap, dL, rfl, rfl, rfl, rfl, rfl, by omega, by omega, Nat.le_refl _, by omega, hlim1, unhideB HQ1, unhideB HR8, fun R h1 h2 => unhideB HE3 R (unhideB HQ2 R h1 h2).1 (unhideB HQ2 R h1 h2).2⟩
                    · obtain ⟨ha0, hnl⟩ := ht2 rfl
                      have HNL := hideB hnl; clear hnl ht2
                      obtain ⟨mid, d4, hx⟩ : ∃ mid d4, Sort.partitionEqual ltN d3 a' b' pv = (mid, d4) := ⟨_, _, rfl⟩
                      obtain ⟨r1, r2, r3, r4, r5⟩ := Sort.round_eq swoN (Sort.partitionEqual_holds ltN) ha0 hlo hhi (show b' ≤ d3.size by omega) (unhideB HB3) (unhideB HNL) hx
                      have HX := hideB hx; have HR4a := hideB r4; have HR5a := hideB r5
                      clear hx r3 r4 r5
                      go_wp2_with fail
                      refine (partEq_any (unhideB HR4) a' b' pv (by omega) hb' hn hlo hhi).mono ?_
                      rw [unhideB HX]
                      rintro e w7 ⟨rfl, hr7⟩
                      have HR7 := hideB hr7; clear hr7
                      go_wp2_with fail
                      go_roundg (b' - mid)
                      case measure => omega
                      case rel =>
                        exact ⟨mid, b', lim1, wb, wp, d4, rfl, rfl, rfl, rfl, rfl, r2, hb', Nat.le_refl _, by omega, hlim1, unhideB HR4a, unhideB HR7, fun R h1 h2 => unhideB HE3 R (unhideB HR5a R h1 h2).1 (unhideB HR5a R h1 h2).2⟩
end Go.Proofs.Ybulkqhs
