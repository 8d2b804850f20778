import Derived.Test.YbulkqhsB1
import Derived.Deep.RegionWith
namespace Go.Proofs.Ybulkqhs
open Go.RowKit
set_option linter.unusedVariables false
attribute [local go_sem ↓] exec_store34 exec_load34 exec_box34
attribute [local go_sem] run_box34

set_option maxRecDepth 100000 in
set_option maxHeartbeats 800000 in
theorem cmpIDs_any (b1 o1 k1 b2 o2 k2 : Nat) (w : World) (h1 : RA w b1 o1 k1) (h2 : RA w b2 o2 k2) :
    Calls Yba.prog 46 #[.pointer (some ⟨b1, o1 + 1, none⟩), .pointer (some ⟨b2, o2 + 1, none⟩)] w fun e w' =>
      e = .returned (.int .i64 (cmpN ((k1 % 2 ^ 256 : Nat) : Int) ((k2 % 2 ^ 256 : Nat) : Int))) ∧ Below w.heap.size w w' := by
  generalize hR : cmpN ((k1 % 2 ^ 256 : Nat) : Int) ((k2 % 2 ^ 256 : Nat) : Int) = R
  have HR := hideB hR; clear hR
  have H1 := hideB h1; have H2 := hideB h2; clear h1 h2
  go_enter Yba.func46, Yba.ntmps46
  go_wp2_with fail
  go_loopw [5] (fun iv wr => ∃ q : Nat, iv = .int .i64 (8 * (q : Int)) ∧ q ≤ 4 ∧ top k1 q = top k2 q ∧ ∃ p, wr = gr w p) (fun iv _ => (32 - intOf iv).toNat)
  case atStart => exact ⟨0, by simp, by omega, by rw [top_zero, top_zero], ⟨w.drawn, #[]⟩, by simp [gr]⟩
  case round =>
    obtain ⟨q, rfl, hq4, htop, p0, rfl⟩ := hrel
    have TP := hideB htop; clear htop
    by_cases hq : q < 4
    · have hlt : (8 * (q : Int)) < 32 := by omega
      have h0 : (0 : Int) ≤ 8 * (q : Int) := by omega
      have hle : (8 * (q : Int)) ≤ 32 := by omega
      have htn : (8 * (q : Int)).toNat = 8 * q := by omega
      have hne : ¬ (32 = 8 * q) := by omega
      have g1 := gr_RA (unhideB H1) p0; have g2 := gr_RA (unhideB H2) p0
      have G1 := hideB g1; have G2 := hideB g2; clear g1 g2
      have BL := hideB (gr_below w p0)
      generalize gr w p0 = W0 at G1 G2 BL ⊢
      by_cases hz : cmpN (hw k1 q) (hw k2 q) = 0
      · go_wp2_with fail
        refine wp_region_gr (by kernel_rfl) (by kernel_rfl) ?_
        repeat (quiet_step (first | (go_at_call_of 58 b1; refine Calls.gr_of (be_any b1 o1 k1 q hq (32 - 8 * q) (by omega) (32 - 8 * q) _ (gr_RA (unhideB G1) _))) | (go_at_call_of 58 b2; refine Calls.gr_of (be_any b2 o2 k2 q hq (32 - 8 * q) (by omega) (32 - 8 * q) _ (gr_RA (unhideB G2) _))) | (go_at_call 45; refine Calls.gr_same (cmp_any _ _ _))))
        refine wpQuiet_nil ?_
        intro w1 hw1
        obtain ⟨p1, rfl⟩ := hw1
        go_wp2_with fail
        go_roundw
        case rel => exact ⟨q + 1, by simp; omega, by omega, cmp_word0 hq (unhideB TP) hz, below_gr ((unhideB BL).trans ((gr_below W0 p1).mono (unhideB BL).size))⟩
        case measure => simp [intOf]; omega
      · have hR := (cmp_word hq (unhideB TP) hz).trans (unhideB HR)
        go_wp2_with fail
        refine wp_region_gr (by kernel_rfl) (by kernel_rfl) ?_
        repeat (quiet_step (first | (go_at_call_of 58 b1; refine Calls.gr_of (be_any b1 o1 k1 q hq (32 - 8 * q) (by omega) (32 - 8 * q) _ (gr_RA (unhideB G1) _))) | (go_at_call_of 58 b2; refine Calls.gr_of (be_any b2 o2 k2 q hq (32 - 8 * q) (by omega) (32 - 8 * q) _ (gr_RA (unhideB G2) _))) | (go_at_call 45; refine Calls.gr_same (cmp_any _ _ _))))
        refine wpQuiet_nil ?_
        intro w1 hw1
        obtain ⟨p1, rfl⟩ := hw1
        go_wp2_with fail
        go_ret
        exact ⟨rfl, (unhideB BL).trans ((gr_below W0 p1).mono (unhideB BL).size)⟩
    · have hq' : q = 4 := by omega
      subst hq'
      have hT := unhideB TP
      rw [top_four, top_four] at hT
      have hR := unhideB HR
      rw [hT, cmpN_eq] at hR
      subst hR
      go_wp2_with fail
      go_ret
      exact ⟨rfl, gr_below w p0⟩

theorem mod_key (k : Nat) : (k : Int) = 2 ^ 256 * ((k / 2 ^ 256 : Nat) : Int) + ((k % 2 ^ 256 : Nat) : Int) := by
  have := Nat.div_add_mod k (2 ^ 256)
  omega
theorem cmp_ts {x y : Nat} (h : cmpN ((x / 2 ^ 256 : Nat) : Int) ((y / 2 ^ 256 : Nat) : Int) ≠ 0) : cmpN ((x / 2 ^ 256 : Nat) : Int) ((y / 2 ^ 256 : Nat) : Int) = cmpN x y := by
  have mx := Nat.div_add_mod x (2 ^ 256); have my := Nat.div_add_mod y (2 ^ 256)
  have lx := Nat.mod_lt x (y := 2 ^ 256) (by decide); have ly := Nat.mod_lt y (y := 2 ^ 256) (by decide)
  rcases Int.lt_trichotomy ((x / 2 ^ 256 : Nat) : Int) ((y / 2 ^ 256 : Nat) : Int) with hl | hl | hl
  · rw [cmpN_lt hl, cmpN_lt (by omega)]
  · rw [hl, cmpN_eq] at h; exact absurd rfl h
  · rw [cmpN_gt hl, cmpN_gt (by omega)]
theorem cmp_ts0 {x y : Nat} (h : cmpN ((x / 2 ^ 256 : Nat) : Int) ((y / 2 ^ 256 : Nat) : Int) = 0) : cmpN ((x % 2 ^ 256 : Nat) : Int) ((y % 2 ^ 256 : Nat) : Int) = cmpN x y := by
  have mx := Nat.div_add_mod x (2 ^ 256); have my := Nat.div_add_mod y (2 ^ 256)
  have he : ((x / 2 ^ 256 : Nat) : Int) = ((y / 2 ^ 256 : Nat) : Int) := by
    rcases Int.lt_trichotomy ((x / 2 ^ 256 : Nat) : Int) ((y / 2 ^ 256 : Nat) : Int) with hl | hl | hl
    · rw [cmpN_lt hl] at h; cases h
    · exact hl
    · rw [cmpN_gt hl] at h; cases h
  rcases Int.lt_trichotomy ((x % 2 ^ 256 : Nat) : Int) ((y % 2 ^ 256 : Nat) : Int) with hl | hl | hl
  · rw [cmpN_lt hl, cmpN_lt (by omega)]
  · rw [hl, cmpN_eq, show x = y by omega, cmpN_eq]
  · rw [cmpN_gt hl, cmpN_gt (by omega)]

set_option maxRecDepth 100000 in
set_option maxHeartbeats 800000 in
theorem cmpRec_any (b1 o1 k1 b2 o2 k2 : Nat) (w : World) (h1 : RA w b1 o1 k1) (h2 : RA w b2 o2 k2) :
    Calls Yba.prog 27 #[.pointer (some ⟨b1, o1, none⟩), .pointer (some ⟨b2, o2, none⟩)] w fun e w' =>
      e = .returned (.int .i64 (cmpN k1 k2)) ∧ Below w.heap.size w w' := by
  have e1 : ∀ p, (gr w p).cell? ⟨b1, o1, none⟩ = some (.int .u64 ((k1 / 2 ^ 256 : Nat) : Int)) := fun p => gr_cell h1.ts p
  have e2 : ∀ p, (gr w p).cell? ⟨b2, o2, none⟩ = some (.int .u64 ((k2 / 2 ^ 256 : Nat) : Int)) := fun p => gr_cell h2.ts p
  generalize hR : cmpN (k1 : Int) (k2 : Int) = R
  generalize ht1 : ((k1 / 2 ^ 256 : Nat) : Int) = t1 at e1
  generalize ht2 : ((k2 / 2 ^ 256 : Nat) : Int) = t2 at e2
  have HR := hideB hR; have T1 := hideB ht1; have T2 := hideB ht2
  have H1 := hideB h1; have H2 := hideB h2
  clear hR ht1 ht2 h1 h2
  by_cases hz : cmpN t1 t2 = 0
  · have hz' : cmpN ((k1 / 2 ^ 256 : Nat) : Int) ((k2 / 2 ^ 256 : Nat) : Int) = 0 := by rw [unhideB T1, unhideB T2]; exact hz
    have CI := hideB ((cmp_ts0 hz').trans (unhideB HR)); clear hz'
    go_enter Yba.func27, Yba.ntmps27
    go_wp2_with fail
    refine wp_region_gr (by kernel_rfl) (by kernel_rfl) ?_
    repeat (quiet_step (first | (go_at_call 45; refine Calls.gr_same (cmp_any _ _ _))))
    refine wpQuiet_nil ?_
    intro w1 hw1
    obtain ⟨p1, rfl⟩ := hw1
    have g1 := gr_RA (unhideB H1) p1; have g2 := gr_RA (unhideB H2) p1
    have G1 := hideB g1; have G2 := hideB g2; clear g1 g2 e1 e2
    have BL := hideB (gr_below w p1)
    generalize gr w p1 = W0 at G1 G2 BL ⊢
    go_wp2_with fail
    refine wp_region_gr (by kernel_rfl) (by kernel_rfl) ?_
    have hC : ∀ p, Calls Yba.prog 46 #[.pointer (some ⟨b1, o1 + 1, none⟩), .pointer (some ⟨b2, o2 + 1, none⟩)] (gr W0 p) fun e w' => e = .returned (.int .i64 R) ∧ ∃ p : Gp, w' = gr W0 p := by
      intro p
      have := cmpIDs_any b1 o1 k1 b2 o2 k2 (gr W0 p) (gr_RA (unhideB G1) p) (gr_RA (unhideB G2) p)
      rw [unhideB CI] at this
      exact Calls.gr_of this
    repeat (quiet_step (first | (go_at_call 46; exact hC _)))
    refine wpQuiet_nil ?_
    intro w1 hw1
    obtain ⟨p2, rfl⟩ := hw1
    go_wp2_with fail
    go_ret
    exact ⟨rfl, (unhideB BL).trans ((gr_below W0 p2).mono (unhideB BL).size)⟩
  · have hz' : cmpN ((k1 / 2 ^ 256 : Nat) : Int) ((k2 / 2 ^ 256 : Nat) : Int) ≠ 0 := by rw [unhideB T1, unhideB T2]; exact hz
    have hR : cmpN t1 t2 = R := by rw [← unhideB T1, ← unhideB T2]; exact (cmp_ts hz').trans (unhideB HR)
    clear hz'
    rw [hR] at hz
    go_enter Yba.func27, Yba.ntmps27
    go_wp2_with fail
    refine wp_region_gr (by kernel_rfl) (by kernel_rfl) ?_
    repeat (quiet_step (first | (go_at_call 45; refine Calls.gr_same (cmp_any _ _ _))))
    refine wpQuiet_nil ?_
    intro w1 hw1
    obtain ⟨p1, rfl⟩ := hw1
    go_wp2_with fail
    go_ret
    exact ⟨rfl, gr_below w p1⟩

set_option maxRecDepth 100000 in
theorem compare_any (k1 k2 : Nat) (w : World) : Calls Yba.prog 13 #[rv k1, rv k2] w fun e w' => e = .returned (.int .i64 (cmpN k1 k2)) ∧ Below w.heap.size w w' := by
  have hC := cmpRec_any w.heap.size 0 k1 (w.heap.size + 1) 0 k2 ((w.alloc (.cells (rl k1).toArray 34)).alloc (.cells (rl k2).toArray 34)) ((RA_box w k1 34).alloc _) (by have := RA_box (w.alloc (.cells (rl k1).toArray 34)) k2 34; simpa using this)
  go_enter Yba.func13, Yba.ntmps13
  go_wp2_with fail
  refine hC.mono ?_
  rintro e w' ⟨rfl, hb⟩
  go_wp2_with fail
  go_ret
  exact ⟨rfl, (((Below.refl w.heap.size w).alloc (Nat.le_refl _) _).alloc (by simp) _).trans (hb.mono (by simp; omega))⟩
end Go.Proofs.Ybulkqhs
