import Derived.Test.YbulkqhsB40
namespace Go.Proofs.Ybulkqhs
open Go.RowKit
set_option linter.unusedVariables false
set_option linter.unusedSimpArgs false

/-! ### A loop variable of record type: laid, then written. -/
def exAlloc34 : Sem Next := do pure (.value (← Instr.alloc 34 true (.tuple #[])))
theorem exec_alloc34 (ρ : Operand → Value) (dst : Option Tmp) (ty : TypeId) (pos : String) (after : Array Edge) (guard : Option (Nat × Bool)) :
    execOp ρ { dst := dst, op := Op.alloc 34, type := ty, pos := pos, after := after, guard := guard } = exAlloc34 := rfl
theorem run_alloc34 (w : World) : exAlloc34.run Yba.prog w = .ok (.value (.pointer (some ⟨w.heap.size, 0, none⟩))) (w.alloc (.cells (rl 0).toArray 34)) := by
  unfold exAlloc34 Instr.alloc
  simp only [Sem.run_bind, zero34, Result.andThen_ok]
  rfl
def boxW (w : World) (k : Nat) : World := (w.alloc (.cells (rl 0).toArray 34)).setCells w.heap.size 0 (rl k)
theorem box_there (w : World) : (w.alloc (.cells (rl 0).toArray 34)).there w.heap.size 0 33 := by
  exact (RA_box w 0 34).there fun o => freeB (heap_alloc_new w _)
theorem run_store_new (w : World) (k : Nat) : (exStore34 (.pointer (some ⟨w.heap.size, 0, none⟩)) (rv k)).run Yba.prog (w.alloc (.cells (rl 0).toArray 34)) = .ok .skip (boxW w k) := run_store34 k (box_there w)
theorem boxW_RA (w : World) (k : Nat) : RA (boxW w k) w.heap.size 0 k := World.rangeAt_setCells_same _ _ _ (rl k) (by rw [rl_len]; exact box_there w)
theorem run_load_new (w : World) (k : Nat) : (exLoad34 (.pointer (some ⟨w.heap.size, 0, none⟩))).run Yba.prog (boxW w k) = .ok (.value (rv k)) (boxW w k) := run_load34 (boxW_RA w k)
theorem boxW_below (w : World) (k : Nat) : Below w.heap.size w (boxW w k) := by
  have h1 : Below w.heap.size w (w.alloc (.cells (rl 0).toArray 34)) := (Below.refl _ w).alloc (Nat.le_refl _) _
  have h2 := Turn.setCells w.heap.size (w.alloc (.cells (rl 0).toArray 34)) 0 (rl k)
  exact h1.trans ⟨h2.os, h2.tape, h2.output, h2.size, fun k hk => h2.block k (Nat.lt_of_lt_of_le hk h1.size) (by omega)⟩

attribute [local go_sem ↓] exec_store34 exec_load34 exec_box34 exec_build78 exec_box78 exec_load70 exec_alloc34
attribute [local go_sem] run_box34 run_box78 eql34_run neq34_run guard34 eqNil71 guard70 run_alloc34 run_store_new run_load_new

theorem mem_get {xs : List Nat} {i : Nat} (hi : i < xs.length) : xs[i]! ∈ xs := by
  rw [getElem!_pos xs i hi]; exact List.getElem_mem _
theorem asc_get {zs : List Nat} (h : zs.Pairwise (· < ·)) {i j : Nat} (hij : i < j) (hj : j < zs.length) : zs[i]! < zs[j]! := by
  rw [getElem!_pos zs i (by omega), getElem!_pos zs j hj]
  exact List.pairwise_iff_getElem.1 h i j (by omega) hj hij

set_option maxRecDepth 100000 in
set_option maxHeartbeats 2000000 in
theorem law4 {w : World} {va vb : Value} {xs ys : List Nat} (ha : RS w va xs) (hb : RS w vb ys) (hx : xs.length ≤ 1024) (hy : ys.length ≤ 1024) :
    Calls Yba.prog 4 #[va, vb] w fun e w' => e = .returned (.bool true) ∧ Below w.heap.size w w' := by
  obtain ⟨pa, ca, rfl, hra⟩ := ha.ro
  obtain ⟨pb, cb, rfl, hrb⟩ := hb.ro
  obtain ⟨n, hn⟩ : ∃ n, n = xs.length := ⟨_, rfl⟩
  obtain ⟨m, hm⟩ : ∃ m, m = ys.length := ⟨_, rfl⟩
  have HCA := hideB (clone_any ha (by omega))
  have HVB := hideB hb
  have HRA := hideB hra; have HRB := hideB hrb
  rw [← hn] at hx HCA
  rw [← hm] at hy HVB
  rw [← hn, ← hm]
  have HN := hideB hn; have HM := hideB hm
  clear ha hb hra hrb hn hm
  have hn1 : ¬ ((1024 : Int) < n) := by omega
  have hm1 : ¬ ((1024 : Int) < m) := by omega
  go_enter Yba.func4, Yba.ntmps4
  go_wp2_with fail
  refine (unhideB HCA).mono ?_
  rintro e w1 ⟨ac, rfl, hown1, hb1⟩
  have HNS := hideB (newSet_any hown1 hb1.size (by rw [← unhideB HN]; omega))
  have HB1 := hideB hb1
  clear hown1 hb1
  go_wp2_with fail
  refine (unhideB HNS).mono ?_
  rintro e w2 ⟨s, ks, rfl, hset, hkm, hkl, hb2⟩
  have HB02 := hideB ((unhideB HB1).trans hb2)
  obtain ⟨p1, d1, hcs, hnd1, hsm1, hbk1⟩ := hset.sum
  rw [← unhideB HN] at hkl
  have HC1 := hideB (colNil hnd1 (by omega) (Below.refl _ w2))
  have HSET := hideB hset; have HKM := hideB hkm; have HKL := hideB hkl; have HND1 := hideB hnd1; have HBK1 := hideB hbk1; have HCS := hideB hcs
  have hsl := hset.lt
  clear hset hkm hkl hb2 hnd1 hsm1 hbk1
  go_wp2_with fail
  refine (unhideB HC1).mono ?_
  rintro e w3 ⟨bef, rfl, hbef, hb3⟩
  have hb03 : Below w.heap.size w w3 := (unhideB HB02).trans (hb3.mono (unhideB HB02).size)
  have HCLB := hideB (clone_any ((unhideB HVB).later hb03) (by rw [← unhideB HM]; omega))
  obtain ⟨pf, cf, rfl, hrf⟩ := hbef.ro
  obtain ⟨f, hf⟩ : ∃ f, f = ks.length := ⟨_, rfl⟩
  rw [← hf]
  have HF := hideB hf
  have HB3 := hideB hb3; have HRF := hideB hrf; have HB03 := hideB hb03
  clear hb3 hrf hb03 hbef hcs hf
  go_wp2_with fail
  refine (unhideB HCLB).mono ?_
  rintro e w4 ⟨bc, rfl, hown4, hb4⟩
  have hb24 : Below w2.heap.size w2 w4 := (unhideB HB3).trans (hb4.mono (unhideB HB3).size)
  have HADD := hideB (addSet_any ((unhideB HSET).later hb24) hown4.rs (by have := unhideB HKL; rw [← unhideB HM]; omega))
  have HB04 := hideB ((unhideB HB03).trans (hb4.mono (unhideB HB03).size))
  have HB34 := hideB hb4; have HB24 := hideB hb24
  clear hown4 hb4 hb24
  go_wp2_with fail
  refine (unhideB HADD).mono ?_
  rintro e w5 ⟨t, zs, rfl, hset5, hzm, hzl, hb5, hz1, hz2⟩
  have hb25 : Below w2.heap.size w2 w5 := (unhideB HB24).trans (hb5.mono (unhideB HB24).size)
  have hcs5 : w5.cell? ⟨s, 0, none⟩ = some (.pointer (some ⟨p1, 0, none⟩)) := (World.cell?_of_block (a := ⟨s, 0, none⟩) (hb25.block s hsl)).trans (unhideB HCS)
  have HC5 := hideB (colNil (unhideB HND1) (by have := unhideB HKL; omega) hb25)
  have HB05 := hideB ((unhideB HB04).trans (hb5.mono (unhideB HB04).size))
  have HB35 := hideB ((unhideB HB34).trans (hb5.mono (unhideB HB34).size))
  have HSET5 := hideB hset5; have HZM := hideB hzm; have HZL := hideB hzl; have HZ1 := hideB hz1; have HZ2 := hideB hz2; have HB25 := hideB hb25
  clear hset5 hzm hzl hb5 hz1 hz2 hb25
  go_wp2_with fail
  refine (unhideB HC5).mono ?_
  rintro e w6 ⟨aft, rfl, haft, hb6⟩
  have hb36 : Below w3.heap.size w3 w6 := (unhideB HB35).trans (hb6.mono (unhideB HB35).size)
  obtain ⟨pt, ct, rfl, hrt⟩ := haft.ro
  have hE : Calls Yba.prog 12 #[.slice pf f cf, .slice pt f ct] w6 fun e w' => e = .returned (.bool true) ∧ Below w6.heap.size w6 w' := by
    have h := equalR_any (c1 := cf) (c2 := ct) ((unhideB HRF).later hb36) hrt (by have := unhideB HKL; omega) (by have := unhideB HKL; omega)
    rwa [show decide (ks = ks) = true by simp, ← unhideB HF] at h
  have HE := hideB hE
  rw [← unhideB HF]
  have HB56 := hideB hb6
  clear hE hb36 hrt haft hb6 hcs5
  go_wp2_with fail
  refine (unhideB HE).mono ?_
  rintro e w7 ⟨rfl, hb7⟩
  have hb57 : Below w5.heap.size w5 w7 := (unhideB HB56).trans (hb7.mono (unhideB HB56).size)
  obtain ⟨p2, d2, hct5, hnd2, hsm2, hbk2⟩ := (unhideB HSET5).sum
  have htl := (unhideB HSET5).lt
  have hct : w7.cell? ⟨t, 0, none⟩ = some (.pointer (some ⟨p2, 0, none⟩)) := (World.cell?_of_block (a := ⟨t, 0, none⟩) (hb57.block t htl)).trans hct5
  have hzl2 : zs.length ≤ 2048 := by have h1 := unhideB HZL; have h2 := unhideB HKL; rw [← unhideB HM] at h1; omega
  have HC7 := hideB (colNil hnd2 (by omega) hb57)
  have HCT5 := hideB hct5; have HND2 := hideB hnd2; have HBK2 := hideB hbk2; have HB57 := hideB hb57
  clear hb7 hb57 hct5 hnd2 hsm2 hbk2
  go_wp2_with fail
  refine (unhideB HC7).mono ?_
  rintro e W0 ⟨got, rfl, hgot, hb8⟩
  have hb5W : Below w5.heap.size w5 W0 := (unhideB HB57).trans (hb8.mono (unhideB HB57).size)
  have hb0W : Below w.heap.size w W0 := (unhideB HB05).trans (hb5W.mono (unhideB HB05).size)
  have hb3W : Below w3.heap.size w3 W0 := (unhideB HB35).trans (hb5W.mono (unhideB HB35).size)
  have hb2W : Below w2.heap.size w2 W0 := (unhideB HB25).trans (hb5W.mono (unhideB HB25).size)
  have hss : s < w4.heap.size := Nat.lt_of_lt_of_le hsl (unhideB HB24).size
  obtain ⟨pg, cg, rfl, hrg⟩ := hgot.ro
  obtain ⟨g, hg⟩ : ∃ g, g = zs.length := ⟨_, rfl⟩
  have hCG : ∀ W k, Below W0.heap.size W0 W → Calls Yba.prog 14 #[.slice pg g cg, rv k] W fun e w' => e = .returned (.bool (decide (k ∈ zs))) ∧ Below W.heap.size W w' := by
    intro W k hW
    have h := contains_any (c := cg) (k := k) (hrg.later hW) (by omega)
    rwa [← hg] at h
  have hCA : ∀ W k, Below W0.heap.size W0 W → Calls Yba.prog 14 #[.slice pa n ca, rv k] W fun e w' => e = .returned (.bool (decide (k ∈ xs))) ∧ Below W.heap.size W w' := by
    intro W k hW
    have h := contains_any (c := ca) (k := k) (((unhideB HRA).later hb0W).later hW) (by rw [← unhideB HN]; omega)
    rwa [← unhideB HN] at h
  have hCB : ∀ W k, Below W0.heap.size W0 W → Calls Yba.prog 14 #[.slice pb m cb, rv k] W fun e w' => e = .returned (.bool (decide (k ∈ ys))) ∧ Below W.heap.size W w' := by
    intro W k hW
    have h := contains_any (c := cb) (k := k) (((unhideB HRB).later hb0W).later hW) (by rw [← unhideB HM]; omega)
    rwa [← unhideB HM] at h
  have hCF : ∀ W k, Below W0.heap.size W0 W → Calls Yba.prog 14 #[.slice pf f cf, rv k] W fun e w' => e = .returned (.bool (decide (k ∈ ks))) ∧ Below W.heap.size W w' := by
    intro W k hW
    have h := contains_any (c := cf) (k := k) (((unhideB HRF).later hb3W).later hW) (by have := unhideB HKL; omega)
    rwa [← unhideB HF] at h
  have hSum : ∀ W, Below W0.heap.size W0 W → Calls Yba.prog 15 #[.slice pg g cg] W fun e w' => e = .returned (sv (sumN zs) g) ∧ Below W.heap.size W w' := by
    intro W hW
    have h := sumOf_any (hgot.later hW) (by omega)
    rwa [← hg] at h
  have HCG := hideB hCG; have HCA0 := hideB hCA; have HCB := hideB hCB; have HCF := hideB hCF; have HSUM := hideB hSum
  have HA0 := hideB ((unhideB HRA).later hb0W); have HB0 := hideB ((unhideB HRB).later hb0W); have HG0 := hideB hrg
  have HBW := hideB hb0W; have HB5W := hideB hb5W; have HB2W := hideB hb2W
  rw [← hg] at hzl2 ⊢
  have HG := hideB hg
  clear hCG hCA hCB hCF hSum hb5W hb0W hb3W hb2W hrg hgot hb8 hct hg
  clear HCA HNS HB1 HB02 HC1 HCLB HB3 HB03 HADD HB04 HB34 HC5 HB05 HB35 HE HB56 HC7
  go_wp2_with fail
  go_loopw [10] (fun s10 wr => ∃ i j : Nat, s10 = .int .i64 i ∧ i = j + 1 ∧ (j < g ∨ j = 0) ∧ Below W0.heap.size W0 wr) (fun s10 _ => g + 1 - (intOf s10).toNat)
  case atStart => exact ⟨1, 0, by simp, rfl, .inr rfl, Below.refl _ _⟩
  case round =>
    obtain ⟨i, j, rfl, hij, hjg, hbel⟩ := hrel
    have HBL := hideB hbel
    have hi0 : i ≤ 2049 := by omega
    by_cases hlt : i < g
    · have hlt' : (i : Int) < g := by omega
      have hji : (i : Int) - 1 = j := by omega
      have hwj : IntKind.i64.wrap (j : Int) = j := wrapN j (by omega)
      have hjl : j < g := by omega
      have hjl' : (j : Int) < g := by omega
      obtain ⟨b, o, e1, r1⟩ := ((unhideB HG0).later hbel).at j (by rw [← unhideB HG]; omega)
      obtain ⟨b', o', e2, r2⟩ := ((unhideB HG0).later hbel).at i (by rw [← unhideB HG]; omega)
      subst e1
      simp only [Option.some.injEq, Addr.mk.injEq, and_true] at e2
      obtain ⟨rfl, rfl⟩ := e2
      have hxy := asc_get (unhideB HSET5).asc (show j < i by omega) (show i < zs.length by rw [← unhideB HG]; exact hlt)
      obtain ⟨x, hx⟩ : ∃ x, x = zs[j]! := ⟨_, rfl⟩
      obtain ⟨y, hy⟩ : ∃ y, y = zs[i]! := ⟨_, rfl⟩
      rw [← hx] at r1 hxy
      rw [← hy] at r2 hxy
      have HCMP := hideB (fun W => compare_any x y W)
      rw [cmpN_lt (show (x : Int) < y by omega)] at HCMP
      have g1 : ∀ p', (exLoad34 (.pointer (some ⟨b, o + j * 33, none⟩))).run Yba.prog (gr wr p') = .ok (.value (rv x)) (gr wr p') := fun p' => run_load34 (gr_RA r1 p')
      have g2 : ∀ p', (exLoad34 (.pointer (some ⟨b, o + i * 33, none⟩))).run Yba.prog (gr wr p') = .ok (.value (rv y)) (gr wr p') := fun p' => run_load34 (gr_RA r2 p')
      clear hij hbel r1 r2 hx hy hxy hjg
      go_wp2_with fail
      refine wp_region_gr (by kernel_rfl) (by kernel_rfl) ?_
      repeat (quiet_step (first | (go_at_call 13; refine Calls.gr_of (unhideB HCMP _))))
      refine wpQuiet_nil ?_
      intro w8 hw8
      obtain ⟨p8, rfl⟩ := hw8
      go_wp2_with fail
      exact ⟨⟨i + 1, i, by simp, rfl, .inl hlt, (unhideB HBL).trans ((gr_below wr p8).mono (unhideB HBL).size)⟩, by simp [intOf]; omega⟩
    have hlt' : ¬ ((i : Int) < g) := by omega
    clear hij hjg hbel
    obtain ⟨V1, rfl⟩ : ∃ V, V = wr := ⟨_, rfl⟩
    go_wp2_with fail
    clear hlt hlt' hi0
    go_loopw [73] (fun s73 wr => ∃ i : Nat, s73 = .int .i64 i ∧ i ≤ n ∧ Below W0.heap.size W0 wr) (fun s73 _ => n - (intOf s73).toNat)
    case atStart => exact ⟨0, rfl, by omega, unhideB HBL⟩
    case round =>
      clear HBL
      obtain ⟨i2, rfl, hin, hbel⟩ := hrel
      have HBL := hideB hbel
      by_cases hlt : i2 < n
      · have hlt' : (i2 : Int) < n := by omega
        obtain ⟨b, o, rfl, r1⟩ := ((unhideB HA0).later hbel).at i2 (by rw [← unhideB HN]; exact hlt)
        have hmem := mem_get (xs := xs) (i := i2) (by rw [← unhideB HN]; exact hlt)
        obtain ⟨x, hx⟩ : ∃ x, x = xs[i2]! := ⟨_, rfl⟩
        rw [← hx] at r1 hmem
        have l1 := run_load34 r1
        have hC := unhideB HCG (boxW wr x) x (hbel.trans ((boxW_below wr x).mono hbel.size))
        rw [decide_eq_true ((unhideB HZM x).2 (.inl ((unhideB HKM x).2 hmem)))] at hC
        have HC := hideB hC
        clear hC hbel r1 hmem hx
        go_wp2_with fail
        refine (unhideB HC).mono ?_
        rintro e w' ⟨rfl, hb'⟩
        have HB' := hideB hb'
        clear hb' l1
        go_wp2_with fail
        exact ⟨⟨i2 + 1, by simp, by omega, ((unhideB HBL).trans ((boxW_below wr x).mono (unhideB HBL).size)).trans ((unhideB HB').mono (Nat.le_trans (unhideB HBL).size (boxW_below wr x).size))⟩, by simp [intOf]; omega⟩
      have hlt' : ¬ ((i2 : Int) < n) := by omega
      clear hbel
      obtain ⟨V2, rfl⟩ : ∃ V, V = wr := ⟨_, rfl⟩
      go_wp2_with fail
      clear hlt hlt' hin
      go_loopw [84] (fun s84 wr => ∃ i : Nat, s84 = .int .i64 i ∧ i ≤ m ∧ Below W0.heap.size W0 wr) (fun s84 _ => m - (intOf s84).toNat)
      case atStart => exact ⟨0, rfl, by omega, unhideB HBL⟩
      case round =>
        clear HBL
        obtain ⟨i3, rfl, hin, hbel⟩ := hrel
        have HBL := hideB hbel
        by_cases hlt : i3 < m
        · have hlt' : (i3 : Int) < m := by omega
          obtain ⟨b, o, rfl, r1⟩ := ((unhideB HB0).later hbel).at i3 (by rw [← unhideB HM]; exact hlt)
          have hmem := mem_get (xs := ys) (i := i3) (by rw [← unhideB HM]; exact hlt)
          obtain ⟨x, hx⟩ : ∃ x, x = ys[i3]! := ⟨_, rfl⟩
          rw [← hx] at r1 hmem
          have l1 := run_load34 r1
          have hC := unhideB HCG (boxW wr x) x (hbel.trans ((boxW_below wr x).mono hbel.size))
          rw [decide_eq_true ((unhideB HZM x).2 (.inr hmem))] at hC
          have HC := hideB hC
          clear hC hbel r1 hmem hx
          go_wp2_with fail
          refine (unhideB HC).mono ?_
          rintro e w' ⟨rfl, hb'⟩
          have HB' := hideB hb'
          clear hb' l1
          go_wp2_with fail
          exact ⟨⟨i3 + 1, by simp, by omega, ((unhideB HBL).trans ((boxW_below wr x).mono (unhideB HBL).size)).trans ((unhideB HB').mono (Nat.le_trans (unhideB HBL).size (boxW_below wr x).size))⟩, by simp [intOf]; omega⟩
        have hlt' : ¬ ((i3 : Int) < m) := by omega
        clear hbel
        obtain ⟨V3, rfl⟩ : ∃ V, V = wr := ⟨_, rfl⟩
        go_wp2_with fail
        clear hlt hlt' hin
        go_loopw [95] (fun s95 wr => ∃ i : Nat, s95 = .int .i64 i ∧ i ≤ g ∧ Below W0.heap.size W0 wr) (fun s95 _ => g - (intOf s95).toNat)
        case atStart => exact ⟨0, rfl, by omega, unhideB HBL⟩
        case round =>
          clear HBL
          obtain ⟨i4, rfl, hin, hbel⟩ := hrel
          have HBL := hideB hbel
          by_cases hlt : i4 < g
          · have hlt' : (i4 : Int) < g := by omega
            obtain ⟨b, o, rfl, r1⟩ := ((unhideB HG0).later hbel).at i4 (by rw [← unhideB HG]; exact hlt)
            have hmem := mem_get (xs := zs) (i := i4) (by rw [← unhideB HG]; exact hlt)
            obtain ⟨x, hx⟩ : ∃ x, x = zs[i4]! := ⟨_, rfl⟩
            rw [← hx] at r1 hmem
            have l1 := run_load34 r1
            have hbb := hbel.trans ((boxW_below wr x).mono hbel.size)
            have HBB := hideB hbb
            have hC := unhideB HCA0 (boxW wr x) x hbb
            have hor : x ∈ xs ∨ x ∈ ys := by
              rcases (unhideB HZM x).1 hmem with h | h
              · exact .inl ((unhideB HKM x).1 h)
              · exact .inr h
            by_cases hxa : x ∈ xs
            · rw [decide_eq_true hxa] at hC
              have HC := hideB hC
              clear hC hbel r1 hmem hx hbb hor hxa
              go_wp2_with fail
              refine (unhideB HC).mono ?_
              rintro e w' ⟨rfl, hb'⟩
              have HB' := hideB hb'
              clear hb' l1
              go_wp2_with fail
              exact ⟨⟨i4 + 1, by simp, by omega, (unhideB HBB).trans ((unhideB HB').mono (unhideB HBB).size)⟩, by simp [intOf]; omega⟩
            · rw [decide_eq_false hxa] at hC
              have hxb : x ∈ ys := by rcases hor with h | h; exact absurd h hxa; exact h
              have HXB := hideB hxb
              have HC := hideB hC
              clear hC hbel r1 hmem hx hbb hor hxa hxb
              go_wp2_with fail
              refine (unhideB HC).mono ?_
              rintro e w' ⟨rfl, hb'⟩
              have hbb' := (unhideB HBB).trans (hb'.mono (unhideB HBB).size)
              have hC2 := unhideB HCB w' x hbb'
              rw [decide_eq_true (unhideB HXB)] at hC2
              have HC2 := hideB hC2
              have l2 := run_load34 ((boxW_RA wr x).of_block (hb'.block _ (boxW_RA wr x).lt))
              have HB' := hideB hbb'
              clear hb' l1 hC2 hbb'
              go_wp2_with fail
              refine (unhideB HC2).mono ?_
              rintro e w'' ⟨rfl, hb''⟩
              have HB'' := hideB hb''
              clear hb'' l2
              go_wp2_with fail
              exact ⟨⟨i4 + 1, by simp, by omega, (unhideB HB').trans ((unhideB HB'').mono (unhideB HB').size)⟩, by simp [intOf]; omega⟩
          have hlt' : ¬ ((i4 : Int) < g) := by omega
          clear hbel
          obtain ⟨V4, rfl⟩ : ∃ V, V = wr := ⟨_, rfl⟩
          go_wp2_with fail
          clear hlt hlt' hin
          have hb5V : Below w5.heap.size w5 V4 := (unhideB HB5W).trans ((unhideB HBL).mono (unhideB HB5W).size)
          obtain ⟨vv2, cv2, hnb2⟩ := (unhideB HND2).nb
          have hnb2' := hnb2.later (hb5V.block p2 hnb2.lt)
          have hct' : V4.cell? ⟨t, 0, none⟩ = some (.pointer (some ⟨p2, 0, none⟩)) := (World.cell?_of_block (a := ⟨t, 0, none⟩) (hb5V.block t htl)).trans (unhideB HCT5)
          have g1 : ∀ p', (gr V4 p').cell? ⟨t, 0, none⟩ = some (.pointer (some ⟨p2, 0, none⟩)) := fun p' => gr_cell hct' p'
          have g3 : ∀ p', (exLoad70 (.pointer (some ⟨p2, 33, none⟩))).run Yba.prog (gr V4 p') = .ok (.value (sv (sumN zs) g)) (gr V4 p') := fun p' => by
            rw [unhideB HG]; exact (hnb2'.later ((gr_below V4 p').block p2 hnb2'.lt)).sum
          have g5 : ∀ w, (binOp .neq 70 (sv (sumN zs) g) (sv (sumN zs) g)).run Yba.prog w = .ok (.bool false) w := fun w => neq70 _ _ w
          have HS4 := hideB (fun p' => unhideB HSUM (gr V4 p') ((unhideB HBL).trans ((gr_below V4 p').mono (unhideB HBL).size)))
          clear hb5V hnb2 hnb2' hct'
          refine wp_region_gr (by kernel_rfl) (by kernel_rfl) ?_
          repeat (quiet_step (first | (go_at_call 15; refine Calls.gr_of (unhideB HS4 _))))
          refine wpQuiet_nil ?_
          intro w8 hw8
          obtain ⟨p8, rfl⟩ := hw8
          have HB8 := hideB ((unhideB HBL).trans ((gr_below V4 p8).mono (unhideB HBL).size))
          generalize gr V4 p8 = V5 at HB8 ⊢
          clear g1 g3 g5 HS4 HBL
          go_wp2_with fail
          go_loopw [17, 122] (fun s17 s122 wr => ∃ (i : Nat) (c : Bool), s122 = .int .i64 i ∧ s17 = .bool c ∧ i ≤ m ∧ (c = true ↔ ∀ j, j < i → ys[j]! ∈ ks) ∧ Below W0.heap.size W0 wr) (fun _ s122 _ => m - (intOf s122).toNat)
          case atStart => exact ⟨0, true, rfl, rfl, by omega, ⟨fun _ j hj => by omega, fun _ => rfl⟩, unhideB HB8⟩
          case round =>
            clear HB8
            obtain ⟨i5, c, rfl, rfl, hin, hc, hbel⟩ := hrel
            have HBL := hideB hbel; have HCI := hideB hc
            clear hc
            by_cases hlt : i5 < m
            · have hlt' : (i5 : Int) < m := by omega
              obtain ⟨b, o, rfl, r1⟩ := ((unhideB HB0).later hbel).at i5 (by rw [← unhideB HM]; exact hlt)
              obtain ⟨x, hx⟩ : ∃ x, x = ys[i5]! := ⟨_, rfl⟩
              rw [← hx] at r1
              have HX := hideB hx
              have l1 := run_load34 r1
              have hbb := hbel.trans ((boxW_below wr x).mono hbel.size)
              have HBB := hideB hbb
              have hC := unhideB HCF (boxW wr x) x hbb
              by_cases hxk : x ∈ ks
              · rw [decide_eq_true hxk] at hC
                have HC := hideB hC; have HXK := hideB hxk
                clear hC hbel r1 hx hbb hxk
                go_wp2_with fail
                refine (unhideB HC).mono ?_
                rintro e w' ⟨rfl, hb'⟩
                have HB' := hideB hb'
                clear hb' l1
                go_wp2_with fail
                refine ⟨⟨i5 + 1, c, by simp, rfl, by omega, ⟨fun h j hj => ?_, fun h => (unhideB HCI).2 fun j hj => h j (by omega)⟩, (unhideB HBB).trans ((unhideB HB').mono (unhideB HBB).size)⟩, by simp [intOf]; omega⟩
                by_cases e : j = i5
                · rw [e, ← unhideB HX]; exact unhideB HXK
                · exact (unhideB HCI).1 h j (by omega)
              · rw [decide_eq_false hxk] at hC
                have HC := hideB hC; have HXK := hideB hxk
                clear hC hbel r1 hx hbb hxk
                go_wp2_with fail
                refine (unhideB HC).mono ?_
                rintro e w' ⟨rfl, hb'⟩
                have HB' := hideB hb'
                clear hb' l1
                go_wp2_with fail
                refine ⟨⟨i5 + 1, false, by simp, rfl, by omega, ⟨fun h => (by cases h), fun h => absurd (h i5 (by omega)) (by rw [← unhideB HX]; exact unhideB HXK)⟩, (unhideB HBB).trans ((unhideB HB').mono (unhideB HBB).size)⟩, by simp [intOf]; omega⟩
            have hlt' : ¬ ((i5 : Int) < m) := by omega
            have hend : Below w.heap.size w wr := (unhideB HBW).trans (hbel.mono (unhideB HBW).size)
            have hkt : Blk wr t := ((unhideB HBK2).keep ((unhideB HB5W).block t htl)).keep (hbel.block t (Nat.lt_of_lt_of_le htl (unhideB HB5W).size))
            have hks : Blk wr s := ((unhideB HBK1).keep ((unhideB HB2W).block s hsl)).keep (hbel.block s (Nat.lt_of_lt_of_le hsl (unhideB HB2W).size))
            have HEND := hideB hend
            have heq := eq57 hkt hks
            have hi5 : i5 = m := by omega
            cases c with
            | true =>
              have hall : ∀ y ∈ ys, y ∈ ks := by
                intro y hy
                obtain ⟨j, hj, e⟩ := List.mem_iff_getElem.1 hy
                have h1 := (unhideB HCI).1 rfl j (by rw [hi5, unhideB HM]; exact hj)
                rw [getElem!_pos ys j hj, e] at h1
                exact h1
              have hts := (unhideB HZ1 hall).1
              rw [decide_eq_true hts] at heq
              clear hend hkt hks hall hts hbel hi5
              go_wp2_with fail
              go_ret
              exact ⟨rfl, unhideB HEND⟩
            | false =>
              have hts : t ≠ s := by
                intro e
                have h1 : ¬ ∀ y ∈ ys, y ∈ ks := by
                  intro hall
                  have := (unhideB HCI).2 fun j hj => hall _ (mem_get (by rw [← unhideB HM]; omega))
                  cases this
                have h2 : ∃ y ∈ ys, y ∉ ks := by
                  apply Classical.byContradiction
                  intro h3
                  apply h1
                  intro y hy
                  apply Classical.byContradiction
                  intro h4
                  exact h3 ⟨y, hy, h4⟩
                have h3 := unhideB HZ2 h2
                omega
              rw [decide_eq_false hts] at heq
              clear hend hkt hks hts hbel hi5
              go_wp2_with fail
              go_ret
              exact ⟨rfl, unhideB HEND⟩
end Go.Proofs.Ybulkqhs
