import Derived.Test.YbulkqhsB13
namespace Go.Proofs.Ybulkqhs
open Go.RowKit
set_option linter.unusedVariables false
attribute [local go_sem ↓] exec_store34 exec_load34 exec_box34
attribute [local go_sem] run_box34 eql34_run neq34_run guard34

theorem wrapN (j : Nat) (h : j ≤ 1099511627776) : IntKind.i64.wrap (j : Int) = j := by
  simp [IntKind.wrap, IntKind.bits, IntKind.signed]; omega
theorem Row.grow {w0 w : World} {g n : Nat} {d : Array Nat} (h : Row w0 g n w d) (hn : 0 < n) (p : Gp) : Row w0 g n (gr w p) d := h.later (h.lt hn) (gr_below w p)
theorem Row.load {w0 w : World} {g n : Nat} {d : Array Nat} (h : Row w0 g n w d) (i o : Nat) (hi : i < n) (ho : o = i * 33) (p : Gp) :
    (exLoad34 (.pointer (some ⟨g, o, none⟩))).run Yba.prog (gr w p) = .ok (.value (rv d[i]!)) (gr w p) := by
  subst ho; exact run_load34 (gr_RA (h.recs i hi) p)

theorem Row.recsOf {w0 w : World} {g n : Nat} {d : Array Nat} (h : Row w0 g n w d) (k : Nat) (hk : k ≤ n) : Recs w g 0 (keepL d k) := by
  intro i hi
  rw [keepL_len] at hi
  rw [keepL_get d k i hi, Nat.zero_add]
  exact h.recs i (by omega)

theorem Row.clear {w0 w : World} {g n : Nat} {d : Array Nat} (h : Row w0 g n w d) (k : Nat) (hk : k ≤ n) (L : List Value) : Recs (w.setCells g (k * 33) L) g 0 (keepL d k) ∧ Turn g w0 (w.setCells g (k * 33) L) := by
  refine ⟨?_, h.turn.trans (Turn.setCells _ _ _ _)⟩
  intro i hi
  rw [keepL_len] at hi
  rw [keepL_get d k i hi, Nat.zero_add]
  exact World.rangeAt_setCells_apart (h.recs i (by omega)) g (k * 33) L (.inr (.inl (by rw [rl_len]; omega)))

theorem Row.thereTail {w0 w : World} {g n : Nat} {d : Array Nat} (h : Row w0 g n w d) (k : Nat) (hk : k ≤ n) : w.there g (k * 33) ((n - k) * 33) := by
  intro j hj
  have h1 := (h.recs (k + j / 33) (by omega)).cell (j % 33) (Nat.mod_lt _ (by omega))
  rw [show (k + j / 33) * 33 + j % 33 = k * 33 + j by omega] at h1
  exact ⟨by rw [h1]; rfl, h.free _⟩

set_option maxRecDepth 100000 in
set_option maxHeartbeats 4000000 in
theorem compact_any {w0 w : World} {g n cap : Nat} {d : Array Nat} (h : Row w0 g n w d) (hn : n ≤ 1099511627776) (hcap : n ≤ cap) (hs : ∀ i, i + 1 < n → d[i]! ≤ d[i + 1]!) :
    Calls Yba.prog 39 #[.slice (some ⟨g, 0, none⟩) n cap] w fun e w' => ∃ ks : List Nat, e = .returned (.slice (some ⟨g, 0, none⟩) ks.length cap) ∧ ks.length ≤ n ∧ ks.Pairwise (· < ·) ∧ (∀ x, x ∈ ks ↔ x ∈ d.toList) ∧ Recs w' g 0 ks ∧ Turn g w0 w' := by
  have hsz := h.size
  have hcap' : (n : Int) ≤ cap := by omega
  have HSZ := hideB hsz; clear hsz
  have H := hideB h; have HS := hideB hs
  clear h hs
  by_cases h2 : n < 2
  · have h2' : (n : Int) < 2 := by omega
    go_enter Yba.func39, Yba.ntmps39
    go_wp2_with fail
    go_ret
    refine ⟨keepL d n, by rw [keepL_len]; rfl, by rw [keepL_len]; exact Nat.le_refl _, ?_, ?_, (unhideB H).recsOf n (Nat.le_refl _), (unhideB H).turn⟩
    · rw [List.pairwise_iff_getElem]
      intro i j hi hj hij
      rw [keepL_len] at hi hj
      omega
    · intro x; rw [mem_keepL, mem_arr, unhideB HSZ]
  · have h2' : ¬ ((n : Int) < 2) := by omega
    go_enter Yba.func39, Yba.ntmps39
    go_wp2_with fail
    go_loopw [3] (fun s3 wr => ∃ k j : Nat, s3 = .int .i64 k ∧ k = j + 1 ∧ j + 1 ≤ n ∧ Uq d (j + 1) (j + 1) d ∧ Row w0 g n wr d) (fun s3 _ => n - (intOf s3).toNat)
    case atStart => exact ⟨1, 0, rfl, rfl, by omega, Uq.one d, unhideB H⟩
    case round =>
      obtain ⟨k, j, rfl, hkj, hjn, huq, hrow⟩ := hrel
      have hk1 : (k : Int) - 1 = j := by omega
      have hw1 := wrapN j (by omega)
      have HK := hideB hkj
      clear hkj
      have HU := hideB huq; have HR := hideB hrow
      clear huq hrow H
      by_cases hlt : j + 1 < n
      · have hlt' : (k : Int) < n := by have := unhideB HK; omega
        have hlt2 : (j : Int) < n := by omega
        have l1 : ∀ p, (exLoad34 (.pointer (some ⟨g, k * 33, none⟩))).run Yba.prog (gr wr p) = .ok (.value (rv d[j + 1]!)) (gr wr p) := fun p => (unhideB HR).load (j + 1) _ hlt (by rw [unhideB HK]) p
        have l2 : ∀ p, (exLoad34 (.pointer (some ⟨g, j * 33, none⟩))).run Yba.prog (gr wr p) = .ok (.value (rv d[j]!)) (gr wr p) := fun p => (unhideB HR).load j _ (by omega) rfl p
        have hle := unhideB HS j hlt
        have HLE := hideB hle; clear hle
        obtain ⟨x, hx⟩ : ∃ x, x = d[j + 1]! := ⟨_, rfl⟩
        obtain ⟨y, hy⟩ : ∃ y, y = d[j]! := ⟨_, rfl⟩
        rw [← hx] at l1
        rw [← hy] at l2
        have HX := hideB hx; have HY := hideB hy; clear hx hy
        by_cases hxy : x = y
        · subst hxy
          have hb : (x == x) = true := by simp
          go_wp2_with fail
          refine wp_region_gr (by kernel_rfl) (by kernel_rfl) ?_
          repeat (quiet_step (fail))
          refine wpQuiet_nil ?_
          intro w1 hw1
          obtain ⟨p1, rfl⟩ := hw1
          have HR1 := hideB ((unhideB HR).grow (by omega) p1)
          clear l1 l2 HR
          generalize gr wr p1 = w1 at HR1 ⊢
          go_wp2_with fail
          go_loopw [3, 5] (fun s3 s5 wr => ∃ (kk k2 jj : Nat) (dk : Array Nat), s3 = .int .i64 kk ∧ s5 = .int .i64 k2 ∧ k2 = jj + 1 ∧ kk < j + 1 + jj + 1 ∧ j + 1 + jj + 1 ≤ n ∧ Uq d (j + 1 + jj + 1) kk dk ∧ Row w0 g n wr dk) (fun _ s5 _ => n - (intOf s5).toNat)
          case atStart => exact ⟨k, 1, 0, d, rfl, rfl, rfl, by have := unhideB HK; omega, by omega, unhideB HK ▸ (unhideB HU).skip (by simp only [Nat.add_sub_cancel]; rw [← unhideB HX, ← unhideB HY]), unhideB HR1⟩
          case round =>
            obtain ⟨kk, k2, jj, dk, rfl, rfl, hk2j, hkk, hjj, huq2, hrow2⟩ := hrel
            have hk3 : (k2 : Int) - 1 = jj := by omega
            have hw3 := wrapN jj (by omega)
            have HK2 := hideB hk2j
            clear hk2j
            have hh1 := huq2.high (j + 1 + jj) (by omega)
            have hh2 := huq2.high (j + 1 + jj + 1) (by omega)
            have HU2 := hideB huq2; have HR2 := hideB hrow2
            clear huq2 hrow2 HR1 HX HY HU HLE
            by_cases hlt3 : j + 1 + jj + 1 < n
            · have hlt3' : (k2 : Int) < (n : Int) - (k : Int) := by have := unhideB HK; have := unhideB HK2; omega
              have hlt4' : (jj : Int) < (n : Int) - (k : Int) := by have := unhideB HK; omega
              have hlt5 : (jj : Int) < ((n - k : Nat) : Int) := by have := unhideB HK; omega
              have hlt6 : (k2 : Int) < ((n - k : Nat) : Int) := by have := unhideB HK; have := unhideB HK2; omega
              have hkn : (kk : Int) < n := by omega
              have l1 : ∀ p, (exLoad34 (.pointer (some ⟨g, k * 33 + k2 * 33, none⟩))).run Yba.prog (gr wr p) = .ok (.value (rv d[j + 1 + jj + 1]!)) (gr wr p) := fun p => by
                rw [← hh2]; exact (unhideB HR2).load (j + 1 + jj + 1) _ hlt3 (by rw [unhideB HK, unhideB HK2]; omega) p
              have l2 : ∀ p, (exLoad34 (.pointer (some ⟨g, k * 33 + jj * 33, none⟩))).run Yba.prog (gr wr p) = .ok (.value (rv d[j + 1 + jj]!)) (gr wr p) := fun p => by
                rw [← hh1]; exact (unhideB HR2).load (j + 1 + jj) _ (by omega) (by rw [unhideB HK]; omega) p
              have hle := unhideB HS (j + 1 + jj) hlt3
              have HLE := hideB hle
              clear hle hh1 hh2
              obtain ⟨a1, ha1⟩ : ∃ x, x = d[j + 1 + jj + 1]! := ⟨_, rfl⟩
              obtain ⟨b1, hb1⟩ : ∃ x, x = d[j + 1 + jj]! := ⟨_, rfl⟩
              rw [← ha1] at l1
              rw [← hb1] at l2
              have HX := hideB ha1; have HY := hideB hb1; clear ha1 hb1
              by_cases hxy : a1 = b1
              · subst hxy
                have hb : (!(a1 == a1)) = false := by simp
                go_wp2_with fail
                refine wp_region_gr (by kernel_rfl) (by kernel_rfl) ?_
                repeat (quiet_step (fail))
                refine wpQuiet_nil ?_
                intro w2 hw2
                obtain ⟨p2, rfl⟩ := hw2
                have HR3 := hideB ((unhideB HR2).grow (by omega) p2)
                clear l1 l2 HR2
                generalize gr wr p2 = w2 at HR3 ⊢
                go_wp2_with fail
                refine ⟨⟨kk, k2 + 1, jj + 1, dk, rfl, by simp, by rw [unhideB HK2], by omega, by omega, ?_, unhideB HR3⟩, by have := unhideB HK2; simp [intOf]; omega⟩
                exact (unhideB HU2).skip (by simp only [Nat.add_sub_cancel]; rw [← unhideB HX, ← unhideB HY])
              · have hb : (!(a1 == b1)) = true := by simp [hxy]
                have hb' : (a1 == b1) = false := by simp [hxy]
                go_wp2_with fail
                refine wp_region_gr (by kernel_rfl) (by kernel_rfl) ?_
                repeat (quiet_step (fail))
                refine wpQuiet_nil ?_
                intro w2 hw2
                obtain ⟨p2, rfl⟩ := hw2
                have HR3 := hideB ((unhideB HR2).grow (by omega) p2)
                have l3 := l1 p2
                clear l1 l2 HR2
                generalize gr wr p2 = w2 at HR3 l3 ⊢
                have s1 := run_store34 (w := w2) (b := g) (o := kk * 33) a1 (((unhideB HR3).recs kk (by omega)).there (unhideB HR3).free)
                have HR4 := hideB ((unhideB HR3).put kk a1 (by omega))
                go_wp2_with fail
                refine ⟨⟨kk + 1, k2 + 1, jj + 1, _, by simp, by simp, by rw [unhideB HK2], by omega, by omega, ?_, unhideB HR4⟩, by have := unhideB HK2; simp [intOf]; omega⟩
                have e1 := unhideB HX; have e2 := unhideB HY
                have := (unhideB HU2).put (by rw [unhideB HSZ]; omega) (by simpa using unhideB HLE) (by simp only [Nat.add_sub_cancel]; rw [← e1, ← e2]; exact hxy) (by omega)
                rw [← e1] at this
                exact this
            · have hlt3' : ¬ ((k2 : Int) < (n : Int) - (k : Int)) := by have := unhideB HK; have := unhideB HK2; omega
              have hkn : (kk : Int) < n := by omega
              have hkn2 : (kk : Int) ≤ n := by omega
              have hkn3 : (kk : Int) ≤ cap := by omega
              have hcl := fun ty => run_clear34 (w := wr) ty g (kk * 33) (n - kk) (cap - kk) (by omega) ((unhideB HR2).thereTail kk (by omega))
              obtain ⟨L, hL, hcl⟩ := hcl 0
              have HCL := hideB hcl
              clear hh1 hh2 hL
              go_wp2_with fail
              go_ret
              have hd := unhideB HU2
              rw [show j + 1 + jj + 1 = d.size by rw [unhideB HSZ]; omega] at hd
              have hdn := hd.done
              have hc := (unhideB HR2).clear kk (by omega) L
              exact ⟨keepL dk kk, by rw [keepL_len]; rfl, by rw [keepL_len]; omega, hdn.1, fun x => by simpa using hdn.2 x, hc.1, hc.2⟩
        · have hb : (x == y) = false := by simp [hxy]
          go_wp2_with fail
          refine wp_region_gr (by kernel_rfl) (by kernel_rfl) ?_
          repeat (quiet_step (fail))
          refine wpQuiet_nil ?_
          intro w1 hw1
          obtain ⟨p1, rfl⟩ := hw1
          have HR1 := hideB ((unhideB HR).grow (by omega) p1)
          clear l1 l2 HR
          generalize gr wr p1 = w1 at HR1 ⊢
          go_wp2_with fail
          refine ⟨⟨k + 1, j + 1, by simp, by rw [unhideB HK], by omega, ?_, unhideB HR1⟩, by have := unhideB HK; simp [intOf]; omega⟩
          have e1 := unhideB HX; have e2 := unhideB HY
          exact (unhideB HU).go (by simpa using unhideB HLE) (by simp only [Nat.add_sub_cancel]; rw [← e1, ← e2]; exact hxy)
      · have hlt' : ¬ ((k : Int) < n) := by have := unhideB HK; omega
        go_wp2_with fail
        go_ret
        have hd := unhideB HU
        rw [show j + 1 = d.size by rw [unhideB HSZ]; omega] at hd
        have hdn := hd.done
        rw [unhideB HSZ] at hdn
        exact ⟨keepL d n, by rw [keepL_len]; rfl, by rw [keepL_len]; exact Nat.le_refl _, hdn.1, fun x => by simpa using hdn.2 x, (unhideB HR).recsOf n (Nat.le_refl _), (unhideB HR).turn⟩
end Go.Proofs.Ybulkqhs
