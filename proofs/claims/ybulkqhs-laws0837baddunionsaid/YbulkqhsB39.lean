import Derived.Test.YbulkqhsB38
namespace Go.Proofs.Ybulkqhs
open Go.RowKit
set_option linter.unusedVariables false
set_option linter.unusedSimpArgs false
attribute [local go_sem ↓] exec_store34 exec_load34 exec_box34 exec_build78 exec_box78 exec_load70
attribute [local go_sem ↓] to_sl56
attribute [local go_sem] run_box34 run_box78 eql34_run neq34_run guard34 eqNil71 guard70

theorem SetAt.sum {w : World} {s : Nat} {ks : List Nat} (h : SetAt w s ks) : ∃ p d, w.cell? ⟨s, 0, none⟩ = some (.pointer (some ⟨p, 0, none⟩)) ∧ NodeAt d (· < w.heap.size) w p ks ∧ (exLoad70 (.pointer (some ⟨p, 33, none⟩))).run Yba.prog w = .ok (.value (sv (sumN ks) ks.length)) w ∧ Blk w s := by
  obtain ⟨p, d, h1, h2, h3⟩ := h
  obtain ⟨v, cv, hnb⟩ := h2.nb
  exact ⟨p, d, h1.cell, h2, hnb.sum, ⟨_, _, h1⟩⟩
theorem SetAt.asc {w : World} {s : Nat} {ks : List Nat} (h : SetAt w s ks) : ks.Pairwise (· < ·) := by obtain ⟨p, d, h1, h2, h3⟩ := h; exact h3

/-- What collect gives of a Set's root, from nil, in a later world. -/
theorem colNil {w W : World} {p d : Nat} {ks : List Nat} (h : NodeAt d (· < w.heap.size) w p ks) (hl : ks.length ≤ 1073741824) (hb : Below w.heap.size w W) :
    Calls Yba.prog 10 #[.pointer (some ⟨p, 0, none⟩), .slice none 0 0] W fun e W' => ∃ v, e = .returned v ∧ RS W' v ks ∧ Below W.heap.size W W' := by
  have hn : NodeAt d (· < W.heap.size) W p ks := NodeAt.later hb hb.size d p ks h
  refine (collect_any d W.heap.size W p ks [] (.slice none 0 0) (Nat.le_refl _) hn ⟨rfl, .inl ⟨rfl, rfl⟩⟩ (by simpa using hl)).mono ?_
  rintro e W' ⟨v, rfl, h1, h2⟩
  exact ⟨v, rfl, by simpa using h1.rs, h2⟩

set_option maxRecDepth 100000 in
set_option maxHeartbeats 2000000 in
theorem law5 {w : World} {va vb : Value} {xs ys : List Nat} (ha : RS w va xs) (hb : RS w vb ys) (hx : xs.length ≤ 1024) (hy : ys.length ≤ 1024) (x : Int) (hx0 : 0 ≤ x) (hx1 : x ≤ 255) :
    Calls Yba.prog 5 #[va, vb, .int .u8 x] w fun e w' => e = .returned (.bool true) ∧ Below w.heap.size w w' := by
  obtain ⟨pa, ca, rfl, _⟩ := ha.ro
  obtain ⟨pb, cb, rfl, _⟩ := hb.ro
  obtain ⟨n, hn⟩ : ∃ n, n = xs.length := ⟨_, rfl⟩
  obtain ⟨m, hm⟩ : ∃ m, m = ys.length := ⟨_, rfl⟩
  obtain ⟨K, hK⟩ : ∃ K, K = x.toNat % (m + 1) := ⟨_, rfl⟩
  have hKm : K ≤ m := by rw [hK]; have := Nat.mod_lt x.toNat (show 0 < m + 1 by omega); omega
  have hk2 : x % ((m : Int) + 1) = K := by
    obtain ⟨X, rfl⟩ := Int.eq_ofNat_of_zero_le hx0
    rw [hK]; simp
  have hk1 : x.tmod ((m : Int) + 1) = K := by rw [Int.tmod_eq_emod_of_nonneg hx0]; exact hk2
  have HCB := hideB (clone_any hb (by omega))
  have HRA := hideB ha
  rw [← hn] at hx HRA
  rw [← hm] at hy HCB
  rw [← hn, ← hm]
  have HN := hideB hn; have HM := hideB hm
  clear ha hb hn hm hK
  have hn1 : ¬ ((1024 : Int) < n) := by omega
  have hm1 : ¬ ((1024 : Int) < m) := by omega
  have hmz : ¬ ((m : Int) + 1 = 0) := by omega
  go_enter Yba.func5, Yba.ntmps5
  go_wp2_with fail
  refine (unhideB HCB).mono ?_
  rintro e w1 ⟨bc, rfl, hown1, hb1⟩
  have hrs1 := hown1.rs
  have HBC := hideB hrs1
  have HCA := hideB (clone_any ((unhideB HRA).later hb1) (by rw [← unhideB HN]; omega))
  have HB1 := hideB hb1
  obtain ⟨pc, cc, rfl, _⟩ := hrs1.ro
  rw [← unhideB HM] at HBC ⊢
  clear hown1 hb1 hrs1 hk2 hk1
  go_wp2_with fail
  refine (unhideB HCA).mono ?_
  rintro e w2 ⟨v2, rfl, hown2, hb2⟩
  have HNS := hideB (newSet_any hown2 hb2.size (by rw [← unhideB HN]; omega))
  have HBC2 := hideB ((unhideB HBC).later hb2)
  have HB2 := hideB hb2
  clear hown2 hb2
  go_wp2_with fail
  refine (unhideB HNS).mono ?_
  rintro e w3 ⟨s, ks, rfl, hset, hkm, hkl, hb3⟩
  have hb13 : Below w1.heap.size w1 w3 := (unhideB HB2).trans hb3
  have hbc3 := (unhideB HBC).later hb13
  have HADD := hideB (addSet_any hset hbc3 (by rw [← unhideB HM]; rw [← unhideB HN] at hkl; omega))
  have HB13 := hideB hb13; have HSET := hideB hset; have HBC3 := hideB hbc3; have HKM := hideB hkm; have HKL := hideB hkl
  clear hset hkm hkl hb3 hb13 hbc3
  go_wp2_with fail
  refine (unhideB HADD).mono ?_
  rintro e w4 ⟨t, zs, rfl, hset4, hzm, hzl, hb4, hz1, hz2⟩
  have HSET4 := hideB hset4; have HZM := hideB hzm; have HZL := hideB hzl; have HB4 := hideB hb4
  have hbc4 := (unhideB HBC3).later hb4
  have HBC4 := hideB hbc4
  obtain ⟨c1, c2, hs1, hs2, hr1, hr2, ⟨q1, n1, k1, e1⟩, ⟨q2, n2, k2, e2⟩⟩ := hbc4.cut K (by rw [← unhideB HM]; exact hKm)
  subst e1 e2
  have hkl := unhideB HKL
  rw [← unhideB HN] at hkl
  have hA1 : ∀ W, Below w4.heap.size w4 W → Calls Yba.prog 11 #[.pointer (some ⟨s, 0, none⟩), .slice q1 n1 k1] W (AddSPost W s ks (ys.take K)) := fun W hW =>
    addSet_any (((unhideB HSET).later hb4).later hW) (hr1.later hW) (by rw [List.length_take]; omega)
  have hA2 : ∀ W s1 zs1, Below w4.heap.size w4 W → SetAt W s1 zs1 → zs1.length ≤ 2048 → Calls Yba.prog 11 #[.pointer (some ⟨s1, 0, none⟩), .slice q2 n2 k2] W (AddSPost W s1 zs1 (ys.drop K)) := fun W s1 zs1 hW h1 h2 =>
    addSet_any h1 (hr2.later hW) (by rw [List.length_drop, ← unhideB HM]; omega)
  have HA1 := hideB hA1; have HA2 := hideB hA2
  clear hset4 hzm hzl hb4 hz1 hz2 hbc4 hr1 hr2 hA1 hA2
  go_wp2_with fail
  go_region_with (first | (go_at_call_of 11 (Value.slice q1 n1 k1); refine (unhideB HA1 _ ?_).mono ?_; exact (Below.refl _ w4).drew; rintro e w5 ⟨s1, zs1, rfl, hset5, hzm1, hzl1, hb5, hq1, hq2⟩; have HSET5 := hideB hset5; have HZM1 := hideB hzm1; have HZL1 := hideB hzl1; have HB5 := hideB (((Below.refl _ w4).drew).trans hb5); clear hset5 hzm1 hzl1 hb5 hq1 hq2) | (go_at_call_of 11 (Value.slice q2 n2 k2); refine (unhideB HA2 _ _ _ (unhideB HB5) (unhideB HSET5) ?_).mono ?_; (have h1 := unhideB HZL1; rw [List.length_take] at h1; omega); rintro e w6 ⟨s2, zs2, rfl, hset6, hzm2, hzl2, hb6, hq1, hq2⟩; have HSET6 := hideB hset6; have HZM2 := hideB hzm2; have HZL2 := hideB hzl2; have HB6 := hideB hb6; clear hset6 hzm2 hzl2 hb6 hq1 hq2))
  have hzeq : zs2 = zs := by
    refine asc_eq (unhideB HSET6).asc (unhideB HSET4).asc fun y => ?_
    rw [unhideB HZM2 y, unhideB HZM1 y, unhideB HZM y, or_assoc]
    have h1 : (y ∈ ys.take K ∨ y ∈ ys.drop K) ↔ y ∈ ys := by rw [← List.mem_append, List.take_append_drop]
    rw [h1]
  subst hzeq
  have hb46 : Below w4.heap.size w4 w6 := (unhideB HB5).trans ((unhideB HB6).mono (unhideB HB5).size)
  have hset6t : SetAt w6 t zs2 := (unhideB HSET4).later hb46
  obtain ⟨p1, d1, hct, hnd1, hsm1, hbk1⟩ := hset6t.sum
  obtain ⟨p2, d2, hcs2, hnd2, hsm2, hbk2⟩ := (unhideB HSET6).sum
  have hzl6 : zs2.length ≤ 2048 := by have := unhideB HZL; rw [← unhideB HM] at this; omega
  have HC1 := hideB (fun W (hW : Below w6.heap.size w6 W) => colNil hnd1 (by omega) hW)
  have HC2 := hideB (fun W (hW : Below w6.heap.size w6 W) => colNil hnd2 (by omega) hW)
  have hE : ∀ W v1 v2, RS W v1 zs2 → RS W v2 zs2 → Calls Yba.prog 12 #[v1, v2] W fun e w' => e = .returned (.bool true) ∧ Below W.heap.size W w' := by
    intro W v1 v2 h1 h2
    obtain ⟨a1, c1, rfl, r1⟩ := h1.ro
    obtain ⟨a2, c2, rfl, r2⟩ := h2.ro
    have h := equalR_any (c1 := c1) (c2 := c2) r1 r2 (by omega) (by omega)
    rwa [show decide (zs2 = zs2) = true by simp] at h
  have HE := hideB hE
  have htl := hset6t.lt
  have hsl := (unhideB HSET6).lt
  have HT6 := hideB hset6t; have HB46 := hideB hb46; have HS1 := hideB hsm1; have HS2 := hideB hsm2; have HK1 := hideB hbk1; have HK2 := hideB hbk2; have HND1 := hideB hnd1; have HND2 := hideB hnd2
  clear hE hset6t hb46 hsm1 hsm2 hbk1 hbk2 hnd1 hnd2 hs1 hs2
  go_simp
  go_upto_region 8 with fail
  go_cut [54] from 43 to 74 (fun s54 wc => s54 = .bool false ∧ Below w6.heap.size w6 wc)
  case first =>
    go_wp2_with fail
    go_region_with (first | (go_at_call_of 10 (Value.pointer (some ⟨p1, 0, none⟩)); refine (unhideB HC1 _ ?_).mono ?_; (first | exact unhideB HCUR | exact (Below.refl _ w6).drew); rintro e W1 ⟨v1, rfl, hrsv, hbv⟩; (first | have HCUR := hideB ((unhideB HCUR).trans (hbv.mono (unhideB HCUR).size)) | have HCUR := hideB (((Below.refl _ w6).drew).trans hbv)); have HV1 := hideB hrsv; (try have HV2 := hideB ((unhideB HV2).later hbv)); have hcT := (World.cell?_of_block (a := ⟨t, 0, none⟩) ((unhideB HCUR).block t htl)).trans hct; have hcS := (World.cell?_of_block (a := ⟨s2, 0, none⟩) ((unhideB HCUR).block s2 hsl)).trans hcs2; clear hrsv hbv) | (go_at_call_of 10 (Value.pointer (some ⟨p2, 0, none⟩)); refine (unhideB HC2 _ ?_).mono ?_; (first | exact unhideB HCUR | exact (Below.refl _ w6).drew); rintro e W1 ⟨v2, rfl, hrsv, hbv⟩; (first | have HCUR := hideB ((unhideB HCUR).trans (hbv.mono (unhideB HCUR).size)) | have HCUR := hideB (((Below.refl _ w6).drew).trans hbv)); have HV2 := hideB hrsv; (try have HV1 := hideB ((unhideB HV1).later hbv)); have hcT := (World.cell?_of_block (a := ⟨t, 0, none⟩) ((unhideB HCUR).block t htl)).trans hct; have hcS := (World.cell?_of_block (a := ⟨s2, 0, none⟩) ((unhideB HCUR).block s2 hsl)).trans hcs2; clear hrsv hbv) | (go_at_call 12; refine (unhideB HE _ _ _ (unhideB HV1) (unhideB HV2)).mono ?_; rintro e W1 ⟨rfl, hbv⟩; have HCUR := hideB ((unhideB HCUR).trans (hbv.mono (unhideB HCUR).size)); clear hbv))
    all_goals
      go_wp2_with fail
      go_meet
      exact ⟨rfl, unhideB HCUR⟩
  case rest =>
    obtain ⟨rfl, hbc⟩ := hcut
    obtain ⟨vv1, cv1, hnb1⟩ := (unhideB HND1).nb
    obtain ⟨vv2, cv2, hnb2⟩ := (unhideB HND2).nb
    have hnb1' := hnb1.later (hbc.block p1 hnb1.lt)
    have hnb2' := hnb2.later (hbc.block p2 hnb2.lt)
    have hct' : wc.cell? ⟨t, 0, none⟩ = some (.pointer (some ⟨p1, 0, none⟩)) := (World.cell?_of_block (a := ⟨t, 0, none⟩) (hbc.block t htl)).trans hct
    have hcs' : wc.cell? ⟨s2, 0, none⟩ = some (.pointer (some ⟨p2, 0, none⟩)) := (World.cell?_of_block (a := ⟨s2, 0, none⟩) (hbc.block s2 hsl)).trans hcs2
    have g1 : ∀ p', (gr wc p').cell? ⟨t, 0, none⟩ = some (.pointer (some ⟨p1, 0, none⟩)) := fun p' => gr_cell hct' p'
    have g2 : ∀ p', (gr wc p').cell? ⟨s2, 0, none⟩ = some (.pointer (some ⟨p2, 0, none⟩)) := fun p' => gr_cell hcs' p'
    have g3 : ∀ p', (exLoad70 (.pointer (some ⟨p1, 33, none⟩))).run Yba.prog (gr wc p') = .ok (.value (sv (sumN zs2) zs2.length)) (gr wc p') := fun p' => (hnb1'.later ((gr_below wc p').block p1 hnb1'.lt)).sum
    have g4 : ∀ p', (exLoad70 (.pointer (some ⟨p2, 33, none⟩))).run Yba.prog (gr wc p') = .ok (.value (sv (sumN zs2) zs2.length)) (gr wc p') := fun p' => (hnb2'.later ((gr_below wc p').block p2 hnb2'.lt)).sum
    have g5 : ∀ w, (binOp .neq 70 (sv (sumN zs2) zs2.length) (sv (sumN zs2) zs2.length)).run Yba.prog w = .ok (.bool false) w := fun w => neq70 _ _ w
    have hysub : ∀ y ∈ ys, y ∈ zs2 := fun y hy => (unhideB HZM y).2 (.inr hy)
    have hA3 : ∀ W, Below wc.heap.size wc W → Calls Yba.prog 11 #[.pointer (some ⟨t, 0, none⟩), .slice pc m cc] W fun e w' => e = .returned (.pointer (some ⟨t, 0, none⟩)) ∧ Below W.heap.size W w' := by
      intro W hW
      have hbW : Below w6.heap.size w6 W := hbc.trans (hW.mono hbc.size)
      have hb4W : Below w4.heap.size w4 W := (unhideB HB46).trans (hbW.mono (unhideB HB46).size)
      refine (addSet_any ((unhideB HT6).later hbW) ((unhideB HBC4).later hb4W) (by rw [← unhideB HM]; omega)).mono ?_
      rintro e w' ⟨s', zz, rfl, _, _, _, hb', h1, _⟩
      rw [(h1 hysub).1]
      exact ⟨rfl, hb'⟩
    have HA3 := hideB hA3; have HBC6 := hideB hbc
    have htw : t < wc.heap.size := Nat.lt_of_lt_of_le htl hbc.size
    have HBK := hideB ((unhideB HK1).keep (hbc.block t htl))
    clear hA3 hysub hnb1 hnb2 hnb1' hnb2' hct' hcs' hbc hct hcs2
    go_wp2_with fail
    refine wp_region_gr (by kernel_rfl) (by kernel_rfl) ?_
    repeat (quiet_step (fail))
    refine wpQuiet_nil ?_
    intro w8 hw8
    obtain ⟨p8, rfl⟩ := hw8
    have HB8 := hideB (gr_below wc p8)
    generalize gr wc p8 = w8 at HB8 ⊢
    clear g1 g2 g3 g4
    go_wp2_with fail
    refine (unhideB HA3 _ (unhideB HB8)).mono ?_
    rintro e w9 ⟨rfl, hb9⟩
    have hk9 : Blk w9 t := by
      have h1 := (unhideB HBK).keep ((unhideB HB8).block t htw)
      exact h1.keep (hb9.block t h1.lt)
    have heq := eq57 hk9 hk9
    have HB9 := hideB hb9
    clear hb9 hk9
    go_wp2_with fail
    go_ret
    refine ⟨rfl, ?_⟩
    have b1 := (unhideB HB1).size
    have b13 := (unhideB HB13).size
    have b4 := (unhideB HB4).size
    have b46 := (unhideB HB46).size
    have b6 := (unhideB HBC6).size
    have b8 := (unhideB HB8).size
    exact ((((((unhideB HB1).trans ((unhideB HB13).mono b1)).trans ((unhideB HB4).mono (by omega))).trans ((unhideB HB46).mono (by omega))).trans ((unhideB HBC6).mono (by omega))).trans ((unhideB HB8).mono (by omega))).trans ((unhideB HB9).mono (by omega))
end Go.Proofs.Ybulkqhs
