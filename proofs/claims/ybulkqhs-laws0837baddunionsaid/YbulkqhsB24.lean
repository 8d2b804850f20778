import Derived.Test.YbulkqhsB23
namespace Go.Proofs.Ybulkqhs
open Go.RowKit
set_option linter.unusedVariables false
attribute [local go_sem ↓] exec_store34 exec_load34 exec_box34 exec_build78 exec_box78 exec_load70
attribute [local go_sem] run_box34 run_box78 eql34_run neq34_run guard34

set_option maxRecDepth 100000 in
set_option maxHeartbeats 2000000 in
theorem groupN_any {w : World} (b o cap : Nat) {d : Nat} {V : Nat → Prop} (hV : ∀ x, V x → x < w.heap.size) (hbV : V b) (cs : List (Nat × List Nat)) (hr : Ptrs w b o (cs.map (·.1))) (hne : cs ≠ []) (hcs : ∀ c ∈ cs, c.2 ≠ [] ∧ NodeAt d V w c.1 c.2) (hcap : cs.length ≤ cap) (hn : cs.length ≤ 1073741824) (hnt : (cs.flatMap (·.2)).length ≤ 1073741824) :
    Calls Yba.prog 40 #[.slice (some ⟨b, o, none⟩) cs.length cap, .int .i64 32, .func (.func 41) #[] #[]] w (Grp (d + 1) V w ((cs.length + 31) / 32) (cs.flatMap (·.2))) := by
  obtain ⟨n, hnn⟩ : ∃ n, n = cs.length := ⟨_, rfl⟩
  have hn0 : 0 < n := by rw [hnn]; exact List.length_pos_iff.2 hne
  rw [← hnn] at hcap hn ⊢
  obtain ⟨m, hm⟩ : ∃ m, m = (n + 31) / 32 := ⟨_, rfl⟩
  have hm0 : 0 < m := by omega
  have hmn : m ≤ n := by omega
  have hmb : m * 32 ≤ n + 31 := by omega
  have hq : ((n : Int) + 32 - 1) / 32 = m := by omega
  have hq2 : ((n : Int) + 32 - 1).tdiv 32 = m := by rw [Int.tdiv_eq_ediv_of_nonneg (by omega)]; omega
  obtain ⟨cur0, hcz, hmk⟩ := make71 w m (by omega)
  have HM := hideB hm; have HN := hideB hnn; have HR := hideB hr; have HC := hideB hcs
  clear hm hnn hr hne hcs
  have M0 := hideB (show Made (d + 1) V w w.heap.size m 0 (w.alloc (.cells cur0 61)) [] from ⟨rfl, ⟨cur0, heap_alloc_new w _, hcz, fun j hj => by omega⟩, fun c hc => by simp at hc, (Below.refl _ w).alloc (Nat.le_refl _) _⟩)
  have hG0 : w.heap.size < (w.alloc (.cells cur0 61)).heap.size := by simp
  go_enter Yba.func40, Yba.ntmps40
  go_wp2_with fail
  clear hmk hcz
  generalize (w.alloc (.cells cur0 61)) = W at M0 hG0 ⊢
  generalize hGe : w.heap.size = G at M0 hG0 hV ⊢
  have HG := hideB hGe
  clear hGe
  go_loopw [21] (fun s21 wr => ∃ (i : Nat) (ns : List (Nat × List Nat)), s21 = .int .i64 i ∧ i ≤ m ∧ Made (d + 1) V w G m i wr ns ∧ G < wr.heap.size ∧ ns.flatMap (·.2) = (cs.take (i * n / m)).flatMap (·.2)) (fun s21 _ => m - (intOf s21).toNat)
  case atStart => exact ⟨0, [], rfl, by omega, unhideB M0, hG0, by simp⟩
  case round =>
    obtain ⟨i, ns, rfl, him, hmade, hGl, hflat⟩ := hrel
    have MD := hideB hmade; have HFL := hideB hflat
    by_cases hlt : i < m
    · have hlt' : (i : Int) < m := by omega
      obtain ⟨lo, hlo⟩ : ∃ lo, lo = i * n / m := ⟨_, rfl⟩
      obtain ⟨hi, hhi⟩ : ∃ hi, hi = (i + 1) * n / m := ⟨_, rfl⟩
      have hlh : lo < hi := by rw [hlo, hhi]; exact cut_lt i n m hm0 hmn
      have hhn : hi ≤ n := by rw [hhi]; exact cut_le (i + 1) n m hm0 (by omega)
      have hib : (i + 1) * n ≤ 4611686018427387904 := by
        have h1 : (i + 1) * n ≤ m * n := Nat.mul_le_mul_right n (by omega)
        have h2 : m * n ≤ 1073741824 * 1073741824 := Nat.mul_le_mul (by omega) hn
        omega
      have hib2 : i * n ≤ (i + 1) * n := Nat.mul_le_mul_right n (by omega)
      obtain ⟨P1, hP1⟩ : ∃ P1, P1 = i * n := ⟨_, rfl⟩
      obtain ⟨P2, hP2⟩ : ∃ P2, P2 = (i + 1) * n := ⟨_, rfl⟩
      rw [← hP1] at hlo hib2
      rw [← hP2] at hhi hib hib2
      have e1 : (i : Int) * n = P1 := by rw [hP1]; simp
      obtain ⟨I1, hI1⟩ : ∃ I1, I1 = i + 1 := ⟨_, rfl⟩
      have e0 : (i : Int) + 1 = I1 := by omega
      have wI : IntKind.i64.wrap (I1 : Int) = I1 := wrapN I1 (by omega)
      have e2 : (I1 : Int) * n = P2 := by rw [hP2, hI1]; simp
      clear hI1
      have d1 : (P1 : Int) / m = lo := by rw [hlo]; simp
      have d1' : (P1 : Int).tdiv m = lo := by rw [Int.tdiv_eq_ediv_of_nonneg (by omega)]; exact d1
      have d2 : (P2 : Int) / m = hi := by rw [hhi]; simp
      have d2' : (P2 : Int).tdiv m = hi := by rw [Int.tdiv_eq_ediv_of_nonneg (by omega)]; exact d2
      have hmz : ¬ ((m : Int) = 0) := by omega
      have hd0 : ¬ (hi - lo = 0) := by omega
      have hd1 : ¬ (hi ≤ lo) := by omega
      have hd2 : ¬ (hi = lo) := by omega
      have hmz2 : ¬ (m = 0) := by omega
      have dn1 : P1 / m = lo := hlo.symm
      have dn2 : P2 / m = hi := hhi.symm
      have w1 : IntKind.i64.wrap (P1 : Int) = P1 := by simp [IntKind.wrap, IntKind.bits, IntKind.signed]; omega
      have w2 : IntKind.i64.wrap (P2 : Int) = P2 := by simp [IntKind.wrap, IntKind.bits, IntKind.signed]; omega
      have w3 : IntKind.i64.wrap (lo : Int) = lo := wrapN lo (by omega)
      have w4 : IntKind.i64.wrap (hi : Int) = hi := wrapN hi (by omega)
      have hlc : (hi : Int) ≤ cap := by omega
      have hlh' : (lo : Int) ≤ hi := by omega
      have HLH := hideB (And.intro (show i * n / m = lo by rw [hlo, hP1]) (show (i + 1) * n / m = hi by rw [hhi, hP2]))
      clear hlo hhi hP1 hP2 hflat
      obtain ⟨cur, c1, c2, c3⟩ := hmade.blk
      clear c3 hmade
      obtain ⟨u, hu⟩ : ∃ u, cur[i]? = some u := ⟨cur[i]'(by omega), Array.getElem?_eq_getElem (by omega)⟩
      have hcell : wr.cell? ⟨G, i, none⟩ = some u := cellB c1 hu
      have hfr : wr.frozen? ⟨G, i, none⟩ = false := freeB c1
      clear c1 c2 hu
      have hNC : ∀ W, Below wr.heap.size wr W → Calls Yba.prog 41 #[.slice (some ⟨b, o + lo, none⟩) (hi - lo) (hi - lo)] W fun e w' => ∃ p, e = .returned (.pointer (some ⟨p, 0, none⟩)) ∧ W.heap.size ≤ p ∧ p < w'.heap.size ∧ Below W.heap.size W w' ∧ NodeAt (d + 1) (fun x => (V x ∨ w.heap.size ≤ x) ∧ x < w'.heap.size ∧ x ≠ G) w' p ((ck cs lo hi).flatMap (·.2)) := by
        intro W hW
        have hlc2 : hi ≤ cs.length := by rw [← unhideB HN]; exact hhn
        have hcl := ck_len cs lo hi (by omega) hlc2
        have hWW : Below w.heap.size w W := (unhideB MD).bel.trans (hW.mono (unhideB MD).bel.size)
        have hpw : Ptrs W b (o + lo) ((ck cs lo hi).map (·.1)) := by
          have h1 := (unhideB HR).cut lo hi (by omega) (by simpa using hlc2)
          rw [show (ck cs lo hi).map (·.1) = ck (cs.map (·.1)) lo hi by simp [ck, List.map_take, List.map_drop]]
          exact h1.of_block (hWW.block b (by rw [unhideB HG]; exact hV b hbV))
        have hnc : (ck cs lo hi).flatMap (·.2) = (ck cs lo hi).flatMap (·.2) := rfl
        have hsub : ((ck cs lo hi).flatMap (·.2)).length ≤ (cs.flatMap (·.2)).length := by
          have h1 := ck_take cs lo hi (by omega)
          have h2 := flat_take_len cs hi
          rw [← h1, List.flatMap_append, List.length_append] at h2
          omega
        have h := newInner_any (d := d) (V := V) (w := W) b (o + lo) (hi - lo) (ck cs lo hi) (by intro e; rw [e] at hcl; simp at hcl; omega) hbV (fun x hx => by have := hWW.size; have := unhideB HG; have := hV x hx; omega) (by omega) hpw (fun c hc => ⟨((unhideB HC) c (ck_mem _ _ _ _ hc)).1, NodeAt.keep (fun x hx => hWW.block x (by rw [unhideB HG]; exact hV x hx)) (fun x hx => hx) d c.1 c.2 ((unhideB HC) c (ck_mem _ _ _ _ hc)).2⟩) (by omega) (by omega)
        rw [hcl] at h
        refine h.mono ?_
        rintro e w' ⟨p, rfl, h1, h2, h3, h4⟩
        exact ⟨p, rfl, h1, h2, h4, h3 _ ⟨.inr (by have := hW.size; have := (unhideB MD).bel.size; omega), h2, by have := hW.size; omega⟩ (fun x hx => ⟨.inl hx, by have := h4.size; have := hW.size; have := hV x hx; omega, by have := hV x hx; omega⟩)⟩
      have hNE : (ck cs lo hi).flatMap (·.2) ≠ [] := by
        have hcl := ck_len cs lo hi (by omega) (by rw [← unhideB HN]; exact hhn)
        intro e
        cases hc : ck cs lo hi with
        | nil => rw [hc] at hcl; simp at hcl; omega
        | cons c l =>
          rw [hc, List.flatMap_cons] at e
          exact ((unhideB HC) c (ck_mem cs lo hi c (by rw [hc]; exact List.mem_cons_self))).1 (List.append_eq_nil_iff.1 e).1
      have HNC := hideB hNC; have HNE2 := hideB hNE
      clear hNC hNE
      obtain ⟨W0, rfl⟩ : ∃ W0, W0 = wr := ⟨_, rfl⟩
      go_wp2_with fail
      refine wp_region_gr (by kernel_rfl) (by kernel_rfl) ?_
      repeat (quiet_step (fail))
      refine wpQuiet_nil ?_
      intro w5 hw5
      obtain ⟨p1, rfl⟩ := hw5
      have HBG := hideB (gr_below W0 p1)
      have hGl2 : G < (gr W0 p1).heap.size := Nat.lt_of_lt_of_le hGl (gr_below W0 p1).size
      have hcell2 : (gr W0 p1).cell? ⟨G, i, none⟩ = some u := gr_cell hcell p1
      have hfr2 : (gr W0 p1).frozen? ⟨G, i, none⟩ = false := (World.frozen?_of_block (a := ⟨G, i, none⟩) ((gr_below W0 p1).block G hGl)).trans hfr
      generalize gr W0 p1 = W1 at HBG hGl2 hcell2 hfr2 ⊢
      clear hcell hfr d1 d1' d2 d2' dn1 dn2 e0 e1 e2 w1 w2 wI hib hib2
      go_wp2_with fail
      refine (unhideB HNC _ (unhideB HBG)).mono ?_
      rintro e w' ⟨p, rfl, hp1, hp2, hbel, hnode⟩
      have hcell3 : w'.cell? ⟨G, i, none⟩ = some u := (World.cell?_of_block (a := ⟨G, i, none⟩) (hbel.block G hGl2)).trans hcell2
      have hfr3 : w'.frozen? ⟨G, i, none⟩ = false := (World.frozen?_of_block (a := ⟨G, i, none⟩) (hbel.block G hGl2)).trans hfr2
      have HBEL := hideB hbel; have HNO := hideB hnode
      clear hbel hnode hcell2 hfr2
      go_wp2_with fail
      have hMA := (unhideB MD).add (by rw [unhideB HG]; exact Nat.le_refl _) hGl hlt p ((ck cs lo hi).flatMap (·.2)) (by have := unhideB HG; have := (unhideB HBG).size; omega) (unhideB HNE2) (by omega) hp2 (unhideB HNO) ((unhideB HBG).trans ((unhideB HBEL).mono (unhideB HBG).size))
      refine ⟨⟨i + 1, _, by simp, by omega, hMA, by have := (unhideB HBEL).size; simp [World.setCell]; omega, ?_⟩, by simp [intOf]; omega⟩
      rw [List.flatMap_append, unhideB HFL, (unhideB HLH).1, (unhideB HLH).2]
      simp only [List.flatMap_cons, List.flatMap_nil, List.append_nil]
      rw [← List.flatMap_append, ck_take cs lo hi (by omega)]
    · have hlt' : ¬ ((i : Int) < m) := by omega
      go_wp2_with fail
      go_ret
      have him2 : i = m := by omega
      subst him2
      have hdn := (unhideB MD).done
      have hl2 := (unhideB MD).len
      have hgs := unhideB HG
      refine ⟨G, ns, by rw [hl2]; rfl, by rw [hl2, unhideB HM], by rw [hgs]; exact Nat.le_refl _, hdn.1, hdn.2, ?_, (unhideB MD).bel⟩
      rw [unhideB HFL, cut_all n _ hm0, unhideB HN, List.take_length]
end Go.Proofs.Ybulkqhs
