import Derived.Test.YbulkqhsB22
import Derived.Laws.MakeOwn
namespace Go.Proofs.Ybulkqhs
open Go.RowKit
set_option linter.unusedVariables false
attribute [local go_sem ↓] exec_store34 exec_load34 exec_box34 exec_build78 exec_box78 exec_load70
attribute [local go_sem] run_box34 run_box78 eql34_run neq34_run guard34

/-! ### group -/
theorem Yba.info61 : (Yba.prog.info? 61).map (fun i => (i.zero, i.size, i.bytes)) = some (some (.pointer none), 1, 8) := by kernel_rfl
theorem make71 (w : World) (m : Nat) (hm : m ≤ 1099511627776) : ∃ cur : Array Value, cur.size = m ∧
    (Instr.makeSlice 71 (.int .i64 m) (.int .i64 m)).run Yba.prog w = .ok (.slice (some ⟨w.heap.size, 0, none⟩) m m) (w.alloc (.cells cur 61)) := by
  obtain ⟨i0, hi, hz0, hz1, hz2⟩ := info_parts Yba.info61
  have hz1 : i0.size = 1 := hz1
  have hz2 : i0.bytes = 8 := hz2
  have h := run_make w 71 61 i0 (.pointer none) Yba.underlying71 hi hz0 .i64 .i64 (m : Int) (m : Int) (by omega) (Int.le_refl _) (by rw [hz2]; omega) (by omega)
  rw [Int.toNat_natCast, hz1] at h
  exact ⟨_, by simp [madeCells, Value.cells], h⟩

theorem cut_lt (i n m : Nat) (hm : 0 < m) (hmn : m ≤ n) : i * n / m < (i + 1) * n / m := by
  have h1 : (i + 1) * n = i * n + n := Nat.succ_mul i n
  have h2 : i * n / m + 1 = (i * n + m) / m := (Nat.add_div_right _ hm).symm
  have h3 : (i * n + m) / m ≤ (i * n + n) / m := Nat.div_le_div_right (by omega)
  rw [h1]
  omega
theorem cut_le (i n m : Nat) (hm : 0 < m) (hi : i ≤ m) : i * n / m ≤ n := by
  have h1 : i * n ≤ m * n := Nat.mul_le_mul_right n hi
  have h2 : m * n / m = n := Nat.mul_div_cancel_left n hm
  have h3 : i * n / m ≤ m * n / m := Nat.div_le_div_right h1
  omega
theorem cut_all (n m : Nat) (hm : 0 < m) : m * n / m = n := Nat.mul_div_cancel_left n hm
/-- A part of a list. -/
def ck {α : Type} (l : List α) (lo hi : Nat) : List α := (l.drop lo).take (hi - lo)
theorem ck_len {α : Type} (l : List α) (lo hi : Nat) (h1 : lo ≤ hi) (h2 : hi ≤ l.length) : (ck l lo hi).length = hi - lo := by
  simp [ck]; omega
theorem ck_take {α : Type} (l : List α) (lo hi : Nat) (h1 : lo ≤ hi) : l.take lo ++ ck l lo hi = l.take hi := by
  have := List.take_add (l := l) (i := lo) (j := hi - lo)
  rw [show lo + (hi - lo) = hi by omega] at this
  exact this.symm
theorem ck_get {α : Type} [Inhabited α] (l : List α) (lo hi i : Nat) (h1 : lo ≤ hi) (h2 : hi ≤ l.length) (hi2 : i < hi - lo) : (ck l lo hi)[i]! = l[lo + i]! := by
  rw [getElem!_pos _ i (by rw [ck_len l lo hi h1 h2]; exact hi2), getElem!_pos l (lo + i) (by omega)]
  simp [ck]
theorem ck_mem {α : Type} (l : List α) (lo hi : Nat) (x : α) (h : x ∈ ck l lo hi) : x ∈ l := List.mem_of_mem_drop (List.mem_of_mem_take h)
theorem Recs.cut {w : World} {b o : Nat} {ks : List Nat} (h : Recs w b o ks) (lo hi : Nat) (h1 : lo ≤ hi) (h2 : hi ≤ ks.length) : Recs w b (o + lo * 33) (ck ks lo hi) := by
  intro i hi2
  rw [ck_len ks lo hi h1 h2] at hi2
  rw [ck_get ks lo hi i h1 h2 hi2, show o + lo * 33 + i * 33 = o + (lo + i) * 33 by omega]
  exact h (lo + i) (by omega)
theorem Ptrs.cut {w : World} {b o : Nat} {ps : List Nat} (h : Ptrs w b o ps) (lo hi : Nat) (h1 : lo ≤ hi) (h2 : hi ≤ ps.length) : Ptrs w b (o + lo) (ck ps lo hi) := by
  intro i hi2
  rw [ck_len ps lo hi h1 h2] at hi2
  rw [ck_get ps lo hi i h1 h2 hi2, show o + lo + i = o + (lo + i) by omega]
  exact h (lo + i) (by omega)

/-- What group hands back. -/
def Grp (d : Nat) (V : Nat → Prop) (w : World) (cnt : Nat) (all : List Nat) (e : Ending) (w' : World) : Prop := ∃ (G : Nat) (ns : List (Nat × List Nat)),
  e = .returned (.slice (some ⟨G, 0, none⟩) ns.length ns.length) ∧ ns.length = cnt ∧ w.heap.size ≤ G ∧ Ptrs w' G 0 (ns.map (·.1)) ∧ (∀ c ∈ ns, w.heap.size ≤ c.1 ∧ c.2 ≠ [] ∧ NodeAt d (fun x => (V x ∨ w.heap.size ≤ x) ∧ x < w'.heap.size) w' c.1 c.2) ∧
  ns.flatMap (·.2) = all ∧ Below w.heap.size w w'

/-- Nodes made so far, in the slice of pointers that lies in block G. -/
structure Made (d : Nat) (V : Nat → Prop) (w : World) (G m i : Nat) (wr : World) (ns : List (Nat × List Nat)) : Prop where
  len : ns.length = i
  blk : ∃ cur : Array Value, wr.heap[G]? = some (.cells cur 61 (0, 0)) ∧ cur.size = m ∧ ∀ j, j < i → cur[j]? = some (.pointer (some ⟨ns[j]!.1, 0, none⟩))
  nodes : ∀ c ∈ ns, w.heap.size ≤ c.1 ∧ c.2 ≠ [] ∧ NodeAt d (fun x => (V x ∨ w.heap.size ≤ x) ∧ x < wr.heap.size ∧ x ≠ G) wr c.1 c.2
  bel : Below w.heap.size w wr
theorem Made.add {d : Nat} {V : Nat → Prop} {w wr w' : World} {G m i : Nat} {ns : List (Nat × List Nat)} (h : Made d V w G m i wr ns) (hG : w.heap.size ≤ G) (hGl : G < wr.heap.size) (hi : i < m) (p : Nat) (ks : List Nat) (hp : w.heap.size ≤ p) (hne : ks ≠ []) (hpG : p ≠ G) (hpl : p < w'.heap.size)
    (hn : NodeAt d (fun x => (V x ∨ w.heap.size ≤ x) ∧ x < w'.heap.size ∧ x ≠ G) w' p ks) (hb : Below wr.heap.size wr w') : Made d V w G m (i + 1) (w'.setCell ⟨G, i, none⟩ (.pointer (some ⟨p, 0, none⟩))) (ns ++ [(p, ks)]) := by
  obtain ⟨cur, c1, c2, c3⟩ := h.blk
  have c1' : w'.heap[G]? = some (.cells cur 61 (0, 0)) := (hb.block G hGl).trans c1
  have hsz : (w'.setCell ⟨G, i, none⟩ (.pointer (some ⟨p, 0, none⟩))).heap.size = w'.heap.size := by simp [World.setCell]
  refine ⟨by simp [h.len], ⟨_, setCellB c1' _, by simp [c2], fun j hj => ?_⟩, ?_, (h.bel.trans (hb.mono h.bel.size)).setCell hG _⟩
  · rw [Array.getElem?_setIfInBounds]
    by_cases e : i = j
    · subst e
      rw [if_pos rfl, if_pos (by omega), getElem!_pos (ns ++ [(p, ks)]) i (by simp [h.len])]
      simp [← h.len]
    · have hjl : j < ns.length := by rw [h.len]; omega
      rw [if_neg e, c3 j (by omega), getElem!_pos ns j hjl, getElem!_pos (ns ++ [(p, ks)]) j (by simp; omega), List.getElem_append_left hjl]
  · intro c hc
    rw [List.mem_append] at hc
    rw [hsz]
    rcases hc with hc | hc
    · obtain ⟨q1, q2, q3⟩ := h.nodes c hc
      exact ⟨q1, q2, NodeAt.keep (fun x hx => (Below.heap_setCell _ _ _ _ hx.2.2).trans (hb.block x hx.2.1)) (fun x hx => ⟨hx.1, Nat.lt_of_lt_of_le hx.2.1 hb.size, hx.2.2⟩) d _ _ q3⟩
    · simp only [List.mem_singleton] at hc
      subst hc
      exact ⟨hp, hne, NodeAt.keep (fun x hx => Below.heap_setCell _ _ _ _ hx.2.2) (fun x hx => hx) d _ _ hn⟩
theorem Made.done {d : Nat} {V : Nat → Prop} {w wr : World} {G m : Nat} {ns : List (Nat × List Nat)} (h : Made d V w G m m wr ns) : Ptrs wr G 0 (ns.map (·.1)) ∧ ∀ c ∈ ns, w.heap.size ≤ c.1 ∧ c.2 ≠ [] ∧ NodeAt d (fun x => (V x ∨ w.heap.size ≤ x) ∧ x < wr.heap.size) wr c.1 c.2 := by
  obtain ⟨cur, c1, c2, c3⟩ := h.blk
  refine ⟨fun i hi => ?_, fun c hc => ?_⟩
  · have hi2 : i < ns.length := by simpa using hi
    rw [Nat.zero_add, getElem!_pos _ i hi]
    refine cellB c1 ((c3 i (by rw [← h.len]; exact hi2)).trans ?_)
    rw [getElem!_pos _ i hi2]
    simp
  · obtain ⟨q1, q2, q3⟩ := h.nodes c hc
    exact ⟨q1, q2, NodeAt.keep (fun x hx => rfl) (fun x hx => ⟨hx.1, hx.2.1⟩) d _ _ q3⟩

set_option maxRecDepth 100000 in
set_option maxHeartbeats 2000000 in
theorem groupR_any {w : World} (b o cap : Nat) {V : Nat → Prop} (hVb : V b) (ks : List Nat) (hr : Recs w b o ks) (hne : ks ≠ []) (hcap : ks.length ≤ cap) (hn : ks.length ≤ 1073741824) :
    Calls Yba.prog 24 #[.slice (some ⟨b, o, none⟩) ks.length cap, .int .i64 128, .func (.func 25) #[] #[]] w (Grp 0 V w ((ks.length + 127) / 128) (ks)) := by
  obtain ⟨n, hnn⟩ : ∃ n, n = ks.length := ⟨_, rfl⟩
  have hn0 : 0 < n := by rw [hnn]; exact List.length_pos_iff.2 hne
  rw [← hnn] at hcap hn ⊢
  obtain ⟨m, hm⟩ : ∃ m, m = (n + 127) / 128 := ⟨_, rfl⟩
  have hm0 : 0 < m := by omega
  have hmn : m ≤ n := by omega
  have hmb : m * 128 ≤ n + 127 := by omega
  have hq : ((n : Int) + 128 - 1) / 128 = m := by omega
  have hq2 : ((n : Int) + 128 - 1).tdiv 128 = m := by rw [Int.tdiv_eq_ediv_of_nonneg (by omega)]; omega
  obtain ⟨cur0, hcz, hmk⟩ := make71 w m (by omega)
  have HM := hideB hm; have HN := hideB hnn; have HR := hideB hr
  clear hm hnn hr hne
  have M0 := hideB (show Made 0 V w w.heap.size m 0 (w.alloc (.cells cur0 61)) [] from ⟨rfl, ⟨cur0, heap_alloc_new w _, hcz, fun j hj => by omega⟩, fun c hc => by simp at hc, (Below.refl _ w).alloc (Nat.le_refl _) _⟩)
  have hG0 : w.heap.size < (w.alloc (.cells cur0 61)).heap.size := by simp
  go_enter Yba.func24, Yba.ntmps24
  go_wp2_with fail
  clear hmk hcz
  generalize (w.alloc (.cells cur0 61)) = W at M0 hG0 ⊢
  generalize hGe : w.heap.size = G at M0 hG0 ⊢
  have HG := hideB hGe
  clear hGe
  go_loopw [21] (fun s21 wr => ∃ (i : Nat) (ns : List (Nat × List Nat)), s21 = .int .i64 i ∧ i ≤ m ∧ Made 0 V w G m i wr ns ∧ G < wr.heap.size ∧ ns.flatMap (·.2) = ks.take (i * n / m)) (fun s21 _ => m - (intOf s21).toNat)
  case atStart => exact ⟨0, [], rfl, by omega, unhideB M0, hG0, by simp⟩
  case round =>
    obtain ⟨i, ns, rfl, him, hmade, hGl, hflat⟩ := hrel
    have MD := hideB hmade; have HFL := hideB hflat
    by_cases hlt : i < m
    · have hlt' : (i : Int) < m := by omega
      obtain ⟨lo, hlo⟩ : ∃ lo, lo = i * n / m := ⟨_, rfl⟩
      obtain ⟨hi, hhi⟩ : ∃ hi, hi = (i + 1) * n / m := ⟨_, rfl⟩
      have hlh : lo < hi := by rw [hlo, hhi]; exact cut_lt i n m hm0 hmn
      have hhn : hi ≤ n := by rw [hhi]; exact cut_le (i + 1) n m hm0 (by omega)
      have hib : (i + 1) * n ≤ 4611686018427387904 := by
        have h1 : (i + 1) * n ≤ m * n := Nat.mul_le_mul_right n (by omega)
        have h2 : m * n ≤ 1073741824 * 1073741824 := Nat.mul_le_mul (by omega) hn
        omega
      have hib2 : i * n ≤ (i + 1) * n := Nat.mul_le_mul_right n (by omega)
      obtain ⟨P1, hP1⟩ : ∃ P1, P1 = i * n := ⟨_, rfl⟩
      obtain ⟨P2, hP2⟩ : ∃ P2, P2 = (i + 1) * n := ⟨_, rfl⟩
      rw [← hP1] at hlo hib2
      rw [← hP2] at hhi hib hib2
      have e1 : (i : Int) * n = P1 := by rw [hP1]; simp
      obtain ⟨I1, hI1⟩ : ∃ I1, I1 = i + 1 := ⟨_, rfl⟩
      have e0 : (i : Int) + 1 = I1 := by omega
      have wI : IntKind.i64.wrap (I1 : Int) = I1 := wrapN I1 (by omega)
      have e2 : (I1 : Int) * n = P2 := by rw [hP2, hI1]; simp
      clear hI1
      have d1 : (P1 : Int) / m = lo := by rw [hlo]; simp
      have d1' : (P1 : Int).tdiv m = lo := by rw [Int.tdiv_eq_ediv_of_nonneg (by omega)]; exact d1
      have d2 : (P2 : Int) / m = hi := by rw [hhi]; simp
      have d2' : (P2 : Int).tdiv m = hi := by rw [Int.tdiv_eq_ediv_of_nonneg (by omega)]; exact d2
      have hmz : ¬ ((m : Int) = 0) := by omega
      have hd0 : ¬ (hi - lo = 0) := by omega
      have hd1 : ¬ (hi ≤ lo) := by omega
      have hd2 : ¬ (hi = lo) := by omega
      have hmz2 : ¬ (m = 0) := by omega
      have dn1 : P1 / m = lo := hlo.symm
      have dn2 : P2 / m = hi := hhi.symm
      have w1 : IntKind.i64.wrap (P1 : Int) = P1 := by simp [IntKind.wrap, IntKind.bits, IntKind.signed]; omega
      have w2 : IntKind.i64.wrap (P2 : Int) = P2 := by simp [IntKind.wrap, IntKind.bits, IntKind.signed]; omega
      have w3 : IntKind.i64.wrap (lo : Int) = lo := wrapN lo (by omega)
      have w4 : IntKind.i64.wrap (hi : Int) = hi := wrapN hi (by omega)
      have hlc : (hi : Int) ≤ cap := by omega
      have hlh' : (lo : Int) ≤ hi := by omega
      have HLH := hideB (And.intro (show i * n / m = lo by rw [hlo, hP1]) (show (i + 1) * n / m = hi by rw [hhi, hP2]))
      clear hlo hhi hP1 hP2 hflat
      obtain ⟨cur, c1, c2, c3⟩ := hmade.blk
      clear c3 hmade
      obtain ⟨u, hu⟩ : ∃ u, cur[i]? = some u := ⟨cur[i]'(by omega), Array.getElem?_eq_getElem (by omega)⟩
      have hcell : wr.cell? ⟨G, i, none⟩ = some u := cellB c1 hu
      have hfr : wr.frozen? ⟨G, i, none⟩ = false := freeB c1
      clear c1 c2 hu
      have hNC : ∀ W, Below wr.heap.size wr W → Calls Yba.prog 25 #[.slice (some ⟨b, o + lo * 33, none⟩) (hi - lo) (hi - lo)] W fun e w' => ∃ p, e = .returned (.pointer (some ⟨p, 0, none⟩)) ∧ W.heap.size ≤ p ∧ p < w'.heap.size ∧ Below W.heap.size W w' ∧ NodeAt 0 (fun x => (V x ∨ w.heap.size ≤ x) ∧ x < w'.heap.size ∧ x ≠ G) w' p (ck ks lo hi) := by
        intro W hW
        have hrw : Recs W b (o + lo * 33) (ck ks lo hi) := ((unhideB HR).cut lo hi (by omega) (by rw [← unhideB HN]; exact hhn)).later ((unhideB MD).bel.trans (hW.mono (unhideB MD).bel.size))
        have hcl := ck_len ks lo hi (by omega) (by rw [← unhideB HN]; exact hhn)
        have hbG : b ≠ G := by
          have := ((unhideB HR) 0 (by rw [← unhideB HN]; exact hn0)).lt
          have := unhideB HG
          omega
        have hbl : b < W.heap.size := by
          have := ((unhideB HR) 0 (by rw [← unhideB HN]; exact hn0)).lt
          have := (unhideB MD).bel.size
          have := hW.size
          omega
        have h := newLeaf_any (w := W) b (o + lo * 33) (hi - lo) (ck ks lo hi) (by intro e; rw [e] at hcl; simp at hcl; omega) (by omega) hrw (by omega)
        rw [hcl] at h
        refine h.mono ?_
        rintro e w' ⟨p, rfl, h1, h2, h3, h4⟩
        exact ⟨p, rfl, h1, h2, h4, h3 _ ⟨.inr (by have := hW.size; have := (unhideB MD).bel.size; omega), h2, by have := hW.size; omega⟩ ⟨.inl hVb, by have := h4.size; omega, hbG⟩⟩
      have hNE : ck ks lo hi ≠ [] := by
        have hcl := ck_len ks lo hi (by omega) (by rw [← unhideB HN]; exact hhn)
        intro e; rw [e] at hcl; simp at hcl; omega
      have HNC := hideB hNC; have HNE2 := hideB hNE
      clear hNC hNE
      obtain ⟨W0, rfl⟩ : ∃ W0, W0 = wr := ⟨_, rfl⟩
      go_wp2_with fail
      refine wp_region_gr (by kernel_rfl) (by kernel_rfl) ?_
      repeat (quiet_step (fail))
      refine wpQuiet_nil ?_
      intro w5 hw5
      obtain ⟨p1, rfl⟩ := hw5
      have HBG := hideB (gr_below W0 p1)
      have hGl2 : G < (gr W0 p1).heap.size := Nat.lt_of_lt_of_le hGl (gr_below W0 p1).size
      have hcell2 : (gr W0 p1).cell? ⟨G, i, none⟩ = some u := gr_cell hcell p1
      have hfr2 : (gr W0 p1).frozen? ⟨G, i, none⟩ = false := (World.frozen?_of_block (a := ⟨G, i, none⟩) ((gr_below W0 p1).block G hGl)).trans hfr
      generalize gr W0 p1 = W1 at HBG hGl2 hcell2 hfr2 ⊢
      clear hcell hfr d1 d1' d2 d2' dn1 dn2 e0 e1 e2 w1 w2 wI hib hib2
      go_wp2_with fail
      refine (unhideB HNC _ (unhideB HBG)).mono ?_
      rintro e w' ⟨p, rfl, hp1, hp2, hbel, hnode⟩
      have hcell3 : w'.cell? ⟨G, i, none⟩ = some u := (World.cell?_of_block (a := ⟨G, i, none⟩) (hbel.block G hGl2)).trans hcell2
      have hfr3 : w'.frozen? ⟨G, i, none⟩ = false := (World.frozen?_of_block (a := ⟨G, i, none⟩) (hbel.block G hGl2)).trans hfr2
      have HBEL := hideB hbel; have HNO := hideB hnode
      clear hbel hnode hcell2 hfr2
      go_wp2_with fail
      have hMA := (unhideB MD).add (by rw [unhideB HG]; exact Nat.le_refl _) hGl hlt p (ck ks lo hi) (by have := unhideB HG; have := (unhideB HBG).size; omega) (unhideB HNE2) (by omega) hp2 (unhideB HNO) ((unhideB HBG).trans ((unhideB HBEL).mono (unhideB HBG).size))
      refine ⟨⟨i + 1, _, by simp, by omega, hMA, by have := (unhideB HBEL).size; simp [World.setCell]; omega, ?_⟩, by simp [intOf]; omega⟩
      rw [List.flatMap_append, unhideB HFL, (unhideB HLH).1, (unhideB HLH).2]
      simp only [List.flatMap_cons, List.flatMap_nil, List.append_nil]
      exact ck_take ks lo hi (by omega)
    · have hlt' : ¬ ((i : Int) < m) := by omega
      go_wp2_with fail
      go_ret
      have him2 : i = m := by omega
      subst him2
      have hdn := (unhideB MD).done
      have hl2 := (unhideB MD).len
      have hgs := unhideB HG
      refine ⟨G, ns, by rw [hl2]; rfl, by rw [hl2, unhideB HM], by rw [hgs]; exact Nat.le_refl _, hdn.1, hdn.2, ?_, (unhideB MD).bel⟩
      rw [unhideB HFL, cut_all n _ hm0, unhideB HN, List.take_length]
end Go.Proofs.Ybulkqhs
