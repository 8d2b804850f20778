import Derived.Test.YbulkqhsB29
import Derived.LaidEqlPtr
namespace Go.Proofs.Ybulkqhs
open Go.RowKit
set_option linter.unusedVariables false
set_option linter.unusedSimpArgs false
attribute [local go_sem ↓] exec_store34 exec_load34 exec_box34 exec_build78 exec_box78 exec_load70
attribute [local go_sem] run_box34 run_box78 eql34_run neq34_run guard34

/-- A block of cells that may be written. -/
def Blk (w : World) (x : Nat) : Prop := ∃ ca ta, w.heap[x]? = some (.cells ca ta (0, 0))
theorem Blk.keep {w w' : World} {x : Nat} (h : Blk w x) (hb : w'.heap[x]? = w.heap[x]?) : Blk w' x := by
  obtain ⟨ca, ta, h⟩ := h; exact ⟨ca, ta, hb.trans h⟩
theorem Blk.lt {w : World} {x : Nat} (h : Blk w x) : x < w.heap.size := by obtain ⟨_, _, h⟩ := h; exact ltB h
theorem NB.blk {w : World} {p f N c : Nat} {v cv : Value} (h : NB w p f N c v cv) : Blk w p := ⟨_, _, h⟩
theorem eqPtr {w : World} {tp te : TypeId} {j : TypeInfo} {x y : Nat} (hp : Yba.prog.underlying tp = some (.pointer te)) (hte : Yba.prog.info? te = some j) (hsz : j.size ≠ 0) (ha : Blk w x) (hb : Blk w y) :
    (Op.equal tp (.pointer (some ⟨x, 0, none⟩)) (.pointer (some ⟨y, 0, none⟩))).run Yba.prog w = .ok (decide (x = y)) w := by
  have h : ∀ d : Nat, (Op.equalIn (d + 1) tp (.pointer (some ⟨x, 0, none⟩)) (.pointer (some ⟨y, 0, none⟩))).run Yba.prog w = .ok (decide (x = y)) w := fun d => by
    by_cases e : x = y
    · subst e
      simp [Op.equalIn, run_underlying hp, sizeOf, typeInfo, hte, run_sameAddr_same]
    · obtain ⟨ca, ta, ha⟩ := ha
      obtain ⟨cb, tb, hb⟩ := hb
      simp [Op.equalIn, run_underlying hp, sizeOf, typeInfo, hte, hsz, run_sameAddr_other w (a := ⟨x, 0, none⟩) (b := ⟨y, 0, none⟩) (by simp [e]) ha hb, e]
  exact h 9999
theorem Yba.size78 : ∃ j, Yba.prog.info? 78 = some j ∧ j.size ≠ 0 := by
  have h : (Yba.prog.info? 78).map (·.size) = some 41 := by kernel_rfl
  cases hi : Yba.prog.info? 78 with
  | none => rw [hi] at h; cases h
  | some j => rw [hi] at h; simp at h; exact ⟨j, rfl, by omega⟩
theorem Yba.size63 : ∃ j, Yba.prog.info? 63 = some j ∧ j.size ≠ 0 := by
  have h : (Yba.prog.info? 63).map (·.size) = some 1 := by kernel_rfl
  cases hi : Yba.prog.info? 63 with
  | none => rw [hi] at h; cases h
  | some j => rw [hi] at h; simp at h; exact ⟨j, rfl, by omega⟩
theorem ne61 {w : World} {x y : Nat} (ha : Blk w x) (hb : Blk w y) : (binOp .neq 61 (.pointer (some ⟨x, 0, none⟩)) (.pointer (some ⟨y, 0, none⟩))).run Yba.prog w = .ok (.bool (!decide (x = y))) w := by
  obtain ⟨j, h1, h2⟩ := Yba.size78
  simp only [binOp]
  simp [eqPtr Yba.underlying61 h1 h2 ha hb]
theorem eq57 {w : World} {x y : Nat} (ha : Blk w x) (hb : Blk w y) : (binOp .eql 57 (.pointer (some ⟨x, 0, none⟩)) (.pointer (some ⟨y, 0, none⟩))).run Yba.prog w = .ok (.bool (decide (x = y))) w := by
  obtain ⟨j, h1, h2⟩ := Yba.size63
  simp only [binOp]
  simp [eqPtr Yba.underlying57 h1 h2 ha hb]

theorem list_eq_get {ps qs : List Nat} (hl : ps.length = qs.length) (h : ∀ j, j < ps.length → ps[j]! = qs[j]!) : ps = qs := by
  apply List.ext_getElem hl
  intro i h1 h2
  have := h i h1
  rwa [getElem!_pos ps i h1, getElem!_pos qs i h2] at this

set_option maxRecDepth 100000 in
set_option maxHeartbeats 1000000 in
theorem equalN_any {w : World} {b1 o1 c1 b2 o2 c2 : Nat} {ps qs : List Nat} (h1 : Ptrs w b1 o1 ps) (h2 : Ptrs w b2 o2 qs) (hbp : ∀ x ∈ ps, Blk w x) (hbq : ∀ x ∈ qs, Blk w x) (hp : ps.length ≤ 1099511627776) (hq : qs.length ≤ 1099511627776) :
    Calls Yba.prog 44 #[.slice (some ⟨b1, o1, none⟩) ps.length c1, .slice (some ⟨b2, o2, none⟩) qs.length c2] w fun e w' => e = .returned (.bool (decide (ps = qs))) ∧ Below w.heap.size w w' := by
  obtain ⟨n, hn⟩ : ∃ n, n = ps.length := ⟨_, rfl⟩
  obtain ⟨m, hm⟩ : ∃ m, m = qs.length := ⟨_, rfl⟩
  rw [← hn] at hp
  rw [← hm] at hq
  rw [← hn, ← hm]
  by_cases hnm : n = m
  · subst hnm
    have HN := hideB hn; have HM := hideB hm; have H1 := hideB h1; have H2 := hideB h2
    clear hn hm h1 h2
    go_enter Yba.func44, Yba.ntmps44
    go_wp2_with fail
    go_loopw [13] (fun s13 wr => ∃ i : Nat, s13 = .int .i64 i ∧ i ≤ n ∧ (∀ j, j < i → ps[j]! = qs[j]!) ∧ Below w.heap.size w wr) (fun s13 _ => n - (intOf s13).toNat)
    case atStart => exact ⟨0, rfl, by omega, fun j hj => by omega, Below.refl _ _⟩
    case round =>
      obtain ⟨i, rfl, hin, heq, hbel⟩ := hrel
      have HEQ := hideB heq; have HBL := hideB hbel
      by_cases hlt : i < n
      · have hlt' : (i : Int) < n := by omega
        have hip : i < ps.length := by rw [← unhideB HN]; exact hlt
        have hiq : i < qs.length := by rw [← unhideB HM]; exact hlt
        have k1 : wr.cell? ⟨b1, o1 + i, none⟩ = some (.pointer (some ⟨ps[i]!, 0, none⟩)) := ((unhideB H1).of_block (hbel.block b1 ((unhideB H1).lt (by intro e; rw [e] at hip; simp at hip)))) i hip
        have k2 : wr.cell? ⟨b2, o2 + i, none⟩ = some (.pointer (some ⟨qs[i]!, 0, none⟩)) := ((unhideB H2).of_block (hbel.block b2 ((unhideB H2).lt (by intro e; rw [e] at hiq; simp at hiq)))) i hiq
        have g1 : ∀ p', (gr wr p').cell? ⟨b1, o1 + i, none⟩ = some (.pointer (some ⟨ps[i]!, 0, none⟩)) := fun p' => gr_cell k1 p'
        have g2 : ∀ p', (gr wr p').cell? ⟨b2, o2 + i, none⟩ = some (.pointer (some ⟨qs[i]!, 0, none⟩)) := fun p' => gr_cell k2 p'
        have hxb : Blk wr ps[i]! := (hbp _ (by rw [getElem!_pos ps i hip]; exact List.getElem_mem _)).keep (hbel.block _ (hbp _ (by rw [getElem!_pos ps i hip]; exact List.getElem_mem _)).lt)
        have hyb : Blk wr qs[i]! := (hbq _ (by rw [getElem!_pos qs i hiq]; exact List.getElem_mem _)).keep (hbel.block _ (hbq _ (by rw [getElem!_pos qs i hiq]; exact List.getElem_mem _)).lt)
        have ne : ∀ p', (binOp .neq 61 (.pointer (some ⟨ps[i]!, 0, none⟩)) (.pointer (some ⟨qs[i]!, 0, none⟩))).run Yba.prog (gr wr p') = .ok (.bool (!decide (ps[i]! = qs[i]!))) (gr wr p') := fun p' => ne61 (hxb.keep ((gr_below wr p').block _ hxb.lt)) (hyb.keep ((gr_below wr p').block _ hyb.lt))
        obtain ⟨x, hx⟩ : ∃ x, x = ps[i]! := ⟨_, rfl⟩
        obtain ⟨y, hy⟩ : ∃ y, y = qs[i]! := ⟨_, rfl⟩
        rw [← hx] at g1
        rw [← hy] at g2
        rw [← hx, ← hy] at ne
        have HX := hideB hx; have HY := hideB hy
        clear hx hy k1 k2 heq hbel hip hiq hxb hyb
        by_cases hxy : x = y
        · subst hxy
          go_wp2_with fail
          refine wp_region_gr (by kernel_rfl) (by kernel_rfl) ?_
          repeat (quiet_step (fail))
          refine wpQuiet_nil ?_
          intro w5 hw5
          obtain ⟨p5, rfl⟩ := hw5
          go_wp2_with fail
          refine ⟨⟨i + 1, by simp, by omega, fun j hj => ?_, (unhideB HBL).trans ((gr_below wr p5).mono (unhideB HBL).size)⟩, by simp [intOf]; omega⟩
          by_cases e : j = i
          · subst e; rw [← unhideB HX, ← unhideB HY]
          · exact unhideB HEQ j (by omega)
        · go_wp2_with fail
          refine wp_region_gr (by kernel_rfl) (by kernel_rfl) ?_
          repeat (quiet_step (fail))
          refine wpQuiet_nil ?_
          intro w5 hw5
          obtain ⟨p5, rfl⟩ := hw5
          go_wp2_with fail
          go_ret
          refine ⟨?_, (unhideB HBL).trans ((gr_below wr p5).mono (unhideB HBL).size)⟩
          have : decide (ps = qs) = false := by
            rw [decide_eq_false_iff_not]
            intro e
            apply hxy
            rw [unhideB HX, unhideB HY, e]
          rw [this]
          rfl
      · have hlt' : ¬ ((i : Int) < n) := by omega
        clear heq hbel
        go_wp2_with fail
        go_ret
        refine ⟨?_, unhideB HBL⟩
        have : decide (ps = qs) = true := by
          rw [decide_eq_true_iff]
          exact list_eq_get (by rw [← unhideB HN, ← unhideB HM]) fun j hj => unhideB HEQ j (by rw [← unhideB HN] at hj; omega)
        rw [this]
        rfl
  · have hnm' : ¬ ((n : Int) = m) := by omega
    have hd : decide (ps = qs) = false := by
      rw [decide_eq_false_iff_not]
      intro e
      apply hnm
      rw [hn, hm, e]
    rw [hd]
    clear hn hm h1 h2 hd
    go_enter Yba.func44, Yba.ntmps44
    go_wp2_with fail
    go_ret
    exact ⟨rfl, Below.refl _ _⟩

theorem shares_any (p : Nat) (v : Value) (hv : ∃ a m c, v = .slice a m c) (w : World) : Calls Yba.prog 43 #[.pointer (some ⟨p, 0, none⟩), v] w fun e w' => e = .returned (.func (.func 55) #[] #[.pointer (some ⟨w.heap.size, 0, none⟩), .pointer (some ⟨w.heap.size + 1, 0, none⟩)]) ∧ w' = (w.alloc (.cells #[.pointer (some ⟨p, 0, none⟩)] 61)).alloc (.cells #[v] 56) := by
  obtain ⟨a, m, c, rfl⟩ := hv
  go_enter Yba.func43, Yba.ntmps43
  go_wp2_with fail
  go_ret
  exact ⟨by simp, rfl⟩

/-! ### Rows of pointers to nodes -/
def ptrL (ps : List Nat) : List Value := ps.map fun p => .pointer (some ⟨p, 0, none⟩)
theorem ptrL_len (ps : List Nat) : (ptrL ps).length = ps.length := by simp [ptrL]
theorem ptrL_append (a b : List Nat) : ptrL (a ++ b) = ptrL a ++ ptrL b := by simp [ptrL]
theorem ptrL_one (ps : List Nat) : ∀ v ∈ ptrL ps, v.oneCell' = true := by
  intro v hv
  simp only [ptrL, List.mem_map] at hv
  obtain ⟨p, _, rfl⟩ := hv
  rfl
/-- A row of our own, in block g. -/
def PRow (w : World) (g cap : Nat) (ps : List Nat) : Prop := ∃ cur : Array Value, w.heap[g]? = some (.cells cur 61 (0, 0)) ∧ ps.length ≤ cap ∧ cap ≤ maxLen ∧ cur.size = cap ∧ cur.toList.take ps.length = ptrL ps
theorem PRow.keep {w w' : World} {g cap : Nat} {ps : List Nat} (h : PRow w g cap ps) (hb : w'.heap[g]? = w.heap[g]?) : PRow w' g cap ps := by
  obtain ⟨cur, h1, h2⟩ := h
  exact ⟨cur, hb.trans h1, h2⟩
theorem PRow.own {w : World} {g cap : Nat} {ps : List Nat} (h : PRow w g cap ps) : w.ownsRow g 61 1 (.slice (some ⟨g, 0, none⟩) ps.length cap) ps.length (ptrL ps) := by
  obtain ⟨cur, h1, h2, h3, h4, h5⟩ := h
  exact ⟨by rw [ptrL_len]; omega, .inr ⟨g, cap, cur, rfl, Nat.le_refl _, h1, h2, h3, by omega, by rw [Nat.mul_one]; exact h5⟩⟩
theorem PRow.ptrs {w : World} {g cap : Nat} {ps : List Nat} (h : PRow w g cap ps) : Ptrs w g 0 ps := by
  obtain ⟨cur, h1, h2, h3, h4, h5⟩ := h
  intro i hi
  refine cellB h1 ?_
  have : (ptrL ps)[i]? = some (.pointer (some ⟨ps[i]!, 0, none⟩)) := by
    rw [ptrL, List.getElem?_map, List.getElem?_eq_getElem hi, getElem!_pos ps i hi]; rfl
  rw [← h5, List.getElem?_take, if_pos hi] at this
  rw [Nat.zero_add]
  simpa using this
theorem Ptrs.cells {w : World} {b o : Nat} {ps : List Nat} (h : Ptrs w b o ps) : ∀ j u, (ptrL ps)[j]? = some u → w.cell? ⟨b, o + j, none⟩ = some u := by
  intro j u hu
  have hj : j < ps.length := by have := (List.getElem?_eq_some_iff.1 hu).1; rwa [ptrL_len] at this
  rw [ptrL, List.getElem?_map, List.getElem?_eq_getElem hj] at hu
  simp only [Option.map_some, Option.some.injEq] at hu
  rw [← hu, h j hj, getElem!_pos ps j hj]

def ap71 (ty : TypeId) (args : Array Value) : Sem Value := Builtin.append_ #[71, 71] ty args
theorem to_ap71 (ty : TypeId) (args : Array Value) : Builtin.append_ #[71, 71] ty args = ap71 ty args := rfl

/-- append at pointers: the row stays or is laid anew. -/
theorem app71 {w : World} {g cap : Nat} {ps qs : List Nat} (h : PRow w g cap ps) (ty : TypeId) (b o c : Nat) (hq : Ptrs w b o qs) (hl : ps.length + qs.length ≤ 1073741824) :
    ∃ g' cap' w', (ap71 ty #[.slice (some ⟨g, 0, none⟩) ps.length cap, .slice (some ⟨b, o, none⟩) qs.length c]).run Yba.prog w = .ok (.slice (some ⟨g', 0, none⟩) (ps.length + qs.length) cap') w' ∧ PRow w' g' cap' (ps ++ qs) ∧ (g' = g ∨ w.heap.size ≤ g') ∧
      w.heap.size ≤ w'.heap.size ∧ (∀ k, k < w.heap.size → k ≠ g → w'.heap[k]? = w.heap[k]?) ∧ w'.os = w.os ∧ w'.tape = w.tape ∧ w'.output = w.output := by
  obtain ⟨i0, hi, hz0, hz1, hz2⟩ := info_parts Yba.info61
  have hz1 : i0.size = 1 := hz1
  have hz2 : i0.bytes = 8 := hz2
  have hptr := h.ptrs
  obtain ⟨v', w', hr, h2, h3, hnil⟩ := run_append_own (P := Yba.prog) w 0 71 ty 61 i0 (.pointer none) 1 8 Yba.underlying71 hi hz0 hz1 hz2 rfl (by decide) _ _ _ (⟨h.own.1, by
    rcases h.own.2 with hh | ⟨g1, c1, cur, q1, _, q2⟩
    · exact .inl hh
    · exact .inr ⟨g1, c1, cur, q1, Nat.zero_le _, q2⟩⟩ : w.ownsRow 0 61 1 (.slice (some ⟨g, 0, none⟩) ps.length cap) ps.length (ptrL ps)) ⟨b, o, none⟩ qs.length c (ptrL qs) (by rw [ptrL_len]; omega) (fun j u hu => by rw [Addr.add_none]; exact hq.cells j u hu) (ptrL_one qs) (by unfold maxLen; omega) (by omega) (Nat.zero_le _)
  rcases h2.2 with ⟨rfl, hn⟩ | ⟨g', cap', cur', rfl, _, q3, q4, q5, q6, q7⟩
  · simp at hnil
  · refine ⟨g', cap', w', hr, ⟨cur', q3, by rw [List.length_append]; exact q4, q5, by omega, by rw [List.length_append, ptrL_append, ← Nat.mul_one (ps.length + qs.length)]; exact q7⟩, ?_, h3.size, fun k hk hne => h3.block k hk (by simp [Value.ownBlock]; exact hne), h3.os, h3.tape, h3.output⟩
    obtain ⟨cur, p1, p2, p3, p4, p5⟩ := h
    by_cases hroom : ps.length + qs.length ≤ cap
    · have hr2 := run_append_room (P := Yba.prog) w 71 ty 61 i0 Yba.underlying71 hi g ps.length cap cur p1 ⟨b, o, none⟩ qs.length c (ptrL qs) (by rw [ptrL_len, hz1]; omega) (fun j u hu => by rw [Addr.add_none]; exact hq.cells j u hu) (ptrL_one qs) hroom (by rw [ptrL_len, hz1]; omega)
      rw [hr2] at hr
      simp only [Result.ok.injEq, Value.slice.injEq, Option.some.injEq, Addr.mk.injEq] at hr
      exact .inl hr.1.1.1.symm
    · have hr2 := run_append_grow (P := Yba.prog) w 71 ty 61 i0 (.pointer none) Yba.underlying71 hi hz0 ⟨g, 0, none⟩ ps.length cap (ptrL ps) (by rw [ptrL_len, hz1]; omega) (fun j u hu => by rw [Addr.add_none]; exact hptr.cells j u hu) ⟨b, o, none⟩ qs.length c (ptrL qs) (by rw [ptrL_len, hz1]; omega) (fun j u hu => by rw [Addr.add_none]; exact hq.cells j u hu) (by omega) (by omega) (by rw [hz2]; exact growslice_fits (by omega) (by omega))
      rw [hr2] at hr
      simp only [Result.ok.injEq, Value.slice.injEq, Option.some.injEq, Addr.mk.injEq] at hr
      exact .inr (Nat.le_of_eq hr.1.1.1)
end Go.Proofs.Ybulkqhs
