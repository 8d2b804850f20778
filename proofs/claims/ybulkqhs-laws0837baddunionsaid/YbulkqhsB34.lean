import Derived.Test.YbulkqhsB33
namespace Go.Proofs.Ybulkqhs
open Go.RowKit
set_option linter.unusedVariables false
set_option linter.unusedSimpArgs false
attribute [local go_sem ↓] exec_store34 exec_load34 exec_box34 exec_build78 exec_box78 exec_load70
attribute [local go_sem] run_box34 run_box78 eql34_run neq34_run guard34 eqNil71
attribute [local go_sem ↓] to_ap71

theorem make71z (w : World) (n : Nat) (hm : n + 1 ≤ 1099511627776) : ∃ cur : Array Value, cur.size = n + 1 ∧
    (Instr.makeSlice 71 (.int .i64 0) (.int .i64 ((n : Int) + 1))).run Yba.prog w = .ok (.slice (some ⟨w.heap.size, 0, none⟩) 0 (n + 1)) (w.alloc (.cells cur 61)) := by
  obtain ⟨i0, hi, hz0, hz1, hz2⟩ := info_parts Yba.info61
  have hz1 : i0.size = 1 := hz1
  have hz2 : i0.bytes = 8 := hz2
  have h := run_make w 71 61 i0 (.pointer none) Yba.underlying71 hi hz0 .i64 .i64 0 ((n : Int) + 1) (by omega) (by omega) (by rw [hz2]; omega) (by omega)
  rw [show ((n : Int) + 1).toNat = n + 1 by omega, hz1, Nat.mul_one] at h
  exact ⟨_, size_madeCells _ _, h⟩

/-- Between two rounds of add's loop. -/
structure JJ (d S0 S : Nat) (w0 : World) (cs : List (Nat × List Nat)) (bs : List Nat) (ss : List (List Nat)) (W : World) (rs : List (List (Nat × List Nat))) (g cap : Nat) : Prop where
  low : S0 ≤ S
  size : S + 4 ≤ W.heap.size
  len : rs.length = ss.length
  box : Boxed W (S + 1) 71 (.slice (some ⟨g, 0, none⟩) rs.flatten.length cap)
  row : PRow W g cap (rs.flatten.map (·.1))
  loc : g = S ∨ S + 6 ≤ g
  nodes : ∀ r ∈ rs.flatten, r.2 ≠ [] ∧ NodeAt d (fun x => x < S0 ∨ (S + 6 ≤ x ∧ x < W.heap.size ∧ x ≠ g)) W r.1 r.2
  res : ∀ i, i < ss.length → Uni cs[i]!.2 ss[i]! (rs[i]!.flatMap (·.2)) ∧ (((∀ x ∈ ss[i]!, x ∈ cs[i]!.2) ∧ rs[i]! = [cs[i]!]) ∨ ((∃ x ∈ ss[i]!, x ∉ cs[i]!.2) ∧ ∀ c ∈ rs[i]!, S ≤ c.1))
  cut : ∀ i, i < ss.length → ∃ rest, (ss.take (i + 1)).flatten ++ rest = bs ∧ Cut cs i ss[i]! rest
  lenb : (rs.flatten.flatMap (·.2)).length ≤ ((cs.take ss.length).flatMap (·.2)).length + ss.flatten.length
  bel : Below S w0 W

theorem JJ.keep {d S0 S : Nat} {w0 : World} {cs : List (Nat × List Nat)} {bs : List Nat} {ss : List (List Nat)} {W W' : World} {rs : List (List (Nat × List Nat))} {g cap : Nat} (h : JJ d S0 S w0 cs bs ss W rs g cap)
    (hsz : W.heap.size ≤ W'.heap.size) (hb : ∀ x, x < W.heap.size → x ≠ S + 3 → x ≠ S + 5 → W'.heap[x]? = W.heap[x]?) (h1 : W'.os = W.os) (h2 : W'.tape = W.tape) (h3 : W'.output = W.output) : JJ d S0 S w0 cs bs ss W' rs g cap := by
  have hlw := h.low
  have hs := h.size
  have hgl : g < W.heap.size := by obtain ⟨cur, q, _⟩ := h.row; exact ltB q
  have hg3 : g ≠ S + 3 := by rcases h.loc with e | e <;> omega
  have hg5 : g ≠ S + 5 := by rcases h.loc with e | e <;> omega
  refine ⟨h.low, by omega, h.len, (hb (S + 1) (by omega) (by omega) (by omega)).trans h.box, h.row.keep (hb g hgl hg3 hg5), h.loc, fun r hr => ⟨(h.nodes r hr).1, ?_⟩, h.res, h.cut, h.lenb, ?_⟩
  · refine NodeAt.keep (fun x hx => ?_) (fun x hx => ?_) d _ _ (h.nodes r hr).2
    · rcases hx with hx | hx
      · exact hb x (by omega) (by omega) (by omega)
      · exact hb x hx.2.1 (by omega) (by omega)
    · rcases hx with hx | hx
      · exact .inl hx
      · exact .inr ⟨hx.1, by omega, hx.2.2⟩
  · exact h.bel.trans ⟨h1, h2, h3, hsz, fun x hx => hb x (by omega) (by omega) (by omega)⟩

def JR (d S0 S : Nat) (w0 : World) (cs : List (Nat × List Nat)) (bs : List Nat) (ss : List (List Nat)) (W : World) : Prop := ∃ rs g cap, JJ d S0 S w0 cs bs ss W rs g cap
theorem JR.abd (d S0 S : Nat) (w0 : World) (cs : List (Nat × List Nat)) (bs : List Nat) : Abd (S + 3) (S + 4) (JR d S0 S w0 cs bs) where
  cell := by
    rintro ss W v ⟨rs, g, cap, h⟩
    exact ⟨rs, g, cap, h.keep (by simp [World.setCell]) (fun x hx h1 _ => Below.heap_setCell _ _ _ _ h1) rfl rfl rfl⟩
  grow := by
    rintro ss W W' ⟨rs, g, cap, h⟩ hb
    exact ⟨rs, g, cap, h.keep hb.size (fun x hx _ _ => hb.block x hx) hb.os hb.tape hb.output⟩
  loop := by
    rintro ss W o o' ⟨rs, g, cap, h⟩ _
    exact ⟨rs, g, cap, h.keep (Nat.le_of_eq (putObj_size _ _ _).symm) (fun x hx _ h2 => World.putObj_heap_other h2) rfl rfl rfl⟩

theorem all_one : ∀ {cs : List (Nat × List Nat)} {rs : List (List (Nat × List Nat))}, rs.length = cs.length → (∀ i, i < rs.length → rs[i]! = [cs[i]!]) → rs.flatten = cs
  | [], [], _, _ => rfl
  | c :: cs, r :: rs, h, h2 => by
    have h0 := h2 0 (by simp)
    simp only [List.getElem!_cons_zero] at h0
    rw [List.flatten_cons, h0, all_one (by simpa using h) (fun i hi => by simpa using h2 (i + 1) (by simpa using hi))]
    rfl
  | [], _ :: _, h, _ => by simp at h
  | _ :: _, [], h, _ => by simp at h
theorem flat_snoc (rs : List (List (Nat × List Nat))) (ns : List (Nat × List Nat)) : (rs ++ [ns]).flatten = rs.flatten ++ ns := by simp
theorem get_snoc_lt {α : Type} [Inhabited α] (l : List α) (x : α) (i : Nat) (hi : i < l.length) : (l ++ [x])[i]! = l[i]! := by
  rw [getElem!_pos _ i (by simp; omega), getElem!_pos l i hi, List.getElem_append_left hi]
theorem get_snoc_eq {α : Type} [Inhabited α] (l : List α) (x : α) (i : Nat) (hi : i = l.length) : (l ++ [x])[i]! = x := by
  subst hi
  rw [getElem!_pos _ _ (by simp)]
  simp
theorem JJ.step {d S0 S : Nat} {w0 : World} {cs : List (Nat × List Nat)} {bs : List Nat} {ss : List (List Nat)} {W W1 W2 : World} {rs : List (List (Nat × List Nat))} {g cap g' cap' : Nat} (h : JJ d S0 S w0 cs bs ss W rs g cap) (hi : ss.length < cs.length)
    (hW : S + 6 ≤ W.heap.size) (share : List Nat) (ns : List (Nat × List Nat)) (hb1 : Below W.heap.size W W1) (hrow2 : PRow W2 g' cap' (rs.flatten.map (·.1) ++ ns.map (·.1))) (hg' : g' = g ∨ W1.heap.size ≤ g') (hsz2 : W1.heap.size ≤ W2.heap.size)
    (hblk2 : ∀ k, k < W1.heap.size → k ≠ g → W2.heap[k]? = W1.heap[k]?) (e1 : W2.os = W1.os) (e2 : W2.tape = W1.tape) (e3 : W2.output = W1.output)
    (hns : ∀ c ∈ ns, c.2 ≠ [] ∧ NodeAt d (fun x => (x < S0 ∨ W.heap.size ≤ x) ∧ x < W1.heap.size) W1 c.1 c.2) (hres : Uni cs[ss.length]!.2 share (ns.flatMap (·.2)))
    (hhow : ((∀ x ∈ share, x ∈ cs[ss.length]!.2) ∧ ns = [cs[ss.length]!]) ∨ ((∃ x ∈ share, x ∉ cs[ss.length]!.2) ∧ ∀ c ∈ ns, S ≤ c.1)) (hcut : ∃ rest, ss.flatten ++ share ++ rest = bs ∧ Cut cs ss.length share rest) (hlb : (ns.flatMap (·.2)).length ≤ cs[ss.length]!.2.length + share.length) :
    JJ d S0 S w0 cs bs (ss ++ [share]) (W2.setCell ⟨S + 1, 0, none⟩ (.slice (some ⟨g', 0, none⟩) (rs.flatten.length + ns.length) cap')) (rs ++ [ns]) g' cap' ∧
      KeepsOthers W (W2.setCell ⟨S + 1, 0, none⟩ (.slice (some ⟨g', 0, none⟩) (rs.flatten.length + ns.length) cap')) ∧ Kq S0 (S + 2) (S + 3) W (W2.setCell ⟨S + 1, 0, none⟩ (.slice (some ⟨g', 0, none⟩) (rs.flatten.length + ns.length) cap')) := by
  have hlw := h.low
  have hs1 := hb1.size
  have hgl : g < W.heap.size := by obtain ⟨cur, q, _⟩ := h.row; exact ltB q
  have hgS : g ≠ S + 1 ∧ g ≠ S + 2 ∧ g ≠ S + 3 := by rcases h.loc with e | e <;> omega
  have hgS' : g' = S ∨ S + 6 ≤ g' := by rcases hg' with e | e; rw [e]; exact h.loc; omega
  obtain ⟨W3, hW3⟩ : ∃ W3, W2.setCell ⟨S + 1, 0, none⟩ (.slice (some ⟨g', 0, none⟩) (rs.flatten.length + ns.length) cap') = W3 := ⟨_, rfl⟩
  have hsz3 : W3.heap.size = W2.heap.size := by rw [← hW3]; simp [World.setCell]
  have hA : W2.heap[S + 1]? = W.heap[S + 1]? := (hblk2 (S + 1) (by omega) (by omega)).trans (hb1.block _ (by omega))
  have h3 : ∀ x, x < W1.heap.size → x ≠ g → x ≠ S + 1 → W3.heap[x]? = W1.heap[x]? := fun x hx h1 h2 => by rw [← hW3]; exact (Below.heap_setCell _ _ _ _ h2).trans (hblk2 x hx h1)
  have h3W : ∀ x, x < W.heap.size → x ≠ g → x ≠ S + 1 → W3.heap[x]? = W.heap[x]? := fun x hx h1 h2 => (h3 x (by omega) h1 h2).trans (hb1.block x hx)
  have hS1 := h.size
  have hlt : S0 ≤ S := hlw
  have hgne : ∀ x, x < S → x ≠ g := fun x hx e => by rcases h.loc with e2 | e2 <;> omega
  rw [hW3]
  refine ⟨⟨h.low, by omega, by simp [h.len], ?_, ?_, hgS', ?_, ?_, ?_, ?_, ?_⟩, ⟨by omega, fun k ob hk hob => ?_⟩, ⟨by omega, fun x hx => h3W x (by omega) (hgne x (by omega)) (by omega), h3W _ (by omega) (by omega) (by omega), h3W _ (by omega) (by omega) (by omega)⟩⟩
  · have := Boxed.set (.slice (some ⟨g', 0, none⟩) (rs.flatten.length + ns.length) cap') (show Boxed W2 (S + 1) 71 _ from hA.trans h.box)
    rw [hW3] at this
    rw [flat_snoc, List.length_append]
    exact this
  · rw [flat_snoc, List.map_append]
    refine hrow2.keep ?_
    rw [← hW3]
    have hg1 : g' ≠ S + 1 := by rcases hgS' with e | e <;> omega
    exact Below.heap_setCell _ _ _ _ hg1
  · intro r hr
    rw [flat_snoc, List.mem_append] at hr
    rcases hr with hr | hr
    · refine ⟨(h.nodes r hr).1, NodeAt.keep (fun x hx => ?_) (fun x hx => ?_) d _ _ (h.nodes r hr).2⟩
      · rcases hx with hx | hx
        · exact h3W x (by omega) (hgne x (by omega)) (by omega)
        · exact h3W x hx.2.1 hx.2.2 (by omega)
      · rcases hx with hx | hx
        · exact .inl hx
        · obtain ⟨q1, q2, q3⟩ := hx
          refine .inr ⟨q1, by omega, fun e0 => ?_⟩
          rcases hg' with e | e
          · exact q3 (e0.trans e)
          · omega
    · refine ⟨(hns r hr).1, NodeAt.keep (fun x hx => ?_) (fun x hx => ?_) d _ _ (hns r hr).2⟩
      · obtain ⟨hx, hx2⟩ := hx
        rcases hx with hx | hx
        · exact h3 x hx2 (hgne x (by omega)) (by omega)
        · exact h3 x hx2 (by omega) (by omega)
      · obtain ⟨hx, hx2⟩ := hx
        rcases hx with hx | hx
        · exact .inl hx
        · exact .inr ⟨by omega, by omega, by rcases hg' with e | e <;> omega⟩
  · intro i hii
    by_cases e : i < ss.length
    · rw [get_snoc_lt ss share i e, get_snoc_lt rs ns i (by rw [h.len]; exact e)]
      exact h.res i e
    · have hie : i = ss.length := by simp at hii; omega
      rw [get_snoc_eq ss share i hie, get_snoc_eq rs ns i (by rw [h.len]; exact hie), hie]
      exact ⟨hres, hhow⟩
  · intro i hii
    by_cases e : i < ss.length
    · obtain ⟨rest, q1, q2⟩ := h.cut i e
      refine ⟨rest, ?_, by rw [get_snoc_lt ss share i e]; exact q2⟩
      rw [List.take_append_of_le_length (by omega)]
      exact q1
    · have hie : i = ss.length := by simp at hii; omega
      obtain ⟨rest, q1, q2⟩ := hcut
      refine ⟨rest, ?_, by rw [get_snoc_eq ss share i hie, hie]; exact q2⟩
      rw [List.take_of_length_le (by simp; omega), List.flatten_append]
      simpa using q1
  · have h1 := h.lenb
    have h2 := flat_take cs ss.length hi
    rw [flat_snoc, List.flatMap_append, List.length_append, List.length_append, List.flatten_append, List.length_append]
    simp only [List.length_cons, List.length_nil, Nat.zero_add, List.flatten_cons, List.flatten_nil, List.append_nil]
    rw [h2, List.length_append]
    omega
  · refine h.bel.trans ⟨?_, ?_, ?_, by omega, fun x hx => h3W x (by omega) (hgne x hx) (by omega)⟩
    · rw [← hW3]; exact e1.trans hb1.os
    · rw [← hW3]; exact e2.trans hb1.tape
    · rw [← hW3]; exact e3.trans hb1.output
  · have hk1 : k < W.heap.size := (Array.getElem?_eq_some_iff.1 hk).1
    refine (h3W k hk1 ?_ ?_).trans hk
    · rintro rfl
      obtain ⟨cur, q, _⟩ := h.row
      rw [q] at hk
      cases hk
      simp [Obj.isCells] at hob
    · rintro rfl
      have q := h.box
      unfold Boxed at q
      rw [q] at hk
      cases hk
      simp [Obj.isCells] at hob

/-- A block of cells. -/
def Cel (w : World) (x : Nat) : Prop := ∃ c t fr, w.heap[x]? = some (.cells c t fr)
theorem cel_of_cell {w : World} {b o : Nat} {v : Value} (h : w.cell? ⟨b, o, none⟩ = some v) : Cel w b := by
  obtain ⟨ob, h1, h2⟩ := cells_of_cell h
  cases ob with
  | cells c t fr => exact ⟨c, t, fr, h1⟩
  | _ => simp [Obj.isCells] at h2
theorem RA.cel {w : World} {b o k : Nat} (h : RA w b o k) : Cel w b := cel_of_cell (h.cell 0 (by omega))
theorem RSb.cel {U : Nat → Prop} {w : World} {v : Value} {ks : List Nat} (h : RSb U w v ks) : RSb (fun x => U x ∧ Cel w x) w v ks := by
  rcases h with h | ⟨b, o, cap, h1, h2, h3, h4⟩
  · exact .inl h
  · exact .inr ⟨b, o, cap, h1, h2, fun hne => ⟨h3 hne, (h4 0 (List.length_pos_iff.2 hne)).cel⟩, h4⟩
theorem NodeAt.cel {U : Nat → Prop} {w : World} : ∀ {d p : Nat} {ks : List Nat}, NodeAt d U w p ks → NodeAt d (fun x => U x ∧ Cel w x) w p ks
  | 0, p, ks, ⟨hp, v, h1, h2⟩ => ⟨⟨hp, _, _, _, h1⟩, v, h1, h2.cel⟩
  | d + 1, p, ks, ⟨hp, b, o, cap, cs, h0, h1, h2, h3, h4, h5, h6⟩ => ⟨⟨hp, _, _, _, h2⟩, b, o, cap, cs, h0, ⟨h1, cel_of_cell (h4 0 (by simpa using List.length_pos_iff.2 h0))⟩, h2, h3, h4, fun c hc => ⟨(h5 c hc).1, NodeAt.cel (h5 c hc).2⟩, h6⟩
theorem NSU.putObj {d : Nat} {U : Nat → Prop} {w : World} {v : Value} {ns : List (Nat × List Nat)} (h : NSU d U w v ns) {D : Nat} {o : Obj} (o' : Obj) (hD : w.heap[D]? = some o) (ho : o.isCells = false) : NSU d U (w.putObj D o') v ns := by
  have hne : ∀ x, Cel w x → x ≠ D := by
    rintro x ⟨c, t, fr, hx⟩ e
    subst e
    rw [hD] at hx
    cases hx
    simp [Obj.isCells] at ho
  obtain ⟨h1, h2, G, o1, cap, h3, h4, h5⟩ := h
  refine ⟨h1, fun c hc => ⟨(h2 c hc).1, ?_⟩, G, o1, cap, h3, h4, h5.of_block (World.putObj_heap_other (hne G (cel_of_cell (h5 0 (by simpa using List.length_pos_iff.2 h1)))))⟩
  exact NodeAt.keep (fun x hx => World.putObj_heap_other (hne x hx.2)) (fun x hx => hx.1) d _ _ (h2 c hc).2.cel
theorem Below.putObj {S : Nat} {w w' : World} (h : Below S w w') {D : Nat} (hD : S ≤ D) (o : Obj) : Below S w (w'.putObj D o) :=
  h.trans ⟨rfl, rfl, rfl, Nat.le_of_eq (putObj_size _ _ _).symm, fun k hk => World.putObj_heap_other (by omega)⟩

attribute [local go_sem] Oper.semAt_some

set_option maxRecDepth 100000 in
set_option maxHeartbeats 2000000 in
theorem add_inner {d : Nat} (ih : ∀ (S0 : Nat) (w : World) (p : Nat) (ks bs : List Nat) (vb : Value), S0 ≤ w.heap.size → NodeAt d (· < S0) w p ks → ks.Pairwise (· < ·) → RSb (· < S0) w vb bs → bs.Pairwise (· < ·) → bs ≠ [] → ks.length + bs.length ≤ 1073741824 →
      Calls Yba.prog 26 #[.pointer (some ⟨p, 0, none⟩), vb] w (AddPost d S0 w p ks bs))
    {S0 : Nat} {w : World} {p : Nat} {ks bs : List Nat} {vb : Value} (hS0 : S0 ≤ w.heap.size) (hnode : NodeAt (d + 1) (· < S0) w p ks) (hka : ks.Pairwise (· < ·)) (hb : RSb (· < S0) w vb bs) (hba : bs.Pairwise (· < ·)) (hbn : bs ≠ []) (hl : ks.length + bs.length ≤ 1073741824) :
    Calls Yba.prog 26 #[.pointer (some ⟨p, 0, none⟩), vb] w (AddPost (d + 1) S0 w p ks bs) := by
  obtain ⟨hp, b, o, cap, cs, hcne, hbS, hnb, hccap, hpt, hcs, hks⟩ := hnode
  have hk39 := hnb.kids
  have hcl : cs.length ≤ ks.length := by rw [hks]; exact len_flat cs fun c hc => (hcs c hc).1
  obtain ⟨n, hn⟩ : ∃ n, n = cs.length := ⟨_, rfl⟩
  rw [← hn] at hk39
  obtain ⟨cur, hcz, hmk⟩ := make71z w n (by omega)
  obtain ⟨va, ma, ca, rfl⟩ : ∃ va ma ca, vb = .slice va ma ca := by
    rcases hb with ⟨rfl, rfl⟩ | ⟨b, o, cap, rfl, _⟩
    · exact absurd rfl hbn
    · exact ⟨_, _, _, rfl⟩
  have IH := hideB ih
  have HN := hideB hn; have HNB := hideB hnb; have HPT := hideB hpt; have HCS := hideB hcs; have HKS := hideB hks; have HB := hideB hb; have HKA := hideB hka; have HBA := hideB hba; have HCZ := hideB hcz
  have hnl : n ≤ 1073741824 := by omega
  clear ih hn hnb hpt hcs hks hb hka hba hcz
  refine (callsIn_wide (n := 5)).1 ?_
  refine callsIn_of_wp_marks Yba.func26 rfl trivial ?_ rfl
  simp only [Yba.ntmps26, List.size_toArray, List.length_cons, List.length_nil, Nat.reduceAdd, Nat.reduceSub, Array.replicate_succ, Array.replicate_zero, List.push_toArray, List.append_toArray, List.nil_append, List.cons_append]
  refine wpIn_wide.2 ?_
  go_wp2_with fail
  refine (shares_any p (.slice va ma ca) ⟨_, _, _, rfl⟩ _).mono ?_
  rintro e w7 ⟨rfl, hw7⟩
  have hS7 : w7.heap.size = w.heap.size + 4 := by rw [hw7]; simp
  have hBel7 : Below w.heap.size w w7 := by
    rw [hw7]
    exact ((((Below.refl _ w).alloc (Nat.le_refl _) _).alloc (by simp) _).alloc (by simp; omega) _).alloc (by simp; omega) _
  have hR7 : w7.heap[w.heap.size]? = some (.cells cur 61 (0, 0)) := by
    rw [hw7, Below.heap_alloc _ _ _ (by simp; omega), Below.heap_alloc _ _ _ (by simp; omega), Below.heap_alloc _ _ _ (by simp)]
    exact heap_alloc_new w _
  have hA7 : Boxed w7 (w.heap.size + 1) 71 (.slice (some ⟨w.heap.size, 0, none⟩) 0 (n + 1)) := by
    have h := heap_alloc_new (w.alloc (.cells cur 61)) (.cells #[Value.slice (some { block := w.heap.size, off := 0 }) 0 (n + 1)] 71)
    rw [World.size_alloc] at h
    unfold Boxed
    rw [hw7, Below.heap_alloc _ _ _ (by simp), Below.heap_alloc _ _ _ (by simp)]
    exact h
  have hB17 : Boxed w7 (w.heap.size + 2) 61 (.pointer (some ⟨p, 0, none⟩)) := by
    have h := heap_alloc_new ((w.alloc (.cells cur 61)).alloc (.cells #[Value.slice (some { block := w.heap.size, off := 0 }) 0 (n + 1)] 71)) (.cells #[.pointer (some ⟨p, 0, none⟩)] 61)
    rw [World.size_alloc, World.size_alloc] at h
    unfold Boxed
    rw [hw7, Below.heap_alloc _ _ _ (by simp)]
    exact h
  have hB27 : Boxed w7 (w.heap.size + 3) 56 (.slice va ma ca) := by
    have h := heap_alloc_new (((w.alloc (.cells cur 61)).alloc (.cells #[Value.slice (some { block := w.heap.size, off := 0 }) 0 (n + 1)] 71)).alloc (.cells #[.pointer (some ⟨p, 0, none⟩)] 61)) (.cells #[.slice va ma ca] 56)
    rw [World.size_alloc, World.size_alloc, World.size_alloc] at h
    unfold Boxed
    rw [hw7]
    exact h
  have H7 := hideB (And.intro hS7 (And.intro hBel7 (And.intro hR7 (And.intro hA7 (And.intro hB17 hB27)))))
  clear hw7 hS7 hBel7 hR7 hA7 hB17 hB27 hmk hk39
  simp only [World.size_alloc]
  generalize hSe : w.heap.size = S at hS0 H7 ⊢
  have HSE := hideB hSe
  clear hSe
  go_wp2_with fail
  obtain ⟨hS7, hBel7, hR7, hA7, hB17, hB27⟩ := unhideB H7
  have hJ0 : JR d S0 S w cs bs [] w7 := ⟨[], S, n + 1, hS0, by omega, rfl, hA7, ⟨cur, hR7, by simp, by unfold maxLen; omega, unhideB HCZ, by simp [ptrL]⟩, .inl rfl, fun r hr => by simp at hr, fun i hi => by simp at hi, fun i hi => by simp at hi, by simp, by rw [← unhideB HSE]; rw [← unhideB HSE] at hBel7; exact hBel7⟩
  have hAbd := JR.abd d S0 S w cs bs
  rw [show S + 4 = w7.heap.size from hS7.symm] at hAbd
  have hcs7 : ∀ c ∈ cs, c.2 ≠ [] ∧ NodeAt d (· < S0) w7 c.1 c.2 := fun c hc => by
    have := (unhideB HCS) c hc
    exact ⟨this.1, NodeAt.later (hBel7.mono hS0) (Nat.le_refl _) d c.1 c.2 this.2⟩
  have hrs7 : RSb (· < S0) w7 (.slice va ma ca) bs := (unhideB HB).below (hBel7.mono hS0)
  refine range_law (d := d) (S := S0) (B1 := S + 2) (B2 := S + 3) (p := p) (m := 3) (w := w7) (ks := ks) (bs := bs) (b := b) (o := o) (cap := cap) (cs := cs) (va := .slice va ma ca) (JR d S0 S w cs bs) hAbd (by omega) (by omega) (by omega) hcne ((unhideB HNB).later (hBel7.block p (by omega))) hp hbS hccap (by rw [← unhideB HN]; exact hnl) (by omega)
    ((unhideB HPT).of_block (hBel7.block b (by omega))) hcs7 hB17 hB27 hrs7 (unhideB HBA) hbn hJ0 rfl rfl
    (fun x y => { tmps := #[Value.pointer (some ⟨p, 0, none⟩), Value.slice va ma ca, undef, undef, Value.slice none 0 0, undef, Value.pointer (some ⟨S + 1, 0, none⟩), x, y, Value.pointer (some ⟨p, 0, none⟩), Value.pointer (some ⟨p, 0, none⟩), Value.pointer (some ⟨p, 39, none⟩), Value.slice (some ⟨b, o, none⟩) n cap, Value.bool false, undef, undef, undef, undef, undef, undef, undef, undef, undef, undef, undef, undef, undef, undef, undef, undef, undef, undef, Value.pointer (some ⟨p, 0, none⟩), Value.pointer (some ⟨p, 0, none⟩), Value.pointer (some ⟨p, 39, none⟩), Value.slice (some ⟨b, o, none⟩) n cap, Value.int IntKind.i64 n, Value.int IntKind.i64 ((n : Int) + 1), Value.slice (some ⟨S, 0, none⟩) 0 (n + 1), Value.pointer (some ⟨p, 0, none⟩), Value.slice va ma ca, Value.func (Fn.func 55) #[] #[Value.pointer (some ⟨S + 1 + 1, 0, none⟩), Value.pointer (some ⟨S + 1 + 1 + 1, 0, none⟩)], x, y, undef, undef, undef, undef, undef, undef, undef, undef, undef, undef, undef, undef, undef, undef, undef, undef, undef, undef, undef, undef, undef, undef], defers := [] }) ?assign ?body ?done
  case assign =>
    intro l x y W K hK
    gi_wp2
    exact hK
  case body =>
    rintro ss share rest W sv ⟨rs, g, capg, hj⟩ hlen hfl hcut hrsv hlow hWs
    have hW6 : S + 6 ≤ W.heap.size := by omega
    have him : cs[ss.length]! ∈ cs := by rw [getElem!_pos cs _ hlen]; exact List.getElem_mem _
    have hqW : NodeAt d (· < S0) W cs[ss.length]!.1 cs[ss.length]!.2 := NodeAt.keep (fun x hx => hlow x hx) (fun x hx => hx) d _ _ (hcs7 _ him).2
    have hqne := (hcs7 _ him).1
    obtain ⟨pv, cv, rfl⟩ : ∃ pv cv, sv = .slice pv share.length cv := by
      rcases hrsv with ⟨rfl, rfl⟩ | ⟨b', o', c', rfl, _⟩
      · exact ⟨none, 0, rfl⟩
      · exact ⟨_, _, rfl⟩
    have hc := hj.box.cell
    have hf := hj.box.frozen
    have hlb := hj.lenb
    have hMl := len_flat rs.flatten fun c hc => (hj.nodes c hc).1
    have hft := flat_take cs ss.length hlen
    have hft2 := flat_take_len cs (ss.length + 1)
    rw [hft, List.length_append, ← unhideB HKS] at hft2
    have hqpos := List.length_pos_iff.2 hqne
    have hbsl : ss.flatten.length + share.length ≤ bs.length := by rw [← hfl]; simp
    have hgl : g < W.heap.size := by obtain ⟨cur, q, _⟩ := hj.row; exact ltB q
    have hgA : g ≠ S + 1 := by rcases hj.loc with e | e <;> omega
    obtain ⟨M, hM⟩ : ∃ M, M = rs.flatten.length := ⟨_, rfl⟩
    rw [← hM] at hc hMl
    by_cases hsh : share = []
    · subst hsh
      have hb1 : Below W.heap.size W (W.alloc (.cells #[.pointer (some ⟨cs[ss.length]!.1, 0, none⟩)] 61)) := (Below.refl _ W).alloc (Nat.le_refl _) _
      obtain ⟨g', cap', W2, hap, hrow2, hg', hsz2, hblk2, e1, e2, e3⟩ := app71 (hj.row.keep (hb1.block g hgl)) 71 W.heap.size 0 1 (one_ptr W cs[ss.length]!.1) (by simp only [List.length_map, List.length_cons, List.length_nil]; omega)
      simp only [List.length_map, List.length_cons, List.length_nil, Nat.zero_add, ← hM] at hap
      have hA2 : Boxed W2 (S + 1) 71 (.slice (some ⟨g, 0, none⟩) rs.flatten.length capg) := (hblk2 (S + 1) (by simp; omega) (Ne.symm hgA)).trans ((hb1.block _ (by omega)).trans hj.box)
      have hc2 := hA2.cell
      have hf2 := hA2.frozen
      have hstep := hj.step (W1 := W.alloc (.cells #[.pointer (some ⟨cs[ss.length]!.1, 0, none⟩)] 61)) (W2 := W2) (g' := g') (cap' := cap') hlen hW6 [] [cs[ss.length]!] hb1 hrow2 hg' hsz2 hblk2 e1 e2 e3
        (fun c hc => by
          simp only [List.mem_singleton] at hc
          subst hc
          exact ⟨hqne, NodeAt.keep (fun x hx => hb1.block x (by omega)) (fun x hx => ⟨.inl hx, by have := hb1.size; omega⟩) d _ _ hqW⟩)
        (by
          simp only [List.flatMap_cons, List.flatMap_nil, List.append_nil]
          refine Uni.all ?_ (fun x hx => by simp at hx)
          have h1 := unhideB HKA
          rw [unhideB HKS, ← List.take_append_drop (ss.length + 1) cs, List.flatMap_append, hft] at h1
          exact (List.pairwise_append.1 (List.pairwise_append.1 h1).1).2.1)
        (.inl ⟨fun x hx => by simp at hx, rfl⟩) ⟨rest, hfl, hcut⟩ (by simp)
      rw [← hM] at hstep
      have HST := hideB hstep
      obtain ⟨q, hq⟩ : ∃ q, q = cs[ss.length]!.1 := ⟨_, rfl⟩
      rw [← hq] at hap ⊢
      have HQ := hideB hq
      clear hq hstep hqW him hqne hft hlb hfl hcut hj hrow2 hblk2 hA2 hM
      gi_wp2
      obtain ⟨q1, q2, q3⟩ := unhideB HST
      exact ⟨q2, ⟨_, _, _, q1⟩, q3⟩
    · have hcalled : ∀ e w1, AddPost d S0 W cs[ss.length]!.1 cs[ss.length]!.2 share e w1 → ∃ G o1 c1 k g' cap' W2, e = .returned (.slice (some ⟨G, o1, none⟩) k c1) ∧ w1.cell? ⟨S + 1, 0, none⟩ = some (.slice (some ⟨g, 0, none⟩) M capg) ∧
          (ap71 71 #[.slice (some ⟨g, 0, none⟩) M capg, .slice (some ⟨G, o1, none⟩) k c1]).run Yba.prog w1 = .ok (.slice (some ⟨g', 0, none⟩) (M + k) cap') W2 ∧ (∃ u, W2.cell? ⟨S + 1, 0, none⟩ = some u) ∧ W2.frozen? ⟨S + 1, 0, none⟩ = false ∧
          (JR d S0 S w cs bs (ss ++ [share]) (W2.setCell ⟨S + 1, 0, none⟩ (.slice (some ⟨g', 0, none⟩) (M + k) cap')) ∧
            KeepsOthers W (W2.setCell ⟨S + 1, 0, none⟩ (.slice (some ⟨g', 0, none⟩) (M + k) cap')) ∧ Kq S0 (S + 2) (S + 3) W (W2.setCell ⟨S + 1, 0, none⟩ (.slice (some ⟨g', 0, none⟩) (M + k) cap'))) := by
        rintro e w1 ⟨v1, ns, rfl, hnsu, huni, hlb1, hb1, hhow⟩
        obtain ⟨hnn, hnodes, G, o1, c1, rfl, hle, hptr⟩ := hnsu
        have hnl2 := len_flat ns fun c hc => (hnodes c hc).1
        obtain ⟨g', cap', W2, hap, hrow2, hg', hsz2, hblk2, e1, e2, e3⟩ := app71 (hj.row.keep (hb1.block g hgl)) 71 G o1 c1 hptr (by simp only [List.length_map]; omega)
        simp only [List.length_map, ← hM] at hap
        have hA1 : Boxed w1 (S + 1) 71 (.slice (some ⟨g, 0, none⟩) rs.flatten.length capg) := (hb1.block _ (by omega)).trans hj.box
        have hA2 : Boxed W2 (S + 1) 71 (.slice (some ⟨g, 0, none⟩) rs.flatten.length capg) := (hblk2 (S + 1) (by have := hb1.size; omega) (Ne.symm hgA)).trans hA1
        have hstep := hj.step (W1 := w1) (W2 := W2) (g' := g') (cap' := cap') hlen hW6 share ns hb1 hrow2 hg' hsz2 hblk2 e1 e2 e3 hnodes huni
          (by rcases hhow with h | h; exact .inl ⟨h.1, h.2⟩; exact .inr ⟨h.1, fun c hc => Nat.le_trans (by omega) (h.2 c hc)⟩) ⟨rest, hfl, hcut⟩ hlb1
        rw [← hM] at hstep
        have hc1 := hA1.cell
        rw [← hM] at hc1
        exact ⟨G, o1, c1, ns.length, g', cap', W2, rfl, hc1, hap, ⟨_, hA2.cell⟩, hA2.frozen, ⟨_, _, _, hstep.1⟩, hstep.2⟩
      have hshn : share.length ≠ 0 := fun h => hsh (List.eq_nil_of_length_eq_zero h)
      have hIH : ∀ W', W' = W.drew → Calls Yba.prog 26 #[.pointer (some ⟨cs[ss.length]!.1, 0, none⟩), .slice pv share.length cv] W' fun e w1 => AddPost d S0 W cs[ss.length]!.1 cs[ss.length]!.2 share e w1 := by
        rintro W' rfl
        have hka2 : cs[ss.length]!.2.Pairwise (· < ·) := by
          have h1 := unhideB HKA
          rw [unhideB HKS, ← List.take_append_drop (ss.length + 1) cs, List.flatMap_append, hft] at h1
          exact (List.pairwise_append.1 (List.pairwise_append.1 h1).1).2.1
        have hsa : share.Pairwise (· < ·) := by
          have h1 := unhideB HBA
          rw [← hfl] at h1
          exact (List.pairwise_append.1 (List.pairwise_append.1 h1).1).2.1
        refine (unhideB IH S0 W.drew _ _ share _ (show S0 ≤ W.heap.size by omega) (NodeAt.keep (w := W) (w' := W.drew) (fun _ _ => rfl) (fun _ hx => hx) d _ _ hqW) hka2 (RSb.keep (w := W) (w' := W.drew) hrsv (fun _ _ => rfl) (fun _ hx => hx)) hsa hsh (by omega)).mono ?_
        rintro e w1 ⟨v1, ns, h1, h2, h3, h4, h5, h6⟩
        exact ⟨v1, ns, h1, h2, h3, h4, ((Below.refl _ W).drew).trans h5, h6⟩
      have HCA := hideB hcalled; have HIH := hideB hIH
      have hmx : Yba.prog.follows .mixedOrders = true := by kernel_rfl
      obtain ⟨q, hq⟩ : ∃ q, q = cs[ss.length]!.1 := ⟨_, rfl⟩
      obtain ⟨k0, hk0⟩ : ∃ k0, k0 = share.length := ⟨_, rfl⟩
      rw [← hq] at HIH HCA ⊢
      rw [← hk0] at HIH hshn ⊢
      have hshn' : ¬ ((k0 : Int) = 0) := by omega
      have HQ := hideB hq
      clear hq hqW him hqne hft hlb hfl hcut hj hM hcalled hIH hrsv hk0
      gi_wp2
      gi_region_with_o (refine ⟨trivial, ?_⟩; gi_at_call 26; refine (CallsIn.inRound _ (callsIn_wide.2 (unhideB HIH _ rfl))).mono ?_; intro e w1 hpost; obtain ⟨G, o1, c1, k, g', cap', W2, rfl, hc1, hap, ⟨u, hc2⟩, hf2, hfin⟩ := unhideB HCA e w1 hpost; have HFIN := hideB hfin; clear hfin hpost)
      all_goals
        gi_wp2
        obtain ⟨q1, q2, q3⟩ := unhideB HFIN
        exact ⟨q2, q1, q3⟩
  case done =>
    rintro ss W hlen hfl ⟨rs, g, capg, hj⟩ hD
    have hbelW : Below S w W := hj.bel
    have hPt : Pt cs ss rs := Pt.of hlen hj.len (fun i hi => (hj.res i hi).1) (fun i hi => by rw [hfl]; exact hj.cut i hi)
    have hcne2 : ∀ c ∈ cs, c.2 ≠ [] := fun c hc => (hcs7 c hc).1
    have hka2 : (cs.flatMap (·.2)).Pairwise (· < ·) := by rw [← unhideB HKS]; exact unhideB HKA
    have huni := hPt.uni hcne2 hka2
    rw [hfl, ← unhideB HKS] at huni
    have hk39 : W.cell? ⟨p, 39, none⟩ = some (.slice (some ⟨b, o, none⟩) n cap) := by
      have := ((unhideB HNB).later (hbelW.block p (by omega))).kids
      rwa [← unhideB HN] at this
    have hc := hj.box.cell
    have hptW : Ptrs W b o (cs.map (·.1)) := (unhideB HPT).of_block (hbelW.block b (by omega))
    have hnodeW : ∀ c ∈ cs, NodeAt d (· < S0) W c.1 c.2 := fun c hc => NodeAt.keep (fun x hx => hbelW.block x (by omega)) (fun _ hx => hx) d _ _ ((unhideB HCS) c hc).2
    have hlb := hj.lenb
    rw [hlen, List.take_length, hfl, ← unhideB HKS] at hlb
    have hMl := len_flat rs.flatten fun c hc => (hj.nodes c hc).1
    have hE : ∀ W', Below W.heap.size W W' → Calls Yba.prog 44 #[.slice (some ⟨g, 0, none⟩) rs.flatten.length capg, .slice (some ⟨b, o, none⟩) n cap] W' fun e w' => e = .returned (.bool (decide (rs.flatten.map (·.1) = cs.map (·.1)))) ∧ Below W'.heap.size W' w' := by
      intro W' hW'
      have hgl : g < W.heap.size := by obtain ⟨cur, q, _⟩ := hj.row; exact ltB q
      have h := equalN_any (w := W') (b1 := g) (o1 := 0) (c1 := capg) (b2 := b) (o2 := o) (c2 := cap) (ps := rs.flatten.map (·.1)) (qs := cs.map (·.1)) (hj.row.ptrs.of_block (hW'.block g hgl)) (hptW.of_block (hW'.block b (by have := hj.size; omega)))
        (fun x hx => by
          rw [List.mem_map] at hx
          obtain ⟨c, hc, rfl⟩ := hx
          obtain ⟨v, cv, hnb⟩ := (hj.nodes c hc).2.nb
          exact hnb.blk.keep (hW'.block _ hnb.lt))
        (fun x hx => by
          rw [List.mem_map] at hx
          obtain ⟨c, hc, rfl⟩ := hx
          obtain ⟨v, cv, hnb⟩ := (hnodeW c hc).nb
          exact hnb.blk.keep (hW'.block _ hnb.lt)) (by rw [List.length_map]; omega) (by rw [List.length_map, ← unhideB HN]; omega)
      rw [List.length_map, List.length_map, ← unhideB HN] at h
      exact h
    obtain ⟨M, hM⟩ : ∃ M, M = rs.flatten.length := ⟨_, rfl⟩
    rw [← hM] at hc hE
    have g1 : ∀ p', (gr W p').cell? ⟨S + 1, 0, none⟩ = some (.slice (some ⟨g, 0, none⟩) M capg) := fun p' => gr_cell hc p'
    have g2 : ∀ p', (gr W p').cell? ⟨p, 39, none⟩ = some (.slice (some ⟨b, o, none⟩) n cap) := fun p' => gr_cell hk39 p'
    rw [hS7] at hD
    have HE := hideB hE; have HS7 := hideB hS7; have HJ := hideB hj; have HUN := hideB huni; have HPT2 := hideB hPt; have HNW := hideB hnodeW; have HLB := hideB hlb; have HFL := hideB hfl; have HLEN := hideB hlen; have HBW := hideB hbelW; have HMM := hideB hM; have HD := hideB hD
    have hML : M ≤ 1073741824 := by omega
    have hM0 : 0 < M := by
      rw [hM]
      refine List.length_pos_iff.2 fun e => ?_
      have h1 := huni.ne hbn
      rw [e] at h1
      simp at h1
    have H7b := hideB hBel7
    clear hE hj huni hPt hnodeW hlb hfl hlen hbelW hM hD hcne2 hka2 hptW hMl hJ0 hAbd hcs7 hrs7 hBel7 hR7 hA7 hB17 hB27 hc hk39 H7
    by_cases heq : rs.flatten.map (·.1) = cs.map (·.1)
    · have hdec : decide (rs.flatten.map (·.1) = cs.map (·.1)) = true := by simpa using heq
      rw [hdec] at HE
      have HEQ := hideB heq
      clear heq hdec
      go_wp2_with fail
      refine wp_region_gr (by kernel_rfl) (by kernel_rfl) ?_
      repeat (quiet_step (first | (go_at_call 44; refine Calls.gr_of (unhideB HE _ (gr_below W _)))))
      refine wpQuiet_nil ?_
      intro w5 hw5
      obtain ⟨p5, rfl⟩ := hw5
      have HB5 := hideB (gr_below W p5)
      generalize gr W p5 = W5 at HB5 ⊢
      clear g1 g2
      go_wp2_with fail
      have hs7 := unhideB HS7
      have hD5 : W5.heap[S + 4]? = some (.deferred (some [])) := ((unhideB HB5).block _ (Array.getElem?_eq_some_iff.1 (unhideB HD)).1).trans (unhideB HD)
      have hD5l : S + 4 < W5.heap.size := (Array.getElem?_eq_some_iff.1 hD5).1
      have hD6 : (W5.alloc (.cells #[.pointer (some ⟨p, 0, none⟩)] 61)).heap[S + 4]? = some (.deferred (some [])) := (Below.heap_alloc _ _ _ hD5l).trans hD5
      refine ⟨by simp, .inl ⟨_, _, rfl, run_takeDeferred hD6, ?_⟩⟩
      refine ⟨_, results_tmp rfl _ _ _, ?_⟩
      have hj := unhideB HJ
      have hsub : ∀ x ∈ bs, x ∈ ks := by
        intro x hx
        rw [← unhideB HFL, List.mem_flatten] at hx
        obtain ⟨l, hl1, hl2⟩ := hx
        obtain ⟨i, hi, rfl⟩ := List.mem_iff_getElem.1 hl1
        have hic : i < cs.length := by rw [← unhideB HLEN]; exact hi
        have hr := hj.res i hi
        rw [getElem!_pos ss i hi, getElem!_pos cs i hic] at hr
        rcases hr.2 with h1 | h1
        · rw [unhideB HKS, List.mem_flatMap]
          exact ⟨cs[i], List.getElem_mem _, h1.1 x hl2⟩
        · exfalso
          have hir : i < rs.length := by rw [hj.len]; exact hi
          rw [getElem!_pos rs i hir] at hr h1
          have hmem : x ∈ rs[i].flatMap (·.2) := (hr.1.mem x).2 (.inr hl2)
          rw [List.mem_flatMap] at hmem
          obtain ⟨c, hc1, _⟩ := hmem
          have hcf : c.1 ∈ rs.flatten.map (·.1) := List.mem_map.2 ⟨c, List.mem_flatten.2 ⟨_, List.getElem_mem hir, hc1⟩, rfl⟩
          rw [unhideB HEQ, List.mem_map] at hcf
          obtain ⟨c', hc', e⟩ := hcf
          have h3 := ((unhideB HNW) c' hc').use
          have h4 := h1.2 c hc1
          omega
      have hkn : ks ≠ [] := by
        cases bs with
        | nil => exact absurd rfl hbn
        | cons b0 bs0 =>
          have := hsub b0 List.mem_cons_self
          intro e; rw [e] at this; simp at this
      have hbW : Below S w W := unhideB HBW
      have hb6 : Below S w ((W5.alloc (.cells #[.pointer (some ⟨p, 0, none⟩)] 61)).putObj (S + 4) (.deferred none)) :=
        Below.putObj ((hbW.trans ((unhideB HB5).mono (by have := hj.size; omega))).alloc (by omega) _) (by omega) _
      have hse := unhideB HSE
      refine ⟨_, [(p, ks)], rfl, ⟨by simp, fun c hc => ?_, W5.heap.size, 0, 1, rfl, Nat.le_refl _, (one_ptr W5 p).of_block (World.putObj_heap_other (by omega))⟩, ?_, ?_, by rw [hse]; exact hb6, .inl ⟨hsub, rfl⟩⟩
      · simp only [List.mem_singleton] at hc
        subst hc
        refine ⟨hkn, NodeAt.keep (fun x hx => hb6.block x (by omega)) (fun x hx => ⟨Or.inl hx, by have := hb6.size; omega⟩) (d + 1) p ks ⟨hp, b, o, cap, cs, hcne, hbS, unhideB HNB, hccap, unhideB HPT, unhideB HCS, unhideB HKS⟩⟩
      · simp only [List.flatMap_cons, List.flatMap_nil, List.append_nil]
        exact Uni.all (unhideB HKA) hsub
      · simp only [List.flatMap_cons, List.flatMap_nil, List.append_nil]
        omega
    · have hdec : decide (rs.flatten.map (·.1) = cs.map (·.1)) = false := by simpa using heq
      rw [hdec] at HE
      have HEQ := hideB heq
      clear heq hdec
      go_wp2_with fail
      refine wp_region_gr (by kernel_rfl) (by kernel_rfl) ?_
      repeat (quiet_step (first | (go_at_call 44; refine Calls.gr_of (unhideB HE _ (gr_below W _)))))
      refine wpQuiet_nil ?_
      intro w5 hw5
      obtain ⟨p5, rfl⟩ := hw5
      have HB5 := hideB (gr_below W p5)
      have g1' := g1 p5
      generalize gr W p5 = W5 at HB5 g1' ⊢
      clear g1 g2
      have hj := unhideB HJ
      have hs4 := hj.size
      have hgl : g < W.heap.size := by obtain ⟨cur, q, _⟩ := hj.row; exact ltB q
      have hs5 := (unhideB HB5).size
      have hgrp := groupN_any (w := W5) g 0 capg (d := d) (V := fun x => x < S0 ∨ (S ≤ x ∧ x < W5.heap.size)) (fun x hx => by rcases hx with hx | hx <;> omega) (.inr ⟨by rcases hj.loc with e | e <;> omega, by omega⟩) rs.flatten
        (hj.row.ptrs.of_block ((unhideB HB5).block g hgl)) (by intro e; have := unhideB HMM; rw [e] at this; simp at this; omega)
        (fun c hc => ⟨(hj.nodes c hc).1, NodeAt.keep (fun x hx => (unhideB HB5).block x (by rcases hx with hx | hx <;> omega)) (fun x hx => by rcases hx with hx | hx; exact .inl hx; exact .inr ⟨by omega, by omega⟩) d _ _ (hj.nodes c hc).2⟩)
        (by obtain ⟨cur, _, q, _⟩ := hj.row; rwa [List.length_map] at q) (by rw [← unhideB HMM]; exact hML) (by have := unhideB HLB; omega)
      rw [← unhideB HMM] at hgrp
      have HGR := hideB hgrp
      clear hgrp hj
      go_wp2_with fail
      refine (unhideB HGR).mono ?_
      rintro e w6 hgr
      obtain ⟨v2, ns, rfl, k1, k2, k3, k4, k5⟩ := hgr.nsU (by omega)
      have HK := hideB (And.intro k1 (And.intro k3 (And.intro k4 k5)))
      obtain ⟨_, _, G2, o2, cap2, rfl, _, _⟩ := k1
      clear k3 k4 k5 hgr k2
      go_wp2_with fail
      obtain ⟨k1, k3, k4, k5⟩ := unhideB HK
      have hs7 := unhideB HS7
      have hD5 : W5.heap[S + 4]? = some (.deferred (some [])) := ((unhideB HB5).block _ (Array.getElem?_eq_some_iff.1 (unhideB HD)).1).trans (unhideB HD)
      have hD6 : w6.heap[S + 4]? = some (.deferred (some [])) := (k5.block _ (Array.getElem?_eq_some_iff.1 hD5).1).trans hD5
      refine ⟨by simp, .inl ⟨_, _, rfl, run_takeDeferred hD6, ?_⟩⟩
      refine ⟨_, results_tmp rfl _ _ _, ?_⟩
      have hj := unhideB HJ
      have hse := unhideB HSE
      have hb6 : Below S w (w6.putObj (S + 4) (.deferred none)) := Below.putObj (((unhideB HBW).trans ((unhideB HB5).mono (by omega))).trans (k5.mono (by omega))) (by omega) _
      have hnsu : NSU (d + 1) (fun x => (x < S0 ∨ w.heap.size ≤ x) ∧ x < (w6.putObj (S + 4) (.deferred none)).heap.size) (w6.putObj (S + 4) (.deferred none)) (.slice (some ⟨G2, o2, none⟩) ns.length cap2) ns := by
        have h1 := NSU.putObj k1 (.deferred none) hD6 rfl
        refine h1.weak (fun x hx => ⟨?_, by rw [putObj_size]; exact hx.2⟩)
        rw [hse]
        rcases hx.1 with (h2 | h2) | h2
        · exact .inl h2
        · exact .inr h2.1
        · exact .inr (by omega)
      refine ⟨_, ns, rfl, hnsu, by rw [k3]; exact unhideB HUN, by rw [k3]; exact unhideB HLB, by rw [hse]; exact hb6, .inr ⟨?_, fun c hc => by rw [hse]; have := k4 c hc; omega⟩⟩
      have hnew : ∃ i, i < ss.length ∧ ∃ x ∈ ss[i]!, x ∉ cs[i]!.2 := by
        apply Classical.byContradiction
        intro hno
        refine unhideB HEQ (congrArg _ (all_one (by rw [hj.len, unhideB HLEN]) (fun i hi => ?_)))
        rcases (hj.res i (by rw [← hj.len]; exact hi)).2 with h1 | h1
        · exact h1.2
        · exact absurd ⟨i, by rw [← hj.len]; exact hi, h1.1⟩ hno
      obtain ⟨i, hi, hx⟩ := hnew
      have hfin := (unhideB HPT2).new (fun c hc => ((unhideB HCS) c hc).1) (by rw [← unhideB HKS]; exact unhideB HKA) i hi hx
      rw [unhideB HFL, ← unhideB HKS] at hfin
      exact hfin

theorem add_any : ∀ (d S0 : Nat) (w : World) (p : Nat) (ks bs : List Nat) (vb : Value), S0 ≤ w.heap.size → NodeAt d (· < S0) w p ks → ks.Pairwise (· < ·) → RSb (· < S0) w vb bs → bs.Pairwise (· < ·) → bs ≠ [] → ks.length + bs.length ≤ 1073741824 →
      Calls Yba.prog 26 #[.pointer (some ⟨p, 0, none⟩), vb] w (AddPost d S0 w p ks bs)
  | 0, _, _, _, _, _, _, h0, h1, h2, h3, h4, h5, h6 => add_leaf h0 h1 h2 h3 h4 h5 h6
  | d + 1, _, _, _, _, _, _, h0, h1, h2, h3, h4, h5, h6 => add_inner (add_any d) h0 h1 h2 h3 h4 h5 h6
end Go.Proofs.Ybulkqhs
