import Derived.Test.YbulkqhsB26
import Derived.Laws.OwnMore
import Derived.OwnWalk
import Derived.Deep.RegionLaw
namespace Go.Proofs.Ybulkqhs
open Go.RowKit
set_option linter.unusedVariables false
set_option linter.unusedSimpArgs false
attribute [local go_sem ↓] exec_store34 exec_load34 exec_box34 exec_build78 exec_box78 exec_load70
attribute [local go_sem ↓] to_ld34 to_bd78 to_bx78 to_ld70 to_sl56 to_bs56
attribute [local go_sem] run_box34 run_box78 run_bx78 eql34_run neq34_run guard34 run_bs56

theorem Own.later {base : Nat} {w w' : World} {v : Value} {ks : List Nat} (h : Own base w v ks) (hb : Below w.heap.size w w') : Own base w' v ks := by
  refine ⟨h.1, ?_⟩
  rcases h.2 with h2 | ⟨g, cap, cur, h1, h2, h3, h4⟩
  · exact .inl h2
  · exact .inr ⟨g, cap, cur, h1, h2, (hb.block g (ltB h3)).trans h3, h4⟩

theorem wp_append_src {w : World} {o : Oper} {a : Act} {K : Act → World → Prop} {Q : Exit → Act → World → Prop} (s x : Operand)
    (ho : o.op = .call { callee := .builtin .append, args := #[s, x], argTypes := #[56, 56] }) (S : Nat) (v : Value) (zs : List Nat) (hs : a.eval s = v) (hown : Own S w v zs)
    (xv : Value) (ks : List Nat) (hx : a.eval x = xv) (hrs : RS w xv ks) (hlen : zs.length + ks.length ≤ 1099511627776) (hbase : S ≤ w.heap.size)
    (h : ∀ v' w', Own S w' v' (zs ++ ks) → Below S w w' → K (a.put o.dst v') w') : o.wp Yba.prog a w K Q := by
  obtain ⟨i0, hi, hz0, hz1, hz2⟩ := info_parts Yba.info34
  rcases hrs with ⟨rfl, rfl⟩ | ⟨b, off, cap, rfl, h2, h3⟩
  · have hr := run_append_owned_none (P := Yba.prog) w S 56 o.type 34 i0 33 Yba.underlying56 hi v zs.length (rls zs) hown
    unfold Oper.wp execOp
    simp only [ho, resolve, invoke, builtin, Sem.run_bind, Sem.run_pure, Result.andThen_ok, List.map_toArray, List.map_cons, List.map_nil, hs, hx, hr]
    exact h v w (by rw [List.append_nil]; exact hown) (Below.refl _ _)
  · refine wp_append_own w s x 56 ho S 34 i0 (rv 0) 33 40 Yba.underlying56 hi hz0 hz1 hz2 (by simp [rv, Value.cells, rl_len]) (by decide) v zs.length (rls zs) hs hown ⟨b, off, none⟩ ks.length cap (rls ks) hx (rls_len ks) (fun j u hu => by rw [Addr.add_none]; exact h3.cells j u hu) (rls_one ks) (by unfold maxLen; omega) (by omega) hbase ?_
    intro v' w' h5 h6 _
    refine h v' w' ?_ ((Below.refl S w).grown h6 hbase (fun k hk => (hown.lt k hk).1))
    unfold Own
    rw [List.length_append, rls_append]
    exact h5
theorem wpList_append_src {w : World} {ops : Array Oper} {rest : List Oper} {o : Oper} {a : Act} {Q : Exit → Act → World → Prop} (hgd : o.guard = none) (s x : Operand)
    (ho : o.op = .call { callee := .builtin .append, args := #[s, x], argTypes := #[56, 56] }) (S : Nat) (v : Value) (zs : List Nat) (hs : a.eval s = v) (hown : Own S w v zs)
    (xv : Value) (ks : List Nat) (hx : a.eval x = xv) (hrs : RS w xv ks) (hlen : zs.length + ks.length ≤ 1099511627776) (hbase : S ≤ w.heap.size)
    (h : ∀ v' w', Own S w' v' (zs ++ ks) → Below S w w' → wpList Yba.prog ops Q rest (a.put o.dst v') w') : wpList Yba.prog ops Q (o :: rest) a w :=
  wpList_plain hgd fun _ hK => wp_append_src s x ho S v zs hs hown xv ks hx hrs hlen hbase fun v' w' h1 h2 => hK _ _ (h v' w' h1 h2)
theorem step_append_src {w : World} {ops : Array Oper} {o : Oper} {a : Act} {K : Act → World → Prop} {Q : Exit → Act → World → Prop} {E : Prop} (hgd : o.guard = none) (s x : Operand)
    (ho : o.op = .call { callee := .builtin .append, args := #[s, x], argTypes := #[56, 56] }) (S : Nat) (v : Value) (zs : List Nat) (hs : a.eval s = v) (hown : Own S w v zs)
    (xv : Value) (ks : List Nat) (hx : a.eval x = xv) (hrs : RS w xv ks) (hlen : zs.length + ks.length ≤ 1099511627776) (hbase : S ≤ w.heap.size)
    (h : ∀ v' w', Own S w' v' (zs ++ ks) → Below S w w' → K (a.put o.dst v') w') : if Region.wanted o (yielded ops a.tmps) = true then Oper.wp Yba.prog o a w K Q else E := by
  rw [if_pos (by simp [Region.wanted, hgd])]
  exact wp_append_src s x ho S v zs hs hown xv ks hx hrs hlen hbase h

theorem make56 (w : World) (n m : Nat) (h : n + m ≤ 1099511627776) : ∃ cur : Array Value, cur.size = (n + m) * 33 ∧
    (Instr.makeSlice 56 (.int .i64 0) (.int .i64 ((n : Int) + m))).run Yba.prog w = .ok (.slice (some ⟨w.heap.size, 0, none⟩) 0 (n + m)) (w.alloc (.cells cur 34)) := by
  obtain ⟨i0, hi, hz0, hz1, hz2⟩ := info_parts Yba.info34
  have hz1 : i0.size = 33 := hz1
  have hz2 : i0.bytes = 40 := hz2
  have h := run_make w 56 34 i0 (rv 0) Yba.underlying56 hi hz0 .i64 .i64 0 ((n : Int) + m) (by omega) (by omega) (by rw [hz2]; omega) (by omega)
  rw [show ((n : Int) + m).toNat = n + m by omega, hz1] at h
  exact ⟨_, size_madeCells _ _, h⟩

/-- What union hands back. -/
def UniPost (S : Nat) (w : World) (xs ys : List Nat) (e : Ending) (w' : World) : Prop := ∃ v zs, e = .returned v ∧ Own S w' v zs ∧ Uni xs ys zs ∧ zs.length ≤ xs.length + ys.length ∧ Below S w w'

/-- On the way through union. -/
structure UW (S : Nat) (w : World) (xs ys : List Nat) (wr : World) (s0 s1 v : Value) (xs' ys' zs : List Nat) : Prop where
  a : RSb (· < S) wr s0 xs'
  b : RSb (· < S) wr s1 ys'
  own : Own S wr v zs
  mg : Mg xs ys xs' ys' zs
  bel : Below S w wr
theorem RSb.below {S : Nat} {w w' : World} {v : Value} {ks : List Nat} (h : RSb (· < S) w v ks) (hb : Below S w w') : RSb (· < S) w' v ks := h.keep (fun b hlt => hb.block b hlt) (fun b hlt => hlt)
theorem UW.later {S : Nat} {w : World} {xs ys : List Nat} {wr w' : World} {s0 s1 v : Value} {xs' ys' zs : List Nat} (h : UW S w xs ys wr s0 s1 v xs' ys' zs) (hS : S ≤ wr.heap.size) (hb : Below wr.heap.size wr w') : UW S w xs ys w' s0 s1 v xs' ys' zs :=
  ⟨h.a.below (hb.mono hS), h.b.below (hb.mono hS), h.own.later hb, h.mg, h.bel.trans (hb.mono hS)⟩
theorem RSb.first {S : Nat} {w : World} {v : Value} {k : Nat} {ks : List Nat} (h : RSb (· < S) w v (k :: ks)) : ∃ b o cap, v = .slice (some ⟨b, o, none⟩) (ks.length + 1) cap ∧ RA w b o k := by
  rcases h with ⟨_, h⟩ | ⟨b, o, cap, h1, h2, h3, h4⟩
  · cases h
  · exact ⟨b, o, cap, h1, by simpa using h4 0 (by simp)⟩

def URel (S : Nat) (w : World) (xs ys : List Nat) (s0 s1 s5 : Value) (wr : World) : Prop := ∃ (pa : Option Addr) (n ca : Nat) (pb : Option Addr) (m cb : Nat) (xs' ys' zs : List Nat) (v5 : Value), v5 = s5 ∧ s0 = .slice pa n ca ∧ s1 = .slice pb m cb ∧ n = xs'.length ∧ m = ys'.length ∧ UW S w xs ys wr s0 s1 s5 xs' ys' zs ∧ S ≤ wr.heap.size
def lenV : Value → Nat
  | .slice _ n _ => n
  | _ => 0

set_option maxRecDepth 100000 in
set_option maxHeartbeats 2000000 in
theorem union_any {w : World} {va vb : Value} {xs ys : List Nat} (ha : RSb (· < w.heap.size) w va xs) (hb : RSb (· < w.heap.size) w vb ys) (hxa : xs.Pairwise (· < ·)) (hya : ys.Pairwise (· < ·)) (hl : xs.length + ys.length ≤ 1073741824) :
    Calls Yba.prog 42 #[va, vb] w (UniPost w.heap.size w xs ys) := by
  obtain ⟨cur, hcs, hmk⟩ := make56 w xs.length ys.length (by omega)
  have h0 := hideB (show UW w.heap.size w xs ys (w.alloc (.cells cur 34)) va vb (.slice (some ⟨w.heap.size, 0, none⟩) 0 (xs.length + ys.length)) xs ys [] from
    ⟨ha.below ((Below.refl _ w).alloc (Nat.le_refl _) _), hb.below ((Below.refl _ w).alloc (Nat.le_refl _) _), World.ownsRow_made w cur _ (Nat.le_refl _) (by unfold maxLen; omega) hcs, Mg.start hxa hya, (Below.refl _ w).alloc (Nat.le_refl _) _⟩)
  have hsv : ∀ {v : Value} {ks : List Nat}, RSb (· < w.heap.size) w v ks → ∃ p cap, v = .slice p ks.length cap := by
    intro v ks h
    rcases h with ⟨rfl, rfl⟩ | ⟨b, o, cap, rfl, _⟩
    · exact ⟨none, 0, rfl⟩
    · exact ⟨_, _, rfl⟩
  obtain ⟨pa, ca, rfl⟩ := hsv ha
  obtain ⟨pb, cb, rfl⟩ := hsv hb
  obtain ⟨n, hn⟩ : ∃ n, n = xs.length := ⟨_, rfl⟩
  obtain ⟨m, hm⟩ : ∃ m, m = ys.length := ⟨_, rfl⟩
  have HL := hideB hl
  rw [← hn, ← hm] at h0 hmk hl ⊢
  have HN := hideB hn; have HM := hideB hm
  clear ha hb hsv hcs hxa hya hn hm
  go_enter Yba.func42, Yba.ntmps42
  go_wp2_with fail
  clear hmk
  have hS : w.heap.size ≤ (w.alloc (.cells cur 34)).heap.size := by simp
  generalize (w.alloc (.cells cur 34)) = W at h0 hS ⊢
  generalize hSe : w.heap.size = S at h0 hS ⊢
  have HSE := hideB hSe
  clear hSe
  go_loopw [0, 1, 5] (fun s0 s1 s5 wr => URel S w xs ys s0 s1 s5 wr) (fun s0 s1 _ _ => lenV s0 + lenV s1)
  case atStart => exact ⟨pa, n, ca, pb, m, cb, xs, ys, [], _, rfl, rfl, rfl, unhideB HN, unhideB HM, unhideB h0, hS⟩
  case round =>
    obtain ⟨pa, n, ca, pb, m, cb, xs', ys', zs, v5, rfl, rfl, rfl, hn, hm, huw, hSr⟩ := hrel
    have hlen := huw.mg.len
    have HUW := hideB huw; have HL2 := hideB hlen
    clear h0 HN HM hlen
    cases xs' with
    | nil =>
      simp only [List.length_nil] at hn
      subst hn
      clear huw hm
      go_wp2_with (first | (at_builtin; refine wpList_append_src rfl (.tmp 60) (.tmp 61) rfl S v5 zs (by simp [Act.eval]) (unhideB HUW).own (.slice pa 0 ca) [] (by simp [Act.eval]) (unhideB HUW).a.rs (by have := unhideB HL2; have := unhideB HL; simp at *; omega) hSr ?_; intro v' w2 hown hbel; have HO2 := hideB hown; have HB2 := hideB hbel; have hS2 := Nat.le_trans hSr hbel.size; clear hown hbel) | (at_builtin; refine wpList_append_src rfl (.tmp 62) (.tmp 63) rfl S v' _ (by simp [Act.eval]) (unhideB HO2) (.slice pb m cb) ys' (by simp [Act.eval]) ((unhideB HUW).b.below (unhideB HB2)).rs (by have := unhideB HL2; have := unhideB HL; simp at *; omega) hS2 ?_; intro v2 w3 hown hbel; have HO3 := hideB hown; have HB3 := hideB hbel; clear hown hbel))
      go_ret
      rw [unhideB HSE]
      refine ⟨v2, _, rfl, unhideB HO3, (unhideB HUW).mg.done (.inl rfl), ?_, (unhideB HUW).bel.trans ((unhideB HB2).trans (unhideB HB3))⟩
      have := unhideB HL2
      simp at *
      omega
    | cons k xs2 =>
      cases ys' with
      | nil =>
        simp only [List.length_nil] at hm
        subst hm
        obtain ⟨b1, o1, c1, e1, r1⟩ := huw.a.first
        simp only [Value.slice.injEq] at e1
        obtain ⟨rfl, rfl, rfl⟩ := e1
        clear huw r1 hn
        have n1 : 0 < xs2.length + 1 := by omega
        go_wp2_with (first | (at_builtin; refine wpList_append_src rfl (.tmp 60) (.tmp 61) rfl S v5 zs (by simp [Act.eval]) (unhideB HUW).own (.slice (some ⟨b1, o1, none⟩) (xs2.length + 1) ca) (k :: xs2) (by simp [Act.eval]) (unhideB HUW).a.rs (by have := unhideB HL2; have := unhideB HL; simp at *; omega) hSr ?_; intro v' w2 hown hbel; have HO2 := hideB hown; have HB2 := hideB hbel; have hS2 := Nat.le_trans hSr hbel.size; clear hown hbel) | (at_builtin; refine wpList_append_src rfl (.tmp 62) (.tmp 63) rfl S v' _ (by simp [Act.eval]) (unhideB HO2) (.slice pb 0 cb) [] (by simp [Act.eval]) ((unhideB HUW).b.below (unhideB HB2)).rs (by have := unhideB HL2; have := unhideB HL; simp at *; omega) hS2 ?_; intro v2 w3 hown hbel; have HO3 := hideB hown; have HB3 := hideB hbel; clear hown hbel))
        go_ret
        rw [unhideB HSE]
        refine ⟨v2, _, rfl, unhideB HO3, (unhideB HUW).mg.done (.inr rfl), ?_, (unhideB HUW).bel.trans ((unhideB HB2).trans (unhideB HB3))⟩
        have := unhideB HL2
        simp at *
        omega
      | cons j ys2 =>
        obtain ⟨b1, o1, c1, e1, r1⟩ := huw.a.first
        simp only [Value.slice.injEq] at e1
        obtain ⟨rfl, rfl, rfl⟩ := e1
        obtain ⟨b2, o2, c2, e2, r2⟩ := huw.b.first
        simp only [Value.slice.injEq] at e2
        obtain ⟨rfl, rfl, rfl⟩ := e2
        clear hn hm
        obtain ⟨a1, t1, ra1⟩ := huw.a.tail 1 (by simp)
        obtain ⟨a2, t2, ra2⟩ := huw.b.tail 1 (by simp)
        simp only [List.drop_succ_cons, List.drop_zero, Nat.add_sub_cancel] at t1 t2 ra1 ra2
        have t1b : ∀ w, (sl56 (.slice (some ⟨b1, o1, none⟩) (xs2.length + 1) ca) (some (.int .i64 1)) none none).run Yba.prog w = .ok (.slice (some a1) xs2.length (ca - 1)) w := t1
        have t2b : ∀ w, (sl56 (.slice (some ⟨b2, o2, none⟩) (ys2.length + 1) cb) (some (.int .i64 1)) none none).run Yba.prog w = .ok (.slice (some a2) ys2.length (cb - 1)) w := t2
        clear huw t1 t2
        have HA1 := hideB ra1; have HA2 := hideB ra2
        clear ra1 ra2
        have l1 : ∀ p, (exLoad34 (.pointer (some ⟨b1, o1, none⟩))).run Yba.prog (gr wr p) = .ok (.value (rv k)) (gr wr p) := fun p => run_load34 (gr_RA r1 p)
        have l2 : ∀ p, (exLoad34 (.pointer (some ⟨b2, o2, none⟩))).run Yba.prog (gr wr p) = .ok (.value (rv j)) (gr wr p) := fun p => run_load34 (gr_RA r2 p)
        have n1 : 0 < xs2.length + 1 := by omega
        have n2 : 0 < ys2.length + 1 := by omega
        have n1' : (0 : Int) < (xs2.length : Int) + 1 := by omega
        have n2' : (0 : Int) < (ys2.length : Int) + 1 := by omega
        rcases Nat.lt_trichotomy k j with hkj | hkj | hkj
        · have hC : ∀ W, Calls Yba.prog 13 #[rv k, rv j] W fun e w' => e = .returned (.int .i64 (-1)) ∧ Below W.heap.size W w' := fun W => by
            have := compare_any k j W
            rwa [cmpN_lt (by omega)] at this
          have HC := hideB hC
          clear hC
          go_wp2_with fail
          refine wp_region_gr (by kernel_rfl) (by kernel_rfl) ?_
          repeat (quiet_step (first | (go_at_call 13; refine Calls.gr_of ((unhideB HC) _))))
          refine wpQuiet_nil ?_
          intro w1 hw1
          obtain ⟨p1, rfl⟩ := hw1
          have hS1 : S ≤ (gr wr p1).heap.size := Nat.le_trans hSr (gr_below wr p1).size
          have UW1 := hideB ((unhideB HUW).later hSr (gr_below wr p1))
          have q1 := run_ld34 (show RA (gr wr p1).drew b1 o1 k from gr_RA r1 p1)
          have q2 := run_ld34 (show RA (gr wr p1).drew b2 o2 j from gr_RA r2 p1)
          have q3 := run_load34 (show RA (gr wr p1).drew b1 o1 k from gr_RA r1 p1)
          have q4 := run_load34 (show RA (gr wr p1).drew b2 o2 j from gr_RA r2 p1)
          have HB1 := hideB (((unhideB HA1).below ((gr_below wr p1).mono hSr))); have HB2 := hideB (((unhideB HA2).below ((gr_below wr p1).mono hSr)))
          generalize gr wr p1 = W1 at UW1 q1 q2 q3 q4 hS1 HB1 HB2 ⊢
          clear l1 l2
          have HOW := hideB (show Own S (W1.drew.alloc (.cells (rl k).toArray 34)) v5 zs from (unhideB UW1).own.later (((Below.refl _ W1).drew).alloc (Nat.le_refl _) _))
          have HRS := hideB (show RS (W1.drew.alloc (.cells (rl k).toArray 34)) (.slice (some ⟨W1.heap.size, 0, none⟩) 1 1) [k] from .inr ⟨W1.heap.size, 0, 1, rfl, Nat.le_refl _, fun i hi => by
            have hi0 : i = 0 := by simpa using hi
            subst hi0
            exact RA_box W1.drew k 34⟩)
          go_wp2_with fail
          go_region_law (refine step_append_src rfl (.tmp 41) (.tmp 45) rfl S v5 zs (by simp [Act.eval]) (unhideB HOW) (.slice (some ⟨W1.heap.size, 0, none⟩) 1 1) [k] (by simp [Act.eval]) (unhideB HRS) (by have := unhideB HL2; have := unhideB HL; simp at *; omega) (by simp; omega) ?_; intro v' w2 hown hbel; have HOW2 := hideB hown; have HBE2 := hideB hbel; clear hown hbel)
          all_goals
            go_wp2_with fail
            have hbel2 : Below S W1 w2 := (((Below.refl S W1).drew).alloc hS1 _).trans (unhideB HBE2)
            go_simp
            refine ⟨⟨_, _, _, ⟨_, _, _, _, _, _, xs2, j :: ys2, zs ++ [k], _, rfl, rfl, rfl, rfl, rfl, ⟨(unhideB HB1).below hbel2, (unhideB UW1).b.below hbel2, unhideB HOW2, (unhideB UW1).mg.left (fun y hy => by rcases List.mem_cons.1 hy with rfl | hy; exact hkj; have := (List.pairwise_cons.1 (unhideB UW1).mg.pb).1 y hy; omega), (unhideB UW1).bel.trans hbel2⟩, Nat.le_trans hS1 hbel2.size⟩, rfl, rfl, rfl⟩, ?_⟩
            simp [lenV] <;> omega
        · subst hkj
          have hC : ∀ W, Calls Yba.prog 13 #[rv k, rv k] W fun e w' => e = .returned (.int .i64 (0)) ∧ Below W.heap.size W w' := fun W => by
            have := compare_any k k W
            rwa [cmpN_eq] at this
          have HC := hideB hC
          clear hC
          go_wp2_with fail
          refine wp_region_gr (by kernel_rfl) (by kernel_rfl) ?_
          repeat (quiet_step (first | (go_at_call 13; refine Calls.gr_of ((unhideB HC) _))))
          refine wpQuiet_nil ?_
          intro w1 hw1
          obtain ⟨p1, rfl⟩ := hw1
          have hS1 : S ≤ (gr wr p1).heap.size := Nat.le_trans hSr (gr_below wr p1).size
          have UW1 := hideB ((unhideB HUW).later hSr (gr_below wr p1))
          have q1 := run_ld34 (show RA (gr wr p1).drew b1 o1 k from gr_RA r1 p1)
          have q2 := run_ld34 (show RA (gr wr p1).drew b2 o2 k from gr_RA r2 p1)
          have q3 := run_load34 (show RA (gr wr p1).drew b1 o1 k from gr_RA r1 p1)
          have q4 := run_load34 (show RA (gr wr p1).drew b2 o2 k from gr_RA r2 p1)
          have HB1 := hideB (((unhideB HA1).below ((gr_below wr p1).mono hSr))); have HB2 := hideB (((unhideB HA2).below ((gr_below wr p1).mono hSr)))
          generalize gr wr p1 = W1 at UW1 q1 q2 q3 q4 hS1 HB1 HB2 ⊢
          clear l1 l2
          have HOW := hideB (show Own S (W1.drew.alloc (.cells (rl k).toArray 34)) v5 zs from (unhideB UW1).own.later (((Below.refl _ W1).drew).alloc (Nat.le_refl _) _))
          have HRS := hideB (show RS (W1.drew.alloc (.cells (rl k).toArray 34)) (.slice (some ⟨W1.heap.size, 0, none⟩) 1 1) [k] from .inr ⟨W1.heap.size, 0, 1, rfl, Nat.le_refl _, fun i hi => by
            have hi0 : i = 0 := by simpa using hi
            subst hi0
            exact RA_box W1.drew k 34⟩)
          go_wp2_with fail
          go_region_law (refine step_append_src rfl (.tmp 28) (.tmp 32) rfl S v5 zs (by simp [Act.eval]) (unhideB HOW) (.slice (some ⟨W1.heap.size, 0, none⟩) 1 1) [k] (by simp [Act.eval]) (unhideB HRS) (by have := unhideB HL2; have := unhideB HL; simp at *; omega) (by simp; omega) ?_; intro v' w2 hown hbel; have HOW2 := hideB hown; have HBE2 := hideB hbel; clear hown hbel)
          all_goals
            go_wp2_with fail
            have hbel2 : Below S W1 w2 := (((Below.refl S W1).drew).alloc hS1 _).trans (unhideB HBE2)
            go_simp
            refine ⟨⟨_, _, _, ⟨_, _, _, _, _, _, xs2, ys2, zs ++ [k], _, rfl, rfl, rfl, rfl, rfl, ⟨(unhideB HB1).below hbel2, (unhideB HB2).below hbel2, unhideB HOW2, (unhideB UW1).mg.both, (unhideB UW1).bel.trans hbel2⟩, Nat.le_trans hS1 hbel2.size⟩, rfl, rfl, rfl⟩, ?_⟩
            simp [lenV] <;> omega
        · have hC : ∀ W, Calls Yba.prog 13 #[rv k, rv j] W fun e w' => e = .returned (.int .i64 (1)) ∧ Below W.heap.size W w' := fun W => by
            have := compare_any k j W
            rwa [cmpN_gt (by omega)] at this
          have HC := hideB hC
          clear hC
          go_wp2_with fail
          refine wp_region_gr (by kernel_rfl) (by kernel_rfl) ?_
          repeat (quiet_step (first | (go_at_call 13; refine Calls.gr_of ((unhideB HC) _))))
          refine wpQuiet_nil ?_
          intro w1 hw1
          obtain ⟨p1, rfl⟩ := hw1
          have hS1 : S ≤ (gr wr p1).heap.size := Nat.le_trans hSr (gr_below wr p1).size
          have UW1 := hideB ((unhideB HUW).later hSr (gr_below wr p1))
          have q1 := run_ld34 (show RA (gr wr p1).drew b1 o1 k from gr_RA r1 p1)
          have q2 := run_ld34 (show RA (gr wr p1).drew b2 o2 j from gr_RA r2 p1)
          have q3 := run_load34 (show RA (gr wr p1).drew b1 o1 k from gr_RA r1 p1)
          have q4 := run_load34 (show RA (gr wr p1).drew b2 o2 j from gr_RA r2 p1)
          have HB1 := hideB (((unhideB HA1).below ((gr_below wr p1).mono hSr))); have HB2 := hideB (((unhideB HA2).below ((gr_below wr p1).mono hSr)))
          generalize gr wr p1 = W1 at UW1 q1 q2 q3 q4 hS1 HB1 HB2 ⊢
          clear l1 l2
          have HOW := hideB (show Own S (W1.drew.alloc (.cells (rl j).toArray 34)) v5 zs from (unhideB UW1).own.later (((Below.refl _ W1).drew).alloc (Nat.le_refl _) _))
          have HRS := hideB (show RS (W1.drew.alloc (.cells (rl j).toArray 34)) (.slice (some ⟨W1.heap.size, 0, none⟩) 1 1) [j] from .inr ⟨W1.heap.size, 0, 1, rfl, Nat.le_refl _, fun i hi => by
            have hi0 : i = 0 := by simpa using hi
            subst hi0
            exact RA_box W1.drew j 34⟩)
          go_wp2_with fail
          go_region_law (refine step_append_src rfl (.tmp 52) (.tmp 56) rfl S v5 zs (by simp [Act.eval]) (unhideB HOW) (.slice (some ⟨W1.heap.size, 0, none⟩) 1 1) [j] (by simp [Act.eval]) (unhideB HRS) (by have := unhideB HL2; have := unhideB HL; simp at *; omega) (by simp; omega) ?_; intro v' w2 hown hbel; have HOW2 := hideB hown; have HBE2 := hideB hbel; clear hown hbel)
          all_goals
            go_wp2_with fail
            have hbel2 : Below S W1 w2 := (((Below.refl S W1).drew).alloc hS1 _).trans (unhideB HBE2)
            go_simp
            refine ⟨⟨_, _, _, ⟨_, _, _, _, _, _, k :: xs2, ys2, zs ++ [j], _, rfl, rfl, rfl, rfl, rfl, ⟨(unhideB UW1).a.below hbel2, (unhideB HB2).below hbel2, unhideB HOW2, (unhideB UW1).mg.right (fun y hy => by rcases List.mem_cons.1 hy with rfl | hy; exact hkj; have := (List.pairwise_cons.1 (unhideB UW1).mg.pa).1 y hy; omega), (unhideB UW1).bel.trans hbel2⟩, Nat.le_trans hS1 hbel2.size⟩, rfl, rfl, rfl⟩, ?_⟩
            simp [lenV] <;> omega
end Go.Proofs.Ybulkqhs
