import Derived.Test.YbulkqhsB24
namespace Go.Proofs.Ybulkqhs
open Go.RowKit
set_option linter.unusedVariables false
attribute [local go_sem ↓] exec_store34 exec_load34 exec_box34 exec_build78 exec_box78 exec_load70
attribute [local go_sem] run_box34 run_box78 eql34_run neq34_run guard34

/-- A slice of nodes at depth d, whose blocks meet U. -/
def NSU (d : Nat) (U : Nat → Prop) (w : World) (v : Value) (ns : List (Nat × List Nat)) : Prop :=
  ns ≠ [] ∧ (∀ c ∈ ns, c.2 ≠ [] ∧ NodeAt d U w c.1 c.2) ∧ ∃ G o cap, v = .slice (some ⟨G, o, none⟩) ns.length cap ∧ ns.length ≤ cap ∧ Ptrs w G o (ns.map (·.1))
abbrev NS (d : Nat) (w : World) (v : Value) (ns : List (Nat × List Nat)) : Prop := NSU d (· < w.heap.size) w v ns
theorem NSU.weak {d : Nat} {U U' : Nat → Prop} {w : World} {v : Value} {ns : List (Nat × List Nat)} (h : NSU d U w v ns) (hU : ∀ x, U x → U' x) : NSU d U' w v ns :=
  ⟨h.1, fun c hc => ⟨(h.2.1 c hc).1, NodeAt.keep (fun _ _ => rfl) hU d _ _ (h.2.1 c hc).2⟩, h.2.2⟩
theorem NS.later {d : Nat} {w w' : World} {v : Value} {ns : List (Nat × List Nat)} (h : NS d w v ns) (hb : Below w.heap.size w w') : NS d w' v ns := by
  obtain ⟨h1, h2, G, o, cap, h3, h4, h5⟩ := h
  exact ⟨h1, fun c hc => ⟨(h2 c hc).1, NodeAt.later hb hb.size d _ _ (h2 c hc).2⟩, G, o, cap, h3, h4, h5.of_block (hb.block G (h5.lt (by simpa using h1)))⟩
theorem Grp.nsU {d : Nat} {V : Nat → Prop} {w w' : World} {cnt : Nat} {all : List Nat} {e : Ending} (h : Grp d V w cnt all e w') (hc : 0 < cnt) : ∃ v ns, e = .returned v ∧ NSU d (fun x => (V x ∨ w.heap.size ≤ x) ∧ x < w'.heap.size) w' v ns ∧ ns.length = cnt ∧ ns.flatMap (·.2) = all ∧ (∀ c ∈ ns, w.heap.size ≤ c.1) ∧ Below w.heap.size w w' := by
  obtain ⟨G, ns, rfl, h1, h2, h3, h4, h5, h6⟩ := h
  refine ⟨_, ns, rfl, ⟨?_, fun c hc => (h4 c hc).2, G, 0, ns.length, rfl, Nat.le_refl _, h3⟩, h1, h5, fun c hc => (h4 c hc).1, h6⟩
  intro e; rw [e] at h1; simp at h1; omega
theorem Grp.ns {d : Nat} {V : Nat → Prop} {w w' : World} {cnt : Nat} {all : List Nat} {e : Ending} (h : Grp d V w cnt all e w') (hc : 0 < cnt) : ∃ v ns, e = .returned v ∧ NS d w' v ns ∧ ns.length = cnt ∧ ns.flatMap (·.2) = all ∧ (∀ c ∈ ns, w.heap.size ≤ c.1) ∧ Below w.heap.size w w' := by
  obtain ⟨v, ns, h1, h2, h3⟩ := h.nsU hc
  exact ⟨v, ns, h1, h2.weak (fun x hx => hx.2), h3⟩
theorem len_flat : ∀ ns : List (Nat × List Nat), (∀ c ∈ ns, c.2 ≠ []) → ns.length ≤ (ns.flatMap (·.2)).length
  | [], _ => by simp
  | c :: ns, h => by
    have h1 := len_flat ns fun x hx => h x (List.mem_cons_of_mem _ hx)
    have h2 := List.length_pos_iff.2 (h c List.mem_cons_self)
    rw [List.flatMap_cons, List.length_append, List.length_cons]
    omega

/-- What rootOf hands back. -/
def Rooted (d : Nat) (w : World) (ns : List (Nat × List Nat)) (e : Ending) (w' : World) : Prop := ∃ d' p, e = .returned (.pointer (some ⟨p, 0, none⟩)) ∧ NodeAt d' (· < w'.heap.size) w' p (ns.flatMap (·.2)) ∧ ((ns.length = 1 ∧ p = ns[0]!.1 ∧ d' = d) ∨ (1 < ns.length ∧ w.heap.size ≤ p)) ∧ Below w.heap.size w w'

/-- On the way to the root. -/
structure Way (d : Nat) (w : World) (ns0 : List (Nat × List Nat)) (wr : World) (v : Value) (d' : Nat) (ns : List (Nat × List Nat)) : Prop where
  here : NS d' wr v ns
  flat : ns.flatMap (·.2) = ns0.flatMap (·.2)
  bel : Below w.heap.size w wr
  how : (ns = ns0 ∧ d' = d) ∨ (1 < ns0.length ∧ ∀ c ∈ ns, w.heap.size ≤ c.1)

set_option maxRecDepth 100000 in
set_option maxHeartbeats 1000000 in
theorem rootOf_any {d : Nat} {w : World} {v : Value} {ns : List (Nat × List Nat)} (h : NS d w v ns) (hn : (ns.flatMap (·.2)).length ≤ 1073741824) :
    Calls Yba.prog 23 #[v] w (Rooted d w ns) := by
  have W0 := hideB (show Way d w ns w v d ns from ⟨h, rfl, Below.refl _ _, .inl ⟨rfl, rfl⟩⟩)
  obtain ⟨h1, h2, G, o, cap, rfl, h4, h5⟩ := h
  clear h1 h2 h4 h5
  go_enter Yba.func23, Yba.ntmps23
  go_wp2_with fail
  go_loopw [0] (fun s0 wr => ∃ (G o n cap d' : Nat) (ns' : List (Nat × List Nat)), s0 = .slice (some ⟨G, o, none⟩) n cap ∧ n = ns'.length ∧ Way d w ns wr s0 d' ns') (fun s0 _ => match s0 with | .slice _ n _ => n | _ => 0)
  case atStart => exact ⟨G, o, ns.length, cap, d, ns, rfl, rfl, unhideB W0⟩
  case round =>
    obtain ⟨G, o, n, cap, d', ns', rfl, hnl, hway⟩ := hrel
    clear W0
    have hb2 := len_flat ns' fun c hc => (hway.here.2.1 c hc).1
    rw [hway.flat] at hb2
    have hnp : 0 < n := by rw [hnl]; exact List.length_pos_iff.2 hway.here.1
    have HW := hideB hway; have HN := hideB hnl
    clear hway
    by_cases hlt : 1 < n
    · have hlt' : (1 : Int) < n := by omega
      clear hnl
      have hgrp : Calls Yba.prog 40 #[.slice (some ⟨G, o, none⟩) n cap, .int .i64 32, .func (.func 41) #[] #[]] wr (Grp (d' + 1) (· < wr.heap.size) wr ((n + 31) / 32) (ns.flatMap (·.2))) := by
        obtain ⟨q1, q2, G', o', cap', q3, q4, q5⟩ := (unhideB HW).here
        simp only [Value.slice.injEq, Option.some.injEq, Addr.mk.injEq, and_true] at q3
        obtain ⟨⟨rfl, rfl⟩, q3, rfl⟩ := q3
        have hh := groupN_any (w := wr) G o cap (d := d') (V := (· < wr.heap.size)) (fun x hx => hx) (q5.lt (by simpa using q1)) ns' q5 q1 q2 q4 (by have := unhideB HN; omega) (by rw [(unhideB HW).flat]; exact hn)
        rw [← unhideB HN, (unhideB HW).flat] at hh
        exact hh
      have HG := hideB hgrp
      clear hgrp
      go_wp2_with fail
      refine (unhideB HG).mono ?_
      rintro e w' hgr
      obtain ⟨v', ns2, rfl, k1, k2, k3, k4, k5⟩ := hgr.ns (by omega)
      have HW2 := hideB (show Way d w ns w' v' (d' + 1) ns2 from ⟨k1, k3, (unhideB HW).bel.trans (k5.mono (unhideB HW).bel.size), .inr ⟨by rcases (unhideB HW).how with h1 | h1; rw [← h1.1, ← unhideB HN]; exact hlt; exact h1.1, fun c hc => Nat.le_trans (unhideB HW).bel.size (k4 c hc)⟩⟩)
      obtain ⟨_, _, G2, o2, cap2, rfl, _, _⟩ := k1
      rw [k2] at HW2 ⊢
      have HK2 := hideB k2
      clear k3 k4 k5 hgr k2
      go_wp2_with fail
      refine ⟨⟨G2, o2, (n + 31) / 32, cap2, d' + 1, ns2, rfl, (unhideB HK2).symm, unhideB HW2⟩, ?_⟩
      show (n + 31) / 32 < n
      omega
    · have hlt' : ¬ ((1 : Int) < n) := by omega
      have hn1 : n = 1 := by omega
      obtain ⟨q1, q2, G', o', cap', q3, q4, q5⟩ := (unhideB HW).here
      simp only [Value.slice.injEq, Option.some.injEq, Addr.mk.injEq, and_true] at q3
      obtain ⟨⟨rfl, rfl⟩, q3, rfl⟩ := q3
      have hl1 : ns'.length = 1 := by omega
      obtain ⟨c, hc⟩ := List.length_eq_one_iff.1 hl1
      have hc0 : wr.cell? ⟨G, o, none⟩ = some (.pointer (some ⟨c.1, 0, none⟩)) := by
        have := q5 0 (by simp [hl1])
        rw [hc] at this
        simpa using this
      have hnode := (q2 c (by rw [hc]; simp)).2
      have HNO := hideB hnode; have HC := hideB hc
      clear hnode hc q1 q2 q4 q5 hnl hl1 q3
      subst hn1
      go_wp2_with fail
      go_ret
      have hfl := (unhideB HW).flat
      rw [unhideB HC] at hfl
      simp only [List.flatMap_cons, List.flatMap_nil, List.append_nil] at hfl
      refine ⟨d', c.1, rfl, by rw [← hfl]; exact unhideB HNO, ?_, (unhideB HW).bel⟩
      rcases (unhideB HW).how with ⟨e1, e2⟩ | e1
      · left
        rw [← e1, unhideB HC]
        exact ⟨rfl, rfl, e2⟩
      · right
        exact ⟨e1.1, e1.2 c (by rw [unhideB HC]; simp)⟩
end Go.Proofs.Ybulkqhs
