import Derived.Test.YbulkqhsB34
namespace Go.Proofs.Ybulkqhs
open Go.RowKit
set_option linter.unusedVariables false
set_option linter.unusedSimpArgs false
attribute [local go_sem ↓] exec_store34 exec_load34 exec_box34 exec_build78 exec_box78 exec_load70
attribute [local go_sem] run_box34 run_box78 eql34_run neq34_run guard34 eqNil71

def ColPost (S : Nat) (w : World) (all : List Nat) (e : Ending) (w' : World) : Prop := ∃ v, e = .returned v ∧ Own S w' v all ∧ Below S w w'

set_option maxRecDepth 100000 in
set_option maxHeartbeats 1000000 in
theorem collect_leaf {S : Nat} {w : World} {p : Nat} {ks vs : List Nat} {out : Value} (hS : S ≤ w.heap.size) (hnode : NodeAt 0 (· < S) w p ks) (hown : Own S w out vs) (hl : vs.length + ks.length ≤ 1073741824) :
    Calls Yba.prog 10 #[.pointer (some ⟨p, 0, none⟩), out] w (ColPost S w (vs ++ ks)) := by
  obtain ⟨hp, v, hnb, hrs⟩ := hnode
  have hk39 : w.cell? ⟨p, 39, none⟩ = some (.slice none 0 0) := hnb.kids
  have hk38 := hnb.recs
  obtain ⟨pa, ca, rfl⟩ : ∃ pa ca, v = .slice pa ks.length ca := by
    rcases hrs with ⟨rfl, rfl⟩ | ⟨b, o, cap, rfl, _⟩
    · exact ⟨none, 0, rfl⟩
    · exact ⟨_, _, rfl⟩
  have HO := hideB hown; have HR := hideB hrs.rs
  clear hnb hrs hown
  go_enter Yba.func10, Yba.ntmps10
  go_wp2_with (at_builtin; refine wpList_append_src rfl (.tmp 12) (.tmp 16) rfl S out vs (by simp [Act.eval]) (unhideB HO) (.slice pa ks.length ca) ks (by simp [Act.eval]) (unhideB HR) (by omega) hS ?_; intro v' w2 hown2 hbel2; have HO2 := hideB hown2; have HB2 := hideB hbel2; clear hown2 hbel2)
  go_ret
  exact ⟨v', rfl, unhideB HO2, unhideB HB2⟩

structure Cw (S : Nat) (w : World) (vs : List Nat) (cs : List (Nat × List Nat)) (wr : World) (v : Value) (i : Nat) : Prop where
  own : Own S wr v (vs ++ (cs.take i).flatMap (·.2))
  bel : Below S w wr
def CRel (S : Nat) (w : World) (vs : List Nat) (cs : List (Nat × List Nat)) (n : Nat) (s1 s23 : Value) (wr : World) : Prop := ∃ (i : Nat) (v1 : Value), v1 = s1 ∧ s23 = .int .i64 i ∧ i ≤ n ∧ Cw S w vs cs wr s1 i

set_option maxRecDepth 100000 in
set_option maxHeartbeats 1000000 in
theorem collect_inner {d : Nat} (ih : ∀ (S : Nat) (w : World) (p : Nat) (ks vs : List Nat) (out : Value), S ≤ w.heap.size → NodeAt d (· < S) w p ks → Own S w out vs → vs.length + ks.length ≤ 1073741824 → Calls Yba.prog 10 #[.pointer (some ⟨p, 0, none⟩), out] w (ColPost S w (vs ++ ks)))
    {S : Nat} {w : World} {p : Nat} {ks vs : List Nat} {out : Value} (hS : S ≤ w.heap.size) (hnode : NodeAt (d + 1) (· < S) w p ks) (hown : Own S w out vs) (hl : vs.length + ks.length ≤ 1073741824) :
    Calls Yba.prog 10 #[.pointer (some ⟨p, 0, none⟩), out] w (ColPost S w (vs ++ ks)) := by
  obtain ⟨hp, b, o, cap, cs, hcne, hbS, hnb, hccap, hpt, hcs, hks⟩ := hnode
  have hk39 := hnb.kids
  have hcl : cs.length ≤ ks.length := by rw [hks]; exact len_flat cs fun c hc => (hcs c hc).1
  obtain ⟨n, hn⟩ : ∃ n, n = cs.length := ⟨_, rfl⟩
  rw [← hn] at hk39
  have hnl : n ≤ 1073741824 := by omega
  have IH := hideB ih; have HN := hideB hn; have HPT := hideB hpt; have HCS := hideB hcs; have HKS := hideB hks; have HO := hideB hown; have HL := hideB hl
  clear ih hn hnb hpt hcs hks hown hl
  go_enter Yba.func10, Yba.ntmps10
  go_wp2_with fail
  clear hk39
  go_loopw [1, 23] (fun s1 s23 wr => CRel S w vs cs n s1 s23 wr) (fun _ s23 _ => n - (intOf s23).toNat)
  case atStart => exact ⟨0, _, rfl, rfl, by omega, by simpa using unhideB HO, Below.refl _ _⟩
  case round =>
    obtain ⟨i, v1, rfl, rfl, hin, hcw⟩ := hrel
    have HCW := hideB hcw
    by_cases hlt : i < n
    · have hlt' : (i : Int) < n := by omega
      have hic : i < cs.length := by rw [← unhideB HN]; exact hlt
      have him : cs[i]! ∈ cs := by rw [getElem!_pos cs i hic]; exact List.getElem_mem _
      have hci : wr.cell? ⟨b, o + i, none⟩ = some (.pointer (some ⟨cs[i]!.1, 0, none⟩)) := by
        have := ((unhideB HPT).of_block (hcw.bel.block b hbS)) i (by simpa using hic)
        rw [this, getElem!_pos _ i (by simpa using hic), getElem!_pos cs i hic]
        simp
      have hft := flat_take cs i hic
      have hft2 := flat_take_len cs (i + 1)
      rw [← unhideB HKS] at hft2
      have hcall := unhideB IH S wr cs[i]!.1 cs[i]!.2 (vs ++ (cs.take i).flatMap (·.2)) v1 (Nat.le_trans hS hcw.bel.size) (NodeAt.later hcw.bel (Nat.le_refl _) d _ _ ((unhideB HCS) _ him).2) hcw.own (by have := unhideB HL; rw [hft, List.length_append] at hft2; rw [List.length_append]; omega)
      rw [List.append_assoc, ← hft] at hcall
      have HC := hideB hcall
      clear hcall hft hft2 hcw him hic
      generalize cs[i]!.1 = q at hci HC
      go_wp2_with fail
      refine (unhideB HC).mono ?_
      rintro e w2 ⟨v2, rfl, ho2, hb2⟩
      have HCW2 := hideB (show Cw S w vs cs w2 v2 (i + 1) from ⟨ho2, (unhideB HCW).bel.trans hb2⟩)
      clear ho2 hb2
      go_wp2_with fail
      refine ⟨⟨i + 1, _, rfl, by simp, by omega, unhideB HCW2⟩, by simp [intOf]; omega⟩
    · have hlt' : ¬ ((i : Int) < n) := by omega
      clear hcw
      go_wp2_with fail
      go_ret
      have hi : i = cs.length := by rw [← unhideB HN]; omega
      have h1 := (unhideB HCW).own
      rw [hi, List.take_length, ← unhideB HKS] at h1
      exact ⟨_, rfl, h1, (unhideB HCW).bel⟩
theorem collect_any : ∀ (d S : Nat) (w : World) (p : Nat) (ks vs : List Nat) (out : Value), S ≤ w.heap.size → NodeAt d (· < S) w p ks → Own S w out vs → vs.length + ks.length ≤ 1073741824 → Calls Yba.prog 10 #[.pointer (some ⟨p, 0, none⟩), out] w (ColPost S w (vs ++ ks))
  | 0, _, _, _, _, _, _, h0, h1, h2, h3 => collect_leaf h0 h1 h2 h3
  | d + 1, _, _, _, _, _, _, h0, h1, h2, h3 => collect_inner (collect_any d) h0 h1 h2 h3
end Go.Proofs.Ybulkqhs
