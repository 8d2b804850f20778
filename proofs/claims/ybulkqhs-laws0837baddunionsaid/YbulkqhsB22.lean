import Derived.Test.YbulkqhsB21
namespace Go.Proofs.Ybulkqhs
open Go.RowKit
set_option linter.unusedVariables false
attribute [local go_sem ↓] exec_store34 exec_load34 exec_box34 exec_build78 exec_box78 exec_load70
attribute [local go_sem ↓] to_ld34 to_bd78 to_bx78 to_ld70
attribute [local go_sem] run_box34 run_box78 run_bx78 eql34_run neq34_run guard34

theorem NodeAt.nb {S : Nat → Prop} {w : World} : ∀ {d p : Nat} {ks : List Nat}, NodeAt d S w p ks → ∃ v cv, NB w p (ks.headD 0) (sumN ks) ks.length v cv
  | 0, _, _, ⟨_, v, h, _⟩ => ⟨v, _, h⟩
  | _ + 1, _, _, ⟨_, b, o, cap, cs, _, _, h, _⟩ => ⟨_, _, h⟩
theorem NB.ld70 {w : World} {p f N c : Nat} {v cv : Value} (h : NB w p f N c v cv) : (Go.Proofs.Ybulkqhs.ld70 (.pointer (some ⟨p, 33, none⟩))).run Yba.prog w = .ok (sv N c) w :=
  below_run (f := Next.value) h.sum (fun a b h => by cases h; rfl)

theorem flat_take (cs : List (Nat × List Nat)) (i : Nat) (hi : i < cs.length) : (cs.take (i + 1)).flatMap (·.2) = (cs.take i).flatMap (·.2) ++ cs[i]!.2 := by
  rw [List.take_succ_eq_append_getElem hi, List.flatMap_append, getElem!_pos cs i hi]
  simp
theorem flat_take_len (cs : List (Nat × List Nat)) (i : Nat) : ((cs.take i).flatMap (·.2)).length ≤ (cs.flatMap (·.2)).length := by
  have h : cs.flatMap (·.2) = (cs.take i).flatMap (·.2) ++ (cs.drop i).flatMap (·.2) := by rw [← List.flatMap_append, List.take_append_drop]
  rw [h, List.length_append]
  omega
theorem head_flat (c : Nat × List Nat) (cs : List (Nat × List Nat)) (hc : c.2 ≠ []) : ((c :: cs).flatMap (·.2)).headD 0 = c.2.headD 0 := by
  rw [List.flatMap_cons]
  cases h : c.2 with
  | nil => exact absurd h hc
  | cons a l => simp

set_option maxRecDepth 100000 in
set_option maxHeartbeats 1000000 in
theorem newInner_any {d : Nat} {V : Nat → Prop} {w : World} (b o cap : Nat) (cs : List (Nat × List Nat)) (hne : cs ≠ []) (hbV : V b) (hV : ∀ x, V x → x < w.heap.size) (hcap : cs.length ≤ cap) (hp : Ptrs w b o (cs.map (·.1)))
    (hcs : ∀ c ∈ cs, c.2 ≠ [] ∧ NodeAt d V w c.1 c.2) (hn : (cs.flatMap (·.2)).length ≤ 1099511627776) (hl : cs.length ≤ 1099511627776) :
    Calls Yba.prog 41 #[.slice (some ⟨b, o, none⟩) cs.length cap] w fun e w' => ∃ p, e = .returned (.pointer (some ⟨p, 0, none⟩)) ∧ w.heap.size ≤ p ∧ p < w'.heap.size ∧ (∀ U : Nat → Prop, U p → (∀ x, V x → U x) → NodeAt (d + 1) U w' p (cs.flatMap (·.2))) ∧ Below w.heap.size w w' := by
  have hb := hV b hbV
  have hlen : 0 < cs.length := List.length_pos_iff.2 hne
  have h0c : w.cell? ⟨b, o, none⟩ = some (.pointer (some ⟨cs[0]!.1, 0, none⟩)) := by
    have := hp 0 (by simpa using hlen)
    rw [Nat.add_zero] at this
    rw [this, getElem!_pos _ 0 (by simpa using hlen), getElem!_pos cs 0 hlen]
    simp
  have h0m : cs[0]! ∈ cs := by rw [getElem!_pos cs 0 hlen]; exact List.getElem_mem _
  obtain ⟨v0, cv0, h0n⟩ := (hcs _ h0m).2.nb
  have hf : (cs.flatMap (·.2)).headD 0 = cs[0]!.2.headD 0 := by
    cases cs with
    | nil => exact absurd rfl hne
    | cons c cs => exact head_flat c cs (hcs c List.mem_cons_self).1
  obtain ⟨f, hf0⟩ : ∃ f, f = (cs.flatMap (·.2)).headD 0 := ⟨_, rfl⟩
  have l1 : (exLoad34 (.pointer (some ⟨cs[0]!.1, 0, none⟩))).run Yba.prog w = .ok (.value (rv f)) w := by
    rw [hf0, hf]; exact run_load34 h0n.first
  obtain ⟨n, hnn⟩ : ∃ n, n = cs.length := ⟨_, rfl⟩
  have bd := fun w => run_build_inner w f (.slice (some ⟨b, o, none⟩) n cap) rfl
  generalize cs[0]!.1 = q0 at h0c l1
  rw [← hnn] at hlen hl hcap ⊢
  have HN := hideB hnn; have HP := hideB hp; have HC := hideB hcs; have HF := hideB hf0; have HNE := hideB hne
  clear h0m h0n hf hnn hp hcs hf0 hne
  go_enter Yba.func41, Yba.ntmps41
  go_wp2_with fail
  generalize hP : w.heap.size = p at hV hb ⊢
  have hNB : NB (w.alloc (.cells (nc f 0 0 nilS (.slice (some ⟨b, o, none⟩) n cap)) 78)) p f 0 0 nilS (.slice (some ⟨b, o, none⟩) n cap) := by rw [← hP]; exact heap_alloc_new w _
  have hBW : Below p w (w.alloc (.cells (nc f 0 0 nilS (.slice (some ⟨b, o, none⟩) n cap)) 78)) := by rw [← hP]; exact (Below.refl _ w).alloc (Nat.le_refl _) _
  have HNB := hideB hNB; have HBW := hideB hBW; have HPP := hideB hP
  clear hNB hBW hP
  generalize (w.alloc (.cells (nc f 0 0 nilS (.slice (some ⟨b, o, none⟩) n cap)) 78)) = W at HNB HBW ⊢
  go_loopw [17] (fun s17 wr => ∃ i : Nat, s17 = .int .i64 i ∧ i ≤ n ∧ NB wr p f (sumN ((cs.take i).flatMap (·.2))) ((cs.take i).flatMap (·.2)).length nilS (.slice (some ⟨b, o, none⟩) n cap) ∧ Turn p W wr) (fun s17 _ => n - (intOf s17).toNat)
  case atStart => exact ⟨0, rfl, by omega, unhideB HNB, Turn.refl _ _⟩
  case round =>
    obtain ⟨i, rfl, hin, hnb, hturn⟩ := hrel
    have HB2 := hideB hnb; have HT2 := hideB hturn
    have hbel : Below p w wr := (unhideB HBW).trans (Below.of_turn hturn (Nat.le_refl _) (by have := (unhideB HBW).size; have := unhideB HPP; omega))
    have HBEL := hideB hbel
    clear hnb hturn hbel l1
    by_cases hlt : i < n
    · have hlt' : (i : Int) < n := by omega
      have hic : i < cs.length := by rw [← unhideB HN]; exact hlt
      have him : cs[i]! ∈ cs := by rw [getElem!_pos cs i hic]; exact List.getElem_mem _
      have hci : wr.cell? ⟨b, o + i, none⟩ = some (.pointer (some ⟨cs[i]!.1, 0, none⟩)) := by
        have := (unhideB HP).of_block ((unhideB HBEL).block b (by omega)) i (by simpa using hic)
        rw [this, getElem!_pos _ i (by simpa using hic), getElem!_pos cs i hic]
        simp
      have hno := ((unhideB HC) _ him).2
      obtain ⟨vi, cvi, hni⟩ := hno.nb
      have hni2 := hni.later ((unhideB HBEL).block _ (hV _ hno.use))
      have ls := (show NB wr.drew _ _ _ _ _ _ from hni2).ld70
      have ls2 := (show NB wr.drew _ _ _ _ _ _ from hni2).sum
      have hb1 := flat_take_len cs i
      have hb2 := flat_take_len cs (i + 1)
      have hfl := flat_take cs i hic
      rw [hfl, List.length_append] at hb2
      have HFL := hideB hfl
      clear hfl hno hni hni2
      have HM := hideB (fun W (h : NB W p f (sumN ((cs.take i).flatMap (·.2))) ((cs.take i).flatMap (·.2)).length nilS (.slice (some ⟨b, o, none⟩) n cap)) => merge_any p f _ _ (sumN cs[i]!.2) cs[i]!.2.length nilS (.slice (some ⟨b, o, none⟩) n cap) W h (by omega) (by omega))
      generalize cs[i]!.1 = q at hci ls ls2
      obtain ⟨M, hM⟩ : ∃ M, M = sumN cs[i]!.2 := ⟨_, rfl⟩
      obtain ⟨m, hm⟩ : ∃ m, m = cs[i]!.2.length := ⟨_, rfl⟩
      rw [← hM, ← hm] at ls ls2 HM
      have HMM := hideB hM; have Hmm := hideB hm
      clear hM hm him hb1 hb2 hic
      obtain ⟨W0, rfl⟩ : ∃ W0, W0 = wr := ⟨_, rfl⟩
      go_wp2_with fail
      go_region_with (go_at_call 49; refine (unhideB HM _ ?_).mono ?_; exact (unhideB HB2); rintro e w' ⟨rfl, hnb2, hturn2⟩; have HB3 := hideB hnb2; have HT3 := hideB hturn2; clear hnb2 hturn2)
      all_goals
        go_wp2_with fail
        refine ⟨⟨i + 1, by simp, by omega, ?_, (unhideB HT2).trans ((Turn.drew p W0).trans (unhideB HT3))⟩, by simp [intOf]; omega⟩
        rw [unhideB HFL, sumN_append, List.length_append, ← unhideB HMM, ← unhideB Hmm]
        exact unhideB HB3
    · have hlt' : ¬ ((i : Int) < n) := by omega
      go_wp2_with fail
      go_ret
      have hi : i = cs.length := by rw [← unhideB HN]; omega
      have hnb := unhideB HB2
      rw [hi, List.take_length, unhideB HF] at hnb
      have hps := unhideB HPP
      rw [hps]
      refine ⟨p, rfl, Nat.le_refl _, hnb.lt, fun U hUp hUS => ⟨hUp, b, o, cap, cs, unhideB HNE, hUS b hbV, by rw [← unhideB HN]; exact hnb, by rw [← unhideB HN]; exact hcap, (unhideB HP).of_block ((unhideB HBEL).block b (by omega)), fun c hc => ⟨((unhideB HC) c hc).1, NodeAt.keep (fun x hx => (unhideB HBEL).block x (hV x hx)) hUS d c.1 c.2 ((unhideB HC) c hc).2⟩, rfl⟩, unhideB HBEL⟩
end Go.Proofs.Ybulkqhs
