import Derived.Test.YbulkqhsB28
import Derived.RangeFuncNested
import Derived.RangeFuncBound
import Derived.RangeFuncCalls
import Derived.RangeFuncLeaves
import Derived.RangeFuncBox
import Derived.Shelf.RegionOpen
import Derived.OwnWalkIn
import Derived.TacticsInMore
import Derived.LoopIn
namespace Go.Proofs.Ybulkqhs
open Go.RowKit
set_option linter.unusedVariables false
set_option linter.unusedSimpArgs false
attribute [local go_sem ↓] exec_store34 exec_load34 exec_box34 exec_build78 exec_box78 exec_load70
attribute [local go_sem ↓] to_sl56
attribute [local go_sem] run_box34 run_box78 eql34_run neq34_run guard34

/-- The share of the child at place i, and what is left behind it. -/
def Cut (cs : List (Nat × List Nat)) (i : Nat) (share rest : List Nat) : Prop :=
  if i + 1 < cs.length then (∀ x ∈ share, x < cs[i + 1]!.2.headD 0) ∧ (∀ x ∈ rest, cs[i + 1]!.2.headD 0 ≤ x) else rest = []
/-- What a round keeps. -/
structure Kq (S B1 B2 : Nat) (W W' : World) : Prop where
  size : W.heap.size ≤ W'.heap.size
  low : ∀ b, b < S → W'.heap[b]? = W.heap[b]?
  one : W'.heap[B1]? = W.heap[B1]?
  two : W'.heap[B2]? = W.heap[B2]?

/-- Between two rounds of shares' function. -/
structure Sh (S B1 B2 : Nat) (W : World) (bs : List Nat) (n : Nat) (wr : World) (i : Nat) (ss : List (List Nat)) (rest : List Nat) (ab : Addr) (m cap : Nat) : Prop where
  len : ss.length = i
  flat : ss.flatten ++ rest = bs
  fin : i = n → rest = []
  box : Boxed wr B2 56 (.slice (some ab) m cap)
  rs : RSb (· < S) wr (.slice (some ab) m cap) rest
  one : wr.heap[B1]? = W.heap[B1]?
  low : ∀ b, b < S → wr.heap[b]? = W.heap[b]?
  size : W.heap.size ≤ wr.heap.size

set_option maxRecDepth 100000 in
set_option maxHeartbeats 2000000 in
theorem shares_in {d S B1 B2 p l mm : Nat} {W : World} {ks bs : List Nat} {b o cap : Nat} {cs : List (Nat × List Nat)} {va : Value} (J : List (List Nat) → World → Prop)
    (hS : S ≤ B1) (hB : B1 < B2) (hBW : B2 < W.heap.size) (hne : cs ≠ []) (hnb : NB W p (ks.headD 0) (sumN ks) ks.length nilS (.slice (some ⟨b, o, none⟩) cs.length cap)) (hpS : p < S) (hbS : b < S) (hcap : cs.length ≤ cap) (hl : cs.length ≤ 1073741824) (hbl : bs.length ≤ 1073741824)
    (hpt : Ptrs W b o (cs.map (·.1))) (hcs : ∀ c ∈ cs, c.2 ≠ [] ∧ NodeAt d (· < S) W c.1 c.2) (hb1 : Boxed W B1 61 (.pointer (some ⟨p, 0, none⟩))) (hb2 : Boxed W B2 56 va) (hrs : RSb (· < S) W va bs) (hba : bs.Pairwise (· < ·)) (hbn : bs ≠ [])
    (hJ1 : ∀ ss W v, J ss W → J ss (W.setCell ⟨B2, 0, none⟩ v)) (hJ2 : ∀ ss W W', J ss W → Below W.heap.size W W' → J ss W') (h0 : J [] W)
    (hY : ∀ ss share rest W1 sv, J ss W1 → ss.length < cs.length → ss.flatten ++ share ++ rest = bs → Cut cs ss.length share rest → RSb (· < S) W1 sv share → (∀ b, b < S → W1.heap[b]? = W.heap[b]?) →
      YieldAt Fence.wide mm Yba.prog l #[.pointer (some ⟨cs[ss.length]!.1, 0, none⟩), sv] W1 fun e W' => e = .returned (.bool true) ∧ J (ss ++ [share]) W' ∧ Kq S B1 B2 W1 W') :
    Calls Yba.prog 55 #[.func (.yield l) #[] #[], .pointer (some ⟨B1, 0, none⟩), .pointer (some ⟨B2, 0, none⟩)] W fun e W' => (∃ v, e = .returned v) ∧ ∃ ss, ss.length = cs.length ∧ ss.flatten = bs ∧ J ss W' := by
  obtain ⟨n, hn⟩ : ∃ n, n = cs.length := ⟨_, rfl⟩
  have hn0 : 0 < n := by rw [hn]; exact List.length_pos_iff.2 hne
  have hSB2 : S ≤ B2 := by omega
  obtain ⟨ab, m, cap0, rfl⟩ : ∃ ab m cap0, va = .slice (some ab) m cap0 := by
    rcases hrs with ⟨_, h⟩ | ⟨b', o', c', h, _⟩
    · exact absurd h hbn
    · exact ⟨_, _, _, h⟩
  have hk39 := hnb.kids
  have hc1 := hb1.cell
  rw [← hn] at hk39
  have SH0 := hideB (show Sh S B1 B2 W bs n W 0 [] bs ab m cap0 from ⟨rfl, by simp, fun h => by omega, hb2, hrs, rfl, fun _ _ => rfl, Nat.le_refl _⟩)
  have HN := hideB hn; have HJ0 := hideB h0; have HCS := hideB hcs; have HPT := hideB hpt; have HB1 := hideB hb1; have HNB := hideB hnb; have HY := hideB hY; have HBA := hideB hba
  clear hn h0 hcs hpt hb2 hrs hba hbn hb1 hnb hY hne
  go_enter Yba.func55, Yba.ntmps55
  go_wp2_with fail
  clear hk39 hc1
  go_loopw [12] (fun s12 wr => ∃ (i : Nat) (ss : List (List Nat)) (rest : List Nat) (ab : Addr) (m cap : Nat), s12 = .int .i64 i ∧ i ≤ n ∧ Sh S B1 B2 W bs n wr i ss rest ab m cap ∧ J ss wr) (fun s12 _ => n - (intOf s12).toNat)
  case atStart => exact ⟨0, [], bs, ab, m, cap0, rfl, by omega, unhideB SH0, unhideB HJ0⟩
  case round =>
    obtain ⟨i, ss, rest, ab, m, cap1, rfl, hin, hsh, hj⟩ := hrel
    have HSH := hideB hsh; have HJ := hideB hj
    have hc2 := hsh.box.cell
    have hf2 := hsh.box.frozen
    have hc1 : wr.cell? ⟨B1, 0, none⟩ = some (.pointer (some ⟨p, 0, none⟩)) := (World.cell?_of_block (a := ⟨B1, 0, none⟩) hsh.one).trans (unhideB HB1).cell
    have hk39 : wr.cell? ⟨p, 39, none⟩ = some (.slice (some ⟨b, o, none⟩) n cap) := by
      have := ((unhideB HNB).later (hsh.low p hpS)).kids
      rwa [← unhideB HN] at this
    have hpw := (unhideB HPT).of_block (hsh.low b hbS)
    have hrsr := hsh.rs
    obtain ⟨bb, ob, rfl⟩ : ∃ bb ob, ab = ⟨bb, ob, none⟩ := by
      rcases hrsr with ⟨h, _⟩ | ⟨b', o', c', h, _⟩
      · cases h
      · simp only [Value.slice.injEq, Option.some.injEq] at h
        exact ⟨b', o', h.1⟩
    have hm : m = rest.length := by
      rcases hrsr with ⟨h, _⟩ | ⟨b', o', c', h, _⟩
      · cases h
      · simp only [Value.slice.injEq, Option.some.injEq] at h
        exact h.2.1
    have hrec : Recs wr bb ob rest := by
      rcases hrsr with ⟨h, _⟩ | ⟨b', o', c', h, _, _, h4⟩
      · cases h
      · simp only [Value.slice.injEq, Option.some.injEq, Addr.mk.injEq, and_true] at h
        obtain ⟨⟨rfl, rfl⟩, _⟩ := h
        exact h4
    have hml : m ≤ 1073741824 := by
      have h1 := hsh.flat
      have h2 : rest.length ≤ bs.length := by rw [← h1]; simp
      omega
    have hresta : rest.Pairwise (· < ·) := by
      have h1 := unhideB HBA
      rw [← hsh.flat] at h1
      exact (List.pairwise_append.1 h1).2.1
    by_cases hlt : i < n
    · have hlt' : (i : Int) < n := by omega
      have hic : i < cs.length := by rw [← unhideB HN]; exact hlt
      have hci : wr.cell? ⟨b, o + i, none⟩ = some (.pointer (some ⟨cs[i]!.1, 0, none⟩)) := by
        have := hpw i (by simpa using hic)
        rw [this, getElem!_pos _ i (by simpa using hic), getElem!_pos cs i hic]
        simp
      obtain ⟨q, hq⟩ : ∃ q, q = cs[i]!.1 := ⟨_, rfl⟩
      rw [← hq] at hci
      have HQ := hideB hq; have HM := hideB hm; have HREC := hideB hrec; have HRA := hideB hresta; have HRSR := hideB hrsr
      clear hq hm hrec hresta hsh hj hrsr
      go_upto_if 26 with fail
      go_cut [6] from 17 to 53 (fun s6 wc => ∃ k : Nat, s6 = .int .i64 k ∧ k ≤ m ∧ Cut cs i (rest.take k) (rest.drop k) ∧ Below wr.heap.size wr wc)
      case first =>
        by_cases hi1 : i + 1 < n
        · have hi1' : (i : Int) + 1 < n := by omega
          have hic1 : i + 1 < cs.length := by rw [← unhideB HN]; exact hi1
          have him : cs[i + 1]! ∈ cs := by rw [getElem!_pos cs (i + 1) hic1]; exact List.getElem_mem _
          have hci1 : wr.cell? ⟨b, o + (i + 1), none⟩ = some (.pointer (some ⟨cs[i + 1]!.1, 0, none⟩)) := by
            have := hpw (i + 1) (by simpa using hic1)
            rw [this, getElem!_pos _ (i + 1) (by simpa using hic1), getElem!_pos cs (i + 1) hic1]
            simp
          obtain ⟨vi, cvi, hni⟩ := ((unhideB HCS) _ him).2.nb
          have hni2 := hni.later ((unhideB HSH).low _ ((unhideB HCS) _ him).2.use)
          have hra1 := hni2.first
          obtain ⟨f, hf⟩ : ∃ f, f = cs[i + 1]!.2.headD 0 := ⟨_, rfl⟩
          rw [← hf] at hra1
          obtain ⟨k0, hk0⟩ := place_ex f rest (unhideB HRA)
          generalize cs[i + 1]!.1 = q1 at hci1 hra1
          obtain ⟨I1, hI1⟩ : ∃ I1, I1 = i + 1 := ⟨_, rfl⟩
          rw [← hI1] at hci1
          have e0 : (i : Int) + 1 = I1 := by omega
          have wI := wrapN I1 (by omega)
          have hI1n : (I1 : Int) < n := by omega
          have g1 : ∀ p', (gr wr p').cell? ⟨B1, 0, none⟩ = some (.pointer (some ⟨p, 0, none⟩)) := fun p' => gr_cell hc1 p'
          have g2 : ∀ p', (gr wr p').cell? ⟨B2, 0, none⟩ = some (.slice (some ⟨bb, ob, none⟩) m cap1) := fun p' => gr_cell hc2 p'
          have g3 : ∀ p', (gr wr p').cell? ⟨p, 39, none⟩ = some (.slice (some ⟨b, o, none⟩) n cap) := fun p' => gr_cell hk39 p'
          have g4 : ∀ p', (gr wr p').cell? ⟨b, o + I1, none⟩ = some (.pointer (some ⟨q1, 0, none⟩)) := fun p' => gr_cell hci1 p'
          have l1 : ∀ p', (exLoad34 (.pointer (some ⟨q1, 0, none⟩))).run Yba.prog (gr wr p') = .ok (.value (rv f)) (gr wr p') := fun p' => run_load34 (gr_RA hra1 p')
          have hBS : ∀ W, Below wr.heap.size wr W → Calls Yba.prog 56 #[.slice (some ⟨bb, ob, none⟩) m cap1, rv f, .func (.func 13) #[] #[]] W fun e w' => e = .returned (.tuple #[.int .i64 k0, .bool (fdB rest f k0)]) ∧ Below W.heap.size W w' := fun W hW => by
            rw [unhideB HM]
            exact bsearch_det ((unhideB HREC).later hW) (unhideB HRA) (by rw [← unhideB HM]; exact hml) hk0
          have HBS := hideB hBS; have HK0 := hideB hk0; have HF := hideB hf; have HI1 := hideB hI1
          clear hBS hk0 hf hI1 hni hni2 hra1 him hic1
          go_wp2_with fail
          refine wp_region_gr (by kernel_rfl) (by kernel_rfl) ?_
          repeat (quiet_step (first | (go_at_call 56; refine Calls.gr_of (unhideB HBS _ (gr_below wr _)))))
          refine wpQuiet_nil ?_
          intro w5 hw5
          obtain ⟨p5, rfl⟩ := hw5
          go_wp2_with fail
          go_meet
          case rel =>
            refine ⟨k0, rfl, by rw [unhideB HM]; exact (unhideB HK0).le, ?_, gr_below wr p5⟩
            unfold Cut
            rw [if_pos (by rw [← unhideB HN]; exact hi1), ← unhideB HF]
            constructor
            · intro x hx
              obtain ⟨j, hj, rfl⟩ := List.mem_iff_getElem.1 hx
              rw [List.length_take] at hj
              have := (unhideB HK0).lo j (by omega)
              rw [getElem!_pos rest j (by omega)] at this
              simpa using this
            · intro x hx
              obtain ⟨j, hj, rfl⟩ := List.mem_iff_getElem.1 hx
              rw [List.length_drop] at hj
              have := (unhideB HK0).hi (k0 + j) (by omega) (by omega)
              rw [getElem!_pos rest (k0 + j) (by omega)] at this
              simpa using this
        · have hi1' : ¬ ((i : Int) + 1 < n) := by omega
          go_wp2_with fail
          go_meet
          case rel =>
            refine ⟨m, rfl, Nat.le_refl _, ?_, Below.refl _ _⟩
            unfold Cut
            rw [if_neg (by rw [← unhideB HN]; exact hi1), unhideB HM]
            simp
      case rest =>
        obtain ⟨k, rfl, hkm, hcut2, hbel⟩ := hcut
        have HCUT := hideB hcut2; have HBEL := hideB hbel
        have hck : k ≤ rest.length := by rw [← unhideB HM]; exact hkm
        have hrsw : RSb (· < S) wc (.slice (some ⟨bb, ob, none⟩) m cap1) rest := (unhideB HRSR).keep (fun x hx => hbel.block x (by have := (unhideB HSH).size; omega)) (fun x hx => hx)
        obtain ⟨hsl, hrsh⟩ := hrsw.head k hck
        obtain ⟨a', htl, hrst⟩ := hrsw.tail k hck
        have hYY := unhideB HY ss (rest.take k) (rest.drop k) wc (.slice (some ⟨bb, ob, none⟩) k cap1) (hJ2 _ _ _ (unhideB HJ) hbel) (by rw [(unhideB HSH).len]; exact hic) (by rw [List.append_assoc, List.take_append_drop]; exact (unhideB HSH).flat) (by rw [(unhideB HSH).len]; exact hcut2) hrsh (fun x hx => (hbel.block x (by have := (unhideB HSH).size; omega)).trans ((unhideB HSH).low x hx))
        rw [(unhideB HSH).len, ← unhideB HQ] at hYY
        obtain ⟨fn, tmps, assign, body, hy, hR⟩ := hYY
        have hB2c : wc.heap[B2]? = wr.heap[B2]? := hbel.block B2 (by have := (unhideB HSH).size; omega)
        have hc2' : wc.cell? ⟨B2, 0, none⟩ = some (.slice (some ⟨bb, ob, none⟩) m cap1) := (World.cell?_of_block (a := ⟨B2, 0, none⟩) hB2c).trans hc2
        have HRR := hideB hR; have HRST := hideB hrst
        clear hR hrst hrsh hrsw hbel hcut2 hc1 hk39 hci hpw
        go_upto_region 6 with fail
        refine (wpIn_wide (n := mm + 1)).1 ?_
        gi_wp2
        refine (unhideB HRR).mono ?_
        rintro e W3 ⟨rfl, hJ3, hk3⟩
        have hbx3 : Boxed W3 B2 56 (.slice (some ⟨bb, ob, none⟩) m cap1) := hk3.two.trans (hB2c.trans (unhideB HSH).box)
        have hc3 := hbx3.cell
        have hf3 := hbx3.frozen
        have HK3 := hideB hk3; have HJ3 := hideB hJ3; have HBX3 := hideB hbx3
        clear hk3 hJ3 hbx3 hc2' hc2 hf2 hB2c hy
        gi_wp2
        go_wp2_with fail
        have hsz : (W3.setCell ⟨B2, 0, none⟩ (.slice (some a') (m - k) (cap1 - k))).heap.size = W3.heap.size := by simp [World.setCell]
        have hwr := (unhideB HSH).size
        have hbe := (unhideB HBEL).size
        have hk3s := (unhideB HK3).size
        refine ⟨⟨i + 1, ss ++ [rest.take k], rest.drop k, a', m - k, cap1 - k, by simp, by omega, ⟨by simp [(unhideB HSH).len], ?_, fun h => ?_, Boxed.set _ (unhideB HBX3), ?_, ?_, ?_, by rw [hsz]; omega⟩, hJ1 _ _ _ (unhideB HJ3)⟩, by simp [intOf]; omega⟩
        · rw [List.flatten_append, List.append_assoc]
          simp only [List.flatten_cons, List.flatten_nil, List.append_nil, List.take_append_drop]
          exact (unhideB HSH).flat
        · have h1 := unhideB HCUT
          unfold Cut at h1
          rw [if_neg (by rw [← unhideB HN]; omega)] at h1
          exact h1
        · exact (unhideB HRST).keep (fun x hx => (Below.heap_setCell _ _ _ _ (show x ≠ B2 by omega)).trans ((unhideB HK3).low x hx)) (fun x hx => hx)
        · exact (Below.heap_setCell _ _ _ _ (show B1 ≠ B2 by omega)).trans ((unhideB HK3).one.trans (((unhideB HBEL).block B1 (by omega)).trans (unhideB HSH).one))
        · intro x hx
          exact (Below.heap_setCell _ _ _ _ (show x ≠ B2 by omega)).trans (((unhideB HK3).low x hx).trans (((unhideB HBEL).block x (by omega)).trans ((unhideB HSH).low x hx)))
    · have hlt' : ¬ ((i : Int) < n) := by omega
      have hi : i = n := by omega
      have hfl := hsh.flat
      rw [hsh.fin hi, List.append_nil] at hfl
      have HFL := hideB hfl; have HLN := hideB hsh.len
      clear hfl hsh hj hrsr hm hrec hresta hc1 hk39 hpw
      go_wp2_with fail
      go_end0
      exact ⟨⟨_, rfl⟩, ss, by rw [unhideB HLN, hi, unhideB HN], unhideB HFL, unhideB HJ⟩
end Go.Proofs.Ybulkqhs
