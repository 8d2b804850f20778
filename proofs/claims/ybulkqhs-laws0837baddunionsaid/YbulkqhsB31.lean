import Derived.Test.YbulkqhsB30
namespace Go.Proofs.Ybulkqhs
open Go.RowKit
set_option linter.unusedVariables false
set_option linter.unusedSimpArgs false
attribute [local go_sem ↓] exec_store34 exec_load34 exec_box34 exec_build78 exec_box78 exec_load70
attribute [local go_sem] run_box34 run_box78 eql34_run neq34_run guard34

theorem eqNil71 (w : World) (a : Option Addr) (n c n' c' : Nat) : (binOp .eql 71 (.slice a n c) (.slice none n' c')).run Yba.prog w = .ok (.bool a.isNone) w := Lib.run_eql_slice_nil w _ _ a n c n' c' Yba.underlying71
attribute [local go_sem] eqNil71

/-! ### Ascending lists -/
theorem asc_sub : ∀ (zs ks : List Nat), zs.Pairwise (· < ·) → ks.Pairwise (· < ·) → (∀ x ∈ ks, x ∈ zs) → ks.Sublist zs
  | zs, [], _, _, _ => List.nil_sublist _
  | [], k :: ks, _, _, h => by have := h k List.mem_cons_self; simp at this
  | z :: zs, k :: ks, hz, hk, h => by
    have hz' := List.pairwise_cons.1 hz
    have hk' := List.pairwise_cons.1 hk
    by_cases e : k = z
    · subst e
      refine List.Sublist.cons_cons _ (asc_sub zs ks hz'.2 hk'.2 fun x hx => ?_)
      have h1 := h x (List.mem_cons_of_mem _ hx)
      have h2 := hk'.1 x hx
      rcases List.mem_cons.1 h1 with h3 | h3
      · omega
      · exact h3
    · refine List.Sublist.cons _ (asc_sub zs (k :: ks) hz'.2 hk fun x hx => ?_)
      have hkz : k ∈ zs := by
        rcases List.mem_cons.1 (h k List.mem_cons_self) with h3 | h3
        · exact absurd h3 e
        · exact h3
      have h4 := hz'.1 k hkz
      rcases List.mem_cons.1 (h x hx) with h3 | h3
      · rcases List.mem_cons.1 hx with h5 | h5
        · omega
        · have := hk'.1 x h5; omega
      · exact h3
theorem asc_eq {a b : List Nat} (ha : a.Pairwise (· < ·)) (hb : b.Pairwise (· < ·)) (h : ∀ x, x ∈ a ↔ x ∈ b) : a = b := by
  have h1 := asc_sub b a hb ha fun x hx => (h x).1 hx
  have h2 := asc_sub a b ha hb fun x hx => (h x).2 hx
  exact h1.eq_of_length (Nat.le_antisymm h1.length_le h2.length_le)
theorem Uni.len_iff {ks bs zs : List Nat} (h : Uni ks bs zs) (hk : ks.Pairwise (· < ·)) : zs.length = ks.length ↔ ∀ x ∈ bs, x ∈ ks := by
  constructor
  · intro e x hx
    have h1 := asc_sub zs ks h.asc hk fun x hx => (h.mem x).2 (.inl hx)
    rw [h1.eq_of_length e.symm]
    exact (h.mem x).2 (.inr hx)
  · intro hs
    rw [asc_eq h.asc hk fun x => ⟨fun hx => (h.mem x).1 hx |>.elim id (hs x), fun hx => (h.mem x).2 (.inl hx)⟩]
theorem Uni.all {ks bs : List Nat} (hk : ks.Pairwise (· < ·)) (hs : ∀ x ∈ bs, x ∈ ks) : Uni ks bs ks := ⟨hk, fun x => ⟨.inl, fun h => h.elim id (hs x)⟩⟩
theorem Uni.ne {ks bs zs : List Nat} (h : Uni ks bs zs) (hb : bs ≠ []) : zs ≠ [] := by
  cases bs with
  | nil => exact absurd rfl hb
  | cons b bs =>
    have := (h.mem b).2 (.inr List.mem_cons_self)
    intro e; rw [e] at this; simp at this

/-- What add hands back. -/
def AddPost (d S : Nat) (w : World) (p : Nat) (ks bs : List Nat) (e : Ending) (w' : World) : Prop := ∃ v ns, e = .returned v ∧ NSU d (fun x => (x < S ∨ w.heap.size ≤ x) ∧ x < w'.heap.size) w' v ns ∧ Uni ks bs (ns.flatMap (·.2)) ∧ (ns.flatMap (·.2)).length ≤ ks.length + bs.length ∧ Below w.heap.size w w' ∧
  (((∀ x ∈ bs, x ∈ ks) ∧ ns = [(p, ks)]) ∨ ((∃ x ∈ bs, x ∉ ks) ∧ ∀ c ∈ ns, w.heap.size ≤ c.1))

theorem one_ptr (w : World) (p : Nat) : Ptrs (w.alloc (.cells #[.pointer (some ⟨p, 0, none⟩)] 61)) w.heap.size 0 [p] := by
  intro i hi
  have hi0 : i = 0 := by simpa using hi
  subst hi0
  exact cellB (heap_alloc_new w _) rfl

set_option maxRecDepth 100000 in
set_option maxHeartbeats 1000000 in
theorem add_leaf {S : Nat} {w : World} {p : Nat} {ks bs : List Nat} {vb : Value} (hS : S ≤ w.heap.size) (hnode : NodeAt 0 (· < S) w p ks) (hka : ks.Pairwise (· < ·)) (hb : RSb (· < S) w vb bs) (hba : bs.Pairwise (· < ·)) (hbn : bs ≠ []) (hl : ks.length + bs.length ≤ 1073741824) :
    Calls Yba.prog 26 #[.pointer (some ⟨p, 0, none⟩), vb] w (AddPost 0 S w p ks bs) := by
  obtain ⟨hpS, v, hnb, hrs⟩ := hnode
  have hp : p < w.heap.size := Nat.lt_of_lt_of_le hpS hS
  have hk39 : w.cell? ⟨p, 39, none⟩ = some (.slice none 0 0) := hnb.kids
  have hk38 := hnb.recs
  obtain ⟨pa, ca, rfl⟩ : ∃ pa ca, v = .slice pa ks.length ca := by
    rcases hrs with ⟨rfl, rfl⟩ | ⟨b, o, cap, rfl, _⟩
    · exact ⟨none, 0, rfl⟩
    · exact ⟨_, _, rfl⟩
  have HU := hideB (union_any (hrs.keep (fun _ _ => rfl) (fun x hx => Nat.lt_of_lt_of_le hx hS)) (hb.keep (fun _ _ => rfl) (fun x hx => Nat.lt_of_lt_of_le hx hS)) hka hba hl)
  have HNB := hideB hnb; have HRS := hideB hrs; have HKA := hideB hka; have HL := hideB hl
  obtain ⟨n, hn⟩ : ∃ n, n = ks.length := ⟨_, rfl⟩
  rw [← hn] at hk38 HU hnb
  have HN := hideB hn
  clear hnb hrs hka hb hba hl hn
  go_enter Yba.func26, Yba.ntmps26
  go_wp2_with fail
  refine (unhideB HU).mono ?_
  rintro e w1 ⟨v1, zs, rfl, hown, huni, hzl, hbel⟩
  have hzn := huni.ne hbn
  obtain ⟨g, cap, rfl⟩ : ∃ g cap, v1 = .slice (some ⟨g, 0, none⟩) zs.length cap := by
    rcases hown.2 with ⟨_, h0⟩ | ⟨g, cap, cur, h1, _⟩
    · exact absurd (List.eq_nil_of_length_eq_zero h0) hzn
    · exact ⟨g, cap, h1⟩
  have hrec := hown.recs
  have hk38' : w1.cell? ⟨p, 38, none⟩ = some (.slice pa n ca) := (World.cell?_of_block (a := ⟨p, 38, none⟩) (hbel.block p hp)).trans hk38
  have hzs : zs.length ≤ 1073741824 := by have := unhideB HL; omega
  have HOW := hideB hown; have HUN := hideB huni; have HBE := hideB hbel; have HZL := hideB hzl; have HREC := hideB hrec; have HZN := hideB hzn
  have hiff := huni.len_iff (unhideB HKA)
  rw [← unhideB HN] at hiff
  have HIFF := hideB hiff
  obtain ⟨m, hm⟩ : ∃ m, m = zs.length := ⟨_, rfl⟩
  rw [← hm]
  have HM := hideB hm
  clear hown huni hzl hrec hiff hbel hzn hm hzs
  by_cases hmn : m = n
  · subst hmn
    go_wp2_with fail
    go_ret
    have hsub := (unhideB HIFF).1 ((unhideB HM).symm)
    have hkn : ks ≠ [] := by
      cases bs with
      | nil => exact absurd rfl hbn
      | cons b bs =>
        have := hsub b List.mem_cons_self
        intro e; rw [e] at this; simp at this
    have hb2 : Below w.heap.size w (w1.alloc (.cells #[.pointer (some ⟨p, 0, none⟩)] 61)) := (unhideB HBE).alloc (unhideB HBE).size _
    refine ⟨_, [(p, ks)], rfl, ⟨by simp, fun c hc => ?_, w1.heap.size, 0, 1, rfl, Nat.le_refl _, one_ptr w1 p⟩, ?_, ?_, hb2, .inl ⟨hsub, rfl⟩⟩
    · simp only [List.mem_singleton] at hc
      subst hc
      exact ⟨hkn, NodeAt.keep (fun x hx => hb2.block x (Nat.lt_of_lt_of_le hx hS)) (fun x hx => ⟨.inl hx, Nat.lt_of_lt_of_le hx (Nat.le_trans hS hb2.size)⟩) 0 p ks ⟨hpS, _, unhideB HNB, unhideB HRS⟩⟩
    · simp only [List.flatMap_cons, List.flatMap_nil, List.append_nil]
      exact Uni.all (unhideB HKA) hsub
    · simp only [List.flatMap_cons, List.flatMap_nil, List.append_nil]
      omega
  · have hmn' : ¬ ((m : Int) = n) := by omega
    have hG := groupR_any (w := w1) g 0 cap (V := fun x => w.heap.size ≤ x) (unhideB HREC).2.2.1 zs (unhideB HREC).2.2.2.2.1 (unhideB HZN) (unhideB HREC).2.1 (by have := unhideB HZL; have := unhideB HL; omega)
    rw [← unhideB HM] at hG
    have HG := hideB hG
    clear hG
    go_wp2_with fail
    refine (unhideB HG).mono ?_
    rintro e w2 hgr
    have hm0 : 0 < m := by rw [unhideB HM]; exact List.length_pos_iff.2 (unhideB HZN)
    obtain ⟨v2, ns, rfl, k1, k2, k3, k4, k5⟩ := hgr.nsU (by omega)
    have HK := hideB (And.intro k1 (And.intro k3 (And.intro k4 k5)))
    obtain ⟨_, _, G2, o2, cap2, rfl, _, _⟩ := k1
    clear k3 k4 k5 hgr k2
    go_wp2_with fail
    go_ret
    obtain ⟨k1, k3, k4, k5⟩ := unhideB HK
    refine ⟨_, ns, rfl, k1.weak (fun x hx => ⟨.inr (hx.1.elim id fun h => Nat.le_trans (unhideB HBE).size h), hx.2⟩), by rw [k3]; exact unhideB HUN, by rw [k3]; exact unhideB HZL, (unhideB HBE).trans (k5.mono (unhideB HBE).size), .inr ⟨?_, fun c hc => Nat.le_trans (unhideB HBE).size (k4 c hc)⟩⟩
    apply Classical.byContradiction
    intro hno
    apply hmn
    rw [unhideB HM]
    refine (unhideB HIFF).2 fun x hx => Classical.byContradiction fun hxk => hno ⟨x, hx, hxk⟩
end Go.Proofs.Ybulkqhs
