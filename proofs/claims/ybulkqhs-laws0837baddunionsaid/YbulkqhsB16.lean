import Derived.Test.YbulkqhsB15
namespace Go.Proofs.Ybulkqhs
open Go.RowKit
set_option linter.unusedVariables false
attribute [local go_sem ↓] exec_store34 exec_load34 exec_box34
attribute [local go_sem] run_box34 eql34_run neq34_run guard34

theorem Below.of_turn {base g : Nat} {w w' : World} (h : Turn g w w') (hg : base ≤ g) (hb : base ≤ w.heap.size) : Below base w w' :=
  ⟨h.os, h.tape, h.output, h.size, fun k hk => h.block k (by omega) (by omega)⟩

theorem compact_nil (w : World) : Calls Yba.prog 39 #[.slice none 0 0] w fun e w' => e = .returned (.slice none 0 0) ∧ w' = w := by
  go_enter Yba.func39, Yba.ntmps39
  go_wp2_with fail
  go_ret
  exact ⟨rfl, rfl⟩

theorem arr_get (ks : List Nat) (i : Nat) : ks.toArray[i]! = ks[i]! := by simp

theorem Own.row {base : Nat} {w : World} {g n cap : Nat} {ks : List Nat} (h : Own base w (.slice (some ⟨g, 0, none⟩) n cap) ks) : Row w g ks.length w ks.toArray := by
  have hr := h.recs
  refine ⟨by simp, fun i hi => ?_, hr.2.2.2.2.2, Turn.refl _ _⟩
  have := hr.2.2.2.2.1 i hi
  rwa [Nat.zero_add, ← arr_get] at this

set_option maxRecDepth 100000 in
theorem sortRec_any {base : Nat} {w : World} {v : Value} {ks : List Nat} (h : Own base w v ks) (hb : base ≤ w.heap.size) (hn : ks.length ≤ 1099511627776) :
    Calls Yba.prog 22 #[v] w fun e w' => ∃ (v' : Value) (ks' : List Nat), e = .returned v' ∧ RS w' v' ks' ∧ ks'.Pairwise (· < ·) ∧ (∀ x, x ∈ ks' ↔ x ∈ ks) ∧ ks'.length ≤ ks.length ∧ Below base w w' := by
  rcases h.2 with ⟨rfl, h0⟩ | ⟨g, cap, cur, rfl, _⟩
  · have := List.eq_nil_of_length_eq_zero h0
    subst this
    clear h h0
    go_enter Yba.func22, Yba.ntmps22
    go_wp2_with fail
    refine (sort_tiny _ 0 0 (by omega) w).mono ?_
    rintro e w' ⟨rfl, rfl⟩
    go_wp2_with fail
    refine (compact_nil _).mono ?_
    rintro e w'' ⟨rfl, rfl⟩
    go_wp2_with fail
    go_ret
    exact ⟨_, [], rfl, .inl ⟨rfl, rfl⟩, .nil, fun x => Iff.rfl, Nat.le_refl _, Below.refl _ _⟩
  · have hr := h.recs
    have hrow := hideB h.row
    have hcap := hr.2.1
    have hg := hr.2.2.1
    clear h hr
    go_enter Yba.func22, Yba.ntmps22
    go_wp2_with fail
    refine (sort_any (unhideB hrow) hn).mono ?_
    rintro e w' ⟨rfl, d', hr2, hp, hs⟩
    have HR2 := hideB hr2; have HP := hideB hp; have HS := hideB hs
    clear hr2 hp hs
    go_wp2_with fail
    refine (compact_any (unhideB HR2) hn hcap (fun i hi => ?_)).mono ?_
    · have := unhideB HS i (i + 1) (by omega) (by omega) hi
      simp only [ltN, decide_eq_false_iff_not] at this
      omega
    rintro e w'' ⟨ks', rfl, hl, ha, hm, hrec, ht⟩
    have HH := hideB (And.intro hl (And.intro ha (And.intro hm (And.intro hrec ht))))
    clear hl ha hm hrec ht
    go_wp2_with fail
    go_ret
    obtain ⟨hl, ha, hm, hrec, ht⟩ := unhideB HH
    refine ⟨_, ks', rfl, .inr ⟨g, 0, cap, rfl, by omega, hrec⟩, ha, fun x => ?_, hl, Below.of_turn ht hg hb⟩
    rw [hm]
    have h1 := (unhideB HP).2.2.mem_iff (a := x)
    have h2 := (unhideB HR2).size
    rw [show d'.extract 0 ks.length = d' by rw [← h2]; simp, show ks.toArray.extract 0 ks.length = ks.toArray by simp] at h1
    simpa using h1
end Go.Proofs.Ybulkqhs
