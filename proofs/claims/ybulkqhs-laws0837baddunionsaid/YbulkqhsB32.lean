import Derived.Test.YbulkqhsB31
namespace Go.Proofs.Ybulkqhs
open Go.RowKit
set_option linter.unusedVariables false
set_option linter.unusedSimpArgs false

/-! ### What the children's shares give, one after the other -/
/-- Children, their shares, the nodes that came of each. -/
def Pt : List (Nat × List Nat) → List (List Nat) → List (List (Nat × List Nat)) → Prop
  | [], [], [] => True
  | c :: cs, s :: ss, r :: rs => Uni c.2 s (r.flatMap (·.2)) ∧ (cs ≠ [] → (∀ x ∈ s, x < (cs.headD default).2.headD 0) ∧ ∀ x ∈ ss.flatten, (cs.headD default).2.headD 0 ≤ x) ∧ Pt cs ss rs
  | _, _, _ => False

theorem Pt.mem : ∀ {cs : List (Nat × List Nat)} {ss : List (List Nat)} {rs : List (List (Nat × List Nat))}, Pt cs ss rs → ∀ x, x ∈ rs.flatten.flatMap (·.2) ↔ (x ∈ cs.flatMap (·.2) ∨ x ∈ ss.flatten)
  | [], [], [], _, x => by simp
  | c :: cs, s :: ss, r :: rs, h, x => by
    have ih := Pt.mem h.2.2 x
    rw [List.flatten_cons, List.flatMap_append, List.mem_append, ih, h.1.mem x, List.flatMap_cons, List.flatten_cons, List.mem_append, List.mem_append]
    constructor
    · rintro ((h1 | h1) | (h1 | h1)) <;> simp [h1]
    · rintro ((h1 | h1) | (h1 | h1)) <;> simp [h1]
  | [], _ :: _, _, h, _ => h.elim
  | [], [], _ :: _, h, _ => h.elim
  | _ :: _, [], _, h, _ => h.elim
  | _ :: _, _ :: _, [], h, _ => h.elim
theorem head_le {c : Nat × List Nat} {cs : List (Nat × List Nat)} (hne : ∀ x ∈ c :: cs, x.2 ≠ []) (ha : ((c :: cs).flatMap (·.2)).Pairwise (· < ·)) : ∀ y ∈ (c :: cs).flatMap (·.2), c.2.headD 0 ≤ y := by
  have hc := hne c List.mem_cons_self
  rw [List.flatMap_cons] at ha ⊢
  cases hh : c.2 with
  | nil => exact absurd hh hc
  | cons a l =>
    rw [hh] at ha
    rw [List.cons_append, List.pairwise_cons] at ha
    intro y hy
    rw [List.cons_append] at hy
    rcases List.mem_cons.1 hy with h1 | h1
    · simp [h1]
    · have := ha.1 y h1; simp; omega
theorem Pt.asc : ∀ {cs : List (Nat × List Nat)} {ss : List (List Nat)} {rs : List (List (Nat × List Nat))}, Pt cs ss rs → (∀ c ∈ cs, c.2 ≠ []) → (cs.flatMap (·.2)).Pairwise (· < ·) → (rs.flatten.flatMap (·.2)).Pairwise (· < ·)
  | [], [], [], _, _, _ => by simp
  | c :: cs, s :: ss, r :: rs, h, hne, ha => by
    have ha2 := ha
    rw [List.flatMap_cons, List.pairwise_append] at ha2
    have ih := Pt.asc h.2.2 (fun x hx => hne x (List.mem_cons_of_mem _ hx)) ha2.2.1
    rw [List.flatten_cons, List.flatMap_append, List.pairwise_append]
    refine ⟨h.1.asc, ih, fun x hx y hy => ?_⟩
    rw [Pt.mem h.2.2 y] at hy
    cases cs with
    | nil =>
      cases ss with
      | nil => simp at hy
      | cons s' ss' => exact h.2.2.elim
    | cons c' cs' =>
      obtain ⟨g1, g2⟩ := h.2.1 (by simp)
      simp only [List.headD_cons] at g1 g2
      have hyh : c'.2.headD 0 ≤ y := by
        rcases hy with hy | hy
        · exact head_le (fun x hx => hne x (List.mem_cons_of_mem _ hx)) ha2.2.1 y hy
        · exact g2 y hy
      have hxh : x < c'.2.headD 0 := by
        rcases (h.1.mem x).1 hx with h1 | h1
        · refine ha2.2.2 x h1 _ ?_
          rw [List.flatMap_cons, List.mem_append]
          left
          cases hh : c'.2 with
          | nil => exact absurd hh (hne c' (by simp))
          | cons a l => simp
        · exact g1 x h1
      omega
  | [], _ :: _, _, h, _, _ => h.elim
  | [], [], _ :: _, h, _, _ => h.elim
  | _ :: _, [], _, h, _, _ => h.elim
  | _ :: _, _ :: _, [], h, _, _ => h.elim
theorem Pt.uni {cs : List (Nat × List Nat)} {ss : List (List Nat)} {rs : List (List (Nat × List Nat))} (h : Pt cs ss rs) (hne : ∀ c ∈ cs, c.2 ≠ []) (ha : (cs.flatMap (·.2)).Pairwise (· < ·)) : Uni (cs.flatMap (·.2)) ss.flatten (rs.flatten.flatMap (·.2)) :=
  ⟨h.asc hne ha, h.mem⟩
/-- Where a share has something new, it is new for all. -/
theorem Pt.new : ∀ {cs : List (Nat × List Nat)} {ss : List (List Nat)} {rs : List (List (Nat × List Nat))}, Pt cs ss rs → (∀ c ∈ cs, c.2 ≠ []) → (cs.flatMap (·.2)).Pairwise (· < ·) →
    ∀ i, i < ss.length → (∃ x ∈ ss[i]!, x ∉ cs[i]!.2) → ∃ x ∈ ss.flatten, x ∉ cs.flatMap (·.2)
  | [], [], [], _, _, _, i, hi, _ => by simp at hi
  | c :: cs, s :: ss, r :: rs, h, hne, ha, i, hi, hx => by
    have hall := h.asc hne ha
    have ha2 := ha
    rw [List.flatMap_cons, List.pairwise_append] at ha2
    rw [List.flatten_cons, List.flatMap_append, List.pairwise_append] at hall
    cases i with
    | zero =>
      obtain ⟨x, hx1, hx2⟩ := hx
      simp only [List.getElem!_cons_zero] at hx1 hx2
      refine ⟨x, by simp [hx1], fun hin => ?_⟩
      rw [List.flatMap_cons, List.mem_append] at hin
      rcases hin with h1 | h1
      · exact hx2 h1
      · exact absurd (hall.2.2 x ((h.1.mem x).2 (.inr hx1)) x ((Pt.mem h.2.2 x).2 (.inl h1))) (by omega)
    | succ i =>
      obtain ⟨x, hx1, hx2⟩ := Pt.new h.2.2 (fun x hx => hne x (List.mem_cons_of_mem _ hx)) ha2.2.1 i (by simpa using hi) (by simpa using hx)
      refine ⟨x, by simp only [List.flatten_cons, List.mem_append]; exact .inr hx1, fun hin => ?_⟩
      rw [List.flatMap_cons, List.mem_append] at hin
      rcases hin with h1 | h1
      · exact absurd (hall.2.2 x ((h.1.mem x).2 (.inl h1)) x ((Pt.mem h.2.2 x).2 (.inr hx1))) (by omega)
      · exact hx2 h1
  | [], _ :: _, _, h, _, _, _, _, _ => h.elim
  | [], [], _ :: _, h, _, _, _, _, _ => h.elim
  | _ :: _, [], _, h, _, _, _, _, _ => h.elim
  | _ :: _, _ :: _, [], h, _, _, _, _, _ => h.elim
/-- Out of what each round has said. -/
theorem Pt.of : ∀ {cs : List (Nat × List Nat)} {ss : List (List Nat)} {rs : List (List (Nat × List Nat))}, ss.length = cs.length → rs.length = ss.length →
    (∀ i, i < ss.length → Uni cs[i]!.2 ss[i]! (rs[i]!.flatMap (·.2))) → (∀ i, i < ss.length → ∃ rest, (ss.take (i + 1)).flatten ++ rest = ss.flatten ∧ Cut cs i ss[i]! rest) → Pt cs ss rs
  | [], [], [], _, _, _, _ => trivial
  | c :: cs, s :: ss, r :: rs, h1, h2, hu, hc => by
    refine ⟨by simpa using hu 0 (by simp), fun hne => ?_, Pt.of (by simpa using h1) (by simpa using h2) (fun i hi => by simpa using hu (i + 1) (by simpa using hi)) (fun i hi => ?_)⟩
    · obtain ⟨rest, e1, e2⟩ := hc 0 (by simp)
      have e3 : rest = ss.flatten := by simpa using e1
      subst e3
      unfold Cut at e2
      rw [if_pos (by simp; exact List.length_pos_iff.2 hne)] at e2
      cases cs with
      | nil => exact absurd rfl hne
      | cons c' cs' => simpa using e2
    · obtain ⟨rest, e1, e2⟩ := hc (i + 1) (by simpa using hi)
      refine ⟨rest, by simpa using e1, ?_⟩
      unfold Cut at e2 ⊢
      by_cases hlt : i + 1 < cs.length
      · rw [if_pos hlt]
        rw [if_pos (by simpa using hlt)] at e2
        simpa using e2
      · rw [if_neg hlt]
        rw [if_neg (by simpa using hlt)] at e2
        exact e2
  | [], _ :: _, _, h, _, _, _ => by simp at h
  | [], [], _ :: _, _, h, _, _ => by simp at h
  | _ :: _, [], _, h, _, _, _ => by simp at h
  | _ :: _, _ :: _, [], _, h, _, _ => by simp at h
end Go.Proofs.Ybulkqhs
