import Derived.Test.YbulkqgcQ1
/-! The heap order, in plain lists. -/
namespace Go.Proofs.Ybulkqgc

def nth (es : List Ev) (k : Nat) : Ev := es.getD k ⟨0, 0, 0⟩
theorem nth_eq (es : List Ev) (k : Nat) (h : k < es.length) : es[k] = nth es k := by simp [nth, h]

def HeapOK (es : List Ev) : Prop := ∀ k, 0 < k → k < es.length → lessB (nth es k) (nth es ((k-1)/2)) = false
structure HeapExc (es : List Ev) (j : Nat) : Prop where
  rest : ∀ k, 0 < k → k < es.length → k ≠ j → lessB (nth es k) (nth es ((k-1)/2)) = false
  kids : ∀ k, 0 < k → k < es.length → (k-1)/2 = j → 0 < j → lessB (nth es k) (nth es ((j-1)/2)) = false

theorem lessB_trans {x y z : Ev} (h1 : lessB y x = false) (h2 : lessB z y = false) : lessB z x = false := by
  unfold lessB at *
  simp only [decide_eq_false_iff_not] at *
  omega
theorem lessB_asymm {x y : Ev} (h : lessB x y = true) : lessB y x = false := by
  unfold lessB at *
  simp only [decide_eq_false_iff_not, decide_eq_true_eq] at *
  omega
theorem lessB_irrefl (x : Ev) : lessB x x = false := by
  unfold lessB
  simp only [decide_eq_false_iff_not]
  omega

theorem HeapExc.zero {es : List Ev} (h : HeapExc es 0) : HeapOK es := fun k h0 hk => h.rest k h0 hk (by omega)
theorem HeapExc.stop {es : List Ev} {j : Nat} (h : HeapExc es j) (hl : lessB (nth es j) (nth es ((j-1)/2)) = false) : HeapOK es := by
  intro k h0 hk
  by_cases hkj : k = j
  · subst hkj; exact hl
  · exact h.rest k h0 hk hkj

def swp (es : List Ev) (i j : Nat) : List Ev := (es.set i (nth es j)).set j (nth es i)
theorem swapL_eq (es : List Ev) (i j : Nat) (hi : i < es.length) (hj : j < es.length) : swapL es i j hi hj = swp es i j := by
  unfold swapL swp; rw [nth_eq es j hj, nth_eq es i hi]
theorem swp_len (es : List Ev) (i j : Nat) : (swp es i j).length = es.length := by simp [swp]
theorem nth_swp (es : List Ev) (i j k : Nat) (hi : i < es.length) (hj : j < es.length) (hij : i ≠ j) :
    nth (swp es i j) k = if k = i then nth es j else if k = j then nth es i else nth es k := by
  unfold swp
  by_cases h1 : k = i
  · subst h1
    rw [if_pos rfl]
    simp [nth, Ne.symm hij, hi]
  · rw [if_neg h1]
    by_cases h2 : k = j
    · subst h2
      rw [if_pos rfl]
      simp [nth, hj]
    · rw [if_neg h2]
      simp [nth, Ne.symm h1, Ne.symm h2]

theorem swp_perm (es : List Ev) (i j : Nat) (hi : i < es.length) (hj : j < es.length) : (swp es i j).Perm es := by
  have := List.set_set_perm hi hj
  unfold swp
  rw [← nth_eq es j hj, ← nth_eq es i hi]
  exact this

theorem HeapExc.swap {es : List Ev} {j : Nat} (h : HeapExc es j) (h0 : 0 < j) (hj : j < es.length) (hl : lessB (nth es j) (nth es ((j-1)/2)) = true) : HeapExc (swp es ((j-1)/2) j) ((j-1)/2) := by
  obtain ⟨p, hp⟩ : ∃ p, p = (j-1)/2 := ⟨_, rfl⟩
  rw [← hp] at hl ⊢
  have hpj : p < j := by omega
  have hpl : p < es.length := by omega
  have hne : p ≠ j := by omega
  constructor
  · intro k k0 hk hkp
    rw [swp_len] at hk
    rw [nth_swp es p j _ hpl hj hne, nth_swp es p j _ hpl hj hne, if_neg hkp]
    by_cases hkj : k = j
    · subst hkj
      rw [if_pos rfl, ← hp, if_pos rfl]
      exact lessB_asymm hl
    · rw [if_neg hkj]
      by_cases hq : (k-1)/2 = p
      · rw [if_pos hq]
        have hh := h.rest k k0 hk hkj
        rw [hq] at hh
        exact lessB_trans (lessB_asymm hl) hh
      · rw [if_neg hq]
        by_cases hqj : (k-1)/2 = j
        · rw [if_pos hqj, hp]
          exact h.kids k k0 hk hqj h0
        · rw [if_neg hqj]
          exact h.rest k k0 hk hkj
  · intro k k0 hk hkp p0
    rw [swp_len] at hk
    have hpp : (p-1)/2 < p := by omega
    rw [nth_swp es p j _ hpl hj hne, nth_swp es p j _ hpl hj hne, if_neg (by omega), if_neg (show (p-1)/2 ≠ p by omega), if_neg (show (p-1)/2 ≠ j by omega)]
    by_cases hkj : k = j
    · rw [if_pos hkj]
      exact h.rest p p0 hpl hne
    · rw [if_neg hkj]
      have h1 := h.rest k k0 hk hkj
      rw [hkp] at h1
      exact lessB_trans (h.rest p p0 hpl hne) h1

/-- A new last element: all is in order but for it. -/
theorem HeapOK.push {es : List Ev} (h : HeapOK es) (e : Ev) : HeapExc (es ++ [e]) es.length := by
  have hn : ∀ k, k < es.length → nth (es ++ [e]) k = nth es k := fun k hk => by simp [nth, List.getElem?_append_left hk]
  constructor
  · intro k k0 hk hne
    simp at hk
    rw [hn k (by omega), hn _ (by omega)]
    exact h k k0 (by omega)
  · intro k k0 hk hkj
    simp at hk
    omega

end Go.Proofs.Ybulkqgc
