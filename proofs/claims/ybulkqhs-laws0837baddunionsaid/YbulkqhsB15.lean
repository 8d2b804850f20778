import Derived.Test.YbulkqhsB14
import Derived.Shelf.SlicesE.Clone
import Derived.Ground.SlgnProg
import Derived.Shelf.Lay
namespace Go.Proofs.Ybulkqhs
open Go.RowKit Go.Shelf
set_option linter.unusedVariables false
attribute [local go_sem ↓] exec_store34 exec_load34 exec_box34
attribute [local go_sem] run_box34 eql34_run neq34_run guard34

shelf_lay_g SlLaysE0.n41 Slgn 41 at Yba 9 as Yba.cloneR

/-- The cells of so many records. -/
def rls (ks : List Nat) : List Value := ks.flatMap rl
theorem rls_len : ∀ ks : List Nat, (rls ks).length = ks.length * 33
  | [] => rfl
  | k :: ks => by rw [rls, List.flatMap_cons, List.length_append, rl_len, ← rls, rls_len ks, List.length_cons]; omega
theorem rls_append (a b : List Nat) : rls (a ++ b) = rls a ++ rls b := by simp [rls]
theorem rls_get (ks : List Nat) (i r : Nat) (hi : i < ks.length) (hr : r < 33) : (rls ks)[i * 33 + r]? = some (rcell ks[i]! r) := by
  induction ks generalizing i with
  | nil => simp at hi
  | cons k ks ih =>
    rw [rls, List.flatMap_cons, ← rls]
    cases i with
    | zero =>
      rw [List.getElem?_append_left (by rw [rl_len]; omega), Nat.zero_mul, Nat.zero_add, rl_get k r hr]
      rfl
    | succ i =>
      rw [List.getElem?_append_right (by rw [rl_len]; omega), rl_len, show (i + 1) * 33 + r - 33 = i * 33 + r by omega, ih i (by simpa using hi)]
      simp
theorem rls_one (ks : List Nat) : ∀ v ∈ rls ks, v.oneCell' = true := by
  intro v hv
  simp only [rls, List.mem_flatMap] at hv
  obtain ⟨k, _, hv⟩ := hv
  exact rl_one k v hv
theorem Recs.cells {w : World} {b o : Nat} {ks : List Nat} (h : Recs w b o ks) : ∀ j u, (rls ks)[j]? = some u → w.cell? ⟨b, o + j, none⟩ = some u := by
  intro j u hu
  have hj : j < (rls ks).length := (List.getElem?_eq_some_iff.1 hu).1
  rw [rls_len] at hj
  have h1 := rls_get ks (j / 33) (j % 33) (by omega) (Nat.mod_lt _ (by omega))
  rw [show j / 33 * 33 + j % 33 = j by omega, hu] at h1
  rw [Option.some.inj h1]
  have h2 := (h (j / 33) (by omega)).cell (j % 33) (Nat.mod_lt _ (by omega))
  rw [show o + j / 33 * 33 + j % 33 = o + j by omega] at h2
  exact h2
theorem Recs.of_cells {w : World} {b o : Nat} {ks : List Nat} (h : ∀ j u, (rls ks)[j]? = some u → w.cell? ⟨b, o + j, none⟩ = some u) : Recs w b o ks := by
  intro i hi r v hv
  have hr : r < 33 := by have := (List.getElem?_eq_some_iff.1 hv).1; rwa [rl_len] at this
  rw [rl_get _ r hr] at hv
  rw [← Option.some.inj hv, Nat.add_assoc]
  exact h _ _ (rls_get ks i r hi hr)
theorem Recs.of_block {w w' : World} {b o : Nat} {ks : List Nat} (h : Recs w b o ks) (hb : w'.heap[b]? = w.heap[b]?) : Recs w' b o ks := fun i hi => (h i hi).of_block hb
theorem Recs.later {w w' : World} {b o : Nat} {ks : List Nat} (h : Recs w b o ks) (hb : Below w.heap.size w w') : Recs w' b o ks := fun i hi => (h i hi).of_block (hb.block b (h i hi).lt)

/-- A slice of records, in memory of the call's own. -/
abbrev Own (base : Nat) (w : World) (v : Value) (ks : List Nat) : Prop := w.ownsRow base 34 33 v ks.length (rls ks)

theorem Own.recs {base : Nat} {w : World} {g n cap : Nat} {ks : List Nat} (h : Own base w (.slice (some ⟨g, 0, none⟩) n cap) ks) : n = ks.length ∧ ks.length ≤ cap ∧ base ≤ g ∧ g < w.heap.size ∧ Recs w g 0 ks ∧ ∀ o, w.frozen? ⟨g, o, none⟩ = false := by
  rcases h.2 with ⟨hh, _⟩ | ⟨g', cap', cur, hv, hb, hg, h1, h2, h3, h4⟩
  · cases hh
  · simp only [Value.slice.injEq, Option.some.injEq, Addr.mk.injEq, and_true] at hv
    obtain ⟨rfl, rfl, rfl⟩ := hv
    refine ⟨rfl, h1, hb, ltB hg, Recs.of_cells fun j u hu => ?_, fun o => freeB hg⟩
    refine cellB hg ?_
    rw [← h4, List.getElem?_take] at hu
    split at hu
    · rw [Nat.zero_add]; simpa using hu
    · cases hu

/-- A slice of records that is read. -/
def RS (w : World) (v : Value) (ks : List Nat) : Prop :=
  (v = .slice none 0 0 ∧ ks = []) ∨ ∃ b o cap, v = .slice (some ⟨b, o, none⟩) ks.length cap ∧ ks.length ≤ cap ∧ Recs w b o ks
theorem RS.later {w w' : World} {v : Value} {ks : List Nat} (h : RS w v ks) (hb : Below w.heap.size w w') : RS w' v ks := by
  rcases h with h | ⟨b, o, cap, h1, h2, h3⟩
  · exact .inl h
  · exact .inr ⟨b, o, cap, h1, h2, h3.later hb⟩
theorem Own.rs {base : Nat} {w : World} {v : Value} {ks : List Nat} (h : Own base w v ks) : RS w v ks := by
  rcases h.2 with ⟨hv, hn⟩ | ⟨g, cap, cur, hv, _⟩
  · exact .inl ⟨hv, List.eq_nil_of_length_eq_zero hn⟩
  · subst hv
    have := h.recs
    exact .inr ⟨g, 0, cap, rfl, this.2.1, this.2.2.2.2.1⟩

theorem Yba.info34 : (Yba.prog.info? 34).map (fun i => (i.zero, i.size, i.bytes)) = some (some (rv 0), 33, 40) := by kernel_rfl
theorem info_parts {α β γ : Type} {o : Option α} {f : α → Option β × γ × γ} {z : β} {s b : γ} (h : o.map f = some (some z, s, b)) : ∃ i, o = some i ∧ (f i).1 = some z ∧ (f i).2.1 = s ∧ (f i).2.2 = b := by
  cases o with
  | none => cases h
  | some i => simp only [Option.map_some, Option.some.injEq] at h; exact ⟨i, rfl, by rw [h], by rw [h], by rw [h]⟩

theorem clone_any {w : World} {v : Value} {ks : List Nat} (h : RS w v ks) (hn : ks.length ≤ 1099511627776) :
    Calls Yba.prog 9 #[v] w fun e w' => ∃ v', e = .returned v' ∧ Own w.heap.size w' v' ks ∧ Below w.heap.size w w' := by
  obtain ⟨i0, hi, hz0, hz1, hz2⟩ := info_parts Yba.info34
  rcases h with ⟨rfl, rfl⟩ | ⟨b, o, cap, rfl, h2, h3⟩
  · refine (AnyE.slices_Clone_nil Yba.cloneR 0 0 w).mono ?_
    rintro e w' ⟨rfl, rfl⟩
    exact ⟨_, rfl, ⟨rfl, .inl ⟨rfl, rfl⟩⟩, Below.refl _ _⟩
  · refine (AnyE.slices_Clone Yba.cloneR i0 (rv 0) 33 40 hi hz0 hz1 hz2 (by simp [rv, Value.cells, rl_len]) (by omega) Yba.sizeOf34 b o ks.length cap (rls ks) w (rls_len ks) (by unfold maxLen; omega) (by omega) h3.cells (rls_one ks)).mono ?_
    rintro e w' ⟨v', rfl, hown, _, hb⟩
    exact ⟨v', rfl, hown, hb⟩
end Go.Proofs.Ybulkqhs
