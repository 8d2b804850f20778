import Derived.Test.YbulkqgcHeap
namespace Go.Proofs.Ybulkqgc
open Go.RowKit
set_option linter.unusedVariables false

theorem hide {p : Prop} (h : p) : Hid p := h
theorem unhide {p : Prop} (h : Hid p) : p := h

theorem Only.cell {g : Nat} {w w' : World} (h : Only g w w') {B o : Nat} (hB : B ≠ g) : w'.cell? ⟨B, o, Option.none⟩ = w.cell? ⟨B, o, Option.none⟩ :=
  World.cell?_of_block (h.block B hB)

theorem less_at (g cap m n : Nat) (es : List Ev) (w : World) (hq : Queue w g cap es) (hn : es.length = n) (hm : m + 1 < n) (b : Bool) (hb : lessB (nth es (m+1)) (nth es (m/2)) = b) :
    Calls Yba.prog 65 #[.slice (some ⟨g, 0, Option.none⟩) n cap, .int .i64 ((m : Int) + 1), .int .i64 ((m : Int) / 2)] w fun e w' =>
      e = .returned (.bool b) ∧ ∃ k, w' = w.drewN k := by
  subst hn
  have h := less_any g cap (m+1) (m/2) es w hq hm (by omega)
  rw [nth_eq, nth_eq, hb] at h
  exact h

theorem swap_at (g cap m n : Nat) (es : List Ev) (w : World) (hq : Queue w g cap es) (hn : es.length = n) (hm : m + 1 < n) :
    Calls Yba.prog 66 #[.slice (some ⟨g, 0, Option.none⟩) n cap, .int .i64 ((m : Int) / 2), .int .i64 ((m : Int) + 1)] w fun e w' =>
      e = .returned (.tuple #[]) ∧ Queue w' g cap (swp es (m/2) (m+1)) ∧ Only g w w' := by
  subst hn
  have h := swap_any g cap (m/2) (m+1) es w hq (by omega) hm
  rw [swapL_eq] at h
  exact h

theorem ret_unit : Ending.returned (.tuple #[]) = Ending.returned (.tuple #[]) := rfl

set_option maxRecDepth 100000 in
set_option maxHeartbeats 800000 in
theorem up_any (B o g cap j : Nat) (es : List Ev) (w : World) (hj : j < es.length) (hl : es.length ≤ 2000) (hB : B ≠ g)
    (hc : w.cell? ⟨B, o, Option.none⟩ = some (.slice (some ⟨g, 0, Option.none⟩) es.length cap)) (hq : Queue w g cap es) (hx : HeapExc es j) :
    Calls Yba.prog 31 #[.iface 112 (.pointer (some ⟨B, o, Option.none⟩)), .int .i64 j] w fun e w' =>
      e = .returned (.tuple #[]) ∧ ∃ es', es'.Perm es ∧ HeapOK es' ∧ Queue w' g cap es' ∧ Only g w w' := by
  obtain ⟨n, hn⟩ : ∃ n, n = es.length := ⟨_, rfl⟩
  rw [← hn] at hc
  have HN := hide hn; clear hn
  have HQ := hide hq; clear hq
  have HX := hide hx; clear hx
  go_enter Yba.func31, Yba.ntmps31
  go_wp2_with fail
  go_loopw [1] (fun jv wr => ∃ (k : Nat) (es' : List Ev), jv = .int .i64 k ∧ es'.Perm es ∧ es'.length = n ∧ k < n ∧ HeapExc es' k ∧ Queue wr g cap es' ∧ Only g w wr) (fun jv _ => (intOf jv).toNat)
  case atStart => exact ⟨j, es, rfl, List.Perm.refl _, (unhide HN).symm, by rw [unhide HN]; exact hj, unhide HX, unhide HQ, Only.refl _ _⟩
  case round =>
    obtain ⟨k, es', rfl, hp, hlen, hk, hx', hq', ho⟩ := hrel
    have hcr : wr.cell? ⟨B, o, Option.none⟩ = some (.slice (some ⟨g, 0, Option.none⟩) n cap) := (ho.cell hB).trans hc
    have hk2 : (k : Int) ≤ 2000 := by have := unhide HN; omega
    clear hc
    have P := hide hp; have L := hide hlen; have X := hide hx'; have Q := hide hq'; have O := hide ho
    clear hp hlen hx' hq' ho
    cases k with
    | zero =>
      go_wp2_with fail
      go_end0
      exact ⟨rfl, es', unhide P, (unhide X).zero, unhide Q, unhide O⟩
    | succ m =>
      have hne : ((m : Int) / 2 == (m : Int) + 1) = false := by rw [beq_eq_false_iff_ne]; omega
      have mL := m_less B o wr _ hcr
      have mS : ∀ q, Sem.run Yba.prog (method 349 112 (.pointer (some ⟨B, o, Option.none⟩)) "Swap") (wr.drewN q) = .ok (66, .slice (some ⟨g, 0, Option.none⟩) n cap) (wr.drewN q) := fun q => m_swap B o (wr.drewN q) _ hcr
      clear hcr
      cases hb : lessB (nth es' (m+1)) (nth es' (m/2))
      · have HB := hide hb; clear hb
        go_wp2_with fail
        refine (less_at g cap m n es' wr (unhide Q) (unhide L) hk false (unhide HB)).mono ?_
        rintro e w' ⟨rfl, q, rfl⟩
        go_wp2_with fail
        go_end0
        exact ⟨rfl, es', unhide P, (unhide X).stop (unhide HB), (unhide Q).drewN q, (unhide O).drewN q⟩
      · have HB := hide hb; clear hb
        go_wp2_with fail
        refine (less_at g cap m n es' wr (unhide Q) (unhide L) hk true (unhide HB)).mono ?_
        rintro e w' ⟨rfl, q, rfl⟩
        go_wp2_with fail
        refine (swap_at g cap m n es' _ ((unhide Q).drewN q) (unhide L) hk).mono ?_
        rintro e w2 ⟨rfl, hq2, ho2⟩
        have Q2 := hide hq2; have O2 := hide ho2; clear hq2 ho2
        go_wp2_with fail
        go_roundw
        case rel => exact ⟨m/2, _, by simp, (swp_perm es' (m/2) (m+1) (by have := unhide L; omega) (by have := unhide L; omega)).trans (unhide P), by rw [swp_len]; exact unhide L, by omega, (unhide X).swap (by omega) (by have := unhide L; omega) (unhide HB), unhide Q2, ((unhide O).drewN q).trans (unhide O2)⟩
        case measure => simp [intOf]; omega
end Go.Proofs.Ybulkqgc
