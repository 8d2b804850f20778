import Derived.Test.YbulkqgcQ0
import Derived.Deep.QuietTactic
import Derived.BigQuiet
import Derived.BigRegion
namespace Go.Proofs.Ybulkqgc
open Go.RowKit
set_option linter.unusedVariables false

def lessB (x y : Ev) : Bool := decide (x.at_ < y.at_ ∨ (x.at_ = y.at_ ∧ x.seq < y.seq))

theorem lessB_ne {x y : Ev} (h : (x.at_ != y.at_) = true) : lessB x y = decide (x.at_ < y.at_) := by
  rw [bne_iff_ne] at h
  unfold lessB
  rw [decide_eq_decide]; omega
theorem lessB_eq {x y : Ev} (h : (x.at_ != y.at_) = false) : lessB x y = decide (x.seq < y.seq) := by
  have h : x.at_ = y.at_ := by simpa using h
  unfold lessB
  rw [decide_eq_decide]; omega

theorem less_core (g n cap i j : Nat) (x y : Ev) (w : World) (hi : (i : Int) < n) (hj : (j : Int) < n) 
    (c1 : w.cell? ⟨g, i * 8, Option.none⟩ = some (.int .i64 x.at_)) (c2 : w.cell? ⟨g, j * 8, Option.none⟩ = some (.int .i64 y.at_))
    (c3 : w.cell? ⟨g, i * 8 + 1, Option.none⟩ = some (.int .u64 x.seq)) (c4 : w.cell? ⟨g, j * 8 + 1, Option.none⟩ = some (.int .u64 y.seq)) :
    Calls Yba.prog 65 #[.slice (some ⟨g, 0, Option.none⟩) n cap, .int .i64 i, .int .i64 j] w fun e w' =>
      e = .returned (.bool (lessB x y)) ∧ ∃ k, w' = w.drewN k := by
  cases h : (x.at_ != y.at_)
  · have E := lessB_eq h
    generalize lessB x y = b at *
    subst E
    go_enter Yba.func65, Yba.ntmps65
    go_wp2
    go_quiet (fail)
    go_wp2
    go_quiet (fail)
    go_wp2
    go_ret
    exact ⟨rfl, _, by rw [World.drewN_drewN]⟩
  · have E := lessB_ne h
    generalize lessB x y = b at *
    subst E
    go_enter Yba.func65, Yba.ntmps65
    go_wp2
    go_quiet (fail)
    go_wp2
    go_quiet (fail)
    go_wp2
    go_ret
    exact ⟨rfl, _, by rw [World.drewN_drewN]⟩

theorem less_any (g cap i j : Nat) (es : List Ev) (w : World) (hq : Queue w g cap es) (hi : i < es.length) (hj : j < es.length) :
    Calls Yba.prog 65 #[.slice (some ⟨g, 0, Option.none⟩) es.length cap, .int .i64 i, .int .i64 j] w fun e w' =>
      e = .returned (.bool (lessB es[i] es[j])) ∧ ∃ k, w' = w.drewN k :=
  less_core g es.length cap i j es[i] es[j] w (by omega) (by omega) (hq.cell i 0 (by omega) hi) (hq.cell j 0 (by omega) hj) (hq.cell i 1 (by omega) hi) (hq.cell j 1 (by omega) hj)

set_option maxHeartbeats 800000 in
theorem swap_core (g n cap i j : Nat) (x y : Ev) (w : World) (hi : (i : Int) < n) (hj : (j : Int) < n) (hij : i < j)
    (ci0 : w.cell? ⟨g, i * 8, Option.none⟩ = some (.int .i64 x.at_))
    (ci1 : w.cell? ⟨g, i * 8 + 1, Option.none⟩ = some (.int .u64 x.seq))
    (ci2 : w.cell? ⟨g, i * 8 + 2, Option.none⟩ = some (.int .i64 x.to_))
    (ci3 : w.cell? ⟨g, i * 8 + 3, Option.none⟩ = some (.int .i64 (-1)))
    (ci4 : w.cell? ⟨g, i * 8 + 4, Option.none⟩ = some (.pointer Option.none))
    (ci5 : w.cell? ⟨g, i * 8 + 5, Option.none⟩ = some (.int .u64 0))
    (ci6 : w.cell? ⟨g, i * 8 + 6, Option.none⟩ = some (.int .u32 0))
    (ci7 : w.cell? ⟨g, i * 8 + 7, Option.none⟩ = some (.nilFunc))
    (cj0 : w.cell? ⟨g, j * 8, Option.none⟩ = some (.int .i64 y.at_))
    (cj1 : w.cell? ⟨g, j * 8 + 1, Option.none⟩ = some (.int .u64 y.seq))
    (cj2 : w.cell? ⟨g, j * 8 + 2, Option.none⟩ = some (.int .i64 y.to_))
    (cj3 : w.cell? ⟨g, j * 8 + 3, Option.none⟩ = some (.int .i64 (-1)))
    (cj4 : w.cell? ⟨g, j * 8 + 4, Option.none⟩ = some (.pointer Option.none))
    (cj5 : w.cell? ⟨g, j * 8 + 5, Option.none⟩ = some (.int .u64 0))
    (cj6 : w.cell? ⟨g, j * 8 + 6, Option.none⟩ = some (.int .u32 0))
    (cj7 : w.cell? ⟨g, j * 8 + 7, Option.none⟩ = some (.nilFunc))
    (hf : ∀ o, w.frozen? ⟨g, o, Option.none⟩ = false) :
    Calls Yba.prog 66 #[.slice (some ⟨g, 0, Option.none⟩) n cap, .int .i64 i, .int .i64 j] w fun e w' =>
      e = .returned (.tuple #[]) ∧ w' = (storeEv (storeEv w g (i * 8) y) g (j * 8) x).drew := by
  go_enter Yba.func66, Yba.ntmps66
  go_wp2
  go_region
  go_end0
  exact ⟨rfl, rfl⟩

theorem swap_any (g cap i j : Nat) (es : List Ev) (w : World) (hq : Queue w g cap es) (hij : i < j) (hj : j < es.length) :
    Calls Yba.prog 66 #[.slice (some ⟨g, 0, Option.none⟩) es.length cap, .int .i64 i, .int .i64 j] w fun e w' =>
      e = .returned (.tuple #[]) ∧ Queue w' g cap (swapL es i j (Nat.lt_trans hij hj) hj) ∧ Only g w w' := by
  have hi : i < es.length := Nat.lt_trans hij hj
  refine (swap_core g es.length cap i j es[i] es[j] w (by omega) (by omega) hij (hq.cell i 0 (by omega) hi) (hq.cell i 1 (by omega) hi) (hq.cell i 2 (by omega) hi) (hq.cell i 3 (by omega) hi) (hq.cell i 4 (by omega) hi) (hq.cell i 5 (by omega) hi) (hq.cell i 6 (by omega) hi) (hq.cell i 7 (by omega) hi)
    (hq.cell j 0 (by omega) hj) (hq.cell j 1 (by omega) hj) (hq.cell j 2 (by omega) hj) (hq.cell j 3 (by omega) hj) (hq.cell j 4 (by omega) hj) (hq.cell j 5 (by omega) hj) (hq.cell j 6 (by omega) hj) (hq.cell j 7 (by omega) hj) (fun o => hq.frozen o)).mono ?_
  rintro e w' ⟨rfl, rfl⟩
  refine ⟨rfl, ?_, (((Only.refl g w).storeEv _ _).storeEv _ _).drew⟩
  exact ((hq.stored i hi es[j]).stored j (by simpa using hj) es[i]).drew
end Go.Proofs.Ybulkqgc
