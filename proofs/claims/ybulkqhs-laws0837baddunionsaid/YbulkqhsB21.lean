import Derived.Test.YbulkqhsB20
namespace Go.Proofs.Ybulkqhs
open Go.RowKit
set_option linter.unusedVariables false
attribute [local go_sem ↓] exec_store34 exec_load34 exec_box34 exec_build78 exec_box78 exec_load70
attribute [local go_sem] run_box34 run_box78 eql34_run neq34_run guard34

def ncg (f : Nat) (g : Nat → Int) (c : Int) (v cv : Value) : Array Value := (rl f ++ [.int .u64 (g 0), .int .u64 (g 1), .int .u64 (g 2), .int .u64 (g 3), .int .i64 c, v, cv, .int .u32 0]).toArray
theorem ncg_nc (f N c : Nat) (v cv : Value) : nc f N c v cv = ncg f (wd N) c v cv := rfl
def gi (N M i : Nat) (j : Nat) : Int := if j < i then wd (N + M) j else wd N j
theorem ncg_get (f : Nat) (g : Nat → Int) (c : Int) (v cv : Value) (i : Nat) (hi : i < 4) : (ncg f g c v cv)[33 + i]? = some (.int .u64 (g i)) := by
  rw [ncg, List.getElem?_toArray, List.getElem?_append_right (by rw [rl_len]; omega), rl_len, show 33 + i - 33 = i by omega]
  match i, hi with
  | 0, _ => rfl
  | 1, _ => rfl
  | 2, _ => rfl
  | 3, _ => rfl
theorem ncg_cnt (f : Nat) (g : Nat → Int) (c : Int) (v cv : Value) : (ncg f g c v cv)[37]? = some (.int .i64 c) := by
  rw [ncg, List.getElem?_toArray, List.getElem?_append_right (by rw [rl_len]; omega), rl_len]
  rfl
theorem set_tail (A B : List Value) (j : Nat) (x : Value) (hA : A.length = 33) : (A ++ B).toArray.setIfInBounds (33 + j) x = (A ++ B.set j x).toArray := by
  rw [List.setIfInBounds_toArray, ← hA]
  simp
theorem ncg_set (f N M i : Nat) (c : Int) (v cv : Value) (hi : i < 4) : (ncg f (gi N M i) c v cv).setIfInBounds (33 + i) (.int .u64 (wd (N + M) i)) = ncg f (gi N M (i + 1)) c v cv := by
  unfold ncg
  rw [set_tail _ _ _ _ (rl_len f)]
  match i, hi with
  | 0, _ => rfl
  | 1, _ => rfl
  | 2, _ => rfl
  | 3, _ => rfl
theorem ncg_setc (f : Nat) (g : Nat → Int) (c c' : Int) (v cv : Value) : (ncg f g c v cv).setIfInBounds 37 (.int .i64 c') = ncg f g c' v cv := by
  unfold ncg
  rw [show (37 : Nat) = 33 + 4 from rfl, set_tail _ _ _ _ (rl_len f)]
  rfl
theorem addStep2 (N M q : Nat) (hq : q < 4) (w : World) : (callFunc 19 #[.int .u64 (wd N q), .int .u64 (wd M q), .int .u64 (car (wd N) (wd M) q)]).run Yba.prog w =
    .ok (.value (.tuple #[.int .u64 (wd (N + M) q), .int .u64 (car (wd N) (wd M) (q + 1))])) w := by
  have hc := car_range (wd N) (wd M) (fun i => ⟨wd_lo N i, wd_hi N i⟩) (fun i => ⟨wd_lo _ i, wd_hi _ i⟩) q
  rw [add64_call _ _ _ (wd_lo N q) (wd_lo M q) hc.1 hc.2, ← sm_wd N M q hq]
  rfl

theorem Turn.setCell (g : Nat) (w : World) (o : Nat) (v : Value) : Turn g w (w.setCell ⟨g, o, none⟩ v) :=
  ⟨rfl, rfl, rfl, Nat.le_of_eq (by simp [World.setCell]), fun k hk hne => Below.heap_setCell _ _ _ _ hne⟩
theorem Turn.drew (g : Nat) (w : World) : Turn g w w.drew := ⟨rfl, rfl, rfl, Nat.le_refl _, fun _ _ _ => rfl⟩

set_option maxRecDepth 100000 in
set_option maxHeartbeats 4000000 in
theorem merge_any (p f N c M m : Nat) (v cv : Value) (w : World) (h : NB w p f N c v cv) (hc : c ≤ 1099511627776) (hm : m ≤ 1099511627776) :
    Calls Yba.prog 49 #[.pointer (some ⟨p, 33, none⟩), sv M m] w fun e w' => e = .returned (.tuple #[]) ∧ NB w' p f (N + M) (c + m) v cv ∧ Turn p w w' := by
  have hp := h.lt
  have hB : (w.alloc (.cells #[.int .u64 (wd M 0), .int .u64 (wd M 1), .int .u64 (wd M 2), .int .u64 (wd M 3), .int .i64 m] 70)).heap[w.heap.size]? = some (.cells #[.int .u64 (wd M 0), .int .u64 (wd M 1), .int .u64 (wd M 2), .int .u64 (wd M 3), .int .i64 m] 70 (0, 0)) := heap_alloc_new w _
  have hP : (w.alloc (.cells #[.int .u64 (wd M 0), .int .u64 (wd M 1), .int .u64 (wd M 2), .int .u64 (wd M 3), .int .i64 m] 70)).heap[p]? = some (.cells (ncg f (gi N M 0) c v cv) 78 (0, 0)) := (Below.heap_alloc w _ p hp).trans h
  have hT : Turn p w (w.alloc (.cells #[.int .u64 (wd M 0), .int .u64 (wd M 1), .int .u64 (wd M 2), .int .u64 (wd M 3), .int .i64 m] 70)) := Turn.of_below ((Below.refl _ w).alloc (Nat.le_refl _) _)
  have HB := hideB hB; have HP := hideB hP; have HT := hideB hT
  clear hB hP hT h
  unfold sv
  go_enter Yba.func49, Yba.ntmps49
  go_wp2_with fail
  generalize (w.alloc (.cells #[.int .u64 (wd M 0), .int .u64 (wd M 1), .int .u64 (wd M 2), .int .u64 (wd M 3), .int .i64 m] 70)) = W at HB HP HT ⊢
  have hne : w.heap.size ≠ p := by omega
  generalize hBB : w.heap.size = B at HB hne ⊢
  go_loopw [4, 6] (fun s4 s6 wr => ∃ i : Nat, s6 = .int .i64 i ∧ i ≤ 4 ∧ s4 = .int .u64 (car (wd N) (wd M) i) ∧ wr.heap[p]? = some (.cells (ncg f (gi N M i) c v cv) 78 (0, 0)) ∧ Turn p W wr) (fun _ s6 _ => 4 - (intOf s6).toNat)
  case atStart => exact ⟨0, rfl, by omega, rfl, unhideB HP, Turn.refl _ _⟩
  case round =>
    obtain ⟨i, rfl, hi4, rfl, hblk, hturn⟩ := hrel
    have hblkB : wr.heap[B]? = some (.cells #[.int .u64 (wd M 0), .int .u64 (wd M 1), .int .u64 (wd M 2), .int .u64 (wd M 3), .int .i64 m] 70 (0, 0)) := (hturn.block B (ltB (unhideB HB)) hne).trans (unhideB HB)
    have HBL := hideB hblk; have HTN := hideB hturn
    clear hturn
    by_cases hlt : i < 4
    · have hlt' : (i : Int) < 4 := by omega
      have c1 : wr.cell? ⟨p, 33 + i, none⟩ = some (.int .u64 (wd N i)) := by
        have := cellB hblk (ncg_get f (gi N M i) c v cv i hlt)
        simpa [gi] using this
      have c2 : wr.cell? ⟨B, i, none⟩ = some (.int .u64 (wd M i)) := by
        refine cellB hblkB ?_
        match i, hlt with
        | 0, _ => rfl
        | 1, _ => rfl
        | 2, _ => rfl
        | 3, _ => rfl
      have f1 : wr.frozen? ⟨p, 33 + i, none⟩ = false := freeB hblk
      have a1 := addStep2 N M i hlt
      clear hblk hblkB
      go_wp2_with fail
      go_region
      go_wp2_with fail
      refine ⟨⟨i + 1, by simp, by omega, rfl, ?_, (unhideB HTN).trans ((Turn.drew p wr).trans (Turn.setCell p wr.drew _ _))⟩, by simp [intOf]; omega⟩
      rw [← ncg_set f N M i c v cv hlt]
      exact setCellB (w := wr.drew) (unhideB HBL) _
    · have hlt' : ¬ ((i : Int) < 4) := by omega
      have hi : i = 4 := by omega
      subst hi
      have c1 : wr.cell? ⟨p, 37, none⟩ = some (.int .i64 c) := cellB hblk (ncg_cnt f (gi N M 4) c v cv)
      have c2 : wr.cell? ⟨B, 4, none⟩ = some (.int .i64 m) := cellB hblkB rfl
      have f1 : wr.frozen? ⟨p, 37, none⟩ = false := freeB hblk
      clear hblk hblkB
      go_wp2_with fail
      go_region
      go_wp2_with fail
      go_end0
      refine ⟨rfl, ?_, (unhideB HT).trans ((unhideB HTN).trans ((Turn.drew p wr).trans (Turn.setCell p wr.drew _ _)))⟩
      have := setCellB (w := wr.drew) (o := 37) (unhideB HBL) (.int .i64 ((c : Int) + m))
      rw [ncg_setc] at this
      unfold NB
      rw [ncg_nc, Int.natCast_add]
      exact this
end Go.Proofs.Ybulkqhs
