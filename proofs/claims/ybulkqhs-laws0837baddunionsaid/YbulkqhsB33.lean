import Derived.Test.YbulkqhsB32
namespace Go.Proofs.Ybulkqhs
open Go.RowKit
set_option linter.unusedVariables false
set_option linter.unusedSimpArgs false

/-! ### The loop over shares' function: the law for this one program -/
/-- What between two rounds abides whatever turns no block below T but B2's cells, L and D. -/
structure Abd (B2 : Nat) (S4 : Nat) (J : List (List Nat) → World → Prop) : Prop where
  cell : ∀ ss W v, J ss W → J ss (W.setCell ⟨B2, 0, none⟩ v)
  grow : ∀ ss W W', J ss W → Below W.heap.size W W' → J ss W'
  loop : ∀ ss W o o', J ss W → W.heap[S4 + 1]? = some o → J ss (W.putObj (S4 + 1) o')

theorem putObj_size (W : World) (l : Nat) (o : Obj) : (W.putObj l o).heap.size = W.heap.size := by simp [World.putObj]

set_option maxHeartbeats 1000000 in
theorem range_law {d S B1 B2 p m : Nat} {w : World} {ks bs : List Nat} {b o cap : Nat} {cs : List (Nat × List Nat)} {va : Value} (J : List (List Nat) → World → Prop) (hA : Abd B2 w.heap.size J)
    (hS : S ≤ B1) (hB : B1 < B2) (hBW : B2 < w.heap.size) (hne : cs ≠ []) (hnb : NB w p (ks.headD 0) (sumN ks) ks.length nilS (.slice (some ⟨b, o, none⟩) cs.length cap)) (hpS : p < S) (hbS : b < S) (hcap : cs.length ≤ cap) (hl : cs.length ≤ 1073741824) (hbl : bs.length ≤ 1073741824)
    (hpt : Ptrs w b o (cs.map (·.1))) (hcs : ∀ c ∈ cs, c.2 ≠ [] ∧ NodeAt d (· < S) w c.1 c.2) (hb1 : Boxed w B1 61 (.pointer (some ⟨p, 0, none⟩))) (hb2 : Boxed w B2 56 va) (hrs : RSb (· < S) w va bs) (hba : bs.Pairwise (· < ·)) (hbn : bs ≠ [])
    (h0 : J [] w)
    {g : Operand} {ps : Array Tmp} {assign body : Code} {Q : Exit → Act → World → Prop} {a : Act} (hg : a.eval g = .func (.func 55) #[] #[.pointer (some ⟨B1, 0, none⟩), .pointer (some ⟨B2, 0, none⟩)]) (hps : ps.size = 2) (a₁ : Value → Value → Act)
    (hassign : ∀ (l : Nat) (x y : Value) (W : World) (K : Act → World → Prop), K (a₁ x y) W →
      assign.wpIn (Fence.wide.inRound l) m Yba.prog (Exit.then K (fun _ _ _ => False)) { tmps := (ps.zip #[x, y]).foldl (fun t (q, v) => t.setIfInBounds q v) a.tmps, defers := [] } W)
    (hbody : ∀ ss share rest W sv, J ss W → ss.length < cs.length → ss.flatten ++ share ++ rest = bs → Cut cs ss.length share rest → RSb (· < S) W sv share → (∀ x, x < S → W.heap[x]? = w.heap[x]?) → w.heap.size + 1 < W.heap.size →
      body.wpIn (Fence.wide.inRound (w.heap.size + 1)) m Yba.prog (fun e _ W' => e = .normal ∧ KeepsOthers W W' ∧ J (ss ++ [share]) W' ∧ Kq S B1 B2 W W') (a₁ (.pointer (some ⟨cs[ss.length]!.1, 0, none⟩)) sv) W)
    (hdone : ∀ ss W, ss.length = cs.length → ss.flatten = bs → J ss W → W.heap[w.heap.size]? = some (.deferred (some [])) → Q .normal { a with defers := { target := .collected w.heap.size, args := #[] } :: a.defers } W) :
    (Code.rangeFunc g ps assign body).wp Yba.prog Q a w := by
  refine (wpIn_wide (n := m + 2)).1 (wpIn_rangeFunc ?_)
  intro fn hfn
  obtain ⟨D, hD⟩ : ∃ D, D = w.heap.size := ⟨_, rfl⟩
  obtain ⟨rec, hrec⟩ : ∃ rec : LoopState → Option Code → Loop, rec = fun st pe => { state := st, pending := pe, fn, tmps := a.tmps, params := ps, assign, body, defers := D } := ⟨_, rfl⟩
  obtain ⟨W1, hW1⟩ : ∃ W1, (w.alloc (.deferred (some []))).alloc (.loop (rec .ready none)) = W1 := ⟨_, rfl⟩
  have hBel : Below w.heap.size w W1 := by rw [← hW1]; exact ((Below.refl _ w).alloc (Nat.le_refl _) _).alloc (by simp) _
  have hL1 : W1.heap[D + 1]? = some (.loop (rec .ready none)) := by
    rw [← hW1, hD]; have := World.alloc_heap_new (w.alloc (.deferred (some []))) (.loop (rec .ready none)); rwa [World.size_alloc] at this
  have hK1 : W1.heap[D]? = some (.deferred (some [])) := by
    rw [← hW1, hD]; exact (Below.heap_alloc _ _ _ (by simp)).trans (World.alloc_heap_new w _)
  have enters : ∀ args w, (callFunc 55 args).run Yba.prog w = .ok (.enter 55 args) w := enters_of Yba.func55 (by kernel_rfl) rfl
  refine ⟨D + 1, [{ target := .collected D, args := #[] }], W1, { target := .fn (.func 55) #[.pointer (some ⟨B1, 0, none⟩), .pointer (some ⟨B2, 0, none⟩)], args := #[.func (.yield (D + 1)) #[] #[]] }, W1, 55, #[.func (.yield (D + 1)) #[] #[], .pointer (some ⟨B1, 0, none⟩), .pointer (some ⟨B2, 0, none⟩)], W1, ?_, ?_, fun _ _ => trivial, ?_, fun h => (by omega), ?_⟩
  · rw [← hW1, hrec, hD]; exact run_enterLoop_outer _ _ _ _ _
  · simp only [resolve, hg]
    simp [go_sem]
  · simp [invoke, go_sem, enters]
  · refine callsIn_wide.2 ?_
    have hsz1 : w.heap.size ≤ W1.heap.size := hBel.size
    refine (shares_in (d := d) (S := S) (B1 := B1) (B2 := B2) (p := p) (l := D + 1) (mm := m) (W := W1) (ks := ks) (bs := bs) (b := b) (o := o) (cap := cap) (cs := cs) (va := va)
      (fun ss W => J ss W ∧ W.heap[D + 1]? = some (.loop (rec .ready none)) ∧ W.heap[D]? = some (.deferred (some []))) hS hB (by omega) hne (hnb.later (hBel.block p (by omega))) hpS hbS hcap hl hbl (hpt.of_block (hBel.block b (by omega)))
      (fun c hc => ⟨(hcs c hc).1, NodeAt.later (hBel.mono (by omega)) (Nat.le_refl _) d c.1 c.2 (hcs c hc).2⟩) ((hBel.block B1 (by omega)).trans hb1) ((hBel.block B2 (by omega)).trans hb2) (hrs.below (hBel.mono (by omega))) hba hbn
      ?_ ?_ ⟨hA.grow _ _ _ h0 hBel, hL1, hK1⟩ ?_).mono ?_
    · rintro ss W v ⟨h1, h2, h3⟩
      exact ⟨hA.cell ss W v h1, (Below.heap_setCell _ _ _ _ (show D + 1 ≠ B2 by omega)).trans h2, (Below.heap_setCell _ _ _ _ (show D ≠ B2 by omega)).trans h3⟩
    · rintro ss W W' ⟨h1, h2, h3⟩ hb
      exact ⟨hA.grow ss W W' h1 hb, (hb.block _ (Array.getElem?_eq_some_iff.1 h2).1).trans h2, (hb.block _ (Array.getElem?_eq_some_iff.1 h3).1).trans h3⟩
    · rintro ss share rest W sv ⟨h1, h2, h3⟩ hlen hfl hcut hrs2 hlow
      have hlt : D + 1 < W.heap.size := (Array.getElem?_eq_some_iff.1 h2).1
      have hy := run_yield (P := Yba.prog) (args := #[.pointer (some ⟨cs[ss.length]!.1, 0, none⟩), sv]) h2 (by rw [hrec]; exact hps.symm)
      rw [hrec] at hy
      refine ⟨fn, _, assign, body, hy, roundIn_of_wpIn hfn (hassign _ _ _ W _ ⟨_, run_beginRound h2 (by rw [hrec]), ?_⟩)⟩
      obtain ⟨W2, hW2⟩ : ∃ W2, W.putObj (D + 1) (.loop { rec .ready none with state := .busy }) = W2 := ⟨_, rfl⟩
      rw [hW2]
      have hl2 : W2.heap[D + 1]? = some (.loop { rec .ready none with state := .busy }) := by rw [← hW2]; exact World.putObj_heap_same hlt
      have hoth : ∀ x, x ≠ D + 1 → W2.heap[x]? = W.heap[x]? := fun x hx => by rw [← hW2]; exact World.putObj_heap_other hx
      have hsz2 : W2.heap.size = W.heap.size := by rw [← hW2]; exact putObj_size _ _ _
      have hJ2 : J ss W2 := by rw [← hW2, hD]; exact hA.loop ss W _ _ h1 (by rw [← hD]; exact h2)
      have hbd := hbody ss share rest W2 sv hJ2 hlen hfl hcut (hrs2.keep (fun x hx => hoth x (by omega)) (fun x hx => hx)) (fun x hx => (hoth x (by omega)).trans ((hlow x hx).trans (hBel.block x (by omega)))) (by omega)
      rw [← hD] at hbd
      refine wpIn_mono hbd ?_
      rintro e a3 W3 ⟨rfl, hk3, hj3, hkq⟩
      have hl3 := hk3.same _ _ hl2 rfl
      have hend := run_endRound (P := Yba.prog) none hl3
      rw [hrec] at hend
      have hsz3 : (W3.putObj (D + 1) (.loop (rec .ready none))).heap.size = W3.heap.size := putObj_size _ _ _
      have hlt3 : D + 1 < W3.heap.size := (Array.getElem?_eq_some_iff.1 hl3).1
      have hD3 : W3.heap[D]? = some (.deferred (some [])) := hk3.same _ _ ((hoth D (by omega)).trans h3) rfl
      refine ⟨.bool true, W3.putObj (D + 1) (.loop (rec .ready none)), ?_, rfl, ⟨?_, World.putObj_heap_same hlt3, (World.putObj_heap_other (by omega)).trans hD3⟩, ?_⟩
      · rw [hrec]; exact hend
      · rw [hD]; exact hA.loop _ W3 _ _ hj3 (by rw [← hD]; exact hl3)
      · refine ⟨by rw [hsz3]; have := hkq.size; omega, fun x hx => ?_, ?_, ?_⟩
        · exact (World.putObj_heap_other (by omega)).trans ((hkq.low x hx).trans (hoth x (by omega)))
        · exact (World.putObj_heap_other (by omega)).trans (hkq.one.trans (hoth B1 (by omega)))
        · exact (World.putObj_heap_other (by omega)).trans (hkq.two.trans (hoth B2 (by omega)))
    · rintro e W2 ⟨⟨v, rfl⟩, ss, hlen, hfl, h1, h2, h3⟩
      refine ⟨none, _, by have := run_endLoop (P := Yba.prog) h2 (by rw [hrec]; simp); rw [hrec] at this; exact this, ?_⟩
      have := hdone ss (W2.putObj (D + 1) (.loop { rec .ready none with state := .exhausted })) hlen hfl (by rw [hD]; exact hA.loop ss W2 _ _ h1 (by rw [← hD]; exact h2)) (by rw [← hD]; exact (World.putObj_heap_other (by omega)).trans h3)
      rw [hrec, ← hD] at this
      exact this
end Go.Proofs.Ybulkqhs
