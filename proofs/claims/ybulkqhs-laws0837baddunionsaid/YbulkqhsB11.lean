import Derived.Test.YbulkqhsB10
import Derived.Shelf.SlSortFunc.Xorshift
import Derived.Ground.GgsProg
import Derived.Sort.LotD1
namespace Go.Proofs.Ybulkqhs
open Go.RowKit Go.Shelf
set_option linter.unusedVariables false

shelf_lay LaysGg.n36 Ggs 36 at Yba as Yba.gl36
shelf_lay LaysGg.n35 Ggs 35 at Yba as Yba.gl35
shelf_lay LaysGg.n13 Ggs 13 at Yba as Yba.gl13

theorem next_any (B X : Nat) (hX : X < 18446744073709551616) (w : World) (hc : w.cell? ⟨B, 0, none⟩ = some (.int .u64 X)) (hf : w.frozen? ⟨B, 0, none⟩ = false) :
    Calls Yba.prog 75 #[.pointer (some ⟨B, 0, none⟩)] w fun e w' => ∃ Y : Nat, Y < 18446744073709551616 ∧ e = .returned (.int .u64 Y) ∧ w' = (w.setCell ⟨B, 0, none⟩ (.int .u64 Y)).drewN 3 :=
  (Any.xorshift_Next Yba.gl36 B 0 X hX w hc hf).mono fun e w' h => ⟨Sort.xorNextN X, Sort.xorNextN_lt X hX, h.1, h.2⟩

theorem pow_any (n : Nat) (hn : n < 4611686018427387904) (w : World) :
    Calls Yba.prog 74 #[.int .i64 n] w fun e w' => e = .returned (.int .u64 ((1 <<< Sort.bitsLen n : Nat) : Int)) ∧ w' = w :=
  Any.nextPowerOfTwo Yba.gl35 n hn w

theorem len_bits (n : Nat) (hn : n < 4611686018427387904) (w : World) :
    Calls Yba.prog 53 #[.int .u64 n] w fun e w' => (∃ k : Nat, k ≤ 62 ∧ e = .returned (.int .i64 k)) ∧ w' = w := by
  have h := Any.bits_Len (LaysGg.n13.bits Yba.gl13) (n : Int) w (by omega) (by omega)
  rw [Int.toNat_natCast, bitLen_eq _ (by omega)] at h
  exact h.mono fun e w' h => ⟨⟨Sort.bitsLen n, (Sort.bitsLen_le_iff n 62).2 (by omega), h.1⟩, h.2⟩

/-- The row, and the generator's state in block B. -/
structure Sx (w0 : World) (g n B : Nat) (w : World) (d : Array Nat) : Prop where
  row : Row w0 g n w d
  far : w0.heap.size ≤ B
  ne : g ≠ B
  own : ∃ X : Nat, X < 18446744073709551616 ∧ w.heap[B]? = some (.cells #[.int .u64 X] 174 (0, 0))

theorem Row.drewN {w0 w : World} {g n : Nat} {d : Array Nat} (h : Row w0 g n w d) (k : Nat) : Row w0 g n (w.drewN k) d :=
  ⟨h.size, fun i hi => (h.recs i hi).of_block rfl, fun o => h.free o, ⟨h.turn.os, h.turn.tape, h.turn.output, h.turn.size, fun k hk hne => h.turn.block k hk hne⟩⟩

theorem Sx.next {w0 w : World} {g n B : Nat} {d : Array Nat} (h : Sx w0 g n B w d) (Y : Nat) (hY : Y < 18446744073709551616) :
    Sx w0 g n B ((w.setCell ⟨B, 0, none⟩ (.int .u64 Y)).drewN 3) d := by
  obtain ⟨X, hX, hz⟩ := h.own
  exact ⟨(h.row.setCell h.far h.ne _).drewN 3, h.far, h.ne, Y, hY, setCellB hz _⟩

theorem Sx.swp {w0 w w' : World} {g n B : Nat} {d d' : Array Nat} (h : Sx w0 g n B w d) (hr : Row w0 g n w' d') (ht : Turn g w w') : Sx w0 g n B w' d' := by
  obtain ⟨X, hX, hz⟩ := h.own
  exact ⟨hr, h.far, h.ne, X, hX, (ht.block B (ltB hz) (Ne.symm h.ne)).trans hz⟩

set_option maxRecDepth 100000 in
set_option maxHeartbeats 2000000 in
theorem break_any {w0 w : World} {g n cap : Nat} {d : Array Nat} (h : Row w0 g n w d) (a b : Nat) (hab : a + 12 < b) (hbn : b ≤ n) (hn : n ≤ 1099511627776) :
    Calls Yba.prog 65 #[dv g n cap, .int .i64 a, .int .i64 b] w fun e w' => e = .returned (.tuple #[]) ∧ ∃ d', Row w0 g n w' d' ∧ Sort.PermIn a b d d' := by
  unfold dv
  have mS := fun v w n => method_own find_swap 34 Yba.underlying123 v w n
  obtain ⟨L, rfl⟩ : ∃ L : Nat, b = a + L := ⟨b - a, by omega⟩
  obtain ⟨l, hl⟩ : ∃ l : Nat, l = L / 4 := ⟨_, rfl⟩
  have hL : ((a + L : Nat) : Int) - a = (L : Int) := by omega
  have hL2 : (a : Int) + L - a = (L : Int) := by omega
  have hq : (L : Int).tdiv 4 = (l : Int) := by
    rw [Int.tdiv_eq_ediv_of_nonneg (by omega)]; omega
  have hq2 : (L : Int) / 4 = (l : Int) := by omega
  have h8 : (8 : Int) ≤ (L : Int) := by omega
  obtain ⟨M, hM⟩ : ∃ M : Nat, M = 1 <<< Sort.bitsLen L := ⟨_, rfl⟩
  have hM1 : 1 ≤ M := by rw [hM, Nat.one_shiftLeft]; exact Nat.two_pow_pos _
  have hM2 : M ≤ 2 * L := by rw [hM, Nat.one_shiftLeft]; exact Sort.two_pow_bitsLen_le (by omega)
  have hNP : ∀ w, Calls Yba.prog 74 #[.int .i64 (L : Int)] w fun e w' => e = .returned (.int .u64 (M : Int)) ∧ w' = w := by rw [hM]; exact fun w => pow_any L (by omega) w
  have HL := hideB hl; have HM := hideB hM; clear hl hM
  have S := hideB (show Sx w0 g n w.heap.size (w.alloc (.cells #[.int .u64 (L : Int)] 174)) d from ⟨h.alloc (h.lt (by omega)) _, h.turn.size, Nat.ne_of_lt (h.lt (by omega)), L, by omega, heap_alloc_new w _⟩)
  clear h
  go_enter Yba.func65, Yba.ntmps65
  go_wp2_with fail
  refine (hNP _).mono ?_
  rintro e w' ⟨rfl, rfl⟩
  generalize hB : w.heap.size = B at S ⊢
  generalize (w.alloc (.cells #[.int .u64 (L : Int)] 174)) = W0 at S ⊢
  clear hB
  go_wp2_with fail
  go_loopw [9] (fun vi wr => ∃ (t : Nat) (d' : Array Nat), vi = .int .i64 ((a + l * 2 - 1 + t : Nat) : Int) ∧ t ≤ 3 ∧ Sx w0 g n B wr d' ∧ Sort.PermIn a (a + L) d d') (fun vi _ => a + l * 2 + 3 - (intOf vi).toNat)
  case atStart => exact ⟨0, d, by congr 1; have := unhideB HL; omega, by omega, unhideB S, Sort.permIn_refl _ _ _⟩
  case round =>
    obtain ⟨t, d', rfl, ht, hs, hp⟩ := hrel
    have HP := hideB hp
    have hsz : d'.size = n := hs.row.size
    obtain ⟨X, hX, hz⟩ := hs.own
    have hc := cellB (o := 0) hz rfl
    have hf := freeB (o := 0) hz
    have HS := hideB hs
    clear hp hs hz S
    have hl4 := unhideB HL
    obtain ⟨i0, hi0⟩ : ∃ i0 : Nat, i0 = a + l * 2 - 1 + t := ⟨_, rfl⟩
    rw [← hi0]
    have HI := hideB hi0
    by_cases ht3 : t < 3
    · have hle : (i0 : Int) ≤ (a : Int) + (l : Int) * 2 + 1 := by omega
      clear hl4 hi0
      go_wp2_with fail
      refine (next_any B X hX _ hc hf).mono ?_
      rintro e w' ⟨Y, hY, rfl, rfl⟩
      have HS2 := hideB ((unhideB HS).next Y hY)
      generalize ((wr.setCell ⟨B, 0, none⟩ (.int .u64 Y)).drewN 3) = W1 at HS2 ⊢
      obtain ⟨O, hO⟩ : ∃ O : Nat, O = Y &&& (M - 1) := ⟨_, rfl⟩
      have lO : O ≤ M - 1 := by rw [hO]; exact Nat.and_le_right
      have eAnd : bits .and .u64 (Y : Int) ((M : Int) - 1) = (O : Int) := by
        rw [show ((M : Int) - 1) = ((M - 1 : Nat) : Int) by omega, bits_and_u64_nat _ _ hY (by omega), hO]
      clear hO hc hf HS
      by_cases hOL : L ≤ O
      · have hOL' : (L : Int) ≤ (O : Int) := by omega
        go_wp2_with fail
        refine (swap_at (unhideB HS2).row i0 (a + (O - L)) _ _ rfl (by omega) (by have := unhideB HL; have := unhideB HI; omega) (by omega)).mono ?_
        rintro e w' ⟨rfl, hr2, ht2⟩
        have HS3 := hideB ((unhideB HS2).swp hr2 ht2); clear hr2 ht2
        go_wp2_with fail
        refine ⟨⟨t + 1, _, by have := unhideB HI; congr 1; omega, by omega, unhideB HS3, Sort.permIn_trans _ _ _ _ _ (unhideB HP) (Sort.swp_permIn _ _ _ _ _ (by have := unhideB HL; have := unhideB HI; omega) (by have := unhideB HL; have := unhideB HI; omega) (by omega) (by omega) (by omega))⟩, by have := unhideB HI; simp [intOf]; omega⟩
      · have hOL' : ¬ ((L : Int) ≤ (O : Int)) := by omega
        go_wp2_with fail
        refine (swap_at (unhideB HS2).row i0 (a + O) _ _ rfl (by omega) (by have := unhideB HL; have := unhideB HI; omega) (by omega)).mono ?_
        rintro e w' ⟨rfl, hr2, ht2⟩
        have HS3 := hideB ((unhideB HS2).swp hr2 ht2); clear hr2 ht2
        go_wp2_with fail
        refine ⟨⟨t + 1, _, by have := unhideB HI; congr 1; omega, by omega, unhideB HS3, Sort.permIn_trans _ _ _ _ _ (unhideB HP) (Sort.swp_permIn _ _ _ _ _ (by have := unhideB HL; have := unhideB HI; omega) (by have := unhideB HL; have := unhideB HI; omega) (by omega) (by omega) (by omega))⟩, by have := unhideB HI; simp [intOf]; omega⟩
    · have hle : ¬ ((i0 : Int) ≤ (a : Int) + (l : Int) * 2 + 1) := by omega
      clear hl4 hi0
      go_wp2_with fail
      go_end0
      exact ⟨rfl, d', (unhideB HS).row, unhideB HP⟩
end Go.Proofs.Ybulkqhs
