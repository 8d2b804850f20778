import Derived.Test.YbulkqhsA2
namespace Go.Proofs.Ybulkqhs
open Go.RowKit
set_option linter.unusedVariables false

theorem below_drewN {B : Nat} {a w : World} (h : Below B a w) (n : Nat) : Below B a (w.drewN n) := ⟨h.os, h.tape, h.output, h.size, h.block⟩

attribute [local go_sem ↓] exec_store53 exec_load53
attribute [local go_sem] run_exStore53 run_exLoad53

/-- The steps, as the law reads them. -/
structure Step where
  s : Bool
  md : Int
  ids : Int
  fr : Int
  up : Int
  lo : Int
  hi : Int

set_option maxRecDepth 100000 in
set_option maxHeartbeats 1000000 in
theorem law_a (a : Option Addr) (len cap b off : Nat) (w : World) (z : Nat → Step) (hl : len ≤ 1024)
    (hA : ∀ i, i < len → a = some ⟨b, off, Option.none⟩ ∧ w.cell? ⟨b, off + i * 7, Option.none⟩ = some (.bool (z i).s) ∧ w.cell? ⟨b, off + i * 7 + 1, Option.none⟩ = some (.int .u8 (z i).md) ∧ w.cell? ⟨b, off + i * 7 + 2, Option.none⟩ = some (.int .u16 (z i).ids) ∧
      w.cell? ⟨b, off + i * 7 + 3, Option.none⟩ = some (.int .u64 (z i).fr) ∧ w.cell? ⟨b, off + i * 7 + 4, Option.none⟩ = some (.int .u64 (z i).up) ∧ w.cell? ⟨b, off + i * 7 + 5, Option.none⟩ = some (.int .i64 (z i).lo) ∧ w.cell? ⟨b, off + i * 7 + 6, Option.none⟩ = some (.int .i64 (z i).hi) ∧
      0 ≤ (z i).ids ∧ (z i).ids ≤ 65535 ∧ 0 ≤ (z i).md ∧ (z i).md ≤ 255) :
    Calls Yba.prog 3 #[.slice a len cap] w fun e w' => e = .returned (.bool true) ∧ Below w.heap.size w w' := by
  have HA := hide hA; clear hA
  obtain ⟨i0, hi, hz0, hz1, hz2⟩ := info_parts Yba.info5
  obtain ⟨N, hN⟩ : ∃ N : Nat, N = 1024 := ⟨_, rfl⟩
  have HN := hide hN; clear hN
  go_enter Yba.func3, Yba.ntmps3
  go_wp2_with (at_make; refine wpList_make_full _ rfl _ _ 28 rfl (w.heap.size + 1) 5 i0 (.int .u8 0) 1 Yba.underlying28 hi hz0 hz1 .i64 .i64 1024 1024 N rfl rfl (by rw [unhide HN]; rfl) (by rw [unhide HN]; rfl) (by rw [hz2, unhide HN]; decide) (by rw [unhide HN]; decide) (by simp) ?_; intro w1 hown hgrow; have HG := hide hgrow; clear hown hgrow)
  go_loopw [5, 6, 7, 31] (fun s5 s6 s7 s31 wr => ∃ (j n : Nat) (wt mr : Bool) (F U L H Th : Nat → Int), s31 = .int .i64 j ∧ s5 = .int .i64 n ∧ s6 = .bool wt ∧ s7 = .bool mr ∧ j ≤ len ∧ St w.heap.size w1.heap.size w wr n wt mr F U L H Th) (fun _ _ _ iv _ => len - (intOf iv).toNat)
  case atStart => exact ⟨0, 0, false, false, _, _, _, _, _, rfl, rfl, rfl, rfl, Nat.zero_le _, start w w1 (unhide HG)⟩
  case round =>
    obtain ⟨j, n, wt, mr, F, U, L, H, Th, rfl, rfl, rfl, rfl, hj, hS⟩ := hrel
    by_cases hlt : j < len
    · obtain ⟨rfl, e0, e1, e2, e3, e4, e5, e6, g0, g1, g2, g3⟩ := unhide HA j hlt
      have hbl : b < w.heap.size := World.block_lt_of_cell? w _ e0
      have q0 := (hS.below.cell (p := ⟨b, off + j * 7, Option.none⟩) hbl).trans e0
      have q1 := (hS.below.cell (p := ⟨b, off + j * 7 + 1, Option.none⟩) hbl).trans e1
      have q2 := (hS.below.cell (p := ⟨b, off + j * 7 + 2, Option.none⟩) hbl).trans e2
      have q3 := (hS.below.cell (p := ⟨b, off + j * 7 + 3, Option.none⟩) hbl).trans e3
      have q4 := (hS.below.cell (p := ⟨b, off + j * 7 + 4, Option.none⟩) hbl).trans e4
      have q5 := (hS.below.cell (p := ⟨b, off + j * 7 + 5, Option.none⟩) hbl).trans e5
      have q6 := (hS.below.cell (p := ⟨b, off + j * 7 + 6, Option.none⟩) hbl).trans e6
      clear e0 e1 e2 e3 e4 e5 e6
      have HS := hide hS; clear hS
      obtain ⟨st, hst⟩ : ∃ st, st = z j := ⟨_, rfl⟩
      rw [← hst] at q0 q1 q2 q3 q4 q5 q6 g0 g1 g2 g3
      clear hst
      obtain ⟨s, md, ids, fr, up, lo, hi⟩ := st
      simp only at q0 q1 q2 q3 q4 q5 q6 g0 g1 g2 g3
      obtain ⟨kk, hkk⟩ : ∃ kk : Nat, ids % 1025 = (kk : Int) := ⟨(ids % 1025).toNat, by omega⟩
      have hk : (kk : Int) ≤ N := by have := unhide HN; omega
      go_wp2_with fail
      go_region
      go_wp2_with fail
      have hBG : w.heap.size < w1.heap.size := by have := (unhide HG).size; simp at this; omega
      have hBr : w.heap.size ≤ wr.heap.size := (unhide HS).below.size
      have hGr : w1.heap.size + 4 < wr.heap.size := lt_at (unhide HS).mt
      have SW := hide ((((unhide HS).alloc hBr (.cells #[.bool s, .int .u8 md, .int .u16 ids, .int .u64 fr, .int .u64 up, .int .i64 lo, .int .i64 hi] 48)).alloc (by simp; omega) (.cells #[.int .u64 up, .slice Option.none 0 0, .int .u64 md, .int .u8 0, .int .u8 0, .int .u8 0, .int .u8 0, .int .u8 0, .int .u8 0, .int .u8 0, .int .u8 0, .int .u8 0, .int .u8 0, .int .u8 0, .int .u8 0, .int .u8 0, .int .u8 0, .int .u8 0, .int .u8 0, .slice (some ⟨w.heap.size + 1, 0, Option.none⟩) kk N] 53)).drew)
      clear q0 q1 q2 q3 q4 q5 q6 hkk g0 g1
      have hk1024 : kk ≤ 1024 := by have := unhide HN; omega
      cases s
      · cases wt
        · by_cases hn8 : n = 8
          · subst hn8
            refine (read_full w.heap.size (w.heap.size + 1) kk N fr up md lo hi _ mr F U L H Th (by exact (unhide SW).tail)).mono ?_
            rintro e w2 ⟨rfl, ht2, ho⟩
            have ST := hide ((unhide SW).same hBG ho false true (by intro h; cases h) ht2)
            have s0 : w2.cell? ⟨wr.heap.size, 0, Option.none⟩ = some (.bool false) := (ho.cell (by simp; omega) (by omega)).trans (by simp)
            clear ho ht2
            go_wp2_with fail
            go_roundw
            case rel => exact ⟨j + 1, 8, false, true, F, U, L, H, Th, by go_num, rfl, rfl, rfl, by omega, unhide ST⟩
            case measure => simp [intOf]; omega
          · have hn : n < 8 := by have := (unhide HS).n8; omega
            have hne : ((n : Int) == 8) = false := by rw [beq_eq_false_iff_ne]; omega
            cases hmd : (md != 2)
            · refine (read_open2 w.heap.size (w.heap.size + 1) kk N fr up md lo hi _ n hn hk1024 hmd mr F U L H Th (by exact (unhide SW).tail)).mono ?_
              rintro e w2 ⟨rfl, ht2, ho⟩
              have ST := hide ((unhide SW).opened hBG hn ho fr up lo hi ((kk : Int) / 32) ht2)
              have s0 : w2.cell? ⟨wr.heap.size, 0, Option.none⟩ = some (.bool false) := (ho.cell (by simp; omega) (by omega)).trans (by simp)
              have s1 : w2.cell? ⟨wr.heap.size, 1, Option.none⟩ = some (.int .u8 md) := (ho.cell (by simp; omega) (by omega)).trans (by simp)
              have s3 : w2.cell? ⟨wr.heap.size, 3, Option.none⟩ = some (.int .u64 fr) := (ho.cell (by simp; omega) (by omega)).trans (by simp)
              have s4 : w2.cell? ⟨wr.heap.size, 4, Option.none⟩ = some (.int .u64 up) := (ho.cell (by simp; omega) (by omega)).trans (by simp)
              have s5 : w2.cell? ⟨wr.heap.size, 5, Option.none⟩ = some (.int .i64 lo) := (ho.cell (by simp; omega) (by omega)).trans (by simp)
              have s6 : w2.cell? ⟨wr.heap.size, 6, Option.none⟩ = some (.int .i64 hi) := (ho.cell (by simp; omega) (by omega)).trans (by simp)
              have A_mf := (unhide SW).mf.only ho (by omega)
              have c_mf : w2.cell? ⟨w1.heap.size, n, Option.none⟩ = some (.int .u64 (F n)) := A_mf.cell n hn
              have f_mf : ∀ o, w2.frozen? ⟨w1.heap.size, o, Option.none⟩ = false := A_mf.free
              have A_mu := (unhide SW).mu.only ho (by omega)
              have c_mu : w2.cell? ⟨w1.heap.size + 1, n, Option.none⟩ = some (.int .u64 (U n)) := A_mu.cell n hn
              have f_mu : ∀ o, w2.frozen? ⟨w1.heap.size + 1, o, Option.none⟩ = false := A_mu.free
              have A_ml := (unhide SW).ml.only ho (by omega)
              have c_ml : w2.cell? ⟨w1.heap.size + 1 + 1, n, Option.none⟩ = some (.int .i64 (L n)) := A_ml.cell n hn
              have f_ml : ∀ o, w2.frozen? ⟨w1.heap.size + 1 + 1, o, Option.none⟩ = false := A_ml.free
              have A_mh := (unhide SW).mh.only ho (by omega)
              have c_mh : w2.cell? ⟨w1.heap.size + 1 + 1 + 1, n, Option.none⟩ = some (.int .i64 (H n)) := A_mh.cell n hn
              have f_mh : ∀ o, w2.frozen? ⟨w1.heap.size + 1 + 1 + 1, o, Option.none⟩ = false := A_mh.free
              have A_mt := (unhide SW).mt.only ho (by omega)
              have c_mt : w2.cell? ⟨w1.heap.size + 1 + 1 + 1 + 1, n, Option.none⟩ = some (.int .i64 (Th n)) := A_mt.cell n hn
              have f_mt : ∀ o, w2.frozen? ⟨w1.heap.size + 1 + 1 + 1 + 1, o, Option.none⟩ = false := A_mt.free
              clear A_mf A_mu A_ml A_mh A_mt
              clear ho ht2
              go_wp2_with fail
              go_roundw
              case rel => exact ⟨j + 1, n + 1, true, mr, _, _, _, _, _, by go_num, by go_num, rfl, rfl, by omega, unhide ST⟩
              case measure => simp [intOf]; omega
            · refine (read_open1 w.heap.size (w.heap.size + 1) kk N fr up md lo hi _ n hn hk1024 hmd mr F U L H Th (by exact (unhide SW).tail)).mono ?_
              rintro e w2 ⟨rfl, ht2, ho⟩
              have ST := hide ((unhide SW).opened hBG hn ho fr up lo hi (-1) ht2)
              have s0 : w2.cell? ⟨wr.heap.size, 0, Option.none⟩ = some (.bool false) := (ho.cell (by simp; omega) (by omega)).trans (by simp)
              have s1 : w2.cell? ⟨wr.heap.size, 1, Option.none⟩ = some (.int .u8 md) := (ho.cell (by simp; omega) (by omega)).trans (by simp)
              have s3 : w2.cell? ⟨wr.heap.size, 3, Option.none⟩ = some (.int .u64 fr) := (ho.cell (by simp; omega) (by omega)).trans (by simp)
              have s4 : w2.cell? ⟨wr.heap.size, 4, Option.none⟩ = some (.int .u64 up) := (ho.cell (by simp; omega) (by omega)).trans (by simp)
              have s5 : w2.cell? ⟨wr.heap.size, 5, Option.none⟩ = some (.int .i64 lo) := (ho.cell (by simp; omega) (by omega)).trans (by simp)
              have s6 : w2.cell? ⟨wr.heap.size, 6, Option.none⟩ = some (.int .i64 hi) := (ho.cell (by simp; omega) (by omega)).trans (by simp)
              have A_mf := (unhide SW).mf.only ho (by omega)
              have c_mf : w2.cell? ⟨w1.heap.size, n, Option.none⟩ = some (.int .u64 (F n)) := A_mf.cell n hn
              have f_mf : ∀ o, w2.frozen? ⟨w1.heap.size, o, Option.none⟩ = false := A_mf.free
              have A_mu := (unhide SW).mu.only ho (by omega)
              have c_mu : w2.cell? ⟨w1.heap.size + 1, n, Option.none⟩ = some (.int .u64 (U n)) := A_mu.cell n hn
              have f_mu : ∀ o, w2.frozen? ⟨w1.heap.size + 1, o, Option.none⟩ = false := A_mu.free
              have A_ml := (unhide SW).ml.only ho (by omega)
              have c_ml : w2.cell? ⟨w1.heap.size + 1 + 1, n, Option.none⟩ = some (.int .i64 (L n)) := A_ml.cell n hn
              have f_ml : ∀ o, w2.frozen? ⟨w1.heap.size + 1 + 1, o, Option.none⟩ = false := A_ml.free
              have A_mh := (unhide SW).mh.only ho (by omega)
              have c_mh : w2.cell? ⟨w1.heap.size + 1 + 1 + 1, n, Option.none⟩ = some (.int .i64 (H n)) := A_mh.cell n hn
              have f_mh : ∀ o, w2.frozen? ⟨w1.heap.size + 1 + 1 + 1, o, Option.none⟩ = false := A_mh.free
              have A_mt := (unhide SW).mt.only ho (by omega)
              have c_mt : w2.cell? ⟨w1.heap.size + 1 + 1 + 1 + 1, n, Option.none⟩ = some (.int .i64 (Th n)) := A_mt.cell n hn
              have f_mt : ∀ o, w2.frozen? ⟨w1.heap.size + 1 + 1 + 1 + 1, o, Option.none⟩ = false := A_mt.free
              clear A_mf A_mu A_ml A_mh A_mt
              clear ho ht2
              go_wp2_with fail
              go_roundw
              case rel => exact ⟨j + 1, n + 1, true, mr, _, _, _, _, _, by go_num, by go_num, rfl, rfl, by omega, unhide ST⟩
              case measure => simp [intOf]; omega
        · obtain ⟨m, rfl⟩ : ∃ m, n = m + 1 := ⟨n - 1, by have := (unhide HS).pos rfl; omega⟩
          have hm8 : m < 8 := by have := (unhide HS).n8; omega
          cases hmd : (md != 2)
          · by_cases hth : 0 ≤ Th m
            · refine (read_cont2 w.heap.size (w.heap.size + 1) kk N fr up md lo hi _ m hm8 hk1024 hmd mr F U L H Th hth (by exact (unhide SW).tail)).mono ?_
              rintro e w2 ⟨rfl, ht2, ho⟩
              have ST := hide ((unhide SW).goneOnTh hBG hm8 ho up hi (wrap64 (Th m + (kk : Int) / 32)) ht2)
              have s0 : w2.cell? ⟨wr.heap.size, 0, Option.none⟩ = some (.bool false) := (ho.cell (by simp; omega) (by omega)).trans (by simp)
              have s1 : w2.cell? ⟨wr.heap.size, 1, Option.none⟩ = some (.int .u8 md) := (ho.cell (by simp; omega) (by omega)).trans (by simp)
              have s3 : w2.cell? ⟨wr.heap.size, 3, Option.none⟩ = some (.int .u64 fr) := (ho.cell (by simp; omega) (by omega)).trans (by simp)
              have s4 : w2.cell? ⟨wr.heap.size, 4, Option.none⟩ = some (.int .u64 up) := (ho.cell (by simp; omega) (by omega)).trans (by simp)
              have s5 : w2.cell? ⟨wr.heap.size, 5, Option.none⟩ = some (.int .i64 lo) := (ho.cell (by simp; omega) (by omega)).trans (by simp)
              have s6 : w2.cell? ⟨wr.heap.size, 6, Option.none⟩ = some (.int .i64 hi) := (ho.cell (by simp; omega) (by omega)).trans (by simp)
              have A_mf := (unhide SW).mf.only ho (by omega)
              have c_mf : w2.cell? ⟨w1.heap.size, m, Option.none⟩ = some (.int .u64 (F m)) := A_mf.cell m hm8
              have f_mf : ∀ o, w2.frozen? ⟨w1.heap.size, o, Option.none⟩ = false := A_mf.free
              have A_mu := (unhide SW).mu.only ho (by omega)
              have c_mu : w2.cell? ⟨w1.heap.size + 1, m, Option.none⟩ = some (.int .u64 (U m)) := A_mu.cell m hm8
              have f_mu : ∀ o, w2.frozen? ⟨w1.heap.size + 1, o, Option.none⟩ = false := A_mu.free
              have A_ml := (unhide SW).ml.only ho (by omega)
              have c_ml : w2.cell? ⟨w1.heap.size + 1 + 1, m, Option.none⟩ = some (.int .i64 (L m)) := A_ml.cell m hm8
              have f_ml : ∀ o, w2.frozen? ⟨w1.heap.size + 1 + 1, o, Option.none⟩ = false := A_ml.free
              have A_mh := (unhide SW).mh.only ho (by omega)
              have c_mh : w2.cell? ⟨w1.heap.size + 1 + 1 + 1, m, Option.none⟩ = some (.int .i64 (H m)) := A_mh.cell m hm8
              have f_mh : ∀ o, w2.frozen? ⟨w1.heap.size + 1 + 1 + 1, o, Option.none⟩ = false := A_mh.free
              have A_mt := (unhide SW).mt.only ho (by omega)
              have c_mt : w2.cell? ⟨w1.heap.size + 1 + 1 + 1 + 1, m, Option.none⟩ = some (.int .i64 (Th m)) := A_mt.cell m hm8
              have f_mt : ∀ o, w2.frozen? ⟨w1.heap.size + 1 + 1 + 1 + 1, o, Option.none⟩ = false := A_mt.free
              clear A_mf A_mu A_ml A_mh A_mt
              clear ho ht2
              go_wp2_with fail
              go_roundw
              case rel => exact ⟨j + 1, m + 1, true, mr, _, _, _, _, _, by go_num, by go_num, rfl, rfl, by omega, unhide ST⟩
              case measure => simp [intOf]; omega
            · have hth' : Th m < 0 := by omega
              refine (read_cont3 w.heap.size (w.heap.size + 1) kk N fr up md lo hi _ m hm8 hk1024 hmd mr F U L H Th hth' (by exact (unhide SW).tail)).mono ?_
              rintro e w2 ⟨rfl, ht2, ho⟩
              have ST := hide ((unhide SW).goneOn hBG hm8 ho up hi Th ht2 ((unhide SW).mt.only ho (by omega)) (fun i h1 h2 => ((unhide SW).zero i h1 h2).2.2.2.2))
              have s0 : w2.cell? ⟨wr.heap.size, 0, Option.none⟩ = some (.bool false) := (ho.cell (by simp; omega) (by omega)).trans (by simp)
              have s1 : w2.cell? ⟨wr.heap.size, 1, Option.none⟩ = some (.int .u8 md) := (ho.cell (by simp; omega) (by omega)).trans (by simp)
              have s3 : w2.cell? ⟨wr.heap.size, 3, Option.none⟩ = some (.int .u64 fr) := (ho.cell (by simp; omega) (by omega)).trans (by simp)
              have s4 : w2.cell? ⟨wr.heap.size, 4, Option.none⟩ = some (.int .u64 up) := (ho.cell (by simp; omega) (by omega)).trans (by simp)
              have s5 : w2.cell? ⟨wr.heap.size, 5, Option.none⟩ = some (.int .i64 lo) := (ho.cell (by simp; omega) (by omega)).trans (by simp)
              have s6 : w2.cell? ⟨wr.heap.size, 6, Option.none⟩ = some (.int .i64 hi) := (ho.cell (by simp; omega) (by omega)).trans (by simp)
              have A_mf := (unhide SW).mf.only ho (by omega)
              have c_mf : w2.cell? ⟨w1.heap.size, m, Option.none⟩ = some (.int .u64 (F m)) := A_mf.cell m hm8
              have f_mf : ∀ o, w2.frozen? ⟨w1.heap.size, o, Option.none⟩ = false := A_mf.free
              have A_mu := (unhide SW).mu.only ho (by omega)
              have c_mu : w2.cell? ⟨w1.heap.size + 1, m, Option.none⟩ = some (.int .u64 (U m)) := A_mu.cell m hm8
              have f_mu : ∀ o, w2.frozen? ⟨w1.heap.size + 1, o, Option.none⟩ = false := A_mu.free
              have A_ml := (unhide SW).ml.only ho (by omega)
              have c_ml : w2.cell? ⟨w1.heap.size + 1 + 1, m, Option.none⟩ = some (.int .i64 (L m)) := A_ml.cell m hm8
              have f_ml : ∀ o, w2.frozen? ⟨w1.heap.size + 1 + 1, o, Option.none⟩ = false := A_ml.free
              have A_mh := (unhide SW).mh.only ho (by omega)
              have c_mh : w2.cell? ⟨w1.heap.size + 1 + 1 + 1, m, Option.none⟩ = some (.int .i64 (H m)) := A_mh.cell m hm8
              have f_mh : ∀ o, w2.frozen? ⟨w1.heap.size + 1 + 1 + 1, o, Option.none⟩ = false := A_mh.free
              have A_mt := (unhide SW).mt.only ho (by omega)
              have c_mt : w2.cell? ⟨w1.heap.size + 1 + 1 + 1 + 1, m, Option.none⟩ = some (.int .i64 (Th m)) := A_mt.cell m hm8
              have f_mt : ∀ o, w2.frozen? ⟨w1.heap.size + 1 + 1 + 1 + 1, o, Option.none⟩ = false := A_mt.free
              clear A_mf A_mu A_ml A_mh A_mt
              clear ho ht2
              go_wp2_with fail
              go_roundw
              case rel => exact ⟨j + 1, m + 1, true, mr, _, _, _, _, _, by go_num, by go_num, rfl, rfl, by omega, unhide ST⟩
              case measure => simp [intOf]; omega
          · refine (read_cont1 w.heap.size (w.heap.size + 1) kk N fr up md lo hi _ m hm8 hk1024 hmd mr F U L H Th (by exact (unhide SW).tail)).mono ?_
            rintro e w2 ⟨rfl, ht2, ho⟩
            have ST := hide ((unhide SW).goneOnTh hBG hm8 ho up hi (-1) ht2)
            have s0 : w2.cell? ⟨wr.heap.size, 0, Option.none⟩ = some (.bool false) := (ho.cell (by simp; omega) (by omega)).trans (by simp)
            have s1 : w2.cell? ⟨wr.heap.size, 1, Option.none⟩ = some (.int .u8 md) := (ho.cell (by simp; omega) (by omega)).trans (by simp)
            have s3 : w2.cell? ⟨wr.heap.size, 3, Option.none⟩ = some (.int .u64 fr) := (ho.cell (by simp; omega) (by omega)).trans (by simp)
            have s4 : w2.cell? ⟨wr.heap.size, 4, Option.none⟩ = some (.int .u64 up) := (ho.cell (by simp; omega) (by omega)).trans (by simp)
            have s5 : w2.cell? ⟨wr.heap.size, 5, Option.none⟩ = some (.int .i64 lo) := (ho.cell (by simp; omega) (by omega)).trans (by simp)
            have s6 : w2.cell? ⟨wr.heap.size, 6, Option.none⟩ = some (.int .i64 hi) := (ho.cell (by simp; omega) (by omega)).trans (by simp)
            have A_mf := (unhide SW).mf.only ho (by omega)
            have c_mf : w2.cell? ⟨w1.heap.size, m, Option.none⟩ = some (.int .u64 (F m)) := A_mf.cell m hm8
            have f_mf : ∀ o, w2.frozen? ⟨w1.heap.size, o, Option.none⟩ = false := A_mf.free
            have A_mu := (unhide SW).mu.only ho (by omega)
            have c_mu : w2.cell? ⟨w1.heap.size + 1, m, Option.none⟩ = some (.int .u64 (U m)) := A_mu.cell m hm8
            have f_mu : ∀ o, w2.frozen? ⟨w1.heap.size + 1, o, Option.none⟩ = false := A_mu.free
            have A_ml := (unhide SW).ml.only ho (by omega)
            have c_ml : w2.cell? ⟨w1.heap.size + 1 + 1, m, Option.none⟩ = some (.int .i64 (L m)) := A_ml.cell m hm8
            have f_ml : ∀ o, w2.frozen? ⟨w1.heap.size + 1 + 1, o, Option.none⟩ = false := A_ml.free
            have A_mh := (unhide SW).mh.only ho (by omega)
            have c_mh : w2.cell? ⟨w1.heap.size + 1 + 1 + 1, m, Option.none⟩ = some (.int .i64 (H m)) := A_mh.cell m hm8
            have f_mh : ∀ o, w2.frozen? ⟨w1.heap.size + 1 + 1 + 1, o, Option.none⟩ = false := A_mh.free
            have A_mt := (unhide SW).mt.only ho (by omega)
            have c_mt : w2.cell? ⟨w1.heap.size + 1 + 1 + 1 + 1, m, Option.none⟩ = some (.int .i64 (Th m)) := A_mt.cell m hm8
            have f_mt : ∀ o, w2.frozen? ⟨w1.heap.size + 1 + 1 + 1 + 1, o, Option.none⟩ = false := A_mt.free
            clear A_mf A_mu A_ml A_mh A_mt
            clear ho ht2
            go_wp2_with fail
            go_roundw
            case rel => exact ⟨j + 1, m + 1, true, mr, _, _, _, _, _, by go_num, by go_num, rfl, rfl, by omega, unhide ST⟩
            case measure => simp [intOf]; omega
      · refine (read_settled w.heap.size (w.heap.size + 1) kk N fr up md lo hi _ n wt mr F U L H Th (by exact (unhide SW).tail)).mono ?_
        rintro e w2 ⟨rfl, ht2, ho⟩
        have ST := hide ((unhide SW).same hBG ho false mr (by intro h; cases h) ht2)
        have s0 : w2.cell? ⟨wr.heap.size, 0, Option.none⟩ = some (.bool true) := (ho.cell (by simp; omega) (by omega)).trans (by simp)
        clear ho ht2
        go_wp2_with fail
        go_roundw
        case rel => exact ⟨j + 1, n, false, mr, F, U, L, H, Th, by go_num, rfl, rfl, rfl, by omega, unhide ST⟩
        case measure => simp [intOf]; omega
    · obtain rfl : len = j := by omega
      obtain ⟨W0, rfl⟩ : ∃ W0, W0 = wr := ⟨_, rfl⟩
      obtain ⟨c153, c154, c155⟩ := hS.tail.marks
      have hn8 := hS.n8
      have HS := hide hS; clear hS
      go_wp2_with fail
      clear c153 c154 c155
      go_loopw [21] (fun iv wr2 => ∃ i : Nat, iv = .int .i64 i ∧ i ≤ n ∧ Below W0.heap.size W0 wr2) (fun iv _ => n - (intOf iv).toNat)
      case atStart => exact ⟨0, rfl, Nat.zero_le _, Below.refl _ _⟩
      case round =>
        obtain ⟨i, rfl, hi, hB2⟩ := hrel
        have hS3 := (unhide HS).later hB2
        by_cases hlti : i < n
        · have hi8 : i < 8 := by omega
          have hBs : w.heap.size < wr.heap.size := hS3.tail.lt
          have hGs : w1.heap.size + 4 < wr.heap.size := lt_at hS3.mt
          have hB3 := hB2.size
          obtain ⟨d0, d1, d2, d3, d4, d5, d6, d7⟩ := hS3.tail.cells i hi8
          have c_mf : wr.cell? ⟨w1.heap.size, i, Option.none⟩ = some (.int .u64 (F i)) := hS3.mf.cell i hi8
          have c_mu : wr.cell? ⟨w1.heap.size + 1, i, Option.none⟩ = some (.int .u64 (U i)) := hS3.mu.cell i hi8
          have c_ml : wr.cell? ⟨w1.heap.size + 1 + 1, i, Option.none⟩ = some (.int .i64 (L i)) := hS3.ml.cell i hi8
          have c_mh : wr.cell? ⟨w1.heap.size + 1 + 1 + 1, i, Option.none⟩ = some (.int .i64 (H i)) := hS3.mh.cell i hi8
          have c_mt : wr.cell? ⟨w1.heap.size + 1 + 1 + 1 + 1, i, Option.none⟩ = some (.int .i64 (Th i)) := hS3.mt.cell i hi8
          have g0 : w1.heap.size < wr.heap.size := by omega
          have g1 : w1.heap.size + 1 < wr.heap.size := by omega
          have g2 : w1.heap.size + 1 + 1 < wr.heap.size := by omega
          have g3 : w1.heap.size + 1 + 1 + 1 < wr.heap.size := by omega
          have HB2 := hide hB2; clear hB2 hS3
          go_wp2_with fail
          go_quiet (fail)
          go_wp2_with fail
          go_quiet (fail)
          go_wp2_with fail
          go_roundw
          case rel => exact ⟨i + 1, by go_num, by omega, below_drewN ((unhide HB2).alloc (unhide HB2).size _) _⟩
          case measure => simp [intOf]; omega
        · obtain rfl : n = i := by omega
          obtain ⟨W1, rfl⟩ : ∃ W1, W1 = wr := ⟨_, rfl⟩
          have HB2 := hide hB2; clear hB2 hS3 hlti hi
          go_wp2_with fail
          go_loopw [23] (fun iv wr3 => ∃ i : Nat, iv = .int .i64 i ∧ n ≤ i ∧ i ≤ 8 ∧ Below W0.heap.size W0 wr3) (fun iv _ => 8 - (intOf iv).toNat)
          case atStart => exact ⟨n, rfl, Nat.le_refl _, hn8, unhide HB2⟩
          case round =>
            obtain ⟨i, rfl, hi1, hi2, hB3⟩ := hrel
            have hS3 := (unhide HS).later hB3
            by_cases hi8 : i < 8
            · obtain ⟨z1, z2, z3, z4, z5⟩ := hS3.zero i hi1 hi8
              obtain ⟨d0, d1, d2, d3, d4, d5, d6, d7⟩ := hS3.tail.cells i hi8
              rw [z1] at d0
              rw [z2] at d2
              rw [z3] at d5
              rw [z4] at d6
              rw [z5] at d7
              clear z1 z2 z3 z4 z5
              have hBs : w.heap.size < wr.heap.size := hS3.tail.lt
              have HB3 := hide hB3; clear hB3 hS3
              go_wp2_with fail
              go_roundw
              case rel => exact ⟨i + 1, by go_num, by omega, by omega, (unhide HB3).alloc (unhide HB3).size _⟩
              case measure => simp [intOf]; omega
            · have hfin := hide (hS3.below)
              clear hB3 hS3
              go_wp2_with fail
              go_ret
              exact ⟨rfl, unhide hfin⟩
end Go.Proofs.Ybulkqhs
