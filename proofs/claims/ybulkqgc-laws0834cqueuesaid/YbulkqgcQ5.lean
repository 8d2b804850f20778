import Derived.Test.YbulkqgcQ6
import Derived.Deep.RegionHeld3
namespace Go.Proofs.Ybulkqgc
open Go.RowKit
set_option linter.unusedVariables false

def sq (seq : Int) (k : Nat) : Int := (seq + k) % 18446744073709551616
def evs (now seq : Int) (z : Nat → Int) (k : Nat) : List Ev := (List.range k).map fun i => evOf (wrap64 (now + z i)) (sq seq (i + 1)) i

theorem u64_wrap' (x : Int) : IntKind.u64.wrap x = x % 18446744073709551616 := by
  simp [IntKind.wrap, IntKind.bits, IntKind.signed]
theorem sq_succ (seq : Int) (k : Nat) : IntKind.u64.wrap (sq seq k + 1) = sq seq (k + 1) := by
  rw [u64_wrap']; unfold sq; omega
theorem sq_zero (seq : Int) (h0 : 0 ≤ seq) (h1 : seq < 18446744073709551616) : sq seq 0 = seq := by
  unfold sq; omega
theorem evs_succ (now seq : Int) (z : Nat → Int) (k : Nat) : evs now seq z (k + 1) = evs now seq z k ++ [evOf (wrap64 (now + z k)) (sq seq (k + 1)) k] := by
  unfold evs; rw [List.range_succ, List.map_append]; rfl
theorem evs_len (now seq : Int) (z : Nat → Int) (k : Nat) : (evs now seq z k).length = k := by simp [evs]

/-- What holds after k events have been queued. -/
def Queued (B : Nat) (w : World) (now seq : Int) (z : Nat → Int) (k : Nat) (wr : World) : Prop :=
  ∃ v es cur, Net B wr now (sq seq k) v es cur ∧ es.Perm (evs now seq z k) ∧ HeapOK es ∧ Below B w wr

theorem queued_start (w : World) (now seq : Int) (z : Nat → Int) (cur : Array Value) (h0 : 0 ≤ seq) (h1 : seq < 18446744073709551616) (hs : cur.size = 44) (h17 : cur[17]? = some (.int .i64 now)) (h18 : cur[18]? = some (.slice Option.none 0 0)) (h19 : cur[19]? = some (.int .u64 seq)) :
    Queued w.heap.size w now seq z 0 (w.alloc (.cells cur 90)) := by
  refine ⟨.slice Option.none 0 0, [], cur, ⟨heap_alloc_new w _, hs, h17, h18, ?_, World.ownsRow_nil _ _ _ _⟩, List.Perm.refl _, fun k h0 hk => by simp at hk, (Below.refl _ _).alloc (Nat.le_refl _) _⟩
  rw [sq_zero seq h0 h1]; exact h19

/-- One call of schedule. -/
theorem queued_step (B : Nat) (w : World) (now seq : Int) (z : Nat → Int) (k : Nat) (wr : World) (h : Queued B w now seq z k wr) (hk : k < 2000) :
    Calls Yba.prog 16 #[.pointer (some ⟨B, 0, Option.none⟩), .int .i64 (z k), .agg #[.int .i64 0, .int .u64 0, .int .i64 k, .int .i64 (-1), .pointer Option.none, .int .u64 0, .int .u32 0, .nilFunc]] wr fun ee w' =>
      ee = .returned (.tuple #[]) ∧ Queued B w now seq z (k + 1) w' := by
  obtain ⟨v, es, cur, hnet, hp, hh, hb⟩ := h
  refine (sched_any B now (sq seq k) (z k) k v es cur wr hnet (by rw [hp.length_eq, evs_len]; exact hk) hh).mono ?_
  rintro ee w' ⟨rfl, v', es', cur', hn, hp', hh', hb'⟩
  rw [sq_succ] at hn hp'
  refine ⟨rfl, v', es', cur', hn, ?_, hh', hb.trans hb'⟩
  rw [evs_succ]
  exact hp'.trans (hp.append_right _)

/-- What the rest of the law reads: the network and its queue lie in W below S. -/
structure Done (B S : Nat) (W : World) (now seq : Int) (z : Nat → Int) (len : Nat) (p : Option Addr) (cap : Nat) (es : List Ev) : Prop where
  lt : B < S
  c17 : W.cell? ⟨B, 17, Option.none⟩ = some (.int .i64 now)
  c18 : W.cell? ⟨B, 18, Option.none⟩ = some (.slice p len cap)
  c19 : W.cell? ⟨B, 19, Option.none⟩ = some (.int .u64 (IntKind.u64.wrap (seq + len)))
  elen : es.length = len
  ev : ∀ i, i < len → ∃ g, g < S ∧ p = some ⟨g, 0, Option.none⟩ ∧ Queue W g cap es
  perm : es.Perm (evs now seq z len)
  heap : HeapOK es

theorem Queued.done {B : Nat} {w : World} {now seq : Int} {z : Nat → Int} {len : Nat} {wr : World} (h : Queued B w now seq z len wr) : Below B w wr ∧ ∃ p cap es, Done B wr.heap.size wr now seq z len p cap es := by
  obtain ⟨v, es, cur, ⟨hblk, hsz, h17, h18, h19, hrow⟩, hp, hh, hb⟩ := h
  have hl : es.length = len := by rw [hp.length_eq, evs_len]
  refine ⟨hb, ?_⟩
  have h19' : wr.cell? ⟨B, 19, Option.none⟩ = some (.int .u64 (IntKind.u64.wrap (seq + len))) := by
    rw [cell_at hblk h19, u64_wrap']; rfl
  rcases hrow.2 with ⟨hv, hn⟩ | ⟨g, cap, c, hv, hbg, hg, r1, r2, r3, r4⟩
  · subst hv
    have : len = 0 := by omega
    subst this
    exact ⟨Option.none, 0, es, lt_at hblk, cell_at hblk h17, cell_at hblk h18, h19', hl, fun i hi => by omega, hp, hh⟩
  · subst hv
    rw [hl] at h18
    refine ⟨some ⟨g, 0, Option.none⟩, cap, es, lt_at hblk, cell_at hblk h17, cell_at hblk h18, h19', hl, fun i hi => ⟨g, lt_at hg, rfl, ?_⟩, hp, hh⟩
    exact ⟨c, hg, r1, r2, r3, (fits_iff c es).2 r4⟩

theorem Done.later {B S : Nat} {W W' : World} {now seq : Int} {z : Nat → Int} {len : Nat} {p : Option Addr} {cap : Nat} {es : List Ev} (h : Done B S W now seq z len p cap es) (hb : Below S W W') : Done B S W' now seq z len p cap es :=
  ⟨h.lt, (hb.cell (p := ⟨B, 17, Option.none⟩) h.lt).trans h.c17, (hb.cell (p := ⟨B, 18, Option.none⟩) h.lt).trans h.c18, (hb.cell (p := ⟨B, 19, Option.none⟩) h.lt).trans h.c19, h.elen, fun i hi => by
    obtain ⟨g, hg, hp, hq⟩ := h.ev i hi
    exact ⟨g, hg, hp, hq.of_block (hb.block g hg)⟩, h.perm, h.heap⟩

/-! ### The counts. -/
def cnt (es : List Ev) (wt : Int) (i : Nat) : Nat := (es.take i).countP fun e => e.seq == wt

theorem cnt_zero (es : List Ev) (wt : Int) : cnt es wt 0 = 0 := by simp [cnt]
theorem cnt_le (es : List Ev) (wt : Int) (i : Nat) : cnt es wt i ≤ i := by
  unfold cnt
  exact Nat.le_trans List.countP_le_length (by rw [List.length_take]; omega)
theorem cnt_succ (es : List Ev) (wt : Int) (i : Nat) (h : i < es.length) : cnt es wt (i + 1) = cnt es wt i + if ((nth es i).seq == wt) = true then 1 else 0 := by
  unfold cnt
  rw [List.take_succ_eq_append_getElem h, List.countP_append, nth_eq es i h]
  simp [List.countP_cons]
theorem cnt_hit (es : List Ev) (wt : Int) (i : Nat) (h : i < es.length) (hb : ((nth es i).seq == wt) = true) : cnt es wt (i + 1) = cnt es wt i + 1 := by
  rw [cnt_succ es wt i h, if_pos hb]
theorem cnt_miss (es : List Ev) (wt : Int) (i : Nat) (h : i < es.length) (hb : ((nth es i).seq == wt) = false) : cnt es wt (i + 1) = cnt es wt i := by
  rw [cnt_succ es wt i h, if_neg (by rw [hb]; decide)]; rfl

theorem sq_inj (seq : Int) (i j : Nat) (hi : i < 4096) (hj : j < 4096) (h : sq seq i = sq seq j) : i = j := by
  unfold sq at h; omega

theorem wrap_want (seq : Int) (j : Nat) : IntKind.u64.wrap (IntKind.u64.wrap (seq + j) + 1) = sq seq (j + 1) := by
  rw [u64_wrap', u64_wrap']; unfold sq; omega

/-- The number of the j-th event is found once, and there are its time and its addressee. -/
theorem count_range (p : Nat → Bool) (j : Nat) (hp : ∀ i, p i = decide (i = j)) : ∀ n, (List.range n).countP p = if j < n then 1 else 0
  | 0 => by simp
  | n + 1 => by
    rw [List.range_succ, List.countP_append, count_range p j hp n]
    simp only [List.countP_cons, List.countP_nil, hp, decide_eq_true_eq]
    split <;> split <;> split <;> omega

theorem cnt_all {now seq : Int} {z : Nat → Int} {len : Nat} {es : List Ev} (hp : es.Perm (evs now seq z len)) (hl : len ≤ 1024) (j : Nat) (hj : j < len) : cnt es (sq seq (j + 1)) len = 1 := by
  have h1 : es.length = len := by rw [hp.length_eq, evs_len]
  unfold cnt
  rw [List.take_of_length_le (by omega), hp.countP_eq]
  unfold evs
  rw [List.countP_map]
  have h2 : (List.range len).countP (fun i => ((fun e : Ev => e.seq == sq seq (j + 1)) ∘ fun i : Nat => evOf (wrap64 (now + z i)) (sq seq (i + 1)) i) i) = (List.range len).countP (fun i => decide (i = j)) := by
    apply List.countP_congr
    intro i hi
    rw [List.mem_range] at hi
    simp only [Function.comp, evOf, beq_iff_eq, decide_eq_true_eq]
    constructor
    · intro h; have := sq_inj seq (i+1) (j+1) (by omega) (by omega) h; omega
    · intro h; rw [h]
  rw [show (List.countP ((fun e : Ev => e.seq == sq seq (j + 1)) ∘ fun i : Nat => evOf (wrap64 (now + z i)) (sq seq (i + 1)) i) (List.range len)) = _ from h2, count_range _ j (fun i => rfl) len, if_pos hj]

theorem hit_fields {now seq : Int} {z : Nat → Int} {len : Nat} {es : List Ev} (hp : es.Perm (evs now seq z len)) (hl : len ≤ 1024) (j i : Nat) (hj : j < len) (hi : i < es.length) (h : ((nth es i).seq == sq seq (j + 1)) = true) :
    (nth es i).at_ = wrap64 (now + z j) ∧ (nth es i).to_ = j := by
  have hm : nth es i ∈ evs now seq z len := by
    rw [← nth_eq es i hi]; exact hp.mem_iff.1 (List.getElem_mem hi)
  unfold evs at hm
  rw [List.mem_map] at hm
  obtain ⟨m, hm1, hm2⟩ := hm
  rw [List.mem_range] at hm1
  rw [← hm2] at h ⊢
  simp only [evOf, beq_iff_eq] at h ⊢
  have := sq_inj seq (m+1) (j+1) (by omega) (by omega) h
  obtain rfl : m = j := by omega
  exact ⟨rfl, rfl⟩

theorem Queue.cells8 {w : World} {g cap : Nat} {es : List Ev} (h : Queue w g cap es) (i : Nat) (hi : i < es.length) :
    w.cell? ⟨g, i * 8, Option.none⟩ = some (.int .i64 (nth es i).at_) ∧ w.cell? ⟨g, i * 8 + 1, Option.none⟩ = some (.int .u64 (nth es i).seq) ∧ w.cell? ⟨g, i * 8 + 2, Option.none⟩ = some (.int .i64 (nth es i).to_) ∧
    w.cell? ⟨g, i * 8 + 3, Option.none⟩ = some (.int .i64 (-1)) ∧ w.cell? ⟨g, i * 8 + 4, Option.none⟩ = some (.pointer Option.none) ∧ w.cell? ⟨g, i * 8 + 5, Option.none⟩ = some (.int .u64 0) ∧
    w.cell? ⟨g, i * 8 + 6, Option.none⟩ = some (.int .u32 0) ∧ w.cell? ⟨g, i * 8 + 7, Option.none⟩ = some .nilFunc := by
  rw [← nth_eq es i hi]
  exact ⟨h.cell i 0 (by omega) hi, h.cell i 1 (by omega) hi, h.cell i 2 (by omega) hi, h.cell i 3 (by omega) hi, h.cell i 4 (by omega) hi, h.cell i 5 (by omega) hi, h.cell i 6 (by omega) hi, h.cell i 7 (by omega) hi⟩

theorem i64_id (x : Int) (h0 : 0 ≤ x) (h1 : x ≤ 100000) : IntKind.i64.wrap x = x := by
  simp [IntKind.wrap, IntKind.bits, IntKind.signed]; omega
theorem idx (m len : Nat) (h : m + 1 < len) (hl : len ≤ 1024) : 0 ≤ (m : Int) + 1 ∧ ((m : Int) / 2).toNat = m / 2 ∧ IntKind.i64.wrap ((IntKind.i64.wrap (m : Int)).tdiv 2) = (m : Int) / 2 ∧
    (m : Int) / 2 < len ∧ 0 ≤ (m : Int) / 2 ∧ (m : Int) + 1 < len := by
  refine ⟨by omega, by omega, ?_, by omega, by omega, by omega⟩
  rw [i64_id (m : Int) (by omega) (by omega), Int.tdiv_eq_ediv_of_nonneg (by omega), i64_id _ (by omega) (by omega)]

set_option maxRecDepth 100000 in
set_option maxHeartbeats 2000000 in
theorem queue_law (now seq : Int) (a : Option Addr) (len cap b off : Nat) (z : Nat → Int) (w : World) (h0 : 0 ≤ seq) (h1 : seq < 18446744073709551616) (hl : len ≤ 1024)
    (hA : ∀ i, i < len → a = some ⟨b, off, Option.none⟩ ∧ w.cell? ⟨b, off + i, Option.none⟩ = some (.int .i64 (z i))) :
    Calls Yba.prog 8 #[.int .i64 now, .int .u64 seq, .slice a len cap] w fun e w' => e = .returned (.bool true) ∧ Below w.heap.size w w' := by
  have HA := hide hA; clear hA
  go_enter Yba.func8, Yba.ntmps8
  go_wp2_with fail
  go_loopw [26] (fun iv wr => ∃ k : Nat, iv = .int .i64 k ∧ k ≤ len ∧ Queued w.heap.size w now seq z k wr) (fun iv _ => len - (intOf iv).toNat)
  case atStart => exact ⟨0, rfl, Nat.zero_le _, queued_start w now seq z _ h0 h1 rfl rfl rfl rfl⟩
  case round =>
    obtain ⟨k, rfl, hk, hQ⟩ := hrel
    have HQ := hide hQ; clear hQ
    by_cases hlt : k < len
    · obtain ⟨rfl, hcell⟩ := unhide HA k hlt
      have hbl : b < w.heap.size := World.block_lt_of_cell? w _ hcell
      have hck : wr.cell? ⟨b, off + k, Option.none⟩ = some (.int .i64 (z k)) := by
        obtain ⟨v, es, cur, hn, hp, hh, hb⟩ := unhide HQ
        exact (hb.cell (p := ⟨b, off + k, Option.none⟩) hbl).trans hcell
      clear hcell
      go_wp2_with fail
      refine (queued_step w.heap.size w now seq z k wr (unhide HQ) (by omega)).mono ?_
      rintro ee w' ⟨rfl, hQ'⟩
      have HQ' := hide hQ'; clear hQ'
      go_wp2_with fail
      go_roundw
      case rel => exact ⟨k + 1, by go_num, by omega, unhide HQ'⟩
      case measure => simp [intOf]; omega
    · obtain rfl : len = k := by omega
      obtain ⟨hb0, p, qc, es, hD⟩ := (unhide HQ).done
      have HB0 := hide hb0; have HD := hide hD
      have c17 := hD.c17; have c18 := hD.c18; have c19 := hD.c19
      clear hb0 hD HQ hlt hk
      obtain ⟨W0, rfl⟩ : ∃ W0, W0 = wr := ⟨_, rfl⟩
      go_wp2_with fail
      clear c17 c18 c19
      go_loopw [67] (fun iv wr2 => ∃ j : Nat, iv = .int .i64 j ∧ j ≤ len ∧ Below W0.heap.size W0 wr2) (fun iv _ => len - (intOf iv).toNat)
      case atStart => exact ⟨0, rfl, Nat.zero_le _, Below.refl _ _⟩
      case round =>
        obtain ⟨j, rfl, hj, hB2⟩ := hrel
        have HB2 := hide hB2; clear hB2
        by_cases hlt : j < len
        · obtain ⟨rfl, hcell⟩ := unhide HA j hlt
          have hbl : b < w.heap.size := World.block_lt_of_cell? w _ hcell
          have hck : wr.cell? ⟨b, off + j, Option.none⟩ = some (.int .i64 (z j)) := by
            have h1 := (unhide HB0).cell (p := ⟨b, off + j, Option.none⟩) hbl
            have h2 := (unhide HB2).cell (p := ⟨b, off + j, Option.none⟩) (Nat.lt_of_lt_of_le hbl (unhide HB0).size)
            exact h2.trans (h1.trans hcell)
          have hwant := wrap_want seq j
          clear hcell
          obtain ⟨W1, rfl⟩ : ∃ W1, W1 = wr := ⟨_, rfl⟩
          go_wp2_with fail
          clear hwant hck
          go_loopw [13, 14] (fun cv iv wr3 => ∃ i : Nat, iv = .int .i64 i ∧ cv = .int .i64 (cnt es (sq seq (j + 1)) i : Nat) ∧ i ≤ len ∧ Below W0.heap.size W0 wr3) (fun _ iv _ => len - (intOf iv).toNat)
          case atStart => exact ⟨0, rfl, by rw [cnt_zero]; rfl, Nat.zero_le _, unhide HB2⟩
          case round =>
            obtain ⟨i, rfl, rfl, hi, hB3⟩ := hrel
            have hD3 := (unhide HD).later hB3
            have c18 := hD3.c18
            have HB3 := hide hB3; have HD3 := hide hD3; clear hB3 hD3
            by_cases hlti : i < len
            · obtain ⟨g, hg, rfl, hq⟩ := (unhide HD3).ev i hlti
              have hil : i < es.length := by rw [(unhide HD3).elen]; exact hlti
              obtain ⟨q0, q1, q2, q3, q4, q5, q6, q7⟩ := hq.cells8 i hil
              clear hq
              have hcl := cnt_le es (sq seq (j + 1)) i
              cases hb : ((nth es i).seq == sq seq (j + 1))
              · have HM := hide (cnt_miss es _ i hil hb)
                go_wp2_with fail
                go_roundw
                case rel => exact ⟨i + 1, by go_num, by rw [unhide HM], by omega, (unhide HB3).alloc (unhide HB3).size _⟩
                case measure => simp [intOf]; omega
              · have HM := hide (cnt_hit es _ i hil hb)
                obtain ⟨e1, e2⟩ := hit_fields (unhide HD3).perm hl j i hlt hil hb
                rw [e1] at q0
                rw [e2] at q2
                clear e1 e2
                have hnf := run_neq_nilFunc
                go_wp2_with fail
                go_roundw
                case rel => exact ⟨i + 1, by go_num, by rw [unhide HM]; go_num, by omega, (unhide HB3).alloc (unhide HB3).size _⟩
                case measure => simp [intOf]; omega
            · obtain rfl : len = i := by omega
              have hc1 : (((cnt es (sq seq (j + 1)) len : Nat) : Int) != 1) = false := by
                rw [cnt_all (unhide HD3).perm hl j hlt]; rfl
              go_wp2_with fail
              go_roundw
              case rel => exact ⟨j + 1, by go_num, by omega, unhide HB3⟩
              case measure => simp [intOf]; omega
        · obtain rfl : len = j := by omega
          obtain ⟨W1, rfl⟩ : ∃ W1, W1 = wr := ⟨_, rfl⟩
          clear hlt hj
          go_wp2_with fail
          go_loopw [16] (fun iv wr3 => ∃ i : Nat, iv = .int .i64 i ∧ 1 ≤ i ∧ (i ≤ len ∨ i = 1) ∧ Below W0.heap.size W0 wr3) (fun iv _ => len - (intOf iv).toNat)
          case atStart => exact ⟨1, rfl, Nat.le_refl _, Or.inr rfl, unhide HB2⟩
          case round =>
            obtain ⟨i, rfl, hi1, hi2, hB3⟩ := hrel
            have hD3 := (unhide HD).later hB3
            have c18 := hD3.c18
            have HB3 := hide hB3; have HD3 := hide hD3; clear hB3 hD3
            by_cases hlti : i < len
            · obtain ⟨m, rfl⟩ : ∃ m, i = m + 1 := ⟨i - 1, by omega⟩
              obtain ⟨g, hg, rfl, hq⟩ := (unhide HD3).ev (m + 1) hlti
              have hil : m + 1 < es.length := by rw [(unhide HD3).elen]; exact hlti
              obtain ⟨q0, q1, q2, q3, q4, q5, q6, q7⟩ := hq.cells8 (m + 1) hil
              obtain ⟨r0, r1, r2, r3, r4, r5, r6, r7⟩ := hq.cells8 (m / 2) (by omega)
              have hless : lessB (nth es (m + 1)) (nth es (m / 2)) = false := (unhide HD3).heap (m + 1) (by omega) hil
              clear hq
              have hgs : g < wr.heap.size := Nat.lt_of_lt_of_le hg (unhide HB3).size
              have hBs : w.heap.size < wr.heap.size := Nat.lt_of_lt_of_le (unhide HD3).lt (unhide HB3).size
              obtain ⟨hm0, et, hw1, hpi, hpi0, hm1⟩ := idx m len hlti hl
              go_wp2_with fail
              go_region_held3 (fun w' => w'.cell? ⟨w.heap.size, 18, Option.none⟩ = some (.slice (some ⟨g, 0, Option.none⟩) len qc) ∧ w'.cell? ⟨g, (m + 1) * 8, Option.none⟩ = some (.int .i64 (nth es (m + 1)).at_) ∧ w'.cell? ⟨g, (m + 1) * 8 + 1, Option.none⟩ = some (.int .u64 (nth es (m + 1)).seq) ∧ w'.cell? ⟨g, (m + 1) * 8 + 2, Option.none⟩ = some (.int .i64 (nth es (m + 1)).to_) ∧ w'.cell? ⟨g, (m + 1) * 8 + 3, Option.none⟩ = some (.int .i64 (-1)) ∧ w'.cell? ⟨g, (m + 1) * 8 + 4, Option.none⟩ = some (.pointer Option.none) ∧ w'.cell? ⟨g, (m + 1) * 8 + 5, Option.none⟩ = some (.int .u64 0) ∧ w'.cell? ⟨g, (m + 1) * 8 + 6, Option.none⟩ = some (.int .u32 0) ∧ w'.cell? ⟨g, (m + 1) * 8 + 7, Option.none⟩ = some (.nilFunc) ∧ w'.cell? ⟨g, m / 2 * 8, Option.none⟩ = some (.int .i64 (nth es (m / 2)).at_) ∧ w'.cell? ⟨g, m / 2 * 8 + 1, Option.none⟩ = some (.int .u64 (nth es (m / 2)).seq) ∧ w'.cell? ⟨g, m / 2 * 8 + 2, Option.none⟩ = some (.int .i64 (nth es (m / 2)).to_) ∧ w'.cell? ⟨g, m / 2 * 8 + 3, Option.none⟩ = some (.int .i64 (-1)) ∧ w'.cell? ⟨g, m / 2 * 8 + 4, Option.none⟩ = some (.pointer Option.none) ∧ w'.cell? ⟨g, m / 2 * 8 + 5, Option.none⟩ = some (.int .u64 0) ∧ w'.cell? ⟨g, m / 2 * 8 + 6, Option.none⟩ = some (.int .u32 0) ∧ w'.cell? ⟨g, m / 2 * 8 + 7, Option.none⟩ = some (.nilFunc)) (go_keep) (first | (go_at_call 17; refine (before_any (nth es (m + 1)) (nth es (m / 2)) _).mono ?_; rintro ee w' ⟨rfl, rfl⟩))
              clear q0 q1 q2 q3 q4 q5 q6 q7 r0 r1 r2 r3 r4 r5 r6 r7 hw1 et
              go_wp2_with fail
              go_roundw
              case rel => exact ⟨m + 2, by go_num, by omega, by omega, (((unhide HB3).alloc (unhide HB3).size _).alloc (by have := (unhide HB3).size; simp; omega) _).drew⟩
              case measure => simp [intOf]; omega
            · go_wp2_with fail
              go_ret
              exact ⟨rfl, (unhide HB0).trans ((unhide HB3).mono (unhide HB0).size)⟩
end Go.Proofs.Ybulkqgc
