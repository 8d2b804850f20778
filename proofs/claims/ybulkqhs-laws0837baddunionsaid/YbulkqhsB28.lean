import Derived.Test.YbulkqhsB27
namespace Go.Proofs.Ybulkqhs
open Go.RowKit
set_option linter.unusedVariables false
set_option linter.unusedSimpArgs false
attribute [local go_sem ↓] exec_store34 exec_load34 exec_box34 exec_build78 exec_box78 exec_load70
attribute [local go_sem] run_box34 run_box78 eql34_run neq34_run guard34

/-- The place of f in ys. -/
structure Place (ys : List Nat) (f k : Nat) : Prop where
  le : k ≤ ys.length
  lo : ∀ i, i < k → ys[i]! < f
  hi : ∀ i, k ≤ i → i < ys.length → f ≤ ys[i]!

theorem Place.uniq {ys : List Nat} {f k k' : Nat} (h : Place ys f k) (h' : Place ys f k') : k = k' := by
  rcases Nat.lt_trichotomy k k' with e | e | e
  · have h1 := h'.lo k e
    have h2 := h.hi k (Nat.le_refl _) (by have := h'.le; omega)
    omega
  · exact e
  · have h1 := h.lo k' e
    have h2 := h'.hi k' (Nat.le_refl _) (by have := h.le; omega)
    omega
theorem place_ex (f : Nat) : ∀ ys : List Nat, ys.Pairwise (· < ·) → ∃ k, Place ys f k
  | [], _ => ⟨0, by simp, fun i hi => by omega, fun i _ hi => by simp at hi⟩
  | y :: ys, h => by
    obtain ⟨h1, h2⟩ := List.pairwise_cons.1 h
    obtain ⟨k, hk⟩ := place_ex f ys h2
    by_cases hy : y < f
    · refine ⟨k + 1, by have := hk.le; simp; omega, fun i hi => ?_, fun i h3 h4 => ?_⟩
      · cases i with
        | zero => simpa using hy
        | succ i => simpa using hk.lo i (by omega)
      · cases i with
        | zero => omega
        | succ i => simpa using hk.hi i (by omega) (by simpa using h4)
    · refine ⟨0, by omega, fun i hi => by omega, fun i _ h4 => ?_⟩
      cases i with
      | zero => simpa using hy
      | succ i =>
        have h5 : i < ys.length := by simpa using h4
        have := h1 ys[i] (List.getElem_mem h5)
        simp [h5]
        omega
/-- Whether it is found there. -/
def fdB (ys : List Nat) (f k : Nat) : Bool := decide (k < ys.length ∧ ys[k]! = f)

set_option maxRecDepth 100000 in
set_option maxHeartbeats 600000 in
theorem bsearch_any {w : World} {b o cap f : Nat} {ys : List Nat} (h : Recs w b o ys) (hya : ys.Pairwise (· < ·)) (hn : ys.length ≤ 1073741824) :
    Calls Yba.prog 56 #[.slice (some ⟨b, o, none⟩) ys.length cap, rv f, .func (.func 13) #[] #[]] w fun e w' => ∃ (k : Nat) (fd : Bool), e = .returned (.tuple #[.int .i64 k, .bool fd]) ∧ fd = fdB ys f k ∧ Place ys f k ∧ Below w.heap.size w w' := by
  have hmono : ∀ i j, i ≤ j → j < ys.length → ys[i]! ≤ ys[j]! := by
    intro i j hij hj
    rw [List.pairwise_iff_getElem] at hya
    rw [getElem!_pos ys i (by omega), getElem!_pos ys j hj]
    by_cases e : i = j
    · subst e; exact Nat.le_refl _
    · exact Nat.le_of_lt (hya i j (by omega) hj (by omega))
  obtain ⟨n, hnn⟩ : ∃ n, n = ys.length := ⟨_, rfl⟩
  rw [← hnn] at hn ⊢
  have HR : Hid (Recs (w.alloc (.cells (rl f).toArray 34)) b o ys) := fun i hi => (h i hi).alloc _
  have HF : Hid (RA (w.alloc (.cells (rl f).toArray 34)) w.heap.size 0 f) := RA_box w f 34
  have HB : Hid (Below w.heap.size w (w.alloc (.cells (rl f).toArray 34))) := (Below.refl _ w).alloc (Nat.le_refl _) _
  have HN := hideB hnn; have HMO := hideB hmono
  clear h hya hnn hmono
  go_enter Yba.func56, Yba.ntmps56
  go_wp2_with fail
  generalize (w.alloc (.cells (rl f).toArray 34)) = W at HR HF HB ⊢
  generalize hBe : w.heap.size = B at HF HB ⊢
  have HBE := hideB hBe
  clear hBe
  go_loopw [9, 10] (fun s9 s10 wr => ∃ lo hi : Nat, s9 = .int .i64 lo ∧ s10 = .int .i64 hi ∧ lo ≤ hi ∧ hi ≤ n ∧ (∀ i, i < lo → ys[i]! < f) ∧ (∀ i, hi ≤ i → i < n → f ≤ ys[i]!) ∧ Below W.heap.size W wr) (fun s9 s10 _ => (intOf s10 - intOf s9).toNat)
  case atStart => exact ⟨0, n, rfl, rfl, by omega, Nat.le_refl _, fun i hi => by omega, fun i h1 h2 => by omega, Below.refl _ _⟩
  case round =>
    obtain ⟨lo, hi, rfl, rfl, hlh, hhn, hlow, hhigh, hbel⟩ := hrel
    have HLO := hideB hlow; have HHI := hideB hhigh; have HBL := hideB hbel
    have rf : RA wr B 0 f := (unhideB HF).of_block (hbel.block B (unhideB HF).lt)
    have lf : ∀ p, (exLoad34 (.pointer (some ⟨B, 0, none⟩))).run Yba.prog (gr wr p) = .ok (.value (rv f)) (gr wr p) := fun p => run_load34 (gr_RA rf p)
    clear hlow hhigh hbel rf
    by_cases hlt : lo < hi
    · have hlt' : (lo : Int) < hi := by omega
      obtain ⟨mid, hmid⟩ : ∃ mid, mid = (lo + hi) / 2 := ⟨_, rfl⟩
      have hm1 : lo ≤ mid := by omega
      have hm2 : mid < hi := by omega
      have em : ((lo : Int) + hi) / 2 = mid := by omega
      have hmn : mid < n := by omega
      have hmn' : (mid : Int) < n := by omega
      have wm := wrapN mid (by omega)
      obtain ⟨k, hk⟩ : ∃ k, k = ys[mid]! := ⟨_, rfl⟩
      have rk : RA wr b (o + mid * 33) k := by rw [hk]; exact ((unhideB HR).later (unhideB HBL)) mid (by rw [← unhideB HN]; exact hmn)
      have lk : ∀ p, (exLoad34 (.pointer (some ⟨b, o + mid * 33, none⟩))).run Yba.prog (gr wr p) = .ok (.value (rv k)) (gr wr p) := fun p => run_load34 (gr_RA rk p)
      have HK := hideB hk; have HMI := hideB hmid
      clear hk rk hmid
      by_cases hkf : k < f
      · have hC : ∀ W, Calls Yba.prog 13 #[rv k, rv f] W fun e w' => e = .returned (.int .i64 (-1)) ∧ Below W.heap.size W w' := fun W => by
          have := compare_any k f W
          rwa [cmpN_lt (by omega)] at this
        have HC := hideB hC
        clear hC
        go_wp2_with fail
        refine wp_region_gr (by kernel_rfl) (by kernel_rfl) ?_
        repeat (quiet_step (first | (go_at_call 13; refine Calls.gr_of ((unhideB HC) _))))
        refine wpQuiet_nil ?_
        intro w1 hw1
        obtain ⟨p1, rfl⟩ := hw1
        have hbl2 : Below W.heap.size W (gr wr p1) := (unhideB HBL).trans ((gr_below wr p1).mono (unhideB HBL).size)
        have HBL2 := hideB hbl2
        clear hbl2 lk lf
        generalize gr wr p1 = W1 at HBL2 ⊢
        go_wp2_with fail
        refine ⟨⟨mid + 1, hi, by simp, rfl, by omega, hhn, fun i hi2 => ?_, unhideB HHI, unhideB HBL2⟩, by simp [intOf]; omega⟩
        have h1 := unhideB HMO i mid (by omega) (by rw [← unhideB HN]; exact hmn)
        rw [← unhideB HK] at h1
        omega
      · obtain ⟨c, hc⟩ : ∃ c, c = cmpN k f := ⟨_, rfl⟩
        have hc0 : ¬ (c < 0) := by
          rw [hc]
          rcases Nat.lt_trichotomy k f with h | h | h
          · omega
          · subst h; rw [cmpN_eq]; omega
          · rw [cmpN_gt (by omega)]; omega
        have hC : ∀ W, Calls Yba.prog 13 #[rv k, rv f] W fun e w' => e = .returned (.int .i64 c) ∧ Below W.heap.size W w' := fun W => by
          rw [hc]; exact compare_any k f W
        have HC := hideB hC
        clear hC hc
        go_wp2_with fail
        refine wp_region_gr (by kernel_rfl) (by kernel_rfl) ?_
        repeat (quiet_step (first | (go_at_call 13; refine Calls.gr_of ((unhideB HC) _))))
        refine wpQuiet_nil ?_
        intro w1 hw1
        obtain ⟨p1, rfl⟩ := hw1
        have hbl2 : Below W.heap.size W (gr wr p1) := (unhideB HBL).trans ((gr_below wr p1).mono (unhideB HBL).size)
        have HBL2 := hideB hbl2
        clear hbl2 lk lf
        generalize gr wr p1 = W1 at HBL2 ⊢
        go_wp2_with fail
        refine ⟨⟨lo, mid, rfl, rfl, hm1, by omega, unhideB HLO, fun i h1 h2 => ?_, unhideB HBL2⟩, by simp [intOf]; omega⟩
        have h3 := unhideB HMO mid i h1 (by rw [← unhideB HN]; exact h2)
        rw [← unhideB HK] at h3
        omega
    · have hlt' : ¬ ((lo : Int) < hi) := by omega
      have hle : lo = hi := by omega
      subst hle
      have HPL := hideB (show Place ys f lo from ⟨by rw [← unhideB HN]; omega, unhideB HLO, fun i h1 h2 => unhideB HHI i (by omega) (by rw [unhideB HN]; exact h2)⟩)
      have hwB := (unhideB HB).size
      by_cases hln : lo < n
      · have hln' : (lo : Int) < n := by omega
        have hdl : decide ((lo : Int) < n) = true := by simp; omega
        obtain ⟨k, hk⟩ : ∃ k, k = ys[lo]! := ⟨_, rfl⟩
        have rk : RA wr b (o + lo * 33) k := by rw [hk]; exact ((unhideB HR).later (unhideB HBL)) lo (by rw [← unhideB HN]; exact hln)
        have lk : ∀ p, (exLoad34 (.pointer (some ⟨b, o + lo * 33, none⟩))).run Yba.prog (gr wr p) = .ok (.value (rv k)) (gr wr p) := fun p => run_load34 (gr_RA rk p)
        obtain ⟨c, hc⟩ : ∃ c, c = cmpN k f := ⟨_, rfl⟩
        have hc0 : decide (c = 0) = fdB ys f lo := by
          unfold fdB
          rw [← hk, hc, decide_eq_decide, ← unhideB HN]
          rcases Nat.lt_trichotomy k f with h | h | h
          · rw [cmpN_lt (by omega)]; omega
          · subst h; rw [cmpN_eq]; omega
          · rw [cmpN_gt (by omega)]; omega
        have HC0 := hideB hc0
        have hC : ∀ W, Calls Yba.prog 13 #[rv k, rv f] W fun e w' => e = .returned (.int .i64 c) ∧ Below W.heap.size W w' := fun W => by
          rw [hc]; exact compare_any k f W
        have HC := hideB hC
        clear hC hc hk rk hc0
        go_wp2_with fail
        refine wp_region_gr (by kernel_rfl) (by kernel_rfl) ?_
        repeat (first | quiet_step (first | (go_at_call 13; refine Calls.gr_of ((unhideB HC) _))) | go_big_quiet_step (first | (go_at_call 13; refine Calls.gr_of ((unhideB HC) _))))
        refine wpQuiet_nil ?_
        intro w1 hw1
        obtain ⟨p1, rfl⟩ := hw1
        have hbl2 : Below W.heap.size W (gr wr p1) := (unhideB HBL).trans ((gr_below wr p1).mono (unhideB HBL).size)
        have HBL2 := hideB hbl2
        clear hbl2 lk lf
        generalize gr wr p1 = W1 at HBL2 ⊢
        go_wp2_with fail
        go_ret2
        exact ⟨lo, _, rfl, (by rw [← unhideB HC0]; first | rfl | simp), unhideB HPL, by rw [unhideB HBE]; exact (unhideB HB).trans ((unhideB HBL2).mono (by have := unhideB HBE; omega))⟩
      · have hln' : ¬ ((lo : Int) < n) := by omega
        have hdl : decide ((lo : Int) < n) = false := by simp; omega
        have lk : True := trivial
        have HC : True := trivial
        go_wp2_with fail
        refine wp_region_gr (by kernel_rfl) (by kernel_rfl) ?_
        repeat (first | go_big_quiet_skip | quiet_step (fail))
        refine wpQuiet_nil ?_
        intro w1 hw1
        obtain ⟨p1, rfl⟩ := hw1
        have hbl2 : Below W.heap.size W (gr wr p1) := (unhideB HBL).trans ((gr_below wr p1).mono (unhideB HBL).size)
        have HBL2 := hideB hbl2
        clear hbl2 lk lf
        generalize gr wr p1 = W1 at HBL2 ⊢
        go_wp2_with fail
        go_ret2
        exact ⟨lo, _, rfl, (by unfold fdB; rw [← unhideB HN]; simp [hln]), unhideB HPL, by rw [unhideB HBE]; exact (unhideB HB).trans ((unhideB HBL2).mono (by have := unhideB HBE; omega))⟩

theorem bsearch_det {w : World} {b o cap f k0 : Nat} {ys : List Nat} (h : Recs w b o ys) (hya : ys.Pairwise (· < ·)) (hn : ys.length ≤ 1073741824) (hk0 : Place ys f k0) :
    Calls Yba.prog 56 #[.slice (some ⟨b, o, none⟩) ys.length cap, rv f, .func (.func 13) #[] #[]] w fun e w' => e = .returned (.tuple #[.int .i64 k0, .bool (fdB ys f k0)]) ∧ Below w.heap.size w w' := by
  refine (bsearch_any h hya hn).mono ?_
  rintro e w' ⟨k, fd, rfl, rfl, hp, hb⟩
  rw [hp.uniq hk0]
  exact ⟨rfl, hb⟩
end Go.Proofs.Ybulkqhs
