import Derived.Test.YbulkqfoFl
/-! Veltkamp's splitting, in plain whole numbers and then over words of doubles. -/
namespace Go.Proofs.Ybulkqfo.Fl
open Ieee

theorem pow27 (q : Nat) : (2:Nat)^(27+q) = 2^27 * 2^q := Nat.pow_add ..

/-- The digit of a number that lies between two powers. -/
theorem Rd_place {N R L a : Nat} (h : Rd N R L) (h1 : 2^(52+a) ≤ N) : a ≤ L := by
  have := Nat.lt_of_le_of_lt h1 h.hi
  have := (Nat.pow_lt_pow_iff_right (a := 2) (by omega)).1 this
  omega

theorem Rd_place' {N R L a : Nat} (h : Rd N R L) (h1 : N < 2^(53+a)) : L ≤ a := by
  rcases h.lo with h0 | h0
  · omega
  · have := Nat.lt_of_le_of_lt h0 h1
    have := (Nat.pow_lt_pow_iff_right (a := 2) (by omega)).1 this
    omega

theorem cancel_le {u x y : Nat} (hu : 0 < u) (h : x * u ≤ y * u) : x ≤ y := Nat.le_of_mul_le_mul_right h hu
theorem cancel_lt {u x y : Nat} (h : x * u < y * u) : x < y := Nat.lt_of_mul_lt_mul_right h

/-- Rounding read off in units of u = 2^q. -/
theorem Rd_units {X R q a : Nat} (h : Rd (X * 2^q) R (a + q)) : ∃ r, R = r * 2^a * 2^q ∧ 2 * (r * 2^a) ≤ 2 * X + 2^a ∧ 2 * X ≤ 2 * (r * 2^a) + 2^a := by
  obtain ⟨r, hr⟩ := h.dvd
  have e : R = r * 2^a * 2^q := by rw [hr, Nat.pow_add, Nat.mul_comm, Nat.mul_assoc]
  refine ⟨r, e, ?_, ?_⟩
  · have := h.up
    rw [e, Nat.pow_add] at this
    apply cancel_le (Nat.two_pow_pos q)
    rw [Nat.add_mul]
    simp only [Nat.mul_assoc] at this ⊢
    exact this
  · have := h.dn
    rw [e, Nat.pow_add] at this
    apply cancel_le (Nat.two_pow_pos q)
    rw [Nat.add_mul]
    simp only [Nat.mul_assoc] at this ⊢
    exact this

/-- Veltkamp, the first half: A = m u with 2^52 ≤ m < 2^53, u = 2^q; c rounds A (2^27+1). -/
theorem velt_c (m q c L1 : Nat) (h1 : 2^52 ≤ m) (h2 : m < 2^53) (hc : Rd (m * 2^q * (2^27+1)) c L1) :
    ∃ c1 : Nat, c = c1 * 2^27 * 2^q ∧ 2^79 ≤ c1 * 2^27 - m ∧ c1 * 2^27 - m ≤ 2^80 := by
  rw [show m * 2^q * (2^27+1) = (m * (2^27+1)) * 2^q by rw [Nat.mul_assoc, Nat.mul_comm (2^q), Nat.mul_assoc]] at hc
  have hpq := Nat.two_pow_pos q
  have lo1 : 27 + q ≤ L1 := by
    apply Rd_place hc
    rw [← Nat.add_assoc, Nat.pow_add]
    exact Nat.mul_le_mul_right _ (by omega)
  have hi1 : L1 ≤ 28 + q := by
    apply Rd_place' hc
    rw [← Nat.add_assoc, Nat.pow_add]
    exact Nat.mul_lt_mul_of_pos_right (by omega) hpq
  -- c in units of 2^27 u
  have hc' : ∃ c1, c = c1 * 2^27 * 2^q ∧ (2 * (c1 * 2^27) ≤ 2 * (m * (2^27+1)) + 2^28) ∧ (2 * (m * (2^27+1)) ≤ 2 * (c1 * 2^27) + 2^28) ∧ (m = 2^52 → c1 = 2^52 + 2^25) := by
    by_cases hL : L1 = 27 + q
    · subst hL
      obtain ⟨r, e, u, v⟩ := Rd_units hc
      refine ⟨r, e, ?_, ?_, ?_⟩
      · exact Nat.le_of_not_lt (fun hh => by omega)
      · exact Nat.le_of_not_lt (fun hh => by omega)
      · intro h; omega
    · have hL : L1 = 28 + q := by omega
      subst hL
      have hbig : 2^80 ≤ m * (2^27+1) := by
        rcases hc.lo with h | h
        · exact Nat.le_of_not_lt (fun hh => by omega)
        · rw [← Nat.add_assoc, Nat.pow_add] at h
          exact cancel_le hpq h
      obtain ⟨r, e, u, v⟩ := Rd_units hc
      refine ⟨r * 2, ?_, ?_, ?_, ?_⟩
      · rw [e, show r * 2 * 2^27 = r * 2^28 by omega]
      · exact Nat.le_of_not_lt (fun hh => by omega)
      · exact Nat.le_of_not_lt (fun hh => by omega)
      · intro h; omega
  obtain ⟨c1, ec, u, v, w⟩ := hc'
  clear hc lo1 hi1
  have hD1 : 2^79 ≤ c1 * 2^27 - m := by
    by_cases hm : m = 2^52
    · have := w hm; subst hm; subst this; omega
    · omega
  have hD2 : c1 * 2^27 - m ≤ 2^80 := by omega
  exact ⟨c1, ec, hD1, hD2⟩

/-- Veltkamp, the second half: d rounds c - A. -/
theorem velt_d (m q c1 d L2 : Nat) (h1 : 2^52 ≤ m) (h2 : m < 2^53) (hD1 : 2^79 ≤ c1 * 2^27 - m) (hD2 : c1 * 2^27 - m ≤ 2^80) (hd : Rd ((c1 * 2^27 - m) * 2^q) d L2) :
    ∃ D k : Nat, d = D * 2^q ∧ c1 * 2^27 = D + k * 2^27 ∧ k ≤ 2^26 ∧ 0 < k ∧ k * 2^27 ≤ m + 2^26 ∧ m ≤ k * 2^27 + 2^26 := by
  have hpq := Nat.two_pow_pos q
  have lo2 : 27 + q ≤ L2 := by
    apply Rd_place hd
    rw [← Nat.add_assoc, Nat.pow_add]
    exact Nat.mul_le_mul_right _ (by omega)
  have hi2 : L2 ≤ 28 + q := by
    apply Rd_place' hd
    rw [← Nat.add_assoc, Nat.pow_add]
    exact Nat.mul_lt_mul_of_pos_right (by omega) hpq
  have hd' : ∃ d1, d = d1 * 2^27 * 2^q ∧ (2 * (d1 * 2^27) ≤ 2 * (c1 * 2^27 - m) + 2^27) ∧ (2 * (c1 * 2^27 - m) ≤ 2 * (d1 * 2^27) + 2^27) := by
    by_cases hL : L2 = 27 + q
    · subst hL
      obtain ⟨r, e, u, v⟩ := Rd_units hd
      refine ⟨r, e, ?_, ?_⟩
      · exact Nat.le_of_not_lt (fun hh => by omega)
      · exact Nat.le_of_not_lt (fun hh => by omega)
    · have hL : L2 = 28 + q := by omega
      subst hL
      have hbig : 2^80 ≤ c1 * 2^27 - m := by
        rcases hd.lo with h | h
        · exact Nat.le_of_not_lt (fun hh => by omega)
        · rw [← Nat.add_assoc, Nat.pow_add] at h
          exact cancel_le hpq h
      obtain ⟨r, e, u, v⟩ := Rd_units hd
      refine ⟨r * 2, ?_, ?_, ?_⟩
      · rw [e, show r * 2 * 2^27 = r * 2^28 by omega]
      · exact Nat.le_of_not_lt (fun hh => by omega)
      · exact Nat.le_of_not_lt (fun hh => by omega)
  obtain ⟨d1, ed, x, y⟩ := hd'
  subst ed
  clear hd lo2 hi2
  refine ⟨d1 * 2^27, c1 - d1, rfl, ?_, ?_, ?_, ?_, ?_⟩ <;> omega

/-- A number of at most 26 digits, not small: its word is of a normal number whose low 27 digits are nought. -/
theorem few_of (r j q : Nat) (h : mg r = j * 2^q) (hj : 0 < j) (hj2 : j ≤ 2^26) (hq : 52 ≤ q) : 2^52 ≤ r ∧ r % 2^27 = 0 := by
  unfold mg at h
  have hq' : 2^52 ≤ 2^q := Nat.pow_le_pow_right (by omega) hq
  have hjq : 2^q ≤ j * 2^q := Nat.le_mul_of_pos_left _ hj
  by_cases h1 : r < 2^52
  · rw [if_pos h1] at h; omega
  · rw [if_neg h1] at h
    refine ⟨by omega, ?_⟩
    generalize hM : 2^52 + r % 2^52 = M at h
    generalize r / 2^52 - 1 = e at h
    have hdv : 2^27 ∣ M := by
      by_cases hc : e ≤ q
      · have e1 : M = j * 2^(q - e) := by
          have : M * 2^e = j * 2^(q-e) * 2^e := by rw [h, Nat.mul_assoc, ← Nat.pow_add, show q - e + e = q by omega]
          exact Nat.eq_of_mul_eq_mul_right (Nat.two_pow_pos e) this
        by_cases h27 : 27 ≤ q - e
        · rw [e1]; exact Nat.dvd_trans (Nat.pow_dvd_pow 2 h27) (Nat.dvd_mul_left ..)
        · have : (2:Nat)^(q-e) ≤ 2^26 := Nat.pow_le_pow_right (by omega) (by omega)
          have h3 : j * 2^(q-e) ≤ 2^26 * 2^26 := Nat.mul_le_mul hj2 this
          have : M = 2^52 := by omega
          rw [this]; exact Nat.pow_dvd_pow 2 (by omega)
      · have e1 : M * 2^(e-q) = j := by
          have : M * 2^(e-q) * 2^q = j * 2^q := by rw [← h, Nat.mul_assoc, ← Nat.pow_add, show e - q + q = e by omega]
          exact Nat.eq_of_mul_eq_mul_right (Nat.two_pow_pos q) this
        have : M ≤ M * 2^(e-q) := Nat.le_mul_of_pos_right _ (Nat.two_pow_pos _)
        omega
    obtain ⟨z, hz⟩ := hdv
    omega

/-- The shape of a normal number. -/
theorem normal (r : Nat) (h : 2^52 ≤ r) : ∃ m q, mg r = m * 2^q ∧ 2^52 ≤ m ∧ m < 2^53 ∧ q = r / 2^52 - 1 := by
  refine ⟨2^52 + r % 2^52, _, ?_, by omega, by omega, rfl⟩
  unfold mg; rw [if_neg (by omega)]


theorem RI_sg {N R σ : Int} (hσ : σ = 1 ∨ σ = -1) (h : RI N R) : RI (σ * N) (σ * R) := by
  rcases hσ with rfl | rfl
  · simpa using h
  · rcases h with ⟨a, b⟩ | ⟨a, b, L, c⟩ | ⟨a, b, L, c⟩
    · left; omega
    · right; right; refine ⟨by omega, by omega, L, ?_⟩
      rw [show -(-1 * N) = N by omega, show -(-1 * R) = R by omega]; exact c
    · right; left; refine ⟨by omega, by omega, L, ?_⟩
      rw [show -1 * N = -N by omega, show -1 * R = -R by omega]; exact c

theorem RI_pos {N R : Int} {X : Nat} (h : RI N R) (hN : N = X) (hX : 0 < X) : ∃ Y : Nat, R = Y ∧ ∃ L, Rd X Y L := by
  subst hN
  rcases h with ⟨a, b⟩ | ⟨a, b, L, c⟩ | ⟨a, b, L, c⟩
  · omega
  · exact ⟨R.toNat, by omega, L, by simpa using c⟩
  · omega

theorem sg_sg {σ : Int} (hσ : σ = 1 ∨ σ = -1) (x : Int) : σ * (σ * x) = x := by
  rcases hσ with rfl | rfl <;> omega

theorem sg_abs {σ : Int} (hσ : σ = 1 ∨ σ = -1) (x : Int) : (σ * x).natAbs = x.natAbs := by
  rcases hσ with rfl | rfl <;> omega

theorem V_sg (a : Nat) : ∃ σ : Int, (σ = 1 ∨ σ = -1) ∧ V a = σ * (mg (rg a) : Int) := by
  unfold V
  cases ng a
  · exact ⟨1, Or.inl rfl, by simp⟩
  · exact ⟨-1, Or.inr rfl, by simp⟩

theorem pow_lt_B {x n q B : Nat} (hx : x ≤ 2^n) (h : n + q < B) : x * 2^q < 2^B := by
  refine Nat.lt_of_le_of_lt (Nat.mul_le_mul_right _ hx) ?_
  rw [← Nat.pow_add]
  exact Nat.pow_lt_pow_right (by omega) h

def konst : Nat := 4728779608772575232
theorem read_konst : double.read konst = .number false (2^52 + 2^25) (-((25 : Nat) : Int)) := by decide +kernel

theorem aux_abs (m K : Nat) (h : K ≤ m + 2^26) (h2 : m ≤ K + 2^26) : ((m : Int) - (K : Int)).natAbs ≤ 2^26 := by omega
theorem aux_81 (m : Nat) (h2 : m < 2^53) : m * (2^27+1) ≤ 2^81 := Nat.le_of_not_lt (fun hh => by omega)
theorem aux_53 (k : Nat) (h : k ≤ 2^26) : k ≤ 2^53 := by omega
theorem aux_big (m q : Nat) (h1 : 2^52 ≤ m) (hq1 : 26 ≤ q) : 2^(53+25) ≤ m * 2^q := by
  have : (2:Nat)^(53+25) ≤ 2^(52+q) := Nat.pow_le_pow_right (by omega) (by omega)
  rw [Nat.pow_add 2 52 q] at this
  exact Nat.le_trans this (Nat.mul_le_mul_right _ h1)
theorem aux_k (D k : Nat) : D + k * 2^27 - D = k * 2^27 := by omega
theorem aux_mc (c1 m : Nat) (h : 2^79 ≤ c1 * 2^27 - m) : m ≤ c1 * 2^27 ∧ 0 < c1 * 2^27 - m := by omega
theorem aux_D (D k : Nat) : D ≤ D + k * 2^27 := by omega
theorem aux_m (m : Nat) (h : 2^52 ≤ m) : 0 < m := by omega

/-- What 'halves' does on a normal number that is neither small nor great. -/
theorem halves_normal (a m q : Nat) (ha : fin a) (hm : mg (rg a) = m * 2^q) (h1 : 2^52 ≤ m) (h2 : m < 2^53) (hq1 : 26 ≤ q) (hq2 : q ≤ 2013) :
    ∃ c t hi lo k, double.mul a konst = some c ∧ double.sub c a = some t ∧ double.sub c t = some hi ∧ double.sub a hi = some lo ∧ fin hi ∧ fin lo ∧
      ∃ σ : Int, (σ = 1 ∨ σ = -1) ∧ V a = σ * ((m * 2^q : Nat) : Int) ∧ V hi = σ * ((k * 2^(27 + q) : Nat) : Int) ∧ V lo = σ * (((m : Int) - (k * 2^27 : Nat)) * ((2^q : Nat) : Int)) ∧
      0 < k ∧ k ≤ 2^26 ∧ k * 2^27 ≤ m + 2^26 ∧ m ≤ k * 2^27 + 2^26 := by
  obtain ⟨σ, hσ, va⟩ := V_sg a
  rw [hm] at va
  obtain ⟨B, hB⟩ : ∃ B, B = 2097 := ⟨_, rfl⟩
  have b81 : 81 + q < B := by omega
  have b80 : 80 + q < B := by omega
  have b26 : 26 + q < B := by omega
  have b53 : 26 + (27 + q) < B := by omega
  have hpq := Nat.two_pow_pos q
  obtain ⟨c, ec, fc, rc⟩ := mul_spec a konst _ (2^27+1) 25 ha read_konst (by decide +kernel) (Or.inl (by rw [hm]; exact aux_big m q h1 hq1)) B hB (by
    rw [hm, Nat.mul_right_comm]
    exact pow_lt_B (aux_81 m h2) b81)
  have rc' := RI_sg hσ rc
  rw [va, Int.mul_assoc, sg_sg hσ, ← Int.natCast_mul] at rc'
  obtain ⟨cn, hcn, L1, hr1⟩ := RI_pos rc' rfl (Nat.mul_pos (Nat.mul_pos (aux_m m h1) hpq) (by decide))
  have vc : V c = σ * (cn : Int) := by rw [← hcn, sg_sg hσ]
  obtain ⟨c1, ec1, hD1, hD2⟩ := velt_c m q cn L1 h1 h2 hr1
  obtain ⟨hmc, hmp⟩ := aux_mc c1 m hD1
  have ediff : V c - V a = σ * (((c1 * 2^27 - m) * 2^q : Nat) : Int) := by
    rw [vc, va, ← Int.mul_sub, ec1, Nat.sub_mul, Int.natCast_sub (Nat.mul_le_mul_right _ hmc)]
  obtain ⟨t, et, ft, rt⟩ := sub_spec c a fc ha B hB (by
    rw [ediff, sg_abs hσ, Int.natAbs_natCast]
    exact pow_lt_B hD2 b80)
  have rt' := RI_sg hσ rt
  rw [ediff, sg_sg hσ] at rt'
  obtain ⟨tn, htn, L2, hr2⟩ := RI_pos rt' rfl (Nat.mul_pos hmp hpq)
  have vt : V t = σ * (tn : Int) := by rw [← htn, sg_sg hσ]
  obtain ⟨D, k, eD, eC, k1, k2, k3, k4⟩ := velt_d m q c1 tn L2 h1 h2 hD1 hD2 hr2
  have ehi : V c - V t = σ * ((k * 2^(27+q) : Nat) : Int) := by
    rw [vc, vt, ← Int.mul_sub, ec1, eD, eC, ← Int.natCast_sub (Nat.mul_le_mul_right _ (aux_D D k)), ← Nat.sub_mul, Nat.pow_add, ← Nat.mul_assoc, aux_k]
  obtain ⟨hi, eh, fh, rh⟩ := sub_spec c t fc ft B hB (by
    rw [ehi, sg_abs hσ, Int.natAbs_natCast]
    exact pow_lt_B k1 b53)
  have vh := RI_exact _ _ k (27+q) rh (by rw [ehi, sg_abs hσ, Int.natAbs_natCast]) (aux_53 k k1)
  rw [ehi] at vh
  have elo : V a - V hi = σ * (((m : Int) - (k * 2^27 : Nat)) * ((2^q : Nat) : Int)) := by
    rw [va, vh, ← Int.mul_sub, Int.sub_mul, ← Int.natCast_mul, ← Int.natCast_mul, Nat.pow_add, ← Nat.mul_assoc]
  have alo : (V a - V hi).natAbs = ((m : Int) - (k * 2^27 : Nat)).natAbs * 2^q := by
    rw [elo, sg_abs hσ, Int.natAbs_mul, Int.natAbs_natCast]
  have hj := aux_abs m (k * 2^27) k3 k4
  obtain ⟨lo, el, fl, rl⟩ := sub_spec a hi ha fh B hB (by
    rw [alo]; exact pow_lt_B hj b26)
  have vl := RI_exact _ _ _ q rl alo (aux_53 _ hj)
  rw [elo] at vl
  exact ⟨c, t, hi, lo, k, ec, et, eh, el, fh, fl, σ, hσ, va, vh, vl, k2, k1, k3, k4⟩

theorem V_zero {x : Nat} (h : V x = 0) : mg (rg x) = 0 := by
  unfold V at h; cases hn : ng x <;> rw [hn] at h <;> simp at h <;> exact h

/-- What 'halves' does on a zero. -/
theorem halves_zero (a : Nat) (ha : fin a) (h0 : V a = 0) :
    ∃ c t hi lo, double.mul a konst = some c ∧ double.sub c a = some t ∧ double.sub c t = some hi ∧ double.sub a hi = some lo ∧ fin hi ∧ fin lo ∧ V hi = 0 ∧ V lo = 0 := by
  obtain ⟨B, hB⟩ : ∃ B, B = 2097 := ⟨_, rfl⟩
  have hB0 : 0 < 2^B := Nat.two_pow_pos B
  obtain ⟨c, ec, fc, rc⟩ := mul_spec a konst _ (2^27+1) 25 ha read_konst (by decide +kernel) (Or.inr (V_zero h0)) B hB (by rw [V_zero h0, Nat.zero_mul]; exact hB0)
  have z : ∀ {R : Int}, RI 0 R → R = 0 := fun h => RI_exact 0 _ 0 0 h rfl (by omega)
  rw [h0, Int.zero_mul] at rc
  have vc := z rc
  obtain ⟨t, et, ft, rt⟩ := sub_spec c a fc ha B hB (by rw [vc, h0]; exact hB0)
  rw [vc, h0] at rt
  have vt := z rt
  obtain ⟨hi, eh, fh, rh⟩ := sub_spec c t fc ft B hB (by rw [vc, vt]; exact hB0)
  rw [vc, vt] at rh
  have vh := z rh
  obtain ⟨lo, el, fl, rl⟩ := sub_spec a hi ha fh B hB (by rw [h0, vh]; exact hB0)
  rw [h0, vh] at rl
  exact ⟨c, t, hi, lo, ec, et, eh, el, fh, fl, vh, z rl⟩

end Go.Proofs.Ybulkqfo.Fl
