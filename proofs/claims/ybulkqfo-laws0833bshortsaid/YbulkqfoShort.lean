import Derived.Test.YbulkqfoVelt
namespace Go.Proofs.Ybulkqfo.Fl
open Ieee

theorem abs_scale (z : Int) (s : Nat) : (z * ((2^s : Nat) : Int)).natAbs = z.natAbs * 2^s := by
  rw [Int.natAbs_mul, Int.natAbs_natCast]

theorem nz_big (z : Int) (s : Nat) (hs : 78 ≤ s) : 2^(53+25) ≤ z.natAbs * 2^s ∨ z.natAbs * 2^s = 0 := by
  by_cases h : z = 0
  · right; subst h; simp
  · left
    have h1 : (2:Nat)^(53+25) ≤ 2^s := Nat.pow_le_pow_right (by omega) (by omega)
    have h2 : 2^s ≤ z.natAbs * 2^s := Nat.le_mul_of_pos_left _ (by omega)
    exact Nat.le_trans h1 h2

theorem mg_of_V (x : Nat) : mg (rg x) = (V x).natAbs := by
  unfold V; cases ng x <;> simp

theorem b53 (z : Int) (h : z.natAbs ≤ 2^25) : (z * ((2^27+1 : Nat) : Int)).natAbs ≤ 2^53 ∧ (z * ((2^27 : Nat) : Int)).natAbs ≤ 2^53 := by
  constructor
  · rw [Int.natAbs_mul, Int.natAbs_natCast]; omega
  · rw [Int.natAbs_mul, Int.natAbs_natCast]; omega

theorem halves_short (a s : Nat) (z : Int) (ha : fin a) (hv : V a = z * ((2^s : Nat) : Int)) (hz : z.natAbs ≤ 2^25) (hs : 78 ≤ s) (hs2 : s ≤ 1200) :
    ∃ c t hi lo, double.mul a konst = some c ∧ double.sub c a = some t ∧ double.sub c t = some hi ∧ double.sub a hi = some lo ∧ fin hi ∧ fin lo ∧ V hi = V a ∧ V lo = 0 := by
  obtain ⟨B, hB⟩ : ∃ B, B = 2097 := ⟨_, rfl⟩
  have hb : 53 + s < B := by omega
  obtain ⟨k1, k2⟩ := b53 z hz
  have hz53 : z.natAbs ≤ 2^53 := by omega
  have hmg : mg (rg a) = z.natAbs * 2^s := by rw [mg_of_V, hv, abs_scale]
  obtain ⟨c, ec, fc, rc⟩ := mul_spec a konst _ (2^27+1) 25 ha read_konst (by decide +kernel) (by rw [hmg]; exact nz_big z s hs) B hB (by
    rw [hmg, Nat.mul_right_comm]
    rw [Int.natAbs_mul, Int.natAbs_natCast] at k1
    exact pow_lt_B k1 hb)
  have e1 : V a * ((2^27+1 : Nat) : Int) = z * ((2^27+1 : Nat) : Int) * ((2^s : Nat) : Int) := by
    rw [hv, Int.mul_assoc, Int.mul_comm ((2^s : Nat) : Int), Int.mul_assoc]
  have vc := RI_exact _ _ _ s rc (by rw [e1, abs_scale]) k1
  rw [e1] at vc
  have e2 : V c - V a = z * ((2^27 : Nat) : Int) * ((2^s : Nat) : Int) := by
    rw [vc, hv, ← Int.sub_mul]; congr 1; omega
  obtain ⟨t, et, ft, rt⟩ := sub_spec c a fc ha B hB (by rw [e2, abs_scale]; exact pow_lt_B k2 hb)
  have vt := RI_exact _ _ _ s rt (by rw [e2, abs_scale]) k2
  rw [e2] at vt
  have e3 : V c - V t = V a := by
    rw [vc, vt, hv, ← Int.sub_mul]; congr 1; omega
  have a3 : (V c - V t).natAbs = z.natAbs * 2^s := by rw [e3, hv, abs_scale]
  obtain ⟨hi, eh, fh, rh⟩ := sub_spec c t fc ft B hB (by rw [a3]; exact pow_lt_B hz53 hb)
  have vh := RI_exact _ _ _ s rh a3 hz53
  rw [e3] at vh
  have e4 : V a - V hi = 0 := by rw [vh]; omega
  obtain ⟨lo, el, fl, rl⟩ := sub_spec a hi ha fh B hB (by rw [e4]; exact Nat.two_pow_pos B)
  have vl := RI_exact _ _ 0 0 rl (by rw [e4]; rfl) (by omega)
  rw [e4] at vl
  exact ⟨c, t, hi, lo, ec, et, eh, el, fh, fl, vh, vl⟩

/-- 'float64(m)' of a small number. -/
theorem ofInt_spec (m : Int) (hm : m.natAbs ≤ 2^25) : fin (double.nearest (decide (m < 0)) m.natAbs 0) ∧ V (double.nearest (decide (m < 0)) m.natAbs 0) = m * ((2^1074 : Nat) : Int) := by
  obtain ⟨B, hB⟩ : ∃ B, B = 2097 := ⟨_, rfl⟩
  obtain ⟨s, hs⟩ : ∃ s, s = 1074 := ⟨_, rfl⟩
  have hb : 25 + s < B := by omega
  have e : ((0 : Int) + 1074).toNat = s := by omega
  rw [← hs]
  obtain ⟨f, r⟩ := near_RI (decide (m < 0)) m.natAbs 0 (by omega) B hB (by rw [e]; exact pow_lt_B hm hb) (m * ((2^s : Nat) : Int)) (by
    rw [e]
    by_cases h : m < 0
    · simp only [h, decide_true, if_true]
      rw [Int.natCast_mul, ← Int.neg_mul]; congr 1; omega
    · simp only [h, decide_false, Bool.false_eq_true, if_false]
      rw [Int.natCast_mul]; congr 1; omega)
  exact ⟨f, RI_exact _ _ _ s r (abs_scale m s) (by omega)⟩

theorem read_one : double.read 4607182418800017408 = .number false (2^52) (-((52 : Nat) : Int)) := by decide +kernel

theorem word_parts (s r : Nat) (hs : s < 2) (hr : r < 2^63) : rg (s * 2^63 + r) = r ∧ ng (s * 2^63 + r) = (s == 1) := by
  unfold rg ng
  refine ⟨by omega, ?_⟩
  rw [show (s * 2^63 + r) / 2^63 % 2 = s by omega]

/-- The exponent of f turned by e: the value is turned by 2^e. All over 2^100, so that no exponent is negative. -/
theorem scaled (f F x : Nat) (e : Int) (he1 : -100 ≤ e) (he2 : e ≤ 99) (hf : 2^52 ≤ rg f) (hF : F = rg f / 2^52) (hF1 : 1023 ≤ F) (hF2 : F ≤ 1048)
    (hx : x = f / 2^63 % 2 * 2^63 + ((e + F).toNat * 2^52 + f % 2^52)) :
    fin x ∧ V x * ((2^100 : Nat) : Int) = V f * ((2^(e+100).toNat : Nat) : Int) ∧ ∃ M q, mg (rg x) = M * 2^q ∧ M < 2^53 ∧ 2^52 ≤ M ∧ 105 ≤ q ∧ q ≤ 1200 := by
  obtain ⟨E, hE⟩ : ∃ E : Nat, E = (e + F).toNat := ⟨_, rfl⟩
  rw [← hE] at hx
  have hE1 : 923 ≤ E := by omega
  have hE2 : E ≤ 1147 := by omega
  have hr : E * 2^52 + f % 2^52 < 2^63 := by omega
  obtain ⟨g1, g2⟩ := word_parts (f / 2^63 % 2) (E * 2^52 + f % 2^52) (by omega) hr
  rw [← hx] at g1 g2
  have hmod : (E * 2^52 + f % 2^52) % 2^52 = f % 2^52 := by omega
  have hdiv : (E * 2^52 + f % 2^52) / 2^52 = E := by omega
  have hfm : rg f % 2^52 = f % 2^52 := by unfold rg; omega
  have mx : mg (rg x) = (2^52 + f % 2^52) * 2^(E-1) := by
    rw [g1]; unfold mg; rw [if_neg (by omega), hmod, hdiv]
  have mf : mg (rg f) = (2^52 + f % 2^52) * 2^(F-1) := by
    unfold mg; rw [if_neg (by omega), hfm, ← hF]
  have hfin : fin x := by unfold fin; rw [g1]; omega
  refine ⟨hfin, ?_, 2^52 + f % 2^52, E - 1, mx, by omega, by omega, by omega, by omega⟩
  have e100 : mg (rg x) * 2^100 = mg (rg f) * 2^(e+100).toNat := by
    rw [mx, mf, Nat.mul_assoc, Nat.mul_assoc, ← Nat.pow_add, ← Nat.pow_add]
    congr 2; omega
  have hng : ng x = ng f := by rw [g2]; rfl
  unfold V
  rw [hng]
  cases ng f
  · simp only [Bool.false_eq_true, if_false]; rw [← Int.natCast_mul, ← Int.natCast_mul, e100]
  · simp only [if_true]; rw [Int.neg_mul, Int.neg_mul, ← Int.natCast_mul, ← Int.natCast_mul, e100]

/-- '1.0 * x' is x. -/
theorem one_mul_spec (x M q : Nat) (hx : fin x) (hM : mg (rg x) = M * 2^q) (h1 : M < 2^53) (h2 : 2^52 ≤ M) (hq : 105 ≤ q) (hq2 : q ≤ 1200) :
    ∃ r, double.mul 4607182418800017408 x = some r ∧ fin r ∧ V r = V x := by
  obtain ⟨B, hB⟩ : ∃ B, B = 2097 := ⟨_, rfl⟩
  have hb : 53 + q < B := by omega
  obtain ⟨r, er, fr, rr⟩ := mul_spec' x 4607182418800017408 _ 1 52 hx read_one (by decide +kernel) (by
    left; rw [hM]
    have : (2:Nat)^(53+52) ≤ 2^q := Nat.pow_le_pow_right (by omega) (by omega)
    exact Nat.le_trans this (Nat.le_mul_of_pos_left _ (by omega))) B hB (by rw [Nat.mul_one, hM]; exact pow_lt_B (Nat.le_of_lt h1) hb)
  have e : V x * ((1 : Nat) : Int) = V x := by simp
  rw [e] at rr
  refine ⟨r, er, fr, RI_exact _ _ M q rr (by rw [← mg_of_V, hM]) (Nat.le_of_lt h1)⟩

/-- The exponent field of a small whole number. -/
theorem small_exp (r : Nat) (z : Nat) (s : Nat) (hs : s = 1074) (hz0 : 0 < z) (hz : z ≤ 2^25) (h : mg r = z * 2^s) : 2^52 ≤ r ∧ 1023 ≤ r / 2^52 ∧ r / 2^52 ≤ 1048 := by
  have hbig : 2^s ≤ mg r := by rw [h]; exact Nat.le_mul_of_pos_left _ hz0
  have hup : mg r ≤ 2^(25+s) := by rw [h, Nat.pow_add]; exact Nat.mul_le_mul_right _ hz
  have h52 : 2^52 ≤ r := by
    apply Classical.byContradiction
    intro hh
    have : mg r < 2^52 := by unfold mg; rw [if_pos (by omega)]; omega
    have h3 : (2:Nat)^52 ≤ 2^s := Nat.pow_le_pow_right (by omega) (by omega)
    omega
  have e : mg r = (2^52 + r % 2^52) * 2^(r / 2^52 - 1) := by unfold mg; rw [if_neg (by omega)]
  generalize hE : r / 2^52 = E at *
  refine ⟨h52, ?_, ?_⟩
  · have : 2^s < 2^(53 + (E - 1)) := by
      rw [Nat.pow_add]; refine Nat.lt_of_le_of_lt hbig ?_; rw [e]
      exact Nat.mul_lt_mul_of_pos_right (by omega) (Nat.two_pow_pos _)
    have := (Nat.pow_lt_pow_iff_right (a := 2) (by omega)).1 this
    omega
  · have : 2^(52 + (E - 1)) ≤ 2^(25+s) := by
      rw [Nat.pow_add]; refine Nat.le_trans ?_ hup; rw [e]
      exact Nat.mul_le_mul_right _ (by omega)
    have := (Nat.pow_le_pow_iff_right (a := 2) (by omega)).1 this
    omega

end Go.Proofs.Ybulkqfo.Fl
