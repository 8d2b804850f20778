import Ieee.Arith
/-! Plain arithmetic of doubles: no Go here. A finite double is a whole number of units of 2^-1074. -/
namespace Go.Proofs.Ybulkqfo.Fl
open Ieee

def mg (r : Nat) : Nat := if r < 2^52 then r else (2^52 + r % 2^52) * 2^(r / 2^52 - 1)
def ng (x : Nat) : Bool := x / 2^63 % 2 == 1
def rg (x : Nat) : Nat := x % 2^63
def fin (x : Nat) : Prop := rg x < 2047 * 2^52
/-- The value of a finite double in units of 2^-1074. -/
def V (x : Nat) : Int := if ng x then -(mg (rg x) : Int) else (mg (rg x) : Int)

theorem sw : double.signWeight = 2^63 := rfl
theorem bn : double.binade = 2^52 := rfl
theorem ir : double.infRung = 2047 * 2^52 := rfl
theorem lp : double.leastPlace = -1074 := rfl
theorem fb : double.fractionBits = 52 := rfl

theorem read_fin (x : Nat) (h : fin x) : ∃ m p, double.read x = .number (ng x) m p ∧ -1074 ≤ p ∧ m < 2^53 ∧ m * 2^(p+1074).toNat = mg (rg x) := by
  have h' : x % double.signWeight < double.infRung := h
  unfold fin rg at h
  unfold Format.read
  by_cases h1 : x % double.signWeight < double.binade
  · dsimp only
    rw [if_pos h1]
    rw [sw, bn] at h1
    refine ⟨x % 2^63, -1074, rfl, by omega, by omega, ?_⟩
    unfold mg rg; rw [if_pos h1]; simp
  · dsimp only
    rw [if_neg h1, if_pos h']
    rw [sw, bn] at h1
    refine ⟨2^52 + (x % 2^63) % 2^52, -1074 + ((x % 2^63) / 2^52 - 1 : Nat), rfl, by omega, by omega, ?_⟩
    unfold mg rg; rw [if_neg h1]
    congr 2
    omega

theorem log2_mul_pow (m k : Nat) (hm : m ≠ 0) : (m * 2^k).log2 = m.log2 + k := by
  have h2 : m * 2^k ≠ 0 := Nat.mul_ne_zero hm (Nat.ne_of_gt (Nat.two_pow_pos k))
  have a := Nat.log2_self_le hm
  have b := Nat.lt_log2_self (n := m)
  apply Nat.le_antisymm
  · have : m * 2^k < 2^(m.log2 + k + 1) := by
      rw [show m.log2 + k + 1 = (m.log2 + 1) + k by omega, Nat.pow_add]
      exact Nat.mul_lt_mul_of_pos_right b (Nat.two_pow_pos k)
    have := (Nat.log2_lt h2).2 this
    omega
  · apply (Nat.le_log2 h2).2
    rw [Nat.pow_add]
    exact Nat.mul_le_mul_right _ a

/-- What rounding to the nearest gives: R for N (in units), at the digit 2^L. -/
structure Rd (N R L : Nat) : Prop where
  dvd : 2^L ∣ R
  up : 2 * R ≤ 2 * N + 2^L
  dn : 2 * N ≤ 2 * R + 2^L
  lo : L = 0 ∨ 2^(52+L) ≤ N
  hi : N < 2^(53+L)

theorem cut_spec (neg : Bool) (n d : Nat) (hd : d ≤ n.log2 + 2) : 2 * (Toward.even.cut neg n d * 2^d) ≤ 2 * n + 2^d ∧ 2 * n ≤ 2 * (Toward.even.cut neg n d * 2^d) + 2^d := by
  unfold Toward.cut
  simp only [Nat.min_eq_left hd, Nat.one_shiftLeft]
  have hp := Nat.two_pow_pos d
  generalize 2^d = g at *
  have e := Nat.div_add_mod n g
  have l := Nat.mod_lt n hp
  generalize n / g = q at *
  generalize n % g = r at *
  have c : g * q = q * g := Nat.mul_comm _ _
  cases hb : (decide (g < 2 * r) || (g == 2 * r && q % 2 == 1))
  · simp at hb
    simp only [Bool.toNat_false, Nat.add_zero]
    omega
  · have : g ≤ 2 * r := by
      simp only [Bool.or_eq_true, decide_eq_true_eq, Bool.and_eq_true, beq_iff_eq] at hb
      omega
    simp only [Bool.toNat_true, Nat.add_mul, Nat.one_mul]
    omega

theorem mg_rung (L k : Nat) (hk : k ≤ 2^53) (hL : L = 0 ∨ 2^52 ≤ k) : mg (L * 2^52 + k) = k * 2^L := by
  unfold mg
  by_cases h : L * 2^52 + k < 2^52
  · rw [if_pos h]
    have : L = 0 := by omega
    subst this; simp
  · rw [if_neg h]
    have h1 : (L * 2^52 + k) % 2^52 = k % 2^52 := by omega
    have h2 : (L * 2^52 + k) / 2^52 = L + k / 2^52 := by omega
    rw [h1, h2]
    by_cases h3 : k < 2^52
    · have : L = 0 := by omega
      subst this; omega
    · by_cases h4 : k = 2^53
      · subst h4
        rw [show (2^53 % 2^52 : Nat) = 0 from rfl, show L + 2^53 / 2^52 - 1 = 1 + L by omega, Nat.pow_add]
        omega
      · rw [show (k % 2^52) = k - 2^52 by omega, show k / 2^52 = 1 by omega]
        rw [show L + 1 - 1 = L by omega, show 2^52 + (k - 2^52) = k by omega]

theorem near (neg : Bool) (m : Nat) (p : Int) (hp : -1074 ≤ p) (hm : m ≠ 0) (B : Nat) (hB : B = 2097) (hN : m * 2^(p+1074).toNat < 2^B) :
    fin (double.nearest neg m p) ∧ ng (double.nearest neg m p) = neg ∧ ∃ L, Rd (m * 2^(p+1074).toNat) (mg (rg (double.nearest neg m p))) L := by
  obtain ⟨k, hk⟩ : ∃ k, (p+1074).toNat = k := ⟨_, rfl⟩
  rw [hk] at hN ⊢
  have hN0 : m * 2^k ≠ 0 := Nat.mul_ne_zero hm (Nat.ne_of_gt (Nat.two_pow_pos k))
  have hlog : (m * 2^k).log2 = m.log2 + k := log2_mul_pow m k hm
  have hlb : m.log2 + k < B := by rw [← hlog]; exact (Nat.log2_lt hN0).2 hN
  have a := Nat.log2_self_le hm
  have b := Nat.lt_log2_self (n := m)
  -- the kept digits and the place
  obtain ⟨L, hL⟩ : ∃ L, L = (m.log2 + k) - 52 := ⟨_, rfl⟩
  have hlast : max (p + (m.log2 : Int) - ((52 : Nat) : Int)) (-1074) = (L : Int) - 1074 := by omega
  -- K
  have key : ∃ K, Toward.even.cut neg (m <<< (p - ((L : Int) - 1074)).toNat) ((L : Int) - 1074 - p).toNat = K ∧ 2 * (K * 2^L) ≤ 2 * (m * 2^k) + 2^L ∧ 2 * (m * 2^k) ≤ 2 * (K * 2^L) + 2^L := by
    refine ⟨_, rfl, ?_⟩
    by_cases hc : L ≤ k
    · rw [show (p - ((L : Int) - 1074)).toNat = k - L by omega, show ((L : Int) - 1074 - p).toNat = 0 by omega]
      have := cut_spec neg (m <<< (k - L)) 0 (by omega)
      simp only [Nat.pow_zero, Nat.mul_one] at this
      have e : (m <<< (k - L)) * 2^L = m * 2^k := by
        rw [Nat.shiftLeft_eq, Nat.mul_assoc, ← Nat.pow_add, show k - L + L = k by omega]
      generalize Toward.even.cut neg (m <<< (k - L)) 0 = K at *
      have : K = m <<< (k - L) := by omega
      rw [this, e]
      have := Nat.two_pow_pos L
      omega
    · rw [show (p - ((L : Int) - 1074)).toNat = 0 by omega, show ((L : Int) - 1074 - p).toNat = L - k by omega]
      rw [Nat.shiftLeft_zero]
      have := cut_spec neg m (L - k) (by omega)
      generalize Toward.even.cut neg m (L - k) = K at *
      have e1 : K * 2^L = K * 2^(L-k) * 2^k := by rw [Nat.mul_assoc, ← Nat.pow_add, show L - k + k = L by omega]
      have e2 : (2:Nat)^L = 2^(L-k) * 2^k := by rw [← Nat.pow_add, show L - k + k = L by omega]
      rw [e1, e2]
      generalize K * 2^(L-k) = X at *
      generalize (2:Nat)^(L-k) = Y at *
      generalize (2:Nat)^k = Z at *
      constructor
      · have := Nat.mul_le_mul_right Z this.1
        rw [Nat.add_mul, Nat.mul_assoc, Nat.mul_assoc] at this
        exact this
      · have := Nat.mul_le_mul_right Z this.2
        rw [Nat.add_mul, Nat.mul_assoc, Nat.mul_assoc] at this
        exact this
  obtain ⟨K, hK, k1, k2⟩ := key
  have hNlt : m * 2^k < 2^(53 + L) := by
    have h1 := Nat.lt_log2_self (n := m * 2^k)
    rw [hlog] at h1
    exact Nat.lt_of_lt_of_le h1 (Nat.pow_le_pow_right (by omega) (by omega))
  have hNlo : L = 0 ∨ 2^(52 + L) ≤ m * 2^k := by
    by_cases h : L = 0
    · exact Or.inl h
    · right
      have h1 := Nat.log2_self_le hN0
      rw [hlog] at h1
      rw [show 52 + L = m.log2 + k by omega]; exact h1
  have hKle : K ≤ 2^53 := by
    have : 2 * K * 2^L < 2 * 2^53 * 2^L + 2^L := by
      rw [Nat.pow_add] at hNlt
      rw [Nat.mul_assoc, Nat.mul_assoc]; omega
    have : 2 * K < 2 * 2^53 + 1 := by
      apply Nat.lt_of_mul_lt_mul_right (a := 2^L)
      rw [Nat.add_mul, Nat.one_mul]; exact this
    omega
  have hKge : L = 0 ∨ 2^52 ≤ K := by
    rcases hNlo with h | h
    · exact Or.inl h
    · right
      rw [Nat.pow_add] at h
      have : 2 * 2^52 * 2^L ≤ (2 * K + 1) * 2^L := by
        rw [Nat.add_mul, Nat.one_mul, Nat.mul_assoc, Nat.mul_assoc]; omega
      have := Nat.le_of_mul_le_mul_right this (Nat.two_pow_pos L)
      omega
  have hrung : L * 2^52 + K < 2047 * 2^52 := by omega
  have hword : double.nearest neg m p = double.word neg (L * 2^52 + K) := by
    unfold Format.nearest
    rw [if_neg hm]
    simp only [lp, bn, ir, fb]
    rw [hlast]
    rw [hK, show ((L : Int) - 1074 - -1074).toNat = L by omega, Nat.min_eq_left (by omega)]
  have hrg : rg (double.nearest neg m p) = L * 2^52 + K := by
    rw [hword]; unfold Format.word rg; rw [sw]; cases neg <;> simp only [Bool.false_eq_true, if_false, if_true] <;> omega
  have hng : ng (double.nearest neg m p) = neg := by
    rw [hword]; unfold Format.word ng; rw [sw]; cases neg <;> simp only [Bool.false_eq_true, if_false, if_true, beq_iff_eq, beq_eq_false_iff_ne, ne_eq] <;> omega
  refine ⟨by unfold fin; rw [hrg]; exact hrung, hng, L, ?_⟩
  rw [hrg, mg_rung L K hKle hKge]
  exact ⟨Nat.dvd_mul_left .., k1, k2, hNlo, hNlt⟩


/-- Rounding, with a sign. -/
def RI (N R : Int) : Prop := (N = 0 ∧ R = 0) ∨ (0 < N ∧ 0 ≤ R ∧ ∃ L, Rd N.toNat R.toNat L) ∨ (N < 0 ∧ R ≤ 0 ∧ ∃ L, Rd (-N).toNat (-R).toNat L)

theorem near_zero (neg : Bool) (p : Int) : fin (double.nearest neg 0 p) ∧ V (double.nearest neg 0 p) = 0 := by
  have : double.nearest neg 0 p = double.word neg 0 := by unfold Format.nearest; rw [if_pos rfl]
  rw [this]
  cases neg
  · exact ⟨by unfold fin; decide +kernel, by decide +kernel⟩
  · exact ⟨by unfold fin; decide +kernel, by decide +kernel⟩

theorem near_RI (neg : Bool) (m : Nat) (p : Int) (hp : -1074 ≤ p) (B : Nat) (hB : B = 2097) (hN : m * 2^(p+1074).toNat < 2^B) (N : Int)
    (h : N = (if neg then -((m * 2^(p+1074).toNat : Nat) : Int) else ((m * 2^(p+1074).toNat : Nat) : Int))) :
    fin (double.nearest neg m p) ∧ RI N (V (double.nearest neg m p)) := by
  by_cases hm : m = 0
  · subst hm
    have := near_zero neg p
    refine ⟨this.1, Or.inl ⟨?_, this.2⟩⟩
    rw [h]; cases neg <;> simp
  · obtain ⟨h1, h2, L, h3⟩ := near neg m p hp hm B hB hN
    refine ⟨h1, ?_⟩
    have hpos : 0 < m * 2^(p+1074).toNat := Nat.mul_pos (by omega) (Nat.two_pow_pos _)
    generalize m * 2^(p+1074).toNat = X at *
    unfold V
    rw [h2]
    generalize mg (rg (double.nearest neg m p)) = Y at *
    cases neg
    · right; left
      simp only [Bool.false_eq_true, if_false] at h ⊢
      subst h
      exact ⟨by omega, by omega, L, by simpa using h3⟩
    · right; right
      simp only [if_true] at h ⊢
      subst h
      exact ⟨by omega, by omega, L, by simpa using h3⟩

theorem signed_eq (neg : Bool) (m k : Nat) : signed neg m k = (if neg then -(m : Int) else (m : Int)) * ((2^k : Nat) : Int) := by
  unfold signed
  rw [Nat.shiftLeft_eq]
  cases neg
  · simp only [Bool.false_eq_true, if_false]; exact Int.natCast_mul _ _
  · simp only [if_true]; rw [Int.natCast_mul, Int.neg_mul]

theorem signed_V (x m : Nat) (p base : Int) (hb : base ≤ p) (hb2 : -1074 ≤ base) (h : m * 2^(p+1074).toNat = mg (rg x)) :
    signed (ng x) m (p - base).toNat * ((2^(base+1074).toNat : Nat) : Int) = V x := by
  rw [signed_eq, Int.mul_assoc, ← Int.natCast_mul, ← Nat.pow_add, show (p - base).toNat + (base + 1074).toNat = (p + 1074).toNat by omega]
  unfold V
  rw [← h]
  cases ng x
  · simp only [Bool.false_eq_true, if_false]; rw [Int.natCast_mul]
  · simp only [if_true]; rw [Int.natCast_mul, Int.neg_mul]

theorem natAbs_scale (t : Int) (k : Nat) (N : Int) (h : t * ((2^k : Nat) : Int) = N) : t.natAbs * 2^k = N.natAbs := by
  rw [← h, Int.natAbs_mul]; simp

theorem sum_core (s t : Bool) (m n : Nat) (i j : Int) (a b : Int) (hi : -1074 ≤ i) (hj : -1074 ≤ j)
    (ha : signed s m (i - min i j).toNat * ((2^(min i j+1074).toNat : Nat) : Int) = a)
    (hb : signed t n (j - min i j).toNat * ((2^(min i j+1074).toNat : Nat) : Int) = b)
    (B : Nat) (hB : B = 2097) (hN : (a + b).natAbs < 2^B) :
    ∃ r, ((Datum.number s m i).sum (.number t n j)).map double.write = some r ∧ fin r ∧ RI (a + b) (V r) := by
  refine ⟨_, rfl, ?_⟩
  unfold Format.write
  simp only
  generalize hT : signed s m (i - min i j).toNat + signed t n (j - min i j).toNat = T
  have hs : T * ((2^(min i j+1074).toNat : Nat) : Int) = a + b := by
    rw [← hT, Int.add_mul, ha, hb]
  have hn := natAbs_scale _ _ _ hs
  have hpos : (0 : Int) < ((2^(min i j+1074).toNat : Nat) : Int) := Int.natCast_pos.2 (Nat.two_pow_pos _)
  refine near_RI _ _ _ (by omega) B hB (by rw [hn]; exact hN) _ ?_
  rw [hn]
  by_cases h0 : T = 0
  · have : a + b = 0 := by rw [← hs, h0, Int.zero_mul]
    rw [this]; cases (if T = 0 then s && t else decide (T < 0)) <;> simp
  · rw [if_neg h0]
    by_cases h1 : T < 0
    · have : a + b < 0 := by rw [← hs]; exact Int.mul_neg_of_neg_of_pos h1 hpos
      simp only [h1, decide_true, if_true]; omega
    · have : 0 < a + b := by rw [← hs]; exact Int.mul_pos (by omega) hpos
      simp only [h1, decide_false, Bool.false_eq_true, if_false]; omega

theorem add_spec (x y : Nat) (hx : fin x) (hy : fin y) (B : Nat) (hB : B = 2097) (hN : (V x + V y).natAbs < 2^B) :
    ∃ r, double.add x y = some r ∧ fin r ∧ RI (V x + V y) (V r) := by
  obtain ⟨m, i, e1, h1, _, g1⟩ := read_fin x hx
  obtain ⟨n, j, e2, h2, _, g2⟩ := read_fin y hy
  unfold Format.add
  rw [e1, e2]
  exact sum_core _ _ _ _ _ _ _ _ h1 h2 (signed_V x m i (min i j) (by omega) (by omega) g1) (signed_V y n j (min i j) (by omega) (by omega) g2) B hB hN

theorem signed_opp (s : Bool) (m k : Nat) : signed (!s) m k = - signed s m k := by
  unfold signed; cases s <;> simp

theorem sub_spec (x y : Nat) (hx : fin x) (hy : fin y) (B : Nat) (hB : B = 2097) (hN : (V x - V y).natAbs < 2^B) :
    ∃ r, double.sub x y = some r ∧ fin r ∧ RI (V x - V y) (V r) := by
  obtain ⟨m, i, e1, h1, _, g1⟩ := read_fin x hx
  obtain ⟨n, j, e2, h2, _, g2⟩ := read_fin y hy
  unfold Format.sub
  rw [e1, e2]
  unfold Datum.opposite
  rw [Int.sub_eq_add_neg] at hN ⊢
  refine sum_core _ _ _ _ _ _ _ _ h1 h2 (signed_V x m i (min i j) (by omega) (by omega) g1) ?_ B hB hN
  rw [signed_opp, Int.neg_mul, signed_V y n j (min i j) (by omega) (by omega) g2]

theorem big_place (m : Nat) (p : Int) (k M : Nat) (hp : -1074 ≤ p) (hm : m < 2^53) (h : m * 2^(p+1074).toNat = M) (big : 2^(53+k) ≤ M) : -1074 + (k : Int) ≤ p := by
  by_cases hc : -1074 + (k : Int) ≤ p
  · exact hc
  · exfalso
    have h1 : (2:Nat)^(p+1074).toNat ≤ 2^k := Nat.pow_le_pow_right (by omega) (by omega)
    have h2 : m * 2^(p+1074).toNat < 2^53 * 2^k := Nat.lt_of_le_of_lt (Nat.mul_le_mul_left m h1) (Nat.mul_lt_mul_of_pos_right hm (Nat.two_pow_pos k))
    rw [h, ← Nat.pow_add] at h2
    omega

theorem mul_core (s : Bool) (m n c k M : Nat) (i : Int) (hi : -1074 ≤ i) (hm : m < 2^53) (hM : m * 2^(i+1074).toNat = M) (hn : n = c * 2^k) (big : 2^(53+k) ≤ M ∨ M = 0)
    (B : Nat) (hB : B = 2097) (hN : M * c < 2^B) (N : Int) (h : N = (if s then -((M * c : Nat) : Int) else ((M * c : Nat) : Int))) :
    fin (double.nearest s (m * n) (i - k)) ∧ RI N (V (double.nearest s (m * n) (i - k))) := by
  rcases big with big | h0
  · have hp := big_place m i k M hi hm hM big
    have e : m * n * 2^(i - k + 1074).toNat = M * c := by
      rw [← hM, hn, show (i + 1074).toNat = k + (i - k + 1074).toNat by omega, Nat.pow_add]
      simp only [Nat.mul_assoc, Nat.mul_comm, Nat.mul_left_comm]
    exact near_RI _ _ _ (by omega) B hB (by rw [e]; exact hN) N (by rw [e]; exact h)
  · have : m = 0 := by
      rw [h0] at hM
      rcases Nat.mul_eq_zero.1 hM with h | h
      · exact h
      · have := Nat.two_pow_pos (i+1074).toNat; omega
    subst this
    rw [Nat.zero_mul]
    have z := near_zero s (i - k)
    refine ⟨z.1, Or.inl ⟨?_, z.2⟩⟩
    rw [h, h0]; cases s <;> simp

theorem mul_spec (x y n c k : Nat) (hx : fin x) (hy : double.read y = .number false n (-(k : Int))) (hn : n = c * 2^k) (big : 2^(53+k) ≤ mg (rg x) ∨ mg (rg x) = 0)
    (B : Nat) (hB : B = 2097) (hN : mg (rg x) * c < 2^B) : ∃ r, double.mul x y = some r ∧ fin r ∧ RI (V x * c) (V r) := by
  obtain ⟨m, i, e1, h1, hm, g1⟩ := read_fin x hx
  unfold Format.mul
  rw [e1, hy]
  refine ⟨_, rfl, ?_⟩
  unfold Format.write
  simp only [Bool.bne_false]
  refine mul_core (ng x) m n c k _ i h1 hm g1 hn big B hB hN _ ?_
  unfold V
  cases ng x
  · simp
  · simp [Int.neg_mul]

theorem mul_spec' (x y n c k : Nat) (hx : fin x) (hy : double.read y = .number false n (-(k : Int))) (hn : n = c * 2^k) (big : 2^(53+k) ≤ mg (rg x) ∨ mg (rg x) = 0)
    (B : Nat) (hB : B = 2097) (hN : mg (rg x) * c < 2^B) : ∃ r, double.mul y x = some r ∧ fin r ∧ RI (V x * c) (V r) := by
  have : double.mul y x = double.mul x y := by
    obtain ⟨m, i, e1, h1, hm, g1⟩ := read_fin x hx
    unfold Format.mul
    rw [e1, hy]
    unfold Datum.product
    simp only [Bool.bne_false, Bool.false_bne]
    rw [Nat.mul_comm, Int.add_comm]
  rw [this]; exact mul_spec x y n c k hx hy hn big B hB hN

theorem order_spec (x y : Nat) (hx : fin x) (hy : fin y) : double.order x y = some (compare (V x) (V y)) := by
  obtain ⟨m, i, e1, h1, _, g1⟩ := read_fin x hx
  obtain ⟨n, j, e2, h2, _, g2⟩ := read_fin y hy
  unfold Format.order
  rw [e1, e2]
  unfold Datum.order
  simp only
  congr 1
  have a := signed_V x m i (min i j) (by omega) (by omega) g1
  have b := signed_V y n j (min i j) (by omega) (by omega) g2
  rw [← a, ← b]
  have hpos : (0 : Int) < ((2^(min i j+1074).toNat : Nat) : Int) := Int.natCast_pos.2 (Nat.two_pow_pos _)
  generalize signed (ng x) m (i - min i j).toNat = X
  generalize signed (ng y) n (j - min i j).toNat = Y
  generalize ((2^(min i j+1074).toNat : Nat) : Int) = Z at *
  simp only [compare, compareOfLessAndEq]
  have c1 : X * Z < Y * Z ↔ X < Y := ⟨fun h => Int.lt_of_mul_lt_mul_right h (by omega), fun h => Int.mul_lt_mul_of_pos_right h hpos⟩
  have c2 : X * Z = Y * Z ↔ X = Y := ⟨fun h => Int.eq_of_mul_eq_mul_right (by omega) h, fun h => by rw [h]⟩
  simp only [c1, c2]

/-- A number of at most 53 digits is its own rounding. -/
theorem Rd_exact (N R L k q : Nat) (h : Rd N R L) (hN : N = k * 2^q) (hk : k ≤ 2^53) : R = N := by
  have hd : 2^L ∣ N := by
    rcases h.lo with h0 | h0
    · subst h0; exact Nat.one_dvd _
    · by_cases h53 : k = 2^53
      · subst h53
        rw [hN, ← Nat.pow_add] at h0 ⊢
        exact Nat.pow_dvd_pow 2 (by have := (Nat.pow_le_pow_iff_right (a := 2) (by omega)).1 h0; omega)
      · have : 2^(52+L) < 2^(53+q) := by
          refine Nat.lt_of_le_of_lt h0 ?_
          rw [hN, Nat.pow_add]
          exact Nat.mul_lt_mul_of_pos_right (by omega) (Nat.two_pow_pos q)
        have := (Nat.pow_lt_pow_iff_right (a := 2) (by omega)).1 this
        rw [hN]
        exact Nat.dvd_trans (Nat.pow_dvd_pow 2 (by omega)) (Nat.dvd_mul_left ..)
  obtain ⟨a, ha⟩ := hd
  obtain ⟨b, hb⟩ := h.dvd
  have h1 := h.up; have h2 := h.dn
  have hp := Nat.two_pow_pos L
  subst ha hb
  generalize 2^L = g at *
  have e : a = b := by
    have u : g * (2 * b) ≤ g * (2 * a + 1) := by rw [Nat.mul_add, Nat.mul_left_comm, Nat.mul_left_comm g 2 a]; omega
    have v : g * (2 * a) ≤ g * (2 * b + 1) := by rw [Nat.mul_add, Nat.mul_left_comm, Nat.mul_left_comm g 2 b]; omega
    have := Nat.le_of_mul_le_mul_left u hp
    have := Nat.le_of_mul_le_mul_left v hp
    omega
  rw [e]

theorem RI_exact (N R : Int) (k q : Nat) (h : RI N R) (hN : N.natAbs = k * 2^q) (hk : k ≤ 2^53) : R = N := by
  rcases h with ⟨a, b⟩ | ⟨a, b, L, c⟩ | ⟨a, b, L, c⟩
  · omega
  · have := Rd_exact _ _ _ k q c (by rw [← hN]; omega) hk
    omega
  · have := Rd_exact _ _ _ k q c (by rw [← hN]; omega) hk
    omega

end Go.Proofs.Ybulkqfo.Fl
