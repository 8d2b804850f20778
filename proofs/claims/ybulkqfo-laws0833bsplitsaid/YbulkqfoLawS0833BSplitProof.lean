import Derived.Test.YbulkqfoFW
import Derived.ProofKit
import Derived.ShutString
namespace Go.Proofs.Ybulkqfo.lawS0833BSplit
open Go.ChangeShapes Go.WideShapes Go.ChangeAt Go.RowKit
open Go.ChangeMaps (open_string shut_string)
open Fl

theorem own : ownKnob Yba.prog.godebug = none := by kernel_rfl

def KHi : Nat := 9065746049896808448
def KLo : Nat := 553942754166571008
theorem fin_hi : fin KHi := by unfold fin; decide +kernel
theorem fin_lo : fin KLo := by unfold fin; decide +kernel
theorem fin_0 : fin 0 := by unfold fin; decide +kernel
theorem V_hi : V KHi = 2^2064 := by decide +kernel
theorem V_lo : V KLo = 2^174 := by decide +kernel
theorem V_0 : V 0 = 0 := by decide +kernel

theorem rg_rg (a : Nat) : rg (rg a) = rg a := by unfold rg; omega
theorem ng_rg (a : Nat) : ng (rg a) = false := by unfold ng rg; rw [beq_eq_false_iff_ne]; omega
theorem V_rg (a : Nat) : V (rg a) = (mg (rg a) : Int) := by unfold V; rw [ng_rg, rg_rg]; simp
theorem fin_rg (a : Nat) : fin (rg a) ↔ fin a := by unfold fin; rw [rg_rg]

/-- A word that is not finite is not at most 2^990. -/
theorem fin_of_leq (a : Nat)
    (h : (FloatKind.f64.format.order (rg a) KHi == some .lt || FloatKind.f64.format.order (rg a) KHi == some .eq) = true) : fin a := by
  apply Classical.byContradiction
  intro hf
  obtain ⟨m, p, e, -, -, -⟩ := read_fin KHi fin_hi
  have hn : ¬ (rg a) % Ieee.double.signWeight < Ieee.double.infRung := by
    intro hh; exact hf ((fin_rg a).1 hh)
  have hb : ¬ (rg a) % Ieee.double.signWeight < Ieee.double.binade := by
    intro hh; apply hn; refine Nat.lt_trans hh ?_; decide
  have hng : ((rg a) / Ieee.double.signWeight % 2 == 1) = false := ng_rg a
  have hr : ∃ d, Ieee.double.read (rg a) = d ∧ (d = .infinity false ∨ ∃ s t, d = .nan s t) := by
    unfold Ieee.Format.read
    dsimp only
    rw [if_neg hb, if_neg hn, hng]
    split
    · exact ⟨_, rfl, Or.inl rfl⟩
    · exact ⟨_, rfl, Or.inr ⟨_, _, rfl⟩⟩
  obtain ⟨d, hd, hd'⟩ := hr
  change (Ieee.double.order (rg a) KHi == some .lt || Ieee.double.order (rg a) KHi == some .eq) = true at h
  unfold Ieee.Format.order at h
  rw [hd, e] at h
  rcases hd' with rfl | ⟨s, t, rfl⟩
  · revert h; unfold Ieee.Datum.order; simp
  · revert h; unfold Ieee.Datum.order; simp

theorem ord (x y : Nat) (hx : fin x) (hy : fin y) : FloatKind.f64.format.order x y = some (compare (V x) (V y)) := order_spec x y hx hy

theorem cmp_eq (x y : Int) : (some (compare x y) == some Ordering.eq) = decide (x = y) := by
  rw [Bool.eq_iff_iff]; simp
theorem cmp_lt (x y : Int) : (some (compare x y) == some Ordering.lt) = decide (x < y) := by
  rw [Bool.eq_iff_iff]; simp [Int.compare_eq_lt]

theorem few7_of (x : Nat) (hx : x < 2^64) (hf : fin x) (h : V x = 0 ∨ ∃ j q, mg (rg x) = j * 2^q ∧ 0 < j ∧ j ≤ 2^26 ∧ 52 ≤ q) : few7 x := by
  intro w
  by_cases h0 : V x = 0
  · exact few_zero x w (by rw [ord x 0 hf fin_0, cmp_eq, V_0, h0]; rfl)
  · rcases h with h | ⟨j, q, e, j1, j2, hq⟩
    · exact absurd h h0
    · obtain ⟨g1, g2⟩ := few_of (rg x) j q e j1 j2 hq
      exact few_pos x w hx (by rw [ord x 0 hf fin_0, cmp_eq, V_0]; exact decide_eq_false h0) g1 g2

theorem mg_abs (x : Nat) : mg (rg x) = (V x).natAbs := by
  unfold V; cases ng x <;> simp

theorem sub_lt64 {x y r : Nat} (h : Ieee.double.sub x y = some r) : r < 2^64 := Ieee.Format.sub_lt _ h

theorem qbounds (m q M B : Nat) (h : M = m * 2^q) (h1 : 2^52 ≤ m) (h2 : m < 2^53) (hB : B = 2064) (hM : M ≤ 2^B) (hL : 2^174 ≤ M) : q ≤ 2013 ∧ 121 ≤ q := by
  constructor
  · have : 2^(52+q) ≤ 2^B := by
      rw [Nat.pow_add]; refine Nat.le_trans (Nat.mul_le_mul_right _ h1) ?_; rw [← h]; exact hM
    have := (Nat.pow_le_pow_iff_right (a := 2) (by omega)).1 this
    omega
  · have : 2^174 < 2^(53+q) := by
      rw [Nat.pow_add]; refine Nat.lt_of_le_of_lt hL ?_; rw [h]; exact Nat.mul_lt_mul_of_pos_right h2 (Nat.two_pow_pos q)
    have := (Nat.pow_lt_pow_iff_right (a := 2) (by omega)).1 this
    omega

theorem rg_big (r : Nat) (h : 2^174 ≤ mg r) : 2^52 ≤ r := by
  apply Classical.byContradiction
  intro hh
  unfold mg at h
  rw [if_pos (by omega)] at h
  omega

theorem pow_cast (B : Nat) : ((2^B : Nat) : Int) = 2^B := by simp
theorem le_of_nlt (n B : Nat) (h : ¬ (n : Int) < 2^B) : 2^B ≤ n := by
  rw [← pow_cast] at h; omega
theorem le_of_lor (n B : Nat) (h : (n : Int) < 2^B ∨ (n : Int) = 2^B) : n ≤ 2^B := by
  rw [← pow_cast] at h; omega

theorem sum_eq (m k q : Nat) : ((k * 2^(27+q) : Nat) : Int) + ((m : Int) - (k * 2^27 : Nat)) * ((2^q : Nat) : Int) = ((m * 2^q : Nat) : Int) := by
  rw [Int.sub_mul, ← Int.natCast_mul, ← Int.natCast_mul, Nat.pow_add, ← Nat.mul_assoc]
  omega

theorem nz (j : Int) (h : ¬ j = 0) : 0 < j.natAbs := by omega

theorem mid (a m q : Nat) (w : World) (ha : a < 2^64) (hf : fin a) (hle : (FloatKind.f64.format.order (rg a) KHi == some .lt || FloatKind.f64.format.order (rg a) KHi == some .eq) = true)
    (hs' : (FloatKind.f64.format.order (rg a) 0 != some .eq) = false ∨ (FloatKind.f64.format.order (rg a) KLo == some .lt) = false)
    (em : mg (rg a) = m * 2^q) (m1 : 2^52 ≤ m) (m2 : m < 2^53) (q1 : q ≤ 2013) (q2 : 121 ≤ q) :
    Calls Yba.prog 3 #[.float .f64 a] w fun e w' => e = .returned (.bool true) ∧ w' = w := by
  have b53 : 53 + q < 2097 := by omega
  have q3 : 52 ≤ q := by omega
  have q4 : 52 ≤ 27 + q := by omega
  have q5 : 26 ≤ q := by omega
  obtain ⟨B, hB⟩ : ∃ B, B = 2097 := ⟨_, rfl⟩
  rw [← hB] at b53
  obtain ⟨c, t, hi, lo, k, e1, e2, e3, e4, f1, f2, σ, hσ, va, vh, vl, k1, k2, k3, k4⟩ := halves_normal a m q hf em m1 m2 q5 q1
  have hsum : V hi + V lo = V a := by
    rw [vh, vl, va, ← Int.mul_add, sum_eq]
  have habs : (V hi + V lo).natAbs = m * 2^q := by rw [hsum, va, sg_abs hσ, Int.natAbs_natCast]
  obtain ⟨s, e5, f5, r5⟩ := add_spec hi lo f1 f2 B hB (by rw [habs]; exact pow_lt_B (n := 53) (Nat.le_of_lt m2) b53)
  have v5 := RI_exact _ _ m q r5 habs (Nat.le_of_lt m2)
  rw [hsum] at v5
  refine split_mid a c t hi lo s w ha hle hs' e1 e2 e3 e4 e5 (by rw [bne, ord s a f5 hf, cmp_eq, v5]; simp) (few7_of hi (sub_lt64 e3) f1 (Or.inr ?_)) (few7_of lo (sub_lt64 e4) f2 ?_)
  · refine ⟨k, 27 + q, ?_, k1, k2, q4⟩
    rw [mg_abs, vh, sg_abs hσ, Int.natAbs_natCast]
  · by_cases hj : (m : Int) - (k * 2^27 : Nat) = 0
    · left; rw [vl, hj, Int.zero_mul, Int.mul_zero]
    · right
      refine ⟨((m : Int) - (k * 2^27 : Nat)).natAbs, q, ?_, nz _ hj, aux_abs m (k * 2^27) k3 k4, q3⟩
      rw [mg_abs, vl, sg_abs hσ, Int.natAbs_mul, Int.natAbs_natCast]

theorem zero (a : Nat) (w : World) (ha : a < 2^64) (hf : fin a) (hle : (FloatKind.f64.format.order (rg a) KHi == some .lt || FloatKind.f64.format.order (rg a) KHi == some .eq) = true)
    (hs' : (FloatKind.f64.format.order (rg a) 0 != some .eq) = false ∨ (FloatKind.f64.format.order (rg a) KLo == some .lt) = false) (h0 : V a = 0) :
    Calls Yba.prog 3 #[.float .f64 a] w fun e w' => e = .returned (.bool true) ∧ w' = w := by
  obtain ⟨B, hB⟩ : ∃ B, B = 2097 := ⟨_, rfl⟩
  obtain ⟨c, t, hi, lo, e1, e2, e3, e4, f1, f2, v1, v2⟩ := halves_zero a hf h0
  obtain ⟨s, e5, f5, r5⟩ := add_spec hi lo f1 f2 B hB (by rw [v1, v2]; exact Nat.two_pow_pos B)
  rw [v1, v2] at r5
  have v5 : V s = 0 := RI_exact 0 _ 0 0 r5 rfl (by omega)
  exact split_mid a c t hi lo s w ha hle hs' e1 e2 e3 e4 e5 (by rw [bne, ord s a f5 hf, cmp_eq, v5, h0]; rfl)
    (few7_of hi (sub_lt64 e3) f1 (Or.inl v1)) (few7_of lo (sub_lt64 e4) f2 (Or.inl v2))

theorem walk (a : Nat) (w0 : (Lit.float .f64 a).wf = true) (w : World) :
    Calls Yba.prog 3 #[.float .f64 a] w fun e w' => e = .returned (.bool true) ∧ w' = w := by
  have ha : a < 2^64 := by simpa [Lit.wf] using w0
  cases hle : (FloatKind.f64.format.order (rg a) KHi == some .lt || FloatKind.f64.format.order (rg a) KHi == some .eq)
  · exact split_great a w ha hle
  have hf := fin_of_leq a hle
  have hfr : fin (rg a) := (fin_rg a).2 hf
  by_cases hs : (FloatKind.f64.format.order (rg a) 0 != some .eq) = true ∧ (FloatKind.f64.format.order (rg a) KLo == some .lt) = true
  · exact split_small a w ha hle hs.1 hs.2
  have hs' : (FloatKind.f64.format.order (rg a) 0 != some .eq) = false ∨ (FloatKind.f64.format.order (rg a) KLo == some .lt) = false := by
    cases h1 : (FloatKind.f64.format.order (rg a) 0 != some .eq)
    · exact Or.inl rfl
    · cases h2 : (FloatKind.f64.format.order (rg a) KLo == some .lt)
      · exact Or.inr rfl
      · exact absurd ⟨h1, h2⟩ hs
  by_cases h0 : V a = 0
  · exact zero a w ha hf hle hs' h0
  · have hM0 : (FloatKind.f64.format.order (rg a) 0 != some .eq) = true := by
      rw [bne, ord _ 0 hfr fin_0, cmp_eq, V_0, V_rg]
      have : mg (rg a) ≠ 0 := by rw [mg_abs]; omega
      simpa using this
    have hlow : (FloatKind.f64.format.order (rg a) KLo == some .lt) = false := by
      rcases hs' with h | h
      · rw [hM0] at h; cases h
      · exact h
    rw [ord _ _ hfr fin_lo, cmp_lt, V_lo, V_rg] at hlow
    have hL : 2^174 ≤ mg (rg a) := by
      exact le_of_nlt _ 174 (of_decide_eq_false hlow)
    have hM : mg (rg a) ≤ 2^2064 := by
      have h' := hle
      rw [ord _ _ hfr fin_hi, cmp_lt, cmp_eq, V_hi, V_rg, Bool.or_eq_true, decide_eq_true_eq, decide_eq_true_eq] at h'
      exact le_of_lor _ 2064 h'
    obtain ⟨m, q, em, m1, m2, -⟩ := normal (rg a) (rg_big _ hL)
    obtain ⟨q1, q2⟩ := qbounds m q _ 2064 em m1 m2 rfl hM hL
    exact mid a m q w ha hf hle hs' em m1 m2 q1 q2

set_option maxRecDepth 100000 in
theorem lifted (os : Os) (started : os.Started) (H : Type) (enc : TypeId × Value → H) :
    ReturnsInHanded {} Yba.checked os 3 .any (Rows.lawS0833BSplitSpec.pre6 enc Yba.prog Yba.f3 Rows.lawS0833BSplitRow.domain false) (Rows.lawS0833BSplitSpec.post enc Yba.prog Yba.f3 false true false false) := by
  refine returnsInHanded_of_change (C := Yba.checked) own started (by kernel_rfl) Yba.func3
    (ChangeSpec.witness6 (enc := enc) (C := Yba.checked) false ⟨#[], #[.float .f64 0], []⟩ 8 (by kernel_rfl) (by kernel_rfl) (by kernel_rfl) (by kernel_rfl)) ?_
  intro W base args ds gs before hval0 hW hcnd _
  have hval : ∀ (j : Nat) t v, Yba.f3.params[j]? = some t → args[j]? = some v → Value.okWide Yba.prog W .any base t v := hval0
  have hW' := hW
  obtain ⟨p, q, hA0, hV, rfl, hfz, hnd⟩ := hW
  have hA : DataW.TrodAll enc Yba.prog W 0 (fun _ => true) true Yba.f3.params.toList args.toList ds p := hA0
  rw [Yba.params3] at hA hval
  obtain ⟨v0, vs0, d0, ds0, p0, q0, hargs, rfl, rfl, h0, r0⟩ := trodAll_cons hA
  obtain ⟨rfl, rfl, rfl⟩ := trodAll_nil r0
  obtain rfl : args = #[v0] := by cases args; simp_all
  obtain ⟨rfl, rfl⟩ := trodVars_none hV
  obtain ⟨a0, rfl, rfl, rfl, w0⟩ := open_float Yba.underlying22 (hval 0 22 v0 rfl rfl) h0
  clear hA0 hval0
  simp only [List.append_nil] at hW'
  refine (walk a0 w0 W).mono fun e W' ⟨he, hg⟩ => ?_
  subst he
  subst hg
  exact ⟨_, rfl, post_of_same (pa := []) (pv := []) hW' (fun _ _ _ => (trodAll_mk1 (shut_bool Yba.underlying4 _))) (fun sp _ => (trodAll_mk1 (shut_float Yba.underlying22 w0))) (fun _ _ => rfl) rfl
    (World.keptBut_refl _ _) (fun _ => rfl) (ok_one (by kernel_rfl) rfl (okWide_bool_mk Yba.underlying4 _))⟩

theorem over : Rows.lawS0833BSplitRow.holds Yba.pinned (OpenSpec.ofChange Rows.lawS0833BSplitSpec) :=
  OpenClaim.holds_of_wide 3 Yba.f3 rfl rfl rfl rfl rfl rfl rfl ⟨rfl, rfl, rfl, rfl, rfl⟩ rfl rfl rfl rfl rfl (by kernel_rfl) Yba.func3 (by kernel_rfl)
    (of_decide_eq_true (by kernel_rfl)) (by unfold Func.isWrapper; first | (rw [if_pos (by decide +kernel)]; kernel_rfl) | (rw [if_neg (by decide +kernel)]; exact ⟨rfl, rfl⟩))
    (fun os started H enc _ => lifted os started H enc)

/-- THE STATEMENT -/
theorem proved : Rows.LawS0833BSplitSaid :=
  over
end Go.Proofs.Ybulkqfo.lawS0833BSplit
