import Derived.Test.YbulkqfoSW
import Derived.Test.YbulkqfoShort
import Derived.ProofKit
import Derived.ShutString
namespace Go.Proofs.Ybulkqfo.lawS0833BShort
open Go.ChangeShapes Go.WideShapes Go.ChangeAt Go.RowKit
open Go.ChangeMaps (open_string shut_string)
open Fl

theorem own : ownKnob Yba.prog.godebug = none := by kernel_rfl

theorem fin_0 : fin 0 := by unfold fin; decide +kernel
theorem V_0 : V 0 = 0 := by decide +kernel
theorem rg_rg (a : Nat) : rg (rg a) = rg a := by unfold rg; omega
theorem ng_rg (a : Nat) : ng (rg a) = false := by unfold ng rg; rw [beq_eq_false_iff_ne]; omega
theorem V_rg (a : Nat) : V (rg a) = (mg (rg a) : Int) := by unfold V; rw [ng_rg, rg_rg]; simp
theorem fin_rg (a : Nat) : fin (rg a) ↔ fin a := by unfold fin; rw [rg_rg]
theorem ord (x y : Nat) (hx : fin x) (hy : fin y) : FloatKind.f64.format.order x y = some (compare (V x) (V y)) := order_spec x y hx hy
theorem cmp_eq (x y : Int) : (some (compare x y) == some Ordering.eq) = decide (x = y) := by
  rw [Bool.eq_iff_iff]; simp
theorem cmp_lt (x y : Int) : (some (compare x y) == some Ordering.lt) = decide (x < y) := by
  rw [Bool.eq_iff_iff]; simp [Int.compare_eq_lt]
theorem cmp_gt (x y : Int) : (some (compare x y) == some Ordering.gt) = decide (y < x) := by
  rw [Bool.eq_iff_iff]; simp [Int.compare_eq_gt]

def KMax : Nat := 9218868437227405311
def KMin : Nat := 4503599627370496
theorem fin_max : fin KMax := by unfold fin; decide +kernel
theorem fin_min : fin KMin := by unfold fin; decide +kernel
theorem V_max : V KMax = ((2^53 - 1) * 2^2045 : Nat) := by decide +kernel
theorem V_min : V KMin = (2^52 : Nat) := by decide +kernel

theorem le_max (z s B : Nat) (hB : B = 2045) (hs : s = 1074) (hz : z ≤ 2^25) : ¬ (((2^53 - 1) * 2^B : Nat) : Int) < ((z * 2^s : Nat) : Int) := by
  have h1 : (2:Nat)^s ≤ 2^B := Nat.pow_le_pow_right (by omega) (by omega)
  have h2 : z * 2^s ≤ (2^53 - 1) * 2^B := Nat.mul_le_mul (by omega) h1
  omega
theorem ge_min (z s : Nat) (hs : s = 1074) (hz : 0 < z) : ¬ ((z * 2^s : Nat) : Int) < ((2^52 : Nat) : Int) := by
  have h1 : (2:Nat)^52 ≤ 2^s := Nat.pow_le_pow_right (by omega) (by omega)
  have h2 : 2^s ≤ z * 2^s := Nat.le_mul_of_pos_left _ hz
  omega

theorem unscale (A m : Int) (p q : Nat) (h : A * ((2^100 : Nat) : Int) = m * ((2^q : Nat) : Int)) (hq : q = 100 + p) : A = m * ((2^p : Nat) : Int) := by
  subst hq
  rw [Nat.pow_add, Int.natCast_mul, Int.mul_comm ((2^100 : Nat) : Int), ← Int.mul_assoc] at h
  exact Int.eq_of_mul_eq_mul_right (by decide) h

/-- What Ldexp gives at a small whole number. -/
theorem ld (m e : Int) (hm : m.natAbs ≤ 2^25) (he1 : -100 ≤ e) (he2 : e ≤ 99) :
    ∃ a s, (∀ w, Calls Yba.prog 12 #[.float .f64 (floatOfInt .f64 m), .int .i64 e] w fun e w' => e = .returned (.float .f64 a) ∧ w' = w) ∧ fin a ∧ V a = m * ((2^s : Nat) : Int) ∧ 78 ≤ s ∧ s ≤ 1200 := by
  obtain ⟨s, hs⟩ : ∃ s, s = 1074 := ⟨_, rfl⟩
  have hof := ofInt_spec m hm
  rw [← hs] at hof
  have hw := Ieee.Format.nearest_lt Ieee.double (decide (m < 0)) m.natAbs 0
  have hw' : Ieee.double.nearest (decide (m < 0)) m.natAbs 0 < 2^64 := hw
  have hdef : floatOfInt .f64 m = Ieee.double.nearest (decide (m < 0)) m.natAbs 0 := rfl
  rw [hdef]
  generalize Ieee.double.nearest (decide (m < 0)) m.natAbs 0 = f at *
  clear hw hdef
  obtain ⟨ff, vf⟩ := hof
  by_cases h0 : m = 0
  · subst h0
    rw [Int.zero_mul] at vf
    refine ⟨f, s, fun w => ldexp_zero f e w (by rw [ord f 0 ff fin_0, cmp_eq, V_0, vf]; rfl), ff, by rw [vf, Int.zero_mul], by omega, by omega⟩
  · have hz0 : 0 < m.natAbs := by omega
    have hmg : mg (rg f) = m.natAbs * 2^s := by rw [mg_of_V, vf, abs_scale]
    obtain ⟨r52, F1, F2⟩ := small_exp (rg f) m.natAbs s hs hz0 hm hmg
    have hfr : fin (rg f) := (fin_rg f).2 ff
    obtain ⟨F, hF⟩ : ∃ F, F = rg f / 2^52 := ⟨_, rfl⟩
    obtain ⟨x, hx⟩ : ∃ x, x = f / 2^63 % 2 * 2^63 + ((e + F).toNat * 2^52 + f % 2^52) := ⟨_, rfl⟩
    rw [← hF] at F1 F2
    obtain ⟨fx, vx, M, q, eM, M1, M2, q1, q2⟩ := scaled f F x e he1 he2 r52 hF F1 F2 hx
    obtain ⟨a, ea, fa, va⟩ := one_mul_spec x M q fx eM M1 M2 q1 q2
    have hnz : V f ≠ 0 := by
      intro hh
      have : (V f).natAbs = 0 := by rw [hh]; rfl
      rw [← mg_of_V, hmg] at this
      have := Nat.mul_pos hz0 (Nat.two_pow_pos s)
      omega
    have hbits : bits .or .u64 (bits .andNot .u64 (f : Int) 9218868437227405312) ((e + ((F : Int) - 1023) + 1023) * 4503599627370496) = (x : Int) := by
      have := set_exp f (e + F).toNat hw' (by omega)
      rw [← hx] at this
      rw [← this]
      congr 1
      rw [Int.natCast_mul]
      rw [show ((2^52 : Nat) : Int) = 4503599627370496 from rfl]
      congr 1
      omega
    refine ⟨a, 974 + (e + 100).toNat, fun w => ldexp_mid f a e w hw' he1 he2 ?_ ?_ ?_ ?_ F (by rw [hF]; exact exp_i64 f hw') (by omega) (by omega) x hbits ea, fa, ?_, by omega, by omega⟩
    · rw [ord f 0 ff fin_0, cmp_eq, V_0]; exact decide_eq_false hnz
    · rw [show (9218868437227405311 : Nat) = KMax from rfl, ord _ _ hfr fin_max, cmp_gt, V_max, V_rg, hmg]
      exact decide_eq_false (le_max _ s 2045 rfl hs hm)
    · rw [bne, ord f f ff ff, cmp_eq]; simp
    · rw [show (4503599627370496 : Nat) = KMin from rfl, ord _ _ hfr fin_min, cmp_lt, V_min, V_rg, hmg]
      exact decide_eq_false (ge_min _ s hs hz0)
    · rw [va]
      refine unscale _ m _ (s + (e+100).toNat) ?_ (by omega)
      rw [vx, vf, Int.mul_assoc, ← Int.natCast_mul, ← Nat.pow_add]

theorem walk (a0 : Int) (a1 : Int) (w0 : (Lit.int .i32 a0).wf = true) (w1 : (Lit.int .u8 a1).wf = true) (w : World) :
    Calls Yba.prog 4 #[.int .i32 a0, .int .u8 a1] w fun e w' => e = .returned (.bool true) ∧ w' = w := by
  have b0 : -2147483648 ≤ a0 ∧ a0 ≤ 2147483647 := by simpa [Lit.wf, IntKind.min, IntKind.max, IntKind.bits, IntKind.signed] using w0
  have b1 : 0 ≤ a1 ∧ a1 ≤ 255 := by simpa [Lit.wf, IntKind.min, IntKind.max, IntKind.bits, IntKind.signed] using w1
  have hm : (a0.tmod 33554432).natAbs ≤ 2^25 := by
    rw [Int.natAbs_tmod]
    exact Nat.le_of_lt (Nat.mod_lt _ (by decide))
  obtain ⟨a, s, hl, fa, va, s1, s2⟩ := ld (a0.tmod 33554432) (a1 % 200 - 100) hm (by omega) (by omega)
  obtain ⟨c, t, hi, lo, e1, e2, e3, e4, f1, f2, v1, v2⟩ := halves_short a s _ fa va hm s1 s2
  exact short_walk a0 a1 a c t hi lo w b1.1 b1.2 b0.1 b0.2 hl e1 e2 e3 e4 (by rw [ord _ _ f1 fa, cmp_eq, v1]; simp) (by rw [ord _ _ f2 fin_0, cmp_eq, V_0, v2]; rfl)

set_option maxRecDepth 100000 in
theorem lifted (os : Os) (started : os.Started) (H : Type) (enc : TypeId × Value → H) :
    ReturnsInHanded {} Yba.checked os 4 .any (Rows.lawS0833BShortSpec.pre6 enc Yba.prog Yba.f4 Rows.lawS0833BShortRow.domain false) (Rows.lawS0833BShortSpec.post enc Yba.prog Yba.f4 false true false false) := by
  refine returnsInHanded_of_change (C := Yba.checked) own started (by kernel_rfl) Yba.func4
    (ChangeSpec.witness6 (enc := enc) (C := Yba.checked) false ⟨#[], #[.int .i32 0, .int .u8 0], []⟩ 8 (by kernel_rfl) (by kernel_rfl) (by kernel_rfl) (by kernel_rfl)) ?_
  intro W base args ds gs before hval0 hW hcnd _
  have hval : ∀ (j : Nat) t v, Yba.f4.params[j]? = some t → args[j]? = some v → Value.okWide Yba.prog W .any base t v := hval0
  have hW' := hW
  obtain ⟨p, q, hA0, hV, rfl, hfz, hnd⟩ := hW
  have hA : DataW.TrodAll enc Yba.prog W 0 (fun _ => true) true Yba.f4.params.toList args.toList ds p := hA0
  rw [Yba.params4] at hA hval
  obtain ⟨v0, vs0, d0, ds0, p0, q0, hargs, rfl, rfl, h0, r0⟩ := trodAll_cons hA
  obtain ⟨v1, vs1, d1, ds1, p1, q1, rfl, rfl, rfl, h1, r1⟩ := trodAll_cons r0
  obtain ⟨rfl, rfl, rfl⟩ := trodAll_nil r1
  obtain rfl : args = #[v0, v1] := by cases args; simp_all
  obtain ⟨rfl, rfl⟩ := trodVars_none hV
  obtain ⟨a0, rfl, rfl, rfl, w0⟩ := open_int Yba.underlying21 (hval 0 21 v0 rfl rfl) h0
  obtain ⟨a1, rfl, rfl, rfl, w1⟩ := open_int Yba.underlying5 (hval 1 5 v1 rfl rfl) h1
  clear hA0 hval0
  simp only [List.append_nil] at hW'
  refine (walk a0 a1 w0 w1 W).mono fun e W' ⟨he, hg⟩ => ?_
  subst he
  subst hg
  exact ⟨_, rfl, post_of_same (pa := []) (pv := []) hW' (fun _ _ _ => (trodAll_mk1 (shut_bool Yba.underlying4 _))) (fun sp _ => (trodAll_mk2 (shut_int Yba.underlying21 w0) (shut_int Yba.underlying5 w1))) (fun _ _ => rfl) rfl
    (World.keptBut_refl _ _) (fun _ => rfl) (ok_one (by kernel_rfl) rfl (okWide_bool_mk Yba.underlying4 _))⟩

theorem over : Rows.lawS0833BShortRow.holds Yba.pinned (OpenSpec.ofChange Rows.lawS0833BShortSpec) :=
  OpenClaim.holds_of_wide 4 Yba.f4 rfl rfl rfl rfl rfl rfl rfl ⟨rfl, rfl, rfl, rfl, rfl⟩ rfl rfl rfl rfl rfl (by kernel_rfl) Yba.func4 (by kernel_rfl)
    (of_decide_eq_true (by kernel_rfl)) (by unfold Func.isWrapper; first | (rw [if_pos (by decide +kernel)]; kernel_rfl) | (rw [if_neg (by decide +kernel)]; exact ⟨rfl, rfl⟩))
    (fun os started H enc _ => lifted os started H enc)

/-- THE STATEMENT -/
theorem proved : Rows.LawS0833BShortSaid :=
  over
end Go.Proofs.Ybulkqfo.lawS0833BShort
