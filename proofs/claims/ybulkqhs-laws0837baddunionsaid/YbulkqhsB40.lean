import Derived.Test.YbulkqhsB39
import Derived.ProofKit
import Derived.OpenShut
import Derived.ShutString
import Derived.ChangeOld
import Derived.Deep.Slices
namespace Go.Proofs.Ybulkqhs
open Go.ChangeShapes Go.WideShapes Go.ChangeAt Go.RowKit Go.Deep
set_option linter.unusedVariables false

/-! ### The input: 33 cells are a record's number. -/
theorem step_low (m t n i : Nat) (hi : i < n) : (m + t * 256 ^ n) / 256 ^ i % 256 = m / 256 ^ i % 256 := by
  obtain ⟨d, rfl⟩ : ∃ d, n = i + 1 + d := ⟨n - (i + 1), by omega⟩
  have h : t * 256 ^ (i + 1 + d) = 256 ^ i * (256 * (256 ^ d * t)) := by
    rw [Nat.pow_add, Nat.pow_add, Nat.pow_one]
    ac_rfl
  rw [h, Nat.add_mul_div_left _ _ (Nat.pow_pos (by omega)), Nat.add_mul_mod_self_left]
theorem step_high (m t n : Nat) (hm : m < 256 ^ n) : (m + t * 256 ^ n) / 256 ^ n = t := by
  rw [Nat.add_mul_div_right _ _ (Nat.pow_pos (by omega)), Nat.div_eq_of_lt hm, Nat.zero_add]
theorem digits (f : Nat → Nat) (n : Nat) (hf : ∀ i, i < n → f i < 256) : ∃ m, m < 256 ^ n ∧ ∀ i, i < n → m / 256 ^ i % 256 = f i := by
  induction n with
  | zero => exact ⟨0, by simp, fun i hi => by omega⟩
  | succ n ih =>
    obtain ⟨m, hm, hd⟩ := ih fun i hi => hf i (by omega)
    refine ⟨m + f n * 256 ^ n, ?_, fun i hi => ?_⟩
    · have h1 := hf n (by omega)
      have h2 : f n * 256 ^ n ≤ 255 * 256 ^ n := Nat.mul_le_mul_right _ (by omega)
      rw [Nat.pow_succ]; omega
    · by_cases h : i < n
      · rw [step_low _ _ _ _ h]; exact hd i h
      · obtain rfl : i = n := by omega
        rw [step_high _ _ _ hm, Nat.mod_eq_of_lt (hf i (by omega))]

theorem c34b : Yba.prog.cellsOf 34 = 33 := by kernel_rfl
theorem c32b : Yba.prog.cellsOf 32 = 32 := by kernel_rfl
theorem c30b : Yba.prog.cellsOf 30 = 1 := by kernel_rfl
theorem c5b : Yba.prog.cellsOf 5 = 1 := by kernel_rfl

set_option maxRecDepth 100000 in
/-- One record's 33 cells. -/
theorem open_rec {H : Type} {enc : TypeId × Value → H} {w : World} {base : Nat} {spare : Nat → Bool} {held : Bool} {fuel : Nat} {cs : List Value} {x : DataW H × List MemPlace}
    (h : DataW.trod enc Yba.prog w base spare held fuel 34 cs = some x) : ∃ k, cs = rl k := by
  obtain ⟨xs, n, _, _, hlen, hxs, hf⟩ := DataW.trod_struct Yba.underlying34 h
  rw [c34b] at hlen
  have hx : xs.length = 2 := hxs
  have get : ∀ i, i < 2 → ∃ y, xs[i]? = some y := fun i hi => ⟨xs[i], List.getElem?_eq_getElem (by omega)⟩
  obtain ⟨y0, e0⟩ := get 0 (by omega)
  obtain ⟨y1, e1⟩ := get 1 (by omega)
  have f0 : DataW.trod enc Yba.prog w base spare held n 30 ((cs.drop 0).take (Yba.prog.cellsOf 30)) = xs[0]? := hf 0 _ rfl
  have f1 : DataW.trod enc Yba.prog w base spare held n 32 ((cs.drop 1).take (Yba.prog.cellsOf 32)) = xs[1]? := hf 1 _ rfl
  rw [c30b, e0] at f0
  rw [c32b, e1] at f1
  obtain ⟨ts, r0, _, w0⟩ := DataW.trod_int Yba.underlying30 f0
  obtain ⟨ys, m, _, _, _, hys, hg⟩ := DataW.trod_array Yba.underlying32 f1
  have g0 : 0 ≤ ts := by
    have : 0 ≤ ts ∧ ts ≤ 18446744073709551615 := by simpa [Lit.wf, IntKind.min, IntKind.max, IntKind.bits, IntKind.signed] using w0
    exact this.1
  have hby : ∀ i, i < 32 → ∃ b : Nat, cs[1 + i]? = some (.int .u8 (b : Int)) ∧ b < 256 := by
    intro i hi
    have h1 := hg i hi
    rw [c5b, List.getElem?_eq_getElem (by omega)] at h1
    obtain ⟨b, rb, _, wb⟩ := DataW.trod_int Yba.underlying5 h1
    have gb : 0 ≤ b ∧ b ≤ 255 := by simpa [Lit.wf, IntKind.min, IntKind.max, IntKind.bits, IntKind.signed] using wb
    refine ⟨b.toNat, ?_, by omega⟩
    have h2 := congrArg (fun l => l[0]?) rb
    simp only [Nat.mul_one, List.getElem?_take, List.getElem?_drop, Nat.add_zero, List.getElem?_cons_zero] at h2
    rw [if_pos (by omega), if_pos (by omega)] at h2
    rw [h2, Int.toNat_of_nonneg gb.1]
  have hts : cs[0]? = some (.int .u64 ((ts.toNat : Nat) : Int)) := by
    have h2 := congrArg (fun l => l[0]?) r0
    simp only [List.drop_zero, List.getElem?_take, List.getElem?_cons_zero] at h2
    rw [if_pos (by omega)] at h2
    rw [h2, Int.toNat_of_nonneg g0]
  obtain ⟨f, hfb⟩ : ∃ f : Nat → Nat, ∀ i, i < 32 → cs[1 + i]? = some (.int .u8 (f i : Int)) ∧ f i < 256 := by
    classical
    refine ⟨fun i => if hi : i < 32 then Classical.choose (hby i hi) else 0, fun i hi => ?_⟩
    simp only [dif_pos hi]
    exact Classical.choose_spec (hby i hi)
  obtain ⟨q, hq, hd⟩ := digits (fun i => f (31 - i)) 32 fun i hi => (hfb (31 - i) (by omega)).2
  refine ⟨q + ts.toNat * 256 ^ 32, ?_⟩
  apply List.ext_getElem?
  intro r
  by_cases hr : r < 33
  · rw [rl_get _ _ hr]
    unfold rcell
    by_cases h0 : r = 0
    · subst h0
      rw [if_pos rfl, hts]
      have e : (2 : Nat) ^ 256 = 256 ^ 32 := by decide
      rw [e, step_high _ _ _ hq]
    · rw [if_neg h0, step_low _ _ _ _ (by omega), hd _ (by omega)]
      have := (hfb (r - 1) (by omega)).1
      rw [show 1 + (r - 1) = r by omega] at this
      rw [this, show 31 - (32 - r) = r - 1 by omega]
  · rw [List.getElem?_eq_none (by omega), List.getElem?_eq_none (by rw [rl_len]; omega)]

set_option maxRecDepth 100000 in
/-- The slice of records, read. -/
theorem open_recs {H : Type} {enc : TypeId × Value → H} {w : World} {fuel : Nat} {a : Option Addr} {len cap : Nat} {x : DataW H × List MemPlace}
    (hok : ∃ base, Value.okWide Yba.prog w .any base 56 (.slice a len cap)) (h : DataW.trod enc Yba.prog w 0 (fun _ => true) true fuel 56 [.slice a len cap] = some x) :
    ∃ ks : List Nat, ks.length = len ∧ RS w (.slice a len cap) ks := by
  rcases open_slice Yba.underlying56 h with ⟨hcs, _⟩ | ⟨ad, l, c, m, nn, D, Pl, hcs, _, hl, hm, hmm, _, hel⟩
  · simp only [List.cons.injEq, Value.slice.injEq, and_true] at hcs
    obtain ⟨rfl, rfl, rfl⟩ := hcs
    exact ⟨[], rfl, .inl ⟨rfl, rfl⟩⟩
  · simp only [List.cons.injEq, Value.slice.injEq, and_true] at hcs
    obtain ⟨rfl, rfl, rfl⟩ := hcs
    rw [c34b] at hel
    simp only [if_true] at hmm
    have key : ∀ i, i < cap → ∃ k : Nat, ∀ r, r < 33 → w.cell? ((ad.add (i * 33)).add r) = (rl k)[r]? := by
      intro i hi
      obtain ⟨cs, hc, ht⟩ := hel i (by omega)
      obtain ⟨k, rfl⟩ := open_rec ht
      exact ⟨k, fun r hr => (World.cells?_some hc).2.2 r hr⟩
    obtain ⟨z, hz⟩ : ∃ z : Nat → Nat, ∀ i, i < cap → ∀ r, r < 33 → w.cell? ((ad.add (i * 33)).add r) = (rl (z i))[r]? := by
      classical
      refine ⟨fun i => if hi : i < cap then Classical.choose (key i hi) else 0, fun i hi => ?_⟩
      simp only [dif_pos hi]
      exact Classical.choose_spec (key i hi)
    obtain ⟨b, off, spot⟩ := ad
    have hspot : spot = Option.none := by
      obtain ⟨base, ho⟩ := hok
      simp only [Value.okWide, Yba.underlying56, Cell.okWide, Cell.ok] at ho
      exact ho.2.2.2.1
    subst hspot
    refine ⟨(List.range len).map z, by simp, .inr ⟨b, off, cap, by simp, by simpa using hl, fun i hi => ?_⟩⟩
    have hi' : i < len := by simpa using hi
    have hg : ((List.range len).map z)[i]! = z i := by rw [getElem!_pos _ i hi]; simp
    rw [hg]
    intro j v hv
    have hj : j < 33 := by
      have := (List.getElem?_eq_some_iff.1 hv).1
      rw [rl_len] at this; exact this
    have h1 := hz i (by omega) j hj
    rw [add_plain, add_plain, hv] at h1
    exact h1
end Go.Proofs.Ybulkqhs
