import Derived.Test.YbulkqhsA3
import Derived.ProofKit
import Derived.OpenShut
import Derived.ShutString
import Derived.ChangeOld
import Derived.Deep.Slices
namespace Go.Proofs.Ybulkqhs.lawS0837AModel
open Go.ChangeShapes Go.WideShapes Go.ChangeAt Go.RowKit Go.Deep
open Go.ChangeMaps (open_string shut_string)
set_option linter.unusedVariables false

theorem own : ownKnob Yba.prog.godebug = none := by kernel_rfl
theorem laidOut : laidOutB Yba.prog = true := by kernel_rfl

theorem c48 : Yba.prog.cellsOf 48 = 7 := by kernel_rfl
theorem c4 : Yba.prog.cellsOf 4 = 1 := by kernel_rfl
theorem c5 : Yba.prog.cellsOf 5 = 1 := by kernel_rfl
theorem c46 : Yba.prog.cellsOf 46 = 1 := by kernel_rfl
theorem c30 : Yba.prog.cellsOf 30 = 1 := by kernel_rfl
theorem c3 : Yba.prog.cellsOf 3 = 1 := by kernel_rfl

set_option maxRecDepth 100000 in
/-- One step's seven cells. -/
theorem open_step {H : Type} {enc : TypeId × Value → H} {w : World} {base : Nat} {spare : Nat → Bool} {held : Bool} {fuel : Nat} {cs : List Value} {x : DataW H × List MemPlace}
    (h : DataW.trod enc Yba.prog w base spare held fuel 48 cs = some x) :
    ∃ st : Step, cs = [.bool st.s, .int .u8 st.md, .int .u16 st.ids, .int .u64 st.fr, .int .u64 st.up, .int .i64 st.lo, .int .i64 st.hi] ∧ 0 ≤ st.ids ∧ st.ids ≤ 65535 ∧ 0 ≤ st.md ∧ st.md ≤ 255 := by
  obtain ⟨xs, n, _, _, hlen, hxs, hf⟩ := DataW.trod_struct Yba.underlying48 h
  rw [c48] at hlen
  have hx : xs.length = 7 := hxs
  match cs, hlen with
  | [a0, a1, a2, a3, a4, a5, a6], _ =>
    have get : ∀ i, i < 7 → ∃ y, xs[i]? = some y := fun i hi => ⟨xs[i], List.getElem?_eq_getElem (by omega)⟩
    obtain ⟨y0, e0⟩ := get 0 (by omega)
    have f0 : DataW.trod enc Yba.prog w base spare held n 4 (([a0, a1, a2, a3, a4, a5, a6].drop 0).take (Yba.prog.cellsOf 4)) = xs[0]? := hf 0 _ rfl
    rw [c4, e0] at f0
    have f0 : DataW.trod enc Yba.prog w base spare held n 4 [a0] = some y0 := f0
    obtain ⟨y1, e1⟩ := get 1 (by omega)
    have f1 : DataW.trod enc Yba.prog w base spare held n 5 (([a0, a1, a2, a3, a4, a5, a6].drop 1).take (Yba.prog.cellsOf 5)) = xs[1]? := hf 1 _ rfl
    rw [c5, e1] at f1
    have f1 : DataW.trod enc Yba.prog w base spare held n 5 [a1] = some y1 := f1
    obtain ⟨y2, e2⟩ := get 2 (by omega)
    have f2 : DataW.trod enc Yba.prog w base spare held n 46 (([a0, a1, a2, a3, a4, a5, a6].drop 2).take (Yba.prog.cellsOf 46)) = xs[2]? := hf 2 _ rfl
    rw [c46, e2] at f2
    have f2 : DataW.trod enc Yba.prog w base spare held n 46 [a2] = some y2 := f2
    obtain ⟨y3, e3⟩ := get 3 (by omega)
    have f3 : DataW.trod enc Yba.prog w base spare held n 30 (([a0, a1, a2, a3, a4, a5, a6].drop 3).take (Yba.prog.cellsOf 30)) = xs[3]? := hf 3 _ rfl
    rw [c30, e3] at f3
    have f3 : DataW.trod enc Yba.prog w base spare held n 30 [a3] = some y3 := f3
    obtain ⟨y4, e4⟩ := get 4 (by omega)
    have f4 : DataW.trod enc Yba.prog w base spare held n 30 (([a0, a1, a2, a3, a4, a5, a6].drop 4).take (Yba.prog.cellsOf 30)) = xs[4]? := hf 4 _ rfl
    rw [c30, e4] at f4
    have f4 : DataW.trod enc Yba.prog w base spare held n 30 [a4] = some y4 := f4
    obtain ⟨y5, e5⟩ := get 5 (by omega)
    have f5 : DataW.trod enc Yba.prog w base spare held n 3 (([a0, a1, a2, a3, a4, a5, a6].drop 5).take (Yba.prog.cellsOf 3)) = xs[5]? := hf 5 _ rfl
    rw [c3, e5] at f5
    have f5 : DataW.trod enc Yba.prog w base spare held n 3 [a5] = some y5 := f5
    obtain ⟨y6, e6⟩ := get 6 (by omega)
    have f6 : DataW.trod enc Yba.prog w base spare held n 3 (([a0, a1, a2, a3, a4, a5, a6].drop 6).take (Yba.prog.cellsOf 3)) = xs[6]? := hf 6 _ rfl
    rw [c3, e6] at f6
    have f6 : DataW.trod enc Yba.prog w base spare held n 3 [a6] = some y6 := f6
    obtain ⟨b0, r0, _⟩ := DataW.trod_bool Yba.underlying4 f0
    obtain ⟨n1, r1, _, w1⟩ := DataW.trod_int Yba.underlying5 f1
    obtain ⟨n2, r2, _, w2⟩ := DataW.trod_int Yba.underlying46 f2
    obtain ⟨n3, r3, _, _⟩ := DataW.trod_int Yba.underlying30 f3
    obtain ⟨n4, r4, _, _⟩ := DataW.trod_int Yba.underlying30 f4
    obtain ⟨n5, r5, _, _⟩ := DataW.trod_int Yba.underlying3 f5
    obtain ⟨n6, r6, _, _⟩ := DataW.trod_int Yba.underlying3 f6
    simp only [List.cons.injEq, and_true] at r0 r1 r2 r3 r4 r5 r6
    subst r0 r1 r2 r3 r4 r5 r6
    have g1 : 0 ≤ n1 ∧ n1 ≤ 255 := by simpa [Lit.wf, IntKind.min, IntKind.max, IntKind.bits, IntKind.signed] using w1
    have g2 : 0 ≤ n2 ∧ n2 ≤ 65535 := by simpa [Lit.wf, IntKind.min, IntKind.max, IntKind.bits, IntKind.signed] using w2
    exact ⟨⟨b0, n1, n2, n3, n4, n5, n6⟩, rfl, g2.1, g2.2, g1.1, g1.2⟩

/-- The slice of steps, read. -/
theorem open_steps {H : Type} {enc : TypeId × Value → H} {w : World} {fuel : Nat} {a : Option Addr} {len cap : Nat} {x : DataW H × List MemPlace}
    (h : DataW.trod enc Yba.prog w 0 (fun _ => true) true fuel 22 [.slice a len cap] = some x) :
    ∃ (b off : Nat) (z : Nat → Step), ∀ i, i < len → a = some ⟨b, off, Option.none⟩ ∧ w.cell? ⟨b, off + i * 7, Option.none⟩ = some (.bool (z i).s) ∧ w.cell? ⟨b, off + i * 7 + 1, Option.none⟩ = some (.int .u8 (z i).md) ∧ w.cell? ⟨b, off + i * 7 + 2, Option.none⟩ = some (.int .u16 (z i).ids) ∧
      w.cell? ⟨b, off + i * 7 + 3, Option.none⟩ = some (.int .u64 (z i).fr) ∧ w.cell? ⟨b, off + i * 7 + 4, Option.none⟩ = some (.int .u64 (z i).up) ∧ w.cell? ⟨b, off + i * 7 + 5, Option.none⟩ = some (.int .i64 (z i).lo) ∧ w.cell? ⟨b, off + i * 7 + 6, Option.none⟩ = some (.int .i64 (z i).hi) ∧
      0 ≤ (z i).ids ∧ (z i).ids ≤ 65535 ∧ 0 ≤ (z i).md ∧ (z i).md ≤ 255 := by
  rcases open_slice Yba.underlying22 h with ⟨hcs, _⟩ | ⟨ad, l, c, m, nn, D, Pl, hcs, _, hl, hm, hmm, _, hel⟩
  · simp only [List.cons.injEq, Value.slice.injEq, and_true] at hcs
    obtain ⟨rfl, rfl, rfl⟩ := hcs
    exact ⟨0, 0, fun _ => ⟨false, 0, 0, 0, 0, 0, 0⟩, fun i hi => by omega⟩
  · simp only [List.cons.injEq, Value.slice.injEq, and_true] at hcs
    obtain ⟨rfl, rfl, rfl⟩ := hcs
    rw [c48] at hel
    simp only [if_true] at hmm
    have key : ∀ i, i < len → ∃ st : Step, (∀ r, r < 7 → w.cell? ((ad.add (i * 7)).add r) = [Value.bool st.s, .int .u8 st.md, .int .u16 st.ids, .int .u64 st.fr, .int .u64 st.up, .int .i64 st.lo, .int .i64 st.hi][r]?) ∧ 0 ≤ st.ids ∧ st.ids ≤ 65535 ∧ 0 ≤ st.md ∧ st.md ≤ 255 := by
      intro i hi
      obtain ⟨cs, hc, ht⟩ := hel i (by omega)
      obtain ⟨st, rfl, hst⟩ := open_step ht
      exact ⟨st, fun r hr => (World.cells?_some hc).2.2 r hr, hst⟩
    by_cases h0 : 0 < len
    · obtain ⟨b, off, spot⟩ := ad
      have hspot : spot = Option.none := by
        obtain ⟨st, hs, _⟩ := key 0 h0
        have := hs 0 (by omega)
        simpa [Addr.add] using World.cell?_spot this
      subst hspot
      obtain ⟨z, hz⟩ : ∃ z : Nat → Step, ∀ i, i < len → (∀ r, r < 7 → w.cell? (((⟨b, off, Option.none⟩ : Addr).add (i * 7)).add r) = [Value.bool (z i).s, .int .u8 (z i).md, .int .u16 (z i).ids, .int .u64 (z i).fr, .int .u64 (z i).up, .int .i64 (z i).lo, .int .i64 (z i).hi][r]?) ∧ 0 ≤ (z i).ids ∧ (z i).ids ≤ 65535 ∧ 0 ≤ (z i).md ∧ (z i).md ≤ 255 := by
        classical
        refine ⟨fun i => if hi : i < len then Classical.choose (key i hi) else ⟨false, 0, 0, 0, 0, 0, 0⟩, fun i hi => ?_⟩
        simp only [dif_pos hi]
        exact Classical.choose_spec (key i hi)
      refine ⟨b, off, z, fun i hi => ?_⟩
      obtain ⟨hc, hr⟩ := hz i hi
      have hadd : ∀ k, ((⟨b, off, Option.none⟩ : Addr).add (i * 7)).add k = ⟨b, off + i * 7 + k, Option.none⟩ := by intro k; rw [add_plain, add_plain]
      have c0 := hc 0 (by omega); have c1 := hc 1 (by omega); have c2 := hc 2 (by omega); have c3 := hc 3 (by omega); have c4 := hc 4 (by omega); have c5 := hc 5 (by omega); have c6 := hc 6 (by omega)
      rw [hadd] at c0 c1 c2 c3 c4 c5 c6
      exact ⟨rfl, c0, c1, c2, c3, c4, c5, c6, hr⟩
    · exact ⟨0, 0, fun _ => ⟨false, 0, 0, 0, 0, 0, 0⟩, fun i hi => by omega⟩

set_option maxRecDepth 100000 in
set_option maxHeartbeats 400000 in
theorem long_law (a : Option Addr) (len cap : Nat) (w : World) (hl : 1024 < (len : Int)) :
    Calls Yba.prog 3 #[.slice a len cap] w fun e w' => e = .returned (.bool true) ∧ Below w.heap.size w w' := by
  go_enter Yba.func3, Yba.ntmps3
  go_wp2_with fail
  go_ret
  exact ⟨rfl, Below.refl _ _⟩

set_option maxRecDepth 100000 in
theorem lifted (os : Os) (started : os.Started) (H : Type) (enc : TypeId × Value → H) :
    ReturnsInHanded {} Yba.checked os 3 .any (Rows.lawS0837AModelSpec.pre6 enc Yba.prog Yba.f3 Rows.lawS0837AModelRow.domain false) (Rows.lawS0837AModelSpec.post enc Yba.prog Yba.f3 false true false false) := by
  refine returnsInHanded_of_change (C := Yba.checked) own started (by kernel_rfl) Yba.func3
    (ChangeSpec.witness6 (enc := enc) (C := Yba.checked) false ⟨#[], #[.slice none 0 0], []⟩ 8 (by kernel_rfl) (by kernel_rfl) (by kernel_rfl) (by kernel_rfl)) ?_
  intro W base args ds gs before hval0 hW hcnd _
  have hval : ∀ (j : Nat) t v, Yba.f3.params[j]? = some t → args[j]? = some v → Value.okWide Yba.prog W .any base t v := hval0
  have hW' := hW
  obtain ⟨p, q, hA0, hV, rfl, hfz, hnd⟩ := hW
  have hA : DataW.TrodAll enc Yba.prog W 0 (fun _ => true) true Yba.f3.params.toList args.toList ds p := hA0
  rw [Yba.params3] at hA hval
  obtain ⟨v0, vs0, d0, ds0, p0, q0, hargs, rfl, rfl, h0, r0⟩ := trodAll_cons hA
  obtain ⟨rfl, rfl, rfl⟩ := trodAll_nil r0
  obtain rfl : args = #[v0] := by cases args; simp_all
  obtain ⟨rfl, rfl⟩ := trodVars_none hV
  obtain ⟨a0, len0, cap0, rfl⟩ := okWide_slice Yba.underlying22 (hval 0 22 v0 rfl rfl)
  have k0 := h0
  have lt0 : ∀ x ∈ p0, x.block < W.heap.size := by obtain ⟨m, hm⟩ := k0; exact DataW.trod_lt m _ _ _ hm
  have hwalk : Calls Yba.prog 3 #[.slice a0 len0 cap0] W fun e w' => e = .returned (.bool true) ∧ Below W.heap.size W w' := by
    by_cases hl : len0 ≤ 1024
    · obtain ⟨fuel, hf⟩ := h0
      obtain ⟨b, off, z, hz⟩ := open_steps (by simpa [Value.cells] using hf)
      exact law_a a0 len0 cap0 b off W z hl hz
    · exact long_law a0 len0 cap0 W (by omega)
  clear hA0 hval0
  refine hwalk.mono fun e W' ⟨he, bel⟩ => ?_
  subst he
  exact ⟨_, rfl, _, _, _, [], _, [], hW', trodAll_mk1 (shut_bool Yba.underlying4 _), (trodAll_cons_mk (Below.trod laidOut (by kernel_rfl) (of_decide_eq_true (by kernel_rfl)) k0 bel lt0) trodAll_mk0), rfl, bel.frame _, fun h => by cases h⟩

theorem over : Rows.lawS0837AModelRow.holds Yba.pinned (OpenSpec.ofChange Rows.lawS0837AModelSpec) :=
  OpenClaim.holds_of_wide 3 Yba.f3 rfl rfl rfl rfl rfl rfl rfl ⟨rfl, rfl, rfl, rfl, rfl⟩ rfl rfl rfl rfl rfl (by kernel_rfl) Yba.func3 (by kernel_rfl)
    (of_decide_eq_true (by kernel_rfl)) (by unfold Func.isWrapper; first | (rw [if_pos (by decide +kernel)]; kernel_rfl) | (rw [if_neg (by decide +kernel)]; exact ⟨rfl, rfl⟩))
    (fun os started H enc _ => lifted os started H enc)

/-- THE STATEMENT -/
theorem proved : Rows.LawS0837AModelSaid := over
end Go.Proofs.Ybulkqhs.lawS0837AModel
