import Derived.Test.YbulkqhsB12
import Derived.Test.YbulkqhsE0
namespace Go.Proofs.Ybulkqhs
open Go.RowKit
set_option linter.unusedVariables false
attribute [local go_sem ↓] exec_store34 exec_load34 exec_box34
attribute [local go_sem] run_box34 eql34_run neq34_run guard34

set_option maxRecDepth 100000 in
theorem sort_tiny (p : Option Addr) (n cap : Nat) (hn : n ≤ 1) (w : World) :
    Calls Yba.prog 38 #[.iface 123 (.slice p n cap)] w fun e w' => e = .returned (.tuple #[]) ∧ w' = w := by
  have mN := fun v w n => method_own find_len 34 Yba.underlying123 v w n
  have hn' : (n : Int) ≤ 1 := by omega
  go_enter Yba.func38, Yba.ntmps38
  go_wp2_with fail
  refine (len_any _ _ _ _).mono ?_
  rintro e w' ⟨rfl, rfl⟩
  go_wp2_with fail
  (try simp only [Exit.inBlock, Exit.then]); refine bodyPost_ret (results_none rfl _ _ _) rfl ?_
  exact ⟨rfl, rfl⟩

set_option maxRecDepth 100000 in
theorem sort_any {w0 w : World} {g n cap : Nat} {d : Array Nat} (h : Row w0 g n w d) (hn : n ≤ 1099511627776) :
    Calls Yba.prog 38 #[.iface 123 (.slice (some ⟨g, 0, none⟩) n cap)] w fun e w' => e = .returned (.tuple #[]) ∧ ∃ d', Row w0 g n w' d' ∧ Sort.PermIn 0 n d d' ∧ Sort.SortedIn ltN 0 n d' := by
  by_cases h1 : n ≤ 1
  · refine (sort_tiny _ n cap h1 w).mono ?_
    rintro e w' ⟨rfl, rfl⟩
    exact ⟨rfl, d, h, Sort.permIn_refl _ _ _, fun i j _ h2 h3 => by omega⟩
  · have mN := fun v w n => method_own find_len 34 Yba.underlying123 v w n
    have hn' : ¬ ((n : Int) ≤ 1) := by omega
    have H := hideB h; clear h
    go_enter Yba.func38, Yba.ntmps38
    go_wp2_with fail
    refine (len_any _ _ _ _).mono ?_
    rintro e w' ⟨rfl, rfl⟩
    go_wp2_with fail
    refine (len_bits n (by omega) _).mono ?_
    rintro e w' ⟨⟨k, hk, rfl⟩, rfl⟩
    go_wp2_with fail
    have hI := pdq_any w0 g n cap hn (n + 1) 0 n k d w' (by omega) (unhideB H) (by omega) (Nat.le_refl _) (by omega) (.inl rfl)
    unfold dv at hI
    refine hI.mono ?_
    rintro e w'' ⟨rfl, hh⟩
    have HH := hideB hh; clear hh hI
    go_wp2_with fail
    go_end0
    exact ⟨rfl, unhideB HH⟩

/-! ### Exact repeats dropped -/
/-- From the first j entries of d, k have been kept, in dk's first k places. -/
structure Uq (d : Array Nat) (j k : Nat) (dk : Array Nat) : Prop where
  size : dk.size = d.size
  k1 : 1 ≤ k
  kj : k ≤ j
  asc : ∀ i i', i < i' → i' < k → dk[i]! < dk[i']!
  mem : ∀ x, (∃ i, i < k ∧ dk[i]! = x) ↔ (∃ i, i < j ∧ d[i]! = x)
  high : ∀ i, j - 1 ≤ i → dk[i]! = d[i]!
  last : dk[k - 1]! = d[j - 1]!

theorem Uq.one (d : Array Nat) : Uq d 1 1 d :=
  ⟨rfl, Nat.le_refl _, Nat.le_refl _, fun i i' h1 h2 => by omega, fun x => Iff.rfl, fun _ _ => rfl, rfl⟩
theorem Uq.skip {d : Array Nat} {j k : Nat} {dk : Array Nat} (h : Uq d j k dk) (he : d[j]! = d[j - 1]!) : Uq d (j + 1) k dk := by
  have := h.k1; have := h.kj
  refine ⟨h.size, h.k1, by omega, h.asc, fun x => ?_, fun i hi => h.high i (by omega), by rw [h.last, ← he]; simp⟩
  rw [h.mem]
  constructor
  · rintro ⟨i, hi, rfl⟩; exact ⟨i, by omega, rfl⟩
  · rintro ⟨i, hi, rfl⟩
    by_cases e : i = j
    · subst e; exact ⟨i - 1, by omega, he.symm⟩
    · exact ⟨i, by omega, rfl⟩
theorem get_set_same (d : Array Nat) (k x : Nat) (hk : k < d.size) : (d.setIfInBounds k x)[k]! = x := by
  rw [getElem!_pos _ k (by simpa using hk)]; simp
theorem get_set_ne (d : Array Nat) (k i x : Nat) (hk : i ≠ k) : (d.setIfInBounds k x)[i]! = d[i]! := by
  simp only [getElem!_def, Array.getElem?_setIfInBounds]
  rw [if_neg (Ne.symm hk)]
theorem Uq.put {d : Array Nat} {j k : Nat} {dk : Array Nat} (h : Uq d j k dk) (hj : j < d.size) (hs : d[j - 1]! ≤ d[j]!) (he : d[j]! ≠ d[j - 1]!) (hkj : k < j) : Uq d (j + 1) (k + 1) (dk.setIfInBounds k d[j]!) := by
  have := h.k1
  have hks : k < dk.size := by rw [h.size]; omega
  refine ⟨by simp [h.size], by omega, by omega, ?_, fun x => ?_, fun i hi => by rw [get_set_ne _ _ _ _ (by omega)]; exact h.high i (by omega), by simp [get_set_same _ _ _ hks]⟩
  · intro i i' h1 h2
    rw [get_set_ne _ _ i _ (by omega)]
    by_cases e : i' = k
    · subst e
      rw [get_set_same _ _ _ hks]
      have hl := h.last
      by_cases e2 : i = i' - 1
      · subst e2; omega
      · have := h.asc i (i' - 1) (by omega) (by omega); omega
    · rw [get_set_ne _ _ i' _ e]; exact h.asc i i' h1 (by omega)
  · constructor
    · rintro ⟨i, hi, rfl⟩
      by_cases e : i = k
      · subst e; rw [get_set_same _ _ _ hks]; exact ⟨j, by omega, rfl⟩
      · rw [get_set_ne _ _ i _ e]
        obtain ⟨i2, h2, h3⟩ := (h.mem dk[i]!).1 ⟨i, by omega, rfl⟩
        exact ⟨i2, by omega, h3⟩
    · rintro ⟨i, hi, rfl⟩
      by_cases e : i = j
      · subst e; exact ⟨k, by omega, get_set_same _ _ _ hks⟩
      · obtain ⟨i2, h2, h3⟩ := (h.mem d[i]!).2 ⟨i, by omega, rfl⟩
        exact ⟨i2, by omega, by rw [get_set_ne _ _ i2 _ (by omega)]; exact h3⟩
theorem Uq.go {d : Array Nat} {j : Nat} (h : Uq d j j d) (hs : d[j - 1]! ≤ d[j]!) (he : d[j]! ≠ d[j - 1]!) : Uq d (j + 1) (j + 1) d := by
  have := h.k1
  refine ⟨rfl, by omega, Nat.le_refl _, ?_, fun x => Iff.rfl, fun _ _ => rfl, rfl⟩
  intro i i' h1 h2
  by_cases e : i' = j
  · subst e
    by_cases e2 : i = i' - 1
    · subst e2; omega
    · have := h.asc i (i' - 1) (by omega) (by omega); omega
  · exact h.asc i i' h1 (by omega)

/-- So many records, one after the other. -/
def Recs (w : World) (b o : Nat) (ks : List Nat) : Prop := ∀ i, i < ks.length → RA w b (o + i * 33) ks[i]!

/-- What the first k entries of dk are. -/
def keepL (dk : Array Nat) (k : Nat) : List Nat := (List.range k).map fun i => dk[i]!
theorem keepL_len (dk : Array Nat) (k : Nat) : (keepL dk k).length = k := by simp [keepL]
theorem keepL_get (dk : Array Nat) (k i : Nat) (hi : i < k) : (keepL dk k)[i]! = dk[i]! := by
  rw [getElem!_pos _ i (by rw [keepL_len]; exact hi)]; simp [keepL]
theorem mem_arr (d : Array Nat) (x : Nat) : x ∈ d.toList ↔ ∃ i, i < d.size ∧ d[i]! = x := by
  rw [List.mem_iff_getElem]
  constructor
  · rintro ⟨i, hi, rfl⟩; exact ⟨i, by simpa using hi, by rw [getElem!_pos _ i (by simpa using hi)]; simp⟩
  · rintro ⟨i, hi, rfl⟩; exact ⟨i, by simpa using hi, by rw [getElem!_pos _ i hi]; simp⟩
theorem mem_keepL (dk : Array Nat) (k x : Nat) : x ∈ keepL dk k ↔ ∃ i, i < k ∧ dk[i]! = x := by
  simp [keepL]
theorem Uq.done {d : Array Nat} {k : Nat} {dk : Array Nat} (h : Uq d d.size k dk) : (keepL dk k).Pairwise (· < ·) ∧ ∀ x, x ∈ keepL dk k ↔ x ∈ d.toList := by
  refine ⟨?_, fun x => by rw [mem_keepL, h.mem, mem_arr]⟩
  rw [List.pairwise_iff_getElem]
  intro i j hi hj hij
  rw [keepL_len] at hi hj
  have := h.asc i j hij hj
  rw [← keepL_get dk k i hi, ← keepL_get dk k j hj] at this
  rwa [getElem!_pos _ i (by rw [keepL_len]; exact hi), getElem!_pos _ j (by rw [keepL_len]; exact hj)] at this

theorem zero34 (w : World) : (zeroValue 34).run Yba.prog w = .ok (rv 0) w := by
  have h := Yba.zeroValue34 w
  rw [h]
  congr 1
theorem run_clear34 {w : World} (ty : TypeId) (b o n c : Nat) (hn : 0 < n) (ht : w.there b o (n * 33)) : ∃ L : List Value,
    L.length = n * 33 ∧ (Builtin.clear_ #[56] ty #[.slice (some ⟨b, o, none⟩) n c]).run Yba.prog w = .ok (.tuple #[]) (w.setCells b o L) := by
  have hz : ((rv 0).cells).size = 33 := by simp [rv, Value.cells, rl_len]
  refine ⟨(Builtin.zeroCells (rv 0).cells n).toList, by simp [Builtin.zeroCells, hz], ?_⟩
  have hone : ∀ v ∈ (Builtin.zeroCells (rv 0).cells n).toList, v.oneCell' = true := by
    intro v hv
    simp only [Builtin.zeroCells, Array.toList_map, List.mem_map] at hv
    obtain ⟨i, _, rfl⟩ := hv
    have hlt : i % (rv 0).cells.size < (rv 0).cells.size := Nat.mod_lt _ (by rw [hz]; omega)
    rw [getElem!_pos (rv 0).cells _ hlt]
    refine rl_one 0 _ ?_
    have : (rv 0).cells = (rl 0).toArray := rfl
    simp only [this, List.getElem_toArray]
    exact List.getElem_mem _
  have hst := run_storeCells_cells (P := Yba.prog) b o _ 0 w (fun j hj => by simpa using (ht j (by simpa [Builtin.zeroCells, hz] using hj)).1) (fun j hj => by simpa using (ht j (by simpa [Builtin.zeroCells, hz] using hj)).2) hone
  simp only [Nat.add_zero] at hst
  obtain ⟨m, rfl⟩ : ∃ m, n = m + 1 := ⟨n - 1, by omega⟩
  have hu := Yba.underlying56
  simp [Builtin.clear_, run_underlying hu, zero34, hst, -Yba.zeroValue34]
end Go.Proofs.Ybulkqhs
