import Derived.Test.YbulkqhsB16
import Derived.Laws.Externs
namespace Go.Proofs.Ybulkqhs
open Go.RowKit
set_option linter.unusedVariables false
attribute [local go_sem ↓] exec_store34 exec_load34 exec_box34
attribute [local go_sem] run_box34 eql34_run neq34_run guard34

/-! ### Sums: four words -/
def wd (N i : Nat) : Int := ((N / 2 ^ (64 * i) % 2 ^ 64 : Nat) : Int)
def car (x y : Nat → Int) : Nat → Int
  | 0 => 0
  | i + 1 => (x i + y i + car x y i) / 18446744073709551616
def sm (x y : Nat → Int) (i : Nat) : Int := (x i + y i + car x y i) % 18446744073709551616

theorem wd0 (N : Nat) : wd N 0 = (N : Int) % 18446744073709551616 := by simp [wd]
theorem wd1 (N : Nat) : wd N 1 = (N : Int) / 18446744073709551616 % 18446744073709551616 := by simp [wd]
theorem wd2 (N : Nat) : wd N 2 = (N : Int) / 340282366920938463463374607431768211456 % 18446744073709551616 := by simp [wd]
theorem wd3 (N : Nat) : wd N 3 = (N : Int) / 6277101735386680763835789423207666416102355444464034512896 % 18446744073709551616 := by simp [wd]
theorem wd_lo (N i : Nat) : 0 ≤ wd N i := by unfold wd; omega
theorem wd_hi (N i : Nat) : wd N i < 18446744073709551616 := by
  unfold wd
  have := Nat.mod_lt (N / 2 ^ (64 * i)) (show 0 < 2 ^ 64 by decide)
  omega
theorem car_range (x y : Nat → Int) (hx : ∀ i, 0 ≤ x i ∧ x i < 18446744073709551616) (hy : ∀ i, 0 ≤ y i ∧ y i < 18446744073709551616) : ∀ i, 0 ≤ car x y i ∧ car x y i ≤ 1
  | 0 => by simp [car]
  | i + 1 => by
    have := car_range x y hx hy i
    have := hx i; have := hy i
    simp only [car]
    omega

theorem split4 (N : Nat) : ∃ a b c d e : Nat, a < 18446744073709551616 ∧ b < 18446744073709551616 ∧ c < 18446744073709551616 ∧ d < 18446744073709551616 ∧ N = a + 18446744073709551616 * (b + 18446744073709551616 * (c + 18446744073709551616 * (d + 18446744073709551616 * e))) := by
  refine ⟨N % 18446744073709551616, N / 18446744073709551616 % 18446744073709551616, N / 18446744073709551616 / 18446744073709551616 % 18446744073709551616, N / 18446744073709551616 / 18446744073709551616 / 18446744073709551616 % 18446744073709551616, N / 18446744073709551616 / 18446744073709551616 / 18446744073709551616 / 18446744073709551616, ?_, ?_, ?_, ?_, ?_⟩
  all_goals omega

theorem wd_split (a b c d e : Nat) (ha : a < 18446744073709551616) (hb : b < 18446744073709551616) (hc : c < 18446744073709551616) (hd : d < 18446744073709551616) (N : Nat)
    (hN : N = a + 18446744073709551616 * (b + 18446744073709551616 * (c + 18446744073709551616 * (d + 18446744073709551616 * e)))) : wd N 0 = a ∧ wd N 1 = b ∧ wd N 2 = c ∧ wd N 3 = d := by
  subst hN
  refine ⟨?_, ?_, ?_, ?_⟩
  · rw [wd0]; omega
  · rw [wd1]; omega
  · rw [wd2]; omega
  · rw [wd3]; omega

theorem sm_wd (N M i : Nat) (hi : i < 4) : sm (wd N) (wd M) i = wd (N + M) i := by
  obtain ⟨a, b, c, d, e, ha, hb, hc, hd, hN⟩ := split4 N
  obtain ⟨a', b', c', d', e', ha', hb', hc', hd', hM⟩ := split4 M
  obtain ⟨n0, n1, n2, n3⟩ := wd_split a b c d e ha hb hc hd N hN
  obtain ⟨m0, m1, m2, m3⟩ := wd_split a' b' c' d' e' ha' hb' hc' hd' M hM
  obtain ⟨c1, hc1⟩ : ∃ x, x = (a + a') / 18446744073709551616 := ⟨_, rfl⟩
  obtain ⟨c2, hc2⟩ : ∃ x, x = (b + b' + c1) / 18446744073709551616 := ⟨_, rfl⟩
  obtain ⟨c3, hc3⟩ : ∃ x, x = (c + c' + c2) / 18446744073709551616 := ⟨_, rfl⟩
  obtain ⟨c4, hc4⟩ : ∃ x, x = (d + d' + c3) / 18446744073709551616 := ⟨_, rfl⟩
  obtain ⟨s0, hs0⟩ : ∃ x, x = (a + a') % 18446744073709551616 := ⟨_, rfl⟩
  obtain ⟨s1, hs1⟩ : ∃ x, x = (b + b' + c1) % 18446744073709551616 := ⟨_, rfl⟩
  obtain ⟨s2, hs2⟩ : ∃ x, x = (c + c' + c2) % 18446744073709551616 := ⟨_, rfl⟩
  obtain ⟨s3, hs3⟩ : ∃ x, x = (d + d' + c3) % 18446744073709551616 := ⟨_, rfl⟩
  obtain ⟨t0, t1, t2, t3⟩ := wd_split s0 s1 s2 s3 (e + e' + c4) (by omega) (by omega) (by omega) (by omega) (N + M) (by omega)
  clear hN hM
  have k1 : car (wd N) (wd M) 1 = c1 := by simp only [car, n0, m0]; omega
  have k2 : car (wd N) (wd M) 2 = c2 := by rw [car, k1, n1, m1]; omega
  have k3 : car (wd N) (wd M) 3 = c3 := by rw [car, k2, n2, m2]; omega
  match i, hi with
  | 0, _ => rw [sm, t0, n0, m0, car]; omega
  | 1, _ => rw [sm, t1, n1, m1, k1]; omega
  | 2, _ => rw [sm, t2, n2, m2, k2]; omega
  | 3, _ => rw [sm, t3, n3, m3, k3]; omega

theorem leZ_range (l : List Int) (h : ∀ z ∈ l, 0 ≤ z ∧ z < 256) : 0 ≤ Lib.leZ l ∧ Lib.leZ l < 256 ^ l.length := by
  induction l with
  | nil => simp [Lib.leZ]
  | cons a l ih =>
    have h1 := ih fun z hz => h z (List.mem_cons_of_mem _ hz)
    have h2 := h a List.mem_cons_self
    simp only [Lib.leZ, List.length_cons, Int.pow_succ]
    omega
theorem byt_range (k r : Nat) : 0 ≤ byt k r ∧ byt k r < 256 := by
  unfold byt
  have := Nat.mod_lt (k / 256 ^ (31 - r)) (show 0 < 256 by decide)
  omega
theorem lw_range (k q : Nat) : 0 ≤ lw k q ∧ lw k q < 18446744073709551616 := by
  have := leZ_range (bys k q) (fun z hz => by
    unfold bys at hz
    rw [List.mem_map] at hz
    obtain ⟨r, _, rfl⟩ := hz
    exact byt_range _ _)
  rw [bys_len] at this
  exact this

/-- A record's ID, its first byte the least. -/
def idv (k : Nat) : Nat := (lw k 0).toNat + 18446744073709551616 * ((lw k 1).toNat + 18446744073709551616 * ((lw k 2).toNat + 18446744073709551616 * (lw k 3).toNat))
theorem wd_idv (k q : Nat) (hq : q < 4) : wd (idv k) q = lw k q := by
  have h0 := lw_range k 0; have h1 := lw_range k 1; have h2 := lw_range k 2; have h3 := lw_range k 3
  unfold idv
  match q, hq with
  | 0, _ => rw [wd0]; omega
  | 1, _ => rw [wd1]; omega
  | 2, _ => rw [wd2]; omega
  | 3, _ => rw [wd3]; omega
/-- The sum of so many IDs. -/
def sumN : List Nat → Nat
  | [] => 0
  | k :: ks => idv k + sumN ks
theorem sumN_append (a b : List Nat) : sumN (a ++ b) = sumN a + sumN b := by
  induction a with
  | nil => simp [sumN]
  | cons k a ih => simp only [List.cons_append, sumN, ih]; omega

theorem add64_call (x y c : Int) (hx : 0 ≤ x) (hy : 0 ≤ y) (hc0 : 0 ≤ c) (hc : c ≤ 1) (w : World) :
    (callFunc 19 #[.int .u64 x, .int .u64 y, .int .u64 c]).run Yba.prog w = .ok (.value (.tuple #[.int .u64 ((x + y + c) % 18446744073709551616), .int .u64 ((x + y + c) / 18446744073709551616)])) w := by
  rw [run_callFunc_extern Yba.func19 (by kernel_rfl) (by kernel_rfl) (by kernel_rfl) (e := add64Entry) (by kernel_rfl), run_add64 x y c hx hy hc0 hc]
  rfl
end Go.Proofs.Ybulkqhs
