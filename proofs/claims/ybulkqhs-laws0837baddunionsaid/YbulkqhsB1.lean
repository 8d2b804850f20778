import Derived.Test.YbulkqhsB0
import Derived.Shelf.Bin.ReadersZ
import Derived.Shelf.Lay
import Derived.Ground.MnProg
namespace Go.Proofs.Ybulkqhs
open Go.RowKit Go.Shelf
set_option linter.unusedVariables false

shelf_lay LaysBin.n42 Mn 42 at Yba as Yba.lays42
shelf_lay LaysBin.n33 Mn 33 at Yba as Yba.lays33

/-- -1, 0, 1. -/
def cmpN (x y : Int) : Int := if x < y then -1 else if y < x then 1 else 0
theorem cmpN_lt {x y : Int} (h : x < y) : cmpN x y = -1 := by simp [cmpN, h]
theorem cmpN_gt {x y : Int} (h : y < x) : cmpN x y = 1 := by unfold cmpN; rw [if_neg (by omega), if_pos h]
theorem cmpN_eq (x : Int) : cmpN x x = 0 := by simp [cmpN]

theorem isNaN_any (x : Int) (w : World) : Calls Yba.prog 57 #[.int .u64 x] w fun e w' => e = .returned (.bool false) ∧ w' = w := by
  go_enter Yba.func57, Yba.ntmps57
  go_wp2
  go_ret
  exact ⟨rfl, rfl⟩

theorem cmp_any (x y : Int) (w : World) : Calls Yba.prog 45 #[.int .u64 x, .int .u64 y] w fun e w' => e = .returned (.int .i64 (cmpN x y)) ∧ w' = w := by
  rcases Int.lt_trichotomy x y with h | h | h
  · rw [cmpN_lt h]
    go_enter Yba.func45, Yba.ntmps45
    go_wp2_with fail
    refine (isNaN_any _ _).mono ?_
    rintro e w' ⟨rfl, rfl⟩
    go_wp2_with fail
    refine (isNaN_any _ _).mono ?_
    rintro e w'' ⟨rfl, rfl⟩
    go_wp2
    go_ret
    exact ⟨rfl, rfl⟩
  · subst h
    rw [cmpN_eq]
    go_enter Yba.func45, Yba.ntmps45
    go_wp2_with fail
    refine (isNaN_any _ _).mono ?_
    rintro e w' ⟨rfl, rfl⟩
    go_wp2_with fail
    refine (isNaN_any _ _).mono ?_
    rintro e w'' ⟨rfl, rfl⟩
    go_wp2
    go_ret
    exact ⟨rfl, rfl⟩
  · rw [cmpN_gt h]
    have h' : ¬ x < y := by omega
    go_enter Yba.func45, Yba.ntmps45
    go_wp2_with fail
    refine (isNaN_any _ _).mono ?_
    rintro e w' ⟨rfl, rfl⟩
    go_wp2_with fail
    refine (isNaN_any _ _).mono ?_
    rintro e w'' ⟨rfl, rfl⟩
    go_wp2
    go_ret
    exact ⟨rfl, rfl⟩


/-! ### The words of an ID -/
def byt (k r : Nat) : Int := ((k / 256 ^ (31 - r) % 256 : Nat) : Int)
def bys (k q : Nat) : List Int := (List.range 8).map fun j => byt k (8 * q + j)
/-- The q-th word, the first byte the greatest. -/
def hw (k q : Nat) : Int := ((k / 2 ^ (64 * (3 - q)) % 2 ^ 64 : Nat) : Int)
/-- The q-th word, the first byte the least. -/
def lw (k q : Nat) : Int := Lib.leZ (bys k q)
theorem byt_wf (k r : Nat) : (Lit.int .u8 (byt k r)).wf = true := by
  have : k / 256 ^ (31 - r) % 256 < 256 := Nat.mod_lt _ (by decide)
  unfold byt
  generalize k / 256 ^ (31 - r) % 256 = m at *
  simp [Lit.wf]
  exact ⟨by show (0 : Int) ≤ m; omega, by show (m : Int) ≤ 255; omega⟩
theorem bys_wf (k q : Nat) : ∀ z ∈ bys k q, (Lit.int .u8 z).wf = true := by
  intro z hz
  unfold bys at hz
  rw [List.mem_map] at hz
  obtain ⟨r, _, rfl⟩ := hz
  exact byt_wf _ _
theorem bys_len (k q : Nat) : (bys k q).length = 8 := by simp [bys]
theorem bys_get (k q i : Nat) (hi : i < 8) : (bys k q).getD i 0 = byt k (8 * q + i) := by
  rw [List.getD_eq_getElem?_getD]
  unfold bys
  rw [List.getElem?_map, List.getElem?_range hi]; rfl

theorem beZ_bys (k q : Nat) (hq : q < 4) : Lib.beZ (bys k q) = hw k q := by
  have e : ∀ j, j < 8 → k / 256 ^ (31 - (8 * q + j)) = k / 2 ^ (64 * (3 - q)) / 256 ^ (7 - j) := by
    intro j hj
    rw [Nat.div_div_eq_div_mul, show (2 : Nat) ^ (64 * (3 - q)) = 256 ^ (8 * (3 - q)) by rw [show (256 : Nat) = 2 ^ 8 from rfl, ← Nat.pow_mul]; congr 1; omega, ← Nat.pow_add]
    congr 2; omega
  unfold hw
  generalize k / 2 ^ (64 * (3 - q)) = m at *
  have hl : bys k q = [((m / 256 ^ 7 % 256 : Nat) : Int), ((m / 256 ^ 6 % 256 : Nat) : Int), ((m / 256 ^ 5 % 256 : Nat) : Int), ((m / 256 ^ 4 % 256 : Nat) : Int), ((m / 256 ^ 3 % 256 : Nat) : Int), ((m / 256 ^ 2 % 256 : Nat) : Int), ((m / 256 ^ 1 % 256 : Nat) : Int), ((m / 256 ^ 0 % 256 : Nat) : Int)] := by
    unfold bys byt
    simp only [show List.range 8 = [0, 1, 2, 3, 4, 5, 6, 7] from rfl, List.map_cons, List.map_nil]
    rw [e 0 (by omega), e 1 (by omega), e 2 (by omega), e 3 (by omega), e 4 (by omega), e 5 (by omega), e 6 (by omega), e 7 (by omega)]
  rw [hl]
  simp only [Lib.beZ, Lib.beFromZ]
  omega

theorem be_any (b o k q : Nat) (hq : q < 4) (n : Nat) (hn : 8 ≤ n) (c : Nat) (w : World) (h : RA w b o k) :
    Calls Yba.prog 58 #[.agg #[], .slice (some ⟨b, o + 1 + 8 * q, none⟩) n c] w fun e w' => e = .returned (.int .u64 (hw k q)) ∧ Below w.heap.size w w' := by
  have := Any.binary_BE_Uint64_z Yba.lays42 ⟨b, o + 1 + 8 * q, none⟩ n c (bys k q) w hn (by rw [bys_len]; exact Nat.le_refl _) (fun i hi => by
    rw [bys_len] at hi
    rw [Addr.add_mid, bys_get k q i hi, show o + 1 + 8 * q + i = o + 1 + (8 * q + i) by omega]
    exact h.byte (8 * q + i) (by omega)) (bys_wf k q)
  rw [show List.take 8 (bys k q) = bys k q from List.take_of_length_le (by rw [bys_len]; exact Nat.le_refl _), beZ_bys k q hq] at this
  exact this
theorem le_any (b o k q : Nat) (hq : q < 4) (n : Nat) (hn : 8 ≤ n) (c : Nat) (w : World) (h : RA w b o k) :
    Calls Yba.prog 20 #[.agg #[], .slice (some ⟨b, o + 1 + 8 * q, none⟩) n c] w fun e w' => e = .returned (.int .u64 (lw k q)) ∧ Below w.heap.size w w' := by
  have := Any.binary_LE_Uint64_z Yba.lays33 ⟨b, o + 1 + 8 * q, none⟩ n c (bys k q) w hn (by rw [bys_len]; exact Nat.le_refl _) (fun i hi => by
    rw [bys_len] at hi
    rw [Addr.add_mid, bys_get k q i hi, show o + 1 + 8 * q + i = o + 1 + (8 * q + i) by omega]
    exact h.byte (8 * q + i) (by omega)) (bys_wf k q)
  rw [show List.take 8 (bys k q) = bys k q from List.take_of_length_le (by rw [bys_len]; exact Nat.le_refl _)] at this
  exact this

/-! ### The comparison, word by word -/
def top (k q : Nat) : Nat := k % 2 ^ 256 / 2 ^ (64 * (4 - q))
theorem top_step (k q : Nat) (hq : q < 4) : (top k (q + 1) : Int) = 2 ^ 64 * (top k q : Int) + hw k q := by
  unfold top hw
  match q, hq with
  | 0, _ => simp only [Nat.reduceSub, Nat.reduceMul, Nat.reducePow, Nat.reduceAdd, Int.reducePow]; omega
  | 1, _ => simp only [Nat.reduceSub, Nat.reduceMul, Nat.reducePow, Nat.reduceAdd, Int.reducePow]; omega
  | 2, _ => simp only [Nat.reduceSub, Nat.reduceMul, Nat.reducePow, Nat.reduceAdd, Int.reducePow]; omega
  | 3, _ => simp only [Nat.reduceSub, Nat.reduceMul, Nat.reducePow, Nat.reduceAdd, Int.reducePow]; omega
theorem top_zero (k : Nat) : top k 0 = 0 := by
  unfold top
  exact Nat.div_eq_of_lt (Nat.mod_lt _ (by decide))
theorem top_four (k : Nat) : top k 4 = k % 2 ^ 256 := by
  unfold top; simp
theorem lt_of_top {x y q : Nat} (h : top x q < top y q) : x % 2 ^ 256 < y % 2 ^ 256 := by
  unfold top at h
  apply Decidable.byContradiction
  intro hn
  have := Nat.div_le_div_right (c := 2 ^ (64 * (4 - q))) (Nat.le_of_not_lt hn)
  omega
theorem cmp_word {x y q : Nat} (hq : q < 4) (h : top x q = top y q) (hne : cmpN (hw x q) (hw y q) ≠ 0) : cmpN (hw x q) (hw y q) = cmpN ((x % 2 ^ 256 : Nat) : Int) ((y % 2 ^ 256 : Nat) : Int) := by
  have sx := top_step x q hq; have sy := top_step y q hq
  rcases Int.lt_trichotomy (hw x q) (hw y q) with hl | hl | hl
  · have : top x (q + 1) < top y (q + 1) := by omega
    have := lt_of_top this
    rw [cmpN_lt hl, cmpN_lt (by omega)]
  · rw [hl, cmpN_eq] at hne; exact absurd rfl hne
  · have : top y (q + 1) < top x (q + 1) := by omega
    have := lt_of_top this
    rw [cmpN_gt hl, cmpN_gt (by omega)]
theorem cmp_word0 {x y q : Nat} (hq : q < 4) (h : top x q = top y q) (hz : cmpN (hw x q) (hw y q) = 0) : top x (q + 1) = top y (q + 1) := by
  have sx := top_step x q hq; have sy := top_step y q hq
  have : hw x q = hw y q := by
    rcases Int.lt_trichotomy (hw x q) (hw y q) with hl | hl | hl
    · rw [cmpN_lt hl] at hz; cases hz
    · exact hl
    · rw [cmpN_gt hl] at hz; cases hz
  omega
end Go.Proofs.Ybulkqhs
