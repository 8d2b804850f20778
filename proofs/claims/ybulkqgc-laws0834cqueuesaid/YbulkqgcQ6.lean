import Derived.Test.YbulkqgcQ4
namespace Go.Proofs.Ybulkqgc
open Go.RowKit
set_option linter.unusedVariables false

theorem run_equalIn_nilFunc (d : Nat) (w : World) : (Op.equalIn (d + 1) 1 .nilFunc .nilFunc).run Yba.prog w = .ok true w := by
  unfold Op.equalIn
  rw [Sem.run_bind, run_underlying Yba.underlying1]
  rfl
theorem run_neq_nilFunc (w : World) : (binOp .neq 1 .nilFunc .nilFunc).run Yba.prog w = .ok (.bool false) w := by
  have h := run_equalIn_nilFunc 9999 w
  simp only [binOp]
  simp [Op.equal, Op.maxDepth, h]

theorem ret_b {a b : Bool} (h : a = b) : Ending.returned (.bool a) = .returned (.bool b) := by rw [h]

set_option maxHeartbeats 800000 in
theorem before_any (x y : Ev) (w : World) :
    Calls Yba.prog 17 #[.agg #[.int .i64 x.at_, .int .u64 x.seq, .int .i64 x.to_, .int .i64 (-1), .pointer Option.none, .int .u64 0, .int .u32 0, .nilFunc], .agg #[.int .i64 y.at_, .int .u64 y.seq, .int .i64 y.to_, .int .i64 (-1), .pointer Option.none, .int .u64 0, .int .u32 0, .nilFunc]] w fun e w' =>
      e = .returned (.bool (lessB x y)) ∧ w' = (w.alloc (.cells #[.int .i64 x.at_, .int .u64 x.seq, .int .i64 x.to_, .int .i64 (-1), .pointer Option.none, .int .u64 0, .int .u32 0, .nilFunc] 96)).alloc (.cells #[.int .i64 y.at_, .int .u64 y.seq, .int .i64 y.to_, .int .i64 (-1), .pointer Option.none, .int .u64 0, .int .u32 0, .nilFunc] 96) := by
  obtain ⟨xa, xs, xt⟩ := x
  obtain ⟨ya, ys, yt⟩ := y
  by_cases h1 : xa < ya
  · go_enter Yba.func17, Yba.ntmps17
    go_wp2
    go_ret
    refine ⟨ret_b ?_, rfl⟩
    unfold lessB
    symm; rw [decide_eq_true_eq]; exact Or.inl h1
  · by_cases h2 : (xa == ya) = true
    · have h2' : xa = ya := by simpa using h2
      subst h2'
      clear h2
      go_enter Yba.func17, Yba.ntmps17
      go_wp2
      go_ret
      refine ⟨ret_b ?_, rfl⟩
      unfold lessB
      rw [decide_eq_decide]
      simp
    · have h2' : (xa == ya) = false := by simpa using h2
      have h3 : decide (xa < ya) = false := by simpa using h1
      have h4 : ¬ xa = ya := by simpa using h2
      clear h2
      go_enter Yba.func17, Yba.ntmps17
      go_wp2
      go_ret
      refine ⟨ret_b ?_, rfl⟩
      unfold lessB
      symm; rw [decide_eq_false_iff_not]; simp [h4]; omega
end Go.Proofs.Ybulkqgc
