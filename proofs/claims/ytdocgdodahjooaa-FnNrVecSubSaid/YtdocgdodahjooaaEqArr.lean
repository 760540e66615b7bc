/- '==' and '!=' between two arrays of words: as their words are. -/
import Derived.Test.YtdocgdodahjooaaRows
import Derived.Test.YtdocgdodahjooaaMem
import Derived.WalkKit
namespace Go.Proofs.Ytdocgdodahjooaa
open Go.RowKit Num

theorem eq_arrty : Try.prog.underlying 23 = some (.array 4 22) := by kernel_rfl
theorem eq_u64ty : Try.prog.underlying 22 = some (.int .u64) := by kernel_rfl
theorem eq_u64d (d : Nat) (a b : Int) (w : World) : (Op.equalIn (d + 1) 22 (.int .u64 a) (.int .u64 b)).run Try.prog w = .ok (a == b) w := by
  simp [Op.equalIn, run_underlying eq_u64ty]
theorem eq_u64 (a b : Int) (w : World) : (Op.equalIn 9999 22 (.int .u64 a) (.int .u64 b)).run Try.prog w = .ok (a == b) w := eq_u64d 9998 a b w
theorem part_0 (c0 c1 c2 c3 : Int) (w : World) : (part 22 #[.int .u64 c0, .int .u64 c1, .int .u64 c2, .int .u64 c3] 0).run Try.prog w = .ok (.int .u64 c0) w := by kernel_rfl
theorem part_1 (c0 c1 c2 c3 : Int) (w : World) : (part 22 #[.int .u64 c0, .int .u64 c1, .int .u64 c2, .int .u64 c3] 1).run Try.prog w = .ok (.int .u64 c1) w := by kernel_rfl
theorem part_2 (c0 c1 c2 c3 : Int) (w : World) : (part 22 #[.int .u64 c0, .int .u64 c1, .int .u64 c2, .int .u64 c3] 2).run Try.prog w = .ok (.int .u64 c2) w := by kernel_rfl
theorem part_3 (c0 c1 c2 c3 : Int) (w : World) : (part 22 #[.int .u64 c0, .int .u64 c1, .int .u64 c2, .int .u64 c3] 3).run Try.prog w = .ok (.int .u64 c3) w := by kernel_rfl
theorem eq_arr (a0 a1 a2 a3 b0 b1 b2 b3 : Int) (w : World) : (binOp .eql 23 (.agg #[.int .u64 a0, .int .u64 a1, .int .u64 a2, .int .u64 a3]) (.agg #[.int .u64 b0, .int .u64 b1, .int .u64 b2, .int .u64 b3])).run Try.prog w = .ok (.bool (a0 == b0 && (a1 == b1 && (a2 == b2 && (a3 == b3))))) w := by
  simp only [binOp]
  simp only [Op.equal, Op.maxDepth, Sem.run_bind]
  rw [show (10000 : Nat) = 9998 + 1 + 1 from rfl]
  unfold Op.equalIn
  by_cases h0 : a0 = b0
  · subst h0
    by_cases h1 : a1 = b1
    · subst h1
      by_cases h2 : a2 = b2
      · subst h2
        by_cases h3 : a3 = b3
        · subst h3
          simp [run_underlying eq_arrty, List.range', eq_u64, part_0, part_1, part_2, part_3]
        · simp [run_underlying eq_arrty, List.range', eq_u64, part_0, part_1, part_2, part_3, h3]
      · simp [run_underlying eq_arrty, List.range', eq_u64, part_0, part_1, part_2, h2]
    · simp [run_underlying eq_arrty, List.range', eq_u64, part_0, part_1, h1]
  · simp [run_underlying eq_arrty, List.range', eq_u64, part_0, h0]
theorem ne_arr (a0 a1 a2 a3 b0 b1 b2 b3 : Int) (w : World) : (binOp .neq 23 (.agg #[.int .u64 a0, .int .u64 a1, .int .u64 a2, .int .u64 a3]) (.agg #[.int .u64 b0, .int .u64 b1, .int .u64 b2, .int .u64 b3])).run Try.prog w = .ok (.bool (!(a0 == b0 && (a1 == b1 && (a2 == b2 && (a3 == b3)))))) w := by
  have h := eq_arr a0 a1 a2 a3 b0 b1 b2 b3 w
  simp only [binOp, Sem.run_bind] at h ⊢
  cases hr : (Op.equal 23 (.agg #[.int .u64 a0, .int .u64 a1, .int .u64 a2, .int .u64 a3]) (.agg #[.int .u64 b0, .int .u64 b1, .int .u64 b2, .int .u64 b3])).run Try.prog w with
  | ok v w' => rw [hr] at h; simp at h ⊢; obtain ⟨h1, h2⟩ := h; subst h2; simp [h1]
  | halt h1 w' => rw [hr] at h; simp at h
end Go.Proofs.Ytdocgdodahjooaa
