/-
  A digest is equal to itself: the run of '!=' on two equal [32]byte values.
-/
import Derived.Test.YbulkcpxwVotes
import Derived.Laws.StructEq
namespace Go.Proofs.Ybulkcpxw
open Go.RowKit

theorem sizeOf5 (w : World) : (sizeOf 5).run Yba.prog w = .ok 1 w := by kernel_rfl
theorem equalIn_same (w : World) (d : Nat) (xs : List Value) (hx : ∀ i, i < 32 → ∃ x, xs[i]? = some (.int .u8 x)) :
    (Op.equalIn (d + 2) 24 (.agg xs.toArray) (.agg xs.toArray)).run Yba.prog w = .ok true w := by
  rw [Op.equalIn]
  simp only [Sem.run_bind, run_underlying Yba.underlying24, Result.andThen_ok, sizeOf5, Std.Legacy.Range.forIn_eq_forIn_range', Std.Legacy.Range.size, Nat.sub_zero, Nat.add_sub_cancel, Nat.div_one]
  have hl : ∀ i ∈ List.range' 0 32 1, i < 32 := fun i hi => by simpa using (List.mem_range'_1.1 hi).2
  generalize List.range' 0 32 1 = l at hl ⊢
  induction l with
  | nil => simp
  | cons i l ih =>
    obtain ⟨x, hxi⟩ := hx i (hl i (by simp))
    have px : (part 5 xs.toArray (i * 1)).run Yba.prog w = .ok (.int .u8 x) w := by
      simp [part, isAgg, run_underlying Yba.underlying5, hxi]
    have pe : (Op.equalIn (d + 1) 5 (.int .u8 x) (.int .u8 x)).run Yba.prog w = .ok true w := by
      rw [run_equalIn_int w d 5 .u8 .u8 _ _ Yba.underlying5]
      simp
    simp only [List.forIn_cons, Sem.run_bind, px, pe, Result.andThen_ok]
    simp only [Bool.not_true, Bool.false_eq_true, if_false, Sem.run_pure, Result.andThen_ok]
    exact ih fun j hj => hl j (by simp [hj])
theorem neq_digest (f : VD) (w : World) : (binOp .neq 24 (.agg (dOf f).toArray) (.agg (dOf f).toArray)).run Yba.prog w = .ok (.bool false) w := by
  have h : ∀ d, (Op.equalIn (d + 2) 24 (.agg (dOf f).toArray) (.agg (dOf f).toArray)).run Yba.prog w = .ok true w := fun d => equalIn_same w d (dOf f) (fun i hi => by
    have : i = 0 ∨ i = 31 ∨ (0 < i ∧ i < 31) := by omega
    rcases this with rfl | rfl | ⟨h1, h2⟩
    · exact ⟨_, rfl⟩
    · exact ⟨_, rfl⟩
    · obtain ⟨j, rfl⟩ : ∃ j, i = j + 1 := ⟨i - 1, by omega⟩
      refine ⟨0, ?_⟩
      show (List.replicate 30 (Value.int .u8 0) ++ _)[j]? = _
      rw [List.getElem?_append_left (by simp; omega)]
      rw [List.getElem?_replicate, if_pos (by omega)])
  simp only [binOp]
  simp [Op.equal, Op.maxDepth, h 9998]
end Go.Proofs.Ybulkcpxw
