/-
  THE WALK of slices.Clone (function 11) at []*vote.
-/
import Derived.Test.YbulkcpxwQuorum
namespace Go.Proofs.Ybulkcpxw
open Go.RowKit

theorem ptrs_one (vb : Nat → Nat) (n : Nat) : ∀ u ∈ ptrs vb n, u.oneCell' = true := fun u hu => by
  obtain ⟨j, _, rfl⟩ := List.mem_map.1 hu; rfl

set_option maxHeartbeats 1000000 in
theorem clone_any (g cap n : Nat) (vb : Nat → Nat) (w : World) (hg : w.heap[g]? = some (.cells (ptrs vb n).toArray 43 (0, 0))) (hn : n ≤ 1024) :
    Calls Yba.prog 11 #[.slice (some ⟨g, 0, none⟩) n cap] w fun e w' => ∃ v, e = .returned v ∧ Below w.heap.size w w' ∧ w'.ownsRow w.heap.size 43 1 v n (ptrs vb n) := by
  obtain ⟨i0, hi, hz0, hz1, hz2⟩ := info_parts info43
  have hnil := fun w => Lib.run_eql_slice_nil (P := Yba.prog) w 40 _ (some ⟨g, 0, none⟩) n cap 0 0 Yba.underlying40
  have gl : g < w.heap.size := (Array.getElem?_eq_some_iff.1 hg).1
  have HG : Hid (w.heap[g]? = some (.cells (ptrs vb n).toArray 43 (0, 0))) := hg
  clear hg
  have C1 : Hid ((ptrs vb n).length = n * 1) := by show _ = _; rw [ptrs_length]; omega
  have C2 : Hid (∀ j u, (ptrs vb n)[j]? = some u → (w.alloc (.cells #[] 43)).cell? ((⟨g, 0, none⟩ : Addr).add j) = some u) := by
    intro j u hj
    have hbel : Below w.heap.size w (w.alloc (.cells #[] 43)) := (Below.refl _ _).alloc (Nat.le_refl _) _
    rw [Addr.add_mid, Nat.zero_add, hbel.cell (p := ⟨g, j, none⟩) gl, cell_of_row w g j _ 43 (0, 0) HG.out]
    simpa using hj
  go_enter Yba.func11, Yba.ntmps11
  go_wp2_with (at_builtin; refine wpList_append_own _ rfl _ _ 40 rfl w.heap.size 43 i0 (.pointer none) 1 8 Yba.underlying40 hi hz0 hz1 hz2 rfl (by decide) _ 0 [] rfl (World.ownsRow_made w #[] 0 (Nat.le_refl _) (Nat.zero_le _) rfl) ⟨g, 0, none⟩ n cap (ptrs vb n) rfl C1.out C2.out (ptrs_one vb n) (by unfold maxLen; omega) (by omega) (by simp) ?_; intro v' w1 hown' hgrow _)
  go_ret
  refine ⟨v', rfl, ((Below.refl _ w).alloc (Nat.le_refl _) _).grown hgrow (by simp) (fun k e => by cases e; exact Nat.le_refl _), ?_⟩
  simpa using hown'
end Go.Proofs.Ybulkcpxw
