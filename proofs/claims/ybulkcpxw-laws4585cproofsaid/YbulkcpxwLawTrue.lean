/-
  quorumhall.LawS4585CProof AT WHATEVER INPUT.
-/
import Derived.Test.YbulkcpxwLaw
namespace Go.Proofs.Ybulkcpxw
open Go.RowKit

set_option maxRecDepth 100000 in
set_option maxHeartbeats 4000000 in
/-- No vote, and something is asked for. -/
theorem law_zero (a : Option Addr) (cap : Nat) (m : Int) (w : World) (hm : 0 < m) :
    Calls Yba.prog 5 #[.slice a 0 cap, .int .i64 m] w fun e w' => e = .returned (.bool true) ∧ Below w.heap.size w w' := by
  have hm' : ¬ m ≤ 0 := by omega
  have hd : decide (m ≤ 0) = false := by simp; omega
  go_enter Yba.func5, Yba.ntmps5
  go_upto_region 5 with fail
  clear hd hm'
  go_upto_region 8 with (first
    | (go_at_call 10; refine (build_any a 0 cap (fun _ => ⟨0, 0, 0, 0⟩) w (fun i hi => by omega) (by omega)).mono ?_; rintro e W1 ⟨vb, rfl, hb1, hv1, hg1⟩; have HG : Hid (W1.heap[w.heap.size]? = some (.cells (ptrs vb 0).toArray 43 (0, 0))) := hg1; have HB1 : Hid (Below w.heap.size w W1) := hb1; clear hg1 hv1 hb1)
    | (go_at_call 11; refine (clone_any _ _ _ vb W1 HG.out (by omega)).mono ?_; rintro e W2 ⟨v2, rfl, hb2, hr2⟩; have HB2 : Hid (Below W1.heap.size W1 W2) := hb2; clear hb2 hr2)
    | (go_at_call 12; refine (quorum_few _ 0 _ m W2 (by omega)).mono ?_; rintro e W3 ⟨rfl, rfl⟩))
  have HBW : Hid (Below w.heap.size w W3) := HB1.out.trans (HB2.out.mono HB1.out.size)
  clear HB1 HB2 HG
  go_wp2_with fail
  go_loopw [35] (fun i wr => i = .int .i64 0 ∧ wr = W3) (fun _ _ => 0)
  case atStart => exact ⟨rfl, rfl⟩
  case round =>
    obtain ⟨rfl, rfl⟩ := hrel
    go_wp2_with fail
    go_ret
    exact ⟨rfl, HBW.out⟩

/-- WHATEVER THE INPUT. -/
theorem law_true (a : Option Addr) (n cap : Nat) (m : Int) (f : Nat → VD) (w : World) (hin : n ≤ 1024 → IsIn w a n f) : Calls Yba.prog 5 #[.slice a n cap, .int .i64 m] w fun e w' => e = .returned (.bool true) ∧ Below w.heap.size w w' := by
  by_cases h1 : n ≤ 1024
  · by_cases h2 : n = 0
    · subst h2
      by_cases h3 : m ≤ 0
      · exact law_none a cap m w h3
      · exact law_zero a cap m w (by omega)
    · exact law_any a n cap m f w (hin h1) h1 (by omega)
  · exact law_many a n cap m w (by omega)
end Go.Proofs.Ybulkcpxw
