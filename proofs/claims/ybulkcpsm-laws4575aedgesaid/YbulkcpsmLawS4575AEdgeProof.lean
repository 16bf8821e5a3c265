/-
  THE PROOF OF 'Rows.LawS4575AEdgeSaid': the frame by the skeleton tool; the walk by hand.
-/
import Derived.Test.YbulkcpsmRows
import Derived.WalkKit
import Derived.ProofKit
import Derived.OpenShut
import Derived.ShutString
import Derived.Test.YbulkcpsmCount
namespace Go.Proofs.Ybulkcpsm.lawS4575AEdge
open Go.ChangeShapes Go.WideShapes Go.ChangeAt Go.RowKit
open Go.ChangeMaps (open_string shut_string)
set_option linter.unusedVariables false      -- a walk need not use every 'w<i>' (that an integer argument fits its kind)

theorem own : ownKnob Yba.prog.godebug = none := by kernel_rfl

theorem pw_top : pw 19 11 = 92876046336 := by decide

/-! ### STEP 1: THE WALK: the Go text returns true. 'Grown w w'': the world has at most new blocks (Derived/RowKit3.lean). Part the cases AHEAD of 'go_enter' where a test parts the walk; take each callee by a contract of your own. -/
theorem walk (a0 : Int) (a1 : Int) (w0 : (Lit.int .u8 a0).wf = true) (w1 : (Lit.int .u8 a1).wf = true) (w : World) :
    Calls Yba.prog 4 #[.int .u8 a0, .int .u8 a1] w fun e w' => e = .returned (.bool true) ∧ Grown w w' := by
  have b0 := bounds_u8 w0
  have b1 := bounds_u8 w1
  clear w0 w1
  go_enter Yba.func4, Yba.ntmps4
  go_wp2
  go_loop [7, 8] (fun n i => ∃ k : Nat, k ≤ (a0 % 20).toNat ∧ i = .int .i64 k ∧ n = .int .i64 (pw k 0)) (fun _ i => (a0 % 20).toNat - (intOf i).toNat)
  case atStart => exact ⟨0, Nat.zero_le _, rfl, by rw [pw_zero]⟩
  case round =>
    obtain ⟨k, hk, rfl, rfl⟩ := hrel
    have hp1 := pw_pos k 0
    have hp2 : pw k 0 ≤ pw 19 11 := pw_mono (by omega) (by omega)
    rw [pw_top] at hp2
    by_cases hlt : (k : Int) < a0 % 20
    · go_wp2
      go_round
      case rel => exact ⟨k + 1, by omega, by go_num, by rw [pw_two]⟩
      case measure => simp [intOf]; omega
    · obtain rfl : k = (a0 % 20).toNat := by omega
      go_wp2
      clear hp1 hp2
      go_loop [7, 9] (fun n i => ∃ j : Nat, j ≤ (a1 % 12).toNat ∧ i = .int .i64 j ∧ n = .int .i64 (pw (a0 % 20).toNat j)) (fun _ i => (a1 % 12).toNat - (intOf i).toNat)
      case atStart => exact ⟨0, Nat.zero_le _, rfl, rfl⟩
      case round =>
        obtain ⟨j, hj, rfl, rfl⟩ := hrel
        have hp1 := pw_pos (a0 % 20).toNat j
        have hp2 : pw (a0 % 20).toNat j ≤ pw 19 11 := pw_mono (by omega) (by omega)
        rw [pw_top] at hp2
        by_cases hjt : (j : Int) < a1 % 12
        · go_wp2
          go_round
          case rel => exact ⟨j + 1, by omega, by go_num, by rw [pw_three]⟩
          case measure => simp [intOf]; omega
        · obtain rfl : j = (a1 % 12).toNat := by omega
          go_wp2_with fail
          refine (count_yes _ _ _ _ (by omega) (by omega) (by omega) (by omega) (by omega) (by omega) (by omega)).mono ?_
          rintro e w1 ⟨rfl, g1⟩
          go_wp2_with fail
          by_cases hz : a0 % 20 ≤ 0 ∧ a1 % 12 ≤ 0
          · obtain ⟨hz0, hz1⟩ := hz
            refine (count_empty _ _ _ _ (by omega) (by omega) (by omega) (by omega) (by omega) (by omega) hz0 hz1).mono ?_
            rintro e w2 ⟨rfl, g2⟩
            go_wp2
            go_ret
            exact ⟨rfl, grown_trans g1 g2⟩
          · have hz' : (a0 % 20 ≤ 0 ∧ 0 < a1 % 12) ∨ 0 < a0 % 20 := by omega
            clear hz
            rcases hz' with ⟨h0, h1⟩ | h0
            all_goals
              refine (count_no _ _ _ _ (by omega) (by omega) (by omega) (by omega) (by omega) (by omega) (by omega) (by omega)).mono ?_
              rintro e w2 ⟨rfl, g2⟩
              go_wp2
              go_ret
              exact ⟨rfl, grown_trans g1 g2⟩

/-! ### THE ROW's STEP: WRITTEN OUT: LEAVE IT -/
set_option maxRecDepth 100000 in
theorem lifted (os : Os) (started : os.Started) (H : Type) (enc : TypeId × Value → H) :
    ReturnsInHanded {} Yba.checked os 4 .any (Rows.lawS4575AEdgeSpec.pre6 enc Yba.prog Yba.f4 Rows.lawS4575AEdgeRow.domain false) (Rows.lawS4575AEdgeSpec.post enc Yba.prog Yba.f4 false true false false) := by
  refine returnsInHanded_of_change (C := Yba.checked) own started (by kernel_rfl) Yba.func4
    (ChangeSpec.witness6 (enc := enc) (C := Yba.checked) false ⟨#[], #[.int .u8 0, .int .u8 0], []⟩ 8 (by kernel_rfl) (by kernel_rfl) (by kernel_rfl) (by kernel_rfl)) ?_
  intro W base args ds gs before hval0 hW hcnd _
  have hval : ∀ (j : Nat) t v, Yba.f4.params[j]? = some t → args[j]? = some v → Value.okWide Yba.prog W .any base t v := hval0
  have hW' := hW
  obtain ⟨p, q, hA0, hV, rfl, hfz, hnd⟩ := hW
  have hA : DataW.TrodAll enc Yba.prog W 0 (fun _ => true) true Yba.f4.params.toList args.toList ds p := hA0
  rw [Yba.params4] at hA hval
  obtain ⟨v0, vs0, d0, ds0, p0, q0, hargs, rfl, rfl, h0, r0⟩ := trodAll_cons hA
  obtain ⟨v1, vs1, d1, ds1, p1, q1, rfl, rfl, rfl, h1, r1⟩ := trodAll_cons r0
  obtain ⟨rfl, rfl, rfl⟩ := trodAll_nil r1
  obtain rfl : args = #[v0, v1] := by cases args; simp_all
  obtain ⟨rfl, rfl⟩ := trodVars_none hV
  obtain ⟨a0, rfl, rfl, rfl, w0⟩ := open_int Yba.underlying5 (hval 0 5 v0 rfl rfl) h0
  obtain ⟨a1, rfl, rfl, rfl, w1⟩ := open_int Yba.underlying5 (hval 1 5 v1 rfl rfl) h1
  clear hA0 hval0
  simp only [List.append_nil] at hW'
  refine (walk a0 a1 w0 w1 W).mono fun e W' ⟨he, hg⟩ => ?_
  subst he
  exact ⟨_, rfl, post_of_same (pa := []) (pv := []) hW' (fun _ _ _ => (trodAll_cons_mk (shut_bool Yba.underlying4 _) trodAll_mk0)) (fun sp _ => (trodAll_cons_mk (shut_int Yba.underlying5 w0) (trodAll_cons_mk (shut_int Yba.underlying5 w1) trodAll_mk0))) (fun _ _ => rfl) rfl
    (hg.frame _) hg.2.1 (ok_one (by kernel_rfl) rfl (okWide_bool_mk Yba.underlying4 _))⟩

theorem over : Rows.lawS4575AEdgeRow.holds Yba.pinned (OpenSpec.ofChange Rows.lawS4575AEdgeSpec) :=
  OpenClaim.holds_of_wide 4 Yba.f4 rfl rfl rfl rfl rfl rfl rfl ⟨rfl, rfl, rfl, rfl, rfl⟩ rfl rfl rfl rfl rfl (by kernel_rfl) Yba.func4 (by kernel_rfl)
    (of_decide_eq_true (by kernel_rfl)) (by unfold Func.isWrapper; first | (rw [if_pos (by decide +kernel)]; kernel_rfl) | (rw [if_neg (by decide +kernel)]; exact ⟨rfl, rfl⟩))
    (fun os started H enc _ => lifted os started H enc)

/-- ████ THE STATEMENT ████ -/
theorem proved : Rows.LawS4575AEdgeSaid :=
  over
end Go.Proofs.Ybulkcpsm.lawS4575AEdge
