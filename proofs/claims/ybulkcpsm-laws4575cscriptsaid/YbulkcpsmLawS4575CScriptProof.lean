/-
  THE PROOF OF 'Rows.LawS4575CScriptSaid': the frame after the skeleton tool's; the slice of structs opened by hand.
-/
import Derived.Test.YbulkcpsmRows
import Derived.WalkKit
import Derived.ProofKit
import Derived.OpenShut
import Derived.ShutString
import Derived.ChangeOld
import Derived.Below
import Derived.Deep.SlicePairs
import Derived.Test.YbulkcpsmScript
namespace Go.Proofs.Ybulkcpsm.lawS4575CScript
open Go.ChangeShapes Go.WideShapes Go.ChangeAt Go.RowKit
open Go.ChangeMaps (open_string shut_string)
set_option linter.unusedVariables false

theorem own : ownKnob Yba.prog.godebug = none := by kernel_rfl
/-- The bool in a value. -/
def boolOf : Value → Bool | .bool b => b | _ => false

theorem laidOut : laidOutB Yba.prog = true := by kernel_rfl

/-- A slice of calls, opened. -/
theorem ops_of {H : Type} {enc : TypeId × Value → H} {W : World} {spare : Nat → Bool} {held : Bool} {fuel : Nat} {a : Option Addr} {len cap : Nat} {x : DataW H × List MemPlace}
    (h : DataW.trod enc Yba.prog W 0 spare held fuel 50 (Value.cells (.slice a len cap)).toList = some x) : len ≤ 9223372036854775807 ∧ ∃ os bs, IsOps W a len os bs := by
  rcases Go.Deep.open_slice_pairs Yba.underlying50 Yba.underlying53 (by kernel_rfl) rfl rfl (by kernel_rfl) (by kernel_rfl) h with ⟨hcs, _⟩ | ⟨x, l, c, m, n, V0, V1, D0, D1, P0, P1, hcs, _, hl, hm, hmm, _, hcell⟩
  · simp [Value.cells] at hcs
    obtain ⟨rfl, rfl, rfl⟩ := hcs
    exact ⟨by omega, fun _ => 0, fun _ => false, fun i hi => by omega⟩
  · simp [Value.cells] at hcs
    obtain ⟨rfl, rfl, rfl⟩ := hcs
    unfold maxLen at hm
    refine ⟨by omega, fun i => (intOf (V0 i)).toNat, fun i => boolOf (V1 i), fun i hi => ?_⟩
    have hi' : i < m := by rw [hmm]; split <;> omega
    obtain ⟨e0, e1, t0, t1⟩ := hcell i hi'
    obtain ⟨z, ez, _, wz⟩ := DataW.trod_int Yba.underlying5 t0
    obtain ⟨y, ey, _⟩ := DataW.trod_bool Yba.underlying4 t1
    simp at ez ey
    have bz := bounds_u8 wz
    obtain ⟨b, off, spot⟩ := x
    have hspot : spot = none := by simpa [Addr.add] using World.cell?_spot (hcell 0 (by omega)).1
    subst hspot
    rw [Go.WideShapes.add_plain, ez] at e0
    rw [Go.WideShapes.add_plain, ey] at e1
    have hb := World.block_lt_of_cell? W _ e0
    refine ⟨b, off, rfl, hb, ?_, ?_, ?_⟩
    · show _ = some (Value.int IntKind.u8 ((intOf (V0 i)).toNat : Nat))
      rw [e0, ez]; simp only [intOf]; rw [Int.toNat_of_nonneg bz.1]
    · show _ = some (Value.bool (boolOf (V1 i)))
      rw [ey]; exact e1
    · show (intOf (V0 i)).toNat < 256
      rw [ez]; simp only [intOf]; omega

/-! ### THE WALK: YbulkcpsmScript.lean; where more than 1024 calls came in nothing is done. -/
theorem long_any (K : Int) (u : Int) (a : Option Addr) (len cap : Nat) (w : World) (hlen : 1024 < len) (hm : len ≤ 9223372036854775807) :
    Calls Yba.prog 8 #[.int .u32 K, .int .i16 u, .slice a len cap] w fun e w' => e = .returned (.bool true) ∧ Below w.heap.size w w' := by
  go_enter Yba.func8, Yba.ntmps8
  go_wp2
  go_ret
  exact ⟨rfl, Below.refl _ _⟩

theorem walk (a0 : Int) (a1 : Int) (a2 : Option Addr) (len2 cap2 : Nat) (w : World) (w0 : (Lit.int .u32 a0).wf = true) (w1 : (Lit.int .i16 a1).wf = true) (hm : len2 ≤ 9223372036854775807) (os : Nat → Nat) (bs : Nat → Bool) (w2 : IsOps w a2 len2 os bs) :
    Calls Yba.prog 8 #[.int .u32 a0, .int .i16 a1, .slice a2 len2 cap2] w fun e w' => e = .returned (.bool true) ∧ Below w.heap.size w w' := by
  have b0 := bounds_u32 w0
  have b1 := bounds_i16 w1
  obtain ⟨K, rfl⟩ : ∃ K : Nat, a0 = K := ⟨a0.toNat, by omega⟩
  by_cases h : len2 ≤ 1024
  · exact script_any K a1 a2 len2 cap2 os bs w (by omega) (by omega) (by omega) w2 h
  · exact long_any K a1 a2 len2 cap2 w (by omega) hm

/-! ### THE ROW's STEP: WRITTEN OUT: LEAVE IT -/
set_option maxRecDepth 100000 in
theorem lifted (os : Os) (started : os.Started) (H : Type) (enc : TypeId × Value → H) :
    ReturnsInHanded {} Yba.checked os 8 .any (Rows.lawS4575CScriptSpec.pre6 enc Yba.prog Yba.f8 Rows.lawS4575CScriptRow.domain false) (Rows.lawS4575CScriptSpec.post enc Yba.prog Yba.f8 false true false false) := by
  refine returnsInHanded_of_change (C := Yba.checked) own started (by kernel_rfl) Yba.func8
    (ChangeSpec.witness6 (enc := enc) (C := Yba.checked) false ⟨#[], #[.int .u32 0, .int .i16 0, .slice none 0 0], []⟩ 8 (by kernel_rfl) (by kernel_rfl) (by kernel_rfl) (by kernel_rfl)) ?_
  intro W base args ds gs before hval0 hW hcnd _
  have hval : ∀ (j : Nat) t v, Yba.f8.params[j]? = some t → args[j]? = some v → Value.okWide Yba.prog W .any base t v := hval0
  have hW' := hW
  obtain ⟨p, q, hA0, hV, rfl, hfz, hnd⟩ := hW
  have hA : DataW.TrodAll enc Yba.prog W 0 (fun _ => true) true Yba.f8.params.toList args.toList ds p := hA0
  rw [Yba.params8] at hA hval
  obtain ⟨v0, vs0, d0, ds0, p0, q0, hargs, rfl, rfl, h0, r0⟩ := trodAll_cons hA
  obtain ⟨v1, vs1, d1, ds1, p1, q1, rfl, rfl, rfl, h1, r1⟩ := trodAll_cons r0
  obtain ⟨v2, vs2, d2, ds2, p2, q2, rfl, rfl, rfl, h2, r2⟩ := trodAll_cons r1
  obtain ⟨rfl, rfl, rfl⟩ := trodAll_nil r2
  obtain rfl : args = #[v0, v1, v2] := by cases args; simp_all
  obtain ⟨rfl, rfl⟩ := trodVars_none hV
  obtain ⟨a0, rfl, rfl, rfl, w0⟩ := open_int Yba.underlying41 (hval 0 41 v0 rfl rfl) h0
  obtain ⟨a1, rfl, rfl, rfl, w1⟩ := open_int Yba.underlying42 (hval 1 42 v1 rfl rfl) h1
  obtain ⟨a2, len2, cap2, rfl⟩ := okWide_slice Yba.underlying50 (hval 2 50 v2 rfl rfl)
  have k2 := h2
  have lt2 : ∀ x ∈ p2, x.block < W.heap.size := by obtain ⟨m, hm⟩ := k2; exact DataW.trod_lt m _ _ _ hm
  obtain ⟨hm2, os2, bs2, w2⟩ : len2 ≤ 9223372036854775807 ∧ ∃ os bs, IsOps W a2 len2 os bs := by
    obtain ⟨fuel, hf⟩ := h2
    exact ops_of hf
  clear hA0 hval0
  refine (walk a0 a1 a2 len2 cap2 W w0 w1 hm2 os2 bs2 w2).mono fun e W' ⟨he, bel⟩ => ?_
  subst he
  exact ⟨_, rfl, _, _, _, [], _, [], hW', trodAll_mk1 (shut_bool Yba.underlying4 _), (trodAll_cons_mk (shut_int Yba.underlying41 w0) (trodAll_cons_mk (shut_int Yba.underlying42 w1) (trodAll_cons_mk (Below.trod laidOut (by kernel_rfl) (of_decide_eq_true (by kernel_rfl)) k2 bel lt2) trodAll_mk0))), rfl, bel.frame _, fun h => by cases h⟩

theorem over : Rows.lawS4575CScriptRow.holds Yba.pinned (OpenSpec.ofChange Rows.lawS4575CScriptSpec) :=
  OpenClaim.holds_of_wide 8 Yba.f8 rfl rfl rfl rfl rfl rfl rfl ⟨rfl, rfl, rfl, rfl, rfl⟩ rfl rfl rfl rfl rfl (by kernel_rfl) Yba.func8 (by kernel_rfl)
    (of_decide_eq_true (by kernel_rfl)) (by unfold Func.isWrapper; first | (rw [if_pos (by decide +kernel)]; kernel_rfl) | (rw [if_neg (by decide +kernel)]; exact ⟨rfl, rfl⟩))
    (fun os started H enc _ => lifted os started H enc)

/-- ████ THE STATEMENT ████ -/
theorem proved : Rows.LawS4575CScriptSaid := over
end Go.Proofs.Ybulkcpsm.lawS4575CScript
