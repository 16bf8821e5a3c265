/-
  THE PROOF OF 'Rows.LawS4585CProofSaid': the frame after the skeleton tool's; the slice of structs opened by hand.
-/
import Derived.Test.YbulkcpxwRows
import Derived.WalkKit
import Derived.ProofKit
import Derived.OpenShut
import Derived.ShutString
import Derived.ChangeOld
import Derived.Below
import Derived.Deep.SlicePairs
import Derived.Lib.SmallJoins
import Derived.Test.YbulkcpxwLawTrue
namespace Go.Proofs.Ybulkcpxw.lawS4585CProof
open Go.ChangeShapes Go.WideShapes Go.ChangeAt Go.RowKit
open Go.ChangeMaps (open_string shut_string)
set_option linter.unusedVariables false

theorem own : ownKnob Yba.prog.godebug = none := by kernel_rfl
theorem laidOut : laidOutB Yba.prog = true := by kernel_rfl
theorem cells50 : Yba.prog.cellsOf 50 = 4 := by kernel_rfl
theorem cells5 : Yba.prog.cellsOf 5 = 1 := by kernel_rfl
theorem cells23 : Yba.prog.cellsOf 23 = 1 := by kernel_rfl

/-- A slice of votes' data, opened. -/
theorem in_of {H : Type} {enc : TypeId × Value → H} {W : World} {spare : Nat → Bool} {held : Bool} {fuel : Nat} {a : Option Addr} {len cap : Nat} {x : DataW H × List MemPlace}
    (h : DataW.trod enc Yba.prog W 0 spare held fuel 39 (Value.cells (.slice a len cap)).toList = some x) : ∃ f, IsIn W a len f := by
  rcases Go.Deep.open_slice Yba.underlying39 h with ⟨hcs, _⟩ | ⟨x, l, c, m, n, D, Pl, hcs, _, hl, hm, hmm, _, hcell⟩
  · simp [Value.cells] at hcs
    obtain ⟨rfl, rfl, rfl⟩ := hcs
    exact ⟨fun _ => ⟨0, 0, 0, 0⟩, fun i hi => by omega⟩
  · simp [Value.cells] at hcs
    obtain ⟨rfl, rfl, rfl⟩ := hcs
    have each : ∀ i, i < len → ∃ d : VD, ∃ b off, some x = some (⟨b, off, none⟩ : Addr) ∧ b < W.heap.size ∧ W.cell? ⟨b, off + i * 4, none⟩ = some (.int .u8 d.view) ∧ W.cell? ⟨b, off + i * 4 + 1, none⟩ = some (.int .u8 d.rep) ∧
        W.cell? ⟨b, off + i * 4 + 2, none⟩ = some (.int .u64 d.seq) ∧ W.cell? ⟨b, off + i * 4 + 3, none⟩ = some (.int .u8 d.d) ∧ d.view ≤ 255 ∧ d.rep ≤ 255 ∧ d.seq < 18446744073709551616 ∧ d.d ≤ 255 := by
      intro i hi
      have hi' : i < m := by rw [hmm]; split <;> omega
      obtain ⟨cs', h1, h2⟩ := hcell i hi'
      rw [cells50] at h1
      obtain ⟨_, hlen, hc⟩ := World.cells?_some h1
      obtain ⟨y0, y1, y2, y3, k, _, _, t0, t1, t2, t3⟩ := Joins.trod_struct4 Yba.underlying50 h2
      match cs', hlen with
      | [c0, c1, c2, c3], _ =>
        have e0 := hc 0 (by omega)
        have e1 := hc 1 (by omega)
        have e2 := hc 2 (by omega)
        have e3 := hc 3 (by omega)
        rw [Go.Deep.add_add] at e0 e1 e2 e3
        simp only [cells5, cells23] at t0 t1 t2 t3
        obtain ⟨z0, ez0, _, wz0⟩ := DataW.trod_int Yba.underlying5 t0
        obtain ⟨z1, ez1, _, wz1⟩ := DataW.trod_int Yba.underlying5 t1
        obtain ⟨z2, ez2, _, wz2⟩ := DataW.trod_int Yba.underlying23 t2
        obtain ⟨z3, ez3, _, wz3⟩ := DataW.trod_int Yba.underlying5 t3
        simp at ez0 ez1 ez2 ez3 e0 e1 e2 e3
        have b0 := bounds_u8 wz0
        have b1 := bounds_u8 wz1
        have b2 := bounds_u64 wz2
        have b3 := bounds_u8 wz3
        have hspot : x.spot = none := by
          obtain ⟨cs0, g1, _⟩ := hcell 0 (by omega)
          rw [cells50] at g1
          obtain ⟨_, hl0, hc0⟩ := World.cells?_some g1
          have e := hc0 0 (by omega)
          rw [List.getElem?_eq_getElem (by omega)] at e
          simpa [Addr.add] using World.cell?_spot e
        obtain ⟨b, off, spot⟩ := x
        simp only at hspot
        subst hspot
        rw [Go.WideShapes.add_plain] at e0 e1 e2 e3
        subst ez0 ez1 ez2 ez3
        have hb := World.block_lt_of_cell? W _ e0
        refine ⟨⟨z0.toNat, z1.toNat, z2.toNat, z3.toNat⟩, b, off, rfl, hb, ?_, ?_, ?_, ?_, ?_, ?_, ?_, ?_⟩
        · rw [e0]; simp; omega
        · rw [Nat.add_assoc, e1]; simp; omega
        · rw [Nat.add_assoc, e2]; simp; omega
        · rw [Nat.add_assoc, e3]; simp; omega
        · show z0.toNat ≤ 255; omega
        · show z1.toNat ≤ 255; omega
        · show z2.toNat < 18446744073709551616; omega
        · show z3.toNat ≤ 255; omega
    have hinh : Inhabited VD := ⟨⟨0, 0, 0, 0⟩⟩
    exact Go.Deep.choose_lt each

/-! ### THE ROW's STEP: WRITTEN OUT: LEAVE IT -/
set_option maxRecDepth 100000 in
theorem lifted (os : Os) (started : os.Started) (H : Type) (enc : TypeId × Value → H) :
    ReturnsInHanded {} Yba.checked os 5 .any (Rows.lawS4585CProofSpec.pre6 enc Yba.prog Yba.f5 Rows.lawS4585CProofRow.domain false) (Rows.lawS4585CProofSpec.post enc Yba.prog Yba.f5 false true false false) := by
  refine returnsInHanded_of_change (C := Yba.checked) own started (by kernel_rfl) Yba.func5
    (ChangeSpec.witness6 (enc := enc) (C := Yba.checked) false ⟨#[], #[.slice none 0 0, .int .i64 0], []⟩ 8 (by kernel_rfl) (by kernel_rfl) (by kernel_rfl) (by kernel_rfl)) ?_
  intro W base args ds gs before hval0 hW hcnd _
  have hval : ∀ (j : Nat) t v, Yba.f5.params[j]? = some t → args[j]? = some v → Value.okWide Yba.prog W .any base t v := hval0
  have hW' := hW
  obtain ⟨p, q, hA0, hV, rfl, hfz, hnd⟩ := hW
  have hA : DataW.TrodAll enc Yba.prog W 0 (fun _ => true) true Yba.f5.params.toList args.toList ds p := hA0
  rw [Yba.params5] at hA hval
  obtain ⟨v0, vs0, d0, ds0, p0, q0, hargs, rfl, rfl, h0, r0⟩ := trodAll_cons hA
  obtain ⟨v1, vs1, d1, ds1, p1, q1, rfl, rfl, rfl, h1, r1⟩ := trodAll_cons r0
  obtain ⟨rfl, rfl, rfl⟩ := trodAll_nil r1
  obtain rfl : args = #[v0, v1] := by cases args; simp_all
  obtain ⟨rfl, rfl⟩ := trodVars_none hV
  obtain ⟨a0, len0, cap0, rfl⟩ := okWide_slice Yba.underlying39 (hval 0 39 v0 rfl rfl)
  have k0 := h0
  have lt0 : ∀ x ∈ p0, x.block < W.heap.size := by obtain ⟨m, hm⟩ := k0; exact DataW.trod_lt m _ _ _ hm
  obtain ⟨f, w0⟩ : ∃ f, IsIn W a0 len0 f := by
    obtain ⟨fuel, hf⟩ := h0
    exact in_of hf
  obtain ⟨a1, rfl, rfl, rfl, w1⟩ := open_int Yba.underlying3 (hval 1 3 v1 rfl rfl) h1
  clear hA0 hval0
  refine (law_true a0 len0 cap0 a1 f W (fun _ => w0)).mono fun e W' ⟨he, bel⟩ => ?_
  subst he
  exact ⟨_, rfl, _, _, _, [], _, [], hW', trodAll_mk1 (shut_bool Yba.underlying4 _), (trodAll_cons_mk (Below.trod laidOut (by kernel_rfl) (of_decide_eq_true (by kernel_rfl)) k0 bel lt0) (trodAll_cons_mk (shut_int Yba.underlying3 w1) trodAll_mk0)), rfl, bel.frame _, fun h => by cases h⟩

theorem over : Rows.lawS4585CProofRow.holds Yba.pinned (OpenSpec.ofChange Rows.lawS4585CProofSpec) :=
  OpenClaim.holds_of_wide 5 Yba.f5 rfl rfl rfl rfl rfl rfl rfl ⟨rfl, rfl, rfl, rfl, rfl⟩ rfl rfl rfl rfl rfl (by kernel_rfl) Yba.func5 (by kernel_rfl)
    (of_decide_eq_true (by kernel_rfl)) (by unfold Func.isWrapper; first | (rw [if_pos (by decide +kernel)]; kernel_rfl) | (rw [if_neg (by decide +kernel)]; exact ⟨rfl, rfl⟩))
    (fun os started H enc _ => lifted os started H enc)

/-- ████ THE STATEMENT ████ -/
theorem proved : Rows.LawS4585CProofSaid := over
end Go.Proofs.Ybulkcpxw.lawS4585CProof
