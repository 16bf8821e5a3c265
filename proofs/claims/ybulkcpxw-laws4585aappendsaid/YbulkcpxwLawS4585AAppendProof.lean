/-
  THE PROOF OF 'Rows.LawS4585AAppendSaid': the frame after the skeleton tool's; the arrays by value and the slices opened by hand.
-/
import Derived.Test.YbulkcpxwRows
import Derived.WalkKit
import Derived.ProofKit
import Derived.OpenShut
import Derived.ShutString
import Derived.ChangeOld
import Derived.Below
import Derived.Deep.Slices
import Derived.Test.YbulkcpxwAppend
namespace Go.Proofs.Ybulkcpxw.lawS4585AAppend
open Go.ChangeShapes Go.WideShapes Go.ChangeAt Go.RowKit
open Go.ChangeMaps (open_string shut_string)
set_option linter.unusedVariables false

theorem own : ownKnob Yba.prog.godebug = none := by kernel_rfl
theorem laidOut : laidOutB Yba.prog = true := by kernel_rfl

section
variable {H : Type} {enc : TypeId × Value → H} {W : World} {base b0 : Nat} {r : Reach} {spare : Nat → Bool} {held : Bool}

/-- An array of thirty-two bytes, by value, opened. -/
theorem open_arr32 {v : Value} {d : DataW H} {p : List MemPlace} (hv : Value.okWide Yba.prog W r b0 24 v) (h : DataW.Trod enc Yba.prog W base spare held 24 v d p) :
    ∃ D : List Value, v = .agg D.toArray ∧ IsDigest D ∧ ∀ u ∈ D, u.oneCell' = true := by
  have h24 : Yba.prog.cellsOf 24 = 32 := by kernel_rfl
  have h5 : Yba.prog.cellsOf 5 = 1 := by kernel_rfl
  obtain ⟨cs, rfl, hsz⟩ : ∃ cs : Array Value, v = .agg cs ∧ cs.size = 32 := by
    simp only [Value.okWide, Yba.underlying24] at hv
    obtain ⟨cs, h1, h2, _⟩ := hv
    exact ⟨cs, h1, by rw [h2, h24]⟩
  obtain ⟨fuel, hf⟩ := h
  obtain ⟨xs, m, _, _, hl, hxl, hx⟩ := DataW.trod_array Yba.underlying24 hf
  have get : ∀ i, i < 32 → ∃ z : Int, 0 ≤ z ∧ z ≤ 255 ∧ cs.toList[i]? = some (.int .u8 z) := by
    intro i hi
    have g := hx i hi
    rw [h5, Nat.mul_one, List.getElem?_eq_getElem (by omega)] at g
    obtain ⟨z, ez, _, wz⟩ := DataW.trod_int Yba.underlying5 g
    have bz := bounds_u8 wz
    refine ⟨z, bz.1, bz.2, ?_⟩
    have e : ((Value.agg cs).cells.toList.drop i)[0]? = some (.int .u8 z) := by
      have : (((Value.agg cs).cells.toList.drop i).take 1)[0]? = some (.int .u8 z) := by rw [ez]; rfl
      rwa [List.getElem?_take_of_lt (by omega)] at this
    rw [List.getElem?_drop, Nat.add_zero] at e
    exact e
  refine ⟨cs.toList, by simp, ⟨by simpa using hsz, get⟩, fun u hu => ?_⟩
  obtain ⟨i, hi, rfl⟩ := List.getElem_of_mem hu
  obtain ⟨z, _, _, ez⟩ := get i (by simpa [hsz] using hi)
  rw [List.getElem?_eq_getElem hi] at ez
  injection ez with ez
  rw [ez]
  rfl

/-- A slice of bytes, opened. -/
theorem bytes_of {fuel : Nat} {a : Option Addr} {len cap : Nat} {x : DataW H × List MemPlace} (h : DataW.trod enc Yba.prog W 0 spare held fuel 22 (Value.cells (.slice a len cap)).toList = some x) :
    len ≤ 9223372036854775807 ∧ ((a = none ∧ len = 0) ∨ ∃ y, a = some y) ∧ ∃ ps, IsBytes W a len ps := by
  rcases Go.Deep.open_slice1 Yba.underlying22 (by kernel_rfl) h with ⟨hcs, _⟩ | ⟨x, l, c, m, n, V, D, Pl, hcs, _, hl, hm, hmm, _, hcell⟩
  · simp [Value.cells] at hcs
    obtain ⟨rfl, rfl, rfl⟩ := hcs
    exact ⟨by omega, Or.inl ⟨rfl, rfl⟩, fun _ => 0, fun i hi => by omega⟩
  · simp [Value.cells] at hcs
    obtain ⟨rfl, rfl, rfl⟩ := hcs
    unfold maxLen at hm
    refine ⟨by omega, Or.inr ⟨_, rfl⟩, fun i => (intOf (V i)).toNat, fun i hi => ?_⟩
    have hi' : i < m := by rw [hmm]; split <;> omega
    obtain ⟨e0, t0⟩ := hcell i hi'
    obtain ⟨z, ez, _, wz⟩ := DataW.trod_int Yba.underlying5 t0
    simp at ez
    have bz := bounds_u8 wz
    obtain ⟨b, off, spot⟩ := x
    have hspot : spot = none := by simpa [Addr.add] using World.cell?_spot (hcell 0 (by omega)).1
    subst hspot
    rw [Go.WideShapes.add_plain, ez] at e0
    refine ⟨b, off, rfl, World.block_lt_of_cell? W _ e0, ?_, ?_⟩
    · show _ = some (Value.int IntKind.u8 ((intOf (V i)).toNat : Nat))
      rw [e0, ez]; simp only [intOf]; rw [Int.toNat_of_nonneg bz.1]
    · show (intOf (V i)).toNat ≤ 255
      rw [ez]; simp only [intOf]; omega
end

/-! ### THE WALK: YbulkcpxwAppend.lean; where more than 2^20 bytes came in nothing is done. -/
set_option maxHeartbeats 400000 in
theorem long_any (a : Option Addr) (len cap : Nat) (seq view : Int) (D C : List Value) (v5 : Value) (w : World) (hlen : 1048576 < len) (hm : len ≤ 9223372036854775807) :
    Calls Yba.prog 3 #[.slice a len cap, .int .u64 seq, .int .u64 view, .agg D.toArray, .agg C.toArray, v5] w fun e w' => e = .returned (.bool true) ∧ Below w.heap.size w w' := by
  go_enter Yba.func3, Yba.ntmps3
  go_wp2
  go_ret
  exact ⟨rfl, ((Below.refl _ _).alloc (Nat.le_refl _) _).alloc (by simp) _⟩

theorem walk (a0 : Option Addr) (len0 cap0 : Nat) (a1 a2 : Int) (D C : List Value) (a5 : Option Addr) (len5 cap5 : Nat) (w : World) (hm : len0 ≤ 9223372036854775807) (ha : (a0 = none ∧ len0 = 0) ∨ ∃ y, a0 = some y) (ps : Nat → Nat) (w0 : IsBytes w a0 len0 ps)
    (w1 : (Lit.int .u64 a1).wf = true) (w2 : (Lit.int .u64 a2).wf = true) (hD : IsDigest D) (hD1 : ∀ u ∈ D, u.oneCell' = true) (hC : IsDigest C) (hC1 : ∀ u ∈ C, u.oneCell' = true) :
    Calls Yba.prog 3 #[.slice a0 len0 cap0, .int .u64 a1, .int .u64 a2, .agg D.toArray, .agg C.toArray, .slice a5 len5 cap5] w fun e w' => e = .returned (.bool true) ∧ Below w.heap.size w w' := by
  have b1 := bounds_u64 w1
  have b2 := bounds_u64 w2
  obtain ⟨seq, rfl⟩ : ∃ n : Nat, a1 = n := ⟨a1.toNat, by omega⟩
  obtain ⟨view, rfl⟩ : ∃ n : Nat, a2 = n := ⟨a2.toNat, by omega⟩
  by_cases h : len0 ≤ 1048576
  · exact append_any a0 len0 cap0 ps seq view D C a5 len5 cap5 w (by omega) (by omega) ha w0 h hD hD1 hC.1 hC1
  · exact long_any a0 len0 cap0 seq view D C _ w (by omega) hm

/-! ### THE ROW's STEP: WRITTEN OUT: LEAVE IT -/
set_option maxRecDepth 100000 in
theorem lifted (os : Os) (started : os.Started) (H : Type) (enc : TypeId × Value → H) :
    ReturnsInHanded {} Yba.checked os 3 .any (Rows.lawS4585AAppendSpec.pre6 enc Yba.prog Yba.f3 Rows.lawS4585AAppendRow.domain false) (Rows.lawS4585AAppendSpec.post enc Yba.prog Yba.f3 false true false false) := by
  refine returnsInHanded_of_change (C := Yba.checked) own started (by kernel_rfl) Yba.func3
    (ChangeSpec.witness6 (enc := enc) (C := Yba.checked) false ⟨#[], #[.slice none 0 0, .int .u64 0, .int .u64 0, .agg (List.replicate 32 (Value.int .u8 0)).toArray, .agg (List.replicate 32 (Value.int .u8 0)).toArray, .slice none 0 0], []⟩ 8 (by kernel_rfl) (by kernel_rfl) (by kernel_rfl) (by kernel_rfl)) ?_
  intro W base args ds gs before hval0 hW hcnd _
  have hval : ∀ (j : Nat) t v, Yba.f3.params[j]? = some t → args[j]? = some v → Value.okWide Yba.prog W .any base t v := hval0
  have hW' := hW
  obtain ⟨p, q, hA0, hV, rfl, hfz, hnd⟩ := hW
  have hA : DataW.TrodAll enc Yba.prog W 0 (fun _ => true) true Yba.f3.params.toList args.toList ds p := hA0
  rw [Yba.params3] at hA hval
  obtain ⟨v0, vs0, d0, ds0, p0, q0, hargs, rfl, rfl, h0, r0⟩ := trodAll_cons hA
  obtain ⟨v1, vs1, d1, ds1, p1, q1, rfl, rfl, rfl, h1, r1⟩ := trodAll_cons r0
  obtain ⟨v2, vs2, d2, ds2, p2, q2, rfl, rfl, rfl, h2, r2⟩ := trodAll_cons r1
  obtain ⟨v3, vs3, d3, ds3, p3, q3, rfl, rfl, rfl, h3, r3⟩ := trodAll_cons r2
  obtain ⟨v4, vs4, d4, ds4, p4, q4, rfl, rfl, rfl, h4, r4⟩ := trodAll_cons r3
  obtain ⟨v5, vs5, d5, ds5, p5, q5, rfl, rfl, rfl, h5, r5⟩ := trodAll_cons r4
  obtain ⟨rfl, rfl, rfl⟩ := trodAll_nil r5
  obtain rfl : args = #[v0, v1, v2, v3, v4, v5] := by cases args; simp_all
  obtain ⟨rfl, rfl⟩ := trodVars_none hV
  obtain ⟨a0, len0, cap0, rfl⟩ := okWide_slice Yba.underlying22 (hval 0 22 v0 rfl rfl)
  have k0 := h0
  have lt0 : ∀ x ∈ p0, x.block < W.heap.size := by obtain ⟨m, hm⟩ := k0; exact DataW.trod_lt m _ _ _ hm
  obtain ⟨hm0, ha0, ps0, w0⟩ : len0 ≤ 9223372036854775807 ∧ ((a0 = none ∧ len0 = 0) ∨ ∃ y, a0 = some y) ∧ ∃ ps, IsBytes W a0 len0 ps := by
    obtain ⟨fuel, hf⟩ := h0
    exact bytes_of hf
  obtain ⟨a1, rfl, rfl, rfl, w1⟩ := open_int Yba.underlying23 (hval 1 23 v1 rfl rfl) h1
  obtain ⟨a2, rfl, rfl, rfl, w2⟩ := open_int Yba.underlying23 (hval 2 23 v2 rfl rfl) h2
  obtain ⟨D3, rfl, g3, e3⟩ := open_arr32 (hval 3 24 v3 rfl rfl) h3
  have lt3 : ∀ x ∈ p3, x.block < W.heap.size := by obtain ⟨m, hm⟩ := h3; exact DataW.trod_lt m _ _ _ hm
  obtain ⟨D4, rfl, g4, e4⟩ := open_arr32 (hval 4 24 v4 rfl rfl) h4
  have lt4 : ∀ x ∈ p4, x.block < W.heap.size := by obtain ⟨m, hm⟩ := h4; exact DataW.trod_lt m _ _ _ hm
  obtain ⟨a5, len5, cap5, rfl⟩ := okWide_slice Yba.underlying22 (hval 5 22 v5 rfl rfl)
  have k5 := h5
  have lt5 : ∀ x ∈ p5, x.block < W.heap.size := by obtain ⟨m, hm⟩ := k5; exact DataW.trod_lt m _ _ _ hm
  clear hA0 hval0
  refine (walk a0 len0 cap0 a1 a2 D3 D4 a5 len5 cap5 W hm0 ha0 ps0 w0 w1 w2 g3 e3 g4 e4).mono fun e W' ⟨he, bel⟩ => ?_
  subst he
  exact ⟨_, rfl, _, _, _, [], _, [], hW', trodAll_mk1 (shut_bool Yba.underlying4 _), (trodAll_cons_mk (Below.trod laidOut (by kernel_rfl) (of_decide_eq_true (by kernel_rfl)) k0 bel lt0) (trodAll_cons_mk (shut_int Yba.underlying23 w1) (trodAll_cons_mk (shut_int Yba.underlying23 w2) (trodAll_cons_mk (Below.trod laidOut (by kernel_rfl) (of_decide_eq_true (by kernel_rfl)) h3 bel lt3) (trodAll_cons_mk (Below.trod laidOut (by kernel_rfl) (of_decide_eq_true (by kernel_rfl)) h4 bel lt4) (trodAll_cons_mk (Below.trod laidOut (by kernel_rfl) (of_decide_eq_true (by kernel_rfl)) k5 bel lt5) trodAll_mk0)))))), rfl, bel.frame _, fun h => by cases h⟩

theorem over : Rows.lawS4585AAppendRow.holds Yba.pinned (OpenSpec.ofChange Rows.lawS4585AAppendSpec) :=
  OpenClaim.holds_of_wide 3 Yba.f3 rfl rfl rfl rfl rfl rfl rfl ⟨rfl, rfl, rfl, rfl, rfl⟩ rfl rfl rfl rfl rfl (by kernel_rfl) Yba.func3 (by kernel_rfl)
    (of_decide_eq_true (by kernel_rfl)) (by unfold Func.isWrapper; first | (rw [if_pos (by decide +kernel)]; kernel_rfl) | (rw [if_neg (by decide +kernel)]; exact ⟨rfl, rfl⟩))
    (fun os started H enc _ => lifted os started H enc)

/-- ████ THE STATEMENT ████ -/
theorem proved : Rows.LawS4585AAppendSaid := over
end Go.Proofs.Ybulkcpxw.lawS4585AAppend
