/-
  HOW THE ARGUMENTS OF scenariojson's LAWS ARE OPENED: a slice of strings, a slice of bytes.
-/
import Derived.Test.YbulkcpsmIndexOf
import Derived.ProofKit
import Derived.OpenShut
import Derived.Deep.Slices
namespace Go.Proofs.Ybulkcpsm
open Go.ChangeShapes Go.WideShapes Go.ChangeAt Go.RowKit

def strOf : Value → ByteArray | .string s => s | _ => ByteArray.empty

section
variable {H : Type} {enc : TypeId × Value → H} {W : World} {spare : Nat → Bool} {held : Bool} {fuel : Nat} {a : Option Addr} {len cap : Nat} {x : DataW H × List MemPlace}

/-- A slice of strings. -/
theorem strs_of (h : DataW.trod enc Yba.prog W 0 spare held fuel 26 (Value.cells (.slice a len cap)).toList = some x) : len ≤ 9223372036854775807 ∧ ∃ ss, IsStrs W a len ss := by
  rcases Go.Deep.open_slice1 Yba.underlying26 (by kernel_rfl) h with ⟨hcs, _⟩ | ⟨x, l, c, m, n, V, D, Pl, hcs, _, hl, hm, hmm, _, hcell⟩
  · simp [Value.cells] at hcs
    obtain ⟨rfl, rfl, rfl⟩ := hcs
    exact ⟨by omega, fun _ => ByteArray.empty, fun i hi => by omega⟩
  · simp [Value.cells] at hcs
    obtain ⟨rfl, rfl, rfl⟩ := hcs
    unfold maxLen at hm
    refine ⟨by omega, fun i => strOf (V i), fun i hi => ?_⟩
    have hi' : i < m := by rw [hmm]; split <;> omega
    obtain ⟨e0, t0⟩ := hcell i hi'
    obtain ⟨s, es, _, _⟩ := DataW.trod_string Yba.underlying9 t0
    simp at es
    obtain ⟨b, off, spot⟩ := x
    have hspot : spot = none := by simpa [Addr.add] using World.cell?_spot (hcell 0 (by omega)).1
    subst hspot
    rw [Go.WideShapes.add_plain, es] at e0
    refine ⟨b, off, rfl, World.block_lt_of_cell? W _ e0, ?_⟩
    show _ = some (Value.string (strOf (V i)))
    rw [e0, es]
    rfl

/-- A slice of bytes, as numbers. -/
def IsBytes (w : World) (a : Option Addr) (len : Nat) (ps : Nat → Nat) : Prop :=
  ∀ i, i < len → ∃ b off, a = some ⟨b, off, none⟩ ∧ b < w.heap.size ∧ w.cell? ⟨b, off + i, none⟩ = some (.int .u8 (ps i)) ∧ ps i ≤ 255

theorem bytes_of (h : DataW.trod enc Yba.prog W 0 spare held fuel 27 (Value.cells (.slice a len cap)).toList = some x) : len ≤ 9223372036854775807 ∧ ((a = none ∧ len = 0) ∨ ∃ y, a = some y) ∧ ∃ ps, IsBytes W a len ps := by
  rcases Go.Deep.open_slice1 Yba.underlying27 (by kernel_rfl) h with ⟨hcs, _⟩ | ⟨x, l, c, m, n, V, D, Pl, hcs, _, hl, hm, hmm, _, hcell⟩
  · simp [Value.cells] at hcs
    obtain ⟨rfl, rfl, rfl⟩ := hcs
    exact ⟨by omega, Or.inl ⟨rfl, rfl⟩, fun _ => 0, fun i hi => by omega⟩
  · simp [Value.cells] at hcs
    obtain ⟨rfl, rfl, rfl⟩ := hcs
    unfold maxLen at hm
    refine ⟨by omega, Or.inr ⟨_, rfl⟩, fun i => (intOf (V i)).toNat, fun i hi => ?_⟩
    have hi' : i < m := by rw [hmm]; split <;> omega
    obtain ⟨e0, t0⟩ := hcell i hi'
    obtain ⟨z, ez, _, wz⟩ := DataW.trod_int Yba.underlying5 t0
    simp at ez
    have bz := bounds_u8 wz
    obtain ⟨b, off, spot⟩ := x
    have hspot : spot = none := by simpa [Addr.add] using World.cell?_spot (hcell 0 (by omega)).1
    subst hspot
    rw [Go.WideShapes.add_plain, ez] at e0
    refine ⟨b, off, rfl, World.block_lt_of_cell? W _ e0, ?_, ?_⟩
    · show _ = some (Value.int IntKind.u8 ((intOf (V i)).toNat : Nat))
      rw [e0, ez]; simp only [intOf]; rw [Int.toNat_of_nonneg bz.1]
    · show (intOf (V i)).toNat ≤ 255
      rw [ez]; simp only [intOf]; omega
end

/-- A slice of bytes reads as a string. -/
theorem conv_of {W : World} {a : Option Addr} {len : Nat} (cap : Nat) {ps : Nat → Nat} (ha : (a = none ∧ len = 0) ∨ ∃ y, a = some y) (h : IsBytes W a len ps) : ∃ s, Conv W (.slice a len cap) s := by
  rcases ha with ⟨rfl, rfl⟩ | ⟨y, rfl⟩
  · exact ⟨ByteArray.empty, fun w1 _ => run_convert_bytes_nil w1 27 5 Yba.underlying27 Yba.underlying5 0 cap 9 Yba.underlying9⟩
  · refine ⟨⟨((List.range len).map fun i => UInt8.ofNat (ps i)).toArray⟩, fun w1 hb => ?_⟩
    have g := run_convert_bytes_back (P := Yba.prog) w1 27 9 5 y cap ((List.range len).map fun i => UInt8.ofNat (ps i)) Yba.underlying27 Yba.underlying5 Yba.underlying9 (by
      intro j hj
      have hj' : j < len := by simpa using hj
      obtain ⟨b, off, e, hlt, hc, hp⟩ := h j hj'
      injection e with e
      subst e
      rw [Go.WideShapes.add_plain, hb.cell (p := ⟨b, off + j, none⟩) hlt, hc]
      have e1 : (UInt8.ofNat (ps j)).toNat = ps j := by rw [UInt8.toNat_ofNat']; omega
      simp [e1])
    simp only [List.length_map, List.length_range] at g
    exact g
end Go.Proofs.Ybulkcpsm
