/-
  THE PLAIN LAWS for (*Object).indexOf and its model: the first place of a name among the keys. No Go in sight.
-/
import Derived.WalkKit
import Derived.Deep.Draws
namespace Go.Proofs.Ybulkcpsm
open Go.RowKit

/-- r is the first place below len at which ss holds s; -1 where there is none. -/
def IsFirst (ss : Nat → ByteArray) (len : Nat) (s : ByteArray) (r : Int) : Prop :=
  (∃ k : Nat, r = k ∧ k < len ∧ ss k = s ∧ ∀ j, j < k → ss j ≠ s) ∨ (r = -1 ∧ ∀ j, j < len → ss j ≠ s)
/-- r is n where n holds s; else the first place. -/
def IsIdx (ss : Nat → ByteArray) (len n : Nat) (s : ByteArray) (r : Int) : Prop :=
  (n < len ∧ ss n = s ∧ r = n) ∨ (¬ (n < len ∧ ss n = s) ∧ IsFirst ss len s r)

theorem IsFirst.one {ss : Nat → ByteArray} {len : Nat} {s : ByteArray} {r r' : Int} (h : IsFirst ss len s r) (h' : IsFirst ss len s r') : r = r' := by
  rcases h with ⟨k, rfl, hk, e, b⟩ | ⟨rfl, b⟩ <;> rcases h' with ⟨k', rfl, hk', e', b'⟩ | ⟨rfl, b'⟩
  · have h1 : ¬ k < k' := fun h => b' k h e
    have h2 : ¬ k' < k := fun h => b k' h e'
    omega
  · exact absurd e (b' k hk)
  · exact absurd e' (b k' hk')
  · rfl
theorem IsIdx.one {ss : Nat → ByteArray} {len n : Nat} {s : ByteArray} {r r' : Int} (h : IsIdx ss len n s r) (h' : IsIdx ss len n s r') : r = r' := by
  rcases h with ⟨a, b, rfl⟩ | ⟨a, b⟩ <;> rcases h' with ⟨a', b', rfl⟩ | ⟨a', b'⟩
  · rfl
  · exact absurd ⟨a, b⟩ a'
  · exact absurd ⟨a', b'⟩ a
  · exact b.one b'
theorem IsFirst.bd {ss : Nat → ByteArray} {len : Nat} {s : ByteArray} {r : Int} (h : IsFirst ss len s r) : -1 ≤ r ∧ r < len := by
  rcases h with ⟨k, rfl, hk, _⟩ | ⟨rfl, _⟩ <;> omega
theorem IsIdx.bd {ss : Nat → ByteArray} {len n : Nat} {s : ByteArray} {r : Int} (h : IsIdx ss len n s r) : -1 ≤ r ∧ r < len := by
  rcases h with ⟨a, b, rfl⟩ | ⟨a, b⟩
  · omega
  · exact b.bd

theorem same_yes {a b : ByteArray} (h : a = b) : (a.toList == b.toList) = true := by rw [h]; exact beq_self_eq_true _
theorem same_no {a b : ByteArray} (h : ¬ a = b) : (a.toList == b.toList) = false := by
  rw [beq_eq_false_iff_ne, ne_eq, ByteArray.toList_eq, ByteArray.toList_eq]
  intro e
  apply h
  cases a; cases b
  simp at e
  rw [e]

theorem retI {k : IntKind} {a b : Int} (h : a = b) : Ending.returned (.int k a) = .returned (.int k b) := by rw [h]

/-- The strings that came in: cell i holds ss i. -/
def IsStrs (w : World) (a : Option Addr) (len : Nat) (ss : Nat → ByteArray) : Prop :=
  ∀ i, i < len → ∃ b off, a = some ⟨b, off, none⟩ ∧ b < w.heap.size ∧ w.cell? ⟨b, off + i, none⟩ = some (.string (ss i))
end Go.Proofs.Ybulkcpsm
