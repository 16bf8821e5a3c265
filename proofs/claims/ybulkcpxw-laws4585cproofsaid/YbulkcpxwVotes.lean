/-
  WHAT LIES IN MEMORY WHEN quorumhall.LawS4585CProof RUNS: the data that came in; the votes that it builds. No walk here.
-/
import Derived.Test.YbulkcpxwRows
import Derived.WalkKit
import Derived.Deep.Draws
import Derived.Deep.MidRow
namespace Go.Proofs.Ybulkcpxw
open Go.RowKit

/-- One vote's plain data. -/
structure VD where
  view : Nat
  rep : Nat
  seq : Nat
  d : Nat

/-- The data that came in: element i is (view, replica, seq, d). -/
def IsIn (w : World) (a : Option Addr) (len : Nat) (f : Nat → VD) : Prop :=
  ∀ i, i < len → ∃ b off, a = some ⟨b, off, none⟩ ∧ b < w.heap.size ∧ w.cell? ⟨b, off + i * 4, none⟩ = some (.int .u8 (f i).view) ∧ w.cell? ⟨b, off + i * 4 + 1, none⟩ = some (.int .u8 (f i).rep) ∧
    w.cell? ⟨b, off + i * 4 + 2, none⟩ = some (.int .u64 (f i).seq) ∧ w.cell? ⟨b, off + i * 4 + 3, none⟩ = some (.int .u8 (f i).d) ∧ (f i).view ≤ 255 ∧ (f i).rep ≤ 255 ∧ (f i).seq < 18446744073709551616 ∧ (f i).d ≤ 255

/-- A digest's cells: the first byte, thirty zeros, the last. -/
def dgst (x y : Int) : List Value := .int .u8 x :: (List.replicate 30 (.int .u8 0) ++ [.int .u8 y])
/-- A vote's cells. -/
def vcells (V S : Int) (D : List Value) (R : Int) : List Value := .int .u8 0 :: .int .u64 V :: .int .u64 S :: (D ++ [.int .u32 R, .slice none 0 0])
def dOf (f : VD) : List Value := dgst f.d (bits .xor .u8 f.d 90)
def vOf (f : VD) : List Value := vcells ((f.view : Int) % 3) f.seq (dOf f) ((f.rep : Int) % 16)

/-- Block b holds the vote f. -/
def IsVote (w : World) (b : Nat) (f : VD) : Prop := w.heap[b]? = some (.cells (vOf f).toArray 48 (0, 0))

theorem dgst_length (x y : Int) : (dgst x y).length = 32 := rfl
theorem IsVote.lt {w : World} {b : Nat} {f : VD} (h : IsVote w b f) : b < w.heap.size := (Array.getElem?_eq_some_iff.1 h).1
theorem IsVote.view {w : World} {b : Nat} {f : VD} (h : IsVote w b f) : w.cell? ⟨b, 1, none⟩ = some (.int .u64 ((f.view : Int) % 3)) := by rw [cell_of_row w b 1 _ 48 (0, 0) h]; rfl
theorem IsVote.seq {w : World} {b : Nat} {f : VD} (h : IsVote w b f) : w.cell? ⟨b, 2, none⟩ = some (.int .u64 f.seq) := by rw [cell_of_row w b 2 _ 48 (0, 0) h]; rfl
theorem IsVote.rep {w : World} {b : Nat} {f : VD} (h : IsVote w b f) : w.cell? ⟨b, 35, none⟩ = some (.int .u32 ((f.rep : Int) % 16)) := by rw [cell_of_row w b 35 _ 48 (0, 0) h]; rfl
theorem IsVote.digest {w : World} {b : Nat} {f : VD} (h : IsVote w b f) : w.rangeAt b 3 (dOf f) := by
  intro j v hv
  have hj : j < 32 := (List.getElem?_eq_some_iff.1 hv).1
  rw [cell_of_row w b (3 + j) _ 48 (0, 0) h, List.getElem?_toArray]
  have e : (vOf f)[3 + j]? = (dOf f ++ [.int .u32 ((f.rep : Int) % 16), .slice none 0 0])[j]? := by rw [Nat.add_comm]; rfl
  rw [e, List.getElem?_append_left (by exact hj)]
  exact hv
theorem IsVote.below {w w' : World} {B b : Nat} {f : VD} (h : IsVote w b f) (hb : Below B w w') (hlt : b < B) : IsVote w' b f := (hb.block b hlt).trans h
theorem IsVote.drewN {w : World} {b : Nat} {f : VD} (h : IsVote w b f) (q : Nat) : IsVote (w.drewN q) b f := h

/-- The votes: vote j lies in block vb j. -/
def Votes (w : World) (vb : Nat → Nat) (f : Nat → VD) (n : Nat) : Prop := ∀ j, j < n → IsVote w (vb j) (f j)
theorem Votes.below {w w' : World} {vb : Nat → Nat} {f : Nat → VD} {n : Nat} (h : Votes w vb f n) (hb : Below w.heap.size w w') : Votes w' vb f n := fun j hj => (h j hj).below hb (h j hj).lt
theorem Votes.drewN {w : World} {vb : Nat → Nat} {f : Nat → VD} {n : Nat} (h : Votes w vb f n) (q : Nat) : Votes (w.drewN q) vb f n := h

/-- A row of pointers to votes. -/
def ptrs (vb : Nat → Nat) (n : Nat) : List Value := (List.range n).map fun j => Value.pointer (some ⟨vb j, 0, none⟩)
theorem ptrs_length (vb : Nat → Nat) (n : Nat) : (ptrs vb n).length = n := by simp [ptrs]
theorem ptrs_get (vb : Nat → Nat) (n j : Nat) (h : j < n) : (ptrs vb n)[j]? = some (.pointer (some ⟨vb j, 0, none⟩)) := by simp [ptrs, h]
end Go.Proofs.Ybulkcpxw
