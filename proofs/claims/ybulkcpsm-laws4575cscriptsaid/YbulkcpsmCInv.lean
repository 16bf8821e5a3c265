/-
  WHAT THE LOOPS OF jsonstream.LawS4575CScript KEEP: the array of thirty-two bools, the scan's cells. No walk here.
-/
import Derived.WalkKit
import Derived.Deep.Draws
import Derived.Test.YbulkcpsmCPlain
namespace Go.Proofs.Ybulkcpsm
open Go.RowKit

def upd (f : Nat → Bool) (o : Nat) (b : Bool) : Nat → Bool := fun j => if j = o then b else f j

/-- Block N holds the thirty-two bools f. -/
structure Arr (N : Nat) (wr : World) (f : Nat → Bool) : Prop where
  cell : ∀ j, j < 32 → wr.cell? ⟨N, j, none⟩ = some (.bool (f j))
  fr : ∀ j, wr.frozen? ⟨N, j, none⟩ = false

theorem ne_block {b b' o o' : Nat} (h : b ≠ b') : (⟨b, o, none⟩ : Addr) ≠ ⟨b', o', none⟩ := fun e => h (by injection e)
theorem ne_off {b b' o o' : Nat} (h : o ≠ o') : (⟨b, o, none⟩ : Addr) ≠ ⟨b', o', none⟩ := fun e => h (by injection e)

theorem Arr.set {N : Nat} {wr : World} {f : Nat → Bool} (h : Arr N wr f) {o : Nat} (ho : o < 32) (b : Bool) : Arr N (wr.setCell ⟨N, o, none⟩ (.bool b)) (upd f o b) := by
  refine ⟨fun j hj => ?_, fun j => ?_⟩
  · unfold upd
    by_cases e : j = o
    · subst e
      rw [if_pos rfl]
      exact World.cell?_setCell_same _ _ _ (h.cell j hj)
    · rw [if_neg e, World.cell?_setCell_other _ _ _ _ (ne_off (fun h => e h.symm))]
      exact h.cell j hj
  · rw [World.frozen?_setCell]; exact h.fr j
theorem Arr.other {N : Nat} {wr : World} {f : Nat → Bool} (h : Arr N wr f) {M o : Nat} (hM : M ≠ N) (v : Value) : Arr N (wr.setCell ⟨M, o, none⟩ v) f :=
  ⟨fun j hj => by rw [World.cell?_setCell_other _ _ _ _ (ne_block hM)]; exact h.cell j hj, fun j => by rw [World.frozen?_setCell]; exact h.fr j⟩
theorem Arr.alloc {N : Nat} {wr : World} {f : Nat → Bool} (h : Arr N wr f) (hN : N < wr.heap.size) (o : Obj) : Arr N (wr.alloc o) f :=
  ⟨fun j hj => by rw [World.cell?_alloc_past _ _ _ hN]; exact h.cell j hj, fun j => by rw [World.frozen?_alloc_past _ _ _ hN]; exact h.fr j⟩
theorem Arr.drewN {N : Nat} {wr : World} {f : Nat → Bool} (h : Arr N wr f) (q : Nat) : Arr N (wr.drewN q) f := ⟨h.cell, h.fr⟩

/-- Block M holds a scan: until = u, kinds = T, lastLen = -1, steps = nil. -/
structure Scan (M : Nat) (wr : World) (u : Int) (T : Nat) : Prop where
  c0 : wr.cell? ⟨M, 0, none⟩ = some (.int .i64 u)
  c2 : wr.cell? ⟨M, 2, none⟩ = some (.int .u32 T)
  c4 : wr.cell? ⟨M, 4, none⟩ = some (.int .i64 (-1))
  c6 : wr.cell? ⟨M, 6, none⟩ = some (.slice none 0 0)
  f2 : wr.frozen? ⟨M, 2, none⟩ = false

theorem Scan.set {M : Nat} {wr : World} {u : Int} {T : Nat} (h : Scan M wr u T) (T' : Nat) : Scan M (wr.setCell ⟨M, 2, none⟩ (.int .u32 T')) u T' :=
  ⟨by rw [World.cell?_setCell_other _ _ _ _ (ne_off (by omega))]; exact h.c0, World.cell?_setCell_same _ _ _ h.c2, by rw [World.cell?_setCell_other _ _ _ _ (ne_off (by omega))]; exact h.c4,
    by rw [World.cell?_setCell_other _ _ _ _ (ne_off (by omega))]; exact h.c6, by rw [World.frozen?_setCell]; exact h.f2⟩
theorem Scan.other {M : Nat} {wr : World} {u : Int} {T : Nat} (h : Scan M wr u T) {N o : Nat} (hN : N ≠ M) (v : Value) : Scan M (wr.setCell ⟨N, o, none⟩ v) u T :=
  ⟨by rw [World.cell?_setCell_other _ _ _ _ (ne_block hN)]; exact h.c0, by rw [World.cell?_setCell_other _ _ _ _ (ne_block hN)]; exact h.c2, by rw [World.cell?_setCell_other _ _ _ _ (ne_block hN)]; exact h.c4,
    by rw [World.cell?_setCell_other _ _ _ _ (ne_block hN)]; exact h.c6, by rw [World.frozen?_setCell]; exact h.f2⟩
theorem Scan.alloc {M : Nat} {wr : World} {u : Int} {T : Nat} (h : Scan M wr u T) (hM : M < wr.heap.size) (o : Obj) : Scan M (wr.alloc o) u T :=
  ⟨by rw [World.cell?_alloc_past _ _ _ hM]; exact h.c0, by rw [World.cell?_alloc_past _ _ _ hM]; exact h.c2, by rw [World.cell?_alloc_past _ _ _ hM]; exact h.c4,
    by rw [World.cell?_alloc_past _ _ _ hM]; exact h.c6, by rw [World.frozen?_alloc_past _ _ _ hM]; exact h.f2⟩
theorem Scan.drewN {M : Nat} {wr : World} {u : Int} {T : Nat} (h : Scan M wr u T) (q : Nat) : Scan M (wr.drewN q) u T := ⟨h.c0, h.c2, h.c4, h.c6, h.f2⟩

/-- opened's bit and the array's store say the same. -/
theorem upd_bits {f : Nat → Bool} {T : Nat} (h : ∀ j, j < 32 → T.testBit j = f j) (o : Nat) (b : Bool) : ∀ j, j < 32 → (opnN T o b).testBit j = upd f o b j := by
  intro j hj
  rw [opnN_bit T o j b hj]
  unfold upd
  split
  · rfl
  · exact h j hj
theorem keep_bits {f : Nat → Bool} {T : Nat} (h : ∀ j, j < 32 → T.testBit j = f j) (o : Nat) (ho : ¬ o < 32) (b : Bool) : ∀ j, j < 32 → (opnN T o b).testBit j = f j := by
  intro j hj
  rw [opnN_bit T o j b hj, if_neg (by omega)]
  exact h j hj

theorem Arr.zero (w : World) (t : TypeId) : Arr w.heap.size (w.alloc (.cells (Array.replicate 32 (.bool false)) t)) (fun _ => false) :=
  ⟨fun j hj => by rw [World.cell?_alloc_at _ _ _ _ rfl]; simp [hj], fun j => World.frozen?_alloc_at _ _ _ _ rfl⟩
theorem bit_one (K k : Nat) (hK : K < 4294967296) : (bits .and .u32 ((K : Int) / 2 ^ k) 1 == 1) = K.testBit k := by
  rw [bit_and K k hK]; cases K.testBit k <;> rfl
theorem upd_same (f : Nat → Bool) (k : Nat) (K : Nat) (h : ∀ j, j < k → f j = K.testBit j) : ∀ j, j < k + 1 → upd f k (K.testBit k) j = K.testBit j := by
  intro j hj
  unfold upd
  split
  · rename_i e; rw [e]
  · exact h j (by omega)
theorem Scan.zero (w : World) (u : Int) (T : Nat) (a b c : Value) (t : TypeId) : Scan w.heap.size (w.alloc (.cells #[.int .i64 u, a, .int .u32 T, b, .int .i64 (-1), c, .slice none 0 0] t)) u T :=
  ⟨by rw [World.cell?_alloc_at _ _ _ _ rfl]; rfl, by rw [World.cell?_alloc_at _ _ _ _ rfl]; rfl, by rw [World.cell?_alloc_at _ _ _ _ rfl]; rfl, by rw [World.cell?_alloc_at _ _ _ _ rfl]; rfl, World.frozen?_alloc_at _ _ _ _ rfl⟩

/-- Behind opened, called in a round: the round's own block, the array, the scan, old memory. -/
theorem behind {w wr W2 : World} {x y : Value} {t : TypeId} {f : Nat → Bool} {u : Int} {T T' q : Nat} (hbel : Below w.heap.size w wr) (hsz : w.heap.size + 2 ≤ wr.heap.size) (hA : Arr w.heap.size wr f) (hS : Scan (w.heap.size + 1) wr u T)
    (h : W2 = ((wr.alloc (.cells #[x, y] t)).setCell ⟨w.heap.size + 1, 2, none⟩ (.int .u32 T')).drewN q) :
    W2.cell? ⟨wr.heap.size, 0, none⟩ = some x ∧ W2.cell? ⟨wr.heap.size, 1, none⟩ = some y ∧ W2.heap.size = wr.heap.size + 1 ∧ Below w.heap.size w W2 ∧ Arr w.heap.size W2 f ∧ Scan (w.heap.size + 1) W2 u T' := by
  subst h
  refine ⟨?_, ?_, ?_, ?_, ?_, ?_⟩
  · rw [World.cell?_drewN, World.cell?_setCell_other _ _ _ _ (ne_block (by omega)), World.cell?_alloc_at _ _ _ _ rfl]; rfl
  · rw [World.cell?_drewN, World.cell?_setCell_other _ _ _ _ (ne_block (by omega)), World.cell?_alloc_at _ _ _ _ rfl]; rfl
  · rw [World.heap_drewN, World.size_setCell, World.size_alloc]
  · have := (hbel.alloc (by omega) (.cells #[x, y] t)).setCell (p := ⟨w.heap.size + 1, 2, none⟩) (by show w.heap.size ≤ w.heap.size + 1; omega) (.int .u32 T')
    exact ⟨this.os, this.tape, this.output, this.size, this.block⟩
  · exact ((hA.alloc (by omega) _).other (by omega) _).drewN q
  · exact ((hS.alloc (by omega) _).set T').drewN q

theorem mod_keep (T k : Nat) (hB : T.testBit k = false) : (T : Int) % 2 ^ k = ((T % 2 ^ (k + 1) : Nat) : Int) := by
  rw [mod_succ, hB]; simp

/-- The calls that came in: element i is (os i, bs i). -/
def IsOps (w : World) (a : Option Addr) (len : Nat) (os : Nat → Nat) (bs : Nat → Bool) : Prop :=
  ∀ i, i < len → ∃ b off, a = some ⟨b, off, none⟩ ∧ b < w.heap.size ∧ w.cell? ⟨b, off + i * 2, none⟩ = some (.int .u8 (os i)) ∧ w.cell? ⟨b, off + i * 2 + 1, none⟩ = some (.bool (bs i)) ∧ os i < 256
end Go.Proofs.Ybulkcpsm
