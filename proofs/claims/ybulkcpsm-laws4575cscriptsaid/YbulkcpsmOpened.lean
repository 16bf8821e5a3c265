/-
  THE WALK of (*elementScan).opened (function 13).
-/
import Derived.Test.YbulkcpsmRows
import Derived.Test.YbulkcpsmCPlain
import Derived.WalkKit
import Derived.WalkSpells
import Derived.WalkLawsBesides
namespace Go.Proofs.Ybulkcpsm
open Go.RowKit

/-- A store over a store into the same cell. -/
theorem store_store (w : World) (blk off : Nat) (v v' : Value) : (w.setCell ⟨blk, off, none⟩ v).setCell ⟨blk, off, none⟩ v' = w.setCell ⟨blk, off, none⟩ v' := by
  unfold World.setCell
  congr 1
  apply Array.ext
  · simp
  · intro i h1 h2
    simp only [Array.getElem_modify]
    by_cases h : blk = i
    · simp only [h, if_true]
      have hi : i < w.heap.size := by simpa using h2
      generalize w.heap[i] = o
      cases o <;> simp
    · simp [h]

set_option maxHeartbeats 400000 in
theorem opened_no (bk : Nat) (u : Int) (K o : Nat) (w : World) (hK : K < 4294967296) (ho : o < 256) (_hu1 : -40000 ≤ u) (_hu2 : u ≤ 40000)
    (c0 : w.cell? ⟨bk, 0, none⟩ = some (.int .i64 u)) (c2 : w.cell? ⟨bk, 2, none⟩ = some (.int .u32 K)) (f2 : w.frozen? ⟨bk, 2, none⟩ = false) :
    Calls Yba.prog 13 #[.pointer (some ⟨bk, 0, none⟩), .int .i64 (u + 1 + o), .bool false] w fun e w' => e = .returned (.tuple #[]) ∧ w' = (w.setCell ⟨bk, 2, none⟩ (.int .u32 (opnN K o false))).drew := by
  have r1 := run_shl o (u + 1 + ↑o - u - 1) (by omega)
  have r2 := run_clr K o hK
  go_enter Yba.func13, Yba.ntmps13
  go_wp2
  go_region
  all_goals go_wp2
  go_end0
  exact ⟨rfl, rfl⟩

set_option maxHeartbeats 400000 in
theorem opened_yes (bk : Nat) (u : Int) (K o : Nat) (w : World) (hK : K < 4294967296) (ho : o < 256) (_hu1 : -40000 ≤ u) (_hu2 : u ≤ 40000)
    (c0 : w.cell? ⟨bk, 0, none⟩ = some (.int .i64 u)) (c2 : w.cell? ⟨bk, 2, none⟩ = some (.int .u32 K)) (f2 : w.frozen? ⟨bk, 2, none⟩ = false) :
    Calls Yba.prog 13 #[.pointer (some ⟨bk, 0, none⟩), .int .i64 (u + 1 + o), .bool true] w fun e w' => e = .returned (.tuple #[]) ∧ w' = (w.setCell ⟨bk, 2, none⟩ (.int .u32 (opnN K o true))).drew.drew := by
  have r1 := run_shl o (u + 1 + ↑o - u - 1) (by omega)
  have r2 := run_clr K o hK
  have r3 := run_set K o hK
  go_enter Yba.func13, Yba.ntmps13
  go_wp2
  go_region
  all_goals go_wp2
  go_region
  all_goals go_wp2
  go_end0
  exact ⟨rfl, by rw [store_store]⟩

/-- opened: bit o of kinds is set to b; nothing else turns. -/
theorem opened_any (bk : Nat) (u : Int) (K o : Nat) (b : Bool) (w : World) (hK : K < 4294967296) (ho : o < 256) (hu1 : -40000 ≤ u) (hu2 : u ≤ 40000)
    (c0 : w.cell? ⟨bk, 0, none⟩ = some (.int .i64 u)) (c2 : w.cell? ⟨bk, 2, none⟩ = some (.int .u32 K)) (f2 : w.frozen? ⟨bk, 2, none⟩ = false) :
    Calls Yba.prog 13 #[.pointer (some ⟨bk, 0, none⟩), .int .i64 (u + 1 + o), .bool b] w fun e w' => ∃ q, e = .returned (.tuple #[]) ∧ w' = (w.setCell ⟨bk, 2, none⟩ (.int .u32 (opnN K o b))).drewN q := by
  cases b
  · refine (opened_no bk u K o w hK ho hu1 hu2 c0 c2 f2).mono ?_
    rintro e w' ⟨rfl, rfl⟩
    exact ⟨1, rfl, rfl⟩
  · refine (opened_yes bk u K o w hK ho hu1 hu2 c0 c2 f2).mono ?_
    rintro e w' ⟨rfl, rfl⟩
    exact ⟨2, rfl, rfl⟩
end Go.Proofs.Ybulkcpsm
