/-
  THE WALK of quorumhall.appendPrepared (function 6).
-/
import Derived.Test.YbulkcpxwUint64
namespace Go.Proofs.Ybulkcpxw
open Go.RowKit

theorem owns_mono {w : World} {B B' : Nat} {e : TypeId} {size : Nat} {v : Value} {n : Nat} {xs : List Value} (h : w.ownsRow B e size v n xs) (hB : B' ≤ B) : w.ownsRow B' e size v n xs := by
  obtain ⟨h1, h2⟩ := h
  refine ⟨h1, ?_⟩
  rcases h2 with h2 | ⟨gg, cap, cur, e1, e2, e3⟩
  · exact Or.inl h2
  · exact Or.inr ⟨gg, cap, cur, e1, Nat.le_trans hB e2, e3⟩

set_option maxHeartbeats 1000000 in
theorem prepared_any (g n view seq : Nat) (cs : Array Value) (D xs : List Value) (w : World) (hview : view < 18446744073709551616) (hseq : seq < 18446744073709551616) (hxs : xs.length = n)
    (hcell : ∀ j u, xs[j]? = some u → w.cell? ⟨g, j, none⟩ = some u) (hlim : n ≤ 1048576)
    (hc0 : cs[0]? = some (.int .u64 view)) (hc1 : cs[1]? = some (.int .u64 seq)) (hD : D.length = 32) (hcD : ∀ j u, D[j]? = some u → cs[2 + j]? = some u) (hD1 : ∀ u ∈ D, u.oneCell' = true) :
    Calls Yba.prog 6 #[.slice (some ⟨g, 0, none⟩) n n, .agg cs] w fun e w' => ∃ v', e = .returned v' ∧ w'.ownsRow w.heap.size 5 1 v' (n + 48) (xs ++ (be8 seq ++ (be8 view ++ D))) ∧ Below w.heap.size w w' := by
  obtain ⟨i0, hi, hz0, hz1, hz2⟩ := info_parts info5
  have HC : Hid (∀ j u, xs[j]? = some u → w.cell? ⟨g, j, none⟩ = some u) := hcell
  have HX : Hid (xs.length = n) := hxs
  have HD : Hid (D.length = 32) := hD
  have HCD : Hid (∀ j u, D[j]? = some u → cs[2 + j]? = some u) := hcD
  have HD1 : Hid (∀ u ∈ D, u.oneCell' = true) := hD1
  clear hcell hxs hD hcD hD1
  go_enter Yba.func6, Yba.ntmps6
  go_wp2_with fail
  refine (app_grow g n seq hseq xs _ HX.out (by exact fun j u hj => by have h := HC.out j u hj; rw [World.cell?_alloc_past _ _ _ (World.block_lt_of_cell? w _ h)]; exact h) (by omega)).mono ?_
  rintro e W1 ⟨v1, rfl, own1, bel1⟩
  have hz : (w.alloc (.cells cs 26)).heap.size = w.heap.size + 1 := by simp
  rw [hz] at own1 bel1
  have d0 : W1.cell? ⟨w.heap.size, 0, none⟩ = some (.int .u64 view) := by
    rw [bel1.cell (p := ⟨w.heap.size, 0, none⟩) (Nat.lt_succ_self _), World.cell?_alloc_at _ _ _ _ rfl]; exact hc0
  have DD : Hid (∀ j u, D[j]? = some u → W1.cell? ⟨w.heap.size, 2 + j, none⟩ = some u) := by
    intro j u hj
    rw [bel1.cell (p := ⟨w.heap.size, 2 + j, none⟩) (Nat.lt_succ_self _), World.cell?_alloc_at _ _ _ _ rfl]; exact HCD.out j u hj
  have O1 : Hid (W1.ownsRow (w.heap.size + 1) 5 1 v1 (n + 8) (xs ++ be8 seq)) := owns_mono own1 (by omega)
  have B1 : Hid (Below w.heap.size w W1) := ((Below.refl _ w).alloc (Nat.le_refl _) _).trans (bel1.mono (by omega))
  have hs1 : w.heap.size + 1 ≤ W1.heap.size := by have := bel1.size; simp at this; omega
  clear own1 bel1 hz HC HCD
  go_wp2_with fail
  refine (app_own (w.heap.size + 1) (n + 8) view hview v1 _ _ O1.out hs1 (by omega)).mono ?_
  rintro e W2 ⟨v2, rfl, own2, bel2⟩
  have DD2 : Hid (∀ j u, D[j]? = some u → W2.cell? ⟨w.heap.size, 2 + j, none⟩ = some u) := by
    intro j u hj
    rw [bel2.cell (p := ⟨w.heap.size, 2 + j, none⟩) (Nat.lt_succ_self _)]; exact DD.out j u hj
  have O2 : Hid (W2.ownsRow (w.heap.size + 1) 5 1 v2 (n + 8 + 8) (xs ++ be8 seq ++ be8 view)) := own2
  have B2 : Hid (Below w.heap.size w W2) := B1.out.trans (bel2.mono (by omega))
  have hs2 : w.heap.size + 1 ≤ W2.heap.size := Nat.le_trans hs1 bel2.size
  clear own2 bel2 DD O1 B1 d0 hs1
  go_wp2_with (at_builtin; refine wpList_append_own _ rfl _ _ 22 rfl (w.heap.size + 1) 5 i0 (.int .u8 0) 1 1 Yba.underlying22 hi hz0 hz1 hz2 rfl (by decide) v2 (n + 8 + 8) _ rfl O2.out ⟨w.heap.size, 2, none⟩ 32 32 D rfl ?c1 ?c2 ?c3 ?c4 ?c5 ?c6 ?_)
  case c1 => rw [HD.out]
  case c2 => intro j u hj; rw [Go.WideShapes.add_plain]; exact DD2.out j u hj
  case c3 => exact HD1.out
  case c4 => unfold maxLen; omega
  case c5 => omega
  case c6 => exact hs2
  intro v3 W3 own3 grow3 _
  go_wp2
  go_ret
  rw [show n + 8 + 8 + 32 = n + 48 from by omega] at own3
  refine ⟨v3, rfl, owns_mono (B := w.heap.size + 1) own3 (by omega), ?_⟩
  exact B2.out.grown grow3 (by omega) (fun k hk => by have := (O2.out.lt k hk).1; omega)
end Go.Proofs.Ybulkcpxw
