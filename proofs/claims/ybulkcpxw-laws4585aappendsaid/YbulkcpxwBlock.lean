/-
  THE WALKS of quorumhall.zzs4585abe (function 9) and zzs4585ablock (function 7).
-/
import Derived.Test.YbulkcpxwPrepared
import Derived.Deep.QuietTactic
import Derived.BigQuiet
namespace Go.Proofs.Ybulkcpxw
open Go.RowKit

/-- Cells o .. of block g hold the list xs. -/
def Lies (w : World) (g o : Nat) (xs : List Value) : Prop := ∀ j u, xs[j]? = some u → w.cell? ⟨g, o + j, none⟩ = some u

set_option maxHeartbeats 1000000 in
theorem be_any (g len cap o x : Nat) (O : Int) (hO : O = o) (w : World) (hx : x < 18446744073709551616) (hlen : o + 8 ≤ len) (hm : len ≤ 1073741824) (hc : Lies w g o (be8 x)) :
    Calls Yba.prog 9 #[.slice (some ⟨g, 0, none⟩) len cap, .int .i64 O, .int .u64 x] w fun e w' => e = .returned (.bool true) ∧ w' = w := by
  subst hO
  have HC : Hid (Lies w g o (be8 x)) := hc
  clear hc
  go_enter Yba.func9, Yba.ntmps9
  go_wp2
  go_loop [7] (fun i => ∃ k : Nat, k ≤ 8 ∧ i = .int .i64 k) (fun i => 8 - (intOf i).toNat)
  case atStart => exact ⟨0, by omega, rfl⟩
  case round =>
    obtain ⟨k, hk, rfl⟩ := hrel
    by_cases hlt : (k : Int) < 8
    · have hcell := HC.out k _ (be8_get x k hx (by omega))
      go_wp2
      go_round
      case rel => exact ⟨k + 1, by omega, by go_num⟩
      case measure => simp [intOf]; omega
    · go_wp2
      go_ret
      exact ⟨rfl, rfl⟩

theorem Lies.alloc {w : World} {g o : Nat} {xs : List Value} (h : Lies w g o xs) (b : Obj) : Lies (w.alloc b) g o xs := by
  intro j u hj
  have := h j u hj
  rw [World.cell?_alloc_past _ _ _ (World.block_lt_of_cell? w _ this)]
  exact this
theorem Lies.below {w w' : World} {g o : Nat} {xs : List Value} (h : Lies w g o xs) (hb : Below w.heap.size w w') : Lies w' g o xs := by
  intro j u hj
  have := h j u hj
  exact (hb.cell (p := ⟨g, o + j, none⟩) (World.block_lt_of_cell? w _ this)).trans this
theorem Lies.drewN {w : World} {g o : Nat} {xs : List Value} (h : Lies w g o xs) (q : Nat) : Lies (w.drewN q) g o xs := h

theorem below_draws {B : Nat} {a w : World} (h : Below B a w) (q : Nat) : Below B a (w.drewN q) := ⟨h.os, h.tape, h.output, h.size, h.block⟩

/-- Thirty-two bytes. -/
def IsDigest (D : List Value) : Prop := D.length = 32 ∧ ∀ i, i < 32 → ∃ z : Int, 0 ≤ z ∧ z ≤ 255 ∧ D[i]? = some (.int .u8 z)

set_option maxHeartbeats 1000000 in
theorem block_any (g len cap o seq view : Nat) (D : List Value) (w : World) (hseq : seq < 18446744073709551616) (hview : view < 18446744073709551616) (hlen : o + 48 ≤ len) (hm : len ≤ 1073741824)
    (hs : Lies w g o (be8 seq)) (hv : Lies w g (o + 8) (be8 view)) (hd : Lies w g (o + 16) D) (hD : IsDigest D) :
    Calls Yba.prog 7 #[.slice (some ⟨g, 0, none⟩) len cap, .int .i64 o, .int .u64 seq, .int .u64 view, .agg D.toArray] w fun e w' => e = .returned (.bool true) ∧ Below w.heap.size w w' := by
  have H1 : Hid (Lies (w.alloc (.cells D.toArray 24)) g o (be8 seq)) := hs.alloc _
  have H2 : Hid (Lies (w.alloc (.cells D.toArray 24)) g (o + 8) (be8 view)) := hv.alloc _
  have H3 : Hid (Lies (w.alloc (.cells D.toArray 24)) g (o + 16) D) := hd.alloc _
  have H4 : Hid (∀ i, i < 32 → ∃ z : Int, 0 ≤ z ∧ z ≤ 255 ∧ D[i]? = some (.int .u8 z)) := hD.2
  clear hs hv hd hD
  go_enter Yba.func7, Yba.ntmps7
  go_wp2_with fail
  refine (be_any g len cap o seq (o : Int) rfl _ hseq (by omega) hm (by exact H1.out)).mono ?_
  rintro e W1 ⟨rfl, hw⟩
  subst hw
  go_wp2_with fail
  refine (be_any g len cap (o + 8) view ((o : Int) + 8) (by omega) _ hview (by omega) hm (by exact H2.out)).mono ?_
  rintro e W1 ⟨rfl, hw⟩
  subst hw
  go_wp2_with fail
  go_loopw [11] (fun i wr => ∃ k q : Nat, k ≤ 32 ∧ i = .int .i64 k ∧ wr = (w.alloc (.cells D.toArray 24)).drewN q) (fun i _ => 32 - (intOf i).toNat)
  case atStart => exact ⟨0, 0, by omega, rfl, rfl⟩
  case round =>
    obtain ⟨k, q, hk, rfl, rfl⟩ := hrel
    by_cases hlt : (k : Int) < 32
    · obtain ⟨z, z0, z1, hz⟩ := H4.out k (by omega)
      have hcr := H3.out k _ hz
      have hcd : (w.alloc (.cells D.toArray 24)).cell? ⟨w.heap.size, k, none⟩ = some (.int .u8 z) := by
        rw [World.cell?_alloc_at _ _ _ _ rfl]; simpa using hz
      clear hz
      generalize w.alloc (.cells D.toArray 24) = W at *
      go_wp2_with fail
      go_quiet (fail)
      go_wp2
      go_roundw
      case rel => exact ⟨k + 1, _, by omega, by go_num, rfl⟩
      case measure => simp [intOf]; omega
    · go_wp2
      go_ret
      exact ⟨rfl, below_draws ((Below.refl w.heap.size w).alloc (Nat.le_refl _) _) q⟩
end Go.Proofs.Ybulkcpxw
