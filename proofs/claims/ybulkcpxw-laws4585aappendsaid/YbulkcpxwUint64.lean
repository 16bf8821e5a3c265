/-
  THE WALKS of (encoding/binary.bigEndian).AppendUint64 (function 13): onto a row that the call owns; onto a full row (after the guide's own proof at any program, Derived/Shelf/Bin/BEAppendUint64.lean).
-/
import Derived.Test.YbulkcpxwRows
import Derived.WalkKit
import Derived.WalkSpells
import Derived.WalkLawsBesides
import Derived.ArgAppend
namespace Go.Proofs.Ybulkcpxw
open Go.RowKit

/-- A uint64's eight bytes, the greatest first. -/
def be8 (v : Nat) : List Value :=
  [.int .u8 ((v : Int) / 72057594037927936), .int .u8 ((v : Int) / 281474976710656 % 256), .int .u8 ((v : Int) / 1099511627776 % 256), .int .u8 ((v : Int) / 4294967296 % 256),
   .int .u8 ((v : Int) / 16777216 % 256), .int .u8 ((v : Int) / 65536 % 256), .int .u8 ((v : Int) / 256 % 256), .int .u8 ((v : Int) % 256)]
theorem be8_length (v : Nat) : (be8 v).length = 8 := rfl
theorem be8_one (v : Nat) : ∀ u ∈ be8 v, u.oneCell' = true := by
  intro u hu
  simp [be8] at hu
  rcases hu with rfl | rfl | rfl | rfl | rfl | rfl | rfl | rfl <;> rfl
theorem be8_get (v i : Nat) (hv : v < 18446744073709551616) (hi : i < 8) : (be8 v)[i]? = some (.int .u8 ((v : Int) / 2 ^ (56 - 8 * i) % 256)) := by
  have h : i = 0 ∨ i = 1 ∨ i = 2 ∨ i = 3 ∨ i = 4 ∨ i = 5 ∨ i = 6 ∨ i = 7 := by omega
  rcases h with rfl | rfl | rfl | rfl | rfl | rfl | rfl | rfl <;> simp [be8]
  omega

theorem info5 : (Yba.prog.info? 5).map (fun i => (i.zero, i.size, i.bytes)) = some (some (.int .u8 0), 1, 1) := by kernel_rfl

set_option maxHeartbeats 2000000 in
set_option maxRecDepth 100000 in
theorem app_own (B n v : Nat) (hv : v < 18446744073709551616) (sv : Value) (xs : List Value) (w : World) (hown : w.ownsRow B 5 1 sv n xs) (hBw : B ≤ w.heap.size) (hlim : n + 8 ≤ 140737488355328) :
    Calls Yba.prog 13 #[.agg #[], sv, .int .u64 v] w fun e w' => ∃ v', e = .returned v' ∧ w'.ownsRow B 5 1 v' (n + 8) (xs ++ be8 v) ∧ Below B w w' := by
  obtain ⟨i0, hi, hz0, hz1, hz2⟩ := info_parts info5
  go_enter Yba.func13, Yba.ntmps13
  go_wp2_with (at_builtin; refine wpList_append_own _ rfl _ _ 22 rfl B 5 i0 (.int .u8 0) 1 1 Yba.underlying22 hi hz0 hz1 hz2 rfl (by decide) _ _ _ rfl ((hown.alloc _).alloc _) _ 8 8 (be8 v) rfl rfl ?c1 ?c2 ?c3 ?c4 ?c5 ?_)
  case c1 =>
    intro j u hj
    match j, hj with
    | 0, hj => simp [be8] at hj; subst hj; simp [Addr.add]
    | 1, hj => simp [be8] at hj; subst hj; simp [Addr.add]
    | 2, hj => simp [be8] at hj; subst hj; simp [Addr.add]
    | 3, hj => simp [be8] at hj; subst hj; simp [Addr.add]
    | 4, hj => simp [be8] at hj; subst hj; simp [Addr.add]
    | 5, hj => simp [be8] at hj; subst hj; simp [Addr.add]
    | 6, hj => simp [be8] at hj; subst hj; simp [Addr.add]
    | 7, hj => simp [be8] at hj; subst hj; simp [Addr.add]
  case c2 => exact be8_one v
  case c3 => unfold maxLen; omega
  case c4 => omega
  case c5 => simp; omega
  intro v' w1 hown' hgrow _
  go_wp2
  go_ret
  refine ⟨v', rfl, hown', ?_⟩
  exact ((((Below.refl B w).alloc hBw _).alloc (by simp; omega) _).grown hgrow (by simp; omega) (fun k hk => (hown.lt k hk).1))

set_option maxHeartbeats 2000000 in
set_option maxRecDepth 100000 in
/-- Onto a row without spare: a new row is laid; of what was there nothing has turned. -/
theorem app_grow (g n v : Nat) (hv : v < 18446744073709551616) (xs : List Value) (w : World) (hxs : xs.length = n) (hcell : ∀ j u, xs[j]? = some u → w.cell? ⟨g, j, none⟩ = some u) (hlim : n + 8 ≤ 140737488355328) :
    Calls Yba.prog 13 #[.agg #[], .slice (some ⟨g, 0, none⟩) n n, .int .u64 v] w fun e w' => ∃ v', e = .returned v' ∧ w'.ownsRow (w.heap.size + 1) 5 1 v' (n + 8) (xs ++ be8 v) ∧ Below w.heap.size w w' := by
  obtain ⟨i0, hi, hz0, hz1, hz2⟩ := info_parts info5
  have HC : Hid (∀ j u, xs[j]? = some u → w.cell? ⟨g, j, none⟩ = some u) := hcell
  have HX : Hid (xs.length = n) := hxs
  clear hcell hxs
  go_enter Yba.func13, Yba.ntmps13
  go_wp2_with (at_builtin; refine wpList_append_grows _ rfl _ _ 22 rfl 5 i0 (.int .u8 0) 1 1 Yba.underlying22 hi hz0 hz1 hz2 rfl (by decide) _ n n xs rfl ?c6 ?c7 ?c8 _ 8 8 (be8 v) rfl rfl ?c1 ?c2 ?c3 ?c4 ?c5 ?_)
  case c1 =>
    intro j u hj
    match j, hj with
    | 0, hj => simp [be8] at hj; subst hj; simp [Addr.add]
    | 1, hj => simp [be8] at hj; subst hj; simp [Addr.add]
    | 2, hj => simp [be8] at hj; subst hj; simp [Addr.add]
    | 3, hj => simp [be8] at hj; subst hj; simp [Addr.add]
    | 4, hj => simp [be8] at hj; subst hj; simp [Addr.add]
    | 5, hj => simp [be8] at hj; subst hj; simp [Addr.add]
    | 6, hj => simp [be8] at hj; subst hj; simp [Addr.add]
    | 7, hj => simp [be8] at hj; subst hj; simp [Addr.add]
  case c2 => exact be8_one v
  case c3 => omega
  case c4 => unfold maxLen; omega
  case c5 => omega
  case c6 => intro h; cases h
  case c7 => rw [HX.out]; omega
  case c8 =>
    intro b hb j u hj
    injection hb with hb
    subst hb
    have h := HC.out j u hj
    have hlt := World.block_lt_of_cell? w _ h
    rw [Go.WideShapes.add_plain, Nat.zero_add, World.cell?_alloc_past _ _ _ (by simp; exact Nat.lt_succ_of_lt hlt), World.cell?_alloc_past _ _ _ hlt]
    exact h
  intro v' w1 hown' hgrow
  go_wp2
  go_ret
  refine ⟨v', rfl, ?_, ?_⟩
  · obtain ⟨h1, h2⟩ := hown'
    refine ⟨h1, ?_⟩
    rcases h2 with h2 | ⟨gg, cap, cur, e1, e2, e3⟩
    · exact Or.inl h2
    · exact Or.inr ⟨gg, cap, cur, e1, Nat.le_trans (by simp) e2, e3⟩
  · exact ((((Below.refl w.heap.size w).alloc (Nat.le_refl _) _).alloc (by simp) _).grown hgrow (by simp; omega) (fun k hk => by cases hk))
end Go.Proofs.Ybulkcpxw
