/-
  THE WALK of check.count (function 9).
-/
import Derived.Test.YbulkcpsmRows
import Derived.Test.YbulkcpsmAPlain
import Derived.WalkKit
import Derived.WalkSpells
import Derived.WalkLawsBesides
namespace Go.Proofs.Ybulkcpsm
open Go.RowKit

theorem grown_trans {a b c : World} (h : Grown a b) (g : Grown b c) : Grown a c :=
  ⟨World.keptBut_trans h.1 (World.keptBut_mono (fun _ f => f.elim) g.1), fun x => (g.2.1 x).trans (h.2.1 x), Nat.le_trans h.2.2 g.2.2⟩

theorem index0 (b t : Int) (w : World) : (Instr.index 56 (.agg #[.int .i64 2, .int .i64 b, .int .i64 3, .int .i64 t]) (.int .i64 0)).run Yba.prog w = .ok (.agg #[.int .i64 2, .int .i64 b]) w := by kernel_rfl
theorem index1 (b t : Int) (w : World) : (Instr.index 56 (.agg #[.int .i64 2, .int .i64 b, .int .i64 3, .int .i64 t]) (.int .i64 1)).run Yba.prog w = .ok (.agg #[.int .i64 3, .int .i64 t]) w := by kernel_rfl

set_option maxHeartbeats 400000 in
theorem count_any (b t l : Int) (w : World) (hb1 : -9223372036854775808 ≤ b) (hb2 : b ≤ 9223372036854775807) (ht1 : -9223372036854775808 ≤ t) (ht2 : t ≤ 9223372036854775807) (hl1 : -9223372036854775808 ≤ l) (hl2 : l ≤ 9223372036854775807) :
    Calls Yba.prog 9 #[.int .i64 b, .int .i64 t, .int .i64 l] w fun e w' => e = .returned (.tuple #[.int .i64 (cntN b t l), .bool (cntB b t l)]) ∧ Grown w w' := by
  have i0 := index0 b t
  have i1 := index1 b t
  go_enter Yba.func9, Yba.ntmps9
  go_wp2
  refine wp_loop_rounds 3 ?_
  rw [rounds_succ]
  go_wp2
  go_loop [6, 20] (fun n i => ∃ k : Nat, k ≤ b.toNat ∧ i = .int .i64 k ∧ n = .int .i64 (pw k 0) ∧ (k = 0 ∨ pw k 0 ≤ l)) (fun _ i => b.toNat - (intOf i).toNat)
  case atStart => exact ⟨0, Nat.zero_le _, rfl, by rw [pw_zero], Or.inl rfl⟩
  case round =>
    obtain ⟨k, hk, rfl, rfl, hkl⟩ := hrel
    have hp1 := pw_pos k 0
    have hp2 : pw k 0 ≤ 9223372036854775807 := by
      rcases hkl with h | h
      · subst h; rw [pw_zero]; omega
      · omega
    by_cases hlt : (k : Int) < b
    · go_wp2
      · have h : l.tdiv 2 < pw k 0 := by assumption
        have g := tdiv_lt (by omega) hp1 h
        rw [← pw_two] at g
        have m : pw (k + 1) 0 ≤ pw b.toNat t.toNat := pw_mono (by omega) (by omega)
        obtain ⟨c1, c2⟩ := cnt_no (b := b) (t := t) (l := l) (by omega) (by omega)
        rw [c1, c2]
        go_ret2
        exact ⟨rfl, (Grown.refl _).alloc _ _⟩
      · have h : pw k 0 ≤ l.tdiv 2 := by assumption
        have g := le_tdiv (by omega) hp1 h
        go_round
        case rel => exact ⟨k + 1, by omega, by go_num, by rw [pw_two, IntWalk.wrap64_in _ ⟨by omega, by omega⟩], Or.inr (by rw [pw_two]; exact g)⟩
        case measure => simp [intOf]; omega
    · obtain rfl : k = b.toNat := by omega
      go_wp2
      rw [rounds_succ]
      go_wp2
      go_loop [6, 20] (fun n i => ∃ j : Nat, j ≤ t.toNat ∧ i = .int .i64 j ∧ n = .int .i64 (pw b.toNat j) ∧ ((b ≤ 0 ∧ j = 0) ∨ pw b.toNat j ≤ l)) (fun _ i => t.toNat - (intOf i).toNat)
      case atStart => exact ⟨0, Nat.zero_le _, rfl, rfl, by omega⟩
      case round =>
        clear hp1 hp2 hkl
        obtain ⟨j, hj, rfl, rfl, hjl⟩ := hrel
        have hp1 := pw_pos b.toNat j
        have hp2 : pw b.toNat j ≤ 9223372036854775807 := by
          rcases hjl with ⟨h, rfl⟩ | h
          · rw [show b.toNat = 0 from by omega, pw_zero]; omega
          · omega
        by_cases hjt : (j : Int) < t
        · go_wp2
          · have h : l.tdiv 3 < pw b.toNat j := by assumption
            have g := tdiv_lt (by omega) hp1 h
            rw [← pw_three] at g
            have m : pw b.toNat (j + 1) ≤ pw b.toNat t.toNat := pw_mono (by omega) (by omega)
            obtain ⟨c1, c2⟩ := cnt_no (b := b) (t := t) (l := l) (by omega) (by omega)
            rw [c1, c2]
            go_ret2
            exact ⟨rfl, ((Grown.refl _).alloc _ _).alloc _ _⟩
          · have h : pw b.toNat j ≤ l.tdiv 3 := by assumption
            have g := le_tdiv (by omega) hp1 h
            go_round
            case rel => exact ⟨j + 1, by omega, by go_num, by rw [pw_three, IntWalk.wrap64_in _ ⟨by omega, by omega⟩], Or.inr (by rw [pw_three]; exact g)⟩
            case measure => simp [intOf]; omega
        · obtain rfl : j = t.toNat := by omega
          go_wp2
          rw [rounds_succ]
          go_wp2
          obtain ⟨c1, c2⟩ := cnt_yes (b := b) (t := t) (l := l) (by omega)
          rw [c1, c2]
          go_ret2
          exact ⟨rfl, ((Grown.refl _).alloc _ _).alloc _ _⟩

theorem count_yes (b t l : Int) (w : World) (hb1 : -9223372036854775808 ≤ b) (hb2 : b ≤ 9223372036854775807) (ht1 : -9223372036854775808 ≤ t) (ht2 : t ≤ 9223372036854775807) (hl1 : -9223372036854775808 ≤ l) (hl2 : l ≤ 9223372036854775807) (h : (b ≤ 0 ∧ t ≤ 0) ∨ pw b.toNat t.toNat ≤ l) :
    Calls Yba.prog 9 #[.int .i64 b, .int .i64 t, .int .i64 l] w fun e w' => e = .returned (.tuple #[.int .i64 (pw b.toNat t.toNat), .bool true]) ∧ Grown w w' := by
  obtain ⟨c1, c2⟩ := cnt_yes h
  have := count_any b t l w hb1 hb2 ht1 ht2 hl1 hl2
  rw [c1, c2] at this
  exact this
theorem count_empty (b t l : Int) (w : World) (hb1 : -9223372036854775808 ≤ b) (hb2 : b ≤ 9223372036854775807) (ht1 : -9223372036854775808 ≤ t) (ht2 : t ≤ 9223372036854775807) (hl1 : -9223372036854775808 ≤ l) (hl2 : l ≤ 9223372036854775807) (h : b ≤ 0) (g : t ≤ 0) :
    Calls Yba.prog 9 #[.int .i64 b, .int .i64 t, .int .i64 l] w fun e w' => e = .returned (.tuple #[.int .i64 1, .bool true]) ∧ Grown w w' := by
  have := count_yes b t l w hb1 hb2 ht1 ht2 hl1 hl2 (Or.inl ⟨h, g⟩)
  rw [show b.toNat = 0 from by omega, show t.toNat = 0 from by omega, pw_zero] at this
  exact this
theorem count_no (b t l : Int) (w : World) (hb1 : -9223372036854775808 ≤ b) (hb2 : b ≤ 9223372036854775807) (ht1 : -9223372036854775808 ≤ t) (ht2 : t ≤ 9223372036854775807) (hl1 : -9223372036854775808 ≤ l) (hl2 : l ≤ 9223372036854775807) (h : 0 < b ∨ 0 < t) (g : l < pw b.toNat t.toNat) :
    Calls Yba.prog 9 #[.int .i64 b, .int .i64 t, .int .i64 l] w fun e w' => e = .returned (.tuple #[.int .i64 0, .bool false]) ∧ Grown w w' := by
  obtain ⟨c1, c2⟩ := cnt_no h g
  have := count_any b t l w hb1 hb2 ht1 ht2 hl1 hl2
  rw [c1, c2] at this
  exact this
end Go.Proofs.Ybulkcpsm
