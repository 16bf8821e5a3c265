/-
  THE WALK of check.zzs4575amodel (function 10).
-/
import Derived.Test.YbulkcpsmMul
import Derived.Deep.DeepCutAuto
namespace Go.Proofs.Ybulkcpsm
open Go.RowKit

def c0 (b : Int) : Int := if b < 0 then 0 else b
theorem c0_neg {b : Int} (h : b < 0) : Value.int .i64 0 = .int .i64 (c0 b) := by unfold c0; rw [if_pos h]
theorem c0_pos {b : Int} (h : ¬ b < 0) : Value.int .i64 b = .int .i64 (c0 b) := by unfold c0; rw [if_neg h]
theorem c0_bd {b : Int} (h : b ≤ 9223372036854775807) : 0 ≤ c0 b ∧ c0 b ≤ 9223372036854775807 := by unfold c0; split <;> omega
theorem cl_top {m b : Int} (hm : 0 ≤ m) (h : m < c0 b) : Value.int .i64 m = .int .i64 (cl m b) := by
  unfold c0 at h; unfold cl
  by_cases g : b < 0
  · rw [if_pos g] at h; omega
  · rw [if_neg g] at h; rw [if_neg g, if_pos h]
theorem cl_low {m b : Int} (h : ¬ m < c0 b) : Value.int .i64 (c0 b) = .int .i64 (cl m b) := by
  unfold c0 at h ⊢; unfold cl
  by_cases g : b < 0
  · rw [if_pos g, if_pos g]
  · rw [if_neg g] at h; rw [if_neg g, if_neg g, if_neg h]

set_option maxHeartbeats 1000000 in
theorem model_any (b t l : Int) (w : World) (_hb1 : -9223372036854775808 ≤ b) (hb2 : b ≤ 9223372036854775807) (_ht1 : -9223372036854775808 ≤ t) (ht2 : t ≤ 9223372036854775807) (hl1 : -9223372036854775808 ≤ l) (hl2 : l ≤ 9223372036854775807) :
    Calls Yba.prog 10 #[.int .i64 b, .int .i64 t, .int .i64 l] w fun e w' => e = .returned (.tuple #[.int .i64 (cntN b t l), .bool (cntB b t l)]) ∧ w' = w := by
  have b0 := c0_bd hb2
  have t0 := c0_bd ht2
  have bl := cl_bd (m := 64) (b := b) (by omega)
  have tl := cl_bd (m := 41) (b := t) (by omega)
  go_enter Yba.func10, Yba.ntmps10
  go_upto_if 12 with fail
  go_cut [0] (fun x w1 => x = .int .i64 (c0 b) ∧ w1 = w)
  case first =>
    by_cases h : b < 0
    all_goals
      go_wp2_with fail
      go_meet
      first | exact ⟨c0_neg h, rfl⟩ | exact ⟨c0_pos (by omega), rfl⟩
  case rest =>
    obtain ⟨rfl, rfl⟩ := hcut
    go_upto_if 14 with fail
    go_cut [0] (fun x w1 => x = .int .i64 (cl 64 b) ∧ w1 = wc)
    case first =>
      by_cases h : 64 < c0 b
      all_goals
        go_wp2_with fail
        go_meet
        first | exact ⟨cl_top (by omega) h, rfl⟩ | exact ⟨cl_low (by omega), rfl⟩
    case rest =>
      obtain ⟨rfl, rfl⟩ := hcut
      go_upto_if 16 with fail
      go_cut [1] (fun x w1 => x = .int .i64 (c0 t) ∧ w1 = wc)
      case first =>
        by_cases h : t < 0
        all_goals
          go_wp2_with fail
          go_meet
          first | exact ⟨c0_neg h, rfl⟩ | exact ⟨c0_pos (by omega), rfl⟩
      case rest =>
        obtain ⟨rfl, rfl⟩ := hcut
        go_upto_if 18 with fail
        go_cut [1] (fun x w1 => x = .int .i64 (cl 41 t) ∧ w1 = wc)
        case first =>
          by_cases h : 41 < c0 t
          all_goals
            go_wp2_with fail
            go_meet
            first | exact ⟨cl_top (by omega) h, rfl⟩ | exact ⟨cl_low (by omega), rfl⟩
        case rest =>
          obtain ⟨rfl, rfl⟩ := hcut
          go_upto_region 9 with fail
          go_cut [0, 24] (fun y x w1 => ∃ z : Bool, y = .int .i64 (cl 64 b) ∧ x = .bool z ∧ (z = true → cl 64 b ≤ 0 ∧ cl 41 t ≤ 0) ∧ (z = false → 0 < cl 64 b ∨ 0 < cl 41 t) ∧ w1 = wc)
          case first =>
            by_cases hz : cl 64 b ≤ 0
            · have HB : Hid (cl 64 b = 0) := (by omega : cl 64 b = 0)
              go_wp2_with fail
              go_meet
              exact ⟨(cl 41 t == 0), by rw [HB.out], rfl, fun h => by simp at h; omega, fun h => by simp at h; omega, rfl⟩
            · go_wp2_with fail
              go_meet
              exact ⟨false, rfl, rfl, fun h => (by cases h), fun _ => by omega, rfl⟩
          case rest =>
            obtain ⟨z, rfl, rfl, hz1, hz0, rfl⟩ := hcut
            cases z
            case true =>
              obtain ⟨hz0, hz1⟩ := hz1 rfl
              have HZ : Hid (cl 64 b ≤ 0) := hz0
              have HY : Hid (cl 41 t ≤ 0) := hz1
              clear hz0 hz1
              go_wp2
              obtain ⟨c1, c2⟩ := mdl_one (l := l) HZ.out HY.out
              rw [c1, c2]
              go_ret2
              exact ⟨rfl, rfl⟩
            case false =>
              have HZ : Hid (0 < cl 64 b ∨ 0 < cl 41 t) := hz0 rfl
              clear hz0 hz1
              go_wp2_with fail
              go_loop [8, 9] (fun n i => ∃ k : Nat, k ≤ (cl 64 b).toNat ∧ i = .int .i64 k ∧ n = .int .u64 (sat (pn k 0))) (fun _ i => (cl 64 b).toNat - (intOf i).toNat)
              case atStart => exact ⟨0, Nat.zero_le _, rfl, by rw [pn_zero, sat_one]; rfl⟩
              case round =>
                obtain ⟨k, hk, rfl, rfl⟩ := hrel
                by_cases hlt : (k : Int) < cl 64 b
                · go_wp2_with fail
                  refine (amul_any (pn k 0) 2 _ rfl (by omega) (by omega) _).mono ?_
                  rintro e w' ⟨rfl, rfl⟩
                  go_wp2_with fail
                  go_round
                  case rel => exact ⟨k + 1, by omega, by go_num, by rw [pn_two]⟩
                  case measure => simp [intOf]; omega
                · obtain rfl : k = (cl 64 b).toNat := by omega
                  go_wp2_with fail
                  go_loop [8, 10] (fun n i => ∃ j : Nat, j ≤ (cl 41 t).toNat ∧ i = .int .i64 j ∧ n = .int .u64 (sat (pn (cl 64 b).toNat j))) (fun _ i => (cl 41 t).toNat - (intOf i).toNat)
                  case atStart => exact ⟨0, Nat.zero_le _, rfl, rfl⟩
                  case round =>
                    obtain ⟨j, hj, rfl, rfl⟩ := hrel
                    by_cases hjt : (j : Int) < cl 41 t
                    · go_wp2_with fail
                      refine (amul_any (pn (cl 64 b).toNat j) 3 _ rfl (by omega) (by omega) _).mono ?_
                      rintro e w' ⟨rfl, rfl⟩
                      go_wp2_with fail
                      go_round
                      case rel => exact ⟨j + 1, by omega, by go_num, by rw [pn_three]⟩
                      case measure => simp [intOf]; omega
                    · obtain rfl : j = (cl 41 t).toNat := by omega
                      have s1 := sat_lt (pn (cl 64 b).toNat (cl 41 t).toNat)
                      have s2 := sat_pos (pn_pos (cl 64 b).toNat (cl 41 t).toNat)
                      by_cases hle : (sat (pn (cl 64 b).toNat (cl 41 t).toNat) : Int) ≤ l
                      · go_wp2_with fail
                        obtain ⟨c1, c2⟩ := mdl_yes hl2 hle
                        rw [c1, c2]
                        go_ret2
                        exact ⟨rfl, rfl⟩
                      · by_cases hl0 : 0 ≤ l
                        all_goals
                          go_wp2_with fail
                          obtain ⟨c1, c2⟩ := mdl_no hl2 HZ.out (by omega)
                          rw [c1, c2]
                          go_ret2
                          exact ⟨rfl, rfl⟩
end Go.Proofs.Ybulkcpsm
