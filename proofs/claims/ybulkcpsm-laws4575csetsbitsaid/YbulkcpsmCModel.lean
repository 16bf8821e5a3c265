/-
  THE WALK of jsonstream.zzs4575cmodel (function 14).
-/
import Derived.Test.YbulkcpsmRows
import Derived.Test.YbulkcpsmCPlain
import Derived.WalkKit
import Derived.WalkSpells
import Derived.WalkLawsBesides
namespace Go.Proofs.Ybulkcpsm
open Go.RowKit

set_option maxHeartbeats 400000 in
theorem cmodel_any (K o : Nat) (b : Bool) (w : World) (hK : K < 4294967296) (ho : o < 256) :
    Calls Yba.prog 14 #[.int .u32 K, .int .i64 o, .bool b] w fun e w' => e = .returned (.int .u32 (opnN K o b)) ∧ w' = w := by
  go_enter Yba.func14, Yba.ntmps14
  go_wp2
  go_loop [7, 8] (fun r i => ∃ k : Nat, k ≤ 32 ∧ i = .int .i64 k ∧ r = .int .u32 ((opnN K o b % 2 ^ k : Nat) : Int)) (fun _ i => 32 - (intOf i).toNat)
  case atStart => exact ⟨0, by omega, rfl, by rw [Nat.pow_zero, Nat.mod_one]; rfl⟩
  case round =>
    obtain ⟨k, hk, rfl, rfl⟩ := hrel
    have hT := opnN_lt K o b hK
    have hbit := opnN_bit K o k b
    have HB : Hid (k < 32 → (opnN K o b).testBit k = if k = o then b else K.testBit k) := hbit
    clear hbit
    by_cases hlt : (k : Int) < 32
    · by_cases hko : k = o
      · subst hko
        cases b
        · go_wp2
          go_round
          case rel => exact ⟨k + 1, by omega, by go_num, by rw [or_step0 _ k (by omega) hT (by rw [HB.out (by omega), if_pos rfl])]⟩
          case measure => simp [intOf]; omega
        · go_wp2
          go_round
          case rel => exact ⟨k + 1, by omega, by go_num, by rw [or_step1 _ k (by omega) hT (by rw [HB.out (by omega), if_pos rfl])]⟩
          case measure => simp [intOf]; omega
      · go_wp2
        go_round
        case rel => exact ⟨k + 1, by omega, by go_num, by rw [bit_and K k hK, or_step _ k (by omega) hT _ (by rw [HB.out (by omega), if_neg hko])]⟩
        case measure => simp [intOf]; omega
    · obtain rfl : k = 32 := by omega
      go_wp2
      go_ret
      exact ⟨ret_int (by omega), rfl⟩
end Go.Proofs.Ybulkcpsm
