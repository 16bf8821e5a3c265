/-
  THE WALK of scenariojson.zzs4575bmodel (function 12).
-/
import Derived.Test.YbulkcpsmRows
import Derived.Test.YbulkcpsmBPlain
import Derived.WalkKit
import Derived.WalkSpells
import Derived.WalkLawsBesides
namespace Go.Proofs.Ybulkcpsm
open Go.RowKit

set_option maxHeartbeats 400000 in
theorem bmodel_any (a : Option Addr) (len cap n : Nat) (ss : Nat → ByteArray) (s : ByteArray) (w : World) (hs : IsStrs w a len ss) (hlen : len ≤ 1024) (_hn : n ≤ 4096) :
    Calls Yba.prog 12 #[.slice a len cap, .int .i64 n, .string s] w fun e w' => ∃ r, e = .returned (.int .i64 r) ∧ IsIdx ss len n s r ∧ w' = w := by
  have HS : Hid (IsStrs w a len ss) := hs
  clear hs
  go_enter Yba.func12, Yba.ntmps12
  go_wp2
  go_loop [7, 8] (fun f i => ∃ k : Nat, k ≤ len ∧ i = .int .i64 k ∧ f = .int .i64 (-1) ∧ ∀ j, j < k → ss j ≠ s) (fun _ i => len - (intOf i).toNat)
  case atStart => exact ⟨0, Nat.zero_le _, rfl, rfl, fun j hj => by omega⟩
  case round =>
    obtain ⟨k, hk, rfl, rfl, hno⟩ := hrel
    have HN : Hid (∀ j, j < k → ss j ≠ s) := hno
    clear hno
    by_cases hlt : (k : Int) < len
    · obtain ⟨b, off, rfl, hb, hc⟩ := HS.out k (by omega)
      by_cases hks : ss k = s
      · have HK : Hid (ss k = s) := hks
        have hkt := same_yes hks
        clear hks
        have HF : Hid (IsFirst ss len s k) := Or.inl ⟨k, rfl, by omega, HK.out, HN.out⟩
        by_cases hnl : (n : Int) < len
        · obtain ⟨b', off', hbb, hb', hc'⟩ := HS.out n (by omega)
          injection hbb with hbb
          injection hbb with hbb1 hbb2
          subst hbb1 hbb2
          by_cases hns : ss n = s
          · have HS2 : Hid (ss n = s) := hns
            have hnt := same_yes hns
            clear hns
            go_wp2
            go_ret
            exact ⟨_, rfl, Or.inl ⟨by omega, HS2.out, rfl⟩, rfl⟩
          · have HS2 : Hid (¬ ss n = s) := hns
            have hnt := same_no hns
            clear hns
            go_wp2
            go_ret
            exact ⟨_, rfl, Or.inr ⟨fun h => HS2.out h.2, HF.out⟩, rfl⟩
        · go_wp2
          go_ret
          exact ⟨_, rfl, Or.inr ⟨fun h => by omega, HF.out⟩, rfl⟩
      · have HK : Hid (¬ ss k = s) := hks
        have hkt := same_no hks
        clear hks
        go_wp2
        go_round
        case rel => exact ⟨k + 1, by omega, by go_num, rfl, fun j hj => if e : j = k then (by rw [e]; exact HK.out) else HN.out j (by omega)⟩
        case measure => simp [intOf]; omega
    · obtain rfl : k = len := by omega
      go_wp2
      go_ret
      exact ⟨_, rfl, Or.inr ⟨fun h => HN.out n h.1 h.2, Or.inr ⟨rfl, HN.out⟩⟩, rfl⟩
end Go.Proofs.Ybulkcpsm
