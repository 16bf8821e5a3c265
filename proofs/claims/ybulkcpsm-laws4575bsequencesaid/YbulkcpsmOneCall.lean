/-
  THE WALK of scenariojson.LawS4575BOneCall (function 5).
-/
import Derived.Test.YbulkcpsmIndexOf
import Derived.Test.YbulkcpsmBModel
import Derived.Deep.DeepCutAuto
import Derived.Lib.ConvBytes
namespace Go.Proofs.Ybulkcpsm
open Go.RowKit

theorem bmodel_call (a : Option Addr) (len cap n : Nat) (N : Int) (hN : N = n) (ss : Nat → ByteArray) (s : ByteArray) (w : World) (hs : IsStrs w a len ss) (hlen : len ≤ 1024) (hn : n ≤ 4096) :
    Calls Yba.prog 12 #[.slice a len cap, .int .i64 N, .string s] w fun e w' => ∃ r, e = .returned (.int .i64 r) ∧ IsIdx ss len n s r ∧ w' = w := by
  subst hN
  exact bmodel_any a len cap n ss s w hs hlen hn

theorem below_bytes (w : World) (s : ByteArray) : Below w.heap.size w (Lib.bytesWorld w 5 s) :=
  ⟨rfl, rfl, rfl, by rw [Lib.bytesWorld_size]; omega, fun k hk => Lib.bytesWorld_at_old w 5 s k hk⟩
theorem conv_bytes (w : World) (s : ByteArray) (cap : Nat) : Conv (Lib.bytesWorld w 5 s) (.slice (some ⟨w.heap.size, 0, none⟩) s.size cap) s := by
  intro W hW
  have h := run_convert_bytes_back (P := Yba.prog) W 27 9 5 ⟨w.heap.size, 0, none⟩ cap s.data.toList Yba.underlying27 Yba.underlying5 Yba.underlying9 (by
    intro j hj
    have hj' : j < s.size := by rw [Array.length_toList] at hj; exact hj
    rw [Go.WideShapes.add_plain, Nat.zero_add, hW.cell (p := ⟨w.heap.size, j, none⟩) (by rw [Lib.bytesWorld_size]; show w.heap.size < _; omega), Lib.bytesWorld_cell w 5 s j hj']
    simp [List.getD, List.getElem?_eq_getElem hj])
  have e : (⟨s.data.toList.toArray⟩ : ByteArray) = s := by cases s; simp
  have e2 : s.data.toList.length = s.size := Array.length_toList
  rw [e, e2] at h
  exact h

theorem nat_mod (x len : Nat) : (x : Int) % (len + 2) = ((x % (len + 2) : Nat) : Int) := by simp

theorem obj_new (w : World) (a : Option Addr) (len cap : Nat) (N : Int) (v0 v2 v3 v5 v6 v7 v8 v9 : Value) (t : TypeId) : Obj2 w.heap.size (w.alloc (.cells #[v0, .slice a len cap, v2, v3, .int .i64 N, v5, v6, v7, v8, v9] t)) a len cap N :=
  ⟨by rw [World.cell?_alloc_at _ _ _ _ rfl]; rfl, by rw [World.cell?_alloc_at _ _ _ _ rfl]; rfl, World.frozen?_alloc_at _ _ _ _ rfl⟩

set_option maxHeartbeats 1000000 in
theorem onecall_any (a : Option Addr) (len cap : Nat) (v : Value) (p x : Nat) (ss : Nat → ByteArray) (s : ByteArray) (w : World) (hp : p ≤ 255) (hx : x ≤ 255)
    (hs : IsStrs w a len ss) (hlen : len ≤ 1024) (hv : Conv w v s) :
    Calls Yba.prog 5 #[.slice a len cap, v, .int .u8 p, .int .u8 x] w fun e w' => e = .returned (.bool true) ∧ Below w.heap.size w w' := by
  have HS : Hid (IsStrs w a len ss) := hs
  have HV : Hid (Conv w v s) := hv
  clear hs hv
  go_enter Yba.func5, Yba.ntmps5
  go_upto_region 4 with fail
  go_cut [25] (fun y w1 => ∃ z : Bool, y = .bool z ∧ (z = true → 0 < len) ∧ w = w1)
  case first =>
    by_cases hz : (p : Int) % 2 ≤ 0
    · by_cases hl : 0 < (len : Int)
      all_goals
        go_wp2_with fail
        go_meet
        exact ⟨_, rfl, fun h => (by first | omega | (simp at h; omega)), rfl⟩
    · go_wp2_with fail
      go_meet
      exact ⟨false, rfl, fun h => (by cases h), rfl⟩
  case rest =>
    obtain ⟨z, rfl, hz, rfl⟩ := hcut
    have HZ : Hid (z = true → 0 < len) := hz
    clear hz
    go_upto_if 25 with fail
    go_cut [9] (fun y w1 => ∃ s', Below w.heap.size w w1 ∧ Conv w1 y s')
    case first =>
      cases z
      · go_wp2_with fail
        go_meet
        exact ⟨s, Below.refl _ _, HV.out⟩
      · have hl := HZ.out rfl
        have hi : p / 2 % len < len := Nat.mod_lt _ hl
        obtain ⟨b, off, rfl, hb, hc⟩ := HS.out _ hi
        have hcv := fun W => Lib.run_convert_string_bytes (P := Yba.prog) W 9 27 5 (ss (p / 2 % len)) Yba.underlying9 Yba.underlying27 Yba.underlying5
        have hia : 0 ≤ (p : Int) / 2 % len := Int.emod_nonneg _ (by omega)
        have hib : (p : Int) / 2 % len < len := Int.emod_lt_of_pos _ (by omega)
        go_wp2_with fail
        go_meet
        exact ⟨_, below_bytes _ _, conv_bytes _ _ _⟩
    case rest =>
      obtain ⟨s', hb1, hv1⟩ := hcut
      have HV1 : Hid (Conv wc u9 s') := hv1
      have HS1 : Hid (IsStrs wc a len ss) := HS.out.later hb1
      clear hv1 HS HV HZ
      have hn0 : 0 ≤ (x : Int) % (len + 2) := Int.emod_nonneg _ (by omega)
      have hn1 : (x : Int) % (len + 2) < len + 2 := Int.emod_lt_of_pos _ (by omega)
      go_wp2_with fail
      refine (indexOf_call wc wc.heap.size u9 a len cap (x % (len + 2)) ((x : Int) % (len + 2)) (nat_mod x len) ss s' _ hlen (Nat.le_refl _) (by exact (Below.refl _ _).alloc (Nat.le_refl _) _) (by exact obj_new wc a len cap _ _ _ _ _ _ _ _ _ 36) HS1.out HV1.out).mono ?_
      rintro e W1 ⟨r, rfl, hidx, hb2, hsz, hobj⟩
      have hcv := HV1.out W1 hb2
      have HS2 : Hid (IsStrs W1 a len ss) := HS1.out.later hb2
      have HI : Hid (IsIdx ss len (x % (len + 2)) s' r) := hidx
      have HB : Hid (Below w.heap.size w W1) := hb1.trans (hb2.mono hb1.size)
      have hr := hidx.bd
      clear hidx hb2 hb1 HV1 HS1 hsz
      go_wp2_with fail
      refine (bmodel_call a len cap (x % (len + 2)) ((x : Int) % (len + 2)) (nat_mod x len) ss s' _ HS2.out hlen (by have := Nat.mod_lt x (show 0 < len + 2 by omega); omega)).mono ?_
      rintro e W2 ⟨r', rfl, hidx', hw⟩
      obtain rfl : r' = r := hidx'.one HI.out
      clear hidx'
      subst hw
      rcases hobj with ⟨h0, ho⟩ | ⟨h0, ho⟩
      · have o4 := ho.c4
        clear ho hcv
        go_wp2
        go_ret
        exact ⟨rfl, HB.out⟩
      · have o4 := ho.c4
        clear ho hcv
        go_wp2
        go_ret
        exact ⟨rfl, HB.out⟩
end Go.Proofs.Ybulkcpsm
