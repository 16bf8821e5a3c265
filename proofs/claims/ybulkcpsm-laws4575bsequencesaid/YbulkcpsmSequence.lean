/-
  THE WALK of scenariojson.LawS4575BSequence (function 6).
-/
import Derived.Test.YbulkcpsmOneCall
import Derived.Test.YbulkcpsmBOpen
namespace Go.Proofs.Ybulkcpsm
open Go.RowKit

theorem Obj2.later {bk : Nat} {w W : World} {a : Option Addr} {len cap : Nat} {n : Int} (h : Obj2 bk w a len cap n) (hb : Below w.heap.size w W) (hlt : bk < w.heap.size) : Obj2 bk W a len cap n :=
  ⟨(hb.cell (p := ⟨bk, 1, none⟩) hlt).trans h.c1, (hb.cell (p := ⟨bk, 4, none⟩) hlt).trans h.c4, (hb.frozen (p := ⟨bk, 4, none⟩) hlt).trans h.f4⟩
theorem IsBytes.later {w w1 : World} {a : Option Addr} {len : Nat} {ps : Nat → Nat} (h : IsBytes w a len ps) (hb : Below w.heap.size w w1) : IsBytes w1 a len ps := by
  intro i hi
  obtain ⟨b, off, e, hlt, hc, hp⟩ := h i hi
  exact ⟨b, off, e, Nat.lt_of_lt_of_le hlt hb.size, (hb.cell (p := ⟨b, off + i, none⟩) hlt).trans hc, hp⟩

/-- One round's call: []byte(name), then indexOf, then what is known of the world. -/
theorem indexOf_round (w : World) (bk : Nat) (a : Option Addr) (len cap n : Nat) (ss : Nat → ByteArray) (s : ByteArray) (wr : World) (C : Nat) (hlen : len ≤ 1024) (hbk : w.heap.size ≤ bk) (hlt : bk < wr.heap.size)
    (hW : Below w.heap.size w wr) (hO : Obj2 bk wr a len cap n) (hs : IsStrs w a len ss) :
    Calls Yba.prog 11 #[.pointer (some ⟨bk, 0, none⟩), .slice (some ⟨wr.heap.size, 0, none⟩) s.size C] (Lib.bytesWorld wr 5 s) fun e W' => ∃ r : Int, e = .returned (.int .i64 r) ∧ IsIdx ss len n s r ∧ Below w.heap.size w W' ∧ bk < W'.heap.size ∧ ((0 ≤ r ∧ Obj2 bk W' a len cap (r + 1)) ∨ (r < 0 ∧ Obj2 bk W' a len cap n)) := by
  have hb := below_bytes wr s
  have hW2 : Below w.heap.size w (Lib.bytesWorld wr 5 s) := hW.trans (hb.mono hW.size)
  have hO2 := hO.later hb hlt
  refine (indexOf_any bk _ a len cap n ss s _ hlen hO2.c1 hO2.c4 hO2.f4 (hs.later hW2) (fun q => conv_bytes wr s C _ (below_drew (Below.refl _ _) q))).mono ?_
  rintro e W' ⟨r, q, rfl, hidx, ⟨h0, rfl⟩ | ⟨h0, rfl⟩⟩
  · refine ⟨r, rfl, hidx, below_drew (hW2.setCell hbk _) q, by rw [World.heap_drewN, World.size_setCell, Lib.bytesWorld_size]; omega, Or.inl ⟨h0, ?_, ?_, ?_⟩⟩
    · rw [World.cell?_drewN, World.cell?_setCell_other _ _ _ _ (fun e => by injection e; omega)]; exact hO2.c1
    · rw [World.cell?_drewN]; exact World.cell?_setCell_same _ _ _ hO2.c4
    · rw [World.frozen?_drewN, World.frozen?_setCell]; exact hO2.f4
  · exact ⟨r, rfl, hidx, below_drew hW2 q, by rw [World.heap_drewN, Lib.bytesWorld_size]; omega, Or.inr ⟨h0, hO2.c1, hO2.c4, hO2.f4⟩⟩

set_option maxHeartbeats 2000000 in
theorem sequence_any (a : Option Addr) (len cap : Nat) (a1 : Option Addr) (len1 cap1 : Nat) (extra : ByteArray) (ss : Nat → ByteArray) (ps : Nat → Nat) (w : World)
    (hs : IsStrs w a len ss) (hlen : len ≤ 1024) (hp : IsBytes w a1 len1 ps) (hlen1 : len1 ≤ 1024) :
    Calls Yba.prog 6 #[.slice a len cap, .slice a1 len1 cap1, .string extra] w fun e w' => e = .returned (.bool true) ∧ Below w.heap.size w w' := by
  have HS : Hid (IsStrs w a len ss) := hs
  have HP : Hid (IsBytes w a1 len1 ps) := hp
  clear hs hp
  have hcv := fun W s => Lib.run_convert_string_bytes (P := Yba.prog) W 9 27 5 s Yba.underlying9 Yba.underlying27 Yba.underlying5
  go_enter Yba.func6, Yba.ntmps6
  go_wp2
  go_loopw [8, 9] (fun x i wr => ∃ k n : Nat, k ≤ len1 ∧ n ≤ len ∧ i = .int .i64 k ∧ x = .int .i64 n ∧ Below w.heap.size w wr ∧ w.heap.size < wr.heap.size ∧ Obj2 w.heap.size wr a len cap n) (fun _ i _ => len1 - (intOf i).toNat)
  case atStart => exact ⟨0, 0, by omega, by omega, rfl, rfl, (Below.refl _ _).alloc (Nat.le_refl _) _, by simp, obj_new w a len cap _ _ _ _ _ _ _ _ _ 36⟩
  case round =>
    obtain ⟨k, n, hk, hn, rfl, rfl, hbel, hsz, hobj⟩ := hrel
    have HO : Hid (Obj2 w.heap.size wr a len cap n) := hobj
    clear hobj
    by_cases hlt : (k : Int) < len1
    · obtain ⟨b1, off1, rfl, hb1, hc1, hp255⟩ := HP.out k (by omega)
      have hcp := (hbel.cell (p := ⟨b1, off1 + k, none⟩) hb1).trans hc1
      clear hc1
      by_cases hl : 0 < len
      · by_cases hq : (ps k : Int) % 4 < 3
        · have hq1 : ((ps k : Int) % 4 != 3) = true := by simp; omega
          have hi : ps k / 4 % len < len := Nat.mod_lt _ (by omega)
          obtain ⟨b, off, rfl, hb, hc0⟩ := HS.out _ hi
          have hc := (hbel.cell (p := ⟨b, off + ps k / 4 % len, none⟩) hb).trans hc0
          clear hc0
          have hia : 0 ≤ (ps k : Int) / 4 % len := Int.emod_nonneg _ (by omega)
          have hib : (ps k : Int) / 4 % len < len := Int.emod_lt_of_pos _ (by omega)
          go_wp2_with fail
          refine (indexOf_round w w.heap.size _ len cap n ss (ss (ps k / 4 % len)) wr _ hlen (Nat.le_refl _) hsz hbel HO.out HS.out).mono ?_
          rintro e W1 ⟨r, rfl, hidx, hb2, hsz2, hobj⟩
          have HS2 : Hid (IsStrs W1 (some ⟨b, off, none⟩) len ss) := HS.out.later hb2
          have HI : Hid (IsIdx ss len n (ss (ps k / 4 % len)) r) := hidx
          have HB : Hid (Below w.heap.size w W1) := hb2
          have hr := hidx.bd
          clear hidx hb2
          go_wp2_with fail
          refine (bmodel_call _ len cap n (n : Int) rfl ss (ss (ps k / 4 % len)) _ HS2.out hlen (by omega)).mono ?_
          rintro e W2 ⟨r', rfl, hidx', hw⟩
          obtain rfl : r' = r := hidx'.one HI.out
          clear hidx'
          subst hw
          rcases hobj with ⟨h0, ho⟩ | ⟨h0, ho⟩
          · have o4 := ho.c4
            have HO2 : Hid (Obj2 w.heap.size W2 (some ⟨b, off, none⟩) len cap (r' + 1)) := ho
            clear ho
            go_wp2
            go_roundw
            case rel => exact ⟨k + 1, (r' + 1).toNat, by omega, by omega, by go_num, by rw [Int.toNat_of_nonneg (by omega)], HB.out, hsz2, by rw [Int.toNat_of_nonneg (by omega)]; exact HO2.out⟩
            case measure => simp [intOf]; omega
          · have o4 := ho.c4
            have HO2 : Hid (Obj2 w.heap.size W2 (some ⟨b, off, none⟩) len cap n) := ho
            clear ho
            go_wp2
            go_roundw
            case rel => exact ⟨k + 1, n, by omega, by omega, by go_num, rfl, HB.out, hsz2, HO2.out⟩
            case measure => simp [intOf]; omega
        · have hq1 : ((ps k : Int) % 4 != 3) = false := by simp; omega
          go_wp2_with fail
          refine (indexOf_round w w.heap.size _ len cap n ss extra wr _ hlen (Nat.le_refl _) hsz hbel HO.out HS.out).mono ?_
          rintro e W1 ⟨r, rfl, hidx, hb2, hsz2, hobj⟩
          have HS2 : Hid (IsStrs W1 a len ss) := HS.out.later hb2
          have HI : Hid (IsIdx ss len n extra r) := hidx
          have HB : Hid (Below w.heap.size w W1) := hb2
          have hr := hidx.bd
          clear hidx hb2
          go_wp2_with fail
          refine (bmodel_call _ len cap n (n : Int) rfl ss extra _ HS2.out hlen (by omega)).mono ?_
          rintro e W2 ⟨r', rfl, hidx', hw⟩
          obtain rfl : r' = r := hidx'.one HI.out
          clear hidx'
          subst hw
          rcases hobj with ⟨h0, ho⟩ | ⟨h0, ho⟩
          · have o4 := ho.c4
            have HO2 : Hid (Obj2 w.heap.size W2 a len cap (r' + 1)) := ho
            clear ho
            go_wp2
            go_roundw
            case rel => exact ⟨k + 1, (r' + 1).toNat, by omega, by omega, by go_num, by rw [Int.toNat_of_nonneg (by omega)], HB.out, hsz2, by rw [Int.toNat_of_nonneg (by omega)]; exact HO2.out⟩
            case measure => simp [intOf]; omega
          · have o4 := ho.c4
            have HO2 : Hid (Obj2 w.heap.size W2 a len cap n) := ho
            clear ho
            go_wp2
            go_roundw
            case rel => exact ⟨k + 1, n, by omega, by omega, by go_num, rfl, HB.out, hsz2, HO2.out⟩
            case measure => simp [intOf]; omega
      · have hl0 : ¬ 0 < (len : Int) := by omega
        have hq0 : ((ps k : Int) % 4 != 3) = true ∨ ((ps k : Int) % 4 != 3) = false := by cases ((ps k : Int) % 4 != 3) <;> simp
        rcases hq0 with hq1 | hq1
        all_goals
          go_wp2_with fail
          refine (indexOf_round w w.heap.size _ len cap n ss extra wr _ hlen (Nat.le_refl _) hsz hbel HO.out HS.out).mono ?_
          rintro e W1 ⟨r, rfl, hidx, hb2, hsz2, hobj⟩
          have HS2 : Hid (IsStrs W1 a len ss) := HS.out.later hb2
          have HI : Hid (IsIdx ss len n extra r) := hidx
          have HB : Hid (Below w.heap.size w W1) := hb2
          have hr := hidx.bd
          clear hidx hb2
          go_wp2_with fail
          refine (bmodel_call _ len cap n (n : Int) rfl ss extra _ HS2.out hlen (by omega)).mono ?_
          rintro e W2 ⟨r', rfl, hidx', hw⟩
          obtain rfl : r' = r := hidx'.one HI.out
          clear hidx'
          subst hw
          rcases hobj with ⟨h0, ho⟩ | ⟨h0, ho⟩
          · exfalso; omega
          · have o4 := ho.c4
            have HO2 : Hid (Obj2 w.heap.size W2 a len cap n) := ho
            clear ho
            go_wp2
            go_roundw
            case rel => exact ⟨k + 1, n, by omega, by omega, by go_num, rfl, HB.out, hsz2, HO2.out⟩
            case measure => simp [intOf]; omega
    · go_wp2
      go_ret
      exact ⟨rfl, hbel⟩
end Go.Proofs.Ybulkcpsm
