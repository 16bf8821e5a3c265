/-
  THE WALK of jsonstream.LawS4575CScript (function 8).
-/
import Derived.Test.YbulkcpsmOpened
import Derived.Test.YbulkcpsmCInv
namespace Go.Proofs.Ybulkcpsm
open Go.RowKit

set_option maxHeartbeats 1000000 in
theorem script_any (K : Nat) (u : Int) (a : Option Addr) (len cap : Nat) (os : Nat → Nat) (bs : Nat → Bool) (w : World) (hK : K < 4294967296) (hu1 : -40000 ≤ u) (hu2 : u ≤ 40000)
    (hops : IsOps w a len os bs) (hlen : len ≤ 1024) :
    Calls Yba.prog 8 #[.int .u32 K, .int .i16 u, .slice a len cap] w fun e w' => e = .returned (.bool true) ∧ Below w.heap.size w w' := by
  have hn := fun w => Lib.run_eql_slice_nil (P := Yba.prog) w 44 _ none 0 0 0 0 Yba.underlying44
  have HO : Hid (IsOps w a len os bs) := hops
  clear hops
  go_enter Yba.func8, Yba.ntmps8
  go_wp2
  go_loopw [9] (fun i wr => ∃ (k : Nat) (f : Nat → Bool), k ≤ 32 ∧ i = .int .i64 k ∧ Below w.heap.size w wr ∧ wr.heap.size = w.heap.size + 1 ∧ Arr w.heap.size wr f ∧ ∀ j, j < k → f j = K.testBit j) (fun i _ => 32 - (intOf i).toNat)
  case atStart => exact ⟨0, fun _ => false, by omega, rfl, (Below.refl _ _).alloc (Nat.le_refl _) _, by simp, Arr.zero w 51, fun j hj => by omega⟩
  case round =>
    obtain ⟨k, f, hk, rfl, hbel, hsz, harr, hf⟩ := hrel
    have HF : Hid (∀ j, j < k → f j = K.testBit j) := hf
    have HA : Hid (Arr w.heap.size wr f) := harr
    clear hf harr
    by_cases hlt : (k : Int) < 32
    · have hc := HA.out.cell k (by omega)
      have hfz := HA.out.fr k
      go_wp2
      go_roundw
      case rel => exact ⟨k + 1, upd f k (K.testBit k), by omega, by go_num, hbel.setCell (Nat.le_refl _) _, by simpa using hsz, by rw [bit_one K k hK]; exact HA.out.set (by omega) _, upd_same f k K HF.out⟩
      case measure => simp [intOf]; omega
    · obtain rfl : k = 32 := by omega
      have HB : Hid (∀ j, j < 32 → K.testBit j = f j) := fun j hj => (HF.out j hj).symm
      clear HF
      go_wp2
      have HA1 := HA.out.alloc (N := w.heap.size) (by omega) (.cells #[.int .i64 u, .int .i64 0, .int .u32 K, .int .i64 0, .int .i64 (-1), .int .i64 0, .slice none 0 0] 46)
      have HS1 := Scan.zero wr u K (.int .i64 0) (.int .i64 0) (.int .i64 0) 46
      have hbel1 := hbel.alloc (by omega) (.cells #[.int .i64 u, .int .i64 0, .int .u32 K, .int .i64 0, .int .i64 (-1), .int .i64 0, .slice none 0 0] 46)
      go_loopw [11] (fun i wr => ∃ (k T : Nat) (f : Nat → Bool), k ≤ len ∧ i = .int .i64 k ∧ Below w.heap.size w wr ∧ w.heap.size + 2 ≤ wr.heap.size ∧ Arr w.heap.size wr f ∧ Scan (w.heap.size + 1) wr u T ∧ T < 4294967296 ∧ ∀ j, j < 32 → T.testBit j = f j) (fun i _ => len - (intOf i).toNat)
      case atStart => exact ⟨0, K, f, by omega, rfl, hbel1, by simp; omega, HA1, by rw [← hsz]; exact HS1, hK, HB.out⟩
      case round =>
        clear HA1 HS1 hbel1 HB HA hbel hsz
        obtain ⟨k, T, f, hk, rfl, hbel, hsz, harr, hscan, hT, hbits⟩ := hrel
        have HA : Hid (Arr w.heap.size wr f) := harr
        have HS : Hid (Scan (w.heap.size + 1) wr u T) := hscan
        have HB : Hid (∀ j, j < 32 → T.testBit j = f j) := hbits
        clear harr hscan hbits
        by_cases hlt : (k : Int) < len
        · obtain ⟨b, off, rfl, hb, h1, h2, ho⟩ := HO.out k (by omega)
          have g1 := (hbel.cell (p := ⟨b, off + k * 2, none⟩) hb).trans h1
          have g2 := (hbel.cell (p := ⟨b, off + k * 2 + 1, none⟩) hb).trans h2
          clear h1 h2
          go_wp2_with fail
          refine (opened_any (w.heap.size + 1) u T (os k) (bs k) _ hT ho hu1 hu2 (by exact (HS.out.alloc (by omega) _).c0) (by exact (HS.out.alloc (by omega) _).c2) (by exact (HS.out.alloc (by omega) _).f2)).mono ?_
          rintro e W2 ⟨q, rfl, hW2⟩
          obtain ⟨d0, d1, dz, dbel, dA, dS⟩ := behind hbel hsz HA.out HS.out hW2
          have DA : Hid (Arr w.heap.size W2 f) := dA
          have DS : Hid (Scan (w.heap.size + 1) W2 u (opnN T (os k) (bs k))) := dS
          have hT2 := opnN_lt T (os k) (bs k) hT
          clear hW2 dA dS HA HS hbel g1 g2
          by_cases ho32 : os k < 32
          · have hc := DA.out.cell (os k) ho32
            have hfz := DA.out.fr (os k)
            go_wp2
            go_roundw
            case rel => exact ⟨k + 1, opnN T (os k) (bs k), upd f (os k) (bs k), by omega, by go_num, dbel.setCell (Nat.le_refl _) _, by simp; omega, DA.out.set ho32 _, DS.out.other (by omega) _, hT2, upd_bits HB.out _ _⟩
            case measure => simp [intOf]; omega
          · go_wp2
            go_roundw
            case rel => exact ⟨k + 1, opnN T (os k) (bs k), f, by omega, by go_num, dbel, by omega, DA.out, DS.out, hT2, keep_bits HB.out _ ho32 _⟩
            case measure => simp [intOf]; omega
        · obtain rfl : k = len := by omega
          go_wp2
          go_loop [13, 14] (fun n i => ∃ k : Nat, k ≤ 32 ∧ i = .int .i64 k ∧ n = .int .u32 ((T % 2 ^ k : Nat) : Int)) (fun _ i => 32 - (intOf i).toNat)
          case atStart => exact ⟨0, by omega, rfl, by rw [Nat.pow_zero, Nat.mod_one]; rfl⟩
          case round =>
            obtain ⟨k, hk, rfl, rfl⟩ := hrel
            by_cases hlt : (k : Int) < 32
            · have hc := HA.out.cell k (by omega)
              have HBk : Hid (T.testBit k = f k) := HB.out k (by omega)
              cases hfk : f k
              · rw [hfk] at hc
                have HFk : Hid (f k = false) := hfk
                clear hfk
                go_wp2
                go_round
                case rel => exact ⟨k + 1, by omega, by go_num, by rw [← mod_keep T k (by rw [HBk.out, HFk.out])]; simp⟩
                case measure => simp [intOf]; omega
              · rw [hfk] at hc
                have HFk : Hid (f k = true) := hfk
                clear hfk
                go_wp2
                go_round
                case rel => exact ⟨k + 1, by omega, by go_num, by rw [or_step1 _ k (by omega) hT (by rw [HBk.out, HFk.out])]⟩
                case measure => simp [intOf]; omega
            · obtain rfl : k = 32 := by omega
              have s0 := HS.out.c0
              have s2 := HS.out.c2
              have s4 := HS.out.c4
              have s6 := HS.out.c6
              have hTm : (T : Int) % 4294967296 = T := by omega
              go_wp2
              go_ret
              exact ⟨rfl, hbel⟩
end Go.Proofs.Ybulkcpsm
