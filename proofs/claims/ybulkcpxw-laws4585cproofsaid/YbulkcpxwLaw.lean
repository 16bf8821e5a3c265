/-
  THE WALK of quorumhall.LawS4585CProof (function 5).
-/
import Derived.Test.YbulkcpxwLawA
namespace Go.Proofs.Ybulkcpxw
open Go.RowKit
set_option maxRecDepth 100000 in
set_option maxHeartbeats 4000000 in
theorem law_any (a : Option Addr) (n cap : Nat) (m : Int) (f : Nat → VD) (w : World) (hin : IsIn w a n f) (hn : n ≤ 1024) (h0 : 0 < n) :
    Calls Yba.prog 5 #[.slice a n cap, .int .i64 m] w fun e w' => e = .returned (.bool true) ∧ Below w.heap.size w w' := by
  have HI : Hid (IsIn w a n f) := hin
  have hn' : (n : Int) ≤ 1024 := by omega
  have hd : decide ((n : Int) = 0) = false := by simp; omega
  have hd' : ((n : Int) == 0) = false := by simp; omega
  have hne : ¬ (n : Int) = 0 := by omega
  clear hin
  go_enter Yba.func5, Yba.ntmps5
  go_upto_region 5 with fail
  clear hd hd' hne
  go_upto_region 8 with (first
    | (go_at_call 10; refine (build_any a n cap f w HI.out hn).mono ?_; rintro e W1 ⟨vb, rfl, hb1, hv1, hg1⟩; have HG : Hid (W1.heap[w.heap.size]? = some (.cells (ptrs vb n).toArray 43 (0, 0))) := hg1; have HV : Hid (Votes W1 vb f n) := hv1; have HB1 : Hid (Below w.heap.size w W1) := hb1; clear hg1 hv1 hb1)
    | (go_at_call 11; refine (clone_any _ _ _ vb W1 HG.out hn).mono ?_; rintro e W2 ⟨v2, rfl, hb2, hr2⟩; have HB2 : Hid (Below W1.heap.size W1 W2) := hb2; have HR2 : Hid (W2.ownsRow W1.heap.size 43 1 v2 n (ptrs vb n)) := hr2; clear hb2 hr2)
    | (go_at_call 12; refine (quorum_all _ _ n m vb f W2 ((HB2.out.block _ (Array.getElem?_eq_some_iff.1 HG.out).1).trans HG.out) (HV.out.below HB2.out) hn (.inr h0)).mono ?_; rintro e W3 ⟨pv, rfl, hb3, hr3⟩; have HB3 : Hid (Below W2.heap.size W2 W3) := hb3; have HR3 : Hid (((n : Int) < m ∧ pv = .pointer none) ∨ (m ≤ (n : Int) ∧ 0 < n ∧ PRes W3 vb f n m pv)) := hr3; clear hb3 hr3))
  obtain ⟨g2, c2, rfl, hg2, hk2⟩ := row_open HR2.out h0
  have gl : w.heap.size < W1.heap.size := (Array.getElem?_eq_some_iff.1 HG.out).1
  have B13 : Below W1.heap.size W1 W3 := HB2.out.trans (HB3.out.mono HB2.out.size)
  have HC : Hid (Ctx W3 a w.heap.size g2 n f vb) := ⟨(HI.out.below HB1.out).below B13, fun i hi => by
      rw [B13.cell (p := ⟨w.heap.size, i, none⟩) gl, cell_of_row W1 w.heap.size i _ 43 (0, 0) HG.out]; simpa using ptrs_get vb n i hi,
    fun i hi => by
      have := hk2 i _ (ptrs_get vb n i hi)
      exact (HB3.out.cell (p := ⟨g2, i, none⟩) (lt_of_cell this)).trans this,
    HV.out.below B13⟩
  have HBW : Hid (Below w.heap.size w W3) := HB1.out.trans (B13.mono HB1.out.size)
  clear HG HV HI HB1 HB2 HB3 HR2 hg2 hk2 gl B13
  go_wp2_with fail
  go_loopw [35] (fun i wr => ∃ k : Nat, k ≤ n ∧ i = .int .i64 k ∧ Below W3.heap.size W3 wr) (fun i _ => n - (intOf i).toNat)
  case atStart => exact ⟨0, by omega, rfl, Below.refl _ _⟩
  case round =>
    obtain ⟨k, hk, rfl, hbw⟩ := hrel
    have HBR : Hid (Below W3.heap.size W3 wr) := hbw
    clear hbw
    by_cases hlt : (k : Int) < n
    · have hkn : k < n := by omega
      have C := HC.out.below HBR.out
      obtain ⟨b, off, rfl, _, d0, d1, d2, d3, n0, n1, n2, n3⟩ := C.inn k hkn
      have r1 := C.row k hkn
      have r2 := C.kept k hkn
      have v1 := (C.votes k hkn).view
      have v2 := (C.votes k hkn).rep
      have v3 := (C.votes k hkn).seq
      clear C d3
      have hns := fun W => neq_same ⟨vb k, 0, none⟩ W
      go_wp2_with fail
      go_quiet (fail)
      go_wp2_with fail
      obtain ⟨W4, hW4⟩ : ∃ W4, wr.drewN nq = W4 := ⟨_, rfl⟩
      rw [hW4]
      replace HBR : Hid (Below W3.heap.size W3 W4) := by rw [← hW4]; exact below_drewN HBR.out nq
      replace d0 : W4.cell? ⟨b, off + k * 4, none⟩ = some (.int .u8 (f k).view) := by rw [← hW4]; exact d0
      replace d1 : W4.cell? ⟨b, off + k * 4 + 1, none⟩ = some (.int .u8 (f k).rep) := by rw [← hW4]; exact d1
      replace d2 : W4.cell? ⟨b, off + k * 4 + 2, none⟩ = some (.int .u64 (f k).seq) := by rw [← hW4]; exact d2
      replace r2 : W4.cell? ⟨g2, k, none⟩ = some (.pointer (some ⟨vb k, 0, none⟩)) := by rw [← hW4]; exact r2
      replace v1 : W4.cell? ⟨vb k, 1, none⟩ = some (.int .u64 (((f k).view : Int) % 3)) := by rw [← hW4]; exact v1
      replace v2 : W4.cell? ⟨vb k, 35, none⟩ = some (.int .u32 (((f k).rep : Int) % 16)) := by rw [← hW4]; exact v2
      replace v3 : W4.cell? ⟨vb k, 2, none⟩ = some (.int .u64 (f k).seq) := by rw [← hW4]; exact v3
      clear hW4 r1 hns
      go_quiet (fail)
      go_wp2_with fail
      refine ⟨⟨k + 1, by omega, by simp, below_drewN HBR.out _⟩, ?_⟩
      simp only [intOf]; omega
    · have hkn : k = n := by omega
      subst k
      rcases HR3.out with ⟨hm, rfl⟩ | ⟨hm, _, hp⟩
      · clear HC HR3
        go_wp2_with fail
        go_ret
        exact ⟨rfl, HBW.out.trans (HBR.out.mono HBW.out.size)⟩
      · have HP : Hid (PRes wr vb f n m pv) := hp.below HBR.out
        have HCW : Hid (Ctx wr a w.heap.size g2 n f vb) := HC.out.below HBR.out
        have HBX : Hid (Below w.heap.size w wr) := HBW.out.trans (HBR.out.mono HBW.out.size)
        have r0 := HCW.out.kept 0 h0
        clear hp HR3 HC HBW HBR
        obtain ⟨WA, hWA⟩ : ∃ WA, WA = wr := ⟨_, rfl⟩
        subst hWA
        go_wp2_with fail
        go_loopw [10, 11] (fun wv idv ws => ∃ id : Nat, id ≤ 16 ∧ idv = .int .u32 id ∧ ws.ownsRow WA.heap.size 43 1 wv (want f n id).length ((want f n id).map fun j => ptr (vb j)) ∧ Below WA.heap.size WA ws) (fun _ idv _ => 16 - (intOf idv).toNat)
        case atStart => exact ⟨0, by omega, rfl, World.ownsRow_nil _ _ _ _, Below.refl _ _⟩
        case round =>
          obtain ⟨id, hid, rfl, hrow, hbs⟩ := hrel
          have HRW : Hid (wr.ownsRow WA.heap.size 43 1 u10 (want f n id).length ((want f n id).map fun j => ptr (vb j))) := hrow
          have HBS : Hid (Below WA.heap.size WA wr) := hbs
          clear hrow hbs r0
          by_cases hlt2 : (id : Int) < 16
          · obtain ⟨WB, hWB⟩ : ∃ WB, WB = wr := ⟨_, rfl⟩
            subst hWB
            go_wp2_with fail
            go_loopw [12, 110] (fun lv iv wt => ∃ k : Nat, k ≤ n ∧ iv = .int .i64 k ∧ lv = lastV vb (lastOf f id k) ∧ Below WB.heap.size WB wt) (fun _ iv _ => n - (intOf iv).toNat)
            case atStart => exact ⟨0, by omega, rfl, rfl, Below.refl _ _⟩
            case round =>
              obtain ⟨k, hk3, rfl, rfl, hbt⟩ := hrel
              have HBT : Hid (Below WB.heap.size WB wr) := hbt
              clear hbt
              by_cases hlt3 : (k : Int) < n
              · have hkn : k < n := by omega
                have C := HCW.out.below (HBS.out.trans (HBT.out.mono HBS.out.size))
                have r2 := C.kept k hkn
                have v1 := (C.votes k hkn).view
                have v2 := (C.votes k hkn).rep
                have v3 := (C.votes 0 h0).view
                clear C
                by_cases hv : ((f k).view : Int) % 3 = ((f 0).view : Int) % 3
                · have hd1 : decide (((f k).view : Int) % 3 = ((f 0).view : Int) % 3) = true := by simpa using hv
                  by_cases hr : ((f k).rep : Int) % 16 = id
                  · have hd2 : decide (((f k).rep : Int) % 16 = id) = true := by simpa using hr
                    have HM : Hid (Meets f id k) := ⟨hv, hr⟩
                    go_wp2_with fail
                    go_quiet (fail)
                    go_wp2_with fail
                    refine ⟨⟨k + 1, by omega, by simp, lastV_hit HM.out, below_drewN HBT.out _⟩, ?_⟩
                    simp only [intOf]; omega
                  · have hd2 : decide (((f k).rep : Int) % 16 = id) = false := by simpa using hr
                    have hd3 : (((f k).rep : Int) % 16 == id) = false := by simpa using hr
                    have HM : Hid (¬ Meets f id k) := fun h => hr h.2
                    go_wp2_with fail
                    go_quiet (fail)
                    go_wp2_with fail
                    refine ⟨⟨k + 1, by omega, by simp, lastV_miss HM.out, below_drewN HBT.out _⟩, ?_⟩
                    simp only [intOf]; omega
                · have hd1 : decide (((f k).view : Int) % 3 = ((f 0).view : Int) % 3) = false := by simpa using hv
                  have hd3 : (((f k).view : Int) % 3 == ((f 0).view : Int) % 3) = false := by simpa using hv
                  have HM : Hid (¬ Meets f id k) := fun h => hv h.1
                  go_wp2_with fail
                  go_quiet (fail)
                  go_wp2_with fail
                  refine ⟨⟨k + 1, by omega, by simp, lastV_miss HM.out, below_drewN HBT.out _⟩, ?_⟩
                  simp only [intOf]; omega
              · have hkn : k = n := by omega
                subst k
                have HRR : Hid (wr.ownsRow WA.heap.size 43 1 u10 (want f n id).length ((want f n id).map fun j => ptr (vb j))) := row_below HRW.out HBT.out
                have HBR : Hid (Below WA.heap.size WA wr) := HBS.out.trans (HBT.out.mono HBS.out.size)
                clear HRW HBT HBS
                obtain ⟨lv, hlv⟩ : ∃ lv, lv = lastV vb (lastOf f id n) := ⟨_, rfl⟩
                rw [← hlv]
                cases hL : lastOf f (id : Int) n with
                | none =>
                  obtain rfl : lv = .pointer none := by rw [hlv, hL]; rfl
                  have HL : Hid (lastOf f (id : Int) n = none) := hL
                  clear hL hlv
                  go_wp2_with fail
                  refine ⟨⟨id + 1, by omega, by simp, by rw [want_none HL.out]; exact HRR.out, HBR.out⟩, ?_⟩
                  simp only [intOf]; omega
                | some j =>
                  obtain rfl : lv = .pointer (some ⟨vb j, 0, none⟩) := by rw [hlv, hL]; rfl
                  have HL : Hid (lastOf f (id : Int) n = some j) := hL
                  clear hL hlv
                  obtain ⟨i0, hi, hz0, hz1, hz2⟩ := info_parts info43
                  have hwl := want_le f n id
                  have hws : WA.heap.size ≤ wr.heap.size := HBR.out.size
                  go_wp2_with (at_builtin; refine wpList_append_own _ rfl _ _ 40 rfl WA.heap.size 43 i0 (.pointer none) 1 8 Yba.underlying40 hi hz0 hz1 hz2 rfl (by decide) _ _ _ rfl (HRR.out.alloc _) ⟨wr.heap.size, 0, none⟩ 1 1 [.pointer (some ⟨vb j, 0, none⟩)] rfl rfl (cell_one_new _ _ _) (by simp [Value.oneCell']) (by unfold maxLen; omega) (by omega) (by simp; omega) ?_; intro v' w1 hown' hgrow _)
                  refine ⟨⟨id + 1, by omega, by simp, by rw [want_some HL.out]; simpa [ptr] using hown', (HBR.out.alloc HBR.out.size _).grown hgrow (by simp; omega) (fun k e => (HRR.out.lt k e).1)⟩, ?_⟩
                  simp only [intOf]; omega
          · have hid16 : id = 16 := by omega
            subst id
            have hL0 : 0 < (want f n 16).length := List.length_pos_iff.2 (want_ne h0)
            have hle := want_le f n 16
            obtain ⟨g3, c3, rfl, hg3, hk3⟩ := row_open HRW.out hL0
            have HK : Hid (∀ i (h : i < (want f n 16).length), wr.cell? ⟨g3, i, none⟩ = some (.pointer (some ⟨vb ((want f n 16)[i]), 0, none⟩))) := fun i hi => hk3 i _ (by simp [hi, ptr])
            have HCR : Hid (Ctx wr a w.heap.size g2 n f vb) := HCW.out.below HBS.out
            have HBR : Hid (Below w.heap.size w wr) := HBX.out.trans (HBS.out.mono HBX.out.size)
            have HPR := HP.out.below HBS.out
            clear hk3 HRW HP HCW HBX HBS
            rcases HPR with ⟨hfew, rfl⟩ | ⟨hfew, p, q, c, rfl, hp, hq⟩
            · go_wp2_with fail
              go_ret
              exact ⟨rfl, HBR.out⟩
            · have HQ : Hid (∀ i (h : i < (want f n 16).length), wr.cell? ⟨q, i, none⟩ = some (.pointer (some ⟨vb ((want f n 16)[i]), 0, none⟩))) := hq
              have HPP : Hid (wr.heap[p]? = some (.cells (pcells (f 0) q (want f n 16).length c).toArray 52 (0, 0))) := hp
              obtain ⟨p0, p1, p2, p34⟩ := p_parts hp
              have w1 := (HCR.out.votes 0 h0).view
              have w2 := (HCR.out.votes 0 h0).seq
              have w3 : wr.rangeAt (vb 0) 3 (dOf (f 0)) := (HCR.out.votes 0 h0).digest
              have hD : (dOf (f 0)).length = 32 := rfl
              have t24 := Yba.underlying24
              have i24 : (Yba.prog.info? 24).map (·.size) = some (dOf (f 0)).length := info24s
              have hne := fun W => neq_digest (f 0) W
              clear hp hq
              go_wp2_with fail
              clear hD t24 i24
              refine wp_region_quiet_lit (by kernel_rfl) (by kernel_rfl) ?_
              go_big_quiet_step (fail)
              go_big_quiet_step (fail)
              go_big_quiet_step (fail)
              go_big_quiet_step (fail)
              go_big_quiet_step (fail)
              go_big_quiet_step (fail)
              go_big_quiet_step (fail)
              go_big_quiet_step (fail)
              go_big_quiet_step (fail)
              go_big_quiet_step (fail)
              go_big_quiet_step (fail)
              go_big_quiet_step (fail)
              go_big_quiet_step (fail)
              go_big_quiet_step (fail)
              go_big_quiet_step (fail)
              go_big_quiet_step (fail)
              go_big_quiet_step (fail)
              go_big_quiet_step (fail)
              go_big_quiet_step (fail)
              go_big_quiet_step (fail)
              go_big_quiet_step (fail)
              go_big_quiet_step (fail)
              go_big_quiet_step (fail)
              go_big_quiet_step (fail)
              go_big_quiet_want
              refine quiet_load24 170 rfl _ _ rfl (f 0) ?_ ?_
              · rintro W ⟨i, rfl⟩; exact p2
              simp only [Act.put, List.setIfInBounds_toArray, List.set_cons_zero, List.set_cons_succ]
              go_big_quiet_on
              go_big_quiet_step (fail)
              go_big_quiet_step (fail)
              go_big_quiet_step (fail)
              go_big_quiet_want
              refine quiet_load24 174 rfl _ _ rfl (f 0) ?_ ?_
              · rintro W ⟨i, rfl⟩; exact w3
              simp only [Act.put, List.setIfInBounds_toArray, List.set_cons_zero, List.set_cons_succ]
              go_big_quiet_on
              go_big_quiet_step (fail)
              go_big_quiet_step (fail)
              refine wpQuiet_nil ?_
              rintro _ ⟨nq, rfl⟩
              clear hne p0 p1 p2 w1 w2 w3
              go_wp2_with fail
              obtain ⟨WR, hWR⟩ : ∃ WR, WR = wr := ⟨_, rfl⟩
              subst hWR
              have HP34 : Hid (WR.cell? ⟨p, 34, none⟩ = some (.slice (some ⟨q, 0, none⟩) (want f n 16).length c)) := p34
              clear p34 HCR HPP
              go_loopw [188] (fun iv wt => ∃ i : Nat, i ≤ (want f n 16).length ∧ iv = .int .i64 i ∧ Below WR.heap.size WR wt) (fun iv _ => (want f n 16).length - (intOf iv).toNat)
              case atStart => exact ⟨0, by omega, rfl, below_drewN (Below.refl _ _) _⟩
              case round =>
                obtain ⟨i, hi, rfl, hbt⟩ := hrel
                have HBT : Hid (Below WR.heap.size WR wr) := hbt
                clear hbt
                by_cases hlt4 : (i : Int) < (want f n 16).length
                · have hil : i < (want f n 16).length := by omega
                  have x1 : wr.cell? ⟨p, 34, none⟩ = some (.slice (some ⟨q, 0, none⟩) (want f n 16).length c) := (HBT.out.cell (p := ⟨p, 34, none⟩) (lt_of_cell HP34.out)).trans HP34.out
                  have x2 := (HBT.out.cell (p := ⟨q, i, none⟩) (lt_of_cell (HQ.out i hil))).trans (HQ.out i hil)
                  have x3 := (HBT.out.cell (p := ⟨g3, i, none⟩) (lt_of_cell (HK.out i hil))).trans (HK.out i hil)
                  obtain ⟨bb, hbb⟩ : ∃ bb, bb = vb ((want f n 16)[i]) := ⟨_, rfl⟩
                  rw [← hbb] at x2 x3
                  clear hbb
                  have hns := fun W => neq_same ⟨bb, 0, none⟩ W
                  go_wp2_with fail
                  go_quiet (fail)
                  go_wp2_with fail
                  refine ⟨⟨i + 1, by omega, by simp, below_drewN HBT.out _⟩, ?_⟩
                  simp only [intOf]; omega
                · go_wp2_with fail
                  go_ret
                  exact ⟨rfl, HBR.out.trans (HBT.out.mono HBR.out.size)⟩
end Go.Proofs.Ybulkcpxw
