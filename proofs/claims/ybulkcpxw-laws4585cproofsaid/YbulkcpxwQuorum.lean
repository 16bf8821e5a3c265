/-
  THE WALK of quorumhall.quorumProof (function 12).
-/
import Derived.Test.YbulkcpxwQPlain
import Derived.Test.YbulkcpxwBuild
import Derived.WalkSpells
import Derived.WalkLawsBesides
import Derived.Deep.QuietTactic
import Derived.BigQuiet
import Derived.Deep.DeepCutAuto
import Derived.Maps.OwnSet
import Derived.Maps.OwnIn
import Derived.Sort.KeysCollected
import Derived.Deep.RegionHeld3
namespace Go.Proofs.Ybulkcpxw
open Go.RowKit Go.Maps

/-- What quorumProof hands back: nil. -/
theorem quorum_few (a : Option Addr) (len c : Nat) (m : Int) (w : World) (h : (len : Int) < m) : Calls Yba.prog 12 #[.slice a len c, .int .i64 m] w fun e w' => e = .returned (.pointer none) ∧ w' = w := by
  go_enter Yba.func12, Yba.ntmps12
  go_wp2
  go_ret
  exact ⟨rfl, rfl⟩

theorem below_drewN {B : Nat} {w w' : World} (h : Below B w w') (q : Nat) : Below B w (w'.drewN q) := ⟨h.os, h.tape, h.output, h.size, h.block⟩
/-- Between two rounds. -/
structure QAt (w wr : World) (vb : Nat → Nat) (f : Nat → VD) (k : Nat) : Prop where
  bel : Below w.heap.size w wr
  own : ∃ D, wr.ownsMap Yba.prog 36 ptrElem w.heap.size k D ∧ MapIs D vb f k

/-- A key's number. -/
def intKey : Lit → Int
  | .int _ x => x
  | _ => 0

/-- The number of the map's entries is the number of the votes that are wanted. -/
theorem size_is {w : World} {b k n : Nat} {D : DataW Unit} {vb : Nat → Nat} {f : Nat → VD} (h : w.ownsMap Yba.prog 36 ptrElem b k D) (hD : MapIs D vb f n) : Maps.size D = (want f n 16).length := by
  obtain ⟨es, rfl, hpw, _⟩ := h.entries (int_keyed Yba.underlying36)
  obtain ⟨es', hD', hko⟩ := h.keysOf
  obtain rfl : es = es' := by simpa using hD'
  have hint : ∀ p ∈ es, ∃ x, p.1 = .int .u32 x := fun p hp => by
    obtain ⟨v, hv⟩ := hko p hp
    obtain ⟨x, _, hx, _⟩ := Maps.keyOf_int_inv Yba.underlying36 hv
    exact ⟨x, hx⟩
  have nd : (es.map fun p => intKey p.1).Nodup := by
    refine List.pairwise_map.2 (pw_mem (fun p hp q hq hne e => hne ?_) hpw)
    obtain ⟨a, ha⟩ := hint p hp
    obtain ⟨b, hb⟩ := hint q hq
    rw [ha, hb] at e ⊢
    exact congrArg _ e
  have mem : ∀ x, x ∈ (es.map fun p => intKey p.1) ↔ Maps.has (.map es) (.int .u32 x) = true := fun x => by
    rw [has_eq, List.any_eq_true, List.mem_map]
    constructor
    · rintro ⟨p, hp, rfl⟩
      obtain ⟨a, ha⟩ := hint p hp
      exact ⟨p, hp, by rw [ha]; simp [Lit.sameKey, intKey]⟩
    · rintro ⟨p, hp, hs⟩
      obtain ⟨a, ha⟩ := hint p hp
      rw [ha] at hs
      exact ⟨p, hp, by rw [ha]; simpa [Lit.sameKey, intKey] using hs⟩
  have pm : (es.map fun p => intKey p.1).Perm ((wantP f vb n).map (·.1)) := by
    refine (List.perm_ext_iff_of_nodup nd (wantP_keys f vb n)).2 fun x => ?_
    rw [mem, hD.has, Option.isSome_iff_exists, List.mem_map]
    constructor
    · rintro ⟨j, hj⟩
      exact ⟨(x, vb j), mem_wantP.2 ⟨j, hj, rfl⟩, rfl⟩
    · rintro ⟨p, hp, rfl⟩
      obtain ⟨j, hj, _⟩ := mem_wantP.1 hp
      exact ⟨j, hj⟩
  have e1 := pm.length_eq
  have e2 := congrArg List.length (wantP_snd f vb n)
  simp at e1 e2
  rw [size_eq]
  omega

theorem keep_alloc {W : World} {b : Nat} {x y : Value} {cs : List Value} (o : Obj) (h1 : W.cell? ⟨b, 1, none⟩ = some x) (h2 : W.cell? ⟨b, 2, none⟩ = some y) (h3 : W.rangeAt b 3 cs) :
    (W.alloc o).drew.cell? ⟨b, 1, none⟩ = some x ∧ (W.alloc o).drew.cell? ⟨b, 2, none⟩ = some y ∧ (W.alloc o).drew.rangeAt b 3 cs := by
  have hb : b < W.heap.size := lt_of_cell h1
  have hbel : Below W.heap.size W (W.alloc o) := (Below.refl _ _).alloc (Nat.le_refl _) _
  exact ⟨(hbel.cell (p := ⟨b, 1, none⟩) hb).trans h1, (hbel.cell (p := ⟨b, 2, none⟩) hb).trans h2, fun j v hv => (hbel.cell (p := ⟨b, 3 + j, none⟩) hb).trans (h3 j v hv)⟩
/-- The proof's cells. -/
def pcells (f : VD) (q L c : Nat) : List Value := .int .u64 ((f.view : Int) % 3) :: .int .u64 f.seq :: (dOf f ++ [.slice (some ⟨q, 0, none⟩) L c])
/-- WHAT quorumProof HANDS BACK. -/
def QRes (w : World) (vb : Nat → Nat) (f : Nat → VD) (n : Nat) (m : Int) (e : Ending) (w' : World) : Prop :=
  Below w.heap.size w w' ∧ ((((want f n 16).length : Int) < m ∧ e = .returned (.pointer none)) ∨
    (¬ ((want f n 16).length : Int) < m ∧ ∃ p q c : Nat, e = .returned (.pointer (some ⟨p, 0, none⟩)) ∧ w'.heap[p]? = some (.cells (pcells (f 0) q (want f n 16).length c).toArray 52 (0, 0)) ∧
      ∀ i (h : i < (want f n 16).length), w'.cell? ⟨q, i, none⟩ = some (.pointer (some ⟨vb ((want f n 16)[i]), 0, none⟩))))

theorem qres_last {w w3 : World} {vb : Nat → Nat} {f : Nat → VD} {n q c : Nat} {m : Int} (hB : Below w.heap.size w w3) (hfew : m ≤ ((want f n 16).length : Int))
    (HC : ∀ i (h : i < (want f n 16).length), w3.cell? ⟨q, i, none⟩ = some (.pointer (some ⟨vb ((want f n 16)[i]), 0, none⟩))) :
    QRes w vb f n m (.returned (.pointer (some ⟨w3.heap.size, 0, none⟩))) ((w3.alloc (.cells (pcells (f 0) q (want f n 16).length c).toArray 52)).drew) := by
  have hb : Below w.heap.size w (w3.alloc (.cells (pcells (f 0) q (want f n 16).length c).toArray 52)) := hB.alloc hB.size _
  refine ⟨⟨hb.os, hb.tape, hb.output, hb.size, hb.block⟩, .inr ⟨by omega, w3.heap.size, q, c, rfl, heap_alloc_new w3 _, fun i hi => ?_⟩⟩
  have hbel : Below w3.heap.size w3 (w3.alloc (.cells (pcells (f 0) q (want f n 16).length c).toArray 52)) := (Below.refl _ _).alloc (Nat.le_refl _) _
  exact (hbel.cell (p := ⟨q, i, none⟩) (lt_of_cell (HC i hi))).trans (HC i hi)

theorem collected_row {W : World} {B : Nat} {v : Value} {ps : List (Int × Nat)} (h : W.ownsRow B 43 1 v ps.length (ps.map fun p => ptr p.2)) (hne : ps ≠ []) :
    ∃ q c cur, v = .slice (some ⟨q, 0, none⟩) (ps.map (·.2)).length c ∧ B ≤ q ∧ W.heap[q]? = some (.cells cur 43 (0, 0)) ∧ ∀ i (h : i < (ps.map (·.2)).length), cur[i]? = some (.pointer (some ⟨(ps.map (·.2))[i], 0, none⟩)) := by
  have hl : 0 < ps.length := List.length_pos_iff.2 hne
  rcases h.2 with ⟨_, h0⟩ | ⟨q, c, cur, e, hB, hg, hnc, hcm, hsz, htake⟩
  · omega
  · refine ⟨q, c, cur, by simpa using e, hB, hg, fun i hi => ?_⟩
    simp only [List.length_map] at hi
    have : (cur.toList.take (ps.length * 1))[i]? = (ps.map fun p => ptr p.2)[i]? := by rw [htake]
    rw [List.getElem?_take_of_lt (by omega)] at this
    simpa [hi, ptr] using this

set_option maxHeartbeats 4000000 in
theorem quorum_any (g cap n : Nat) (m : Int) (vb : Nat → Nat) (f : Nat → VD) (w : World) (hg : w.heap[g]? = some (.cells (ptrs vb n).toArray 43 (0, 0))) (hv : Votes w vb f n) (hn : n ≤ 1024) (h0 : 0 < n) (hm : ¬ (n : Int) < m) :
    Calls Yba.prog 12 #[.slice (some ⟨g, 0, none⟩) n cap, .int .i64 m] w (QRes w vb f n m) := by
  have c0 : w.cell? ⟨g, 0, none⟩ = some (.pointer (some ⟨vb 0, 0, none⟩)) := by
    rw [cell_of_row w g 0 _ 43 (0, 0) hg]; simpa using ptrs_get vb n 0 h0
  have HG : Hid (w.heap[g]? = some (.cells (ptrs vb n).toArray 43 (0, 0))) := hg
  have HV : Hid (Votes w vb f n) := hv
  have hmm := @run_makeMap Yba.prog
  clear hg hv
  go_enter Yba.func12, Yba.ntmps12
  go_wp2_with fail
  clear hmm
  have hown0 := World.ownsMap_made w Yba.prog 36 ptrElem
  obtain ⟨W1, hW1⟩ : ∃ W1, w.alloc (.map #[] 0) = W1 := ⟨_, rfl⟩
  have bel1 : Below w.heap.size w W1 := by rw [← hW1]; exact (Below.refl _ _).alloc (Nat.le_refl _) _
  rw [hW1] at hown0 ⊢
  have Q0 : Hid (QAt w W1 vb f 0) := ⟨bel1, _, hown0, MapIs.start vb f⟩
  clear hW1 bel1 hown0 c0
  go_loopw [20] (fun i wr => ∃ k : Nat, k ≤ n ∧ i = .int .i64 k ∧ QAt w wr vb f k) (fun i _ => n - (intOf i).toNat)
  case atStart => exact ⟨0, by omega, rfl, Q0.out⟩
  case round =>
    clear Q0
    obtain ⟨k, hk, rfl, hQ⟩ := hrel
    have HQ : Hid (QAt w wr vb f k) := hQ
    clear hQ
    by_cases hlt : (k : Int) < n
    · have gl : g < w.heap.size := (Array.getElem?_eq_some_iff.1 HG.out).1
      have ck : wr.cell? ⟨g, k, none⟩ = some (.pointer (some ⟨vb k, 0, none⟩)) := by
        rw [HQ.out.bel.cell (p := ⟨g, k, none⟩) gl, cell_of_row w g k _ 43 (0, 0) HG.out]; simpa using ptrs_get vb n k (by omega)
      have vk := (HV.out k (by omega)).below HQ.out.bel (HV.out k (by omega)).lt
      have v0 := (HV.out 0 (by omega)).below HQ.out.bel (HV.out 0 (by omega)).lt
      have e1 := vk.view
      have e2 := vk.rep
      have e3 := v0.view
      clear vk v0
      by_cases hvw : ((f k).view : Int) % 3 = ((f 0).view : Int) % 3
      · have hd : decide (((f k).view : Int) % 3 = ((f 0).view : Int) % 3) = true := by simpa using hvw
        have HW : Hid (((f k).view : Int) % 3 = ((f 0).view : Int) % 3) := hvw
        go_wp2_with fail
        go_quiet (fail)
        obtain ⟨D, hown, hD⟩ := HQ.out.own
        have hwf : (Lit.int .u32 (((f k).rep : Int) % 16)).wf = true := by simp [Lit.wf, IntKind.min, IntKind.max, IntKind.signed, IntKind.bits]; omega
        have HO : Hid ((wr.drewN nq).ownsMap Yba.prog 36 ptrElem w.heap.size k D) := hown
        clear hown hvw hd
        go_wp2_with (at_mapUpdate; refine wpList_mapUpdate_own _ rfl _ _ _ 58 rfl 36 43 (int_keyed Yba.underlying36) Yba.underlying58 _ w.heap.size k D rfl HO.out (by unfold maxLen; omega) _ _ _ rfl rfl (keyOf_int_mk Yba.underlying36 hwf) _ [] (ptrElem_ptr (vb k)) ?_; intro w1 hown1 hgrow1)
        refine ⟨⟨k + 1, by omega, by simp, (below_drewN HQ.out.bel nq).grown hgrow1 HQ.out.bel.size (fun j e => by cases e; exact Nat.le_refl _), _, hown1, hD.hit HO.out.isMap HW.out⟩, ?_⟩
        simp only [intOf]; omega
      · have hd : decide (((f k).view : Int) % 3 = ((f 0).view : Int) % 3) = false := by simpa using hvw
        have HW : Hid (((f k).view : Int) % 3 ≠ ((f 0).view : Int) % 3) := hvw
        have hd' : (((f k).view : Int) % 3 == ((f 0).view : Int) % 3) = false := by simpa using hvw
        clear hvw
        go_wp2_with fail
        go_quiet (fail)
        go_wp2_with fail
        obtain ⟨D, hown, hD⟩ := HQ.out.own
        refine ⟨⟨k + 1, by omega, by simp, below_drewN HQ.out.bel nq, D, World.ownsMap.mono (w := wr.drewN nq) hown (by omega), hD.miss HW.out⟩, ?_⟩
        simp only [intOf]; omega
    · have hkn : k = n := by omega
      subst k
      obtain ⟨D, hown, hD⟩ := HQ.out.own
      have hsz := size_is hown hD
      have hle := want_le f n 16
      have hlen : ∀ ty, (Builtin.len_ #[58] ty #[.map (some w.heap.size)]).run Yba.prog wr = .ok (.int .i64 (want f n 16).length) wr := fun ty => by rw [← hsz]; exact hown.len Yba.underlying58 ty
      have HO : Hid (wr.ownsMap Yba.prog 36 ptrElem w.heap.size n D) := hown
      have HD : Hid (MapIs D vb f n) := hD
      clear hown hD
      by_cases hfew : ((want f n 16).length : Int) < m
      · go_wp2_with fail
        go_ret
        exact ⟨HQ.out.bel, .inl ⟨hfew, rfl⟩⟩
      · go_wp2_with fail
        clear hlen
        refine (values_any _ _).mono ?_
        rintro e w' ⟨rfl, rfl⟩
        go_wp2_with fail
        refine (collect_any wr.heap.size w.heap.size n D _ ?cm ?cb (HO.out.alloc _) ?cs).mono ?_
        case cm => simp [go_sem]
        case cb => simp
        case cs => rw [hsz]; omega
        rintro e w2 ⟨v, ps, rfl, hall, hrow, _, hb2⟩
        have hperm := hall.perm HD.out
        have hps := hall.size HD.out
        have hwn := want_ne (f := f) h0
        have hne : ps ≠ [] := fun e => by rw [e] at hps; exact hwn (List.length_eq_zero_iff.1 hps.symm)
        obtain ⟨q, c, cur, rfl, hBq, hgq, hcur⟩ := collected_row hrow hne
        have bel2 : Below w.heap.size w w2 := (HQ.out.bel.alloc HQ.out.bel.size _).trans (hb2.mono (by have := HQ.out.bel.size; simp; omega))
        have votes2 : Votes w2 vb f n := HV.out.below bel2
        have hql : w.heap.size ≤ q := by have := HQ.out.bel.size; simp at hBq; omega
        have hmem : ∀ b ∈ ps.map (·.2), ∃ j, j < n ∧ b = vb j := fun b hb => by
          obtain ⟨p, hp, rfl⟩ := List.mem_map.1 hb
          obtain ⟨j, hj, e⟩ := mem_wantP.1 (hperm.mem_iff.1 hp)
          exact ⟨j, (lastOf_meets hj).1, e⟩
        have hs := sort_any w2 q c cur (ps.map (·.2)) (repAt w2) (by simpa using hne) hgq hcur (fun b hb => by
          obtain ⟨j, hj, rfl⟩ := hmem b hb
          exact ⟨fun e => by have := (HV.out j hj).lt; omega, repAt_cell (votes2 j hj)⟩) (by simp; omega)
        have hpl : (ps.map (·.2)).length = (want f n 16).length := by simpa using hps
        have HS : Hid (∀ l' w3, SortedTo w2 w3 q (ps.map (·.2)) l' (repAt w2) → l' = (want f n 16).map vb ∧ Below w.heap.size w w3) := fun l' w3 hS => by
          refine ⟨sorted_is votes2 hperm hS.perm hS.rising, hS.rest.1.trans bel2.os, hS.rest.2.1.trans bel2.tape, hS.rest.2.2.trans bel2.output, Nat.le_trans bel2.size hS.size, fun k hk => ?_⟩
          exact (hS.other k (by omega) (Nat.lt_of_lt_of_le hk bel2.size)).trans (bel2.block k hk)
        rw [hpl] at hs ⊢
        clear hcur hmem votes2 bel2 hgq hrow hb2 hall hwn hperm
        go_wp2_with (go_at_call 17; refine hs.mono ?_; rintro e w3 ⟨rfl, l', hS⟩)
        obtain ⟨rfl, bel3⟩ := HS.out _ _ hS
        have v0 := (HV.out 0 h0).below bel3 (HV.out 0 h0).lt
        have e1 := v0.view
        have e2 := v0.seq
        have e3 : w3.rangeAt (vb 0) 3 (dOf (f 0)) := v0.digest
        have HC : Hid (∀ i (h : i < (want f n 16).length), w3.cell? ⟨q, i, none⟩ = some (.pointer (some ⟨vb ((want f n 16)[i]), 0, none⟩))) := fun i hi => by
          have := hS.cells i (by simpa using hi)
          simpa using this
        have HB : Hid (Below w.heap.size w w3) := bel3
        have HL : Hid (q < w3.heap.size) := lt_of_cell (HC.out 0 (List.length_pos_iff.2 (want_ne h0)))
        clear hS bel3 v0 hs HS HO HD HQ HG HV
        have t24 := Yba.underlying24
        have i24 := info24s
        have e4 : w3.rangeAt (vb 0) 3 [.int .u8 (f 0).d, .int .u8 0, .int .u8 0, .int .u8 0, .int .u8 0, .int .u8 0, .int .u8 0, .int .u8 0, .int .u8 0, .int .u8 0, .int .u8 0, .int .u8 0, .int .u8 0, .int .u8 0, .int .u8 0, .int .u8 0, .int .u8 0, .int .u8 0, .int .u8 0, .int .u8 0, .int .u8 0, .int .u8 0, .int .u8 0, .int .u8 0, .int .u8 0, .int .u8 0, .int .u8 0, .int .u8 0, .int .u8 0, .int .u8 0, .int .u8 0, .int .u8 (bits .xor .u8 (f 0).d 90)] := e3
        clear e3
        go_region_held3 (fun w' => w'.cell? ⟨vb 0, 1, none⟩ = some (.int .u64 (((f 0).view : Int) % 3)) ∧ w'.cell? ⟨vb 0, 2, none⟩ = some (.int .u64 (f 0).seq) ∧ w'.rangeAt (vb 0) 3 [.int .u8 (f 0).d, .int .u8 0, .int .u8 0, .int .u8 0, .int .u8 0, .int .u8 0, .int .u8 0, .int .u8 0, .int .u8 0, .int .u8 0, .int .u8 0, .int .u8 0, .int .u8 0, .int .u8 0, .int .u8 0, .int .u8 0, .int .u8 0, .int .u8 0, .int .u8 0, .int .u8 0, .int .u8 0, .int .u8 0, .int .u8 0, .int .u8 0, .int .u8 0, .int .u8 0, .int .u8 0, .int .u8 0, .int .u8 0, .int .u8 0, .int .u8 0, .int .u8 (bits .xor .u8 (f 0).d 90)]) (first | exact ⟨e1, e2, e4⟩ | exact keep_alloc _ e1 e2 e4) (fail)
        go_wp2_with fail
        go_ret
        exact qres_last HB.out hfew HC.out
end Go.Proofs.Ybulkcpxw
