/-
  THE WALK of quorumhall.zzs4585cbuild (function 10).
-/
import Derived.Test.YbulkcpxwVotes
import Derived.WalkSpells
import Derived.WalkLawsBesides
import Derived.Deep.WholeRow
import Derived.Deep.DeepCutAuto
namespace Go.Proofs.Ybulkcpxw
open Go.RowKit

theorem made_at {w : World} {B n g : Nat} {e : TypeId} {xs : List Value} (h : w.ownsRow B e 1 (.slice (some ⟨g, 0, none⟩) n n) n xs) : ∃ cur : List Value, cur.length = n ∧ w.heap[g]? = some (.cells cur.toArray e (0, 0)) := by
  obtain ⟨hl, h⟩ := h
  rcases h with ⟨h, _⟩ | ⟨g', cap, cur, e, hB, hg, hnc, hcm, hsz, htake⟩
  · cases h
  · injection e with e1 e2 e3
    injection e1 with e1
    injection e1 with e1
    subst e1
    subst e3
    exact ⟨cur.toList, by simp; omega, by simpa using hg⟩

theorem info43 : (Yba.prog.info? 43).map (fun i => (i.zero, i.size, i.bytes)) = some (some (.pointer none), 1, 8) := by kernel_rfl
theorem info24s : (Yba.prog.info? 24).map (·.size) = some 32 := by kernel_rfl

/-- One more vote. -/
def upv (vb : Nat → Nat) (k b : Nat) : Nat → Nat := fun j => if j = k then b else vb j
theorem upv_same (vb : Nat → Nat) (k b : Nat) : upv vb k b k = b := by simp [upv]
theorem upv_other (vb : Nat → Nat) (k b j : Nat) (h : j ≠ k) : upv vb k b j = vb j := by simp [upv, h]

/-- BETWEEN TWO ROUNDS: k votes lie, the row's first k cells point to them. -/
structure Built (w wr : World) (g len k : Nat) (f : Nat → VD) (vb : Nat → Nat) : Prop where
  bel : Below w.heap.size w wr
  base : w.heap.size ≤ g
  row : ∃ cur : List Value, cur.length = len ∧ wr.heap[g]? = some (.cells cur.toArray 43 (0, 0)) ∧ ∀ j, j < k → cur[j]? = some (.pointer (some ⟨vb j, 0, none⟩))
  votes : Votes wr vb f k
  apart : ∀ j, j < k → vb j ≠ g

theorem Built.step {w wr W2 : World} {g len k : Nat} {f : Nat → VD} {vb : Nat → Nat} (h : Built w wr g len k f vb) (hb : Below wr.heap.size wr W2) (hk : k < len) :
    Built w ((W2.alloc (.cells (vOf (f k)).toArray 48)).setCell ⟨g, k, none⟩ (.pointer (some ⟨W2.heap.size, 0, none⟩))) g len (k + 1) f (upv vb k W2.heap.size) := by
  obtain ⟨cur, hl, hg, hc⟩ := h.row
  have hgl : g < wr.heap.size := (Array.getElem?_eq_some_iff.1 hg).1
  have hgW : g < W2.heap.size := Nat.lt_of_lt_of_le hgl hb.size
  have bw2 : Below w.heap.size w W2 := h.bel.trans (hb.mono h.bel.size)
  refine ⟨(bw2.alloc (Nat.le_trans h.bel.size hb.size) _).setCell h.base _, h.base, ⟨cur.set k (.pointer (some ⟨W2.heap.size, 0, none⟩)), by simpa using hl, ?_, ?_⟩, ?_, ?_⟩
  · have hg2 : (W2.alloc (.cells (vOf (f k)).toArray 48)).heap[g]? = some (.cells cur.toArray 43 (0, 0)) := by
      rw [Below.heap_alloc W2 _ g hgW, hb.block g hgl]; exact hg
    rw [heap_setCell_same _ g k _ 43 _ hg2]
    congr 2
    apply Array.ext'
    simp
  · intro j hj
    by_cases e : j = k
    · subst e
      rw [upv_same, List.getElem?_set_self (by omega)]
    · rw [upv_other _ _ _ _ e, List.getElem?_set_ne (fun h => e h.symm)]
      exact hc j (by omega)
  · intro j hj
    by_cases e : j = k
    · subst e
      rw [upv_same]
      show _ = _
      rw [heap_setCell_other _ _ _ _ (by show W2.heap.size ≠ g; omega)]
      exact heap_alloc_new W2 _
    · rw [upv_other _ _ _ _ e]
      have hv := h.votes j (by omega)
      show _ = _
      rw [heap_setCell_other _ _ _ _ (by show vb j ≠ g; exact h.apart j (by omega)), Below.heap_alloc W2 _ _ (Nat.lt_of_lt_of_le hv.lt hb.size), hb.block _ hv.lt]
      exact hv
  · intro j hj
    by_cases e : j = k
    · subst e; rw [upv_same]; omega
    · rw [upv_other _ _ _ _ e]; exact h.apart j (by omega)
theorem Built.cell {w wr : World} {g len k : Nat} {f : Nat → VD} {vb : Nat → Nat} (h : Built w wr g len k f vb) {W2 : World} (hb : Below wr.heap.size wr W2) (hk : k < len) : g < W2.heap.size ∧ (∃ v, W2.cell? ⟨g, k, none⟩ = some v) ∧ W2.frozen? ⟨g, k, none⟩ = false := by
  obtain ⟨cur, hl, hg, hc⟩ := h.row
  have hgl : g < wr.heap.size := (Array.getElem?_eq_some_iff.1 hg).1
  have hg2 : W2.heap[g]? = some (.cells cur.toArray 43 (0, 0)) := (hb.block g hgl).trans hg
  refine ⟨Nat.lt_of_lt_of_le hgl hb.size, ⟨cur[k], ?_⟩, frozen_of_row W2 g k _ 43 hg2⟩
  rw [cell_of_row W2 g k _ 43 (0, 0) hg2]
  simp [hl, hk]
theorem Built.all {w wr : World} {g len : Nat} {f : Nat → VD} {vb : Nat → Nat} (h : Built w wr g len len f vb) : wr.heap[g]? = some (.cells (ptrs vb len).toArray 43 (0, 0)) := by
  obtain ⟨cur, hl, hg, hc⟩ := h.row
  have e : cur = ptrs vb len := by
    apply List.ext_getElem?
    intro j
    by_cases hj : j < len
    · rw [hc j hj, ptrs_get vb len j hj]
    · rw [List.getElem?_eq_none (by omega), List.getElem?_eq_none (by rw [ptrs_length]; omega)]
  rw [hg, e]

theorem build48 (V S x y R : Int) (w : World) : (Instr.build 48 #[(1, .int .u64 V), (2, .int .u64 S), (3, .agg (dgst x y).toArray), (4, .int .u32 R)]).run Yba.prog w = .ok (.agg (vcells V S (dgst x y) R).toArray) w := by kernel_rfl
theorem build48f (f : VD) (w : World) : (Instr.build 48 #[(1, .int .u64 ((f.view : Int) % 3)), (2, .int .u64 f.seq), (3, .agg (dOf f).toArray), (4, .int .u32 ((f.rep : Int) % 16))]).run Yba.prog w = .ok (.agg (vOf f).toArray) w :=
  build48 _ _ _ _ _ w
section
variable {P : Program} {w : World} {ops : Array Oper} {rest : List Oper} {o : Oper} {a : Act} {Q : Exit → Act → World → Prop}
/-- 'T{..}' of four named fields, its run known. -/
theorem wpList_build4 (hgd : o.guard = none) (t : TypeId) (i1 i2 i3 i4 : Nat) (p1 p2 p3 p4 : Operand) (ho : o.op = .build t #[(i1, p1), (i2, p2), (i3, p3), (i4, p4)]) (v1 v2 v3 v4 : Value)
    (e1 : a.eval p1 = v1) (e2 : a.eval p2 = v2) (e3 : a.eval p3 = v3) (e4 : a.eval p4 = v4) (v : Value) (h : (Instr.build t #[(i1, v1), (i2, v2), (i3, v3), (i4, v4)]).run P w = .ok v w)
    (hK : wpList P ops Q rest (a.put o.dst v) w) : wpList P ops Q (o :: rest) a w := by
  refine wpList_plain hgd fun K hK' => ?_
  subst e1 e2 e3 e4
  have hm : (#[(i1, p1), (i2, p2), (i3, p3), (i4, p4)] : Array (Nat × Operand)).map (fun (i, x) => (i, a.eval x)) = #[(i1, a.eval p1), (i2, a.eval p2), (i3, a.eval p3), (i4, a.eval p4)] := by simp
  unfold Oper.wp execOp
  simp only [ho, hm, Sem.run_bind, Sem.run_pure, Result.andThen_ok, h]
  exact hK' _ _ hK
end

theorem wpList_load24 {w : World} {ops : Array Oper} {rest : List Oper} {o : Oper} {a : Act} {Q : Exit → Act → World → Prop} (hgd : o.guard = none) (x : Nat) (ho : o.op = .load 24 (.tmp x)) (b : Nat) (hx : a.eval (.tmp x) = .pointer (some ⟨b, 0, none⟩))
    (f : VD) (h : w.heap[b]? = some (.cells (dOf f).toArray 24 (0, 0))) (hK : wpList Yba.prog ops Q rest (a.put o.dst (.agg (dOf f).toArray)) w) : wpList Yba.prog ops Q (o :: rest) a w :=
  wpList_load_row hgd 24 (.tmp x) ho b hx 24 (dOf f).toArray (0, 0) _ h Yba.underlying24 rfl info24s hK

theorem wpList_build48 {w : World} {ops : Array Oper} {rest : List Oper} {o : Oper} {a : Act} {Q : Exit → Act → World → Prop} (hgd : o.guard = none) (x1 x2 x3 x4 : Nat) (ho : o.op = .build 48 #[(1, .tmp x1), (2, .tmp x2), (3, .tmp x3), (4, .tmp x4)])
    (f : VD) (e1 : a.eval (.tmp x1) = .int .u64 ((f.view : Int) % 3)) (e2 : a.eval (.tmp x2) = .int .u64 f.seq) (e3 : a.eval (.tmp x3) = .agg (dOf f).toArray) (e4 : a.eval (.tmp x4) = .int .u32 ((f.rep : Int) % 16))
    (hK : wpList Yba.prog ops Q rest (a.put o.dst (.agg (vOf f).toArray)) w) : wpList Yba.prog ops Q (o :: rest) a w :=
  wpList_build4 hgd 48 1 2 3 4 _ _ _ _ ho _ _ _ _ e1 e2 e3 e4 _ (build48f f _) hK

set_option maxHeartbeats 400000 in
theorem build_any (a : Option Addr) (len cap : Nat) (f : Nat → VD) (w : World) (hin : IsIn w a len f) (hlen : len ≤ 1024) :
    Calls Yba.prog 10 #[.slice a len cap] w fun e w' => ∃ vb, e = .returned (.slice (some ⟨w.heap.size, 0, none⟩) len len) ∧ Below w.heap.size w w' ∧ Votes w' vb f len ∧ w'.heap[w.heap.size]? = some (.cells (ptrs vb len).toArray 43 (0, 0)) := by
  obtain ⟨i0, hi, hz0, hz1, hz2⟩ := info_parts info43
  have HI : Hid (IsIn w a len f) := hin
  clear hin
  go_enter Yba.func10, Yba.ntmps10
  go_wp2_with (at_make; refine wpList_make_full _ rfl _ _ 40 rfl w.heap.size 43 i0 (.pointer none) 1 Yba.underlying40 hi hz0 hz1 _ _ _ _ len rfl rfl rfl rfl ?m1 ?m2 ?m3 ?_)
  case m1 => rw [hz2]; omega
  case m2 => unfold maxLen; omega
  case m3 => exact Nat.le_refl _
  intro W1 own1 grow1
  obtain ⟨cur, hcur, hg1⟩ := made_at own1
  have bel1 : Below w.heap.size w W1 := (Below.refl _ _).grown grow1 (Nat.le_refl _) (fun k hk => by cases hk)
  have B0 : Hid (Built w W1 w.heap.size len 0 f (fun _ => 0)) := ⟨bel1, Nat.le_refl _, ⟨cur, hcur, hg1, fun j hj => by omega⟩, fun j hj => by omega, fun j hj => by omega⟩
  clear own1 grow1 bel1 hg1 hcur
  go_wp2_with fail
  go_loopw [12] (fun i wr => ∃ (k : Nat) (vb : Nat → Nat), k ≤ len ∧ i = .int .i64 k ∧ Built w wr w.heap.size len k f vb) (fun i _ => len - (intOf i).toNat)
  case atStart => exact ⟨0, _, by omega, rfl, B0.out⟩
  case round =>
    clear B0
    obtain ⟨k, vb, hk, rfl, hB⟩ := hrel
    have HB : Hid (Built w wr w.heap.size len k f vb) := hB
    clear hB
    by_cases hlt : (k : Int) < len
    · obtain ⟨b, off, rfl, hb, h0, h1, h2, h3, n0, n1, n2, n3⟩ := HI.out k (by omega)
      have c0 := (HB.out.bel.cell (p := ⟨b, off + k * 4, none⟩) hb).trans h0
      have c1 := (HB.out.bel.cell (p := ⟨b, off + k * 4 + 1, none⟩) hb).trans h1
      have c2 := (HB.out.bel.cell (p := ⟨b, off + k * 4 + 2, none⟩) hb).trans h2
      have c3 := (HB.out.bel.cell (p := ⟨b, off + k * 4 + 3, none⟩) hb).trans h3
      clear h0 h1 h2 h3
      go_upto_region 8 with fail
      obtain ⟨W2, hW2⟩ : ∃ W2, (wr.alloc (.cells #[.int .u8 (f k).view, .int .u8 (f k).rep, .int .u64 (f k).seq, .int .u8 (f k).d] 50)).alloc (.cells (dOf (f k)).toArray 24) = W2 := ⟨_, rfl⟩
      change Code.wp Yba.prog _ _ _ ((wr.alloc (.cells #[.int .u8 (f k).view, .int .u8 (f k).rep, .int .u64 (f k).seq, .int .u8 (f k).d] 50)).alloc (.cells (dOf (f k)).toArray 24))
      rw [hW2]
      have bel2 : Below wr.heap.size wr W2 := by rw [← hW2]; exact ((Below.refl _ _).alloc (Nat.le_refl _) _).alloc (by simp) _
      have x0 : W2.cell? ⟨wr.heap.size, 0, none⟩ = some (.int .u8 (f k).view) := by rw [← hW2]; simp [go_sem]
      have x1 : W2.cell? ⟨wr.heap.size, 1, none⟩ = some (.int .u8 (f k).rep) := by rw [← hW2]; simp [go_sem]
      have x2 : W2.cell? ⟨wr.heap.size, 2, none⟩ = some (.int .u64 (f k).seq) := by rw [← hW2]; simp [go_sem]
      have gd : W2.heap[wr.heap.size + 1]? = some (.cells (dOf (f k)).toArray 24 (0, 0)) := by rw [← hW2]; exact heap_alloc2_new wr _ _
      have HGD : Hid (W2.heap[wr.heap.size + 1]? = some (.cells (dOf (f k)).toArray 24 (0, 0))) := gd
      obtain ⟨hgW, ⟨v0, hrc⟩, hrf⟩ := HB.out.cell bel2 (by omega)
      have HST : Hid (Built w ((W2.alloc (.cells (vOf (f k)).toArray 48)).setCell ⟨w.heap.size, k, none⟩ (.pointer (some ⟨W2.heap.size, 0, none⟩))) w.heap.size len (k + 1) f (upv vb k W2.heap.size)) := HB.out.step bel2 (by omega)
      clear hW2 gd bel2 HB c0 c1 c2 c3
      have tokA : True := trivial
      have tokB : True := trivial
      go_wp2_with (first
        | (have _t := tokA; refine wpList_load24 rfl 6 rfl _ rfl (f k) HGD.out ?_; clear tokA)
        | (have _t := tokB; refine wpList_build48 rfl 29 31 32 36 rfl (f k) ?e1 ?e2 ?e3 ?e4 ?_; clear tokB))
      case e1 => rfl
      case e2 => rfl
      case e3 => rfl
      case e4 => rfl
      refine ⟨⟨k + 1, upv vb k W2.heap.size, by omega, by simp, ?_⟩, ?_⟩
      · rw [← World.setCell_alloc_past _ _ _ _ hgW]
        exact HST.out
      · simp only [intOf]; omega
    · have hkl : k = len := by omega
      subst len
      go_wp2
      go_ret
      exact ⟨rfl, HB.out.bel, ⟨vb, HB.out.votes, HB.out.all⟩⟩
end Go.Proofs.Ybulkcpxw
