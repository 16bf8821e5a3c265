/-
  THE WALKS of maps.Values (16), its iterator (19), slices.AppendSeq (18) and slices.Collect (15) at map[uint32]*vote. The shape: the kit's worked texts (Shelf/SlIter/AllValues, Test/GgPosAtTheDump), turned to this program.
-/
import Derived.RangeFuncNested
import Derived.RangeFuncBound
import Derived.RangeFuncCalls
import Derived.RangeFuncLeaves
import Derived.RangeFuncBox
import Derived.Shelf.Abstract
import Derived.Shelf.AbstractIn
import Derived.WalkKit
import Derived.OwnWalkIn
import Derived.TacticsInMore
import Derived.RegionIn
import Derived.LoopNIn
import Derived.LoopIn
import Derived.Sort.MapsRangeIn
import Derived.Maps.RangeWalk
import Derived.Maps.AppendAt
import Derived.Test.YbulkcpxwRows
namespace Go.Proofs.Ybulkcpxw
open Go.RowKit Go.Maps Go.Shelf
attribute [local go_sem] Oper.semAt_some

/-- A pointer to a whole block. -/
def ptr (b : Nat) : Value := .pointer (some ⟨b, 0, none⟩)
/-- What the map's values are owned by: the block's number. -/
def ptrElem : Value → Option (DataW Unit × List MemPlace)
  | .pointer (some ⟨b, 0, none⟩) => some (.lit (.int .i64 b), [])
  | _ => none
theorem ptrElem_ptr (b : Nat) : ptrElem (ptr b) = some (.lit (.int .i64 b), []) := rfl
theorem ptrElem_inv {v : Value} {y : DataW Unit × List MemPlace} (h : ptrElem v = some y) : ∃ b, v = ptr b ∧ y = (.lit (.int .i64 b), []) := by
  unfold ptrElem at h
  split at h
  · cases h; exact ⟨_, rfl, rfl⟩
  · cases h
theorem ptr_inj {a b : Nat} (h : ptr a = ptr b) : a = b := by simpa [ptr] using h

def IColl (D0 : DataW Unit) (left : Lit → Bool) (ks : List Int) : Prop := ks.Nodup ∧ ∀ x, x ∈ ks ↔ (has D0 (.int .u32 x) = true ∧ left (.int .u32 x) = false)
theorem IColl.start (D0 : DataW Unit) : IColl D0 (has D0) [] := ⟨List.nodup_nil, fun x => by cases has D0 (.int .u32 x) <;> simp⟩
theorem IColl.step {D0 : DataW Unit} {left : Lit → Bool} {ks : List Int} (h : IColl D0 left ks) {x : Int} {y : DataW Unit} (hlk : left (.int .u32 x) = true) (hat : ∀ zd, D0.atKey (.int .u32 x) zd = y) :
    IColl D0 (fun z => left z && !z.sameKey (.int .u32 x)) (ks ++ [x]) := by
  have hhas : has D0 (.int .u32 x) = true := has_true_of_atKey hat
  have hnew : x ∉ ks := fun hx => by have := ((h.2 x).1 hx).2; rw [hlk] at this; cases this
  refine ⟨List.nodup_append.2 ⟨h.1, by simp, fun a ha b hb => by simp at hb; subst hb; exact fun e => hnew (e ▸ ha)⟩, fun y => ?_⟩
  by_cases hy : y = x
  · subst hy; simp [hhas, Lit.sameKey]
  · simp [h.2 y, hy, Lit.sameKey]

/-- ALL HAVE COME: the keys, each once, each with its value. -/
def AllOf (D0 : DataW Unit) (ps : List (Int × Nat)) : Prop := (ps.map (·.1)).Nodup ∧ (∀ x, x ∈ ps.map (·.1) ↔ has D0 (.int .u32 x) = true) ∧ ∀ p ∈ ps, ∀ zd, D0.atKey (.int .u32 p.1) zd = .lit (.int .i64 p.2)

set_option maxRecDepth 100000 in
set_option maxHeartbeats 1000000 in
theorem values1_in (F : Fence) (n : Nat) (h8 : F.fn 19) (hro : F.round = none) (hn : 1 ≤ n) (l Bm b nn : Nat) (D0 : DataW Unit) (J Jx : List Nat → World → Prop)
    (hY : ∀ pre x W, J pre W → pre.length < Maps.size D0 → YieldAt F (n - 1) Yba.prog l #[ptr x] W fun e W' =>
      (e = .returned (.bool true) ∧ J (pre ++ [x]) W' ∧ KeepsWalks W W') ∨ (e = .returned (.bool false) ∧ Jx (pre ++ [x]) W'))
    (W : World) (hJ : AbidesFrom W.heap.size J) (hm : W.cell? ⟨Bm, 0, none⟩ = some (.map (some b))) (hown : W.ownsMap Yba.prog 36 ptrElem b nn D0) (h0 : J [] W) :
    CallsIn F n Yba.prog 19 #[.func (.yield l) #[] #[], .pointer (some ⟨Bm, 0, none⟩)] W fun e W' => (∃ v, e = .returned v) ∧
      ((∃ xs, (∃ ps, AllOf D0 ps ∧ xs = ps.map (·.2)) ∧ J xs W') ∨ (∃ pre, True ∧ Jx pre W')) := by
  refine callsIn_of_wp Yba.func19 rfl h8 ?_ hro
  simp only [Yba.ntmps19, List.size_toArray, List.length_cons, List.length_nil, Nat.reduceAdd, Nat.reduceSub, Array.replicate_succ, Array.replicate_zero, List.push_toArray, List.append_toArray, List.nil_append, List.cons_append]
  gi_wp2_with (first
    | (gi_at_range; refine wpListIn_range_own _ rfl _ 58 rfl 36 43 (int_keyed Yba.underlying36) Yba.underlying58 _ b nn _ rfl hown ?_; intro w0 hrg0 hg0 hs0)
    | gi_in)
  go_frame
  gi_loopw [4] (fun _ wr => ∃ (left : Lit → Bool) (cnt : Nat) (ps : List (Int × Nat)), wr.ranges Yba.prog 36 ptrElem b W.heap.size nn D0 left cnt ∧ ps.length + cnt ≤ Maps.size D0 ∧ IColl D0 left (ps.map (·.1)) ∧ (∀ p ∈ ps, ∀ zd, D0.atKey (.int .u32 p.1) zd = .lit (.int .i64 p.2)) ∧ J (ps.map (·.2)) wr)
    (fun _ wr => wr.rangeLeft b W.heap.size)
  case atStart =>
    exact ⟨_, _, [], hrg0, by simp, IColl.start D0, by simp, hJ [] W w0 none h0 hg0 (fun r e => by cases e)⟩
  case round =>
    obtain ⟨left, cnt, ps, hrg, hcs, hC, hV, hJs⟩ := hrel
    gi_wp2_with (first
      | (gi_at_next; refine wpListIn_next_ranges _ rfl _ rfl 36 (int_keyed Yba.underlying36) ptrElem (Value.int .u32) ptr (fun key kl hk => by obtain ⟨x, hx, _⟩ := Maps.keyOf_int_inv Yba.underlying36 hk; exact ⟨x, hx⟩) (fun v y hv => by obtain ⟨c, rfl, _⟩ := ptrElem_inv hv; exact ⟨c, rfl⟩) b W.heap.size nn _ _ _ rfl hrg ?_ ?_)
      | gi_in)
    · intro hc0 hl0
      gi_wp2
      go_end0
      exact ⟨⟨_, rfl⟩, .inl ⟨_, ⟨ps, ⟨hC.1, fun x => by rw [hC.2 x, hl0]; simp, hV⟩, rfl⟩, hJs⟩⟩
    · intro x c kl yd yp w2 cnt2 hkey hlk hv hat hrg2 hlt hg2 hs2 hen
      obtain ⟨x', ex, rfl, _⟩ := Maps.keyOf_int_inv Yba.underlying36 hkey
      obtain rfl : x = x' := by simpa using ex
      obtain ⟨c', ec, ez⟩ := ptrElem_inv hv
      obtain rfl : c = c' := ptr_inj ec
      obtain rfl : yd = .lit (.int .i64 c) := (Prod.mk.inj ez).1
      have hJ2 : J (ps.map (·.2)) w2 := hJ _ wr w2 (some W.heap.size) hJs hg2 (fun r e => by cases e; exact ⟨Nat.le_refl _, hrg.iter_walk⟩)
      obtain ⟨fn, tmps, assign, body, hy, hR⟩ := hY (ps.map (·.2)) c w2 hJ2 (by simp; omega)
      clear hs2
      gi_wp2
      refine hR.mono ?_
      have hC2 : IColl D0 (fun z => left z && !z.sameKey (.int .u32 x)) ((ps ++ [(x, c)]).map (·.1)) := by simpa using hC.step hlk hat
      have hV2 : ∀ p ∈ ps ++ [(x, c)], ∀ zd, D0.atKey (.int .u32 p.1) zd = .lit (.int .i64 p.2) := fun p hp => (List.mem_append.1 hp).elim (hV p) (fun e => by simp at e; subst e; exact hat)
      rintro e W3 (⟨rfl, hJ3, hk3⟩ | ⟨rfl, hJx3⟩)
      · gi_wp2
        have hrg3 := hrg2.of_walks hk3
        go_roundw
        case rel => exact ⟨_, cnt2, ps ++ [(x, c)], hrg3, by simp; omega, hC2, hV2, by simpa using hJ3⟩
        case measure => rw [hrg3.left_eq, hrg.left_eq]; exact hlt
      · gi_wp2
        refine bodyPost_ret (results_none rfl _ _ _) rfl ?_
        exact ⟨⟨_, rfl⟩, .inr ⟨_, trivial, hJx3⟩⟩

set_option maxHeartbeats 1000000 in
theorem values_in (F : Fence) (n : Nat) (hf : F.fn 16) (hro : F.round = none) (mb : Option Nat) (w : World) :
    CallsIn F n Yba.prog 16 #[.map mb] w fun e w' => e = .returned (.func (.func 19) #[] #[.pointer (some ⟨w.heap.size, 0, none⟩)]) ∧ w' = w.alloc (.cells #[.map mb] 58) := by
  refine callsIn_of_wp Yba.func16 rfl hf ?_ hro
  simp only [Yba.ntmps16, List.size_toArray, List.length_cons, List.length_nil, Nat.reduceAdd, Nat.reduceSub, Array.replicate_succ, Array.replicate_zero, List.push_toArray, List.append_toArray, List.nil_append, List.cons_append]
  gi_wp2
  go_ret
  exact ⟨rfl, rfl⟩

theorem values_stops (F : Fence) (n : Nat) (h7 : F.fn 19) (hro : F.round = none) (hn : 1 ≤ n) (Bm b nn : Nat) (D0 : DataW Unit) (w : World) (hBm : Bm < w.heap.size)
    (hm : w.cell? ⟨Bm, 0, none⟩ = some (.map (some b))) (hown : w.ownsMap Yba.prog 36 ptrElem b nn D0) :
    SeqStops F n Yba.prog 19 #[.pointer (some ⟨Bm, 0, none⟩)] ptr (fun xs => ∃ ps, AllOf D0 ps ∧ xs = ps.map (·.2)) (fun _ => True) (Maps.size D0) w := fun l J Jx W hW hJ _ hY h0 => by
  have hown' : W.ownsMap Yba.prog 36 ptrElem b nn D0 := by
    have hbl := hown.lt
    obtain ⟨es, clock, hb, Ft, hs, hD⟩ := hown
    exact ⟨es, clock, (hW.block b hbl).trans hb, Ft, hs, hD⟩
  exact values1_in F n h7 hro hn l Bm b nn D0 J Jx hY W hJ ((hW.cell (p := ⟨Bm, 0, none⟩) hBm).trans hm) hown' h0

theorem info43' : (Yba.prog.info? 43).map (fun i => (i.zero, i.size, i.bytes)) = some (some (.pointer none), 1, 8) := by kernel_rfl

set_option maxRecDepth 100000 in
set_option maxHeartbeats 2000000 in
theorem appendSeq_in (F : Fence) (n : Nat) (h11 : F.fn 18) (hro : F.round = none) (hn : 2 ≤ n) (g : Nat) (lb : Array Value) (hFg : F.fn g) (eg : ∀ args w, (callFunc g args).run Yba.prog w = .ok (.enter g args) w)
    (S Sp : List Nat → Prop) (N : Nat) (hN : N ≤ maxLen) (hNb : N * 8 ≤ 140737488355328) (w : World) (hseq : SeqStops F (n - 1) Yba.prog g lb ptr S Sp N w) :
    CallsIn F n Yba.prog 18 #[.slice none 0 0, .func (.func g) #[] lb] w fun e w' => ∃ (v : Value) (ss : List Nat), e = .returned v ∧ S ss ∧ w'.ownsRow w.heap.size 43 1 v ss.length (ss.map ptr) ∧ (v = .slice none 0 0 ↔ ss = []) ∧ Below w.heap.size w w' := by
  have h1 : 1 ≤ n := by omega
  obtain ⟨i0, hi, hz0, hz1, hz2⟩ := info_parts info43'
  refine callsIn_of_wp_marks Yba.func18 rfl h11 ?_ hro
  simp only [Yba.ntmps18, List.size_toArray, List.length_cons, List.length_nil, Nat.reduceAdd, Nat.reduceSub, Array.replicate_succ, Array.replicate_zero, List.push_toArray, List.append_toArray, List.nil_append, List.cons_append]
  gi_wp2
  have bO := Boxed.new w 40 (.slice none 0 0)
  have hB0 : Below w.heap.size w (w.alloc (.cells #[.slice none 0 0] 40)) := (Below.refl _ w).alloc (Nat.le_refl _) _
  refine wpIn_rangeFunc_ownG hro h1 (gf := g) (lb := lb) rfl hFg eg
    (encs := fun x : Nat => #[ptr x]) (hseq.later hB0) walksK_t walksK_b (Below.refl _ _) (fun _ => rfl)
    (fun pre W => (∃ v, Boxed W w.heap.size 40 v ∧ W.ownsRow w.heap.size 43 1 v pre.length (pre.map ptr) ∧ (v = .slice none 0 0 ↔ pre = [])) ∧ Below w.heap.size w W)
    (fun _ _ _ => False)
    (OwnFrom.and (Own.from (holdsRow_own w.heap.size w.heap.size 40 43 1 (fun pre => pre.length) (fun pre => pre.map ptr) (fun pre v => v = .slice none 0 0 ↔ pre = [])) _) (ownFrom_below (Nat.le_refl _) (by simp)))
    (fun _ _ _ _ _ hs _ _ => hs)
    ⟨⟨_, bO, World.ownsRow_nil _ _ _ _, by simp⟩, hB0⟩
    (fun x => { tmps := #[.slice none 0 0, .func (.func g) #[] lb, .pointer (some ⟨w.heap.size, 0, none⟩), undef, .slice none 0 0, .pointer (some ⟨x, 0, none⟩), .func (.func g) #[] lb, .pointer (some ⟨x, 0, none⟩), undef, undef, undef, undef, undef], defers := [] }) ?assign ?body ?done ?stop
  case assign =>
    intro l x W K hK
    gi_wp2
    exact hK
  case body =>
    rintro l pre x W ⟨⟨v, hv, hrow, hnil⟩, hB⟩ hlt
    have hc := hv.cell
    gi_wp2_with (gi_at_builtin; refine wpListIn_append_own _ rfl _ _ 40 rfl w.heap.size 43 i0 (.pointer none) 1 8 Yba.underlying40 hi hz0 hz1 hz2 rfl (by decide) _ _ _ rfl (hrow.alloc _) ⟨W.heap.size, 0, none⟩ 1 1 [.pointer (some ⟨x, 0, none⟩)] rfl rfl (cell_one_new _ _ _) (by simp [Value.oneCell']) (by omega) (by omega) (by have := hB.size; simp; omega) ?_; intro v' w1 hown' hgrow _; obtain ⟨g', cap', rfl⟩ := ownsRow_succ hown'; obtain ⟨hv1, hv2, hr2, hk2, hb2⟩ := hv.appended (by decide) hrow hB.size (Nat.le_refl _) hown' hgrow; have hc1 := hv1.cell; have hf1 := hv1.frozen)
    exact ⟨hk2.from _, hk2.walks, ⟨_, hv2, by simpa [ptr] using hr2, by simp⟩, hB.trans hb2⟩
  case done =>
    rintro D ys W hD hS ⟨⟨v, hv, hrow, hnil⟩, hB⟩ hK
    have hc := hv.cell
    gi_wp2
    refine ⟨by simp, .inl ⟨_, _, rfl, run_takeDeferred hK, ?_⟩⟩
    exact ⟨_, results_tmp rfl _ _ _, v, ys, rfl, hS, ownsRow_putObj hrow _ hK rfl, hnil, hB.trans (belowK_b (w := w) (Nat.le_refl _) W D _ _ (by simp at hD; omega) hK rfl rfl)⟩
  case stop =>
    rintro D c pre W _ _ h _
    exact h.elim

set_option maxHeartbeats 1000000 in
theorem collect_in (F : Fence) (n : Nat) (h8 : F.fn 15) (h11 : F.fn 18) (hro : F.round = none) (hn : 3 ≤ n) (g : Nat) (lb : Array Value) (hFg : F.fn g) (eg : ∀ args w, (callFunc g args).run Yba.prog w = .ok (.enter g args) w)
    (S Sp : List Nat → Prop) (N : Nat) (hN : N ≤ maxLen) (hNb : N * 8 ≤ 140737488355328) (w : World) (hseq : SeqStops F (n - 1 - 1) Yba.prog g lb ptr S Sp N w) :
    CallsIn F n Yba.prog 15 #[.func (.func g) #[] lb] w fun e w' => ∃ (v : Value) (ss : List Nat), e = .returned v ∧ S ss ∧ w'.ownsRow w.heap.size 43 1 v ss.length (ss.map ptr) ∧ (v = .slice none 0 0 ↔ ss = []) ∧ Below w.heap.size w w' := by
  have h1 : 1 ≤ n := by omega
  refine callsIn_of_wp Yba.func15 rfl h8 ?_ hro
  simp only [Yba.ntmps15, List.size_toArray, List.length_cons, List.length_nil, Nat.reduceAdd, Nat.reduceSub, Array.replicate_succ, Array.replicate_zero, List.push_toArray, List.append_toArray, List.nil_append, List.cons_append]
  gi_wp2_with (gi_at_call 18; refine (appendSeq_in F (n - 1) h11 hro (by omega) g lb hFg eg S Sp N hN hNb _ hseq).mono ?_; rintro e w' ⟨v, ss, rfl, hS, hrow, hnil, hb⟩)
  go_ret
  exact ⟨v, ss, rfl, hS, hrow, hnil, hb⟩

/-- THE TWO CALLS, IN NO FENCE. -/
theorem values_any (mb : Option Nat) (w : World) : Calls Yba.prog 16 #[.map mb] w fun e w' => e = .returned (.func (.func 19) #[] #[.pointer (some ⟨w.heap.size, 0, none⟩)]) ∧ w' = w.alloc (.cells #[.map mb] 58) :=
  (callsIn_wide (n := 6)).1 (values_in _ 6 trivial rfl mb w)
theorem collect_any (Bm b nn : Nat) (D0 : DataW Unit) (w : World) (hm : w.cell? ⟨Bm, 0, none⟩ = some (.map (some b))) (hBm : Bm < w.heap.size) (hown : w.ownsMap Yba.prog 36 ptrElem b nn D0) (hN : Maps.size D0 ≤ 1024) :
    Calls Yba.prog 15 #[.func (.func 19) #[] #[.pointer (some ⟨Bm, 0, none⟩)]] w fun e w' => ∃ (v : Value) (ps : List (Int × Nat)), e = .returned v ∧ AllOf D0 ps ∧ w'.ownsRow w.heap.size 43 1 v ps.length (ps.map fun p => ptr p.2) ∧ (v = .slice none 0 0 ↔ ps = []) ∧ Below w.heap.size w w' := by
  refine (callsIn_wide (n := 6)).1 ((collect_in _ 6 trivial trivial rfl (by omega) 19 _ trivial (enters_of Yba.func19 (by kernel_rfl) rfl) _ _ (Maps.size D0) (by unfold maxLen; omega) (by omega) w (values_stops _ _ trivial rfl (by omega) Bm b nn D0 w hBm hm hown)).mono ?_)
  rintro e w' ⟨v, ss, rfl, ⟨ps, hps, rfl⟩, hrow, hnil, hb⟩
  exact ⟨v, ps, rfl, hps, by simpa [Function.comp_def] using hrow, by simpa using hnil, hb⟩
end Go.Proofs.Ybulkcpxw
