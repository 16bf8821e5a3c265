/-
  THE WALK of quorumhall.LawS4585CProof (function 5).
-/
import Derived.Test.YbulkcpxwClone
import Derived.Test.YbulkcpxwDigest
import Derived.Lib.Builder
namespace Go.Proofs.Ybulkcpxw
open Go.RowKit

theorem IsIn.below {w w' : World} {a : Option Addr} {n : Nat} {f : Nat → VD} (h : IsIn w a n f) (hb : Below w.heap.size w w') : IsIn w' a n f := fun i hi => by
  obtain ⟨b, off, rfl, hlt, h0, h1, h2, h3, r⟩ := h i hi
  exact ⟨b, off, rfl, Nat.lt_of_lt_of_le hlt hb.size, (hb.cell (p := ⟨b, off + i * 4, none⟩) hlt).trans h0, (hb.cell (p := ⟨b, off + i * 4 + 1, none⟩) hlt).trans h1, (hb.cell (p := ⟨b, off + i * 4 + 2, none⟩) hlt).trans h2, (hb.cell (p := ⟨b, off + i * 4 + 3, none⟩) hlt).trans h3, r⟩

/-- WHAT LIES behind the three calls. -/
structure Ctx (w : World) (a : Option Addr) (g g2 n : Nat) (f : Nat → VD) (vb : Nat → Nat) : Prop where
  inn : IsIn w a n f
  row : ∀ i, i < n → w.cell? ⟨g, i, none⟩ = some (.pointer (some ⟨vb i, 0, none⟩))
  kept : ∀ i, i < n → w.cell? ⟨g2, i, none⟩ = some (.pointer (some ⟨vb i, 0, none⟩))
  votes : Votes w vb f n
theorem Ctx.below {w w' : World} {a : Option Addr} {g g2 n : Nat} {f : Nat → VD} {vb : Nat → Nat} (h : Ctx w a g g2 n f vb) (hb : Below w.heap.size w w') : Ctx w' a g g2 n f vb :=
  ⟨h.inn.below hb, fun i hi => (hb.cell (p := ⟨g, i, none⟩) (lt_of_cell (h.row i hi))).trans (h.row i hi), fun i hi => (hb.cell (p := ⟨g2, i, none⟩) (lt_of_cell (h.kept i hi))).trans (h.kept i hi), h.votes.below hb⟩

/-- WHAT THE PROOF IS, in whatever later world. -/
def PRes (w : World) (vb : Nat → Nat) (f : Nat → VD) (n : Nat) (m : Int) (v : Value) : Prop :=
  ((((want f n 16).length : Int) < m ∧ v = .pointer none) ∨
    (¬ ((want f n 16).length : Int) < m ∧ ∃ p q c : Nat, v = .pointer (some ⟨p, 0, none⟩) ∧ w.heap[p]? = some (.cells (pcells (f 0) q (want f n 16).length c).toArray 52 (0, 0)) ∧
      ∀ i (h : i < (want f n 16).length), w.cell? ⟨q, i, none⟩ = some (.pointer (some ⟨vb ((want f n 16)[i]), 0, none⟩))))
theorem PRes.below {w w' : World} {vb : Nat → Nat} {f : Nat → VD} {n : Nat} {m : Int} {v : Value} (h : PRes w vb f n m v) (hb : Below w.heap.size w w') : PRes w' vb f n m v := by
  rcases h with h | ⟨h1, p, q, c, h2, h3, h4⟩
  · exact .inl h
  · exact .inr ⟨h1, p, q, c, h2, (hb.block p (Array.getElem?_eq_some_iff.1 h3).1).trans h3, fun i hi => (hb.cell (p := ⟨q, i, none⟩) (lt_of_cell (h4 i hi))).trans (h4 i hi)⟩

set_option maxRecDepth 100000 in
/-- More than 1024; nothing asked of nothing. -/
theorem law_many (a : Option Addr) (len cap : Nat) (m : Int) (w : World) (h : 1024 < (len : Int)) : Calls Yba.prog 5 #[.slice a len cap, .int .i64 m] w fun e w' => e = .returned (.bool true) ∧ Below w.heap.size w w' := by
  go_enter Yba.func5, Yba.ntmps5
  go_wp2_with fail
  go_ret
  exact ⟨rfl, Below.refl _ _⟩
set_option maxRecDepth 100000 in
theorem law_none (a : Option Addr) (cap : Nat) (m : Int) (w : World) (h : m ≤ 0) : Calls Yba.prog 5 #[.slice a 0 cap, .int .i64 m] w fun e w' => e = .returned (.bool true) ∧ Below w.heap.size w w' := by
  go_enter Yba.func5, Yba.ntmps5
  go_wp2_with fail
  go_ret
  exact ⟨rfl, Below.refl _ _⟩
theorem quorum_all (g cap n : Nat) (m : Int) (vb : Nat → Nat) (f : Nat → VD) (w : World) (hg : w.heap[g]? = some (.cells (ptrs vb n).toArray 43 (0, 0))) (hv : Votes w vb f n) (hn : n ≤ 1024) (h0 : (n : Int) < m ∨ 0 < n) :
    Calls Yba.prog 12 #[.slice (some ⟨g, 0, none⟩) n cap, .int .i64 m] w fun e w' => ∃ v, e = .returned v ∧ Below w.heap.size w w' ∧ (((n : Int) < m ∧ v = .pointer none) ∨ (m ≤ (n : Int) ∧ 0 < n ∧ PRes w' vb f n m v)) := by
  by_cases hm : (n : Int) < m
  · refine (quorum_few _ n cap m w hm).mono ?_
    rintro e w' ⟨rfl, rfl⟩
    exact ⟨_, rfl, Below.refl _ _, .inl ⟨hm, rfl⟩⟩
  · have hn0 : 0 < n := h0.resolve_left hm
    refine (quorum_any g cap n m vb f w hg hv hn hn0 hm).mono ?_
    rintro e w' ⟨hb, h | ⟨h1, p, q, c, rfl, h3, h4⟩⟩
    · exact ⟨_, h.2, hb, .inr ⟨Int.not_lt.1 hm, hn0, .inl ⟨h.1, rfl⟩⟩⟩
    · exact ⟨_, rfl, hb, .inr ⟨Int.not_lt.1 hm, hn0, .inr ⟨h1, p, q, c, rfl, h3, h4⟩⟩⟩

theorem row_open {W : World} {B n : Nat} {v : Value} {xs : List Value} (h : W.ownsRow B 43 1 v n xs) (hn : 0 < n) : ∃ g c : Nat, v = .slice (some ⟨g, 0, none⟩) n c ∧ B ≤ g ∧ ∀ i u, xs[i]? = some u → W.cell? ⟨g, i, none⟩ = some u := by
  rcases h.2 with ⟨_, h0⟩ | ⟨g, c, cur, rfl, hB, hg, hnc, hcm, hsz, htake⟩
  · omega
  · refine ⟨g, c, rfl, hB, fun i u hi => ?_⟩
    have hlt : i < xs.length := (List.getElem?_eq_some_iff.1 hi).1
    have hl := h.1
    rw [cell_of_row W g i _ 43 (0, 0) hg, ← Array.getElem?_toList]
    rw [← htake, List.getElem?_take_of_lt (by omega)] at hi
    exact hi
theorem info48s : (Yba.prog.info? 48).map (·.size) = some 37 := by kernel_rfl
theorem neq_same (a : Addr) (W : World) : (binOp .neq 43 (.pointer (some a)) (.pointer (some a))).run Yba.prog W = .ok (.bool false) W := by
  obtain ⟨j, hj, _⟩ := Option.map_eq_some_iff.1 info48s
  exact Lib.run_neq_ptr_same W a Yba.underlying43 hj
/-- The last vote, as the law's own variable holds it. -/
def lastV (vb : Nat → Nat) : Option Nat → Value
  | none => .pointer none
  | some j => .pointer (some ⟨vb j, 0, none⟩)
theorem lastV_hit {vb : Nat → Nat} {f : Nat → VD} {x : Int} {k : Nat} (h : Meets f x k) : Value.pointer (some ⟨vb k, 0, none⟩) = lastV vb (lastOf f x (k + 1)) := by rw [lastOf_yes h]; rfl
theorem lastV_miss {vb : Nat → Nat} {f : Nat → VD} {x : Int} {k : Nat} (h : ¬ Meets f x k) : lastV vb (lastOf f x k) = lastV vb (lastOf f x (k + 1)) := by rw [lastOf_no h]
theorem row_below {W W' : World} {B n : Nat} {v : Value} {xs : List Value} (h : W.ownsRow B 43 1 v n xs) (hb : Below W.heap.size W W') : W'.ownsRow B 43 1 v n xs := by
  refine ⟨h.1, ?_⟩
  rcases h.2 with h0 | ⟨g, c, cur, e, hB, hg, r⟩
  · exact .inl h0
  · exact .inr ⟨g, c, cur, e, hB, (hb.block g (Array.getElem?_eq_some_iff.1 hg).1).trans hg, r⟩
theorem p_parts {w : World} {p q L c : Nat} {f : VD} (h : w.heap[p]? = some (.cells (pcells f q L c).toArray 52 (0, 0))) :
    w.cell? ⟨p, 0, none⟩ = some (.int .u64 ((f.view : Int) % 3)) ∧ w.cell? ⟨p, 1, none⟩ = some (.int .u64 f.seq) ∧ w.rangeAt p 2 (dOf f) ∧ w.cell? ⟨p, 34, none⟩ = some (.slice (some ⟨q, 0, none⟩) L c) := by
  refine ⟨by rw [cell_of_row w p 0 _ 52 (0, 0) h]; rfl, by rw [cell_of_row w p 1 _ 52 (0, 0) h]; rfl, fun j v hv => ?_, by rw [cell_of_row w p 34 _ 52 (0, 0) h]; rfl⟩
  have hj : j < 32 := (List.getElem?_eq_some_iff.1 hv).1
  rw [cell_of_row w p (2 + j) _ 52 (0, 0) h, List.getElem?_toArray]
  have e : (pcells f q L c)[2 + j]? = (dOf f ++ [.slice (some ⟨q, 0, none⟩) L c])[j]? := by rw [Nat.add_comm]; rfl
  rw [e, List.getElem?_append_left (by exact hj)]
  exact hv
theorem quiet_load24 {C : World → Prop} {o : Oper} {a : Act} {K : Act → Prop} (x : Nat) (ho : o.op = .load 24 (.tmp x)) (b off : Nat) (hx : a.eval (.tmp x) = .pointer (some ⟨b, off, none⟩)) (f : VD) (hC : ∀ w, C w → w.rangeAt b off (dOf f))
    (h : K (a.put o.dst (.agg (dOf f).toArray))) : o.quiet Yba.prog a C K := by
  refine ⟨_, fun w hw => ?_, h⟩
  have e := run_loadAt_mid (P := Yba.prog) w b off 24 (dOf f) _ (hC w hw) Yba.underlying24 rfl info24s
  unfold Oper.quietAt execOp
  simp only [ho, hx, e, Sem.run_bind, Sem.run_pure, Result.andThen_ok]
  exact ⟨rfl, rfl⟩
end Go.Proofs.Ybulkcpxw
