/-
  SMALL LAWS FOR quorumhall.LawS4585AAppend: a list of thirty-two; a struct built out of two arrays; a whole struct stored and loaded.
-/
import Derived.Test.YbulkcpxwBlock
import Derived.Deep.WholeRow
import Derived.Laws.CopyOwn
namespace Go.Proofs.Ybulkcpxw
open Go.RowKit

theorem list32 (l : List Value) (h : l.length = 32) : ∃ d0 d1 d2 d3 d4 d5 d6 d7 d8 d9 d10 d11 d12 d13 d14 d15 d16 d17 d18 d19 d20 d21 d22 d23 d24 d25 d26 d27 d28 d29 d30 d31 : Value, l = [d0, d1, d2, d3, d4, d5, d6, d7, d8, d9, d10, d11, d12, d13, d14, d15, d16, d17, d18, d19, d20, d21, d22, d23, d24, d25, d26, d27, d28, d29, d30, d31] := by
  obtain ⟨d0, l0, rfl⟩ := List.exists_cons_of_length_eq_add_one h
  have h0 : l0.length = 31 := by simpa using h
  clear h
  obtain ⟨d1, l1, rfl⟩ := List.exists_cons_of_length_eq_add_one h0
  have h1 : l1.length = 30 := by simpa using h0
  clear h0
  obtain ⟨d2, l2, rfl⟩ := List.exists_cons_of_length_eq_add_one h1
  have h2 : l2.length = 29 := by simpa using h1
  clear h1
  obtain ⟨d3, l3, rfl⟩ := List.exists_cons_of_length_eq_add_one h2
  have h3 : l3.length = 28 := by simpa using h2
  clear h2
  obtain ⟨d4, l4, rfl⟩ := List.exists_cons_of_length_eq_add_one h3
  have h4 : l4.length = 27 := by simpa using h3
  clear h3
  obtain ⟨d5, l5, rfl⟩ := List.exists_cons_of_length_eq_add_one h4
  have h5 : l5.length = 26 := by simpa using h4
  clear h4
  obtain ⟨d6, l6, rfl⟩ := List.exists_cons_of_length_eq_add_one h5
  have h6 : l6.length = 25 := by simpa using h5
  clear h5
  obtain ⟨d7, l7, rfl⟩ := List.exists_cons_of_length_eq_add_one h6
  have h7 : l7.length = 24 := by simpa using h6
  clear h6
  obtain ⟨d8, l8, rfl⟩ := List.exists_cons_of_length_eq_add_one h7
  have h8 : l8.length = 23 := by simpa using h7
  clear h7
  obtain ⟨d9, l9, rfl⟩ := List.exists_cons_of_length_eq_add_one h8
  have h9 : l9.length = 22 := by simpa using h8
  clear h8
  obtain ⟨d10, l10, rfl⟩ := List.exists_cons_of_length_eq_add_one h9
  have h10 : l10.length = 21 := by simpa using h9
  clear h9
  obtain ⟨d11, l11, rfl⟩ := List.exists_cons_of_length_eq_add_one h10
  have h11 : l11.length = 20 := by simpa using h10
  clear h10
  obtain ⟨d12, l12, rfl⟩ := List.exists_cons_of_length_eq_add_one h11
  have h12 : l12.length = 19 := by simpa using h11
  clear h11
  obtain ⟨d13, l13, rfl⟩ := List.exists_cons_of_length_eq_add_one h12
  have h13 : l13.length = 18 := by simpa using h12
  clear h12
  obtain ⟨d14, l14, rfl⟩ := List.exists_cons_of_length_eq_add_one h13
  have h14 : l14.length = 17 := by simpa using h13
  clear h13
  obtain ⟨d15, l15, rfl⟩ := List.exists_cons_of_length_eq_add_one h14
  have h15 : l15.length = 16 := by simpa using h14
  clear h14
  obtain ⟨d16, l16, rfl⟩ := List.exists_cons_of_length_eq_add_one h15
  have h16 : l16.length = 15 := by simpa using h15
  clear h15
  obtain ⟨d17, l17, rfl⟩ := List.exists_cons_of_length_eq_add_one h16
  have h17 : l17.length = 14 := by simpa using h16
  clear h16
  obtain ⟨d18, l18, rfl⟩ := List.exists_cons_of_length_eq_add_one h17
  have h18 : l18.length = 13 := by simpa using h17
  clear h17
  obtain ⟨d19, l19, rfl⟩ := List.exists_cons_of_length_eq_add_one h18
  have h19 : l19.length = 12 := by simpa using h18
  clear h18
  obtain ⟨d20, l20, rfl⟩ := List.exists_cons_of_length_eq_add_one h19
  have h20 : l20.length = 11 := by simpa using h19
  clear h19
  obtain ⟨d21, l21, rfl⟩ := List.exists_cons_of_length_eq_add_one h20
  have h21 : l21.length = 10 := by simpa using h20
  clear h20
  obtain ⟨d22, l22, rfl⟩ := List.exists_cons_of_length_eq_add_one h21
  have h22 : l22.length = 9 := by simpa using h21
  clear h21
  obtain ⟨d23, l23, rfl⟩ := List.exists_cons_of_length_eq_add_one h22
  have h23 : l23.length = 8 := by simpa using h22
  clear h22
  obtain ⟨d24, l24, rfl⟩ := List.exists_cons_of_length_eq_add_one h23
  have h24 : l24.length = 7 := by simpa using h23
  clear h23
  obtain ⟨d25, l25, rfl⟩ := List.exists_cons_of_length_eq_add_one h24
  have h25 : l25.length = 6 := by simpa using h24
  clear h24
  obtain ⟨d26, l26, rfl⟩ := List.exists_cons_of_length_eq_add_one h25
  have h26 : l26.length = 5 := by simpa using h25
  clear h25
  obtain ⟨d27, l27, rfl⟩ := List.exists_cons_of_length_eq_add_one h26
  have h27 : l27.length = 4 := by simpa using h26
  clear h26
  obtain ⟨d28, l28, rfl⟩ := List.exists_cons_of_length_eq_add_one h27
  have h28 : l28.length = 3 := by simpa using h27
  clear h27
  obtain ⟨d29, l29, rfl⟩ := List.exists_cons_of_length_eq_add_one h28
  have h29 : l29.length = 2 := by simpa using h28
  clear h28
  obtain ⟨d30, l30, rfl⟩ := List.exists_cons_of_length_eq_add_one h29
  have h30 : l30.length = 1 := by simpa using h29
  clear h29
  obtain ⟨d31, l31, rfl⟩ := List.exists_cons_of_length_eq_add_one h30
  have h31 : l31.length = 0 := by simpa using h30
  clear h30
  obtain rfl := List.eq_nil_of_length_eq_zero h31
  exact ⟨d0, d1, d2, d3, d4, d5, d6, d7, d8, d9, d10, d11, d12, d13, d14, d15, d16, d17, d18, d19, d20, d21, d22, d23, d24, d25, d26, d27, d28, d29, d30, d31, rfl⟩

/-- The struct's sixty-seven cells. -/
def cells67 (view seq : Nat) (D C : List Value) (sv : Value) : List Value := Value.int .u64 view :: Value.int .u64 seq :: (D ++ (C ++ [sv]))

theorem build_lit (d0 d1 d2 d3 d4 d5 d6 d7 d8 d9 d10 d11 d12 d13 d14 d15 d16 d17 d18 d19 d20 d21 d22 d23 d24 d25 d26 d27 d28 d29 d30 d31 c0 c1 c2 c3 c4 c5 c6 c7 c8 c9 c10 c11 c12 c13 c14 c15 c16 c17 c18 c19 c20 c21 c22 c23 c24 c25 c26 c27 c28 c29 c30 c31 : Value) (V S : Int) (a : Option Addr) (l c : Nat) (w : World) :
    (Instr.build 26 #[(0, .int .u64 V), (1, .int .u64 S), (2, .agg #[d0, d1, d2, d3, d4, d5, d6, d7, d8, d9, d10, d11, d12, d13, d14, d15, d16, d17, d18, d19, d20, d21, d22, d23, d24, d25, d26, d27, d28, d29, d30, d31]), (3, .agg #[c0, c1, c2, c3, c4, c5, c6, c7, c8, c9, c10, c11, c12, c13, c14, c15, c16, c17, c18, c19, c20, c21, c22, c23, c24, c25, c26, c27, c28, c29, c30, c31]), (4, .slice a l c)]).run Yba.prog w =
      .ok (.agg #[.int .u64 V, .int .u64 S, d0, d1, d2, d3, d4, d5, d6, d7, d8, d9, d10, d11, d12, d13, d14, d15, d16, d17, d18, d19, d20, d21, d22, d23, d24, d25, d26, d27, d28, d29, d30, d31, c0, c1, c2, c3, c4, c5, c6, c7, c8, c9, c10, c11, c12, c13, c14, c15, c16, c17, c18, c19, c20, c21, c22, c23, c24, c25, c26, c27, c28, c29, c30, c31, .slice a l c]) w := by kernel_rfl

theorem build_run (view seq : Nat) (D C : List Value) (hD : D.length = 32) (hC : C.length = 32) (a : Option Addr) (l c : Nat) (w : World) :
    (Instr.build 26 #[(0, .int .u64 view), (1, .int .u64 seq), (2, .agg D.toArray), (3, .agg C.toArray), (4, .slice a l c)]).run Yba.prog w = .ok (.agg (cells67 view seq D C (.slice a l c)).toArray) w := by
  obtain ⟨d0, d1, d2, d3, d4, d5, d6, d7, d8, d9, d10, d11, d12, d13, d14, d15, d16, d17, d18, d19, d20, d21, d22, d23, d24, d25, d26, d27, d28, d29, d30, d31, rfl⟩ := list32 D hD
  obtain ⟨c0, c1, c2, c3, c4, c5, c6, c7, c8, c9, c10, c11, c12, c13, c14, c15, c16, c17, c18, c19, c20, c21, c22, c23, c24, c25, c26, c27, c28, c29, c30, c31, rfl⟩ := list32 C hC
  exact build_lit d0 d1 d2 d3 d4 d5 d6 d7 d8 d9 d10 d11 d12 d13 d14 d15 d16 d17 d18 d19 d20 d21 d22 d23 d24 d25 d26 d27 d28 d29 d30 d31 c0 c1 c2 c3 c4 c5 c6 c7 c8 c9 c10 c11 c12 c13 c14 c15 c16 c17 c18 c19 c20 c21 c22 c23 c24 c25 c26 c27 c28 c29 c30 c31 view seq a l c w

/-- The struct's zero cells. -/
def z67 : Array Value := (Value.int .u64 0 :: Value.int .u64 0 :: (List.replicate 64 (Value.int .u8 0) ++ [Value.slice none 0 0])).toArray
theorem z67_size : z67.size = 67 := rfl
theorem zero26 : (Yba.prog.info? 26).map (fun i => (i.zero, i.size)) = some (some (.agg z67), 67) := by kernel_rfl

section
variable {P : Program} {w : World} {ops : Array Oper} {rest : List Oper} {o : Oper} {a : Act} {Q : Exit → Act → World → Prop}
theorem wpList_move (hgd : o.guard = none) (x : Operand) (ho : o.op = .move x) (hK : wpList P ops Q rest (a.put o.dst (a.eval x)) w) : wpList P ops Q (o :: rest) a w := by
  refine wpList_plain hgd fun K hK' => ?_
  unfold Oper.wp execOp
  simp only [ho]
  exact hK' _ _ hK
/-- 'T{..}' of five fields, its run known. -/
theorem wpList_build_run (hgd : o.guard = none) (t : TypeId) (p0 p1 p2 p3 p4 : Operand) (ho : o.op = .build t #[(0, p0), (1, p1), (2, p2), (3, p3), (4, p4)]) (v0 v1 v2 v3 v4 : Value)
    (e0 : a.eval p0 = v0) (e1 : a.eval p1 = v1) (e2 : a.eval p2 = v2) (e3 : a.eval p3 = v3) (e4 : a.eval p4 = v4) (v : Value) (h : (Instr.build t #[(0, v0), (1, v1), (2, v2), (3, v3), (4, v4)]).run P w = .ok v w)
    (hK : wpList P ops Q rest (a.put o.dst v) w) : wpList P ops Q (o :: rest) a w := by
  refine wpList_plain hgd fun K hK' => ?_
  subst e0 e1 e2 e3 e4
  have hm : (#[(0, p0), (1, p1), (2, p2), (3, p3), (4, p4)] : Array (Nat × Operand)).map (fun (i, x) => (i, a.eval x)) = #[(0, a.eval p0), (1, a.eval p1), (2, a.eval p2), (3, a.eval p3), (4, a.eval p4)] := by simp
  unfold Oper.wp execOp
  simp only [ho, hm, Sem.run_bind, Sem.run_pure, Result.andThen_ok, h]
  exact hK' _ _ hK
/-- 'alloc' of a type whose zero value is known. -/
theorem wpList_alloc_zero (hgd : o.guard = none) (t : TypeId) (ho : o.op = .alloc t) (z : Array Value) (n : Nat) (hz : (P.info? t).map (fun i => (i.zero, i.size)) = some (some (.agg z), n))
    (hK : wpList P ops Q rest (a.put o.dst (.pointer (some ⟨w.heap.size, 0, none⟩))) (w.alloc (.cells z t))) : wpList P ops Q (o :: rest) a w := by
  refine wpList_plain hgd fun K hK' => ?_
  have h := (zero_of_info hz).1
  unfold Oper.wp execOp
  simp only [ho, Instr.alloc]
  simp [h, newVar, newRow, Value.cells]
  exact hK' _ _ hK
/-- A whole struct or array into the block that was made last. -/
theorem wpList_store_last (hgd : o.guard = none) (t : TypeId) (p x : Operand) (ho : o.op = .store t p x) (W : World) (c c' : Array Value) (hw : w = W.alloc (.cells c t)) (hp : a.eval p = .pointer (some ⟨W.heap.size, 0, none⟩)) (hx : a.eval x = .agg c')
    (hi : (P.info? t).map (·.size) = some c'.size) (hs : c.size = c'.size) (h1 : c'.all (·.oneCell') = true)
    (hK : wpList P ops Q rest (a.put o.dst undef) (W.alloc (.cells c' t))) : wpList P ops Q (o :: rest) a w := by
  refine wpList_plain hgd fun K hK' => ?_
  subst hw
  unfold Oper.wp execOp
  simp only [ho, hp, hx, Sem.run_bind, Sem.run_pure, Result.andThen_ok, run_storeAt_new W t c c' hi hs h1]
  exact hK' _ _ hK
end
end Go.Proofs.Ybulkcpxw
