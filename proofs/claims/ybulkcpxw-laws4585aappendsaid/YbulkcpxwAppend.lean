/-
  THE WALK of quorumhall.LawS4585AAppend (function 3).
-/
import Derived.Test.YbulkcpxwWhole
import Derived.Deep.DeepCutAuto
namespace Go.Proofs.Ybulkcpxw
open Go.RowKit

/-- A slice of bytes that came in, as numbers. -/
def IsBytes (w : World) (a : Option Addr) (len : Nat) (ps : Nat → Nat) : Prop :=
  ∀ i, i < len → ∃ b off, a = some ⟨b, off, none⟩ ∧ b < w.heap.size ∧ w.cell? ⟨b, off + i, none⟩ = some (.int .u8 (ps i)) ∧ ps i ≤ 255
/-- .. as cells. -/
def row (ps : Nat → Nat) (len : Nat) : List Value := (List.range len).map fun i => Value.int .u8 (ps i)
theorem row_length (ps : Nat → Nat) (len : Nat) : (row ps len).length = len := by simp [row]
theorem row_get (ps : Nat → Nat) (len i : Nat) (h : i < len) : (row ps len)[i]? = some (.int .u8 (ps i)) := by simp [row, h]
theorem row_one (ps : Nat → Nat) (len : Nat) : ∀ u ∈ row ps len, u.oneCell' = true := by
  intro u hu
  obtain ⟨i, _, rfl⟩ := List.mem_map.1 hu
  rfl
theorem row_inv {ps : Nat → Nat} {len j : Nat} {u : Value} (h : (row ps len)[j]? = some u) : j < len ∧ u = .int .u8 (ps j) := by
  have hj : j < len := by
    have := (List.getElem?_eq_some_iff.1 h).1
    rwa [row_length] at this
  rw [row_get ps len j hj] at h
  injection h with h
  exact ⟨hj, h.symm⟩

theorem Lies.app {w : World} {g o : Nat} {xs ys : List Value} (h : Lies w g o (xs ++ ys)) : Lies w g (o + xs.length) ys := by
  intro j u hj
  have := h (xs.length + j) u (by rw [List.getElem?_append_right (by omega)]; simpa using hj)
  rw [← Nat.add_assoc] at this
  exact this
theorem Lies.head {w : World} {g o : Nat} {xs ys : List Value} (h : Lies w g o (xs ++ ys)) : Lies w g o xs := by
  intro j u hj
  have hl := (List.getElem?_eq_some_iff.1 hj).1
  exact h j u (by rw [List.getElem?_append_left hl]; exact hj)
/-- An owned row, written out. -/
theorem owns_lies {w : World} {B n : Nat} {v : Value} {xs : List Value} (h : w.ownsRow B 5 1 v n xs) (hn : 0 < n) : ∃ g cap, v = .slice (some ⟨g, 0, none⟩) n cap ∧ Lies w g 0 xs := by
  obtain ⟨hl, h⟩ := h
  rcases h with ⟨_, rfl⟩ | ⟨g, cap, cur, rfl, hB, hg, hnc, hcm, hsz, htake⟩
  · omega
  · refine ⟨g, cap, rfl, fun j u hj => ?_⟩
    rw [Nat.zero_add, cell_of_row w g j cur 5 (0, 0) hg]
    rw [← htake, List.getElem?_take] at hj
    split at hj
    · simpa using hj
    · cases hj
theorem made_block {w : World} {B n g : Nat} {xs : List Value} (h : w.ownsRow B 5 1 (.slice (some ⟨g, 0, none⟩) n n) n xs) : ∃ cur : List Value, cur.length = n ∧ w.heap[g]? = some (.cells cur.toArray 5 (0, 0)) := by
  obtain ⟨hl, h⟩ := h
  rcases h with ⟨h, _⟩ | ⟨g', cap, cur, e, hB, hg, hnc, hcm, hsz, htake⟩
  · cases h
  · injection e with e1 e2 e3
    injection e1 with e1
    injection e1 with e1
    subst e1
    subst e3
    exact ⟨cur.toList, by simp; omega, by simpa using hg⟩
theorem splice_all (cur xs : List Value) (h : cur.length = xs.length) : splice cur 0 xs = xs := by
  unfold splice
  rw [List.drop_of_length_le (by omega)]
  simp

theorem cells_one {view seq : Nat} {D C : List Value} {a5 : Option Addr} {l5 c5 : Nat} (h1 : ∀ u ∈ D, u.oneCell' = true) (h2 : ∀ u ∈ C, u.oneCell' = true) : (cells67 view seq D C (.slice a5 l5 c5)).toArray.all (·.oneCell') = true := by
  rw [Array.all_eq_true_iff_forall_mem]
  intro u hu
  simp [cells67] at hu
  rcases hu with rfl | rfl | hu | hu | rfl
  · rfl
  · rfl
  · exact h1 u hu
  · exact h2 u hu
  · rfl

theorem info24 : (Yba.prog.info? 24).map (·.size) = some 32 := by kernel_rfl
theorem info26 : (Yba.prog.info? 26).map (·.size) = some 67 := by kernel_rfl
theorem info5s : (Yba.prog.info? 5).map (·.size) = some 1 := by kernel_rfl

theorem cells_view (view seq : Nat) (D C : List Value) (sv : Value) : (cells67 view seq D C sv).toArray[0]? = some (.int .u64 view) := by simp [cells67]
theorem cells_seq (view seq : Nat) (D C : List Value) (sv : Value) : (cells67 view seq D C sv).toArray[1]? = some (.int .u64 seq) := by simp [cells67]
theorem cells_digest (view seq : Nat) (D C : List Value) (sv : Value) (j : Nat) (u : Value) (h : D[j]? = some u) : (cells67 view seq D C sv).toArray[2 + j]? = some u := by
  have hl := (List.getElem?_eq_some_iff.1 h).1
  have e : (cells67 view seq D C sv).toArray[2 + j]? = (D ++ (C ++ [sv]))[j]? := by
    rw [List.getElem?_toArray, Nat.add_comm]; rfl
  rw [e, List.getElem?_append_left hl]
  exact h
theorem lies_block {w : World} {g : Nat} {xs : List Value} (h : w.heap[g]? = some (.cells xs.toArray 5 (0, 0))) : Lies w g 0 xs := by
  intro j u hj
  rw [Nat.zero_add, cell_of_row w g j _ 5 (0, 0) h]
  simpa using hj

set_option maxHeartbeats 1000000 in
theorem append_any (a : Option Addr) (len cap : Nat) (ps : Nat → Nat) (seq view : Nat) (D C : List Value) (a5 : Option Addr) (l5 c5 : Nat) (w : World) (hseq : seq < 18446744073709551616) (hview : view < 18446744073709551616)
    (ha : (a = none ∧ len = 0) ∨ ∃ y, a = some y) (hb : IsBytes w a len ps) (hlen : len ≤ 1048576) (hD : IsDigest D) (hD1 : ∀ u ∈ D, u.oneCell' = true) (hC : C.length = 32) (hC1 : ∀ u ∈ C, u.oneCell' = true) :
    Calls Yba.prog 3 #[.slice a len cap, .int .u64 seq, .int .u64 view, .agg D.toArray, .agg C.toArray, .slice a5 l5 c5] w fun e w' => e = .returned (.bool true) ∧ Below w.heap.size w w' := by
  obtain ⟨i0, hi, hz0, hz1, hz2⟩ := info_parts info5
  have HB : Hid (IsBytes w a len ps) := hb
  have HDg : Hid (IsDigest D) := hD
  have HD1 : Hid (∀ u ∈ D, u.oneCell' = true) := hD1
  have HC : Hid (C.length = 32) := hC
  have HC1 : Hid (∀ u ∈ C, u.oneCell' = true) := hC1
  clear hb hD hD1 hC hC1
  go_enter Yba.func3, Yba.ntmps3
  go_wp2_with (at_make; refine wpList_make_full _ rfl _ _ 22 rfl (w.heap.size + 1 + 1) 5 i0 (.int .u8 0) 1 Yba.underlying22 hi hz0 hz1 _ _ _ _ len rfl rfl rfl rfl ?m1 ?m2 ?m3 ?_)
  case m1 => rw [hz2]; omega
  case m2 => unfold maxLen; omega
  case m3 => simp
  intro W1 own1 grow1
  obtain ⟨cur, hcur, hg1⟩ := made_block own1
  have bel1 : Below (w.heap.size + 1 + 1) ((w.alloc (.cells D.toArray 24)).alloc (.cells C.toArray 24)) W1 := (Below.refl _ _).grown grow1 (by simp) (fun k hk => by cases hk)
  have BW1 : Hid (Below w.heap.size w W1) := (((Below.refl _ w).alloc (Nat.le_refl _) _).alloc (by simp) _).trans (bel1.mono (by omega))
  have HG1 : Hid (W1.heap[w.heap.size + 1 + 1]? = some (.cells cur.toArray 5 (0, 0))) := hg1
  have HCU : Hid (cur.length = len) := hcur
  have HL : Hid ((row ps len).length = len) := row_length ps len
  have BEL1 : Hid (Below (w.heap.size + 1 + 1) ((w.alloc (.cells D.toArray 24)).alloc (.cells C.toArray 24)) W1) := bel1
  clear own1 grow1 hg1 hcur bel1
  go_wp2_with (refine wpList_copy_splice rfl (.tmp 24) (.tmp 25) 22 22 rfl 5 Yba.underlying22 info5s _ _ len len len cap rfl rfl (w.heap.size + 1 + 1) 0 cur 5 HG1.out (row ps len) ?k1 ?k2 ?k3 (row_one ps len) (w.heap.size + 1 + 1) _ BEL1.out (Nat.le_refl _) ?_)
  case k1 => rw [HL.out]; simp
  case k2 =>
    intro hpos
    rw [HL.out] at hpos
    obtain ⟨b, off, e, hlt, _, _⟩ := HB.out 0 hpos
    refine ⟨⟨b, off, none⟩, e, fun j v hj => ?_⟩
    obtain ⟨hj', rfl⟩ := row_inv hj
    obtain ⟨b', off', e', hlt', hc', _⟩ := HB.out j hj'
    rw [e] at e'
    injection e' with e'
    injection e' with e1 e2
    subst e1 e2
    rw [Go.WideShapes.add_plain, BW1.out.cell (p := ⟨b, off + j, none⟩) hlt']
    exact hc'
  case k3 => rw [HL.out, HCU.out]; omega
  intro W2 HG2 bel2
  have hx : splice cur 0 (row ps len) = row ps len := splice_all cur (row ps len) (by rw [HL.out, HCU.out])
  have GC : Hid (W2.heap[w.heap.size + 1 + 1]? = some (.cells (row ps len).toArray 5 (0, 0))) := by have := HG2.out; rw [hx] at this; exact this
  have gD : W2.heap[w.heap.size]? = some (.cells D.toArray 24 (0, 0)) := by
    rw [bel2.block _ (by omega)]; exact heap_alloc2_old w _ _
  have gC : W2.heap[w.heap.size + 1]? = some (.cells C.toArray 24 (0, 0)) := by
    rw [bel2.block _ (by omega)]; exact heap_alloc2_new w _ _
  have BW2 : Hid (Below w.heap.size w W2) := (((Below.refl _ w).alloc (Nat.le_refl _) _).alloc (by simp) _).trans (bel2.mono (by omega))
  have hs2 : w.heap.size + 1 + 1 < W2.heap.size := (Array.getElem?_eq_some_iff.1 GC.out).1
  have HGD : Hid (W2.heap[w.heap.size]? = some (.cells D.toArray 24 (0, 0))) := gD
  have HGC : Hid (W2.heap[w.heap.size + 1]? = some (.cells C.toArray 24 (0, 0))) := gC
  clear hx HG2 gD gC bel2 HG1 BEL1 BW1 HCU
  have iD : (Yba.prog.info? 24).map (·.size) = some D.toArray.size := by rw [info24]; simp [HDg.out.1]
  have iC : (Yba.prog.info? 24).map (·.size) = some C.toArray.size := by rw [info24]; simp [HC.out]
  have HID : Hid ((Yba.prog.info? 24).map (·.size) = some D.toArray.size) := iD
  have HIC : Hid ((Yba.prog.info? 24).map (·.size) = some C.toArray.size) := iC
  clear iD iC
  have HI67 : Hid ((Yba.prog.info? 26).map (·.size) = some (cells67 view seq D C (.slice a5 l5 c5)).toArray.size) := by
    show _ = _
    rw [info26]; simp [cells67, HDg.out.1, HC.out]
  have HS67 : Hid (z67.size = (cells67 view seq D C (.slice a5 l5 c5)).toArray.size) := by
    show _ = _
    rw [z67_size]; simp [cells67, HDg.out.1, HC.out]
  have H167 : Hid ((cells67 view seq D C (.slice a5 l5 c5)).toArray.all (·.oneCell') = true) := cells_one HD1.out HC1.out
  have tokA : True := trivial
  have tokB : True := trivial
  have tokC : True := trivial
  have tokD : True := trivial
  have tokE : True := trivial
  go_wp2_with (first
    | (have _t := tokA; refine wpList_load_row rfl 24 (.tmp 9) rfl w.heap.size rfl 24 D.toArray (0, 0) _ HGD.out Yba.underlying24 rfl HID.out ?_; clear tokA)
    | (have _t := tokB; refine wpList_load_row rfl 24 (.tmp 10) rfl (w.heap.size + 1) rfl 24 C.toArray (0, 0) _ HGC.out Yba.underlying24 rfl HIC.out ?_; clear tokB)
    | (have _t := tokC; refine wpList_build_run rfl 26 (.tmp 27) (.tmp 28) (.tmp 29) (.tmp 30) (.tmp 31) rfl _ _ _ _ _ rfl rfl rfl rfl rfl _ (build_run view seq D C HDg.out.1 HC.out a5 l5 c5 _) ?_; clear tokC)
    | (have _t := tokD; refine wpList_alloc_zero rfl 26 rfl z67 67 zero26 ?_; clear tokD)
    | (have _t := tokE; refine wpList_store_last rfl 26 (.tmp 14) (.tmp 32) rfl W2 z67 (cells67 view seq D C (.slice a5 l5 c5)).toArray rfl rfl rfl HI67.out HS67.out H167.out ?_; clear tokE)
    | (refine wpList_load_row rfl 26 (.tmp 14) rfl W2.heap.size rfl 26 (cells67 view seq D C (.slice a5 l5 c5)).toArray (0, 0) _ (heap_alloc_last W2 _) Yba.underlying26 rfl HI67.out ?_))
  have LC : Hid (Lies W2 (w.heap.size + 1 + 1) 0 (row ps len)) := lies_block GC.out
  have HCL : Hid (∀ j u, (row ps len)[j]? = some u → (W2.alloc (.cells (cells67 view seq D C (.slice a5 l5 c5)).toArray 26)).cell? ⟨w.heap.size + 1 + 1, j, none⟩ = some u) := by
    intro j u hj
    have := (LC.out.alloc (.cells (cells67 view seq D C (.slice a5 l5 c5)).toArray 26)) j u hj
    rw [Nat.zero_add] at this
    exact this
  refine (prepared_any (w.heap.size + 1 + 1) len view seq (cells67 view seq D C (.slice a5 l5 c5)).toArray D (row ps len) _ hview hseq HL.out HCL.out hlen
    (cells_view _ _ _ _ _) (cells_seq _ _ _ _ _) HDg.out.1 (cells_digest _ _ _ _ _) HD1.out).mono ?_
  rintro e W4 ⟨v', rfl, own4, bel4⟩
  obtain ⟨gr, capr, hv', LR⟩ := owns_lies own4 (by omega)
  rw [hv']
  have hz : (W2.alloc (.cells (cells67 view seq D C (.slice a5 l5 c5)).toArray 26)).heap.size = W2.heap.size + 1 := by simp
  rw [hz] at bel4
  have bel24 : Below W2.heap.size W2 W4 := ((Below.refl _ W2).alloc (Nat.le_refl _) _).trans (bel4.mono (by omega))
  have LR4 : Hid (Lies W4 gr 0 (row ps len ++ (be8 seq ++ (be8 view ++ D)))) := LR
  have LC4 : Hid (Lies W4 (w.heap.size + 1 + 1) 0 (row ps len)) := LC.out.below bel24
  have GD4 : Hid (W4.heap[w.heap.size]? = some (.cells D.toArray 24 (0, 0))) := by show _ = _; rw [bel24.block _ (by omega)]; exact HGD.out
  have B4 : Hid (Below w.heap.size w W4) := BW2.out.trans (bel24.mono (by omega))
  clear HCL hz own4 bel4 hv' LR bel24 LC GC HGD HGC BW2 hs2 HI67 HS67 H167 HIC HC1 HC HD1
  go_wp2_with fail
  go_loopw [17] (fun i wr => ∃ k q : Nat, k ≤ len ∧ i = .int .i64 k ∧ wr = W4.drewN q) (fun i _ => len - (intOf i).toNat)
  case atStart => exact ⟨0, 0, by omega, rfl, rfl⟩
  case round =>
    obtain ⟨k, q, hk, rfl, rfl⟩ := hrel
    by_cases hlt : (k : Int) < len
    · obtain ⟨b, off, rfl, hb, hcb, hp⟩ := HB.out k (by omega)
      have c1 := (B4.out.cell (p := ⟨b, off + k, none⟩) hb).trans hcb
      have c2 := LR4.out.head k _ (row_get ps len k (by omega))
      have c3 := LC4.out k _ (row_get ps len k (by omega))
      rw [Nat.zero_add] at c2 c3
      clear hcb
      go_wp2_with fail
      go_quiet (fail)
      go_wp2_with fail
      go_roundw
      case rel => exact ⟨k + 1, _, by omega, by go_num, rfl⟩
      case measure => simp [intOf]; omega
    · have hl0 := LR4.out.app
      have hl1 := hl0.head
      have hl2 := hl0.app.head
      have hl3 := hl0.app.app
      rw [HL.out, Nat.zero_add] at hl1 hl2 hl3
      rw [be8_length] at hl2 hl3
      rw [be8_length, Nat.add_assoc] at hl3
      have H1 : Hid (Lies (W4.drewN q) gr len (be8 seq)) := hl1.drewN q
      have H2 : Hid (Lies (W4.drewN q) gr (len + 8) (be8 view)) := hl2.drewN q
      have H3 : Hid (Lies (W4.drewN q) gr (len + 16) D) := hl3.drewN q
      have GD5 : Hid ((W4.drewN q).heap[w.heap.size]? = some (.cells D.toArray 24 (0, 0))) := GD4.out
      have B5 : Hid (Below w.heap.size w (W4.drewN q)) := below_draws B4.out q
      clear hl0 hl1 hl2 hl3 GD4 B4 LR4 LC4 HB
      generalize W4.drewN q = W5 at *
      go_wp2_with (refine wpList_load_row rfl 24 (.tmp 9) rfl w.heap.size rfl 24 D.toArray (0, 0) _ GD5.out Yba.underlying24 rfl HID.out ?_)
      refine (block_any gr (len + 48) capr len seq view D _ hseq hview (Nat.le_refl _) (by omega) H1.out H2.out H3.out HDg.out).mono ?_
      rintro e W6 ⟨rfl, bel6⟩
      go_wp2_with fail
      go_ret
      exact ⟨rfl, B5.out.trans (bel6.mono B5.out.size)⟩
end Go.Proofs.Ybulkcpxw
