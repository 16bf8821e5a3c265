/-
  THE WALKS of cmp.isNaN (25), cmp.Compare[uint32] (22), sortByReplica's closure (21) and sortByReplica (17), the last by the shelf's contract of slices.SortFunc.
-/
import Derived.Test.YbulkcpxwVotes
import Derived.Test.YbulkcpxwSortLaid
import Derived.WalkSpells
import Derived.WalkLawsBesides
import Derived.Deep.QuietTactic
import Derived.BigQuiet
namespace Go.Proofs.Ybulkcpxw
open Go.RowKit Go.Shelf Go.Sort Go.Lib

theorem isNaN_any (x : Int) (w : World) : Calls Yba.prog 25 #[.int .u32 x] w fun e w' => e = .returned (.bool false) ∧ w' = w := by
  go_enter Yba.func25, Yba.ntmps25
  go_wp2
  go_ret
  simp
theorem compare_any (x y : Int) (w : World) : Calls Yba.prog 22 #[.int .u32 x, .int .u32 y] w fun e w' => e = .returned (.int .i64 (Lib.compareInt x y)) ∧ w' = w := by
  unfold Lib.compareInt
  by_cases h1 : x < y
  · rw [if_pos h1]
    go_enter Yba.func22, Yba.ntmps22
    go_wp2_with (go_at_call 25; refine (isNaN_any _ _).mono ?_; rintro e w' ⟨rfl, rfl⟩)
    go_ret
    exact ⟨rfl, rfl⟩
  · rw [if_neg h1]
    by_cases h2 : x > y
    · rw [if_pos h2]
      have h2' : y < x := h2
      go_enter Yba.func22, Yba.ntmps22
      go_wp2_with (go_at_call 25; refine (isNaN_any _ _).mono ?_; rintro e w' ⟨rfl, rfl⟩)
      go_ret
      exact ⟨rfl, rfl⟩
    · rw [if_neg h2]
      have h2' : ¬ y < x := h2
      go_enter Yba.func22, Yba.ntmps22
      go_wp2_with (go_at_call 25; refine (isNaN_any _ _).mono ?_; rintro e w' ⟨rfl, rfl⟩)
      go_ret
      exact ⟨rfl, rfl⟩

theorem closure_any (a b : Nat) (x y : Int) (w : World) (ha : w.cell? ⟨a, 35, none⟩ = some (.int .u32 x)) (hb : w.cell? ⟨b, 35, none⟩ = some (.int .u32 y)) :
    Calls Yba.prog 21 #[.pointer (some ⟨a, 0, none⟩), .pointer (some ⟨b, 0, none⟩)] w fun e w' => e = .returned (.int .i64 (Lib.compareInt x y)) ∧ ∃ q, w' = w.drewN q := by
  go_enter Yba.func21, Yba.ntmps21
  go_wp2_with fail
  go_quiet ((go_at_call 22; exact Calls.quiet_of_same (compare_any _ _ _)))
  go_wp2
  go_ret
  exact ⟨rfl, _, rfl⟩

theorem lt_rep {l : List Nat} (rep : Nat → Int) (x y : {b : Nat // b ∈ l}) : ltOf (fun a b : {b : Nat // b ∈ l} => Lib.compareInt (rep a.1) (rep b.1)) x y = decide (rep x.1 < rep y.1) := by
  unfold ltOf Lib.compareInt
  by_cases h1 : rep x.1 < rep y.1
  · simp [h1]
  · by_cases h2 : rep y.1 < rep x.1 <;> simp [h1, h2]

theorem swo_rep {l : List Nat} (rep : Nat → Int) : SWO (ltOf (fun a b : {b : Nat // b ∈ l} => Lib.compareInt (rep a.1) (rep b.1))) := by
  refine ⟨fun x => ?_, fun x y z h1 h2 => ?_, fun x y z h1 h2 => ?_⟩
  · rw [lt_rep]; simp
  · rw [lt_rep] at *; simp at *; omega
  · rw [lt_rep] at *; simp at *; omega

/-- What lies outside the row lies as it lay. -/
theorem sortWorld_heap {α : Type} [Inhabited α] (enc : α → Value) (w : World) (blk off m : Nat) (dk : Array α) (os : Array Obj) (k : Nat) (hk : k ≠ blk) (hlt : k < w.heap.size) : (sortWorld enc w blk off m dk os).heap[k]? = w.heap[k]? := by
  unfold sortWorld grow putRow mapBlock Sort.ahead
  rw [Array.getElem?_append_left (by simpa using hlt), Array.getElem?_modify, if_neg (fun h => hk h.symm)]
theorem sortWorld_size {α : Type} [Inhabited α] (enc : α → Value) (w : World) (blk off m : Nat) (dk : Array α) (os : Array Obj) : w.heap.size ≤ (sortWorld enc w blk off m dk os).heap.size := by
  unfold sortWorld grow putRow mapBlock Sort.ahead
  simp
theorem cell_of_heap {w w' : World} {p : Addr} (h : w'.heap[p.block]? = w.heap[p.block]?) : w'.cell? p = w.cell? p := by unfold World.cell?; rw [h]
theorem lt_of_cell {w : World} {p : Addr} {v : Value} (h : w.cell? p = some v) : p.block < w.heap.size := by
  unfold World.cell? at h
  split at h
  · rename_i hb; exact (Array.getElem?_eq_some_iff.1 hb).1
  · simp at h

/-- THE ROW BEHIND THE SORT: the same votes, by rising replica; all else as it was. -/
structure SortedTo (w w' : World) (blk : Nat) (l l' : List Nat) (rep : Nat → Int) : Prop where
  perm : l'.Perm l
  rising : l'.Pairwise (fun a b => rep a ≤ rep b)
  cells : ∀ i (h : i < l'.length), w'.cell? ⟨blk, i, none⟩ = some (.pointer (some ⟨l'[i], 0, none⟩))
  other : ∀ k, k ≠ blk → k < w.heap.size → w'.heap[k]? = w.heap[k]?
  size : w.heap.size ≤ w'.heap.size
  rest : w'.os = w.os ∧ w'.tape = w.tape ∧ w'.output = w.output

set_option maxHeartbeats 1000000 in
theorem sort_any (w : World) (blk cap : Nat) (cur : Array Value) (l : List Nat) (rep : Nat → Int) (hne : l ≠ []) (hg : w.heap[blk]? = some (.cells cur 43 (0, 0)))
    (hcur : ∀ i (h : i < l.length), cur[i]? = some (.pointer (some ⟨l[i], 0, none⟩))) (hb : ∀ b ∈ l, b ≠ blk ∧ w.cell? ⟨b, 35, none⟩ = some (.int .u32 (rep b))) (hlen : l.length ≤ 1024) :
    Calls Yba.prog 17 #[.slice (some ⟨blk, 0, none⟩) l.length cap] w fun e w' => e = .returned (.tuple #[]) ∧ ∃ l', SortedTo w w' blk l l' rep := by
  have eg : ∀ args w, (callFunc 21 args).run Yba.prog w = .ok (.enter 21 args) w := enters_of Yba.func21 (by kernel_rfl) rfl
  obtain ⟨x0, l0, rfl⟩ := List.exists_cons_of_ne_nil hne
  obtain ⟨l, hl⟩ : ∃ l, x0 :: l0 = l := ⟨_, rfl⟩
  have x0m : x0 ∈ l := by rw [← hl]; simp
  rw [hl] at hcur hb hlen ⊢
  clear hl hne
  have hinh : Inhabited {b : Nat // b ∈ l} := ⟨⟨x0, x0m⟩⟩
  have hds : l.attach.toArray.size = l.length := by simp
  have hget : ∀ j, j < l.length → l.attach.toArray[j]!.1 = l[j]! := fun j hj => by
    rw [getElem!_pos _ j (by simpa using hj), getElem!_pos _ j hj]; simp
  have hblk : blk < w.heap.size := (Array.getElem?_eq_some_iff.1 hg).1
  have hH : Holds (fun b : {b : Nat // b ∈ l} => Value.pointer (some ⟨b.1, 0, none⟩)) w blk 0 l.attach.toArray := by
    intro j hj
    rw [hds] at hj
    refine ⟨?_, frozen_of_row w blk _ _ 43 hg⟩
    rw [cell_of_row w blk _ _ 43 (0, 0) hg, Nat.zero_add, hcur j hj]
    have e := hget j hj
    rw [getElem!_pos l j hj] at e
    show _ = some (Value.pointer (some ⟨(l.attach.toArray[j]!).1, 0, none⟩))
    rw [e]
  have hcmp : CmpLays1 Yba.prog 21 #[] (fun b : {b : Nat // b ∈ l} => Value.pointer (some ⟨b.1, 0, none⟩)) (fun a b => Lib.compareInt (rep a.1) (rep b.1)) blk 0 l.attach.toArray.size w := by
    refine CmpReads.lays ?_
    intro m os dk hs x y
    refine closure_any _ _ _ _ _ ?_ ?_
    · rw [cell_of_heap (sortWorld_heap _ _ _ _ _ _ _ _ (hb x.1 x.2).1 (lt_of_cell (hb x.1 x.2).2))]; exact (hb x.1 x.2).2
    · rw [cell_of_heap (sortWorld_heap _ _ _ _ _ _ _ _ (hb y.1 y.2).1 (lt_of_cell (hb y.1 y.2).2))]; exact (hb y.1 y.2).2
  have hcon := Any.slices_SortFunc Yba.sortV _ (fun _ => rfl) _ (swo_rep rep) 21 #[] blk 0 cap l.attach.toArray w eg hcmp hH hblk (by rw [hds]; omega)
  change Calls Yba.prog 20 _ _ _ at hcon
  rw [hds] at hcon
  have HH : Hid (Holds (fun b : {b : Nat // b ∈ l} => Value.pointer (some ⟨b.1, 0, none⟩)) w blk 0 l.attach.toArray) := hH
  clear hcmp hH hcur hb hg
  go_enter Yba.func17, Yba.ntmps17
  go_wp2_with (go_at_call 20; refine hcon.mono ?_; rintro e w' ⟨rfl, d', n, os, hp, hs, rfl⟩)
  go_end0
  obtain ⟨hp1, _, hp2⟩ := hp
  refine ⟨rfl, d'.toList.map (·.1), ?_, ?_, ?_, fun k hk hlt => sortWorld_heap _ _ _ _ _ _ _ k hk hlt, sortWorld_size _ _ _ _ _ _ _, ⟨rfl, rfl, rfl⟩⟩
  · have e1 : d'.extract 0 l.length = d' := by rw [← hds, ← hp1]; simp
    have e2 : l.attach.toArray.extract 0 l.length = l.attach.toArray := by rw [← hds, Array.extract_size]
    rw [e1, e2] at hp2
    have := hp2.map (fun x => x.1)
    simpa using this
  · rw [List.pairwise_iff_getElem]
    intro i j hi hj hij
    simp only [List.length_map, Array.length_toList] at hi hj
    have := hs i j (Nat.zero_le _) hij (by rw [← hds, ← hp1]; exact hj)
    rw [lt_rep, getElem!_pos _ i hi, getElem!_pos _ j hj] at this
    simpa using this
  · intro i hi
    simp only [List.length_map, Array.length_toList] at hi
    have := (SW.holds (W := sortWorld (fun b : {b : Nat // b ∈ l} => Value.pointer (some ⟨b.1, 0, none⟩)) w blk 0 n d' os) ⟨n, os, rfl⟩ hblk HH.out hp1 i hi).1
    rw [getElem!_pos _ i hi, Nat.zero_add] at this
    rw [this]
    simp
end Go.Proofs.Ybulkcpxw
