/-
  THE PLAIN LAW behind quorumhall.quorumProof: which vote a replica's last one is; what the map holds; what its values are when sorted. No walk here.
-/
import Derived.Test.YbulkcpxwVotes
import Derived.Test.YbulkcpxwCollect
import Derived.Test.YbulkcpxwSort
import Derived.Maps.OwnSet
namespace Go.Proofs.Ybulkcpxw
open Go.RowKit Go.Maps

/-- Vote k is in the first vote's view and bears the replica x. -/
def Meets (f : Nat → VD) (x : Int) (k : Nat) : Prop := ((f k).view : Int) % 3 = ((f 0).view : Int) % 3 ∧ ((f k).rep : Int) % 16 = x
/-- The last vote of the first k that meets x. -/
def lastOf (f : Nat → VD) (x : Int) : Nat → Option Nat
  | 0 => none
  | k + 1 => if ((f k).view : Int) % 3 = ((f 0).view : Int) % 3 ∧ ((f k).rep : Int) % 16 = x then some k else lastOf f x k
theorem lastOf_yes {f : Nat → VD} {x : Int} {k : Nat} (h : Meets f x k) : lastOf f x (k + 1) = some k := if_pos (show ((f k).view : Int) % 3 = ((f 0).view : Int) % 3 ∧ ((f k).rep : Int) % 16 = x from h)
theorem lastOf_no {f : Nat → VD} {x : Int} {k : Nat} (h : ¬ Meets f x k) : lastOf f x (k + 1) = lastOf f x k := if_neg (show ¬ (((f k).view : Int) % 3 = ((f 0).view : Int) % 3 ∧ ((f k).rep : Int) % 16 = x) from h)
theorem lastOf_meets {f : Nat → VD} {x : Int} : ∀ {k j : Nat}, lastOf f x k = some j → j < k ∧ Meets f x j
  | 0, _, h => by cases h
  | k + 1, j, h => by
    by_cases hm : Meets f x k
    · rw [lastOf_yes hm] at h
      cases h
      exact ⟨by omega, hm⟩
    · rw [lastOf_no hm] at h
      have := lastOf_meets h
      exact ⟨by omega, this.2⟩
theorem lastOf_some {f : Nat → VD} {x : Int} : ∀ {k j : Nat}, j < k → Meets f x j → ∃ i, lastOf f x k = some i
  | 0, _, h, _ => by omega
  | k + 1, j, h, m => by
    by_cases hk : Meets f x k
    · exact ⟨_, lastOf_yes hk⟩
    · have : j ≠ k := fun e => hk (e ▸ m)
      rw [lastOf_no hk]
      exact lastOf_some (by omega) m
/-- What holds of every pair holds of every pair in the weaker sense. -/
theorem pw_mem {α : Type} {R S : α → α → Prop} : ∀ {l : List α}, (∀ a ∈ l, ∀ b ∈ l, R a b → S a b) → l.Pairwise R → l.Pairwise S
  | [], _, _ => List.Pairwise.nil
  | a :: l, h, hp => by
    rw [List.pairwise_cons] at hp
    rw [List.pairwise_cons]
    exact ⟨fun b hb => h a (by simp) b (by simp [hb]) (hp.1 b hb), pw_mem (fun x hx y hy => h x (by simp [hx]) y (by simp [hy])) hp.2⟩
/-- The list that the law's own loop builds: by rising replica, each one's last vote. -/
def want (f : Nat → VD) (n id : Nat) : List Nat := (List.range id).filterMap fun i : Nat => lastOf f (i : Int) n
theorem want_zero (f : Nat → VD) (n : Nat) : want f n 0 = [] := rfl
theorem want_some {f : Nat → VD} {n id j : Nat} (h : lastOf f (id : Int) n = some j) : want f n (id + 1) = want f n id ++ [j] := by simp [want, List.range_succ, List.filterMap_append, h]
theorem want_none {f : Nat → VD} {n id : Nat} (h : lastOf f (id : Int) n = none) : want f n (id + 1) = want f n id := by simp [want, List.range_succ, List.filterMap_append, h]
theorem want_le (f : Nat → VD) (n id : Nat) : (want f n id).length ≤ id := by
  have := List.length_filterMap_le (fun i : Nat => lastOf f (i : Int) n) (List.range id)
  simpa [want] using this
theorem mem_want {f : Nat → VD} {n j : Nat} (h : j ∈ want f n 16) : j < n ∧ ∃ i : Nat, i < 16 ∧ lastOf f (i : Int) n = some j := by
  obtain ⟨i, hi, h⟩ := List.mem_filterMap.1 h
  exact ⟨(lastOf_meets h).1, i, by simpa using hi, h⟩
theorem want_rising (f : Nat → VD) (n id : Nat) : (want f n id).Pairwise (fun a b => ((f a).rep : Int) % 16 < ((f b).rep : Int) % 16) := by
  refine List.pairwise_filterMap.2 (pw_mem ?_ (List.pairwise_lt_range (n := id)))
  intro a _ b _ hab x hx y hy
  have h1 := (lastOf_meets hx).2.2
  have h2 := (lastOf_meets hy).2.2
  omega
theorem want_ne {f : Nat → VD} {n : Nat} (hn : 0 < n) : want f n 16 ≠ [] := by
  obtain ⟨i, hi⟩ := lastOf_some (f := f) (x := ((f 0).rep : Int) % 16) hn ⟨rfl, rfl⟩
  have : i ∈ want f n 16 := List.mem_filterMap.2 ⟨(f 0).rep % 16, by simp; omega, by rw [← hi]; congr 1⟩
  intro e
  rw [e] at this
  cases this

/-- WHAT THE MAP HOLDS behind k votes. -/
def MapIs (D : DataW Unit) (vb : Nat → Nat) (f : Nat → VD) (k : Nat) : Prop := ∀ (x : Int) (zd : DataW Unit), D.atKey (.int .u32 x) zd = match lastOf f x k with | some j => .lit (.int .i64 (vb j)) | none => zd
theorem MapIs.start (vb : Nat → Nat) (f : Nat → VD) : MapIs (.map []) vb f 0 := fun _ _ => rfl
theorem MapIs.miss {D : DataW Unit} {vb : Nat → Nat} {f : Nat → VD} {k : Nat} (h : MapIs D vb f k) (hv : ((f k).view : Int) % 3 ≠ ((f 0).view : Int) % 3) : MapIs D vb f (k + 1) := fun x zd => by
  rw [lastOf_no (fun m => hv m.1)]; exact h x zd
theorem MapIs.hit {D : DataW Unit} {vb : Nat → Nat} {f : Nat → VD} {k : Nat} (h : MapIs D vb f k) (hm : IsMap D) (hv : ((f k).view : Int) % 3 = ((f 0).view : Int) % 3) :
    MapIs (D.put (.int .u32 (((f k).rep : Int) % 16)) (.lit (.int .i64 (vb k)))) vb f (k + 1) := fun x zd => by
  by_cases e : ((f k).rep : Int) % 16 = x
  · rw [lastOf_yes ⟨hv, e⟩, ← e]
    exact atKey_put_same hm (k := .int .u32 (((f k).rep : Int) % 16)) trivial _ _
  · rw [lastOf_no (fun m => e m.2), atKey_put_other (by simpa using fun h => e h.symm)]
    exact h x zd
theorem MapIs.has {D : DataW Unit} {vb : Nat → Nat} {f : Nat → VD} {k : Nat} (h : MapIs D vb f k) (x : Int) : Maps.has D (.int .u32 x) = (lastOf f x k).isSome := by
  cases e : lastOf f x k with
  | none => exact has_false_of_atKey fun z => by rw [h x z, e]
  | some j => exact has_true_of_atKey (y := .lit (.int .i64 (vb j))) fun z => by rw [h x z, e]

/-- The replica's range. -/
theorem lastOf_range {f : Nat → VD} {x : Int} {k j : Nat} (h : lastOf f x k = some j) : ∃ i : Nat, i < 16 ∧ x = i := by
  have := (lastOf_meets h).2.2
  exact ⟨(f j).rep % 16, by omega, by omega⟩

def wantP (f : Nat → VD) (vb : Nat → Nat) (n : Nat) : List (Int × Nat) := (List.range 16).filterMap fun i : Nat => (lastOf f (i : Int) n).map fun j => ((i : Int), vb j)
theorem wantP_snd (f : Nat → VD) (vb : Nat → Nat) (n : Nat) : (wantP f vb n).map (·.2) = (want f n 16).map vb := by
  simp only [wantP, want, List.map_filterMap]
  congr 1
  funext i
  cases lastOf f (i : Int) n <;> rfl
theorem mem_wantP {f : Nat → VD} {vb : Nat → Nat} {n : Nat} {p : Int × Nat} : p ∈ wantP f vb n ↔ ∃ j, lastOf f p.1 n = some j ∧ p.2 = vb j := by
  constructor
  · intro h
    obtain ⟨i, hi, h⟩ := List.mem_filterMap.1 h
    obtain ⟨j, hj, rfl⟩ := Option.map_eq_some_iff.1 h
    exact ⟨j, hj, rfl⟩
  · rintro ⟨j, hj, e⟩
    obtain ⟨i, hi, hx⟩ := lastOf_range hj
    refine List.mem_filterMap.2 ⟨i, by simpa using hi, ?_⟩
    rw [← hx, hj]
    obtain ⟨a, b⟩ := p
    simp at e ⊢
    exact e.symm
theorem wantP_keys (f : Nat → VD) (vb : Nat → Nat) (n : Nat) : ((wantP f vb n).map (·.1)).Nodup := by
  have : ((wantP f vb n).map (·.1)).Pairwise (fun a b => a < b) := by
    rw [List.pairwise_map]
    refine List.pairwise_filterMap.2 (pw_mem ?_ (List.pairwise_lt_range (n := 16)))
    intro a _ b _ hab x hx y hy
    obtain ⟨_, _, rfl⟩ := Option.map_eq_some_iff.1 hx
    obtain ⟨_, _, rfl⟩ := Option.map_eq_some_iff.1 hy
    simp; omega
  exact pw_mem (fun a _ b _ h => by omega) this

/-- WHAT THE ITERATOR GAVE is a permutation of what the law wants. -/
theorem AllOf.perm {D : DataW Unit} {vb : Nat → Nat} {f : Nat → VD} {n : Nat} {ps : List (Int × Nat)} (h : AllOf D ps) (hD : MapIs D vb f n) : ps.Perm (wantP f vb n) := by
  have n1 : ps.Nodup := pw_mem (fun a _ b _ h e => h (by rw [e])) (List.pairwise_map.1 h.1)
  have n2 : (wantP f vb n).Nodup := pw_mem (fun a _ b _ h e => h (by rw [e])) (List.pairwise_map.1 (wantP_keys f vb n))
  have val : ∀ p ∈ ps, ∃ j, lastOf f p.1 n = some j ∧ p.2 = vb j := fun p hp => by
    have hh := (h.2.1 p.1).1 (List.mem_map.2 ⟨p, hp, rfl⟩)
    rw [hD.has, Option.isSome_iff_exists] at hh
    obtain ⟨j, hj⟩ := hh
    refine ⟨j, hj, ?_⟩
    have := h.2.2 p hp .nil
    rw [hD p.1, hj] at this
    simp at this
    omega
  refine (List.perm_ext_iff_of_nodup n1 n2).2 fun p => ?_
  rw [mem_wantP]
  refine ⟨val p, ?_⟩
  rintro ⟨j, hj, e⟩
  have hh : Maps.has D (.int .u32 p.1) = true := by rw [hD.has, hj]; rfl
  obtain ⟨q, hq, hqe⟩ := List.mem_map.1 ((h.2.1 p.1).2 hh)
  obtain ⟨j', hj', e'⟩ := val q hq
  rw [hqe, hj] at hj'
  cases hj'
  have : q = p := Prod.ext hqe (e'.trans e.symm)
  exact this ▸ hq
theorem AllOf.size {D : DataW Unit} {vb : Nat → Nat} {f : Nat → VD} {n : Nat} {ps : List (Int × Nat)} (h : AllOf D ps) (hD : MapIs D vb f n) : ps.length = (want f n 16).length := by
  rw [(h.perm hD).length_eq]
  have := congrArg List.length (wantP_snd f vb n)
  simpa using this

/-- The replica that a vote's block bears. -/
def repAt (w : World) (b : Nat) : Int := match w.cell? ⟨b, 35, none⟩ with | some (.int .u32 x) => x | _ => 0
theorem repAt_vote {w : World} {b : Nat} {f : VD} (h : IsVote w b f) : repAt w b = (f.rep : Int) % 16 := by unfold repAt; rw [h.rep]
theorem repAt_cell {w : World} {b : Nat} {f : VD} (h : IsVote w b f) : w.cell? ⟨b, 35, none⟩ = some (.int .u32 (repAt w b)) := by rw [repAt_vote h]; exact h.rep

/-- SORTED BY REPLICA, it is what the law wants, in its order. -/
theorem sorted_is {w : World} {vb : Nat → Nat} {f : Nat → VD} {n : Nat} {ps : List (Int × Nat)} {l : List Nat} (hv : Votes w vb f n) (hp : ps.Perm (wantP f vb n)) (hl : l.Perm (ps.map (·.2)))
    (hr : l.Pairwise (fun a b => repAt w a ≤ repAt w b)) : l = (want f n 16).map vb := by
  have p2 : l.Perm ((want f n 16).map vb) := by rw [← wantP_snd]; exact hl.trans (hp.map _)
  have at' : ∀ j ∈ want f n 16, repAt w (vb j) = ((f j).rep : Int) % 16 := fun j hj => repAt_vote (hv j (mem_want hj).1)
  refine List.Perm.eq_of_pairwise (le := fun a b => repAt w a ≤ repAt w b) ?_ hr ?_ p2
  · intro a b ha hb h1 h2
    obtain ⟨i, hi, rfl⟩ := List.mem_map.1 (p2.mem_iff.1 ha)
    obtain ⟨j, hj, rfl⟩ := List.mem_map.1 hb
    rw [at' i hi, at' j hj] at h1 h2
    obtain ⟨_, x, hx, ex⟩ := mem_want hi
    obtain ⟨_, y, hy, ey⟩ := mem_want hj
    have m1 := (lastOf_meets ex).2.2
    have m2 := (lastOf_meets ey).2.2
    have : x = y := by omega
    subst this
    rw [ex] at ey
    cases ey
    rfl
  · rw [List.pairwise_map]
    refine pw_mem ?_ (want_rising f n 16)
    intro a ha b hb h
    rw [at' a ha, at' b hb]
    omega
end Go.Proofs.Ybulkcpxw
