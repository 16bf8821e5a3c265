/-
  THE WALK of (*Object).indexOf (function 11).
-/
import Derived.Test.YbulkcpsmRows
import Derived.Test.YbulkcpsmBPlain
import Derived.WalkKit
import Derived.WalkSpells
import Derived.WalkLawsBesides
import Derived.Deep.QuietTactic
import Derived.BigQuiet
namespace Go.Proofs.Ybulkcpsm
open Go.RowKit

set_option maxHeartbeats 1000000 in
/-- The place tried first holds the name. -/
theorem indexOf_hit (bk : Nat) (v : Value) (b off len cap n : Nat) (ss : Nat → ByteArray) (s : ByteArray) (w : World) (hlen : len ≤ 1024) (hn : (n : Int) < len) (hs : (ss n).toList == s.toList)
    (c1 : w.cell? ⟨bk, 1, none⟩ = some (.slice (some ⟨b, off, none⟩) len cap)) (c4 : w.cell? ⟨bk, 4, none⟩ = some (.int .i64 n)) (f4 : w.frozen? ⟨bk, 4, none⟩ = false)
    (hc : w.cell? ⟨b, off + n, none⟩ = some (.string (ss n)))
    (hv : ∀ q, (convert 27 9 v).run Yba.prog (w.drewN q) = .ok (.string s) (w.drewN q)) :
    Calls Yba.prog 11 #[.pointer (some ⟨bk, 0, none⟩), v] w fun e w' => ∃ q, e = .returned (.int .i64 n) ∧ w' = (w.setCell ⟨bk, 4, none⟩ (.int .i64 (n + 1))).drewN q := by
  go_enter Yba.func11, Yba.ntmps11
  go_wp2
  go_quiet (fail)
  go_wp2
  go_ret
  exact ⟨_, retI (by omega), rfl⟩

/-- What indexOf does, said of the world. -/
def Looked (bk : Nat) (ss : Nat → ByteArray) (len n : Nat) (s : ByteArray) (w : World) (e : Ending) (w' : World) : Prop :=
  ∃ (r : Int) (q : Nat), e = .returned (.int .i64 r) ∧ IsIdx ss len n s r ∧ ((0 ≤ r ∧ w' = (w.setCell ⟨bk, 4, none⟩ (.int .i64 (r + 1))).drewN q) ∨ (r < 0 ∧ w' = w.drewN q))

set_option maxHeartbeats 1000000 in
/-- The place tried first is none of the keys' places. -/
theorem indexOf_past (bk : Nat) (v : Value) (a : Option Addr) (len cap n : Nat) (ss : Nat → ByteArray) (s : ByteArray) (w : World) (hlen : len ≤ 1024) (hn : ¬ (n : Int) < len)
    (c1 : w.cell? ⟨bk, 1, none⟩ = some (.slice a len cap)) (c4 : w.cell? ⟨bk, 4, none⟩ = some (.int .i64 n)) (f4 : w.frozen? ⟨bk, 4, none⟩ = false)
    (hs : IsStrs w a len ss)
    (hv : ∀ q, (convert 27 9 v).run Yba.prog (w.drewN q) = .ok (.string s) (w.drewN q)) :
    Calls Yba.prog 11 #[.pointer (some ⟨bk, 0, none⟩), v] w (Looked bk ss len n s w) := by
  have HS : Hid (IsStrs w a len ss) := hs
  clear hs
  have hd : decide ((n : Int) < len) = false := by simpa using hn
  have hd' : decide (n < len) = false := by simpa using hn
  go_enter Yba.func11, Yba.ntmps11
  go_wp2
  go_quiet (fail)
  go_wp2
  go_loop [49] (fun i => ∃ k : Nat, k ≤ len ∧ i = .int .i64 k ∧ ∀ j, j < k → ss j ≠ s) (fun i => len - (intOf i).toNat)
  case atStart => exact ⟨0, Nat.zero_le _, rfl, fun j hj => by omega⟩
  case round =>
    obtain ⟨k, hk, rfl, hno⟩ := hrel
    have HN : Hid (∀ j, j < k → ss j ≠ s) := hno
    clear hno
    by_cases hlt : (k : Int) < len
    · obtain ⟨b, off, rfl, hb, hc⟩ := HS.out k (by omega)
      by_cases hks : ss k = s
      · have HK : Hid (ss k = s) := hks
        have hkt := same_yes hks
        clear hks
        go_wp2
        go_ret
        exact ⟨_, _, rfl, Or.inr ⟨fun h => (by have := h.1; omega), Or.inl ⟨k, rfl, by omega, HK.out, HN.out⟩⟩, Or.inl ⟨by omega, rfl⟩⟩
      · have HK : Hid (¬ ss k = s) := hks
        have hkt := same_no hks
        clear hks
        go_wp2
        go_round
        case rel => exact ⟨k + 1, by omega, by go_num, fun j hj => if e : j = k then (by rw [e]; exact HK.out) else HN.out j (by omega)⟩
        case measure => simp [intOf]; omega
    · obtain rfl : k = len := by omega
      go_wp2
      go_ret
      exact ⟨_, _, rfl, Or.inr ⟨fun h => HN.out n h.1 h.2, Or.inr ⟨rfl, HN.out⟩⟩, Or.inr ⟨by omega, rfl⟩⟩
set_option maxHeartbeats 1000000 in
/-- The place tried first holds another key. -/
theorem indexOf_miss (bk : Nat) (v : Value) (a : Option Addr) (len cap n : Nat) (ss : Nat → ByteArray) (s : ByteArray) (w : World) (hlen : len ≤ 1024) (hn : (n : Int) < len) (hne : ¬ ss n = s)
    (c1 : w.cell? ⟨bk, 1, none⟩ = some (.slice a len cap)) (c4 : w.cell? ⟨bk, 4, none⟩ = some (.int .i64 n)) (f4 : w.frozen? ⟨bk, 4, none⟩ = false)
    (hs : IsStrs w a len ss)
    (hv : ∀ q, (convert 27 9 v).run Yba.prog (w.drewN q) = .ok (.string s) (w.drewN q)) :
    Calls Yba.prog 11 #[.pointer (some ⟨bk, 0, none⟩), v] w (Looked bk ss len n s w) := by
  have HS : Hid (IsStrs w a len ss) := hs
  clear hs
  have HNE : Hid (¬ ss n = s) := hne
  have hnt := same_no hne
  clear hne
  obtain ⟨b, off, rfl, hb, hcn⟩ := HS.out n (by omega)
  go_enter Yba.func11, Yba.ntmps11
  go_wp2
  go_quiet (fail)
  go_wp2
  go_loop [49] (fun i => ∃ k : Nat, k ≤ len ∧ i = .int .i64 k ∧ ∀ j, j < k → ss j ≠ s) (fun i => len - (intOf i).toNat)
  case atStart => exact ⟨0, Nat.zero_le _, rfl, fun j hj => by omega⟩
  case round =>
    obtain ⟨k, hk, rfl, hno⟩ := hrel
    have HN : Hid (∀ j, j < k → ss j ≠ s) := hno
    clear hno
    by_cases hlt : (k : Int) < len
    · obtain ⟨b', off', hbb, hb', hc⟩ := HS.out k (by omega)
      injection hbb with hbb
      injection hbb with hbb1 hbb2
      subst hbb1 hbb2
      by_cases hks : ss k = s
      · have HK : Hid (ss k = s) := hks
        have hkt := same_yes hks
        clear hks
        go_wp2
        go_ret
        exact ⟨_, _, rfl, Or.inr ⟨fun h => HNE.out h.2, Or.inl ⟨k, rfl, by omega, HK.out, HN.out⟩⟩, Or.inl ⟨by omega, rfl⟩⟩
      · have HK : Hid (¬ ss k = s) := hks
        have hkt := same_no hks
        clear hks
        go_wp2
        go_round
        case rel => exact ⟨k + 1, by omega, by go_num, fun j hj => if e : j = k then (by rw [e]; exact HK.out) else HN.out j (by omega)⟩
        case measure => simp [intOf]; omega
    · obtain rfl : k = len := by omega
      go_wp2
      go_ret
      exact ⟨_, _, rfl, Or.inr ⟨fun h => HN.out n h.1 h.2, Or.inr ⟨rfl, HN.out⟩⟩, Or.inr ⟨by omega, rfl⟩⟩
/-- indexOf, whatever place is tried first. -/
theorem indexOf_any (bk : Nat) (v : Value) (a : Option Addr) (len cap n : Nat) (ss : Nat → ByteArray) (s : ByteArray) (w : World) (hlen : len ≤ 1024)
    (c1 : w.cell? ⟨bk, 1, none⟩ = some (.slice a len cap)) (c4 : w.cell? ⟨bk, 4, none⟩ = some (.int .i64 n)) (f4 : w.frozen? ⟨bk, 4, none⟩ = false)
    (hs : IsStrs w a len ss)
    (hv : ∀ q, (convert 27 9 v).run Yba.prog (w.drewN q) = .ok (.string s) (w.drewN q)) :
    Calls Yba.prog 11 #[.pointer (some ⟨bk, 0, none⟩), v] w (Looked bk ss len n s w) := by
  by_cases hn : (n : Int) < len
  · by_cases hns : ss n = s
    · obtain ⟨b, off, rfl, hb, hc⟩ := hs n (by omega)
      refine (indexOf_hit bk v b off len cap n ss s w hlen hn (same_yes hns) c1 c4 f4 hc hv).mono ?_
      rintro e w' ⟨q, rfl, rfl⟩
      exact ⟨n, q, rfl, Or.inl ⟨by omega, hns, rfl⟩, Or.inl ⟨by omega, rfl⟩⟩
    · exact indexOf_miss bk v a len cap n ss s w hlen hn hns c1 c4 f4 hs hv
  · exact indexOf_past bk v a len cap n ss s w hlen hn c1 c4 f4 hs hv

/-- The slice v reads as the string s, whatever is made or written beyond. -/
def Conv (w : World) (v : Value) (s : ByteArray) : Prop := ∀ W, Below w.heap.size w W → (convert 27 9 v).run Yba.prog W = .ok (.string s) W
theorem Conv.later {w w1 : World} {v : Value} {s : ByteArray} (h : Conv w v s) (hb : Below w.heap.size w w1) : Conv w1 v s :=
  fun W hW => h W (hb.trans (hW.mono hb.size))
theorem IsStrs.later {w w1 : World} {a : Option Addr} {len : Nat} {ss : Nat → ByteArray} (h : IsStrs w a len ss) (hb : Below w.heap.size w w1) : IsStrs w1 a len ss := by
  intro i hi
  obtain ⟨b, off, e, hlt, hc⟩ := h i hi
  exact ⟨b, off, e, Nat.lt_of_lt_of_le hlt hb.size, (hb.cell (p := ⟨b, off + i, none⟩) hlt).trans hc⟩
theorem below_drew {B : Nat} {a w : World} (h : Below B a w) (q : Nat) : Below B a (w.drewN q) := ⟨h.os, h.tape, h.output, h.size, h.block⟩

/-- The object that a law lays, at the head of the block bk: its keys and its next. -/
structure Obj2 (bk : Nat) (w : World) (a : Option Addr) (len cap : Nat) (n : Int) : Prop where
  c1 : w.cell? ⟨bk, 1, none⟩ = some (.slice a len cap)
  c4 : w.cell? ⟨bk, 4, none⟩ = some (.int .i64 n)
  f4 : w.frozen? ⟨bk, 4, none⟩ = false

/-- indexOf, as the laws call it: the object lies beyond what was there. -/
theorem indexOf_call (w : World) (bk : Nat) (v : Value) (a : Option Addr) (len cap n : Nat) (N : Int) (hN : N = n) (ss : Nat → ByteArray) (s : ByteArray) (W : World) (hlen : len ≤ 1024) (hbk : w.heap.size ≤ bk)
    (hW : Below w.heap.size w W) (hO : Obj2 bk W a len cap N) (hs : IsStrs w a len ss) (hv : Conv w v s) :
    Calls Yba.prog 11 #[.pointer (some ⟨bk, 0, none⟩), v] W fun e W' => ∃ r : Int, e = .returned (.int .i64 r) ∧ IsIdx ss len n s r ∧ Below w.heap.size w W' ∧ W'.heap.size = W.heap.size ∧ ((0 ≤ r ∧ Obj2 bk W' a len cap (r + 1)) ∨ (r < 0 ∧ Obj2 bk W' a len cap N)) := by
  subst hN
  refine (indexOf_any bk v a len cap n ss s W hlen hO.c1 hO.c4 hO.f4 (hs.later hW) (fun q => hv _ (below_drew hW q))).mono ?_
  rintro e W' ⟨r, q, rfl, hidx, ⟨h0, rfl⟩ | ⟨h0, rfl⟩⟩
  · refine ⟨r, rfl, hidx, below_drew (hW.setCell hbk _) q, by simp, Or.inl ⟨h0, ?_, ?_, ?_⟩⟩
    · rw [World.cell?_drewN, World.cell?_setCell_other _ _ _ _ (fun e => by injection e; omega)]; exact hO.c1
    · rw [World.cell?_drewN]; exact World.cell?_setCell_same _ _ _ hO.c4
    · rw [World.frozen?_drewN, World.frozen?_setCell]; exact hO.f4
  · exact ⟨r, rfl, hidx, below_drew hW q, by simp, Or.inr ⟨h0, hO.c1, hO.c4, hO.f4⟩⟩
end Go.Proofs.Ybulkcpsm
