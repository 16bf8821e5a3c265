/-
  THE PLAIN LAWS for check.zzs4575amodel: saturating products. No Go in sight.
-/
import Derived.Test.YbulkcpsmAPlain
namespace Go.Proofs.Ybulkcpsm

/-- 2^k * 3^j as a natural number. -/
def pn (k j : Nat) : Nat := 2 ^ k * 3 ^ j
theorem pn_zero : pn 0 0 = 1 := by simp [pn]
theorem pn_two (k : Nat) : pn (k + 1) 0 = pn k 0 * 2 := by simp [pn, Nat.pow_succ]
theorem pn_three (k j : Nat) : pn k (j + 1) = pn k j * 3 := by simp [pn, Nat.pow_succ, Nat.mul_assoc]
theorem pw_pn (k j : Nat) : pw k j = (pn k j : Int) := by simp [pw, pn]
theorem pn_pos (k j : Nat) : 1 ≤ pn k j := by have := pw_pos k j; rw [pw_pn] at this; omega

/-- Brought down to the greatest uint64. -/
def sat (n : Nat) : Nat := if n < 18446744073709551616 then n else 18446744073709551615
theorem sat_lt (n : Nat) : sat n < 18446744073709551616 := by unfold sat; split <;> omega
theorem sat_pos {n : Nat} (h : 1 ≤ n) : 1 ≤ sat n := by unfold sat; split <;> omega
theorem sat_one : sat 1 = 1 := by unfold sat; simp
theorem sat_lo {n y : Nat} (h : sat n * y < 18446744073709551616) (hy : 2 ≤ y) : sat (n * y) = sat n * y := by
  unfold sat at h ⊢
  by_cases hn : n < 18446744073709551616
  · rw [if_pos hn] at h ⊢; rw [if_pos h]
  · rw [if_neg hn] at h
    have : 18446744073709551615 * 2 ≤ 18446744073709551615 * y := Nat.mul_le_mul_left _ hy
    omega
theorem sat_hi {n y : Nat} (h : 18446744073709551616 ≤ sat n * y) : sat (n * y) = 18446744073709551615 := by
  unfold sat at h ⊢
  rw [if_neg]
  by_cases hn : n < 18446744073709551616
  · rw [if_pos hn] at h; omega
  · rw [if_neg hn] at h
    have : 18446744073709551615 * y ≤ n * y := Nat.mul_le_mul_right _ (by omega)
    omega
/-- At most a limit that an int64 holds. -/
theorem sat_le {n : Nat} {l : Int} (hl : l ≤ 9223372036854775807) : (sat n : Int) ≤ l ↔ (n : Int) ≤ l := by
  unfold sat; split <;> omega
theorem sat_eq {n : Nat} {l : Int} (hl : l ≤ 9223372036854775807) (h : (n : Int) ≤ l) : sat n = n := by
  unfold sat; rw [if_pos (by omega)]

/-- The model's clamps. -/
def cl (m b : Int) : Int := if b < 0 then 0 else if m < b then m else b
theorem cl_bd {m b : Int} (h : 0 ≤ m) : 0 ≤ cl m b ∧ cl m b ≤ m := by unfold cl; split <;> (try split) <;> omega
theorem pw64 : (9223372036854775807 : Int) < pw 64 0 := by decide
theorem pw41 : (9223372036854775807 : Int) < pw 0 41 := by decide
theorem cl_zero {m b : Int} (h : 0 < m) : cl m b ≤ 0 ↔ b ≤ 0 := by unfold cl; split <;> (try split) <;> omega

/-- The clamped product is let just where the product is. -/
theorem clamped {b t l : Int} (hl : l ≤ 9223372036854775807) (h : pw (cl 64 b).toNat (cl 41 t).toNat ≤ l) :
    (cl 64 b).toNat = b.toNat ∧ (cl 41 t).toNat = t.toNat := by
  have h1 : ¬ (64 : Int) < b := by
    intro g
    have e : (cl 64 b).toNat = 64 := by unfold cl; rw [if_neg (by omega), if_pos g]; rfl
    have := pw_mono (k := 64) (j := 0) (k' := (cl 64 b).toNat) (j' := (cl 41 t).toNat) (by omega) (by omega)
    have := pw64
    omega
  have h2 : ¬ (41 : Int) < t := by
    intro g
    have e : (cl 41 t).toNat = 41 := by unfold cl; rw [if_neg (by omega), if_pos g]; rfl
    have := pw_mono (k := 0) (j := 41) (k' := (cl 64 b).toNat) (j' := (cl 41 t).toNat) (by omega) (by omega)
    have := pw41
    omega
  unfold cl
  refine ⟨?_, ?_⟩ <;> (split <;> (try split) <;> omega)

/-- The model says yes. -/
theorem mdl_yes {b t l : Int} (hl : l ≤ 9223372036854775807) (h : (sat (pn (cl 64 b).toNat (cl 41 t).toNat) : Int) ≤ l) :
    cntB b t l = true ∧ cntN b t l = (sat (pn (cl 64 b).toNat (cl 41 t).toNat) : Int) := by
  have h' := (sat_le hl).1 h
  rw [← pw_pn] at h'
  obtain ⟨e1, e2⟩ := clamped hl h'
  rw [e1, e2] at h'
  obtain ⟨c1, c2⟩ := cnt_yes (b := b) (t := t) (Or.inr h')
  rw [c1, c2, e1, e2, sat_eq hl (by rw [← pw_pn]; exact h'), ← pw_pn]
  exact ⟨rfl, rfl⟩
theorem mdl_no {b t l : Int} (hl : l ≤ 9223372036854775807) (hz : 0 < cl 64 b ∨ 0 < cl 41 t) (h : l < (sat (pn (cl 64 b).toNat (cl 41 t).toNat) : Int)) :
    cntB b t l = false ∧ cntN b t l = 0 := by
  have h' : l < pw (cl 64 b).toNat (cl 41 t).toNat := by
    rw [pw_pn]; have := (sat_le (n := pn (cl 64 b).toNat (cl 41 t).toNat) hl).2; omega
  have m : pw (cl 64 b).toNat (cl 41 t).toNat ≤ pw b.toNat t.toNat := pw_mono (by unfold cl; split <;> (try split) <;> omega) (by unfold cl; split <;> (try split) <;> omega)
  have z1 := cl_zero (m := 64) (b := b) (by omega)
  have z2 := cl_zero (m := 41) (b := t) (by omega)
  exact cnt_no (by omega) (by omega)
theorem mdl_one {b t l : Int} (h1 : cl 64 b ≤ 0) (h2 : cl 41 t ≤ 0) : cntB b t l = true ∧ cntN b t l = 1 := by
  have z1 := (cl_zero (m := 64) (b := b) (by omega)).1 h1
  have z2 := (cl_zero (m := 41) (b := t) (by omega)).1 h2
  obtain ⟨c1, c2⟩ := cnt_yes (b := b) (t := t) (l := l) (Or.inl ⟨z1, z2⟩)
  rw [c1, c2, show b.toNat = 0 from by omega, show t.toNat = 0 from by omega, pw_zero]
  exact ⟨rfl, rfl⟩
end Go.Proofs.Ybulkcpsm
