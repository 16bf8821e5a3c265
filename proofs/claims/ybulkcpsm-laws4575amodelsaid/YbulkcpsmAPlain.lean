/-
  THE PLAIN LAWS for check.count and its model: powers of two and three. No Go in sight.
-/
import Derived.WalkKit
namespace Go.Proofs.Ybulkcpsm

/-- 2^k * 3^j. -/
def pw (k j : Nat) : Int := (2 : Int) ^ k * 3 ^ j

theorem pw_zero : pw 0 0 = 1 := by simp [pw]
theorem pw_two (k : Nat) : pw (k + 1) 0 = pw k 0 * 2 := by simp [pw, Int.pow_succ]
theorem pw_three (k j : Nat) : pw k (j + 1) = pw k j * 3 := by simp [pw, Int.pow_succ, Int.mul_assoc]
theorem pw_succ_two (k j : Nat) : pw (k + 1) j = pw k j * 2 := by
  simp only [pw, Int.pow_succ, Int.mul_assoc]; rw [Int.mul_comm 2]
theorem pw_pos (k j : Nat) : 1 ≤ pw k j := by
  induction j with
  | zero =>
    induction k with
    | zero => simp [pw]
    | succ k ih => rw [pw_two]; omega
  | succ j ih => rw [pw_three]; omega
theorem pw_mono_k (k j n : Nat) : pw k j ≤ pw (k + n) j := by
  induction n with
  | zero => simp
  | succ n ih => rw [← Nat.add_assoc, pw_succ_two]; have := pw_pos (k + n) j; omega
theorem pw_mono_j (k j n : Nat) : pw k j ≤ pw k (j + n) := by
  induction n with
  | zero => simp
  | succ n ih => rw [← Nat.add_assoc, pw_three]; have := pw_pos k (j + n); omega
theorem pw_mono {k j k' j' : Nat} (h : k ≤ k') (g : j ≤ j') : pw k j ≤ pw k' j' := by
  obtain ⟨n, rfl⟩ := Nat.exists_eq_add_of_le h
  obtain ⟨m, rfl⟩ := Nat.exists_eq_add_of_le g
  exact Int.le_trans (pw_mono_k k j n) (pw_mono_j _ j m)

/-- What count says: is the product let? -/
def cntB (b t l : Int) : Bool := decide ((b ≤ 0 ∧ t ≤ 0) ∨ pw b.toNat t.toNat ≤ l)
/-- What count hands back. -/
def cntN (b t l : Int) : Int := if cntB b t l then pw b.toNat t.toNat else 0

theorem cnt_yes {b t l : Int} (h : (b ≤ 0 ∧ t ≤ 0) ∨ pw b.toNat t.toNat ≤ l) : cntB b t l = true ∧ cntN b t l = pw b.toNat t.toNat := by
  have : cntB b t l = true := decide_eq_true h
  exact ⟨this, by simp [cntN, this]⟩
theorem cnt_no {b t l : Int} (h : 0 < b ∨ 0 < t) (g : l < pw b.toNat t.toNat) : cntB b t l = false ∧ cntN b t l = 0 := by
  have : cntB b t l = false := decide_eq_false (by omega)
  exact ⟨this, by simp [cntN, this]⟩

theorem tdiv_lt {l N d : Int} (hd : 0 < d) (hN : 1 ≤ N) (h : l.tdiv d < N) : l < N * d := by
  by_cases hl : 0 ≤ l
  · rw [Int.tdiv_eq_ediv_of_nonneg hl] at h
    exact (Int.ediv_lt_iff_lt_mul hd).1 h
  · have : 0 < N * d := Int.mul_pos (by omega) hd
    omega
theorem le_tdiv {l N d : Int} (hd : 0 < d) (hN : 1 ≤ N) (h : N ≤ l.tdiv d) : N * d ≤ l := by
  by_cases hl : 0 ≤ l
  · rw [Int.tdiv_eq_ediv_of_nonneg hl] at h
    exact (Int.le_ediv_iff_mul_le hd).1 h
  · have e : l.tdiv d = -((-l).tdiv d) := by rw [Int.neg_tdiv]; omega
    have : 0 ≤ (-l).tdiv d := Int.tdiv_nonneg (by omega) (by omega)
    omega
end Go.Proofs.Ybulkcpsm
