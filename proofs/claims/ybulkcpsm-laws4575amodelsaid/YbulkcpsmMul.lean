/-
  THE WALKS of math/bits.Mul64 (function 16; after the guide's own proof at any program, Derived/Shelf/Bits/Mul64.lean) and of check.zzs4575amul (function 15).
-/
import Derived.Test.YbulkcpsmRows
import Derived.Test.YbulkcpsmAPlain2
import Derived.WalkKit
import Derived.WalkSpells
import Derived.WalkLawsBesides
import Derived.Lib.Mul64
import Derived.Laws.Bits64b
namespace Go.Proofs.Ybulkcpsm
open Go.RowKit Go.Lib

theorem maskN (a : Nat) (ha : a < 18446744073709551616) : bits .and .u64 (a : Int) 4294967295 = ((a % 4294967296 : Nat) : Int) := by
  have h := bits_and_u64_nat a 4294967295 ha (by omega)
  have e : a &&& 4294967295 = a % 4294967296 := Nat.and_two_pow_sub_one_eq_mod a 32
  rw [e] at h
  exact h
theorem divN (a : Nat) : (a : Int) / 4294967296 = ((a / 4294967296 : Nat) : Int) := by omega
theorem mulN (a b : Nat) : (a : Int) * (b : Int) = ((a * b : Nat) : Int) := (Int.natCast_mul a b).symm
theorem addN (a b : Nat) : (a : Int) + (b : Int) = ((a + b : Nat) : Int) := (Int.natCast_add a b).symm
theorem wrapN (a : Nat) (ha : a < 18446744073709551616) : IntKind.u64.wrap (a : Int) = (a : Int) := by rw [IntKind.wrap_u64]; omega
theorem wrapM (a : Nat) : IntKind.u64.wrap (a : Int) = ((a % 18446744073709551616 : Nat) : Int) := by rw [IntKind.wrap_u64]; omega

set_option maxHeartbeats 1000000 in
theorem mul64 (x y : Nat) (hx : x < 18446744073709551616) (hy : y < 18446744073709551616) (w : World) :
    Calls Yba.prog 16 #[.int .u64 x, .int .u64 y] w fun e w' => e = .returned (.tuple #[.int .u64 ((x * y / 18446744073709551616 : Nat) : Int), .int .u64 ((x * y % 18446744073709551616 : Nat) : Int)]) ∧ w' = w := by
  obtain ⟨bd, bt, bw, hhi⟩ := Lib.mul64_hi x y hx hy
  have ba := Lib.half_mul_le (a := x / 4294967296) (b := y / 4294967296) (by omega) (by omega)
  have bb := Lib.half_mul_le (a := x / 4294967296) (b := y % 4294967296) (by omega) (by omega)
  have bc := Lib.half_mul_le (a := x % 4294967296) (b := y / 4294967296) (by omega) (by omega)
  have ba' : x / 4294967296 * (y / 4294967296) < 18446744073709551616 := by omega
  have bb' : x / 4294967296 * (y % 4294967296) < 18446744073709551616 := by omega
  have bc' : x % 4294967296 * (y / 4294967296) < 18446744073709551616 := by omega
  have bh1 : x / 4294967296 * (y / 4294967296) + (x / 4294967296 * (y % 4294967296) + x % 4294967296 * (y % 4294967296) / 4294967296) / 4294967296 < 18446744073709551616 := by omega
  have bh : x / 4294967296 * (y / 4294967296) + (x / 4294967296 * (y % 4294967296) + x % 4294967296 * (y % 4294967296) / 4294967296) / 4294967296 + ((x / 4294967296 * (y % 4294967296) + x % 4294967296 * (y % 4294967296) / 4294967296) % 4294967296 + x % 4294967296 * (y / 4294967296)) / 4294967296 < 18446744073709551616 := by omega
  go_enter Yba.func16, Yba.ntmps16
  go_wp2
  simp only [maskN x hx, maskN y hy, divN, mulN, addN, wrapN _ bd, wrapN _ bb', wrapN _ bt, maskN _ bt, wrapN _ bc', wrapN _ bw, wrapN _ ba', wrapN _ bh1, wrapN _ bh, wrapM (x * y)]
  rw [hhi]
  go_ret2
  exact ⟨rfl, rfl⟩

theorem mul_lo (x y : Nat) (Y : Int) (hY : Y = y) (h : x * y < 18446744073709551616) (hx : x < 18446744073709551616) (hy : y < 18446744073709551616) (w : World) :
    Calls Yba.prog 16 #[.int .u64 x, .int .u64 Y] w fun e w' => e = .returned (.tuple #[.int .u64 0, .int .u64 ((x * y : Nat) : Int)]) ∧ w' = w := by
  subst hY
  have := mul64 x y hx hy w
  rw [Nat.div_eq_of_lt h, Nat.mod_eq_of_lt h] at this
  exact this
theorem mul_hi (x y : Nat) (Y : Int) (hY : Y = y) (h : 18446744073709551616 ≤ x * y) (hx : x < 18446744073709551616) (hy : y < 18446744073709551616) (w : World) :
    Calls Yba.prog 16 #[.int .u64 x, .int .u64 Y] w fun e w' => ∃ H L : Int, 1 ≤ H ∧ e = .returned (.tuple #[.int .u64 H, .int .u64 L]) ∧ w' = w := by
  subst hY
  refine (mul64 x y hx hy w).mono ?_
  rintro e w' ⟨rfl, rfl⟩
  have : 1 ≤ x * y / 18446744073709551616 := by omega
  exact ⟨_, _, by omega, rfl, rfl⟩

set_option maxHeartbeats 400000 in
/-- zzs4575amul: the saturating product, at a factor that is a literal. -/
theorem amul_any (n y : Nat) (Y : Int) (hY : Y = y) (hy : 2 ≤ y) (hy2 : y < 1000) (w : World) :
    Calls Yba.prog 15 #[.int .u64 (sat n), .int .u64 Y] w fun e w' => e = .returned (.int .u64 (sat (n * y))) ∧ w' = w := by
  have hx := sat_lt n
  have HY : Hid (Y = y) := hY
  clear hY
  by_cases h : sat n * y < 18446744073709551616
  · rw [sat_lo h hy]
    go_enter Yba.func15, Yba.ntmps15
    go_wp2_with fail
    refine (mul_lo (sat n) y Y HY.out h hx (by omega) _).mono ?_
    rintro e w' ⟨rfl, rfl⟩
    go_wp2
    go_ret
    exact ⟨rfl, rfl⟩
  · rw [sat_hi (by omega)]
    go_enter Yba.func15, Yba.ntmps15
    go_wp2_with fail
    refine (mul_hi (sat n) y Y HY.out (by omega) hx (by omega) _).mono ?_
    rintro e w' ⟨H, L, hH, rfl, rfl⟩
    go_wp2
    go_ret
    exact ⟨rfl, rfl⟩
end Go.Proofs.Ybulkcpsm
