/-
  THE PLAIN LAWS for (*elementScan).opened and its models: bits of a number below 2^32. No Go in sight.
-/
import Derived.WalkKit
import Derived.Laws.BitsAllLaws
namespace Go.Proofs.Ybulkcpsm

def mskN (o : Nat) : Nat := if o < 32 then 2 ^ o else 0
def clrN (K o : Nat) : Nat := K &&& (4294967295 - mskN o)
def opnN (K o : Nat) (b : Bool) : Nat := if b then clrN K o ||| mskN o else clrN K o

theorem mskN_lt (o : Nat) : mskN o < 4294967296 := by
  unfold mskN
  split
  · rename_i h
    have : 2 ^ o ≤ 2 ^ 31 := Nat.pow_le_pow_right (by omega) (by omega)
    omega
  · omega
theorem mskN_bit (o i : Nat) (hi : i < 32) : (mskN o).testBit i = decide (i = o) := by
  unfold mskN
  split
  · rw [Nat.testBit_two_pow]; simp [eq_comm]
  · have : ¬ i = o := by omega
    simp [this]
theorem clrN_lt (K o : Nat) (hK : K < 4294967296) : clrN K o < 4294967296 := by
  unfold clrN; exact Nat.lt_of_le_of_lt Nat.and_le_left hK
theorem clrN_bit (K o i : Nat) (hi : i < 32) : (clrN K o).testBit i = (K.testBit i && !decide (i = o)) := by
  unfold clrN
  have h := mskN_lt o
  have e : 4294967295 - mskN o = 2 ^ 32 - (mskN o + 1) := by omega
  rw [Nat.testBit_and, e, Nat.testBit_two_pow_sub_succ (by omega), mskN_bit o i hi]
  simp [hi]
theorem opnN_lt (K o : Nat) (b : Bool) (hK : K < 4294967296) : opnN K o b < 4294967296 := by
  unfold opnN
  split
  · exact Nat.or_lt_two_pow (n := 32) (clrN_lt K o hK) (mskN_lt o)
  · exact clrN_lt K o hK
/-- THE LAW of opened: bit o is set to b; every other bit is as it was. -/
theorem opnN_bit (K o i : Nat) (b : Bool) (hi : i < 32) : (opnN K o b).testBit i = if i = o then b else K.testBit i := by
  unfold opnN
  by_cases h : i = o
  · subst h
    cases b
    · simp [clrN_bit K i i hi]
    · simp [Nat.testBit_or, mskN_bit i i hi]
  · cases b
    · simp [clrN_bit K o i hi, h]
    · simp [Nat.testBit_or, clrN_bit K o i hi, mskN_bit o i hi, h]

/-- What the walk meets. -/
theorem run_shl (o : Nat) (x : Int) (hx : x = o) : Op.shift .shl .u32 1 .i64 x = pure (.int .u32 ((mskN o : Nat) : Int)) := by
  subst hx
  rw [shift_shl_any _ _ _ _ (by omega)]
  have e : IntKind.u32.bits = 32 := rfl
  rw [e, IntKind.wrap_u32']
  unfold mskN
  by_cases h : o < 32
  · rw [if_pos h]
    have hm : min (o : Int).toNat 32 = o := by omega
    have : 2 ^ o ≤ 2 ^ 31 := Nat.pow_le_pow_right (by omega) (by omega)
    rw [hm, Int.one_mul]
    have ec : ((2 : Int) ^ o) = ((2 ^ o : Nat) : Int) := by simp
    rw [ec]
    generalize 2 ^ o = p at *
    rw [show ((p : Nat) : Int) % 4294967296 = (p : Int) from by omega]
  · rw [if_neg h]
    have hm : min (o : Int).toNat 32 = 32 := by omega
    rw [hm]
    rfl
theorem run_clr (K o : Nat) (hK : K < 4294967296) : bits .andNot .u32 (K : Int) ((mskN o : Nat) : Int) = ((clrN K o : Nat) : Int) :=
  u32_andNot_nat K (mskN o) hK (mskN_lt o)
theorem run_set (K o : Nat) (hK : K < 4294967296) : bits .or .u32 ((clrN K o : Nat) : Int) ((mskN o : Nat) : Int) = ((opnN K o true : Nat) : Int) :=
  u32_or_nat _ _ (clrN_lt K o hK) (mskN_lt o)

/-- A number below 2^32 by its bits. -/
theorem mod_succ (T i : Nat) : T % 2 ^ (i + 1) = T % 2 ^ i ||| ((T.testBit i).toNat * 2 ^ i) := by
  have h1 : T % 2 ^ i < 2 ^ i := Nat.mod_lt _ (Nat.two_pow_pos i)
  rw [Nat.or_comm, nat_join i _ _ (Nat.mul_mod_left _ _) h1, Nat.pow_succ, Nat.mod_mul, Nat.toNat_testBit, Nat.mul_comm]
  omega
theorem bit_div (K i : Nat) : K / 2 ^ i % 2 = (K.testBit i).toNat := by
  rw [Nat.toNat_testBit]
theorem bit_and (K k : Nat) (hK : K < 4294967296) : bits .and .u32 ((K : Int) / 2 ^ k) 1 = ((K.testBit k).toNat : Nat) := by
  have e : (K : Int) / 2 ^ k = ((K / 2 ^ k : Nat) : Int) := by simp
  rw [e, show (1 : Int) = ((1 : Nat) : Int) from rfl, u32_and_nat _ _ (Nat.lt_of_le_of_lt (Nat.div_le_self _ _) hK) (by omega), nat_mask1, bit_div]
theorem or_step (T k : Nat) (hk : k < 32) (hT : T < 4294967296) (B : Int) (hB : B = ((T.testBit k).toNat : Nat)) :
    bits .or .u32 ((T : Int) % 2 ^ k) (B * 2 ^ k % 4294967296) = ((T % 2 ^ (k + 1) : Nat) : Int) := by
  subst hB
  have hp : 2 ^ k ≤ 2 ^ 31 := Nat.pow_le_pow_right (by omega) (by omega)
  have e1 : (T : Int) % 2 ^ k = ((T % 2 ^ k : Nat) : Int) := by simp
  have e2 : (((T.testBit k).toNat : Nat) : Int) * 2 ^ k % 4294967296 = (((T.testBit k).toNat * 2 ^ k : Nat) : Int) := by
    have : (((T.testBit k).toNat : Nat) : Int) * 2 ^ k = (((T.testBit k).toNat * 2 ^ k : Nat) : Int) := by simp
    rw [this]
    have : (T.testBit k).toNat * 2 ^ k ≤ 2 ^ 31 := by cases T.testBit k <;> simp <;> omega
    generalize (T.testBit k).toNat * 2 ^ k = x at *
    omega
  have hb : (T.testBit k).toNat * 2 ^ k < 4294967296 := by cases T.testBit k <;> simp <;> omega
  rw [e1, e2, u32_or_nat _ _ (Nat.lt_of_le_of_lt (Nat.mod_le _ _) hT) hb, mod_succ]
theorem or_step1 (T k : Nat) (hk : k < 32) (hT : T < 4294967296) (hB : T.testBit k = true) :
    bits .or .u32 ((T : Int) % 2 ^ k) (2 ^ k % 4294967296) = ((T % 2 ^ (k + 1) : Nat) : Int) := by
  have := or_step T k hk hT 1 (by rw [hB]; rfl)
  rw [Int.one_mul] at this
  exact this
theorem or_step0 (T k : Nat) (hk : k < 32) (hT : T < 4294967296) (hB : T.testBit k = false) :
    bits .or .u32 ((T : Int) % 2 ^ k) 0 = ((T % 2 ^ (k + 1) : Nat) : Int) := by
  have := or_step T k hk hT 0 (by rw [hB]; rfl)
  rw [Int.zero_mul, Int.zero_emod] at this
  exact this
theorem ret_int {k : IntKind} {a b : Int} (h : a = b) : Ending.returned (.int k a) = .returned (.int k b) := by rw [h]
theorem mod_all (T : Nat) (hT : T < 4294967296) : T % 2 ^ 32 = T := Nat.mod_eq_of_lt hT
end Go.Proofs.Ybulkcpsm
