/- Doubles by their bits: what a normal one stands for, how it stands to nought and to the greatest, what it becomes times 1 and -1. No program. -/
import Derived.Laws.FloatArith
import Derived.Laws.Cover2
namespace Go.Proofs.Ytahbgcjcfbjbmaa.Doubles
open Go Ieee

theorem hs : Ieee.double.signWeight = 9223372036854775808 := by decide
theorem hb : Ieee.double.binade = 4503599627370496 := by decide
theorem hi : Ieee.double.infRung = 9218868437227405312 := by decide
theorem hl : Ieee.double.leastPlace = -1074 := by decide
theorem hf : Ieee.double.fractionBits = 52 := rfl

/-- The word of a normal number: sign, exponent field, fraction field. -/
def nw (s : Bool) (E M : Nat) : Nat := (if s then 9223372036854775808 else 0) + E * 4503599627370496 + M

theorem read_normal (s : Bool) (E M : Nat) (h1 : 1 ≤ E) (h2 : E ≤ 2046) (hM : M < 4503599627370496) :
    Ieee.double.read (nw s E M) = .number s (4503599627370496 + M) (-1074 + ((E - 1 : Nat) : Int)) := by
  unfold Ieee.Format.read nw
  simp only [hs, hb, hi, hl]
  have e1 : (((if s then 9223372036854775808 else 0) + E * 4503599627370496 + M) / 9223372036854775808 % 2 == 1) = s := by
    cases s
    · simp only [Bool.false_eq_true, if_false]
      have : (0 + E * 4503599627370496 + M) / 9223372036854775808 = 0 := by omega
      rw [this]; rfl
    · simp only [if_true]
      have : (9223372036854775808 + E * 4503599627370496 + M) / 9223372036854775808 = 1 := by omega
      rw [this]; rfl
  have e2 : ((if s then 9223372036854775808 else 0) + E * 4503599627370496 + M) % 9223372036854775808 = E * 4503599627370496 + M := by
    cases s
    · simp only [Bool.false_eq_true, if_false]; omega
    · simp only [if_true]; omega
  rw [e2, e1, if_neg (by omega), if_pos (by omega)]
  have e3 : (E * 4503599627370496 + M) % 4503599627370496 = M := by omega
  have e4 : (E * 4503599627370496 + M) / 4503599627370496 = E := by omega
  rw [e3, e4]

theorem read_zero : Ieee.double.read 0 = .number false 0 (-1074) := by decide +kernel
theorem read_one : Ieee.double.read 4607182418800017408 = .number false 4503599627370496 (-52) := by decide +kernel
theorem read_mone : Ieee.double.read 13830554455654793216 = .number true 4503599627370496 (-52) := by decide +kernel
theorem read_max : Ieee.double.read 9218868437227405311 = .number false 9007199254740991 971 := by decide +kernel

theorem cmp_gt {x y : Int} (h : y < x) : compare x y = .gt := by
  simp only [compare, compareOfLessAndEq]
  rw [if_neg (by omega), if_neg (by omega)]
theorem cmp_lt {x y : Int} (h : x < y) : compare x y = .lt := by
  simp only [compare, compareOfLessAndEq]
  rw [if_pos h]

theorem shl_pos (m k : Nat) (h : 0 < m) : 0 < m <<< k := by
  rw [Nat.shiftLeft_eq]; exact Nat.mul_pos h (Nat.two_pow_pos k)

theorem order_zero (s : Bool) (E M : Nat) (h1 : 1 ≤ E) (h2 : E ≤ 2046) (hM : M < 4503599627370496) :
    Ieee.double.order (nw s E M) 0 = some (if s then .lt else .gt) := by
  unfold Ieee.Format.order
  rw [read_normal s E M h1 h2 hM, read_zero]
  simp only [Ieee.Datum.order, Ieee.signed]
  have hp := shl_pos (4503599627370496 + M) ((-1074 + ((E - 1 : Nat) : Int) - min (-1074 + ((E - 1 : Nat) : Int)) (-1074))).toNat (by omega)
  generalize (4503599627370496 + M) <<< ((-1074 + ((E - 1 : Nat) : Int) - min (-1074 + ((E - 1 : Nat) : Int)) (-1074))).toNat = x at hp ⊢
  cases s
  · simp only [Bool.false_eq_true, if_false, Nat.zero_shiftLeft]
    congr 1; exact cmp_gt (by omega)
  · simp only [Bool.false_eq_true, if_false, if_true, Nat.zero_shiftLeft]
    congr 1; exact cmp_lt (by omega)

theorem order_max (E M : Nat) (h1 : 1 ≤ E) (h2 : E ≤ 2046) (hM : M < 4503599627370496) :
    (Ieee.double.order (nw false E M) 9218868437227405311 == some .gt) = false := by
  unfold Ieee.Format.order
  rw [read_normal false E M h1 h2 hM, read_max]
  simp only [Ieee.Datum.order, Ieee.signed]
  have e1 : min (-1074 + ((E - 1 : Nat) : Int)) 971 = -1074 + ((E - 1 : Nat) : Int) := by omega
  rw [e1]
  have e2 : (-1074 + ((E - 1 : Nat) : Int) - (-1074 + ((E - 1 : Nat) : Int))).toNat = 0 := by omega
  rw [e2]
  have hp : 9007199254740991 ≤ 9007199254740991 <<< (971 - (-1074 + ((E - 1 : Nat) : Int))).toNat := by
    rw [Nat.shiftLeft_eq]; exact Nat.le_mul_of_pos_right _ (Nat.two_pow_pos _)
  generalize 9007199254740991 <<< (971 - (-1074 + ((E - 1 : Nat) : Int))).toNat = x at hp ⊢
  simp only [Bool.false_eq_true, if_false, Nat.shiftLeft_zero]
  by_cases h : 4503599627370496 + M < x
  · rw [cmp_lt (by omega)]; rfl
  · have : x = 4503599627370496 + M := by omega
    rw [this]
    simp [compare, compareOfLessAndEq]

theorem nearest_normal (t : Bool) (E M : Nat) (h1 : 1 ≤ E) (h2 : E ≤ 2046) (hM : M < 4503599627370496) :
    Ieee.double.nearest t (4503599627370496 * (4503599627370496 + M)) (-52 + (-1074 + ((E - 1 : Nat) : Int))) = nw t E M := by
  have hlog : (4503599627370496 * (4503599627370496 + M)).log2 = 104 := by
    rw [Nat.log2_eq_iff (by omega)]
    omega
  unfold Ieee.Format.nearest
  rw [if_neg (by omega)]
  simp only [hlog, hf, hl, hb, hi]
  have e1 : max (-52 + (-1074 + ((E - 1 : Nat) : Int)) + ((104 : Nat) : Int) - ((52 : Nat) : Int)) (-1074) = -1074 + ((E - 1 : Nat) : Int) := by omega
  rw [e1]
  have e2 : (-52 + (-1074 + ((E - 1 : Nat) : Int)) - (-1074 + ((E - 1 : Nat) : Int))).toNat = 0 := by omega
  have e3 : ((-1074 + ((E - 1 : Nat) : Int)) - (-52 + (-1074 + ((E - 1 : Nat) : Int)))).toNat = 52 := by omega
  have e4 : ((-1074 + ((E - 1 : Nat) : Int)) - -1074).toNat = E - 1 := by omega
  rw [e2, e3, e4]
  have hc : Ieee.Toward.even.cut t ((4503599627370496 * (4503599627370496 + M)) <<< 0) 52 = 4503599627370496 + M := by
    unfold Ieee.Toward.cut
    rw [Nat.shiftLeft_zero, hlog]
    have g : 1 <<< min 52 (104 + 2) = 4503599627370496 := by decide
    simp only [g]
    have d1 : 4503599627370496 * (4503599627370496 + M) / 4503599627370496 = 4503599627370496 + M := by omega
    have d2 : 4503599627370496 * (4503599627370496 + M) % 4503599627370496 = 0 := by omega
    rw [d1, d2]
    simp
  rw [hc]
  unfold Ieee.Format.word nw
  rw [hs]
  have e5 : min ((E - 1) * 4503599627370496 + (4503599627370496 + M)) 9218868437227405312 = E * 4503599627370496 + M := by omega
  rw [e5]
  cases t
  · simp
  · simp only [if_true]; omega

theorem mul_one (s : Bool) (E M : Nat) (h1 : 1 ≤ E) (h2 : E ≤ 2046) (hM : M < 4503599627370496) :
    floatBits .mul .f64 4607182418800017408 (nw s E M) = some (nw s E M) := by
  show Ieee.double.mul 4607182418800017408 (nw s E M) = _
  unfold Ieee.Format.mul
  rw [read_one, read_normal s E M h1 h2 hM]
  simp only [Ieee.Datum.product, Option.map_some, Ieee.Format.write, Bool.false_xor]
  rw [nearest_normal s E M h1 h2 hM]
theorem mul_mone (s : Bool) (E M : Nat) (h1 : 1 ≤ E) (h2 : E ≤ 2046) (hM : M < 4503599627370496) :
    floatBits .mul .f64 13830554455654793216 (nw s E M) = some (nw (!s) E M) := by
  show Ieee.double.mul 13830554455654793216 (nw s E M) = _
  unfold Ieee.Format.mul
  rw [read_mone, read_normal s E M h1 h2 hM]
  simp only [Ieee.Datum.product, Option.map_some, Ieee.Format.write, Bool.true_xor]
  rw [nearest_normal (!s) E M h1 h2 hM]
end Go.Proofs.Ytahbgcjcfbjbmaa.Doubles
