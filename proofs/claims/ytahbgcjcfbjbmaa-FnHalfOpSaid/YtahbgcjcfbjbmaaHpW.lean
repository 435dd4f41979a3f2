/- Walks of the program's functions, printed by a program of mine (walk.py) over the words of Stride: each function's contract. -/
import Derived.Test.YtahbgcjcfbjbmaaProg
import Derived.Test.YtahbgcjcfbjbmaaStride
import Derived.Test.YtahbgcjcfbjbmaaMag
namespace Go.Proofs.Ytahbgcjcfbjbmaa.Stride
open Go Go.RowKit Go.Proofs.Ytahbgcjcfbjbmaa.Mag
set_option linter.unusedVariables false
set_option linter.unusedSimpArgs false
noncomputable abbrev P : Program := Try.prog
def T : Tab := [(2, ⟨.int .i64, 1, 8, .int .i64 0⟩),
  (3, ⟨.int .i64, 1, 8, .int .i64 0⟩),
  (4, ⟨.bool, 1, 1, .bool false⟩),
  (22, ⟨.int .u16, 1, 2, .int .u16 0⟩),
  (25, ⟨.float .f64, 1, 8, .float .f64 0⟩),
  (31, ⟨.float .f32, 1, 4, .float .f32 0⟩),
  (36, ⟨.slice 31 1, 1, 24, .slice none 0 0⟩),
  (44, ⟨.struct [(0, 1, false)], 1, 2, .agg #[.int .u16 0]⟩),
  (56, ⟨.int .u64, 1, 8, .int .u64 0⟩),
  (59, ⟨.slice 44 1, 1, 24, .slice none 0 0⟩),
  (61, ⟨.int .u32, 1, 4, .int .u32 0⟩),
  (63, ⟨.int .i16, 1, 2, .int .i16 0⟩)]

set_option maxRecDepth 100000 in
theorem tab : TabOK P T :=
  ⟨⟨(by kernel_rfl : P.underlying 2 = some (.int .i64)), by kernel_rfl, by kernel_rfl, by kernel_rfl⟩, 
  ⟨⟨(by kernel_rfl : P.underlying 3 = some (.int .i64)), by kernel_rfl, by kernel_rfl, by kernel_rfl⟩, 
  ⟨⟨(by kernel_rfl : P.underlying 4 = some .bool), by kernel_rfl, by kernel_rfl, by kernel_rfl⟩, 
  ⟨⟨(by kernel_rfl : P.underlying 22 = some (.int .u16)), by kernel_rfl, by kernel_rfl, by kernel_rfl⟩, 
  ⟨⟨(by kernel_rfl : P.underlying 25 = some (.float .f64)), by kernel_rfl, by kernel_rfl, by kernel_rfl⟩, 
  ⟨⟨(by kernel_rfl : P.underlying 31 = some (.float .f32)), by kernel_rfl, by kernel_rfl, by kernel_rfl⟩, 
  ⟨⟨⟨by kernel_rfl, by kernel_rfl⟩, by kernel_rfl, by kernel_rfl, by kernel_rfl⟩, 
  ⟨⟨⟨by kernel_rfl, by kernel_rfl⟩, by kernel_rfl, by kernel_rfl, by kernel_rfl⟩, 
  ⟨⟨(by kernel_rfl : P.underlying 56 = some (.int .u64)), by kernel_rfl, by kernel_rfl, by kernel_rfl⟩, 
  ⟨⟨⟨by kernel_rfl, by kernel_rfl⟩, by kernel_rfl, by kernel_rfl, by kernel_rfl⟩, 
  ⟨⟨(by kernel_rfl : P.underlying 61 = some (.int .u32)), by kernel_rfl, by kernel_rfl, by kernel_rfl⟩, 
  ⟨⟨(by kernel_rfl : P.underlying 63 = some (.int .i16)), by kernel_rfl, by kernel_rfl, by kernel_rfl⟩, trivial⟩⟩⟩⟩⟩⟩⟩⟩⟩⟩⟩⟩

theorem run_b64 (x : Nat) (w : World) : (callFunc 40 #[.float .f64 x]).run P w = .ok (.value (.int .u64 (x : Nat))) w := by
  rw [run_callFunc_extern (e := Extern.MathFloatBits.float64bits) Try.func40 (by kernel_rfl) (by kernel_rfl) (by kernel_rfl) (by kernel_rfl)]; rfl
theorem run_f64 (x : Nat) (w : World) : (callFunc 39 #[.int .u64 ((x : Nat) : Int)]).run P w = .ok (.value (.float .f64 x)) w := by
  rw [run_callFunc_extern (e := Extern.MathFloatBits.float64frombits) Try.func39 (by kernel_rfl) (by kernel_rfl) (by kernel_rfl) (by kernel_rfl)]; rfl
theorem run_b32 (x : Nat) (w : World) : (callFunc 45 #[.float .f32 x]).run P w = .ok (.value (.int .u32 (x : Nat))) w := by
  rw [run_callFunc_extern (e := Extern.MathFloatBits.float32bits) Try.func45 (by kernel_rfl) (by kernel_rfl) (by kernel_rfl) (by kernel_rfl)]; rfl
theorem run_f32 (x : Nat) (w : World) : (callFunc 46 #[.int .u32 ((x : Nat) : Int)]).run P w = .ok (.value (.float .f32 x)) w := by
  rw [run_callFunc_extern (e := Extern.MathFloatBits.float32frombits) Try.func46 (by kernel_rfl) (by kernel_rfl) (by kernel_rfl) (by kernel_rfl)]; rfl
theorem wrap_u16_nat (n : Nat) : IntKind.u16.wrap (n : Int) = ((n % 65536 : Nat) : Int) := by
  have : IntKind.u16.wrap (n : Int) = (n : Int) % 65536 := by simp [IntKind.wrap, IntKind.bits, IntKind.signed]
  rw [this]; omega
theorem u16_ok (n : Int) (h0 : 0 ≤ n) (h1 : n < 2 ^ 16) : IntKind.u16.wrap n = n := by
  have : IntKind.u16.wrap n = n % 65536 := by simp [IntKind.wrap, IntKind.bits, IntKind.signed]
  rw [this]; omega
theorem u16_and31 (x : Nat) (hx : x < 65536) : bits .and .u16 (x : Int) 31 = ((x % 32 : Nat) : Int) := by
  have := bits_mask .u16 16 (by decide) u16_ok 5 (by decide) (x : Int) (by omega) (by omega)
  simpa using this
theorem u16_and1023 (x : Nat) (hx : x < 65536) : bits .and .u16 (x : Int) 1023 = ((x % 1024 : Nat) : Int) := by
  have := bits_mask .u16 16 (by decide) u16_ok 10 (by decide) (x : Int) (by omega) (by omega)
  simpa using this
theorem u16_and1 (x : Nat) (hx : x < 65536) : bits .and .u16 (x : Int) 1 = ((x % 2 : Nat) : Int) := by
  have := bits_mask .u16 16 (by decide) u16_ok 1 (by decide) (x : Int) (by omega) (by omega)
  simpa using this
theorem u16_or (a b : Nat) (ha : a < 65536) (hb : b < 65536) : bits .or .u16 (a : Int) (b : Int) = ((a ||| b : Nat) : Int) := (bits_nat .u16 16 (by decide) u16_ok a b ha hb).2
theorem u64_clear63 (x : Nat) (hx : x < 18446744073709551616) : bits .andNot .u64 (x : Int) 9223372036854775808 = ((x % 9223372036854775808 : Nat) : Int) := by
  have h1 : bits .andNot .u64 (x : Int) (9223372036854775808 : Int) = bits .and .u64 (x : Int) ((9223372036854775807 : Nat) : Int) := by
    simp only [bits]
    congr 2
  rw [h1, (bits_nat .u64 64 (by decide) (fun n h0 h1 => by rw [wrap_u64]; omega) x 9223372036854775807 hx (by decide)).1]
  congr 1
  exact Nat.and_two_pow_sub_one_eq_mod x 63
theorem sign_dec (x : Nat) (hx : x < 18446744073709551616) : decide (IntKind.i64.wrap ((x : Nat) : Int) < (0 : Int)) = decide (9223372036854775808 ≤ x) := by
  rw [IntKind.wrap_i64]
  simp only [decide_eq_decide]
  omega
theorem nan_dec (a : Nat) : ((((a / 1024 % 32 : Nat) : Int) == (31 : Int)) && (((a % 1024 : Nat) : Int) != (0 : Int))) = decide (a / 1024 % 32 = 31 ∧ a % 1024 ≠ 0) := by
  rw [Bool.eq_iff_iff]
  simp only [Bool.and_eq_true, beq_iff_eq, bne_iff_ne, ne_eq, decide_eq_true_eq]
  omega
theorem u32_ok (n : Int) (h0 : 0 ≤ n) (h1 : n < 2 ^ 32) : IntKind.u32.wrap n = n := by rw [IntKind.wrap_u32]; omega
theorem u32_and1 (x : Nat) (hx : x < 4294967296) : bits .and .u32 (x : Int) 1 = ((x % 2 : Nat) : Int) := by
  have := bits_mask .u32 32 (by decide) u32_ok 1 (by decide) (x : Int) (by omega) (by omega)
  simpa using this
theorem u32_and255 (x : Nat) (hx : x < 4294967296) : bits .and .u32 (x : Int) 255 = ((x % 256 : Nat) : Int) := by
  have := bits_mask .u32 32 (by decide) u32_ok 8 (by decide) (x : Int) (by omega) (by omega)
  simpa using this
theorem or_join {z k y : Nat} (hz : z % 2 ^ k = 0) (hy : y < 2 ^ k) : z ||| y = z + y := by
  have h : z = 2 ^ k * (z / 2 ^ k) := by have := Nat.div_add_mod z (2 ^ k); omega
  rw [h, ← Nat.two_pow_add_eq_or_of_lt hy]
theorem u32_join31 (x y : Nat) (hx : x < 2) (hy : y < 256) : bits .or .u32 ((x * 2147483648 : Nat) : Int) ((y * 8388608 : Nat) : Int) = ((x * 2147483648 + y * 8388608 : Nat) : Int) := by
  rw [(bits_nat .u32 32 (by decide) u32_ok _ _ (by omega) (by omega)).2, or_join (k := 31) (by omega) (by omega)]
theorem u32_join23 (z f : Nat) (hz : z % 8388608 = 0) (hz2 : z < 4294967296) (hf : f < 1024) : bits .or .u32 (z : Int) ((f * 8192 : Nat) : Int) = ((z + f * 8192 : Nat) : Int) := by
  rw [(bits_nat .u32 32 (by decide) u32_ok _ _ (by omega) (by omega)).2, or_join (k := 23) (by omega) (by omega)]
theorem u16_join15 (x y : Nat) (hx : x < 2) (hy : y < 32) : bits .or .u16 ((x * 32768 : Nat) : Int) ((y * 1024 : Nat) : Int) = ((x * 32768 + y * 1024 : Nat) : Int) := by
  rw [u16_or _ _ (by omega) (by omega), or_join (k := 15) (by omega) (by omega)]
theorem u16_join10 (z f : Nat) (hz : z % 1024 = 0) (hz2 : z < 65536) (hf : f < 1024) : bits .or .u16 (z : Int) ((f : Nat) : Int) = ((z + f : Nat) : Int) := by
  rw [u16_or _ _ (by omega) (by omega), or_join (k := 10) (by omega) (by omega)]
def rexp (e : Nat) : Nat := if e = 0 then 0 else if e = 31 then 255 else e + 112
/-- The float of 32 bits that a half becomes, by its bits. -/
def sgl (a : Nat) : Nat := a / 32768 % 2 * 2147483648 + rexp (a / 1024 % 32) * 8388608 + a % 1024 * 8192
/-- The half that a float of 32 bits becomes. -/
def newH (z : Nat) : Nat := z / 2147483648 % 2 * 32768 + (if z / 8388608 % 256 = 0 then 0 + z / 8192 % 1024 else if z / 8388608 % 256 = 255 then 31 * 1024 + z / 8192 % 1024 else if 143 ≤ z / 8388608 % 256 then 31 * 1024 + 0 else if z / 8388608 % 256 ≤ 112 then 0 + 0 else (z / 8388608 % 256 - 112) * 1024 + z / 8192 % 1024)
theorem sgl_lt (a : Nat) (ha : a < 65536) : sgl a < 4294967296 := by
  unfold sgl rexp
  split
  · omega
  · split <;> omega
theorem u64_orN (a b : Nat) (ha : a < 18446744073709551616) (hb : b < 18446744073709551616) : bits .or .u64 (a : Int) (b : Int) = ((a ||| b : Nat) : Int) :=
  (bits_nat .u64 64 (by decide) (fun n h0 h1 => by rw [wrap_u64]; omega) a b ha hb).2


section
open Ieee
theorem dhs : Ieee.double.signWeight = 9223372036854775808 := by decide
theorem dhb : Ieee.double.binade = 4503599627370496 := by decide
theorem dhi : Ieee.double.infRung = 9218868437227405312 := by decide
theorem dhl : Ieee.double.leastPlace = -1074 := by decide
theorem dhf : Ieee.double.fractionBits = 52 := rfl

/-- The word of a normal number: sign, exponent field, fraction field. -/
def nw (s : Bool) (E M : Nat) : Nat := (if s then 9223372036854775808 else 0) + E * 4503599627370496 + M

theorem read_normal (s : Bool) (E M : Nat) (h1 : 1 ≤ E) (h2 : E ≤ 2046) (hM : M < 4503599627370496) :
    Ieee.double.read (nw s E M) = .number s (4503599627370496 + M) (-1074 + ((E - 1 : Nat) : Int)) := by
  unfold Ieee.Format.read nw
  simp only [dhs, dhb, dhi, dhl]
  have e1 : (((if s then 9223372036854775808 else 0) + E * 4503599627370496 + M) / 9223372036854775808 % 2 == 1) = s := by
    cases s
    · simp only [Bool.false_eq_true, if_false]
      have : (0 + E * 4503599627370496 + M) / 9223372036854775808 = 0 := by omega
      rw [this]; rfl
    · simp only [if_true]
      have : (9223372036854775808 + E * 4503599627370496 + M) / 9223372036854775808 = 1 := by omega
      rw [this]; rfl
  have e2 : ((if s then 9223372036854775808 else 0) + E * 4503599627370496 + M) % 9223372036854775808 = E * 4503599627370496 + M := by
    cases s
    · simp only [Bool.false_eq_true, if_false]; omega
    · simp only [if_true]; omega
  rw [e2, e1, if_neg (by omega), if_pos (by omega)]
  have e3 : (E * 4503599627370496 + M) % 4503599627370496 = M := by omega
  have e4 : (E * 4503599627370496 + M) / 4503599627370496 = E := by omega
  rw [e3, e4]

theorem read_zero : Ieee.double.read 0 = .number false 0 (-1074) := by decide +kernel
theorem read_one : Ieee.double.read 4607182418800017408 = .number false 4503599627370496 (-52) := by decide +kernel
theorem read_mone : Ieee.double.read 13830554455654793216 = .number true 4503599627370496 (-52) := by decide +kernel
theorem read_max : Ieee.double.read 9218868437227405311 = .number false 9007199254740991 971 := by decide +kernel

theorem cmp_gt {x y : Int} (h : y < x) : compare x y = .gt := by
  simp only [compare, compareOfLessAndEq]
  rw [if_neg (by omega), if_neg (by omega)]
theorem cmp_lt {x y : Int} (h : x < y) : compare x y = .lt := by
  simp only [compare, compareOfLessAndEq]
  rw [if_pos h]

theorem shl_pos (m k : Nat) (h : 0 < m) : 0 < m <<< k := by
  rw [Nat.shiftLeft_eq]; exact Nat.mul_pos h (Nat.two_pow_pos k)

theorem order_zero (s : Bool) (E M : Nat) (h1 : 1 ≤ E) (h2 : E ≤ 2046) (hM : M < 4503599627370496) :
    Ieee.double.order (nw s E M) 0 = some (if s then .lt else .gt) := by
  unfold Ieee.Format.order
  rw [read_normal s E M h1 h2 hM, read_zero]
  simp only [Ieee.Datum.order, Ieee.signed]
  have hp := shl_pos (4503599627370496 + M) ((-1074 + ((E - 1 : Nat) : Int) - min (-1074 + ((E - 1 : Nat) : Int)) (-1074))).toNat (by omega)
  generalize (4503599627370496 + M) <<< ((-1074 + ((E - 1 : Nat) : Int) - min (-1074 + ((E - 1 : Nat) : Int)) (-1074))).toNat = x at hp ⊢
  cases s
  · simp only [Bool.false_eq_true, if_false, Nat.zero_shiftLeft]
    congr 1; exact cmp_gt (by omega)
  · simp only [Bool.false_eq_true, if_false, if_true, Nat.zero_shiftLeft]
    congr 1; exact cmp_lt (by omega)

theorem order_max (E M : Nat) (h1 : 1 ≤ E) (h2 : E ≤ 2046) (hM : M < 4503599627370496) :
    (Ieee.double.order (nw false E M) 9218868437227405311 == some .gt) = false := by
  unfold Ieee.Format.order
  rw [read_normal false E M h1 h2 hM, read_max]
  simp only [Ieee.Datum.order, Ieee.signed]
  have e1 : min (-1074 + ((E - 1 : Nat) : Int)) 971 = -1074 + ((E - 1 : Nat) : Int) := by omega
  rw [e1]
  have e2 : (-1074 + ((E - 1 : Nat) : Int) - (-1074 + ((E - 1 : Nat) : Int))).toNat = 0 := by omega
  rw [e2]
  have hp : 9007199254740991 ≤ 9007199254740991 <<< (971 - (-1074 + ((E - 1 : Nat) : Int))).toNat := by
    rw [Nat.shiftLeft_eq]; exact Nat.le_mul_of_pos_right _ (Nat.two_pow_pos _)
  generalize 9007199254740991 <<< (971 - (-1074 + ((E - 1 : Nat) : Int))).toNat = x at hp ⊢
  simp only [Bool.false_eq_true, if_false, Nat.shiftLeft_zero]
  by_cases h : 4503599627370496 + M < x
  · rw [cmp_lt (by omega)]; rfl
  · have : x = 4503599627370496 + M := by omega
    rw [this]
    simp [compare, compareOfLessAndEq]

theorem nearest_normal (t : Bool) (E M : Nat) (h1 : 1 ≤ E) (h2 : E ≤ 2046) (hM : M < 4503599627370496) :
    Ieee.double.nearest t (4503599627370496 * (4503599627370496 + M)) (-52 + (-1074 + ((E - 1 : Nat) : Int))) = nw t E M := by
  have hlog : (4503599627370496 * (4503599627370496 + M)).log2 = 104 := by
    rw [Nat.log2_eq_iff (by omega)]
    omega
  unfold Ieee.Format.nearest
  rw [if_neg (by omega)]
  simp only [hlog, dhf, dhl, dhb, dhi]
  have e1 : max (-52 + (-1074 + ((E - 1 : Nat) : Int)) + ((104 : Nat) : Int) - ((52 : Nat) : Int)) (-1074) = -1074 + ((E - 1 : Nat) : Int) := by omega
  rw [e1]
  have e2 : (-52 + (-1074 + ((E - 1 : Nat) : Int)) - (-1074 + ((E - 1 : Nat) : Int))).toNat = 0 := by omega
  have e3 : ((-1074 + ((E - 1 : Nat) : Int)) - (-52 + (-1074 + ((E - 1 : Nat) : Int)))).toNat = 52 := by omega
  have e4 : ((-1074 + ((E - 1 : Nat) : Int)) - -1074).toNat = E - 1 := by omega
  rw [e2, e3, e4]
  have hc : Ieee.Toward.even.cut t ((4503599627370496 * (4503599627370496 + M)) <<< 0) 52 = 4503599627370496 + M := by
    unfold Ieee.Toward.cut
    rw [Nat.shiftLeft_zero, hlog]
    have g : 1 <<< min 52 (104 + 2) = 4503599627370496 := by decide
    simp only [g]
    have d1 : 4503599627370496 * (4503599627370496 + M) / 4503599627370496 = 4503599627370496 + M := by omega
    have d2 : 4503599627370496 * (4503599627370496 + M) % 4503599627370496 = 0 := by omega
    rw [d1, d2]
    simp
  rw [hc]
  unfold Ieee.Format.word nw
  rw [dhs]
  have e5 : min ((E - 1) * 4503599627370496 + (4503599627370496 + M)) 9218868437227405312 = E * 4503599627370496 + M := by omega
  rw [e5]
  cases t
  · simp
  · simp only [if_true]; omega

theorem mul_one (s : Bool) (E M : Nat) (h1 : 1 ≤ E) (h2 : E ≤ 2046) (hM : M < 4503599627370496) :
    floatBits .mul .f64 4607182418800017408 (nw s E M) = some (nw s E M) := by
  show Ieee.double.mul 4607182418800017408 (nw s E M) = _
  unfold Ieee.Format.mul
  rw [read_one, read_normal s E M h1 h2 hM]
  simp only [Ieee.Datum.product, Option.map_some, Ieee.Format.write, Bool.false_xor]
  rw [nearest_normal s E M h1 h2 hM]
theorem mul_mone (s : Bool) (E M : Nat) (h1 : 1 ≤ E) (h2 : E ≤ 2046) (hM : M < 4503599627370496) :
    floatBits .mul .f64 13830554455654793216 (nw s E M) = some (nw (!s) E M) := by
  show Ieee.double.mul 13830554455654793216 (nw s E M) = _
  unfold Ieee.Format.mul
  rw [read_mone, read_normal s E M h1 h2 hM]
  simp only [Ieee.Datum.product, Option.map_some, Ieee.Format.write, Bool.true_xor]
  rw [nearest_normal (!s) E M h1 h2 hM]

def dbl (a : Nat) : Nat := (if a / 32768 % 2 = 1 then 9223372036854775808 else 0) + (if a / 1024 % 32 = 0 then 0 else if a / 1024 % 32 = 31 then 9218868437227405312 else (a / 1024 % 32 + 1008) * 4503599627370496 + a % 1024 * 4398046511104)
theorem cmp_eq (x : Int) : compare x x = .eq := by simp [compare, compareOfLessAndEq]
theorem order_max' (E M : Nat) (h1 : 1 ≤ E) (h2 : E ≤ 2046) (hM : M < 4503599627370496) : (FloatKind.f64.format.order (nw false E M) 9218868437227405311 == some .gt) = false := order_max E M h1 h2 hM
theorem order_self' (s : Bool) (E M : Nat) (h1 : 1 ≤ E) (h2 : E ≤ 2046) (hM : M < 4503599627370496) : FloatKind.f64.format.order (nw s E M) (nw s E M) = some .eq := by
  show Ieee.double.order _ _ = _
  unfold Ieee.Format.order
  rw [read_normal s E M h1 h2 hM]
  simp [Ieee.Datum.order, compare, compareOfLessAndEq]
theorem nw_lt (s : Bool) (E M : Nat) (h2 : E ≤ 2047) (hM : M < 4503599627370496) : nw s E M < 18446744073709551616 := by
  unfold nw; cases s <;> simp <;> omega
theorem nw_mod (s : Bool) (E M : Nat) (h2 : E ≤ 2047) (hM : M < 4503599627370496) : nw s E M % 9223372036854775808 = nw false E M := by
  unfold nw; cases s <;> simp <;> omega
theorem nw_E (s : Bool) (E M : Nat) (h2 : E ≤ 2047) (hM : M < 4503599627370496) : nw s E M / 4503599627370496 % 2048 = E := by
  unfold nw; cases s <;> simp <;> omega
/-- Two positive normal doubles stand to each other as their words. -/
theorem order_pos {E M E' M' : Nat} (h1 : 1 ≤ E) (h2 : E ≤ 2046) (hM : M < 4503599627370496) (h1' : 1 ≤ E') (h2' : E' ≤ 2046) (hM' : M' < 4503599627370496) :
    Ieee.double.order (nw false E M) (nw false E' M') = some (compare ((nw false E M : Nat) : Int) ((nw false E' M' : Nat) : Int)) := by
  unfold Ieee.Format.order
  rw [read_normal false E M h1 h2 hM, read_normal false E' M' h1' h2' hM']
  simp only [Ieee.Datum.order, Ieee.signed, Bool.false_eq_true, if_false]
  congr 1
  have big : ∀ {a b N : Nat}, a < b → 4503599627370496 + N ≥ 4503599627370496 → 9007199254740992 ≤ (4503599627370496 + N) <<< (b - a) := fun {a b N} hab _ => by
    rw [Nat.shiftLeft_eq]
    have h1 : 2 ^ 1 ≤ 2 ^ (b - a) := Nat.pow_le_pow_right (by decide) (by omega)
    have h2 : (4503599627370496 + N) * 2 ^ 1 ≤ (4503599627370496 + N) * 2 ^ (b - a) := Nat.mul_le_mul_left _ h1
    omega
  rcases Nat.lt_trichotomy E E' with h | h | h
  · rw [show min (-1074 + ((E - 1 : Nat) : Int)) (-1074 + ((E' - 1 : Nat) : Int)) = -1074 + ((E - 1 : Nat) : Int) by omega, show (-1074 + ((E - 1 : Nat) : Int) - (-1074 + ((E - 1 : Nat) : Int))).toNat = 0 by omega, show (-1074 + ((E' - 1 : Nat) : Int) - (-1074 + ((E - 1 : Nat) : Int))).toNat = E' - E by omega, Nat.shiftLeft_zero]
    have hb := big h (N := M') (by omega)
    generalize (4503599627370496 + M') <<< (E' - E) = y at hb ⊢
    have hw : nw false E M < nw false E' M' := by unfold nw; simp; omega
    rw [cmp_lt (show ((4503599627370496 + M : Nat) : Int) < (y : Int) by omega), cmp_lt (show ((nw false E M : Nat) : Int) < ((nw false E' M' : Nat) : Int) by omega)]
  · subst h
    rw [show min (-1074 + ((E - 1 : Nat) : Int)) (-1074 + ((E - 1 : Nat) : Int)) = -1074 + ((E - 1 : Nat) : Int) by omega, show (-1074 + ((E - 1 : Nat) : Int) - (-1074 + ((E - 1 : Nat) : Int))).toNat = 0 by omega, Nat.shiftLeft_zero, Nat.shiftLeft_zero]
    have hw : ((nw false E M : Nat) : Int) - ((nw false E M' : Nat) : Int) = (M : Int) - (M' : Int) := by unfold nw; simp; omega
    rcases Nat.lt_trichotomy M M' with h3 | h3 | h3
    · rw [cmp_lt (by omega), cmp_lt (by omega)]
    · subst h3; rw [cmp_eq, cmp_eq]
    · rw [cmp_gt (by omega), cmp_gt (by omega)]
  · rw [show min (-1074 + ((E - 1 : Nat) : Int)) (-1074 + ((E' - 1 : Nat) : Int)) = -1074 + ((E' - 1 : Nat) : Int) by omega, show (-1074 + ((E' - 1 : Nat) : Int) - (-1074 + ((E' - 1 : Nat) : Int))).toNat = 0 by omega, show (-1074 + ((E - 1 : Nat) : Int) - (-1074 + ((E' - 1 : Nat) : Int))).toNat = E - E' by omega, Nat.shiftLeft_zero]
    have hb := big h (N := M) (by omega)
    generalize (4503599627370496 + M) <<< (E - E') = y at hb ⊢
    have hw : nw false E' M' < nw false E M := by unfold nw; simp; omega
    rw [cmp_gt (show ((4503599627370496 + M' : Nat) : Int) < (y : Int) by omega), cmp_gt (show ((nw false E' M' : Nat) : Int) < ((nw false E M : Nat) : Int) by omega)]
theorem order_lt_of {x y : Nat} {E M E' M' : Nat} (hx : x = nw false E M) (hy : y = nw false E' M') (h1 : 1 ≤ E) (h2 : E ≤ 2046) (hM : M < 4503599627370496) (h1' : 1 ≤ E') (h2' : E' ≤ 2046) (hM' : M' < 4503599627370496) :
    (FloatKind.f64.format.order x y == some .lt) = decide (x < y) ∧ (FloatKind.f64.format.order x y == some .gt) = decide (y < x) ∧ (FloatKind.f64.format.order x y == some .eq) = decide (x = y) := by
  have h := order_pos h1 h2 hM h1' h2' hM'
  rw [← hx, ← hy] at h
  rw [show FloatKind.f64.format.order x y = _ from h]
  rcases Nat.lt_trichotomy x y with h3 | h3 | h3
  · rw [cmp_lt (show (x : Int) < (y : Int) by omega), decide_eq_true h3, decide_eq_false (by omega), decide_eq_false (by omega)]; exact ⟨rfl, rfl, rfl⟩
  · subst h3; rw [cmp_eq, decide_eq_false (by omega), decide_eq_true rfl]; exact ⟨rfl, rfl, rfl⟩
  · rw [cmp_gt (show (y : Int) < (x : Int) by omega), decide_eq_true h3, decide_eq_false (by omega), decide_eq_false (by omega)]; exact ⟨rfl, rfl, rfl⟩
theorem i64_and2047 (x : Nat) (hx : x < 9223372036854775808) : bits .and .i64 (x : Int) 2047 = ((x % 2048 : Nat) : Int) := by
  have := bits_mask .i64 63 (by decide) (fun n h0 h1 => by rw [IntKind.wrap_i64]; omega) 11 (by decide) (x : Int) (by omega) (by omega)
  simpa using this
theorem u64_and2047 (x : Nat) (hx : x < 18446744073709551616) : bits .and .u64 (x : Int) 2047 = ((x % 2048 : Nat) : Int) := by
  have := bits_mask .u64 64 (by decide) (fun n h0 h1 => by rw [wrap_u64]; omega) 11 (by decide) (x : Int) (by omega) (by omega)
  simpa using this
theorem i64_and31 (x : Nat) (hx : x < 9223372036854775808) : bits .and .i64 (x : Int) 31 = ((x % 32 : Nat) : Int) := by
  have := bits_mask .i64 63 (by decide) (fun n h0 h1 => by rw [IntKind.wrap_i64]; omega) 5 (by decide) (x : Int) (by omega) (by omega)
  simpa using this
/-- The exponent's field cleared. -/
theorem u64_clearexp (s : Bool) (E M : Nat) (h2 : E ≤ 2047) (hM : M < 4503599627370496) : bits .andNot .u64 ((nw s E M : Nat) : Int) 9218868437227405312 = ((nw s 0 M : Nat) : Int) := by
  have h1 : bits .andNot .u64 ((nw s E M : Nat) : Int) (9218868437227405312 : Int) = bits .and .u64 ((nw s E M : Nat) : Int) ((9227875636482146303 : Nat) : Int) := by
    simp only [bits]
    congr 2
  rw [h1, (bits_nat .u64 64 (by decide) (fun n h0 h1 => by rw [wrap_u64]; omega) _ 9227875636482146303 (nw_lt s E M h2 hM) (by decide)).1]
  congr 1
  refine Nat.eq_of_testBit_eq fun i => ?_
  have hw : ∀ E' : Nat, E' ≤ 2047 → nw s E' M = 2 ^ 52 * ((if s then 2048 else 0) + E') + M := fun E' _ => by unfold nw; cases s <;> simp <;> omega
  have hm : (9227875636482146303 : Nat) = 2 ^ 52 * 2048 + 4503599627370495 := by decide
  rw [Nat.testBit_and, hw E h2, hw 0 (by omega), hm, Nat.testBit_two_pow_mul_add _ (by simpa using hM), Nat.testBit_two_pow_mul_add _ (by decide : 4503599627370495 < 2 ^ 52), Nat.testBit_two_pow_mul_add _ (by simpa using hM)]
  by_cases hi : i < 52
  · rw [if_pos hi, if_pos hi, if_pos hi]
    have h3 : ∀ j : Fin 52, Nat.testBit 4503599627370495 j.val = true := by decide
    rw [h3 ⟨i, hi⟩, Bool.and_true]
  · rw [if_neg hi, if_neg hi, if_neg hi, show (2048 : Nat) = 2 ^ 11 from rfl, Nat.testBit_two_pow]
    by_cases hj : 11 = i - 52
    · rw [decide_eq_true hj, Bool.and_true, ← hj, show (if s then 2 ^ 11 else 0) + E = 2 ^ 11 * (if s then 1 else 0) + E by cases s <;> simp, show (if s then 2 ^ 11 else 0) + 0 = 2 ^ 11 * (if s then 1 else 0) + 0 by cases s <;> simp,
        Nat.testBit_two_pow_mul_add _ (show E < 2 ^ 11 by omega), Nat.testBit_two_pow_mul_add _ (show 0 < 2 ^ 11 by decide)]
      rfl
    · rw [decide_eq_false hj, Bool.and_false, show (if s then 2 ^ 11 else 0) + 0 = 2 ^ 11 * (if s then 1 else 0) + 0 by cases s <;> simp]
      cases s
      · simp
      · simp only [if_true, Nat.mul_one, Nat.add_zero]; rw [Nat.testBit_two_pow, decide_eq_false hj]
theorem nw0_split (s : Bool) (F M : Nat) : nw s 0 M + F * 4503599627370496 = nw s F M := by unfold nw; omega
theorem u64_joinexp (s : Bool) (F M : Nat) (hF : F ≤ 2047) (hM : M < 4503599627370496) : bits .or .u64 ((nw s 0 M : Nat) : Int) ((F * 4503599627370496 : Nat) : Int) = ((nw s F M : Nat) : Int) := by
  rw [u64_orN _ _ (nw_lt s 0 M (by omega) hM) (by omega)]
  congr 1
  have h1 : nw s 0 M = 2 ^ 63 * (if s then 1 else 0) + M := by unfold nw; cases s <;> simp
  have h2 : F * 4503599627370496 + M < 2 ^ 63 := by omega
  have h3 : M ||| F * 4503599627370496 = F * 4503599627370496 + M := by
    rw [Nat.or_comm, or_join (k := 52) (by omega) (by omega)]
  rw [h1, Nat.two_pow_add_eq_or_of_lt (by omega : M < 2 ^ 63), Nat.or_assoc, h3, ← Nat.two_pow_add_eq_or_of_lt h2]
  unfold nw; cases s <;> simp <;> omega
end

set_option maxHeartbeats 4000000 in
set_option maxRecDepth 100000 in
theorem abs_spec {C : Nat → Prop} {w : World} {x : Nat} (hx : x < 18446744073709551616) :
    Calls P 25 #[.float .f64 x] w fun ex w' => ex = .returned (.float .f64 (x % 9223372036854775808)) ∧ Keep (fun b => b < w.heap.size) w w' := by
  refine doorN (e := e0) (vs := [.v (.float .f64 x)]) (n := 7) (m := 1) Try.func25 rfl rfl rfl (by decide) fun a_ hI => ?_
  replace hI : Is 7 [] e0 [(0, .v (.float .f64 x))] a_ := hI
  have hR : Rel (fun b => b < w.heap.size) w e0 [] [] w := Rel.start (fun k hk => hk)
  have hB : Base C w C (fun b => b < w.heap.size) w := Base.start
  refine reg_seq tab (k := 0) (hs := []) (sy := []) (ks := [0]) (bs := []) (gs := [])
      (L' := [(0, .v (.float .f64 x))])
      (H' := []) (G' := []) (k' := 0) hR hI (by kernel_rfl)
      .nil (fun e1 a1 w1 hag hR hI => ?_)
  refine wp_seq ?_
  refine reg (is := [0, 1, 2, 3, 4]) (by kernel_rfl) ?_
  refine part_ tab [0] [1, 2, 3, 4] (by rfl) (k := 0) (hs := []) (sy := []) (ks := [3]) (bs := []) (gs := [])
      (L' := [(3, .v (.float .f64 x))])
      (H' := []) (G' := []) (k' := 0) hR hI (by kernel_rfl)
      .nil (fun e2 a2 w2 hag hR hI => ?_)
  refine callX (ys := [.v (.float .f64 x)]) (v := .v (.int .u64 ((x : Nat) : Int))) hI rfl rfl rfl ⟨_, rfl, rfl, rfl⟩ (by kernel_rfl) (run_b64 _ _) (fun a3 hI => ?_)
  replace hI := hI.sel [4, 3] (by kernel_rfl : sel _ _ = some [(4, .v (.int .u64 ((x : Nat) : Int))), (3, .v (.float .f64 x))])
  refine part_ tab [2] [3, 4] (by rfl) (k := 0) (hs := [(2, .eq (.int .u64 ((x % 9223372036854775808 : Nat) : Int)))]) (sy := []) (ks := [5]) (bs := []) (gs := [])
      (L' := [(5, .v (.int .u64 ((x % 9223372036854775808 : Nat) : Int)))])
      (H' := []) (G' := []) (k' := 0) hR hI (by kernel_rfl)
      (.cons (congrArg (Value.int .u64) (u64_clear63 x hx : bits .andNot .u64 ((x : Nat) : Int) (9223372036854775808 : Int) = ((x % 9223372036854775808 : Nat) : Int))) .nil) (fun e4 a4 w4 hag hR hI => ?_)
  refine callX (ys := [.v (.int .u64 ((x % 9223372036854775808 : Nat) : Int))]) (v := .v (.float .f64 (x % 9223372036854775808))) hI rfl rfl rfl ⟨_, rfl, rfl, rfl⟩ (by kernel_rfl) ((run_f64 _ _)) (fun a5 hI => ?_)
  replace hI := hI.sel [6, 5] (by kernel_rfl : sel _ _ = some [(6, .v (.float .f64 (x % 9223372036854775808))), (5, .v (.int .u64 ((x % 9223372036854775808 : Nat) : Int)))])
  refine part_ tab [4] [] (by rfl) (k := 0) (hs := []) (sy := []) (ks := [2]) (bs := []) (gs := [])
      (L' := [(2, .v (.float .f64 (x % 9223372036854775808)))])
      (H' := []) (G' := []) (k' := 0) hR hI (by kernel_rfl)
      .nil (fun e6 a6 w6 hag hR hI => ?_)
  refine ops_nil ?_
  refine then_n ?_
  refine wp_ret ?_
  refine outN tab (xs := [.v (.float .f64 (x % 9223372036854775808))]) hR hI rfl (by kernel_rfl) ?_
  exact ⟨rfl, hB.fin hR⟩

set_option maxHeartbeats 4000000 in
set_option maxRecDepth 100000 in
theorem signbit_spec {C : Nat → Prop} {w : World} {x : Nat} (hx : x < 18446744073709551616) :
    Calls P 33 #[.float .f64 x] w fun ex w' => ex = .returned (.bool (decide (9223372036854775808 ≤ x))) ∧ Keep (fun b => b < w.heap.size) w w' := by
  refine doorN (e := e0) (vs := [.v (.float .f64 x)]) (n := 7) (m := 1) Try.func33 rfl rfl rfl (by decide) fun a_ hI => ?_
  replace hI : Is 7 [] e0 [(0, .v (.float .f64 x))] a_ := hI
  have hR : Rel (fun b => b < w.heap.size) w e0 [] [] w := Rel.start (fun k hk => hk)
  have hB : Base C w C (fun b => b < w.heap.size) w := Base.start
  refine reg_seq tab (k := 0) (hs := []) (sy := []) (ks := [0]) (bs := []) (gs := [])
      (L' := [(0, .v (.float .f64 x))])
      (H' := []) (G' := []) (k' := 0) hR hI (by kernel_rfl)
      .nil (fun e1 a1 w1 hag hR hI => ?_)
  refine wp_seq ?_
  refine reg (is := [0, 1, 2, 3, 4]) (by kernel_rfl) ?_
  refine part_ tab [0] [1, 2, 3, 4] (by rfl) (k := 0) (hs := []) (sy := []) (ks := [3]) (bs := []) (gs := [])
      (L' := [(3, .v (.float .f64 x))])
      (H' := []) (G' := []) (k' := 0) hR hI (by kernel_rfl)
      .nil (fun e2 a2 w2 hag hR hI => ?_)
  refine callX (ys := [.v (.float .f64 x)]) (v := .v (.int .u64 ((x : Nat) : Int))) hI rfl rfl rfl ⟨_, rfl, rfl, rfl⟩ (by kernel_rfl) (run_b64 _ _) (fun a3 hI => ?_)
  replace hI := hI.sel [4, 3] (by kernel_rfl : sel _ _ = some [(4, .v (.int .u64 ((x : Nat) : Int))), (3, .v (.float .f64 x))])
  refine part_ tab [2, 3, 4] [] (by rfl) (k := 0) (hs := []) (sy := []) (ks := [2]) (bs := []) (gs := [])
      (L' := [(2, .v (.bool (decide ((IntKind.i64.wrap ((x : Nat) : Int)) < (0 : Int)))))])
      (H' := []) (G' := []) (k' := 0) hR hI (by kernel_rfl)
      .nil (fun e4 a4 w4 hag hR hI => ?_)
  refine ops_nil ?_
  refine then_n ?_
  refine wp_ret ?_
  refine outN tab (xs := [.v (.bool (decide ((IntKind.i64.wrap ((x : Nat) : Int)) < (0 : Int))))]) hR hI rfl (by kernel_rfl) ?_
  exact ⟨by rw [sign_dec x hx]; rfl, hB.fin hR⟩

set_option maxHeartbeats 4000000 in
set_option maxRecDepth 100000 in
theorem isNaN_spec {C : Nat → Prop} {w : World} {x : Nat} :
    Calls P 47 #[.float .f64 x] w fun ex w' => ex = .returned (.bool (FloatKind.f64.format.order x x != some .eq)) ∧ Keep (fun b => b < w.heap.size) w w' := by
  refine doorN (e := e0) (vs := [.v (.float .f64 x)]) (n := 6) (m := 1) Try.func47 rfl rfl rfl (by decide) fun a_ hI => ?_
  replace hI : Is 6 [] e0 [(0, .v (.float .f64 x))] a_ := hI
  have hR : Rel (fun b => b < w.heap.size) w e0 [] [] w := Rel.start (fun k hk => hk)
  have hB : Base C w C (fun b => b < w.heap.size) w := Base.start
  refine reg_seq tab (k := 0) (hs := []) (sy := []) (ks := [0]) (bs := []) (gs := [])
      (L' := [(0, .v (.float .f64 x))])
      (H' := []) (G' := []) (k' := 0) hR hI (by kernel_rfl)
      .nil (fun e1 a1 w1 hag hR hI => ?_)
  refine reg_seq tab (k := 0) (hs := []) (sy := []) (ks := [2]) (bs := []) (gs := [])
      (L' := [(2, .v (.bool (FloatKind.f64.format.order x x != some .eq)))])
      (H' := []) (G' := []) (k' := 0) hR hI (by kernel_rfl)
      .nil (fun e2 a2 w2 hag hR hI => ?_)
  refine wp_ret ?_
  refine outN tab (xs := [.v (.bool (FloatKind.f64.format.order x x != some .eq))]) hR hI rfl (by kernel_rfl) ?_
  exact ⟨rfl, hB.fin hR⟩

set_option maxHeartbeats 4000000 in
set_option maxRecDepth 100000 in
theorem fromBits_spec {C : Nat → Prop} {w : World} (x : Int) :
    Calls P 19 #[.int .u16 x] w fun ex w' => ex = .returned (.agg #[.int .u16 x]) ∧ Keep (fun b => b < w.heap.size) w w' := by
  refine doorN (e := e0) (vs := [.v (.int .u16 x)]) (n := 5) (m := 1) Try.func19 rfl rfl rfl (by decide) fun a_ hI => ?_
  replace hI : Is 5 [] e0 [(0, .v (.int .u16 x))] a_ := hI
  have hR : Rel (fun b => b < w.heap.size) w e0 [] [] w := Rel.start (fun k hk => hk)
  have hB : Base C w C (fun b => b < w.heap.size) w := Base.start
  refine reg_seq tab (k := 0) (hs := []) (sy := []) (ks := [2, 0]) (bs := [0]) (gs := [])
      (L' := [(2, .p 0 0), (0, .v (.int .u16 x))])
      (H' := [⟨0, 44, [.v (.int .u16 0)]⟩]) (G' := []) (k' := 1) hR hI (by kernel_rfl)
      .nil (fun e1 a1 w1 hag hR hI => ?_)
  refine reg_seq tab (k := 1) (hs := []) (sy := []) (ks := [2]) (bs := [0]) (gs := [])
      (L' := [(2, .p 0 0)])
      (H' := [⟨0, 44, [.v (.int .u16 x)]⟩]) (G' := []) (k' := 1) hR hI (by kernel_rfl)
      .nil (fun e2 a2 w2 hag hR hI => ?_)
  refine wp_ret ?_
  refine outN tab (xs := [.agg [.v (.int .u16 x)]]) hR hI rfl (by kernel_rfl) ?_
  exact ⟨rfl, hB.fin hR⟩

set_option maxHeartbeats 4000000 in
set_option maxRecDepth 100000 in
theorem uint16_spec {C : Nat → Prop} {w : World} (x : Int) :
    Calls P 27 #[.agg #[.int .u16 x]] w fun ex w' => ex = .returned (.int .u16 x) ∧ Keep (fun b => b < w.heap.size) w w' := by
  refine doorN (e := e0) (vs := [.v (.agg #[.int .u16 x])]) (n := 5) (m := 1) Try.func27 rfl rfl rfl (by decide) fun a_ hI => ?_
  replace hI : Is 5 [] e0 [(0, .v (.agg #[.int .u16 x]))] a_ := hI
  have hR : Rel (fun b => b < w.heap.size) w e0 [] [] w := Rel.start (fun k hk => hk)
  have hB : Base C w C (fun b => b < w.heap.size) w := Base.start
  refine reg_seq tab (k := 0) (hs := []) (sy := []) (ks := [1]) (bs := [0]) (gs := [])
      (L' := [(1, .p 0 0)])
      (H' := [⟨0, 44, [.v (.int .u16 x)]⟩]) (G' := []) (k' := 1) hR hI (by kernel_rfl)
      .nil (fun e1 a1 w1 hag hR hI => ?_)
  refine reg_seq tab (k := 1) (hs := []) (sy := []) (ks := [2]) (bs := []) (gs := [])
      (L' := [(2, .v (.int .u16 x))])
      (H' := []) (G' := []) (k' := 1) hR hI (by kernel_rfl)
      .nil (fun e2 a2 w2 hag hR hI => ?_)
  refine wp_ret ?_
  refine outN tab (xs := [.v (.int .u16 x)]) hR hI rfl (by kernel_rfl) ?_
  exact ⟨rfl, hB.fin hR⟩

set_option maxHeartbeats 4000000 in
set_option maxRecDepth 100000 in
theorem halfNaN_spec {C : Nat → Prop} {w : World} {a : Nat} (ha : a < 65536) :
    Calls P 13 #[.int .u16 ((a : Nat) : Int)] w fun ex w' => ex = .returned (.bool (decide (a / 1024 % 32 = 31 ∧ a % 1024 ≠ 0))) ∧ Keep (fun b => b < w.heap.size) w w' := by
  refine doorN (e := e0) (vs := [.v (.int .u16 ((a : Nat) : Int))]) (n := 12) (m := 1) Try.func13 rfl rfl rfl (by decide) fun a_ hI => ?_
  replace hI : Is 12 [] e0 [(0, .v (.int .u16 ((a : Nat) : Int)))] a_ := hI
  have hR : Rel (fun b => b < w.heap.size) w e0 [] [] w := Rel.start (fun k hk => hk)
  have hB : Base C w C (fun b => b < w.heap.size) w := Base.start
  refine reg_seq tab (k := 0) (hs := []) (sy := []) (ks := [0]) (bs := []) (gs := [])
      (L' := [(0, .v (.int .u16 ((a : Nat) : Int)))])
      (H' := []) (G' := []) (k' := 0) hR hI (by kernel_rfl)
      .nil (fun e1 a1 w1 hag hR hI => ?_)
  refine reg_seq tab (k := 0) (hs := [(2, .eq (.int .u16 ((a / 1024 % 32 : Nat) : Int))), (6, .eq (.int .u16 ((a % 1024 : Nat) : Int))), (8, .sym)]) (sy := [5, 6, 7]) (ks := [2]) (bs := []) (gs := [])
      (L' := [(2, .v (.bool ((((a / 1024 % 32 : Nat) : Int) == (31 : Int)) && (((a % 1024 : Nat) : Int) != (0 : Int)))))])
      (H' := []) (G' := []) (k' := 0) hR hI (by kernel_rfl)
      (.cons (by decide : (0 : Int) ≤ 10) (.cons (by decide : (10 : Int) ≤ (IntKind.u16.bits : Int)) (.cons (congrArg (Value.int .u16) (u16_and31 (a / 1024) (by omega) : bits .and .u16 ((a / 1024 : Nat) : Int) (31 : Int) = ((a / 1024 % 32 : Nat) : Int))) (.cons (rfl : (((a / 1024 % 32 : Nat) : Int) == (31 : Int)) = (((a / 1024 % 32 : Nat) : Int) == (31 : Int))) (.cons (fun (hg : ((((a / 1024 % 32 : Nat) : Int) == (31 : Int)) == true) = true) => (congrArg (Value.int .u16) (u16_and1023 a ha : bits .and .u16 ((a : Nat) : Int) (1023 : Int) = ((a % 1024 : Nat) : Int)))) (.cons (rfl : (((a / 1024 % 32 : Nat) : Int) == (31 : Int)) = (((a / 1024 % 32 : Nat) : Int) == (31 : Int))) (.cons (rfl : (((a / 1024 % 32 : Nat) : Int) == (31 : Int)) = (((a / 1024 % 32 : Nat) : Int) == (31 : Int))) (.cons (by first | exact Bool.beq_true _ | exact Bool.beq_false _ | rfl | simp_all : ((((a / 1024 % 32 : Nat) : Int) == (31 : Int)) == true) = (((a / 1024 % 32 : Nat) : Int) == (31 : Int))) .nil)))))))) (fun e2 a2 w2 hag hR hI => ?_)
  refine wp_ret ?_
  refine outN tab (xs := [.v (.bool ((((a / 1024 % 32 : Nat) : Int) == (31 : Int)) && (((a % 1024 : Nat) : Int) != (0 : Int))))]) hR hI rfl (by kernel_rfl) ?_
  exact ⟨by rw [nan_dec a]; rfl, hB.fin hR⟩

set_option maxHeartbeats 4000000 in
set_option maxRecDepth 100000 in
theorem float32_spec {C : Nat → Prop} {w : World} {a : Nat} (ha : a < 65536) :
    Calls P 36 #[.agg #[.int .u16 ((a : Nat) : Int)]] w fun ex w' => ex = .returned (.float .f32 (sgl a)) ∧ Keep (fun b => b < w.heap.size) w w' := by
  refine doorN (e := e0) (vs := [.v (.agg #[.int .u16 ((a : Nat) : Int)])]) (n := 38) (m := 1) Try.func36 rfl rfl rfl (by decide) fun a_ hI => ?_
  replace hI : Is 38 [] e0 [(0, .v (.agg #[.int .u16 ((a : Nat) : Int)]))] a_ := hI
  have hR : Rel (fun b => b < w.heap.size) w e0 [] [] w := Rel.start (fun k hk => hk)
  have hB : Base C w C (fun b => b < w.heap.size) w := Base.start
  refine reg_seq tab (k := 0) (hs := []) (sy := []) (ks := [1]) (bs := [0]) (gs := [])
      (L' := [(1, .p 0 0)])
      (H' := [⟨0, 44, [.v (.int .u16 ((a : Nat) : Int))]⟩]) (G' := []) (k' := 1) hR hI (by kernel_rfl)
      .nil (fun e1 a1 w1 hag hR hI => ?_)
  refine reg_seq tab (k := 1) (hs := [(3, .eq (.int .u16 ((a / 32768 % 2 : Nat) : Int))), (4, .nw)]) (sy := []) (ks := [3, 1]) (bs := [0]) (gs := [])
      (L' := [(3, .v (.int .u32 ((a / 32768 % 2 : Nat) : Int))), (1, .p 0 0)])
      (H' := [⟨0, 44, [.v (.int .u16 ((a : Nat) : Int))]⟩]) (G' := []) (k' := 1) hR hI (by kernel_rfl)
      (.cons (by decide : (0 : Int) ≤ 15) (.cons (by decide : (15 : Int) ≤ (IntKind.u16.bits : Int)) (.cons (congrArg (Value.int .u16) (u16_and1 (a / 32768) (by omega) : bits .and .u16 ((a / 32768 : Nat) : Int) (1 : Int) = ((a / 32768 % 2 : Nat) : Int))) (.cons (inR_u32 (n := ((a / 32768 % 2 : Nat) : Int)) (by omega)) .nil)))) (fun e2 a2 w2 hag hR hI => ?_)
  refine reg_seq tab (k := 1) (hs := [(3, .eq (.int .u16 ((a / 1024 % 32 : Nat) : Int)))]) (sy := []) (ks := [4, 3, 1]) (bs := [0]) (gs := [])
      (L' := [(4, .v (.int .u16 ((a / 1024 % 32 : Nat) : Int))), (3, .v (.int .u32 ((a / 32768 % 2 : Nat) : Int))), (1, .p 0 0)])
      (H' := [⟨0, 44, [.v (.int .u16 ((a : Nat) : Int))]⟩]) (G' := []) (k' := 1) hR hI (by kernel_rfl)
      (.cons (by decide : (0 : Int) ≤ 10) (.cons (by decide : (10 : Int) ≤ (IntKind.u16.bits : Int)) (.cons (congrArg (Value.int .u16) (u16_and31 (a / 1024) (by omega) : bits .and .u16 ((a / 1024 : Nat) : Int) (31 : Int) = ((a / 1024 % 32 : Nat) : Int))) .nil))) (fun e3 a3 w3 hag hR hI => ?_)
  refine reg_seq tab (k := 1) (hs := [(1, .nw), (2, .nw), (3, .eq (.int .u32 ((a / 1024 % 32 + 112 : Nat) : Int)))]) (sy := []) (ks := [5, 4, 3, 1]) (bs := [0]) (gs := [])
      (L' := [(5, .v (.int .u32 ((a / 1024 % 32 + 112 : Nat) : Int))), (4, .v (.int .u16 ((a / 1024 % 32 : Nat) : Int))), (3, .v (.int .u32 ((a / 32768 % 2 : Nat) : Int))), (1, .p 0 0)])
      (H' := [⟨0, 44, [.v (.int .u16 ((a : Nat) : Int))]⟩]) (G' := []) (k' := 1) hR hI (by kernel_rfl)
      (.cons (inR_u32 (n := ((a / 1024 % 32 : Nat) : Int)) (by omega)) (.cons (inR_u32 (n := ((a / 1024 % 32 : Nat) : Int) + (127 : Int)) (by omega)) (.cons (congrArg (Value.int .u32) (by rw [wrap_inR (inR_u32 (by omega))]; omega : IntKind.u32.wrap ((((a / 1024 % 32) + 127 : Nat) : Int) - (15 : Int)) = ((a / 1024 % 32 + 112 : Nat) : Int))) .nil))) (fun e4 a4 w4 hag hR hI => ?_)
  refine reg_seq tab (k := 1) (hs := [(2, .eq (.int .u16 ((a % 1024 : Nat) : Int))), (3, .nw)]) (sy := []) (ks := [6, 5, 4, 3]) (bs := []) (gs := [])
      (L' := [(6, .v (.int .u32 ((a % 1024 : Nat) : Int))), (5, .v (.int .u32 ((a / 1024 % 32 + 112 : Nat) : Int))), (4, .v (.int .u16 ((a / 1024 % 32 : Nat) : Int))), (3, .v (.int .u32 ((a / 32768 % 2 : Nat) : Int)))])
      (H' := []) (G' := []) (k' := 1) hR hI (by kernel_rfl)
      (.cons (congrArg (Value.int .u16) (u16_and1023 a ha : bits .and .u16 ((a : Nat) : Int) (1023 : Int) = ((a % 1024 : Nat) : Int))) (.cons (inR_u32 (n := ((a % 1024 : Nat) : Int)) (by omega)) .nil)) (fun e5 a5 w5 hag hR hI => ?_)
  refine wp_seq ?_
  refine reg_seq tab (k := 1) (hs := []) (sy := []) (ks := [24, 6, 5, 3]) (bs := []) (gs := [])
      (L' := [(24, .v (.int .u16 ((a / 1024 % 32 : Nat) : Int))), (6, .v (.int .u32 ((a % 1024 : Nat) : Int))), (5, .v (.int .u32 ((a / 1024 % 32 + 112 : Nat) : Int))), (3, .v (.int .u32 ((a / 32768 % 2 : Nat) : Int)))])
      (H' := []) (G' := []) (k' := 1) hR hI (by kernel_rfl)
      .nil (fun e6 a6 w6 hag hR hI => ?_)
  refine wp_block ?_
  refine reg_seq tab (k := 1) (hs := []) (sy := []) (ks := [25, 24, 6, 5, 3]) (bs := []) (gs := [])
      (L' := [(25, .v (.bool (((a / 1024 % 32 : Nat) : Int) == (0 : Int)))), (24, .v (.int .u16 ((a / 1024 % 32 : Nat) : Int))), (6, .v (.int .u32 ((a % 1024 : Nat) : Int))), (5, .v (.int .u32 ((a / 1024 % 32 + 112 : Nat) : Int))), (3, .v (.int .u32 ((a / 32768 % 2 : Nat) : Int)))])
      (H' := []) (G' := []) (k' := 1) hR hI (by kernel_rfl)
      .nil (fun e7 a7 w7 hag hR hI => ?_)
  refine cnd (b := (((a / 1024 % 32 : Nat) : Int) == (0 : Int))) hI (by kernel_rfl) (fun hc8 => ?_) (fun hc8 => ?_)
  · skip
    replace hI := hI.re 25 (.v (.bool true)) rfl (congrArg Value.bool hc8)
    try simp only [decide_eq_true_eq, decide_eq_false_iff_not, beq_iff_eq, bne_iff_ne, beq_eq_false_iff_ne, bne_eq_false_iff_eq, Bool.and_eq_true, Bool.and_eq_false_iff, Bool.or_eq_true, Bool.or_eq_false_iff, Bool.not_eq_true', Bool.not_eq_false', ne_eq] at hc8
    have he0 : a / 1024 % 32 = 0 := by omega
    refine reg_all tab (k := 1) (hs := []) (sy := []) (ks := [5, 6, 3]) (bs := []) (gs := [])
        (L' := [(5, .v (.int .u32 0)), (6, .v (.int .u32 ((a % 1024 : Nat) : Int))), (3, .v (.int .u32 ((a / 32768 % 2 : Nat) : Int)))])
        (H' := []) (G' := []) (k' := 1) hR hI (by kernel_rfl)
        .nil (fun e9 a9 w9 hag hR hI => ?_)
    refine normal_block ?_
    refine then_n ?_
    refine wp_seq ?_
    refine reg (is := [0, 1, 2, 3, 4, 5, 6, 7, 8, 9]) (by kernel_rfl) ?_
    refine part_ tab [0, 1, 2, 3, 4, 5, 6, 7] [8, 9] (by rfl) (k := 1) (hs := [(1, .nw), (3, .nw), (4, .eq (.int .u32 ((a / 32768 % 2 * 2147483648 + 0 * 8388608 : Nat) : Int))), (6, .nw), (7, .eq (.int .u32 ((a / 32768 % 2 * 2147483648 + 0 * 8388608 + a % 1024 * 8192 : Nat) : Int)))]) (sy := []) (ks := [36]) (bs := []) (gs := [])
        (L' := [(36, .v (.int .u32 ((a / 32768 % 2 * 2147483648 + 0 * 8388608 + a % 1024 * 8192 : Nat) : Int)))])
        (H' := []) (G' := []) (k' := 1) hR hI (by kernel_rfl)
        (.cons (by decide : (0 : Int) ≤ 31) (.cons (by decide : (31 : Int) ≤ (IntKind.u32.bits : Int)) (.cons (inR_u32 (n := ((a / 32768 % 2 : Nat) : Int) * 2147483648) (by omega)) (.cons (by decide : (0 : Int) ≤ 23) (.cons (by decide : (23 : Int) ≤ (IntKind.u32.bits : Int)) (.cons (inR_u32 (n := (0 : Int) * 8388608) (by omega)) (.cons (congrArg (Value.int .u32) (u32_join31 _ _ (by omega) (by omega) : bits .or .u32 (((a / 32768 % 2) * 2147483648 : Nat) : Int) ((0 * 8388608 : Nat) : Int) = ((a / 32768 % 2 * 2147483648 + 0 * 8388608 : Nat) : Int))) (.cons (by decide : (0 : Int) ≤ 13) (.cons (by decide : (13 : Int) ≤ (IntKind.u32.bits : Int)) (.cons (inR_u32 (n := ((a % 1024 : Nat) : Int) * 8192) (by omega)) (.cons (congrArg (Value.int .u32) (u32_join23 _ _ (by omega) (by omega) (by omega) : bits .or .u32 ((a / 32768 % 2 * 2147483648 + 0 * 8388608 : Nat) : Int) (((a % 1024) * 8192 : Nat) : Int) = ((a / 32768 % 2 * 2147483648 + 0 * 8388608 + a % 1024 * 8192 : Nat) : Int))) .nil))))))))))) (fun e10 a10 w10 hag hR hI => ?_)
    refine callX (ys := [.v (.int .u32 ((a / 32768 % 2 * 2147483648 + 0 * 8388608 + a % 1024 * 8192 : Nat) : Int))]) (v := .v (.float .f32 (a / 32768 % 2 * 2147483648 + 0 * 8388608 + a % 1024 * 8192))) hI rfl rfl rfl ⟨_, rfl, rfl, rfl⟩ (by kernel_rfl) ((run_f32 _ _)) (fun a11 hI => ?_)
    replace hI := hI.sel [37, 36] (by kernel_rfl : sel _ _ = some [(37, .v (.float .f32 (a / 32768 % 2 * 2147483648 + 0 * 8388608 + a % 1024 * 8192))), (36, .v (.int .u32 ((a / 32768 % 2 * 2147483648 + 0 * 8388608 + a % 1024 * 8192 : Nat) : Int)))])
    refine part_ tab [9] [] (by rfl) (k := 1) (hs := []) (sy := []) (ks := [2]) (bs := []) (gs := [])
        (L' := [(2, .v (.float .f32 (a / 32768 % 2 * 2147483648 + 0 * 8388608 + a % 1024 * 8192)))])
        (H' := []) (G' := []) (k' := 1) hR hI (by kernel_rfl)
        .nil (fun e12 a12 w12 hag hR hI => ?_)
    refine ops_nil ?_
    refine then_n ?_
    refine wp_ret ?_
    refine outN tab (xs := [.v (.float .f32 (a / 32768 % 2 * 2147483648 + 0 * 8388608 + a % 1024 * 8192))]) hR hI rfl (by kernel_rfl) ?_
    exact ⟨by unfold sgl rexp; rw [if_pos he0]; rfl, hB.fin hR⟩
  · skip
    replace hI := hI.re 25 (.v (.bool false)) rfl (congrArg Value.bool hc8)
    try simp only [decide_eq_true_eq, decide_eq_false_iff_not, beq_iff_eq, bne_iff_ne, beq_eq_false_iff_ne, bne_eq_false_iff_eq, Bool.and_eq_true, Bool.and_eq_false_iff, Bool.or_eq_true, Bool.or_eq_false_iff, Bool.not_eq_true', Bool.not_eq_false', ne_eq] at hc8
    refine reg_seq tab (k := 1) (hs := []) (sy := []) (ks := [27, 6, 5, 3]) (bs := []) (gs := [])
        (L' := [(27, .v (.bool (((a / 1024 % 32 : Nat) : Int) == (31 : Int)))), (6, .v (.int .u32 ((a % 1024 : Nat) : Int))), (5, .v (.int .u32 ((a / 1024 % 32 + 112 : Nat) : Int))), (3, .v (.int .u32 ((a / 32768 % 2 : Nat) : Int)))])
        (H' := []) (G' := []) (k' := 1) hR hI (by kernel_rfl)
        .nil (fun e13 a13 w13 hag hR hI => ?_)
    refine cnd (b := (((a / 1024 % 32 : Nat) : Int) == (31 : Int))) hI (by kernel_rfl) (fun hc14 => ?_) (fun hc14 => ?_)
    · skip
      replace hI := hI.re 27 (.v (.bool true)) rfl (congrArg Value.bool hc14)
      try simp only [decide_eq_true_eq, decide_eq_false_iff_not, beq_iff_eq, bne_iff_ne, beq_eq_false_iff_ne, bne_eq_false_iff_eq, Bool.and_eq_true, Bool.and_eq_false_iff, Bool.or_eq_true, Bool.or_eq_false_iff, Bool.not_eq_true', Bool.not_eq_false', ne_eq] at hc14
      have he0 : ¬ a / 1024 % 32 = 0 := by omega
      have he1 : a / 1024 % 32 = 31 := by omega
      refine reg_all tab (k := 1) (hs := []) (sy := []) (ks := [5, 6, 3]) (bs := []) (gs := [])
          (L' := [(5, .v (.int .u32 255)), (6, .v (.int .u32 ((a % 1024 : Nat) : Int))), (3, .v (.int .u32 ((a / 32768 % 2 : Nat) : Int)))])
          (H' := []) (G' := []) (k' := 1) hR hI (by kernel_rfl)
          .nil (fun e15 a15 w15 hag hR hI => ?_)
      refine normal_block ?_
      refine then_n ?_
      refine wp_seq ?_
      refine reg (is := [0, 1, 2, 3, 4, 5, 6, 7, 8, 9]) (by kernel_rfl) ?_
      refine part_ tab [0, 1, 2, 3, 4, 5, 6, 7] [8, 9] (by rfl) (k := 1) (hs := [(1, .nw), (3, .nw), (4, .eq (.int .u32 ((a / 32768 % 2 * 2147483648 + 255 * 8388608 : Nat) : Int))), (6, .nw), (7, .eq (.int .u32 ((a / 32768 % 2 * 2147483648 + 255 * 8388608 + a % 1024 * 8192 : Nat) : Int)))]) (sy := []) (ks := [36]) (bs := []) (gs := [])
          (L' := [(36, .v (.int .u32 ((a / 32768 % 2 * 2147483648 + 255 * 8388608 + a % 1024 * 8192 : Nat) : Int)))])
          (H' := []) (G' := []) (k' := 1) hR hI (by kernel_rfl)
          (.cons (by decide : (0 : Int) ≤ 31) (.cons (by decide : (31 : Int) ≤ (IntKind.u32.bits : Int)) (.cons (inR_u32 (n := ((a / 32768 % 2 : Nat) : Int) * 2147483648) (by omega)) (.cons (by decide : (0 : Int) ≤ 23) (.cons (by decide : (23 : Int) ≤ (IntKind.u32.bits : Int)) (.cons (inR_u32 (n := (255 : Int) * 8388608) (by omega)) (.cons (congrArg (Value.int .u32) (u32_join31 _ _ (by omega) (by omega) : bits .or .u32 (((a / 32768 % 2) * 2147483648 : Nat) : Int) ((255 * 8388608 : Nat) : Int) = ((a / 32768 % 2 * 2147483648 + 255 * 8388608 : Nat) : Int))) (.cons (by decide : (0 : Int) ≤ 13) (.cons (by decide : (13 : Int) ≤ (IntKind.u32.bits : Int)) (.cons (inR_u32 (n := ((a % 1024 : Nat) : Int) * 8192) (by omega)) (.cons (congrArg (Value.int .u32) (u32_join23 _ _ (by omega) (by omega) (by omega) : bits .or .u32 ((a / 32768 % 2 * 2147483648 + 255 * 8388608 : Nat) : Int) (((a % 1024) * 8192 : Nat) : Int) = ((a / 32768 % 2 * 2147483648 + 255 * 8388608 + a % 1024 * 8192 : Nat) : Int))) .nil))))))))))) (fun e16 a16 w16 hag hR hI => ?_)
      refine callX (ys := [.v (.int .u32 ((a / 32768 % 2 * 2147483648 + 255 * 8388608 + a % 1024 * 8192 : Nat) : Int))]) (v := .v (.float .f32 (a / 32768 % 2 * 2147483648 + 255 * 8388608 + a % 1024 * 8192))) hI rfl rfl rfl ⟨_, rfl, rfl, rfl⟩ (by kernel_rfl) ((run_f32 _ _)) (fun a17 hI => ?_)
      replace hI := hI.sel [37, 36] (by kernel_rfl : sel _ _ = some [(37, .v (.float .f32 (a / 32768 % 2 * 2147483648 + 255 * 8388608 + a % 1024 * 8192))), (36, .v (.int .u32 ((a / 32768 % 2 * 2147483648 + 255 * 8388608 + a % 1024 * 8192 : Nat) : Int)))])
      refine part_ tab [9] [] (by rfl) (k := 1) (hs := []) (sy := []) (ks := [2]) (bs := []) (gs := [])
          (L' := [(2, .v (.float .f32 (a / 32768 % 2 * 2147483648 + 255 * 8388608 + a % 1024 * 8192)))])
          (H' := []) (G' := []) (k' := 1) hR hI (by kernel_rfl)
          .nil (fun e18 a18 w18 hag hR hI => ?_)
      refine ops_nil ?_
      refine then_n ?_
      refine wp_ret ?_
      refine outN tab (xs := [.v (.float .f32 (a / 32768 % 2 * 2147483648 + 255 * 8388608 + a % 1024 * 8192))]) hR hI rfl (by kernel_rfl) ?_
      exact ⟨by unfold sgl rexp; rw [if_neg he0, if_pos he1]; rfl, hB.fin hR⟩
    · skip
      replace hI := hI.re 27 (.v (.bool false)) rfl (congrArg Value.bool hc14)
      try simp only [decide_eq_true_eq, decide_eq_false_iff_not, beq_iff_eq, bne_iff_ne, beq_eq_false_iff_ne, bne_eq_false_iff_eq, Bool.and_eq_true, Bool.and_eq_false_iff, Bool.or_eq_true, Bool.or_eq_false_iff, Bool.not_eq_true', Bool.not_eq_false', ne_eq] at hc14
      have he0 : ¬ a / 1024 % 32 = 0 := by omega
      have he1 : ¬ a / 1024 % 32 = 31 := by omega
      refine wp_skip ?_
      refine normal_block ?_
      refine then_n ?_
      refine wp_seq ?_
      refine reg (is := [0, 1, 2, 3, 4, 5, 6, 7, 8, 9]) (by kernel_rfl) ?_
      refine part_ tab [0, 1, 2, 3, 4, 5, 6, 7] [8, 9] (by rfl) (k := 1) (hs := [(1, .nw), (3, .nw), (4, .eq (.int .u32 ((a / 32768 % 2 * 2147483648 + (a / 1024 % 32 + 112) * 8388608 : Nat) : Int))), (6, .nw), (7, .eq (.int .u32 ((a / 32768 % 2 * 2147483648 + (a / 1024 % 32 + 112) * 8388608 + a % 1024 * 8192 : Nat) : Int)))]) (sy := []) (ks := [36]) (bs := []) (gs := [])
          (L' := [(36, .v (.int .u32 ((a / 32768 % 2 * 2147483648 + (a / 1024 % 32 + 112) * 8388608 + a % 1024 * 8192 : Nat) : Int)))])
          (H' := []) (G' := []) (k' := 1) hR hI (by kernel_rfl)
          (.cons (by decide : (0 : Int) ≤ 31) (.cons (by decide : (31 : Int) ≤ (IntKind.u32.bits : Int)) (.cons (inR_u32 (n := ((a / 32768 % 2 : Nat) : Int) * 2147483648) (by omega)) (.cons (by decide : (0 : Int) ≤ 23) (.cons (by decide : (23 : Int) ≤ (IntKind.u32.bits : Int)) (.cons (inR_u32 (n := ((a / 1024 % 32 + 112 : Nat) : Int) * 8388608) (by omega)) (.cons (congrArg (Value.int .u32) (u32_join31 _ _ (by omega) (by omega) : bits .or .u32 (((a / 32768 % 2) * 2147483648 : Nat) : Int) (((a / 1024 % 32 + 112) * 8388608 : Nat) : Int) = ((a / 32768 % 2 * 2147483648 + (a / 1024 % 32 + 112) * 8388608 : Nat) : Int))) (.cons (by decide : (0 : Int) ≤ 13) (.cons (by decide : (13 : Int) ≤ (IntKind.u32.bits : Int)) (.cons (inR_u32 (n := ((a % 1024 : Nat) : Int) * 8192) (by omega)) (.cons (congrArg (Value.int .u32) (u32_join23 _ _ (by omega) (by omega) (by omega) : bits .or .u32 ((a / 32768 % 2 * 2147483648 + (a / 1024 % 32 + 112) * 8388608 : Nat) : Int) (((a % 1024) * 8192 : Nat) : Int) = ((a / 32768 % 2 * 2147483648 + (a / 1024 % 32 + 112) * 8388608 + a % 1024 * 8192 : Nat) : Int))) .nil))))))))))) (fun e19 a19 w19 hag hR hI => ?_)
      refine callX (ys := [.v (.int .u32 ((a / 32768 % 2 * 2147483648 + (a / 1024 % 32 + 112) * 8388608 + a % 1024 * 8192 : Nat) : Int))]) (v := .v (.float .f32 (a / 32768 % 2 * 2147483648 + (a / 1024 % 32 + 112) * 8388608 + a % 1024 * 8192))) hI rfl rfl rfl ⟨_, rfl, rfl, rfl⟩ (by kernel_rfl) ((run_f32 _ _)) (fun a20 hI => ?_)
      replace hI := hI.sel [37, 36] (by kernel_rfl : sel _ _ = some [(37, .v (.float .f32 (a / 32768 % 2 * 2147483648 + (a / 1024 % 32 + 112) * 8388608 + a % 1024 * 8192))), (36, .v (.int .u32 ((a / 32768 % 2 * 2147483648 + (a / 1024 % 32 + 112) * 8388608 + a % 1024 * 8192 : Nat) : Int)))])
      refine part_ tab [9] [] (by rfl) (k := 1) (hs := []) (sy := []) (ks := [2]) (bs := []) (gs := [])
          (L' := [(2, .v (.float .f32 (a / 32768 % 2 * 2147483648 + (a / 1024 % 32 + 112) * 8388608 + a % 1024 * 8192)))])
          (H' := []) (G' := []) (k' := 1) hR hI (by kernel_rfl)
          .nil (fun e21 a21 w21 hag hR hI => ?_)
      refine ops_nil ?_
      refine then_n ?_
      refine wp_ret ?_
      refine outN tab (xs := [.v (.float .f32 (a / 32768 % 2 * 2147483648 + (a / 1024 % 32 + 112) * 8388608 + a % 1024 * 8192))]) hR hI rfl (by kernel_rfl) ?_
      exact ⟨by unfold sgl rexp; rw [if_neg he0, if_neg he1]; rfl, hB.fin hR⟩

set_option maxHeartbeats 4000000 in
set_option maxRecDepth 100000 in
theorem new_spec {C : Nat → Prop} {w : World} {z : Nat} (hz : z < 4294967296) :
    Calls P 35 #[.float .f32 z] w fun ex w' => ex = .returned (.agg #[.int .u16 ((newH z : Nat) : Int)]) ∧ Keep (fun b => b < w.heap.size) w w' := by
  refine doorN (e := e0) (vs := [.v (.float .f32 z)]) (n := 46) (m := 1) Try.func35 rfl rfl rfl (by decide) fun a_ hI => ?_
  replace hI : Is 46 [] e0 [(0, .v (.float .f32 z))] a_ := hI
  have hR : Rel (fun b => b < w.heap.size) w e0 [] [] w := Rel.start (fun k hk => hk)
  have hB : Base C w C (fun b => b < w.heap.size) w := Base.start
  refine reg_seq tab (k := 0) (hs := []) (sy := []) (ks := [2, 0]) (bs := [0]) (gs := [])
      (L' := [(2, .p 0 0), (0, .v (.float .f32 z))])
      (H' := [⟨0, 44, [.v (.int .u16 0)]⟩]) (G' := []) (k' := 1) hR hI (by kernel_rfl)
      .nil (fun e1 a1 w1 hag hR hI => ?_)
  refine wp_seq ?_
  refine reg (is := [0, 1, 2]) (by kernel_rfl) ?_
  refine part_ tab [0] [1, 2] (by rfl) (k := 1) (hs := []) (sy := []) (ks := [8, 2]) (bs := [0]) (gs := [])
      (L' := [(8, .v (.float .f32 z)), (2, .p 0 0)])
      (H' := [⟨0, 44, [.v (.int .u16 0)]⟩]) (G' := []) (k' := 1) hR hI (by kernel_rfl)
      .nil (fun e2 a2 w2 hag hR hI => ?_)
  refine callX (ys := [.v (.float .f32 z)]) (v := .v (.int .u32 ((z : Nat) : Int))) hI rfl rfl rfl ⟨_, rfl, rfl, rfl⟩ (by kernel_rfl) (run_b32 _ _) (fun a3 hI => ?_)
  replace hI := hI.sel [9, 8, 2] (by kernel_rfl : sel _ _ = some [(9, .v (.int .u32 ((z : Nat) : Int))), (8, .v (.float .f32 z)), (2, .p 0 0)])
  refine part_ tab [2] [] (by rfl) (k := 1) (hs := []) (sy := []) (ks := [3, 2]) (bs := [0]) (gs := [])
      (L' := [(3, .v (.int .u32 ((z : Nat) : Int))), (2, .p 0 0)])
      (H' := [⟨0, 44, [.v (.int .u16 0)]⟩]) (G' := []) (k' := 1) hR hI (by kernel_rfl)
      .nil (fun e4 a4 w4 hag hR hI => ?_)
  refine ops_nil ?_
  refine then_n ?_
  refine reg_seq tab (k := 1) (hs := [(2, .eq (.int .u32 ((z / 2147483648 % 2 : Nat) : Int))), (3, .nw)]) (sy := []) (ks := [4, 3, 2]) (bs := [0]) (gs := [])
      (L' := [(4, .v (.int .u16 ((z / 2147483648 % 2 : Nat) : Int))), (3, .v (.int .u32 ((z : Nat) : Int))), (2, .p 0 0)])
      (H' := [⟨0, 44, [.v (.int .u16 0)]⟩]) (G' := []) (k' := 1) hR hI (by kernel_rfl)
      (.cons (by decide : (0 : Int) ≤ 31) (.cons (by decide : (31 : Int) ≤ (IntKind.u32.bits : Int)) (.cons (congrArg (Value.int .u32) (u32_and1 (z / 2147483648) (by omega) : bits .and .u32 ((z / 2147483648 : Nat) : Int) (1 : Int) = ((z / 2147483648 % 2 : Nat) : Int))) (.cons (inR_u16 (n := ((z / 2147483648 % 2 : Nat) : Int)) (by omega)) .nil)))) (fun e5 a5 w5 hag hR hI => ?_)
  refine reg_seq tab (k := 1) (hs := [(2, .eq (.int .u32 ((z / 8388608 % 256 : Nat) : Int)))]) (sy := []) (ks := [5, 4, 3, 2]) (bs := [0]) (gs := [])
      (L' := [(5, .v (.int .u32 ((z / 8388608 % 256 : Nat) : Int))), (4, .v (.int .u16 ((z / 2147483648 % 2 : Nat) : Int))), (3, .v (.int .u32 ((z : Nat) : Int))), (2, .p 0 0)])
      (H' := [⟨0, 44, [.v (.int .u16 0)]⟩]) (G' := []) (k' := 1) hR hI (by kernel_rfl)
      (.cons (by decide : (0 : Int) ≤ 23) (.cons (by decide : (23 : Int) ≤ (IntKind.u32.bits : Int)) (.cons (congrArg (Value.int .u32) (u32_and255 (z / 8388608) (by omega) : bits .and .u32 ((z / 8388608 : Nat) : Int) (255 : Int) = ((z / 8388608 % 256 : Nat) : Int))) .nil))) (fun e6 a6 w6 hag hR hI => ?_)
  refine reg_seq tab (k := 1) (hs := [(1, .nw), (2, .nw), (3, .nw)]) (sy := []) (ks := [6, 5, 4, 3, 2]) (bs := [0]) (gs := [])
      (L' := [(6, .v (.int .i16 ((((z / 8388608 % 256 : Nat) : Int) - (127 : Int)) + (15 : Int)))), (5, .v (.int .u32 ((z / 8388608 % 256 : Nat) : Int))), (4, .v (.int .u16 ((z / 2147483648 % 2 : Nat) : Int))), (3, .v (.int .u32 ((z : Nat) : Int))), (2, .p 0 0)])
      (H' := [⟨0, 44, [.v (.int .u16 0)]⟩]) (G' := []) (k' := 1) hR hI (by kernel_rfl)
      (.cons (inR_i16 (n := ((z / 8388608 % 256 : Nat) : Int)) (by omega)) (.cons (inR_i16 (n := ((z / 8388608 % 256 : Nat) : Int) - (127 : Int)) (by omega)) (.cons (inR_i16 (n := (((z / 8388608 % 256 : Nat) : Int) - (127 : Int)) + (15 : Int)) (by omega)) .nil))) (fun e7 a7 w7 hag hR hI => ?_)
  refine reg_seq tab (k := 1) (hs := [(2, .eq (.int .u16 ((z / 8192 % 65536 : Nat) : Int))), (3, .eq (.int .u16 ((z / 8192 % 1024 : Nat) : Int)))]) (sy := []) (ks := [7, 6, 5, 4, 2]) (bs := [0]) (gs := [])
      (L' := [(7, .v (.int .u16 ((z / 8192 % 1024 : Nat) : Int))), (6, .v (.int .i16 ((((z / 8388608 % 256 : Nat) : Int) - (127 : Int)) + (15 : Int)))), (5, .v (.int .u32 ((z / 8388608 % 256 : Nat) : Int))), (4, .v (.int .u16 ((z / 2147483648 % 2 : Nat) : Int))), (2, .p 0 0)])
      (H' := [⟨0, 44, [.v (.int .u16 0)]⟩]) (G' := []) (k' := 1) hR hI (by kernel_rfl)
      (.cons (by decide : (0 : Int) ≤ 13) (.cons (by decide : (13 : Int) ≤ (IntKind.u32.bits : Int)) (.cons (congrArg (Value.int .u16) (wrap_u16_nat _ : IntKind.u16.wrap ((z / 8192 : Nat) : Int) = ((z / 8192 % 65536 : Nat) : Int))) (.cons (congrArg (Value.int .u16) ((u16_and1023 (z / 8192 % 65536) (by omega)).trans (by congr 1; omega) : bits .and .u16 ((z / 8192 % 65536 : Nat) : Int) (1023 : Int) = ((z / 8192 % 1024 : Nat) : Int))) .nil)))) (fun e8 a8 w8 hag hR hI => ?_)
  refine wp_seq ?_
  refine wp_block ?_
  refine reg_seq tab (k := 1) (hs := []) (sy := []) (ks := [25, 7, 6, 5, 4, 2]) (bs := [0]) (gs := [])
      (L' := [(25, .v (.bool (((z / 8388608 % 256 : Nat) : Int) == (0 : Int)))), (7, .v (.int .u16 ((z / 8192 % 1024 : Nat) : Int))), (6, .v (.int .i16 ((((z / 8388608 % 256 : Nat) : Int) - (127 : Int)) + (15 : Int)))), (5, .v (.int .u32 ((z / 8388608 % 256 : Nat) : Int))), (4, .v (.int .u16 ((z / 2147483648 % 2 : Nat) : Int))), (2, .p 0 0)])
      (H' := [⟨0, 44, [.v (.int .u16 0)]⟩]) (G' := []) (k' := 1) hR hI (by kernel_rfl)
      .nil (fun e9 a9 w9 hag hR hI => ?_)
  refine cnd (b := (((z / 8388608 % 256 : Nat) : Int) == (0 : Int))) hI (by kernel_rfl) (fun hc10 => ?_) (fun hc10 => ?_)
  · skip
    replace hI := hI.re 25 (.v (.bool true)) rfl (congrArg Value.bool hc10)
    try simp only [decide_eq_true_eq, decide_eq_false_iff_not, beq_iff_eq, bne_iff_ne, beq_eq_false_iff_ne, bne_eq_false_iff_eq, Bool.and_eq_true, Bool.and_eq_false_iff, Bool.or_eq_true, Bool.or_eq_false_iff, Bool.not_eq_true', Bool.not_eq_false', ne_eq] at hc10
    have h0 : z / 8388608 % 256 = 0 := by omega
    refine reg_all tab (k := 1) (hs := []) (sy := []) (ks := [6, 7, 4, 2]) (bs := [0]) (gs := [])
        (L' := [(6, .v (.int .i16 0)), (7, .v (.int .u16 ((z / 8192 % 1024 : Nat) : Int))), (4, .v (.int .u16 ((z / 2147483648 % 2 : Nat) : Int))), (2, .p 0 0)])
        (H' := [⟨0, 44, [.v (.int .u16 0)]⟩]) (G' := []) (k' := 1) hR hI (by kernel_rfl)
        .nil (fun e11 a11 w11 hag hR hI => ?_)
    refine normal_block ?_
    refine then_n ?_
    refine reg_seq tab (k := 1) (hs := [(1, .nw), (3, .nw), (4, .nw), (5, .eq (.int .u16 ((z / 2147483648 % 2 * 32768 + 0 * 1024 : Nat) : Int))), (7, .eq (.int .u16 ((z / 2147483648 % 2 * 32768 + 0 * 1024 + (z / 8192 % 1024) : Nat) : Int)))]) (sy := []) (ks := [2]) (bs := [0]) (gs := [])
        (L' := [(2, .p 0 0)])
        (H' := [⟨0, 44, [.v (.int .u16 ((z / 2147483648 % 2 * 32768 + 0 * 1024 + (z / 8192 % 1024) : Nat) : Int))]⟩]) (G' := []) (k' := 1) hR hI (by kernel_rfl)
        (.cons (by decide : (0 : Int) ≤ 15) (.cons (by decide : (15 : Int) ≤ (IntKind.u16.bits : Int)) (.cons (inR_u16 (n := ((z / 2147483648 % 2 : Nat) : Int) * 32768) (by omega)) (.cons (by decide : (0 : Int) ≤ 10) (.cons (by decide : (10 : Int) ≤ (IntKind.i16.bits : Int)) (.cons (inR_i16 (n := (0 : Int) * 1024) (by omega)) (.cons (inR_u16 (n := ((0 * 1024 : Nat) : Int)) (by omega)) (.cons (congrArg (Value.int .u16) (u16_join15 _ _ (by omega) (by omega) : bits .or .u16 (((z / 2147483648 % 2) * 32768 : Nat) : Int) ((0 * 1024 : Nat) : Int) = ((z / 2147483648 % 2 * 32768 + 0 * 1024 : Nat) : Int))) (.cons (congrArg (Value.int .u16) (u16_join10 _ (z / 8192 % 1024) (by omega) (by omega) (by omega) : bits .or .u16 ((z / 2147483648 % 2 * 32768 + 0 * 1024 : Nat) : Int) ((z / 8192 % 1024 : Nat) : Int) = ((z / 2147483648 % 2 * 32768 + 0 * 1024 + (z / 8192 % 1024) : Nat) : Int))) .nil))))))))) (fun e12 a12 w12 hag hR hI => ?_)
    refine wp_ret ?_
    refine outN tab (xs := [.agg [.v (.int .u16 ((z / 2147483648 % 2 * 32768 + 0 * 1024 + (z / 8192 % 1024) : Nat) : Int))]]) hR hI rfl (by kernel_rfl) ?_
    have hn_ : newH z = z / 2147483648 % 2 * 32768 + 0 * 1024 + (z / 8192 % 1024) := by unfold newH; rw [if_pos h0]; try omega
    exact ⟨by rw [hn_]; rfl, hB.fin hR⟩
  · skip
    replace hI := hI.re 25 (.v (.bool false)) rfl (congrArg Value.bool hc10)
    try simp only [decide_eq_true_eq, decide_eq_false_iff_not, beq_iff_eq, bne_iff_ne, beq_eq_false_iff_ne, bne_eq_false_iff_eq, Bool.and_eq_true, Bool.and_eq_false_iff, Bool.or_eq_true, Bool.or_eq_false_iff, Bool.not_eq_true', Bool.not_eq_false', ne_eq] at hc10
    refine reg_seq tab (k := 1) (hs := []) (sy := []) (ks := [28, 7, 6, 4, 2]) (bs := [0]) (gs := [])
        (L' := [(28, .v (.bool (((z / 8388608 % 256 : Nat) : Int) == (255 : Int)))), (7, .v (.int .u16 ((z / 8192 % 1024 : Nat) : Int))), (6, .v (.int .i16 ((((z / 8388608 % 256 : Nat) : Int) - (127 : Int)) + (15 : Int)))), (4, .v (.int .u16 ((z / 2147483648 % 2 : Nat) : Int))), (2, .p 0 0)])
        (H' := [⟨0, 44, [.v (.int .u16 0)]⟩]) (G' := []) (k' := 1) hR hI (by kernel_rfl)
        .nil (fun e13 a13 w13 hag hR hI => ?_)
    refine cnd (b := (((z / 8388608 % 256 : Nat) : Int) == (255 : Int))) hI (by kernel_rfl) (fun hc14 => ?_) (fun hc14 => ?_)
    · skip
      replace hI := hI.re 28 (.v (.bool true)) rfl (congrArg Value.bool hc14)
      try simp only [decide_eq_true_eq, decide_eq_false_iff_not, beq_iff_eq, bne_iff_ne, beq_eq_false_iff_ne, bne_eq_false_iff_eq, Bool.and_eq_true, Bool.and_eq_false_iff, Bool.or_eq_true, Bool.or_eq_false_iff, Bool.not_eq_true', Bool.not_eq_false', ne_eq] at hc14
      have h0 : ¬ z / 8388608 % 256 = 0 := by omega
      have h1 : z / 8388608 % 256 = 255 := by omega
      refine reg_all tab (k := 1) (hs := []) (sy := []) (ks := [6, 7, 4, 2]) (bs := [0]) (gs := [])
          (L' := [(6, .v (.int .i16 31)), (7, .v (.int .u16 ((z / 8192 % 1024 : Nat) : Int))), (4, .v (.int .u16 ((z / 2147483648 % 2 : Nat) : Int))), (2, .p 0 0)])
          (H' := [⟨0, 44, [.v (.int .u16 0)]⟩]) (G' := []) (k' := 1) hR hI (by kernel_rfl)
          .nil (fun e15 a15 w15 hag hR hI => ?_)
      refine normal_block ?_
      refine then_n ?_
      refine reg_seq tab (k := 1) (hs := [(1, .nw), (3, .nw), (4, .nw), (5, .eq (.int .u16 ((z / 2147483648 % 2 * 32768 + 31 * 1024 : Nat) : Int))), (7, .eq (.int .u16 ((z / 2147483648 % 2 * 32768 + 31 * 1024 + (z / 8192 % 1024) : Nat) : Int)))]) (sy := []) (ks := [2]) (bs := [0]) (gs := [])
          (L' := [(2, .p 0 0)])
          (H' := [⟨0, 44, [.v (.int .u16 ((z / 2147483648 % 2 * 32768 + 31 * 1024 + (z / 8192 % 1024) : Nat) : Int))]⟩]) (G' := []) (k' := 1) hR hI (by kernel_rfl)
          (.cons (by decide : (0 : Int) ≤ 15) (.cons (by decide : (15 : Int) ≤ (IntKind.u16.bits : Int)) (.cons (inR_u16 (n := ((z / 2147483648 % 2 : Nat) : Int) * 32768) (by omega)) (.cons (by decide : (0 : Int) ≤ 10) (.cons (by decide : (10 : Int) ≤ (IntKind.i16.bits : Int)) (.cons (inR_i16 (n := (31 : Int) * 1024) (by omega)) (.cons (inR_u16 (n := ((31 * 1024 : Nat) : Int)) (by omega)) (.cons (congrArg (Value.int .u16) (u16_join15 _ _ (by omega) (by omega) : bits .or .u16 (((z / 2147483648 % 2) * 32768 : Nat) : Int) ((31 * 1024 : Nat) : Int) = ((z / 2147483648 % 2 * 32768 + 31 * 1024 : Nat) : Int))) (.cons (congrArg (Value.int .u16) (u16_join10 _ (z / 8192 % 1024) (by omega) (by omega) (by omega) : bits .or .u16 ((z / 2147483648 % 2 * 32768 + 31 * 1024 : Nat) : Int) ((z / 8192 % 1024 : Nat) : Int) = ((z / 2147483648 % 2 * 32768 + 31 * 1024 + (z / 8192 % 1024) : Nat) : Int))) .nil))))))))) (fun e16 a16 w16 hag hR hI => ?_)
      refine wp_ret ?_
      refine outN tab (xs := [.agg [.v (.int .u16 ((z / 2147483648 % 2 * 32768 + 31 * 1024 + (z / 8192 % 1024) : Nat) : Int))]]) hR hI rfl (by kernel_rfl) ?_
      have hn_ : newH z = z / 2147483648 % 2 * 32768 + 31 * 1024 + (z / 8192 % 1024) := by unfold newH; rw [if_neg h0, if_pos h1]; try omega
      exact ⟨by rw [hn_]; rfl, hB.fin hR⟩
    · skip
      replace hI := hI.re 28 (.v (.bool false)) rfl (congrArg Value.bool hc14)
      try simp only [decide_eq_true_eq, decide_eq_false_iff_not, beq_iff_eq, bne_iff_ne, beq_eq_false_iff_ne, bne_eq_false_iff_eq, Bool.and_eq_true, Bool.and_eq_false_iff, Bool.or_eq_true, Bool.or_eq_false_iff, Bool.not_eq_true', Bool.not_eq_false', ne_eq] at hc14
      refine reg_seq tab (k := 1) (hs := []) (sy := []) (ks := [31, 7, 6, 4, 2]) (bs := [0]) (gs := [])
          (L' := [(31, .v (.bool (decide (((((z / 8388608 % 256 : Nat) : Int) - (127 : Int)) + (15 : Int)) > (30 : Int))))), (7, .v (.int .u16 ((z / 8192 % 1024 : Nat) : Int))), (6, .v (.int .i16 ((((z / 8388608 % 256 : Nat) : Int) - (127 : Int)) + (15 : Int)))), (4, .v (.int .u16 ((z / 2147483648 % 2 : Nat) : Int))), (2, .p 0 0)])
          (H' := [⟨0, 44, [.v (.int .u16 0)]⟩]) (G' := []) (k' := 1) hR hI (by kernel_rfl)
          .nil (fun e17 a17 w17 hag hR hI => ?_)
      refine cnd (b := decide (((((z / 8388608 % 256 : Nat) : Int) - (127 : Int)) + (15 : Int)) > (30 : Int))) hI (by kernel_rfl) (fun hc18 => ?_) (fun hc18 => ?_)
      · skip
        replace hI := hI.re 31 (.v (.bool true)) rfl (congrArg Value.bool hc18)
        try simp only [decide_eq_true_eq, decide_eq_false_iff_not, beq_iff_eq, bne_iff_ne, beq_eq_false_iff_ne, bne_eq_false_iff_eq, Bool.and_eq_true, Bool.and_eq_false_iff, Bool.or_eq_true, Bool.or_eq_false_iff, Bool.not_eq_true', Bool.not_eq_false', ne_eq] at hc18
        have h0 : ¬ z / 8388608 % 256 = 0 := by omega
        have h1 : ¬ z / 8388608 % 256 = 255 := by omega
        have h2 : 143 ≤ z / 8388608 % 256 := by omega
        refine reg_seq tab (k := 1) (hs := []) (sy := []) (ks := [6, 4, 2]) (bs := [0]) (gs := [])
            (L' := [(6, .v (.int .i16 31)), (4, .v (.int .u16 ((z / 2147483648 % 2 : Nat) : Int))), (2, .p 0 0)])
            (H' := [⟨0, 44, [.v (.int .u16 0)]⟩]) (G' := []) (k' := 1) hR hI (by kernel_rfl)
            .nil (fun e19 a19 w19 hag hR hI => ?_)
        refine reg_all tab (k := 1) (hs := []) (sy := []) (ks := [7, 6, 4, 2]) (bs := [0]) (gs := [])
            (L' := [(7, .v (.int .u16 0)), (6, .v (.int .i16 31)), (4, .v (.int .u16 ((z / 2147483648 % 2 : Nat) : Int))), (2, .p 0 0)])
            (H' := [⟨0, 44, [.v (.int .u16 0)]⟩]) (G' := []) (k' := 1) hR hI (by kernel_rfl)
            .nil (fun e20 a20 w20 hag hR hI => ?_)
        refine normal_block ?_
        refine then_n ?_
        refine reg_seq tab (k := 1) (hs := [(1, .nw), (3, .nw), (4, .nw), (5, .eq (.int .u16 ((z / 2147483648 % 2 * 32768 + 31 * 1024 : Nat) : Int))), (7, .eq (.int .u16 ((z / 2147483648 % 2 * 32768 + 31 * 1024 + 0 : Nat) : Int)))]) (sy := []) (ks := [2]) (bs := [0]) (gs := [])
            (L' := [(2, .p 0 0)])
            (H' := [⟨0, 44, [.v (.int .u16 ((z / 2147483648 % 2 * 32768 + 31 * 1024 + 0 : Nat) : Int))]⟩]) (G' := []) (k' := 1) hR hI (by kernel_rfl)
            (.cons (by decide : (0 : Int) ≤ 15) (.cons (by decide : (15 : Int) ≤ (IntKind.u16.bits : Int)) (.cons (inR_u16 (n := ((z / 2147483648 % 2 : Nat) : Int) * 32768) (by omega)) (.cons (by decide : (0 : Int) ≤ 10) (.cons (by decide : (10 : Int) ≤ (IntKind.i16.bits : Int)) (.cons (inR_i16 (n := (31 : Int) * 1024) (by omega)) (.cons (inR_u16 (n := ((31 * 1024 : Nat) : Int)) (by omega)) (.cons (congrArg (Value.int .u16) (u16_join15 _ _ (by omega) (by omega) : bits .or .u16 (((z / 2147483648 % 2) * 32768 : Nat) : Int) ((31 * 1024 : Nat) : Int) = ((z / 2147483648 % 2 * 32768 + 31 * 1024 : Nat) : Int))) (.cons (congrArg (Value.int .u16) (u16_join10 _ 0 (by omega) (by omega) (by decide) : bits .or .u16 ((z / 2147483648 % 2 * 32768 + 31 * 1024 : Nat) : Int) (0 : Int) = ((z / 2147483648 % 2 * 32768 + 31 * 1024 + 0 : Nat) : Int))) .nil))))))))) (fun e21 a21 w21 hag hR hI => ?_)
        refine wp_ret ?_
        refine outN tab (xs := [.agg [.v (.int .u16 ((z / 2147483648 % 2 * 32768 + 31 * 1024 + 0 : Nat) : Int))]]) hR hI rfl (by kernel_rfl) ?_
        have hn_ : newH z = z / 2147483648 % 2 * 32768 + 31 * 1024 + 0 := by unfold newH; rw [if_neg h0, if_neg h1, if_pos h2]; try omega
        exact ⟨by rw [hn_]; rfl, hB.fin hR⟩
      · skip
        replace hI := hI.re 31 (.v (.bool false)) rfl (congrArg Value.bool hc18)
        try simp only [decide_eq_true_eq, decide_eq_false_iff_not, beq_iff_eq, bne_iff_ne, beq_eq_false_iff_ne, bne_eq_false_iff_eq, Bool.and_eq_true, Bool.and_eq_false_iff, Bool.or_eq_true, Bool.or_eq_false_iff, Bool.not_eq_true', Bool.not_eq_false', ne_eq] at hc18
        refine reg_seq tab (k := 1) (hs := []) (sy := []) (ks := [34, 7, 6, 4, 2]) (bs := [0]) (gs := [])
            (L' := [(34, .v (.bool (decide (((((z / 8388608 % 256 : Nat) : Int) - (127 : Int)) + (15 : Int)) < (1 : Int))))), (7, .v (.int .u16 ((z / 8192 % 1024 : Nat) : Int))), (6, .v (.int .i16 ((((z / 8388608 % 256 : Nat) : Int) - (127 : Int)) + (15 : Int)))), (4, .v (.int .u16 ((z / 2147483648 % 2 : Nat) : Int))), (2, .p 0 0)])
            (H' := [⟨0, 44, [.v (.int .u16 0)]⟩]) (G' := []) (k' := 1) hR hI (by kernel_rfl)
            .nil (fun e22 a22 w22 hag hR hI => ?_)
        refine cnd (b := decide (((((z / 8388608 % 256 : Nat) : Int) - (127 : Int)) + (15 : Int)) < (1 : Int))) hI (by kernel_rfl) (fun hc23 => ?_) (fun hc23 => ?_)
        · skip
          replace hI := hI.re 34 (.v (.bool true)) rfl (congrArg Value.bool hc23)
          try simp only [decide_eq_true_eq, decide_eq_false_iff_not, beq_iff_eq, bne_iff_ne, beq_eq_false_iff_ne, bne_eq_false_iff_eq, Bool.and_eq_true, Bool.and_eq_false_iff, Bool.or_eq_true, Bool.or_eq_false_iff, Bool.not_eq_true', Bool.not_eq_false', ne_eq] at hc23
          have h0 : ¬ z / 8388608 % 256 = 0 := by omega
          have h1 : ¬ z / 8388608 % 256 = 255 := by omega
          have h2 : ¬ 143 ≤ z / 8388608 % 256 := by omega
          have h3 : z / 8388608 % 256 ≤ 112 := by omega
          refine reg_seq tab (k := 1) (hs := []) (sy := []) (ks := [6, 4, 2]) (bs := [0]) (gs := [])
              (L' := [(6, .v (.int .i16 0)), (4, .v (.int .u16 ((z / 2147483648 % 2 : Nat) : Int))), (2, .p 0 0)])
              (H' := [⟨0, 44, [.v (.int .u16 0)]⟩]) (G' := []) (k' := 1) hR hI (by kernel_rfl)
              .nil (fun e24 a24 w24 hag hR hI => ?_)
          refine reg_all tab (k := 1) (hs := []) (sy := []) (ks := [7, 6, 4, 2]) (bs := [0]) (gs := [])
              (L' := [(7, .v (.int .u16 0)), (6, .v (.int .i16 0)), (4, .v (.int .u16 ((z / 2147483648 % 2 : Nat) : Int))), (2, .p 0 0)])
              (H' := [⟨0, 44, [.v (.int .u16 0)]⟩]) (G' := []) (k' := 1) hR hI (by kernel_rfl)
              .nil (fun e25 a25 w25 hag hR hI => ?_)
          refine normal_block ?_
          refine then_n ?_
          refine reg_seq tab (k := 1) (hs := [(1, .nw), (3, .nw), (4, .nw), (5, .eq (.int .u16 ((z / 2147483648 % 2 * 32768 + 0 * 1024 : Nat) : Int))), (7, .eq (.int .u16 ((z / 2147483648 % 2 * 32768 + 0 * 1024 + 0 : Nat) : Int)))]) (sy := []) (ks := [2]) (bs := [0]) (gs := [])
              (L' := [(2, .p 0 0)])
              (H' := [⟨0, 44, [.v (.int .u16 ((z / 2147483648 % 2 * 32768 + 0 * 1024 + 0 : Nat) : Int))]⟩]) (G' := []) (k' := 1) hR hI (by kernel_rfl)
              (.cons (by decide : (0 : Int) ≤ 15) (.cons (by decide : (15 : Int) ≤ (IntKind.u16.bits : Int)) (.cons (inR_u16 (n := ((z / 2147483648 % 2 : Nat) : Int) * 32768) (by omega)) (.cons (by decide : (0 : Int) ≤ 10) (.cons (by decide : (10 : Int) ≤ (IntKind.i16.bits : Int)) (.cons (inR_i16 (n := (0 : Int) * 1024) (by omega)) (.cons (inR_u16 (n := ((0 * 1024 : Nat) : Int)) (by omega)) (.cons (congrArg (Value.int .u16) (u16_join15 _ _ (by omega) (by omega) : bits .or .u16 (((z / 2147483648 % 2) * 32768 : Nat) : Int) ((0 * 1024 : Nat) : Int) = ((z / 2147483648 % 2 * 32768 + 0 * 1024 : Nat) : Int))) (.cons (congrArg (Value.int .u16) (u16_join10 _ 0 (by omega) (by omega) (by decide) : bits .or .u16 ((z / 2147483648 % 2 * 32768 + 0 * 1024 : Nat) : Int) (0 : Int) = ((z / 2147483648 % 2 * 32768 + 0 * 1024 + 0 : Nat) : Int))) .nil))))))))) (fun e26 a26 w26 hag hR hI => ?_)
          refine wp_ret ?_
          refine outN tab (xs := [.agg [.v (.int .u16 ((z / 2147483648 % 2 * 32768 + 0 * 1024 + 0 : Nat) : Int))]]) hR hI rfl (by kernel_rfl) ?_
          have hn_ : newH z = z / 2147483648 % 2 * 32768 + 0 * 1024 + 0 := by unfold newH; rw [if_neg h0, if_neg h1, if_neg h2, if_pos h3]; try omega
          exact ⟨by rw [hn_]; rfl, hB.fin hR⟩
        · skip
          replace hI := hI.re 34 (.v (.bool false)) rfl (congrArg Value.bool hc23)
          try simp only [decide_eq_true_eq, decide_eq_false_iff_not, beq_iff_eq, bne_iff_ne, beq_eq_false_iff_ne, bne_eq_false_iff_eq, Bool.and_eq_true, Bool.and_eq_false_iff, Bool.or_eq_true, Bool.or_eq_false_iff, Bool.not_eq_true', Bool.not_eq_false', ne_eq] at hc23
          have h0 : ¬ z / 8388608 % 256 = 0 := by omega
          have h1 : ¬ z / 8388608 % 256 = 255 := by omega
          have h2 : ¬ 143 ≤ z / 8388608 % 256 := by omega
          have h3 : ¬ z / 8388608 % 256 ≤ 112 := by omega
          replace hI := hI.re 6 (.v (.int .i16 ((z / 8388608 % 256 - 112 : Nat) : Int))) rfl (congrArg (Value.int .i16) (by omega))
          refine wp_skip ?_
          refine normal_block ?_
          refine then_n ?_
          refine reg_seq tab (k := 1) (hs := [(1, .nw), (3, .nw), (4, .nw), (5, .eq (.int .u16 ((z / 2147483648 % 2 * 32768 + (z / 8388608 % 256 - 112) * 1024 : Nat) : Int))), (7, .eq (.int .u16 ((z / 2147483648 % 2 * 32768 + (z / 8388608 % 256 - 112) * 1024 + (z / 8192 % 1024) : Nat) : Int)))]) (sy := []) (ks := [2]) (bs := [0]) (gs := [])
              (L' := [(2, .p 0 0)])
              (H' := [⟨0, 44, [.v (.int .u16 ((z / 2147483648 % 2 * 32768 + (z / 8388608 % 256 - 112) * 1024 + (z / 8192 % 1024) : Nat) : Int))]⟩]) (G' := []) (k' := 1) hR hI (by kernel_rfl)
              (.cons (by decide : (0 : Int) ≤ 15) (.cons (by decide : (15 : Int) ≤ (IntKind.u16.bits : Int)) (.cons (inR_u16 (n := ((z / 2147483648 % 2 : Nat) : Int) * 32768) (by omega)) (.cons (by decide : (0 : Int) ≤ 10) (.cons (by decide : (10 : Int) ≤ (IntKind.i16.bits : Int)) (.cons (inR_i16 (n := ((z / 8388608 % 256 - 112 : Nat) : Int) * 1024) (by omega)) (.cons (inR_u16 (n := (((z / 8388608 % 256 - 112) * 1024 : Nat) : Int)) (by omega)) (.cons (congrArg (Value.int .u16) (u16_join15 _ _ (by omega) (by omega) : bits .or .u16 (((z / 2147483648 % 2) * 32768 : Nat) : Int) (((z / 8388608 % 256 - 112) * 1024 : Nat) : Int) = ((z / 2147483648 % 2 * 32768 + (z / 8388608 % 256 - 112) * 1024 : Nat) : Int))) (.cons (congrArg (Value.int .u16) (u16_join10 _ (z / 8192 % 1024) (by omega) (by omega) (by omega) : bits .or .u16 ((z / 2147483648 % 2 * 32768 + (z / 8388608 % 256 - 112) * 1024 : Nat) : Int) ((z / 8192 % 1024 : Nat) : Int) = ((z / 2147483648 % 2 * 32768 + (z / 8388608 % 256 - 112) * 1024 + (z / 8192 % 1024) : Nat) : Int))) .nil))))))))) (fun e27 a27 w27 hag hR hI => ?_)
          refine wp_ret ?_
          refine outN tab (xs := [.agg [.v (.int .u16 ((z / 2147483648 % 2 * 32768 + (z / 8388608 % 256 - 112) * 1024 + (z / 8192 % 1024) : Nat) : Int))]]) hR hI rfl (by kernel_rfl) ?_
          have hn_ : newH z = z / 2147483648 % 2 * 32768 + (z / 8388608 % 256 - 112) * 1024 + (z / 8192 % 1024) := by unfold newH; rw [if_neg h0, if_neg h1, if_neg h2, if_neg h3]; try omega
          exact ⟨by rw [hn_]; rfl, hB.fin hR⟩

set_option maxHeartbeats 4000000 in
set_option maxRecDepth 100000 in
theorem isInf_spec {C : Nat → Prop} {w : World} {x : Nat} (hx : x < 18446744073709551616) :
    Calls P 9 #[.float .f64 x, .int .i64 0] w fun ex w' => ex = .returned (.bool (FloatKind.f64.format.order (x % 9223372036854775808) 9218868437227405311 == some .gt)) ∧ Keep (fun b => b < w.heap.size) w w' := by
  refine doorN (e := e0) (vs := [.v (.float .f64 x), .v (.int .i64 0)]) (n := 15) (m := 2) Try.func9 rfl rfl rfl (by decide) fun a_ hI => ?_
  replace hI : Is 15 [] e0 [(0, .v (.float .f64 x)), (1, .v (.int .i64 0))] a_ := hI
  have hR : Rel (fun b => b < w.heap.size) w e0 [] [] w := Rel.start (fun k hk => hk)
  have hB : Base C w C (fun b => b < w.heap.size) w := Base.start
  refine reg_seq tab (k := 0) (hs := []) (sy := []) (ks := [0, 1]) (bs := []) (gs := [])
      (L' := [(0, .v (.float .f64 x)), (1, .v (.int .i64 0))])
      (H' := []) (G' := []) (k' := 0) hR hI (by kernel_rfl)
      .nil (fun e1 a1 w1 hag hR hI => ?_)
  refine wp_seq ?_
  refine reg_seq tab (k := 0) (hs := []) (sy := []) (ks := [6, 0, 1]) (bs := []) (gs := [])
      (L' := [(6, .v (.bool true)), (0, .v (.float .f64 x)), (1, .v (.int .i64 0))])
      (H' := []) (G' := []) (k' := 0) hR hI (by kernel_rfl)
      .nil (fun e2 a2 w2 hag hR hI => ?_)
  refine cnd_t hI (by kernel_rfl) ?_
  refine reg (is := [0, 1, 2]) (by kernel_rfl) ?_
  refine part_ tab [0] [1, 2] (by rfl) (k := 0) (hs := []) (sy := []) (ks := [7, 0]) (bs := []) (gs := [])
      (L' := [(7, .v (.float .f64 x)), (0, .v (.float .f64 x))])
      (H' := []) (G' := []) (k' := 0) hR hI (by kernel_rfl)
      .nil (fun e3 a3 w3 hag hR hI => ?_)
  refine callOp (ys := [.v (.float .f64 x)]) hI rfl rfl ⟨_, rfl, rfl, rfl⟩ (by kernel_rfl) Try.func25 rfl rfl ?_
  refine (abs_spec (C := C) hx).mono ?_
  rintro ex w4 ⟨rfl, hk⟩
  replace hR := hR.same hk; clear hk
  refine ⟨_, rfl, ?_⟩
  replace hI := hI.put (d := some 8) (x := .v (.float .f64 (x % 9223372036854775808))) (by intro t ht; cases ht; decide) rfl
  replace hI := hI.sel [8, 7, 0] (by kernel_rfl : sel _ _ = some [(8, .v (.float .f64 (x % 9223372036854775808))), (7, .v (.float .f64 x)), (0, .v (.float .f64 x))])
  refine part_ tab [2] [] (by rfl) (k := 0) (hs := []) (sy := []) (ks := [0]) (bs := []) (gs := [])
      (L' := [(0, .v (.float .f64 (x % 9223372036854775808)))])
      (H' := []) (G' := []) (k' := 0) hR hI (by kernel_rfl)
      .nil (fun e5 a5 w5 hag hR hI => ?_)
  refine ops_nil ?_
  refine then_n ?_
  refine reg_seq tab (k := 0) (hs := []) (sy := []) (ks := [4]) (bs := []) (gs := [])
      (L' := [(4, .v (.bool (FloatKind.f64.format.order (x % 9223372036854775808) 9218868437227405311 == some .gt)))])
      (H' := []) (G' := []) (k' := 0) hR hI (by kernel_rfl)
      .nil (fun e6 a6 w6 hag hR hI => ?_)
  refine wp_ret ?_
  refine outN tab (xs := [.v (.bool (FloatKind.f64.format.order (x % 9223372036854775808) 9218868437227405311 == some .gt))]) hR hI rfl (by kernel_rfl) ?_
  exact ⟨rfl, hB.fin hR⟩

set_option maxHeartbeats 4000000 in
set_option maxRecDepth 100000 in
theorem normalize_spec {C : Nat → Prop} {w : World} {x : Nat} (hx : x < 18446744073709551616) (hn : (FloatKind.f64.format.order (x % 9223372036854775808) 4503599627370496 == some .lt) = false) :
    Calls P 48 #[.float .f64 x] w fun ex w' => ex = .returned (.tuple #[.float .f64 x, .int .i64 0]) ∧ Keep (fun b => b < w.heap.size) w w' := by
  refine doorN (e := e0) (vs := [.v (.float .f64 x)]) (n := 10) (m := 1) Try.func48 rfl rfl rfl (by decide) fun a_ hI => ?_
  replace hI : Is 10 [] e0 [(0, .v (.float .f64 x))] a_ := hI
  have hR : Rel (fun b => b < w.heap.size) w e0 [] [] w := Rel.start (fun k hk => hk)
  have hB : Base C w C (fun b => b < w.heap.size) w := Base.start
  refine reg_seq tab (k := 0) (hs := []) (sy := []) (ks := [0]) (bs := []) (gs := [])
      (L' := [(0, .v (.float .f64 x))])
      (H' := []) (G' := []) (k' := 0) hR hI (by kernel_rfl)
      .nil (fun e1 a1 w1 hag hR hI => ?_)
  refine wp_seq ?_
  refine wp_seq ?_
  refine reg (is := [0, 1, 2]) (by kernel_rfl) ?_
  refine part_ tab [0] [1, 2] (by rfl) (k := 0) (hs := []) (sy := []) (ks := [4, 0]) (bs := []) (gs := [])
      (L' := [(4, .v (.float .f64 x)), (0, .v (.float .f64 x))])
      (H' := []) (G' := []) (k' := 0) hR hI (by kernel_rfl)
      .nil (fun e2 a2 w2 hag hR hI => ?_)
  refine callOp (ys := [.v (.float .f64 x)]) hI rfl rfl ⟨_, rfl, rfl, rfl⟩ (by kernel_rfl) Try.func25 rfl rfl ?_
  refine (abs_spec (C := C) hx).mono ?_
  rintro ex w3 ⟨rfl, hk⟩
  replace hR := hR.same hk; clear hk
  refine ⟨_, rfl, ?_⟩
  replace hI := hI.put (d := some 5) (x := .v (.float .f64 (x % 9223372036854775808))) (by intro t ht; cases ht; decide) rfl
  replace hI := hI.sel [5, 4, 0] (by kernel_rfl : sel _ _ = some [(5, .v (.float .f64 (x % 9223372036854775808))), (4, .v (.float .f64 x)), (0, .v (.float .f64 x))])
  refine part_ tab [2] [] (by rfl) (k := 0) (hs := [(2, .eq (.bool false))]) (sy := []) (ks := [6, 0]) (bs := []) (gs := [])
      (L' := [(6, .v (.bool false)), (0, .v (.float .f64 x))])
      (H' := []) (G' := []) (k' := 0) hR hI (by kernel_rfl)
      (.cons (congrArg Value.bool (hn : (FloatKind.f64.format.order (x % 9223372036854775808) 4503599627370496 == some .lt) = false)) .nil) (fun e4 a4 w4 hag hR hI => ?_)
  refine ops_nil ?_
  refine then_n ?_
  refine cnd_f hI (by kernel_rfl) ?_
  refine wp_skip ?_
  refine then_n ?_
  refine reg_seq tab (k := 0) (hs := []) (sy := []) (ks := [3, 2]) (bs := []) (gs := [])
      (L' := [(3, .v (.int .i64 0)), (2, .v (.float .f64 x))])
      (H' := []) (G' := []) (k' := 0) hR hI (by kernel_rfl)
      .nil (fun e5 a5 w5 hag hR hI => ?_)
  refine wp_ret ?_
  refine outN tab (xs := [.v (.float .f64 x), .v (.int .i64 0)]) hR hI rfl (by kernel_rfl) ?_
  exact ⟨rfl, hB.fin hR⟩

set_option maxHeartbeats 4000000 in
set_option maxRecDepth 100000 in
theorem ldexp_spec {C : Nat → Prop} {w : World} {s : Bool} {E M F : Nat} {k : Int} (hE1 : 1 ≤ E) (hE2 : E ≤ 2046) (hM : M < 4503599627370496) (hk : (F : Int) = E + k) (hF1 : 1 ≤ F) (hF2 : F ≤ 2046) :
    Calls P 38 #[.float .f64 (nw s E M), .int .i64 k] w fun ex w' => ex = .returned (.float .f64 (nw s F M)) ∧ Keep (fun b => b < w.heap.size) w w' := by
  refine doorN (e := e0) (vs := [.v (.float .f64 (nw s E M)), .v (.int .i64 k)]) (n := 63) (m := 2) Try.func38 rfl rfl rfl (by decide) fun a_ hI => ?_
  replace hI : Is 63 [] e0 [(0, .v (.float .f64 (nw s E M))), (1, .v (.int .i64 k))] a_ := hI
  have hR : Rel (fun b => b < w.heap.size) w e0 [] [] w := Rel.start (fun k hk => hk)
  have hB : Base C w C (fun b => b < w.heap.size) w := Base.start
  have hkk := hk; clear hk
  have hx := nw_lt s E M (by omega) hM
  have hmod := nw_mod s E M (by omega) hM; have hEx := nw_E s E M (by omega) hM; have hz0 := order_zero s E M hE1 hE2 hM; have hself := order_self' s E M hE1 hE2 hM; have hmx := order_max' E M hE1 hE2 hM; have hce := u64_clearexp s E M (by omega) hM
  have hmn := (order_lt_of (x := nw false E M) (y := 4503599627370496) rfl (by decide : (4503599627370496 : Nat) = nw false 1 0) hE1 hE2 hM (by decide) (by decide) (by decide)).1
  have hmn2 : ¬ nw false E M < 4503599627370496 := by unfold nw; simp; omega
  rw [decide_eq_false hmn2] at hmn
  obtain ⟨x, hxe⟩ : ∃ x, x = nw s E M := ⟨_, rfl⟩
  rw [← hxe] at hx hmod hEx hz0 hself hce
  have hinf : (FloatKind.f64.format.order (x % 9223372036854775808) 9218868437227405311 == some .gt) = false := by rw [hmod]; exact hmx
  have hmin : (FloatKind.f64.format.order (x % 9223372036854775808) 4503599627370496 == some .lt) = false := by rw [hmod]; exact hmn
  have hnan : (FloatKind.f64.format.order x x != some .eq) = false := by rw [hself]; rfl
  have hzero : (FloatKind.f64.format.order x 0 == some .eq) = false := by rw [show FloatKind.f64.format.order x 0 = _ from hz0]; cases s <;> rfl
  have hI_ := hI
  replace hI := hI.re 0 (.v (.float .f64 x)) rfl (congrArg (Value.float .f64) hxe.symm)
  refine reg_seq tab (k := 0) (hs := []) (sy := []) (ks := [0, 1]) (bs := []) (gs := [])
      (L' := [(0, .v (.float .f64 x)), (1, .v (.int .i64 k))])
      (H' := []) (G' := []) (k' := 0) hR hI (by kernel_rfl)
      .nil (fun e1 a1 w1 hag hR hI => ?_)
  refine wp_seq ?_
  refine wp_block ?_
  refine reg_seq tab (k := 0) (hs := [(1, .eq (.bool false))]) (sy := []) (ks := [8, 0, 1]) (bs := []) (gs := [])
      (L' := [(8, .v (.bool false)), (0, .v (.float .f64 x)), (1, .v (.int .i64 k))])
      (H' := []) (G' := []) (k' := 0) hR hI (by kernel_rfl)
      (.cons (congrArg Value.bool (hzero : (FloatKind.f64.format.order x 0 == some .eq) = false)) .nil) (fun e2 a2 w2 hag hR hI => ?_)
  refine cnd_f hI (by kernel_rfl) ?_
  refine wp_seq ?_
  refine reg (is := [0, 1, 2, 3, 4, 5, 6]) (by kernel_rfl) ?_
  refine part_ tab [0] [1, 2, 3, 4, 5, 6] (by rfl) (k := 0) (hs := []) (sy := []) (ks := [13, 0, 1]) (bs := []) (gs := [])
      (L' := [(13, .v (.float .f64 x)), (0, .v (.float .f64 x)), (1, .v (.int .i64 k))])
      (H' := []) (G' := []) (k' := 0) hR hI (by kernel_rfl)
      .nil (fun e3 a3 w3 hag hR hI => ?_)
  refine callOp (ys := [.v (.float .f64 x), .v (.int .i64 0)]) hI rfl rfl ⟨_, rfl, rfl, rfl⟩ (by kernel_rfl) Try.func9 rfl rfl ?_
  refine (isInf_spec (C := C) hx).mono ?_
  rintro ex w4 ⟨rfl, hk⟩
  replace hR := hR.same hk; clear hk
  rw [hinf]
  refine ⟨_, rfl, ?_⟩
  replace hI := hI.put (d := some 14) (x := .v (.bool false)) (by intro t ht; cases ht; decide) rfl
  replace hI := hI.sel [14, 13, 0, 1] (by kernel_rfl : sel _ _ = some [(14, .v (.bool false)), (13, .v (.float .f64 x)), (0, .v (.float .f64 x)), (1, .v (.int .i64 k))])
  refine part_ tab [2, 3] [4, 5, 6] (by rfl) (k := 0) (hs := []) (sy := []) (ks := [16, 15, 0, 1]) (bs := []) (gs := [])
      (L' := [(16, .v (.float .f64 x)), (15, .v (.bool false)), (0, .v (.float .f64 x)), (1, .v (.int .i64 k))])
      (H' := []) (G' := []) (k' := 0) hR hI (by kernel_rfl)
      .nil (fun e5 a5 w5 hag hR hI => ?_)
  refine callOp (ys := [.v (.float .f64 x)]) hI rfl rfl ⟨_, rfl, rfl, rfl⟩ (by kernel_rfl) Try.func47 rfl rfl ?_
  refine (isNaN_spec (C := C)).mono ?_
  rintro ex w6 ⟨rfl, hk⟩
  replace hR := hR.same hk; clear hk
  rw [hnan]
  refine ⟨_, rfl, ?_⟩
  replace hI := hI.put (d := some 17) (x := .v (.bool false)) (by intro t ht; cases ht; decide) rfl
  replace hI := hI.sel [17, 16, 15, 0, 1] (by kernel_rfl : sel _ _ = some [(17, .v (.bool false)), (16, .v (.float .f64 x)), (15, .v (.bool false)), (0, .v (.float .f64 x)), (1, .v (.int .i64 k))])
  refine part_ tab [5, 6] [] (by rfl) (k := 0) (hs := []) (sy := []) (ks := [12, 0, 1]) (bs := []) (gs := [])
      (L' := [(12, .v (.bool false)), (0, .v (.float .f64 x)), (1, .v (.int .i64 k))])
      (H' := []) (G' := []) (k' := 0) hR hI (by kernel_rfl)
      .nil (fun e7 a7 w7 hag hR hI => ?_)
  refine ops_nil ?_
  refine then_n ?_
  refine cnd_f hI (by kernel_rfl) ?_
  refine wp_skip ?_
  refine normal_block ?_
  refine then_n ?_
  refine wp_seq ?_
  refine reg (is := [0, 1, 2, 3, 4, 5, 6]) (by kernel_rfl) ?_
  refine part_ tab [0] [1, 2, 3, 4, 5, 6] (by rfl) (k := 0) (hs := []) (sy := []) (ks := [21, 0, 1]) (bs := []) (gs := [])
      (L' := [(21, .v (.float .f64 x)), (0, .v (.float .f64 x)), (1, .v (.int .i64 k))])
      (H' := []) (G' := []) (k' := 0) hR hI (by kernel_rfl)
      .nil (fun e8 a8 w8 hag hR hI => ?_)
  refine callOp (ys := [.v (.float .f64 x)]) hI rfl rfl ⟨_, rfl, rfl, rfl⟩ (by kernel_rfl) Try.func48 rfl rfl ?_
  refine (normalize_spec (C := C) hx hmin).mono ?_
  rintro ex w9 ⟨rfl, hk⟩
  replace hR := hR.same hk; clear hk
  refine ⟨_, rfl, ?_⟩
  replace hI := hI.put (d := some 22) (x := .v (.tuple #[.float .f64 x, .int .i64 0])) (by intro t ht; cases ht; decide) rfl
  replace hI := hI.sel [22, 21, 0, 1] (by kernel_rfl : sel _ _ = some [(22, .v (.tuple #[.float .f64 x, .int .i64 0])), (21, .v (.float .f64 x)), (0, .v (.float .f64 x)), (1, .v (.int .i64 k))])
  refine part_ tab [2, 3, 4, 5, 6] [] (by rfl) (k := 0) (hs := []) (sy := []) (ks := [5, 0, 1]) (bs := []) (gs := [])
      (L' := [(5, .v (.int .i64 0)), (0, .v (.float .f64 x)), (1, .v (.int .i64 k))])
      (H' := []) (G' := []) (k' := 0) hR hI (by kernel_rfl)
      .nil (fun e10 a10 w10 hag hR hI => ?_)
  refine ops_nil ?_
  refine then_n ?_
  refine reg_seq tab (k := 0) (hs := [(2, .eq (.int .i64 k))]) (sy := []) (ks := [1, 0]) (bs := []) (gs := [])
      (L' := [(1, .v (.int .i64 k)), (0, .v (.float .f64 x))])
      (H' := []) (G' := []) (k' := 0) hR hI (by kernel_rfl)
      (.cons (congrArg (Value.int .i64) (by rw [wrap_inR (inR_i64 (by omega))]; omega : IntKind.i64.wrap (k + (0 : Int)) = k)) .nil) (fun e11 a11 w11 hag hR hI => ?_)
  refine wp_seq ?_
  refine reg (is := [0, 1, 2]) (by kernel_rfl) ?_
  refine part_ tab [0] [1, 2] (by rfl) (k := 0) (hs := []) (sy := []) (ks := [28, 1, 0]) (bs := []) (gs := [])
      (L' := [(28, .v (.float .f64 x)), (1, .v (.int .i64 k)), (0, .v (.float .f64 x))])
      (H' := []) (G' := []) (k' := 0) hR hI (by kernel_rfl)
      .nil (fun e12 a12 w12 hag hR hI => ?_)
  refine callX (ys := [.v (.float .f64 x)]) (v := .v (.int .u64 ((x : Nat) : Int))) hI rfl rfl rfl ⟨_, rfl, rfl, rfl⟩ (by kernel_rfl) (run_b64 _ _) (fun a13 hI => ?_)
  replace hI := hI.sel [29, 28, 1, 0] (by kernel_rfl : sel _ _ = some [(29, .v (.int .u64 ((x : Nat) : Int))), (28, .v (.float .f64 x)), (1, .v (.int .i64 k)), (0, .v (.float .f64 x))])
  refine part_ tab [2] [] (by rfl) (k := 0) (hs := []) (sy := []) (ks := [6, 1, 0]) (bs := []) (gs := [])
      (L' := [(6, .v (.int .u64 ((x : Nat) : Int))), (1, .v (.int .i64 k)), (0, .v (.float .f64 x))])
      (H' := []) (G' := []) (k' := 0) hR hI (by kernel_rfl)
      .nil (fun e14 a14 w14 hag hR hI => ?_)
  refine ops_nil ?_
  refine then_n ?_
  refine reg_seq tab (k := 0) (hs := [(3, .nw), (4, .eq (.int .i64 ((E : Nat) : Int))), (5, .nw), (6, .eq (.int .i64 (((F : Nat) : Int) - 1023)))]) (sy := []) (ks := [1, 6, 0]) (bs := []) (gs := [])
      (L' := [(1, .v (.int .i64 (((F : Nat) : Int) - 1023))), (6, .v (.int .u64 ((x : Nat) : Int))), (0, .v (.float .f64 x))])
      (H' := []) (G' := []) (k' := 0) hR hI (by kernel_rfl)
      (.cons (by decide : (0 : Int) ≤ 52) (.cons (by decide : (52 : Int) ≤ (IntKind.u64.bits : Int)) (.cons (inR_i64 (n := ((x / 4503599627370496 : Nat) : Int)) (by omega)) (.cons (congrArg (Value.int .i64) ((i64_and2047 (x / 4503599627370496) (by omega)).trans (by rw [hEx]) : bits .and .i64 ((x / 4503599627370496 : Nat) : Int) (2047 : Int) = ((E : Nat) : Int))) (.cons (inR_i64 (n := ((E : Nat) : Int) - (1023 : Int)) (by omega)) (.cons (congrArg (Value.int .i64) (by rw [wrap_inR (inR_i64 (by omega))]; omega : IntKind.i64.wrap (k + (((E : Nat) : Int) - (1023 : Int))) = ((F : Nat) : Int) - 1023)) .nil)))))) (fun e15 a15 w15 hag hR hI => ?_)
  refine wp_seq ?_
  refine reg_seq tab (k := 0) (hs := [(1, .eq (.bool false))]) (sy := []) (ks := [38, 1, 6, 0]) (bs := []) (gs := [])
      (L' := [(38, .v (.bool false)), (1, .v (.int .i64 (((F : Nat) : Int) - 1023))), (6, .v (.int .u64 ((x : Nat) : Int))), (0, .v (.float .f64 x))])
      (H' := []) (G' := []) (k' := 0) hR hI (by kernel_rfl)
      (.cons (congrArg Value.bool (decide_eq_false (by omega) : (decide ((((F : Nat) : Int) - 1023) < (-1075 : Int))) = false)) .nil) (fun e16 a16 w16 hag hR hI => ?_)
  refine cnd_f hI (by kernel_rfl) ?_
  refine wp_skip ?_
  refine then_n ?_
  refine wp_seq ?_
  refine reg_seq tab (k := 0) (hs := [(1, .eq (.bool false))]) (sy := []) (ks := [42, 1, 6, 0]) (bs := []) (gs := [])
      (L' := [(42, .v (.bool false)), (1, .v (.int .i64 (((F : Nat) : Int) - 1023))), (6, .v (.int .u64 ((x : Nat) : Int))), (0, .v (.float .f64 x))])
      (H' := []) (G' := []) (k' := 0) hR hI (by kernel_rfl)
      (.cons (congrArg Value.bool (decide_eq_false (by omega) : (decide ((((F : Nat) : Int) - 1023) > (1023 : Int))) = false)) .nil) (fun e17 a17 w17 hag hR hI => ?_)
  refine cnd_f hI (by kernel_rfl) ?_
  refine wp_skip ?_
  refine then_n ?_
  refine reg_seq tab (k := 0) (hs := []) (sy := []) (ks := [7, 1, 6]) (bs := []) (gs := [])
      (L' := [(7, .v (.float .f64 4607182418800017408)), (1, .v (.int .i64 (((F : Nat) : Int) - 1023))), (6, .v (.int .u64 ((x : Nat) : Int)))])
      (H' := []) (G' := []) (k' := 0) hR hI (by kernel_rfl)
      .nil (fun e18 a18 w18 hag hR hI => ?_)
  refine wp_seq ?_
  refine reg_seq tab (k := 0) (hs := [(1, .eq (.bool false))]) (sy := []) (ks := [48, 7, 1, 6]) (bs := []) (gs := [])
      (L' := [(48, .v (.bool false)), (7, .v (.float .f64 4607182418800017408)), (1, .v (.int .i64 (((F : Nat) : Int) - 1023))), (6, .v (.int .u64 ((x : Nat) : Int)))])
      (H' := []) (G' := []) (k' := 0) hR hI (by kernel_rfl)
      (.cons (congrArg Value.bool (decide_eq_false (by omega) : (decide ((((F : Nat) : Int) - 1023) < (-1022 : Int))) = false)) .nil) (fun e19 a19 w19 hag hR hI => ?_)
  refine cnd_f hI (by kernel_rfl) ?_
  refine wp_skip ?_
  refine then_n ?_
  refine reg_seq tab (k := 0) (hs := [(1, .eq (.int .u64 ((nw s 0 M : Nat) : Int)))]) (sy := []) (ks := [6, 7, 1]) (bs := []) (gs := [])
      (L' := [(6, .v (.int .u64 ((nw s 0 M : Nat) : Int))), (7, .v (.float .f64 4607182418800017408)), (1, .v (.int .i64 (((F : Nat) : Int) - 1023)))])
      (H' := []) (G' := []) (k' := 0) hR hI (by kernel_rfl)
      (.cons (congrArg (Value.int .u64) (hce : bits .andNot .u64 ((x : Nat) : Int) (9218868437227405312 : Int) = ((nw s 0 M : Nat) : Int))) .nil) (fun e20 a20 w20 hag hR hI => ?_)
  refine reg_seq tab (k := 0) (hs := [(2, .eq (.int .i64 ((F : Nat) : Int))), (3, .nw), (4, .nw), (5, .eq (.int .u64 ((nw s F M : Nat) : Int)))]) (sy := []) (ks := [6, 7]) (bs := []) (gs := [])
      (L' := [(6, .v (.int .u64 ((nw s F M : Nat) : Int))), (7, .v (.float .f64 4607182418800017408))])
      (H' := []) (G' := []) (k' := 0) hR hI (by kernel_rfl)
      (.cons (congrArg (Value.int .i64) (by rw [wrap_inR (inR_i64 (by omega))]; omega : IntKind.i64.wrap ((((F : Nat) : Int) - 1023) + (1023 : Int)) = ((F : Nat) : Int))) (.cons (inR_u64 (n := ((F : Nat) : Int)) (by omega)) (.cons (by decide : (0 : Int) ≤ 52) (.cons (by decide : (52 : Int) ≤ (IntKind.u64.bits : Int)) (.cons (inR_u64 (n := ((F : Nat) : Int) * 4503599627370496) (by omega)) (.cons (congrArg (Value.int .u64) (u64_joinexp s F M (by omega) hM : bits .or .u64 ((nw s 0 M : Nat) : Int) ((F * 4503599627370496 : Nat) : Int) = ((nw s F M : Nat) : Int))) .nil)))))) (fun e21 a21 w21 hag hR hI => ?_)
  refine wp_seq ?_
  refine reg (is := [0, 1, 2, 3, 4]) (by kernel_rfl) ?_
  refine part_ tab [0, 1] [2, 3, 4] (by rfl) (k := 0) (hs := []) (sy := []) (ks := [60, 59]) (bs := []) (gs := [])
      (L' := [(60, .v (.int .u64 ((nw s F M : Nat) : Int))), (59, .v (.float .f64 4607182418800017408))])
      (H' := []) (G' := []) (k' := 0) hR hI (by kernel_rfl)
      .nil (fun e22 a22 w22 hag hR hI => ?_)
  refine callX (ys := [.v (.int .u64 ((nw s F M : Nat) : Int))]) (v := .v (.float .f64 (nw s F M))) hI rfl rfl rfl ⟨_, rfl, rfl, rfl⟩ (by kernel_rfl) ((run_f64 _ _)) (fun a23 hI => ?_)
  replace hI := hI.sel [61, 60, 59] (by kernel_rfl : sel _ _ = some [(61, .v (.float .f64 (nw s F M))), (60, .v (.int .u64 ((nw s F M : Nat) : Int))), (59, .v (.float .f64 4607182418800017408))])
  refine part_ tab [3, 4] [] (by rfl) (k := 0) (hs := [(3, .val (.v (.float .f64 (nw s F M))))]) (sy := []) (ks := [4]) (bs := []) (gs := [])
      (L' := [(4, .v (.float .f64 (nw s F M)))])
      (H' := []) (G' := []) (k' := 0) hR hI (by kernel_rfl)
      (.cons (mul_one s F M hF1 hF2 hM : floatBits .mul .f64 4607182418800017408 (nw s F M) = some (nw s F M)) .nil) (fun e24 a24 w24 hag hR hI => ?_)
  refine ops_nil ?_
  refine then_n ?_
  refine wp_ret ?_
  refine outN tab (xs := [.v (.float .f64 (nw s F M))]) hR hI rfl (by kernel_rfl) ?_
  exact ⟨rfl, hB.fin hR⟩

set_option maxHeartbeats 4000000 in
set_option maxRecDepth 100000 in
theorem frexp_spec {C : Nat → Prop} {w : World} {s : Bool} {E M : Nat} (hE1 : 1 ≤ E) (hE2 : E ≤ 2046) (hM : M < 4503599627370496) :
    Calls P 44 #[.float .f64 (nw s E M)] w fun ex w' => ex = .returned (.tuple #[.float .f64 (nw s 1022 M), .int .i64 ((E : Int) - 1022)]) ∧ Keep (fun b => b < w.heap.size) w w' := by
  refine doorN (e := e0) (vs := [.v (.float .f64 (nw s E M))]) (n := 38) (m := 1) Try.func44 rfl rfl rfl (by decide) fun a_ hI => ?_
  replace hI : Is 38 [] e0 [(0, .v (.float .f64 (nw s E M)))] a_ := hI
  have hR : Rel (fun b => b < w.heap.size) w e0 [] [] w := Rel.start (fun k hk => hk)
  have hB : Base C w C (fun b => b < w.heap.size) w := Base.start
  have hx := nw_lt s E M (by omega) hM
  have hmod := nw_mod s E M (by omega) hM; have hEx := nw_E s E M (by omega) hM; have hz0 := order_zero s E M hE1 hE2 hM; have hself := order_self' s E M hE1 hE2 hM; have hmx := order_max' E M hE1 hE2 hM; have hce := u64_clearexp s E M (by omega) hM
  have hmn := (order_lt_of (x := nw false E M) (y := 4503599627370496) rfl (by decide : (4503599627370496 : Nat) = nw false 1 0) hE1 hE2 hM (by decide) (by decide) (by decide)).1
  have hmn2 : ¬ nw false E M < 4503599627370496 := by unfold nw; simp; omega
  rw [decide_eq_false hmn2] at hmn
  obtain ⟨x, hxe⟩ : ∃ x, x = nw s E M := ⟨_, rfl⟩
  rw [← hxe] at hx hmod hEx hz0 hself hce
  have hinf : (FloatKind.f64.format.order (x % 9223372036854775808) 9218868437227405311 == some .gt) = false := by rw [hmod]; exact hmx
  have hmin : (FloatKind.f64.format.order (x % 9223372036854775808) 4503599627370496 == some .lt) = false := by rw [hmod]; exact hmn
  have hnan : (FloatKind.f64.format.order x x != some .eq) = false := by rw [hself]; rfl
  have hzero : (FloatKind.f64.format.order x 0 == some .eq) = false := by rw [show FloatKind.f64.format.order x 0 = _ from hz0]; cases s <;> rfl
  have hI_ := hI
  replace hI := hI.re 0 (.v (.float .f64 x)) rfl (congrArg (Value.float .f64) hxe.symm)
  refine reg_seq tab (k := 0) (hs := []) (sy := []) (ks := [0]) (bs := []) (gs := [])
      (L' := [(0, .v (.float .f64 x))])
      (H' := []) (G' := []) (k' := 0) hR hI (by kernel_rfl)
      .nil (fun e1 a1 w1 hag hR hI => ?_)
  refine wp_seq ?_
  refine wp_block ?_
  refine reg_seq tab (k := 0) (hs := [(1, .eq (.bool false))]) (sy := []) (ks := [5, 0]) (bs := []) (gs := [])
      (L' := [(5, .v (.bool false)), (0, .v (.float .f64 x))])
      (H' := []) (G' := []) (k' := 0) hR hI (by kernel_rfl)
      (.cons (congrArg Value.bool (hzero : (FloatKind.f64.format.order x 0 == some .eq) = false)) .nil) (fun e2 a2 w2 hag hR hI => ?_)
  refine cnd_f hI (by kernel_rfl) ?_
  refine wp_seq ?_
  refine reg (is := [0, 1, 2, 3, 4, 5, 6]) (by kernel_rfl) ?_
  refine part_ tab [0] [1, 2, 3, 4, 5, 6] (by rfl) (k := 0) (hs := []) (sy := []) (ks := [10, 0]) (bs := []) (gs := [])
      (L' := [(10, .v (.float .f64 x)), (0, .v (.float .f64 x))])
      (H' := []) (G' := []) (k' := 0) hR hI (by kernel_rfl)
      .nil (fun e3 a3 w3 hag hR hI => ?_)
  refine callOp (ys := [.v (.float .f64 x), .v (.int .i64 0)]) hI rfl rfl ⟨_, rfl, rfl, rfl⟩ (by kernel_rfl) Try.func9 rfl rfl ?_
  refine (isInf_spec (C := C) hx).mono ?_
  rintro ex w4 ⟨rfl, hk⟩
  replace hR := hR.same hk; clear hk
  rw [hinf]
  refine ⟨_, rfl, ?_⟩
  replace hI := hI.put (d := some 11) (x := .v (.bool false)) (by intro t ht; cases ht; decide) rfl
  replace hI := hI.sel [11, 10, 0] (by kernel_rfl : sel _ _ = some [(11, .v (.bool false)), (10, .v (.float .f64 x)), (0, .v (.float .f64 x))])
  refine part_ tab [2, 3] [4, 5, 6] (by rfl) (k := 0) (hs := []) (sy := []) (ks := [13, 12, 0]) (bs := []) (gs := [])
      (L' := [(13, .v (.float .f64 x)), (12, .v (.bool false)), (0, .v (.float .f64 x))])
      (H' := []) (G' := []) (k' := 0) hR hI (by kernel_rfl)
      .nil (fun e5 a5 w5 hag hR hI => ?_)
  refine callOp (ys := [.v (.float .f64 x)]) hI rfl rfl ⟨_, rfl, rfl, rfl⟩ (by kernel_rfl) Try.func47 rfl rfl ?_
  refine (isNaN_spec (C := C)).mono ?_
  rintro ex w6 ⟨rfl, hk⟩
  replace hR := hR.same hk; clear hk
  rw [hnan]
  refine ⟨_, rfl, ?_⟩
  replace hI := hI.put (d := some 14) (x := .v (.bool false)) (by intro t ht; cases ht; decide) rfl
  replace hI := hI.sel [14, 13, 12, 0] (by kernel_rfl : sel _ _ = some [(14, .v (.bool false)), (13, .v (.float .f64 x)), (12, .v (.bool false)), (0, .v (.float .f64 x))])
  refine part_ tab [5, 6] [] (by rfl) (k := 0) (hs := []) (sy := []) (ks := [9, 0]) (bs := []) (gs := [])
      (L' := [(9, .v (.bool false)), (0, .v (.float .f64 x))])
      (H' := []) (G' := []) (k' := 0) hR hI (by kernel_rfl)
      .nil (fun e7 a7 w7 hag hR hI => ?_)
  refine ops_nil ?_
  refine then_n ?_
  refine cnd_f hI (by kernel_rfl) ?_
  refine wp_skip ?_
  refine normal_block ?_
  refine then_n ?_
  refine wp_seq ?_
  refine reg (is := [0, 1, 2, 3, 4, 5, 6]) (by kernel_rfl) ?_
  refine part_ tab [0] [1, 2, 3, 4, 5, 6] (by rfl) (k := 0) (hs := []) (sy := []) (ks := [18, 0]) (bs := []) (gs := [])
      (L' := [(18, .v (.float .f64 x)), (0, .v (.float .f64 x))])
      (H' := []) (G' := []) (k' := 0) hR hI (by kernel_rfl)
      .nil (fun e8 a8 w8 hag hR hI => ?_)
  refine callOp (ys := [.v (.float .f64 x)]) hI rfl rfl ⟨_, rfl, rfl, rfl⟩ (by kernel_rfl) Try.func48 rfl rfl ?_
  refine (normalize_spec (C := C) hx hmin).mono ?_
  rintro ex w9 ⟨rfl, hk⟩
  replace hR := hR.same hk; clear hk
  refine ⟨_, rfl, ?_⟩
  replace hI := hI.put (d := some 19) (x := .v (.tuple #[.float .f64 x, .int .i64 0])) (by intro t ht; cases ht; decide) rfl
  replace hI := hI.sel [19, 18, 0] (by kernel_rfl : sel _ _ = some [(19, .v (.tuple #[.float .f64 x, .int .i64 0])), (18, .v (.float .f64 x)), (0, .v (.float .f64 x))])
  refine part_ tab [2, 3, 4, 5, 6] [] (by rfl) (k := 0) (hs := []) (sy := []) (ks := [3, 0]) (bs := []) (gs := [])
      (L' := [(3, .v (.int .i64 0)), (0, .v (.float .f64 x))])
      (H' := []) (G' := []) (k' := 0) hR hI (by kernel_rfl)
      .nil (fun e10 a10 w10 hag hR hI => ?_)
  refine ops_nil ?_
  refine then_n ?_
  refine wp_seq ?_
  refine reg (is := [0, 1, 2]) (by kernel_rfl) ?_
  refine part_ tab [0] [1, 2] (by rfl) (k := 0) (hs := []) (sy := []) (ks := [22, 3]) (bs := []) (gs := [])
      (L' := [(22, .v (.float .f64 x)), (3, .v (.int .i64 0))])
      (H' := []) (G' := []) (k' := 0) hR hI (by kernel_rfl)
      .nil (fun e11 a11 w11 hag hR hI => ?_)
  refine callX (ys := [.v (.float .f64 x)]) (v := .v (.int .u64 ((x : Nat) : Int))) hI rfl rfl rfl ⟨_, rfl, rfl, rfl⟩ (by kernel_rfl) (run_b64 _ _) (fun a12 hI => ?_)
  replace hI := hI.sel [23, 22, 3] (by kernel_rfl : sel _ _ = some [(23, .v (.int .u64 ((x : Nat) : Int))), (22, .v (.float .f64 x)), (3, .v (.int .i64 0))])
  refine part_ tab [2] [] (by rfl) (k := 0) (hs := []) (sy := []) (ks := [4, 3]) (bs := []) (gs := [])
      (L' := [(4, .v (.int .u64 ((x : Nat) : Int))), (3, .v (.int .i64 0))])
      (H' := []) (G' := []) (k' := 0) hR hI (by kernel_rfl)
      .nil (fun e13 a13 w13 hag hR hI => ?_)
  refine ops_nil ?_
  refine then_n ?_
  refine reg_seq tab (k := 0) (hs := [(3, .eq (.int .u64 ((E : Nat) : Int))), (4, .nw), (5, .nw), (6, .eq (.int .i64 ((E : Int) - 1022))), (7, .eq (.int .i64 ((E : Int) - 1022)))]) (sy := []) (ks := [3, 4]) (bs := []) (gs := [])
      (L' := [(3, .v (.int .i64 ((E : Int) - 1022))), (4, .v (.int .u64 ((x : Nat) : Int)))])
      (H' := []) (G' := []) (k' := 0) hR hI (by kernel_rfl)
      (.cons (by decide : (0 : Int) ≤ 52) (.cons (by decide : (52 : Int) ≤ (IntKind.u64.bits : Int)) (.cons (congrArg (Value.int .u64) ((u64_and2047 (x / 4503599627370496) (by omega)).trans (by rw [hEx]) : bits .and .u64 ((x / 4503599627370496 : Nat) : Int) (2047 : Int) = ((E : Nat) : Int))) (.cons (inR_i64 (n := ((E : Nat) : Int)) (by omega)) (.cons (inR_i64 (n := ((E : Nat) : Int) - (1023 : Int)) (by omega)) (.cons (congrArg (Value.int .i64) (by rw [wrap_inR (inR_i64 (by omega))]; omega : IntKind.i64.wrap ((((E : Nat) : Int) - (1023 : Int)) + (1 : Int)) = (E : Int) - 1022)) (.cons (congrArg (Value.int .i64) (by rw [wrap_inR (inR_i64 (by omega))]; omega : IntKind.i64.wrap ((0 : Int) + ((E : Int) - 1022)) = (E : Int) - 1022)) .nil))))))) (fun e14 a14 w14 hag hR hI => ?_)
  refine reg_seq tab (k := 0) (hs := [(1, .eq (.int .u64 ((nw s 0 M : Nat) : Int)))]) (sy := []) (ks := [4, 3]) (bs := []) (gs := [])
      (L' := [(4, .v (.int .u64 ((nw s 0 M : Nat) : Int))), (3, .v (.int .i64 ((E : Int) - 1022)))])
      (H' := []) (G' := []) (k' := 0) hR hI (by kernel_rfl)
      (.cons (congrArg (Value.int .u64) (hce : bits .andNot .u64 ((x : Nat) : Int) (9218868437227405312 : Int) = ((nw s 0 M : Nat) : Int))) .nil) (fun e15 a15 w15 hag hR hI => ?_)
  refine reg_seq tab (k := 0) (hs := [(1, .eq (.int .u64 ((nw s 1022 M : Nat) : Int)))]) (sy := []) (ks := [4, 3]) (bs := []) (gs := [])
      (L' := [(4, .v (.int .u64 ((nw s 1022 M : Nat) : Int))), (3, .v (.int .i64 ((E : Int) - 1022)))])
      (H' := []) (G' := []) (k' := 0) hR hI (by kernel_rfl)
      (.cons (congrArg (Value.int .u64) (u64_joinexp s 1022 M (by decide) hM : bits .or .u64 ((nw s 0 M : Nat) : Int) (4602678819172646912 : Int) = ((nw s 1022 M : Nat) : Int))) .nil) (fun e16 a16 w16 hag hR hI => ?_)
  refine wp_seq ?_
  refine reg (is := [0, 1, 2]) (by kernel_rfl) ?_
  refine part_ tab [0] [1, 2] (by rfl) (k := 0) (hs := []) (sy := []) (ks := [36, 3]) (bs := []) (gs := [])
      (L' := [(36, .v (.int .u64 ((nw s 1022 M : Nat) : Int))), (3, .v (.int .i64 ((E : Int) - 1022)))])
      (H' := []) (G' := []) (k' := 0) hR hI (by kernel_rfl)
      .nil (fun e17 a17 w17 hag hR hI => ?_)
  refine callX (ys := [.v (.int .u64 ((nw s 1022 M : Nat) : Int))]) (v := .v (.float .f64 (nw s 1022 M))) hI rfl rfl rfl ⟨_, rfl, rfl, rfl⟩ (by kernel_rfl) ((run_f64 _ _)) (fun a18 hI => ?_)
  replace hI := hI.sel [37, 36, 3] (by kernel_rfl : sel _ _ = some [(37, .v (.float .f64 (nw s 1022 M))), (36, .v (.int .u64 ((nw s 1022 M : Nat) : Int))), (3, .v (.int .i64 ((E : Int) - 1022)))])
  refine part_ tab [2] [] (by rfl) (k := 0) (hs := []) (sy := []) (ks := [2, 3]) (bs := []) (gs := [])
      (L' := [(2, .v (.float .f64 (nw s 1022 M))), (3, .v (.int .i64 ((E : Int) - 1022)))])
      (H' := []) (G' := []) (k' := 0) hR hI (by kernel_rfl)
      .nil (fun e19 a19 w19 hag hR hI => ?_)
  refine ops_nil ?_
  refine then_n ?_
  refine wp_ret ?_
  refine outN tab (xs := [.v (.float .f64 (nw s 1022 M)), .v (.int .i64 ((E : Int) - 1022))]) hR hI rfl (by kernel_rfl) ?_
  exact ⟨rfl, hB.fin hR⟩

set_option maxHeartbeats 4000000 in
set_option maxRecDepth 100000 in
theorem Ldexp_spec {C : Nat → Prop} {w : World} {s : Bool} {E M F : Nat} {k : Int} (hE1 : 1 ≤ E) (hE2 : E ≤ 2046) (hM : M < 4503599627370496) (hkk : (F : Int) = E + k) (hF1 : 1 ≤ F) (hF2 : F ≤ 2046) :
    Calls P 16 #[.float .f64 (nw s E M), .int .i64 k] w fun ex w' => ex = .returned (.float .f64 (nw s F M)) ∧ Keep (fun b => b < w.heap.size) w w' := by
  refine doorN (e := e0) (vs := [.v (.float .f64 (nw s E M)), .v (.int .i64 k)]) (n := 11) (m := 2) Try.func16 rfl rfl rfl (by decide) fun a_ hI => ?_
  replace hI : Is 11 [] e0 [(0, .v (.float .f64 (nw s E M))), (1, .v (.int .i64 k))] a_ := hI
  have hR : Rel (fun b => b < w.heap.size) w e0 [] [] w := Rel.start (fun k hk => hk)
  have hB : Base C w C (fun b => b < w.heap.size) w := Base.start
  refine reg_seq tab (k := 0) (hs := []) (sy := []) (ks := [0, 1]) (bs := []) (gs := [])
      (L' := [(0, .v (.float .f64 (nw s E M))), (1, .v (.int .i64 k))])
      (H' := []) (G' := []) (k' := 0) hR hI (by kernel_rfl)
      .nil (fun e1 a1 w1 hag hR hI => ?_)
  refine wp_seq ?_
  refine cnd_f hI (by kernel_rfl) ?_
  refine wp_skip ?_
  refine then_n ?_
  refine wp_seq ?_
  refine reg (is := [0, 1, 2, 3]) (by kernel_rfl) ?_
  refine part_ tab [0, 1] [2, 3] (by rfl) (k := 0) (hs := []) (sy := []) (ks := [9, 8]) (bs := []) (gs := [])
      (L' := [(9, .v (.int .i64 k)), (8, .v (.float .f64 (nw s E M)))])
      (H' := []) (G' := []) (k' := 0) hR hI (by kernel_rfl)
      .nil (fun e2 a2 w2 hag hR hI => ?_)
  refine callOp (ys := [.v (.float .f64 (nw s E M)), .v (.int .i64 k)]) hI rfl rfl ⟨_, rfl, rfl, rfl⟩ (by kernel_rfl) Try.func38 rfl rfl ?_
  refine (ldexp_spec (C := C) (F := F) hE1 hE2 hM hkk hF1 hF2).mono ?_
  rintro ex w3 ⟨rfl, hk⟩
  replace hR := hR.same hk; clear hk
  refine ⟨_, rfl, ?_⟩
  replace hI := hI.put (d := some 10) (x := .v (.float .f64 (nw s F M))) (by intro t ht; cases ht; decide) rfl
  replace hI := hI.sel [10, 9, 8] (by kernel_rfl : sel _ _ = some [(10, .v (.float .f64 (nw s F M))), (9, .v (.int .i64 k)), (8, .v (.float .f64 (nw s E M)))])
  refine part_ tab [3] [] (by rfl) (k := 0) (hs := []) (sy := []) (ks := [4]) (bs := []) (gs := [])
      (L' := [(4, .v (.float .f64 (nw s F M)))])
      (H' := []) (G' := []) (k' := 0) hR hI (by kernel_rfl)
      .nil (fun e4 a4 w4 hag hR hI => ?_)
  refine ops_nil ?_
  refine then_n ?_
  refine wp_ret ?_
  refine outN tab (xs := [.v (.float .f64 (nw s F M))]) hR hI rfl (by kernel_rfl) ?_
  exact ⟨rfl, hB.fin hR⟩

set_option maxHeartbeats 4000000 in
set_option maxRecDepth 100000 in
theorem Frexp_spec {C : Nat → Prop} {w : World} {s : Bool} {E M : Nat} (hE1 : 1 ≤ E) (hE2 : E ≤ 2046) (hM : M < 4503599627370496) :
    Calls P 34 #[.float .f64 (nw s E M)] w fun ex w' => ex = .returned (.tuple #[.float .f64 (nw s 1022 M), .int .i64 ((E : Int) - 1022)]) ∧ Keep (fun b => b < w.heap.size) w w' := by
  refine doorN (e := e0) (vs := [.v (.float .f64 (nw s E M))]) (n := 12) (m := 1) Try.func34 rfl rfl rfl (by decide) fun a_ hI => ?_
  replace hI : Is 12 [] e0 [(0, .v (.float .f64 (nw s E M)))] a_ := hI
  have hR : Rel (fun b => b < w.heap.size) w e0 [] [] w := Rel.start (fun k hk => hk)
  have hB : Base C w C (fun b => b < w.heap.size) w := Base.start
  refine reg_seq tab (k := 0) (hs := []) (sy := []) (ks := [0]) (bs := []) (gs := [])
      (L' := [(0, .v (.float .f64 (nw s E M)))])
      (H' := []) (G' := []) (k' := 0) hR hI (by kernel_rfl)
      .nil (fun e1 a1 w1 hag hR hI => ?_)
  refine wp_seq ?_
  refine cnd_f hI (by kernel_rfl) ?_
  refine wp_skip ?_
  refine then_n ?_
  refine wp_seq ?_
  refine reg (is := [0, 1, 2, 3, 4, 5]) (by kernel_rfl) ?_
  refine part_ tab [0] [1, 2, 3, 4, 5] (by rfl) (k := 0) (hs := []) (sy := []) (ks := [8]) (bs := []) (gs := [])
      (L' := [(8, .v (.float .f64 (nw s E M)))])
      (H' := []) (G' := []) (k' := 0) hR hI (by kernel_rfl)
      .nil (fun e2 a2 w2 hag hR hI => ?_)
  refine callOp (ys := [.v (.float .f64 (nw s E M))]) hI rfl rfl ⟨_, rfl, rfl, rfl⟩ (by kernel_rfl) Try.func44 rfl rfl ?_
  refine (frexp_spec (C := C) hE1 hE2 hM).mono ?_
  rintro ex w3 ⟨rfl, hk⟩
  replace hR := hR.same hk; clear hk
  refine ⟨_, rfl, ?_⟩
  replace hI := hI.put (d := some 9) (x := .v (.tuple #[.float .f64 (nw s 1022 M), .int .i64 ((E : Int) - 1022)])) (by intro t ht; cases ht; decide) rfl
  replace hI := hI.sel [9, 8] (by kernel_rfl : sel _ _ = some [(9, .v (.tuple #[.float .f64 (nw s 1022 M), .int .i64 ((E : Int) - 1022)])), (8, .v (.float .f64 (nw s E M)))])
  refine part_ tab [2, 3, 4, 5] [] (by rfl) (k := 0) (hs := []) (sy := []) (ks := [3, 2]) (bs := []) (gs := [])
      (L' := [(3, .v (.int .i64 ((E : Int) - 1022))), (2, .v (.float .f64 (nw s 1022 M)))])
      (H' := []) (G' := []) (k' := 0) hR hI (by kernel_rfl)
      .nil (fun e4 a4 w4 hag hR hI => ?_)
  refine ops_nil ?_
  refine then_n ?_
  refine wp_ret ?_
  refine outN tab (xs := [.v (.float .f64 (nw s 1022 M)), .v (.int .i64 ((E : Int) - 1022))]) hR hI rfl (by kernel_rfl) ?_
  exact ⟨rfl, hB.fin hR⟩

theorem order_00 : (FloatKind.f64.format.order 0 0 == some .eq) = true := by decide +kernel

set_option maxHeartbeats 4000000 in
set_option maxRecDepth 100000 in
theorem ldexp0_spec {C : Nat → Prop} {w : World} {k : Int} :
    Calls P 38 #[.float .f64 0, .int .i64 k] w fun ex w' => ex = .returned (.float .f64 0) ∧ Keep (fun b => b < w.heap.size) w w' := by
  refine doorN (e := e0) (vs := [.v (.float .f64 0), .v (.int .i64 k)]) (n := 63) (m := 2) Try.func38 rfl rfl rfl (by decide) fun a_ hI => ?_
  replace hI : Is 63 [] e0 [(0, .v (.float .f64 0)), (1, .v (.int .i64 k))] a_ := hI
  have hR : Rel (fun b => b < w.heap.size) w e0 [] [] w := Rel.start (fun k hk => hk)
  have hB : Base C w C (fun b => b < w.heap.size) w := Base.start
  refine reg_seq tab (k := 0) (hs := []) (sy := []) (ks := [0, 1]) (bs := []) (gs := [])
      (L' := [(0, .v (.float .f64 0)), (1, .v (.int .i64 k))])
      (H' := []) (G' := []) (k' := 0) hR hI (by kernel_rfl)
      .nil (fun e1 a1 w1 hag hR hI => ?_)
  refine wp_seq ?_
  refine wp_block ?_
  refine reg_seq tab (k := 0) (hs := [(1, .eq (.bool true))]) (sy := []) (ks := [8, 0, 1]) (bs := []) (gs := [])
      (L' := [(8, .v (.bool true)), (0, .v (.float .f64 0)), (1, .v (.int .i64 k))])
      (H' := []) (G' := []) (k' := 0) hR hI (by kernel_rfl)
      (.cons (congrArg Value.bool (order_00 : (FloatKind.f64.format.order 0 0 == some .eq) = true)) .nil) (fun e2 a2 w2 hag hR hI => ?_)
  refine cnd_t hI (by kernel_rfl) ?_
  refine reg_seq tab (k := 0) (hs := []) (sy := []) (ks := [4]) (bs := []) (gs := [])
      (L' := [(4, .v (.float .f64 0))])
      (H' := []) (G' := []) (k' := 0) hR hI (by kernel_rfl)
      .nil (fun e3 a3 w3 hag hR hI => ?_)
  refine wp_ret ?_
  refine ret_block ?_
  refine ret_then ?_
  refine outN tab (xs := [.v (.float .f64 0)]) hR hI rfl (by kernel_rfl) ?_
  exact ⟨rfl, hB.fin hR⟩

set_option maxHeartbeats 4000000 in
set_option maxRecDepth 100000 in
theorem Ldexp0_spec {C : Nat → Prop} {w : World} {k : Int} :
    Calls P 16 #[.float .f64 0, .int .i64 k] w fun ex w' => ex = .returned (.float .f64 0) ∧ Keep (fun b => b < w.heap.size) w w' := by
  refine doorN (e := e0) (vs := [.v (.float .f64 0), .v (.int .i64 k)]) (n := 11) (m := 2) Try.func16 rfl rfl rfl (by decide) fun a_ hI => ?_
  replace hI : Is 11 [] e0 [(0, .v (.float .f64 0)), (1, .v (.int .i64 k))] a_ := hI
  have hR : Rel (fun b => b < w.heap.size) w e0 [] [] w := Rel.start (fun k hk => hk)
  have hB : Base C w C (fun b => b < w.heap.size) w := Base.start
  refine reg_seq tab (k := 0) (hs := []) (sy := []) (ks := [0, 1]) (bs := []) (gs := [])
      (L' := [(0, .v (.float .f64 0)), (1, .v (.int .i64 k))])
      (H' := []) (G' := []) (k' := 0) hR hI (by kernel_rfl)
      .nil (fun e1 a1 w1 hag hR hI => ?_)
  refine wp_seq ?_
  refine cnd_f hI (by kernel_rfl) ?_
  refine wp_skip ?_
  refine then_n ?_
  refine wp_seq ?_
  refine reg (is := [0, 1, 2, 3]) (by kernel_rfl) ?_
  refine part_ tab [0, 1] [2, 3] (by rfl) (k := 0) (hs := []) (sy := []) (ks := [9, 8]) (bs := []) (gs := [])
      (L' := [(9, .v (.int .i64 k)), (8, .v (.float .f64 0))])
      (H' := []) (G' := []) (k' := 0) hR hI (by kernel_rfl)
      .nil (fun e2 a2 w2 hag hR hI => ?_)
  refine callOp (ys := [.v (.float .f64 0), .v (.int .i64 k)]) hI rfl rfl ⟨_, rfl, rfl, rfl⟩ (by kernel_rfl) Try.func38 rfl rfl ?_
  refine (ldexp0_spec (C := C)).mono ?_
  rintro ex w3 ⟨rfl, hk⟩
  replace hR := hR.same hk; clear hk
  refine ⟨_, rfl, ?_⟩
  replace hI := hI.put (d := some 10) (x := .v (.float .f64 0)) (by intro t ht; cases ht; decide) rfl
  replace hI := hI.sel [10, 9, 8] (by kernel_rfl : sel _ _ = some [(10, .v (.float .f64 0)), (9, .v (.int .i64 k)), (8, .v (.float .f64 0))])
  refine part_ tab [3] [] (by rfl) (k := 0) (hs := []) (sy := []) (ks := [4]) (bs := []) (gs := [])
      (L' := [(4, .v (.float .f64 0))])
      (H' := []) (G' := []) (k' := 0) hR hI (by kernel_rfl)
      .nil (fun e4 a4 w4 hag hR hI => ?_)
  refine ops_nil ?_
  refine then_n ?_
  refine wp_ret ?_
  refine outN tab (xs := [.v (.float .f64 0)]) hR hI rfl (by kernel_rfl) ?_
  exact ⟨rfl, hB.fin hR⟩

set_option maxHeartbeats 4000000 in
set_option maxRecDepth 100000 in
theorem infP_spec {C : Nat → Prop} {w : World} :
    Calls P 17 #[.int .i64 (1)] w fun ex w' => ex = .returned (.float .f64 9218868437227405312) ∧ Keep (fun b => b < w.heap.size) w w' := by
  refine doorN (e := e0) (vs := [.v (.int .i64 1)]) (n := 8) (m := 1) Try.func17 rfl rfl rfl (by decide) fun a_ hI => ?_
  replace hI : Is 8 [] e0 [(0, .v (.int .i64 1))] a_ := hI
  have hR : Rel (fun b => b < w.heap.size) w e0 [] [] w := Rel.start (fun k hk => hk)
  have hB : Base C w C (fun b => b < w.heap.size) w := Base.start
  refine reg_seq tab (k := 0) (hs := []) (sy := []) (ks := [0]) (bs := []) (gs := [])
      (L' := [(0, .v (.int .i64 1))])
      (H' := []) (G' := []) (k' := 0) hR hI (by kernel_rfl)
      .nil (fun e1 a1 w1 hag hR hI => ?_)
  refine reg_seq tab (k := 0) (hs := []) (sy := []) (ks := [0]) (bs := []) (gs := [])
      (L' := [(0, .v (.int .i64 1))])
      (H' := []) (G' := []) (k' := 0) hR hI (by kernel_rfl)
      .nil (fun e2 a2 w2 hag hR hI => ?_)
  refine wp_seq ?_
  refine reg_seq tab (k := 0) (hs := []) (sy := []) (ks := [5]) (bs := []) (gs := [])
      (L' := [(5, .v (.bool true))])
      (H' := []) (G' := []) (k' := 0) hR hI (by kernel_rfl)
      .nil (fun e3 a3 w3 hag hR hI => ?_)
  refine cnd_t hI (by kernel_rfl) ?_
  refine reg_all tab (k := 0) (hs := []) (sy := []) (ks := [3]) (bs := []) (gs := [])
      (L' := [(3, .v (.int .u64 9218868437227405312))])
      (H' := []) (G' := []) (k' := 0) hR hI (by kernel_rfl)
      .nil (fun e4 a4 w4 hag hR hI => ?_)
  refine then_n ?_
  refine wp_seq ?_
  refine reg (is := [0, 1, 2]) (by kernel_rfl) ?_
  refine part_ tab [0] [1, 2] (by rfl) (k := 0) (hs := []) (sy := []) (ks := [6]) (bs := []) (gs := [])
      (L' := [(6, .v (.int .u64 9218868437227405312))])
      (H' := []) (G' := []) (k' := 0) hR hI (by kernel_rfl)
      .nil (fun e5 a5 w5 hag hR hI => ?_)
  refine callX (ys := [.v (.int .u64 9218868437227405312)]) (v := .v (.float .f64 9218868437227405312)) hI rfl rfl rfl ⟨_, rfl, rfl, rfl⟩ (by kernel_rfl) ((run_f64 _ _)) (fun a6 hI => ?_)
  replace hI := hI.sel [7, 6] (by kernel_rfl : sel _ _ = some [(7, .v (.float .f64 9218868437227405312)), (6, .v (.int .u64 9218868437227405312))])
  refine part_ tab [2] [] (by rfl) (k := 0) (hs := []) (sy := []) (ks := [2]) (bs := []) (gs := [])
      (L' := [(2, .v (.float .f64 9218868437227405312))])
      (H' := []) (G' := []) (k' := 0) hR hI (by kernel_rfl)
      .nil (fun e7 a7 w7 hag hR hI => ?_)
  refine ops_nil ?_
  refine then_n ?_
  refine wp_ret ?_
  refine outN tab (xs := [.v (.float .f64 9218868437227405312)]) hR hI rfl (by kernel_rfl) ?_
  exact ⟨rfl, hB.fin hR⟩

set_option maxHeartbeats 4000000 in
set_option maxRecDepth 100000 in
theorem infN_spec {C : Nat → Prop} {w : World} :
    Calls P 17 #[.int .i64 (-1)] w fun ex w' => ex = .returned (.float .f64 18442240474082181120) ∧ Keep (fun b => b < w.heap.size) w w' := by
  refine doorN (e := e0) (vs := [.v (.int .i64 (-1))]) (n := 8) (m := 1) Try.func17 rfl rfl rfl (by decide) fun a_ hI => ?_
  replace hI : Is 8 [] e0 [(0, .v (.int .i64 (-1)))] a_ := hI
  have hR : Rel (fun b => b < w.heap.size) w e0 [] [] w := Rel.start (fun k hk => hk)
  have hB : Base C w C (fun b => b < w.heap.size) w := Base.start
  refine reg_seq tab (k := 0) (hs := []) (sy := []) (ks := [0]) (bs := []) (gs := [])
      (L' := [(0, .v (.int .i64 (-1)))])
      (H' := []) (G' := []) (k' := 0) hR hI (by kernel_rfl)
      .nil (fun e1 a1 w1 hag hR hI => ?_)
  refine reg_seq tab (k := 0) (hs := []) (sy := []) (ks := [0]) (bs := []) (gs := [])
      (L' := [(0, .v (.int .i64 (-1)))])
      (H' := []) (G' := []) (k' := 0) hR hI (by kernel_rfl)
      .nil (fun e2 a2 w2 hag hR hI => ?_)
  refine wp_seq ?_
  refine reg_seq tab (k := 0) (hs := []) (sy := []) (ks := [5]) (bs := []) (gs := [])
      (L' := [(5, .v (.bool false))])
      (H' := []) (G' := []) (k' := 0) hR hI (by kernel_rfl)
      .nil (fun e3 a3 w3 hag hR hI => ?_)
  refine cnd_f hI (by kernel_rfl) ?_
  refine reg_all tab (k := 0) (hs := []) (sy := []) (ks := [3]) (bs := []) (gs := [])
      (L' := [(3, .v (.int .u64 18442240474082181120))])
      (H' := []) (G' := []) (k' := 0) hR hI (by kernel_rfl)
      .nil (fun e4 a4 w4 hag hR hI => ?_)
  refine then_n ?_
  refine wp_seq ?_
  refine reg (is := [0, 1, 2]) (by kernel_rfl) ?_
  refine part_ tab [0] [1, 2] (by rfl) (k := 0) (hs := []) (sy := []) (ks := [6]) (bs := []) (gs := [])
      (L' := [(6, .v (.int .u64 18442240474082181120))])
      (H' := []) (G' := []) (k' := 0) hR hI (by kernel_rfl)
      .nil (fun e5 a5 w5 hag hR hI => ?_)
  refine callX (ys := [.v (.int .u64 18442240474082181120)]) (v := .v (.float .f64 18442240474082181120)) hI rfl rfl rfl ⟨_, rfl, rfl, rfl⟩ (by kernel_rfl) ((run_f64 _ _)) (fun a6 hI => ?_)
  replace hI := hI.sel [7, 6] (by kernel_rfl : sel _ _ = some [(7, .v (.float .f64 18442240474082181120)), (6, .v (.int .u64 18442240474082181120))])
  refine part_ tab [2] [] (by rfl) (k := 0) (hs := []) (sy := []) (ks := [2]) (bs := []) (gs := [])
      (L' := [(2, .v (.float .f64 18442240474082181120))])
      (H' := []) (G' := []) (k' := 0) hR hI (by kernel_rfl)
      .nil (fun e7 a7 w7 hag hR hI => ?_)
  refine ops_nil ?_
  refine then_n ?_
  refine wp_ret ?_
  refine outN tab (xs := [.v (.float .f64 18442240474082181120)]) hR hI rfl (by kernel_rfl) ?_
  exact ⟨rfl, hB.fin hR⟩

theorem mant_add : ∀ m : Fin 1024, floatBits .add .f64 4652218415073722368 (floatOfInt .f64 ((m.val : Nat) : Int)) = some (nw false 1033 (m.val * 4398046511104)) := by decide +kernel
theorem mant0 : floatOfInt .f64 ((0 : Nat) : Int) = 0 := by decide +kernel
theorem i_one : floatToIntVal .f64 4607182418800017408 .i64 = some 1 := by decide +kernel
theorem i_mone : floatToIntVal .f64 13830554455654793216 .i64 = some (-1) := by decide +kernel
theorem mul_one0 : floatBits .mul .f64 4607182418800017408 0 = some 0 := by decide +kernel
theorem mul_mone0 : floatBits .mul .f64 13830554455654793216 0 = some 9223372036854775808 := by decide +kernel
theorem dbl_zero (a : Nat) (ha : a < 65536) (he : a / 1024 % 32 = 0) : dbl a = if a / 32768 % 2 = 1 then 9223372036854775808 else 0 := by unfold dbl; rw [if_pos he]; rfl
theorem dbl_inf (a : Nat) (ha : a < 65536) (he : a / 1024 % 32 = 31) : dbl a = if a / 32768 % 2 = 1 then 18442240474082181120 else 9218868437227405312 := by unfold dbl; rw [if_neg (show ¬ a / 1024 % 32 = 0 by omega), if_pos he]; split <;> rfl
theorem dbl_norm (a : Nat) (h0 : ¬ a / 1024 % 32 = 0) (h1 : ¬ a / 1024 % 32 = 31) : dbl a = nw (decide (a / 32768 % 2 = 1)) (a / 1024 % 32 + 1008) (a % 1024 * 4398046511104) := by unfold dbl nw; rw [if_neg h0, if_neg h1]; by_cases h : a / 32768 % 2 = 1 <;> simp [h] <;> omega

set_option maxHeartbeats 4000000 in
set_option maxRecDepth 100000 in
theorem HalfValue_spec {C : Nat → Prop} {w : World} {a : Nat} (ha : a < 65536) (hu0 : a / 1024 % 32 = 0 → a % 1024 = 0) (hu1 : a / 1024 % 32 = 31 → a % 1024 = 0) :
    Calls P 7 #[.int .u16 ((a : Nat) : Int)] w fun ex w' => ex = .returned (.float .f64 (dbl a)) ∧ Keep (fun b => b < w.heap.size) w w' := by
  refine doorN (e := e0) (vs := [.v (.int .u16 ((a : Nat) : Int))]) (n := 38) (m := 1) Try.func7 rfl rfl rfl (by decide) fun a_ hI => ?_
  replace hI : Is 38 [] e0 [(0, .v (.int .u16 ((a : Nat) : Int)))] a_ := hI
  have hR : Rel (fun b => b < w.heap.size) w e0 [] [] w := Rel.start (fun k hk => hk)
  have hB : Base C w C (fun b => b < w.heap.size) w := Base.start
  refine reg_seq tab (k := 0) (hs := []) (sy := []) (ks := [0]) (bs := []) (gs := [])
      (L' := [(0, .v (.int .u16 ((a : Nat) : Int)))])
      (H' := []) (G' := []) (k' := 0) hR hI (by kernel_rfl)
      .nil (fun e1 a1 w1 hag hR hI => ?_)
  refine reg_seq tab (k := 0) (hs := []) (sy := []) (ks := [3, 0]) (bs := []) (gs := [])
      (L' := [(3, .v (.float .f64 4607182418800017408)), (0, .v (.int .u16 ((a : Nat) : Int)))])
      (H' := []) (G' := []) (k' := 0) hR hI (by kernel_rfl)
      .nil (fun e2 a2 w2 hag hR hI => ?_)
  refine wp_seq ?_
  refine reg_seq tab (k := 0) (hs := []) (sy := []) (ks := [8, 3, 0]) (bs := []) (gs := [])
      (L' := [(8, .v (.bool (((a / 32768 : Nat) : Int) == (1 : Int)))), (3, .v (.float .f64 4607182418800017408)), (0, .v (.int .u16 ((a : Nat) : Int)))])
      (H' := []) (G' := []) (k' := 0) hR hI (by kernel_rfl)
      (.cons (by decide : (0 : Int) ≤ 15) (.cons (by decide : (15 : Int) ≤ (IntKind.u16.bits : Int)) .nil)) (fun e3 a3 w3 hag hR hI => ?_)
  refine cnd (b := (((a / 32768 : Nat) : Int) == (1 : Int))) hI (by kernel_rfl) (fun hc4 => ?_) (fun hc4 => ?_)
  · skip
    replace hI := hI.re 8 (.v (.bool true)) rfl (congrArg Value.bool hc4)
    try simp only [decide_eq_true_eq, decide_eq_false_iff_not, beq_iff_eq, bne_iff_ne, beq_eq_false_iff_ne, bne_eq_false_iff_eq, Bool.and_eq_true, Bool.and_eq_false_iff, Bool.or_eq_true, Bool.or_eq_false_iff, Bool.not_eq_true', Bool.not_eq_false', ne_eq] at hc4
    refine reg_all tab (k := 0) (hs := []) (sy := []) (ks := [3, 0]) (bs := []) (gs := [])
        (L' := [(3, .v (.float .f64 13830554455654793216)), (0, .v (.int .u16 ((a : Nat) : Int)))])
        (H' := []) (G' := []) (k' := 0) hR hI (by kernel_rfl)
        .nil (fun e5 a5 w5 hag hR hI => ?_)
    refine then_n ?_
    refine reg_seq tab (k := 0) (hs := [(2, .nw), (3, .eq (.int .i64 ((a / 1024 % 32 : Nat) : Int))), (5, .eq (.int .u16 ((a % 1024 : Nat) : Int)))]) (sy := []) (ks := [5, 4, 3]) (bs := []) (gs := [])
        (L' := [(5, .v (.float .f64 (floatOfInt .f64 ((a % 1024 : Nat) : Int)))), (4, .v (.int .i64 ((a / 1024 % 32 : Nat) : Int))), (3, .v (.float .f64 13830554455654793216))])
        (H' := []) (G' := []) (k' := 0) hR hI (by kernel_rfl)
        (.cons (by decide : (0 : Int) ≤ 10) (.cons (by decide : (10 : Int) ≤ (IntKind.u16.bits : Int)) (.cons (inR_i64 (n := ((a / 1024 : Nat) : Int)) (by omega)) (.cons (congrArg (Value.int .i64) (i64_and31 (a / 1024) (by omega) : bits .and .i64 ((a / 1024 : Nat) : Int) (31 : Int) = ((a / 1024 % 32 : Nat) : Int))) (.cons (congrArg (Value.int .u16) (u16_and1023 a ha : bits .and .u16 ((a : Nat) : Int) (1023 : Int) = ((a % 1024 : Nat) : Int))) .nil))))) (fun e6 a6 w6 hag hR hI => ?_)
    refine wp_seq ?_
    refine reg_seq tab (k := 0) (hs := []) (sy := []) (ks := [16, 5, 4, 3]) (bs := []) (gs := [])
        (L' := [(16, .v (.int .i64 ((a / 1024 % 32 : Nat) : Int))), (5, .v (.float .f64 (floatOfInt .f64 ((a % 1024 : Nat) : Int)))), (4, .v (.int .i64 ((a / 1024 % 32 : Nat) : Int))), (3, .v (.float .f64 13830554455654793216))])
        (H' := []) (G' := []) (k' := 0) hR hI (by kernel_rfl)
        .nil (fun e7 a7 w7 hag hR hI => ?_)
    refine wp_block ?_
    refine reg_seq tab (k := 0) (hs := []) (sy := []) (ks := [17, 16, 5, 4, 3]) (bs := []) (gs := [])
        (L' := [(17, .v (.bool (((a / 1024 % 32 : Nat) : Int) == (0 : Int)))), (16, .v (.int .i64 ((a / 1024 % 32 : Nat) : Int))), (5, .v (.float .f64 (floatOfInt .f64 ((a % 1024 : Nat) : Int)))), (4, .v (.int .i64 ((a / 1024 % 32 : Nat) : Int))), (3, .v (.float .f64 13830554455654793216))])
        (H' := []) (G' := []) (k' := 0) hR hI (by kernel_rfl)
        .nil (fun e8 a8 w8 hag hR hI => ?_)
    refine cnd (b := (((a / 1024 % 32 : Nat) : Int) == (0 : Int))) hI (by kernel_rfl) (fun hc9 => ?_) (fun hc9 => ?_)
    · skip
      replace hI := hI.re 17 (.v (.bool true)) rfl (congrArg Value.bool hc9)
      try simp only [decide_eq_true_eq, decide_eq_false_iff_not, beq_iff_eq, bne_iff_ne, beq_eq_false_iff_ne, bne_eq_false_iff_eq, Bool.and_eq_true, Bool.and_eq_false_iff, Bool.or_eq_true, Bool.or_eq_false_iff, Bool.not_eq_true', Bool.not_eq_false', ne_eq] at hc9
      have hm0 : a % 1024 = 0 := by omega
      replace hI := hI.re 5 (.v (.float .f64 0)) rfl (congrArg (Value.float .f64) ((by rw [hm0]; exact mant0)))
      refine wp_seq ?_
      refine reg (is := [0, 1, 2, 3, 4]) (by kernel_rfl) ?_
      refine part_ tab [0, 1] [2, 3, 4] (by rfl) (k := 0) (hs := []) (sy := []) (ks := [20, 19]) (bs := []) (gs := [])
          (L' := [(20, .v (.float .f64 0)), (19, .v (.float .f64 13830554455654793216))])
          (H' := []) (G' := []) (k' := 0) hR hI (by kernel_rfl)
          .nil (fun e10 a10 w10 hag hR hI => ?_)
      refine callOp (ys := [.v (.float .f64 0), .v (.int .i64 (-24))]) hI rfl rfl ⟨_, rfl, rfl, rfl⟩ (by kernel_rfl) Try.func16 rfl rfl ?_
      refine (Ldexp0_spec (C := C)).mono ?_
      rintro ex w11 ⟨rfl, hk⟩
      replace hR := hR.same hk; clear hk
      refine ⟨_, rfl, ?_⟩
      replace hI := hI.put (d := some 21) (x := .v (.float .f64 0)) (by intro t ht; cases ht; decide) rfl
      replace hI := hI.sel [21, 20, 19] (by kernel_rfl : sel _ _ = some [(21, .v (.float .f64 0)), (20, .v (.float .f64 0)), (19, .v (.float .f64 13830554455654793216))])
      refine part_ tab [3, 4] [] (by rfl) (k := 0) (hs := [(3, .val (.v (.float .f64 9223372036854775808)))]) (sy := []) (ks := [2]) (bs := []) (gs := [])
          (L' := [(2, .v (.float .f64 9223372036854775808))])
          (H' := []) (G' := []) (k' := 0) hR hI (by kernel_rfl)
          (.cons (mul_mone0 : floatBits .mul .f64 13830554455654793216 0 = some 9223372036854775808) .nil) (fun e12 a12 w12 hag hR hI => ?_)
      refine ops_nil ?_
      refine then_n ?_
      refine wp_ret ?_
      refine ret_block ?_
      refine ret_then ?_
      refine outN tab (xs := [.v (.float .f64 9223372036854775808)]) hR hI rfl (by kernel_rfl) ?_
      have hd_ : dbl a = 9223372036854775808 := by rw [dbl_zero a ha (by omega), if_pos (show a / 32768 % 2 = 1 by omega)]
      exact ⟨by rw [hd_]; rfl, hB.fin hR⟩
    · skip
      replace hI := hI.re 17 (.v (.bool false)) rfl (congrArg Value.bool hc9)
      try simp only [decide_eq_true_eq, decide_eq_false_iff_not, beq_iff_eq, bne_iff_ne, beq_eq_false_iff_ne, bne_eq_false_iff_eq, Bool.and_eq_true, Bool.and_eq_false_iff, Bool.or_eq_true, Bool.or_eq_false_iff, Bool.not_eq_true', Bool.not_eq_false', ne_eq] at hc9
      refine reg_seq tab (k := 0) (hs := []) (sy := []) (ks := [23, 5, 4, 3]) (bs := []) (gs := [])
          (L' := [(23, .v (.bool (((a / 1024 % 32 : Nat) : Int) == (31 : Int)))), (5, .v (.float .f64 (floatOfInt .f64 ((a % 1024 : Nat) : Int)))), (4, .v (.int .i64 ((a / 1024 % 32 : Nat) : Int))), (3, .v (.float .f64 13830554455654793216))])
          (H' := []) (G' := []) (k' := 0) hR hI (by kernel_rfl)
          .nil (fun e13 a13 w13 hag hR hI => ?_)
      refine cnd (b := (((a / 1024 % 32 : Nat) : Int) == (31 : Int))) hI (by kernel_rfl) (fun hc14 => ?_) (fun hc14 => ?_)
      · skip
        replace hI := hI.re 23 (.v (.bool true)) rfl (congrArg Value.bool hc14)
        try simp only [decide_eq_true_eq, decide_eq_false_iff_not, beq_iff_eq, bne_iff_ne, beq_eq_false_iff_ne, bne_eq_false_iff_eq, Bool.and_eq_true, Bool.and_eq_false_iff, Bool.or_eq_true, Bool.or_eq_false_iff, Bool.not_eq_true', Bool.not_eq_false', ne_eq] at hc14
        have hm0 : a % 1024 = 0 := by omega
        replace hI := hI.re 5 (.v (.float .f64 0)) rfl (congrArg (Value.float .f64) ((by rw [hm0]; exact mant0)))
        refine wp_seq ?_
        refine reg_seq tab (k := 0) (hs := [(1, .eq (.bool true))]) (sy := []) (ks := [26, 3]) (bs := []) (gs := [])
            (L' := [(26, .v (.bool true)), (3, .v (.float .f64 13830554455654793216))])
            (H' := []) (G' := []) (k' := 0) hR hI (by kernel_rfl)
            (.cons (congrArg Value.bool (order_00 : (FloatKind.f64.format.order 0 0 == some .eq) = true)) .nil) (fun e15 a15 w15 hag hR hI => ?_)
        refine cnd_t hI (by kernel_rfl) ?_
        refine wp_seq ?_
        refine reg (is := [0, 1, 2, 3]) (by kernel_rfl) ?_
        refine part_ tab [0, 1] [2, 3] (by rfl) (k := 0) (hs := [(1, .val (.v (.int .i64 (-1))))]) (sy := []) (ks := [28]) (bs := []) (gs := [])
            (L' := [(28, .v (.int .i64 (-1)))])
            (H' := []) (G' := []) (k' := 0) hR hI (by kernel_rfl)
            (.cons (i_mone : floatToIntVal .f64 13830554455654793216 .i64 = some (-1)) .nil) (fun e16 a16 w16 hag hR hI => ?_)
        refine callOp (ys := [.v (.int .i64 (-1))]) hI rfl rfl ⟨_, rfl, rfl, rfl⟩ (by kernel_rfl) Try.func17 rfl rfl ?_
        refine (infN_spec (C := C)).mono ?_
        rintro ex w17 ⟨rfl, hk⟩
        replace hR := hR.same hk; clear hk
        refine ⟨_, rfl, ?_⟩
        replace hI := hI.put (d := some 29) (x := .v (.float .f64 18442240474082181120)) (by intro t ht; cases ht; decide) rfl
        replace hI := hI.sel [29, 28] (by kernel_rfl : sel _ _ = some [(29, .v (.float .f64 18442240474082181120)), (28, .v (.int .i64 (-1)))])
        refine part_ tab [3] [] (by rfl) (k := 0) (hs := []) (sy := []) (ks := [2]) (bs := []) (gs := [])
            (L' := [(2, .v (.float .f64 18442240474082181120))])
            (H' := []) (G' := []) (k' := 0) hR hI (by kernel_rfl)
            .nil (fun e18 a18 w18 hag hR hI => ?_)
        refine ops_nil ?_
        refine then_n ?_
        refine wp_ret ?_
        refine ret_then ?_
        refine ret_block ?_
        refine ret_then ?_
        refine outN tab (xs := [.v (.float .f64 18442240474082181120)]) hR hI rfl (by kernel_rfl) ?_
        have hd_ : dbl a = 18442240474082181120 := by rw [dbl_inf a ha (by omega), if_pos (show a / 32768 % 2 = 1 by omega)]
        exact ⟨by rw [hd_]; rfl, hB.fin hR⟩
      · skip
        replace hI := hI.re 23 (.v (.bool false)) rfl (congrArg Value.bool hc14)
        try simp only [decide_eq_true_eq, decide_eq_false_iff_not, beq_iff_eq, bne_iff_ne, beq_eq_false_iff_ne, bne_eq_false_iff_eq, Bool.and_eq_true, Bool.and_eq_false_iff, Bool.or_eq_true, Bool.or_eq_false_iff, Bool.not_eq_true', Bool.not_eq_false', ne_eq] at hc14
        refine wp_skip ?_
        refine normal_block ?_
        refine then_n ?_
        refine wp_seq ?_
        refine reg (is := [0, 1, 2, 3, 4, 5, 6, 7]) (by kernel_rfl) ?_
        refine part_ tab [0, 1, 2, 3, 4] [5, 6, 7] (by rfl) (k := 0) (hs := [(2, .val (.v (.float .f64 (nw false 1033 (a % 1024 * 4398046511104))))), (4, .nw)]) (sy := []) (ks := [35, 33, 31]) (bs := []) (gs := [])
            (L' := [(35, .v (.int .i64 (((a / 1024 % 32 : Nat) : Int) - (25 : Int)))), (33, .v (.float .f64 (nw false 1033 (a % 1024 * 4398046511104)))), (31, .v (.float .f64 13830554455654793216))])
            (H' := []) (G' := []) (k' := 0) hR hI (by kernel_rfl)
            (.cons (mant_add ⟨a % 1024, Nat.mod_lt _ (by decide)⟩ : floatBits .add .f64 4652218415073722368 (floatOfInt .f64 ((a % 1024 : Nat) : Int)) = some (nw false 1033 (a % 1024 * 4398046511104))) (.cons (inR_i64 (n := ((a / 1024 % 32 : Nat) : Int) - (25 : Int)) (by omega)) .nil)) (fun e19 a19 w19 hag hR hI => ?_)
        refine callOp (ys := [.v (.float .f64 (nw false 1033 (a % 1024 * 4398046511104))), .v (.int .i64 (((a / 1024 % 32 : Nat) : Int) - (25 : Int)))]) hI rfl rfl ⟨_, rfl, rfl, rfl⟩ (by kernel_rfl) Try.func16 rfl rfl ?_
        refine (Ldexp_spec (C := C) (s := false) (E := 1033) (M := a % 1024 * 4398046511104) (F := a / 1024 % 32 + 1008) (k := ((a / 1024 % 32 : Nat) : Int) - (25 : Int)) (by decide) (by decide) (by omega) (by omega) (by omega) (by omega)).mono ?_
        rintro ex w20 ⟨rfl, hk⟩
        replace hR := hR.same hk; clear hk
        refine ⟨_, rfl, ?_⟩
        replace hI := hI.put (d := some 36) (x := .v (.float .f64 (nw false (a / 1024 % 32 + 1008) (a % 1024 * 4398046511104)))) (by intro t ht; cases ht; decide) rfl
        replace hI := hI.sel [36, 35, 33, 31] (by kernel_rfl : sel _ _ = some [(36, .v (.float .f64 (nw false (a / 1024 % 32 + 1008) (a % 1024 * 4398046511104)))), (35, .v (.int .i64 (((a / 1024 % 32 : Nat) : Int) - (25 : Int)))), (33, .v (.float .f64 (nw false 1033 (a % 1024 * 4398046511104)))), (31, .v (.float .f64 13830554455654793216))])
        refine part_ tab [6, 7] [] (by rfl) (k := 0) (hs := [(6, .val (.v (.float .f64 (nw true (a / 1024 % 32 + 1008) (a % 1024 * 4398046511104)))))]) (sy := []) (ks := [2]) (bs := []) (gs := [])
            (L' := [(2, .v (.float .f64 (nw true (a / 1024 % 32 + 1008) (a % 1024 * 4398046511104))))])
            (H' := []) (G' := []) (k' := 0) hR hI (by kernel_rfl)
            (.cons (mul_mone false _ _ (by omega) (by omega) (by omega) : floatBits .mul .f64 13830554455654793216 (nw false (a / 1024 % 32 + 1008) (a % 1024 * 4398046511104)) = some (nw true (a / 1024 % 32 + 1008) (a % 1024 * 4398046511104))) .nil) (fun e21 a21 w21 hag hR hI => ?_)
        refine ops_nil ?_
        refine then_n ?_
        refine wp_ret ?_
        refine outN tab (xs := [.v (.float .f64 (nw true (a / 1024 % 32 + 1008) (a % 1024 * 4398046511104)))]) hR hI rfl (by kernel_rfl) ?_
        have hd_ : dbl a = nw true (a / 1024 % 32 + 1008) (a % 1024 * 4398046511104) := by rw [dbl_norm a (by omega) (by omega), decide_eq_true (show a / 32768 % 2 = 1 by omega)]
        exact ⟨by rw [hd_]; rfl, hB.fin hR⟩
  · skip
    replace hI := hI.re 8 (.v (.bool false)) rfl (congrArg Value.bool hc4)
    try simp only [decide_eq_true_eq, decide_eq_false_iff_not, beq_iff_eq, bne_iff_ne, beq_eq_false_iff_ne, bne_eq_false_iff_eq, Bool.and_eq_true, Bool.and_eq_false_iff, Bool.or_eq_true, Bool.or_eq_false_iff, Bool.not_eq_true', Bool.not_eq_false', ne_eq] at hc4
    refine wp_skip ?_
    refine then_n ?_
    refine reg_seq tab (k := 0) (hs := [(2, .nw), (3, .eq (.int .i64 ((a / 1024 % 32 : Nat) : Int))), (5, .eq (.int .u16 ((a % 1024 : Nat) : Int)))]) (sy := []) (ks := [5, 4, 3]) (bs := []) (gs := [])
        (L' := [(5, .v (.float .f64 (floatOfInt .f64 ((a % 1024 : Nat) : Int)))), (4, .v (.int .i64 ((a / 1024 % 32 : Nat) : Int))), (3, .v (.float .f64 4607182418800017408))])
        (H' := []) (G' := []) (k' := 0) hR hI (by kernel_rfl)
        (.cons (by decide : (0 : Int) ≤ 10) (.cons (by decide : (10 : Int) ≤ (IntKind.u16.bits : Int)) (.cons (inR_i64 (n := ((a / 1024 : Nat) : Int)) (by omega)) (.cons (congrArg (Value.int .i64) (i64_and31 (a / 1024) (by omega) : bits .and .i64 ((a / 1024 : Nat) : Int) (31 : Int) = ((a / 1024 % 32 : Nat) : Int))) (.cons (congrArg (Value.int .u16) (u16_and1023 a ha : bits .and .u16 ((a : Nat) : Int) (1023 : Int) = ((a % 1024 : Nat) : Int))) .nil))))) (fun e22 a22 w22 hag hR hI => ?_)
    refine wp_seq ?_
    refine reg_seq tab (k := 0) (hs := []) (sy := []) (ks := [16, 5, 4, 3]) (bs := []) (gs := [])
        (L' := [(16, .v (.int .i64 ((a / 1024 % 32 : Nat) : Int))), (5, .v (.float .f64 (floatOfInt .f64 ((a % 1024 : Nat) : Int)))), (4, .v (.int .i64 ((a / 1024 % 32 : Nat) : Int))), (3, .v (.float .f64 4607182418800017408))])
        (H' := []) (G' := []) (k' := 0) hR hI (by kernel_rfl)
        .nil (fun e23 a23 w23 hag hR hI => ?_)
    refine wp_block ?_
    refine reg_seq tab (k := 0) (hs := []) (sy := []) (ks := [17, 16, 5, 4, 3]) (bs := []) (gs := [])
        (L' := [(17, .v (.bool (((a / 1024 % 32 : Nat) : Int) == (0 : Int)))), (16, .v (.int .i64 ((a / 1024 % 32 : Nat) : Int))), (5, .v (.float .f64 (floatOfInt .f64 ((a % 1024 : Nat) : Int)))), (4, .v (.int .i64 ((a / 1024 % 32 : Nat) : Int))), (3, .v (.float .f64 4607182418800017408))])
        (H' := []) (G' := []) (k' := 0) hR hI (by kernel_rfl)
        .nil (fun e24 a24 w24 hag hR hI => ?_)
    refine cnd (b := (((a / 1024 % 32 : Nat) : Int) == (0 : Int))) hI (by kernel_rfl) (fun hc25 => ?_) (fun hc25 => ?_)
    · skip
      replace hI := hI.re 17 (.v (.bool true)) rfl (congrArg Value.bool hc25)
      try simp only [decide_eq_true_eq, decide_eq_false_iff_not, beq_iff_eq, bne_iff_ne, beq_eq_false_iff_ne, bne_eq_false_iff_eq, Bool.and_eq_true, Bool.and_eq_false_iff, Bool.or_eq_true, Bool.or_eq_false_iff, Bool.not_eq_true', Bool.not_eq_false', ne_eq] at hc25
      have hm0 : a % 1024 = 0 := by omega
      replace hI := hI.re 5 (.v (.float .f64 0)) rfl (congrArg (Value.float .f64) ((by rw [hm0]; exact mant0)))
      refine wp_seq ?_
      refine reg (is := [0, 1, 2, 3, 4]) (by kernel_rfl) ?_
      refine part_ tab [0, 1] [2, 3, 4] (by rfl) (k := 0) (hs := []) (sy := []) (ks := [20, 19]) (bs := []) (gs := [])
          (L' := [(20, .v (.float .f64 0)), (19, .v (.float .f64 4607182418800017408))])
          (H' := []) (G' := []) (k' := 0) hR hI (by kernel_rfl)
          .nil (fun e26 a26 w26 hag hR hI => ?_)
      refine callOp (ys := [.v (.float .f64 0), .v (.int .i64 (-24))]) hI rfl rfl ⟨_, rfl, rfl, rfl⟩ (by kernel_rfl) Try.func16 rfl rfl ?_
      refine (Ldexp0_spec (C := C)).mono ?_
      rintro ex w27 ⟨rfl, hk⟩
      replace hR := hR.same hk; clear hk
      refine ⟨_, rfl, ?_⟩
      replace hI := hI.put (d := some 21) (x := .v (.float .f64 0)) (by intro t ht; cases ht; decide) rfl
      replace hI := hI.sel [21, 20, 19] (by kernel_rfl : sel _ _ = some [(21, .v (.float .f64 0)), (20, .v (.float .f64 0)), (19, .v (.float .f64 4607182418800017408))])
      refine part_ tab [3, 4] [] (by rfl) (k := 0) (hs := [(3, .val (.v (.float .f64 0)))]) (sy := []) (ks := [2]) (bs := []) (gs := [])
          (L' := [(2, .v (.float .f64 0))])
          (H' := []) (G' := []) (k' := 0) hR hI (by kernel_rfl)
          (.cons (mul_one0 : floatBits .mul .f64 4607182418800017408 0 = some 0) .nil) (fun e28 a28 w28 hag hR hI => ?_)
      refine ops_nil ?_
      refine then_n ?_
      refine wp_ret ?_
      refine ret_block ?_
      refine ret_then ?_
      refine outN tab (xs := [.v (.float .f64 0)]) hR hI rfl (by kernel_rfl) ?_
      have hd_ : dbl a = 0 := by rw [dbl_zero a ha (by omega), if_neg (show ¬ a / 32768 % 2 = 1 by omega)]
      exact ⟨by rw [hd_]; rfl, hB.fin hR⟩
    · skip
      replace hI := hI.re 17 (.v (.bool false)) rfl (congrArg Value.bool hc25)
      try simp only [decide_eq_true_eq, decide_eq_false_iff_not, beq_iff_eq, bne_iff_ne, beq_eq_false_iff_ne, bne_eq_false_iff_eq, Bool.and_eq_true, Bool.and_eq_false_iff, Bool.or_eq_true, Bool.or_eq_false_iff, Bool.not_eq_true', Bool.not_eq_false', ne_eq] at hc25
      refine reg_seq tab (k := 0) (hs := []) (sy := []) (ks := [23, 5, 4, 3]) (bs := []) (gs := [])
          (L' := [(23, .v (.bool (((a / 1024 % 32 : Nat) : Int) == (31 : Int)))), (5, .v (.float .f64 (floatOfInt .f64 ((a % 1024 : Nat) : Int)))), (4, .v (.int .i64 ((a / 1024 % 32 : Nat) : Int))), (3, .v (.float .f64 4607182418800017408))])
          (H' := []) (G' := []) (k' := 0) hR hI (by kernel_rfl)
          .nil (fun e29 a29 w29 hag hR hI => ?_)
      refine cnd (b := (((a / 1024 % 32 : Nat) : Int) == (31 : Int))) hI (by kernel_rfl) (fun hc30 => ?_) (fun hc30 => ?_)
      · skip
        replace hI := hI.re 23 (.v (.bool true)) rfl (congrArg Value.bool hc30)
        try simp only [decide_eq_true_eq, decide_eq_false_iff_not, beq_iff_eq, bne_iff_ne, beq_eq_false_iff_ne, bne_eq_false_iff_eq, Bool.and_eq_true, Bool.and_eq_false_iff, Bool.or_eq_true, Bool.or_eq_false_iff, Bool.not_eq_true', Bool.not_eq_false', ne_eq] at hc30
        have hm0 : a % 1024 = 0 := by omega
        replace hI := hI.re 5 (.v (.float .f64 0)) rfl (congrArg (Value.float .f64) ((by rw [hm0]; exact mant0)))
        refine wp_seq ?_
        refine reg_seq tab (k := 0) (hs := [(1, .eq (.bool true))]) (sy := []) (ks := [26, 3]) (bs := []) (gs := [])
            (L' := [(26, .v (.bool true)), (3, .v (.float .f64 4607182418800017408))])
            (H' := []) (G' := []) (k' := 0) hR hI (by kernel_rfl)
            (.cons (congrArg Value.bool (order_00 : (FloatKind.f64.format.order 0 0 == some .eq) = true)) .nil) (fun e31 a31 w31 hag hR hI => ?_)
        refine cnd_t hI (by kernel_rfl) ?_
        refine wp_seq ?_
        refine reg (is := [0, 1, 2, 3]) (by kernel_rfl) ?_
        refine part_ tab [0, 1] [2, 3] (by rfl) (k := 0) (hs := [(1, .val (.v (.int .i64 1)))]) (sy := []) (ks := [28]) (bs := []) (gs := [])
            (L' := [(28, .v (.int .i64 1))])
            (H' := []) (G' := []) (k' := 0) hR hI (by kernel_rfl)
            (.cons (i_one : floatToIntVal .f64 4607182418800017408 .i64 = some 1) .nil) (fun e32 a32 w32 hag hR hI => ?_)
        refine callOp (ys := [.v (.int .i64 1)]) hI rfl rfl ⟨_, rfl, rfl, rfl⟩ (by kernel_rfl) Try.func17 rfl rfl ?_
        refine (infP_spec (C := C)).mono ?_
        rintro ex w33 ⟨rfl, hk⟩
        replace hR := hR.same hk; clear hk
        refine ⟨_, rfl, ?_⟩
        replace hI := hI.put (d := some 29) (x := .v (.float .f64 9218868437227405312)) (by intro t ht; cases ht; decide) rfl
        replace hI := hI.sel [29, 28] (by kernel_rfl : sel _ _ = some [(29, .v (.float .f64 9218868437227405312)), (28, .v (.int .i64 1))])
        refine part_ tab [3] [] (by rfl) (k := 0) (hs := []) (sy := []) (ks := [2]) (bs := []) (gs := [])
            (L' := [(2, .v (.float .f64 9218868437227405312))])
            (H' := []) (G' := []) (k' := 0) hR hI (by kernel_rfl)
            .nil (fun e34 a34 w34 hag hR hI => ?_)
        refine ops_nil ?_
        refine then_n ?_
        refine wp_ret ?_
        refine ret_then ?_
        refine ret_block ?_
        refine ret_then ?_
        refine outN tab (xs := [.v (.float .f64 9218868437227405312)]) hR hI rfl (by kernel_rfl) ?_
        have hd_ : dbl a = 9218868437227405312 := by rw [dbl_inf a ha (by omega), if_neg (show ¬ a / 32768 % 2 = 1 by omega)]
        exact ⟨by rw [hd_]; rfl, hB.fin hR⟩
      · skip
        replace hI := hI.re 23 (.v (.bool false)) rfl (congrArg Value.bool hc30)
        try simp only [decide_eq_true_eq, decide_eq_false_iff_not, beq_iff_eq, bne_iff_ne, beq_eq_false_iff_ne, bne_eq_false_iff_eq, Bool.and_eq_true, Bool.and_eq_false_iff, Bool.or_eq_true, Bool.or_eq_false_iff, Bool.not_eq_true', Bool.not_eq_false', ne_eq] at hc30
        refine wp_skip ?_
        refine normal_block ?_
        refine then_n ?_
        refine wp_seq ?_
        refine reg (is := [0, 1, 2, 3, 4, 5, 6, 7]) (by kernel_rfl) ?_
        refine part_ tab [0, 1, 2, 3, 4] [5, 6, 7] (by rfl) (k := 0) (hs := [(2, .val (.v (.float .f64 (nw false 1033 (a % 1024 * 4398046511104))))), (4, .nw)]) (sy := []) (ks := [35, 33, 31]) (bs := []) (gs := [])
            (L' := [(35, .v (.int .i64 (((a / 1024 % 32 : Nat) : Int) - (25 : Int)))), (33, .v (.float .f64 (nw false 1033 (a % 1024 * 4398046511104)))), (31, .v (.float .f64 4607182418800017408))])
            (H' := []) (G' := []) (k' := 0) hR hI (by kernel_rfl)
            (.cons (mant_add ⟨a % 1024, Nat.mod_lt _ (by decide)⟩ : floatBits .add .f64 4652218415073722368 (floatOfInt .f64 ((a % 1024 : Nat) : Int)) = some (nw false 1033 (a % 1024 * 4398046511104))) (.cons (inR_i64 (n := ((a / 1024 % 32 : Nat) : Int) - (25 : Int)) (by omega)) .nil)) (fun e35 a35 w35 hag hR hI => ?_)
        refine callOp (ys := [.v (.float .f64 (nw false 1033 (a % 1024 * 4398046511104))), .v (.int .i64 (((a / 1024 % 32 : Nat) : Int) - (25 : Int)))]) hI rfl rfl ⟨_, rfl, rfl, rfl⟩ (by kernel_rfl) Try.func16 rfl rfl ?_
        refine (Ldexp_spec (C := C) (s := false) (E := 1033) (M := a % 1024 * 4398046511104) (F := a / 1024 % 32 + 1008) (k := ((a / 1024 % 32 : Nat) : Int) - (25 : Int)) (by decide) (by decide) (by omega) (by omega) (by omega) (by omega)).mono ?_
        rintro ex w36 ⟨rfl, hk⟩
        replace hR := hR.same hk; clear hk
        refine ⟨_, rfl, ?_⟩
        replace hI := hI.put (d := some 36) (x := .v (.float .f64 (nw false (a / 1024 % 32 + 1008) (a % 1024 * 4398046511104)))) (by intro t ht; cases ht; decide) rfl
        replace hI := hI.sel [36, 35, 33, 31] (by kernel_rfl : sel _ _ = some [(36, .v (.float .f64 (nw false (a / 1024 % 32 + 1008) (a % 1024 * 4398046511104)))), (35, .v (.int .i64 (((a / 1024 % 32 : Nat) : Int) - (25 : Int)))), (33, .v (.float .f64 (nw false 1033 (a % 1024 * 4398046511104)))), (31, .v (.float .f64 4607182418800017408))])
        refine part_ tab [6, 7] [] (by rfl) (k := 0) (hs := [(6, .val (.v (.float .f64 (nw false (a / 1024 % 32 + 1008) (a % 1024 * 4398046511104)))))]) (sy := []) (ks := [2]) (bs := []) (gs := [])
            (L' := [(2, .v (.float .f64 (nw false (a / 1024 % 32 + 1008) (a % 1024 * 4398046511104))))])
            (H' := []) (G' := []) (k' := 0) hR hI (by kernel_rfl)
            (.cons (mul_one false _ _ (by omega) (by omega) (by omega) : floatBits .mul .f64 4607182418800017408 (nw false (a / 1024 % 32 + 1008) (a % 1024 * 4398046511104)) = some (nw false (a / 1024 % 32 + 1008) (a % 1024 * 4398046511104))) .nil) (fun e37 a37 w37 hag hR hI => ?_)
        refine ops_nil ?_
        refine then_n ?_
        refine wp_ret ?_
        refine outN tab (xs := [.v (.float .f64 (nw false (a / 1024 % 32 + 1008) (a % 1024 * 4398046511104)))]) hR hI rfl (by kernel_rfl) ?_
        have hd_ : dbl a = nw false (a / 1024 % 32 + 1008) (a % 1024 * 4398046511104) := by rw [dbl_norm a (by omega) (by omega), decide_eq_false (show ¬ a / 32768 % 2 = 1 by omega)]
        exact ⟨by rw [hd_]; rfl, hB.fin hR⟩

end Go.Proofs.Ytahbgcjcfbjbmaa.Stride
