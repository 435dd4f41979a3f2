/- The plain law behind FnHalfFacts: what the bits of a half say, and what the double that it is says. No program. -/
import Derived.Test.YtahbgcjcfbjbmaaQHalfFactsx2
import Derived.Test.YtahbgcjcfbjbmaaDoubles
import Derived.Laws.BitsAllLaws
namespace Go.Proofs.Ytahbgcjcfbjbmaa.Pure
open Go Go.RowKit Go.Proofs.Ytahbgcjcfbjbmaa.QHalfFacts Go.Proofs.Ytahbgcjcfbjbmaa.Doubles Go.Proofs.YtahbgcjcfbjbmaaW.PrintWords Go.Proofs.YtahbgcjcfbjbmaaW.PrintLast
set_option maxRecDepth 100000

theorem v64 (n : Int) (h : -9223372036854775808 ≤ n ∧ n ≤ 9223372036854775807) : wrap64 n = n := by unfold wrap64; omega
theorem fmt : Go.FloatKind.format .f64 = Ieee.double := rfl

theorem halves : laws_halves.f = some true := by decide +kernel

/-! ### masks -/
theorem and16 (x : Nat) (c : Int) (hx : x < 65536) (hc0 : 0 ≤ c) (hc1 : c < 65536) : bits .and .u16 (x : Int) c = ((x &&& c.toNat : Nat) : Int) := by
  rw [u16_and (x : Int) c (by omega) (by omega) hc0 hc1]; rfl
theorem and16_1023 (x : Nat) (hx : x < 65536) : bits .and .u16 (x : Int) 1023 = ((x % 1024 : Nat) : Int) := by
  rw [and16 x _ hx (by decide) (by decide)]; congr 1; exact Nat.and_two_pow_sub_one_eq_mod x 10
theorem and16_31 (x : Nat) (hx : x < 65536) : bits .and .u16 (x : Int) 31 = ((x % 32 : Nat) : Int) := by
  rw [and16 x _ hx (by decide) (by decide)]; congr 1; exact Nat.and_two_pow_sub_one_eq_mod x 5
theorem and16_32767 (x : Nat) (hx : x < 65536) : bits .and .u16 (x : Int) 32767 = ((x % 32768 : Nat) : Int) := by
  rw [and16 x _ hx (by decide) (by decide)]; congr 1; exact Nat.and_two_pow_sub_one_eq_mod x 15
theorem and16_32768 (x : Nat) (hx : x < 65536) : bits .and .u16 (x : Int) 32768 = ((x / 32768 % 2 * 32768 : Nat) : Int) := by
  rw [and16 x _ hx (by decide) (by decide)]; congr 1; exact nat_bit 15 x
theorem and16_31744 (x : Nat) (hx : x < 65536) : bits .and .u16 (x : Int) 31744 = ((x % 32768 / 1024 * 1024 : Nat) : Int) := by
  rw [and16 x _ hx (by decide) (by decide)]; congr 1; exact nat_midmask 15 10 x (by decide)
theorem and64_31 (x : Nat) (hx : x < 65536) : bits .and .i64 (x : Int) 31 = ((x % 32 : Nat) : Int) := by
  have := bits_mask .i64 63 (by decide) (fun n h0 h1 => by rw [IntKind.wrap_i64]; omega) 5 (by decide) (x : Int) (by omega) (by omega)
  rw [show (31 : Int) = 2 ^ 5 - 1 by decide, this]
  omega

/-! ### the double's functions at normal ones -/
theorem nw_lt (s : Bool) (E M : Nat) (h2 : E ≤ 2046) (hM : M < 4503599627370496) : nw s E M < 18446744073709551616 := by
  unfold nw; cases s <;> simp <;> omega
theorem nw_mod (s : Bool) (E M : Nat) (h2 : E ≤ 2046) (hM : M < 4503599627370496) : nw s E M % 9223372036854775808 = nw false E M := by
  unfold nw; cases s <;> simp <;> omega
theorem abs_nw (s : Bool) (E M : Nat) (h2 : E ≤ 2046) (hM : M < 4503599627370496) : math_Abs.f (nw s E M) = some (nw false E M) := by
  unfold math_Abs.f
  have h := nw_lt s E M h2 hM
  rw [u64_andNot _ _ (by omega) (by omega) (by decide) (by decide), Int.toNat_natCast, Int.toNat_natCast, ← nw_mod s E M h2 hM]
  congr 1
  exact Nat.and_two_pow_sub_one_eq_mod (nw s E M) 63
theorem isInf_of (x y : Nat) (h1 : math_Abs.f x = some y) (h2 : (Ieee.double.order y 9218868437227405311 == some .gt) = false) : math_IsInf.f x 0 = some false := by
  unfold math_IsInf.f
  rw [if_pos rfl, h1, Option.bind_some, fmt, h2]
theorem isInf_nw (s : Bool) (E M : Nat) (h1 : 1 ≤ E) (h2 : E ≤ 2046) (hM : M < 4503599627370496) : math_IsInf.f (nw s E M) 0 = some false :=
  isInf_of _ _ (abs_nw s E M h2 hM) (order_max E M h1 h2 hM)
theorem order_self (s : Bool) (E M : Nat) (h1 : 1 ≤ E) (h2 : E ≤ 2046) (hM : M < 4503599627370496) : Ieee.double.order (nw s E M) (nw s E M) = some .eq := by
  unfold Ieee.Format.order
  rw [read_normal s E M h1 h2 hM]
  simp [Ieee.Datum.order, compare, compareOfLessAndEq]
theorem isNaN_nw (s : Bool) (E M : Nat) (h1 : 1 ≤ E) (h2 : E ≤ 2046) (hM : M < 4503599627370496) : math_IsNaN.f (nw s E M) = some false := by
  unfold math_IsNaN.f
  rw [fmt, order_self s E M h1 h2 hM]; rfl
theorem read_min : Ieee.double.read 4503599627370496 = .number false 4503599627370496 (-1074) := by decide +kernel
theorem order_min (E M : Nat) (h1 : 1 ≤ E) (h2 : E ≤ 2046) (hM : M < 4503599627370496) : (Ieee.double.order (nw false E M) 4503599627370496 == some .lt) = false := by
  unfold Ieee.Format.order
  rw [read_normal false E M h1 h2 hM, read_min]
  simp only [Ieee.Datum.order, Ieee.signed]
  have e1 : min (-1074 + ((E - 1 : Nat) : Int)) (-1074) = -1074 := by omega
  rw [e1]
  have e2 : (-1074 - -1074 : Int).toNat = 0 := by decide
  rw [e2]
  have hp : 4503599627370496 + M ≤ (4503599627370496 + M) <<< (-1074 + ((E - 1 : Nat) : Int) - -1074).toNat := by
    rw [Nat.shiftLeft_eq]; exact Nat.le_mul_of_pos_right _ (Nat.two_pow_pos _)
  generalize (4503599627370496 + M) <<< (-1074 + ((E - 1 : Nat) : Int) - -1074).toNat = x at hp ⊢
  simp only [Bool.false_eq_true, if_false, Nat.shiftLeft_zero]
  by_cases h : 4503599627370496 < x
  · rw [cmp_gt (by omega)]; rfl
  · have : x = 4503599627370496 := by omega
    rw [this]
    simp [compare, compareOfLessAndEq]
theorem normalize_of (x y : Nat) (h1 : math_Abs.f x = some y) (h2 : (Ieee.double.order y 4503599627370496 == some .lt) = false) : math_normalize.f x = some (x, 0) := by
  unfold math_normalize.f
  rw [h1, Option.bind_some, fmt, h2, if_neg Bool.false_ne_true]
theorem normalize_nw (s : Bool) (E M : Nat) (h1 : 1 ≤ E) (h2 : E ≤ 2046) (hM : M < 4503599627370496) : math_normalize.f (nw s E M) = some (nw s E M, 0) :=
  normalize_of _ _ (abs_nw s E M h2 hM) (order_min E M h1 h2 hM)

theorem add_fin : ∀ m : Fin 1024, Go.floatBits .add .f64 4652218415073722368 (Go.floatOfInt .f64 ((m.val : Nat) : Int)) = some (4652218415073722368 + m.val * 4398046511104) := by decide +kernel
theorem mask_fin : ∀ m : Fin 1024, (4652218415073722368 + m.val * 4398046511104) &&& 9227875636482146303 = m.val * 4398046511104 := by decide +kernel

theorem q1 (m : Nat) (hm : m < 1024) : ((nw false 1033 (m * 4398046511104) : Nat) : Int) / 4503599627370496 = 1033 := by unfold nw; simp; omega
theorem q2 : wrap64 1033 = 1033 := v64 _ (by decide)
theorem q3 : bits .and .i64 1033 2047 = 1033 := by decide +kernel
theorem q4 : wrap64 ((1033 : Int) - 1023) = 10 := v64 _ (by decide)
theorem q5 (e : Nat) (he : e ≤ 30) : wrap64 ((e : Int) - 25 + 0) = (e : Int) - 25 := by rw [v64 _ (by omega)]; omega
theorem q6 (e : Nat) (he : e ≤ 30) : wrap64 ((e : Int) - 25 + 10) = (e : Int) - 15 := by rw [v64 _ (by omega)]; omega
theorem q7 (e : Nat) (he : e ≤ 30) : wrap64 ((e : Int) - 15 + 1023) = ((e + 1008 : Nat) : Int) := by rw [v64 _ (by omega)]; omega
theorem u64s (n : Nat) (h : n < 18446744073709551616) : IntKind.u64.wrap (n : Int) = (n : Int) := by
  have : IntKind.u64.wrap (n : Int) = (n : Int) % 18446744073709551616 := by simp [IntKind.wrap, IntKind.bits, IntKind.signed]
  rw [this]; omega
theorem q9 (e : Nat) (he : e ≤ 30) : IntKind.u64.wrap (((e + 1008 : Nat) : Int) * 4503599627370496) = (((e + 1008) * 4503599627370496 : Nat) : Int) := by
  have : ((e + 1008 : Nat) : Int) * 4503599627370496 = (((e + 1008) * 4503599627370496 : Nat) : Int) := by omega
  rw [this, u64s _ (by omega)]
theorem q10 (m : Nat) (hm : m < 1024) : bits .andNot .u64 ((nw false 1033 (m * 4398046511104) : Nat) : Int) 9218868437227405312 = ((m * 4398046511104 : Nat) : Int) := by
  have h := nw_lt false 1033 (m * 4398046511104) (by decide) (by omega)
  rw [u64_andNot _ _ (by omega) (by omega) (by decide) (by decide), Int.toNat_natCast]
  congr 1
  have := mask_fin ⟨m, hm⟩
  simp only at this
  have e1 : nw false 1033 (m * 4398046511104) = 4652218415073722368 + m * 4398046511104 := by unfold nw; simp
  rw [e1]
  exact this
theorem q11 (m e : Nat) (hm : m < 1024) (he : e ≤ 30) : bits .or .u64 ((m * 4398046511104 : Nat) : Int) (((e + 1008) * 4503599627370496 : Nat) : Int) = ((nw false (e + 1008) (m * 4398046511104) : Nat) : Int) := by
  rw [u64_or _ _ (by omega) (by omega) (by omega) (by omega), Int.toNat_natCast, Int.toNat_natCast]
  congr 1
  rw [Nat.or_comm, nat_join 52 _ _ (by omega) (by omega)]
  unfold nw; simp

theorem ldexp_of (x z : Nat) (a t : Int) (h0 : (Ieee.double.order x 0 == some .eq) = false) (h1 : math_IsInf.f x 0 = some false) (h2 : math_IsNaN.f x = some false) (h3 : math_normalize.f x = some (x, 0))
    (hexp : wrap64 (wrap64 (a + 0) + wrap64 (bits .and .i64 (wrap64 ((x : Int) / 4503599627370496)) 2047 - 1023)) = t) (ht1 : ¬ t < -1075) (ht2 : ¬ t > 1023) (ht3 : ¬ t < -1022)
    (hz : (bits .or .u64 (bits .andNot .u64 (x : Int) 9218868437227405312) (IntKind.u64.wrap (IntKind.u64.wrap (wrap64 (t + 1023)) * 4503599627370496))).toNat = z)
    (hm : floatBits .mul .f64 4607182418800017408 z = some z) : math_ldexp.f x a = some z := by
  unfold math_ldexp.f
  rw [fmt, h0, if_neg Bool.false_ne_true, h1, Option.bind_some, if_neg Bool.false_ne_true, h2, Option.bind_some, if_neg Bool.false_ne_true, h3, Option.bind_some]
  rw [hexp, if_neg ht1, if_neg ht2, if_neg ht3, hz, hm, Option.isSome_some, if_pos rfl, Option.getD_some]

theorem ldexp_half (m e : Nat) (hm : m < 1024) (he1 : 1 ≤ e) (he2 : e ≤ 30) :
    math_ldexp.f (nw false 1033 (m * 4398046511104)) ((e : Int) - 25) = some (nw false (e + 1008) (m * 4398046511104)) := by
  have hM : m * 4398046511104 < 4503599627370496 := by omega
  have hmul := mul_one false (e + 1008) (m * 4398046511104) (by omega) (by omega) hM
  refine ldexp_of _ _ _ ((e : Int) - 15) ?_ (isInf_nw false 1033 _ (by decide) (by decide) hM) (isNaN_nw false 1033 _ (by decide) (by decide) hM) (normalize_nw false 1033 _ (by decide) (by decide) hM) ?_ (by omega) (by omega) (by omega) ?_ hmul
  · rw [order_zero false 1033 _ (by decide) (by decide) hM]; rfl
  · rw [q1 m hm, q2, q3, q4, q5 e he2, q6 e he2]
  · rw [q7 e he2, u64s (e + 1008) (by omega), q9 e he2, q10 m hm, q11 m e hm he2, Int.toNat_natCast]

theorem d1024 (a : Nat) : (a : Int) / 1024 = ((a / 1024 : Nat) : Int) := by omega
theorem w1024 (a : Nat) (ha : a < 65536) : wrap64 ((a / 1024 : Nat) : Int) = ((a / 1024 : Nat) : Int) := v64 _ (by omega)
theorem w25 (e : Nat) (he : e ≤ 30) : wrap64 ((e : Int) - 25) = (e : Int) - 25 := v64 _ (by omega)

theorem value_of (k : Nat) (a : Int) (x3 x y z : Nat) (e m : Int) (h1 : bits .and .i64 (wrap64 (a / 1024)) 31 = e) (h2 : bits .and .u16 a 1023 = m) (he0 : ¬ e = 0) (he31 : ¬ e = 31)
    (hadd : Go.floatBits .add .f64 4652218415073722368 (Go.floatOfInt .f64 m) = some x) (hl : math_ldexp.f x (wrap64 (e - 25)) = some y) (hmul : Go.floatBits .mul .f64 x3 y = some z) :
    spec_HalfValue.j0 (k + 1) a x3 = some z := by
  rw [spec_HalfValue.j0, h1, h2, if_neg he0, if_neg he31, hadd, Option.isSome_some, if_pos rfl, Option.getD_some]
  unfold math_Ldexp.f
  rw [hl, Option.bind_some, Option.bind_some, hmul, Option.isSome_some, if_pos rfl, Option.getD_some]
theorem value_j0 (s : Bool) (a m e k : Nat) (ha : a < 65536) (hm : a % 1024 = m) (he : a / 1024 % 32 = e) (he1 : 1 ≤ e) (he2 : e ≤ 30) :
    spec_HalfValue.j0 (k + 1) (a : Int) (if s then 13830554455654793216 else 4607182418800017408) = some (nw s (e + 1008) (m * 4398046511104)) := by
  have hM : m * 4398046511104 < 4503599627370496 := by omega
  have ad := add_fin ⟨m, by omega⟩
  simp only at ad
  have e1 : nw false 1033 (m * 4398046511104) = 4652218415073722368 + m * 4398046511104 := by unfold nw; simp
  rw [← e1] at ad
  refine value_of k (a : Int) _ _ (nw false (e + 1008) (m * 4398046511104)) _ (e : Int) (m : Int) ?_ ?_ (by omega) (by omega) ad ?_ ?_
  · rw [d1024 a, w1024 a ha, and64_31 (a / 1024) (by omega), he]
  · rw [and16_1023 a ha, hm]
  · rw [w25 e he2]; exact ldexp_half m e (by omega) he1 he2
  · cases s
    · exact mul_one false (e + 1008) _ (by omega) (by omega) hM
    · exact mul_mone false (e + 1008) _ (by omega) (by omega) hM

theorem value (a m e k : Nat) (ha : a < 65536) (hm : a % 1024 = m) (he : a / 1024 % 32 = e) (he1 : 1 ≤ e) (he2 : e ≤ 30) :
    spec_HalfValue.f (k + 1) (a : Int) = some (nw (decide (a / 32768 = 1)) (e + 1008) (m * 4398046511104)) := by
  unfold spec_HalfValue.f
  by_cases h : a / 32768 = 1
  · rw [if_pos (by omega), decide_eq_true h]
    exact value_j0 true a m e k ha hm he he1 he2
  · rw [if_neg (by omega), decide_eq_false h]
    exact value_j0 false a m e k ha hm he he1 he2

theorem facts (a m e : Nat) (ha : a < 65536) (hm : a % 1024 = m) (he : a / 1024 % 32 = e) (he1 : 1 ≤ e) (he2 : e ≤ 30) :
    impl_HalfFacts.f (a : Int) = some (if a / 32768 = 1 then -1 else 1, decide (a / 32768 = 1), false, false, false) := by
  unfold impl_HalfFacts.f float16_FromBits.f float16_Num_Sign.f float16_Num_Signbit.f float16_Num_IsZero.f float16_Num_IsInf.f float16_Num_IsNaN.f
  simp only [Option.bind_some, and16_32767 a ha, and16_32768 a ha, and16_31744 a ha]
  have z : (((a % 32768 : Nat) : Int) == 0) = false := beq_eq_false_iff_ne.mpr (by omega)
  have i : (((a % 32768 / 1024 * 1024 : Nat) : Int) == 31744) = false := beq_eq_false_iff_ne.mpr (by omega)
  have n : decide (((a % 32768 : Nat) : Int) > 31744) = false := decide_eq_false (by omega)
  have sb : (((a / 32768 % 2 * 32768 : Nat) : Int) != 0) = decide (a / 32768 = 1) := by
    by_cases h : a / 32768 = 1
    · rw [decide_eq_true h]; exact bne_iff_ne.mpr (by omega)
    · rw [decide_eq_false h]
      have : ((a / 32768 % 2 * 32768 : Nat) : Int) = 0 := by omega
      rw [this]; rfl
  rw [z, i, n, sb]
  by_cases h : a / 32768 = 1
  · simp [h]
  · simp [h]

theorem usual (a : Nat) (ha : a < 65536) : laws_usualHalf.f (a : Int) = some (decide (¬ (a / 1024 % 32 = 31 ∧ a % 1024 ≠ 0) ∧ (a / 1024 % 32 ≠ 0 ∨ a % 1024 = 0))) := by
  unfold laws_usualHalf.f spec_HalfNaN.f
  rw [d1024 a, and16_31 (a / 1024) (by omega), and16_1023 a ha]
  by_cases h31 : a / 1024 % 32 = 31
  · rw [if_pos (by omega)]
    by_cases hm : a % 1024 = 0
    · rw [hm]; simp [h31]
    · have : (((a % 1024 : Nat) : Int) != 0) = true := bne_iff_ne.mpr (by omega)
      simp only [Option.bind_some, this, if_true]
      simp [h31, hm]
  · rw [if_neg (by omega)]
    simp only [Option.bind_some, Bool.false_eq_true, if_false]
    by_cases h0 : a / 1024 % 32 = 0
    · rw [if_pos (by omega)]
      by_cases hm : a % 1024 = 0
      · rw [hm]; simp [h0]
      · have : (((a % 1024 : Nat) : Int) == 0) = false := beq_eq_false_iff_ne.mpr (by omega)
        rw [this]; simp [h0, hm]
    · rw [if_neg (by omega)]; simp [h31, h0]

theorem four : laws_FnHalfFacts.f 3 0 = some true ∧ laws_FnHalfFacts.f 3 32768 = some true ∧ laws_FnHalfFacts.f 3 31744 = some true ∧ laws_FnHalfFacts.f 3 64512 = some true := by decide +kernel

theorem main_of (a0 : Int) (h : Nat) (sg : Bool) (x4 : Int) (hu : laws_usualHalf.f a0 = some true) (hv : spec_HalfValue.f 3 a0 = some h) (hf : impl_HalfFacts.f a0 = some (x4, sg, false, false, false))
    (ho : Ieee.double.order h 0 = some (if sg then .lt else .gt)) (hinf : math_IsInf.f h 0 = some false) (hx4 : x4 = if sg then -1 else 1) (hd : ((a0 / 32768) == 1) = sg) : laws_FnHalfFacts.f 3 a0 = some true := by
  unfold laws_FnHalfFacts.f
  rw [hu, Option.bind_some, if_pos rfl, hv, Option.bind_some, hf, Option.bind_some, fmt, ho]
  cases sg with
  | true =>
    have c1 : (some (if true = true then Ordering.lt else Ordering.gt) == some Ordering.lt) = true := rfl
    have c2 : (some (if true = true then Ordering.lt else Ordering.gt) == some Ordering.gt) = false := rfl
    have c3 : (some (if true = true then Ordering.lt else Ordering.gt) == some Ordering.eq) = false := rfl
    rw [c1, if_pos rfl, laws_FnHalfFacts.j0, fmt, ho, c2, if_neg Bool.false_ne_true, halves, Option.bind_some, if_pos rfl, hd, c3, hinf]
    subst hx4
    rfl
  | false =>
    have c1 : (some (if false = true then Ordering.lt else Ordering.gt) == some Ordering.lt) = false := rfl
    have c2 : (some (if false = true then Ordering.lt else Ordering.gt) == some Ordering.gt) = true := rfl
    have c3 : (some (if false = true then Ordering.lt else Ordering.gt) == some Ordering.eq) = false := rfl
    rw [c1, if_neg Bool.false_ne_true, laws_FnHalfFacts.j0, fmt, ho, c2, if_pos rfl, halves, Option.bind_some, if_pos rfl, hd, c3, hinf]
    subst hx4
    rfl

theorem FnHalfFacts : laws_FnHalfFacts.Pure := by
  intro a0 hw
  have hr : 0 ≤ a0 ∧ a0 ≤ 65535 := by simpa [Lit.wf, IntKind.min, IntKind.max, IntKind.signed, IntKind.bits] using hw
  obtain ⟨a, rfl⟩ : ∃ a : Nat, a0 = a := ⟨a0.toNat, by omega⟩
  have ha : a < 65536 := by omega
  refine ⟨3, ?_⟩
  by_cases hu : ¬ (a / 1024 % 32 = 31 ∧ a % 1024 ≠ 0) ∧ (a / 1024 % 32 ≠ 0 ∨ a % 1024 = 0)
  · by_cases h0 : a % 32768 = 0
    · have : a = 0 ∨ a = 32768 := by omega
      rcases this with rfl | rfl
      · exact four.1
      · exact four.2.1
    by_cases h1 : a % 32768 = 31744
    · have : a = 31744 ∨ a = 64512 := by omega
      rcases this with rfl | rfl
      · exact four.2.2.1
      · exact four.2.2.2
    have he1 : 1 ≤ a / 1024 % 32 := by omega
    have he2 : a / 1024 % 32 ≤ 30 := by omega
    have hM : a % 1024 * 4398046511104 < 4503599627370496 := by omega
    have hus := usual a ha
    rw [decide_eq_true hu] at hus
    have dd : (((a : Int) / 32768) == 1) = decide (a / 32768 = 1) := by
      by_cases h : a / 32768 = 1
      · rw [decide_eq_true h]; exact beq_iff_eq.mpr (by omega)
      · rw [decide_eq_false h]; exact beq_eq_false_iff_ne.mpr (by omega)
    refine main_of (a : Int) _ (decide (a / 32768 = 1)) _ hus (value a _ _ 2 ha rfl rfl he1 he2) (facts a _ _ ha rfl rfl he1 he2) (order_zero _ _ _ (by omega) (by omega) hM) (isInf_nw _ _ _ (by omega) (by omega) hM) ?_ dd
    by_cases h : a / 32768 = 1
    · rw [if_pos h, decide_eq_true h]; rfl
    · rw [if_neg h, decide_eq_false h]; rfl
  · have hus := usual a ha
    rw [decide_eq_false hu] at hus
    unfold laws_FnHalfFacts.f
    rw [hus, Option.bind_some, if_neg Bool.false_ne_true, halves, Option.bind_some]
end Go.Proofs.Ytahbgcjcfbjbmaa.Pure
