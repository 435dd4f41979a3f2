/- Walks of the program's functions, printed by a program of mine (walk.py) over the words of Stride: each function's contract. -/
import Derived.Test.YtahbgcjcfbjbmaaHpX
namespace Go.Proofs.Ytahbgcjcfbjbmaa.Stride
open Go Go.RowKit Go.Proofs.Ytahbgcjcfbjbmaa.Mag
set_option linter.unusedVariables false
set_option linter.unusedSimpArgs false
section
open Ieee
theorem kept_wide (t : Bool) (m : Nat) (h0 : 0 < m) (h1 : m < 16777216) :
    ∃ L K, m.log2 = L ∧ L < 24 ∧ 4503599627370496 ≤ K ∧ K < 9007199254740992 ∧ Ieee.Toward.even.cut t (m <<< (52 - L)) 0 = K := by
  have hl1 : 2 ^ m.log2 ≤ m := Nat.log2_self_le (Nat.pos_iff_ne_zero.1 h0)
  have hl2 : m < 2 ^ (m.log2 + 1) := Nat.lt_log2_self
  have hL : m.log2 < 24 := (Nat.log2_lt (Nat.pos_iff_ne_zero.1 h0)).2 h1
  refine ⟨m.log2, m * 2 ^ (52 - m.log2), rfl, hL, ?_, ?_, ?_⟩
  · have h := Nat.mul_le_mul_right (2 ^ (52 - m.log2)) hl1
    rw [← Nat.pow_add, Nat.add_sub_cancel' (Nat.le_of_lt (Nat.lt_of_lt_of_le hL (by decide)))] at h
    exact h
  · have h := Nat.mul_lt_mul_of_pos_right hl2 (Nat.two_pow_pos (52 - m.log2))
    rw [← Nat.pow_add, Nat.add_right_comm, Nat.add_sub_cancel' (Nat.le_of_lt (Nat.lt_of_lt_of_le hL (by decide)))] at h
    exact h
  · unfold Ieee.Toward.cut
    simp only [Nat.zero_min, Nat.shiftLeft_zero, Nat.div_one, Nat.mod_one]
    rw [Nat.shiftLeft_eq]
    simp
/-- A number of 32 bits as one of 64. -/
theorem nearest_wide (t : Bool) (m : Nat) (q : Int) (h0 : 0 < m) (h1 : m < 16777216) (hq0 : -149 ≤ q) (hq1 : q ≤ 104) :
    ∃ E M, Ieee.double.nearest t m q = nw t E M ∧ M < 4503599627370496 ∧ 1 ≤ E ∧ E ≤ 2046 ∧ (E : Int) = q + (m.log2 : Int) + 1023 := by
  obtain ⟨L, K, hLe, hL, hk1, hk2, hc⟩ := kept_wide t m h0 h1
  unfold Ieee.Format.nearest
  rw [if_neg (Nat.pos_iff_ne_zero.1 h0), hLe]
  simp only [dhf, dhl, dhb, dhi]
  have e1 : max (q + (L : Int) - ((52 : Nat) : Int)) (-1074) = q + (L : Int) - 52 := by clear hc hLe; omega
  rw [e1]
  have e2 : (q - (q + (L : Int) - 52)).toNat = 52 - L := by clear hc hLe e1; omega
  have e3 : ((q + (L : Int) - 52) - q).toNat = 0 := by clear hc hLe e1 e2; omega
  rw [e2, e3, hc]
  clear hc hLe e1 e2 e3
  refine ⟨(q + (L : Int) + 1023).toNat, K - 4503599627370496, ?_, by omega, by omega, by omega, by omega⟩
  unfold Ieee.Format.word nw
  rw [dhs]
  have e5 : min ((q + (L : Int) - 52 - -1074).toNat * 4503599627370496 + K) 9218868437227405312 = (q + (L : Int) + 1023).toNat * 4503599627370496 + (K - 4503599627370496) := by omega
  rw [e5]
  cases t
  · simp only [Bool.false_eq_true, if_false, Nat.zero_add, Nat.zero_mul]
  · simp only [if_true, Nat.one_mul]; omega
theorem conv_number {z m : Nat} {s : Bool} {q : Int} (hr : Ieee.single.read z = .number s m q) (h0 : 0 < m) (h1 : m < 16777216) (hq0 : -149 ≤ q) (hq1 : q ≤ 104) :
    ∃ E M, floatToFloatBits .f32 z .f64 = some (nw s E M) ∧ M < 4503599627370496 ∧ 1 ≤ E ∧ E ≤ 2046 ∧ (E : Int) = q + (m.log2 : Int) + 1023 := by
  obtain ⟨E, M, hn, hM, hE1, hE2, hE⟩ := nearest_wide s m q h0 h1 hq0 hq1
  refine ⟨E, M, ?_, hM, hE1, hE2, hE⟩
  unfold floatToFloatBits
  rw [if_neg (by decide)]
  have hr' : FloatKind.decode .f32 z = .number s m q := hr
  have hw : FloatKind.encode .f64 (.number s m q) = nw s E M := hn
  have hd : FloatKind.decode .f64 (nw s E M) = .number s (4503599627370496 + M) (-1074 + ((E - 1 : Nat) : Int)) := read_normal s E M hE1 hE2 hM
  rw [hr']
  simp only [hw, hd]
  rfl
/-- The words of 32 bits by their fields. -/
theorem single_cases {z : Nat} (hz : z < 4294967296) :
    (z / 8388608 % 256 = 255 ∧ z % 8388608 ≠ 0 ∧ ∃ s m, Ieee.single.read z = .nan s m) ∨
    (z = 2139095040 ∨ z = 4286578688) ∨ (z = 0 ∨ z = 2147483648) ∨
    (1 ≤ z / 8388608 % 256 ∧ z / 8388608 % 256 ≤ 254 ∧ z = sw (decide (z / 2147483648 % 2 = 1)) (z / 8388608 % 256) (z % 8388608)) ∨
    (z / 8388608 % 256 = 0 ∧ 0 < z % 8388608 ∧ Ieee.single.read z = .number (decide (z / 2147483648 % 2 = 1)) (z % 8388608) (-149)) := by
  have hS : (z / 2147483648 % 2 == 1) = decide (z / 2147483648 % 2 = 1) := by rw [Bool.eq_iff_iff]; simp
  by_cases h255 : z / 8388608 % 256 = 255
  · by_cases hf : z % 8388608 = 0
    · exact .inr (.inl (by omega))
    · refine .inl ⟨h255, hf, ?_⟩
      unfold Ieee.Format.read
      simp only [shs, shb, shi, shl_]
      rw [if_neg (by omega), if_neg (by omega), if_neg (by omega)]
      exact ⟨_, _, rfl⟩
  · by_cases h0 : z / 8388608 % 256 = 0
    · by_cases hf : z % 8388608 = 0
      · exact .inr (.inr (.inl (by omega)))
      · refine .inr (.inr (.inr (.inr ⟨h0, by omega, ?_⟩)))
        unfold Ieee.Format.read
        simp only [shs, shb, shi, shl_]
        rw [if_pos (by omega), hS]
        congr 1; omega
    · refine .inr (.inr (.inr (.inl ⟨by omega, by omega, ?_⟩)))
      unfold sw
      by_cases hs : z / 2147483648 % 2 = 1
      · simp only [hs, decide_true, if_true]; omega
      · have : z / 2147483648 % 2 = 0 := by omega
        simp [this]; omega
/-- Every number of 32 bits widens. -/
theorem widens (z : Nat) (hz : z < 4294967296) : ∀ s m q, Ieee.single.read z = .number s m q → (floatToFloatBits .f32 z .f64).isSome = true := by
  intro s m q hr
  rcases single_cases hz with ⟨_, _, s', m', h⟩ | (rfl | rfl) | (rfl | rfl) | ⟨h1, h2, h⟩ | ⟨h1, h2, h⟩
  · rw [h] at hr; cases hr
  · decide +kernel
  · decide +kernel
  · decide +kernel
  · decide +kernel
  · rw [h, widen _ _ _ h1 h2 (Nat.mod_lt _ (by decide))]; rfl
  · obtain ⟨E, M, he, _⟩ := conv_number h h2 (by omega) (by omega) (by omega)
    rw [he]; rfl
end

section
open Ieee
/-- The double of 1024 + f, cut to a whole number. -/
theorem trunc_1033 (M : Nat) (hM : M < 4503599627370496) : floatToIntVal .f64 (nw false 1033 M) .i64 = some (((1024 + M / 4398046511104 : Nat) : Int)) := by
  unfold floatToIntVal
  have hr : FloatKind.decode .f64 (nw false 1033 M) = .number false (4503599627370496 + M) (-42) := by
    show Ieee.double.read _ = _
    rw [read_normal false 1033 M (by decide) (by decide) hM]
    congr 1
  have hlog : (4503599627370496 + M).log2 = 52 := by
    rw [Nat.log2_eq_iff (by omega)]
    omega
  have hc : Ieee.Toward.zero.cut false ((4503599627370496 + M) <<< (-42 : Int).toNat) (-(-42 : Int)).toNat = 1024 + M / 4398046511104 := by
    show Ieee.Toward.zero.cut false ((4503599627370496 + M) <<< 0) 42 = _
    unfold Ieee.Toward.cut
    rw [Nat.shiftLeft_zero, hlog]
    have g : 1 <<< min 42 (52 + 2) = 4398046511104 := by decide
    simp only [g]
    have d1 : (4503599627370496 + M) / 4398046511104 = 1024 + M / 4398046511104 := by omega
    rw [d1]
    rfl
  have ht : (FloatKind.decode .f64 (nw false 1033 M)).toInt .zero = some (((1024 + M / 4398046511104 : Nat) : Int)) := by
    rw [hr]
    unfold Ieee.Datum.toInt Ieee.Datum.integral
    simp only [hc, Ieee.signed, Bool.false_eq_true, if_false, Nat.shiftLeft_zero]
  rw [ht]
  have h1 : IntKind.i64.min = -9223372036854775808 := by decide
  have h2 : IntKind.i64.max = 9223372036854775807 := by decide
  simp only [h1, h2]
  rw [if_pos (by omega)]
end

theorem bft2 : ∀ y : Bool, ((true && (y == true)) == true) = y := by decide
theorem nan64_lt {r : Nat} (h : nan64 r) : r < 18446744073709551616 := by
  obtain ⟨s, t, h⟩ := h
  omega
theorem conv_lt {z r : Nat} (hz : z < 4294967296) (h : floatToFloatBits .f32 z .f64 = some r ∨ (floatToFloatBits .f32 z .f64 = none ∧ nan64 r)) : r < 18446744073709551616 := by
  rcases h with h | ⟨_, h⟩
  · have hw : (Lit.float .f32 z).wf = true := by simp [Lit.wf]; omega
    have := floatToFloatBits_wf hw h; simpa [Lit.wf] using this
  · exact nan64_lt h
section
open Ieee
/-- A float of 32 bits that is a number, as one of 64. -/
theorem cut_shape {z r : Nat} (hz : z < 4294967296) (h : floatToFloatBits .f32 z .f64 = some r ∨ (floatToFloatBits .f32 z .f64 = none ∧ nan64 r)) (hnn : (FloatKind.f32.format.order z z != some .eq) = false) :
    (floatToFloatBits .f32 z .f64 = some r) ∧
    ((z = 2139095040 ∧ r = 9218868437227405312) ∨ (z = 4286578688 ∧ r = 18442240474082181120) ∨ (z = 0 ∧ r = 0) ∨ (z = 2147483648 ∧ r = 9223372036854775808) ∨
    (1 ≤ z / 8388608 % 256 ∧ z / 8388608 % 256 ≤ 254 ∧ r = nw (decide (z / 2147483648 % 2 = 1)) (z / 8388608 % 256 + 896) (z % 8388608 * 536870912)) ∨
    (∃ E M, z / 8388608 % 256 = 0 ∧ 1 ≤ E ∧ E ≤ 896 ∧ M < 4503599627370496 ∧ r = nw (decide (z / 2147483648 % 2 = 1)) E M)) := by
  have some_of : ∀ v, floatToFloatBits .f32 z .f64 = some v → floatToFloatBits .f32 z .f64 = some r ∧ r = v := fun v hv => by
    rcases h with h | ⟨h, _⟩
    · rw [hv] at h; cases h; exact ⟨hv, rfl⟩
    · rw [hv] at h; cases h
  rcases single_cases hz with ⟨_, _, s', m', hh⟩ | (rfl | rfl) | (rfl | rfl) | ⟨h1, h2, hh⟩ | ⟨h1, h2, hh⟩
  · exfalso
    have : FloatKind.f32.format.order z z = none := by
      show (Ieee.single.read z).order (Ieee.single.read z) = none
      rw [hh]; rfl
    rw [this] at hnn
    cases hnn
  · obtain ⟨a, b⟩ := some_of 9218868437227405312 (by decide +kernel); exact ⟨a, .inl ⟨rfl, b⟩⟩
  · obtain ⟨a, b⟩ := some_of 18442240474082181120 (by decide +kernel); exact ⟨a, .inr (.inl ⟨rfl, b⟩)⟩
  · obtain ⟨a, b⟩ := some_of 0 (by decide +kernel); exact ⟨a, .inr (.inr (.inl ⟨rfl, b⟩))⟩
  · obtain ⟨a, b⟩ := some_of 9223372036854775808 (by decide +kernel); exact ⟨a, .inr (.inr (.inr (.inl ⟨rfl, b⟩)))⟩
  · have hw := widen (decide (z / 2147483648 % 2 = 1)) _ _ h1 h2 (Nat.mod_lt z (by decide : 8388608 > 0))
    rw [← hh] at hw
    obtain ⟨a, b⟩ := some_of _ hw; exact ⟨a, .inr (.inr (.inr (.inr (.inl ⟨h1, h2, b⟩))))⟩
  · obtain ⟨E, M, he, hM, hE1, hE2, hE⟩ := conv_number hh h2 (by omega) (by omega) (by omega)
    have hl : (z % 8388608).log2 < 23 := (Nat.log2_lt (by omega)).2 (by have := Nat.mod_lt z (by decide : 8388608 > 0); simpa using this)
    obtain ⟨a, b⟩ := some_of _ he; exact ⟨a, .inr (.inr (.inr (.inr (.inr ⟨E, M, h1, hE1, by omega, hM, b⟩))))⟩
end
theorem cut_normal {z r : Nat} (hz : z < 4294967296) (h : floatToFloatBits .f32 z .f64 = some r ∨ (floatToFloatBits .f32 z .f64 = none ∧ nan64 r))
    (hge : (FloatKind.f64.format.order (r % 9223372036854775808) 4679240012837945344 == some .gt || FloatKind.f64.format.order (r % 9223372036854775808) 4679240012837945344 == some .eq) = false)
    (hlt : (FloatKind.f64.format.order (r % 9223372036854775808) 4544132024016830464 == some .lt) = false) (hnn : (FloatKind.f32.format.order z z != some .eq) = false) :
    113 ≤ z / 8388608 % 256 ∧ z / 8388608 % 256 ≤ 142 ∧ r = nw (decide (z / 2147483648 % 2 = 1)) (z / 8388608 % 256 + 896) (z % 8388608 * 536870912) := by
  obtain ⟨_, hs⟩ := cut_shape hz h hnn
  have c1 : (4679240012837945344 : Nat) = nw false 1039 0 := by decide
  have c2 : (4544132024016830464 : Nat) = nw false 1009 0 := by decide
  rcases hs with ⟨_, rfl⟩ | ⟨_, rfl⟩ | ⟨_, rfl⟩ | ⟨_, rfl⟩ | ⟨h1, h2, rfl⟩ | ⟨E, M, h0, h1, h2, hM, rfl⟩
  · exact absurd hge (by decide +kernel)
  · exact absurd hge (by decide +kernel)
  · exact absurd hlt (by decide +kernel)
  · exact absurd hlt (by decide +kernel)
  · rw [nw_mod _ _ _ (by omega) (by omega)] at hge hlt
    obtain ⟨_, g1, g2⟩ := order_lt_of (x := nw false (z / 8388608 % 256 + 896) (z % 8388608 * 536870912)) rfl c1 (by omega) (by omega) (by omega) (by decide) (by decide) (by decide)
    obtain ⟨g3, _, _⟩ := order_lt_of (x := nw false (z / 8388608 % 256 + 896) (z % 8388608 * 536870912)) rfl c2 (by omega) (by omega) (by omega) (by decide) (by decide) (by decide)
    rw [g1, g2] at hge
    rw [g3] at hlt
    simp only [Bool.or_eq_false_iff, decide_eq_false_iff_not] at hge hlt
    unfold nw at hge hlt
    simp only [Bool.false_eq_true, if_false] at hge hlt
    exact ⟨by omega, by omega, rfl⟩
  · rw [nw_mod _ _ _ (by omega) hM] at hlt
    obtain ⟨g3, _, _⟩ := order_lt_of (x := nw false E M) rfl c2 h1 (by omega) hM (by decide) (by decide) (by decide)
    rw [g3] at hlt
    simp only [decide_eq_false_iff_not] at hlt
    unfold nw at hlt
    simp only [Bool.false_eq_true, if_false] at hlt
    exfalso; omega
theorem cut_big {z r : Nat} (hz : z < 4294967296) (h : floatToFloatBits .f32 z .f64 = some r ∨ (floatToFloatBits .f32 z .f64 = none ∧ nan64 r)) (hnn : (FloatKind.f32.format.order z z != some .eq) = false)
    (hge : (FloatKind.f64.format.order (r % 9223372036854775808) 4679240012837945344 == some .gt || FloatKind.f64.format.order (r % 9223372036854775808) 4679240012837945344 == some .eq) = true) :
    newH z = z / 2147483648 % 2 * 32768 + 31744 := by
  obtain ⟨_, hs⟩ := cut_shape hz h hnn
  have c1 : (4679240012837945344 : Nat) = nw false 1039 0 := by decide
  rcases hs with ⟨rfl, rfl⟩ | ⟨rfl, rfl⟩ | ⟨_, rfl⟩ | ⟨_, rfl⟩ | ⟨h1, h2, rfl⟩ | ⟨E, M, h0, h1, h2, hM, rfl⟩
  · decide
  · decide
  · exact absurd hge (by decide +kernel)
  · exact absurd hge (by decide +kernel)
  · rw [nw_mod _ _ _ (by omega) (by omega)] at hge
    obtain ⟨_, g1, g2⟩ := order_lt_of (x := nw false (z / 8388608 % 256 + 896) (z % 8388608 * 536870912)) rfl c1 (by omega) (by omega) (by omega) (by decide) (by decide) (by decide)
    rw [g1, g2] at hge
    simp only [Bool.or_eq_true, decide_eq_true_eq] at hge
    unfold nw at hge
    simp only [Bool.false_eq_true, if_false] at hge
    unfold newH
    rw [if_neg (show ¬ z / 8388608 % 256 = 0 by omega), if_neg (show ¬ z / 8388608 % 256 = 255 by omega), if_pos (show 143 ≤ z / 8388608 % 256 by omega)]
  · rw [nw_mod _ _ _ (by omega) hM] at hge
    obtain ⟨_, g1, g2⟩ := order_lt_of (x := nw false E M) rfl c1 h1 (by omega) hM (by decide) (by decide) (by decide)
    rw [g1, g2] at hge
    simp only [Bool.or_eq_true, decide_eq_true_eq] at hge
    unfold nw at hge
    simp only [Bool.false_eq_true, if_false] at hge
    exfalso; omega
theorem cut_small {z r : Nat} (hz : z < 4294967296) (h : floatToFloatBits .f32 z .f64 = some r ∨ (floatToFloatBits .f32 z .f64 = none ∧ nan64 r)) (hnn : (FloatKind.f32.format.order z z != some .eq) = false)
    (hlt : (FloatKind.f64.format.order (r % 9223372036854775808) 4544132024016830464 == some .lt) = true)
    (hsub : ((FloatKind.f64.format.order (r % 9223372036854775808) 0 == some .gt) && (FloatKind.f64.format.order (r % 9223372036854775808) 4039728865751334912 == some .lt)) = false) :
    newH z = z / 2147483648 % 2 * 32768 := by
  obtain ⟨_, hs⟩ := cut_shape hz h hnn
  have c2 : (4544132024016830464 : Nat) = nw false 1009 0 := by decide
  have c3 : (4039728865751334912 : Nat) = nw false 897 0 := by decide
  rcases hs with ⟨_, rfl⟩ | ⟨_, rfl⟩ | ⟨rfl, rfl⟩ | ⟨rfl, rfl⟩ | ⟨h1, h2, rfl⟩ | ⟨E, M, h0, h1, h2, hM, rfl⟩
  · exact absurd hlt (by decide +kernel)
  · exact absurd hlt (by decide +kernel)
  · decide
  · decide
  · rw [nw_mod _ _ _ (by omega) (by omega)] at hlt
    obtain ⟨g3, _, _⟩ := order_lt_of (x := nw false (z / 8388608 % 256 + 896) (z % 8388608 * 536870912)) rfl c2 (by omega) (by omega) (by omega) (by decide) (by decide) (by decide)
    rw [g3] at hlt
    simp only [decide_eq_true_eq] at hlt
    unfold nw at hlt
    simp only [Bool.false_eq_true, if_false] at hlt
    unfold newH
    rw [if_neg (show ¬ z / 8388608 % 256 = 0 by omega), if_neg (show ¬ z / 8388608 % 256 = 255 by omega), if_neg (show ¬ 143 ≤ z / 8388608 % 256 by omega), if_pos (show z / 8388608 % 256 ≤ 112 by omega)]
    omega
  · rw [nw_mod _ _ _ (by omega) hM] at hsub
    obtain ⟨g3, _, _⟩ := order_lt_of (x := nw false E M) rfl c3 h1 (by omega) hM (by decide) (by decide) (by decide)
    have g0 := order_zero false E M h1 (by omega) hM
    rw [g3, show FloatKind.f64.format.order (nw false E M) 0 = _ from g0] at hsub
    have : nw false E M < 4039728865751334912 := by unfold nw; simp only [Bool.false_eq_true, if_false]; omega
    rw [decide_eq_true this] at hsub
    exact absurd hsub (by decide)
theorem cut_sign {z r : Nat} (hz : z < 4294967296) (h : floatToFloatBits .f32 z .f64 = some r ∨ (floatToFloatBits .f32 z .f64 = none ∧ nan64 r)) (hnn : (FloatKind.f32.format.order z z != some .eq) = false) :
    (9223372036854775808 ≤ r ↔ z / 2147483648 % 2 = 1) ∧ r < 18446744073709551616 := by
  refine ⟨?_, conv_lt hz h⟩
  obtain ⟨_, hs⟩ := cut_shape hz h hnn
  rcases hs with ⟨rfl, rfl⟩ | ⟨rfl, rfl⟩ | ⟨rfl, rfl⟩ | ⟨rfl, rfl⟩ | ⟨h1, h2, rfl⟩ | ⟨E, M, h0, h1, h2, hM, rfl⟩
  · decide
  · decide
  · decide
  · decide
  · unfold nw
    by_cases hd : z / 2147483648 % 2 = 1
    · rw [decide_eq_true hd, if_pos rfl]; exact ⟨fun _ => hd, fun _ => by omega⟩
    · rw [decide_eq_false hd, if_neg (by decide)]; exact ⟨fun h => by omega, fun h => absurd h hd⟩
  · unfold nw
    by_cases hd : z / 2147483648 % 2 = 1
    · rw [decide_eq_true hd, if_pos rfl]; exact ⟨fun _ => hd, fun _ => by omega⟩
    · rw [decide_eq_false hd, if_neg (by decide)]; exact ⟨fun h => by omega, fun h => absurd h hd⟩
theorem cut_same {z r r2 : Nat} (hz : z < 4294967296) (h : floatToFloatBits .f32 z .f64 = some r ∨ (floatToFloatBits .f32 z .f64 = none ∧ nan64 r)) (h2 : floatToFloatBits .f32 z .f64 = some r2 ∨ (floatToFloatBits .f32 z .f64 = none ∧ nan64 r2)) (hnn : (FloatKind.f32.format.order z z != some .eq) = false) : r2 = r := by
  obtain ⟨hs, _⟩ := cut_shape hz h hnn
  rcases h2 with h2 | ⟨h2, _⟩
  · rw [hs] at h2; cases h2; rfl
  · rw [hs] at h2; cases h2
theorem cut_norm {z : Nat} (h1 : 113 ≤ z / 8388608 % 256) (h2 : z / 8388608 % 256 ≤ 142) : newH z = z / 2147483648 % 2 * 32768 + ((z / 8388608 % 256 - 112) * 1024 + z % 8388608 / 8192) := by
  unfold newH
  rw [if_neg (show ¬ z / 8388608 % 256 = 0 by omega), if_neg (show ¬ z / 8388608 % 256 = 255 by omega), if_neg (show ¬ 143 ≤ z / 8388608 % 256 by omega), if_neg (show ¬ z / 8388608 % 256 ≤ 112 by omega)]
  omega
theorem u16_sign1 (y : Nat) (hy : y < 32768) : bits .or .u16 (32768 : Int) ((y : Nat) : Int) = ((32768 + y : Nat) : Int) := by
  have := u16_or 32768 y (by decide) (by omega)
  rw [or_join (k := 15) (by decide) (by omega)] at this
  exact this
theorem u16_sign0 (y : Nat) (hy : y < 32768) : bits .or .u16 (0 : Int) ((y : Nat) : Int) = ((y : Nat) : Int) := by
  have := u16_or 0 y (by decide) (by omega)
  rw [Nat.zero_or] at this
  exact this


set_option maxHeartbeats 4000000 in
set_option maxRecDepth 100000 in
theorem cut_spec {C : Nat → Prop} {w : World} {z : Nat} (hz : z < 4294967296) :
    Calls P 12 #[.float .f32 z] w fun ex w' => (∃ (x : Int) (is : Bool), ex = .returned (.tuple #[.int .u16 x, .bool is]) ∧ (is = true → x = ((newH z : Nat) : Int) ∧ (FloatKind.f32.format.order z z != some .eq) = false)) ∧ Keep (fun b => b < w.heap.size) w w' := by
  refine doorN (e := e0) (vs := [.v (.float .f32 z)]) (n := 58) (m := 1) Try.func12 rfl rfl rfl (by decide) fun a_ hI => ?_
  replace hI : Is 58 [] e0 [(0, .v (.float .f32 z))] a_ := hI
  have hR : Rel (fun b => b < w.heap.size) w e0 [] [] w := Rel.start (fun k hk => hk)
  have hB : Base C w C (fun b => b < w.heap.size) w := Base.start
  refine reg_seq tab (k := 0) (hs := []) (sy := []) (ks := [0]) (bs := []) (gs := [])
      (L' := [(0, .v (.float .f32 z))])
      (H' := []) (G' := []) (k' := 0) hR hI (by kernel_rfl)
      .nil (fun e1 a1 w1 hag hR hI => ?_)
  refine wp_seq ?_
  refine reg (is := [0, 1, 2, 3]) (by kernel_rfl) ?_
  refine part_ tab [0] [1, 2, 3] (by rfl) (k := 0) (hs := []) (sy := []) (ks := [8, 0]) (bs := []) (gs := [])
      (L' := [(8, .v (.float .f32 z)), (0, .v (.float .f32 z))])
      (H' := []) (G' := []) (k' := 0) hR hI (by kernel_rfl)
      .nil (fun e2 a2 w2 hag hR hI => ?_)
  refine convOp (b := z) tab hI rfl rfl rfl rfl rfl rfl (by kernel_rfl) (widens z hz) (fun r a3 w3 hr hk hI => ?_)
  replace hR := hR.same hk; clear hk
  replace hI := hI.sel [9, 8, 0] (by kernel_rfl : sel _ _ = some [(9, .v (.float .f64 r)), (8, .v (.float .f32 z)), (0, .v (.float .f32 z))])
  refine callOp (ys := [.v (.float .f64 r)]) hI rfl rfl ⟨_, rfl, rfl, rfl⟩ (by kernel_rfl) Try.func25 rfl rfl ?_
  have hr_ := conv_lt hz hr
  refine (abs_spec (C := C) hr_).mono ?_
  rintro ex w4 ⟨rfl, hk⟩
  replace hR := hR.same hk; clear hk
  refine ⟨_, rfl, ?_⟩
  replace hI := hI.put (d := some 10) (x := .v (.float .f64 (r % 9223372036854775808))) (by intro t ht; cases ht; decide) rfl
  replace hI := hI.sel [10, 9, 8, 0] (by kernel_rfl : sel _ _ = some [(10, .v (.float .f64 (r % 9223372036854775808))), (9, .v (.float .f64 r)), (8, .v (.float .f32 z)), (0, .v (.float .f32 z))])
  refine part_ tab [3] [] (by rfl) (k := 0) (hs := []) (sy := []) (ks := [4, 0]) (bs := []) (gs := [])
      (L' := [(4, .v (.float .f64 (r % 9223372036854775808))), (0, .v (.float .f32 z))])
      (H' := []) (G' := []) (k' := 0) hR hI (by kernel_rfl)
      .nil (fun e5 a5 w5 hag hR hI => ?_)
  refine ops_nil ?_
  refine then_n ?_
  refine reg_seq tab (k := 0) (hs := []) (sy := []) (ks := [5, 4, 0]) (bs := []) (gs := [])
      (L' := [(5, .v (.int .u16 0)), (4, .v (.float .f64 (r % 9223372036854775808))), (0, .v (.float .f32 z))])
      (H' := []) (G' := []) (k' := 0) hR hI (by kernel_rfl)
      .nil (fun e6 a6 w6 hag hR hI => ?_)
  refine wp_seq ?_
  refine wp_seq ?_
  refine reg (is := [0, 1, 2]) (by kernel_rfl) ?_
  refine part_ tab [0] [1, 2] (by rfl) (k := 0) (hs := []) (sy := []) (ks := [11, 5, 4, 0]) (bs := []) (gs := [])
      (L' := [(11, .v (.float .f32 z)), (5, .v (.int .u16 0)), (4, .v (.float .f64 (r % 9223372036854775808))), (0, .v (.float .f32 z))])
      (H' := []) (G' := []) (k' := 0) hR hI (by kernel_rfl)
      .nil (fun e7 a7 w7 hag hR hI => ?_)
  refine convOp (b := z) tab hI rfl rfl rfl rfl rfl rfl (by kernel_rfl) (widens z hz) (fun r2 a8 w8 hr2 hk hI => ?_)
  replace hR := hR.same hk; clear hk
  replace hI := hI.sel [12, 11, 5, 4, 0] (by kernel_rfl : sel _ _ = some [(12, .v (.float .f64 r2)), (11, .v (.float .f32 z)), (5, .v (.int .u16 0)), (4, .v (.float .f64 (r % 9223372036854775808))), (0, .v (.float .f32 z))])
  refine callOp (ys := [.v (.float .f64 r2)]) hI rfl rfl ⟨_, rfl, rfl, rfl⟩ (by kernel_rfl) Try.func33 rfl rfl ?_
  have hr2_ := conv_lt hz hr2
  refine (signbit_spec (C := C) hr2_).mono ?_
  rintro ex w9 ⟨rfl, hk⟩
  replace hR := hR.same hk; clear hk
  refine ⟨_, rfl, ?_⟩
  replace hI := hI.put (d := some 13) (x := .v (.bool (decide (9223372036854775808 ≤ r2)))) (by intro t ht; cases ht; decide) rfl
  replace hI := hI.sel [13, 12, 11, 5, 4, 0] (by kernel_rfl : sel _ _ = some [(13, .v (.bool (decide (9223372036854775808 ≤ r2)))), (12, .v (.float .f64 r2)), (11, .v (.float .f32 z)), (5, .v (.int .u16 0)), (4, .v (.float .f64 (r % 9223372036854775808))), (0, .v (.float .f32 z))])
  refine ops_nil ?_
  refine then_n ?_
  refine cnd (b := decide (9223372036854775808 ≤ r2)) hI (by kernel_rfl) (fun hc10 => ?_) (fun hc10 => ?_)
  · skip
    replace hI := hI.re 13 (.v (.bool true)) rfl (congrArg Value.bool hc10)
    have hs1 := of_decide_eq_true hc10
    refine reg_all tab (k := 0) (hs := []) (sy := []) (ks := [5, 4, 0]) (bs := []) (gs := [])
        (L' := [(5, .v (.int .u16 32768)), (4, .v (.float .f64 (r % 9223372036854775808))), (0, .v (.float .f32 z))])
        (H' := []) (G' := []) (k' := 0) hR hI (by kernel_rfl)
        .nil (fun e11 a11 w11 hag hR hI => ?_)
    refine then_n ?_
    refine wp_seq ?_
    refine wp_block ?_
    refine reg_seq tab (k := 0) (hs := [(9, .sym), (10, .sym), (17, .sym), (18, .sym)]) (sy := [4, 5, 6, 7, 8, 9, 12, 13, 14, 15, 16, 17]) (ks := [14, 5, 4]) (bs := []) (gs := [])
        (L' := [(14, .v (.bool (((FloatKind.f32.format.order z z != some .eq) || ((FloatKind.f64.format.order (r % 9223372036854775808) 4679235614791434240 == some .gt) && (FloatKind.f64.format.order (r % 9223372036854775808) 4679240012837945344 == some .lt))) || ((FloatKind.f64.format.order (r % 9223372036854775808) 0 == some .gt) && (FloatKind.f64.format.order (r % 9223372036854775808) 4039728865751334912 == some .lt))))), (5, .v (.int .u16 32768)), (4, .v (.float .f64 (r % 9223372036854775808)))])
        (H' := []) (G' := []) (k' := 0) hR hI (by kernel_rfl)
        (.cons (rfl : (FloatKind.f32.format.order z z != some .eq) = (FloatKind.f32.format.order z z != some .eq)) (.cons (rfl : (FloatKind.f32.format.order z z != some .eq) = (FloatKind.f32.format.order z z != some .eq)) (.cons (rfl : (FloatKind.f32.format.order z z != some .eq) = (FloatKind.f32.format.order z z != some .eq)) (.cons (rfl : (((FloatKind.f32.format.order z z != some .eq) == false) && ((FloatKind.f64.format.order (r % 9223372036854775808) 4679235614791434240 == some .gt) == true)) = (((FloatKind.f32.format.order z z != some .eq) == false) && ((FloatKind.f64.format.order (r % 9223372036854775808) 4679235614791434240 == some .gt) == true))) (.cons (rfl : (FloatKind.f32.format.order z z != some .eq) = (FloatKind.f32.format.order z z != some .eq)) (.cons (rfl : (FloatKind.f32.format.order z z != some .eq) = (FloatKind.f32.format.order z z != some .eq)) (.cons (rfl : (FloatKind.f32.format.order z z != some .eq) = (FloatKind.f32.format.order z z != some .eq)) (.cons (fun (hg : ((FloatKind.f32.format.order z z != some .eq) == false) = true) => (by skip; first | exact Bool.beq_true _ | exact Bool.beq_false _ | rfl | (rw [hg]; exact bft _) | (rw [hg]; exact bft2 _) | simp_all : ((((FloatKind.f32.format.order z z != some .eq) == false) && ((FloatKind.f64.format.order (r % 9223372036854775808) 4679235614791434240 == some .gt) == true)) == true) = (FloatKind.f64.format.order (r % 9223372036854775808) 4679235614791434240 == some .gt))) (.cons (by first | exact Bool.beq_true _ | exact Bool.beq_false _ | rfl | (rw [hg]; exact bft _) | (rw [hg]; exact bft2 _) | simp_all : ((FloatKind.f32.format.order z z != some .eq) == false) = !(FloatKind.f32.format.order z z != some .eq)) (.cons (rfl : ((FloatKind.f32.format.order z z != some .eq) || ((FloatKind.f64.format.order (r % 9223372036854775808) 4679235614791434240 == some .gt) && (FloatKind.f64.format.order (r % 9223372036854775808) 4679240012837945344 == some .lt))) = ((FloatKind.f32.format.order z z != some .eq) || ((FloatKind.f64.format.order (r % 9223372036854775808) 4679235614791434240 == some .gt) && (FloatKind.f64.format.order (r % 9223372036854775808) 4679240012837945344 == some .lt)))) (.cons (rfl : ((FloatKind.f32.format.order z z != some .eq) || ((FloatKind.f64.format.order (r % 9223372036854775808) 4679235614791434240 == some .gt) && (FloatKind.f64.format.order (r % 9223372036854775808) 4679240012837945344 == some .lt))) = ((FloatKind.f32.format.order z z != some .eq) || ((FloatKind.f64.format.order (r % 9223372036854775808) 4679235614791434240 == some .gt) && (FloatKind.f64.format.order (r % 9223372036854775808) 4679240012837945344 == some .lt)))) (.cons (rfl : ((FloatKind.f32.format.order z z != some .eq) || ((FloatKind.f64.format.order (r % 9223372036854775808) 4679235614791434240 == some .gt) && (FloatKind.f64.format.order (r % 9223372036854775808) 4679240012837945344 == some .lt))) = ((FloatKind.f32.format.order z z != some .eq) || ((FloatKind.f64.format.order (r % 9223372036854775808) 4679235614791434240 == some .gt) && (FloatKind.f64.format.order (r % 9223372036854775808) 4679240012837945344 == some .lt)))) (.cons (rfl : ((((FloatKind.f32.format.order z z != some .eq) || ((FloatKind.f64.format.order (r % 9223372036854775808) 4679235614791434240 == some .gt) && (FloatKind.f64.format.order (r % 9223372036854775808) 4679240012837945344 == some .lt))) == false) && ((FloatKind.f64.format.order (r % 9223372036854775808) 0 == some .gt) == true)) = ((((FloatKind.f32.format.order z z != some .eq) || ((FloatKind.f64.format.order (r % 9223372036854775808) 4679235614791434240 == some .gt) && (FloatKind.f64.format.order (r % 9223372036854775808) 4679240012837945344 == some .lt))) == false) && ((FloatKind.f64.format.order (r % 9223372036854775808) 0 == some .gt) == true))) (.cons (rfl : ((FloatKind.f32.format.order z z != some .eq) || ((FloatKind.f64.format.order (r % 9223372036854775808) 4679235614791434240 == some .gt) && (FloatKind.f64.format.order (r % 9223372036854775808) 4679240012837945344 == some .lt))) = ((FloatKind.f32.format.order z z != some .eq) || ((FloatKind.f64.format.order (r % 9223372036854775808) 4679235614791434240 == some .gt) && (FloatKind.f64.format.order (r % 9223372036854775808) 4679240012837945344 == some .lt)))) (.cons (rfl : ((FloatKind.f32.format.order z z != some .eq) || ((FloatKind.f64.format.order (r % 9223372036854775808) 4679235614791434240 == some .gt) && (FloatKind.f64.format.order (r % 9223372036854775808) 4679240012837945344 == some .lt))) = ((FloatKind.f32.format.order z z != some .eq) || ((FloatKind.f64.format.order (r % 9223372036854775808) 4679235614791434240 == some .gt) && (FloatKind.f64.format.order (r % 9223372036854775808) 4679240012837945344 == some .lt)))) (.cons (rfl : ((FloatKind.f32.format.order z z != some .eq) || ((FloatKind.f64.format.order (r % 9223372036854775808) 4679235614791434240 == some .gt) && (FloatKind.f64.format.order (r % 9223372036854775808) 4679240012837945344 == some .lt))) = ((FloatKind.f32.format.order z z != some .eq) || ((FloatKind.f64.format.order (r % 9223372036854775808) 4679235614791434240 == some .gt) && (FloatKind.f64.format.order (r % 9223372036854775808) 4679240012837945344 == some .lt)))) (.cons (fun (hg : (((FloatKind.f32.format.order z z != some .eq) || ((FloatKind.f64.format.order (r % 9223372036854775808) 4679235614791434240 == some .gt) && (FloatKind.f64.format.order (r % 9223372036854775808) 4679240012837945344 == some .lt))) == false) = true) => (by skip; first | exact Bool.beq_true _ | exact Bool.beq_false _ | rfl | (rw [hg]; exact bft _) | (rw [hg]; exact bft2 _) | simp_all : (((((FloatKind.f32.format.order z z != some .eq) || ((FloatKind.f64.format.order (r % 9223372036854775808) 4679235614791434240 == some .gt) && (FloatKind.f64.format.order (r % 9223372036854775808) 4679240012837945344 == some .lt))) == false) && ((FloatKind.f64.format.order (r % 9223372036854775808) 0 == some .gt) == true)) == true) = (FloatKind.f64.format.order (r % 9223372036854775808) 0 == some .gt))) (.cons (by first | exact Bool.beq_true _ | exact Bool.beq_false _ | rfl | (rw [hg]; exact bft _) | (rw [hg]; exact bft2 _) | simp_all : (((FloatKind.f32.format.order z z != some .eq) || ((FloatKind.f64.format.order (r % 9223372036854775808) 4679235614791434240 == some .gt) && (FloatKind.f64.format.order (r % 9223372036854775808) 4679240012837945344 == some .lt))) == false) = !((FloatKind.f32.format.order z z != some .eq) || ((FloatKind.f64.format.order (r % 9223372036854775808) 4679235614791434240 == some .gt) && (FloatKind.f64.format.order (r % 9223372036854775808) 4679240012837945344 == some .lt)))) .nil)))))))))))))))))) (fun e12 a12 w12 hag hR hI => ?_)
    refine cnd (b := (((FloatKind.f32.format.order z z != some .eq) || ((FloatKind.f64.format.order (r % 9223372036854775808) 4679235614791434240 == some .gt) && (FloatKind.f64.format.order (r % 9223372036854775808) 4679240012837945344 == some .lt))) || ((FloatKind.f64.format.order (r % 9223372036854775808) 0 == some .gt) && (FloatKind.f64.format.order (r % 9223372036854775808) 4039728865751334912 == some .lt)))) hI (by kernel_rfl) (fun hc13 => ?_) (fun hc13 => ?_)
    · skip
      replace hI := hI.re 14 (.v (.bool true)) rfl (congrArg Value.bool hc13)
      refine reg_seq tab (k := 0) (hs := []) (sy := []) (ks := [3, 2]) (bs := []) (gs := [])
          (L' := [(3, .v (.bool false)), (2, .v (.int .u16 0))])
          (H' := []) (G' := []) (k' := 0) hR hI (by kernel_rfl)
          .nil (fun e14 a14 w14 hag hR hI => ?_)
      refine wp_ret ?_
      refine ret_block ?_
      refine ret_then ?_
      refine outN tab (xs := [.v (.int .u16 0), .v (.bool false)]) hR hI rfl (by kernel_rfl) ?_
      exact ⟨⟨_, _, rfl, fun h => Bool.noConfusion h⟩, hB.fin hR⟩
    · skip
      replace hI := hI.re 14 (.v (.bool false)) rfl (congrArg Value.bool hc13)
      have hfirst := hc13
      rw [Bool.or_eq_false_iff, Bool.or_eq_false_iff] at hfirst
      obtain ⟨⟨hnn, _⟩, hsub⟩ := hfirst
      obtain ⟨hsg_, _⟩ := cut_sign hz hr2 hnn
      have hS : z / 2147483648 % 2 = 1 := hsg_.1 hs1
      refine reg_seq tab (k := 0) (hs := []) (sy := []) (ks := [34, 5, 4]) (bs := []) (gs := [])
          (L' := [(34, .v (.bool (FloatKind.f64.format.order (r % 9223372036854775808) 4679240012837945344 == some .gt || FloatKind.f64.format.order (r % 9223372036854775808) 4679240012837945344 == some .eq))), (5, .v (.int .u16 32768)), (4, .v (.float .f64 (r % 9223372036854775808)))])
          (H' := []) (G' := []) (k' := 0) hR hI (by kernel_rfl)
          .nil (fun e15 a15 w15 hag hR hI => ?_)
      refine cnd (b := (FloatKind.f64.format.order (r % 9223372036854775808) 4679240012837945344 == some .gt || FloatKind.f64.format.order (r % 9223372036854775808) 4679240012837945344 == some .eq)) hI (by kernel_rfl) (fun hc16 => ?_) (fun hc16 => ?_)
      · skip
        replace hI := hI.re 34 (.v (.bool true)) rfl (congrArg Value.bool hc16)
        have hge_ := hc16
        refine reg_seq tab (k := 0) (hs := []) (sy := []) (ks := [3, 2]) (bs := []) (gs := [])
            (L' := [(3, .v (.bool true)), (2, .v (.int .u16 (bits .or .u16 (32768 : Int) (31744 : Int))))])
            (H' := []) (G' := []) (k' := 0) hR hI (by kernel_rfl)
            .nil (fun e17 a17 w17 hag hR hI => ?_)
        refine wp_ret ?_
        refine ret_block ?_
        refine ret_then ?_
        refine outN tab (xs := [.v (.int .u16 (bits .or .u16 (32768 : Int) (31744 : Int))), .v (.bool true)]) hR hI rfl (by kernel_rfl) ?_
        have hx_ : (bits .or .u16 (32768 : Int) (31744 : Int) : Int) = ((newH z : Nat) : Int) := by rw [cut_big hz hr hnn hge_, hS]; decide
        exact ⟨⟨_, _, rfl, fun _ => ⟨hx_, hnn⟩⟩, hB.fin hR⟩
      · skip
        replace hI := hI.re 34 (.v (.bool false)) rfl (congrArg Value.bool hc16)
        have hge_ := hc16
        refine reg_seq tab (k := 0) (hs := []) (sy := []) (ks := [39, 5, 4]) (bs := []) (gs := [])
            (L' := [(39, .v (.bool (FloatKind.f64.format.order (r % 9223372036854775808) 4544132024016830464 == some .lt))), (5, .v (.int .u16 32768)), (4, .v (.float .f64 (r % 9223372036854775808)))])
            (H' := []) (G' := []) (k' := 0) hR hI (by kernel_rfl)
            .nil (fun e18 a18 w18 hag hR hI => ?_)
        refine cnd (b := (FloatKind.f64.format.order (r % 9223372036854775808) 4544132024016830464 == some .lt)) hI (by kernel_rfl) (fun hc19 => ?_) (fun hc19 => ?_)
        · skip
          replace hI := hI.re 39 (.v (.bool true)) rfl (congrArg Value.bool hc19)
          have hlt_ := hc19
          refine reg_seq tab (k := 0) (hs := []) (sy := []) (ks := [3, 2]) (bs := []) (gs := [])
              (L' := [(3, .v (.bool true)), (2, .v (.int .u16 32768))])
              (H' := []) (G' := []) (k' := 0) hR hI (by kernel_rfl)
              .nil (fun e20 a20 w20 hag hR hI => ?_)
          refine wp_ret ?_
          refine ret_block ?_
          refine ret_then ?_
          refine outN tab (xs := [.v (.int .u16 32768), .v (.bool true)]) hR hI rfl (by kernel_rfl) ?_
          have hx_ : (32768 : Int) = ((newH z : Nat) : Int) := by rw [cut_small hz hr hnn hlt_ hsub, hS]; decide
          exact ⟨⟨_, _, rfl, fun _ => ⟨hx_, hnn⟩⟩, hB.fin hR⟩
        · skip
          replace hI := hI.re 39 (.v (.bool false)) rfl (congrArg Value.bool hc19)
          have hlt_ := hc19
          obtain ⟨hE1, hE2, hre⟩ := cut_normal hz hr hge_ hlt_ hnn
          replace hI := hI.re 4 (.v (.float .f64 (nw false (z / 8388608 % 256 + 896) (z % 8388608 * 536870912)))) rfl (congrArg (Value.float .f64) ((by rw [hre]; exact nw_mod _ _ _ (by omega) (by omega))))
          refine wp_skip ?_
          refine normal_block ?_
          refine then_n ?_
          refine wp_seq ?_
          refine reg (is := [0, 1, 2, 3, 4, 5, 6]) (by kernel_rfl) ?_
          refine part_ tab [0] [1, 2, 3, 4, 5, 6] (by rfl) (k := 0) (hs := []) (sy := []) (ks := [44, 5]) (bs := []) (gs := [])
              (L' := [(44, .v (.float .f64 (nw false (z / 8388608 % 256 + 896) (z % 8388608 * 536870912)))), (5, .v (.int .u16 32768))])
              (H' := []) (G' := []) (k' := 0) hR hI (by kernel_rfl)
              .nil (fun e21 a21 w21 hag hR hI => ?_)
          refine callOp (ys := [.v (.float .f64 (nw false (z / 8388608 % 256 + 896) (z % 8388608 * 536870912)))]) hI rfl rfl ⟨_, rfl, rfl, rfl⟩ (by kernel_rfl) Try.func34 rfl rfl ?_
          refine (Frexp_spec (C := C) (s := false) (E := z / 8388608 % 256 + 896) (M := z % 8388608 * 536870912) (by omega) (by omega) (by omega)).mono ?_
          rintro ex w22 ⟨rfl, hk⟩
          replace hR := hR.same hk; clear hk
          refine ⟨_, rfl, ?_⟩
          replace hI := hI.put (d := some 45) (x := .v (.tuple #[.float .f64 (nw false 1022 (z % 8388608 * 536870912)), .int .i64 (((z / 8388608 % 256 + 896 : Nat) : Int) - 1022)])) (by intro t ht; cases ht; decide) rfl
          replace hI := hI.sel [45, 44, 5] (by kernel_rfl : sel _ _ = some [(45, .v (.tuple #[.float .f64 (nw false 1022 (z % 8388608 * 536870912)), .int .i64 (((z / 8388608 % 256 + 896 : Nat) : Int) - 1022)])), (44, .v (.float .f64 (nw false (z / 8388608 % 256 + 896) (z % 8388608 * 536870912)))), (5, .v (.int .u16 32768))])
          refine part_ tab [2, 3, 4, 5, 6] [] (by rfl) (k := 0) (hs := []) (sy := []) (ks := [7, 6, 5]) (bs := []) (gs := [])
              (L' := [(7, .v (.int .i64 (((z / 8388608 % 256 + 896 : Nat) : Int) - 1022))), (6, .v (.float .f64 (nw false 1022 (z % 8388608 * 536870912)))), (5, .v (.int .u16 32768))])
              (H' := []) (G' := []) (k' := 0) hR hI (by kernel_rfl)
              .nil (fun e23 a23 w23 hag hR hI => ?_)
          refine ops_nil ?_
          refine then_n ?_
          refine wp_seq ?_
          refine reg (is := [0, 1, 2, 3, 4, 5, 6, 7, 8, 9, 10, 11]) (by kernel_rfl) ?_
          refine part_ tab [0, 1, 2, 3, 4] [5, 6, 7, 8, 9, 10, 11] (by rfl) (k := 0) (hs := [(2, .eq (.int .i64 ((z / 8388608 % 256 - 113 : Nat) : Int))), (3, .nw)]) (sy := []) (ks := [52, 51, 48]) (bs := []) (gs := [])
              (L' := [(52, .v (.float .f64 (nw false 1022 (z % 8388608 * 536870912)))), (51, .v (.int .i64 (((z / 8388608 % 256 - 113) * 1024 : Nat) : Int))), (48, .v (.int .u16 32768))])
              (H' := []) (G' := []) (k' := 0) hR hI (by kernel_rfl)
              (.cons (congrArg (Value.int .i64) (by rw [wrap_inR (inR_i64 (by omega))]; omega : IntKind.i64.wrap ((((z / 8388608 % 256 + 896 : Nat) : Int) - 1022) + (13 : Int)) = ((z / 8388608 % 256 - 113 : Nat) : Int))) (.cons (by decide : (0 : Int) ≤ 10) (.cons (by decide : (10 : Int) ≤ (IntKind.i64.bits : Int)) (.cons (inR_i64 (n := ((z / 8388608 % 256 - 113 : Nat) : Int) * 1024) (by omega)) .nil)))) (fun e24 a24 w24 hag hR hI => ?_)
          refine callOp (ys := [.v (.float .f64 (nw false 1022 (z % 8388608 * 536870912))), .v (.int .i64 11)]) hI rfl rfl ⟨_, rfl, rfl, rfl⟩ (by kernel_rfl) Try.func16 rfl rfl ?_
          refine (Ldexp_spec (C := C) (s := false) (E := 1022) (M := z % 8388608 * 536870912) (F := 1033) (k := 11) (by decide) (by decide) (by omega) (by decide) (by decide) (by decide)).mono ?_
          rintro ex w25 ⟨rfl, hk⟩
          replace hR := hR.same hk; clear hk
          refine ⟨_, rfl, ?_⟩
          replace hI := hI.put (d := some 53) (x := .v (.float .f64 (nw false 1033 (z % 8388608 * 536870912)))) (by intro t ht; cases ht; decide) rfl
          replace hI := hI.sel [53, 52, 51, 48] (by kernel_rfl : sel _ _ = some [(53, .v (.float .f64 (nw false 1033 (z % 8388608 * 536870912)))), (52, .v (.float .f64 (nw false 1022 (z % 8388608 * 536870912)))), (51, .v (.int .i64 (((z / 8388608 % 256 - 113) * 1024 : Nat) : Int))), (48, .v (.int .u16 32768))])
          refine part_ tab [6, 7, 8, 9, 10, 11] [] (by rfl) (k := 0) (hs := [(6, .val (.v (.int .i64 ((1024 + z % 8388608 * 536870912 / 4398046511104 : Nat) : Int)))), (7, .eq (.int .i64 (((z / 8388608 % 256 - 112) * 1024 + z % 8388608 / 8192 : Nat) : Int))), (8, .nw), (9, .eq (.int .u16 ((32768 + ((z / 8388608 % 256 - 112) * 1024 + z % 8388608 / 8192) : Nat) : Int)))]) (sy := []) (ks := [3, 2]) (bs := []) (gs := [])
              (L' := [(3, .v (.bool true)), (2, .v (.int .u16 ((32768 + ((z / 8388608 % 256 - 112) * 1024 + z % 8388608 / 8192) : Nat) : Int)))])
              (H' := []) (G' := []) (k' := 0) hR hI (by kernel_rfl)
              (.cons (trunc_1033 _ (by omega) : floatToIntVal .f64 (nw false 1033 (z % 8388608 * 536870912)) .i64 = some ((1024 + z % 8388608 * 536870912 / 4398046511104 : Nat) : Int)) (.cons (congrArg (Value.int .i64) (by rw [wrap_inR (inR_i64 (by omega))]; omega : IntKind.i64.wrap ((((z / 8388608 % 256 - 113) * 1024 : Nat) : Int) + ((1024 + z % 8388608 * 536870912 / 4398046511104 : Nat) : Int)) = (((z / 8388608 % 256 - 112) * 1024 + z % 8388608 / 8192 : Nat) : Int))) (.cons (inR_u16 (n := (((z / 8388608 % 256 - 112) * 1024 + z % 8388608 / 8192 : Nat) : Int)) (by omega)) (.cons (congrArg (Value.int .u16) (u16_sign1 _ (by omega) : bits .or .u16 (32768 : Int) (((z / 8388608 % 256 - 112) * 1024 + z % 8388608 / 8192 : Nat) : Int) = ((32768 + ((z / 8388608 % 256 - 112) * 1024 + z % 8388608 / 8192) : Nat) : Int))) .nil)))) (fun e26 a26 w26 hag hR hI => ?_)
          refine ops_nil ?_
          refine then_n ?_
          refine wp_ret ?_
          refine outN tab (xs := [.v (.int .u16 ((32768 + ((z / 8388608 % 256 - 112) * 1024 + z % 8388608 / 8192) : Nat) : Int)), .v (.bool true)]) hR hI rfl (by kernel_rfl) ?_
          have hx_ : (((32768 + ((z / 8388608 % 256 - 112) * 1024 + z % 8388608 / 8192) : Nat) : Int) : Int) = ((newH z : Nat) : Int) := by rw [cut_norm hE1 hE2, hS]; try omega
          exact ⟨⟨_, _, rfl, fun _ => ⟨hx_, hnn⟩⟩, hB.fin hR⟩
  · skip
    replace hI := hI.re 13 (.v (.bool false)) rfl (congrArg Value.bool hc10)
    have hs1 := of_decide_eq_false hc10
    refine wp_skip ?_
    refine then_n ?_
    refine wp_seq ?_
    refine wp_block ?_
    refine reg_seq tab (k := 0) (hs := [(9, .sym), (10, .sym), (17, .sym), (18, .sym)]) (sy := [4, 5, 6, 7, 8, 9, 12, 13, 14, 15, 16, 17]) (ks := [14, 5, 4]) (bs := []) (gs := [])
        (L' := [(14, .v (.bool (((FloatKind.f32.format.order z z != some .eq) || ((FloatKind.f64.format.order (r % 9223372036854775808) 4679235614791434240 == some .gt) && (FloatKind.f64.format.order (r % 9223372036854775808) 4679240012837945344 == some .lt))) || ((FloatKind.f64.format.order (r % 9223372036854775808) 0 == some .gt) && (FloatKind.f64.format.order (r % 9223372036854775808) 4039728865751334912 == some .lt))))), (5, .v (.int .u16 0)), (4, .v (.float .f64 (r % 9223372036854775808)))])
        (H' := []) (G' := []) (k' := 0) hR hI (by kernel_rfl)
        (.cons (rfl : (FloatKind.f32.format.order z z != some .eq) = (FloatKind.f32.format.order z z != some .eq)) (.cons (rfl : (FloatKind.f32.format.order z z != some .eq) = (FloatKind.f32.format.order z z != some .eq)) (.cons (rfl : (FloatKind.f32.format.order z z != some .eq) = (FloatKind.f32.format.order z z != some .eq)) (.cons (rfl : (((FloatKind.f32.format.order z z != some .eq) == false) && ((FloatKind.f64.format.order (r % 9223372036854775808) 4679235614791434240 == some .gt) == true)) = (((FloatKind.f32.format.order z z != some .eq) == false) && ((FloatKind.f64.format.order (r % 9223372036854775808) 4679235614791434240 == some .gt) == true))) (.cons (rfl : (FloatKind.f32.format.order z z != some .eq) = (FloatKind.f32.format.order z z != some .eq)) (.cons (rfl : (FloatKind.f32.format.order z z != some .eq) = (FloatKind.f32.format.order z z != some .eq)) (.cons (rfl : (FloatKind.f32.format.order z z != some .eq) = (FloatKind.f32.format.order z z != some .eq)) (.cons (fun (hg : ((FloatKind.f32.format.order z z != some .eq) == false) = true) => (by skip; first | exact Bool.beq_true _ | exact Bool.beq_false _ | rfl | (rw [hg]; exact bft _) | (rw [hg]; exact bft2 _) | simp_all : ((((FloatKind.f32.format.order z z != some .eq) == false) && ((FloatKind.f64.format.order (r % 9223372036854775808) 4679235614791434240 == some .gt) == true)) == true) = (FloatKind.f64.format.order (r % 9223372036854775808) 4679235614791434240 == some .gt))) (.cons (by first | exact Bool.beq_true _ | exact Bool.beq_false _ | rfl | (rw [hg]; exact bft _) | (rw [hg]; exact bft2 _) | simp_all : ((FloatKind.f32.format.order z z != some .eq) == false) = !(FloatKind.f32.format.order z z != some .eq)) (.cons (rfl : ((FloatKind.f32.format.order z z != some .eq) || ((FloatKind.f64.format.order (r % 9223372036854775808) 4679235614791434240 == some .gt) && (FloatKind.f64.format.order (r % 9223372036854775808) 4679240012837945344 == some .lt))) = ((FloatKind.f32.format.order z z != some .eq) || ((FloatKind.f64.format.order (r % 9223372036854775808) 4679235614791434240 == some .gt) && (FloatKind.f64.format.order (r % 9223372036854775808) 4679240012837945344 == some .lt)))) (.cons (rfl : ((FloatKind.f32.format.order z z != some .eq) || ((FloatKind.f64.format.order (r % 9223372036854775808) 4679235614791434240 == some .gt) && (FloatKind.f64.format.order (r % 9223372036854775808) 4679240012837945344 == some .lt))) = ((FloatKind.f32.format.order z z != some .eq) || ((FloatKind.f64.format.order (r % 9223372036854775808) 4679235614791434240 == some .gt) && (FloatKind.f64.format.order (r % 9223372036854775808) 4679240012837945344 == some .lt)))) (.cons (rfl : ((FloatKind.f32.format.order z z != some .eq) || ((FloatKind.f64.format.order (r % 9223372036854775808) 4679235614791434240 == some .gt) && (FloatKind.f64.format.order (r % 9223372036854775808) 4679240012837945344 == some .lt))) = ((FloatKind.f32.format.order z z != some .eq) || ((FloatKind.f64.format.order (r % 9223372036854775808) 4679235614791434240 == some .gt) && (FloatKind.f64.format.order (r % 9223372036854775808) 4679240012837945344 == some .lt)))) (.cons (rfl : ((((FloatKind.f32.format.order z z != some .eq) || ((FloatKind.f64.format.order (r % 9223372036854775808) 4679235614791434240 == some .gt) && (FloatKind.f64.format.order (r % 9223372036854775808) 4679240012837945344 == some .lt))) == false) && ((FloatKind.f64.format.order (r % 9223372036854775808) 0 == some .gt) == true)) = ((((FloatKind.f32.format.order z z != some .eq) || ((FloatKind.f64.format.order (r % 9223372036854775808) 4679235614791434240 == some .gt) && (FloatKind.f64.format.order (r % 9223372036854775808) 4679240012837945344 == some .lt))) == false) && ((FloatKind.f64.format.order (r % 9223372036854775808) 0 == some .gt) == true))) (.cons (rfl : ((FloatKind.f32.format.order z z != some .eq) || ((FloatKind.f64.format.order (r % 9223372036854775808) 4679235614791434240 == some .gt) && (FloatKind.f64.format.order (r % 9223372036854775808) 4679240012837945344 == some .lt))) = ((FloatKind.f32.format.order z z != some .eq) || ((FloatKind.f64.format.order (r % 9223372036854775808) 4679235614791434240 == some .gt) && (FloatKind.f64.format.order (r % 9223372036854775808) 4679240012837945344 == some .lt)))) (.cons (rfl : ((FloatKind.f32.format.order z z != some .eq) || ((FloatKind.f64.format.order (r % 9223372036854775808) 4679235614791434240 == some .gt) && (FloatKind.f64.format.order (r % 9223372036854775808) 4679240012837945344 == some .lt))) = ((FloatKind.f32.format.order z z != some .eq) || ((FloatKind.f64.format.order (r % 9223372036854775808) 4679235614791434240 == some .gt) && (FloatKind.f64.format.order (r % 9223372036854775808) 4679240012837945344 == some .lt)))) (.cons (rfl : ((FloatKind.f32.format.order z z != some .eq) || ((FloatKind.f64.format.order (r % 9223372036854775808) 4679235614791434240 == some .gt) && (FloatKind.f64.format.order (r % 9223372036854775808) 4679240012837945344 == some .lt))) = ((FloatKind.f32.format.order z z != some .eq) || ((FloatKind.f64.format.order (r % 9223372036854775808) 4679235614791434240 == some .gt) && (FloatKind.f64.format.order (r % 9223372036854775808) 4679240012837945344 == some .lt)))) (.cons (fun (hg : (((FloatKind.f32.format.order z z != some .eq) || ((FloatKind.f64.format.order (r % 9223372036854775808) 4679235614791434240 == some .gt) && (FloatKind.f64.format.order (r % 9223372036854775808) 4679240012837945344 == some .lt))) == false) = true) => (by skip; first | exact Bool.beq_true _ | exact Bool.beq_false _ | rfl | (rw [hg]; exact bft _) | (rw [hg]; exact bft2 _) | simp_all : (((((FloatKind.f32.format.order z z != some .eq) || ((FloatKind.f64.format.order (r % 9223372036854775808) 4679235614791434240 == some .gt) && (FloatKind.f64.format.order (r % 9223372036854775808) 4679240012837945344 == some .lt))) == false) && ((FloatKind.f64.format.order (r % 9223372036854775808) 0 == some .gt) == true)) == true) = (FloatKind.f64.format.order (r % 9223372036854775808) 0 == some .gt))) (.cons (by first | exact Bool.beq_true _ | exact Bool.beq_false _ | rfl | (rw [hg]; exact bft _) | (rw [hg]; exact bft2 _) | simp_all : (((FloatKind.f32.format.order z z != some .eq) || ((FloatKind.f64.format.order (r % 9223372036854775808) 4679235614791434240 == some .gt) && (FloatKind.f64.format.order (r % 9223372036854775808) 4679240012837945344 == some .lt))) == false) = !((FloatKind.f32.format.order z z != some .eq) || ((FloatKind.f64.format.order (r % 9223372036854775808) 4679235614791434240 == some .gt) && (FloatKind.f64.format.order (r % 9223372036854775808) 4679240012837945344 == some .lt)))) .nil)))))))))))))))))) (fun e27 a27 w27 hag hR hI => ?_)
    refine cnd (b := (((FloatKind.f32.format.order z z != some .eq) || ((FloatKind.f64.format.order (r % 9223372036854775808) 4679235614791434240 == some .gt) && (FloatKind.f64.format.order (r % 9223372036854775808) 4679240012837945344 == some .lt))) || ((FloatKind.f64.format.order (r % 9223372036854775808) 0 == some .gt) && (FloatKind.f64.format.order (r % 9223372036854775808) 4039728865751334912 == some .lt)))) hI (by kernel_rfl) (fun hc28 => ?_) (fun hc28 => ?_)
    · skip
      replace hI := hI.re 14 (.v (.bool true)) rfl (congrArg Value.bool hc28)
      refine reg_seq tab (k := 0) (hs := []) (sy := []) (ks := [3, 2]) (bs := []) (gs := [])
          (L' := [(3, .v (.bool false)), (2, .v (.int .u16 0))])
          (H' := []) (G' := []) (k' := 0) hR hI (by kernel_rfl)
          .nil (fun e29 a29 w29 hag hR hI => ?_)
      refine wp_ret ?_
      refine ret_block ?_
      refine ret_then ?_
      refine outN tab (xs := [.v (.int .u16 0), .v (.bool false)]) hR hI rfl (by kernel_rfl) ?_
      exact ⟨⟨_, _, rfl, fun h => Bool.noConfusion h⟩, hB.fin hR⟩
    · skip
      replace hI := hI.re 14 (.v (.bool false)) rfl (congrArg Value.bool hc28)
      have hfirst := hc28
      rw [Bool.or_eq_false_iff, Bool.or_eq_false_iff] at hfirst
      obtain ⟨⟨hnn, _⟩, hsub⟩ := hfirst
      obtain ⟨hsg_, _⟩ := cut_sign hz hr2 hnn
      have hS : z / 2147483648 % 2 = 0 := by omega
      refine reg_seq tab (k := 0) (hs := []) (sy := []) (ks := [34, 5, 4]) (bs := []) (gs := [])
          (L' := [(34, .v (.bool (FloatKind.f64.format.order (r % 9223372036854775808) 4679240012837945344 == some .gt || FloatKind.f64.format.order (r % 9223372036854775808) 4679240012837945344 == some .eq))), (5, .v (.int .u16 0)), (4, .v (.float .f64 (r % 9223372036854775808)))])
          (H' := []) (G' := []) (k' := 0) hR hI (by kernel_rfl)
          .nil (fun e30 a30 w30 hag hR hI => ?_)
      refine cnd (b := (FloatKind.f64.format.order (r % 9223372036854775808) 4679240012837945344 == some .gt || FloatKind.f64.format.order (r % 9223372036854775808) 4679240012837945344 == some .eq)) hI (by kernel_rfl) (fun hc31 => ?_) (fun hc31 => ?_)
      · skip
        replace hI := hI.re 34 (.v (.bool true)) rfl (congrArg Value.bool hc31)
        have hge_ := hc31
        refine reg_seq tab (k := 0) (hs := []) (sy := []) (ks := [3, 2]) (bs := []) (gs := [])
            (L' := [(3, .v (.bool true)), (2, .v (.int .u16 (bits .or .u16 (0 : Int) (31744 : Int))))])
            (H' := []) (G' := []) (k' := 0) hR hI (by kernel_rfl)
            .nil (fun e32 a32 w32 hag hR hI => ?_)
        refine wp_ret ?_
        refine ret_block ?_
        refine ret_then ?_
        refine outN tab (xs := [.v (.int .u16 (bits .or .u16 (0 : Int) (31744 : Int))), .v (.bool true)]) hR hI rfl (by kernel_rfl) ?_
        have hx_ : (bits .or .u16 (0 : Int) (31744 : Int) : Int) = ((newH z : Nat) : Int) := by rw [cut_big hz hr hnn hge_, hS]; decide
        exact ⟨⟨_, _, rfl, fun _ => ⟨hx_, hnn⟩⟩, hB.fin hR⟩
      · skip
        replace hI := hI.re 34 (.v (.bool false)) rfl (congrArg Value.bool hc31)
        have hge_ := hc31
        refine reg_seq tab (k := 0) (hs := []) (sy := []) (ks := [39, 5, 4]) (bs := []) (gs := [])
            (L' := [(39, .v (.bool (FloatKind.f64.format.order (r % 9223372036854775808) 4544132024016830464 == some .lt))), (5, .v (.int .u16 0)), (4, .v (.float .f64 (r % 9223372036854775808)))])
            (H' := []) (G' := []) (k' := 0) hR hI (by kernel_rfl)
            .nil (fun e33 a33 w33 hag hR hI => ?_)
        refine cnd (b := (FloatKind.f64.format.order (r % 9223372036854775808) 4544132024016830464 == some .lt)) hI (by kernel_rfl) (fun hc34 => ?_) (fun hc34 => ?_)
        · skip
          replace hI := hI.re 39 (.v (.bool true)) rfl (congrArg Value.bool hc34)
          have hlt_ := hc34
          refine reg_seq tab (k := 0) (hs := []) (sy := []) (ks := [3, 2]) (bs := []) (gs := [])
              (L' := [(3, .v (.bool true)), (2, .v (.int .u16 0))])
              (H' := []) (G' := []) (k' := 0) hR hI (by kernel_rfl)
              .nil (fun e35 a35 w35 hag hR hI => ?_)
          refine wp_ret ?_
          refine ret_block ?_
          refine ret_then ?_
          refine outN tab (xs := [.v (.int .u16 0), .v (.bool true)]) hR hI rfl (by kernel_rfl) ?_
          have hx_ : (0 : Int) = ((newH z : Nat) : Int) := by rw [cut_small hz hr hnn hlt_ hsub, hS]; decide
          exact ⟨⟨_, _, rfl, fun _ => ⟨hx_, hnn⟩⟩, hB.fin hR⟩
        · skip
          replace hI := hI.re 39 (.v (.bool false)) rfl (congrArg Value.bool hc34)
          have hlt_ := hc34
          obtain ⟨hE1, hE2, hre⟩ := cut_normal hz hr hge_ hlt_ hnn
          replace hI := hI.re 4 (.v (.float .f64 (nw false (z / 8388608 % 256 + 896) (z % 8388608 * 536870912)))) rfl (congrArg (Value.float .f64) ((by rw [hre]; exact nw_mod _ _ _ (by omega) (by omega))))
          refine wp_skip ?_
          refine normal_block ?_
          refine then_n ?_
          refine wp_seq ?_
          refine reg (is := [0, 1, 2, 3, 4, 5, 6]) (by kernel_rfl) ?_
          refine part_ tab [0] [1, 2, 3, 4, 5, 6] (by rfl) (k := 0) (hs := []) (sy := []) (ks := [44, 5]) (bs := []) (gs := [])
              (L' := [(44, .v (.float .f64 (nw false (z / 8388608 % 256 + 896) (z % 8388608 * 536870912)))), (5, .v (.int .u16 0))])
              (H' := []) (G' := []) (k' := 0) hR hI (by kernel_rfl)
              .nil (fun e36 a36 w36 hag hR hI => ?_)
          refine callOp (ys := [.v (.float .f64 (nw false (z / 8388608 % 256 + 896) (z % 8388608 * 536870912)))]) hI rfl rfl ⟨_, rfl, rfl, rfl⟩ (by kernel_rfl) Try.func34 rfl rfl ?_
          refine (Frexp_spec (C := C) (s := false) (E := z / 8388608 % 256 + 896) (M := z % 8388608 * 536870912) (by omega) (by omega) (by omega)).mono ?_
          rintro ex w37 ⟨rfl, hk⟩
          replace hR := hR.same hk; clear hk
          refine ⟨_, rfl, ?_⟩
          replace hI := hI.put (d := some 45) (x := .v (.tuple #[.float .f64 (nw false 1022 (z % 8388608 * 536870912)), .int .i64 (((z / 8388608 % 256 + 896 : Nat) : Int) - 1022)])) (by intro t ht; cases ht; decide) rfl
          replace hI := hI.sel [45, 44, 5] (by kernel_rfl : sel _ _ = some [(45, .v (.tuple #[.float .f64 (nw false 1022 (z % 8388608 * 536870912)), .int .i64 (((z / 8388608 % 256 + 896 : Nat) : Int) - 1022)])), (44, .v (.float .f64 (nw false (z / 8388608 % 256 + 896) (z % 8388608 * 536870912)))), (5, .v (.int .u16 0))])
          refine part_ tab [2, 3, 4, 5, 6] [] (by rfl) (k := 0) (hs := []) (sy := []) (ks := [7, 6, 5]) (bs := []) (gs := [])
              (L' := [(7, .v (.int .i64 (((z / 8388608 % 256 + 896 : Nat) : Int) - 1022))), (6, .v (.float .f64 (nw false 1022 (z % 8388608 * 536870912)))), (5, .v (.int .u16 0))])
              (H' := []) (G' := []) (k' := 0) hR hI (by kernel_rfl)
              .nil (fun e38 a38 w38 hag hR hI => ?_)
          refine ops_nil ?_
          refine then_n ?_
          refine wp_seq ?_
          refine reg (is := [0, 1, 2, 3, 4, 5, 6, 7, 8, 9, 10, 11]) (by kernel_rfl) ?_
          refine part_ tab [0, 1, 2, 3, 4] [5, 6, 7, 8, 9, 10, 11] (by rfl) (k := 0) (hs := [(2, .eq (.int .i64 ((z / 8388608 % 256 - 113 : Nat) : Int))), (3, .nw)]) (sy := []) (ks := [52, 51, 48]) (bs := []) (gs := [])
              (L' := [(52, .v (.float .f64 (nw false 1022 (z % 8388608 * 536870912)))), (51, .v (.int .i64 (((z / 8388608 % 256 - 113) * 1024 : Nat) : Int))), (48, .v (.int .u16 0))])
              (H' := []) (G' := []) (k' := 0) hR hI (by kernel_rfl)
              (.cons (congrArg (Value.int .i64) (by rw [wrap_inR (inR_i64 (by omega))]; omega : IntKind.i64.wrap ((((z / 8388608 % 256 + 896 : Nat) : Int) - 1022) + (13 : Int)) = ((z / 8388608 % 256 - 113 : Nat) : Int))) (.cons (by decide : (0 : Int) ≤ 10) (.cons (by decide : (10 : Int) ≤ (IntKind.i64.bits : Int)) (.cons (inR_i64 (n := ((z / 8388608 % 256 - 113 : Nat) : Int) * 1024) (by omega)) .nil)))) (fun e39 a39 w39 hag hR hI => ?_)
          refine callOp (ys := [.v (.float .f64 (nw false 1022 (z % 8388608 * 536870912))), .v (.int .i64 11)]) hI rfl rfl ⟨_, rfl, rfl, rfl⟩ (by kernel_rfl) Try.func16 rfl rfl ?_
          refine (Ldexp_spec (C := C) (s := false) (E := 1022) (M := z % 8388608 * 536870912) (F := 1033) (k := 11) (by decide) (by decide) (by omega) (by decide) (by decide) (by decide)).mono ?_
          rintro ex w40 ⟨rfl, hk⟩
          replace hR := hR.same hk; clear hk
          refine ⟨_, rfl, ?_⟩
          replace hI := hI.put (d := some 53) (x := .v (.float .f64 (nw false 1033 (z % 8388608 * 536870912)))) (by intro t ht; cases ht; decide) rfl
          replace hI := hI.sel [53, 52, 51, 48] (by kernel_rfl : sel _ _ = some [(53, .v (.float .f64 (nw false 1033 (z % 8388608 * 536870912)))), (52, .v (.float .f64 (nw false 1022 (z % 8388608 * 536870912)))), (51, .v (.int .i64 (((z / 8388608 % 256 - 113) * 1024 : Nat) : Int))), (48, .v (.int .u16 0))])
          refine part_ tab [6, 7, 8, 9, 10, 11] [] (by rfl) (k := 0) (hs := [(6, .val (.v (.int .i64 ((1024 + z % 8388608 * 536870912 / 4398046511104 : Nat) : Int)))), (7, .eq (.int .i64 (((z / 8388608 % 256 - 112) * 1024 + z % 8388608 / 8192 : Nat) : Int))), (8, .nw), (9, .eq (.int .u16 (((z / 8388608 % 256 - 112) * 1024 + z % 8388608 / 8192 : Nat) : Int)))]) (sy := []) (ks := [3, 2]) (bs := []) (gs := [])
              (L' := [(3, .v (.bool true)), (2, .v (.int .u16 (((z / 8388608 % 256 - 112) * 1024 + z % 8388608 / 8192 : Nat) : Int)))])
              (H' := []) (G' := []) (k' := 0) hR hI (by kernel_rfl)
              (.cons (trunc_1033 _ (by omega) : floatToIntVal .f64 (nw false 1033 (z % 8388608 * 536870912)) .i64 = some ((1024 + z % 8388608 * 536870912 / 4398046511104 : Nat) : Int)) (.cons (congrArg (Value.int .i64) (by rw [wrap_inR (inR_i64 (by omega))]; omega : IntKind.i64.wrap ((((z / 8388608 % 256 - 113) * 1024 : Nat) : Int) + ((1024 + z % 8388608 * 536870912 / 4398046511104 : Nat) : Int)) = (((z / 8388608 % 256 - 112) * 1024 + z % 8388608 / 8192 : Nat) : Int))) (.cons (inR_u16 (n := (((z / 8388608 % 256 - 112) * 1024 + z % 8388608 / 8192 : Nat) : Int)) (by omega)) (.cons (congrArg (Value.int .u16) (u16_sign0 _ (by omega) : bits .or .u16 (0 : Int) (((z / 8388608 % 256 - 112) * 1024 + z % 8388608 / 8192 : Nat) : Int) = (((z / 8388608 % 256 - 112) * 1024 + z % 8388608 / 8192 : Nat) : Int))) .nil)))) (fun e41 a41 w41 hag hR hI => ?_)
          refine ops_nil ?_
          refine then_n ?_
          refine wp_ret ?_
          refine outN tab (xs := [.v (.int .u16 (((z / 8388608 % 256 - 112) * 1024 + z % 8388608 / 8192 : Nat) : Int)), .v (.bool true)]) hR hI rfl (by kernel_rfl) ?_
          have hx_ : ((((z / 8388608 % 256 - 112) * 1024 + z % 8388608 / 8192 : Nat) : Int) : Int) = ((newH z : Nat) : Int) := by rw [cut_norm hE1 hE2, hS]; try omega
          exact ⟨⟨_, _, rfl, fun _ => ⟨hx_, hnn⟩⟩, hB.fin hR⟩

end Go.Proofs.Ytahbgcjcfbjbmaa.Stride
