/- The plain arithmetic behind FnSizes: powers of two above a number, bits masked off; no program. -/
import Derived.Lib.BitFns
import Derived.Lib.ItoaNum
import Derived.WalkKit
namespace Go.Proofs.Yticieelobdfloaa.SizesPlain
open Go.RowKit

/-- The number of binary digits of n from 1 to 2^40. -/
theorem len_facts (n : Int) (h1 : 1 ≤ n) (h2 : n ≤ 1099511627776) :
    1 ≤ Lib.bitLen n.toNat ∧ Lib.bitLen n.toNat ≤ 41 ∧ (2 : Int) ^ (Lib.bitLen n.toNat - 1) ≤ n ∧ n < (2 : Int) ^ Lib.bitLen n.toNat := by
  have hb := Lib.bitLenAux_bounds 64 n.toNat (by omega) (by omega)
  have hl : Lib.bitLen n.toNat ≤ 41 := Lib.bitLen_le n.toNat 41 (by omega) (by omega)
  obtain ⟨b1, b2, b3⟩ := hb
  refine ⟨b1, hl, ?_, ?_⟩
  · have : ((2 ^ (Lib.bitLen n.toNat - 1) : Nat) : Int) ≤ (n.toNat : Int) := by exact_mod_cast b2
    have e : (n.toNat : Int) = n := by omega
    rw [e] at this
    exact_mod_cast this
  · have : (n.toNat : Int) < ((2 ^ Lib.bitLen n.toNat : Nat) : Int) := by exact_mod_cast b3
    have e : (n.toNat : Int) = n := by omega
    rw [e] at this
    exact_mod_cast this

set_option maxRecDepth 100000 in
theorem tab_size : (Lib.len8tab.size : Int) = 256 := by
  have : Lib.len8tab.size = 256 := by decide
  omega

theorem wrap_pow (k : Nat) (h : k ≤ 41) : wrap64 ((2 : Int) ^ k) = 2 ^ k := by
  have h1 : (2 : Nat) ^ k ≤ 2 ^ 41 := Nat.pow_le_pow_right (by decide) h
  have h0 : (0 : Int) < 2 ^ k := Int.pow_pos (by decide)
  have e : (2 : Int) ^ k = ((2 ^ k : Nat) : Int) := by simp
  rw [e] at h0 ⊢
  unfold wrap64
  omega

theorem wraps_i64 (n : Int) (h₀ : 0 ≤ n) (h₁ : n < 2 ^ 63) : IntKind.i64.wrap n = n := by rw [IntKind.wrap_i64]; omega

theorem mask (n : Int) (h1 : 1 ≤ n) (h2 : n ≤ 1099511627776) (i : Nat) (hi : i ≤ 63) : bits .and .i64 n (2 ^ i - 1) = n % 2 ^ i :=
  bits_mask .i64 63 (by decide) wraps_i64 i hi n (by omega) (by omega)

theorem mask8 (n : Int) (h1 : 1 ≤ n) (h2 : n ≤ 1099511627776) : (bits .and .i64 n 7 == 0) = (n % 8 == 0) := by
  have := mask n h1 h2 3 (by decide)
  rw [show (2 : Int) ^ 3 - 1 = 7 by decide, show (2 : Int) ^ 3 = 8 by decide] at this
  rw [this]

theorem mask64 (n : Int) (h1 : 1 ≤ n) (h2 : n ≤ 1099511627776) : (bits .and .i64 n 63 == 0) = (n % 64 == 0) := by
  have := mask n h1 h2 6 (by decide)
  rw [show (2 : Int) ^ 6 - 1 = 63 by decide, show (2 : Int) ^ 6 = 64 by decide] at this
  rw [this]

theorem seven (i : Nat) : (7#64).getLsbD i = decide (i < 3) := by
  by_cases h : i < 64
  · have : ∀ j : Fin 64, (7#64).getLsbD j.val = decide (j.val < 3) := by decide
    exact this ⟨i, h⟩
  · rw [BitVec.getLsbD_of_ge _ _ (by omega)]
    simp; omega

theorem andNot7 (X : Nat) (h : X < 2 ^ 64) : (BitVec.ofNat 64 X &&& ~~~ 7#64).toNat = X / 8 * 8 := by
  have e : X / 8 * 8 = (X >>> 3) <<< 3 := by
    rw [Nat.shiftLeft_eq, Nat.shiftRight_eq_div_pow]
  rw [e]
  apply Nat.eq_of_testBit_eq
  intro i
  rw [BitVec.testBit_toNat, BitVec.getLsbD_and, BitVec.getLsbD_not, seven, BitVec.getLsbD_ofNat, Nat.testBit_shiftLeft, Nat.testBit_shiftRight]
  by_cases h3 : i < 3
  · simp [h3, show ¬ 3 ≤ i by omega]
  · have e2 : 3 + (i - 3) = i := by omega
    by_cases h64 : i < 64
    · simp [h3, h64, e2, show 3 ≤ i by omega]
    · have : X.testBit i = false := Nat.testBit_lt_two_pow (Nat.lt_of_lt_of_le h (Nat.pow_le_pow_right (by decide) (by omega)))
      simp [h3, h64, e2, this]

/-- The low three bits are struck. -/
theorem ceil_bits (n : Int) (h1 : 1 ≤ n) (h2 : n ≤ 1099511627776) : bits .andNot .i64 (n + 7) 7 = (n + 7) / 8 * 8 := by
  obtain ⟨X, hX⟩ := Int.eq_ofNat_of_zero_le (show 0 ≤ n + 7 by omega)
  have hlt : X < 2 ^ 63 := by omega
  rw [hX]
  show IntKind.i64.wrap ((BitVec.ofInt 64 (X : Int) &&& ~~~ BitVec.ofInt 64 (7 : Int)).toNat : Int) = _
  rw [BitVec.ofInt_natCast, show BitVec.ofInt 64 (7 : Int) = 7#64 by decide, andNot7 X (by omega), wraps_i64 _ (by omega) (by omega)]
  omega

/-- A byte of the table of lengths. -/
theorem tab_get (y : Int) (h0 : 0 ≤ y) (h1 : y ≤ 255) (h : y.toNat < Lib.len8tab.size) : ((Lib.len8tab[y.toNat]'h).toNat : Int) = (Lib.bitLen y.toNat : Int) := by
  rw [← Lib.len8_of y h0 h1]
  unfold Lib.len8
  rw [getElem?_pos Lib.len8tab y.toNat h]
  rfl

theorem wrap_add (k a b : Nat) (hk : k ≤ 56) (ha : a ≤ 8) (hb : b = k + a) : wrap64 ((k : Int) + wrap64 (a : Int)) = (b : Int) := by
  unfold wrap64
  omega
theorem wrap_wrap (a : Nat) (ha : a ≤ 8) : wrap64 (wrap64 (a : Int)) = (a : Int) := by
  unfold wrap64
  omega

theorem way (x y : Int) (k n : Nat) (hk : k ≤ 56) (hn : y.toNat = n) (h0 : 0 ≤ y) (h1 : y ≤ 255) (hb : Lib.bitLen x.toNat = k + Lib.bitLen n) (h : y.toNat < Lib.len8tab.size) :
    wrap64 ((k : Int) + wrap64 ((Lib.len8tab[y.toNat]'h).toNat : Int)) = (Lib.bitLen x.toNat : Int) := by
  have l := Lib.bitLen_le8' y h0 h1
  rw [tab_get y h0 h1 h, hn] at *
  exact wrap_add k _ _ hk l hb

/-- p is a power of two up to P, the least one above n. -/
structure Pw (n P p : Int) : Prop where mk :: (out : ∃ j L : Nat, P = 2 ^ L ∧ 1 ≤ L ∧ (2 : Int) ^ (L - 1) ≤ n ∧ j ≤ L ∧ p = 2 ^ j)

theorem Pw.start (n P : Int) (L : Nat) (hP : P = 2 ^ L) (h1 : 1 ≤ L) (h2 : (2 : Int) ^ (L - 1) ≤ n) : Pw n P 1 := ⟨0, L, hP, h1, h2, by omega, by simp⟩
theorem Pw.le {n P p : Int} (h : Pw n P p) (hne : p ≠ P) : p ≤ n ∧ 1 ≤ p ∧ Pw n P (p * 2) := by
  obtain ⟨j, L, hP, h1, h2, hj, hp⟩ := h
  have hlt : j ≤ L - 1 := by
    rcases Nat.lt_or_ge j L with h | h
    · omega
    · have : j = L := by omega
      subst this
      exact absurd (hp.trans hP.symm) hne
  have hle : (2 : Nat) ^ j ≤ 2 ^ (L - 1) := Nat.pow_le_pow_right (by decide) hlt
  have hle' : (2 : Int) ^ j ≤ 2 ^ (L - 1) := by exact_mod_cast hle
  have h0 : (0 : Int) < 2 ^ j := Int.pow_pos (by decide)
  exact ⟨by omega, by omega, ⟨j + 1, L, hP, h1, h2, by omega, by rw [hp, Int.pow_succ]⟩⟩

end Go.Proofs.Yticieelobdfloaa.SizesPlain
