/- Bytes as rows of bits: what 'and', 'or', 'and not' and a store make of them. No program. -/
import Derived.Laws.BitsAllLaws
import Derived.Test.YticieelobdfloaaDoorWMore
namespace Go.Proofs.YticieelobdfloaaDoor.BitLists
open Go Go.RowKit Go.Proofs.YticieelobdfloaaDoorW.PrintWords Go.Proofs.YticieelobdfloaaDoorW.PrintLast Go.Proofs.YticieelobdfloaaDoorW.PrintMore

/-- Bit r of a byte. -/
def bt1 (x : Int) (r : Nat) : Bool := x.toNat.testBit r
def Byte (x : Int) : Prop := 0 ≤ x ∧ x < 256

theorem or_byte {a b : Int} (ha : Byte a) (hb : Byte b) : Byte (bits .or .u8 a b) ∧ ∀ r, bt1 (bits .or .u8 a b) r = (bt1 a r || bt1 b r) := by
  rw [u8_or a b ha.1 ha.2 hb.1 hb.2]
  have h1 : a.toNat < 2 ^ 8 := by have := ha.1; have := ha.2; omega
  have h2 : b.toNat < 2 ^ 8 := by have := hb.1; have := hb.2; omega
  have h3 := Nat.or_lt_two_pow h1 h2
  refine ⟨⟨by omega, by omega⟩, fun r => ?_⟩
  simp [bt1]
theorem and_byte {a b : Int} (ha : Byte a) (hb : Byte b) : Byte (bits .and .u8 a b) ∧ ∀ r, bt1 (bits .and .u8 a b) r = (bt1 a r && bt1 b r) := by
  rw [u8_and a b ha.1 ha.2 hb.1 hb.2]
  have h1 : a.toNat < 2 ^ 8 := by have := ha.1; have := ha.2; omega
  have h3 : a.toNat &&& b.toNat ≤ a.toNat := Nat.and_le_left
  refine ⟨⟨by omega, by omega⟩, fun r => ?_⟩
  simp [bt1]
theorem not_fin : ∀ b : Fin 256, ∀ r : Fin 8, (255 - b.val).testBit r.val = !(b.val.testBit r.val) := by decide +kernel
theorem andNot_byte {a b : Int} (ha : Byte a) (hb : Byte b) : Byte (bits .andNot .u8 a b) ∧ ∀ r, r < 8 → bt1 (bits .andNot .u8 a b) r = (bt1 a r && !bt1 b r) := by
  rw [u8_andNot a b ha.1 ha.2 hb.1 hb.2]
  have h1 : a.toNat < 2 ^ 8 := by have := ha.1; have := ha.2; omega
  have h2 : b.toNat < 256 := by have := hb.1; have := hb.2; omega
  have h3 : a.toNat &&& (255 - b.toNat) ≤ a.toNat := Nat.and_le_left
  refine ⟨⟨by omega, by omega⟩, fun r hr => ?_⟩
  have := not_fin ⟨b.toNat, h2⟩ ⟨r, hr⟩
  simp only at this
  simp [bt1, this]
theorem shl_fin : ∀ R : Fin 8, ∀ r : Fin 8, (0 ≤ shl .u8 1 (R.val : Int) ∧ shl .u8 1 (R.val : Int) < 256) ∧ bt1 (shl .u8 1 (R.val : Int)) r.val = decide (r.val = R.val) := by decide +kernel
theorem shl_byte {R : Nat} (hR : R < 8) : Byte (shl .u8 1 (R : Int)) ∧ ∀ r, r < 8 → bt1 (shl .u8 1 (R : Int)) r = decide (r = R) :=
  ⟨(shl_fin ⟨R, hR⟩ ⟨0, by decide⟩).1, fun r hr => (shl_fin ⟨R, hR⟩ ⟨r, hr⟩).2⟩
theorem byte_ext {a b : Int} (ha : Byte a) (hb : Byte b) (h : ∀ r, r < 8 → bt1 a r = bt1 b r) : a = b := by
  have h1 : a.toNat < 2 ^ 8 := by have := ha.1; have := ha.2; omega
  have h2 : b.toNat < 2 ^ 8 := by have := hb.1; have := hb.2; omega
  have : a.toNat = b.toNat := by
    apply Nat.eq_of_testBit_eq
    intro i
    by_cases hi : i < 8
    · exact h i hi
    · rw [Nat.testBit_lt_two_pow (Nat.lt_of_lt_of_le h1 (Nat.pow_le_pow_right (by decide) (by omega))), Nat.testBit_lt_two_pow (Nat.lt_of_lt_of_le h2 (Nat.pow_le_pow_right (by decide) (by omega)))]
  have := ha.1; have := hb.1; omega

/-- Bit j of a row of bytes. -/
def tb (l : List Int) (j : Nat) : Bool := bt1 (l.getD (j / 8) 0) (j % 8)
def By (l : List Int) : Prop := ∀ x ∈ l, Byte x

theorem By.get {l : List Int} (h : By l) (q : Nat) : Byte (l.getD q 0) := by
  by_cases hq : q < l.length
  · rw [List.getD_eq_getElem?_getD, List.getElem?_eq_getElem hq]
    exact h _ (by simp)
  · rw [List.getD_eq_getElem?_getD, List.getElem?_eq_none (by omega)]
    exact ⟨by decide, by decide⟩
theorem By.set {l : List Int} (h : By l) (q : Nat) {x : Int} (hx : Byte x) : By (l.set q x) := fun y hy => by
  rcases List.mem_or_eq_of_mem_set hy with h1 | rfl
  · exact h y h1
  · exact hx
theorem getD_set (l : List Int) (q p : Nat) (x : Int) (hq : q < l.length) : (l.set q x).getD p 0 = if p = q then x else l.getD p 0 := by
  rw [List.getD_eq_getElem?_getD, List.getElem?_set]
  by_cases h : q = p
  · subst h; simp [hq]
  · simp [h, Ne.symm h, List.getD_eq_getElem?_getD]
theorem tb_set (l : List Int) (q j : Nat) (x : Int) (hq : q < l.length) : tb (l.set q x) j = if j / 8 = q then bt1 x (j % 8) else tb l j := by
  unfold tb
  rw [getD_set l q (j / 8) x hq]
  split <;> rfl
theorem ext {l m : List Int} (hl : By l) (hm : By m) (h : l.length = m.length) (hb : ∀ j, j < 8 * l.length → tb l j = tb m j) : l = m := by
  apply List.ext_getElem h
  intro q h1 h2
  have e1 : l.getD q 0 = l[q] := by rw [List.getD_eq_getElem?_getD, List.getElem?_eq_getElem h1]; rfl
  have e2 : m.getD q 0 = m[q] := by rw [List.getD_eq_getElem?_getD, List.getElem?_eq_getElem h2]; rfl
  rw [← e1, ← e2]
  refine byte_ext (hl.get q) (hm.get q) fun r hr => ?_
  have := hb (8 * q + r) (by omega)
  unfold tb at this
  rw [show (8 * q + r) / 8 = q by omega, show (8 * q + r) % 8 = r by omega] at this
  exact this

/-- 'l[q] &= m; l[q] |= f &^ m': the bits of m stay, the others become f's. -/
theorem merge {l : List Int} (hl : By l) {q : Nat} (hq : q < l.length) {m f : Int} (hm : Byte m) (hf : Byte f) {l1 l2 : List Int} (h1 : l1 = l.set q (bits .and .u8 (l.getD q 0) m)) (h2 : l2 = l1.set q (bits .or .u8 (l1.getD q 0) (bits .andNot .u8 f m))) :
    By l2 ∧ l2.length = l.length ∧ ∀ j, tb l2 j = if j / 8 = q then (if bt1 m (j % 8) then tb l j else bt1 f (j % 8)) else tb l j := by
  have a1 := and_byte (hl.get q) hm
  have a2 := andNot_byte hf hm
  have b1 : By l1 := by rw [h1]; exact hl.set q a1.1
  have e1 : l1.length = l.length := by rw [h1, List.length_set]
  have g1 : l1.getD q 0 = bits .and .u8 (l.getD q 0) m := by rw [h1, getD_set l q q _ hq, if_pos rfl]
  have a3 := or_byte a1.1 a2.1
  rw [g1] at h2
  refine ⟨by rw [h2]; exact b1.set q a3.1, by rw [h2, List.length_set, e1], fun j => ?_⟩
  rw [h2, tb_set l1 q j _ (by omega)]
  by_cases hj : j / 8 = q
  · rw [if_pos hj, if_pos hj, a3.2, a1.2, a2.2 _ (by omega)]
    unfold tb
    rw [hj]
    cases bt1 m (j % 8) <;> simp
  · rw [if_neg hj, if_neg hj, h1, tb_set l q j _ hq, if_neg hj]

/-- One bit put to v, as 'l[q] &^= 1 << r; if v { l[q] |= 1 << r }'. -/
theorem putBit {l : List Int} (hl : By l) {q R : Nat} (hq : q < l.length) (hR : R < 8) (v : Bool) {l1 l2 : List Int} (h1 : l1 = l.set q (bits .andNot .u8 (l.getD q 0) (shl .u8 1 (R : Int)))) (h2 : l2 = if v then l1.set q (bits .or .u8 (l1.getD q 0) (shl .u8 1 (R : Int))) else l1) :
    By l2 ∧ l2.length = l.length ∧ ∀ j, tb l2 j = if j = 8 * q + R then v else tb l j := by
  have s := shl_byte hR
  have a1 := andNot_byte (hl.get q) s.1
  have b1 : By l1 := by rw [h1]; exact hl.set q a1.1
  have e1 : l1.length = l.length := by rw [h1, List.length_set]
  have g1 : l1.getD q 0 = bits .andNot .u8 (l.getD q 0) (shl .u8 1 (R : Int)) := by rw [h1, getD_set l q q _ hq, if_pos rfl]
  have a3 := or_byte a1.1 s.1
  rw [g1] at h2
  cases v with
  | true =>
    simp only [if_true] at h2
    refine ⟨by rw [h2]; exact b1.set q a3.1, by rw [h2, List.length_set, e1], fun j => ?_⟩
    rw [h2, tb_set l1 q j _ (by omega)]
    by_cases hj : j / 8 = q
    · rw [if_pos hj, a3.2, a1.2 _ (by omega), s.2 _ (by omega)]
      by_cases hr : j % 8 = R
      · rw [if_pos (by omega)]; simp [hr]
      · rw [if_neg (by omega)]; simp [hr, tb, hj]
    · rw [if_neg hj, if_neg (by omega), h1, tb_set l q j _ hq, if_neg hj]
  | false =>
    simp only [Bool.false_eq_true, if_false] at h2
    subst h2
    refine ⟨b1, e1, fun j => ?_⟩
    rw [h1, tb_set l q j _ hq]
    by_cases hj : j / 8 = q
    · rw [if_pos hj, a1.2 _ (by omega), s.2 _ (by omega)]
      by_cases hr : j % 8 = R
      · rw [if_pos (by omega)]; simp [hr]
      · rw [if_neg (by omega)]; simp [hr, tb, hj]
    · rw [if_neg hj, if_neg (by omega)]
end Go.Proofs.YticieelobdfloaaDoor.BitLists
