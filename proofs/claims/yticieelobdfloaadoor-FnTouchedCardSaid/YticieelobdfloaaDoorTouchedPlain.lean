/- The plain law behind FnTouched: bit r of byte q, set or cleared, and read again; no program. -/
import Derived.Test.YticieelobdfloaaDoorQTouchedx4
namespace Go.Proofs.YticieelobdfloaaDoor.Pure
open Go Go.RowKit Go.Proofs.YticieelobdfloaaDoor.QTouched Go.Proofs.YticieelobdfloaaDoorW.PrintWords Go.Proofs.YticieelobdfloaaDoorW.PrintLast Go.Proofs.YticieelobdfloaaDoorW.PrintMore

theorem w64 (n : Int) (h : -9223372036854775808 ≤ n ∧ n ≤ 9223372036854775807) : wrap64 n = n := by unfold wrap64; omega
set_option linter.unusedSectionVars false
set_option linter.unusedVariables false

structure ByteFacts (X R : Int) : Prop where
  or_ : bits .or .u8 X (rd gtab0 R) = bits .or .u8 (bits .andNot .u8 X (shl .u8 1 R)) (shl .u8 1 R)
  and_ : bits .and .u8 X (rd gtab1 R) = bits .andNot .u8 X (shl .u8 1 R)
  not_ : bits .andNot .u8 X (rd gtab0 R) = bits .andNot .u8 X (shl .u8 1 R)
  was : (bits .and .u8 X (rd gtab0 R) != 0) = (bits .and .u8 (shr .u8 X R) 1 == 1)
  set1 : (bits .and .u8 (bits .or .u8 (bits .andNot .u8 X (shl .u8 1 R)) (shl .u8 1 R)) (rd gtab0 R) != 0) = true
  set0 : (bits .and .u8 (bits .or .u8 (bits .andNot .u8 X (shl .u8 1 R)) (shl .u8 1 R)) (rd gtab0 R) == 0) = false
  clr1 : (bits .and .u8 (bits .andNot .u8 X (shl .u8 1 R)) (rd gtab0 R) != 0) = false
  clr0 : (bits .and .u8 (bits .andNot .u8 X (shl .u8 1 R)) (rd gtab0 R) == 0) = true

theorem fin_facts : ∀ x : Fin 256, ∀ r : Fin 8,
    (bits .or .u8 (x.val : Int) (rd gtab0 (r.val : Int)) = bits .or .u8 (bits .andNot .u8 (x.val : Int) (shl .u8 1 (r.val : Int))) (shl .u8 1 (r.val : Int))) ∧
    (bits .and .u8 (x.val : Int) (rd gtab1 (r.val : Int)) = bits .andNot .u8 (x.val : Int) (shl .u8 1 (r.val : Int))) ∧
    (bits .andNot .u8 (x.val : Int) (rd gtab0 (r.val : Int)) = bits .andNot .u8 (x.val : Int) (shl .u8 1 (r.val : Int))) ∧
    ((bits .and .u8 (x.val : Int) (rd gtab0 (r.val : Int)) != 0) = (bits .and .u8 (shr .u8 (x.val : Int) (r.val : Int)) 1 == 1)) ∧
    ((bits .and .u8 (bits .or .u8 (bits .andNot .u8 (x.val : Int) (shl .u8 1 (r.val : Int))) (shl .u8 1 (r.val : Int))) (rd gtab0 (r.val : Int)) != 0) = true) ∧
    ((bits .and .u8 (bits .or .u8 (bits .andNot .u8 (x.val : Int) (shl .u8 1 (r.val : Int))) (shl .u8 1 (r.val : Int))) (rd gtab0 (r.val : Int)) == 0) = false) ∧
    ((bits .and .u8 (bits .andNot .u8 (x.val : Int) (shl .u8 1 (r.val : Int))) (rd gtab0 (r.val : Int)) != 0) = false) ∧
    ((bits .and .u8 (bits .andNot .u8 (x.val : Int) (shl .u8 1 (r.val : Int))) (rd gtab0 (r.val : Int)) == 0) = true) := by decide +kernel

theorem byteFacts (X R : Int) (hx0 : 0 ≤ X) (hx1 : X < 256) (hr0 : 0 ≤ R) (hr1 : R < 8) : ByteFacts X R := by
  have h := fin_facts ⟨X.toNat, by omega⟩ ⟨R.toNat, by omega⟩
  have e1 : ((X.toNat : Nat) : Int) = X := by omega
  have e2 : ((R.toNat : Nat) : Int) = R := by omega
  simp only [e1, e2] at h
  obtain ⟨h1, h2, h3, h4, h5, h6, h7, h8⟩ := h
  exact ⟨h1, h2, h3, h4, h5, h6, h7, h8⟩

/-- The byte with its bit set or cleared. -/
def nb (is : Bool) (X R : Int) : Int := if is then bits .or .u8 (bits .andNot .u8 X (shl .u8 1 R)) (shl .u8 1 R) else bits .andNot .u8 X (shl .u8 1 R)

theorem rd_set (l : List Int) (q v : Int) (h0 : 0 ≤ q) (h1 : q < l.length) : rd (l.set q.toNat v) q = v := by
  unfold rd
  rw [List.getD_eq_getElem?_getD, List.getElem?_set_self (by omega)]; rfl

section
variable {l : List Int} {i : Int} (hl : l.length ≤ 4096) (h0 : 0 ≤ i) (h1 : i < 8 * (l.length : Int))
include hl h0 h1

theorem ix1 : IntKind.u64.wrap (Int.tdiv (IntKind.u64.wrap i) 8) = i / 8 := by
  have w : ∀ z : Int, 0 ≤ z → z < 100000 → IntKind.u64.wrap z = z := fun z a b => by simp [IntKind.wrap, IntKind.bits, IntKind.signed]; omega
  rw [w i h0 (by omega), Int.tdiv_eq_ediv_of_nonneg h0, w _ (by omega) (by omega)]
theorem ix2 : wrap64 (Int.tdiv i 8) = i / 8 := by
  rw [Int.tdiv_eq_ediv_of_nonneg h0, w64 _ (by omega)]
theorem ix3 : wrap64 (i + 0) = i := by rw [Int.add_zero, w64 _ (by omega)]
theorem ix4 : Int.tmod i 8 = i % 8 := Int.tmod_eq_emod_of_nonneg h0
theorem ix5 : i % 256 % 8 = i % 8 := by omega
theorem q0 : 0 ≤ i / 8 := by omega
theorem q1 : i / 8 < l.length := by omega
theorem r0 : 0 ≤ i % 8 := by omega
theorem r1 : i % 8 < 8 := by omega

theorem setBit : bitutil_SetBit.f l i = some (l.set (i / 8).toNat (bits .or .u8 (rd l (i / 8)) (rd gtab0 (i % 8)))) := by
  unfold bitutil_SetBit.f
  rw [ix1 hl h0 h1, ix5 hl h0 h1, if_pos (q0 hl h0 h1), if_pos (q1 hl h0 h1), if_pos (r0 hl h0 h1), if_pos (r1 hl h0 h1)]
theorem clearBit : bitutil_ClearBit.f l i = some (l.set (i / 8).toNat (bits .and .u8 (rd l (i / 8)) (rd gtab1 (i % 8)))) := by
  unfold bitutil_ClearBit.f
  rw [ix1 hl h0 h1, ix5 hl h0 h1, if_pos (q0 hl h0 h1), if_pos (q1 hl h0 h1), if_pos (r0 hl h0 h1), if_pos (r1 hl h0 h1)]
theorem setBitSwap : bitutil_SetBitSwap.f l i = some ((bits .and .u8 (rd l (i / 8)) (rd gtab0 (i % 8)) != 0), l.set (i / 8).toNat (bits .or .u8 (rd l (i / 8)) (rd gtab0 (i % 8)))) := by
  unfold bitutil_SetBitSwap.f
  rw [ix1 hl h0 h1, ix5 hl h0 h1, if_pos (q0 hl h0 h1), if_pos (q1 hl h0 h1), if_pos (r0 hl h0 h1), if_pos (r1 hl h0 h1)]
theorem clearBitSwap : bitutil_ClearBitSwap.f l i = some ((bits .and .u8 (rd l (i / 8)) (rd gtab0 (i % 8)) != 0), l.set (i / 8).toNat (bits .andNot .u8 (rd l (i / 8)) (rd gtab0 (i % 8)))) := by
  unfold bitutil_ClearBitSwap.f
  rw [ix1 hl h0 h1, ix5 hl h0 h1, if_pos (q0 hl h0 h1), if_pos (q1 hl h0 h1), if_pos (r0 hl h0 h1), if_pos (r1 hl h0 h1)]
theorem isSet : impl_IsSet.f l i = some (bits .and .u8 (rd l (i / 8)) (rd gtab0 (i % 8)) != 0) := by
  unfold impl_IsSet.f bitutil_BitIsSet.f
  rw [ix1 hl h0 h1, ix5 hl h0 h1, if_pos (q0 hl h0 h1), if_pos (q1 hl h0 h1), if_pos (r0 hl h0 h1), if_pos (r1 hl h0 h1)]
  rfl
theorem isNotSet : impl_IsNotSet.f l i = some (bits .and .u8 (rd l (i / 8)) (rd gtab0 (i % 8)) == 0) := by
  unfold impl_IsNotSet.f bitutil_BitIsNotSet.f
  rw [ix1 hl h0 h1, ix5 hl h0 h1, if_pos (q0 hl h0 h1), if_pos (q1 hl h0 h1), if_pos (r0 hl h0 h1), if_pos (r1 hl h0 h1)]
  rfl
theorem specBit : spec_Bit.f l i = some (bits .and .u8 (shr .u8 (rd l (i / 8)) (i % 8)) 1 == 1) := by
  unfold spec_Bit.f
  rw [ix2 hl h0 h1, ix4 hl h0 h1, if_pos (q0 hl h0 h1), if_pos (q1 hl h0 h1), if_pos (r0 hl h0 h1)]
theorem copied : impl_copied.f l = some l := by
  unfold impl_copied.f
  simp only [Option.bind_some, List.length_nil, List.nil_append]
  rw [if_pos (by omega)]

theorem changed (k : Nat) (is : Bool) : laws_changed.f (k + 2) l i [is] = some (l.set (i / 8).toNat (nb is (rd l (i / 8)) (i % 8))) := by
  have hw1 : wrap64 (0 + 1) = 1 := w64 _ (by decide)
  unfold laws_changed.f
  simp only [Option.bind_some, List.length_nil, List.nil_append, List.length_cons]
  rw [if_pos (by omega)]
  rw [laws_changed.l0]
  have e0 : rdOf false [is] 0 = is := rfl
  rw [if_pos (by simp), if_pos (by decide), if_pos (by simp), ix3 hl h0 h1, ix2 hl h0 h1, ix4 hl h0 h1, if_pos (q0 hl h0 h1), if_pos (q1 hl h0 h1), if_pos (r0 hl h0 h1), e0, hw1]
  simp only [Option.bind_some]
  rw [laws_changed.l0, rd_set l _ _ (q0 hl h0 h1) (q1 hl h0 h1), List.set_set]
  cases is <;> simp [nb, laws_changed.l0]

theorem last (hb : ByteFacts (rd l (i / 8)) (i % 8)) (k : Nat) (is : Bool) :
    laws_FnTouched.j3 (k + 3) l i is (l.set (i / 8).toNat (nb is (rd l (i / 8)) (i % 8))) = some true := by
  rw [laws_FnTouched.j3, changed hl h0 h1]
  have hl' : (l.set (i / 8).toNat (nb is (rd l (i / 8)) (i % 8))).length ≤ 4096 := by simpa using hl
  have h1' : i < 8 * ((l.set (i / 8).toNat (nb is (rd l (i / 8)) (i % 8))).length : Int) := by simpa using h1
  simp only [Option.bind_some, laws_same.f, BEq.rfl, if_true]
  rw [isSet hl' h0 h1', isNotSet hl' h0 h1', rd_set l _ _ (q0 hl h0 h1) (q1 hl h0 h1)]
  cases is
  · simp only [nb, Bool.false_eq_true, if_false, Option.bind_some, hb.clr1, hb.clr0]; rfl
  · simp only [nb, if_true, Option.bind_some, hb.set1, hb.set0]; rfl

theorem touched (hb : ByteFacts (rd l (i / 8)) (i % 8)) (op : Int) (v : Bool) (h2 : 0 ≤ op) (h3 : op < 5) :
    impl_Touched.f l op i v = some (l.set (i / 8).toNat (nb (op == 0 || op == 3 || (op == 2 && v)) (rd l (i / 8)) (i % 8)), if op = 3 ∨ op = 4 then (bits .and .u8 (shr .u8 (rd l (i / 8)) (i % 8)) 1 == 1) else false) := by
  unfold impl_Touched.f bitutil_SetBitTo.f
  rw [copied hl h0 h1]
  simp only [Option.bind_some, setBit hl h0 h1, clearBit hl h0 h1, setBitSwap hl h0 h1, clearBitSwap hl h0 h1, hb.or_, hb.and_, hb.not_, hb.was]
  have : op = 0 ∨ op = 1 ∨ op = 2 ∨ op = 3 ∨ op = 4 := by omega
  rcases this with rfl | rfl | rfl | rfl | rfl
  · simp [nb]
  · simp [nb]
  · cases v <;> simp [nb]
  · simp [nb]
  · simp [nb]
end

theorem FnTouched : laws_FnTouched.Pure := by
  intro l op i v hm hy hwf w1 w2
  suffices h : ∀ m, laws_FnTouched.f (m + 6) l op i v = some true from ⟨0 + 6, h 0⟩
  intro m
  unfold laws_FnTouched.f
  by_cases hbig : (l.length : Int) > 2147483647
  · rw [if_pos hbig]
  rw [if_neg hbig]
  have hi : -9223372036854775808 ≤ i ∧ i ≤ 9223372036854775807 := by simpa [Lit.wf, IntKind.min, IntKind.max, IntKind.signed, IntKind.bits] using w2
  -- what 'within' says
  have hw : ∃ b, laws_within.f l i 1 = some b ∧ (b = true → l.length ≤ 4096 ∧ 0 ≤ i ∧ i < 8 * (l.length : Int)) := by
    unfold laws_within.f
    by_cases c1 : (l.length : Int) ≤ 4096
    · rw [if_pos c1]
      have e8 : wrap64 (8 * (l.length : Int)) = 8 * l.length := w64 _ (by omega)
      rw [e8]
      by_cases c2 : i ≥ 0
      · rw [if_pos c2, if_pos (by decide)]
        by_cases c3 : i ≤ 8 * (l.length : Int)
        · rw [if_pos c3, w64 _ (by omega)]
          exact ⟨_, rfl, fun h => by simp at h; omega⟩
        · rw [if_neg c3]; exact ⟨_, rfl, fun h => by cases h⟩
      · rw [if_neg c2]; exact ⟨_, rfl, fun h => by cases h⟩
    · rw [if_neg c1]; exact ⟨_, rfl, fun h => by cases h⟩
  obtain ⟨b, hb, hin⟩ := hw
  rw [hb]
  simp only [Option.bind_some]
  have out : ∀ (n : Nat) op, laws_FnTouched.j0 (n + 1) l op i v true = some true := fun n op => by rw [laws_FnTouched.j0, if_pos rfl]
  cases b with
  | false => rw [if_neg (by decide), out]
  | true =>
    rw [if_pos rfl]
    obtain ⟨hl, h0, h1⟩ := hin rfl
    by_cases c : op < 0
    · rw [if_pos c, out]
    rw [if_neg c]
    by_cases c5 : op ≥ 5
    · rw [decide_eq_true c5, out]
    rw [decide_eq_false c5]
    have hx : rd l (i / 8) ∈ l := by
      unfold rd
      rw [List.getD_eq_getElem?_getD, List.getElem?_eq_getElem (by omega)]
      simp
    have hx' := hwf _ hx
    have hx2 : 0 ≤ rd l (i / 8) ∧ rd l (i / 8) ≤ 255 := by simpa [Lit.wf, IntKind.min, IntKind.max, IntKind.signed, IntKind.bits] using hx'
    have bf := byteFacts (rd l (i / 8)) (i % 8) hx2.1 (by omega) (by omega) (by omega)
    rw [laws_FnTouched.j0, if_neg (by decide), specBit hl h0 h1]
    simp only [Option.bind_some]
    have t := touched hl h0 h1 bf op v (by omega) (by omega)
    have e2 : op = 0 ∨ op = 1 ∨ op = 2 ∨ op = 3 ∨ op = 4 := by omega
    rcases e2 with rfl | rfl | rfl | rfl | rfl
    · simp only [if_true]
      rw [laws_FnTouched.j1, t]
      simp [laws_FnTouched.j2]
      exact last hl h0 h1 bf m true
    · simp
      rw [laws_FnTouched.j1, t]
      simp [laws_FnTouched.j2]
      exact last hl h0 h1 bf m false
    · simp
      rw [laws_FnTouched.j1, t]
      simp [laws_FnTouched.j2]
      exact last hl h0 h1 bf m v
    · simp
      rw [laws_FnTouched.j1, t]
      simp [laws_FnTouched.j2]
      exact last hl h0 h1 bf m true
    · simp
      rw [laws_FnTouched.j1, t]
      simp [laws_FnTouched.j2]
      exact last hl h0 h1 bf m false
end Go.Proofs.YticieelobdfloaaDoor.Pure
