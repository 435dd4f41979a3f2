/- Plain arithmetic on digits of base 2^64, and on division by estimates. No program in sight. -/
import Derived.Test.YtmendapdibnbdaaGreatDoorMag
namespace Go.Proofs.YtmendapdibnbdaaGreatDoor.Mag
set_option linter.unusedVariables false
def pn (n : Nat) : Nat := 18446744073709551616 ^ n
theorem pn_succ (n : Nat) : pn (n + 1) = 18446744073709551616 * pn n := by unfold pn; rw [Nat.pow_succ, Nat.mul_comm]
theorem pn_pos (n : Nat) : 0 < pn n := Nat.pow_pos (by decide)
theorem pn_two (n : Nat) : pn n = 2 ^ (64 * n) := by unfold pn; rw [Nat.pow_mul]

def nval : List Nat → Nat
 | [] => 0
 | d :: r => d + 18446744073709551616 * nval r
def Ndig (xs : List Nat) : Prop := ∀ d ∈ xs, d < 18446744073709551616
def Ntrim (xs : List Nat) : Prop := xs = [] ∨ xs.getD (xs.length - 1) 0 ≠ 0

theorem nval_app (a b : List Nat) : nval (a ++ b) = nval a + pn a.length * nval b := by
 induction a with
 | nil => simp [nval, pn]
 | cons d r ih => simp only [List.cons_append, nval, ih, List.length_cons, pn_succ]; grind
theorem nval_lt {xs : List Nat} (h : Ndig xs) : nval xs < pn xs.length := by
 induction xs with
 | nil => simp [nval, pn]
 | cons d r ih =>
  have h1 := h d (by simp)
  have h2 := ih fun x hx => h x (by simp [hx])
  simp only [nval, List.length_cons, pn_succ]
  omega
theorem nval_zeros {xs : List Nat} (h : ∀ i, i < xs.length → xs.getD i 0 = 0) : nval xs = 0 := by
 induction xs with
 | nil => rfl
 | cons d r ih =>
  have h1 := h 0 (by simp)
  have h2 := ih fun i hi => by have := h (i + 1) (by simpa using hi); simpa using this
  simp only [nval, h2]
  simpa using h1
theorem nval_take {xs : List Nat} {m : Nat} (h : ∀ i, m ≤ i → i < xs.length → xs.getD i 0 = 0) : nval (xs.take m) = nval xs := by
 have h1 := nval_app (xs.take m) (xs.drop m)
 rw [List.take_append_drop] at h1
 rw [h1, nval_zeros (xs := xs.drop m), Nat.mul_zero, Nat.add_zero]
 intro i hi
 rw [List.length_drop] at hi
 have := h (m + i) (by omega) (by omega)
 simpa [List.getD_eq_getElem?_getD] using this
theorem ntrim_take {xs : List Nat} {m : Nat} (hm : m ≤ xs.length) (h : m = 0 ∨ xs.getD (m - 1) 0 ≠ 0) : Ntrim (xs.take m) := by
 rcases h with rfl | h
 · exact .inl rfl
 ·
  by_cases h0 : m = 0
  · subst h0; exact .inl rfl
  ·
   refine .inr ?_
   have hl : (xs.take m).length = m := by simp [hm]
   rw [hl]
   rw [List.getD_eq_getElem?_getD] at h ⊢
   rwa [List.getElem?_take_of_lt (by omega)]
theorem ntrim_ge {xs : List Nat} (h : Ntrim xs) (hne : xs ≠ []) : pn (xs.length - 1) ≤ nval xs := by
 have h' := h.resolve_left hne
 have hl : 0 < xs.length := List.length_pos_iff.2 hne
 have h1 := nval_app (xs.take (xs.length - 1)) (xs.drop (xs.length - 1))
 rw [List.take_append_drop] at h1
 have h2 : xs.drop (xs.length - 1) = [xs.getD (xs.length - 1) 0] := by
  rw [List.drop_eq_getElem_cons (by omega), List.drop_of_length_le (by omega)]
  simp [List.getD_eq_getElem?_getD, List.getElem?_eq_getElem (show xs.length - 1 < xs.length by omega)]
 rw [h1, h2]
 have h3 : (xs.take (xs.length - 1)).length = xs.length - 1 := by simp
 rw [h3]
 simp only [nval, Nat.mul_zero, Nat.add_zero]
 have h4 : 1 ≤ xs.getD (xs.length - 1) 0 := by omega
 have := Nat.mul_le_mul_left (pn (xs.length - 1)) h4
 omega
theorem pn_le {a b : Nat} (h : a ≤ b) : pn a ≤ pn b := Nat.pow_le_pow_right (by decide) h
theorem ndig_take {xs : List Nat} (h : Ndig xs) (m : Nat) : Ndig (xs.take m) := fun d hd => h d (List.mem_of_mem_take hd)
theorem ndig_drop {xs : List Nat} (h : Ndig xs) (m : Nat) : Ndig (xs.drop m) := fun d hd => h d (List.mem_of_mem_drop hd)
theorem nval_eq_zero {xs : List Nat} (h : Ntrim xs) : nval xs = 0 ↔ xs = [] := by
 constructor
 ·
  intro h0
  by_cases hne : xs = []
  · exact hne
  ·
   have := ntrim_ge h hne
   have := pn_pos (xs.length - 1)
   omega
 · rintro rfl; rfl
theorem nval_snoc (zs : List Nat) (d : Nat) : nval (zs ++ [d]) = nval zs + pn zs.length * d := by rw [nval_app]; simp [nval]
theorem ndig_snoc {zs : List Nat} (h : Ndig zs) {d : Nat} (hd : d < 18446744073709551616) : Ndig (zs ++ [d]) := fun x hx => by
 rcases List.mem_append.1 hx with hx | hx
 · exact h x hx
 · obtain rfl := List.mem_singleton.1 hx; exact hd
theorem nval_take_succ (xs : List Nat) (i : Nat) : nval (xs.take (i + 1)) = nval (xs.take i) + pn i * xs.getD i 0 := by
 by_cases h : i < xs.length
 ·
  have h1 : xs.take (i + 1) = xs.take i ++ [xs.getD i 0] := by
   rw [List.take_succ_eq_append_getElem h, List.getD_eq_getElem?_getD, List.getElem?_eq_getElem h]; rfl
  have h2 : (xs.take i).length = i := by simp; omega
  rw [h1, nval_snoc, h2]
 · rw [List.take_of_length_le (by omega), List.take_of_length_le (by omega), getD_out (by omega)]; simp
theorem ndig_get {xs : List Nat} (h : Ndig xs) (i : Nat) : xs.getD i 0 < 18446744073709551616 := by
 by_cases hi : i < xs.length
 · rw [List.getD_eq_getElem?_getD, List.getElem?_eq_getElem hi]; exact h _ (List.getElem_mem hi)
 · rw [getD_out (by omega)]; decide
theorem nval_replicate (n : Nat) : nval (List.replicate n 0) = 0 := by
 induction n with
 | zero => rfl
 | succ n ih => simp [List.replicate_succ, nval, ih]
theorem ndig_replicate (n : Nat) : Ndig (List.replicate n 0) := fun d hd => by have := List.eq_of_mem_replicate hd; omega
def lent (x : Nat) : Nat := if x = 0 then 0 else x.log2 + 1
theorem lent_pos {x : Nat} (h : 0 < x) : 2 ^ (lent x - 1) ≤ x ∧ x < 2 ^ lent x ∧ 0 < lent x := by
 unfold lent
 rw [if_neg (by omega), Nat.add_sub_cancel]
 exact ⟨Nat.log2_self_le (by omega), Nat.lt_log2_self, by omega⟩
theorem lent_lt {x n : Nat} (h : x < 2 ^ n) : lent x ≤ n := by
 unfold lent
 split
 · exact Nat.zero_le _
 ·
  rename_i h0
  have := (Nat.log2_lt h0).2 h
  omega
theorem lent_eq {x n : Nat} (h1 : 2 ^ n ≤ x) (h2 : x < 2 ^ (n + 1)) : lent x = n + 1 := by
 have h0 : x ≠ 0 := by have := Nat.two_pow_pos n; omega
 unfold lent
 rw [if_neg h0, (Nat.log2_eq_iff h0).2 ⟨h1, h2⟩]
theorem lent_div {x k : Nat} (h : 2 ^ k ≤ x) : lent x = k + lent (x / 2 ^ k) := by
 have hk := Nat.two_pow_pos k
 have h1 : 0 < x / 2 ^ k := Nat.div_pos h hk
 obtain ⟨h2, h3, h4⟩ := lent_pos h1
 have h5 : lent x = (k + lent (x / 2 ^ k) - 1) + 1 := lent_eq (by
  rw [show k + lent (x / 2 ^ k) - 1 = (lent (x / 2 ^ k) - 1) + k by omega, Nat.pow_add]
  exact (Nat.le_div_iff_mul_le hk).1 h2) (by
  rw [show k + lent (x / 2 ^ k) - 1 + 1 = lent (x / 2 ^ k) + k by omega, Nat.pow_add]
  exact (Nat.div_lt_iff_lt_mul hk).1 h3)
 omega
def len8 : List UInt8 := [0, 1, 2, 2, 3, 3, 3, 3, 4, 4, 4, 4, 4, 4, 4, 4, 5, 5, 5, 5, 5, 5, 5, 5, 5, 5, 5, 5, 5, 5, 5, 5, 6, 6, 6, 6, 6, 6, 6, 6, 6, 6, 6, 6, 6, 6, 6, 6, 6, 6, 6, 6, 6, 6, 6, 6, 6, 6, 6, 6, 6, 6, 6, 6, 7, 7, 7, 7, 7, 7, 7, 7, 7, 7, 7, 7, 7, 7, 7, 7, 7, 7, 7, 7, 7, 7, 7, 7, 7, 7, 7, 7, 7, 7, 7, 7, 7, 7, 7, 7, 7, 7, 7, 7, 7, 7, 7, 7, 7, 7, 7, 7, 7, 7, 7, 7, 7, 7, 7, 7, 7, 7, 7, 7, 7, 7, 7, 7, 8, 8, 8, 8, 8, 8, 8, 8, 8, 8, 8, 8, 8, 8, 8, 8, 8, 8, 8, 8, 8, 8, 8, 8, 8, 8, 8, 8, 8, 8, 8, 8, 8, 8, 8, 8, 8, 8, 8, 8, 8, 8, 8, 8, 8, 8, 8, 8, 8, 8, 8, 8, 8, 8, 8, 8, 8, 8, 8, 8, 8, 8, 8, 8, 8, 8, 8, 8, 8, 8, 8, 8, 8, 8, 8, 8, 8, 8, 8, 8, 8, 8, 8, 8, 8, 8, 8, 8, 8, 8, 8, 8, 8, 8, 8, 8, 8, 8, 8, 8, 8, 8, 8, 8, 8, 8, 8, 8, 8, 8, 8, 8, 8, 8, 8, 8, 8, 8, 8, 8, 8, 8, 8, 8, 8, 8, 8, 8]
set_option maxRecDepth 10000 in
theorem len8_get {x : Nat} (h : x < 256) : (len8.getD x 0).toNat = lent x := by
 have key : ∀ y : Fin 256, (len8.getD y.val 0).toNat = lent y.val := by decide +kernel
 exact key ⟨x, h⟩
theorem len8_int {x : Nat} (h : x < 256) : (((len8.getD x 0).toNat : Nat) : Int) = ((lent x : Nat) : Int) := congrArg _ (len8_get h)
section
variable {q r v1 v0 y U u : Nat}
end
end Go.Proofs.YtmendapdibnbdaaGreatDoor.Mag
