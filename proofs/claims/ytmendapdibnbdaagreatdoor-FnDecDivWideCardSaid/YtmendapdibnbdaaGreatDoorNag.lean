/- Plain arithmetic on digits of base 2^64, and on division by estimates. No program in sight. -/
import Derived.Test.YtmendapdibnbdaaGreatDoorMag
namespace Go.Proofs.YtmendapdibnbdaaGreatDoor.Mag
set_option linter.unusedVariables false
def pn (n : Nat) : Nat := 18446744073709551616 ^ n
theorem pn_zero : pn 0 = 1 := rfl
theorem pn_succ (n : Nat) : pn (n + 1) = 18446744073709551616 * pn n := by unfold pn; rw [Nat.pow_succ, Nat.mul_comm]
theorem pn_pos (n : Nat) : 0 < pn n := Nat.pow_pos (by decide)
theorem pn_two (n : Nat) : pn n = 2 ^ (64 * n) := by unfold pn; rw [Nat.pow_mul]

def nval : List Nat → Nat
 | [] => 0
 | d :: r => d + 18446744073709551616 * nval r
def Ndig (xs : List Nat) : Prop := ∀ d ∈ xs, d < 18446744073709551616
def Ntrim (xs : List Nat) : Prop := xs = [] ∨ xs.getD (xs.length - 1) 0 ≠ 0

theorem nval_app (a b : List Nat) : nval (a ++ b) = nval a + pn a.length * nval b := by
 induction a with
 | nil => simp [nval, pn]
 | cons d r ih => simp only [List.cons_append, nval, ih, List.length_cons, pn_succ]; grind
theorem nval_lt {xs : List Nat} (h : Ndig xs) : nval xs < pn xs.length := by
 induction xs with
 | nil => simp [nval, pn]
 | cons d r ih =>
  have h1 := h d (by simp)
  have h2 := ih fun x hx => h x (by simp [hx])
  simp only [nval, List.length_cons, pn_succ]
  omega
theorem nval_zeros {xs : List Nat} (h : ∀ i, i < xs.length → xs.getD i 0 = 0) : nval xs = 0 := by
 induction xs with
 | nil => rfl
 | cons d r ih =>
  have h1 := h 0 (by simp)
  have h2 := ih fun i hi => by have := h (i + 1) (by simpa using hi); simpa using this
  simp only [nval, h2]
  simpa using h1
theorem nval_take {xs : List Nat} {m : Nat} (h : ∀ i, m ≤ i → i < xs.length → xs.getD i 0 = 0) : nval (xs.take m) = nval xs := by
 have h1 := nval_app (xs.take m) (xs.drop m)
 rw [List.take_append_drop] at h1
 rw [h1, nval_zeros (xs := xs.drop m), Nat.mul_zero, Nat.add_zero]
 intro i hi
 rw [List.length_drop] at hi
 have := h (m + i) (by omega) (by omega)
 simpa [List.getD_eq_getElem?_getD] using this
theorem ntrim_take {xs : List Nat} {m : Nat} (hm : m ≤ xs.length) (h : m = 0 ∨ xs.getD (m - 1) 0 ≠ 0) : Ntrim (xs.take m) := by
 rcases h with rfl | h
 · exact .inl rfl
 ·
  by_cases h0 : m = 0
  · subst h0; exact .inl rfl
  ·
   refine .inr ?_
   have hl : (xs.take m).length = m := by simp [hm]
   rw [hl]
   rw [List.getD_eq_getElem?_getD] at h ⊢
   rwa [List.getElem?_take_of_lt (by omega)]
theorem ntrim_ge {xs : List Nat} (h : Ntrim xs) (hne : xs ≠ []) : pn (xs.length - 1) ≤ nval xs := by
 have h' := h.resolve_left hne
 have hl : 0 < xs.length := List.length_pos_iff.2 hne
 have h1 := nval_app (xs.take (xs.length - 1)) (xs.drop (xs.length - 1))
 rw [List.take_append_drop] at h1
 have h2 : xs.drop (xs.length - 1) = [xs.getD (xs.length - 1) 0] := by
  rw [List.drop_eq_getElem_cons (by omega), List.drop_of_length_le (by omega)]
  simp [List.getD_eq_getElem?_getD, List.getElem?_eq_getElem (show xs.length - 1 < xs.length by omega)]
 rw [h1, h2]
 have h3 : (xs.take (xs.length - 1)).length = xs.length - 1 := by simp
 rw [h3]
 simp only [nval, Nat.mul_zero, Nat.add_zero]
 have h4 : 1 ≤ xs.getD (xs.length - 1) 0 := by omega
 have := Nat.mul_le_mul_left (pn (xs.length - 1)) h4
 omega
theorem pn_le {a b : Nat} (h : a ≤ b) : pn a ≤ pn b := Nat.pow_le_pow_right (by decide) h
theorem nval_lt_of_len {xs ys : List Nat} (hx : Ndig xs) (hy : Ntrim ys) (h : xs.length < ys.length) : nval xs < nval ys := by
 have h1 := nval_lt hx
 have h2 := ntrim_ge hy (by intro h0; subst h0; simp at h)
 have h3 := pn_le (show xs.length ≤ ys.length - 1 by omega)
 omega
theorem ndig_take {xs : List Nat} (h : Ndig xs) (m : Nat) : Ndig (xs.take m) := fun d hd => h d (List.mem_of_mem_take hd)
theorem ndig_drop {xs : List Nat} (h : Ndig xs) (m : Nat) : Ndig (xs.drop m) := fun d hd => h d (List.mem_of_mem_drop hd)
theorem nval_split (xs : List Nat) (i : Nat) (h : i < xs.length) : nval xs = nval (xs.take i) + pn i * (xs.getD i 0 + 18446744073709551616 * nval (xs.drop (i + 1))) := by
 have h1 := nval_app (xs.take i) (xs.drop i)
 rw [List.take_append_drop, List.drop_eq_getElem_cons h] at h1
 have h2 : (xs.take i).length = i := by simp; omega
 rw [h2] at h1
 rw [h1]
 simp [nval, List.getD_eq_getElem?_getD, List.getElem?_eq_getElem h]
theorem nval_lt_at {xs ys : List Nat} (hx : Ndig xs) (i : Nat) (h : i < xs.length) (hl : xs.length = ys.length) (hd : xs.drop (i + 1) = ys.drop (i + 1)) (hlt : xs.getD i 0 < ys.getD i 0) : nval xs < nval ys := by
 rw [nval_split xs i h, nval_split ys i (by omega), hd]
 have h1 := nval_lt (ndig_take hx i)
 have h2 : (xs.take i).length = i := by simp; omega
 rw [h2] at h1
 have h3 := Nat.mul_le_mul_left (pn i) (show xs.getD i 0 + 18446744073709551616 * nval (ys.drop (i + 1)) + 1 ≤ ys.getD i 0 + 18446744073709551616 * nval (ys.drop (i + 1)) by omega)
 rw [Nat.mul_add (pn i) _ 1, Nat.mul_one] at h3
 omega
theorem nval_eq_zero {xs : List Nat} (h : Ntrim xs) : nval xs = 0 ↔ xs = [] := by
 constructor
 ·
  intro h0
  by_cases hne : xs = []
  · exact hne
  ·
   have := ntrim_ge h hne
   have := pn_pos (xs.length - 1)
   omega
 · rintro rfl; rfl
theorem nval_drop (xs : List Nat) (i : Nat) : nval (xs.drop i) = xs.getD i 0 + 18446744073709551616 * nval (xs.drop (i + 1)) := by
 by_cases h : i < xs.length
 ·
  rw [List.drop_eq_getElem_cons h]
  simp [nval, List.getD_eq_getElem?_getD, List.getElem?_eq_getElem h]
 ·
  rw [List.drop_of_length_le (by omega), List.drop_of_length_le (by omega), getD_out (by omega)]
  rfl
theorem nval_snoc (zs : List Nat) (d : Nat) : nval (zs ++ [d]) = nval zs + pn zs.length * d := by rw [nval_app]; simp [nval]
theorem ndig_snoc {zs : List Nat} (h : Ndig zs) {d : Nat} (hd : d < 18446744073709551616) : Ndig (zs ++ [d]) := fun x hx => by
 rcases List.mem_append.1 hx with hx | hx
 · exact h x hx
 · obtain rfl := List.mem_singleton.1 hx; exact hd
theorem ndig_set {zs : List Nat} (h : Ndig zs) (i : Nat) {d : Nat} (hd : d < 18446744073709551616) : Ndig (zs.set i d) := fun x hx => by
 rcases List.mem_or_eq_of_mem_set hx with hx | rfl
 · exact h x hx
 · exact hd
theorem nval_take_succ (xs : List Nat) (i : Nat) : nval (xs.take (i + 1)) = nval (xs.take i) + pn i * xs.getD i 0 := by
 by_cases h : i < xs.length
 ·
  have h1 : xs.take (i + 1) = xs.take i ++ [xs.getD i 0] := by
   rw [List.take_succ_eq_append_getElem h, List.getD_eq_getElem?_getD, List.getElem?_eq_getElem h]; rfl
  have h2 : (xs.take i).length = i := by simp; omega
  rw [h1, nval_snoc, h2]
 · rw [List.take_of_length_le (by omega), List.take_of_length_le (by omega), getD_out (by omega)]; simp
theorem ndig_get {xs : List Nat} (h : Ndig xs) (i : Nat) : xs.getD i 0 < 18446744073709551616 := by
 by_cases hi : i < xs.length
 · rw [List.getD_eq_getElem?_getD, List.getElem?_eq_getElem hi]; exact h _ (List.getElem_mem hi)
 · rw [getD_out (by omega)]; decide
theorem nval_replicate (n : Nat) : nval (List.replicate n 0) = 0 := by
 induction n with
 | zero => rfl
 | succ n ih => simp [List.replicate_succ, nval, ih]
theorem ndig_replicate (n : Nat) : Ndig (List.replicate n 0) := fun d hd => by have := List.eq_of_mem_replicate hd; omega
theorem nlen_pos_of_nval {xs : List Nat} (h : 0 < nval xs) : 0 < xs.length := by
 cases xs with
 | nil => exact absurd h (by simp [nval])
 | cons => simp
theorem nlen_le_of_nval {xs ys : List Nat} (hx : Ndig xs) (ht : Ntrim ys) (h : nval ys ≤ nval xs) : ys.length ≤ xs.length := by
 by_cases h1 : xs.length < ys.length
 · have := nval_lt_of_len hx ht h1; omega
 · omega
theorem ref_start {U v : Nat} : U / v * v + U % v = U := by rw [Nat.mul_comm]; exact Nat.div_add_mod U v
theorem ref_step {b q r v1 v2 U2 u2 : Nat} (he : q * v1 + r = U2) (hgt : r * b + u2 < q * v2) (hle : (U2 * b + u2) / (v1 * b + v2) ≤ q) (hv : 0 < v1 * b + v2) :
  1 ≤ q ∧ (U2 * b + u2) / (v1 * b + v2) ≤ q - 1 ∧ (q - 1) * v1 + (r + v1) = U2 := by
 have hq : 1 ≤ q := by
  rcases Nat.eq_zero_or_pos q with rfl | h
  · simp at hgt
  · exact h
 have h1 : (U2 * b + u2) / (v1 * b + v2) < q := by
  rw [Nat.div_lt_iff_lt_mul hv, ← he]
  grind
 refine ⟨hq, by omega, ?_⟩
 obtain ⟨p, rfl⟩ : ∃ p, q = p + 1 := ⟨q - 1, by omega⟩
 rw [Nat.add_sub_cancel]
 grind
theorem ref_big {b q r v1 v2 U2 u2 : Nat} (he : q * v1 + r = U2) (hb : b ≤ q) (hb1 : 1 ≤ b) (hU : U2 < v1 * b + v2) (hu : u2 < b) :
  1 ≤ q ∧ (U2 * b + u2) / (v1 * b + v2) ≤ q - 1 ∧ (q - 1) * v1 + (r + v1) = U2 := by
 have h1 : (U2 * b + u2) / (v1 * b + v2) < b := by
  rw [Nat.div_lt_iff_lt_mul (by omega)]
  have : (U2 + 1) * b ≤ (v1 * b + v2) * b := Nat.mul_le_mul_right b hU
  grind
 refine ⟨by omega, by omega, ?_⟩
 obtain ⟨p, rfl⟩ : ∃ p, q = p + 1 := ⟨q - 1, by omega⟩
 rw [Nat.add_sub_cancel]
 grind
theorem ref_done {b q r v1 v2 U2 u2 : Nat} (he : q * v1 + r = U2) (hle2 : q * v2 ≤ r * b + u2) (hle : (U2 * b + u2) / (v1 * b + v2) ≤ q) (hv : 0 < v1 * b + v2) :
  q = (U2 * b + u2) / (v1 * b + v2) := by
 refine Nat.le_antisymm ?_ hle
 rw [Nat.le_div_iff_mul_le hv, ← he]
 grind
theorem ref_break {b q r v1 v2 U2 : Nat} (u2 : Nat) (he : q * v1 + r = U2) (hU : U2 < v1 * b + v2) (hv2 : v2 < b) (hr : b ≤ r) : q < b ∧ q * v2 ≤ r * b + u2 := by
 have hq : q < b := by
  rcases Nat.lt_or_ge q b with h | h
  · exact h
  ·
   have := Nat.mul_le_mul_right v1 h
   grind
 refine ⟨hq, ?_⟩
 have h1 := Nat.mul_le_mul (Nat.le_of_lt hq) (Nat.le_of_lt hv2)
 have h2 := Nat.mul_le_mul_right b hr
 omega
theorem knuth {P W v V2 U3 b vl ul : Nat} (hP : 0 < P) (hv : v = V2 * P + vl) (hvl : vl < P) (hW : W = U3 * P + ul) (hul : ul < P) (hb : b ≤ V2) (hV : 0 < V2) (hQ : U3 / V2 ≤ b) :
  W / v ≤ U3 / V2 ∧ U3 / V2 ≤ W / v + 1 := by
 have hv0 : 0 < v := by have := Nat.mul_pos hV hP; omega
 constructor
 ·
  rw [Nat.le_div_iff_mul_le hV]
  have h1 : W / v * v ≤ W := Nat.div_mul_le_self W v
  have h2 : W / v * (V2 * P) ≤ W / v * v := Nat.mul_le_mul_left _ (by omega)
  have h3 : W / v * V2 * P < (U3 + 1) * P := by grind
  have := Nat.lt_of_mul_lt_mul_right h3
  omega
 ·
  rcases Nat.eq_zero_or_pos (U3 / V2) with h0 | h0
  · rw [h0]; exact Nat.zero_le _
  ·
   obtain ⟨p, hp⟩ : ∃ p, U3 / V2 = p + 1 := ⟨U3 / V2 - 1, by omega⟩
   rw [hp]
   have h1 : p ≤ W / v := by
    rw [Nat.le_div_iff_mul_le hv0]
    have h2 : (p + 1) * V2 ≤ U3 := by rw [← hp]; exact Nat.div_mul_le_self U3 V2
    have h3 : p * v ≤ p * ((V2 + 1) * P) := Nat.mul_le_mul_left p (by grind)
    have h4 : p * (V2 + 1) ≤ U3 := by
     have : p * (V2 + 1) = p * V2 + p := by grind
     have : (p + 1) * V2 = p * V2 + V2 := by grind
     omega
    have h5 : p * (V2 + 1) * P ≤ U3 * P := Nat.mul_le_mul_right P h4
    have h6 : p * ((V2 + 1) * P) = p * (V2 + 1) * P := by grind
    omega
   omega
theorem knuth_top {P W v v1 b : Nat} (hv : v < (v1 + 1) * (b * P)) (hv0 : 0 < v) (hW : v1 * (b * (b * P)) ≤ W) (hWv : W < b * v) (hb : b ≤ 2 * v1 + 2) (hb2 : 2 ≤ b) :
  W / v ≤ b - 1 ∧ b - 1 ≤ W / v + 1 := by
 constructor
 ·
  have : W / v < b := by rw [Nat.div_lt_iff_lt_mul hv0]; exact hWv
  omega
 ·
  obtain ⟨c, rfl⟩ : ∃ c, b = c + 2 := ⟨b - 2, by omega⟩
  have h1 : c ≤ W / v := by
   rw [Nat.le_div_iff_mul_le hv0]
   have h2 : c * v ≤ c * ((v1 + 1) * ((c + 2) * P)) := Nat.mul_le_mul_left c (Nat.le_of_lt hv)
   have h3 : c * (v1 + 1) ≤ v1 * (c + 2) := by
    have : c * (v1 + 1) = c * v1 + c := by grind
    have : v1 * (c + 2) = c * v1 + 2 * v1 := by grind
    omega
   have h4 := Nat.mul_le_mul_right ((c + 2) * P) h3
   have h5 : c * ((v1 + 1) * ((c + 2) * P)) = c * (v1 + 1) * ((c + 2) * P) := by grind
   have h6 : v1 * ((c + 2) * ((c + 2) * P)) = v1 * (c + 2) * ((c + 2) * P) := by grind
   omega
  omega
theorem est_fit {W v Q : Nat} (hv : 0 < v) (h1 : W / v ≤ Q) (h2 : Q * v ≤ W) : Q = W / v ∧ W - Q * v = W % v := by
 have h3 : Q ≤ W / v := by rw [Nat.le_div_iff_mul_le hv]; exact h2
 have h4 : Q = W / v := Nat.le_antisymm h3 h1
 refine ⟨h4, ?_⟩
 subst h4
 have := Nat.div_add_mod W v
 rw [Nat.mul_comm] at this
 omega
theorem est_over {W v Q : Nat} (hv : 0 < v) (h1 : Q ≤ W / v + 1) (h2 : W < Q * v) : 1 ≤ Q ∧ Q - 1 = W / v ∧ W + v - Q * v = W % v := by
 have h3 : W / v < Q := by rw [Nat.div_lt_iff_lt_mul hv]; exact h2
 have h6 := Nat.div_add_mod W v
 generalize W / v = q at h1 h3 h6 ⊢
 obtain rfl : Q = q + 1 := by omega
 refine ⟨by omega, by omega, ?_⟩
 have h5 : (q + 1) * v = v * q + v := by grind
 omega
theorem recip {b d m x1 x0 : Nat} (hd : b ≤ 2 * d) (hd2 : d < b) (hM1 : (m + b) * d + 1 ≤ b * b) (hM2 : b * b < (m + b + 1) * d + 1) (hx1 : x1 < d) (hx0 : x0 < b) :
  x1 + (m * x1 + x0) / b < b ∧ d * (x1 + (m * x1 + x0) / b) ≤ x1 * b + x0 ∧ x1 * b + x0 < d * (x1 + (m * x1 + x0) / b) + b + d := by
 have hb : 0 < b := by omega
 have e1 : (m * x1 + x0) / b * b ≤ m * x1 + x0 := Nat.div_mul_le_self _ _
 have e2 : m * x1 + x0 < (m * x1 + x0) / b * b + b := Nat.lt_div_mul_add hb
 generalize (m * x1 + x0) / b = qq at e1 e2 ⊢
 obtain ⟨M, hM⟩ : ∃ M, M = m + b := ⟨_, rfl⟩
 rw [← hM] at hM1 hM2
 have e3 : (x1 + qq) * b ≤ x1 * M + x0 := by rw [hM]; grind
 have e4 : x1 * M + x0 < (x1 + qq) * b + b := by rw [hM]; grind
 have f1 : d * ((x1 + qq) * b) ≤ d * (x1 * M + x0) := Nat.mul_le_mul_left d e3
 have f2 : x1 * (M * d) ≤ x1 * (b * b) := Nat.mul_le_mul_left x1 (by omega)
 have f3 : d * x0 ≤ b * x0 := Nat.mul_le_mul_right x0 (Nat.le_of_lt hd2)
 have g0 : d * (x1 * M + x0) = x1 * (M * d) + d * x0 := by grind
 have low : d * (x1 + qq) ≤ x1 * b + x0 := by
  have h1 : d * (x1 + qq) * b ≤ (x1 * b + x0) * b := by
   have h2 : d * (x1 + qq) * b = d * ((x1 + qq) * b) := by grind
   have h3 : (x1 * b + x0) * b = x1 * (b * b) + b * x0 := by grind
   omega
  exact Nat.le_of_mul_le_mul_right h1 hb
 have f4 : d * (x1 * M + x0) < d * ((x1 + qq) * b + b) := Nat.mul_lt_mul_of_pos_left e4 (by omega)
 have f5 : x1 * (b * b) ≤ x1 * (M * d) + x1 * d := by
  have h1 : (M + 1) * d = M * d + d := by grind
  have h2 := Nat.mul_le_mul_left x1 (show b * b ≤ M * d + d by omega)
  have h3 : x1 * (M * d + d) = x1 * (M * d) + x1 * d := by grind
  omega
 have f6 : x1 * d + d ≤ d * d := by
  have := Nat.mul_le_mul_right d (show x1 + 1 ≤ d from hx1)
  have h3 : (x1 + 1) * d = x1 * d + d := by grind
  omega
 obtain ⟨c, rfl⟩ : ∃ c, b = d + c := ⟨b - d, by omega⟩
 have f7 : d * d ≤ (d + c) * d := Nat.mul_le_mul_right d (by omega)
 have f8 : x0 * c ≤ (d + c) * c := Nat.mul_le_mul_right _ (Nat.le_of_lt hx0)
 have f9 : (d + c) * x0 = d * x0 + x0 * c := by grind
 have up : x1 * (d + c) + x0 < d * (x1 + qq) + (d + c) + d := by
  have h1 : (x1 * (d + c) + x0) * (d + c) < (d * (x1 + qq) + (d + c) + d) * (d + c) := by
   have h2 : (d * (x1 + qq) + (d + c) + d) * (d + c) = d * ((x1 + qq) * (d + c)) + (d + c) * d + (d + c) * c + (d + c) * d := by grind
   have h3 : (x1 * (d + c) + x0) * (d + c) = x1 * ((d + c) * (d + c)) + (d + c) * x0 := by grind
   have h4 : d * ((x1 + qq) * (d + c) + (d + c)) = d * ((x1 + qq) * (d + c)) + (d + c) * d := by grind
   omega
  exact Nat.lt_of_mul_lt_mul_right h1
 refine ⟨?_, low, up⟩
 rcases Nat.lt_or_ge (x1 + qq) (d + c) with h | h
 · exact h
 ·
  have h1 := Nat.mul_le_mul_left d h
  have h2 : (x1 + 1) * (d + c) ≤ d * (d + c) := Nat.mul_le_mul_right _ (show x1 + 1 ≤ d from hx1)
  have h3 : (x1 + 1) * (d + c) = x1 * (d + c) + (d + c) := by grind
  have h4 : x1 * (d + c) + x0 < (x1 + 1) * (d + c) := by rw [h3]; omega
  exact absurd (Nat.lt_of_lt_of_le (Nat.lt_of_le_of_lt (Nat.le_trans h1 low) h4) h2) (Nat.lt_irrefl _)
def lent (x : Nat) : Nat := if x = 0 then 0 else x.log2 + 1
theorem lent_pos {x : Nat} (h : 0 < x) : 2 ^ (lent x - 1) ≤ x ∧ x < 2 ^ lent x ∧ 0 < lent x := by
 unfold lent
 rw [if_neg (by omega), Nat.add_sub_cancel]
 exact ⟨Nat.log2_self_le (by omega), Nat.lt_log2_self, by omega⟩
theorem lent_lt {x n : Nat} (h : x < 2 ^ n) : lent x ≤ n := by
 unfold lent
 split
 · exact Nat.zero_le _
 ·
  rename_i h0
  have := (Nat.log2_lt h0).2 h
  omega
theorem lent_eq {x n : Nat} (h1 : 2 ^ n ≤ x) (h2 : x < 2 ^ (n + 1)) : lent x = n + 1 := by
 have h0 : x ≠ 0 := by have := Nat.two_pow_pos n; omega
 unfold lent
 rw [if_neg h0, (Nat.log2_eq_iff h0).2 ⟨h1, h2⟩]
theorem lent_div {x k : Nat} (h : 2 ^ k ≤ x) : lent x = k + lent (x / 2 ^ k) := by
 have hk := Nat.two_pow_pos k
 have h1 : 0 < x / 2 ^ k := Nat.div_pos h hk
 obtain ⟨h2, h3, h4⟩ := lent_pos h1
 have h5 : lent x = (k + lent (x / 2 ^ k) - 1) + 1 := lent_eq (by
  rw [show k + lent (x / 2 ^ k) - 1 = (lent (x / 2 ^ k) - 1) + k by omega, Nat.pow_add]
  exact (Nat.le_div_iff_mul_le hk).1 h2) (by
  rw [show k + lent (x / 2 ^ k) - 1 + 1 = lent (x / 2 ^ k) + k by omega, Nat.pow_add]
  exact (Nat.div_lt_iff_lt_mul hk).1 h3)
 omega
theorem lent_shift {x : Nat} (h : 0 < x) (hx : x < 18446744073709551616) : 9223372036854775808 ≤ x * 2 ^ (64 - lent x) ∧ x * 2 ^ (64 - lent x) < 18446744073709551616 ∧ lent x ≤ 64 := by
 obtain ⟨h1, h2, h3⟩ := lent_pos h
 have h4 : lent x ≤ 64 := lent_lt (n := 64) hx
 have e1 : (2 : Nat) ^ (lent x - 1) * 2 ^ (64 - lent x) = 9223372036854775808 := by
  rw [← Nat.pow_add, show lent x - 1 + (64 - lent x) = 63 by omega]
 have e2 : (2 : Nat) ^ lent x * 2 ^ (64 - lent x) = 18446744073709551616 := by
  rw [← Nat.pow_add, show lent x + (64 - lent x) = 64 by omega]
 have h5 := Nat.mul_le_mul_right (2 ^ (64 - lent x)) h1
 have h6 := Nat.mul_lt_mul_of_pos_right h2 (Nat.two_pow_pos (64 - lent x))
 omega
theorem lent_top {x : Nat} (h : 9223372036854775808 ≤ x) (hx : x < 18446744073709551616) : lent x = 64 := lent_eq (n := 63) h hx
def len8 : List UInt8 := [0, 1, 2, 2, 3, 3, 3, 3, 4, 4, 4, 4, 4, 4, 4, 4, 5, 5, 5, 5, 5, 5, 5, 5, 5, 5, 5, 5, 5, 5, 5, 5, 6, 6, 6, 6, 6, 6, 6, 6, 6, 6, 6, 6, 6, 6, 6, 6, 6, 6, 6, 6, 6, 6, 6, 6, 6, 6, 6, 6, 6, 6, 6, 6, 7, 7, 7, 7, 7, 7, 7, 7, 7, 7, 7, 7, 7, 7, 7, 7, 7, 7, 7, 7, 7, 7, 7, 7, 7, 7, 7, 7, 7, 7, 7, 7, 7, 7, 7, 7, 7, 7, 7, 7, 7, 7, 7, 7, 7, 7, 7, 7, 7, 7, 7, 7, 7, 7, 7, 7, 7, 7, 7, 7, 7, 7, 7, 7, 8, 8, 8, 8, 8, 8, 8, 8, 8, 8, 8, 8, 8, 8, 8, 8, 8, 8, 8, 8, 8, 8, 8, 8, 8, 8, 8, 8, 8, 8, 8, 8, 8, 8, 8, 8, 8, 8, 8, 8, 8, 8, 8, 8, 8, 8, 8, 8, 8, 8, 8, 8, 8, 8, 8, 8, 8, 8, 8, 8, 8, 8, 8, 8, 8, 8, 8, 8, 8, 8, 8, 8, 8, 8, 8, 8, 8, 8, 8, 8, 8, 8, 8, 8, 8, 8, 8, 8, 8, 8, 8, 8, 8, 8, 8, 8, 8, 8, 8, 8, 8, 8, 8, 8, 8, 8, 8, 8, 8, 8, 8, 8, 8, 8, 8, 8, 8, 8, 8, 8, 8, 8, 8, 8, 8, 8, 8, 8]
set_option maxRecDepth 10000 in
theorem len8_get {x : Nat} (h : x < 256) : (len8.getD x 0).toNat = lent x := by
 have key : ∀ y : Fin 256, (len8.getD y.val 0).toNat = lent y.val := by decide +kernel
 exact key ⟨x, h⟩
theorem len8_int {x : Nat} (h : x < 256) : (((len8.getD x 0).toNat : Nat) : Int) = ((lent x : Nat) : Int) := congrArg _ (len8_get h)
theorem quot_lt {U u b y : Nat} (hU : U < y) (hu : u < b) : (U * b + u) / y < b := by
 rw [Nat.div_lt_iff_lt_mul (by omega)]
 have : (U + 1) * b ≤ y * b := Nat.mul_le_mul_right b hU
 have h2 : (U + 1) * b = U * b + b := by grind
 have h3 : b * y = y * b := Nat.mul_comm _ _
 omega
theorem div_join {A b u y Q R : Nat} (hA : A = Q * y + R) (hy : 0 < y) : (A * b + u) / y = Q * b + (R * b + u) / y ∧ (A * b + u) % y = (R * b + u) % y := by
 have e : A * b + u = (R * b + u) + y * (Q * b) := by rw [hA]; grind
 rw [e, Nat.add_mul_div_left _ _ hy, Nat.add_mul_mod_self_left, Nat.add_comm]
 exact ⟨rfl, rfl⟩
theorem mul32 {x y : Nat} (hx : x < 4294967296) (hy : y < 4294967296) : x * y ≤ 18446744065119617025 := Nat.le_trans (Nat.mul_le_mul (show x ≤ 4294967295 by omega) (show y ≤ 4294967295 by omega)) (by decide)
section
variable {q r v1 v0 y U u : Nat}
theorem r32_first (hy : v1 * 4294967296 + v0 = y) (hv : 0 < v1) (hu : u < 4294967296) : (U * 4294967296 + u) / y ≤ U / v1 := by
 subst hy
 rw [Nat.le_div_iff_mul_le hv]
 have h1 := Nat.div_mul_le_self (U * 4294967296 + u) (v1 * 4294967296 + v0)
 generalize (U * 4294967296 + u) / (v1 * 4294967296 + v0) = Q at h1 ⊢
 have h2 : Q * (v1 * 4294967296) ≤ Q * (v1 * 4294967296 + v0) := Nat.mul_le_mul_left Q (by omega)
 have h3 : Q * (v1 * 4294967296) = Q * v1 * 4294967296 := by grind
 omega
theorem r32_next (hy : v1 * 4294967296 + v0 = y) (hy0 : 0 < y) (hU : U < y) (hu : u < 4294967296) (he : q * v1 + r = U) (hle : (U * 4294967296 + u) / y ≤ q) (hc : 4294967296 ≤ q ∨ 4294967296 * r + u < q * v0) :
  1 ≤ q ∧ (U * 4294967296 + u) / y ≤ q - 1 ∧ (q - 1) * v1 + (r + v1) = U := by
 subst hy
 rcases hc with hc | hc
 · exact ref_big he hc (by decide) hU hu
 · exact ref_step he (by omega) hle hy0
theorem r32_done (hy : v1 * 4294967296 + v0 = y) (hy0 : 0 < y) (he : q * v1 + r = U) (hle : (U * 4294967296 + u) / y ≤ q) (hc : q * v0 ≤ 4294967296 * r + u) : q = (U * 4294967296 + u) / y := by
 subst hy
 exact ref_done he (by omega) hle hy0
theorem r32_break (hy : v1 * 4294967296 + v0 = y) (hy0 : 0 < y) (hv0 : v0 < 4294967296) (hU : U < y) (he : q * v1 + r = U) (hle : (U * 4294967296 + u) / y ≤ q) (hr : 4294967296 ≤ r) : q = (U * 4294967296 + u) / y := by
 subst hy
 obtain ⟨h1, h2⟩ := ref_break u he hU hv0 hr
 exact ref_done he h2 hle hy0
theorem r32_rest (hy0 : 0 < y) (hq : q = (U * 4294967296 + u) / y) : q * y + (U * 4294967296 + u) % y = U * 4294967296 + u ∧ (U * 4294967296 + u) % y < y := by
 subst hq
 exact ⟨ref_start, Nat.mod_lt _ hy0⟩
end
def Recip (m u : Nat) : Prop := (m + 18446744073709551616) * u + 1 ≤ 18446744073709551616 * 18446744073709551616 ∧ 18446744073709551616 * 18446744073709551616 < (m + 18446744073709551616 + 1) * u + 1
theorem recip_of {u : Nat} (hu : 9223372036854775808 ≤ u) (hu2 : u < 18446744073709551616) : Recip (((18446744073709551615 - u) * 18446744073709551616 + 18446744073709551615) / u) u := by
 unfold Recip
 obtain ⟨B, hB⟩ : ∃ B, B = 18446744073709551616 := ⟨_, rfl⟩
 have e1 : 18446744073709551615 = B - 1 := by omega
 rw [e1, ← hB]
 rw [← hB] at hu2
 have h1 := Nat.div_mul_le_self ((B - 1 - u) * B + (B - 1)) u
 have h2 := Nat.lt_div_mul_add (a := (B - 1 - u) * B + (B - 1)) (b := u) (by omega)
 generalize ((B - 1 - u) * B + (B - 1)) / u = m at h1 h2 ⊢
 obtain ⟨c, hc⟩ : ∃ c, B = u + 1 + c := ⟨B - 1 - u, by omega⟩
 have e2 : B - 1 - u = c := by omega
 have e3 : B - 1 = u + c := by omega
 rw [e2, e3] at h1 h2
 have e4 : (m + B) * u = m * u + B * u := by grind
 have e5 : (m + B + 1) * u = m * u + B * u + u := by grind
 have e6 : B * B = c * B + B * u + (u + c) + 1 := by
  have : B * B = B * (u + 1 + c) := by rw [← hc]
  have h3 : B * (u + 1 + c) = B * u + B + B * c := by grind
  have h4 : c * B = B * c := Nat.mul_comm _ _
  omega
 omega
theorem div_scale {X y q R k : Nat} (h : q * (y * k) + R = X * k) (hR : R < y * k) (hk : 0 < k) : q * y + R / k = X ∧ R / k < y := by
  have h1 : R = (X - q * y) * k := by rw [Nat.sub_mul]; have : q * (y * k) = q * y * k := by grind
                                      omega
  have h2 : R / k = X - q * y := by rw [h1, Nat.mul_div_cancel _ hk]
  have h3 : q * y ≤ X := by
    have h4 : q * y * k ≤ X * k := by have : q * (y * k) = q * y * k := by grind
                                      omega
    exact Nat.le_of_mul_le_mul_right h4 hk
  refine ⟨by omega, ?_⟩
  rw [Nat.div_lt_iff_lt_mul hk]
  exact hR
theorem shl_two {x1 x0 y s : Nat} (hs : 0 < s) (hs2 : s < 64) (hx0 : x0 < 18446744073709551616) (h : x1 < y) (hy : y * 2 ^ s < 18446744073709551616) :
  x1 * 2 ^ s < 18446744073709551616 ∧ x0 / 2 ^ (64 - s) < 2 ^ s ∧ x1 * 2 ^ s + x0 / 2 ^ (64 - s) < y * 2 ^ s ∧ 18446744073709551616 * (x1 * 2 ^ s + x0 / 2 ^ (64 - s)) + x0 * 2 ^ s % 18446744073709551616 = (18446744073709551616 * x1 + x0) * 2 ^ s := by
 have hp := Nat.two_pow_pos s
 have hp2 := Nat.two_pow_pos (64 - s)
 have hpp : (2 : Nat) ^ s * 2 ^ (64 - s) = 18446744073709551616 := by rw [← Nat.pow_add, show s + (64 - s) = 64 by omega]
 have h1 : (x1 + 1) * 2 ^ s ≤ y * 2 ^ s := Nat.mul_le_mul_right _ h
 have h2 : (x1 + 1) * 2 ^ s = x1 * 2 ^ s + 2 ^ s := by grind
 have h3 : x0 / 2 ^ (64 - s) < 2 ^ s := by rw [Nat.div_lt_iff_lt_mul hp2, hpp]; exact hx0
 have h4 : x0 * 2 ^ s / 18446744073709551616 = x0 / 2 ^ (64 - s) := by
  rw [← hpp, Nat.mul_comm x0]
  exact Nat.mul_div_mul_left _ _ hp
 have h5 := Nat.div_add_mod (x0 * 2 ^ s) 18446744073709551616
 rw [h4] at h5
 refine ⟨by omega, h3, by omega, ?_⟩
 have h6 : (18446744073709551616 * x1 + x0) * 2 ^ s = 18446744073709551616 * (x1 * 2 ^ s) + x0 * 2 ^ s := by grind
 omega
theorem or_shl {x z s : Nat} (hz : z < 2 ^ s) : x * 2 ^ s ||| z = x * 2 ^ s + z := by
 rw [Nat.mul_comm x, ← Nat.two_pow_add_eq_or_of_lt hz]
theorem recipL {b d m x1 x0 : Nat} (hd : b ≤ 2 * d) (hd2 : d < b) (hM1 : (m + b) * d + 1 ≤ b * b) (hM2 : b * b < (m + b + 1) * d + 1) (hx1 : x1 < d) (hx0 : x0 < b) :
  x1 + (m * x1 + x0) / b < b ∧ d * (x1 + (m * x1 + x0) / b) ≤ b * x1 + x0 ∧ b * x1 + x0 < d * (x1 + (m * x1 + x0) / b) + b + d := by
 rw [Nat.mul_comm b x1]
 exact recip hd hd2 hM1 hM2 hx1 hx0
theorem dw_q {b m X1 X0 t1 t0 z c d qq : Nat} (h1 : b * t1 + t0 = m * X1) (h2 : z + b * c = t0 + X0 + 0) (hz : z < b) (h3 : qq + b * d = t1 + X1 + c) (hq : X1 + (m * X1 + X0) / b < b) (hqq : qq < b) : qq = X1 + (m * X1 + X0) / b := by
 have e : m * X1 + X0 = z + b * (t1 + c) := by rw [← h1]; grind
 have e2 : (m * X1 + X0) / b = t1 + c := by
  rw [e, Nat.add_mul_div_left _ _ (by omega), Nat.div_eq_of_lt hz, Nat.zero_add]
 rw [e2] at hq ⊢
 have hd : d = 0 := by
  rcases Nat.eq_zero_or_pos d with h | h
  · exact h
  ·
   have := Nat.mul_le_mul_left b h
   omega
 subst hd
 omega
theorem dw_r {b X1 X0 D qq dq1 dq0 r0 r1 b1 b2 : Nat} (h1 : b * dq1 + dq0 = D * qq) (h2 : r0 + dq0 + 0 = X0 + b * b1) (h3 : r1 + dq1 + b1 = X1 + b * b2) (hle : D * qq ≤ b * X1 + X0) (hr1 : r1 < b) (hr0 : r0 < b) : D * qq + (b * r1 + r0) = b * X1 + X0 := by
 have e : b * r1 + r0 + D * qq = b * X1 + X0 + b * b * b2 := by rw [← h1]; grind
 have hb2 : b2 = 0 := by
  rcases Nat.eq_zero_or_pos b2 with h | h
  · exact h
  ·
   have h4 := Nat.mul_le_mul_left (b * b) h
   have h5 : b * (r1 + 1) ≤ b * b := Nat.mul_le_mul_left b hr1
   have h6 : b * (r1 + 1) = b * r1 + b := by grind
   omega
 subst hb2
 omega
theorem dw_one {b r1 r0 D : Nat} (h : b * r1 + r0 < b + D) (hD : D < b) : r1 ≤ 1 := by
 rcases Nat.lt_or_ge r1 2 with h1 | h1
 · omega
 ·
  have := Nat.mul_le_mul_left b h1
  omega
theorem dw_fin {D Q R k Rf X b : Nat} (h : D * Q + R = X) (hR : R = k * D + Rf) (hX : X < b * D) : (Q + k) * D + Rf = X ∧ Q + k < b := by
 have e : (Q + k) * D + Rf = X := by rw [← h, hR]; grind
 refine ⟨e, ?_⟩
 have h2 : (Q + k) * D < b * D := by omega
 exact Nat.lt_of_mul_lt_mul_right h2
theorem dw_x {X1 X0 D b : Nat} (h : X1 < D) (h0 : X0 < b) : b * X1 + X0 < b * D := by
 have h1 : b * (X1 + 1) ≤ b * D := Nat.mul_le_mul_left b h
 have h2 : b * (X1 + 1) = b * X1 + b := by grind
 omega
end Go.Proofs.YtmendapdibnbdaaGreatDoor.Mag
