/- Numbers as digits of base 2^32, the lowest first: sums, products, order, division bit by bit. Plain: no program in sight. -/
namespace Go.Proofs.YtmendapdibnbdaaGreatDoor.Mag
set_option linter.unusedVariables false

def pw (n : Nat) : Nat := 4294967296 ^ n
theorem pw_zero : pw 0 = 1 := rfl
theorem pw_succ (n : Nat) : pw (n + 1) = 4294967296 * pw n := by unfold pw; rw [Nat.pow_succ, Nat.mul_comm]
theorem pw_pos (n : Nat) : 0 < pw n := Nat.pow_pos (by decide)
theorem pw_add (a b : Nat) : pw (a + b) = pw a * pw b := Nat.pow_add _ _ _
theorem pw_two (n : Nat) : pw n = 2 ^ (32 * n) := by unfold pw; rw [Nat.pow_mul]

def val : List Nat → Nat
 | [] => 0
 | d :: r => d + 4294967296 * val r
def Dig (xs : List Nat) : Prop := ∀ d ∈ xs, d < 4294967296
def Trim (xs : List Nat) : Prop := xs = [] ∨ xs.getD (xs.length - 1) 0 ≠ 0

theorem val_app (a b : List Nat) : val (a ++ b) = val a + pw a.length * val b := by
 induction a with
 | nil => simp [val, pw]
 | cons d r ih => simp only [List.cons_append, val, ih, List.length_cons, pw_succ]; grind
theorem val_lt {xs : List Nat} (h : Dig xs) : val xs < pw xs.length := by
 induction xs with
 | nil => simp [val, pw]
 | cons d r ih =>
  have h1 := h d (by simp)
  have h2 := ih fun x hx => h x (by simp [hx])
  simp only [val, List.length_cons, pw_succ]
  omega
theorem val_zeros {xs : List Nat} (h : ∀ i, i < xs.length → xs.getD i 0 = 0) : val xs = 0 := by
 induction xs with
 | nil => rfl
 | cons d r ih =>
  have h1 := h 0 (by simp)
  have h2 := ih fun i hi => by have := h (i + 1) (by simpa using hi); simpa using this
  simp only [val, h2]
  simpa using h1
theorem val_take {xs : List Nat} {m : Nat} (h : ∀ i, m ≤ i → i < xs.length → xs.getD i 0 = 0) : val (xs.take m) = val xs := by
 have h1 := val_app (xs.take m) (xs.drop m)
 rw [List.take_append_drop] at h1
 rw [h1, val_zeros (xs := xs.drop m), Nat.mul_zero, Nat.add_zero]
 intro i hi
 rw [List.length_drop] at hi
 have := h (m + i) (by omega) (by omega)
 simpa [List.getD_eq_getElem?_getD] using this
theorem trim_take {xs : List Nat} {m : Nat} (hm : m ≤ xs.length) (h : m = 0 ∨ xs.getD (m - 1) 0 ≠ 0) : Trim (xs.take m) := by
 rcases h with rfl | h
 · exact .inl rfl
 ·
  by_cases h0 : m = 0
  · subst h0; exact .inl rfl
  ·
   refine .inr ?_
   have hl : (xs.take m).length = m := by simp [hm]
   rw [hl]
   rw [List.getD_eq_getElem?_getD] at h ⊢
   rwa [List.getElem?_take_of_lt (by omega)]
theorem trim_ge {xs : List Nat} (h : Trim xs) (hne : xs ≠ []) : pw (xs.length - 1) ≤ val xs := by
 have h' := h.resolve_left hne
 have hl : 0 < xs.length := List.length_pos_iff.2 hne
 have h1 := val_app (xs.take (xs.length - 1)) (xs.drop (xs.length - 1))
 rw [List.take_append_drop] at h1
 have h2 : xs.drop (xs.length - 1) = [xs.getD (xs.length - 1) 0] := by
  rw [List.drop_eq_getElem_cons (by omega), List.drop_of_length_le (by omega)]
  simp [List.getD_eq_getElem?_getD, List.getElem?_eq_getElem (show xs.length - 1 < xs.length by omega)]
 rw [h1, h2]
 have h3 : (xs.take (xs.length - 1)).length = xs.length - 1 := by simp
 rw [h3]
 simp only [val, Nat.mul_zero, Nat.add_zero]
 have h4 : 1 ≤ xs.getD (xs.length - 1) 0 := by omega
 have := Nat.mul_le_mul_left (pw (xs.length - 1)) h4
 omega
theorem pw_le {a b : Nat} (h : a ≤ b) : pw a ≤ pw b := Nat.pow_le_pow_right (by decide) h
theorem val_lt_of_len {xs ys : List Nat} (hx : Dig xs) (hy : Trim ys) (h : xs.length < ys.length) : val xs < val ys := by
 have h1 := val_lt hx
 have h2 := trim_ge hy (by intro h0; subst h0; simp at h)
 have h3 := pw_le (show xs.length ≤ ys.length - 1 by omega)
 omega
theorem dig_take {xs : List Nat} (h : Dig xs) (m : Nat) : Dig (xs.take m) := fun d hd => h d (List.mem_of_mem_take hd)
theorem dig_drop {xs : List Nat} (h : Dig xs) (m : Nat) : Dig (xs.drop m) := fun d hd => h d (List.mem_of_mem_drop hd)
theorem val_split (xs : List Nat) (i : Nat) (h : i < xs.length) : val xs = val (xs.take i) + pw i * (xs.getD i 0 + 4294967296 * val (xs.drop (i + 1))) := by
 have h1 := val_app (xs.take i) (xs.drop i)
 rw [List.take_append_drop, List.drop_eq_getElem_cons h] at h1
 have h2 : (xs.take i).length = i := by simp; omega
 rw [h2] at h1
 rw [h1]
 simp [val, List.getD_eq_getElem?_getD, List.getElem?_eq_getElem h]
theorem val_lt_at {xs ys : List Nat} (hx : Dig xs) (i : Nat) (h : i < xs.length) (hl : xs.length = ys.length) (hd : xs.drop (i + 1) = ys.drop (i + 1)) (hlt : xs.getD i 0 < ys.getD i 0) : val xs < val ys := by
 rw [val_split xs i h, val_split ys i (by omega), hd]
 have h1 := val_lt (dig_take hx i)
 have h2 : (xs.take i).length = i := by simp; omega
 rw [h2] at h1
 have h3 := Nat.mul_le_mul_left (pw i) (show xs.getD i 0 + 4294967296 * val (ys.drop (i + 1)) + 1 ≤ ys.getD i 0 + 4294967296 * val (ys.drop (i + 1)) by omega)
 rw [Nat.mul_add (pw i) _ 1, Nat.mul_one] at h3
 omega
theorem val_eq_zero {xs : List Nat} (h : Trim xs) : val xs = 0 ↔ xs = [] := by
 constructor
 ·
  intro h0
  by_cases hne : xs = []
  · exact hne
  ·
   have := trim_ge h hne
   have := pw_pos (xs.length - 1)
   omega
 · rintro rfl; rfl
theorem drop_step {xs ys : List Nat} {m : Nat} (hx : m < xs.length) (hy : m < ys.length) (h : xs.drop (m + 1) = ys.drop (m + 1)) (he : xs.getD m 0 = ys.getD m 0) : xs.drop m = ys.drop m := by
 rw [List.drop_eq_getElem_cons hx, List.drop_eq_getElem_cons hy, h]
 congr 1
 simpa [List.getD_eq_getElem?_getD, List.getElem?_eq_getElem hx, List.getElem?_eq_getElem hy] using he
theorem getD_out {xs : List Nat} {i : Nat} (h : xs.length ≤ i) : xs.getD i 0 = 0 := by
 rw [List.getD_eq_getElem?_getD, List.getElem?_eq_none h]; rfl
theorem val_drop (xs : List Nat) (i : Nat) : val (xs.drop i) = xs.getD i 0 + 4294967296 * val (xs.drop (i + 1)) := by
 by_cases h : i < xs.length
 ·
  rw [List.drop_eq_getElem_cons h]
  simp [val, List.getD_eq_getElem?_getD, List.getElem?_eq_getElem h]
 ·
  rw [List.drop_of_length_le (by omega), List.drop_of_length_le (by omega), getD_out (by omega)]
  rfl
theorem val_snoc (zs : List Nat) (d : Nat) : val (zs ++ [d]) = val zs + pw zs.length * d := by rw [val_app]; simp [val]
theorem dig_snoc {zs : List Nat} (h : Dig zs) {d : Nat} (hd : d < 4294967296) : Dig (zs ++ [d]) := fun x hx => by
 rcases List.mem_append.1 hx with hx | hx
 · exact h x hx
 · obtain rfl := List.mem_singleton.1 hx; exact hd
theorem dig_set {zs : List Nat} (h : Dig zs) (i : Nat) {d : Nat} (hd : d < 4294967296) : Dig (zs.set i d) := fun x hx => by
 rcases List.mem_or_eq_of_mem_set hx with hx | rfl
 · exact h x hx
 · exact hd
theorem add_alg {z p r q c2 c x y X Y : Nat} (h1 : r + 4294967296 * q = c2) (hc : c2 = c + x + y) :
  z + p * r + 4294967296 * p * (q + X + Y) = z + p * (c + (x + 4294967296 * X) + (y + 4294967296 * Y)) := by
 have h2 : p * (r + 4294967296 * q) = p * (c + x + y) := by rw [h1, hc]
 grind
theorem add_step {zs xs ys : List Nat} {c V : Nat} (h : val zs + pw zs.length * (c + val (xs.drop zs.length) + val (ys.drop zs.length)) = V) (c2 : Nat) (hc : c2 = c + xs.getD zs.length 0 + ys.getD zs.length 0) :
  val (zs ++ [c2 % 4294967296]) + pw (zs.length + 1) * (c2 / 4294967296 + val (xs.drop (zs.length + 1)) + val (ys.drop (zs.length + 1))) = V := by
 rw [val_drop xs, val_drop ys] at h
 rw [val_snoc, pw_succ, ← h]
 have h1 := Nat.mod_add_div c2 4294967296
 exact add_alg h1 hc
theorem val_take_succ (xs : List Nat) (i : Nat) : val (xs.take (i + 1)) = val (xs.take i) + pw i * xs.getD i 0 := by
 by_cases h : i < xs.length
 ·
  have h1 : xs.take (i + 1) = xs.take i ++ [xs.getD i 0] := by
   rw [List.take_succ_eq_append_getElem h, List.getD_eq_getElem?_getD, List.getElem?_eq_getElem h]; rfl
  have h2 : (xs.take i).length = i := by simp; omega
  rw [h1, val_snoc, h2]
 · rw [List.take_of_length_le (by omega), List.take_of_length_le (by omega), getD_out (by omega)]; simp
theorem take_set_ge {zs : List Nat} {i m : Nat} (h : m ≤ i) (d : Nat) : (zs.set i d).take m = zs.take m := by
 apply List.ext_getElem?
 intro j
 simp only [List.getElem?_take, List.getElem?_set]
 by_cases hj : j < m
 ·
  have : ¬ i = j := by omega
  simp [hj, this]
 · simp [hj]
theorem drop_set_lt {zs : List Nat} {i m : Nat} (h : i < m) (d : Nat) : (zs.set i d).drop m = zs.drop m := by
 apply List.ext_getElem?
 intro j
 simp only [List.getElem?_drop, List.getElem?_set]
 have : ¬ i = m + j := by omega
 simp [this]
theorem getD_set_same {zs : List Nat} {i : Nat} (h : i < zs.length) (d : Nat) : (zs.set i d).getD i 0 = d := by
 simp [List.getD_eq_getElem?_getD, h]
theorem getD_of_drop {zs xs : List Nat} {i : Nat} (h : zs.drop i = xs.drop i) : zs.getD i 0 = xs.getD i 0 := by
 have h1 : (zs.drop i)[0]? = (xs.drop i)[0]? := by rw [h]
 simp only [List.getElem?_drop, Nat.add_zero] at h1
 rw [List.getD_eq_getElem?_getD, List.getD_eq_getElem?_getD, h1]
theorem drop_succ_of {zs xs : List Nat} {i : Nat} (h : zs.drop i = xs.drop i) : zs.drop (i + 1) = xs.drop (i + 1) := by
 rw [← List.drop_drop (i := 1) (j := i), ← List.drop_drop (i := 1) (j := i), h]
theorem sub_step {zs xs ys : List Nat} {i b b2 d2 : Nat} (hi : i < zs.length) (hd : zs.drop i = xs.drop i) (h : val (zs.take i) + val (ys.take i) = val (xs.take i) + b * pw i)
  (he : d2 + b + ys.getD i 0 = xs.getD i 0 + 4294967296 * b2) : val ((zs.set i d2).take (i + 1)) + val (ys.take (i + 1)) = val (xs.take (i + 1)) + b2 * pw (i + 1) := by
 rw [val_take_succ, take_set_ge (Nat.le_refl _), getD_set_same hi, val_take_succ ys, val_take_succ xs, pw_succ]
 have h2 : pw i * (d2 + b + ys.getD i 0) = pw i * (xs.getD i 0 + 4294967296 * b2) := by rw [he]
 grind
theorem sub_done {zs xs ys : List Nat} {n b : Nat} (hz : Dig zs) (hzl : zs.length = n) (hxl : xs.length = n) (hyl : ys.length ≤ n) (hle : val ys ≤ val xs) (h : val (zs.take n) + val (ys.take n) = val (xs.take n) + b * pw n) : val zs = val xs - val ys := by
 rw [List.take_of_length_le (by omega), List.take_of_length_le (by omega), List.take_of_length_le (by omega)] at h
 have h1 := val_lt hz
 rw [hzl] at h1
 cases b with
 | zero => omega
 | succ b => rw [Nat.succ_mul] at h; omega
theorem len_le_of_val {xs ys : List Nat} (hx : Dig xs) (ht : Trim ys) (h : val ys ≤ val xs) : ys.length ≤ xs.length := by
 by_cases h1 : xs.length < ys.length
 · have := val_lt_of_len hx ht h1; omega
 · omega
theorem mul_step {zs zs' ys : List Nat} {i k c x t : Nat} (hi : i + k < zs'.length) (hd : zs'.drop (i + k) = zs.drop (i + k))
  (h : val (zs'.take (i + k)) + c * pw (i + k) = val (zs.take (i + k)) + x * val (ys.take k) * pw i) (ht : t = c + (x * ys.getD k 0 + zs'.getD (i + k) 0)) :
  val ((zs'.set (i + k) (t % 4294967296)).take (i + k + 1)) + t / 4294967296 * pw (i + k + 1) = val (zs.take (i + k + 1)) + x * val (ys.take (k + 1)) * pw i := by
 rw [val_take_succ, take_set_ge (Nat.le_refl _), getD_set_same hi, val_take_succ ys, val_take_succ zs, pw_succ, ← getD_of_drop hd]
 have h1 := Nat.mod_add_div t 4294967296
 have h2 : pw (i + k) = pw i * pw k := pw_add i k
 have h3 : pw (i + k) * (t % 4294967296 + 4294967296 * (t / 4294967296)) = pw (i + k) * (c + (x * ys.getD k 0 + zs'.getD (i + k) 0)) := by rw [h1, ht]
 generalize zs'.getD (i + k) 0 = z at *
 generalize ys.getD k 0 = y at *
 generalize t % 4294967296 = r at *
 generalize t / 4294967296 = q at *
 generalize val (zs'.take (i + k)) = Z' at *
 generalize val (zs.take (i + k)) = Z at *
 generalize val (ys.take k) = Y at *
 rw [h2] at *
 generalize pw i = p at *
 generalize pw k = s at *
 grind
theorem mul_row {zs zs' ys : List Nat} {i c x A : Nat} (hi : i + ys.length < zs'.length) (hd : zs'.drop (i + ys.length) = zs.drop (i + ys.length)) (hz : val (zs.drop (i + ys.length)) = 0) (hA : val zs = A * val ys)
  (h : val (zs'.take (i + ys.length)) + c * pw (i + ys.length) = val (zs.take (i + ys.length)) + x * val (ys.take ys.length) * pw i) :
  val (zs'.set (i + ys.length) c) = (A + pw i * x) * val ys ∧ val ((zs'.set (i + ys.length) c).drop (i + 1 + ys.length)) = 0 := by
 have e1 : i + 1 + ys.length = i + ys.length + 1 := by omega
 have h1 : val ((zs'.set (i + ys.length) c).drop (i + 1 + ys.length)) = 0 := by
  rw [e1, drop_set_lt (by omega), drop_succ_of hd]
  have := val_drop zs (i + ys.length)
  omega
 refine ⟨?_, h1⟩
 have h2 := val_app ((zs'.set (i + ys.length) c).take (i + ys.length + 1)) ((zs'.set (i + ys.length) c).drop (i + ys.length + 1))
 rw [List.take_append_drop, ← e1, h1, Nat.mul_zero, Nat.add_zero, e1, val_take_succ, take_set_ge (Nat.le_refl _), getD_set_same hi] at h2
 have h3 := val_app (zs.take (i + ys.length)) (zs.drop (i + ys.length))
 rw [List.take_append_drop, hz, Nat.mul_zero, Nat.add_zero, hA] at h3
 rw [List.take_of_length_le (Nat.le_refl _)] at h
 rw [h2, Nat.mul_comm (pw (i + ys.length)) c, h, ← h3]
 grind
theorem mul_next {zs zt xs ys : List Nat} {i k c n : Nat} (hk : k = ys.length) (hzl : zs.length = n) (hzd : Dig zs) (htl : zt.length = n) (htd : Dig zt) (hcb : c < 4294967296) (hb : i < xs.length ∧ i + ys.length < n)
  (hdr : zt.drop (i + k) = zs.drop (i + k)) (hz0 : val (zs.drop (i + ys.length)) = 0) (hv : val zs = val (xs.take i) * val ys)
  (hvt : val (zt.take (i + k)) + c * pw (i + k) = val (zs.take (i + k)) + xs.getD i 0 * val (ys.take k) * pw i) :
  (zt.set (i + ys.length) c).length = n ∧ Dig (zt.set (i + ys.length) c) ∧ i + 1 ≤ xs.length ∧ val (zt.set (i + ys.length) c) = val (xs.take (i + 1)) * val ys ∧ val ((zt.set (i + ys.length) c).drop (i + 1 + ys.length)) = 0 := by
 subst hk
 have h := mul_row (x := xs.getD i 0) (by omega) hdr hz0 hv hvt
 exact ⟨by rw [List.length_set]; exact htl, dig_set htd _ hcb, by omega, by rw [val_take_succ]; exact h.1, h.2⟩
theorem dig_get {xs : List Nat} (h : Dig xs) (i : Nat) : xs.getD i 0 < 4294967296 := by
 by_cases hi : i < xs.length
 · rw [List.getD_eq_getElem?_getD, List.getElem?_eq_getElem hi]; exact h _ (List.getElem_mem hi)
 · rw [getD_out (by omega)]; decide
theorem val_replicate (n : Nat) : val (List.replicate n 0) = 0 := by
 induction n with
 | zero => rfl
 | succ n ih => simp [List.replicate_succ, val, ih]
theorem dig_replicate (n : Nat) : Dig (List.replicate n 0) := fun d hd => by have := List.eq_of_mem_replicate hd; omega
theorem div_pw {xs : List Nat} (h : Dig xs) (i : Nat) : val xs / pw i = val (xs.drop i) := by
 have h1 := val_app (xs.take i) (xs.drop i)
 rw [List.take_append_drop] at h1
 by_cases hi : i ≤ xs.length
 ·
  rw [List.length_take, Nat.min_eq_left hi] at h1
  have h2 := val_lt (dig_take h i)
  rw [List.length_take, Nat.min_eq_left hi] at h2
  rw [h1, Nat.add_mul_div_left _ _ (pw_pos i), Nat.div_eq_of_lt h2, Nat.zero_add]
 ·
  rw [List.drop_of_length_le (by omega)]
  have h2 := val_lt h
  have h3 := pw_le (a := xs.length) (b := i) (by omega)
  rw [Nat.div_eq_of_lt (by omega)]
  rfl
theorem pow_split (m : Nat) : 2 ^ m = pw (m / 32) * 2 ^ (m % 32) := by
 rw [pw_two, ← Nat.pow_add]
 congr 1
 omega
theorem bit_at {xs : List Nat} (h : Dig xs) (m : Nat) : val xs / 2 ^ m % 2 = xs.getD (m / 32) 0 / 2 ^ (m % 32) % 2 := by
 rw [pow_split, ← Nat.div_div_eq_div_mul, div_pw h, val_drop]
 have h1 : (4294967296 : Nat) = 2 ^ (m % 32) * (2 * 2 ^ (31 - m % 32)) := by
  rw [show (4294967296 : Nat) = 2 ^ 32 by decide, ← Nat.pow_succ', ← Nat.pow_add]
  congr 1
  omega
 generalize val (xs.drop (m / 32 + 1)) = V
 rw [h1, Nat.mul_assoc, Nat.add_mul_div_left _ _ (Nat.two_pow_pos _), Nat.mul_assoc, Nat.add_mul_mod_self_left]
theorem digit_clear {qs : List Nat} (h : Dig qs) (m : Nat) (hz : val qs % 2 ^ (m + 1) = 0) : qs.getD (m / 32) 0 % 2 ^ (m % 32 + 1) = 0 := by
 have h1 : 2 ^ (m + 1) = pw (m / 32) * 2 ^ (m % 32 + 1) := by
  rw [pw_two, ← Nat.pow_add]
  congr 1
  omega
 obtain ⟨k, hk⟩ := Nat.dvd_of_mod_eq_zero hz
 have h2 : val qs / pw (m / 32) = 2 ^ (m % 32 + 1) * k := by rw [hk, h1, Nat.mul_assoc, Nat.mul_div_cancel_left _ (pw_pos _)]
 rw [div_pw h, val_drop] at h2
 have h3 : (4294967296 : Nat) = 2 ^ (m % 32 + 1) * 2 ^ (31 - m % 32) := by
  rw [show (4294967296 : Nat) = 2 ^ 32 by decide, ← Nat.pow_add]
  congr 1
  omega
 have h4 : (qs.getD (m / 32) 0 + 4294967296 * val (qs.drop (m / 32 + 1))) % 2 ^ (m % 32 + 1) = 0 := by rw [h2, Nat.mul_mod_right]
 generalize val (qs.drop (m / 32 + 1)) = V at h4
 rw [h3, Nat.mul_assoc, Nat.add_mul_mod_self_left] at h4
 exact h4
theorem val_set {qs : List Nat} {i : Nat} (hi : i < qs.length) (d : Nat) : val (qs.set i d) + pw i * qs.getD i 0 = val qs + pw i * d := by
 have h1 := val_split qs i hi
 have h2 := val_split (qs.set i d) i (by rw [List.length_set]; exact hi)
 rw [take_set_ge (Nat.le_refl _), getD_set_same hi, drop_set_lt (by omega)] at h2
 rw [h1, h2]
 grind
theorem set_bit {qs : List Nat} {m : Nat} (hi : m / 32 < qs.length) : val (qs.set (m / 32) (qs.getD (m / 32) 0 + 2 ^ (m % 32))) = val qs + 2 ^ m := by
 have h1 := val_set hi (qs.getD (m / 32) 0 + 2 ^ (m % 32))
 rw [Nat.mul_add, ← pow_split] at h1
 omega
theorem digit_bit_lt {q s : Nat} (hq : q < 4294967296) (hs : s < 32) (hz : q % 2 ^ (s + 1) = 0) : q + 2 ^ s < 4294967296 := by
 obtain ⟨k, hk⟩ := Nat.dvd_of_mod_eq_zero hz
 have h3 : (4294967296 : Nat) = 2 ^ (s + 1) * 2 ^ (31 - s) := by
  rw [show (4294967296 : Nat) = 2 ^ 32 by decide, ← Nat.pow_add]
  congr 1
  omega
 have h4 : (2 : Nat) ^ s < 2 ^ (s + 1) := by rw [Nat.pow_succ]; have := Nat.two_pow_pos s; omega
 have h5 : k < 2 ^ (31 - s) := by
  rw [hk, h3] at hq
  exact Nat.lt_of_mul_lt_mul_left hq
 have h6 : 2 ^ (s + 1) * (k + 1) ≤ 2 ^ (s + 1) * 2 ^ (31 - s) := Nat.mul_le_mul_left _ h5
 rw [← h3, Nat.mul_succ, ← hk] at h6
 omega
theorem div_step {X Y Q R m b : Nat} (h : X / 2 ^ (m + 1) = Q / 2 ^ (m + 1) * Y + R) (hz : Q % 2 ^ (m + 1) = 0) (hb : b = X / 2 ^ m % 2) :
  (X / 2 ^ m = Q / 2 ^ m * Y + (2 * R + b) ∧ Q % 2 ^ m = 0) ∧ (Y ≤ 2 * R + b → X / 2 ^ m = (Q + 2 ^ m) / 2 ^ m * Y + (2 * R + b - Y) ∧ (Q + 2 ^ m) % 2 ^ m = 0) := by
 obtain ⟨q, rfl⟩ := Nat.dvd_of_mod_eq_zero hz
 have hp : 0 < 2 ^ m := Nat.two_pow_pos m
 rw [Nat.pow_succ] at h hz ⊢
 rw [Nat.mul_div_cancel_left _ (by omega)] at h
 have h1 : 2 ^ m * 2 * q = 2 ^ m * (2 * q) := by rw [Nat.mul_assoc]
 rw [← Nat.div_div_eq_div_mul] at h
 rw [h1, Nat.mul_div_cancel_left _ hp, Nat.add_div_right _ hp, Nat.mul_div_cancel_left _ hp, Nat.mul_mod_right, Nat.add_mod_right, Nat.mul_mod_right]
 generalize X / 2 ^ m = x at *
 have h2 := Nat.div_add_mod x 2
 refine ⟨⟨?_, rfl⟩, fun hle => ⟨?_, rfl⟩⟩
 · rw [Nat.mul_assoc]; omega
 · rw [Nat.succ_mul, Nat.mul_assoc]; omega
theorem div_next1 {xs qs : List Nat} {m b R S Y : Nat} (hxd : Dig xs) (hqd : Dig qs) (hql : qs.length = xs.length) (hi : m + 1 ≤ 32 * xs.length) (hb : b = xs.getD (m / 32) 0 / 2 ^ (m % 32) % 2)
  (h : val xs / 2 ^ (m + 1) = val qs / 2 ^ (m + 1) * Y + R) (hz : val qs % 2 ^ (m + 1) = 0) (hle : Y ≤ 2 * R + b) (hS : S = 2 * R + b - Y) :
  (qs.set (m / 32) (qs.getD (m / 32) 0 + 2 ^ (m % 32))).length = xs.length ∧ Dig (qs.set (m / 32) (qs.getD (m / 32) 0 + 2 ^ (m % 32))) ∧
  val xs / 2 ^ m = val (qs.set (m / 32) (qs.getD (m / 32) 0 + 2 ^ (m % 32))) / 2 ^ m * Y + S ∧ val (qs.set (m / 32) (qs.getD (m / 32) 0 + 2 ^ (m % 32))) % 2 ^ m = 0 := by
 have h1 := (div_step h hz (hb.trans (bit_at hxd m).symm)).2 hle
 rw [set_bit (by omega), hS]
 exact ⟨by rw [List.length_set]; exact hql, dig_set hqd _ (digit_bit_lt (dig_get hqd _) (Nat.mod_lt _ (by decide)) (digit_clear hqd m hz)), h1⟩
theorem div_next0 {xs qs : List Nat} {m b R S Y : Nat} (hxd : Dig xs) (hqd : Dig qs) (hql : qs.length = xs.length) (hb : b = xs.getD (m / 32) 0 / 2 ^ (m % 32) % 2)
  (h : val xs / 2 ^ (m + 1) = val qs / 2 ^ (m + 1) * Y + R) (hz : val qs % 2 ^ (m + 1) = 0) (hS : S = 2 * R + b) :
  qs.length = xs.length ∧ Dig qs ∧ val xs / 2 ^ m = val qs / 2 ^ m * Y + S ∧ val qs % 2 ^ m = 0 := by
 have h1 := (div_step h hz (hb.trans (bit_at hxd m).symm)).1
 rw [hS]
 exact ⟨hql, hqd, h1⟩
theorem div_done {X Y Q R : Nat} (h : X / 2 ^ 0 = Q / 2 ^ 0 * Y + R) (hR : R < Y) : Q = X / Y ∧ R = X % Y := by
 rw [Nat.pow_zero, Nat.div_one, Nat.div_one] at h
 have h1 : 0 < Y := by omega
 constructor
 · rw [h, Nat.add_comm, Nat.add_mul_div_right _ _ h1, Nat.div_eq_of_lt hR, Nat.zero_add]
 · rw [h, Nat.add_comm, Nat.add_mul_mod_self_right, Nat.mod_eq_of_lt hR]
theorem div_start {xs : List Nat} {n Y : Nat} (h : Dig xs) (hn : n = 32 * xs.length) (k : Nat) : val xs / 2 ^ n = val (List.replicate k 0) / 2 ^ n * Y + val [] ∧ val (List.replicate k 0) % 2 ^ n = 0 := by
 have h1 := val_lt h
 rw [pw_two, ← hn] at h1
 rw [val_replicate, Nat.div_eq_of_lt h1, Nat.zero_div, Nat.zero_mul, Nat.zero_mod]
 exact ⟨rfl, rfl⟩
theorem len_lt_of_val {xs ys : List Nat} (hy : Dig ys) (ht : Trim xs) (h : val xs < val ys) : xs.length ≤ ys.length := len_le_of_val hy ht (Nat.le_of_lt h)
theorem dig_one : Dig [1] := fun d hd => by
 have h1 : d = 1 := by simpa using hd
 omega
theorem len_pos_of_val {xs : List Nat} (h : 0 < val xs) : 0 < xs.length := by
 cases xs with
 | nil => exact absurd h (by simp [val])
 | cons => simp
def sg : Bool → Nat → Int
 | true, x => -(x : Int)
 | false, x => (x : Int)
theorem sg_zero (n : Bool) : sg n 0 = 0 := by cases n <;> rfl
theorem sg_neg (n : Bool) (x : Nat) : sg (!n) x = -sg n x := by cases n <;> simp [sg]
theorem sg_mul (a b : Bool) (x y : Nat) : sg (!(a == b)) (x * y) = sg a x * sg b y := by cases a <;> cases b <;> simp [sg, Int.neg_mul, Int.mul_neg]
theorem sg_same {a b : Bool} (h : a = b) (x y : Nat) : sg a (x + y) = sg a x + sg b y := by subst h; cases a <;> simp [sg] <;> omega
theorem sg_sub1 {a b : Bool} (h : ¬ a = b) {x y : Nat} (hle : y ≤ x) : sg a (x - y) = sg a x + sg b y := by cases a <;> cases b <;> simp [sg] at h ⊢ <;> omega
theorem sg_sub2 {a b : Bool} (h : ¬ a = b) {x y : Nat} (hle : x ≤ y) : sg b (y - x) = sg a x + sg b y := by cases a <;> cases b <;> simp [sg] at h ⊢ <;> omega
theorem sg_tdiv (a b : Bool) (x y : Nat) : sg (!(a == b)) (x / y) = Int.tdiv (sg a x) (sg b y) := by cases a <;> cases b <;> simp [sg]
theorem sg_tmod (a b : Bool) (x y : Nat) : sg a (x % y) = Int.tmod (sg a x) (sg b y) := by cases a <;> cases b <;> simp only [sg, Int.neg_tmod, Int.tmod_neg, Int.ofNat_tmod]
def cmpN (a b : Nat) : Int := if a < b then -1 else if b < a then 1 else 0
theorem cmpN_lt {a b : Nat} (h : a < b) : cmpN a b = -1 := by unfold cmpN; rw [if_pos h]
theorem cmpN_gt {a b : Nat} (h : b < a) : cmpN a b = 1 := by unfold cmpN; rw [if_neg (by omega), if_pos h]
theorem cmpN_eq (a : Nat) : cmpN a a = 0 := by unfold cmpN; rw [if_neg (by omega), if_neg (by omega)]
theorem cmpN_ge {a b : Nat} : cmpN a b ≥ 0 ↔ b ≤ a := by
 unfold cmpN
 by_cases h1 : a < b
 · rw [if_pos h1]; constructor <;> intro h <;> omega
 ·
  rw [if_neg h1]
  by_cases h2 : b < a
  · rw [if_pos h2]; constructor <;> intro h <;> omega
  · rw [if_neg h2]; constructor <;> intro h <;> omega
theorem cmpN_bound (a b : Nat) : -1 ≤ cmpN a b ∧ cmpN a b ≤ 1 := by unfold cmpN; split <;> (try split) <;> decide
theorem val_one : val [1] = 1 := rfl
def cmpZ (a b : Int) : Int := if a < b then -1 else if b < a then 1 else 0
theorem cmpZ_lt0 {a b : Int} : cmpZ a b < 0 ↔ a < b := by
 unfold cmpZ
 by_cases h1 : a < b
 · rw [if_pos h1]; constructor <;> intro h <;> omega
 ·
  rw [if_neg h1]
  by_cases h2 : b < a
  · rw [if_pos h2]; constructor <;> intro h <;> omega
  · rw [if_neg h2]; constructor <;> intro h <;> omega
theorem cmpZ_ge0 {a b : Int} : cmpZ a b ≥ 0 ↔ b ≤ a := by
 have := @cmpZ_lt0 a b
 omega
theorem cmpZ_np {a b : Bool} {x y : Nat} (ha : a = true) (hb : b = false) (hx : 0 < x) : cmpZ (sg a x) (sg b y) = -1 := by
 subst ha hb; unfold cmpZ; rw [if_pos (by simp only [sg]; omega)]
theorem cmpZ_pn {a b : Bool} {x y : Nat} (ha : a = false) (hb : b = true) (hy : 0 < y) : cmpZ (sg a x) (sg b y) = 1 := by
 subst ha hb; unfold cmpZ; rw [if_neg (by simp only [sg]; omega), if_pos (by simp only [sg]; omega)]
theorem cmpZ_pp {a b : Bool} {x y : Nat} (ha : a = false) (hb : b = false) : cmpZ (sg a x) (sg b y) = cmpN x y := by
 subst ha hb; unfold cmpZ cmpN; simp [sg]
theorem cmpZ_nn {a b : Bool} {x y : Nat} (ha : a = true) (hb : b = true) : cmpZ (sg a x) (sg b y) = 0 - cmpN x y := by
 subst ha hb; unfold cmpZ cmpN
 by_cases h1 : x < y
 · rw [if_neg (by simp only [sg]; omega), if_pos (by simp only [sg]; omega), if_pos h1]; rfl
 ·
  by_cases h2 : y < x
  · rw [if_pos (by simp only [sg]; omega), if_neg h1, if_pos h2]; rfl
  · rw [if_neg (by simp only [sg]; omega), if_neg (by simp only [sg]; omega), if_neg h1, if_neg h2]; rfl
theorem val_pow (n : Nat) : val ((List.replicate (n / 32 + 1) 0).set (n / 32) (1 * 2 ^ (n % 32))) = 2 ^ n := by
 have h1 := val_set (qs := List.replicate (n / 32 + 1) 0) (i := n / 32) (by simp) (1 * 2 ^ (n % 32))
 rw [val_replicate, Nat.one_mul, ← pow_split] at h1
 have h2 : (List.replicate (n / 32 + 1) 0).getD (n / 32) 0 = 0 := by simp [List.getD_eq_getElem?_getD]
 rw [h2] at h1
 rw [Nat.one_mul]
 omega
theorem dig_pow (n : Nat) : Dig ((List.replicate (n / 32 + 1) 0).set (n / 32) (1 * 2 ^ (n % 32))) := by
 refine dig_set (dig_replicate _) _ ?_
 have h1 : (2 : Nat) ^ (n % 32) ≤ 2 ^ 31 := Nat.pow_le_pow_right (by decide) (by omega)
 omega
def wval : List Nat → Nat
 | [] => 0
 | x :: r => x + 18446744073709551616 * wval r
theorem wval_take_succ (ws : List Nat) (i : Nat) : wval (ws.take (i + 1)) = wval (ws.take i) + pw (2 * i) * ws.getD i 0 := by
 induction ws generalizing i with
 | nil => simp [wval]
 | cons x r ih =>
  cases i with
  | zero => simp [wval, pw]
  | succ i =>
   rw [List.take_succ_cons, List.take_succ_cons, wval, wval, ih i, show 2 * (i + 1) = 2 * i + 1 + 1 by omega, pw_succ, pw_succ, List.getD_cons_succ]
   generalize wval (r.take i) = V
   generalize r.getD i 0 = d
   generalize pw (2 * i) = p
   grind
theorem from_step {ds ws : List Nat} {i : Nat} (hl : ds.length = 2 * i) (hd : Dig ds) (hv : val ds = wval (ws.take i)) (hw : ws.getD i 0 < 18446744073709551616) :
  (ds ++ [ws.getD i 0 % 4294967296, ws.getD i 0 / 4294967296]).length = 2 * (i + 1) ∧ Dig (ds ++ [ws.getD i 0 % 4294967296, ws.getD i 0 / 4294967296]) ∧ val (ds ++ [ws.getD i 0 % 4294967296, ws.getD i 0 / 4294967296]) = wval (ws.take (i + 1)) := by
 refine ⟨by simp [hl]; omega, fun d h => ?_, ?_⟩
 ·
  rcases List.mem_append.1 h with h | h
  · exact hd d h
  ·
   simp only [List.mem_cons, List.not_mem_nil, or_false] at h
   omega
 ·
  rw [val_app, hv, hl, wval_take_succ]
  have h1 : val [ws.getD i 0 % 4294967296, ws.getD i 0 / 4294967296] = ws.getD i 0 := by simp only [val]; omega
  rw [h1]
def swv (ws : List Nat) : Int := if 0 < ws.length ∧ 9223372036854775808 ≤ ws.getD (ws.length - 1) 0 then (wval ws : Int) - ((2 ^ (64 * ws.length) : Nat) : Int) else (wval ws : Int)
theorem swv_neg {ws : List Nat} (h : 0 < ws.length ∧ 9223372036854775808 ≤ ws.getD (ws.length - 1) 0) : swv ws = (wval ws : Int) - ((2 ^ (64 * ws.length) : Nat) : Int) := if_pos h
theorem swv_pos {ws : List Nat} (h : ¬ (0 < ws.length ∧ 9223372036854775808 ≤ ws.getD (ws.length - 1) 0)) : swv ws = (wval ws : Int) := if_neg h
def wpart (zs : List Nat) (i k : Nat) : Nat := val ((zs.drop (2 * i)).take k)
theorem wpart_zero (zs : List Nat) (i : Nat) : wpart zs i 0 = 0 := by simp [wpart, val]
theorem getD_drop (zs : List Nat) (a k : Nat) : (zs.drop a).getD k 0 = zs.getD (a + k) 0 := by
 simp [List.getD_eq_getElem?_getD, List.getElem?_drop]
theorem wpart_succ (zs : List Nat) (i k : Nat) : wpart zs i (k + 1) = wpart zs i k + pw k * zs.getD (2 * i + k) 0 := by
 unfold wpart
 rw [val_take_succ, getD_drop]
theorem wpart_out {zs : List Nat} {i k : Nat} (h : zs.length ≤ 2 * i + k) : wpart zs i (k + 1) = wpart zs i k := by rw [wpart_succ, getD_out h, Nat.mul_zero, Nat.add_zero]
theorem wpart_lt {zs : List Nat} (h : Dig zs) (i k : Nat) : wpart zs i k < pw k := by
 have h1 := val_lt (dig_take (dig_drop h (2 * i)) k)
 have h2 : pw ((zs.drop (2 * i)).take k).length ≤ pw k := pw_le (by rw [List.length_take]; omega)
 exact Nat.lt_of_lt_of_le h1 h2
theorem take_more (zs : List Nat) (a k : Nat) : val (zs.take (a + k)) = val (zs.take a) + pw a * val ((zs.drop a).take k) := by
 induction k with
 | zero => simp [val]
 | succ k ih => rw [← Nat.add_assoc, val_take_succ, ih, val_take_succ, getD_drop, pw_add]; grind
theorem set_part_zero {ws : List Nat} {zs : List Nat} {i : Nat} (hi : i < ws.length) (h : ws.getD i 0 = 0) : ws.set i (wpart zs i 0) = ws := by
 rw [wpart_zero]
 refine List.ext_getElem (by simp) fun j h1 h2 => ?_
 rw [List.getElem_set]
 split
 ·
  next he =>
  subst he
  rw [← h, List.getD_eq_getElem?_getD, List.getElem?_eq_getElem h2]
  rfl
 · rfl
theorem part_next {ws zs : List Nat} {i n : Nat} (hl : ws.length = n) (hi : i < n) (hd : Dig zs) (hw : ∀ d ∈ ws, d < 18446744073709551616) (hv : wval (ws.take i) = val (zs.take (2 * i))) (hz : ∀ j, i ≤ j → ws.getD j 0 = 0) :
  (ws.set i (wpart zs i 2)).length = n ∧ i + 1 ≤ n ∧ (∀ d ∈ ws.set i (wpart zs i 2), d < 18446744073709551616) ∧ wval ((ws.set i (wpart zs i 2)).take (i + 1)) = val (zs.take (2 * (i + 1))) ∧ ∀ j, i + 1 ≤ j → (ws.set i (wpart zs i 2)).getD j 0 = 0 := by
 refine ⟨by rw [List.length_set]; exact hl, hi, fun d h => ?_, ?_, fun j hj => ?_⟩
 ·
  rcases List.mem_or_eq_of_mem_set h with h | h
  · exact hw d h
  · rw [h]; exact wpart_lt hd i 2
 ·
  rw [wval_take_succ, take_set_ge (Nat.le_refl _), getD_set_same (by omega), hv, show 2 * (i + 1) = 2 * i + 2 by omega, take_more]
  rfl
 ·
  have h := hz j (by omega)
  rw [List.getD_eq_getElem?_getD] at h ⊢
  rw [List.getElem?_set_ne (by omega)]
  exact h
theorem val_take_mod {zs : List Nat} (h : Dig zs) (k : Nat) : val (zs.take k) = val zs % pw k := by
 have h1 := val_app (zs.take k) (zs.drop k)
 rw [List.take_append_drop] at h1
 have h2 := val_lt (dig_take h k)
 by_cases hk : k ≤ zs.length
 ·
  rw [List.length_take, Nat.min_eq_left hk] at h1 h2
  rw [h1, Nat.add_mul_mod_self_left, Nat.mod_eq_of_lt h2]
 ·
  rw [List.take_of_length_le (by omega)] at *
  have h3 := pw_le (a := zs.length) (b := k) (by omega)
  exact (Nat.mod_eq_of_lt (by omega)).symm
theorem pw_words (n : Nat) : pw (2 * n) = 2 ^ (64 * n) := by rw [pw_two]; congr 1; omega
theorem fits_t {a h : Int} (hc : cmpZ a h < 0) : decide (cmpZ a (-h) ≥ 0) = decide (-h ≤ a ∧ a < h) := by
 have h1 := cmpZ_lt0.1 hc
 by_cases h2 : -h ≤ a
 · rw [decide_eq_true (cmpZ_ge0.2 h2), decide_eq_true ⟨h2, h1⟩]
 · rw [decide_eq_false (fun h => h2 (cmpZ_ge0.1 h)), decide_eq_false (fun h => h2 h.1)]
theorem fits_f {a h : Int} (hc : ¬ cmpZ a h < 0) : false = decide (-h ≤ a ∧ a < h) := by
 rw [decide_eq_false (fun h2 => hc (cmpZ_lt0.2 h2.2))]
theorem sg_nonneg {n : Bool} {x : Nat} {z : Int} (hs : n = true → 0 < x) (he : sg n x = z) (hz : 0 ≤ z) : (x : Int) = z := by
 cases n
 · exact he
 ·
  have := hs rfl
  simp only [sg] at he
  omega
theorem tmod_up {a p : Int} (hp : 0 < p) : 0 ≤ Int.tmod a p + p ∧ (Int.tmod a p + p) % p = a % p := by
 have h1 := Int.lt_tmod_of_pos a hp
 refine ⟨by omega, ?_⟩
 rw [Int.add_emod_right]
 have h2 := Int.tmod_add_mul_tdiv a p
 have h3 : a % p = (Int.tmod a p + p * Int.tdiv a p) % p := by rw [h2]
 rw [h3, Int.add_mul_emod_self_left]
theorem words_done {zs ws : List Nat} {n m : Nat} {z a : Int} (hd : Dig zs) (he : m = n) (hz : (val zs : Int) = z) (hm : z % ((2 ^ (64 * n) : Nat) : Int) = a % ((2 ^ (64 * n) : Nat) : Int)) (hl : ws.length = n) (hv : wval (ws.take m) = val (zs.take (2 * m))) : (wval ws : Int) = a % ((2 ^ (64 * n) : Nat) : Int) := by
 subst he
 rw [List.take_of_length_le (by omega), val_take_mod hd, pw_words] at hv
 rw [hv, ← hm, ← hz]
 simp
end Go.Proofs.YtmendapdibnbdaaGreatDoor.Mag
