/- Walks of the program's functions, printed by a program of mine (walk.py) over the words of Stride: each function's contract. -/
import Derived.Test.YtbfbpkcepchldaaRbW
namespace Go.Proofs.Ytbfbpkcepchldaa.Stride
open Go Go.RowKit Go.Proofs.Ytbfbpkcepchldaa.Mag
set_option linter.unusedVariables false
set_option linter.unusedSimpArgs false
theorem u64_or (a b : Nat) (ha : a < 18446744073709551616) (hb : b < 18446744073709551616) : bits .or .u64 (a : Int) (b : Int) = ((a ||| b : Nat) : Int) :=
  (bits_nat .u64 64 (by decide) (fun n h0 h1 => by rw [wrap_u64]; omega) a b ha hb).2
theorem or64 {a b : Nat} (ha : a < 18446744073709551616) (hb : b < 18446744073709551616) : a ||| b < 18446744073709551616 := Nat.or_lt_two_pow (n := 64) ha hb
theorem u8_or (a b : Nat) (ha : a < 256) (hb : b < 256) : bits .or .u8 (a : Int) (b : Int) = ((a ||| b : Nat) : Int) :=
  (bits_nat .u8 8 (by decide) (fun n h0 h1 => by rw [IntKind.wrap_u8]; omega) a b ha hb).2
theorem or8 {a b : Nat} (ha : a < 256) (hb : b < 256) : a ||| b < 256 := Nat.or_lt_two_pow (n := 8) ha hb
theorem u64_bit (x : Nat) (h : x < 18446744073709551616) : bits .and .u64 (x : Int) (1 : Int) = ((x % 2 : Nat) : Int) := by
  have := bits_mask .u64 64 (by decide) (fun n h0 h1 => by rw [wrap_u64]; omega) 1 (by decide) (x : Int) (by omega) (by omega)
  simpa using this
theorem shl64 (a n : Nat) : IntKind.u64.wrap ((a : Int) * 2 ^ n) = ((a * 2 ^ n % 18446744073709551616 : Nat) : Int) := by
  rw [← wrap_u64_nat]; push_cast; rfl
theorem shl8 (a n : Nat) : IntKind.u8.wrap ((a : Int) * 2 ^ n) = ((a * 2 ^ n % 256 : Nat) : Int) := by
  rw [← wrap_u8_nat]; push_cast; rfl
theorem bitT (v i : Nat) : (((v / 2 ^ i % 2 : Nat) : Int) == (1 : Int)) = v.testBit i := by
  rw [Nat.testBit_eq_decide_div_mod_eq]
  rcases Nat.mod_two_eq_zero_or_one (v / 2 ^ i) with h | h <;> rw [h] <;> rfl
theorem bitN_T (xs : List Nat) (i : Nat) : bitN xs i = (xs.getD (i / 8) 0).testBit (i % 8) := bitT _ _
/-- Eight bytes as a word, the lowest first. -/
def le64 (ys : List Nat) : Nat := ys.getD 0 0 ||| ys.getD 1 0 * 256 ||| ys.getD 2 0 * 65536 ||| ys.getD 3 0 * 16777216 ||| ys.getD 4 0 * 4294967296 ||| ys.getD 5 0 * 1099511627776 ||| ys.getD 6 0 * 281474976710656 ||| ys.getD 7 0 * 72057594037927936
theorem byte_hi {x : Nat} (h : x < 256) {i : Nat} (hi : 8 ≤ i) : x.testBit i = false := Nat.testBit_lt_two_pow (Nat.lt_of_lt_of_le h (by have : 2 ^ 8 ≤ 2 ^ i := Nat.pow_le_pow_right (by decide) hi; simpa using this))
theorem le64_bit {ys : List Nat} (h : ∀ i, ys.getD i 0 < 256) {k : Nat} (hk : k < 64) : (le64 ys).testBit k = bitN ys k := by
  rw [bitN_T]
  have e : ∀ x : Nat, (x * 256).testBit k = (decide (8 ≤ k) && x.testBit (k - 8)) ∧ (x * 65536).testBit k = (decide (16 ≤ k) && x.testBit (k - 16)) ∧ (x * 16777216).testBit k = (decide (24 ≤ k) && x.testBit (k - 24)) ∧
      (x * 4294967296).testBit k = (decide (32 ≤ k) && x.testBit (k - 32)) ∧ (x * 1099511627776).testBit k = (decide (40 ≤ k) && x.testBit (k - 40)) ∧ (x * 281474976710656).testBit k = (decide (48 ≤ k) && x.testBit (k - 48)) ∧ (x * 72057594037927936).testBit k = (decide (56 ≤ k) && x.testBit (k - 56)) := fun x =>
    ⟨Nat.testBit_mul_two_pow x k 8, Nat.testBit_mul_two_pow x k 16, Nat.testBit_mul_two_pow x k 24, Nat.testBit_mul_two_pow x k 32, Nat.testBit_mul_two_pow x k 40, Nat.testBit_mul_two_pow x k 48, Nat.testBit_mul_two_pow x k 56⟩
  unfold le64
  simp only [Nat.testBit_or]
  rw [(e _).1, (e _).2.1, (e _).2.2.1, (e _).2.2.2.1, (e _).2.2.2.2.1, (e _).2.2.2.2.2.1, (e _).2.2.2.2.2.2]
  have hq : k = 8 * (k / 8) + k % 8 := by omega
  have hr : k % 8 < 8 := Nat.mod_lt _ (by decide)
  have hk8 : k / 8 < 8 := by omega
  generalize k / 8 = q at hq hk8 ⊢
  generalize k % 8 = r at hq hr ⊢
  subst hq
  have z : ∀ (j m : Nat), 8 ≤ m → (ys.getD j 0).testBit m = false := fun j m hm => byte_hi (h j) hm
  have cases8 : q = 0 ∨ q = 1 ∨ q = 2 ∨ q = 3 ∨ q = 4 ∨ q = 5 ∨ q = 6 ∨ q = 7 := by omega
  have d : ∀ (p : Prop) [Decidable p], ¬ p → decide p = false := fun p _ h => decide_eq_false h
  have t : ∀ (p : Prop) [Decidable p], p → decide p = true := fun p _ h => decide_eq_true h
  have s : ∀ m, 8 * m + r - 8 * m = r := fun m => by omega
  rcases cases8 with rfl | rfl | rfl | rfl | rfl | rfl | rfl | rfl
  · rw [d (8 ≤ _) (by omega), d (16 ≤ _) (by omega), d (24 ≤ _) (by omega), d (32 ≤ _) (by omega), d (40 ≤ _) (by omega), d (48 ≤ _) (by omega), d (56 ≤ _) (by omega)]; simp
  · rw [z 0 _ (by omega), t (8 ≤ _) (by omega), d (16 ≤ _) (by omega), d (24 ≤ _) (by omega), d (32 ≤ _) (by omega), d (40 ≤ _) (by omega), d (48 ≤ _) (by omega), d (56 ≤ _) (by omega)]; simp
  · rw [z 0 _ (by omega), z 1 _ (by omega), t (16 ≤ _) (by omega), d (24 ≤ _) (by omega), d (32 ≤ _) (by omega), d (40 ≤ _) (by omega), d (48 ≤ _) (by omega), d (56 ≤ _) (by omega)]; simp
  · rw [z 0 _ (by omega), z 1 _ (by omega), z 2 _ (by omega), t (24 ≤ _) (by omega), d (32 ≤ _) (by omega), d (40 ≤ _) (by omega), d (48 ≤ _) (by omega), d (56 ≤ _) (by omega)]; simp
  · rw [z 0 _ (by omega), z 1 _ (by omega), z 2 _ (by omega), z 3 _ (by omega), t (32 ≤ _) (by omega), d (40 ≤ _) (by omega), d (48 ≤ _) (by omega), d (56 ≤ _) (by omega)]; simp
  · rw [z 0 _ (by omega), z 1 _ (by omega), z 2 _ (by omega), z 3 _ (by omega), z 4 _ (by omega), t (40 ≤ _) (by omega), d (48 ≤ _) (by omega), d (56 ≤ _) (by omega)]; simp
  · rw [z 0 _ (by omega), z 1 _ (by omega), z 2 _ (by omega), z 3 _ (by omega), z 4 _ (by omega), z 5 _ (by omega), t (48 ≤ _) (by omega), d (56 ≤ _) (by omega)]; simp
  · rw [z 0 _ (by omega), z 1 _ (by omega), z 2 _ (by omega), z 3 _ (by omega), z 4 _ (by omega), z 5 _ (by omega), z 6 _ (by omega), t (56 ≤ _) (by omega)]; simp
theorem le64_lt {ys : List Nat} (h : ∀ i, ys.getD i 0 < 256) : le64 ys < 18446744073709551616 := by
  have h0 := h 0; have h1 := h 1; have h2 := h 2; have h3 := h 3; have h4 := h 4; have h5 := h 5; have h6 := h 6; have h7 := h 7
  exact or64 (or64 (or64 (or64 (or64 (or64 (or64 (by omega) (by omega)) (by omega)) (by omega)) (by omega)) (by omega)) (by omega)) (by omega)
theorem le64_low {ys : List Nat} (h : ∀ i, ys.getD i 0 < 256) : le64 ys % 256 = ys.getD 0 0 := by
  refine Nat.eq_of_testBit_eq fun i => ?_
  rw [show (256 : Nat) = 2 ^ 8 from rfl, Nat.testBit_mod_two_pow]
  by_cases hi : i < 8
  · rw [decide_eq_true hi, Bool.true_and, le64_bit h (by omega), bitN_T, show i / 8 = 0 by omega, show i % 8 = i by omega]
  · rw [decide_eq_false hi, Bool.false_and, byte_hi (h 0) (by omega)]
theorem getD_drop0 (ys : List Nat) (m i : Nat) : (ys.drop m).getD i 0 = ys.getD (m + i) 0 := by simp [List.getD_eq_getElem?_getD, List.getElem?_drop]
theorem getD_take0 {ys : List Nat} {m i : Nat} (h : i < m) : (ys.take m).getD i 0 = ys.getD i 0 := by simp [List.getD_eq_getElem?_getD, List.getElem?_take, h]
theorem bitN_drop (ys : List Nat) (m k : Nat) : bitN (ys.drop m) k = bitN ys (8 * m + k) := by
  rw [bitN_T, bitN_T, getD_drop0, show (8 * m + k) / 8 = m + k / 8 by omega, show (8 * m + k) % 8 = k % 8 by omega]
theorem bitN_take {ys : List Nat} {m k : Nat} (h : k < 8 * m) : bitN (ys.take m) k = bitN ys k := by
  rw [bitN_T, bitN_T, getD_take0 (by omega)]
theorem word_bits {ys : List Nat} (h : ∀ i, ys.getD i 0 < 256) {o k : Nat} (ho : 0 < o) (ho8 : o < 8) (hk : k < 64) :
    (le64 ys / 2 ^ o ||| le64 (ys.drop 8) * 2 ^ (64 - o) % 18446744073709551616).testBit k = bitN ys (o + k) := by
  have h' : ∀ i, (ys.drop 8).getD i 0 < 256 := fun i => by rw [getD_drop0]; exact h _
  rw [Nat.testBit_or, Nat.testBit_div_two_pow, show (18446744073709551616 : Nat) = 2 ^ 64 from rfl, Nat.testBit_mod_two_pow, Nat.testBit_mul_two_pow, decide_eq_true hk, Bool.true_and]
  by_cases hc : k + o < 64
  · rw [le64_bit h hc, decide_eq_false (by omega), Bool.false_and, Bool.or_false, Nat.add_comm]
  · rw [decide_eq_true (by omega), Bool.true_and, le64_bit h' (by omega), bitN_drop, Nat.testBit_lt_two_pow (x := le64 ys) (Nat.lt_of_lt_of_le (le64_lt h) (by have : 2 ^ 64 ≤ 2 ^ (k + o) := Nat.pow_le_pow_right (by decide) (by omega); simpa using this)), Bool.false_or]
    congr 1; omega
theorem byte_bits {c x y o k : Nat} {ys : List Nat} (hc : c = ys.getD 0 0) (hy : y = ys.getD 1 0) (hcb : c < 256) (hyb : y < 256) (ho8 : o < 8) (hk : k < 8) (hx : x = c / 2 ^ o ||| y * 2 ^ (8 - o) % 256) : x.testBit k = bitN ys (o + k) := by
  subst hx
  rw [Nat.testBit_or, Nat.testBit_div_two_pow, show (256 : Nat) = 2 ^ 8 from rfl, Nat.testBit_mod_two_pow, Nat.testBit_mul_two_pow, decide_eq_true hk, Bool.true_and, bitN_T]
  by_cases hc8 : k + o < 8
  · rw [decide_eq_false (by omega), Bool.false_and, Bool.or_false, show (o + k) / 8 = 0 by omega, show (o + k) % 8 = k + o by omega, hc]
  · rw [byte_hi hcb (by omega), decide_eq_true (by omega), Bool.true_and, Bool.false_or, show (o + k) / 8 = 1 by omega, show (o + k) % 8 = k - (8 - o) by omega, hy]
theorem div_le_self' {a n b : Nat} (h : a < b) : a / 2 ^ n < b := Nat.lt_of_le_of_lt (Nat.div_le_self _ _) h
theorem u64_clear (c : Nat) (hc : c < 18446744073709551616) : ∃ m : Nat, bits .andNot .u64 (c : Int) (255 : Int) = ((m : Nat) : Int) ∧ m % 256 = 0 ∧ m < 18446744073709551616 := by
  refine ⟨c &&& 18446744073709551360, ?_, ?_, Nat.lt_of_le_of_lt Nat.and_le_left hc⟩
  · have h1 : bits .andNot .u64 (c : Int) (255 : Int) = bits .and .u64 (c : Int) ((18446744073709551360 : Nat) : Int) := by
      simp only [bits]
      congr 2
    rw [h1]
    exact (bits_nat .u64 64 (by decide) (fun n h0 h1 => by rw [wrap_u64]; omega) c _ hc (by decide)).1
  · refine Nat.eq_of_testBit_eq fun i => ?_
    rw [show (256 : Nat) = 2 ^ 8 from rfl, Nat.testBit_mod_two_pow, Nat.testBit_and, Nat.zero_testBit]
    by_cases hi : i < 8
    · have : Nat.testBit 18446744073709551360 i = false := by
        have h2 : ∀ j : Fin 8, Nat.testBit 18446744073709551360 j.val = false := by decide
        exact h2 ⟨i, hi⟩
      rw [this]; simp
    · rw [decide_eq_false hi]; rfl
theorem or_low {m v : Nat} (hm : m % 256 = 0) (hv : v < 256) : (m ||| v) % 256 = v := by
  refine Nat.eq_of_testBit_eq fun i => ?_
  rw [show (256 : Nat) = 2 ^ 8 from rfl, Nat.testBit_mod_two_pow, Nat.testBit_or]
  by_cases hi : i < 8
  · have h0 : (m % 256).testBit i = false := by rw [hm]; simp
    rw [show (256 : Nat) = 2 ^ 8 from rfl, Nat.testBit_mod_two_pow, decide_eq_true hi, Bool.true_and] at h0
    rw [decide_eq_true hi, h0]; simp
  · rw [decide_eq_false hi, byte_hi hv (by omega)]; rfl
theorem sh64 {x m : Nat} (h : x < 256) (hm : 256 * m ≤ 18446744073709551616) (h0 : 0 < m) : x * m < 18446744073709551616 := Nat.lt_of_lt_of_le (Nat.mul_lt_mul_of_pos_right h h0) hm
theorem Sl.pos {k : IntKind} {B : Nat} {C : Nat → Prop} {w : World} {ad : Option Addr} {cap : Nat} {xs : List Nat} (h : Sl k B C w ad cap xs) (hne : 0 < xs.length) : 0 < w.heap.size := by
  obtain ⟨p, _, _, h3⟩ := h.cells 0 _ (ints_get hne)
  have := World.block_lt_of_cell? w _ h3
  omega
theorem Sl.growX {k : IntKind} {B : Nat} {C : Nat → Prop} {w w' : World} {b : Nat} {ad : Option Addr} {cap : Nat} {xs : List Nat} (h : Sl k B C w ad cap xs) (hk : Keep (fun b => b < w.heap.size) w w') (hb : w.heap.size ≤ b) : Sl k B (GrowX C w w' b) w' ad cap xs := by
  refine ⟨fun i v hi => ?_, h.dig, h.room, h.max⟩
  obtain ⟨p, e1, e2, e3⟩ := h.cells i v hi
  have h3 := World.block_lt_of_cell? w _ e3
  rw [add_block] at h3
  have hs := hk.size
  exact ⟨p, e1, ⟨by omega, by omega, .inl e2⟩, by rw [hk.cell (by rw [add_block]; exact h3)]; exact e3⟩
theorem last_step {v v' o i : Nat} {b : Bool} {ys : List Nat} (hb : b = bitN ys (o + i)) (hi : i < 8) (hv' : v' = if b then v / 2 ||| 128 else v / 2) (hvb : v < 256) (h : ∀ j, j < 8 → v.testBit j = (decide (8 - i ≤ j) && bitN ys (o + (j + i - 8)))) :
    ∀ j, j < 8 → v'.testBit j = (decide (8 - (i + 1) ≤ j) && bitN ys (o + (j + (i + 1) - 8))) := fun j hj => by
  have h0 : (v / 2).testBit j = (decide (8 - (i + 1) ≤ j ∧ j < 7) && bitN ys (o + (j + (i + 1) - 8))) := by
    rw [Nat.testBit_div_two]
    by_cases hj7 : j = 7
    · rw [byte_hi hvb (by omega), decide_eq_false (by omega), Bool.false_and]
    · rw [h (j + 1) (by omega), show j + 1 + i = j + (i + 1) by omega]
      congr 1
      simp only [decide_eq_decide]; omega
  have h1 : Nat.testBit 128 j = decide (j = 7) := by
    have h2 : ∀ j : Fin 8, Nat.testBit 128 j.val = decide (j.val = 7) := by decide
    exact h2 ⟨j, hj⟩
  subst hv'
  by_cases hj7 : j = 7
  · subst hj7
    rw [decide_eq_false (by omega), Bool.false_and] at h0
    rw [decide_eq_true (by omega), Bool.true_and, show o + (7 + (i + 1) - 8) = o + i by omega, ← hb]
    cases b
    · simpa using h0
    · simp only [if_true]; rw [Nat.testBit_or, h0, h1]; rfl
  · have h4 : decide (8 - (i + 1) ≤ j ∧ j < 7) = decide (8 - (i + 1) ≤ j) := by simp only [decide_eq_decide]; omega
    rw [h4] at h0
    cases b
    · simpa using h0
    · simp only [if_true]; rw [Nat.testBit_or, h0, h1, decide_eq_false hj7, Bool.or_false]
theorem last_done {v o t : Nat} {ys : List Nat} (ht : t ≤ 8) (h : ∀ j, j < 8 → v.testBit j = (decide (8 - t ≤ j) && bitN ys (o + (j + t - 8)))) : ∀ j, j < t → (v / 2 ^ (8 - t)).testBit j = bitN ys (o + j) := fun j hj => by
  rw [Nat.testBit_div_two_pow, h _ (by omega), decide_eq_true (by omega), Bool.true_and]
  congr 2; omega
theorem u8_or128' (v : Nat) (hv : v < 256) : bits .or .u8 ((v / 2 : Nat) : Int) (128 : Int) = ((v / 2 ||| 128 : Nat) : Int) := u8_or (v / 2) 128 (by omega) (by decide)


set_option maxHeartbeats 4000000 in
set_option maxRecDepth 100000 in
theorem bytesForBits_spec {C : Nat → Prop} {w : World} {p : Nat} (hp : p ≤ 1000000) :
    Calls P 20 #[.int .i64 ((p : Nat) : Int)] w fun ex w' => ∃ m : Nat, ex = .returned (.int .i64 ((m : Nat) : Int)) ∧ m = (p + 7) / 8 ∧ Keep (fun b => b < w.heap.size) w w' := by
  refine doorN (e := e0) (vs := [.v (.int .i64 ((p : Nat) : Int))]) (n := 6) (m := 1) Try.func20 rfl rfl rfl (by decide) fun a_ hI => ?_
  replace hI : Is 6 [] e0 [(0, .v (.int .i64 ((p : Nat) : Int)))] a_ := hI
  have hR : Rel (fun b => b < w.heap.size) w e0 [] [] w := Rel.start (fun k hk => hk)
  have hB : Base C w C (fun b => b < w.heap.size) w := Base.start
  refine reg_seq tab (k := 0) (hs := []) (sy := []) (ks := [0]) (bs := []) (gs := [])
      (L' := [(0, .v (.int .i64 ((p : Nat) : Int)))])
      (H' := []) (G' := []) (k' := 0) hR hI (by kernel_rfl)
      .nil (fun e1 a1 w1 hag hR hI => ?_)
  refine reg_seq tab (k := 0) (hs := [(1, .nw)]) (sy := []) (ks := [2]) (bs := []) (gs := [])
      (L' := [(2, .v (.int .i64 (((p + 7) / 8 : Nat) : Int)))])
      (H' := []) (G' := []) (k' := 0) hR hI (by kernel_rfl)
      (.cons (inR_i64 (n := ((p : Nat) : Int) + (7 : Int)) (by omega)) (.cons (by decide : (0 : Int) ≤ 3) (.cons (by decide : (3 : Int) ≤ (IntKind.i64.bits : Int)) .nil))) (fun e2 a2 w2 hag hR hI => ?_)
  refine wp_ret ?_
  refine outN tab (xs := [.v (.int .i64 (((p + 7) / 8 : Nat) : Int))]) hR hI rfl (by kernel_rfl) ?_
  exact ⟨_, rfl, rfl, hB.fin hR⟩

set_option maxHeartbeats 4000000 in
set_option maxRecDepth 100000 in
theorem toFromLE_spec {C : Nat → Prop} {w : World} (p : Int) :
    Calls P 21 #[.int .u64 p] w fun ex w' => ex = .returned (.int .u64 p) ∧ Keep (fun b => b < w.heap.size) w w' := by
  refine doorN (e := e0) (vs := [.v (.int .u64 p)]) (n := 4) (m := 1) Try.func21 rfl rfl rfl (by decide) fun a_ hI => ?_
  replace hI : Is 4 [] e0 [(0, .v (.int .u64 p))] a_ := hI
  have hR : Rel (fun b => b < w.heap.size) w e0 [] [] w := Rel.start (fun k hk => hk)
  have hB : Base C w C (fun b => b < w.heap.size) w := Base.start
  refine reg_seq tab (k := 0) (hs := []) (sy := []) (ks := [0]) (bs := []) (gs := [])
      (L' := [(0, .v (.int .u64 p))])
      (H' := []) (G' := []) (k' := 0) hR hI (by kernel_rfl)
      .nil (fun e1 a1 w1 hag hR hI => ?_)
  refine reg_seq tab (k := 0) (hs := []) (sy := []) (ks := [2]) (bs := []) (gs := [])
      (L' := [(2, .v (.int .u64 p))])
      (H' := []) (G' := []) (k' := 0) hR hI (by kernel_rfl)
      .nil (fun e2 a2 w2 hag hR hI => ?_)
  refine wp_ret ?_
  refine outN tab (xs := [.v (.int .u64 p)]) hR hI rfl (by kernel_rfl) ?_
  exact ⟨rfl, hB.fin hR⟩

set_option maxHeartbeats 4000000 in
set_option maxRecDepth 100000 in
theorem getLSB_spec {C : Nat → Prop} {w : World} (p : Nat) :
    Calls P 25 #[.int .u64 ((p : Nat) : Int)] w fun ex w' => ex = .returned (.int .u8 ((p % 256 : Nat) : Int)) ∧ Keep (fun b => b < w.heap.size) w w' := by
  refine doorN (e := e0) (vs := [.v (.int .u64 ((p : Nat) : Int))]) (n := 5) (m := 1) Try.func25 rfl rfl rfl (by decide) fun a_ hI => ?_
  replace hI : Is 5 [] e0 [(0, .v (.int .u64 ((p : Nat) : Int)))] a_ := hI
  have hR : Rel (fun b => b < w.heap.size) w e0 [] [] w := Rel.start (fun k hk => hk)
  have hB : Base C w C (fun b => b < w.heap.size) w := Base.start
  refine reg_seq tab (k := 0) (hs := []) (sy := []) (ks := [0]) (bs := []) (gs := [])
      (L' := [(0, .v (.int .u64 ((p : Nat) : Int)))])
      (H' := []) (G' := []) (k' := 0) hR hI (by kernel_rfl)
      .nil (fun e1 a1 w1 hag hR hI => ?_)
  refine reg_seq tab (k := 0) (hs := [(1, .eq (.int .u8 ((p % 256 : Nat) : Int)))]) (sy := []) (ks := [2]) (bs := []) (gs := [])
      (L' := [(2, .v (.int .u8 ((p % 256 : Nat) : Int)))])
      (H' := []) (G' := []) (k' := 0) hR hI (by kernel_rfl)
      (.cons (congrArg (Value.int .u8) (wrap_u8_nat p : IntKind.u8.wrap ((p : Nat) : Int) = ((p % 256 : Nat) : Int))) .nil) (fun e2 a2 w2 hag hR hI => ?_)
  refine wp_ret ?_
  refine outN tab (xs := [.v (.int .u8 ((p % 256 : Nat) : Int))]) hR hI rfl (by kernel_rfl) ?_
  exact ⟨rfl, hB.fin hR⟩

set_option maxHeartbeats 4000000 in
set_option maxRecDepth 100000 in
theorem assert_spec {C : Nat → Prop} {w : World} (x y : Value) :
    Calls P 24 #[x, y] w fun ex w' => ex = .returned (.tuple #[]) ∧ Keep (fun b => b < w.heap.size) w w' := by
  refine doorN (e := e0) (vs := [.v (x), .v (y)]) (n := 4) (m := 2) Try.func24 rfl rfl rfl (by decide) fun a_ hI => ?_
  replace hI : Is 4 [] e0 [(0, .v (x)), (1, .v (y))] a_ := hI
  have hR : Rel (fun b => b < w.heap.size) w e0 [] [] w := Rel.start (fun k hk => hk)
  have hB : Base C w C (fun b => b < w.heap.size) w := Base.start
  refine wp_skip ?_
  refine outE tab (xs := []) hR hI rfl (by kernel_rfl) ?_
  exact ⟨rfl, hB.fin hR⟩

set_option maxHeartbeats 4000000 in
set_option maxRecDepth 100000 in
theorem uint64_spec0 {C : Nat → Prop} {w : World} {ad : Option Addr} {cap : Nat} {ys : List Nat} (hx : Sl .u8 256 C w ad cap ys) (h8 : 8 ≤ ys.length) :
    Calls P 22 #[.agg #[], .slice ad ys.length cap] w fun ex w' => ex = .returned (.int .u64 ((le64 ys : Nat) : Int)) ∧ Keep (fun b => b < w.heap.size) w w' := by
  refine doorN (e := e0) (vs := [.v (.agg #[]), .v (.slice ad ys.length cap)]) (n := 54) (m := 2) Try.func22 rfl rfl rfl (by decide) fun a_ hI => ?_
  replace hI : Is 54 [] e0 [(0, .v (.agg #[])), (1, .v (.slice ad ys.length cap))] a_ := hI
  have hR : Rel (fun b => b < w.heap.size) w e0 [] [] w := Rel.start (fun k hk => hk)
  have hB : Base C w C (fun b => b < w.heap.size) w := Base.start
  have hrx := hx.room; have hmx := hx.max
  have hg0 := hx.get 0 (by decide)
  have hg1 := hx.get 1 (by decide)
  have hg2 := hx.get 2 (by decide)
  have hg3 := hx.get 3 (by decide)
  have hg4 := hx.get 4 (by decide)
  have hg5 := hx.get 5 (by decide)
  have hg6 := hx.get 6 (by decide)
  have hg7 := hx.get 7 (by decide)
  have hb0 : ys.getD 0 0 < 18446744073709551616 := Nat.lt_trans hg0 (by decide)
  have hb1 : ys.getD 1 0 * 256 < 18446744073709551616 := sh64 hg1 (by decide) (by decide)
  have hb2 : ys.getD 2 0 * 65536 < 18446744073709551616 := sh64 hg2 (by decide) (by decide)
  have hb3 : ys.getD 3 0 * 16777216 < 18446744073709551616 := sh64 hg3 (by decide) (by decide)
  have hb4 : ys.getD 4 0 * 4294967296 < 18446744073709551616 := sh64 hg4 (by decide) (by decide)
  have hb5 : ys.getD 5 0 * 1099511627776 < 18446744073709551616 := sh64 hg5 (by decide) (by decide)
  have hb6 : ys.getD 6 0 * 281474976710656 < 18446744073709551616 := sh64 hg6 (by decide) (by decide)
  have hb7 : ys.getD 7 0 * 72057594037927936 < 18446744073709551616 := sh64 hg7 (by decide) (by decide)
  have ha0 := hb0
  have ha1 := or64 ha0 hb1
  have ha2 := or64 ha1 hb2
  have ha3 := or64 ha2 hb3
  have ha4 := or64 ha3 hb4
  have ha5 := or64 ha4 hb5
  have ha6 := or64 ha5 hb6
  have ha7 := or64 ha6 hb7
  refine reg_seq tab (k := 0) (hs := []) (sy := []) (ks := [1]) (bs := []) (gs := [])
      (L' := [(1, .v (.slice ad ys.length cap))])
      (H' := []) (G' := []) (k' := 1) hR hI (by kernel_rfl)
      .nil (fun e1 a1 w1 hag hR hI => ?_)
  refine reg_seq tab (k := 1) (hs := [(2, .val (.v (.int .u8 ((ys.getD 7 0 : Nat) : Int))))]) (sy := []) (ks := [1]) (bs := []) (gs := [])
      (L' := [(1, .v (.slice ad ys.length cap))])
      (H' := []) (G' := []) (k' := 1) hR hI (by kernel_rfl)
      (.cons (by omega : (0 : Int) ≤ (7 : Int) ∧ (7 : Int) < ((ys.length : Nat) : Int)) (.cons (nats_some (i := 7) (hx.cells.mono hB.cls) (by omega)) (.cons (nats_load (i := 7) (m := 1) (hx.cells.mono hB.cls) (by omega)) .nil))) (fun e2 a2 w2 hag hR hI => ?_)
  refine regQ_seq tab (by kernel_rfl) (k := 1) (hs := [(2, .val (.v (.int .u8 ((ys.getD 0 0 : Nat) : Int)))), (3, .nw), (6, .val (.v (.int .u8 ((ys.getD 1 0 : Nat) : Int)))), (7, .nw), (8, .nw), (9, .eq (.int .u64 ((ys.getD 0 0 ||| ys.getD 1 0 * 256 : Nat) : Int))), (12, .val (.v (.int .u8 ((ys.getD 2 0 : Nat) : Int)))), (13, .nw), (14, .nw), (15, .eq (.int .u64 ((ys.getD 0 0 ||| ys.getD 1 0 * 256 ||| ys.getD 2 0 * 65536 : Nat) : Int))), (18, .val (.v (.int .u8 ((ys.getD 3 0 : Nat) : Int)))), (19, .nw), (20, .nw), (21, .eq (.int .u64 ((ys.getD 0 0 ||| ys.getD 1 0 * 256 ||| ys.getD 2 0 * 65536 ||| ys.getD 3 0 * 16777216 : Nat) : Int))), (24, .val (.v (.int .u8 ((ys.getD 4 0 : Nat) : Int)))), (25, .nw), (26, .nw), (27, .eq (.int .u64 ((ys.getD 0 0 ||| ys.getD 1 0 * 256 ||| ys.getD 2 0 * 65536 ||| ys.getD 3 0 * 16777216 ||| ys.getD 4 0 * 4294967296 : Nat) : Int))), (30, .val (.v (.int .u8 ((ys.getD 5 0 : Nat) : Int)))), (31, .nw), (32, .nw), (33, .eq (.int .u64 ((ys.getD 0 0 ||| ys.getD 1 0 * 256 ||| ys.getD 2 0 * 65536 ||| ys.getD 3 0 * 16777216 ||| ys.getD 4 0 * 4294967296 ||| ys.getD 5 0 * 1099511627776 : Nat) : Int))), (36, .val (.v (.int .u8 ((ys.getD 6 0 : Nat) : Int)))), (37, .nw), (38, .nw), (39, .eq (.int .u64 ((ys.getD 0 0 ||| ys.getD 1 0 * 256 ||| ys.getD 2 0 * 65536 ||| ys.getD 3 0 * 16777216 ||| ys.getD 4 0 * 4294967296 ||| ys.getD 5 0 * 1099511627776 ||| ys.getD 6 0 * 281474976710656 : Nat) : Int))), (42, .val (.v (.int .u8 ((ys.getD 7 0 : Nat) : Int)))), (43, .nw), (44, .nw), (45, .eq (.int .u64 ((ys.getD 0 0 ||| ys.getD 1 0 * 256 ||| ys.getD 2 0 * 65536 ||| ys.getD 3 0 * 16777216 ||| ys.getD 4 0 * 4294967296 ||| ys.getD 5 0 * 1099511627776 ||| ys.getD 6 0 * 281474976710656 ||| ys.getD 7 0 * 72057594037927936 : Nat) : Int)))]) (gs := []) (ks := [4])
      (L' := [(4, .v (.int .u64 ((ys.getD 0 0 ||| ys.getD 1 0 * 256 ||| ys.getD 2 0 * 65536 ||| ys.getD 3 0 * 16777216 ||| ys.getD 4 0 * 4294967296 ||| ys.getD 5 0 * 1099511627776 ||| ys.getD 6 0 * 281474976710656 ||| ys.getD 7 0 * 72057594037927936 : Nat) : Int)))]) hR hI (by kernel_rfl) (fun _ _ _ _ _ h => h) (by kernel_rfl)
      (.cons (by omega : (0 : Int) ≤ (0 : Int) ∧ (0 : Int) < ((ys.length : Nat) : Int)) (.cons (nats_some (i := 0) (hx.cells.mono hB.cls) (by omega)) (.cons (nats_load (i := 0) (m := 1) (hx.cells.mono hB.cls) (by omega)) (.cons (inR_u64 (n := ((ys.getD 0 0 : Nat) : Int)) (by omega)) (.cons (by omega : (0 : Int) ≤ (1 : Int) ∧ (1 : Int) < ((ys.length : Nat) : Int)) (.cons (nats_some (i := 1) (hx.cells.mono hB.cls) (by omega)) (.cons (nats_load (i := 1) (m := 1) (hx.cells.mono hB.cls) (by omega)) (.cons (inR_u64 (n := ((ys.getD 1 0 : Nat) : Int)) (by omega)) (.cons (by decide : (0 : Int) ≤ 8) (.cons (by decide : (8 : Int) ≤ (IntKind.u64.bits : Int)) (.cons (inR_u64 (n := ((ys.getD 1 0 : Nat) : Int) * 256) (by omega)) (.cons (congrArg (Value.int .u64) (u64_or _ _ ha0 hb1 : bits .or .u64 ((ys.getD 0 0 : Nat) : Int) (((ys.getD 1 0) * 256 : Nat) : Int) = ((ys.getD 0 0 ||| ys.getD 1 0 * 256 : Nat) : Int))) (.cons (by omega : (0 : Int) ≤ (2 : Int) ∧ (2 : Int) < ((ys.length : Nat) : Int)) (.cons (nats_some (i := 2) (hx.cells.mono hB.cls) (by omega)) (.cons (nats_load (i := 2) (m := 1) (hx.cells.mono hB.cls) (by omega)) (.cons (inR_u64 (n := ((ys.getD 2 0 : Nat) : Int)) (by omega)) (.cons (by decide : (0 : Int) ≤ 16) (.cons (by decide : (16 : Int) ≤ (IntKind.u64.bits : Int)) (.cons (inR_u64 (n := ((ys.getD 2 0 : Nat) : Int) * 65536) (by omega)) (.cons (congrArg (Value.int .u64) (u64_or _ _ ha1 hb2 : bits .or .u64 ((ys.getD 0 0 ||| ys.getD 1 0 * 256 : Nat) : Int) (((ys.getD 2 0) * 65536 : Nat) : Int) = ((ys.getD 0 0 ||| ys.getD 1 0 * 256 ||| ys.getD 2 0 * 65536 : Nat) : Int))) (.cons (by omega : (0 : Int) ≤ (3 : Int) ∧ (3 : Int) < ((ys.length : Nat) : Int)) (.cons (nats_some (i := 3) (hx.cells.mono hB.cls) (by omega)) (.cons (nats_load (i := 3) (m := 1) (hx.cells.mono hB.cls) (by omega)) (.cons (inR_u64 (n := ((ys.getD 3 0 : Nat) : Int)) (by omega)) (.cons (by decide : (0 : Int) ≤ 24) (.cons (by decide : (24 : Int) ≤ (IntKind.u64.bits : Int)) (.cons (inR_u64 (n := ((ys.getD 3 0 : Nat) : Int) * 16777216) (by omega)) (.cons (congrArg (Value.int .u64) (u64_or _ _ ha2 hb3 : bits .or .u64 ((ys.getD 0 0 ||| ys.getD 1 0 * 256 ||| ys.getD 2 0 * 65536 : Nat) : Int) (((ys.getD 3 0) * 16777216 : Nat) : Int) = ((ys.getD 0 0 ||| ys.getD 1 0 * 256 ||| ys.getD 2 0 * 65536 ||| ys.getD 3 0 * 16777216 : Nat) : Int))) (.cons (by omega : (0 : Int) ≤ (4 : Int) ∧ (4 : Int) < ((ys.length : Nat) : Int)) (.cons (nats_some (i := 4) (hx.cells.mono hB.cls) (by omega)) (.cons (nats_load (i := 4) (m := 1) (hx.cells.mono hB.cls) (by omega)) (.cons (inR_u64 (n := ((ys.getD 4 0 : Nat) : Int)) (by omega)) (.cons (by decide : (0 : Int) ≤ 32) (.cons (by decide : (32 : Int) ≤ (IntKind.u64.bits : Int)) (.cons (inR_u64 (n := ((ys.getD 4 0 : Nat) : Int) * 4294967296) (by omega)) (.cons (congrArg (Value.int .u64) (u64_or _ _ ha3 hb4 : bits .or .u64 ((ys.getD 0 0 ||| ys.getD 1 0 * 256 ||| ys.getD 2 0 * 65536 ||| ys.getD 3 0 * 16777216 : Nat) : Int) (((ys.getD 4 0) * 4294967296 : Nat) : Int) = ((ys.getD 0 0 ||| ys.getD 1 0 * 256 ||| ys.getD 2 0 * 65536 ||| ys.getD 3 0 * 16777216 ||| ys.getD 4 0 * 4294967296 : Nat) : Int))) (.cons (by omega : (0 : Int) ≤ (5 : Int) ∧ (5 : Int) < ((ys.length : Nat) : Int)) (.cons (nats_some (i := 5) (hx.cells.mono hB.cls) (by omega)) (.cons (nats_load (i := 5) (m := 1) (hx.cells.mono hB.cls) (by omega)) (.cons (inR_u64 (n := ((ys.getD 5 0 : Nat) : Int)) (by omega)) (.cons (by decide : (0 : Int) ≤ 40) (.cons (by decide : (40 : Int) ≤ (IntKind.u64.bits : Int)) (.cons (inR_u64 (n := ((ys.getD 5 0 : Nat) : Int) * 1099511627776) (by omega)) (.cons (congrArg (Value.int .u64) (u64_or _ _ ha4 hb5 : bits .or .u64 ((ys.getD 0 0 ||| ys.getD 1 0 * 256 ||| ys.getD 2 0 * 65536 ||| ys.getD 3 0 * 16777216 ||| ys.getD 4 0 * 4294967296 : Nat) : Int) (((ys.getD 5 0) * 1099511627776 : Nat) : Int) = ((ys.getD 0 0 ||| ys.getD 1 0 * 256 ||| ys.getD 2 0 * 65536 ||| ys.getD 3 0 * 16777216 ||| ys.getD 4 0 * 4294967296 ||| ys.getD 5 0 * 1099511627776 : Nat) : Int))) (.cons (by omega : (0 : Int) ≤ (6 : Int) ∧ (6 : Int) < ((ys.length : Nat) : Int)) (.cons (nats_some (i := 6) (hx.cells.mono hB.cls) (by omega)) (.cons (nats_load (i := 6) (m := 1) (hx.cells.mono hB.cls) (by omega)) (.cons (inR_u64 (n := ((ys.getD 6 0 : Nat) : Int)) (by omega)) (.cons (by decide : (0 : Int) ≤ 48) (.cons (by decide : (48 : Int) ≤ (IntKind.u64.bits : Int)) (.cons (inR_u64 (n := ((ys.getD 6 0 : Nat) : Int) * 281474976710656) (by omega)) (.cons (congrArg (Value.int .u64) (u64_or _ _ ha5 hb6 : bits .or .u64 ((ys.getD 0 0 ||| ys.getD 1 0 * 256 ||| ys.getD 2 0 * 65536 ||| ys.getD 3 0 * 16777216 ||| ys.getD 4 0 * 4294967296 ||| ys.getD 5 0 * 1099511627776 : Nat) : Int) (((ys.getD 6 0) * 281474976710656 : Nat) : Int) = ((ys.getD 0 0 ||| ys.getD 1 0 * 256 ||| ys.getD 2 0 * 65536 ||| ys.getD 3 0 * 16777216 ||| ys.getD 4 0 * 4294967296 ||| ys.getD 5 0 * 1099511627776 ||| ys.getD 6 0 * 281474976710656 : Nat) : Int))) (.cons (by omega : (0 : Int) ≤ (7 : Int) ∧ (7 : Int) < ((ys.length : Nat) : Int)) (.cons (nats_some (i := 7) (hx.cells.mono hB.cls) (by omega)) (.cons (nats_load (i := 7) (m := 1) (hx.cells.mono hB.cls) (by omega)) (.cons (inR_u64 (n := ((ys.getD 7 0 : Nat) : Int)) (by omega)) (.cons (by decide : (0 : Int) ≤ 56) (.cons (by decide : (56 : Int) ≤ (IntKind.u64.bits : Int)) (.cons (inR_u64 (n := ((ys.getD 7 0 : Nat) : Int) * 72057594037927936) (by omega)) (.cons (congrArg (Value.int .u64) (u64_or _ _ ha6 hb7 : bits .or .u64 ((ys.getD 0 0 ||| ys.getD 1 0 * 256 ||| ys.getD 2 0 * 65536 ||| ys.getD 3 0 * 16777216 ||| ys.getD 4 0 * 4294967296 ||| ys.getD 5 0 * 1099511627776 ||| ys.getD 6 0 * 281474976710656 : Nat) : Int) (((ys.getD 7 0) * 72057594037927936 : Nat) : Int) = ((ys.getD 0 0 ||| ys.getD 1 0 * 256 ||| ys.getD 2 0 * 65536 ||| ys.getD 3 0 * 16777216 ||| ys.getD 4 0 * 4294967296 ||| ys.getD 5 0 * 1099511627776 ||| ys.getD 6 0 * 281474976710656 ||| ys.getD 7 0 * 72057594037927936 : Nat) : Int))) .nil)))))))))))))))))))))))))))))))))))))))))))))))))))))))))))) (by kernel_rfl) (by kernel_rfl) (fun e3 a3 w3 hag hR hI => ?_)
  refine wp_ret ?_
  refine outN tab (xs := [.v (.int .u64 ((ys.getD 0 0 ||| ys.getD 1 0 * 256 ||| ys.getD 2 0 * 65536 ||| ys.getD 3 0 * 16777216 ||| ys.getD 4 0 * 4294967296 ||| ys.getD 5 0 * 1099511627776 ||| ys.getD 6 0 * 281474976710656 ||| ys.getD 7 0 * 72057594037927936 : Nat) : Int))]) hR hI rfl (by kernel_rfl) ?_
  exact ⟨rfl, hB.fin hR⟩

theorem uint64_spec {C : Nat → Prop} {w : World} {ad : Option Addr} {cap l : Nat} {ys : List Nat} (hx : Sl .u8 256 C w ad cap ys) (h8 : 8 ≤ ys.length) (hl : l = ys.length) :
    Calls P 22 #[.agg #[], .slice ad l cap] w fun ex w' => ex = .returned (.int .u64 ((le64 ys : Nat) : Int)) ∧ Keep (fun b => b < w.heap.size) w w' := by
  subst hl
  exact uint64_spec0 hx h8
theorem g0_load {F : Nat → Prop} {w : World} (hF0 : F 0) : ∃ a, (some ⟨0, 0, none⟩ : Option Addr) = some a ∧ loadsAt w a (.agg #[]) true ∧ (true = true → (Value.agg #[]).cells.size = 0) ∧ F a.block :=
  ⟨_, rfl, ⟨#[], rfl, fun j u h => by simp at h⟩, fun _ => rfl, hF0⟩

set_option maxHeartbeats 4000000 in
set_option maxRecDepth 100000 in
theorem setLSB_spec {C : Nat → Prop} {w : World} {b : Nat} {ad : Option Addr} {ln cap off nw tb tby cur : Nat} {v : Nat} (hb : w.heap[b]? = some (.cells #[.slice ad ln cap, .int .i64 ((off : Nat) : Int), .int .i64 ((nw : Nat) : Int), .int .i64 ((tb : Nat) : Int), .int .i64 ((tby : Nat) : Int), .int .u64 ((cur : Nat) : Int)] 48 (0, 0))) (hCb : ¬ C b) (hc : cur < 18446744073709551616) (hv : v < 256) :
    Calls P 23 #[.pointer (some ⟨b, 5, none⟩), .int .u8 ((v : Nat) : Int)] w fun ex w' => ∃ c : Nat, ex = .returned (.tuple #[]) ∧ Keep (But b w) w w' ∧ w'.heap[b]? = some (.cells #[.slice ad ln cap, .int .i64 ((off : Nat) : Int), .int .i64 ((nw : Nat) : Int), .int .i64 ((tb : Nat) : Int), .int .i64 ((tby : Nat) : Int), .int .u64 ((c : Nat) : Int)] 48 (0, 0)) ∧ c % 256 = v ∧ c < 18446744073709551616 := by
  refine doorN (e := e0.addB 0 b) (vs := [.p 0 5, .v (.int .u8 ((v : Nat) : Int))]) (n := 13) (m := 2) Try.func23 rfl rfl rfl (by decide) fun a_ hI => ?_
  replace hI : Is 13 [] (e0.addB 0 b) [(0, .p 0 5), (1, .v (.int .u8 ((v : Nat) : Int)))] a_ := hI
  have hR : Rel (But b w) w (e0.addB 0 b) [⟨0, 48, [.v (.slice ad ln cap), .v (.int .i64 ((off : Nat) : Int)), .v (.int .i64 ((nw : Nat) : Int)), .v (.int .i64 ((tb : Nat) : Int)), .v (.int .i64 ((tby : Nat) : Int)), .v (.int .u64 ((cur : Nat) : Int))]⟩] [] w := Rel.startB hb (fun k h => h.1) (fun h => h.2 rfl)
  have hbk : (e0.addB 0 b).b 0 = b := addB_b _ _ _
  have hB : BaseD (But b w) C w C (But b w) w := BaseD.start (fun k hC hlt => ⟨hlt, fun he => hCb (he ▸ hC)⟩)
  obtain ⟨m, hm, hm0, hmb⟩ := u64_clear cur hc
  refine reg_all tab (k := 1) (hs := [(4, .eq (.int .u64 ((m : Nat) : Int))), (6, .nw), (7, .eq (.int .u64 ((m ||| v : Nat) : Int)))]) (sy := []) (ks := []) (bs := [0]) (gs := [])
      (L' := [])
      (H' := [⟨0, 48, [.v (.slice ad ln cap), .v (.int .i64 ((off : Nat) : Int)), .v (.int .i64 ((nw : Nat) : Int)), .v (.int .i64 ((tb : Nat) : Int)), .v (.int .i64 ((tby : Nat) : Int)), .v (.int .u64 ((m ||| v : Nat) : Int))]⟩]) (G' := []) (k' := 1) hR hI (by kernel_rfl)
      (.cons (congrArg (Value.int .u64) (hm : bits .andNot .u64 ((cur : Nat) : Int) (255 : Int) = ((m : Nat) : Int))) (.cons (inR_u64 (n := ((v : Nat) : Int)) (by omega)) (.cons (congrArg (Value.int .u64) (u64_or m v hmb (by omega) : bits .or .u64 ((m : Nat) : Int) ((v : Nat) : Int) = ((m ||| v : Nat) : Int))) .nil))) (fun e1 a1 w1 hag hR hI => ?_)
  replace hbk := (hag 0 (by decide)).1.trans hbk
  refine outE tab (xs := []) hR hI rfl (by kernel_rfl) ?_
  exact ⟨m ||| v, rfl, hB.fin hR, hbk ▸ (hR.blk _ (List.mem_cons_self ..)).1, or_low hm0 hv, or64 hmb (by omega)⟩

set_option maxHeartbeats 4000000 in
set_option maxRecDepth 100000 in
theorem words_spec {C : Nat → Prop} {w : World} {b : Nat} {ad : Option Addr} {ln cap off nw tb tby cur : Nat} (hb : w.heap[b]? = some (.cells #[.slice ad ln cap, .int .i64 ((off : Nat) : Int), .int .i64 ((nw : Nat) : Int), .int .i64 ((tb : Nat) : Int), .int .i64 ((tby : Nat) : Int), .int .u64 ((cur : Nat) : Int)] 48 (0, 0))) (hCb : ¬ C b) :
    Calls P 16 #[.pointer (some ⟨b, 0, none⟩)] w fun ex w' => ex = .returned (.int .i64 ((nw : Nat) : Int)) ∧ Keep (But b w) w w' ∧ w'.heap[b]? = some (.cells #[.slice ad ln cap, .int .i64 ((off : Nat) : Int), .int .i64 ((nw : Nat) : Int), .int .i64 ((tb : Nat) : Int), .int .i64 ((tby : Nat) : Int), .int .u64 ((cur : Nat) : Int)] 48 (0, 0)) := by
  refine doorN (e := e0.addB 0 b) (vs := [.p 0 0]) (n := 7) (m := 1) Try.func16 rfl rfl rfl (by decide) fun a_ hI => ?_
  replace hI : Is 7 [] (e0.addB 0 b) [(0, .p 0 0)] a_ := hI
  have hR : Rel (But b w) w (e0.addB 0 b) [⟨0, 48, [.v (.slice ad ln cap), .v (.int .i64 ((off : Nat) : Int)), .v (.int .i64 ((nw : Nat) : Int)), .v (.int .i64 ((tb : Nat) : Int)), .v (.int .i64 ((tby : Nat) : Int)), .v (.int .u64 ((cur : Nat) : Int))]⟩] [] w := Rel.startB hb (fun k h => h.1) (fun h => h.2 rfl)
  have hbk : (e0.addB 0 b).b 0 = b := addB_b _ _ _
  have hB : BaseD (But b w) C w C (But b w) w := BaseD.start (fun k hC hlt => ⟨hlt, fun he => hCb (he ▸ hC)⟩)
  refine reg_seq tab (k := 1) (hs := []) (sy := []) (ks := [0]) (bs := [0]) (gs := [])
      (L' := [(0, .p 0 0)])
      (H' := [⟨0, 48, [.v (.slice ad ln cap), .v (.int .i64 ((off : Nat) : Int)), .v (.int .i64 ((nw : Nat) : Int)), .v (.int .i64 ((tb : Nat) : Int)), .v (.int .i64 ((tby : Nat) : Int)), .v (.int .u64 ((cur : Nat) : Int))]⟩]) (G' := []) (k' := 1) hR hI (by kernel_rfl)
      .nil (fun e1 a1 w1 hag hR hI => ?_)
  replace hbk := (hag 0 (by decide)).1.trans hbk
  refine reg_seq tab (k := 1) (hs := []) (sy := []) (ks := [2]) (bs := [0]) (gs := [])
      (L' := [(2, .v (.int .i64 ((nw : Nat) : Int)))])
      (H' := [⟨0, 48, [.v (.slice ad ln cap), .v (.int .i64 ((off : Nat) : Int)), .v (.int .i64 ((nw : Nat) : Int)), .v (.int .i64 ((tb : Nat) : Int)), .v (.int .i64 ((tby : Nat) : Int)), .v (.int .u64 ((cur : Nat) : Int))]⟩]) (G' := []) (k' := 1) hR hI (by kernel_rfl)
      .nil (fun e2 a2 w2 hag hR hI => ?_)
  replace hbk := (hag 0 (by decide)).1.trans hbk
  refine wp_ret ?_
  refine outN tab (xs := [.v (.int .i64 ((nw : Nat) : Int))]) hR hI rfl (by kernel_rfl) ?_
  exact ⟨rfl, hB.fin hR, hbk ▸ (hR.blk _ (List.mem_cons_self ..)).1⟩

set_option maxHeartbeats 4000000 in
set_option maxRecDepth 100000 in
theorem trailingBytes_spec {C : Nat → Prop} {w : World} {b : Nat} {ad : Option Addr} {ln cap off nw tb tby cur : Nat} (hb : w.heap[b]? = some (.cells #[.slice ad ln cap, .int .i64 ((off : Nat) : Int), .int .i64 ((nw : Nat) : Int), .int .i64 ((tb : Nat) : Int), .int .i64 ((tby : Nat) : Int), .int .u64 ((cur : Nat) : Int)] 48 (0, 0))) (hCb : ¬ C b) :
    Calls P 18 #[.pointer (some ⟨b, 0, none⟩)] w fun ex w' => ex = .returned (.int .i64 ((tby : Nat) : Int)) ∧ Keep (But b w) w w' ∧ w'.heap[b]? = some (.cells #[.slice ad ln cap, .int .i64 ((off : Nat) : Int), .int .i64 ((nw : Nat) : Int), .int .i64 ((tb : Nat) : Int), .int .i64 ((tby : Nat) : Int), .int .u64 ((cur : Nat) : Int)] 48 (0, 0)) := by
  refine doorN (e := e0.addB 0 b) (vs := [.p 0 0]) (n := 7) (m := 1) Try.func18 rfl rfl rfl (by decide) fun a_ hI => ?_
  replace hI : Is 7 [] (e0.addB 0 b) [(0, .p 0 0)] a_ := hI
  have hR : Rel (But b w) w (e0.addB 0 b) [⟨0, 48, [.v (.slice ad ln cap), .v (.int .i64 ((off : Nat) : Int)), .v (.int .i64 ((nw : Nat) : Int)), .v (.int .i64 ((tb : Nat) : Int)), .v (.int .i64 ((tby : Nat) : Int)), .v (.int .u64 ((cur : Nat) : Int))]⟩] [] w := Rel.startB hb (fun k h => h.1) (fun h => h.2 rfl)
  have hbk : (e0.addB 0 b).b 0 = b := addB_b _ _ _
  have hB : BaseD (But b w) C w C (But b w) w := BaseD.start (fun k hC hlt => ⟨hlt, fun he => hCb (he ▸ hC)⟩)
  refine reg_seq tab (k := 1) (hs := []) (sy := []) (ks := [0]) (bs := [0]) (gs := [])
      (L' := [(0, .p 0 0)])
      (H' := [⟨0, 48, [.v (.slice ad ln cap), .v (.int .i64 ((off : Nat) : Int)), .v (.int .i64 ((nw : Nat) : Int)), .v (.int .i64 ((tb : Nat) : Int)), .v (.int .i64 ((tby : Nat) : Int)), .v (.int .u64 ((cur : Nat) : Int))]⟩]) (G' := []) (k' := 1) hR hI (by kernel_rfl)
      .nil (fun e1 a1 w1 hag hR hI => ?_)
  replace hbk := (hag 0 (by decide)).1.trans hbk
  refine reg_seq tab (k := 1) (hs := []) (sy := []) (ks := [2]) (bs := [0]) (gs := [])
      (L' := [(2, .v (.int .i64 ((tby : Nat) : Int)))])
      (H' := [⟨0, 48, [.v (.slice ad ln cap), .v (.int .i64 ((off : Nat) : Int)), .v (.int .i64 ((nw : Nat) : Int)), .v (.int .i64 ((tb : Nat) : Int)), .v (.int .i64 ((tby : Nat) : Int)), .v (.int .u64 ((cur : Nat) : Int))]⟩]) (G' := []) (k' := 1) hR hI (by kernel_rfl)
      .nil (fun e2 a2 w2 hag hR hI => ?_)
  replace hbk := (hag 0 (by decide)).1.trans hbk
  refine wp_ret ?_
  refine outN tab (xs := [.v (.int .i64 ((tby : Nat) : Int))]) hR hI rfl (by kernel_rfl) ?_
  exact ⟨rfl, hB.fin hR, hbk ▸ (hR.blk _ (List.mem_cons_self ..)).1⟩

set_option maxHeartbeats 4000000 in
set_option maxRecDepth 100000 in
theorem nextWord_spec {C : Nat → Prop} {w : World} {b : Nat} {q : Addr} {cap off nw tb tby : Nat} {ys : List Nat} (hb : w.heap[b]? = some (.cells #[.slice (some q) ys.length cap, .int .i64 ((off : Nat) : Int), .int .i64 ((nw : Nat) : Int), .int .i64 ((tb : Nat) : Int), .int .i64 ((tby : Nat) : Int), .int .u64 ((le64 ys : Nat) : Int)] 48 (0, 0))) (hCb : ¬ C b) (hy : Sl .u8 256 C w (some q) cap ys) (hl : 16 ≤ ys.length) (ho8 : off < 8) (hw0 : 0 < w.heap.size) (hb0 : b ≠ 0) :
    Calls P 17 #[.pointer (some ⟨b, 0, none⟩)] w fun ex w' => ∃ v : Nat, ex = .returned (.int .u64 ((v : Nat) : Int)) ∧ Keep (But b w) w w' ∧ w'.heap[b]? = some (.cells #[.slice (some (q.add 8)) (ys.length - 8) (cap - 8), .int .i64 ((off : Nat) : Int), .int .i64 ((nw : Nat) : Int), .int .i64 ((tb : Nat) : Int), .int .i64 ((tby : Nat) : Int), .int .u64 ((le64 (ys.drop 8) : Nat) : Int)] 48 (0, 0)) ∧ v < 18446744073709551616 ∧ ∀ k, k < 64 → v.testBit k = bitN ys (off + k) := by
  refine doorN (e := e0.addB 0 b) (vs := [.p 0 0]) (n := 50) (m := 1) Try.func17 rfl rfl rfl (by decide) fun a_ hI => ?_
  replace hI : Is 50 [] (e0.addB 0 b) [(0, .p 0 0)] a_ := hI
  have hR : Rel (But b w) w (e0.addB 0 b) [⟨0, 48, [.v (.slice (some q) ys.length cap), .v (.int .i64 ((off : Nat) : Int)), .v (.int .i64 ((nw : Nat) : Int)), .v (.int .i64 ((tb : Nat) : Int)), .v (.int .i64 ((tby : Nat) : Int)), .v (.int .u64 ((le64 ys : Nat) : Int))]⟩] [] w := Rel.startB hb (fun k h => h.1) (fun h => h.2 rfl)
  have hbk : (e0.addB 0 b).b 0 = b := addB_b _ _ _
  have hB : BaseD (But b w) C w C (But b w) w := BaseD.start (fun k hC hlt => ⟨hlt, fun he => hCb (he ▸ hC)⟩)
  have hry := hy.room; have hmy := hy.max; have hg := fun i => hy.get i (by decide); have hF0 : But b w 0 := ⟨hw0, fun h => hb0 h.symm⟩; have hd8 : (ys.drop 8).length = ys.length - 8 := List.length_drop; have hg8 : le64 (ys.drop 8) < 18446744073709551616 := le64_lt (fun i => by rw [getD_drop0]; exact hg _)
  refine reg_seq tab (k := 1) (hs := []) (sy := []) (ks := [0]) (bs := [0]) (gs := [])
      (L' := [(0, .p 0 0)])
      (H' := [⟨0, 48, [.v (.slice (some q) ys.length cap), .v (.int .i64 ((off : Nat) : Int)), .v (.int .i64 ((nw : Nat) : Int)), .v (.int .i64 ((tb : Nat) : Int)), .v (.int .i64 ((tby : Nat) : Int)), .v (.int .u64 ((le64 ys : Nat) : Int))]⟩]) (G' := []) (k' := 1) hR hI (by kernel_rfl)
      .nil (fun e1 a1 w1 hag hR hI => ?_)
  replace hbk := (hag 0 (by decide)).1.trans hbk
  refine reg_seq tab (k := 1) (hs := []) (sy := []) (ks := [0]) (bs := [0]) (gs := [])
      (L' := [(0, .p 0 0)])
      (H' := [⟨0, 48, [.v (.slice (some (q.add 8)) (ys.length - 8) (cap - 8)), .v (.int .i64 ((off : Nat) : Int)), .v (.int .i64 ((nw : Nat) : Int)), .v (.int .i64 ((tb : Nat) : Int)), .v (.int .i64 ((tby : Nat) : Int)), .v (.int .u64 ((le64 ys : Nat) : Int))]⟩]) (G' := []) (k' := 1) hR hI (by kernel_rfl)
      (.cons (by omega : (0 : Int) ≤ (8 : Int) ∧ (8 : Int) ≤ (ys.length : Nat)) (.cons (by omega : (8 : Int) < (cap : Nat)) .nil)) (fun e2 a2 w2 hag hR hI => ?_)
  replace hbk := (hag 0 (by decide)).1.trans hbk
  refine reg_seq tab (k := 1) (hs := []) (sy := []) (ks := [3, 0]) (bs := [0]) (gs := [])
      (L' := [(3, .v (.int .u64 ((le64 ys : Nat) : Int))), (0, .p 0 0)])
      (H' := [⟨0, 48, [.v (.slice (some (q.add 8)) (ys.length - 8) (cap - 8)), .v (.int .i64 ((off : Nat) : Int)), .v (.int .i64 ((nw : Nat) : Int)), .v (.int .i64 ((tb : Nat) : Int)), .v (.int .i64 ((tby : Nat) : Int)), .v (.int .u64 ((le64 ys : Nat) : Int))]⟩]) (G' := []) (k' := 1) hR hI (by kernel_rfl)
      .nil (fun e3 a3 w3 hag hR hI => ?_)
  replace hbk := (hag 0 (by decide)).1.trans hbk
  refine wp_seq ?_
  refine regL 7 hR (by kernel_rfl) (fun hS => ?_)
  replace hR := hR.drew; have hF := hR.fore
  refine takeL tab (H := [⟨0, 48, [.v (.slice (some (q.add 8)) (ys.length - 8) (cap - 8)), .v (.int .i64 ((off : Nat) : Int)), .v (.int .i64 ((nw : Nat) : Int)), .v (.int .i64 ((tb : Nat) : Int)), .v (.int .i64 ((tby : Nat) : Int)), .v (.int .u64 ((le64 ys : Nat) : Int))]⟩]) (G := []) (hs := [(0, .val (.v (.agg #[])))]) (gs := []) (is := [0, 1, 2, 3, 4]) (ks := [21, 17, 3, 0]) (f' := 3)
      (L' := [(21, .v (.slice (some (q.add 8)) (ys.length - 8) (cap - 8))), (17, .v (.agg #[])), (3, .v (.int .u64 ((le64 ys : Nat) : Int))), (0, .p 0 0)]) hS hI (by kernel_rfl) (fun _ _ _ _ _ h => h) (by kernel_rfl)
      (.cons (g0_load (w := w) hF0) .nil) (by kernel_rfl) (by kernel_rfl) (by kernel_rfl) (by rfl) (fun a4 hI => ?_)
  refine oneL (i := 5) (f' := 2) (by kernel_rfl) (by rfl) ?_
  refine callH (ys := [.v (.agg #[]), .v (.slice (some (q.add 8)) (ys.length - 8) (cap - 8))]) hI rfl rfl ⟨_, rfl, rfl, rfl⟩ (by kernel_rfl) Try.func22 rfl rfl ?_
  refine (uint64_spec ((hy.drop 8 (by omega)).now hB hR) (by rw [List.length_drop]; omega) (by rw [List.length_drop])).mono ?_
  rintro ex w5 ⟨rfl, hk⟩
  replace hS := hS.same hk; replace hR := hR.same hk; clear hk
  refine ⟨_, rfl, hS, ?_⟩
  replace hI := hI.put (d := some 22) (x := .v (.int .u64 ((le64 (ys.drop 8) : Nat) : Int))) (by intro t ht; cases ht; decide) rfl
  replace hI := hI.sel [22, 21, 17, 3, 0] (by kernel_rfl : sel _ _ = some [(22, .v (.int .u64 ((le64 (ys.drop 8) : Nat) : Int))), (21, .v (.slice (some (q.add 8)) (ys.length - 8) (cap - 8))), (17, .v (.agg #[])), (3, .v (.int .u64 ((le64 ys : Nat) : Int))), (0, .p 0 0)])
  refine oneL (i := 6) (f' := 1) (by kernel_rfl) (by rfl) ?_
  refine callH (ys := [.v (.int .u64 ((le64 (ys.drop 8) : Nat) : Int))]) hI rfl rfl ⟨_, rfl, rfl, rfl⟩ (by kernel_rfl) Try.func21 rfl rfl ?_
  refine (toFromLE_spec (C := fun _ => False) _).mono ?_
  rintro ex w6 ⟨rfl, hk⟩
  replace hS := hS.same hk; replace hR := hR.same hk; clear hk
  refine ⟨_, rfl, hS, ?_⟩
  replace hI := hI.put (d := some 23) (x := .v (.int .u64 ((le64 (ys.drop 8) : Nat) : Int))) (by intro t ht; cases ht; decide) rfl
  replace hI := hI.sel [23, 22, 21, 17, 3, 0] (by kernel_rfl : sel _ _ = some [(23, .v (.int .u64 ((le64 (ys.drop 8) : Nat) : Int))), (22, .v (.int .u64 ((le64 (ys.drop 8) : Nat) : Int))), (21, .v (.slice (some (q.add 8)) (ys.length - 8) (cap - 8))), (17, .v (.agg #[])), (3, .v (.int .u64 ((le64 ys : Nat) : Int))), (0, .p 0 0)])
  refine endL (i := 7) (f' := 0) (by kernel_rfl) (by rfl) (by kernel_rfl) ?_
  refine quietL tab (hh := .no) (x := .v (.int .u64 ((le64 (ys.drop 8) : Nat) : Int))) hR hI rfl rfl rfl (by kernel_rfl) .nil (fun a7 hI => ?_)
  replace hI := hI.sel [4, 23, 22, 21, 17, 3, 0] (by kernel_rfl : sel _ _ = some [(4, .v (.int .u64 ((le64 (ys.drop 8) : Nat) : Int))), (23, .v (.int .u64 ((le64 (ys.drop 8) : Nat) : Int))), (22, .v (.int .u64 ((le64 (ys.drop 8) : Nat) : Int))), (21, .v (.slice (some (q.add 8)) (ys.length - 8) (cap - 8))), (17, .v (.agg #[])), (3, .v (.int .u64 ((le64 ys : Nat) : Int))), (0, .p 0 0)])
  refine doneL (by kernel_rfl) ?_
  refine then_n ?_
  replace hI := hI.sel [4, 3, 0] (by kernel_rfl : sel _ _ = some [(4, .v (.int .u64 ((le64 (ys.drop 8) : Nat) : Int))), (3, .v (.int .u64 ((le64 ys : Nat) : Int))), (0, .p 0 0)]); replace hR := hR.sel [0] [] (by kernel_rfl : selH _ _ = some [⟨0, 48, [.v (.slice (some (q.add 8)) (ys.length - 8) (cap - 8)), .v (.int .i64 ((off : Nat) : Int)), .v (.int .i64 ((nw : Nat) : Int)), .v (.int .i64 ((tb : Nat) : Int)), .v (.int .i64 ((tby : Nat) : Int)), .v (.int .u64 ((le64 ys : Nat) : Int))]⟩]) (by kernel_rfl : selG _ _ = some [])
  refine wp_seq ?_
  refine reg_seq tab (k := 1) (hs := []) (sy := []) (ks := [28, 4, 3, 0]) (bs := [0]) (gs := [])
      (L' := [(28, .v (.bool (((off : Nat) : Int) != (0 : Int)))), (4, .v (.int .u64 ((le64 (ys.drop 8) : Nat) : Int))), (3, .v (.int .u64 ((le64 ys : Nat) : Int))), (0, .p 0 0)])
      (H' := [⟨0, 48, [.v (.slice (some (q.add 8)) (ys.length - 8) (cap - 8)), .v (.int .i64 ((off : Nat) : Int)), .v (.int .i64 ((nw : Nat) : Int)), .v (.int .i64 ((tb : Nat) : Int)), .v (.int .i64 ((tby : Nat) : Int)), .v (.int .u64 ((le64 ys : Nat) : Int))]⟩]) (G' := []) (k' := 1) hR hI (by kernel_rfl)
      .nil (fun e8 a8 w8 hag hR hI => ?_)
  replace hbk := (hag 0 (by decide)).1.trans hbk
  refine cnd (b := (((off : Nat) : Int) != (0 : Int))) hI (by kernel_rfl) (fun hc9 => ?_) (fun hc9 => ?_)
  · skip
    replace hI := hI.re 28 (.v (.bool true)) rfl (congrArg Value.bool hc9)
    try simp only [decide_eq_true_eq, decide_eq_false_iff_not, beq_iff_eq, bne_iff_ne, beq_eq_false_iff_ne, bne_eq_false_iff_eq, Bool.and_eq_true, Bool.and_eq_false_iff, Bool.or_eq_true, Bool.or_eq_false_iff, Bool.not_eq_true', Bool.not_eq_false', ne_eq] at hc9
    have hoff : 0 < off := by omega
    refine reg_seq tab (k := 1) (hs := [(5, .nw)]) (sy := []) (ks := [3, 4, 0]) (bs := [0]) (gs := [])
        (L' := [(3, .v (.int .u64 (((le64 ys) / 2 ^ off : Nat) : Int))), (4, .v (.int .u64 ((le64 (ys.drop 8) : Nat) : Int))), (0, .p 0 0)])
        (H' := [⟨0, 48, [.v (.slice (some (q.add 8)) (ys.length - 8) (cap - 8)), .v (.int .i64 ((off : Nat) : Int)), .v (.int .i64 ((nw : Nat) : Int)), .v (.int .i64 ((tb : Nat) : Int)), .v (.int .i64 ((tby : Nat) : Int)), .v (.int .u64 ((le64 ys : Nat) : Int))]⟩]) (G' := []) (k' := 1) hR hI (by kernel_rfl)
        (.cons (inR_u64 (n := ((off : Nat) : Int)) (by omega)) (.cons (by omega : (0 : Int) ≤ ((off : Nat) : Int)) (.cons (by show _ ≤ (64 : Int); omega : ((off : Nat) : Int) ≤ (IntKind.u64.bits : Int)) .nil))) (fun e10 a10 w10 hag hR hI => ?_)
    replace hbk := (hag 0 (by decide)).1.trans hbk
    refine reg_all tab (k := 1) (hs := [(6, .eq (.int .i64 ((64 - off : Nat) : Int))), (7, .eq (.int .u64 ((le64 (ys.drop 8) * 2 ^ (64 - off) % 18446744073709551616 : Nat) : Int))), (8, .eq (.int .u64 ((le64 ys / 2 ^ off ||| le64 (ys.drop 8) * 2 ^ (64 - off) % 18446744073709551616 : Nat) : Int)))]) (sy := []) (ks := [3, 4, 0]) (bs := [0]) (gs := [])
        (L' := [(3, .v (.int .u64 ((le64 ys / 2 ^ off ||| le64 (ys.drop 8) * 2 ^ (64 - off) % 18446744073709551616 : Nat) : Int))), (4, .v (.int .u64 ((le64 (ys.drop 8) : Nat) : Int))), (0, .p 0 0)])
        (H' := [⟨0, 48, [.v (.slice (some (q.add 8)) (ys.length - 8) (cap - 8)), .v (.int .i64 ((off : Nat) : Int)), .v (.int .i64 ((nw : Nat) : Int)), .v (.int .i64 ((tb : Nat) : Int)), .v (.int .i64 ((tby : Nat) : Int)), .v (.int .u64 ((le64 ys : Nat) : Int))]⟩]) (G' := []) (k' := 1) hR hI (by kernel_rfl)
        (.cons (congrArg (Value.int .i64) (by rw [wrap_inR (inR_i64 (by omega))]; omega : IntKind.i64.wrap ((64 : Int) - ((off : Nat) : Int)) = ((64 - off : Nat) : Int))) (.cons (congrArg (Value.int .u64) (shl64 _ _ : IntKind.u64.wrap (((le64 (ys.drop 8) : Nat) : Int) * 2 ^ (64 - off)) = ((le64 (ys.drop 8) * 2 ^ (64 - off) % 18446744073709551616 : Nat) : Int))) (.cons (by omega : (0 : Int) ≤ ((64 - off : Nat) : Int)) (.cons (by show _ ≤ (64 : Int); omega : ((64 - off : Nat) : Int) ≤ (IntKind.u64.bits : Int)) (.cons (congrArg (Value.int .u64) (u64_or _ _ (div_le_self' (le64_lt hg)) (Nat.mod_lt _ (by decide)) : bits .or .u64 (((le64 ys) / 2 ^ off : Nat) : Int) ((le64 (ys.drop 8) * 2 ^ (64 - off) % 18446744073709551616 : Nat) : Int) = ((le64 ys / 2 ^ off ||| le64 (ys.drop 8) * 2 ^ (64 - off) % 18446744073709551616 : Nat) : Int))) .nil))))) (fun e11 a11 w11 hag hR hI => ?_)
    replace hbk := (hag 0 (by decide)).1.trans hbk
    refine then_n ?_
    refine reg_seq tab (k := 1) (hs := []) (sy := []) (ks := [3]) (bs := [0]) (gs := [])
        (L' := [(3, .v (.int .u64 ((le64 ys / 2 ^ off ||| le64 (ys.drop 8) * 2 ^ (64 - off) % 18446744073709551616 : Nat) : Int)))])
        (H' := [⟨0, 48, [.v (.slice (some (q.add 8)) (ys.length - 8) (cap - 8)), .v (.int .i64 ((off : Nat) : Int)), .v (.int .i64 ((nw : Nat) : Int)), .v (.int .i64 ((tb : Nat) : Int)), .v (.int .i64 ((tby : Nat) : Int)), .v (.int .u64 ((le64 (ys.drop 8) : Nat) : Int))]⟩]) (G' := []) (k' := 1) hR hI (by kernel_rfl)
        .nil (fun e12 a12 w12 hag hR hI => ?_)
    replace hbk := (hag 0 (by decide)).1.trans hbk
    refine reg_seq tab (k := 1) (hs := []) (sy := []) (ks := [2]) (bs := [0]) (gs := [])
        (L' := [(2, .v (.int .u64 ((le64 ys / 2 ^ off ||| le64 (ys.drop 8) * 2 ^ (64 - off) % 18446744073709551616 : Nat) : Int)))])
        (H' := [⟨0, 48, [.v (.slice (some (q.add 8)) (ys.length - 8) (cap - 8)), .v (.int .i64 ((off : Nat) : Int)), .v (.int .i64 ((nw : Nat) : Int)), .v (.int .i64 ((tb : Nat) : Int)), .v (.int .i64 ((tby : Nat) : Int)), .v (.int .u64 ((le64 (ys.drop 8) : Nat) : Int))]⟩]) (G' := []) (k' := 1) hR hI (by kernel_rfl)
        .nil (fun e13 a13 w13 hag hR hI => ?_)
    replace hbk := (hag 0 (by decide)).1.trans hbk
    refine wp_ret ?_
    refine outN tab (xs := [.v (.int .u64 ((le64 ys / 2 ^ off ||| le64 (ys.drop 8) * 2 ^ (64 - off) % 18446744073709551616 : Nat) : Int))]) hR hI rfl (by kernel_rfl) ?_
    exact ⟨_, rfl, hB.fin hR, hbk ▸ (hR.blk _ (List.mem_cons_self ..)).1, or64 (div_le_self' (le64_lt hg)) (Nat.mod_lt _ (by decide)), fun k hk => word_bits hg hoff ho8 hk⟩
  · skip
    replace hI := hI.re 28 (.v (.bool false)) rfl (congrArg Value.bool hc9)
    try simp only [decide_eq_true_eq, decide_eq_false_iff_not, beq_iff_eq, bne_iff_ne, beq_eq_false_iff_ne, bne_eq_false_iff_eq, Bool.and_eq_true, Bool.and_eq_false_iff, Bool.or_eq_true, Bool.or_eq_false_iff, Bool.not_eq_true', Bool.not_eq_false', ne_eq] at hc9
    have hoff : off = 0 := by omega
    refine wp_skip ?_
    refine then_n ?_
    refine reg_seq tab (k := 1) (hs := []) (sy := []) (ks := [3]) (bs := [0]) (gs := [])
        (L' := [(3, .v (.int .u64 ((le64 ys : Nat) : Int)))])
        (H' := [⟨0, 48, [.v (.slice (some (q.add 8)) (ys.length - 8) (cap - 8)), .v (.int .i64 ((off : Nat) : Int)), .v (.int .i64 ((nw : Nat) : Int)), .v (.int .i64 ((tb : Nat) : Int)), .v (.int .i64 ((tby : Nat) : Int)), .v (.int .u64 ((le64 (ys.drop 8) : Nat) : Int))]⟩]) (G' := []) (k' := 1) hR hI (by kernel_rfl)
        .nil (fun e14 a14 w14 hag hR hI => ?_)
    replace hbk := (hag 0 (by decide)).1.trans hbk
    refine reg_seq tab (k := 1) (hs := []) (sy := []) (ks := [2]) (bs := [0]) (gs := [])
        (L' := [(2, .v (.int .u64 ((le64 ys : Nat) : Int)))])
        (H' := [⟨0, 48, [.v (.slice (some (q.add 8)) (ys.length - 8) (cap - 8)), .v (.int .i64 ((off : Nat) : Int)), .v (.int .i64 ((nw : Nat) : Int)), .v (.int .i64 ((tb : Nat) : Int)), .v (.int .i64 ((tby : Nat) : Int)), .v (.int .u64 ((le64 (ys.drop 8) : Nat) : Int))]⟩]) (G' := []) (k' := 1) hR hI (by kernel_rfl)
        .nil (fun e15 a15 w15 hag hR hI => ?_)
    replace hbk := (hag 0 (by decide)).1.trans hbk
    refine wp_ret ?_
    refine outN tab (xs := [.v (.int .u64 ((le64 ys : Nat) : Int))]) hR hI rfl (by kernel_rfl) ?_
    exact ⟨_, rfl, hB.fin hR, hbk ▸ (hR.blk _ (List.mem_cons_self ..)).1, le64_lt hg, fun k hk => by rw [hoff, Nat.zero_add]; exact le64_bit hg hk⟩

set_option maxHeartbeats 4000000 in
set_option maxRecDepth 100000 in
theorem newWordReader_spec {C : Nat → Prop} {w : World} {ad : Option Addr} {cap n p : Nat} {xs : List Nat} (hx : Sl .u8 256 C w ad cap xs) (hn : 0 < n) (hp : p + n ≤ 8 * xs.length) (hs : xs.length ≤ 4096) :
    Calls P 15 #[.slice ad xs.length cap, .int .i64 ((p : Nat) : Int), .int .i64 ((n : Nat) : Int)] w fun ex w' => ∃ (b nw cur : Nat) (ys : List Nat) (q : Addr) (cap' : Nat), ex = .returned (.pointer (some ⟨b, 0, none⟩)) ∧ w.heap.size ≤ b ∧ w'.heap[b]? = some (.cells #[.slice (some q) ys.length cap', .int .i64 ((p % 8 : Nat) : Int), .int .i64 ((nw : Nat) : Int), .int .i64 ((n - nw * 64 : Nat) : Int), .int .i64 (((n - nw * 64 + 7) / 8 : Nat) : Int), .int .u64 ((cur : Nat) : Int)] 48 (0, 0)) ∧ Keep (fun b => b < w.heap.size) w w' ∧ Sl .u8 256 (GrowX C w w' b) w' (some q) cap' ys ∧ nw = n / 64 - 1 ∧ ys.length = (p % 8 + n + 7) / 8 ∧ (∀ k, k < p % 8 + n → bitN ys k = bitN xs (8 * (p / 8) + k)) ∧ (0 < nw → cur = le64 ys) ∧ cur % 256 = ys.getD 0 0 ∧ cur < 18446744073709551616 := by
  refine doorN (e := e0) (vs := [.v (.slice ad xs.length cap), .v (.int .i64 ((p : Nat) : Int)), .v (.int .i64 ((n : Nat) : Int))]) (n := 84) (m := 3) Try.func15 rfl rfl rfl (by decide) fun a_ hI => ?_
  replace hI : Is 84 [] e0 [(0, .v (.slice ad xs.length cap)), (1, .v (.int .i64 ((p : Nat) : Int))), (2, .v (.int .i64 ((n : Nat) : Int)))] a_ := hI
  have hR : Rel (fun b => b < w.heap.size) w e0 [] [] w := Rel.start (fun k hk => hk)
  have hB : Base C w C (fun b => b < w.heap.size) w := Base.start
  have hrx := hx.room; have hmx := hx.max; have hw0 := hx.pos (by omega)
  obtain ⟨q, rfl, _⟩ := hx.cells.some_ (by rw [ints_length]; omega)
  refine reg_seq tab (k := 0) (hs := []) (sy := []) (ks := [0, 1, 2]) (bs := []) (gs := [])
      (L' := [(0, .v (.slice (some q) xs.length cap)), (1, .v (.int .i64 ((p : Nat) : Int))), (2, .v (.int .i64 ((n : Nat) : Int)))])
      (H' := []) (G' := []) (k' := 0) hR hI (by kernel_rfl)
      .nil (fun e1 a1 w1 hag hR hI => ?_)
  refine reg_seq tab (k := 0) (hs := [(1, .nw)]) (sy := []) (ks := [7, 0, 1, 2]) (bs := []) (gs := [])
      (L' := [(7, .v (.int .i64 ((p % 8 : Nat) : Int))), (0, .v (.slice (some q) xs.length cap)), (1, .v (.int .i64 ((p : Nat) : Int))), (2, .v (.int .i64 ((n : Nat) : Int)))])
      (H' := []) (G' := []) (k' := 0) hR hI (by kernel_rfl)
      (.cons (by omega : (0 : Int) ≤ ((p : Nat) : Int)) (.cons (by omega : (0 : Int) < (8 : Int)) .nil)) (fun e2 a2 w2 hag hR hI => ?_)
  refine reg_seq tab (k := 0) (hs := [(1, .nw)]) (sy := []) (ks := [8, 7, 0, 2]) (bs := []) (gs := [])
      (L' := [(8, .v (.int .i64 ((p / 8 : Nat) : Int))), (7, .v (.int .i64 ((p % 8 : Nat) : Int))), (0, .v (.slice (some q) xs.length cap)), (2, .v (.int .i64 ((n : Nat) : Int)))])
      (H' := []) (G' := []) (k' := 0) hR hI (by kernel_rfl)
      (.cons (by omega : (0 : Int) ≤ ((p : Nat) : Int)) (.cons (by omega : (0 : Int) < (8 : Int)) (.cons (inR_i64 (n := ((p : Nat) : Int) / (8 : Int)) (by omega)) .nil))) (fun e3 a3 w3 hag hR hI => ?_)
  refine wp_seq ?_
  refine reg (is := [0, 1, 2, 3, 4, 5, 6, 7, 8, 9, 10, 11, 12, 13, 14, 15]) (by kernel_rfl) ?_
  refine part_ tab [0, 1, 2, 3, 4, 5, 6] [7, 8, 9, 10, 11, 12, 13, 14, 15] (by rfl) (k := 0) (hs := [(6, .nw)]) (sy := []) (ks := [20, 17, 16, 15, 14, 2]) (bs := []) (gs := [])
      (L' := [(20, .v (.int .i64 (((p % 8) + n : Nat) : Int))), (17, .v (.int .i64 ((p / 8 : Nat) : Int))), (16, .v (.int .i64 ((p / 8 : Nat) : Int))), (15, .v (.slice (some q) xs.length cap)), (14, .v (.int .i64 ((p % 8 : Nat) : Int))), (2, .v (.int .i64 ((n : Nat) : Int)))])
      (H' := []) (G' := []) (k' := 0) hR hI (by kernel_rfl)
      (.cons (inR_i64 (n := ((p % 8 : Nat) : Int) + ((n : Nat) : Int)) (by omega)) .nil) (fun e4 a4 w4 hag hR hI => ?_)
  refine callOp (ys := [.v (.int .i64 (((p % 8) + n : Nat) : Int))]) hI rfl rfl ⟨_, rfl, rfl, rfl⟩ (by kernel_rfl) Try.func20 rfl rfl ?_
  refine (bytesForBits_spec (C := fun _ => False) (by omega)).mono ?_
  rintro ex w5 ⟨m, rfl, hm, hk⟩
  replace hR := hR.same hk; clear hk
  refine ⟨_, rfl, ?_⟩
  replace hI := hI.put (d := some 21) (x := .v (.int .i64 ((m : Nat) : Int))) (by intro t ht; cases ht; decide) rfl
  replace hI := hI.sel [21, 20, 17, 16, 15, 14, 2] (by kernel_rfl : sel _ _ = some [(21, .v (.int .i64 ((m : Nat) : Int))), (20, .v (.int .i64 (((p % 8) + n : Nat) : Int))), (17, .v (.int .i64 ((p / 8 : Nat) : Int))), (16, .v (.int .i64 ((p / 8 : Nat) : Int))), (15, .v (.slice (some q) xs.length cap)), (14, .v (.int .i64 ((p % 8 : Nat) : Int))), (2, .v (.int .i64 ((n : Nat) : Int)))])
  refine part_ tab [8, 9, 10, 11, 12, 13, 14, 15] [] (by rfl) (k := 0) (hs := [(8, .nw), (11, .nw), (12, .nw)]) (sy := []) (ks := [9, 2]) (bs := [0]) (gs := [])
      (L' := [(9, .p 0 0), (2, .v (.int .i64 ((n : Nat) : Int)))])
      (H' := [⟨0, 48, [.v (.slice (some (q.add (p / 8))) (((p / 8) + m) - (p / 8)) (cap - (p / 8))), .v (.int .i64 ((p % 8 : Nat) : Int)), .v (.int .i64 (((n / 64 : Nat) : Int) - (1 : Int))), .v (.int .i64 0), .v (.int .i64 0), .v (.int .u64 0)]⟩]) (G' := []) (k' := 1) hR hI (by kernel_rfl)
      (.cons (inR_i64 (n := ((p / 8 : Nat) : Int) + ((m : Nat) : Int)) (by omega)) (.cons (by omega : (0 : Int) ≤ ((p / 8 : Nat) : Int) ∧ ((p / 8 : Nat) : Int) ≤ (((p / 8) + m : Nat) : Int) ∧ (((p / 8) + m : Nat) : Int) ≤ (cap : Nat)) (.cons (by omega : ((p / 8 : Nat) : Int) < (cap : Nat)) (.cons (by omega : (0 : Int) ≤ ((n : Nat) : Int)) (.cons (by omega : (0 : Int) < (64 : Int)) (.cons (inR_i64 (n := ((n : Nat) : Int) / (64 : Int)) (by omega)) (.cons (inR_i64 (n := ((n / 64 : Nat) : Int) - (1 : Int)) (by omega)) .nil))))))) (fun e6 a6 w6 hag hR hI => ?_)
  refine ops_nil ?_
  refine then_n ?_
  obtain ⟨ys, hye⟩ : ∃ ys, ys = (xs.drop (p / 8)).take m := ⟨_, rfl⟩
  have hyl : p / 8 + m - p / 8 = ys.length := by rw [hye, List.length_take, List.length_drop]; omega
  have hym : ys.length = m := by omega
  have hys := (hx.drop (p / 8) (by omega)).take (m := m) (by rw [List.length_drop]; omega)
  rw [← hye] at hys
  have hys0 := hys.get 0 (by decide); have hysg := fun i => hys.get i (by decide)
  replace hR := hR.reblk (b := ⟨0, 48, [.v (.slice (some (q.add (p / 8))) (((p / 8) + m) - (p / 8)) (cap - (p / 8))), .v (.int .i64 ((p % 8 : Nat) : Int)), .v (.int .i64 (((n / 64 : Nat) : Int) - (1 : Int))), .v (.int .i64 0), .v (.int .i64 0), .v (.int .u64 0)]⟩) (by simp) [.v (.slice (some (q.add (p / 8))) ys.length (cap - p / 8)), .v (.int .i64 ((p % 8 : Nat) : Int)), .v (.int .i64 (((n / 64 : Nat) : Int) - (1 : Int))), .v (.int .i64 0), .v (.int .i64 0), .v (.int .u64 0)] [] (by simp) (by simp only [dens, den, hyl])
  dsimp only at hR
  have hys0_ := hys
  refine wp_seq ?_
  refine reg_seq tab (k := 1) (hs := []) (sy := []) (ks := [33, 9, 2]) (bs := [0]) (gs := [])
      (L' := [(33, .v (.bool (decide (((n / 64 : Nat) : Int) - (1 : Int) < (0 : Int))))), (9, .p 0 0), (2, .v (.int .i64 ((n : Nat) : Int)))])
      (H' := [⟨0, 48, [.v (.slice (some (q.add (p / 8))) ys.length (cap - p / 8)), .v (.int .i64 ((p % 8 : Nat) : Int)), .v (.int .i64 (((n / 64 : Nat) : Int) - (1 : Int))), .v (.int .i64 0), .v (.int .i64 0), .v (.int .u64 0)]⟩]) (G' := []) (k' := 1) hR hI (by kernel_rfl)
      .nil (fun e7 a7 w7 hag hR hI => ?_)
  refine join (γ := Nat) hR hI (fun nw => (⟨[(2, .v (.int .i64 ((n : Nat) : Int))), (9, .p 0 0)], [⟨0, 48, [.v (.slice (some (q.add (p / 8))) ys.length (cap - p / 8)), .v (.int .i64 ((p % 8 : Nat) : Int)), .v (.int .i64 ((nw : Nat) : Int)), .v (.int .i64 0), .v (.int .i64 0), .v (.int .u64 0)]⟩], [], 1⟩ : Sy)) (fun nw e => nw = n / 64 - 1) ?_ ?_
  · skip
    refine cnd (b := decide (((n / 64 : Nat) : Int) - (1 : Int) < (0 : Int))) hI (by kernel_rfl) (fun hc8 => ?_) (fun hc8 => ?_)
    · skip
      replace hI := hI.re 33 (.v (.bool true)) rfl (congrArg Value.bool hc8)
      try simp only [decide_eq_true_eq, decide_eq_false_iff_not, beq_iff_eq, bne_iff_ne, beq_eq_false_iff_ne, bne_eq_false_iff_eq, Bool.and_eq_true, Bool.and_eq_false_iff, Bool.or_eq_true, Bool.or_eq_false_iff, Bool.not_eq_true', Bool.not_eq_false', ne_eq] at hc8
      refine reg_all tab (k := 1) (hs := []) (sy := []) (ks := [9, 2]) (bs := [0]) (gs := [])
          (L' := [(9, .p 0 0), (2, .v (.int .i64 ((n : Nat) : Int)))])
          (H' := [⟨0, 48, [.v (.slice (some (q.add (p / 8))) ys.length (cap - p / 8)), .v (.int .i64 ((p % 8 : Nat) : Int)), .v (.int .i64 0), .v (.int .i64 0), .v (.int .i64 0), .v (.int .u64 0)]⟩]) (G' := []) (k' := 1) hR hI (by kernel_rfl)
          .nil (fun e9 a9 w9 hag hR hI => ?_)
      refine then_n ?_
      exact ⟨0, e9, by omega, hR.sel [0] [] (by kernel_rfl) (by kernel_rfl), hI.sel [2, 9] (by kernel_rfl)⟩
    · skip
      replace hI := hI.re 33 (.v (.bool false)) rfl (congrArg Value.bool hc8)
      try simp only [decide_eq_true_eq, decide_eq_false_iff_not, beq_iff_eq, bne_iff_ne, beq_eq_false_iff_ne, bne_eq_false_iff_eq, Bool.and_eq_true, Bool.and_eq_false_iff, Bool.or_eq_true, Bool.or_eq_false_iff, Bool.not_eq_true', Bool.not_eq_false', ne_eq] at hc8
      replace hR := hR.reblk (b := ⟨0, 48, [.v (.slice (some (q.add (p / 8))) ys.length (cap - p / 8)), .v (.int .i64 ((p % 8 : Nat) : Int)), .v (.int .i64 (((n / 64 : Nat) : Int) - (1 : Int))), .v (.int .i64 0), .v (.int .i64 0), .v (.int .u64 0)]⟩) (by simp) [.v (.slice (some (q.add (p / 8))) ys.length (cap - p / 8)), .v (.int .i64 ((p % 8 : Nat) : Int)), .v (.int .i64 ((n / 64 - 1 : Nat) : Int)), .v (.int .i64 0), .v (.int .i64 0), .v (.int .u64 0)] [] (by simp) (by have e_ : (((n / 64 : Nat) : Int) - (1 : Int)) = ((n / 64 - 1 : Nat) : Int) := (by omega); simp only [dens, den, e_])
      dsimp only at hR
      refine wp_skip ?_
      refine then_n ?_
      exact ⟨(n / 64 - 1), e7, rfl, hR.sel [0] [] (by kernel_rfl) (by kernel_rfl), hI.sel [2, 9] (by kernel_rfl)⟩
  · clear hR hI
    rintro nw e10 a10 w10 hp hR hI
    dsimp only at hp hR hI
    have hnw := hp
    refine reg_seq tab (k := 1) (hs := [(6, .nw), (7, .nw), (8, .eq (.int .i64 ((n - nw * 64 : Nat) : Int)))]) (sy := []) (ks := [2, 9]) (bs := [0]) (gs := [])
        (L' := [(2, .v (.int .i64 ((n : Nat) : Int))), (9, .p 0 0)])
        (H' := [⟨0, 48, [.v (.slice (some (q.add (p / 8))) ys.length (cap - p / 8)), .v (.int .i64 ((p % 8 : Nat) : Int)), .v (.int .i64 ((nw : Nat) : Int)), .v (.int .i64 ((n - nw * 64 : Nat) : Int)), .v (.int .i64 0), .v (.int .u64 0)]⟩]) (G' := []) (k' := 1) hR hI (by kernel_rfl)
        (.cons (inR_i64 (n := ((nw : Nat) : Int) * (8 : Int)) (by omega)) (.cons (inR_i64 (n := ((nw * 8 : Nat) : Int) * (8 : Int)) (by omega)) (.cons (congrArg (Value.int .i64) (by rw [wrap_inR (inR_i64 (by omega))]; omega : IntKind.i64.wrap (((n : Nat) : Int) - (((nw * 8) * 8 : Nat) : Int)) = ((n - nw * 64 : Nat) : Int))) .nil))) (fun e11 a11 w11 hag hR hI => ?_)
    refine wp_seq ?_
    refine reg (is := [0, 1, 2, 3, 4, 5, 6, 7, 8]) (by kernel_rfl) ?_
    refine part_ tab [0, 1, 2, 3, 4] [5, 6, 7, 8] (by rfl) (k := 1) (hs := []) (sy := []) (ks := [52, 48, 2, 9]) (bs := [0]) (gs := [])
        (L' := [(52, .v (.int .i64 ((n - nw * 64 : Nat) : Int))), (48, .p 0 0), (2, .v (.int .i64 ((n : Nat) : Int))), (9, .p 0 0)])
        (H' := [⟨0, 48, [.v (.slice (some (q.add (p / 8))) ys.length (cap - p / 8)), .v (.int .i64 ((p % 8 : Nat) : Int)), .v (.int .i64 ((nw : Nat) : Int)), .v (.int .i64 ((n - nw * 64 : Nat) : Int)), .v (.int .i64 0), .v (.int .u64 0)]⟩]) (G' := []) (k' := 1) hR hI (by kernel_rfl)
        .nil (fun e12 a12 w12 hag hR hI => ?_)
    refine callOp (ys := [.v (.int .i64 ((n - nw * 64 : Nat) : Int))]) hI rfl rfl ⟨_, rfl, rfl, rfl⟩ (by kernel_rfl) Try.func20 rfl rfl ?_
    refine (bytesForBits_spec (C := fun _ => False) (by omega)).mono ?_
    rintro ex w13 ⟨tby, rfl, htby, hk⟩
    replace hR := hR.same hk; clear hk
    refine ⟨_, rfl, ?_⟩
    replace hI := hI.put (d := some 53) (x := .v (.int .i64 ((tby : Nat) : Int))) (by intro t ht; cases ht; decide) rfl
    replace hI := hI.sel [53, 52, 48, 2, 9] (by kernel_rfl : sel _ _ = some [(53, .v (.int .i64 ((tby : Nat) : Int))), (52, .v (.int .i64 ((n - nw * 64 : Nat) : Int))), (48, .p 0 0), (2, .v (.int .i64 ((n : Nat) : Int))), (9, .p 0 0)])
    refine part_ tab [6, 7, 8] [] (by rfl) (k := 1) (hs := []) (sy := []) (ks := [2, 9]) (bs := [0]) (gs := [])
        (L' := [(2, .v (.int .i64 ((n : Nat) : Int))), (9, .p 0 0)])
        (H' := [⟨0, 48, [.v (.slice (some (q.add (p / 8))) ys.length (cap - p / 8)), .v (.int .i64 ((p % 8 : Nat) : Int)), .v (.int .i64 ((nw : Nat) : Int)), .v (.int .i64 ((n - nw * 64 : Nat) : Int)), .v (.int .i64 ((tby : Nat) : Int)), .v (.int .u64 0)]⟩]) (G' := []) (k' := 1) hR hI (by kernel_rfl)
        .nil (fun e14 a14 w14 hag hR hI => ?_)
    refine ops_nil ?_
    refine then_n ?_
    refine wp_seq ?_
    refine reg_seq tab (k := 1) (hs := []) (sy := []) (ks := [60, 2, 9]) (bs := [0]) (gs := [])
        (L' := [(60, .v (.bool (decide (((nw : Nat) : Int) > (0 : Int))))), (2, .v (.int .i64 ((n : Nat) : Int))), (9, .p 0 0)])
        (H' := [⟨0, 48, [.v (.slice (some (q.add (p / 8))) ys.length (cap - p / 8)), .v (.int .i64 ((p % 8 : Nat) : Int)), .v (.int .i64 ((nw : Nat) : Int)), .v (.int .i64 ((n - nw * 64 : Nat) : Int)), .v (.int .i64 ((tby : Nat) : Int)), .v (.int .u64 0)]⟩]) (G' := []) (k' := 1) hR hI (by kernel_rfl)
        .nil (fun e15 a15 w15 hag hR hI => ?_)
    refine cnd (b := decide (((nw : Nat) : Int) > (0 : Int))) hI (by kernel_rfl) (fun hc16 => ?_) (fun hc16 => ?_)
    · skip
      replace hI := hI.re 60 (.v (.bool true)) rfl (congrArg Value.bool hc16)
      try simp only [decide_eq_true_eq, decide_eq_false_iff_not, beq_iff_eq, bne_iff_ne, beq_eq_false_iff_ne, bne_eq_false_iff_eq, Bool.and_eq_true, Bool.and_eq_false_iff, Bool.or_eq_true, Bool.or_eq_false_iff, Bool.not_eq_true', Bool.not_eq_false', ne_eq] at hc16
      refine regL 10 hR (by kernel_rfl) (fun hS => ?_)
      replace hR := hR.drew; have hF := hR.fore
      refine takeL tab (H := [⟨0, 48, [.v (.slice (some (q.add (p / 8))) ys.length (cap - p / 8)), .v (.int .i64 ((p % 8 : Nat) : Int)), .v (.int .i64 ((nw : Nat) : Int)), .v (.int .i64 ((n - nw * 64 : Nat) : Int)), .v (.int .i64 ((tby : Nat) : Int)), .v (.int .u64 0)]⟩]) (G := []) (hs := [(1, .val (.v (.agg #[])))]) (gs := []) (is := [0, 1, 2, 3, 4, 5]) (ks := [66, 62, 61, 9]) (f' := 5)
          (L' := [(66, .v (.slice (some (q.add (p / 8))) ys.length (cap - p / 8))), (62, .v (.agg #[])), (61, .p 0 0), (9, .p 0 0)]) hS hI (by kernel_rfl) (fun _ _ _ _ _ h => h) (by kernel_rfl)
          (.cons (g0_load (w := w) (F := fun b => b < w.heap.size) hw0) .nil) (by kernel_rfl) (by kernel_rfl) (by kernel_rfl) (by rfl) (fun a17 hI => ?_)
      refine oneL (i := 6) (f' := 4) (by kernel_rfl) (by rfl) ?_
      refine callH (ys := [.v (.agg #[]), .v (.slice (some (q.add (p / 8))) ys.length (cap - p / 8))]) hI rfl rfl ⟨_, rfl, rfl, rfl⟩ (by kernel_rfl) Try.func22 rfl rfl ?_
      refine (uint64_spec (hys.now hB hR) (by omega) rfl).mono ?_
      rintro ex w18 ⟨rfl, hk⟩
      replace hS := hS.same hk; replace hR := hR.same hk; clear hk
      refine ⟨_, rfl, hS, ?_⟩
      replace hI := hI.put (d := some 67) (x := .v (.int .u64 ((le64 ys : Nat) : Int))) (by intro t ht; cases ht; decide) rfl
      replace hI := hI.sel [67, 66, 62, 61, 9] (by kernel_rfl : sel _ _ = some [(67, .v (.int .u64 ((le64 ys : Nat) : Int))), (66, .v (.slice (some (q.add (p / 8))) ys.length (cap - p / 8))), (62, .v (.agg #[])), (61, .p 0 0), (9, .p 0 0)])
      refine oneL (i := 7) (f' := 3) (by kernel_rfl) (by rfl) ?_
      refine callH (ys := [.v (.int .u64 ((le64 ys : Nat) : Int))]) hI rfl rfl ⟨_, rfl, rfl, rfl⟩ (by kernel_rfl) Try.func21 rfl rfl ?_
      refine (toFromLE_spec (C := fun _ => False) _).mono ?_
      rintro ex w19 ⟨rfl, hk⟩
      replace hS := hS.same hk; replace hR := hR.same hk; clear hk
      refine ⟨_, rfl, hS, ?_⟩
      replace hI := hI.put (d := some 68) (x := .v (.int .u64 ((le64 ys : Nat) : Int))) (by intro t ht; cases ht; decide) rfl
      replace hI := hI.sel [68, 67, 66, 62, 61, 9] (by kernel_rfl : sel _ _ = some [(68, .v (.int .u64 ((le64 ys : Nat) : Int))), (67, .v (.int .u64 ((le64 ys : Nat) : Int))), (66, .v (.slice (some (q.add (p / 8))) ys.length (cap - p / 8))), (62, .v (.agg #[])), (61, .p 0 0), (9, .p 0 0)])
      refine takeC tab (H := [⟨0, 48, [.v (.slice (some (q.add (p / 8))) ys.length (cap - p / 8)), .v (.int .i64 ((p % 8 : Nat) : Int)), .v (.int .i64 ((nw : Nat) : Int)), .v (.int .i64 ((n - nw * 64 : Nat) : Int)), .v (.int .i64 ((tby : Nat) : Int)), .v (.int .u64 0)]⟩]) (G := []) (hs := []) (gs := []) (is := [8, 9]) (ks := [70, 68, 9]) (f' := 1)
          (L' := [(70, .p 0 5), (68, .v (.int .u64 ((le64 ys : Nat) : Int))), (9, .p 0 0)]) hS hI (by kernel_rfl) (fun _ _ _ _ _ h => h) (by kernel_rfl)
          .nil (by kernel_rfl) (by kernel_rfl) (by kernel_rfl) (by kernel_rfl) (by rfl) (fun a20 hI => ?_)
      refine endL (i := 10) (f' := 0) (by kernel_rfl) (by rfl) (by kernel_rfl) ?_
      refine effH tab (k := 1) (hh := .no) (r := ⟨.v (undef), [⟨0, 48, [.v (.slice (some (q.add (p / 8))) ys.length (cap - p / 8)), .v (.int .i64 ((p % 8 : Nat) : Int)), .v (.int .i64 ((nw : Nat) : Int)), .v (.int .i64 ((n - nw * 64 : Nat) : Int)), .v (.int .i64 ((tby : Nat) : Int)), .v (.int .u64 ((le64 ys : Nat) : Int))]⟩], [], 1, _, true⟩) hR hI (by kernel_rfl) rfl rfl rfl (by kernel_rfl) .nil (fun e21 a21 w21 hag hR2 hI => ?_)
      replace hR := hR2; clear hR2
      replace hI := hI.sel [70, 68, 9] (by kernel_rfl : sel _ _ = some [(70, .p 0 5), (68, .v (.int .u64 ((le64 ys : Nat) : Int))), (9, .p 0 0)])
      refine doneL (by kernel_rfl) ?_
      replace hI := hI.sel [9] (by kernel_rfl : sel _ _ = some [(9, .p 0 0)]); replace hR := hR.sel [0] [] (by kernel_rfl : selH _ _ = some [⟨0, 48, [.v (.slice (some (q.add (p / 8))) ys.length (cap - p / 8)), .v (.int .i64 ((p % 8 : Nat) : Int)), .v (.int .i64 ((nw : Nat) : Int)), .v (.int .i64 ((n - nw * 64 : Nat) : Int)), .v (.int .i64 ((tby : Nat) : Int)), .v (.int .u64 ((le64 ys : Nat) : Int))]⟩]) (by kernel_rfl : selG _ _ = some [])
      refine then_n ?_
      refine reg_seq tab (k := 1) (hs := []) (sy := []) (ks := [6]) (bs := [0]) (gs := [])
          (L' := [(6, .p 0 0)])
          (H' := [⟨0, 48, [.v (.slice (some (q.add (p / 8))) ys.length (cap - p / 8)), .v (.int .i64 ((p % 8 : Nat) : Int)), .v (.int .i64 ((nw : Nat) : Int)), .v (.int .i64 ((n - nw * 64 : Nat) : Int)), .v (.int .i64 ((tby : Nat) : Int)), .v (.int .u64 ((le64 ys : Nat) : Int))]⟩]) (G' := []) (k' := 1) hR hI (by kernel_rfl)
          .nil (fun e22 a22 w22 hag hR hI => ?_)
      refine wp_ret ?_
      refine outN tab (xs := [.p 0 0]) hR hI rfl (by kernel_rfl) ?_
      exact ⟨_, nw, (le64 ys), ys, _, _, rfl, Nat.le_of_not_lt (fun h => (hR.blk _ (List.mem_cons_self ..)).2 (hB.old _ h)), htby ▸ (hR.blk _ (List.mem_cons_self ..)).1, hB.fin hR, hys0_.growX (hB.fin hR) (Nat.le_of_not_lt (fun h => (hR.blk _ (List.mem_cons_self ..)).2 (hB.old _ h))), hnw, by omega, fun k hk => by rw [hye, bitN_take (by omega), bitN_drop], fun _ => rfl, le64_low hysg, le64_lt hysg⟩
    · skip
      replace hI := hI.re 60 (.v (.bool false)) rfl (congrArg Value.bool hc16)
      try simp only [decide_eq_true_eq, decide_eq_false_iff_not, beq_iff_eq, bne_iff_ne, beq_eq_false_iff_ne, bne_eq_false_iff_eq, Bool.and_eq_true, Bool.and_eq_false_iff, Bool.or_eq_true, Bool.or_eq_false_iff, Bool.not_eq_true', Bool.not_eq_false', ne_eq] at hc16
      refine reg_seq tab (k := 1) (hs := []) (sy := []) (ks := [72, 9]) (bs := [0]) (gs := [])
          (L' := [(72, .v (.bool (decide (((n : Nat) : Int) > (0 : Int))))), (9, .p 0 0)])
          (H' := [⟨0, 48, [.v (.slice (some (q.add (p / 8))) ys.length (cap - p / 8)), .v (.int .i64 ((p % 8 : Nat) : Int)), .v (.int .i64 ((nw : Nat) : Int)), .v (.int .i64 ((n - nw * 64 : Nat) : Int)), .v (.int .i64 ((tby : Nat) : Int)), .v (.int .u64 0)]⟩]) (G' := []) (k' := 1) hR hI (by kernel_rfl)
          .nil (fun e23 a23 w23 hag hR hI => ?_)
      refine cnd (b := decide (((n : Nat) : Int) > (0 : Int))) hI (by kernel_rfl) (fun hc24 => ?_) (fun hc24 => ?_)
      · skip
        replace hI := hI.re 72 (.v (.bool true)) rfl (congrArg Value.bool hc24)
        try simp only [decide_eq_true_eq, decide_eq_false_iff_not, beq_iff_eq, bne_iff_ne, beq_eq_false_iff_ne, bne_eq_false_iff_eq, Bool.and_eq_true, Bool.and_eq_false_iff, Bool.or_eq_true, Bool.or_eq_false_iff, Bool.not_eq_true', Bool.not_eq_false', ne_eq] at hc24
        replace hR := hR.reblk (b := ⟨0, 48, [.v (.slice (some (q.add (p / 8))) ys.length (cap - p / 8)), .v (.int .i64 ((p % 8 : Nat) : Int)), .v (.int .i64 ((nw : Nat) : Int)), .v (.int .i64 ((n - nw * 64 : Nat) : Int)), .v (.int .i64 ((tby : Nat) : Int)), .v (.int .u64 0)]⟩) (by simp) [.v (.slice (some (q.add (p / 8))) ys.length (cap - p / 8)), .v (.int .i64 ((p % 8 : Nat) : Int)), .v (.int .i64 ((nw : Nat) : Int)), .v (.int .i64 ((n - nw * 64 : Nat) : Int)), .v (.int .i64 ((tby : Nat) : Int)), .v (.int .u64 ((0 : Nat) : Int))] [] (by simp) (rfl)
        dsimp only at hR
        refine regL 9 hR (by kernel_rfl) (fun hS => ?_)
        replace hR := hR.drew; have hF := hR.fore
        refine takeC tab (H := [⟨0, 48, [.v (.slice (some (q.add (p / 8))) ys.length (cap - p / 8)), .v (.int .i64 ((p % 8 : Nat) : Int)), .v (.int .i64 ((nw : Nat) : Int)), .v (.int .i64 ((n - nw * 64 : Nat) : Int)), .v (.int .i64 ((tby : Nat) : Int)), .v (.int .u64 ((0 : Nat) : Int))]⟩]) (G := []) (hs := [(8, .val (.v (.int .u8 ((ys.getD 0 0 : Nat) : Int))))]) (gs := []) (is := [0, 1, 2, 3, 4, 5, 6, 7, 8]) (ks := [81, 75, 9]) (f' := 1)
            (L' := [(81, .v (.int .u8 ((ys.getD 0 0 : Nat) : Int))), (75, .p 0 5), (9, .p 0 0)]) hS hI (by kernel_rfl) (fun _ _ _ _ _ h => h) (by kernel_rfl)
            (.cons (by omega : (0 : Int) ≤ (0 : Int) ∧ (0 : Int) < ((ys.length : Nat) : Int)) (.cons (nats_some (i := 0) (hys.cells.mono hB.cls) (by omega)) (.cons (nats_load (i := 0) (m := 1) (hys.cells.mono hB.cls) (by omega)) .nil))) (by kernel_rfl) (by kernel_rfl) (by kernel_rfl) (by kernel_rfl) (by rfl) (fun a25 hI => ?_)
        refine endL (i := 9) (f' := 0) (by kernel_rfl) (by rfl) (by kernel_rfl) ?_
        refine callH (ys := [.p 0 5, .v (.int .u8 ((ys.getD 0 0 : Nat) : Int))]) hI rfl rfl ⟨_, rfl, rfl, rfl⟩ (by kernel_rfl) Try.func23 rfl rfl ?_
        have hblk_ := hR.blk ⟨0, 48, [.v (.slice (some (q.add (p / 8))) ys.length (cap - p / 8)), .v (.int .i64 ((p % 8 : Nat) : Int)), .v (.int .i64 ((nw : Nat) : Int)), .v (.int .i64 ((n - nw * 64 : Nat) : Int)), .v (.int .i64 ((tby : Nat) : Int)), .v (.int .u64 ((0 : Nat) : Int))]⟩ (by simp)
        refine (setLSB_spec (C := fun _ => False) hblk_.1 (fun h => h) (by decide) hys0).mono ?_
        rintro ex w26 ⟨c2, rfl, hk, hnew, hc2, hc2b⟩
        have hkF_ := hR.keepB (b := ⟨0, 48, [.v (.slice (some (q.add (p / 8))) ys.length (cap - p / 8)), .v (.int .i64 ((p % 8 : Nat) : Int)), .v (.int .i64 ((nw : Nat) : Int)), .v (.int .i64 ((n - nw * 64 : Nat) : Int)), .v (.int .i64 ((tby : Nat) : Int)), .v (.int .u64 ((0 : Nat) : Int))]⟩) (by simp) hk
        replace hx := hx.nextF hB hR hkF_
        replace hys := hys.nextF hB hR hkF_
        have hB_ := hB.nextF hR hkF_
        replace hR := hR.turned (b := ⟨0, 48, [.v (.slice (some (q.add (p / 8))) ys.length (cap - p / 8)), .v (.int .i64 ((p % 8 : Nat) : Int)), .v (.int .i64 ((nw : Nat) : Int)), .v (.int .i64 ((n - nw * 64 : Nat) : Int)), .v (.int .i64 ((tby : Nat) : Int)), .v (.int .u64 ((0 : Nat) : Int))]⟩) (by simp) [.v (.slice (some (q.add (p / 8))) ys.length (cap - p / 8)), .v (.int .i64 ((p % 8 : Nat) : Int)), .v (.int .i64 ((nw : Nat) : Int)), .v (.int .i64 ((n - nw * 64 : Nat) : Int)), .v (.int .i64 ((tby : Nat) : Int)), .v (.int .u64 ((c2 : Nat) : Int))] [] (by simp) hk hnew
        dsimp only at hR; replace hB := hB_; clear hB_ hk hkF_ hblk_
        refine ⟨_, rfl, ?_⟩
        replace hI := hI.put (d := some 82) (x := .tup []) (by intro t ht; cases ht; decide) rfl
        replace hI := hI.sel [82, 81, 75, 9] (by kernel_rfl : sel _ _ = some [(82, .tup []), (81, .v (.int .u8 ((ys.getD 0 0 : Nat) : Int))), (75, .p 0 5), (9, .p 0 0)])
        refine doneL (by kernel_rfl) ?_
        replace hI := hI.sel [9] (by kernel_rfl : sel _ _ = some [(9, .p 0 0)]); replace hR := hR.sel [0] [] (by kernel_rfl : selH _ _ = some [⟨0, 48, [.v (.slice (some (q.add (p / 8))) ys.length (cap - p / 8)), .v (.int .i64 ((p % 8 : Nat) : Int)), .v (.int .i64 ((nw : Nat) : Int)), .v (.int .i64 ((n - nw * 64 : Nat) : Int)), .v (.int .i64 ((tby : Nat) : Int)), .v (.int .u64 ((c2 : Nat) : Int))]⟩]) (by kernel_rfl : selG _ _ = some [])
        refine then_n ?_
        refine reg_seq tab (k := 1) (hs := []) (sy := []) (ks := [6]) (bs := [0]) (gs := [])
            (L' := [(6, .p 0 0)])
            (H' := [⟨0, 48, [.v (.slice (some (q.add (p / 8))) ys.length (cap - p / 8)), .v (.int .i64 ((p % 8 : Nat) : Int)), .v (.int .i64 ((nw : Nat) : Int)), .v (.int .i64 ((n - nw * 64 : Nat) : Int)), .v (.int .i64 ((tby : Nat) : Int)), .v (.int .u64 ((c2 : Nat) : Int))]⟩]) (G' := []) (k' := 1) hR hI (by kernel_rfl)
            .nil (fun e27 a27 w27 hag hR hI => ?_)
        refine wp_ret ?_
        refine outN tab (xs := [.p 0 0]) hR hI rfl (by kernel_rfl) ?_
        exact ⟨_, nw, c2, ys, _, _, rfl, Nat.le_of_not_lt (fun h => (hR.blk _ (List.mem_cons_self ..)).2 (hB.old _ h)), htby ▸ (hR.blk _ (List.mem_cons_self ..)).1, hB.fin hR, hys0_.growX (hB.fin hR) (Nat.le_of_not_lt (fun h => (hR.blk _ (List.mem_cons_self ..)).2 (hB.old _ h))), hnw, by omega, fun k hk => by rw [hye, bitN_take (by omega), bitN_drop], fun h => absurd h (by omega), hc2, hc2b⟩
      · skip
        replace hI := hI.re 72 (.v (.bool false)) rfl (congrArg Value.bool hc24)
        try simp only [decide_eq_true_eq, decide_eq_false_iff_not, beq_iff_eq, bne_iff_ne, beq_eq_false_iff_ne, bne_eq_false_iff_eq, Bool.and_eq_true, Bool.and_eq_false_iff, Bool.or_eq_true, Bool.or_eq_false_iff, Bool.not_eq_true', Bool.not_eq_false', ne_eq] at hc24
        omega

set_option maxHeartbeats 4000000 in
set_option maxRecDepth 100000 in
theorem nextByte_spec {C : Nat → Prop} {w : World} {b : Nat} {q : Addr} {cap off nw tb tby cur : Nat} {ys : List Nat} (hb : w.heap[b]? = some (.cells #[.slice (some q) ys.length cap, .int .i64 ((off : Nat) : Int), .int .i64 ((nw : Nat) : Int), .int .i64 ((tb : Nat) : Int), .int .i64 ((tby : Nat) : Int), .int .u64 ((cur : Nat) : Int)] 48 (0, 0))) (hCb : ¬ C b) (hy : Sl .u8 256 C w (some q) cap ys) (hs : ys.length ≤ 4096) (htb : 0 < tb) (hle : off + tb ≤ 8 * ys.length) (ho8 : off < 8) (hcur0 : 8 < tb → cur % 256 = ys.getD 0 0) (hcb : cur < 18446744073709551616) (htby : tby = (tb + 7) / 8) :
    Calls P 19 #[.pointer (some ⟨b, 0, none⟩)] w fun ex w' => ∃ v j c' tby' : Nat, ex = .returned (.tuple #[.int .u8 ((v : Nat) : Int), .int .i64 ((min tb 8 : Nat) : Int)]) ∧ Keep (But b w) w w' ∧ w'.heap[b]? = some (.cells #[.slice (some (q.add j)) (ys.length - j) (cap - j), .int .i64 ((off : Nat) : Int), .int .i64 ((nw : Nat) : Int), .int .i64 ((tb - 8 : Nat) : Int), .int .i64 ((tby' : Nat) : Int), .int .u64 ((c' : Nat) : Int)] 48 (0, 0)) ∧ (∀ i, i < min tb 8 → v.testBit i = bitN ys (off + i)) ∧ (8 < tb → j = 1 ∧ tby' = tby - 1 ∧ c' % 256 = ys.getD 1 0) ∧ c' < 18446744073709551616 ∧ v < 256 ∧ j ≤ 1 := by
  refine doorN (e := e0.addB 0 b) (vs := [.p 0 0]) (n := 112) (m := 1) Try.func19 rfl rfl rfl (by decide) fun a_ hI => ?_
  replace hI : Is 112 [] (e0.addB 0 b) [(0, .p 0 0)] a_ := hI
  have hR : Rel (But b w) w (e0.addB 0 b) [⟨0, 48, [.v (.slice (some q) ys.length cap), .v (.int .i64 ((off : Nat) : Int)), .v (.int .i64 ((nw : Nat) : Int)), .v (.int .i64 ((tb : Nat) : Int)), .v (.int .i64 ((tby : Nat) : Int)), .v (.int .u64 ((cur : Nat) : Int))]⟩] [] w := Rel.startB hb (fun k h => h.1) (fun h => h.2 rfl)
  have hbk : (e0.addB 0 b).b 0 = b := addB_b _ _ _
  have hB : BaseD (But b w) C w C (But b w) w := BaseD.start (fun k hC hlt => ⟨hlt, fun he => hCb (he ▸ hC)⟩)
  have hry := hy.room; have hmy := hy.max; have hd1 : (ys.drop 1).length = ys.length - 1 := List.length_drop; have hcb8 : cur % 256 < 256 := Nat.mod_lt _ (by decide)
  refine reg_seq tab (k := 1) (hs := []) (sy := []) (ks := [2, 0]) (bs := [0]) (gs := [])
      (L' := [(2, .v (.int .u8 0)), (0, .p 0 0)])
      (H' := [⟨0, 48, [.v (.slice (some q) ys.length cap), .v (.int .i64 ((off : Nat) : Int)), .v (.int .i64 ((nw : Nat) : Int)), .v (.int .i64 ((tb : Nat) : Int)), .v (.int .i64 ((tby : Nat) : Int)), .v (.int .u64 ((cur : Nat) : Int))]⟩]) (G' := []) (k' := 1) hR hI (by kernel_rfl)
      .nil (fun e1 a1 w1 hag hR hI => ?_)
  replace hbk := (hag 0 (by decide)).1.trans hbk
  refine wp_seq ?_
  refine reg (is := [0, 1, 2, 3, 4, 5, 6]) (by kernel_rfl) ?_
  refine part_ tab [0, 1, 2, 3, 4, 5] [6] (by rfl) (k := 1) (hs := []) (sy := []) (ks := [12, 11, 2, 0]) (bs := [0]) (gs := [])
      (L' := [(12, .ifc 9 (.v (.string ⟨#[110, 101, 120, 116, 32, 116, 114, 97, 105, 108, 105, 110, 103, 32, 98, 121, 116, 101, 32, 99, 97, 108, 108, 101, 100, 32, 119, 105, 116, 104, 32, 110, 111, 32, 116, 114, 97, 105, 108, 105, 110, 103, 32, 98, 105, 116, 115]⟩))), (11, .v (.bool (decide (((tb : Nat) : Int) > (0 : Int))))), (2, .v (.int .u8 0)), (0, .p 0 0)])
      (H' := [⟨0, 48, [.v (.slice (some q) ys.length cap), .v (.int .i64 ((off : Nat) : Int)), .v (.int .i64 ((nw : Nat) : Int)), .v (.int .i64 ((tb : Nat) : Int)), .v (.int .i64 ((tby : Nat) : Int)), .v (.int .u64 ((cur : Nat) : Int))]⟩]) (G' := []) (k' := 1) hR hI (by kernel_rfl)
      .nil (fun e2 a2 w2 hag hR hI => ?_)
  replace hbk := (hag 0 (by decide)).1.trans hbk
  refine callOp (ys := [.v (.bool (decide (((tb : Nat) : Int) > (0 : Int)))), .ifc 9 (.v (.string ⟨#[110, 101, 120, 116, 32, 116, 114, 97, 105, 108, 105, 110, 103, 32, 98, 121, 116, 101, 32, 99, 97, 108, 108, 101, 100, 32, 119, 105, 116, 104, 32, 110, 111, 32, 116, 114, 97, 105, 108, 105, 110, 103, 32, 98, 105, 116, 115]⟩))]) hI rfl rfl ⟨_, rfl, rfl, rfl⟩ (by kernel_rfl) Try.func24 rfl rfl ?_
  refine (assert_spec (C := fun _ => False) _ _).mono ?_
  rintro ex w3 ⟨rfl, hk⟩
  replace hR := hR.same hk; clear hk
  refine ⟨_, rfl, ?_⟩
  replace hI := hI.put (d := some 13) (x := .tup []) (by intro t ht; cases ht; decide) rfl
  replace hI := hI.sel [13, 12, 11, 2, 0] (by kernel_rfl : sel _ _ = some [(13, .tup []), (12, .ifc 9 (.v (.string ⟨#[110, 101, 120, 116, 32, 116, 114, 97, 105, 108, 105, 110, 103, 32, 98, 121, 116, 101, 32, 99, 97, 108, 108, 101, 100, 32, 119, 105, 116, 104, 32, 110, 111, 32, 116, 114, 97, 105, 108, 105, 110, 103, 32, 98, 105, 116, 115]⟩))), (11, .v (.bool (decide (((tb : Nat) : Int) > (0 : Int))))), (2, .v (.int .u8 0)), (0, .p 0 0)])
  refine ops_nil ?_
  refine then_n ?_
  refine wp_seq ?_
  refine reg_seq tab (k := 1) (hs := []) (sy := []) (ks := [18, 2, 0]) (bs := [0]) (gs := [])
      (L' := [(18, .v (.bool (decide (((tb : Nat) : Int) ≤ (8 : Int))))), (2, .v (.int .u8 0)), (0, .p 0 0)])
      (H' := [⟨0, 48, [.v (.slice (some q) ys.length cap), .v (.int .i64 ((off : Nat) : Int)), .v (.int .i64 ((nw : Nat) : Int)), .v (.int .i64 ((tb : Nat) : Int)), .v (.int .i64 ((tby : Nat) : Int)), .v (.int .u64 ((cur : Nat) : Int))]⟩]) (G' := []) (k' := 1) hR hI (by kernel_rfl)
      .nil (fun e4 a4 w4 hag hR hI => ?_)
  replace hbk := (hag 0 (by decide)).1.trans hbk
  refine cnd (b := decide (((tb : Nat) : Int) ≤ (8 : Int))) hI (by kernel_rfl) (fun hc5 => ?_) (fun hc5 => ?_)
  · skip
    replace hI := hI.re 18 (.v (.bool true)) rfl (congrArg Value.bool hc5)
    try simp only [decide_eq_true_eq, decide_eq_false_iff_not, beq_iff_eq, bne_iff_ne, beq_eq_false_iff_ne, bne_eq_false_iff_eq, Bool.and_eq_true, Bool.and_eq_false_iff, Bool.or_eq_true, Bool.or_eq_false_iff, Bool.not_eq_true', Bool.not_eq_false', ne_eq] at hc5
    refine reg_seq tab (k := 1) (hs := []) (sy := []) (ks := [3, 2, 0]) (bs := [0]) (gs := [])
        (L' := [(3, .v (.int .i64 ((tb : Nat) : Int))), (2, .v (.int .u8 0)), (0, .p 0 0)])
        (H' := [⟨0, 48, [.v (.slice (some q) ys.length cap), .v (.int .i64 ((off : Nat) : Int)), .v (.int .i64 ((nw : Nat) : Int)), .v (.int .i64 ((tb : Nat) : Int)), .v (.int .i64 ((tby : Nat) : Int)), .v (.int .u64 ((cur : Nat) : Int))]⟩]) (G' := []) (k' := 1) hR hI (by kernel_rfl)
        .nil (fun e6 a6 w6 hag hR hI => ?_)
    replace hbk := (hag 0 (by decide)).1.trans hbk
    refine reg_seq tab (k := 1) (hs := []) (sy := []) (ks := [3, 2, 0]) (bs := [0]) (gs := [])
        (L' := [(3, .v (.int .i64 ((tb : Nat) : Int))), (2, .v (.int .u8 0)), (0, .p 0 0)])
        (H' := [⟨0, 48, [.v (.slice (some q) ys.length cap), .v (.int .i64 ((off : Nat) : Int)), .v (.int .i64 ((nw : Nat) : Int)), .v (.int .i64 0), .v (.int .i64 ((tby : Nat) : Int)), .v (.int .u64 ((cur : Nat) : Int))]⟩]) (G' := []) (k' := 1) hR hI (by kernel_rfl)
        .nil (fun e7 a7 w7 hag hR hI => ?_)
    replace hbk := (hag 0 (by decide)).1.trans hbk
    refine wp_seq ?_
    refine regL 9 hR (by kernel_rfl) (fun hS => ?_)
    replace hR := hR.drew; have hF := hR.fore
    refine takeC tab (H := [⟨0, 48, [.v (.slice (some q) ys.length cap), .v (.int .i64 ((off : Nat) : Int)), .v (.int .i64 ((nw : Nat) : Int)), .v (.int .i64 0), .v (.int .i64 ((tby : Nat) : Int)), .v (.int .u64 ((cur : Nat) : Int))]⟩]) (G := []) (hs := []) (gs := []) (is := [0, 1, 2, 3, 4, 5, 6, 7, 8]) (ks := [34, 33, 29, 3, 2]) (f' := 2)
        (L' := [(34, .v (.int .i64 ((tb : Nat) : Int))), (33, .v (.int .i64 ((off : Nat) : Int))), (29, .v (.slice (some q) ys.length cap)), (3, .v (.int .i64 ((tb : Nat) : Int))), (2, .v (.int .u8 0))]) hS hI (by kernel_rfl) (fun _ _ _ _ _ h => h) (by kernel_rfl)
        .nil (by kernel_rfl) (by kernel_rfl) (by kernel_rfl) (by kernel_rfl) (by rfl) (fun a8 hI => ?_)
    refine endL (i := 9) (f' := 1) (by kernel_rfl) (by rfl) (by kernel_rfl) ?_
    refine callH (ys := [.v (.slice (some q) ys.length cap), .v (.int .i64 ((off : Nat) : Int)), .v (.int .i64 ((tb : Nat) : Int))]) hI rfl rfl ⟨_, rfl, rfl, rfl⟩ (by kernel_rfl) Try.func11 rfl rfl ?_
    refine (newReader_spec (hy.now hB hR) htb (by omega) hs).mono ?_
    rintro ex w9 ⟨b2, rfl, hge, hnew, hk⟩
    obtain ⟨hag_, hnb_, hR_⟩ := hR.gotX (L := []) (k := 1) (cs := [.v (.slice (some q) ys.length cap), .v (.int .i64 0), .v (.int .i64 ((tb : Nat) : Int)), .v (.int .u8 ((ys.getD (off / 8) 0 : Nat) : Int)), .v (.int .i64 ((off / 8 : Nat) : Int)), .v (.int .i64 ((off % 8 : Nat) : Int))]) (by kernel_rfl) (by kernel_rfl) hk hge hnew
    have hkF_ := hR.keepF hk
    replace hy := hy.nextX hB hR hkF_ hge
    have hB_ := hB.nextX hR hkF_ hge
    replace hI := hI.agreeB (H := [⟨0, 48, [.v (.slice (some q) ys.length cap), .v (.int .i64 ((off : Nat) : Int)), .v (.int .i64 ((nw : Nat) : Int)), .v (.int .i64 0), .v (.int .i64 ((tby : Nat) : Int)), .v (.int .u64 ((cur : Nat) : Int))]⟩]) (G := []) (by kernel_rfl) hag_
    replace hR := hR_; replace hB := hB_; clear hB_ hR_ hkF_ hk
    replace hbk := (hag_ 0 (by decide)).1.trans hbk
    refine ⟨_, rfl, ?_⟩
    replace hI := hI.put (d := some 35) (x := .p 1 0) (by intro t ht; cases ht; decide) rfl
    replace hI := hI.sel [35, 34, 33, 29, 3, 2] (by kernel_rfl : sel _ _ = some [(35, .p 1 0), (34, .v (.int .i64 ((tb : Nat) : Int))), (33, .v (.int .i64 ((off : Nat) : Int))), (29, .v (.slice (some q) ys.length cap)), (3, .v (.int .i64 ((tb : Nat) : Int))), (2, .v (.int .u8 0))])
    refine endL (i := 10) (f' := 0) (by kernel_rfl) (by rfl) (by kernel_rfl) ?_
    refine quietL tab (hh := .no) (x := .p 1 0) hR hI rfl rfl rfl (by kernel_rfl) .nil (fun a10 hI => ?_)
    replace hI := hI.sel [4, 35, 34, 33, 29, 3, 2] (by kernel_rfl : sel _ _ = some [(4, .p 1 0), (35, .p 1 0), (34, .v (.int .i64 ((tb : Nat) : Int))), (33, .v (.int .i64 ((off : Nat) : Int))), (29, .v (.slice (some q) ys.length cap)), (3, .v (.int .i64 ((tb : Nat) : Int))), (2, .v (.int .u8 0))])
    refine doneL (by kernel_rfl) ?_
    refine then_n ?_
    replace hI := hI.sel [4, 3, 2] (by kernel_rfl : sel _ _ = some [(4, .p 1 0), (3, .v (.int .i64 ((tb : Nat) : Int))), (2, .v (.int .u8 0))]); replace hR := hR.sel [1, 0] [] (by kernel_rfl : selH _ _ = some [⟨1, 45, [.v (.slice (some q) ys.length cap), .v (.int .i64 0), .v (.int .i64 ((tb : Nat) : Int)), .v (.int .u8 ((ys.getD (off / 8) 0 : Nat) : Int)), .v (.int .i64 ((off / 8 : Nat) : Int)), .v (.int .i64 ((off % 8 : Nat) : Int))]⟩, ⟨0, 48, [.v (.slice (some q) ys.length cap), .v (.int .i64 ((off : Nat) : Int)), .v (.int .i64 ((nw : Nat) : Int)), .v (.int .i64 0), .v (.int .i64 ((tby : Nat) : Int)), .v (.int .u64 ((cur : Nat) : Int))]⟩]) (by kernel_rfl : selG _ _ = some [])
    refine wp_seq ?_
    refine reg_seq tab (k := 2) (hs := []) (sy := []) (ks := [5, 4, 3, 2]) (bs := [1, 0]) (gs := [])
        (L' := [(5, .v (.int .i64 0)), (4, .p 1 0), (3, .v (.int .i64 ((tb : Nat) : Int))), (2, .v (.int .u8 0))])
        (H' := [⟨1, 45, [.v (.slice (some q) ys.length cap), .v (.int .i64 0), .v (.int .i64 ((tb : Nat) : Int)), .v (.int .u8 ((ys.getD (off / 8) 0 : Nat) : Int)), .v (.int .i64 ((off / 8 : Nat) : Int)), .v (.int .i64 ((off % 8 : Nat) : Int))]⟩, ⟨0, 48, [.v (.slice (some q) ys.length cap), .v (.int .i64 ((off : Nat) : Int)), .v (.int .i64 ((nw : Nat) : Int)), .v (.int .i64 0), .v (.int .i64 ((tby : Nat) : Int)), .v (.int .u64 ((cur : Nat) : Int))]⟩]) (G' := []) (k' := 2) hR hI (by kernel_rfl)
        .nil (fun e11 a11 w11 hag hR hI => ?_)
    replace hbk := (hag 0 (by decide)).1.trans hbk
    refine wp_block ?_
    replace hR := hR.reblk (b := ⟨1, 45, [.v (.slice (some q) ys.length cap), .v (.int .i64 0), .v (.int .i64 ((tb : Nat) : Int)), .v (.int .u8 ((ys.getD (off / 8) 0 : Nat) : Int)), .v (.int .i64 ((off / 8 : Nat) : Int)), .v (.int .i64 ((off % 8 : Nat) : Int))]⟩) (by simp) [.v (.slice (some q) ys.length cap), .v (.int .i64 ((0 : Nat) : Int)), .v (.int .i64 ((tb : Nat) : Int)), .v (.int .u8 (((ys.getD (off / 8) 0) : Nat) : Int)), .v (.int .i64 (((off + 0) / 8 : Nat) : Int)), .v (.int .i64 (((off + 0) % 8 : Nat) : Int))] [⟨0, 48, [.v (.slice (some q) ys.length cap), .v (.int .i64 ((off : Nat) : Int)), .v (.int .i64 ((nw : Nat) : Int)), .v (.int .i64 0), .v (.int .i64 ((tby : Nat) : Int)), .v (.int .u64 ((cur : Nat) : Int))]⟩] (by simp) (by simp only [dens, den, Nat.add_zero]; rfl)
    dsimp only at hR
    refine lpM (γ := Nat × Nat × Nat) (fun (i, c, v) => (⟨[(2, .v (.int .u8 ((v : Nat) : Int))), (3, .v (.int .i64 ((tb : Nat) : Int))), (4, .p 1 0), (5, .v (.int .i64 ((i : Nat) : Int)))], [⟨0, 48, [.v (.slice (some q) ys.length cap), .v (.int .i64 ((off : Nat) : Int)), .v (.int .i64 ((nw : Nat) : Int)), .v (.int .i64 0), .v (.int .i64 ((tby : Nat) : Int)), .v (.int .u64 ((cur : Nat) : Int))]⟩, ⟨1, 45, [.v (.slice (some q) ys.length cap), .v (.int .i64 ((i : Nat) : Int)), .v (.int .i64 ((tb : Nat) : Int)), .v (.int .u8 ((c : Nat) : Int)), .v (.int .i64 (((off + i) / 8 : Nat) : Int)), .v (.int .i64 (((off + i) % 8 : Nat) : Int))]⟩], [], 2⟩ : Sy)) (fun (i, c, v) e C F wb => e.b 0 = b ∧ Sl .u8 256 C wb (some q) cap ys ∧ i ≤ tb ∧ c < 256 ∧ (i < tb → c = ys.getD ((off + i) / 8) 0) ∧ v < 256 ∧ ∀ j, j < 8 → v.testBit j = (decide (8 - i ≤ j) && bitN ys (off + (j + i - 8)))) (fun (i, c, v) => tb - i) (0, ys.getD (off / 8) 0, 0) hB (⟨hbk, hy, Nat.zero_le _, hy.get _ (by decide), fun _ => rfl, by decide, fun j h => by rw [Nat.zero_testBit, decide_eq_false (by omega)]; rfl⟩)
        (hR.sel [0, 1] [] (by kernel_rfl) (by kernel_rfl)) (hI.sel [2, 3, 4, 5] (by kernel_rfl)) ?_
    clear hR hI hB
    rintro ⟨i, c, v⟩ e12 C12 F12 wb12 a12 w12 hB hp hR hI
    dsimp only at hp hR hI
    obtain ⟨hbk, hy, hin, hc, hcur0, hvb, hv⟩ := hp
    refine wp_seq ?_
    refine reg_seq tab (k := 2) (hs := []) (sy := []) (ks := [38, 2, 3, 4, 5]) (bs := [0, 1]) (gs := [])
        (L' := [(38, .v (.bool (decide (((i : Nat) : Int) < ((tb : Nat) : Int))))), (2, .v (.int .u8 ((v : Nat) : Int))), (3, .v (.int .i64 ((tb : Nat) : Int))), (4, .p 1 0), (5, .v (.int .i64 ((i : Nat) : Int)))])
        (H' := [⟨0, 48, [.v (.slice (some q) ys.length cap), .v (.int .i64 ((off : Nat) : Int)), .v (.int .i64 ((nw : Nat) : Int)), .v (.int .i64 0), .v (.int .i64 ((tby : Nat) : Int)), .v (.int .u64 ((cur : Nat) : Int))]⟩, ⟨1, 45, [.v (.slice (some q) ys.length cap), .v (.int .i64 ((i : Nat) : Int)), .v (.int .i64 ((tb : Nat) : Int)), .v (.int .u8 ((c : Nat) : Int)), .v (.int .i64 (((off + i) / 8 : Nat) : Int)), .v (.int .i64 (((off + i) % 8 : Nat) : Int))]⟩]) (G' := []) (k' := 2) hR hI (by kernel_rfl)
        .nil (fun e13 a13 w13 hag hR hI => ?_)
    replace hbk := (hag 0 (by decide)).1.trans hbk
    refine cnd (b := decide (((i : Nat) : Int) < ((tb : Nat) : Int))) hI (by kernel_rfl) (fun hc14 => ?_) (fun hc14 => ?_)
    · skip
      replace hI := hI.re 38 (.v (.bool true)) rfl (congrArg Value.bool hc14)
      try simp only [decide_eq_true_eq, decide_eq_false_iff_not, beq_iff_eq, bne_iff_ne, beq_eq_false_iff_ne, bne_eq_false_iff_eq, Bool.and_eq_true, Bool.and_eq_false_iff, Bool.or_eq_true, Bool.or_eq_false_iff, Bool.not_eq_true', Bool.not_eq_false', ne_eq] at hc14
      have hi : i < tb := by omega
      have hcur := hcur0 hi
      refine wp_skip ?_
      refine then_n ?_
      refine wp_seq ?_
      refine wp_block ?_
      refine reg_seq tab (k := 2) (hs := []) (sy := []) (ks := [2, 3, 4, 5]) (bs := [0, 1]) (gs := [])
          (L' := [(2, .v (.int .u8 ((v / 2 : Nat) : Int))), (3, .v (.int .i64 ((tb : Nat) : Int))), (4, .p 1 0), (5, .v (.int .i64 ((i : Nat) : Int)))])
          (H' := [⟨0, 48, [.v (.slice (some q) ys.length cap), .v (.int .i64 ((off : Nat) : Int)), .v (.int .i64 ((nw : Nat) : Int)), .v (.int .i64 0), .v (.int .i64 ((tby : Nat) : Int)), .v (.int .u64 ((cur : Nat) : Int))]⟩, ⟨1, 45, [.v (.slice (some q) ys.length cap), .v (.int .i64 ((i : Nat) : Int)), .v (.int .i64 ((tb : Nat) : Int)), .v (.int .u8 ((c : Nat) : Int)), .v (.int .i64 (((off + i) / 8 : Nat) : Int)), .v (.int .i64 (((off + i) % 8 : Nat) : Int))]⟩]) (G' := []) (k' := 2) hR hI (by kernel_rfl)
          (.cons (by decide : (0 : Int) ≤ 1) (.cons (by decide : (1 : Int) ≤ (IntKind.u8.bits : Int)) .nil)) (fun e15 a15 w15 hag hR hI => ?_)
      replace hbk := (hag 0 (by decide)).1.trans hbk
      refine wp_seq ?_
      refine wp_seq ?_
      refine reg (is := [0, 1]) (by kernel_rfl) ?_
      refine part_ tab [0] [1] (by rfl) (k := 2) (hs := []) (sy := []) (ks := [43, 2, 3, 4, 5]) (bs := [0, 1]) (gs := [])
          (L' := [(43, .p 1 0), (2, .v (.int .u8 ((v / 2 : Nat) : Int))), (3, .v (.int .i64 ((tb : Nat) : Int))), (4, .p 1 0), (5, .v (.int .i64 ((i : Nat) : Int)))])
          (H' := [⟨0, 48, [.v (.slice (some q) ys.length cap), .v (.int .i64 ((off : Nat) : Int)), .v (.int .i64 ((nw : Nat) : Int)), .v (.int .i64 0), .v (.int .i64 ((tby : Nat) : Int)), .v (.int .u64 ((cur : Nat) : Int))]⟩, ⟨1, 45, [.v (.slice (some q) ys.length cap), .v (.int .i64 ((i : Nat) : Int)), .v (.int .i64 ((tb : Nat) : Int)), .v (.int .u8 ((c : Nat) : Int)), .v (.int .i64 (((off + i) / 8 : Nat) : Int)), .v (.int .i64 (((off + i) % 8 : Nat) : Int))]⟩]) (G' := []) (k' := 2) hR hI (by kernel_rfl)
          .nil (fun e16 a16 w16 hag hR hI => ?_)
      replace hbk := (hag 0 (by decide)).1.trans hbk
      refine callOp (ys := [.p 1 0]) hI rfl rfl ⟨_, rfl, rfl, rfl⟩ (by kernel_rfl) Try.func12 rfl rfl ?_
      have hblk_ := hR.blk ⟨1, 45, [.v (.slice (some q) ys.length cap), .v (.int .i64 ((i : Nat) : Int)), .v (.int .i64 ((tb : Nat) : Int)), .v (.int .u8 ((c : Nat) : Int)), .v (.int .i64 (((off + i) / 8 : Nat) : Int)), .v (.int .i64 (((off + i) % 8 : Nat) : Int))]⟩ (by simp)
      refine (set_spec (C := fun _ => False) hblk_.1 (fun h => h) hc).mono ?_
      rintro ex w17 ⟨rfl, hk, hnew⟩
      have hkF_ := hR.keepB (b := ⟨1, 45, [.v (.slice (some q) ys.length cap), .v (.int .i64 ((i : Nat) : Int)), .v (.int .i64 ((tb : Nat) : Int)), .v (.int .u8 ((c : Nat) : Int)), .v (.int .i64 (((off + i) / 8 : Nat) : Int)), .v (.int .i64 (((off + i) % 8 : Nat) : Int))]⟩) (by simp) hk
      replace hy := hy.nextF hB hR hkF_
      have hB_ := hB.nextF hR hkF_
      replace hR := hR.turned (b := ⟨1, 45, [.v (.slice (some q) ys.length cap), .v (.int .i64 ((i : Nat) : Int)), .v (.int .i64 ((tb : Nat) : Int)), .v (.int .u8 ((c : Nat) : Int)), .v (.int .i64 (((off + i) / 8 : Nat) : Int)), .v (.int .i64 (((off + i) % 8 : Nat) : Int))]⟩) (by simp) [.v (.slice (some q) ys.length cap), .v (.int .i64 ((i : Nat) : Int)), .v (.int .i64 ((tb : Nat) : Int)), .v (.int .u8 ((c : Nat) : Int)), .v (.int .i64 (((off + i) / 8 : Nat) : Int)), .v (.int .i64 (((off + i) % 8 : Nat) : Int))] [⟨0, 48, [.v (.slice (some q) ys.length cap), .v (.int .i64 ((off : Nat) : Int)), .v (.int .i64 ((nw : Nat) : Int)), .v (.int .i64 0), .v (.int .i64 ((tby : Nat) : Int)), .v (.int .u64 ((cur : Nat) : Int))]⟩] (by simp) hk hnew
      dsimp only at hR; replace hB := hB_; clear hB_ hk hkF_ hblk_
      refine ⟨_, rfl, ?_⟩
      replace hI := hI.put (d := some 44) (x := .v (.bool (((c / 2 ^ ((off + i) % 8) % 2 : Nat) : Int) == (1 : Int)))) (by intro t ht; cases ht; decide) rfl
      replace hI := hI.sel [44, 43, 2, 3, 4, 5] (by kernel_rfl : sel _ _ = some [(44, .v (.bool (((c / 2 ^ ((off + i) % 8) % 2 : Nat) : Int) == (1 : Int)))), (43, .p 1 0), (2, .v (.int .u8 ((v / 2 : Nat) : Int))), (3, .v (.int .i64 ((tb : Nat) : Int))), (4, .p 1 0), (5, .v (.int .i64 ((i : Nat) : Int)))])
      refine ops_nil ?_
      refine then_n ?_
      refine cnd (b := (((c / 2 ^ ((off + i) % 8) % 2 : Nat) : Int) == (1 : Int))) hI (by kernel_rfl) (fun hc18 => ?_) (fun hc18 => ?_)
      · skip
        replace hI := hI.re 44 (.v (.bool true)) rfl (congrArg Value.bool hc18)
        try simp only [decide_eq_true_eq, decide_eq_false_iff_not, beq_iff_eq, bne_iff_ne, beq_eq_false_iff_ne, bne_eq_false_iff_eq, Bool.and_eq_true, Bool.and_eq_false_iff, Bool.or_eq_true, Bool.or_eq_false_iff, Bool.not_eq_true', Bool.not_eq_false', ne_eq] at hc18
        have hb44 := hc18
        refine reg_all tab (k := 2) (hs := [(1, .eq (.int .u8 ((v / 2 ||| 128 : Nat) : Int)))]) (sy := []) (ks := [2, 3, 4, 5]) (bs := [1, 0]) (gs := [])
            (L' := [(2, .v (.int .u8 ((v / 2 ||| 128 : Nat) : Int))), (3, .v (.int .i64 ((tb : Nat) : Int))), (4, .p 1 0), (5, .v (.int .i64 ((i : Nat) : Int)))])
            (H' := [⟨1, 45, [.v (.slice (some q) ys.length cap), .v (.int .i64 ((i : Nat) : Int)), .v (.int .i64 ((tb : Nat) : Int)), .v (.int .u8 ((c : Nat) : Int)), .v (.int .i64 (((off + i) / 8 : Nat) : Int)), .v (.int .i64 (((off + i) % 8 : Nat) : Int))]⟩, ⟨0, 48, [.v (.slice (some q) ys.length cap), .v (.int .i64 ((off : Nat) : Int)), .v (.int .i64 ((nw : Nat) : Int)), .v (.int .i64 0), .v (.int .i64 ((tby : Nat) : Int)), .v (.int .u64 ((cur : Nat) : Int))]⟩]) (G' := []) (k' := 2) hR hI (by kernel_rfl)
            (.cons (congrArg (Value.int .u8) (u8_or128' v hvb : bits .or .u8 ((v / 2 : Nat) : Int) (128 : Int) = ((v / 2 ||| 128 : Nat) : Int))) .nil) (fun e19 a19 w19 hag hR hI => ?_)
        replace hbk := (hag 0 (by decide)).1.trans hbk
        refine then_n ?_
        refine reg (is := [0, 1]) (by kernel_rfl) ?_
        refine part_ tab [0] [1] (by rfl) (k := 2) (hs := []) (sy := []) (ks := [47, 2, 3, 4, 5]) (bs := [1, 0]) (gs := [])
            (L' := [(47, .p 1 0), (2, .v (.int .u8 ((v / 2 ||| 128 : Nat) : Int))), (3, .v (.int .i64 ((tb : Nat) : Int))), (4, .p 1 0), (5, .v (.int .i64 ((i : Nat) : Int)))])
            (H' := [⟨1, 45, [.v (.slice (some q) ys.length cap), .v (.int .i64 ((i : Nat) : Int)), .v (.int .i64 ((tb : Nat) : Int)), .v (.int .u8 ((c : Nat) : Int)), .v (.int .i64 (((off + i) / 8 : Nat) : Int)), .v (.int .i64 (((off + i) % 8 : Nat) : Int))]⟩, ⟨0, 48, [.v (.slice (some q) ys.length cap), .v (.int .i64 ((off : Nat) : Int)), .v (.int .i64 ((nw : Nat) : Int)), .v (.int .i64 0), .v (.int .i64 ((tby : Nat) : Int)), .v (.int .u64 ((cur : Nat) : Int))]⟩]) (G' := []) (k' := 2) hR hI (by kernel_rfl)
            .nil (fun e20 a20 w20 hag hR hI => ?_)
        replace hbk := (hag 0 (by decide)).1.trans hbk
        refine callOp (ys := [.p 1 0]) hI rfl rfl ⟨_, rfl, rfl, rfl⟩ (by kernel_rfl) Try.func13 rfl rfl ?_
        have hblk_ := hR.blk ⟨1, 45, [.v (.slice (some q) ys.length cap), .v (.int .i64 ((i : Nat) : Int)), .v (.int .i64 ((tb : Nat) : Int)), .v (.int .u8 ((c : Nat) : Int)), .v (.int .i64 (((off + i) / 8 : Nat) : Int)), .v (.int .i64 (((off + i) % 8 : Nat) : Int))]⟩ (by simp)
        refine (next_spec (C := fun b => _ ∧ _) hblk_.1 (fun h => hblk_.2 h.2) hc (hy.now hB hR) hcur hi (by omega) hs (by omega)).mono ?_
        rintro ex w21 ⟨c2, rfl, hk, hnew, hc2, hcur2⟩
        have hkF_ := hR.keepB (b := ⟨1, 45, [.v (.slice (some q) ys.length cap), .v (.int .i64 ((i : Nat) : Int)), .v (.int .i64 ((tb : Nat) : Int)), .v (.int .u8 ((c : Nat) : Int)), .v (.int .i64 (((off + i) / 8 : Nat) : Int)), .v (.int .i64 (((off + i) % 8 : Nat) : Int))]⟩) (by simp) hk
        replace hy := hy.nextF hB hR hkF_
        have hB_ := hB.nextF hR hkF_
        replace hR := hR.turned (b := ⟨1, 45, [.v (.slice (some q) ys.length cap), .v (.int .i64 ((i : Nat) : Int)), .v (.int .i64 ((tb : Nat) : Int)), .v (.int .u8 ((c : Nat) : Int)), .v (.int .i64 (((off + i) / 8 : Nat) : Int)), .v (.int .i64 (((off + i) % 8 : Nat) : Int))]⟩) (by simp) [.v (.slice (some q) ys.length cap), .v (.int .i64 (((i + 1) : Nat) : Int)), .v (.int .i64 ((tb : Nat) : Int)), .v (.int .u8 ((c2 : Nat) : Int)), .v (.int .i64 (((off + (i + 1)) / 8 : Nat) : Int)), .v (.int .i64 (((off + (i + 1)) % 8 : Nat) : Int))] [⟨0, 48, [.v (.slice (some q) ys.length cap), .v (.int .i64 ((off : Nat) : Int)), .v (.int .i64 ((nw : Nat) : Int)), .v (.int .i64 0), .v (.int .i64 ((tby : Nat) : Int)), .v (.int .u64 ((cur : Nat) : Int))]⟩] (by simp) hk hnew
        dsimp only at hR; replace hB := hB_; clear hB_ hk hkF_ hblk_
        refine ⟨_, rfl, ?_⟩
        replace hI := hI.put (d := some 48) (x := .tup []) (by intro t ht; cases ht; decide) rfl
        replace hI := hI.sel [48, 47, 2, 3, 4, 5] (by kernel_rfl : sel _ _ = some [(48, .tup []), (47, .p 1 0), (2, .v (.int .u8 ((v / 2 ||| 128 : Nat) : Int))), (3, .v (.int .i64 ((tb : Nat) : Int))), (4, .p 1 0), (5, .v (.int .i64 ((i : Nat) : Int)))])
        refine ops_nil ?_
        refine normal_block ?_
        refine then_n ?_
        refine reg_all tab (k := 2) (hs := [(1, .nw)]) (sy := []) (ks := [5, 2, 3, 4]) (bs := [1, 0]) (gs := [])
            (L' := [(5, .v (.int .i64 ((i + 1 : Nat) : Int))), (2, .v (.int .u8 ((v / 2 ||| 128 : Nat) : Int))), (3, .v (.int .i64 ((tb : Nat) : Int))), (4, .p 1 0)])
            (H' := [⟨1, 45, [.v (.slice (some q) ys.length cap), .v (.int .i64 (((i + 1) : Nat) : Int)), .v (.int .i64 ((tb : Nat) : Int)), .v (.int .u8 ((c2 : Nat) : Int)), .v (.int .i64 (((off + (i + 1)) / 8 : Nat) : Int)), .v (.int .i64 (((off + (i + 1)) % 8 : Nat) : Int))]⟩, ⟨0, 48, [.v (.slice (some q) ys.length cap), .v (.int .i64 ((off : Nat) : Int)), .v (.int .i64 ((nw : Nat) : Int)), .v (.int .i64 0), .v (.int .i64 ((tby : Nat) : Int)), .v (.int .u64 ((cur : Nat) : Int))]⟩]) (G' := []) (k' := 2) hR hI (by kernel_rfl)
            (.cons (inR_i64 (n := ((i : Nat) : Int) + (1 : Int)) (by omega)) .nil) (fun e22 a22 w22 hag hR hI => ?_)
        replace hbk := (hag 0 (by decide)).1.trans hbk
        refine then_n ?_
        exact ⟨(i + 1, c2, v / 2 ||| 128), _, _, _, _, hB, ⟨hbk, hy, by omega, hc2, hcur2, or8 (by omega) (by decide), last_step (b := true) (by unfold bitN; rw [← hcur]; exact (beq_iff_eq.2 hb44).symm) (by omega) rfl hvb hv⟩, (by (try dsimp only); omega), hR.sel [0, 1] [] (by kernel_rfl) (by kernel_rfl), hI.sel [2, 3, 4, 5] (by kernel_rfl)⟩
      · skip
        replace hI := hI.re 44 (.v (.bool false)) rfl (congrArg Value.bool hc18)
        try simp only [decide_eq_true_eq, decide_eq_false_iff_not, beq_iff_eq, bne_iff_ne, beq_eq_false_iff_ne, bne_eq_false_iff_eq, Bool.and_eq_true, Bool.and_eq_false_iff, Bool.or_eq_true, Bool.or_eq_false_iff, Bool.not_eq_true', Bool.not_eq_false', ne_eq] at hc18
        have hb44 := hc18
        refine wp_skip ?_
        refine then_n ?_
        refine reg (is := [0, 1]) (by kernel_rfl) ?_
        refine part_ tab [0] [1] (by rfl) (k := 2) (hs := []) (sy := []) (ks := [47, 2, 3, 4, 5]) (bs := [1, 0]) (gs := [])
            (L' := [(47, .p 1 0), (2, .v (.int .u8 ((v / 2 : Nat) : Int))), (3, .v (.int .i64 ((tb : Nat) : Int))), (4, .p 1 0), (5, .v (.int .i64 ((i : Nat) : Int)))])
            (H' := [⟨1, 45, [.v (.slice (some q) ys.length cap), .v (.int .i64 ((i : Nat) : Int)), .v (.int .i64 ((tb : Nat) : Int)), .v (.int .u8 ((c : Nat) : Int)), .v (.int .i64 (((off + i) / 8 : Nat) : Int)), .v (.int .i64 (((off + i) % 8 : Nat) : Int))]⟩, ⟨0, 48, [.v (.slice (some q) ys.length cap), .v (.int .i64 ((off : Nat) : Int)), .v (.int .i64 ((nw : Nat) : Int)), .v (.int .i64 0), .v (.int .i64 ((tby : Nat) : Int)), .v (.int .u64 ((cur : Nat) : Int))]⟩]) (G' := []) (k' := 2) hR hI (by kernel_rfl)
            .nil (fun e23 a23 w23 hag hR hI => ?_)
        replace hbk := (hag 0 (by decide)).1.trans hbk
        refine callOp (ys := [.p 1 0]) hI rfl rfl ⟨_, rfl, rfl, rfl⟩ (by kernel_rfl) Try.func13 rfl rfl ?_
        have hblk_ := hR.blk ⟨1, 45, [.v (.slice (some q) ys.length cap), .v (.int .i64 ((i : Nat) : Int)), .v (.int .i64 ((tb : Nat) : Int)), .v (.int .u8 ((c : Nat) : Int)), .v (.int .i64 (((off + i) / 8 : Nat) : Int)), .v (.int .i64 (((off + i) % 8 : Nat) : Int))]⟩ (by simp)
        refine (next_spec (C := fun b => _ ∧ _) hblk_.1 (fun h => hblk_.2 h.2) hc (hy.now hB hR) hcur hi (by omega) hs (by omega)).mono ?_
        rintro ex w24 ⟨c2, rfl, hk, hnew, hc2, hcur2⟩
        have hkF_ := hR.keepB (b := ⟨1, 45, [.v (.slice (some q) ys.length cap), .v (.int .i64 ((i : Nat) : Int)), .v (.int .i64 ((tb : Nat) : Int)), .v (.int .u8 ((c : Nat) : Int)), .v (.int .i64 (((off + i) / 8 : Nat) : Int)), .v (.int .i64 (((off + i) % 8 : Nat) : Int))]⟩) (by simp) hk
        replace hy := hy.nextF hB hR hkF_
        have hB_ := hB.nextF hR hkF_
        replace hR := hR.turned (b := ⟨1, 45, [.v (.slice (some q) ys.length cap), .v (.int .i64 ((i : Nat) : Int)), .v (.int .i64 ((tb : Nat) : Int)), .v (.int .u8 ((c : Nat) : Int)), .v (.int .i64 (((off + i) / 8 : Nat) : Int)), .v (.int .i64 (((off + i) % 8 : Nat) : Int))]⟩) (by simp) [.v (.slice (some q) ys.length cap), .v (.int .i64 (((i + 1) : Nat) : Int)), .v (.int .i64 ((tb : Nat) : Int)), .v (.int .u8 ((c2 : Nat) : Int)), .v (.int .i64 (((off + (i + 1)) / 8 : Nat) : Int)), .v (.int .i64 (((off + (i + 1)) % 8 : Nat) : Int))] [⟨0, 48, [.v (.slice (some q) ys.length cap), .v (.int .i64 ((off : Nat) : Int)), .v (.int .i64 ((nw : Nat) : Int)), .v (.int .i64 0), .v (.int .i64 ((tby : Nat) : Int)), .v (.int .u64 ((cur : Nat) : Int))]⟩] (by simp) hk hnew
        dsimp only at hR; replace hB := hB_; clear hB_ hk hkF_ hblk_
        refine ⟨_, rfl, ?_⟩
        replace hI := hI.put (d := some 48) (x := .tup []) (by intro t ht; cases ht; decide) rfl
        replace hI := hI.sel [48, 47, 2, 3, 4, 5] (by kernel_rfl : sel _ _ = some [(48, .tup []), (47, .p 1 0), (2, .v (.int .u8 ((v / 2 : Nat) : Int))), (3, .v (.int .i64 ((tb : Nat) : Int))), (4, .p 1 0), (5, .v (.int .i64 ((i : Nat) : Int)))])
        refine ops_nil ?_
        refine normal_block ?_
        refine then_n ?_
        refine reg_all tab (k := 2) (hs := [(1, .nw)]) (sy := []) (ks := [5, 2, 3, 4]) (bs := [1, 0]) (gs := [])
            (L' := [(5, .v (.int .i64 ((i + 1 : Nat) : Int))), (2, .v (.int .u8 ((v / 2 : Nat) : Int))), (3, .v (.int .i64 ((tb : Nat) : Int))), (4, .p 1 0)])
            (H' := [⟨1, 45, [.v (.slice (some q) ys.length cap), .v (.int .i64 (((i + 1) : Nat) : Int)), .v (.int .i64 ((tb : Nat) : Int)), .v (.int .u8 ((c2 : Nat) : Int)), .v (.int .i64 (((off + (i + 1)) / 8 : Nat) : Int)), .v (.int .i64 (((off + (i + 1)) % 8 : Nat) : Int))]⟩, ⟨0, 48, [.v (.slice (some q) ys.length cap), .v (.int .i64 ((off : Nat) : Int)), .v (.int .i64 ((nw : Nat) : Int)), .v (.int .i64 0), .v (.int .i64 ((tby : Nat) : Int)), .v (.int .u64 ((cur : Nat) : Int))]⟩]) (G' := []) (k' := 2) hR hI (by kernel_rfl)
            (.cons (inR_i64 (n := ((i : Nat) : Int) + (1 : Int)) (by omega)) .nil) (fun e25 a25 w25 hag hR hI => ?_)
        replace hbk := (hag 0 (by decide)).1.trans hbk
        refine then_n ?_
        exact ⟨(i + 1, c2, v / 2), _, _, _, _, hB, ⟨hbk, hy, by omega, hc2, hcur2, by omega, last_step (b := false) (by unfold bitN; rw [← hcur]; exact (beq_eq_false_iff_ne.2 hb44).symm) (by omega) rfl hvb hv⟩, (by (try dsimp only); omega), hR.sel [0, 1] [] (by kernel_rfl) (by kernel_rfl), hI.sel [2, 3, 4, 5] (by kernel_rfl)⟩
    · skip
      replace hI := hI.re 38 (.v (.bool false)) rfl (congrArg Value.bool hc14)
      try simp only [decide_eq_true_eq, decide_eq_false_iff_not, beq_iff_eq, bne_iff_ne, beq_eq_false_iff_ne, bne_eq_false_iff_eq, Bool.and_eq_true, Bool.and_eq_false_iff, Bool.or_eq_true, Bool.or_eq_false_iff, Bool.not_eq_true', Bool.not_eq_false', ne_eq] at hc14
      refine wp_exit ?_
      refine exit_then ?_
      refine exit_then ?_
      refine exit_hit ?_
      refine then_n ?_
      refine reg_seq tab (k := 2) (hs := [(2, .eq (.int .i64 ((8 - tb : Nat) : Int)))]) (sy := []) (ks := [2, 3]) (bs := [0]) (gs := [])
          (L' := [(2, .v (.int .u8 ((v / 2 ^ (8 - tb) : Nat) : Int))), (3, .v (.int .i64 ((tb : Nat) : Int)))])
          (H' := [⟨0, 48, [.v (.slice (some q) ys.length cap), .v (.int .i64 ((off : Nat) : Int)), .v (.int .i64 ((nw : Nat) : Int)), .v (.int .i64 0), .v (.int .i64 ((tby : Nat) : Int)), .v (.int .u64 ((cur : Nat) : Int))]⟩]) (G' := []) (k' := 2) hR hI (by kernel_rfl)
          (.cons (congrArg (Value.int .i64) (by rw [wrap_inR (inR_i64 (by omega))]; omega : IntKind.i64.wrap ((8 : Int) - ((tb : Nat) : Int)) = ((8 - tb : Nat) : Int))) (.cons (by omega : (0 : Int) ≤ ((8 - tb : Nat) : Int)) (.cons (by show _ ≤ (8 : Int); omega : ((8 - tb : Nat) : Int) ≤ (IntKind.u8.bits : Int)) .nil))) (fun e26 a26 w26 hag hR hI => ?_)
      replace hbk := (hag 0 (by decide)).1.trans hbk
      refine wp_ret ?_
      refine ret_then ?_
      replace hR := hR.reblk (b := ⟨0, 48, [.v (.slice (some q) ys.length cap), .v (.int .i64 ((off : Nat) : Int)), .v (.int .i64 ((nw : Nat) : Int)), .v (.int .i64 0), .v (.int .i64 ((tby : Nat) : Int)), .v (.int .u64 ((cur : Nat) : Int))]⟩) (by simp) [.v (.slice (some (q.add 0)) (ys.length - 0) (cap - 0)), .v (.int .i64 ((off : Nat) : Int)), .v (.int .i64 ((nw : Nat) : Int)), .v (.int .i64 ((tb - 8 : Nat) : Int)), .v (.int .i64 ((tby : Nat) : Int)), .v (.int .u64 ((cur : Nat) : Int))] [] (by simp) (by have e_ : tb - 8 = 0 := (by omega); rw [e_]; rfl)
      dsimp only at hR
      refine outN tab (xs := [.v (.int .u8 ((v / 2 ^ (8 - tb) : Nat) : Int)), .v (.int .i64 ((tb : Nat) : Int))]) hR hI rfl (by kernel_rfl) ?_
      have hm8 : min tb 8 = tb := by omega
      have hit : i = tb := by omega
      rw [hit] at hv
      exact ⟨v / 2 ^ (8 - tb), 0, cur, tby, by rw [hm8]; rfl, hB.fin hR, hbk ▸ (hR.blk _ (List.mem_cons_self ..)).1, fun i h => last_done (by omega) hv i (by omega), fun h => absurd h (by omega), hcb, div_le_self' hvb, by decide⟩
  · skip
    replace hI := hI.re 18 (.v (.bool false)) rfl (congrArg Value.bool hc5)
    try simp only [decide_eq_true_eq, decide_eq_false_iff_not, beq_iff_eq, bne_iff_ne, beq_eq_false_iff_ne, bne_eq_false_iff_eq, Bool.and_eq_true, Bool.and_eq_false_iff, Bool.or_eq_true, Bool.or_eq_false_iff, Bool.not_eq_true', Bool.not_eq_false', ne_eq] at hc5
    have hy1 := hy.drop 1 (by omega); have hy1b := hy1.get 0 (by decide); have hcy := hcur0 (by omega)
    refine wp_skip ?_
    refine then_n ?_
    refine reg_seq tab (k := 1) (hs := []) (sy := []) (ks := [0]) (bs := [0]) (gs := [])
        (L' := [(0, .p 0 0)])
        (H' := [⟨0, 48, [.v (.slice (some (q.add 1)) (ys.length - 1) (cap - 1)), .v (.int .i64 ((off : Nat) : Int)), .v (.int .i64 ((nw : Nat) : Int)), .v (.int .i64 ((tb : Nat) : Int)), .v (.int .i64 ((tby : Nat) : Int)), .v (.int .u64 ((cur : Nat) : Int))]⟩]) (G' := []) (k' := 1) hR hI (by kernel_rfl)
        (.cons (by omega : (0 : Int) ≤ (1 : Int) ∧ (1 : Int) ≤ (ys.length : Nat)) (.cons (by omega : (1 : Int) < (cap : Nat)) .nil)) (fun e27 a27 w27 hag hR hI => ?_)
    replace hbk := (hag 0 (by decide)).1.trans hbk
    refine reg_seq tab (k := 1) (hs := [(5, .val (.v (.int .u8 (((ys.drop 1).getD 0 0 : Nat) : Int))))]) (sy := []) (ks := [6, 0]) (bs := [0]) (gs := [])
        (L' := [(6, .v (.int .u8 (((ys.drop 1).getD 0 0 : Nat) : Int))), (0, .p 0 0)])
        (H' := [⟨0, 48, [.v (.slice (some (q.add 1)) (ys.length - 1) (cap - 1)), .v (.int .i64 ((off : Nat) : Int)), .v (.int .i64 ((nw : Nat) : Int)), .v (.int .i64 ((tb : Nat) : Int)), .v (.int .i64 ((tby : Nat) : Int)), .v (.int .u64 ((cur : Nat) : Int))]⟩]) (G' := []) (k' := 1) hR hI (by kernel_rfl)
        (.cons (by omega : (0 : Int) ≤ (0 : Int) ∧ (0 : Int) < ((ys.length - 1 : Nat) : Int)) (.cons (nats_some (i := 0) (hy1.cells.mono hB.cls) (by omega)) (.cons (nats_load (i := 0) (m := 1) (hy1.cells.mono hB.cls) (by omega)) .nil))) (fun e28 a28 w28 hag hR hI => ?_)
    replace hbk := (hag 0 (by decide)).1.trans hbk
    refine wp_seq ?_
    refine reg (is := [0, 1, 2, 3, 4, 5]) (by kernel_rfl) ?_
    refine part_ tab [0, 1, 2, 3] [4, 5] (by rfl) (k := 1) (hs := []) (sy := []) (ks := [70, 6, 0]) (bs := [0]) (gs := [])
        (L' := [(70, .v (.int .u64 ((cur : Nat) : Int))), (6, .v (.int .u8 (((ys.drop 1).getD 0 0 : Nat) : Int))), (0, .p 0 0)])
        (H' := [⟨0, 48, [.v (.slice (some (q.add 1)) (ys.length - 1) (cap - 1)), .v (.int .i64 ((off : Nat) : Int)), .v (.int .i64 ((nw : Nat) : Int)), .v (.int .i64 ((tb : Nat) : Int)), .v (.int .i64 ((tby : Nat) : Int)), .v (.int .u64 ((cur : Nat) : Int))]⟩]) (G' := []) (k' := 1) hR hI (by kernel_rfl)
        .nil (fun e29 a29 w29 hag hR hI => ?_)
    replace hbk := (hag 0 (by decide)).1.trans hbk
    refine callOp (ys := [.v (.int .u64 ((cur : Nat) : Int))]) hI rfl rfl ⟨_, rfl, rfl, rfl⟩ (by kernel_rfl) Try.func25 rfl rfl ?_
    refine (getLSB_spec (C := fun _ => False) cur).mono ?_
    rintro ex w30 ⟨rfl, hk⟩
    replace hR := hR.same hk; clear hk
    refine ⟨_, rfl, ?_⟩
    replace hI := hI.put (d := some 71) (x := .v (.int .u8 ((cur % 256 : Nat) : Int))) (by intro t ht; cases ht; decide) rfl
    replace hI := hI.sel [71, 70, 6, 0] (by kernel_rfl : sel _ _ = some [(71, .v (.int .u8 ((cur % 256 : Nat) : Int))), (70, .v (.int .u64 ((cur : Nat) : Int))), (6, .v (.int .u8 (((ys.drop 1).getD 0 0 : Nat) : Int))), (0, .p 0 0)])
    refine part_ tab [5] [] (by rfl) (k := 1) (hs := []) (sy := []) (ks := [2, 6, 0]) (bs := [0]) (gs := [])
        (L' := [(2, .v (.int .u8 ((cur % 256 : Nat) : Int))), (6, .v (.int .u8 (((ys.drop 1).getD 0 0 : Nat) : Int))), (0, .p 0 0)])
        (H' := [⟨0, 48, [.v (.slice (some (q.add 1)) (ys.length - 1) (cap - 1)), .v (.int .i64 ((off : Nat) : Int)), .v (.int .i64 ((nw : Nat) : Int)), .v (.int .i64 ((tb : Nat) : Int)), .v (.int .i64 ((tby : Nat) : Int)), .v (.int .u64 ((cur : Nat) : Int))]⟩]) (G' := []) (k' := 1) hR hI (by kernel_rfl)
        .nil (fun e31 a31 w31 hag hR hI => ?_)
    replace hbk := (hag 0 (by decide)).1.trans hbk
    refine ops_nil ?_
    refine then_n ?_
    refine wp_seq ?_
    refine reg_seq tab (k := 1) (hs := []) (sy := []) (ks := [76, 2, 6, 0]) (bs := [0]) (gs := [])
        (L' := [(76, .v (.bool (((off : Nat) : Int) != (0 : Int)))), (2, .v (.int .u8 ((cur % 256 : Nat) : Int))), (6, .v (.int .u8 (((ys.drop 1).getD 0 0 : Nat) : Int))), (0, .p 0 0)])
        (H' := [⟨0, 48, [.v (.slice (some (q.add 1)) (ys.length - 1) (cap - 1)), .v (.int .i64 ((off : Nat) : Int)), .v (.int .i64 ((nw : Nat) : Int)), .v (.int .i64 ((tb : Nat) : Int)), .v (.int .i64 ((tby : Nat) : Int)), .v (.int .u64 ((cur : Nat) : Int))]⟩]) (G' := []) (k' := 1) hR hI (by kernel_rfl)
        .nil (fun e32 a32 w32 hag hR hI => ?_)
    replace hbk := (hag 0 (by decide)).1.trans hbk
    refine cnd (b := (((off : Nat) : Int) != (0 : Int))) hI (by kernel_rfl) (fun hc33 => ?_) (fun hc33 => ?_)
    · skip
      replace hI := hI.re 76 (.v (.bool true)) rfl (congrArg Value.bool hc33)
      try simp only [decide_eq_true_eq, decide_eq_false_iff_not, beq_iff_eq, bne_iff_ne, beq_eq_false_iff_ne, bne_eq_false_iff_eq, Bool.and_eq_true, Bool.and_eq_false_iff, Bool.or_eq_true, Bool.or_eq_false_iff, Bool.not_eq_true', Bool.not_eq_false', ne_eq] at hc33
      have hoff : 0 < off := by omega
      refine reg_seq tab (k := 1) (hs := [(5, .nw)]) (sy := []) (ks := [2, 6, 0]) (bs := [0]) (gs := [])
          (L' := [(2, .v (.int .u8 (((cur % 256) / 2 ^ off : Nat) : Int))), (6, .v (.int .u8 (((ys.drop 1).getD 0 0 : Nat) : Int))), (0, .p 0 0)])
          (H' := [⟨0, 48, [.v (.slice (some (q.add 1)) (ys.length - 1) (cap - 1)), .v (.int .i64 ((off : Nat) : Int)), .v (.int .i64 ((nw : Nat) : Int)), .v (.int .i64 ((tb : Nat) : Int)), .v (.int .i64 ((tby : Nat) : Int)), .v (.int .u64 ((cur : Nat) : Int))]⟩]) (G' := []) (k' := 1) hR hI (by kernel_rfl)
          (.cons (inR_u8 (n := ((off : Nat) : Int)) (by omega)) (.cons (by omega : (0 : Int) ≤ ((off : Nat) : Int)) (.cons (by show _ ≤ (8 : Int); omega : ((off : Nat) : Int) ≤ (IntKind.u8.bits : Int)) .nil))) (fun e34 a34 w34 hag hR hI => ?_)
      replace hbk := (hag 0 (by decide)).1.trans hbk
      refine reg_all tab (k := 1) (hs := [(6, .eq (.int .i64 ((8 - off : Nat) : Int))), (7, .eq (.int .u8 (((ys.drop 1).getD 0 0 * 2 ^ (8 - off) % 256 : Nat) : Int))), (8, .eq (.int .u8 ((cur % 256 / 2 ^ off ||| (ys.drop 1).getD 0 0 * 2 ^ (8 - off) % 256 : Nat) : Int)))]) (sy := []) (ks := [2, 6, 0]) (bs := [0]) (gs := [])
          (L' := [(2, .v (.int .u8 ((cur % 256 / 2 ^ off ||| (ys.drop 1).getD 0 0 * 2 ^ (8 - off) % 256 : Nat) : Int))), (6, .v (.int .u8 (((ys.drop 1).getD 0 0 : Nat) : Int))), (0, .p 0 0)])
          (H' := [⟨0, 48, [.v (.slice (some (q.add 1)) (ys.length - 1) (cap - 1)), .v (.int .i64 ((off : Nat) : Int)), .v (.int .i64 ((nw : Nat) : Int)), .v (.int .i64 ((tb : Nat) : Int)), .v (.int .i64 ((tby : Nat) : Int)), .v (.int .u64 ((cur : Nat) : Int))]⟩]) (G' := []) (k' := 1) hR hI (by kernel_rfl)
          (.cons (congrArg (Value.int .i64) (by rw [wrap_inR (inR_i64 (by omega))]; omega : IntKind.i64.wrap ((8 : Int) - ((off : Nat) : Int)) = ((8 - off : Nat) : Int))) (.cons (congrArg (Value.int .u8) (shl8 _ _ : IntKind.u8.wrap ((((ys.drop 1).getD 0 0 : Nat) : Int) * 2 ^ (8 - off)) = (((ys.drop 1).getD 0 0 * 2 ^ (8 - off) % 256 : Nat) : Int))) (.cons (by omega : (0 : Int) ≤ ((8 - off : Nat) : Int)) (.cons (by show _ ≤ (8 : Int); omega : ((8 - off : Nat) : Int) ≤ (IntKind.u8.bits : Int)) (.cons (congrArg (Value.int .u8) (u8_or _ _ (div_le_self' hcb8) (Nat.mod_lt _ (by decide)) : bits .or .u8 (((cur % 256) / 2 ^ off : Nat) : Int) (((ys.drop 1).getD 0 0 * 2 ^ (8 - off) % 256 : Nat) : Int) = ((cur % 256 / 2 ^ off ||| (ys.drop 1).getD 0 0 * 2 ^ (8 - off) % 256 : Nat) : Int))) .nil))))) (fun e35 a35 w35 hag hR hI => ?_)
      replace hbk := (hag 0 (by decide)).1.trans hbk
      refine then_n ?_
      refine wp_seq ?_
      refine reg (is := [0, 1, 2, 3, 4]) (by kernel_rfl) ?_
      refine part_ tab [0, 1, 2, 3] [4] (by rfl) (k := 1) (hs := []) (sy := []) (ks := [96, 95, 2, 0]) (bs := [0]) (gs := [])
          (L' := [(96, .v (.int .u8 (((ys.drop 1).getD 0 0 : Nat) : Int))), (95, .p 0 5), (2, .v (.int .u8 ((cur % 256 / 2 ^ off ||| (ys.drop 1).getD 0 0 * 2 ^ (8 - off) % 256 : Nat) : Int))), (0, .p 0 0)])
          (H' := [⟨0, 48, [.v (.slice (some (q.add 1)) (ys.length - 1) (cap - 1)), .v (.int .i64 ((off : Nat) : Int)), .v (.int .i64 ((nw : Nat) : Int)), .v (.int .i64 ((tb : Nat) : Int)), .v (.int .i64 ((tby : Nat) : Int)), .v (.int .u64 ((cur : Nat) : Int))]⟩]) (G' := []) (k' := 1) hR hI (by kernel_rfl)
          .nil (fun e36 a36 w36 hag hR hI => ?_)
      replace hbk := (hag 0 (by decide)).1.trans hbk
      refine callOp (ys := [.p 0 5, .v (.int .u8 (((ys.drop 1).getD 0 0 : Nat) : Int))]) hI rfl rfl ⟨_, rfl, rfl, rfl⟩ (by kernel_rfl) Try.func23 rfl rfl ?_
      have hblk_ := hR.blk ⟨0, 48, [.v (.slice (some (q.add 1)) (ys.length - 1) (cap - 1)), .v (.int .i64 ((off : Nat) : Int)), .v (.int .i64 ((nw : Nat) : Int)), .v (.int .i64 ((tb : Nat) : Int)), .v (.int .i64 ((tby : Nat) : Int)), .v (.int .u64 ((cur : Nat) : Int))]⟩ (by simp)
      refine (setLSB_spec (C := fun _ => False) hblk_.1 (fun h => h) hcb hy1b).mono ?_
      rintro ex w37 ⟨c2, rfl, hk, hnew, hc2, hc2b⟩
      have hkF_ := hR.keepB (b := ⟨0, 48, [.v (.slice (some (q.add 1)) (ys.length - 1) (cap - 1)), .v (.int .i64 ((off : Nat) : Int)), .v (.int .i64 ((nw : Nat) : Int)), .v (.int .i64 ((tb : Nat) : Int)), .v (.int .i64 ((tby : Nat) : Int)), .v (.int .u64 ((cur : Nat) : Int))]⟩) (by simp) hk
      replace hy := hy.nextF hB hR hkF_
      replace hy1 := hy1.nextF hB hR hkF_
      have hB_ := hB.nextF hR hkF_
      replace hR := hR.turned (b := ⟨0, 48, [.v (.slice (some (q.add 1)) (ys.length - 1) (cap - 1)), .v (.int .i64 ((off : Nat) : Int)), .v (.int .i64 ((nw : Nat) : Int)), .v (.int .i64 ((tb : Nat) : Int)), .v (.int .i64 ((tby : Nat) : Int)), .v (.int .u64 ((cur : Nat) : Int))]⟩) (by simp) [.v (.slice (some (q.add 1)) (ys.length - 1) (cap - 1)), .v (.int .i64 ((off : Nat) : Int)), .v (.int .i64 ((nw : Nat) : Int)), .v (.int .i64 ((tb : Nat) : Int)), .v (.int .i64 ((tby : Nat) : Int)), .v (.int .u64 ((c2 : Nat) : Int))] [] (by simp) hk hnew
      dsimp only at hR; replace hB := hB_; clear hB_ hk hkF_ hblk_
      refine ⟨_, rfl, ?_⟩
      replace hI := hI.put (d := some 97) (x := .tup []) (by intro t ht; cases ht; decide) rfl
      replace hI := hI.sel [97, 96, 95, 2, 0] (by kernel_rfl : sel _ _ = some [(97, .tup []), (96, .v (.int .u8 (((ys.drop 1).getD 0 0 : Nat) : Int))), (95, .p 0 5), (2, .v (.int .u8 ((cur % 256 / 2 ^ off ||| (ys.drop 1).getD 0 0 * 2 ^ (8 - off) % 256 : Nat) : Int))), (0, .p 0 0)])
      refine ops_nil ?_
      refine then_n ?_
      refine reg_seq tab (k := 1) (hs := [(4, .eq (.int .i64 ((tb - 8 : Nat) : Int)))]) (sy := []) (ks := [2, 0]) (bs := [0]) (gs := [])
          (L' := [(2, .v (.int .u8 ((cur % 256 / 2 ^ off ||| (ys.drop 1).getD 0 0 * 2 ^ (8 - off) % 256 : Nat) : Int))), (0, .p 0 0)])
          (H' := [⟨0, 48, [.v (.slice (some (q.add 1)) (ys.length - 1) (cap - 1)), .v (.int .i64 ((off : Nat) : Int)), .v (.int .i64 ((nw : Nat) : Int)), .v (.int .i64 ((tb - 8 : Nat) : Int)), .v (.int .i64 ((tby : Nat) : Int)), .v (.int .u64 ((c2 : Nat) : Int))]⟩]) (G' := []) (k' := 1) hR hI (by kernel_rfl)
          (.cons (congrArg (Value.int .i64) (by rw [wrap_inR (inR_i64 (by omega))]; omega : IntKind.i64.wrap (((tb : Nat) : Int) - (8 : Int)) = ((tb - 8 : Nat) : Int))) .nil) (fun e38 a38 w38 hag hR hI => ?_)
      replace hbk := (hag 0 (by decide)).1.trans hbk
      refine reg_seq tab (k := 1) (hs := [(4, .eq (.int .i64 ((tby - 1 : Nat) : Int)))]) (sy := []) (ks := [2]) (bs := [0]) (gs := [])
          (L' := [(2, .v (.int .u8 ((cur % 256 / 2 ^ off ||| (ys.drop 1).getD 0 0 * 2 ^ (8 - off) % 256 : Nat) : Int)))])
          (H' := [⟨0, 48, [.v (.slice (some (q.add 1)) (ys.length - 1) (cap - 1)), .v (.int .i64 ((off : Nat) : Int)), .v (.int .i64 ((nw : Nat) : Int)), .v (.int .i64 ((tb - 8 : Nat) : Int)), .v (.int .i64 ((tby - 1 : Nat) : Int)), .v (.int .u64 ((c2 : Nat) : Int))]⟩]) (G' := []) (k' := 1) hR hI (by kernel_rfl)
          (.cons (congrArg (Value.int .i64) (by rw [wrap_inR (inR_i64 (by omega))]; omega : IntKind.i64.wrap (((tby : Nat) : Int) - (1 : Int)) = ((tby - 1 : Nat) : Int))) .nil) (fun e39 a39 w39 hag hR hI => ?_)
      replace hbk := (hag 0 (by decide)).1.trans hbk
      refine reg_seq tab (k := 1) (hs := []) (sy := []) (ks := [3, 2]) (bs := [0]) (gs := [])
          (L' := [(3, .v (.int .i64 8)), (2, .v (.int .u8 ((cur % 256 / 2 ^ off ||| (ys.drop 1).getD 0 0 * 2 ^ (8 - off) % 256 : Nat) : Int)))])
          (H' := [⟨0, 48, [.v (.slice (some (q.add 1)) (ys.length - 1) (cap - 1)), .v (.int .i64 ((off : Nat) : Int)), .v (.int .i64 ((nw : Nat) : Int)), .v (.int .i64 ((tb - 8 : Nat) : Int)), .v (.int .i64 ((tby - 1 : Nat) : Int)), .v (.int .u64 ((c2 : Nat) : Int))]⟩]) (G' := []) (k' := 1) hR hI (by kernel_rfl)
          .nil (fun e40 a40 w40 hag hR hI => ?_)
      replace hbk := (hag 0 (by decide)).1.trans hbk
      refine wp_ret ?_
      replace hR := hR.reblk (b := ⟨0, 48, [.v (.slice (some (q.add 1)) (ys.length - 1) (cap - 1)), .v (.int .i64 ((off : Nat) : Int)), .v (.int .i64 ((nw : Nat) : Int)), .v (.int .i64 ((tb - 8 : Nat) : Int)), .v (.int .i64 ((tby - 1 : Nat) : Int)), .v (.int .u64 ((c2 : Nat) : Int))]⟩) (by simp) [.v (.slice (some (q.add 1)) (ys.length - 1) (cap - 1)), .v (.int .i64 ((off : Nat) : Int)), .v (.int .i64 ((nw : Nat) : Int)), .v (.int .i64 ((tb - 8 : Nat) : Int)), .v (.int .i64 ((tby - 1 : Nat) : Int)), .v (.int .u64 ((c2 : Nat) : Int))] [] (by simp) (rfl)
      dsimp only at hR
      refine outN tab (xs := [.v (.int .u8 ((cur % 256 / 2 ^ off ||| (ys.drop 1).getD 0 0 * 2 ^ (8 - off) % 256 : Nat) : Int)), .v (.int .i64 8)]) hR hI rfl (by kernel_rfl) ?_
      have hm8 : min tb 8 = 8 := by omega
      exact ⟨cur % 256 / 2 ^ off ||| (ys.drop 1).getD 0 0 * 2 ^ (8 - off) % 256, 1, c2, tby - 1, by rw [hm8]; rfl, hB.fin hR, hbk ▸ (hR.blk _ (List.mem_cons_self ..)).1, fun i h => byte_bits hcy (by rw [getD_drop0]) hcb8 hy1b ho8 (by omega) rfl, fun h => ⟨rfl, rfl, by rw [hc2, getD_drop0]⟩, hc2b, or8 (div_le_self' hcb8) (Nat.mod_lt _ (by decide)), Nat.le_refl _⟩
    · skip
      replace hI := hI.re 76 (.v (.bool false)) rfl (congrArg Value.bool hc33)
      try simp only [decide_eq_true_eq, decide_eq_false_iff_not, beq_iff_eq, bne_iff_ne, beq_eq_false_iff_ne, bne_eq_false_iff_eq, Bool.and_eq_true, Bool.and_eq_false_iff, Bool.or_eq_true, Bool.or_eq_false_iff, Bool.not_eq_true', Bool.not_eq_false', ne_eq] at hc33
      have hoff : off = 0 := by omega
      refine wp_skip ?_
      refine then_n ?_
      refine wp_seq ?_
      refine reg (is := [0, 1, 2, 3, 4]) (by kernel_rfl) ?_
      refine part_ tab [0, 1, 2, 3] [4] (by rfl) (k := 1) (hs := []) (sy := []) (ks := [96, 95, 2, 0]) (bs := [0]) (gs := [])
          (L' := [(96, .v (.int .u8 (((ys.drop 1).getD 0 0 : Nat) : Int))), (95, .p 0 5), (2, .v (.int .u8 ((cur % 256 : Nat) : Int))), (0, .p 0 0)])
          (H' := [⟨0, 48, [.v (.slice (some (q.add 1)) (ys.length - 1) (cap - 1)), .v (.int .i64 ((off : Nat) : Int)), .v (.int .i64 ((nw : Nat) : Int)), .v (.int .i64 ((tb : Nat) : Int)), .v (.int .i64 ((tby : Nat) : Int)), .v (.int .u64 ((cur : Nat) : Int))]⟩]) (G' := []) (k' := 1) hR hI (by kernel_rfl)
          .nil (fun e41 a41 w41 hag hR hI => ?_)
      replace hbk := (hag 0 (by decide)).1.trans hbk
      refine callOp (ys := [.p 0 5, .v (.int .u8 (((ys.drop 1).getD 0 0 : Nat) : Int))]) hI rfl rfl ⟨_, rfl, rfl, rfl⟩ (by kernel_rfl) Try.func23 rfl rfl ?_
      have hblk_ := hR.blk ⟨0, 48, [.v (.slice (some (q.add 1)) (ys.length - 1) (cap - 1)), .v (.int .i64 ((off : Nat) : Int)), .v (.int .i64 ((nw : Nat) : Int)), .v (.int .i64 ((tb : Nat) : Int)), .v (.int .i64 ((tby : Nat) : Int)), .v (.int .u64 ((cur : Nat) : Int))]⟩ (by simp)
      refine (setLSB_spec (C := fun _ => False) hblk_.1 (fun h => h) hcb hy1b).mono ?_
      rintro ex w42 ⟨c2, rfl, hk, hnew, hc2, hc2b⟩
      have hkF_ := hR.keepB (b := ⟨0, 48, [.v (.slice (some (q.add 1)) (ys.length - 1) (cap - 1)), .v (.int .i64 ((off : Nat) : Int)), .v (.int .i64 ((nw : Nat) : Int)), .v (.int .i64 ((tb : Nat) : Int)), .v (.int .i64 ((tby : Nat) : Int)), .v (.int .u64 ((cur : Nat) : Int))]⟩) (by simp) hk
      replace hy := hy.nextF hB hR hkF_
      replace hy1 := hy1.nextF hB hR hkF_
      have hB_ := hB.nextF hR hkF_
      replace hR := hR.turned (b := ⟨0, 48, [.v (.slice (some (q.add 1)) (ys.length - 1) (cap - 1)), .v (.int .i64 ((off : Nat) : Int)), .v (.int .i64 ((nw : Nat) : Int)), .v (.int .i64 ((tb : Nat) : Int)), .v (.int .i64 ((tby : Nat) : Int)), .v (.int .u64 ((cur : Nat) : Int))]⟩) (by simp) [.v (.slice (some (q.add 1)) (ys.length - 1) (cap - 1)), .v (.int .i64 ((off : Nat) : Int)), .v (.int .i64 ((nw : Nat) : Int)), .v (.int .i64 ((tb : Nat) : Int)), .v (.int .i64 ((tby : Nat) : Int)), .v (.int .u64 ((c2 : Nat) : Int))] [] (by simp) hk hnew
      dsimp only at hR; replace hB := hB_; clear hB_ hk hkF_ hblk_
      refine ⟨_, rfl, ?_⟩
      replace hI := hI.put (d := some 97) (x := .tup []) (by intro t ht; cases ht; decide) rfl
      replace hI := hI.sel [97, 96, 95, 2, 0] (by kernel_rfl : sel _ _ = some [(97, .tup []), (96, .v (.int .u8 (((ys.drop 1).getD 0 0 : Nat) : Int))), (95, .p 0 5), (2, .v (.int .u8 ((cur % 256 : Nat) : Int))), (0, .p 0 0)])
      refine ops_nil ?_
      refine then_n ?_
      refine reg_seq tab (k := 1) (hs := [(4, .eq (.int .i64 ((tb - 8 : Nat) : Int)))]) (sy := []) (ks := [2, 0]) (bs := [0]) (gs := [])
          (L' := [(2, .v (.int .u8 ((cur % 256 : Nat) : Int))), (0, .p 0 0)])
          (H' := [⟨0, 48, [.v (.slice (some (q.add 1)) (ys.length - 1) (cap - 1)), .v (.int .i64 ((off : Nat) : Int)), .v (.int .i64 ((nw : Nat) : Int)), .v (.int .i64 ((tb - 8 : Nat) : Int)), .v (.int .i64 ((tby : Nat) : Int)), .v (.int .u64 ((c2 : Nat) : Int))]⟩]) (G' := []) (k' := 1) hR hI (by kernel_rfl)
          (.cons (congrArg (Value.int .i64) (by rw [wrap_inR (inR_i64 (by omega))]; omega : IntKind.i64.wrap (((tb : Nat) : Int) - (8 : Int)) = ((tb - 8 : Nat) : Int))) .nil) (fun e43 a43 w43 hag hR hI => ?_)
      replace hbk := (hag 0 (by decide)).1.trans hbk
      refine reg_seq tab (k := 1) (hs := [(4, .eq (.int .i64 ((tby - 1 : Nat) : Int)))]) (sy := []) (ks := [2]) (bs := [0]) (gs := [])
          (L' := [(2, .v (.int .u8 ((cur % 256 : Nat) : Int)))])
          (H' := [⟨0, 48, [.v (.slice (some (q.add 1)) (ys.length - 1) (cap - 1)), .v (.int .i64 ((off : Nat) : Int)), .v (.int .i64 ((nw : Nat) : Int)), .v (.int .i64 ((tb - 8 : Nat) : Int)), .v (.int .i64 ((tby - 1 : Nat) : Int)), .v (.int .u64 ((c2 : Nat) : Int))]⟩]) (G' := []) (k' := 1) hR hI (by kernel_rfl)
          (.cons (congrArg (Value.int .i64) (by rw [wrap_inR (inR_i64 (by omega))]; omega : IntKind.i64.wrap (((tby : Nat) : Int) - (1 : Int)) = ((tby - 1 : Nat) : Int))) .nil) (fun e44 a44 w44 hag hR hI => ?_)
      replace hbk := (hag 0 (by decide)).1.trans hbk
      refine reg_seq tab (k := 1) (hs := []) (sy := []) (ks := [3, 2]) (bs := [0]) (gs := [])
          (L' := [(3, .v (.int .i64 8)), (2, .v (.int .u8 ((cur % 256 : Nat) : Int)))])
          (H' := [⟨0, 48, [.v (.slice (some (q.add 1)) (ys.length - 1) (cap - 1)), .v (.int .i64 ((off : Nat) : Int)), .v (.int .i64 ((nw : Nat) : Int)), .v (.int .i64 ((tb - 8 : Nat) : Int)), .v (.int .i64 ((tby - 1 : Nat) : Int)), .v (.int .u64 ((c2 : Nat) : Int))]⟩]) (G' := []) (k' := 1) hR hI (by kernel_rfl)
          .nil (fun e45 a45 w45 hag hR hI => ?_)
      replace hbk := (hag 0 (by decide)).1.trans hbk
      refine wp_ret ?_
      replace hR := hR.reblk (b := ⟨0, 48, [.v (.slice (some (q.add 1)) (ys.length - 1) (cap - 1)), .v (.int .i64 ((off : Nat) : Int)), .v (.int .i64 ((nw : Nat) : Int)), .v (.int .i64 ((tb - 8 : Nat) : Int)), .v (.int .i64 ((tby - 1 : Nat) : Int)), .v (.int .u64 ((c2 : Nat) : Int))]⟩) (by simp) [.v (.slice (some (q.add 1)) (ys.length - 1) (cap - 1)), .v (.int .i64 ((off : Nat) : Int)), .v (.int .i64 ((nw : Nat) : Int)), .v (.int .i64 ((tb - 8 : Nat) : Int)), .v (.int .i64 ((tby - 1 : Nat) : Int)), .v (.int .u64 ((c2 : Nat) : Int))] [] (by simp) (rfl)
      dsimp only at hR
      refine outN tab (xs := [.v (.int .u8 ((cur % 256 : Nat) : Int)), .v (.int .i64 8)]) hR hI rfl (by kernel_rfl) ?_
      have hm8 : min tb 8 = 8 := by omega
      exact ⟨cur % 256, 1, c2, tby - 1, by rw [hm8]; rfl, hB.fin hR, hbk ▸ (hR.blk _ (List.mem_cons_self ..)).1, fun i h => by rw [hoff, Nat.zero_add, bitN_T, show i / 8 = 0 by omega, show i % 8 = i by omega, hcy], fun h => ⟨rfl, rfl, by rw [hc2, getD_drop0]⟩, hc2b, hcb8, Nat.le_refl _⟩

end Go.Proofs.Ytbfbpkcepchldaa.Stride
