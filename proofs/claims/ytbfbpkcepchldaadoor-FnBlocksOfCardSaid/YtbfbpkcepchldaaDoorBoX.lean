/- Walks of the program's functions, printed by a program of mine (walk.py) over the words of Stride: each function's contract. -/
import Derived.Test.YtbfbpkcepchldaaDoorBoW
namespace Go.Proofs.YtbfbpkcepchldaaDoor.Stride
open Go Go.RowKit Go.Proofs.YtbfbpkcepchldaaDoor.Mag
set_option linter.unusedVariables false
set_option linter.unusedSimpArgs false
def cnt (f : Nat → Bool) : Nat → Nat
  | 0 => 0
  | n + 1 => cnt f n + (f n).toNat
theorem cnt_congr {f g : Nat → Bool} : ∀ {n : Nat}, (∀ i, i < n → f i = g i) → cnt f n = cnt g n
  | 0, _ => rfl
  | n + 1, h => by simp only [cnt]; rw [cnt_congr (fun i hi => h i (by omega)), h n (by omega)]
theorem cnt_add (f : Nat → Bool) (a : Nat) : ∀ b : Nat, cnt f (a + b) = cnt f a + cnt (fun i => f (a + i)) b
  | 0 => rfl
  | b + 1 => by show cnt f (a + b) + (f (a + b)).toNat = _; rw [cnt_add f a b]; simp only [cnt]; omega
theorem cnt_le (f : Nat → Bool) : ∀ n : Nat, cnt f n ≤ n
  | 0 => Nat.le_refl _
  | n + 1 => by simp only [cnt]; have := cnt_le f n; have : (f n).toNat ≤ 1 := by cases f n <;> decide
                omega
theorem cnt_true (n : Nat) : cnt (fun _ => true) n = n := by induction n with | zero => rfl | succ n ih => simp only [cnt, ih]; rfl
def pop8 (b : Nat) : Nat := cnt b.testBit 8
/-- The low byte and what is above it: bit by bit. -/
theorem and_bytes {a m : Nat} (x y : Nat) (ha : a < 256) (hm : m < 256) : (a + 256 * x) &&& (m + 256 * y) = (a &&& m) + 256 * (x &&& y) := by
  have key : ∀ {a : Nat} (x : Nat), a < 256 → ∀ i, (a + 256 * x).testBit i = if i < 8 then a.testBit i else x.testBit (i - 8) := fun {a} x ha i => by
    rw [Nat.add_comm, show (256 : Nat) = 2 ^ 8 from rfl, Nat.testBit_two_pow_mul_add x (by simpa using ha)]
  refine Nat.eq_of_testBit_eq fun i => ?_
  rw [Nat.testBit_and, key x ha, key y hm, key _ (Nat.lt_of_le_of_lt Nat.and_le_left ha)]
  split <;> rw [Nat.testBit_and]
theorem byte1 (b : Nat) (hb : b < 256) : (b / 2 &&& 85) + (b &&& 85) < 256 ∧ ((((b / 2 &&& 85) + (b &&& 85)) / 4 &&& 51) + (((b / 2 &&& 85) + (b &&& 85)) &&& 51)) / 16 ≤ 4 ∧
    ((((b / 2 &&& 85) + (b &&& 85)) / 4 &&& 51) + (((b / 2 &&& 85) + (b &&& 85)) &&& 51)) % 16 ≤ 4 ∧
    ((((b / 2 &&& 85) + (b &&& 85)) / 4 &&& 51) + (((b / 2 &&& 85) + (b &&& 85)) &&& 51)) / 16 + ((((b / 2 &&& 85) + (b &&& 85)) / 4 &&& 51) + (((b / 2 &&& 85) + (b &&& 85)) &&& 51)) % 16 = pop8 b := by
  have h : ∀ b : Fin 256, ((b.val / 2 &&& 85) + (b.val &&& 85) < 256 ∧ ((((b.val / 2 &&& 85) + (b.val &&& 85)) / 4 &&& 51) + (((b.val / 2 &&& 85) + (b.val &&& 85)) &&& 51)) / 16 ≤ 4 ∧
    ((((b.val / 2 &&& 85) + (b.val &&& 85)) / 4 &&& 51) + (((b.val / 2 &&& 85) + (b.val &&& 85)) &&& 51)) % 16 ≤ 4 ∧
    ((((b.val / 2 &&& 85) + (b.val &&& 85)) / 4 &&& 51) + (((b.val / 2 &&& 85) + (b.val &&& 85)) &&& 51)) / 16 + ((((b.val / 2 &&& 85) + (b.val &&& 85)) / 4 &&& 51) + (((b.val / 2 &&& 85) + (b.val &&& 85)) &&& 51)) % 16 = pop8 b.val) := by decide +kernel
  exact h ⟨b, hb⟩
theorem and_lt (a : Nat) {m : Nat} (h : m < 256) : a &&& m < 256 := Nat.lt_of_le_of_lt Nat.and_le_right h
/-- One step over a byte and the rest: shift and mask. -/
theorem shr_and {M b y : Nat} (hb : b < 256) : (b + 256 * y) / 2 &&& (85 + 256 * M) = (b / 2 &&& 85) + 256 * (y / 2 &&& M) := by
  have e : (b + 256 * y) / 2 = (b / 2 + 128 * (y % 2)) + 256 * (y / 2) := by omega
  have h1 : b / 2 < 128 := by omega
  rw [e, and_bytes _ _ (by omega) (by decide)]
  congr 1
  rcases Nat.mod_two_eq_zero_or_one y with h | h <;> rw [h]
  · rw [Nat.mul_zero, Nat.add_zero]
  · have h2 : ∀ c : Fin 128, (c.val + 128 * 1 &&& 85) = (c.val &&& 85) := by decide +kernel
    exact h2 ⟨_, h1⟩
theorem shr_and4 {M b y : Nat} (hb : b < 256) : (b + 256 * y) / 4 &&& (51 + 256 * M) = (b / 4 &&& 51) + 256 * (y / 4 &&& M) := by
  have e : (b + 256 * y) / 4 = (b / 4 + 64 * (y % 4)) + 256 * (y / 4) := by omega
  have h1 : b / 4 < 64 := by omega
  have h4 : y % 4 < 4 := by omega
  rw [e, and_bytes _ _ (by omega) (by decide)]
  congr 1
  have h2 : ∀ c : Fin 64, ∀ d : Fin 4, (c.val + 64 * d.val &&& 51) = (c.val &&& 51) := by decide +kernel
  exact h2 ⟨_, h1⟩ ⟨_, h4⟩
def m0 : Nat → Nat | 0 => 0 | n + 1 => 85 + 256 * m0 n
def m1 : Nat → Nat | 0 => 0 | n + 1 => 51 + 256 * m1 n
def m2 : Nat → Nat | 0 => 0 | n + 1 => 15 + 256 * m2 n
def s1 (n x : Nat) : Nat := (x / 2 &&& m0 n) + (x &&& m0 n)
def s2 (n x : Nat) : Nat := (x / 4 &&& m1 n) + (x &&& m1 n)
theorem s1_step (n : Nat) {b y : Nat} (hb : b < 256) : s1 (n + 1) (b + 256 * y) = ((b / 2 &&& 85) + (b &&& 85)) + 256 * s1 n y := by
  show ((b + 256 * y) / 2 &&& (85 + 256 * m0 n)) + ((b + 256 * y) &&& (85 + 256 * m0 n)) = _
  rw [shr_and hb, and_bytes _ _ hb (by decide)]; unfold s1; omega
theorem s2_step (n : Nat) {b y : Nat} (hb : b < 256) : s2 (n + 1) (b + 256 * y) = ((b / 4 &&& 51) + (b &&& 51)) + 256 * s2 n y := by
  show ((b + 256 * y) / 4 &&& (51 + 256 * m1 n)) + ((b + 256 * y) &&& (51 + 256 * m1 n)) = _
  rw [shr_and4 hb, and_bytes _ _ hb (by decide)]; unfold s2; omega
/-- Behind the first two steps each byte holds its two nibbles' counts. -/
def nib (b : Nat) : Nat := (((b / 2 &&& 85) + (b &&& 85)) / 4 &&& 51) + (((b / 2 &&& 85) + (b &&& 85)) &&& 51)
theorem s12 (n : Nat) {b y : Nat} (hb : b < 256) : s2 (n + 1) (s1 (n + 1) (b + 256 * y)) = nib b + 256 * s2 n (s1 n y) := by
  rw [s1_step n hb, s2_step n (byte1 b hb).1]; rfl
theorem nib_le {b : Nat} (hb : b < 256) : nib b / 16 ≤ 4 ∧ nib b % 16 ≤ 4 ∧ nib b / 16 + nib b % 16 = pop8 b := (byte1 b hb).2
theorem pop8_le (b : Nat) : pop8 b ≤ 8 := cnt_le _ 8
/-- A word by its bytes. -/
theorem word_split {x : Nat} (hx : x < 18446744073709551616) : ∃ a b c d e f g h : Nat, a < 256 ∧ b < 256 ∧ c < 256 ∧ d < 256 ∧ e < 256 ∧ f < 256 ∧ g < 256 ∧ h < 256 ∧ x = a + 256 * (b + 256 * (c + 256 * (d + 256 * (e + 256 * (f + 256 * (g + 256 * h)))))) :=
  ⟨x % 256, x / 256 % 256, x / 65536 % 256, x / 16777216 % 256, x / 4294967296 % 256, x / 1099511627776 % 256, x / 281474976710656 % 256, x / 72057594037927936, by omega, by omega, by omega, by omega, by omega, by omega, by omega, by omega, by omega⟩
theorem test_byte {a x i : Nat} (ha : a < 256) : (a + 256 * x).testBit i = if i < 8 then a.testBit i else x.testBit (i - 8) := by
  rw [Nat.add_comm, show (256 : Nat) = 2 ^ 8 from rfl, Nat.testBit_two_pow_mul_add x (by simpa using ha)]
theorem cnt_step {a x : Nat} (ha : a < 256) (n : Nat) : cnt (a + 256 * x).testBit (8 + n) = pop8 a + cnt x.testBit n := by
  rw [cnt_add]
  congr 1
  · exact cnt_congr fun i hi => by rw [test_byte ha, if_pos hi]
  · exact cnt_congr fun i hi => by rw [test_byte ha, if_neg (by omega)]; congr 1; omega
set_option maxHeartbeats 4000000 in
theorem swar {x : Nat} (hx : x < 18446744073709551616) {x2 x3 x4 x5 x6 : Nat} (h2 : x2 = s2 8 (s1 8 x)) (h3 : x3 = (x2 / 16 + x2) &&& m2 8) (h4 : x4 = x3 + x3 / 256) (h5 : x5 = x4 + x4 / 65536) (h6 : x6 = x5 + x5 / 4294967296) :
    x2 ≤ 4919131752989213764 ∧ x3 < 18446744073709551616 / 16 ∧ x6 % 128 = cnt x.testBit 64 ∧ x6 < 18446744073709551616 / 2 := by
  obtain ⟨a, b, c, d, e, f, g, h, ha, hb, hc, hd, he, hf, hg, hh, rfl⟩ := word_split hx
  have hp : cnt (a + 256 * (b + 256 * (c + 256 * (d + 256 * (e + 256 * (f + 256 * (g + 256 * h))))))).testBit 64 = pop8 a + (pop8 b + (pop8 c + (pop8 d + (pop8 e + (pop8 f + (pop8 g + pop8 h)))))) := by
    rw [show (64 : Nat) = 8 + (8 + (8 + (8 + (8 + (8 + (8 + 8)))))) from rfl, cnt_step ha, cnt_step hb, cnt_step hc, cnt_step hd, cnt_step he, cnt_step hf, cnt_step hg]; rfl
  rw [show h = h + 256 * 0 by omega, s12 7 ha, s12 6 hb, s12 5 hc, s12 4 hd, s12 3 he, s12 2 hf, s12 1 hg, s12 0 hh] at h2
  have hz : s2 0 (s1 0 0) = 0 := rfl
  rw [hz, Nat.mul_zero, Nat.add_zero] at h2
  rw [hp]
  have na := nib_le ha; have nb := nib_le hb; have nc := nib_le hc; have nd := nib_le hd; have ne := nib_le he; have nf := nib_le hf; have ng := nib_le hg; have nh := nib_le hh
  have split16 : ∀ z : Nat, z = 16 * (z / 16) + z % 16 := fun z => by omega
  have qa := split16 (nib a); have qb := split16 (nib b); have qc := split16 (nib c); have qd := split16 (nib d); have qe := split16 (nib e); have qf := split16 (nib f); have qg := split16 (nib g); have qh := split16 (nib h)
  generalize nib a / 16 = a1 at *; generalize nib a % 16 = a0 at *; generalize nib b / 16 = b1 at *; generalize nib b % 16 = b0 at *
  generalize nib c / 16 = c1 at *; generalize nib c % 16 = c0 at *; generalize nib d / 16 = d1 at *; generalize nib d % 16 = d0 at *
  generalize nib e / 16 = e1 at *; generalize nib e % 16 = e0 at *; generalize nib f / 16 = f1 at *; generalize nib f % 16 = f0 at *
  generalize nib g / 16 = g1 at *; generalize nib g % 16 = g0 at *; generalize nib h / 16 = h1 at *; generalize nib h % 16 = h0 at *
  rw [qa, qb, qc, qd, qe, qf, qg, qh] at h2
  have e3 : x2 / 16 + x2 = (a1 + a0 + 16 * (a1 + b0)) + 256 * ((b1 + b0 + 16 * (b1 + c0)) + 256 * ((c1 + c0 + 16 * (c1 + d0)) + 256 * ((d1 + d0 + 16 * (d1 + e0)) + 256 * ((e1 + e0 + 16 * (e1 + f0)) + 256 * ((f1 + f0 + 16 * (f1 + g0)) + 256 * ((g1 + g0 + 16 * (g1 + h0)) + 256 * (h1 + h0 + 16 * h1))))))) := by omega
  have low : ∀ {u v : Nat}, u ≤ 4 → v ≤ 4 → ∀ {w : Nat}, w ≤ 8 → (u + v + 16 * w) &&& 15 = u + v := fun {u v} hu hv {w} hw => by
    rw [show (15 : Nat) = 2 ^ 4 - 1 from rfl, Nat.and_two_pow_sub_one_eq_mod]; omega
  have hx3 : x3 = (a1 + a0) + 256 * ((b1 + b0) + 256 * ((c1 + c0) + 256 * ((d1 + d0) + 256 * ((e1 + e0) + 256 * ((f1 + f0) + 256 * ((g1 + g0) + 256 * (h1 + h0))))))) := by
    have hM : m2 8 = 15 + 256 * (15 + 256 * (15 + 256 * (15 + 256 * (15 + 256 * (15 + 256 * (15 + 256 * 15)))))) := rfl
    rw [h3, e3, hM, and_bytes _ _ (by omega) (by decide), and_bytes _ _ (by omega) (by decide), and_bytes _ _ (by omega) (by decide), and_bytes _ _ (by omega) (by decide), and_bytes _ _ (by omega) (by decide), and_bytes _ _ (by omega) (by decide), and_bytes _ _ (by omega) (by decide),
      low (by omega) (by omega) (by omega), low (by omega) (by omega) (by omega), low (by omega) (by omega) (by omega), low (by omega) (by omega) (by omega), low (by omega) (by omega) (by omega), low (by omega) (by omega) (by omega), low (by omega) (by omega) (by omega), low (by omega) (by omega) (by omega)]
  rw [← na.2.2, ← nb.2.2, ← nc.2.2, ← nd.2.2, ← ne.2.2, ← nf.2.2, ← ng.2.2, ← nh.2.2]
  have la : a1 + a0 ≤ 8 := by omega
  have lb : b1 + b0 ≤ 8 := by omega
  have lc : c1 + c0 ≤ 8 := by omega
  have ld : d1 + d0 ≤ 8 := by omega
  have le : e1 + e0 ≤ 8 := by omega
  have lf : f1 + f0 ≤ 8 := by omega
  have lg : g1 + g0 ≤ 8 := by omega
  have lh : h1 + h0 ≤ 8 := by omega
  have hx2 : x2 ≤ 4919131752989213764 := by omega
  clear h2 h3 e3 low hp qa qb qc qd qe qf qg qh split16 na nb nc nd ne nf ng nh
  generalize a1 + a0 = a at *; generalize b1 + b0 = b at *; generalize c1 + c0 = c at *; generalize d1 + d0 = d at *
  generalize e1 + e0 = e at *; generalize f1 + f0 = f at *; generalize g1 + g0 = g at *; generalize h1 + h0 = h at *
  have q4 : x4 = (a + b) + 256 * ((b + c) + 256 * ((c + d) + 256 * ((d + e) + 256 * ((e + f) + 256 * ((f + g) + 256 * ((g + h) + 256 * h)))))) := by omega
  have q5 : x5 = (a + b + c + d) + 256 * ((b + c + d + e) + 256 * ((c + d + e + f) + 256 * ((d + e + f + g) + 256 * ((e + f + g + h) + 256 * ((f + g + h) + 256 * ((g + h) + 256 * h)))))) := by omega
  have q6 : x6 = (a + b + c + d + e + f + g + h) + 256 * ((b + c + d + e + f + g + h) + 256 * ((c + d + e + f + g + h) + 256 * ((d + e + f + g + h) + 256 * ((e + f + g + h) + 256 * ((f + g + h) + 256 * ((g + h) + 256 * h)))))) := by omega
  refine ⟨hx2, by omega, by omega, by omega⟩


def bitMask : List Nat := [1, 2, 4, 8, 16, 32, 64, 128]
theorem u8_mask_ne (b k : Nat) (hb : b < 256) (hk : k < 8) : (bits .and .u8 (b : Int) ((bitMask.getD k 0 : Nat) : Int) != (0 : Int)) = b.testBit k := by
  have h2 : ∀ b : Fin 256, ∀ k : Fin 8, (bits .and .u8 (b.val : Int) ((bitMask.getD k.val 0 : Nat) : Int) != (0 : Int)) = b.val.testBit k.val := by decide +kernel
  exact h2 ⟨b, hb⟩ ⟨k, hk⟩
def pop8tab : List UInt8 := [0, 1, 1, 2, 1, 2, 2, 3, 1, 2, 2, 3, 2, 3, 3, 4, 1, 2, 2, 3, 2, 3, 3, 4, 2, 3, 3, 4, 3, 4, 4, 5, 1, 2, 2, 3, 2, 3, 3, 4, 2, 3, 3, 4, 3, 4, 4, 5, 2, 3, 3, 4, 3, 4, 4, 5, 3, 4, 4, 5, 4, 5, 5, 6, 1, 2, 2, 3, 2, 3, 3, 4, 2, 3, 3, 4, 3, 4, 4, 5, 2, 3, 3, 4, 3, 4, 4, 5, 3, 4, 4, 5, 4, 5, 5, 6, 2, 3, 3, 4, 3, 4, 4, 5, 3, 4, 4, 5, 4, 5, 5, 6, 3, 4, 4, 5, 4, 5, 5, 6, 4, 5, 5, 6, 5, 6, 6, 7, 1, 2, 2, 3, 2, 3, 3, 4, 2, 3, 3, 4, 3, 4, 4, 5, 2, 3, 3, 4, 3, 4, 4, 5, 3, 4, 4, 5, 4, 5, 5, 6, 2, 3, 3, 4, 3, 4, 4, 5, 3, 4, 4, 5, 4, 5, 5, 6, 3, 4, 4, 5, 4, 5, 5, 6, 4, 5, 5, 6, 5, 6, 6, 7, 2, 3, 3, 4, 3, 4, 4, 5, 3, 4, 4, 5, 4, 5, 5, 6, 3, 4, 4, 5, 4, 5, 5, 6, 4, 5, 5, 6, 5, 6, 6, 7, 3, 4, 4, 5, 4, 5, 5, 6, 4, 5, 5, 6, 5, 6, 6, 7, 4, 5, 5, 6, 5, 6, 6, 7, 5, 6, 6, 7, 6, 7, 7, 8]
theorem tab8 {x : Nat} (h : x < 256) : (((pop8tab.getD x 0).toNat : Nat) : Int) = ((pop8 x : Nat) : Int) := by
  have h2 : ∀ x : Fin 256, (((pop8tab.getD x.val 0).toNat : Nat) : Int) = ((pop8 x.val : Nat) : Int) := by decide +kernel
  exact h2 ⟨x, h⟩
theorem u64_and (a b : Nat) (ha : a < 18446744073709551616) (hb : b < 18446744073709551616) : bits .and .u64 (a : Int) (b : Int) = ((a &&& b : Nat) : Int) :=
  (bits_nat .u64 64 (by decide) (fun n h0 h1 => by rw [wrap_u64]; omega) a b ha hb).1
theorem i64_and127 (a : Nat) (ha : a < 9223372036854775808) : bits .and .i64 (a : Int) 127 = ((a % 128 : Nat) : Int) := by
  have := bits_mask .i64 63 (by decide) (fun n h0 h1 => by rw [IntKind.wrap_i64]; omega) 7 (by decide) (a : Int) (by omega) (by omega)
  simpa using this
theorem g0_load {F : Nat → Prop} {w : World} (hF0 : F 0) : ∃ a, (some ⟨0, 0, none⟩ : Option Addr) = some a ∧ loadsAt w a (.agg #[]) true ∧ (true = true → (Value.agg #[]).cells.size = 0) ∧ F a.block :=
  ⟨_, rfl, ⟨#[], rfl, fun j u h => by simp at h⟩, fun _ => rfl, hF0⟩

set_option maxHeartbeats 4000000 in
set_option maxRecDepth 100000 in
theorem bytesForBits_spec {C : Nat → Prop} {w : World} {p : Nat} (hp : p ≤ 1000000) :
    Calls P 19 #[.int .i64 ((p : Nat) : Int)] w fun ex w' => ∃ m : Nat, ex = .returned (.int .i64 ((m : Nat) : Int)) ∧ m = (p + 7) / 8 ∧ Keep (fun b => b < w.heap.size) w w' := by
  refine doorN (e := e0) (vs := [.v (.int .i64 ((p : Nat) : Int))]) (n := 6) (m := 1) Tryd.func19 rfl rfl rfl (by decide) fun a_ hI => ?_
  replace hI : Is 6 [] e0 [(0, .v (.int .i64 ((p : Nat) : Int)))] a_ := hI
  have hR : Rel (fun b => b < w.heap.size) w e0 [] [] w := Rel.start (fun k hk => hk)
  have hB : Base C w C (fun b => b < w.heap.size) w := Base.start
  refine reg_seq tab (k := 0) (hs := []) (sy := []) (ks := [0]) (bs := []) (gs := [])
      (L' := [(0, .v (.int .i64 ((p : Nat) : Int)))])
      (H' := []) (G' := []) (k' := 0) hR hI (by kernel_rfl)
      .nil (fun e1 a1 w1 hag hR hI => ?_)
  refine reg_seq tab (k := 0) (hs := [(1, .nw)]) (sy := []) (ks := [2]) (bs := []) (gs := [])
      (L' := [(2, .v (.int .i64 (((p + 7) / 8 : Nat) : Int)))])
      (H' := []) (G' := []) (k' := 0) hR hI (by kernel_rfl)
      (.cons (inR_i64 (n := ((p : Nat) : Int) + (7 : Int)) (by omega)) (.cons (by decide : (0 : Int) ≤ 3) (.cons (by decide : (3 : Int) ≤ (IntKind.i64.bits : Int)) .nil))) (fun e2 a2 w2 hag hR hI => ?_)
  refine wp_ret ?_
  refine outN tab (xs := [.v (.int .i64 (((p + 7) / 8 : Nat) : Int))]) hR hI rfl (by kernel_rfl) ?_
  exact ⟨_, rfl, rfl, hB.fin hR⟩

set_option maxHeartbeats 4000000 in
set_option maxRecDepth 100000 in
theorem roundUp_spec {C : Nat → Prop} {w : World} {p : Nat} (hp : p ≤ 1000000) :
    Calls P 27 #[.int .i64 ((p : Nat) : Int), .int .i64 64] w fun ex w' => ex = .returned (.int .i64 (((p + 63) / 64 * 64 : Nat) : Int)) ∧ Keep (fun b => b < w.heap.size) w w' := by
  refine doorN (e := e0) (vs := [.v (.int .i64 ((p : Nat) : Int)), .v (.int .i64 64)]) (n := 13) (m := 2) Tryd.func27 rfl rfl rfl (by decide) fun a_ hI => ?_
  replace hI : Is 13 [] e0 [(0, .v (.int .i64 ((p : Nat) : Int))), (1, .v (.int .i64 64))] a_ := hI
  have hR : Rel (fun b => b < w.heap.size) w e0 [] [] w := Rel.start (fun k hk => hk)
  have hB : Base C w C (fun b => b < w.heap.size) w := Base.start
  refine reg_seq tab (k := 0) (hs := []) (sy := []) (ks := [0, 1]) (bs := []) (gs := [])
      (L' := [(0, .v (.int .i64 ((p : Nat) : Int))), (1, .v (.int .i64 64))])
      (H' := []) (G' := []) (k' := 0) hR hI (by kernel_rfl)
      .nil (fun e1 a1 w1 hag hR hI => ?_)
  refine reg_seq tab (k := 0) (hs := [(2, .eq (.int .i64 63)), (3, .nw), (5, .nw), (7, .nw)]) (sy := []) (ks := [4]) (bs := []) (gs := [])
      (L' := [(4, .v (.int .i64 ((((p + 63) / 64) * 64 : Nat) : Int)))])
      (H' := []) (G' := []) (k' := 0) hR hI (by kernel_rfl)
      (.cons (congrArg (Value.int .i64) (by decide : IntKind.i64.wrap ((64 : Int) - (1 : Int)) = 63)) (.cons (inR_i64 (n := ((p : Nat) : Int) + (63 : Int)) (by omega)) (.cons (by omega : (0 : Int) ≤ ((p + 63 : Nat) : Int)) (.cons (by omega : (0 : Int) < (64 : Int)) (.cons (inR_i64 (n := ((p + 63 : Nat) : Int) / (64 : Int)) (by omega)) (.cons (inR_i64 (n := (((p + 63) / 64 : Nat) : Int) * (64 : Int)) (by omega)) .nil)))))) (fun e2 a2 w2 hag hR hI => ?_)
  refine wp_ret ?_
  refine outN tab (xs := [.v (.int .i64 ((((p + 63) / 64) * 64 : Nat) : Int))]) hR hI rfl (by kernel_rfl) ?_
  exact ⟨rfl, hB.fin hR⟩

set_option maxHeartbeats 4000000 in
set_option maxRecDepth 100000 in
theorem min_spec {C : Nat → Prop} {w : World} (p q : Nat) :
    Calls P 28 #[.int .i64 ((p : Nat) : Int), .int .i64 ((q : Nat) : Int)] w fun ex w' => ex = .returned (.int .i64 ((min p q : Nat) : Int)) ∧ Keep (fun b => b < w.heap.size) w w' := by
  refine doorN (e := e0) (vs := [.v (.int .i64 ((p : Nat) : Int)), .v (.int .i64 ((q : Nat) : Int))]) (n := 10) (m := 2) Tryd.func28 rfl rfl rfl (by decide) fun a_ hI => ?_
  replace hI : Is 10 [] e0 [(0, .v (.int .i64 ((p : Nat) : Int))), (1, .v (.int .i64 ((q : Nat) : Int)))] a_ := hI
  have hR : Rel (fun b => b < w.heap.size) w e0 [] [] w := Rel.start (fun k hk => hk)
  have hB : Base C w C (fun b => b < w.heap.size) w := Base.start
  refine reg_seq tab (k := 0) (hs := []) (sy := []) (ks := [0, 1]) (bs := []) (gs := [])
      (L' := [(0, .v (.int .i64 ((p : Nat) : Int))), (1, .v (.int .i64 ((q : Nat) : Int)))])
      (H' := []) (G' := []) (k' := 0) hR hI (by kernel_rfl)
      .nil (fun e1 a1 w1 hag hR hI => ?_)
  refine wp_seq ?_
  refine reg_seq tab (k := 0) (hs := []) (sy := []) (ks := [7, 0, 1]) (bs := []) (gs := [])
      (L' := [(7, .v (.bool (decide (((p : Nat) : Int) < ((q : Nat) : Int))))), (0, .v (.int .i64 ((p : Nat) : Int))), (1, .v (.int .i64 ((q : Nat) : Int)))])
      (H' := []) (G' := []) (k' := 0) hR hI (by kernel_rfl)
      .nil (fun e2 a2 w2 hag hR hI => ?_)
  refine cnd (b := decide (((p : Nat) : Int) < ((q : Nat) : Int))) hI (by kernel_rfl) (fun hc3 => ?_) (fun hc3 => ?_)
  · skip
    replace hI := hI.re 7 (.v (.bool true)) rfl (congrArg Value.bool hc3)
    try simp only [decide_eq_true_eq, decide_eq_false_iff_not, beq_iff_eq, bne_iff_ne, beq_eq_false_iff_ne, bne_eq_false_iff_eq, Bool.and_eq_true, Bool.and_eq_false_iff, Bool.or_eq_true, Bool.or_eq_false_iff, Bool.not_eq_true', Bool.not_eq_false', ne_eq] at hc3
    refine reg_seq tab (k := 0) (hs := []) (sy := []) (ks := [4]) (bs := []) (gs := [])
        (L' := [(4, .v (.int .i64 ((p : Nat) : Int)))])
        (H' := []) (G' := []) (k' := 0) hR hI (by kernel_rfl)
        .nil (fun e4 a4 w4 hag hR hI => ?_)
    refine wp_ret ?_
    refine ret_then ?_
    refine outN tab (xs := [.v (.int .i64 ((p : Nat) : Int))]) hR hI rfl (by kernel_rfl) ?_
    exact ⟨congrArg (fun z : Nat => Ending.returned (Value.int .i64 ((z : Nat) : Int))) (by omega), hB.fin hR⟩
  · skip
    replace hI := hI.re 7 (.v (.bool false)) rfl (congrArg Value.bool hc3)
    try simp only [decide_eq_true_eq, decide_eq_false_iff_not, beq_iff_eq, bne_iff_ne, beq_eq_false_iff_ne, bne_eq_false_iff_eq, Bool.and_eq_true, Bool.and_eq_false_iff, Bool.or_eq_true, Bool.or_eq_false_iff, Bool.not_eq_true', Bool.not_eq_false', ne_eq] at hc3
    refine wp_skip ?_
    refine then_n ?_
    refine reg_seq tab (k := 0) (hs := []) (sy := []) (ks := [4]) (bs := []) (gs := [])
        (L' := [(4, .v (.int .i64 ((q : Nat) : Int)))])
        (H' := []) (G' := []) (k' := 0) hR hI (by kernel_rfl)
        .nil (fun e5 a5 w5 hag hR hI => ?_)
    refine wp_ret ?_
    refine outN tab (xs := [.v (.int .i64 ((q : Nat) : Int))]) hR hI rfl (by kernel_rfl) ?_
    exact ⟨congrArg (fun z : Nat => Ending.returned (Value.int .i64 ((z : Nat) : Int))) (by omega), hB.fin hR⟩

set_option maxHeartbeats 4000000 in
set_option maxRecDepth 100000 in
theorem minI_spec {C : Nat → Prop} {w : World} (p q : Nat) :
    Calls P 20 #[.int .i64 ((p : Nat) : Int), .int .i64 ((q : Nat) : Int)] w fun ex w' => ex = .returned (.int .i64 ((min p q : Nat) : Int)) ∧ Keep (fun b => b < w.heap.size) w w' := by
  refine doorN (e := e0) (vs := [.v (.int .i64 ((p : Nat) : Int)), .v (.int .i64 ((q : Nat) : Int))]) (n := 10) (m := 2) Tryd.func20 rfl rfl rfl (by decide) fun a_ hI => ?_
  replace hI : Is 10 [] e0 [(0, .v (.int .i64 ((p : Nat) : Int))), (1, .v (.int .i64 ((q : Nat) : Int)))] a_ := hI
  have hR : Rel (fun b => b < w.heap.size) w e0 [] [] w := Rel.start (fun k hk => hk)
  have hB : Base C w C (fun b => b < w.heap.size) w := Base.start
  refine reg_seq tab (k := 0) (hs := []) (sy := []) (ks := [0, 1]) (bs := []) (gs := [])
      (L' := [(0, .v (.int .i64 ((p : Nat) : Int))), (1, .v (.int .i64 ((q : Nat) : Int)))])
      (H' := []) (G' := []) (k' := 0) hR hI (by kernel_rfl)
      .nil (fun e1 a1 w1 hag hR hI => ?_)
  refine wp_seq ?_
  refine reg_seq tab (k := 0) (hs := []) (sy := []) (ks := [7, 0, 1]) (bs := []) (gs := [])
      (L' := [(7, .v (.bool (decide (((p : Nat) : Int) < ((q : Nat) : Int))))), (0, .v (.int .i64 ((p : Nat) : Int))), (1, .v (.int .i64 ((q : Nat) : Int)))])
      (H' := []) (G' := []) (k' := 0) hR hI (by kernel_rfl)
      .nil (fun e2 a2 w2 hag hR hI => ?_)
  refine cnd (b := decide (((p : Nat) : Int) < ((q : Nat) : Int))) hI (by kernel_rfl) (fun hc3 => ?_) (fun hc3 => ?_)
  · skip
    replace hI := hI.re 7 (.v (.bool true)) rfl (congrArg Value.bool hc3)
    try simp only [decide_eq_true_eq, decide_eq_false_iff_not, beq_iff_eq, bne_iff_ne, beq_eq_false_iff_ne, bne_eq_false_iff_eq, Bool.and_eq_true, Bool.and_eq_false_iff, Bool.or_eq_true, Bool.or_eq_false_iff, Bool.not_eq_true', Bool.not_eq_false', ne_eq] at hc3
    refine reg_seq tab (k := 0) (hs := []) (sy := []) (ks := [4]) (bs := []) (gs := [])
        (L' := [(4, .v (.int .i64 ((p : Nat) : Int)))])
        (H' := []) (G' := []) (k' := 0) hR hI (by kernel_rfl)
        .nil (fun e4 a4 w4 hag hR hI => ?_)
    refine wp_ret ?_
    refine ret_then ?_
    refine outN tab (xs := [.v (.int .i64 ((p : Nat) : Int))]) hR hI rfl (by kernel_rfl) ?_
    exact ⟨congrArg (fun z : Nat => Ending.returned (Value.int .i64 ((z : Nat) : Int))) (by omega), hB.fin hR⟩
  · skip
    replace hI := hI.re 7 (.v (.bool false)) rfl (congrArg Value.bool hc3)
    try simp only [decide_eq_true_eq, decide_eq_false_iff_not, beq_iff_eq, bne_iff_ne, beq_eq_false_iff_ne, bne_eq_false_iff_eq, Bool.and_eq_true, Bool.and_eq_false_iff, Bool.or_eq_true, Bool.or_eq_false_iff, Bool.not_eq_true', Bool.not_eq_false', ne_eq] at hc3
    refine wp_skip ?_
    refine then_n ?_
    refine reg_seq tab (k := 0) (hs := []) (sy := []) (ks := [4]) (bs := []) (gs := [])
        (L' := [(4, .v (.int .i64 ((q : Nat) : Int)))])
        (H' := []) (G' := []) (k' := 0) hR hI (by kernel_rfl)
        .nil (fun e5 a5 w5 hag hR hI => ?_)
    refine wp_ret ?_
    refine outN tab (xs := [.v (.int .i64 ((q : Nat) : Int))]) hR hI rfl (by kernel_rfl) ?_
    exact ⟨congrArg (fun z : Nat => Ending.returned (Value.int .i64 ((z : Nat) : Int))) (by omega), hB.fin hR⟩

set_option maxHeartbeats 4000000 in
set_option maxRecDepth 100000 in
theorem onesCount8_spec {C : Nat → Prop} {w : World} {x : Nat} (hx : x < 256) :
    Calls P 25 #[.int .u8 ((x : Nat) : Int)] w fun ex w' => ex = .returned (.int .i64 ((pop8 x : Nat) : Int)) ∧ Keep (fun b => b < w.heap.size) w w' := by
  refine doorN (e := e0) (vs := [.v (.int .u8 ((x : Nat) : Int))]) (n := 6) (m := 1) Tryd.func25 rfl rfl rfl (by decide) fun a_ hI => ?_
  replace hI : Is 6 [] e0 [(0, .v (.int .u8 ((x : Nat) : Int)))] a_ := hI
  have hR : Rel (fun b => b < w.heap.size) w e0 [] [] w := Rel.start (fun k hk => hk)
  have hB : Base C w C (fun b => b < w.heap.size) w := Base.start
  have h8 := pop8_le x; have hpl : pop8tab.length = 256 := rfl
  refine reg_seq tab (k := 0) (hs := []) (sy := []) (ks := [0]) (bs := []) (gs := [])
      (L' := [(0, .v (.int .u8 ((x : Nat) : Int)))])
      (H' := []) (G' := []) (k' := 0) hR hI (by kernel_rfl)
      .nil (fun e1 a1 w1 hag hR hI => ?_)
  refine reg_seq tab (k := 0) (hs := [(1, .eq (.int .u8 ((pop8 x : Nat) : Int))), (2, .nw)]) (sy := []) (ks := [2]) (bs := []) (gs := [])
      (L' := [(2, .v (.int .i64 ((pop8 x : Nat) : Int)))])
      (H' := []) (G' := []) (k' := 0) hR hI (by kernel_rfl)
      (.cons (congrArg (Value.int .u8) (tab8 hx : ((([0, 1, 1, 2, 1, 2, 2, 3, 1, 2, 2, 3, 2, 3, 3, 4, 1, 2, 2, 3, 2, 3, 3, 4, 2, 3, 3, 4, 3, 4, 4, 5, 1, 2, 2, 3, 2, 3, 3, 4, 2, 3, 3, 4, 3, 4, 4, 5, 2, 3, 3, 4, 3, 4, 4, 5, 3, 4, 4, 5, 4, 5, 5, 6, 1, 2, 2, 3, 2, 3, 3, 4, 2, 3, 3, 4, 3, 4, 4, 5, 2, 3, 3, 4, 3, 4, 4, 5, 3, 4, 4, 5, 4, 5, 5, 6, 2, 3, 3, 4, 3, 4, 4, 5, 3, 4, 4, 5, 4, 5, 5, 6, 3, 4, 4, 5, 4, 5, 5, 6, 4, 5, 5, 6, 5, 6, 6, 7, 1, 2, 2, 3, 2, 3, 3, 4, 2, 3, 3, 4, 3, 4, 4, 5, 2, 3, 3, 4, 3, 4, 4, 5, 3, 4, 4, 5, 4, 5, 5, 6, 2, 3, 3, 4, 3, 4, 4, 5, 3, 4, 4, 5, 4, 5, 5, 6, 3, 4, 4, 5, 4, 5, 5, 6, 4, 5, 5, 6, 5, 6, 6, 7, 2, 3, 3, 4, 3, 4, 4, 5, 3, 4, 4, 5, 4, 5, 5, 6, 3, 4, 4, 5, 4, 5, 5, 6, 4, 5, 5, 6, 5, 6, 6, 7, 3, 4, 4, 5, 4, 5, 5, 6, 4, 5, 5, 6, 5, 6, 6, 7, 4, 5, 5, 6, 5, 6, 6, 7, 5, 6, 6, 7, 6, 7, 7, 8] : List UInt8).getD x 0).toNat : Int) = ((pop8 x : Nat) : Int))) (.cons (by omega : (0 : Int) ≤ ((x : Nat) : Int) ∧ ((x : Nat) : Int) < (pop8tab.length : Nat)) (.cons (inR_i64 (n := ((pop8 x : Nat) : Int)) (by omega)) .nil))) (fun e2 a2 w2 hag hR hI => ?_)
  refine wp_ret ?_
  refine outN tab (xs := [.v (.int .i64 ((pop8 x : Nat) : Int))]) hR hI rfl (by kernel_rfl) ?_
  exact ⟨rfl, hB.fin hR⟩

set_option maxHeartbeats 4000000 in
set_option maxRecDepth 100000 in
theorem onesCount64_spec {C : Nat → Prop} {w : World} {x : Nat} (hx : x < 18446744073709551616) :
    Calls P 16 #[.int .u64 ((x : Nat) : Int)] w fun ex w' => ex = .returned (.int .i64 ((cnt x.testBit 64 : Nat) : Int)) ∧ Keep (fun b => b < w.heap.size) w w' := by
  refine doorN (e := e0) (vs := [.v (.int .u64 ((x : Nat) : Int))]) (n := 35) (m := 1) Tryd.func16 rfl rfl rfl (by decide) fun a_ hI => ?_
  replace hI : Is 35 [] e0 [(0, .v (.int .u64 ((x : Nat) : Int)))] a_ := hI
  have hR : Rel (fun b => b < w.heap.size) w e0 [] [] w := Rel.start (fun k hk => hk)
  have hB : Base C w C (fun b => b < w.heap.size) w := Base.start
  have hl0 : x / 2 &&& 6148914691236517205 ≤ 6148914691236517205 := Nat.and_le_right; have hl0' : x &&& 6148914691236517205 ≤ 6148914691236517205 := Nat.and_le_right
  refine reg_seq tab (k := 0) (hs := []) (sy := []) (ks := [0]) (bs := []) (gs := [])
      (L' := [(0, .v (.int .u64 ((x : Nat) : Int)))])
      (H' := []) (G' := []) (k' := 0) hR hI (by kernel_rfl)
      .nil (fun e1 a1 w1 hag hR hI => ?_)
  refine reg_seq tab (k := 0) (hs := [(2, .eq (.int .u64 ((x / 2 &&& 6148914691236517205 : Nat) : Int))), (4, .eq (.int .u64 ((x &&& 6148914691236517205 : Nat) : Int))), (5, .nw)]) (sy := []) (ks := [0]) (bs := []) (gs := [])
      (L' := [(0, .v (.int .u64 (((x / 2 &&& 6148914691236517205) + (x &&& 6148914691236517205) : Nat) : Int)))])
      (H' := []) (G' := []) (k' := 0) hR hI (by kernel_rfl)
      (.cons (by decide : (0 : Int) ≤ 1) (.cons (by decide : (1 : Int) ≤ (IntKind.u64.bits : Int)) (.cons (congrArg (Value.int .u64) (u64_and (x / 2) 6148914691236517205 (by omega) (by decide) : bits .and .u64 ((x / 2 : Nat) : Int) (6148914691236517205 : Int) = ((x / 2 &&& 6148914691236517205 : Nat) : Int))) (.cons (congrArg (Value.int .u64) (u64_and x 6148914691236517205 hx (by decide) : bits .and .u64 ((x : Nat) : Int) (6148914691236517205 : Int) = ((x &&& 6148914691236517205 : Nat) : Int))) (.cons (inR_u64 (n := ((x / 2 &&& 6148914691236517205 : Nat) : Int) + ((x &&& 6148914691236517205 : Nat) : Int)) (by omega)) .nil))))) (fun e2 a2 w2 hag hR hI => ?_)
  obtain ⟨x1, hx1⟩ : ∃ x1, x1 = s1 8 x := ⟨_, rfl⟩
  replace hI := hI.re 0 (.v (.int .u64 ((x1 : Nat) : Int))) rfl (congrArg (Value.int .u64) (by rw [hx1]; rfl))
  have hb1 : x1 < 18446744073709551616 := by rw [hx1]; show (x / 2 &&& 6148914691236517205) + (x &&& 6148914691236517205) < _; omega
  have hl1 : x1 / 4 &&& 3689348814741910323 ≤ 3689348814741910323 := Nat.and_le_right; have hl1' : x1 &&& 3689348814741910323 ≤ 3689348814741910323 := Nat.and_le_right
  refine reg_seq tab (k := 0) (hs := [(2, .eq (.int .u64 ((x1 / 4 &&& 3689348814741910323 : Nat) : Int))), (4, .eq (.int .u64 ((x1 &&& 3689348814741910323 : Nat) : Int))), (5, .nw)]) (sy := []) (ks := [0]) (bs := []) (gs := [])
      (L' := [(0, .v (.int .u64 (((x1 / 4 &&& 3689348814741910323) + (x1 &&& 3689348814741910323) : Nat) : Int)))])
      (H' := []) (G' := []) (k' := 0) hR hI (by kernel_rfl)
      (.cons (by decide : (0 : Int) ≤ 2) (.cons (by decide : (2 : Int) ≤ (IntKind.u64.bits : Int)) (.cons (congrArg (Value.int .u64) (u64_and (x1 / 4) 3689348814741910323 (by omega) (by decide) : bits .and .u64 ((x1 / 4 : Nat) : Int) (3689348814741910323 : Int) = ((x1 / 4 &&& 3689348814741910323 : Nat) : Int))) (.cons (congrArg (Value.int .u64) (u64_and x1 3689348814741910323 hb1 (by decide) : bits .and .u64 ((x1 : Nat) : Int) (3689348814741910323 : Int) = ((x1 &&& 3689348814741910323 : Nat) : Int))) (.cons (inR_u64 (n := ((x1 / 4 &&& 3689348814741910323 : Nat) : Int) + ((x1 &&& 3689348814741910323 : Nat) : Int)) (by omega)) .nil))))) (fun e3 a3 w3 hag hR hI => ?_)
  obtain ⟨x2, hx2⟩ : ∃ x2, x2 = s2 8 (s1 8 x) := ⟨_, rfl⟩
  replace hI := hI.re 0 (.v (.int .u64 ((x2 : Nat) : Int))) rfl (congrArg (Value.int .u64) (by rw [hx2, ← hx1]; rfl))
  obtain ⟨x3, hx3⟩ : ∃ x3, x3 = (x2 / 16 + x2) &&& m2 8 := ⟨_, rfl⟩; obtain ⟨x4, hx4⟩ : ∃ x4, x4 = x3 + x3 / 256 := ⟨_, rfl⟩; obtain ⟨x5, hx5⟩ : ∃ x5, x5 = x4 + x4 / 65536 := ⟨_, rfl⟩; obtain ⟨x6, hx6⟩ : ∃ x6, x6 = x5 + x5 / 4294967296 := ⟨_, rfl⟩
  obtain ⟨hb2, hb3, hcn, hb6⟩ := swar hx hx2 hx3 hx4 hx5 hx6
  clear hl1 hl1' hl0 hl0'
  refine reg_seq tab (k := 0) (hs := [(3, .nw), (4, .eq (.int .u64 ((x3 : Nat) : Int)))]) (sy := []) (ks := [0]) (bs := []) (gs := [])
      (L' := [(0, .v (.int .u64 ((x3 : Nat) : Int)))])
      (H' := []) (G' := []) (k' := 0) hR hI (by kernel_rfl)
      (.cons (by decide : (0 : Int) ≤ 4) (.cons (by decide : (4 : Int) ≤ (IntKind.u64.bits : Int)) (.cons (inR_u64 (n := ((x2 / 16 : Nat) : Int) + ((x2 : Nat) : Int)) (by omega)) (.cons (congrArg (Value.int .u64) ((u64_and (x2 / 16 + x2) 1085102592571150095 (by omega) (by decide)).trans (by rw [hx3]; rfl) : bits .and .u64 (((x2 / 16) + x2 : Nat) : Int) (1085102592571150095 : Int) = ((x3 : Nat) : Int))) .nil)))) (fun e4 a4 w4 hag hR hI => ?_)
  refine reg_seq tab (k := 0) (hs := [(3, .eq (.int .u64 ((x4 : Nat) : Int)))]) (sy := []) (ks := [0]) (bs := []) (gs := [])
      (L' := [(0, .v (.int .u64 ((x4 : Nat) : Int)))])
      (H' := []) (G' := []) (k' := 0) hR hI (by kernel_rfl)
      (.cons (by decide : (0 : Int) ≤ 8) (.cons (by decide : (8 : Int) ≤ (IntKind.u64.bits : Int)) (.cons (congrArg (Value.int .u64) (by rw [wrap_inR (inR_u64 (by omega)), hx4]; rfl : IntKind.u64.wrap (((x3 : Nat) : Int) + ((x3 / 256 : Nat) : Int)) = ((x4 : Nat) : Int))) .nil))) (fun e5 a5 w5 hag hR hI => ?_)
  refine reg_seq tab (k := 0) (hs := [(3, .eq (.int .u64 ((x5 : Nat) : Int)))]) (sy := []) (ks := [0]) (bs := []) (gs := [])
      (L' := [(0, .v (.int .u64 ((x5 : Nat) : Int)))])
      (H' := []) (G' := []) (k' := 0) hR hI (by kernel_rfl)
      (.cons (by decide : (0 : Int) ≤ 16) (.cons (by decide : (16 : Int) ≤ (IntKind.u64.bits : Int)) (.cons (congrArg (Value.int .u64) (by rw [wrap_inR (inR_u64 (by omega)), hx5]; rfl : IntKind.u64.wrap (((x4 : Nat) : Int) + ((x4 / 65536 : Nat) : Int)) = ((x5 : Nat) : Int))) .nil))) (fun e6 a6 w6 hag hR hI => ?_)
  refine reg_seq tab (k := 0) (hs := [(3, .eq (.int .u64 ((x6 : Nat) : Int)))]) (sy := []) (ks := [0]) (bs := []) (gs := [])
      (L' := [(0, .v (.int .u64 ((x6 : Nat) : Int)))])
      (H' := []) (G' := []) (k' := 0) hR hI (by kernel_rfl)
      (.cons (by decide : (0 : Int) ≤ 32) (.cons (by decide : (32 : Int) ≤ (IntKind.u64.bits : Int)) (.cons (congrArg (Value.int .u64) (by rw [wrap_inR (inR_u64 (by omega)), hx6]; rfl : IntKind.u64.wrap (((x5 : Nat) : Int) + ((x5 / 4294967296 : Nat) : Int)) = ((x6 : Nat) : Int))) .nil))) (fun e7 a7 w7 hag hR hI => ?_)
  refine reg_seq tab (k := 0) (hs := [(1, .nw), (2, .eq (.int .i64 ((cnt x.testBit 64 : Nat) : Int)))]) (sy := []) (ks := [2]) (bs := []) (gs := [])
      (L' := [(2, .v (.int .i64 ((cnt x.testBit 64 : Nat) : Int)))])
      (H' := []) (G' := []) (k' := 0) hR hI (by kernel_rfl)
      (.cons (inR_i64 (n := ((x6 : Nat) : Int)) (by omega)) (.cons (congrArg (Value.int .i64) ((i64_and127 x6 (by omega)).trans (by rw [hcn]) : bits .and .i64 ((x6 : Nat) : Int) (127 : Int) = ((cnt x.testBit 64 : Nat) : Int))) .nil)) (fun e8 a8 w8 hag hR hI => ?_)
  refine wp_ret ?_
  refine outN tab (xs := [.v (.int .i64 ((cnt x.testBit 64 : Nat) : Int))]) hR hI rfl (by kernel_rfl) ?_
  exact ⟨rfl, hB.fin hR⟩

set_option maxHeartbeats 4000000 in
set_option maxRecDepth 100000 in
theorem uint64_spec0 {C : Nat → Prop} {w : World} {ad : Option Addr} {cap : Nat} {ys : List Nat} (hx : Sl .u8 256 C w ad cap ys) (h8 : 8 ≤ ys.length) :
    Calls P 22 #[.agg #[], .slice ad ys.length cap] w fun ex w' => ex = .returned (.int .u64 ((le64 ys : Nat) : Int)) ∧ Keep (fun b => b < w.heap.size) w w' := by
  refine doorN (e := e0) (vs := [.v (.agg #[]), .v (.slice ad ys.length cap)]) (n := 54) (m := 2) Tryd.func22 rfl rfl rfl (by decide) fun a_ hI => ?_
  replace hI : Is 54 [] e0 [(0, .v (.agg #[])), (1, .v (.slice ad ys.length cap))] a_ := hI
  have hR : Rel (fun b => b < w.heap.size) w e0 [] [] w := Rel.start (fun k hk => hk)
  have hB : Base C w C (fun b => b < w.heap.size) w := Base.start
  have hrx := hx.room; have hmx := hx.max
  have hg0 := hx.get 0 (by decide)
  have hg1 := hx.get 1 (by decide)
  have hg2 := hx.get 2 (by decide)
  have hg3 := hx.get 3 (by decide)
  have hg4 := hx.get 4 (by decide)
  have hg5 := hx.get 5 (by decide)
  have hg6 := hx.get 6 (by decide)
  have hg7 := hx.get 7 (by decide)
  have hb0 : ys.getD 0 0 < 18446744073709551616 := Nat.lt_trans hg0 (by decide)
  have hb1 : ys.getD 1 0 * 256 < 18446744073709551616 := sh64 hg1 (by decide) (by decide)
  have hb2 : ys.getD 2 0 * 65536 < 18446744073709551616 := sh64 hg2 (by decide) (by decide)
  have hb3 : ys.getD 3 0 * 16777216 < 18446744073709551616 := sh64 hg3 (by decide) (by decide)
  have hb4 : ys.getD 4 0 * 4294967296 < 18446744073709551616 := sh64 hg4 (by decide) (by decide)
  have hb5 : ys.getD 5 0 * 1099511627776 < 18446744073709551616 := sh64 hg5 (by decide) (by decide)
  have hb6 : ys.getD 6 0 * 281474976710656 < 18446744073709551616 := sh64 hg6 (by decide) (by decide)
  have hb7 : ys.getD 7 0 * 72057594037927936 < 18446744073709551616 := sh64 hg7 (by decide) (by decide)
  have ha0 := hb0
  have ha1 := or64 ha0 hb1
  have ha2 := or64 ha1 hb2
  have ha3 := or64 ha2 hb3
  have ha4 := or64 ha3 hb4
  have ha5 := or64 ha4 hb5
  have ha6 := or64 ha5 hb6
  have ha7 := or64 ha6 hb7
  refine reg_seq tab (k := 0) (hs := []) (sy := []) (ks := [1]) (bs := []) (gs := [])
      (L' := [(1, .v (.slice ad ys.length cap))])
      (H' := []) (G' := []) (k' := 1) hR hI (by kernel_rfl)
      .nil (fun e1 a1 w1 hag hR hI => ?_)
  refine reg_seq tab (k := 1) (hs := [(2, .val (.v (.int .u8 ((ys.getD 7 0 : Nat) : Int))))]) (sy := []) (ks := [1]) (bs := []) (gs := [])
      (L' := [(1, .v (.slice ad ys.length cap))])
      (H' := []) (G' := []) (k' := 1) hR hI (by kernel_rfl)
      (.cons (by omega : (0 : Int) ≤ (7 : Int) ∧ (7 : Int) < ((ys.length : Nat) : Int)) (.cons (nats_some (i := 7) (hx.cells.mono hB.cls) (by omega)) (.cons (nats_load (i := 7) (m := 1) (hx.cells.mono hB.cls) (by omega)) .nil))) (fun e2 a2 w2 hag hR hI => ?_)
  refine regQ_seq tab (by kernel_rfl) (k := 1) (hs := [(2, .val (.v (.int .u8 ((ys.getD 0 0 : Nat) : Int)))), (3, .nw), (6, .val (.v (.int .u8 ((ys.getD 1 0 : Nat) : Int)))), (7, .nw), (8, .nw), (9, .eq (.int .u64 ((ys.getD 0 0 ||| ys.getD 1 0 * 256 : Nat) : Int))), (12, .val (.v (.int .u8 ((ys.getD 2 0 : Nat) : Int)))), (13, .nw), (14, .nw), (15, .eq (.int .u64 ((ys.getD 0 0 ||| ys.getD 1 0 * 256 ||| ys.getD 2 0 * 65536 : Nat) : Int))), (18, .val (.v (.int .u8 ((ys.getD 3 0 : Nat) : Int)))), (19, .nw), (20, .nw), (21, .eq (.int .u64 ((ys.getD 0 0 ||| ys.getD 1 0 * 256 ||| ys.getD 2 0 * 65536 ||| ys.getD 3 0 * 16777216 : Nat) : Int))), (24, .val (.v (.int .u8 ((ys.getD 4 0 : Nat) : Int)))), (25, .nw), (26, .nw), (27, .eq (.int .u64 ((ys.getD 0 0 ||| ys.getD 1 0 * 256 ||| ys.getD 2 0 * 65536 ||| ys.getD 3 0 * 16777216 ||| ys.getD 4 0 * 4294967296 : Nat) : Int))), (30, .val (.v (.int .u8 ((ys.getD 5 0 : Nat) : Int)))), (31, .nw), (32, .nw), (33, .eq (.int .u64 ((ys.getD 0 0 ||| ys.getD 1 0 * 256 ||| ys.getD 2 0 * 65536 ||| ys.getD 3 0 * 16777216 ||| ys.getD 4 0 * 4294967296 ||| ys.getD 5 0 * 1099511627776 : Nat) : Int))), (36, .val (.v (.int .u8 ((ys.getD 6 0 : Nat) : Int)))), (37, .nw), (38, .nw), (39, .eq (.int .u64 ((ys.getD 0 0 ||| ys.getD 1 0 * 256 ||| ys.getD 2 0 * 65536 ||| ys.getD 3 0 * 16777216 ||| ys.getD 4 0 * 4294967296 ||| ys.getD 5 0 * 1099511627776 ||| ys.getD 6 0 * 281474976710656 : Nat) : Int))), (42, .val (.v (.int .u8 ((ys.getD 7 0 : Nat) : Int)))), (43, .nw), (44, .nw), (45, .eq (.int .u64 ((ys.getD 0 0 ||| ys.getD 1 0 * 256 ||| ys.getD 2 0 * 65536 ||| ys.getD 3 0 * 16777216 ||| ys.getD 4 0 * 4294967296 ||| ys.getD 5 0 * 1099511627776 ||| ys.getD 6 0 * 281474976710656 ||| ys.getD 7 0 * 72057594037927936 : Nat) : Int)))]) (gs := []) (ks := [4])
      (L' := [(4, .v (.int .u64 ((ys.getD 0 0 ||| ys.getD 1 0 * 256 ||| ys.getD 2 0 * 65536 ||| ys.getD 3 0 * 16777216 ||| ys.getD 4 0 * 4294967296 ||| ys.getD 5 0 * 1099511627776 ||| ys.getD 6 0 * 281474976710656 ||| ys.getD 7 0 * 72057594037927936 : Nat) : Int)))]) hR hI (by kernel_rfl) (fun _ _ _ _ _ h => h) (by kernel_rfl)
      (.cons (by omega : (0 : Int) ≤ (0 : Int) ∧ (0 : Int) < ((ys.length : Nat) : Int)) (.cons (nats_some (i := 0) (hx.cells.mono hB.cls) (by omega)) (.cons (nats_load (i := 0) (m := 1) (hx.cells.mono hB.cls) (by omega)) (.cons (inR_u64 (n := ((ys.getD 0 0 : Nat) : Int)) (by omega)) (.cons (by omega : (0 : Int) ≤ (1 : Int) ∧ (1 : Int) < ((ys.length : Nat) : Int)) (.cons (nats_some (i := 1) (hx.cells.mono hB.cls) (by omega)) (.cons (nats_load (i := 1) (m := 1) (hx.cells.mono hB.cls) (by omega)) (.cons (inR_u64 (n := ((ys.getD 1 0 : Nat) : Int)) (by omega)) (.cons (by decide : (0 : Int) ≤ 8) (.cons (by decide : (8 : Int) ≤ (IntKind.u64.bits : Int)) (.cons (inR_u64 (n := ((ys.getD 1 0 : Nat) : Int) * 256) (by omega)) (.cons (congrArg (Value.int .u64) (u64_or _ _ ha0 hb1 : bits .or .u64 ((ys.getD 0 0 : Nat) : Int) (((ys.getD 1 0) * 256 : Nat) : Int) = ((ys.getD 0 0 ||| ys.getD 1 0 * 256 : Nat) : Int))) (.cons (by omega : (0 : Int) ≤ (2 : Int) ∧ (2 : Int) < ((ys.length : Nat) : Int)) (.cons (nats_some (i := 2) (hx.cells.mono hB.cls) (by omega)) (.cons (nats_load (i := 2) (m := 1) (hx.cells.mono hB.cls) (by omega)) (.cons (inR_u64 (n := ((ys.getD 2 0 : Nat) : Int)) (by omega)) (.cons (by decide : (0 : Int) ≤ 16) (.cons (by decide : (16 : Int) ≤ (IntKind.u64.bits : Int)) (.cons (inR_u64 (n := ((ys.getD 2 0 : Nat) : Int) * 65536) (by omega)) (.cons (congrArg (Value.int .u64) (u64_or _ _ ha1 hb2 : bits .or .u64 ((ys.getD 0 0 ||| ys.getD 1 0 * 256 : Nat) : Int) (((ys.getD 2 0) * 65536 : Nat) : Int) = ((ys.getD 0 0 ||| ys.getD 1 0 * 256 ||| ys.getD 2 0 * 65536 : Nat) : Int))) (.cons (by omega : (0 : Int) ≤ (3 : Int) ∧ (3 : Int) < ((ys.length : Nat) : Int)) (.cons (nats_some (i := 3) (hx.cells.mono hB.cls) (by omega)) (.cons (nats_load (i := 3) (m := 1) (hx.cells.mono hB.cls) (by omega)) (.cons (inR_u64 (n := ((ys.getD 3 0 : Nat) : Int)) (by omega)) (.cons (by decide : (0 : Int) ≤ 24) (.cons (by decide : (24 : Int) ≤ (IntKind.u64.bits : Int)) (.cons (inR_u64 (n := ((ys.getD 3 0 : Nat) : Int) * 16777216) (by omega)) (.cons (congrArg (Value.int .u64) (u64_or _ _ ha2 hb3 : bits .or .u64 ((ys.getD 0 0 ||| ys.getD 1 0 * 256 ||| ys.getD 2 0 * 65536 : Nat) : Int) (((ys.getD 3 0) * 16777216 : Nat) : Int) = ((ys.getD 0 0 ||| ys.getD 1 0 * 256 ||| ys.getD 2 0 * 65536 ||| ys.getD 3 0 * 16777216 : Nat) : Int))) (.cons (by omega : (0 : Int) ≤ (4 : Int) ∧ (4 : Int) < ((ys.length : Nat) : Int)) (.cons (nats_some (i := 4) (hx.cells.mono hB.cls) (by omega)) (.cons (nats_load (i := 4) (m := 1) (hx.cells.mono hB.cls) (by omega)) (.cons (inR_u64 (n := ((ys.getD 4 0 : Nat) : Int)) (by omega)) (.cons (by decide : (0 : Int) ≤ 32) (.cons (by decide : (32 : Int) ≤ (IntKind.u64.bits : Int)) (.cons (inR_u64 (n := ((ys.getD 4 0 : Nat) : Int) * 4294967296) (by omega)) (.cons (congrArg (Value.int .u64) (u64_or _ _ ha3 hb4 : bits .or .u64 ((ys.getD 0 0 ||| ys.getD 1 0 * 256 ||| ys.getD 2 0 * 65536 ||| ys.getD 3 0 * 16777216 : Nat) : Int) (((ys.getD 4 0) * 4294967296 : Nat) : Int) = ((ys.getD 0 0 ||| ys.getD 1 0 * 256 ||| ys.getD 2 0 * 65536 ||| ys.getD 3 0 * 16777216 ||| ys.getD 4 0 * 4294967296 : Nat) : Int))) (.cons (by omega : (0 : Int) ≤ (5 : Int) ∧ (5 : Int) < ((ys.length : Nat) : Int)) (.cons (nats_some (i := 5) (hx.cells.mono hB.cls) (by omega)) (.cons (nats_load (i := 5) (m := 1) (hx.cells.mono hB.cls) (by omega)) (.cons (inR_u64 (n := ((ys.getD 5 0 : Nat) : Int)) (by omega)) (.cons (by decide : (0 : Int) ≤ 40) (.cons (by decide : (40 : Int) ≤ (IntKind.u64.bits : Int)) (.cons (inR_u64 (n := ((ys.getD 5 0 : Nat) : Int) * 1099511627776) (by omega)) (.cons (congrArg (Value.int .u64) (u64_or _ _ ha4 hb5 : bits .or .u64 ((ys.getD 0 0 ||| ys.getD 1 0 * 256 ||| ys.getD 2 0 * 65536 ||| ys.getD 3 0 * 16777216 ||| ys.getD 4 0 * 4294967296 : Nat) : Int) (((ys.getD 5 0) * 1099511627776 : Nat) : Int) = ((ys.getD 0 0 ||| ys.getD 1 0 * 256 ||| ys.getD 2 0 * 65536 ||| ys.getD 3 0 * 16777216 ||| ys.getD 4 0 * 4294967296 ||| ys.getD 5 0 * 1099511627776 : Nat) : Int))) (.cons (by omega : (0 : Int) ≤ (6 : Int) ∧ (6 : Int) < ((ys.length : Nat) : Int)) (.cons (nats_some (i := 6) (hx.cells.mono hB.cls) (by omega)) (.cons (nats_load (i := 6) (m := 1) (hx.cells.mono hB.cls) (by omega)) (.cons (inR_u64 (n := ((ys.getD 6 0 : Nat) : Int)) (by omega)) (.cons (by decide : (0 : Int) ≤ 48) (.cons (by decide : (48 : Int) ≤ (IntKind.u64.bits : Int)) (.cons (inR_u64 (n := ((ys.getD 6 0 : Nat) : Int) * 281474976710656) (by omega)) (.cons (congrArg (Value.int .u64) (u64_or _ _ ha5 hb6 : bits .or .u64 ((ys.getD 0 0 ||| ys.getD 1 0 * 256 ||| ys.getD 2 0 * 65536 ||| ys.getD 3 0 * 16777216 ||| ys.getD 4 0 * 4294967296 ||| ys.getD 5 0 * 1099511627776 : Nat) : Int) (((ys.getD 6 0) * 281474976710656 : Nat) : Int) = ((ys.getD 0 0 ||| ys.getD 1 0 * 256 ||| ys.getD 2 0 * 65536 ||| ys.getD 3 0 * 16777216 ||| ys.getD 4 0 * 4294967296 ||| ys.getD 5 0 * 1099511627776 ||| ys.getD 6 0 * 281474976710656 : Nat) : Int))) (.cons (by omega : (0 : Int) ≤ (7 : Int) ∧ (7 : Int) < ((ys.length : Nat) : Int)) (.cons (nats_some (i := 7) (hx.cells.mono hB.cls) (by omega)) (.cons (nats_load (i := 7) (m := 1) (hx.cells.mono hB.cls) (by omega)) (.cons (inR_u64 (n := ((ys.getD 7 0 : Nat) : Int)) (by omega)) (.cons (by decide : (0 : Int) ≤ 56) (.cons (by decide : (56 : Int) ≤ (IntKind.u64.bits : Int)) (.cons (inR_u64 (n := ((ys.getD 7 0 : Nat) : Int) * 72057594037927936) (by omega)) (.cons (congrArg (Value.int .u64) (u64_or _ _ ha6 hb7 : bits .or .u64 ((ys.getD 0 0 ||| ys.getD 1 0 * 256 ||| ys.getD 2 0 * 65536 ||| ys.getD 3 0 * 16777216 ||| ys.getD 4 0 * 4294967296 ||| ys.getD 5 0 * 1099511627776 ||| ys.getD 6 0 * 281474976710656 : Nat) : Int) (((ys.getD 7 0) * 72057594037927936 : Nat) : Int) = ((ys.getD 0 0 ||| ys.getD 1 0 * 256 ||| ys.getD 2 0 * 65536 ||| ys.getD 3 0 * 16777216 ||| ys.getD 4 0 * 4294967296 ||| ys.getD 5 0 * 1099511627776 ||| ys.getD 6 0 * 281474976710656 ||| ys.getD 7 0 * 72057594037927936 : Nat) : Int))) .nil)))))))))))))))))))))))))))))))))))))))))))))))))))))))))))) (by kernel_rfl) (by kernel_rfl) (fun e3 a3 w3 hag hR hI => ?_)
  refine wp_ret ?_
  refine outN tab (xs := [.v (.int .u64 ((ys.getD 0 0 ||| ys.getD 1 0 * 256 ||| ys.getD 2 0 * 65536 ||| ys.getD 3 0 * 16777216 ||| ys.getD 4 0 * 4294967296 ||| ys.getD 5 0 * 1099511627776 ||| ys.getD 6 0 * 281474976710656 ||| ys.getD 7 0 * 72057594037927936 : Nat) : Int))]) hR hI rfl (by kernel_rfl) ?_
  exact ⟨rfl, hB.fin hR⟩

theorem uint64_spec {C : Nat → Prop} {w : World} {ad : Option Addr} {cap l : Nat} {ys : List Nat} (hx : Sl .u8 256 C w ad cap ys) (h8 : 8 ≤ ys.length) (hl : l = ys.length) :
    Calls P 22 #[.agg #[], .slice ad l cap] w fun ex w' => ex = .returned (.int .u64 ((le64 ys : Nat) : Int)) ∧ Keep (fun b => b < w.heap.size) w w' := by
  subst hl
  exact uint64_spec0 hx h8

set_option maxHeartbeats 4000000 in
set_option maxRecDepth 100000 in
theorem loadWord_spec0 {C : Nat → Prop} {w : World} {ad : Option Addr} {cap : Nat} {ys : List Nat} (hx : Sl .u8 256 C w ad cap ys) (h8 : 8 ≤ ys.length) :
    Calls P 17 #[.slice ad ys.length cap] w fun ex w' => ex = .returned (.int .u64 ((le64 ys : Nat) : Int)) ∧ Keep (fun b => b < w.heap.size) w w' := by
  refine doorN (e := e0) (vs := [.v (.slice ad ys.length cap)]) (n := 6) (m := 1) Tryd.func17 rfl rfl rfl (by decide) fun a_ hI => ?_
  replace hI : Is 6 [] e0 [(0, .v (.slice ad ys.length cap))] a_ := hI
  have hR : Rel (fun b => b < w.heap.size) w e0 [] [] w := Rel.start (fun k hk => hk)
  have hB : Base C w C (fun b => b < w.heap.size) w := Base.start
  have hw0 := hx.pos (by omega)
  refine reg_seq tab (k := 0) (hs := []) (sy := []) (ks := [0]) (bs := []) (gs := [])
      (L' := [(0, .v (.slice ad ys.length cap))])
      (H' := []) (G' := []) (k' := 0) hR hI (by kernel_rfl)
      .nil (fun e1 a1 w1 hag hR hI => ?_)
  refine wp_seq ?_
  refine reg (is := [0, 1, 2, 3]) (by kernel_rfl) ?_
  refine part_ tab [0, 1] [2, 3] (by rfl) (k := 0) (hs := [(0, .val (.v (.agg #[])))]) (sy := []) (ks := [4, 3]) (bs := []) (gs := [])
      (L' := [(4, .v (.slice ad ys.length cap)), (3, .v (.agg #[]))])
      (H' := []) (G' := []) (k' := 0) hR hI (by kernel_rfl)
      (.cons (g0_load (w := w) (F := fun b => b < w.heap.size) hw0) .nil) (fun e2 a2 w2 hag hR hI => ?_)
  refine callOp (ys := [.v (.agg #[]), .v (.slice ad ys.length cap)]) hI rfl rfl ⟨_, rfl, rfl, rfl⟩ (by kernel_rfl) Tryd.func22 rfl rfl ?_
  refine (uint64_spec (hx.now hB hR) h8 rfl).mono ?_
  rintro ex w3 ⟨rfl, hk⟩
  replace hR := hR.same hk; clear hk
  refine ⟨_, rfl, ?_⟩
  replace hI := hI.put (d := some 5) (x := .v (.int .u64 ((le64 ys : Nat) : Int))) (by intro t ht; cases ht; decide) rfl
  replace hI := hI.sel [5, 4, 3] (by kernel_rfl : sel _ _ = some [(5, .v (.int .u64 ((le64 ys : Nat) : Int))), (4, .v (.slice ad ys.length cap)), (3, .v (.agg #[]))])
  refine part_ tab [3] [] (by rfl) (k := 0) (hs := []) (sy := []) (ks := [2]) (bs := []) (gs := [])
      (L' := [(2, .v (.int .u64 ((le64 ys : Nat) : Int)))])
      (H' := []) (G' := []) (k' := 0) hR hI (by kernel_rfl)
      .nil (fun e4 a4 w4 hag hR hI => ?_)
  refine ops_nil ?_
  refine then_n ?_
  refine wp_ret ?_
  refine outN tab (xs := [.v (.int .u64 ((le64 ys : Nat) : Int))]) hR hI rfl (by kernel_rfl) ?_
  exact ⟨rfl, hB.fin hR⟩

theorem loadWord_spec {C : Nat → Prop} {w : World} {ad : Option Addr} {cap l : Nat} {ys : List Nat} (hx : Sl .u8 256 C w ad cap ys) (h8 : 8 ≤ ys.length) (hl : l = ys.length) :
    Calls P 17 #[.slice ad l cap] w fun ex w' => ex = .returned (.int .u64 ((le64 ys : Nat) : Int)) ∧ Keep (fun b => b < w.heap.size) w w' := by
  subst hl
  exact loadWord_spec0 hx h8

set_option maxHeartbeats 4000000 in
set_option maxRecDepth 100000 in
theorem shiftWord_spec {C : Nat → Prop} {w : World} {x y s : Nat} (hx : x < 18446744073709551616) (hy : y < 18446744073709551616) (hs : s < 8) :
    Calls P 18 #[.int .u64 ((x : Nat) : Int), .int .u64 ((y : Nat) : Int), .int .i64 ((s : Nat) : Int)] w fun ex w' => ∃ v : Nat, ex = .returned (.int .u64 ((v : Nat) : Int)) ∧ v < 18446744073709551616 ∧ Keep (fun b => b < w.heap.size) w w' ∧ ((s = 0 ∧ v = x) ∨ (0 < s ∧ v = (x / 2 ^ s ||| y * 2 ^ (64 - s) % 18446744073709551616))) := by
  refine doorN (e := e0) (vs := [.v (.int .u64 ((x : Nat) : Int)), .v (.int .u64 ((y : Nat) : Int)), .v (.int .i64 ((s : Nat) : Int))]) (n := 18) (m := 3) Tryd.func18 rfl rfl rfl (by decide) fun a_ hI => ?_
  replace hI : Is 18 [] e0 [(0, .v (.int .u64 ((x : Nat) : Int))), (1, .v (.int .u64 ((y : Nat) : Int))), (2, .v (.int .i64 ((s : Nat) : Int)))] a_ := hI
  have hR : Rel (fun b => b < w.heap.size) w e0 [] [] w := Rel.start (fun k hk => hk)
  have hB : Base C w C (fun b => b < w.heap.size) w := Base.start
  refine reg_seq tab (k := 0) (hs := []) (sy := []) (ks := [0, 1, 2]) (bs := []) (gs := [])
      (L' := [(0, .v (.int .u64 ((x : Nat) : Int))), (1, .v (.int .u64 ((y : Nat) : Int))), (2, .v (.int .i64 ((s : Nat) : Int)))])
      (H' := []) (G' := []) (k' := 0) hR hI (by kernel_rfl)
      .nil (fun e1 a1 w1 hag hR hI => ?_)
  refine wp_seq ?_
  refine reg_seq tab (k := 0) (hs := []) (sy := []) (ks := [8, 0, 1, 2]) (bs := []) (gs := [])
      (L' := [(8, .v (.bool (((s : Nat) : Int) == (0 : Int)))), (0, .v (.int .u64 ((x : Nat) : Int))), (1, .v (.int .u64 ((y : Nat) : Int))), (2, .v (.int .i64 ((s : Nat) : Int)))])
      (H' := []) (G' := []) (k' := 0) hR hI (by kernel_rfl)
      .nil (fun e2 a2 w2 hag hR hI => ?_)
  refine cnd (b := (((s : Nat) : Int) == (0 : Int))) hI (by kernel_rfl) (fun hc3 => ?_) (fun hc3 => ?_)
  · skip
    replace hI := hI.re 8 (.v (.bool true)) rfl (congrArg Value.bool hc3)
    try simp only [decide_eq_true_eq, decide_eq_false_iff_not, beq_iff_eq, bne_iff_ne, beq_eq_false_iff_ne, bne_eq_false_iff_eq, Bool.and_eq_true, Bool.and_eq_false_iff, Bool.or_eq_true, Bool.or_eq_false_iff, Bool.not_eq_true', Bool.not_eq_false', ne_eq] at hc3
    refine reg_seq tab (k := 0) (hs := []) (sy := []) (ks := [6]) (bs := []) (gs := [])
        (L' := [(6, .v (.int .u64 ((x : Nat) : Int)))])
        (H' := []) (G' := []) (k' := 0) hR hI (by kernel_rfl)
        .nil (fun e4 a4 w4 hag hR hI => ?_)
    refine wp_ret ?_
    refine ret_then ?_
    refine outN tab (xs := [.v (.int .u64 ((x : Nat) : Int))]) hR hI rfl (by kernel_rfl) ?_
    exact ⟨_, rfl, hx, hB.fin hR, .inl ⟨by omega, rfl⟩⟩
  · skip
    replace hI := hI.re 8 (.v (.bool false)) rfl (congrArg Value.bool hc3)
    try simp only [decide_eq_true_eq, decide_eq_false_iff_not, beq_iff_eq, bne_iff_ne, beq_eq_false_iff_ne, bne_eq_false_iff_eq, Bool.and_eq_true, Bool.and_eq_false_iff, Bool.or_eq_true, Bool.or_eq_false_iff, Bool.not_eq_true', Bool.not_eq_false', ne_eq] at hc3
    refine wp_skip ?_
    refine then_n ?_
    refine regQ_seq tab (by kernel_rfl) (k := 0) (hs := [(5, .eq (.int .i64 ((64 - s : Nat) : Int))), (6, .eq (.int .u64 ((y * 2 ^ (64 - s) % 18446744073709551616 : Nat) : Int))), (7, .eq (.int .u64 ((x / 2 ^ s ||| y * 2 ^ (64 - s) % 18446744073709551616 : Nat) : Int)))]) (gs := []) (ks := [6])
        (L' := [(6, .v (.int .u64 ((x / 2 ^ s ||| y * 2 ^ (64 - s) % 18446744073709551616 : Nat) : Int)))]) hR hI (by kernel_rfl) (fun _ _ _ _ _ h => h) (by kernel_rfl)
        (.cons (by omega : (0 : Int) ≤ ((s : Nat) : Int)) (.cons (by show _ ≤ (64 : Int); omega : ((s : Nat) : Int) ≤ (IntKind.u64.bits : Int)) (.cons (congrArg (Value.int .i64) (by rw [wrap_inR (inR_i64 (by omega))]; omega : IntKind.i64.wrap ((64 : Int) - ((s : Nat) : Int)) = ((64 - s : Nat) : Int))) (.cons (congrArg (Value.int .u64) (shl64 _ _ : IntKind.u64.wrap (((y : Nat) : Int) * 2 ^ (64 - s)) = ((y * 2 ^ (64 - s) % 18446744073709551616 : Nat) : Int))) (.cons (by omega : (0 : Int) ≤ ((64 - s : Nat) : Int)) (.cons (by show _ ≤ (64 : Int); omega : ((64 - s : Nat) : Int) ≤ (IntKind.u64.bits : Int)) (.cons (congrArg (Value.int .u64) (u64_or _ _ (div_le_self' hx) (Nat.mod_lt _ (by decide)) : bits .or .u64 ((x / 2 ^ s : Nat) : Int) ((y * 2 ^ (64 - s) % 18446744073709551616 : Nat) : Int) = ((x / 2 ^ s ||| y * 2 ^ (64 - s) % 18446744073709551616 : Nat) : Int))) .nil))))))) (by kernel_rfl) (by kernel_rfl) (fun e5 a5 w5 hag hR hI => ?_)
    refine wp_ret ?_
    refine outN tab (xs := [.v (.int .u64 ((x / 2 ^ s ||| y * 2 ^ (64 - s) % 18446744073709551616 : Nat) : Int))]) hR hI rfl (by kernel_rfl) ?_
    exact ⟨_, rfl, or64 (div_le_self' hx) (Nat.mod_lt _ (by decide)), hB.fin hR, .inr ⟨by omega, rfl⟩⟩

set_option maxHeartbeats 4000000 in
set_option maxRecDepth 100000 in
theorem isSet_spec {C : Nat → Prop} {w : World} {ad : Option Addr} {cap i : Nat} {ys : List Nat} (hg : Sl .u8 256 C w (some (⟨1, 0, none⟩ : Addr)) 8 bitMask) (hx : Sl .u8 256 C w ad cap ys) (hi : i < 8 * ys.length) (hs : ys.length ≤ 4096) :
    Calls P 26 #[.slice ad ys.length cap, .int .i64 ((i : Nat) : Int)] w fun ex w' => ex = .returned (.bool (bitN ys i)) ∧ Keep (fun b => b < w.heap.size) w w' := by
  refine doorN (e := e0) (vs := [.v (.slice ad ys.length cap), .v (.int .i64 ((i : Nat) : Int))]) (n := 18) (m := 2) Tryd.func26 rfl rfl rfl (by decide) fun a_ hI => ?_
  replace hI : Is 18 [] e0 [(0, .v (.slice ad ys.length cap)), (1, .v (.int .i64 ((i : Nat) : Int)))] a_ := hI
  have hR : Rel (fun b => b < w.heap.size) w e0 [] [] w := Rel.start (fun k hk => hk)
  have hB : Base C w C (fun b => b < w.heap.size) w := Base.start
  have hrx := hx.room; have hmx := hx.max; have hxb := hx.get (i / 8) (by decide); have hml : bitMask.length = 8 := rfl
  refine reg_seq tab (k := 0) (hs := []) (sy := []) (ks := [0, 1]) (bs := []) (gs := [])
      (L' := [(0, .v (.slice ad ys.length cap)), (1, .v (.int .i64 ((i : Nat) : Int)))])
      (H' := []) (G' := []) (k' := 0) hR hI (by kernel_rfl)
      .nil (fun e1 a1 w1 hag hR hI => ?_)
  refine regQ_seq tab (by kernel_rfl) (k := 0) (hs := [(2, .nw), (3, .nw), (5, .val (.v (.int .u8 ((ys.getD (i / 8) 0 : Nat) : Int)))), (7, .eq (.int .u8 ((i % 256 : Nat) : Int))), (8, .nw), (10, .val (.v (.int .u8 ((bitMask.getD ((i % 256) % 8) 0 : Nat) : Int))))]) (gs := []) (ks := [4])
      (L' := [(4, .v (.bool ((bits .and .u8 ((ys.getD (i / 8) 0 : Nat) : Int) ((bitMask.getD ((i % 256) % 8) 0 : Nat) : Int)) != (0 : Int))))]) hR hI (by kernel_rfl) (fun _ _ _ _ _ h => h) (by kernel_rfl)
      (.cons (inR_u64 (n := ((i : Nat) : Int)) (by omega)) (.cons (by omega : (0 : Int) ≤ ((i : Nat) : Int)) (.cons (by omega : (0 : Int) < (8 : Int)) (.cons (inR_u64 (n := ((i : Nat) : Int) / (8 : Int)) (by omega)) (.cons (by omega : (0 : Int) ≤ ((i / 8 : Nat) : Int) ∧ ((i / 8 : Nat) : Int) < ((ys.length : Nat) : Int)) (.cons (nats_some (i := i / 8) (hx.cells.mono hB.cls) (by omega)) (.cons (nats_load (i := i / 8) (m := 1) (hx.cells.mono hB.cls) (by omega)) (.cons (congrArg (Value.int .u8) (wrap_u8_nat i : IntKind.u8.wrap ((i : Nat) : Int) = ((i % 256 : Nat) : Int))) (.cons (by omega : (0 : Int) ≤ ((i % 256 : Nat) : Int)) (.cons (by omega : (0 : Int) < (8 : Int)) (.cons (by omega : (0 : Int) ≤ (((i % 256) % 8 : Nat) : Int) ∧ (((i % 256) % 8 : Nat) : Int) < (8 : Int)) (.cons (nats_load (i := (i % 256) % 8) (m := 1) (hg.cells.mono hB.cls) (by omega)) .nil)))))))))))) (by kernel_rfl) (by kernel_rfl) (fun e2 a2 w2 hag hR hI => ?_)
  refine wp_ret ?_
  refine outN tab (xs := [.v (.bool ((bits .and .u8 ((ys.getD (i / 8) 0 : Nat) : Int) ((bitMask.getD ((i % 256) % 8) 0 : Nat) : Int)) != (0 : Int)))]) hR hI rfl (by kernel_rfl) ?_
  exact ⟨congrArg (fun z => Ending.returned (Value.bool z)) ((u8_mask_ne _ _ hxb (by omega)).trans (by rw [bitN_T, show i % 256 % 8 = i % 8 by omega])), hB.fin hR⟩

theorem ints_zero (k : IntKind) (n : Nat) : List.replicate n (Value.int k 0) = ints k (List.replicate n 0) := by simp [ints]
theorem set_next {zs : List Nat} {i : Nat} {f : Nat → Nat} (hi : i < zs.length) (h : ∀ j, j < i → zs.getD j 0 = f j) : ∀ j, j < i + 1 → (zs.set i (f i)).getD j 0 = f j := fun j hj => by
  by_cases he : i = j
  · subst he
    simp [List.getD_eq_getElem?_getD, List.getElem?_set, hi]
  · have := h j (by omega)
    rw [List.getD_eq_getElem?_getD] at this ⊢
    rw [List.getElem?_set_ne he]
    exact this
theorem set_dig {zs : List Nat} {i v B : Nat} (h : ∀ d ∈ zs, d < B) (hv : v < B) : ∀ d ∈ zs.set i v, d < B := fun d hd => by
  rcases List.mem_or_eq_of_mem_set hd with h1 | h1
  · exact h d h1
  · rw [h1]; exact hv

set_option maxHeartbeats 4000000 in
set_option maxRecDepth 100000 in
theorem toWords_spec {C : Nat → Prop} {w : World} {ad : Option Addr} {cap : Nat} {ys : List Nat} (hx : Sl .u8 256 C w ad cap ys) (hs : ys.length ≤ 4096) :
    Calls P 24 #[.slice ad ys.length cap] w fun ex w' => ∃ ws wd wc, ex = .returned (.slice wd (List.length ws) wc) ∧ Keep (fun b => b < w.heap.size) w w' ∧ Sl .u64 18446744073709551616 (Grow C w w') w' wd wc ws ∧ ws.length = ys.length / 8 ∧ ∀ a, a < ys.length / 8 → ws.getD a 0 = le64 (ys.drop (a * 8)) := by
  refine doorN (e := e0) (vs := [.v (.slice ad ys.length cap)]) (n := 28) (m := 1) Tryd.func24 rfl rfl rfl (by decide) fun a_ hI => ?_
  replace hI : Is 28 [] e0 [(0, .v (.slice ad ys.length cap))] a_ := hI
  have hR : Rel (fun b => b < w.heap.size) w e0 [] [] w := Rel.start (fun k hk => hk)
  have hB : Base C w C (fun b => b < w.heap.size) w := Base.start
  have hrx := hx.room; have hmx := hx.max; have hgx := fun i => hx.get i (by decide)
  refine reg_seq tab (k := 0) (hs := []) (sy := []) (ks := [0]) (bs := []) (gs := [])
      (L' := [(0, .v (.slice ad ys.length cap))])
      (H' := []) (G' := []) (k' := 0) hR hI (by kernel_rfl)
      .nil (fun e1 a1 w1 hag hR hI => ?_)
  refine wp_seq ?_
  refine reg_seq tab (k := 0) (hs := []) (sy := []) (ks := [7, 0]) (bs := []) (gs := [])
      (L' := [(7, .v (.bool (decide (((ys.length : Nat) : Int) < (8 : Int))))), (0, .v (.slice ad ys.length cap))])
      (H' := []) (G' := []) (k' := 0) hR hI (by kernel_rfl)
      .nil (fun e2 a2 w2 hag hR hI => ?_)
  refine cnd (b := decide (((ys.length : Nat) : Int) < (8 : Int))) hI (by kernel_rfl) (fun hc3 => ?_) (fun hc3 => ?_)
  · skip
    replace hI := hI.re 7 (.v (.bool true)) rfl (congrArg Value.bool hc3)
    try simp only [decide_eq_true_eq, decide_eq_false_iff_not, beq_iff_eq, bne_iff_ne, beq_eq_false_iff_ne, bne_eq_false_iff_eq, Bool.and_eq_true, Bool.and_eq_false_iff, Bool.or_eq_true, Bool.or_eq_false_iff, Bool.not_eq_true', Bool.not_eq_false', ne_eq] at hc3
    refine reg_seq tab (k := 0) (hs := []) (sy := []) (ks := [2]) (bs := []) (gs := [])
        (L' := [(2, .v (.slice none 0 0))])
        (H' := []) (G' := []) (k' := 0) hR hI (by kernel_rfl)
        .nil (fun e4 a4 w4 hag hR hI => ?_)
    refine wp_ret ?_
    refine ret_then ?_
    refine outN tab (xs := [.v (.slice none 0 0)]) hR hI rfl (by kernel_rfl) ?_
    exact ⟨[], none, 0, rfl, hB.fin hR, Sl.nil, by have : List.length ([] : List Nat) = 0 := rfl; omega, fun a ha => absurd ha (by omega)⟩
  · skip
    replace hI := hI.re 7 (.v (.bool false)) rfl (congrArg Value.bool hc3)
    try simp only [decide_eq_true_eq, decide_eq_false_iff_not, beq_iff_eq, bne_iff_ne, beq_eq_false_iff_ne, bne_eq_false_iff_eq, Bool.and_eq_true, Bool.and_eq_false_iff, Bool.or_eq_true, Bool.or_eq_false_iff, Bool.not_eq_true', Bool.not_eq_false', ne_eq] at hc3
    refine wp_skip ?_
    refine then_n ?_
    refine reg_seq tab (k := 0) (hs := [(2, .nw)]) (sy := []) (ks := [3, 0]) (bs := []) (gs := [0])
        (L' := [(3, .row 0), (0, .v (.slice ad ys.length cap))])
        (H' := []) (G' := [⟨0, 46, 1, (ys.length / 8), (List.replicate (ys.length / 8) (.int .u64 0))⟩]) (k' := 1) hR hI (by kernel_rfl)
        (.cons (by omega : (0 : Int) ≤ ((ys.length : Nat) : Int)) (.cons (by omega : (0 : Int) < (8 : Int)) (.cons (inR_i64 (n := ((ys.length : Nat) : Int) / (8 : Int)) (by omega)) (.cons (by omega : (0 : Int) ≤ ((ys.length / 8 : Nat) : Int) ∧ ((ys.length / 8 : Nat) : Int) ≤ ((ys.length / 8 : Nat) : Int)) (.cons (by omega : ((8 : Nat) : Int) * ((ys.length / 8 : Nat) : Int) ≤ 281474976710656) (.cons (by have hm_ : maxLen = 9223372036854775807 := rfl; rw [hm_]; omega : ys.length / 8 ≤ maxLen) .nil)))))) (fun e5 a5 w5 hag hR hI => ?_)
    rw [ints_zero] at hR
    have hren_ : Sy.ren [(0, 0)] ⟨[(3, .row 0), (0, .v (.slice ad ys.length cap))], [], [⟨0, 46, 1, (ys.length / 8), (ints .u64 (List.replicate (ys.length / 8) 0))⟩], 0⟩ = ⟨[(3, .row 0), (0, .v (.slice ad ys.length cap))], [], [⟨0, 46, 1, (ys.length / 8), (ints .u64 (List.replicate (ys.length / 8) 0))⟩], 0⟩ := by kernel_rfl
    replace hI := hI.rename (S := ⟨[(3, .row 0), (0, .v (.slice ad ys.length cap))], [], [⟨0, 46, 1, (ys.length / 8), (ints .u64 (List.replicate (ys.length / 8) 0))⟩], 0⟩) (S' := ⟨[(3, .row 0), (0, .v (.slice ad ys.length cap))], [], [⟨0, 46, 1, (ys.length / 8), (ints .u64 (List.replicate (ys.length / 8) 0))⟩], 0⟩) hren_; replace hR := hR.rename (S := ⟨[(3, .row 0), (0, .v (.slice ad ys.length cap))], [], [⟨0, 46, 1, (ys.length / 8), (ints .u64 (List.replicate (ys.length / 8) 0))⟩], 0⟩) (S' := ⟨[(3, .row 0), (0, .v (.slice ad ys.length cap))], [], [⟨0, 46, 1, (ys.length / 8), (ints .u64 (List.replicate (ys.length / 8) 0))⟩], 0⟩) hren_ (by kernel_rfl) (by kernel_rfl); dsimp only at hI hR; clear hren_
    refine wp_seq ?_
    refine reg_seq tab (k := 1) (hs := []) (sy := []) (ks := [14, 13, 3, 0]) (bs := []) (gs := [0])
        (L' := [(14, .v (.int .i64 0)), (13, .v (.int .i64 ((ys.length / 8 : Nat) : Int))), (3, .row 0), (0, .v (.slice ad ys.length cap))])
        (H' := []) (G' := [⟨0, 46, 1, (ys.length / 8), (ints .u64 (List.replicate (ys.length / 8) 0))⟩]) (k' := 1) hR hI (by kernel_rfl)
        .nil (fun e6 a6 w6 hag hR hI => ?_)
    refine wp_block ?_
    refine lp (γ := Nat × List Nat) (fun (a, zs) => (⟨[(0, .v (.slice ad ys.length cap)), (3, .row 0), (13, .v (.int .i64 ((ys.length / 8 : Nat) : Int))), (14, .v (.int .i64 ((a : Nat) : Int)))], [], [⟨0, 46, 1, (ys.length / 8), (ints .u64 zs)⟩], 1⟩ : Sy)) (fun (a, zs) e => zs.length = ys.length / 8 ∧ a ≤ ys.length / 8 ∧ (∀ d ∈ zs, d < 18446744073709551616) ∧ ∀ j, j < a → zs.getD j 0 = le64 (ys.drop (j * 8))) (fun (a, zs) => ys.length / 8 - a) (0, List.replicate (ys.length / 8) 0) (⟨List.length_replicate .., Nat.zero_le _, fun d hd => by rw [List.eq_of_mem_replicate hd]; decide, fun j h => absurd h (Nat.not_lt_zero _)⟩)
        (hR.sel [] [0] (by kernel_rfl) (by kernel_rfl)) (hI.sel [0, 3, 13, 14] (by kernel_rfl)) ?_
    clear hR hI
    rintro ⟨a, zs⟩ e7 a7 w7 hp hR hI
    dsimp only at hp hR hI
    obtain ⟨hzl, hal, hzd, hz⟩ := hp
    refine reg_seq tab (k := 1) (hs := []) (sy := []) (ks := [15, 0, 3, 13, 14]) (bs := []) (gs := [0])
        (L' := [(15, .v (.bool (decide (((a : Nat) : Int) < ((ys.length / 8 : Nat) : Int))))), (0, .v (.slice ad ys.length cap)), (3, .row 0), (13, .v (.int .i64 ((ys.length / 8 : Nat) : Int))), (14, .v (.int .i64 ((a : Nat) : Int)))])
        (H' := []) (G' := [⟨0, 46, 1, (ys.length / 8), (ints .u64 zs)⟩]) (k' := 1) hR hI (by kernel_rfl)
        .nil (fun e8 a8 w8 hag hR hI => ?_)
    refine wp_seq ?_
    refine cnd (b := decide (((a : Nat) : Int) < ((ys.length / 8 : Nat) : Int))) hI (by kernel_rfl) (fun hc9 => ?_) (fun hc9 => ?_)
    · skip
      replace hI := hI.re 15 (.v (.bool true)) rfl (congrArg Value.bool hc9)
      try simp only [decide_eq_true_eq, decide_eq_false_iff_not, beq_iff_eq, bne_iff_ne, beq_eq_false_iff_ne, bne_eq_false_iff_eq, Bool.and_eq_true, Bool.and_eq_false_iff, Bool.or_eq_true, Bool.or_eq_false_iff, Bool.not_eq_true', Bool.not_eq_false', ne_eq] at hc9
      refine wp_skip ?_
      refine then_n ?_
      refine wp_seq ?_
      refine wp_block ?_
      refine reg_seq tab (k := 1) (hs := []) (sy := []) (ks := [4, 0, 3, 13, 14]) (bs := []) (gs := [0])
          (L' := [(4, .v (.int .i64 ((a : Nat) : Int))), (0, .v (.slice ad ys.length cap)), (3, .row 0), (13, .v (.int .i64 ((ys.length / 8 : Nat) : Int))), (14, .v (.int .i64 ((a : Nat) : Int)))])
          (H' := []) (G' := [⟨0, 46, 1, (ys.length / 8), (ints .u64 zs)⟩]) (k' := 1) hR hI (by kernel_rfl)
          .nil (fun e10 a10 w10 hag hR hI => ?_)
      refine regL 9 hR (by kernel_rfl) (fun hS => ?_)
      replace hR := hR.drew; have hF := hR.fore
      refine takeL tab (H := []) (G := [⟨0, 46, 1, (ys.length / 8), (ints .u64 zs)⟩]) (hs := [(2, .val (.v (.agg #[]))), (5, .nw), (6, .sym)]) (gs := []) (is := [0, 1, 2, 3, 4, 5, 6]) (ks := [23, 19, 18, 17, 0, 3, 13, 14]) (f' := 3)
          (L' := [(23, .v (.slice (cutA ad cap (a * 8) 1) (ys.length - (a * 8)) (cap - (a * 8)))), (19, .v (.agg #[])), (18, .v (.int .i64 ((a : Nat) : Int))), (17, .row 0), (0, .v (.slice ad ys.length cap)), (3, .row 0), (13, .v (.int .i64 ((ys.length / 8 : Nat) : Int))), (14, .v (.int .i64 ((a : Nat) : Int)))]) hS hI (by kernel_rfl) (fun _ _ _ _ _ h => h) (by kernel_rfl)
          (.cons (g0_load (w := w) (F := fun b => b < w.heap.size) (hx.pos (by omega))) (.cons (inR_i64 (n := ((a : Nat) : Int) * (8 : Int)) (by omega)) (.cons (by omega : (0 : Int) ≤ ((a * 8 : Nat) : Int) ∧ ((a * 8 : Nat) : Int) ≤ (ys.length : Nat)) .nil))) (by kernel_rfl) (by kernel_rfl) (by kernel_rfl) (by rfl) (fun a11 hI => ?_)
      refine oneL (i := 7) (f' := 2) (by kernel_rfl) (by rfl) ?_
      refine callH (ys := [.v (.agg #[]), .v (.slice (cutA ad cap (a * 8) 1) (ys.length - (a * 8)) (cap - (a * 8)))]) hI rfl rfl ⟨_, rfl, rfl, rfl⟩ (by kernel_rfl) Tryd.func22 rfl rfl ?_
      refine (uint64_spec ((hx.cut (j := a * 8) (m := ys.length) (by omega) (Nat.le_refl _)).now hB hR) (by rw [List.length_take, List.length_drop]; omega) (by rw [List.length_take, List.length_drop]; omega)).mono ?_
      rintro ex w12 ⟨rfl, hk⟩
      replace hS := hS.same hk; replace hR := hR.same hk; clear hk
      have htk : (ys.drop (a * 8)).take (ys.length - a * 8) = ys.drop (a * 8) := List.take_of_length_le (by rw [List.length_drop]; omega)
      rw [htk]
      refine ⟨_, rfl, hS, ?_⟩
      replace hI := hI.put (d := some 24) (x := .v (.int .u64 ((le64 (ys.drop (a * 8)) : Nat) : Int))) (by intro t ht; cases ht; decide) rfl
      replace hI := hI.sel [24, 23, 19, 18, 17, 0, 3, 13, 14] (by kernel_rfl : sel _ _ = some [(24, .v (.int .u64 ((le64 (ys.drop (a * 8)) : Nat) : Int))), (23, .v (.slice (cutA ad cap (a * 8) 1) (ys.length - (a * 8)) (cap - (a * 8)))), (19, .v (.agg #[])), (18, .v (.int .i64 ((a : Nat) : Int))), (17, .row 0), (0, .v (.slice ad ys.length cap)), (3, .row 0), (13, .v (.int .i64 ((ys.length / 8 : Nat) : Int))), (14, .v (.int .i64 ((a : Nat) : Int)))])
      refine takeL tab (H := []) (G := [⟨0, 46, 1, (ys.length / 8), (ints .u64 zs)⟩]) (hs := []) (gs := []) (is := [8]) (ks := [25, 24, 0, 3, 13, 14]) (f' := 1)
          (L' := [(25, .pr 0 a), (24, .v (.int .u64 ((le64 (ys.drop (a * 8)) : Nat) : Int))), (0, .v (.slice ad ys.length cap)), (3, .row 0), (13, .v (.int .i64 ((ys.length / 8 : Nat) : Int))), (14, .v (.int .i64 ((a : Nat) : Int)))]) hS hI (by kernel_rfl) (fun _ _ _ _ _ h => h) (by kernel_rfl)
          (.cons (by omega : (0 : Int) ≤ ((a : Nat) : Int) ∧ ((a : Nat) : Int) < ((ys.length / 8 : Nat) : Int)) .nil) (by kernel_rfl) (by kernel_rfl) (by kernel_rfl) (by rfl) (fun a13 hI => ?_)
      refine endL (i := 9) (f' := 0) (by kernel_rfl) (by rfl) (by kernel_rfl) ?_
      refine effH tab (k := 1) (hh := .no) (r := ⟨.v (undef), [], [⟨0, 46, 1, (ys.length / 8), ((ints .u64 zs).set a (.int .u64 ((le64 (ys.drop (a * 8)) : Nat) : Int)))⟩], 1, _, true⟩) hR hI (by kernel_rfl) rfl rfl rfl (by kernel_rfl) (.cons (by omega : a < (ys.length / 8) * 1) .nil) (fun e14 a14 w14 hag hR2 hI => ?_)
      replace hR := hR2; clear hR2
      replace hI := hI.sel [25, 24, 0, 3, 13, 14] (by kernel_rfl : sel _ _ = some [(25, .pr 0 a), (24, .v (.int .u64 ((le64 (ys.drop (a * 8)) : Nat) : Int))), (0, .v (.slice ad ys.length cap)), (3, .row 0), (13, .v (.int .i64 ((ys.length / 8 : Nat) : Int))), (14, .v (.int .i64 ((a : Nat) : Int)))])
      refine doneL (by kernel_rfl) ?_
      replace hI := hI.sel [0, 3, 13, 14] (by kernel_rfl : sel _ _ = some [(0, .v (.slice ad ys.length cap)), (3, .row 0), (13, .v (.int .i64 ((ys.length / 8 : Nat) : Int))), (14, .v (.int .i64 ((a : Nat) : Int)))]); replace hR := hR.sel [] [0] (by kernel_rfl : selH _ _ = some []) (by kernel_rfl : selG _ _ = some [⟨0, 46, 1, (ys.length / 8), ((ints .u64 zs).set a (.int .u64 ((le64 (ys.drop (a * 8)) : Nat) : Int)))⟩])
      refine normal_block ?_
      refine then_n ?_
      refine reg_all tab (k := 1) (hs := [(0, .nw)]) (sy := []) (ks := [14, 0, 3, 13]) (bs := []) (gs := [0])
          (L' := [(14, .v (.int .i64 ((a + 1 : Nat) : Int))), (0, .v (.slice ad ys.length cap)), (3, .row 0), (13, .v (.int .i64 ((ys.length / 8 : Nat) : Int)))])
          (H' := []) (G' := [⟨0, 46, 1, (ys.length / 8), ((ints .u64 zs).set a (.int .u64 ((le64 (ys.drop (a * 8)) : Nat) : Int)))⟩]) (k' := 1) hR hI (by kernel_rfl)
          (.cons (inR_i64 (n := ((a : Nat) : Int) + (1 : Int)) (by omega)) .nil) (fun e15 a15 w15 hag hR hI => ?_)
      refine then_n ?_
      rw [ints_set] at hR
      exact ⟨(a + 1, zs.set a (le64 (ys.drop (a * 8)))), e15, ⟨by rw [List.length_set]; exact hzl, by omega, set_dig hzd (le64_lt (fun i => by rw [getD_drop0]; exact hgx _)), set_next (f := fun j => le64 (ys.drop (j * 8))) (by omega) hz⟩, by (try dsimp only); omega, hR.sel [] [0] (by kernel_rfl) (by kernel_rfl), hI.sel [0, 3, 13, 14] (by kernel_rfl)⟩
    · skip
      replace hI := hI.re 15 (.v (.bool false)) rfl (congrArg Value.bool hc9)
      try simp only [decide_eq_true_eq, decide_eq_false_iff_not, beq_iff_eq, bne_iff_ne, beq_eq_false_iff_ne, bne_eq_false_iff_eq, Bool.and_eq_true, Bool.and_eq_false_iff, Bool.or_eq_true, Bool.or_eq_false_iff, Bool.not_eq_true', Bool.not_eq_false', ne_eq] at hc9
      refine wp_exit ?_
      refine exit_then ?_
      refine exit_then ?_
      refine exit_hit ?_
      refine then_n ?_
      obtain ⟨hB_, hR_, hrel_, zd, zc, hv_, hcells_, hlen_, hcap_, hmax_⟩ := hB.release hR (y := ⟨0, 46, 1, (ys.length / 8), (ints .u64 zs)⟩) (by simp) rfl _ dropN_mem
      replace hx := hx.rel hrel_
      have hz0 : Sl .u64 18446744073709551616 _ _ zd zc zs := ⟨hcells_, hzd, (by dsimp only at hlen_ hcap_; rw [ints_length] at hlen_; omega), hmax_⟩
      replace hI := hI.re 3 (.v (.slice zd (ys.length / 8) zc)) rfl hv_
      replace hB := hB_; replace hR := hR_.sel [] [] (by kernel_rfl : selH _ _ = some []) (by kernel_rfl : selG _ _ = some []); clear hB_ hR_ hrel_ hcells_ hv_
      replace hI := hI.re 3 (.v (.slice zd zs.length zc)) rfl (by simp only [den]; rw [hzl])
      refine reg_seq tab (k := 1) (hs := []) (sy := []) (ks := [2]) (bs := []) (gs := [])
          (L' := [(2, .v (.slice zd zs.length zc))])
          (H' := []) (G' := []) (k' := 1) hR hI (by kernel_rfl)
          .nil (fun e16 a16 w16 hag hR hI => ?_)
      refine wp_ret ?_
      refine outN tab (xs := [.v (.slice zd zs.length zc)]) hR hI rfl (by kernel_rfl) ?_
      exact ⟨zs, zd, zc, rfl, hB.fin hR, hz0.fin hB hR, hzl, fun a ha => hz a (by omega)⟩

theorem cnt_word {ys : List Nat} (hg : ∀ i, ys.getD i 0 < 256) (a : Nat) : cnt (le64 (ys.drop (a * 8))).testBit 64 = cnt (fun i => bitN ys (64 * a + i)) 64 :=
  cnt_congr fun i hi => by rw [le64_bit (fun j => by rw [getD_drop0]; exact hg _) hi, bitN_drop]; congr 1; omega
theorem cnt_byte {ys : List Nat} (a : Nat) : pop8 (ys.getD a 0) = cnt (fun i => bitN ys (8 * a + i)) 8 :=
  cnt_congr fun i hi => by rw [bitN_T, show (8 * a + i) / 8 = a by omega, show (8 * a + i) % 8 = i by omega]
theorem andnot7 {n : Nat} (hn : n ≤ 1000000) : bits .andNot .i64 (n : Int) (7 : Int) = ((n / 8 * 8 : Nat) : Int) := by
  have h1 : bits .andNot .i64 (n : Int) (7 : Int) = bits .and .i64 (n : Int) ((9223372036854775800 : Nat) : Int) ∨ True := .inr trivial
  have h2 : ((BitVec.ofInt 64 (n : Int)) &&& ~~~(BitVec.ofInt 64 (7 : Int))).toNat = n / 8 * 8 := by
    have e1 : BitVec.ofInt 64 (n : Int) = BitVec.ofNat 64 n := by simp
    have e2 : ~~~(BitVec.ofInt 64 (7 : Int)) = BitVec.ofNat 64 18446744073709551608 := by decide
    rw [e1, e2, BitVec.toNat_and, BitVec.toNat_ofNat, BitVec.toNat_ofNat, Nat.mod_eq_of_lt (by omega), Nat.mod_eq_of_lt (by decide)]
    refine Nat.eq_of_testBit_eq fun i => ?_
    rw [Nat.testBit_and, show n / 8 * 8 = n / 2 ^ 3 * 2 ^ 3 from rfl, Nat.testBit_mul_two_pow, Nat.testBit_div_two_pow]
    by_cases hi : i < 64
    · have h3 : ∀ j : Fin 64, Nat.testBit 18446744073709551608 j.val = decide (3 ≤ j.val) := by decide
      rw [h3 ⟨i, hi⟩]
      by_cases h4 : 3 ≤ i
      · rw [decide_eq_true h4, Bool.and_true, Bool.true_and]; congr 1; omega
      · rw [decide_eq_false h4, Bool.and_false, Bool.false_and]
    · have h5 : n.testBit i = false := Nat.testBit_lt_two_pow (Nat.lt_of_lt_of_le (by omega : n < 2 ^ 64) (Nat.pow_le_pow_right (by decide) (by omega)))
      have h6 : n.testBit (i - 3 + 3) = false := by rw [Nat.sub_add_cancel (by omega)]; exact h5
      rw [h5, h6, Bool.false_and, Bool.and_false]
  show IntKind.i64.wrap _ = _
  first
    | (show IntKind.i64.wrap ((((BitVec.ofInt 64 (n : Int)) &&& ~~~(BitVec.ofInt 64 (7 : Int))).toNat : Nat) : Int) = _; rw [h2, IntKind.wrap_i64]; omega)

theorem toWords_spec' {C : Nat → Prop} {w : World} {ad : Option Addr} {cap l : Nat} {ys : List Nat} (hx : Sl .u8 256 C w ad cap ys) (hs : ys.length ≤ 4096) (hl : l = ys.length) :
    Calls P 24 #[.slice ad l cap] w fun ex w' => ∃ ws wd wc, ex = .returned (.slice wd (List.length ws) wc) ∧ Keep (fun b => b < w.heap.size) w w' ∧ Sl .u64 18446744073709551616 (Grow C w w') w' wd wc ws ∧ ws.length = ys.length / 8 ∧ ∀ a, a < ys.length / 8 → ws.getD a 0 = le64 (ys.drop (a * 8)) := by
  subst hl
  exact toWords_spec hx hs
theorem getD_dig {ws : List Nat} {B : Nat} (h : ∀ d ∈ ws, d < B) (hB : 0 < B) (a : Nat) : ws.getD a 0 < B := by
  rw [List.getD_eq_getElem?_getD]
  cases hi : ws[a]? with
  | none => simpa using hB
  | some d => exact h d (List.mem_of_getElem? hi)
theorem getD_cut (ys : List Nat) {j m i : Nat} (hi : i < m - j) : ((ys.drop j).take (m - j)).getD i 0 = ys.getD (j + i) 0 := by rw [getD_take0 hi, getD_drop0]

set_option maxHeartbeats 4000000 in
set_option maxRecDepth 100000 in
theorem count0_spec {C : Nat → Prop} {w : World} {ad : Option Addr} {cap n : Nat} {ys : List Nat} (hg : Sl .u8 256 C w (some (⟨1, 0, none⟩ : Addr)) 8 bitMask) (hx : Sl .u8 256 C w ad cap ys) (hs : ys.length ≤ 4096) (hn : n ≤ 8 * ys.length) :
    Calls P 21 #[.slice ad ys.length cap, .int .i64 0, .int .i64 ((n : Nat) : Int)] w fun ex w' => ex = .returned (.int .i64 ((cnt (bitN ys) n : Nat) : Int)) ∧ Keep (fun b => b < w.heap.size) w w' := by
  refine doorN (e := e0) (vs := [.v (.slice ad ys.length cap), .v (.int .i64 0), .v (.int .i64 ((n : Nat) : Int))]) (n := 65) (m := 3) Tryd.func21 rfl rfl rfl (by decide) fun a_ hI => ?_
  replace hI : Is 65 [] e0 [(0, .v (.slice ad ys.length cap)), (1, .v (.int .i64 0)), (2, .v (.int .i64 ((n : Nat) : Int)))] a_ := hI
  have hR : Rel (fun b => b < w.heap.size) w e0 [] [] w := Rel.start (fun k hk => hk)
  have hB : Base C w C (fun b => b < w.heap.size) w := Base.start
  have hrx := hx.room; have hmx := hx.max; have hgx := fun i => hx.get i (by decide); have hcn := cnt_le (bitN ys)
  refine reg_seq tab (k := 0) (hs := []) (sy := []) (ks := [0, 1, 2]) (bs := []) (gs := [])
      (L' := [(0, .v (.slice ad ys.length cap)), (1, .v (.int .i64 0)), (2, .v (.int .i64 ((n : Nat) : Int)))])
      (H' := []) (G' := []) (k' := 0) hR hI (by kernel_rfl)
      .nil (fun e1 a1 w1 hag hR hI => ?_)
  refine wp_seq ?_
  refine reg_seq tab (k := 0) (hs := []) (sy := []) (ks := [15, 0, 1, 2]) (bs := []) (gs := [])
      (L' := [(15, .v (.bool false)), (0, .v (.slice ad ys.length cap)), (1, .v (.int .i64 0)), (2, .v (.int .i64 ((n : Nat) : Int)))])
      (H' := []) (G' := []) (k' := 0) hR hI (by kernel_rfl)
      .nil (fun e2 a2 w2 hag hR hI => ?_)
  refine cnd_f hI (by kernel_rfl) ?_
  refine wp_skip ?_
  refine then_n ?_
  refine reg_seq tab (k := 0) (hs := []) (sy := []) (ks := [7, 0, 2]) (bs := []) (gs := [])
      (L' := [(7, .v (.int .i64 0)), (0, .v (.slice ad ys.length cap)), (2, .v (.int .i64 ((n : Nat) : Int)))])
      (H' := []) (G' := []) (k' := 0) hR hI (by kernel_rfl)
      .nil (fun e3 a3 w3 hag hR hI => ?_)
  refine reg_seq tab (k := 0) (hs := [(1, .nw), (2, .nw)]) (sy := []) (ks := [8, 7, 0, 2]) (bs := []) (gs := [])
      (L' := [(8, .v (.int .i64 (((n / 64) * 8 : Nat) : Int))), (7, .v (.int .i64 0)), (0, .v (.slice ad ys.length cap)), (2, .v (.int .i64 ((n : Nat) : Int)))])
      (H' := []) (G' := []) (k' := 0) hR hI (by kernel_rfl)
      (.cons (by omega : (0 : Int) ≤ ((n : Nat) : Int)) (.cons (by omega : (0 : Int) < (64 : Int)) (.cons (inR_i64 (n := ((n : Nat) : Int) / (64 : Int)) (by omega)) (.cons (inR_i64 (n := ((n / 64 : Nat) : Int) * (8 : Int)) (by omega)) .nil)))) (fun e4 a4 w4 hag hR hI => ?_)
  refine wp_seq ?_
  refine wp_seq ?_
  refine reg (is := [0, 1, 2, 3, 4, 5]) (by kernel_rfl) ?_
  refine part_ tab [0, 1, 2] [3, 4, 5] (by rfl) (k := 0) (hs := []) (sy := []) (ks := [25, 8, 7, 0, 2]) (bs := []) (gs := [])
      (L' := [(25, .v (.slice ad ((n / 64) * 8) cap)), (8, .v (.int .i64 (((n / 64) * 8 : Nat) : Int))), (7, .v (.int .i64 0)), (0, .v (.slice ad ys.length cap)), (2, .v (.int .i64 ((n : Nat) : Int)))])
      (H' := []) (G' := []) (k' := 0) hR hI (by kernel_rfl)
      (.cons (by omega : (0 : Int) ≤ (((n / 64) * 8 : Nat) : Int) ∧ (((n / 64) * 8 : Nat) : Int) ≤ (cap : Nat)) .nil) (fun e5 a5 w5 hag hR hI => ?_)
  refine callOp (ys := [.v (.slice ad ((n / 64) * 8) cap)]) hI rfl rfl ⟨_, rfl, rfl, rfl⟩ (by kernel_rfl) Tryd.func24 rfl rfl ?_
  refine (toWords_spec' ((hx.take (m := n / 64 * 8) (by omega)).now hB hR) (by rw [List.length_take]; omega) (by rw [List.length_take]; omega)).mono ?_
  rintro ex w6 ⟨ws, wd, wc, rfl, hk, hws, hwl, hwv⟩
  replace hg := hg.next hB hR hk
  replace hx := hx.next hB hR hk
  have hB_ := hB.next hR hk
  replace hR := hR.after hk
  replace hB := hB_; clear hB_ hk
  have hrw := hws.room; have hmw := hws.max; have htl : (ys.take (n / 64 * 8)).length = n / 64 * 8 := by rw [List.length_take]; omega
  rw [htl] at hwl hwv
  have hwl2 : ws.length = n / 64 := by omega
  refine ⟨_, rfl, ?_⟩
  replace hI := hI.put (d := some 26) (x := .v (.slice wd ws.length wc)) (by intro t ht; cases ht; decide) rfl
  replace hI := hI.sel [26, 25, 8, 7, 0, 2] (by kernel_rfl : sel _ _ = some [(26, .v (.slice wd ws.length wc)), (25, .v (.slice ad ((n / 64) * 8) cap)), (8, .v (.int .i64 (((n / 64) * 8 : Nat) : Int))), (7, .v (.int .i64 0)), (0, .v (.slice ad ys.length cap)), (2, .v (.int .i64 ((n : Nat) : Int)))])
  refine part_ tab [4, 5] [] (by rfl) (k := 0) (hs := []) (sy := []) (ks := [28, 27, 26, 8, 7, 0, 2]) (bs := []) (gs := [])
      (L' := [(28, .v (.int .i64 0)), (27, .v (.int .i64 ((ws.length : Nat) : Int))), (26, .v (.slice wd ws.length wc)), (8, .v (.int .i64 (((n / 64) * 8 : Nat) : Int))), (7, .v (.int .i64 0)), (0, .v (.slice ad ys.length cap)), (2, .v (.int .i64 ((n : Nat) : Int)))])
      (H' := []) (G' := []) (k' := 0) hR hI (by kernel_rfl)
      .nil (fun e7 a7 w7 hag hR hI => ?_)
  refine ops_nil ?_
  refine then_n ?_
  refine wp_block ?_
  refine lp (γ := Nat) (fun a => (⟨[(0, .v (.slice ad ys.length cap)), (2, .v (.int .i64 ((n : Nat) : Int))), (7, .v (.int .i64 ((cnt (bitN ys) (64 * a) : Nat) : Int))), (8, .v (.int .i64 ((n / 64 * 8 : Nat) : Int))), (26, .v (.slice wd ws.length wc)), (27, .v (.int .i64 ((ws.length : Nat) : Int))), (28, .v (.int .i64 ((a : Nat) : Int)))], [], [], 0⟩ : Sy)) (fun a e => a ≤ ws.length) (fun a => ws.length - a) (0) (Nat.zero_le _)
      (hR.sel [] [] (by kernel_rfl) (by kernel_rfl)) (hI.sel [0, 2, 7, 8, 26, 27, 28] (by kernel_rfl)) ?_
  clear hR hI
  rintro a e8 a8 w8 hp hR hI
  dsimp only at hp hR hI
  have hal := hp
  refine reg_seq tab (k := 0) (hs := []) (sy := []) (ks := [29, 0, 2, 7, 8, 26, 27, 28]) (bs := []) (gs := [])
      (L' := [(29, .v (.bool (decide (((a : Nat) : Int) < ((ws.length : Nat) : Int))))), (0, .v (.slice ad ys.length cap)), (2, .v (.int .i64 ((n : Nat) : Int))), (7, .v (.int .i64 ((cnt (bitN ys) (64 * a) : Nat) : Int))), (8, .v (.int .i64 ((n / 64 * 8 : Nat) : Int))), (26, .v (.slice wd ws.length wc)), (27, .v (.int .i64 ((ws.length : Nat) : Int))), (28, .v (.int .i64 ((a : Nat) : Int)))])
      (H' := []) (G' := []) (k' := 0) hR hI (by kernel_rfl)
      .nil (fun e9 a9 w9 hag hR hI => ?_)
  refine wp_seq ?_
  refine cnd (b := decide (((a : Nat) : Int) < ((ws.length : Nat) : Int))) hI (by kernel_rfl) (fun hc10 => ?_) (fun hc10 => ?_)
  · skip
    replace hI := hI.re 29 (.v (.bool true)) rfl (congrArg Value.bool hc10)
    try simp only [decide_eq_true_eq, decide_eq_false_iff_not, beq_iff_eq, bne_iff_ne, beq_eq_false_iff_ne, bne_eq_false_iff_eq, Bool.and_eq_true, Bool.and_eq_false_iff, Bool.or_eq_true, Bool.or_eq_false_iff, Bool.not_eq_true', Bool.not_eq_false', ne_eq] at hc10
    have hcw : cnt (bitN ys) (64 * (a + 1)) = cnt (bitN ys) (64 * a) + cnt (ws.getD a 0).testBit 64 := by rw [show 64 * (a + 1) = 64 * a + 64 by omega, cnt_add, hwv a (by omega), ← cnt_word (ys := ys) hgx a]; congr 1; exact cnt_congr fun i hi => by rw [le64_bit (fun j => by rw [getD_drop0]; exact hgx _) hi, le64_bit (fun j => by rw [getD_drop0]; by_cases hj : a * 8 + j < n / 64 * 8; rw [getD_take0 hj]; exact hgx _; rw [List.getD_eq_getElem?_getD, List.getElem?_eq_none (by omega)]; decide) hi, bitN_drop, bitN_drop, bitN_take (by omega)]
    refine wp_skip ?_
    refine then_n ?_
    refine wp_seq ?_
    refine wp_block ?_
    refine reg_seq tab (k := 0) (hs := [(1, .val (.v (.int .u64 ((ws.getD a 0 : Nat) : Int))))]) (sy := []) (ks := [10, 0, 2, 7, 8, 26, 27, 28]) (bs := []) (gs := [])
        (L' := [(10, .v (.int .u64 ((ws.getD a 0 : Nat) : Int))), (0, .v (.slice ad ys.length cap)), (2, .v (.int .i64 ((n : Nat) : Int))), (7, .v (.int .i64 ((cnt (bitN ys) (64 * a) : Nat) : Int))), (8, .v (.int .i64 ((n / 64 * 8 : Nat) : Int))), (26, .v (.slice wd ws.length wc)), (27, .v (.int .i64 ((ws.length : Nat) : Int))), (28, .v (.int .i64 ((a : Nat) : Int)))])
        (H' := []) (G' := []) (k' := 0) hR hI (by kernel_rfl)
        (.cons (by omega : (0 : Int) ≤ ((a : Nat) : Int) ∧ ((a : Nat) : Int) < ((ws.length : Nat) : Int)) (.cons (nats_some (i := a) (hws.cells.mono hB.cls) (by omega)) (.cons (nats_load (i := a) (m := 1) (hws.cells.mono hB.cls) (by omega)) .nil))) (fun e11 a11 w11 hag hR hI => ?_)
    refine reg (is := [0, 1, 2, 3, 4]) (by kernel_rfl) ?_
    refine part_ tab [0, 1] [2, 3, 4] (by rfl) (k := 0) (hs := []) (sy := []) (ks := [33, 32, 0, 2, 7, 8, 26, 27, 28]) (bs := []) (gs := [])
        (L' := [(33, .v (.int .u64 ((ws.getD a 0 : Nat) : Int))), (32, .v (.int .i64 ((cnt (bitN ys) (64 * a) : Nat) : Int))), (0, .v (.slice ad ys.length cap)), (2, .v (.int .i64 ((n : Nat) : Int))), (7, .v (.int .i64 ((cnt (bitN ys) (64 * a) : Nat) : Int))), (8, .v (.int .i64 ((n / 64 * 8 : Nat) : Int))), (26, .v (.slice wd ws.length wc)), (27, .v (.int .i64 ((ws.length : Nat) : Int))), (28, .v (.int .i64 ((a : Nat) : Int)))])
        (H' := []) (G' := []) (k' := 0) hR hI (by kernel_rfl)
        .nil (fun e12 a12 w12 hag hR hI => ?_)
    refine callOp (ys := [.v (.int .u64 ((ws.getD a 0 : Nat) : Int))]) hI rfl rfl ⟨_, rfl, rfl, rfl⟩ (by kernel_rfl) Tryd.func16 rfl rfl ?_
    refine (onesCount64_spec (C := C) (hws.get a (by decide))).mono ?_
    rintro ex w13 ⟨rfl, hk⟩
    replace hR := hR.same hk; clear hk
    refine ⟨_, rfl, ?_⟩
    replace hI := hI.put (d := some 34) (x := .v (.int .i64 ((cnt (ws.getD a 0).testBit 64 : Nat) : Int))) (by intro t ht; cases ht; decide) rfl
    replace hI := hI.sel [34, 33, 32, 0, 2, 7, 8, 26, 27, 28] (by kernel_rfl : sel _ _ = some [(34, .v (.int .i64 ((cnt (ws.getD a 0).testBit 64 : Nat) : Int))), (33, .v (.int .u64 ((ws.getD a 0 : Nat) : Int))), (32, .v (.int .i64 ((cnt (bitN ys) (64 * a) : Nat) : Int))), (0, .v (.slice ad ys.length cap)), (2, .v (.int .i64 ((n : Nat) : Int))), (7, .v (.int .i64 ((cnt (bitN ys) (64 * a) : Nat) : Int))), (8, .v (.int .i64 ((n / 64 * 8 : Nat) : Int))), (26, .v (.slice wd ws.length wc)), (27, .v (.int .i64 ((ws.length : Nat) : Int))), (28, .v (.int .i64 ((a : Nat) : Int)))])
    refine part_ tab [3, 4] [] (by rfl) (k := 0) (hs := [(3, .eq (.int .i64 ((cnt (bitN ys) (64 * (a + 1)) : Nat) : Int)))]) (sy := []) (ks := [7, 0, 2, 8, 26, 27, 28]) (bs := []) (gs := [])
        (L' := [(7, .v (.int .i64 ((cnt (bitN ys) (64 * (a + 1)) : Nat) : Int))), (0, .v (.slice ad ys.length cap)), (2, .v (.int .i64 ((n : Nat) : Int))), (8, .v (.int .i64 ((n / 64 * 8 : Nat) : Int))), (26, .v (.slice wd ws.length wc)), (27, .v (.int .i64 ((ws.length : Nat) : Int))), (28, .v (.int .i64 ((a : Nat) : Int)))])
        (H' := []) (G' := []) (k' := 0) hR hI (by kernel_rfl)
        (.cons (congrArg (Value.int .i64) (by rw [hcw, wrap_inR (inR_i64 (by have := hcn (64 * (a + 1)); omega))]; omega : IntKind.i64.wrap (((cnt (bitN ys) (64 * a) : Nat) : Int) + ((cnt (ws.getD a 0).testBit 64 : Nat) : Int)) = ((cnt (bitN ys) (64 * (a + 1)) : Nat) : Int))) .nil) (fun e14 a14 w14 hag hR hI => ?_)
    refine ops_nil ?_
    refine normal_block ?_
    refine then_n ?_
    refine reg_all tab (k := 0) (hs := [(0, .nw)]) (sy := []) (ks := [28, 7, 0, 2, 8, 26, 27]) (bs := []) (gs := [])
        (L' := [(28, .v (.int .i64 ((a + 1 : Nat) : Int))), (7, .v (.int .i64 ((cnt (bitN ys) (64 * (a + 1)) : Nat) : Int))), (0, .v (.slice ad ys.length cap)), (2, .v (.int .i64 ((n : Nat) : Int))), (8, .v (.int .i64 ((n / 64 * 8 : Nat) : Int))), (26, .v (.slice wd ws.length wc)), (27, .v (.int .i64 ((ws.length : Nat) : Int)))])
        (H' := []) (G' := []) (k' := 0) hR hI (by kernel_rfl)
        (.cons (inR_i64 (n := ((a : Nat) : Int) + (1 : Int)) (by omega)) .nil) (fun e15 a15 w15 hag hR hI => ?_)
    refine then_n ?_
    exact ⟨(a + 1), e15, by (try dsimp only); omega, by (try dsimp only); omega, hR.sel [] [] (by kernel_rfl) (by kernel_rfl), hI.sel [0, 2, 7, 8, 26, 27, 28] (by kernel_rfl)⟩
  · skip
    replace hI := hI.re 29 (.v (.bool false)) rfl (congrArg Value.bool hc10)
    try simp only [decide_eq_true_eq, decide_eq_false_iff_not, beq_iff_eq, bne_iff_ne, beq_eq_false_iff_ne, bne_eq_false_iff_eq, Bool.and_eq_true, Bool.and_eq_false_iff, Bool.or_eq_true, Bool.or_eq_false_iff, Bool.not_eq_true', Bool.not_eq_false', ne_eq] at hc10
    refine wp_exit ?_
    refine exit_then ?_
    refine exit_then ?_
    refine exit_hit ?_
    refine then_n ?_
    refine wp_seq ?_
    have hxc := hx.cut (j := n / 64 * 8) (m := n / 8) (by omega) (by omega)
    have hcl : ((ys.drop (n / 64 * 8)).take (n / 8 - n / 64 * 8)).length = n / 8 - n / 64 * 8 := by rw [List.length_take, List.length_drop]; omega
    refine reg_seq tab (k := 0) (hs := [(3, .nw), (4, .sym)]) (sy := []) (ks := [43, 42, 41, 0, 2, 7]) (bs := []) (gs := [])
        (L' := [(43, .v (.int .i64 0)), (42, .v (.int .i64 (((n / 8) - (n / 64 * 8) : Nat) : Int))), (41, .v (.slice (cutA ad cap (n / 64 * 8) 1) ((n / 8) - (n / 64 * 8)) (cap - (n / 64 * 8)))), (0, .v (.slice ad ys.length cap)), (2, .v (.int .i64 ((n : Nat) : Int))), (7, .v (.int .i64 ((cnt (bitN ys) (64 * a) : Nat) : Int)))])
        (H' := []) (G' := []) (k' := 0) hR hI (by kernel_rfl)
        (.cons (by omega : (0 : Int) ≤ ((n : Nat) : Int)) (.cons (by omega : (0 : Int) < (8 : Int)) (.cons (inR_i64 (n := ((n : Nat) : Int) / (8 : Int)) (by omega)) (.cons (by omega : (0 : Int) ≤ ((n / 64 * 8 : Nat) : Int) ∧ ((n / 64 * 8 : Nat) : Int) ≤ ((n / 8 : Nat) : Int) ∧ ((n / 8 : Nat) : Int) ≤ (cap : Nat)) .nil)))) (fun e16 a16 w16 hag hR hI => ?_)
    refine wp_block ?_
    replace hI := hI.re 7 (.v (.int .i64 ((cnt (bitN ys) (8 * (n / 64 * 8 + 0)) : Nat) : Int))) rfl (congrArg (Value.int .i64) (by rw [show 64 * a = 8 * (n / 64 * 8 + 0) by omega]))
    refine lp (γ := Nat) (fun a => (⟨[(0, .v (.slice ad ys.length cap)), (2, .v (.int .i64 ((n : Nat) : Int))), (7, .v (.int .i64 ((cnt (bitN ys) (8 * (n / 64 * 8 + a)) : Nat) : Int))), (41, .v (.slice (cutA ad cap (n / 64 * 8) 1) (n / 8 - n / 64 * 8) (cap - n / 64 * 8))), (42, .v (.int .i64 ((n / 8 - n / 64 * 8 : Nat) : Int))), (43, .v (.int .i64 ((a : Nat) : Int)))], [], [], 0⟩ : Sy)) (fun a e => a ≤ n / 8 - n / 64 * 8) (fun a => n / 8 - n / 64 * 8 - a) (0) (Nat.zero_le _)
        (hR.sel [] [] (by kernel_rfl) (by kernel_rfl)) (hI.sel [0, 2, 7, 41, 42, 43] (by kernel_rfl)) ?_
    clear hR hI
    rintro a e17 a17 w17 hp hR hI
    dsimp only at hp hR hI
    have hal := hp
    refine reg_seq tab (k := 0) (hs := []) (sy := []) (ks := [44, 0, 2, 7, 41, 42, 43]) (bs := []) (gs := [])
        (L' := [(44, .v (.bool (decide (((a : Nat) : Int) < ((n / 8 - n / 64 * 8 : Nat) : Int))))), (0, .v (.slice ad ys.length cap)), (2, .v (.int .i64 ((n : Nat) : Int))), (7, .v (.int .i64 ((cnt (bitN ys) (8 * (n / 64 * 8 + a)) : Nat) : Int))), (41, .v (.slice (cutA ad cap (n / 64 * 8) 1) (n / 8 - n / 64 * 8) (cap - n / 64 * 8))), (42, .v (.int .i64 ((n / 8 - n / 64 * 8 : Nat) : Int))), (43, .v (.int .i64 ((a : Nat) : Int)))])
        (H' := []) (G' := []) (k' := 0) hR hI (by kernel_rfl)
        .nil (fun e18 a18 w18 hag hR hI => ?_)
    refine wp_seq ?_
    refine cnd (b := decide (((a : Nat) : Int) < ((n / 8 - n / 64 * 8 : Nat) : Int))) hI (by kernel_rfl) (fun hc19 => ?_) (fun hc19 => ?_)
    · skip
      replace hI := hI.re 44 (.v (.bool true)) rfl (congrArg Value.bool hc19)
      try simp only [decide_eq_true_eq, decide_eq_false_iff_not, beq_iff_eq, bne_iff_ne, beq_eq_false_iff_ne, bne_eq_false_iff_eq, Bool.and_eq_true, Bool.and_eq_false_iff, Bool.or_eq_true, Bool.or_eq_false_iff, Bool.not_eq_true', Bool.not_eq_false', ne_eq] at hc19
      have hb8 : ((ys.drop (n / 64 * 8)).take (n / 8 - n / 64 * 8)).getD a 0 < 256 := by rw [getD_cut ys (by omega)]; exact hgx _
      have hcb : cnt (bitN ys) (8 * (n / 64 * 8 + a + 1)) = cnt (bitN ys) (8 * (n / 64 * 8 + a)) + pop8 (((ys.drop (n / 64 * 8)).take (n / 8 - n / 64 * 8)).getD a 0) := by rw [show 8 * (n / 64 * 8 + a + 1) = 8 * (n / 64 * 8 + a) + 8 by omega, cnt_add, getD_cut ys (by omega), cnt_byte]
      refine wp_skip ?_
      refine then_n ?_
      refine wp_seq ?_
      refine wp_block ?_
      refine reg_seq tab (k := 0) (hs := [(1, .val (.v (.int .u8 ((((ys.drop (n / 64 * 8)).take (n / 8 - n / 64 * 8)).getD a 0 : Nat) : Int))))]) (sy := []) (ks := [12, 0, 2, 7, 41, 42, 43]) (bs := []) (gs := [])
          (L' := [(12, .v (.int .u8 ((((ys.drop (n / 64 * 8)).take (n / 8 - n / 64 * 8)).getD a 0 : Nat) : Int))), (0, .v (.slice ad ys.length cap)), (2, .v (.int .i64 ((n : Nat) : Int))), (7, .v (.int .i64 ((cnt (bitN ys) (8 * (n / 64 * 8 + a)) : Nat) : Int))), (41, .v (.slice (cutA ad cap (n / 64 * 8) 1) (n / 8 - n / 64 * 8) (cap - n / 64 * 8))), (42, .v (.int .i64 ((n / 8 - n / 64 * 8 : Nat) : Int))), (43, .v (.int .i64 ((a : Nat) : Int)))])
          (H' := []) (G' := []) (k' := 0) hR hI (by kernel_rfl)
          (.cons (by omega : (0 : Int) ≤ ((a : Nat) : Int) ∧ ((a : Nat) : Int) < ((n / 8 - n / 64 * 8 : Nat) : Int)) (.cons (nats_some (i := a) (hxc.cells.mono hB.cls) (by omega)) (.cons (nats_load (i := a) (m := 1) (hxc.cells.mono hB.cls) (by omega)) .nil))) (fun e20 a20 w20 hag hR hI => ?_)
      refine reg (is := [0, 1, 2, 3, 4]) (by kernel_rfl) ?_
      refine part_ tab [0, 1] [2, 3, 4] (by rfl) (k := 0) (hs := []) (sy := []) (ks := [48, 47, 0, 2, 7, 41, 42, 43]) (bs := []) (gs := [])
          (L' := [(48, .v (.int .u8 ((((ys.drop (n / 64 * 8)).take (n / 8 - n / 64 * 8)).getD a 0 : Nat) : Int))), (47, .v (.int .i64 ((cnt (bitN ys) (8 * (n / 64 * 8 + a)) : Nat) : Int))), (0, .v (.slice ad ys.length cap)), (2, .v (.int .i64 ((n : Nat) : Int))), (7, .v (.int .i64 ((cnt (bitN ys) (8 * (n / 64 * 8 + a)) : Nat) : Int))), (41, .v (.slice (cutA ad cap (n / 64 * 8) 1) (n / 8 - n / 64 * 8) (cap - n / 64 * 8))), (42, .v (.int .i64 ((n / 8 - n / 64 * 8 : Nat) : Int))), (43, .v (.int .i64 ((a : Nat) : Int)))])
          (H' := []) (G' := []) (k' := 0) hR hI (by kernel_rfl)
          .nil (fun e21 a21 w21 hag hR hI => ?_)
      refine callOp (ys := [.v (.int .u8 ((((ys.drop (n / 64 * 8)).take (n / 8 - n / 64 * 8)).getD a 0 : Nat) : Int))]) hI rfl rfl ⟨_, rfl, rfl, rfl⟩ (by kernel_rfl) Tryd.func25 rfl rfl ?_
      refine (onesCount8_spec (C := C) hb8).mono ?_
      rintro ex w22 ⟨rfl, hk⟩
      replace hR := hR.same hk; clear hk
      refine ⟨_, rfl, ?_⟩
      replace hI := hI.put (d := some 49) (x := .v (.int .i64 ((pop8 (((ys.drop (n / 64 * 8)).take (n / 8 - n / 64 * 8)).getD a 0) : Nat) : Int))) (by intro t ht; cases ht; decide) rfl
      replace hI := hI.sel [49, 48, 47, 0, 2, 7, 41, 42, 43] (by kernel_rfl : sel _ _ = some [(49, .v (.int .i64 ((pop8 (((ys.drop (n / 64 * 8)).take (n / 8 - n / 64 * 8)).getD a 0) : Nat) : Int))), (48, .v (.int .u8 ((((ys.drop (n / 64 * 8)).take (n / 8 - n / 64 * 8)).getD a 0 : Nat) : Int))), (47, .v (.int .i64 ((cnt (bitN ys) (8 * (n / 64 * 8 + a)) : Nat) : Int))), (0, .v (.slice ad ys.length cap)), (2, .v (.int .i64 ((n : Nat) : Int))), (7, .v (.int .i64 ((cnt (bitN ys) (8 * (n / 64 * 8 + a)) : Nat) : Int))), (41, .v (.slice (cutA ad cap (n / 64 * 8) 1) (n / 8 - n / 64 * 8) (cap - n / 64 * 8))), (42, .v (.int .i64 ((n / 8 - n / 64 * 8 : Nat) : Int))), (43, .v (.int .i64 ((a : Nat) : Int)))])
      refine part_ tab [3, 4] [] (by rfl) (k := 0) (hs := [(3, .eq (.int .i64 ((cnt (bitN ys) (8 * (n / 64 * 8 + a + 1)) : Nat) : Int)))]) (sy := []) (ks := [7, 0, 2, 41, 42, 43]) (bs := []) (gs := [])
          (L' := [(7, .v (.int .i64 ((cnt (bitN ys) (8 * (n / 64 * 8 + a + 1)) : Nat) : Int))), (0, .v (.slice ad ys.length cap)), (2, .v (.int .i64 ((n : Nat) : Int))), (41, .v (.slice (cutA ad cap (n / 64 * 8) 1) (n / 8 - n / 64 * 8) (cap - n / 64 * 8))), (42, .v (.int .i64 ((n / 8 - n / 64 * 8 : Nat) : Int))), (43, .v (.int .i64 ((a : Nat) : Int)))])
          (H' := []) (G' := []) (k' := 0) hR hI (by kernel_rfl)
          (.cons (congrArg (Value.int .i64) (by rw [hcb, wrap_inR (inR_i64 (by have := hcn (8 * (n / 64 * 8 + a + 1)); omega))]; omega : IntKind.i64.wrap (((cnt (bitN ys) (8 * (n / 64 * 8 + a)) : Nat) : Int) + ((pop8 (((ys.drop (n / 64 * 8)).take (n / 8 - n / 64 * 8)).getD a 0) : Nat) : Int)) = ((cnt (bitN ys) (8 * (n / 64 * 8 + a + 1)) : Nat) : Int))) .nil) (fun e23 a23 w23 hag hR hI => ?_)
      refine ops_nil ?_
      refine normal_block ?_
      refine then_n ?_
      refine reg_all tab (k := 0) (hs := [(0, .nw)]) (sy := []) (ks := [43, 7, 0, 2, 41, 42]) (bs := []) (gs := [])
          (L' := [(43, .v (.int .i64 ((a + 1 : Nat) : Int))), (7, .v (.int .i64 ((cnt (bitN ys) (8 * (n / 64 * 8 + a + 1)) : Nat) : Int))), (0, .v (.slice ad ys.length cap)), (2, .v (.int .i64 ((n : Nat) : Int))), (41, .v (.slice (cutA ad cap (n / 64 * 8) 1) (n / 8 - n / 64 * 8) (cap - n / 64 * 8))), (42, .v (.int .i64 ((n / 8 - n / 64 * 8 : Nat) : Int)))])
          (H' := []) (G' := []) (k' := 0) hR hI (by kernel_rfl)
          (.cons (inR_i64 (n := ((a : Nat) : Int) + (1 : Int)) (by omega)) .nil) (fun e24 a24 w24 hag hR hI => ?_)
      refine then_n ?_
      exact ⟨(a + 1), e24, by (try dsimp only); omega, by (try dsimp only); omega, hR.sel [] [] (by kernel_rfl) (by kernel_rfl), hI.sel [0, 2, 7, 41, 42, 43] (by kernel_rfl)⟩
    · skip
      replace hI := hI.re 44 (.v (.bool false)) rfl (congrArg Value.bool hc19)
      try simp only [decide_eq_true_eq, decide_eq_false_iff_not, beq_iff_eq, bne_iff_ne, beq_eq_false_iff_ne, bne_eq_false_iff_eq, Bool.and_eq_true, Bool.and_eq_false_iff, Bool.or_eq_true, Bool.or_eq_false_iff, Bool.not_eq_true', Bool.not_eq_false', ne_eq] at hc19
      refine wp_exit ?_
      refine exit_then ?_
      refine exit_then ?_
      refine exit_hit ?_
      refine then_n ?_
      refine wp_seq ?_
      refine reg_seq tab (k := 0) (hs := [(1, .eq (.int .i64 ((n / 8 * 8 : Nat) : Int)))]) (sy := []) (ks := [13, 0, 2, 7]) (bs := []) (gs := [])
          (L' := [(13, .v (.int .i64 ((n / 8 * 8 : Nat) : Int))), (0, .v (.slice ad ys.length cap)), (2, .v (.int .i64 ((n : Nat) : Int))), (7, .v (.int .i64 ((cnt (bitN ys) (8 * (n / 64 * 8 + a)) : Nat) : Int)))])
          (H' := []) (G' := []) (k' := 0) hR hI (by kernel_rfl)
          (.cons (congrArg (Value.int .i64) (andnot7 (by omega) : bits .andNot .i64 ((n : Nat) : Int) (7 : Int) = ((n / 8 * 8 : Nat) : Int))) .nil) (fun e25 a25 w25 hag hR hI => ?_)
      refine wp_block ?_
      replace hI := hI.re 7 (.v (.int .i64 ((cnt (bitN ys) (n / 8 * 8) : Nat) : Int))) rfl (congrArg (Value.int .i64) (by rw [show 8 * (n / 64 * 8 + a) = n / 8 * 8 by omega]))
      refine lp (γ := Nat) (fun i => (⟨[(0, .v (.slice ad ys.length cap)), (2, .v (.int .i64 ((n : Nat) : Int))), (7, .v (.int .i64 ((cnt (bitN ys) i : Nat) : Int))), (13, .v (.int .i64 ((i : Nat) : Int)))], [], [], 0⟩ : Sy)) (fun i e => n / 8 * 8 ≤ i ∧ i ≤ n) (fun i => n - i) (n / 8 * 8) (⟨Nat.le_refl _, by omega⟩)
          (hR.sel [] [] (by kernel_rfl) (by kernel_rfl)) (hI.sel [0, 2, 7, 13] (by kernel_rfl)) ?_
      clear hR hI
      rintro i e26 a26 w26 hp hR hI
      dsimp only at hp hR hI
      obtain ⟨hil, hin⟩ := hp
      refine wp_seq ?_
      refine reg_seq tab (k := 0) (hs := []) (sy := []) (ks := [56, 0, 2, 7, 13]) (bs := []) (gs := [])
          (L' := [(56, .v (.bool (decide (((i : Nat) : Int) < ((n : Nat) : Int))))), (0, .v (.slice ad ys.length cap)), (2, .v (.int .i64 ((n : Nat) : Int))), (7, .v (.int .i64 ((cnt (bitN ys) i : Nat) : Int))), (13, .v (.int .i64 ((i : Nat) : Int)))])
          (H' := []) (G' := []) (k' := 0) hR hI (by kernel_rfl)
          .nil (fun e27 a27 w27 hag hR hI => ?_)
      refine cnd (b := decide (((i : Nat) : Int) < ((n : Nat) : Int))) hI (by kernel_rfl) (fun hc28 => ?_) (fun hc28 => ?_)
      · skip
        replace hI := hI.re 56 (.v (.bool true)) rfl (congrArg Value.bool hc28)
        try simp only [decide_eq_true_eq, decide_eq_false_iff_not, beq_iff_eq, bne_iff_ne, beq_eq_false_iff_ne, bne_eq_false_iff_eq, Bool.and_eq_true, Bool.and_eq_false_iff, Bool.or_eq_true, Bool.or_eq_false_iff, Bool.not_eq_true', Bool.not_eq_false', ne_eq] at hc28
        have hci : cnt (bitN ys) (i + 1) = cnt (bitN ys) i + (bitN ys i).toNat := rfl
        refine wp_skip ?_
        refine then_n ?_
        refine wp_seq ?_
        refine wp_block ?_
        refine wp_seq ?_
        refine reg (is := [0, 1, 2]) (by kernel_rfl) ?_
        refine part_ tab [0, 1] [2] (by rfl) (k := 0) (hs := []) (sy := []) (ks := [60, 59, 0, 2, 7, 13]) (bs := []) (gs := [])
            (L' := [(60, .v (.int .i64 ((i : Nat) : Int))), (59, .v (.slice ad ys.length cap)), (0, .v (.slice ad ys.length cap)), (2, .v (.int .i64 ((n : Nat) : Int))), (7, .v (.int .i64 ((cnt (bitN ys) i : Nat) : Int))), (13, .v (.int .i64 ((i : Nat) : Int)))])
            (H' := []) (G' := []) (k' := 0) hR hI (by kernel_rfl)
            .nil (fun e29 a29 w29 hag hR hI => ?_)
        refine callOp (ys := [.v (.slice ad ys.length cap), .v (.int .i64 ((i : Nat) : Int))]) hI rfl rfl ⟨_, rfl, rfl, rfl⟩ (by kernel_rfl) Tryd.func26 rfl rfl ?_
        refine (isSet_spec (hg.now hB hR) (hx.now hB hR) (by omega) hs).mono ?_
        rintro ex w30 ⟨rfl, hk⟩
        replace hR := hR.same hk; clear hk
        refine ⟨_, rfl, ?_⟩
        replace hI := hI.put (d := some 61) (x := .v (.bool (bitN ys i))) (by intro t ht; cases ht; decide) rfl
        replace hI := hI.sel [61, 60, 59, 0, 2, 7, 13] (by kernel_rfl : sel _ _ = some [(61, .v (.bool (bitN ys i))), (60, .v (.int .i64 ((i : Nat) : Int))), (59, .v (.slice ad ys.length cap)), (0, .v (.slice ad ys.length cap)), (2, .v (.int .i64 ((n : Nat) : Int))), (7, .v (.int .i64 ((cnt (bitN ys) i : Nat) : Int))), (13, .v (.int .i64 ((i : Nat) : Int)))])
        refine ops_nil ?_
        refine then_n ?_
        refine cnd (b := bitN ys i) hI (by kernel_rfl) (fun hc31 => ?_) (fun hc31 => ?_)
        · skip
          replace hI := hI.re 61 (.v (.bool true)) rfl (congrArg Value.bool hc31)
          try simp only [decide_eq_true_eq, decide_eq_false_iff_not, beq_iff_eq, bne_iff_ne, beq_eq_false_iff_ne, bne_eq_false_iff_eq, Bool.and_eq_true, Bool.and_eq_false_iff, Bool.or_eq_true, Bool.or_eq_false_iff, Bool.not_eq_true', Bool.not_eq_false', ne_eq] at hc31
          rw [hc31] at hci; have hci1 : Bool.toNat true = 1 := rfl; rw [hci1] at hci
          refine reg_all tab (k := 0) (hs := [(1, .eq (.int .i64 ((cnt (bitN ys) (i + 1) : Nat) : Int)))]) (sy := []) (ks := [7, 0, 2, 13]) (bs := []) (gs := [])
              (L' := [(7, .v (.int .i64 ((cnt (bitN ys) (i + 1) : Nat) : Int))), (0, .v (.slice ad ys.length cap)), (2, .v (.int .i64 ((n : Nat) : Int))), (13, .v (.int .i64 ((i : Nat) : Int)))])
              (H' := []) (G' := []) (k' := 0) hR hI (by kernel_rfl)
              (.cons (congrArg (Value.int .i64) (by rw [hci, wrap_inR (inR_i64 (by have := hcn (i + 1); omega))]; omega : IntKind.i64.wrap (((cnt (bitN ys) i : Nat) : Int) + (1 : Int)) = ((cnt (bitN ys) (i + 1) : Nat) : Int))) .nil) (fun e32 a32 w32 hag hR hI => ?_)
          refine normal_block ?_
          refine then_n ?_
          refine reg_all tab (k := 0) (hs := [(1, .nw)]) (sy := []) (ks := [13, 7, 0, 2]) (bs := []) (gs := [])
              (L' := [(13, .v (.int .i64 ((i + 1 : Nat) : Int))), (7, .v (.int .i64 ((cnt (bitN ys) (i + 1) : Nat) : Int))), (0, .v (.slice ad ys.length cap)), (2, .v (.int .i64 ((n : Nat) : Int)))])
              (H' := []) (G' := []) (k' := 0) hR hI (by kernel_rfl)
              (.cons (inR_i64 (n := ((i : Nat) : Int) + (1 : Int)) (by omega)) .nil) (fun e33 a33 w33 hag hR hI => ?_)
          refine then_n ?_
          exact ⟨(i + 1), e33, by (try dsimp only); omega, by (try dsimp only); omega, hR.sel [] [] (by kernel_rfl) (by kernel_rfl), hI.sel [0, 2, 7, 13] (by kernel_rfl)⟩
        · skip
          replace hI := hI.re 61 (.v (.bool false)) rfl (congrArg Value.bool hc31)
          try simp only [decide_eq_true_eq, decide_eq_false_iff_not, beq_iff_eq, bne_iff_ne, beq_eq_false_iff_ne, bne_eq_false_iff_eq, Bool.and_eq_true, Bool.and_eq_false_iff, Bool.or_eq_true, Bool.or_eq_false_iff, Bool.not_eq_true', Bool.not_eq_false', ne_eq] at hc31
          rw [hc31] at hci; have hci1 : Bool.toNat false = 0 := rfl; rw [hci1] at hci
          replace hI := hI.re 7 (.v (.int .i64 ((cnt (bitN ys) (i + 1) : Nat) : Int))) rfl (congrArg (Value.int .i64) (by rw [hci]; rfl))
          refine wp_skip ?_
          refine normal_block ?_
          refine then_n ?_
          refine reg_all tab (k := 0) (hs := [(1, .nw)]) (sy := []) (ks := [13, 7, 0, 2]) (bs := []) (gs := [])
              (L' := [(13, .v (.int .i64 ((i + 1 : Nat) : Int))), (7, .v (.int .i64 ((cnt (bitN ys) (i + 1) : Nat) : Int))), (0, .v (.slice ad ys.length cap)), (2, .v (.int .i64 ((n : Nat) : Int)))])
              (H' := []) (G' := []) (k' := 0) hR hI (by kernel_rfl)
              (.cons (inR_i64 (n := ((i : Nat) : Int) + (1 : Int)) (by omega)) .nil) (fun e34 a34 w34 hag hR hI => ?_)
          refine then_n ?_
          exact ⟨(i + 1), e34, by (try dsimp only); omega, by (try dsimp only); omega, hR.sel [] [] (by kernel_rfl) (by kernel_rfl), hI.sel [0, 2, 7, 13] (by kernel_rfl)⟩
      · skip
        replace hI := hI.re 56 (.v (.bool false)) rfl (congrArg Value.bool hc28)
        try simp only [decide_eq_true_eq, decide_eq_false_iff_not, beq_iff_eq, bne_iff_ne, beq_eq_false_iff_ne, bne_eq_false_iff_eq, Bool.and_eq_true, Bool.and_eq_false_iff, Bool.or_eq_true, Bool.or_eq_false_iff, Bool.not_eq_true', Bool.not_eq_false', ne_eq] at hc28
        refine wp_exit ?_
        refine exit_then ?_
        refine exit_then ?_
        refine exit_hit ?_
        refine then_n ?_
        refine reg_seq tab (k := 0) (hs := []) (sy := []) (ks := [6]) (bs := []) (gs := [])
            (L' := [(6, .v (.int .i64 ((cnt (bitN ys) i : Nat) : Int)))])
            (H' := []) (G' := []) (k' := 0) hR hI (by kernel_rfl)
            .nil (fun e35 a35 w35 hag hR hI => ?_)
        refine wp_ret ?_
        refine outN tab (xs := [.v (.int .i64 ((cnt (bitN ys) i : Nat) : Int))]) hR hI rfl (by kernel_rfl) ?_
        exact ⟨by rw [show n = i by omega]; rfl, hB.fin hR⟩

end Go.Proofs.YtbfbpkcepchldaaDoor.Stride
