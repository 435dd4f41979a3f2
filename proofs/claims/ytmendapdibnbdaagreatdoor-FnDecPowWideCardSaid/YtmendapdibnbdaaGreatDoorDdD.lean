/- Walks of the program's functions, printed by a program of mine (walk.py) over the words of Stride: each function's contract. -/
import Derived.Test.YtmendapdibnbdaaGreatDoorDdC
namespace Go.Proofs.YtmendapdibnbdaaGreatDoor.Stride
open Go Go.RowKit Go.Proofs.YtmendapdibnbdaaGreatDoor.Mag
set_option linter.unusedVariables false
set_option linter.unusedSimpArgs false
set_option maxHeartbeats 4000000
set_option maxRecDepth 100000
theorem i32_in (z : Int) : -2147483648 ≤ IntKind.i32.wrap z ∧ IntKind.i32.wrap z ≤ 2147483647 := by rw [IntKind.wrap_i32]; omega
theorem i64_in (z : Int) : -9223372036854775808 ≤ IntKind.i64.wrap z ∧ IntKind.i64.wrap z ≤ 9223372036854775807 := by rw [IntKind.wrap_i64]; omega
theorem u64_nat (z : Int) : ∃ m : Nat, IntKind.u64.wrap z = (m : Int) ∧ m < 18446744073709551616 := by
 have h : 0 ≤ IntKind.u64.wrap z ∧ IntKind.u64.wrap z < 18446744073709551616 := by rw [wrap_u64]; omega
 exact ⟨(IntKind.u64.wrap z).toNat, by omega, by omega⟩
theorem u64_mask32 (x : Nat) (h : x < 18446744073709551616) : bits .and .u64 (x : Int) (4294967295 : Int) = ((x % 4294967296 : Nat) : Int) := by
 have := bits_mask .u64 64 (by decide) (fun n h0 h1 => by rw [wrap_u64]; omega) 32 (by decide) (x : Int) (by omega) (by omega)
 have e : (2 : Int) ^ 32 - 1 = 4294967295 := by decide
 rw [e] at this
 rw [this]
 rfl
theorem mul64_law {x y x0 x1 y0 y1 t h : Nat} (hx : x < 18446744073709551616) (hy : y < 18446744073709551616) (hx0 : x0 = x % 4294967296) (hx1 : x1 = x / 4294967296) (hy0 : y0 = y % 4294967296) (hy1 : y1 = y / 4294967296)
  (ht : t = x1 * y0 + x0 * y0 / 4294967296) (hh : h = x1 * y1 + t / 4294967296 + (t % 4294967296 + x0 * y1) / 4294967296) :
  h * 18446744073709551616 + x * y % 18446744073709551616 = x * y ∧ h < 18446744073709551616 ∧ x * y % 18446744073709551616 < 18446744073709551616 := by
 have e : x * y = x1 * y1 * 18446744073709551616 + (x1 * y0 + x0 * y1) * 4294967296 + x0 * y0 := by
  have h1 : x = x1 * 4294967296 + x0 := by omega
  have h2 : y = y1 * 4294967296 + y0 := by omega
  rw [h1, h2]; grind
 have hb : x * y ≤ 18446744073709551615 * 18446744073709551615 := Nat.mul_le_mul (by omega) (by omega)
 generalize x * y = m at *
 generalize x1 * y1 = s at *
 generalize x1 * y0 = q at *
 generalize x0 * y1 = r at *
 generalize x0 * y0 = p at *
 clear hx0 hx1 hy0 hy1
 omega
def nwords (k : Int) : Nat := if k = 32 ∨ k = 64 then 1 else if k = 128 then 2 else if k = 256 then 4 else 0
def okw (k : Int) : Bool := decide (k = 32 ∨ k = 64 ∨ k = 128 ∨ k = 256)
theorem wo1 {k : Int} (h : k = 32 ∨ k = 64) : nwords k = 1 ∧ okw k = true := by rcases h with rfl | rfl <;> decide
theorem wo2 {k : Int} (h : k = 128 ∨ k = 256) : ((nwords k : Nat) : Int) = k / 64 ∧ okw k = true := by rcases h with rfl | rfl <;> decide
theorem wo0 {k : Int} (h : k ≠ 32 ∧ k ≠ 64 ∧ k ≠ 128 ∧ k ≠ 256) : nwords k = 0 ∧ okw k = false := by
 unfold nwords okw
 exact ⟨by rw [if_neg (by omega), if_neg (by omega), if_neg (by omega)], by rw [decide_eq_false (by omega)]⟩
def sext (w : Nat) : Int := IntKind.u64.wrap (IntKind.i32.wrap (w : Int))
def decOK (k : Int) (ws : List Nat) : Prop := okw k = true ∧ ws.length = nwords k ∧ (k = 32 → sext (ws.getD 0 0) = ((ws.getD 0 0 : Nat) : Int))
theorem dig64_2 {l m : Nat} (h : l < 18446744073709551616) (h' : m < 18446744073709551616) : ∀ d ∈ [l, m], d < 18446744073709551616 := fun d hd => by
 have h1 : d = l ∨ d = m := by simpa using hd
 omega
theorem nwords_le (k : Int) : nwords k ≤ 4 := by unfold nwords; split <;> (try split) <;> (try split) <;> decide
theorem dec_guard {k : Int} {ws : List Nat} (hg : (((((!(okw k)) || (((ws.length : Nat) : Int) != ((nwords k : Nat) : Int))) == false) && ((k == (32 : Int)) == true)) == true) = true) : 0 < ws.length := by
 simp only [beq_iff_eq, Bool.and_eq_true, Bool.or_eq_false_iff, bne_eq_false_iff_eq, beq_true, beq_self_eq_true] at hg
 obtain ⟨⟨_, h1⟩, h2⟩ := hg
 have := (wo1 (k := k) (.inl h2)).1
 omega
theorem dec_no {k : Int} {ws : List Nat} (h : (((!(okw k)) || (((ws.length : Nat) : Int) != ((nwords k : Nat) : Int))) || ((k == (32 : Int)) && ((IntKind.u64.wrap (IntKind.i32.wrap ((ws.getD 0 0 : Nat) : Int))) != ((ws.getD 0 0 : Nat) : Int)))) = true) : ¬ decOK k ws := fun ⟨h1, h2, h3⟩ => by
 rw [h1, h2] at h
 simp only [Bool.not_true, Bool.false_or, bne_self_eq_false, Bool.and_eq_true, beq_iff_eq, bne_iff_ne, ne_eq] at h
 exact h.2 (h3 h.1)
theorem dec_yes {k : Int} {ws : List Nat} (h : (((!(okw k)) || (((ws.length : Nat) : Int) != ((nwords k : Nat) : Int))) || ((k == (32 : Int)) && ((IntKind.u64.wrap (IntKind.i32.wrap ((ws.getD 0 0 : Nat) : Int))) != ((ws.getD 0 0 : Nat) : Int)))) = false) : decOK k ws := by
 simp only [Bool.or_eq_false_iff, Bool.not_eq_false', bne_eq_false_iff_eq, Bool.and_eq_false_iff, beq_eq_false_iff_ne, ne_eq] at h
 refine ⟨h.1.1, by omega, fun hk => ?_⟩
 rcases h.2 with h2 | h2
 · exact absurd hk h2
 · exact h2
theorem nwords_pos {k : Int} (h : okw k = true) : 1 ≤ nwords k := by
 have h1 : k = 32 ∨ k = 64 ∨ k = 128 ∨ k = 256 := of_decide_eq_true h
 rcases h1 with rfl | rfl | rfl | rfl <;> decide
def Wrapped (k a : Int) (vs : List Nat) : Prop :=
 (k = 32 → ∃ m u : Nat, vs = [m] ∧ (u : Int) = a % 18446744073709551616 ∧ IntKind.u64.wrap (IntKind.i32.wrap (u : Int)) = (m : Int)) ∧ (k ≠ 32 → vs.length = nwords k ∧ (wval vs : Int) = a % ((2 ^ (64 * nwords k) : Nat) : Int))
theorem mul64_spec {w : World} {C : Nat → Prop} {x y : Nat} (hx : x < 18446744073709551616) (hy : y < 18446744073709551616) :
    Calls P 166 #[.int .u64 (x : Int), .int .u64 (y : Int)] w fun ex w' => ∃ h l : Nat, ex = .returned (.tuple #[.int .u64 (h : Int), .int .u64 (l : Int)]) ∧ KS w w' ∧ h * 18446744073709551616 + l = x * y ∧ h < 18446744073709551616 ∧ l < 18446744073709551616 := by
 refine dN (C := C) [vU x, vU y] 51 2 Tryz.func166 fun a_ hI hR hB => ?_
 replace hI : Is 51 [] e0 [(0, vU x), (1, vU y)] a_ := hI
 obtain ⟨x0, hx0⟩ : ∃ m, m = x % 4294967296 := ⟨_, rfl⟩; obtain ⟨x1, hx1⟩ : ∃ m, m = x / 4294967296 := ⟨_, rfl⟩; obtain ⟨y0, hy0⟩ : ∃ m, m = y % 4294967296 := ⟨_, rfl⟩; obtain ⟨y1, hy1⟩ : ∃ m, m = y / 4294967296 := ⟨_, rfl⟩
 have h00 : x0 * y0 ≤ 18446744065119617025 := Nat.mul_le_mul (by omega : x0 ≤ 4294967295) (by omega : y0 ≤ 4294967295); have h01 : x0 * y1 ≤ 18446744065119617025 := Nat.mul_le_mul (by omega : x0 ≤ 4294967295) (by omega : y1 ≤ 4294967295); have h10 : x1 * y0 ≤ 18446744065119617025 := Nat.mul_le_mul (by omega : x1 ≤ 4294967295) (by omega : y0 ≤ 4294967295); have h11 : x1 * y1 ≤ 18446744065119617025 := Nat.mul_le_mul (by omega : x1 ≤ 4294967295) (by omega : y1 ≤ 4294967295)
 refine rZ tab 0 [] [0, 1] hR hI fun e1 a1 w1 hag hR hI => ?_
 refine rK tab 0 [(1, .eq (.int .u64 (x0 : Int)))] [] [(6, vU x0)] [0, 1] [] [] [] [] 0 hR hI (.cons (congrArg (Value.int .u64) ((u64_mask32 x hx).trans (by rw [hx0]) : bits .and .u64 (x : Int) (4294967295 : Int) = (x0 : Int))) .nil) fun e2 a2 w2 hag hR hI => ?_
 refine rK tab 0 [(1, .eq (.int .u64 (x1 : Int)))] [] [(7, vU x1)] [6, 0, 1] [] [] [] [] 0 hR hI (.cons (congrArg (Value.int .u64) (by omega : (x : Int) / 4294967296 = (x1 : Int))) (.cons (by decide : (0 : Int) ≤ 32) (.cons (by decide : (32 : Int) ≤ (IntKind.u64.bits : Int)) .nil))) fun e3 a3 w3 hag hR hI => ?_
 refine rK tab 0 [(1, .eq (.int .u64 (y0 : Int)))] [] [(8, vU y0)] [7, 6, 0, 1] [] [] [] [] 0 hR hI (.cons (congrArg (Value.int .u64) ((u64_mask32 y hy).trans (by rw [hy0]) : bits .and .u64 (y : Int) (4294967295 : Int) = (y0 : Int))) .nil) fun e4 a4 w4 hag hR hI => ?_
 refine rK tab 0 [(1, .eq (.int .u64 (y1 : Int)))] [] [(9, vU y1)] [8, 7, 6, 0, 1] [] [] [] [] 0 hR hI (.cons (congrArg (Value.int .u64) (by omega : (y : Int) / 4294967296 = (y1 : Int))) (.cons (by decide : (0 : Int) ≤ 32) (.cons (by decide : (32 : Int) ≤ (IntKind.u64.bits : Int)) .nil))) fun e5 a5 w5 hag hR hI => ?_
 refine rK tab 0 [(2, .nw)] [] [(10, vU (x0 * y0))] [9, 8, 7, 6, 0, 1] [] [] [] [] 0 hR hI (.cons (inR_u64 (n := (x0 : Int) * (y0 : Int)) (by omega)) .nil) fun e6 a6 w6 hag hR hI => ?_
 refine rK tab 0 [(2, .nw), (5, .nw)] [] [(11, vU ((x1 * y0) + ((x0 * y0) / 4294967296)))] [9, 7, 6, 0, 1] [] [] [] [] 0 hR hI (.cons (inR_u64 (n := (x1 : Int) * (y0 : Int)) (by omega)) (.cons (by decide : (0 : Int) ≤ 32) (.cons (by decide : (32 : Int) ≤ (IntKind.u64.bits : Int)) (.cons (inR_u64 (n := ((x1 * y0 : Nat) : Int) + (((x0 * y0) / 4294967296 : Nat) : Int)) (by omega)) .nil)))) fun e7 a7 w7 hag hR hI => ?_
 obtain ⟨t, ht⟩ : ∃ t, t = (x1 * y0) + ((x0 * y0) / 4294967296) := ⟨_, rfl⟩
 replace hI := hI.re 11 (vU t) rfl (congrArg (Value.int .u64) (by rw [ht]))
 have htb : t < 18446744073709551616 := by omega
 refine rK tab 0 [(1, .eq (.int .u64 ((t % 4294967296 : Nat) : Int)))] [] [(12, vU (t % 4294967296))] [11, 9, 7, 6, 0, 1] [] [] [] [] 0 hR hI (.cons (congrArg (Value.int .u64) (u64_mask32 t htb : bits .and .u64 (t : Int) (4294967295 : Int) = ((t % 4294967296 : Nat) : Int))) .nil) fun e8 a8 w8 hag hR hI => ?_
 refine rK tab 0 [] [] [(13, vU (t / 4294967296))] [12, 9, 7, 6, 0, 1] [] [] [] [] 0 hR hI (.cons (by decide : (0 : Int) ≤ 32) (.cons (by decide : (32 : Int) ≤ (IntKind.u64.bits : Int)) .nil)) fun e9 a9 w9 hag hR hI => ?_
 refine rK tab 0 [(3, .nw), (4, .nw)] [] [(12, vU ((t % 4294967296) + (x0 * y1)))] [13, 9, 7, 0, 1] [] [] [] [] 0 hR hI (.cons (inR_u64 (n := (x0 : Int) * (y1 : Int)) (by omega)) (.cons (inR_u64 (n := ((t % 4294967296 : Nat) : Int) + ((x0 * y1 : Nat) : Int)) (by omega)) .nil)) fun e10 a10 w10 hag hR hI => ?_
 refine rK tab 0 [(2, .nw), (4, .nw), (7, .nw)] [] [(4, vU (((x1 * y1) + (t / 4294967296)) + (((t % 4294967296) + (x0 * y1)) / 4294967296)))] [0, 1] [] [] [] [] 0 hR hI (.cons (inR_u64 (n := (x1 : Int) * (y1 : Int)) (by omega)) (.cons (inR_u64 (n := ((x1 * y1 : Nat) : Int) + ((t / 4294967296 : Nat) : Int)) (by omega)) (.cons (by decide : (0 : Int) ≤ 32) (.cons (by decide : (32 : Int) ≤ (IntKind.u64.bits : Int)) (.cons (inR_u64 (n := (((x1 * y1) + (t / 4294967296) : Nat) : Int) + ((((t % 4294967296) + (x0 * y1)) / 4294967296 : Nat) : Int)) (by omega)) .nil))))) fun e11 a11 w11 hag hR hI => ?_
 refine rK tab 0 [(2, .eq (.int .u64 ((x * y % 18446744073709551616 : Nat) : Int)))] [] [(5, vU (x * y % 18446744073709551616))] [4] [] [] [] [] 0 hR hI (.cons (congrArg (Value.int .u64) (by rw [← Int.natCast_mul]; exact wrap_u64_nat _ : IntKind.u64.wrap ((x : Int) * (y : Int)) = ((x * y % 18446744073709551616 : Nat) : Int))) .nil) fun e12 a12 w12 hag hR hI => ?_
 refine wp_ret (oN tab [vU (((x1 * y1) + (t / 4294967296)) + (((t % 4294967296) + (x0 * y1)) / 4294967296)), vU (x * y % 18446744073709551616)] hR hI ?_)
 exact ⟨_, _, rfl, hB.fin hR, mul64_law hx hy hx0 hx1 hy0 hy1 ht rfl⟩

theorem new128_spec {w : World} {C : Nat → Prop} (hi lo : Int) :
    Calls P 33 #[.int .i64 hi, .int .u64 lo] w fun ex w' => ex = .returned (.agg #[.int .u64 lo, .int .i64 hi]) ∧ KS w w' := by
 refine dN (C := C) [.v (.int .i64 hi), .v (.int .u64 lo)] 8 2 Tryz.func33 fun a_ hI hR hB => ?_
 replace hI : Is 8 [] e0 [(0, .v (.int .i64 hi)), (1, .v (.int .u64 lo))] a_ := hI
 refine rK tab 0 [] [] [(4, .p 0 0)] [0, 1] [⟨0, 47, [.v (.int .u64 0), .v (.int .i64 0)]⟩] [] [] [] 1 hR hI .nil fun e1 a1 w1 hag hR hI => ?_
 refine rK tab 1 [] [] [] [4] [⟨0, 47, [.v (.int .u64 lo), .v (.int .i64 hi)]⟩] [] [] [] 1 hR hI .nil fun e2 a2 w2 hag hR hI => ?_
 refine wp_ret (oN tab [.agg [.v (.int .u64 lo), .v (.int .i64 hi)]] hR hI ?_)
 exact ⟨rfl, hB.fin hR⟩

theorem lowBits_spec {w : World} {C : Nat → Prop} (hi lo : Int) :
    Calls P 40 #[.agg #[.int .u64 lo, .int .i64 hi]] w fun ex w' => ex = .returned (.int .u64 lo) ∧ KS w w' := by
 refine dN (C := C) [.v (.agg #[.int .u64 lo, .int .i64 hi])] 5 1 Tryz.func40 fun a_ hI hR hB => ?_
 replace hI : Is 5 [] e0 [(0, .v (.agg #[.int .u64 lo, .int .i64 hi]))] a_ := hI
 refine rK tab 0 [] [] [(1, .p 0 0)] [] [⟨0, 47, [.v (.int .u64 lo), .v (.int .i64 hi)]⟩] [] [] [] 1 hR hI .nil fun e1 a1 w1 hag hR hI => ?_
 refine rK tab 1 [] [] [(2, .v (.int .u64 lo))] [] [] [] [] [] 1 hR hI .nil fun e2 a2 w2 hag hR hI => ?_
 refine wp_ret (oN tab [.v (.int .u64 lo)] hR hI ?_)
 exact ⟨rfl, hB.fin hR⟩

theorem highBits_spec {w : World} {C : Nat → Prop} (hi lo : Int) :
    Calls P 41 #[.agg #[.int .u64 lo, .int .i64 hi]] w fun ex w' => ex = .returned (.int .i64 hi) ∧ KS w w' := by
 refine dN (C := C) [.v (.agg #[.int .u64 lo, .int .i64 hi])] 5 1 Tryz.func41 fun a_ hI hR hB => ?_
 replace hI : Is 5 [] e0 [(0, .v (.agg #[.int .u64 lo, .int .i64 hi]))] a_ := hI
 refine rK tab 0 [] [] [(1, .p 0 0)] [] [⟨0, 47, [.v (.int .u64 lo), .v (.int .i64 hi)]⟩] [] [] [] 1 hR hI .nil fun e1 a1 w1 hag hR hI => ?_
 refine rK tab 1 [] [] [(2, .v (.int .i64 hi))] [] [] [] [] [] 1 hR hI .nil fun e2 a2 w2 hag hR hI => ?_
 refine wp_ret (oN tab [.v (.int .i64 hi)] hR hI ?_)
 exact ⟨rfl, hB.fin hR⟩

theorem wordsOf_spec {w : World} {C : Nat → Prop} (k : Int) :
    Calls P 19 #[.int .i64 k] w fun ex w' => ex = .returned (.tuple #[.int .i64 ((nwords k : Nat) : Int), .bool (okw k)]) ∧ KS w w' := by
 refine dN (C := C) [.v (.int .i64 k)] 13 1 Tryz.func19 fun a_ hI hR hB => ?_
 replace hI : Is 13 [] e0 [(0, .v (.int .i64 k))] a_ := hI
 refine rZ tab 0 [] [0] hR hI fun e1 a1 w1 hag hR hI => ?_
 refine wp_seq ?_
 refine rZ tab 0 [(4, .v (.int .i64 k))] [0] hR hI fun e2 a2 w2 hag hR hI => ?_
 refine wp_block ?_
 refine wp_seq ?_
 refine rZ tab 0 [(5, vB (k == (32 : Int)))] [4, 0] hR hI fun e3 a3 w3 hag hR hI => ?_
 refine cnd (b := (k == (32 : Int))) hI (by kernel_rfl) (fun hc4 => ?_) (fun hc4 => ?_)
 ·
  replace hI := hI.rb 5 hc4
  try simp only [tolds] at hc4
  refine wp_skip ?_
  refine then_n ?_
  refine cnd_t hI (by kernel_rfl) ?_
  refine rZ tab 0 [(3, vB true), (2, .v (.int .i64 1))] [] hR hI fun e5 a5 w5 hag hR hI => ?_
  refine wp_ret ?_
  refine ret_block ?_
  refine ret_then ?_
  refine oN tab [.v (.int .i64 1), vB true] hR hI ?_
  exact ⟨by rw [(wo1 (k := k) (by omega)).1, (wo1 (k := k) (by omega)).2]; rfl, hB.fin hR⟩
 ·
  replace hI := hI.rb 5 hc4
  try simp only [tolds] at hc4
  refine aZ tab 0 [(5, vB (k == (64 : Int)))] [4, 0] hR hI fun e6 a6 w6 hag hR hI => ?_
  refine then_n ?_
  refine cnd (b := (k == (64 : Int))) hI (by kernel_rfl) (fun hc7 => ?_) (fun hc7 => ?_)
  ·
   replace hI := hI.rb 5 hc7
   try simp only [tolds] at hc7
   refine rZ tab 0 [(3, vB true), (2, .v (.int .i64 1))] [] hR hI fun e8 a8 w8 hag hR hI => ?_
   refine wp_ret ?_
   refine ret_block ?_
   refine ret_then ?_
   refine oN tab [.v (.int .i64 1), vB true] hR hI ?_
   exact ⟨by rw [(wo1 (k := k) (by omega)).1, (wo1 (k := k) (by omega)).2]; rfl, hB.fin hR⟩
  ·
   replace hI := hI.rb 5 hc7
   try simp only [tolds] at hc7
   refine wp_seq ?_
   refine rZ tab 0 [(8, vB (k == (128 : Int)))] [4, 0] hR hI fun e9 a9 w9 hag hR hI => ?_
   refine cnd (b := (k == (128 : Int))) hI (by kernel_rfl) (fun hc10 => ?_) (fun hc10 => ?_)
   ·
    replace hI := hI.rb 8 hc10
    try simp only [tolds] at hc10
    refine wp_skip ?_
    refine then_n ?_
    refine cnd_t hI (by kernel_rfl) ?_
    refine rK tab 0 [(1, .nw)] [] [(3, vB true), (2, .v (.int .i64 (k / (64 : Int))))] [] [] [] [] [] 0 hR hI (.cons (by omega : (0 : Int) ≤ k) (.cons (by omega : (0 : Int) < (64 : Int)) (.cons (inR_i64 (n := k / (64 : Int)) (by omega)) .nil))) fun e11 a11 w11 hag hR hI => ?_
    refine wp_ret ?_
    refine ret_block ?_
    refine ret_then ?_
    refine oN tab [.v (.int .i64 (k / (64 : Int))), vB true] hR hI ?_
    exact ⟨by rw [(wo2 (k := k) (by omega)).1, (wo2 (k := k) (by omega)).2]; rfl, hB.fin hR⟩
   ·
    replace hI := hI.rb 8 hc10
    try simp only [tolds] at hc10
    refine aZ tab 0 [(8, vB (k == (256 : Int)))] [0] hR hI fun e12 a12 w12 hag hR hI => ?_
    refine then_n ?_
    refine cnd (b := (k == (256 : Int))) hI (by kernel_rfl) (fun hc13 => ?_) (fun hc13 => ?_)
    ·
     replace hI := hI.rb 8 hc13
     try simp only [tolds] at hc13
     refine rK tab 0 [(1, .nw)] [] [(3, vB true), (2, .v (.int .i64 (k / (64 : Int))))] [] [] [] [] [] 0 hR hI (.cons (by omega : (0 : Int) ≤ k) (.cons (by omega : (0 : Int) < (64 : Int)) (.cons (inR_i64 (n := k / (64 : Int)) (by omega)) .nil))) fun e14 a14 w14 hag hR hI => ?_
     refine wp_ret ?_
     refine ret_block ?_
     refine ret_then ?_
     refine oN tab [.v (.int .i64 (k / (64 : Int))), vB true] hR hI ?_
     exact ⟨by rw [(wo2 (k := k) (by omega)).1, (wo2 (k := k) (by omega)).2]; rfl, hB.fin hR⟩
    ·
     replace hI := hI.rb 8 hc13
     try simp only [tolds] at hc13
     refine wp_skip ?_
     refine normal_block ?_
     refine then_n ?_
     refine rZ tab 0 [(3, vB false), (2, .v (.int .i64 0))] [] hR hI fun e15 a15 w15 hag hR hI => ?_
     refine wp_ret (oN tab [.v (.int .i64 0), vB false] hR hI ?_)
     exact ⟨by rw [(wo0 (k := k) (by omega)).1, (wo0 (k := k) (by omega)).2]; rfl, hB.fin hR⟩

theorem same_done {xs ys : List Nat} {i : Nat} (h : i = xs.length) (h' : i = ys.length) (ht : xs.take i = ys.take i) : xs = ys := by
 rw [List.take_of_length_le (by omega), List.take_of_length_le (by omega)] at ht
 exact ht
theorem take_same {xs ys : List Nat} {i : Nat} (hx : i < xs.length) (hy : i < ys.length) (h : xs.take i = ys.take i) (he : xs.getD i 0 = ys.getD i 0) : xs.take (i + 1) = ys.take (i + 1) := by
 rw [List.take_add_one, List.take_add_one, h]
 rw [List.getD_eq_getElem?_getD, List.getD_eq_getElem?_getD, List.getElem?_eq_getElem hx, List.getElem?_eq_getElem hy] at he
 rw [List.getElem?_eq_getElem hx, List.getElem?_eq_getElem hy]
 simp only [Option.getD_some] at he
 rw [he]

theorem sameWords_spec {C : Nat → Prop} {w : World} {ad bd : Option Addr} {cap dap : Nat} {xs ys : List Nat} (hx : Sl .u64 18446744073709551616 C w ad cap xs) (hy : Sl .u64 18446744073709551616 C w bd dap ys) :
    Calls P 6 #[.slice ad xs.length cap, .slice bd ys.length dap] w fun ex w' => ∃ b : Bool, ex = .returned (.bool b) ∧ KS w w' ∧ (b = true ↔ xs = ys) := by
 refine dN (C := C) [vS ad xs.length cap, vS bd ys.length dap] 26 2 Tryz.func6 fun a_ hI hR hB => ?_
 replace hI : Is 26 [] e0 [(0, vS ad xs.length cap), (1, vS bd ys.length dap)] a_ := hI
 have hrx := hx.room; have hmx := hx.max; have hry := hy.room; have hmy := hy.max
 refine rZ tab 0 [] [0, 1] hR hI fun e1 a1 w1 hag hR hI => ?_
 refine wp_seq ?_
 refine rZ tab 0 [(10, vB ((xs.length : Int) != (ys.length : Int)))] [0, 1] hR hI fun e2 a2 w2 hag hR hI => ?_
 refine cnd (b := ((xs.length : Int) != (ys.length : Int))) hI (by kernel_rfl) (fun hc3 => ?_) (fun hc3 => ?_)
 ·
  replace hI := hI.rb 10 hc3
  try simp only [tolds] at hc3
  refine rZ tab 0 [(4, vB false)] [] hR hI fun e4 a4 w4 hag hR hI => ?_
  refine wp_ret ?_
  refine ret_then ?_
  refine oN tab [vB false] hR hI ?_
  exact ⟨false, rfl, hB.fin hR, ⟨fun h => (by cases h), fun h => absurd (congrArg List.length h) (by omega)⟩⟩
 ·
  replace hI := hI.rb 10 hc3
  try simp only [tolds] at hc3
  refine wp_skip ?_
  refine then_n ?_
  refine wp_seq ?_
  refine rZ tab 0 [(13, .v (.int .i64 0)), (12, vI xs.length)] [0, 1] hR hI fun e5 a5 w5 hag hR hI => ?_
  refine wp_block ?_
  refine lp (γ := Nat) (fun i => (⟨[(0, vS ad xs.length cap), (1, vS bd ys.length dap), (12, vI xs.length), (13, vI i)], [], [], 0⟩ : Sy)) (fun i e => i ≤ xs.length ∧ xs.length = ys.length ∧ xs.take i = ys.take i) (fun i => xs.length - i) (0) (⟨Nat.zero_le _, by omega, rfl⟩)
    (hR.sel [] [] (by kernel_rfl) (by kernel_rfl)) (hI.sel [0, 1, 12, 13] (by kernel_rfl)) ?_
  clear hR hI
  rintro i e6 a6 w6 hp hR hI
  dsimp only at hp hR hI
  obtain ⟨hi, hle, htk⟩ := hp
  refine rZ tab 0 [(14, vB (decide ((i : Int) < (xs.length : Int))))] [0, 1, 12, 13] hR hI fun e7 a7 w7 hag hR hI => ?_
  refine wp_seq ?_
  refine cnd (b := decide ((i : Int) < (xs.length : Int))) hI (by kernel_rfl) (fun hc8 => ?_) (fun hc8 => ?_)
  ·
   replace hI := hI.rb 14 hc8
   try simp only [tolds] at hc8
   refine wp_skip ?_
   refine then_n ?_
   refine wp_seq ?_
   refine wp_block ?_
   refine rZ tab 0 [(5, vI i)] [0, 1, 12, 13] hR hI fun e9 a9 w9 hag hR hI => ?_
   refine regQ_seq tab (by kernel_rfl) (k := 0) (hs := [(3, .val (vU (xs.getD i 0))), (7, .val (vU (ys.getD i 0)))]) (gs := []) (ks := [24, 0, 1, 12, 13])
     (L' := [(24, vB (((xs.getD i 0 : Nat) : Int) != ((ys.getD i 0 : Nat) : Int))), (0, vS ad xs.length cap), (1, vS bd ys.length dap), (12, vI xs.length), (13, vI i)]) hR hI (by kernel_rfl) (fun _ _ _ _ _ h => h) (by kernel_rfl)
     (.cons (by omega : (0 : Int) ≤ (i : Int) ∧ (i : Int) < (xs.length : Int)) (.cons (nats_some (i := i) (hx.cells.mono hB.cls) (by omega)) (.cons (nats_load (i := i) (m := 1) (hx.cells.mono hB.cls) (by omega)) (.cons (by omega : (0 : Int) ≤ (i : Int) ∧ (i : Int) < (ys.length : Int)) (.cons (nats_some (i := i) (hy.cells.mono hB.cls) (by omega)) (.cons (nats_load (i := i) (m := 1) (hy.cells.mono hB.cls) (by omega)) .nil)))))) (by kernel_rfl) (by kernel_rfl) (fun e10 a10 w10 hag hR hI => ?_)
   refine cnd (b := (((xs.getD i 0 : Nat) : Int) != ((ys.getD i 0 : Nat) : Int))) hI (by kernel_rfl) (fun hc11 => ?_) (fun hc11 => ?_)
   ·
    replace hI := hI.rb 24 hc11
    try simp only [tolds] at hc11
    refine rZ tab 0 [(4, vB false)] [] hR hI fun e12 a12 w12 hag hR hI => ?_
    refine wp_ret ?_
    refine ret_block ?_
    refine ret_then ?_
    refine ret_then ?_
    refine ret_block ?_
    refine ret_then ?_
    refine oN tab [vB false] hR hI ?_
    exact ⟨false, rfl, hB.fin hR, ⟨fun h => (by cases h), fun h => absurd (congrArg (fun l => l.getD i 0) h) (by show ¬ xs.getD i 0 = ys.getD i 0; omega)⟩⟩
   ·
    replace hI := hI.rb 24 hc11
    try simp only [tolds] at hc11
    refine wp_skip ?_
    refine normal_block ?_
    refine then_n ?_
    refine aK tab 0 [(0, .nw)] [] [(13, vI (i + 1))] [0, 1, 12] [] [] [] [] 0 hR hI (.cons (inR_i64 (n := (i : Int) + (1 : Int)) (by omega)) .nil) fun e13 a13 w13 hag hR hI => ?_
    refine then_n ?_
    exact ⟨(i + 1), e13, ⟨by omega, hle, take_same (by omega) (by omega) htk (by omega)⟩, by (try dsimp only); omega, hR.sel [] [] (by kernel_rfl) (by kernel_rfl), hI.sel [0, 1, 12, 13] (by kernel_rfl)⟩
  ·
   replace hI := hI.rb 14 hc8
   try simp only [tolds] at hc8
   refine wp_exit ?_
   refine exit_then ?_
   refine exit_then ?_
   refine exit_hit ?_
   refine then_n ?_
   refine rZ tab 0 [(4, vB true)] [] hR hI fun e14 a14 w14 hag hR hI => ?_
   refine wp_ret (oN tab [vB true] hR hI ?_)
   exact ⟨true, rfl, hB.fin hR, ⟨fun _ => same_done (by omega) (by omega) htk, fun _ => rfl⟩⟩

theorem decimal_spec {C : Nat → Prop} {w : World} {ad : Option Addr} {cap : Nat} {ws : List Nat} (k : Int) (hx : Sl .u64 18446744073709551616 C w ad cap ws) :
    Calls P 7 #[.int .i64 k, .slice ad ws.length cap] w fun ex w' => ∃ ok nz zd zc zs, ex = .returned (.tuple #[.agg #[.bool nz, .slice zd (List.length zs) zc], .bool ok]) ∧ KS w w' ∧ ∃ z, Wd (Grow C w w') w' nz zd zc zs z 18 ∧ (ok = true → decOK k ws ∧ z = swv ws) ∧ (decOK k ws → ok = true) := by
 refine dN (C := C) [.v (.int .i64 k), vS ad ws.length cap] 40 2 Tryz.func7 fun a_ hI hR hB => ?_
 replace hI : Is 40 [] e0 [(0, .v (.int .i64 k)), (1, vS ad ws.length cap)] a_ := hI
 have hrx := hx.room; have hmx := hx.max; have hnw := nwords_le k; have hwb := i32_in ((ws.getD 0 0 : Nat) : Int); have hnk : k = 32 → nwords k = 1 := fun h => (wo1 (.inl h)).1
 refine rK tab 0 [] [] [(4, .p 0 0)] [0, 1] [⟨0, 29, [vB false, vS none 0 0]⟩] [] [] [] 1 hR hI .nil fun e1 a1 w1 hag hR hI => ?_
 refine wp_seq (reg (is := [0, 1, 2, 3, 4, 5, 6]) (by kernel_rfl) ?_)
 refine pZ tab [0] [1, 2, 3, 4, 5, 6] 1 [(9, .v (.int .i64 k))] [4, 0, 1] hR hI fun e2 a2 w2 hag hR hI => ?_
 refine cO [.v (.int .i64 k)] hI Tryz.func19 ?_
 refine (wordsOf_spec (C := C) k).mono ?_
 rintro ex w3 ⟨rfl, hk⟩
 replace hR := hR.same hk; clear hk
 refine ⟨_, rfl, ?_⟩
 replace hI := hI.pt 10 (.v (.tuple #[.int .i64 ((nwords k : Nat) : Int), .bool (okw k)])) [10, 9, 4, 0, 1]
 refine pZ tab [2, 3, 4, 5, 6] [] 1 [(7, vB (okw k)), (6, vI (nwords k))] [4, 0, 1] hR hI fun e4 a4 w4 hag hR hI => ?_
 refine ops_nil (then_n ?_)
 refine wp_seq ?_
 refine regQ_seq tab (by kernel_rfl) (k := 1) (hs := [(7, .sym), (14, .val (vU (ws.getD 0 0))), (16, .nw), (20, .val (vU (ws.getD 0 0))), (22, .sym), (23, .sym)]) (gs := [3, 4, 5, 6, 9, 10, 11, 12, 13, 14, 15, 16, 17, 18, 19, 20, 21, 22]) (ks := [36, 4, 1])
   (L' := [(36, vB (((!(okw k)) || ((ws.length : Int) != ((nwords k : Nat) : Int))) || ((k == (32 : Int)) && ((IntKind.u64.wrap (IntKind.i32.wrap ((ws.getD 0 0 : Nat) : Int))) != ((ws.getD 0 0 : Nat) : Int))))), (4, .p 0 0), (1, vS ad ws.length cap)]) hR hI (by kernel_rfl) (fun _ _ _ _ _ h => h) (by kernel_rfl)
   (.cons (rfl : (!(okw k)) = (!(okw k))) (.cons (rfl : (!(okw k)) = (!(okw k))) (.cons (rfl : (!(okw k)) = (!(okw k))) (.cons (rfl : (!(okw k)) = (!(okw k))) (.cons (rfl : (!(okw k)) = (!(okw k))) (.cons (rfl : (!(okw k)) = (!(okw k))) (.cons (by first | exact (by intro b_; cases b_ <;> rfl : ∀ b_ : Bool, (b_ == true) = b_) _ | exact (by intro b_; cases b_ <;> rfl : ∀ b_ : Bool, (b_ == false) = !b_) _ | exact Bool.beq_true _ | exact Bool.beq_false _ | rfl | simp_all : ((!(okw k)) == false) = !(!(okw k))) (.cons (rfl : ((!(okw k)) || ((ws.length : Int) != ((nwords k : Nat) : Int))) = ((!(okw k)) || ((ws.length : Int) != ((nwords k : Nat) : Int)))) (.cons (rfl : ((!(okw k)) || ((ws.length : Int) != ((nwords k : Nat) : Int))) = ((!(okw k)) || ((ws.length : Int) != ((nwords k : Nat) : Int)))) (.cons (rfl : ((!(okw k)) || ((ws.length : Int) != ((nwords k : Nat) : Int))) = ((!(okw k)) || ((ws.length : Int) != ((nwords k : Nat) : Int)))) (.cons (rfl : ((((!(okw k)) || ((ws.length : Int) != ((nwords k : Nat) : Int))) == false) && ((k == (32 : Int)) == true)) = ((((!(okw k)) || ((ws.length : Int) != ((nwords k : Nat) : Int))) == false) && ((k == (32 : Int)) == true))) (.cons (fun (hg : (((((!(okw k)) || ((ws.length : Int) != ((nwords k : Nat) : Int))) == false) && ((k == (32 : Int)) == true)) == true) = true) => (by (try have hg := dec_guard hg); omega : (0 : Int) ≤ (0 : Int) ∧ (0 : Int) < (ws.length : Int))) (.cons (fun (hg : (((((!(okw k)) || ((ws.length : Int) != ((nwords k : Nat) : Int))) == false) && ((k == (32 : Int)) == true)) == true) = true) => (nats_some (i := 0) (hx.cells.mono hB.cls) (by (try have hg := dec_guard hg); omega))) (.cons (rfl : ((((!(okw k)) || ((ws.length : Int) != ((nwords k : Nat) : Int))) == false) && ((k == (32 : Int)) == true)) = ((((!(okw k)) || ((ws.length : Int) != ((nwords k : Nat) : Int))) == false) && ((k == (32 : Int)) == true))) (.cons (rfl : ((((!(okw k)) || ((ws.length : Int) != ((nwords k : Nat) : Int))) == false) && ((k == (32 : Int)) == true)) = ((((!(okw k)) || ((ws.length : Int) != ((nwords k : Nat) : Int))) == false) && ((k == (32 : Int)) == true))) (.cons (fun (hg : (((((!(okw k)) || ((ws.length : Int) != ((nwords k : Nat) : Int))) == false) && ((k == (32 : Int)) == true)) == true) = true) => (nats_load (i := 0) (m := 1) (hx.cells.mono hB.cls) (by (try have hg := dec_guard hg); omega))) (.cons (rfl : ((((!(okw k)) || ((ws.length : Int) != ((nwords k : Nat) : Int))) == false) && ((k == (32 : Int)) == true)) = ((((!(okw k)) || ((ws.length : Int) != ((nwords k : Nat) : Int))) == false) && ((k == (32 : Int)) == true))) (.cons (rfl : ((((!(okw k)) || ((ws.length : Int) != ((nwords k : Nat) : Int))) == false) && ((k == (32 : Int)) == true)) = ((((!(okw k)) || ((ws.length : Int) != ((nwords k : Nat) : Int))) == false) && ((k == (32 : Int)) == true))) (.cons (rfl : ((((!(okw k)) || ((ws.length : Int) != ((nwords k : Nat) : Int))) == false) && ((k == (32 : Int)) == true)) = ((((!(okw k)) || ((ws.length : Int) != ((nwords k : Nat) : Int))) == false) && ((k == (32 : Int)) == true))) (.cons (rfl : ((((!(okw k)) || ((ws.length : Int) != ((nwords k : Nat) : Int))) == false) && ((k == (32 : Int)) == true)) = ((((!(okw k)) || ((ws.length : Int) != ((nwords k : Nat) : Int))) == false) && ((k == (32 : Int)) == true))) (.cons (rfl : ((((!(okw k)) || ((ws.length : Int) != ((nwords k : Nat) : Int))) == false) && ((k == (32 : Int)) == true)) = ((((!(okw k)) || ((ws.length : Int) != ((nwords k : Nat) : Int))) == false) && ((k == (32 : Int)) == true))) (.cons (rfl : ((((!(okw k)) || ((ws.length : Int) != ((nwords k : Nat) : Int))) == false) && ((k == (32 : Int)) == true)) = ((((!(okw k)) || ((ws.length : Int) != ((nwords k : Nat) : Int))) == false) && ((k == (32 : Int)) == true))) (.cons (rfl : ((((!(okw k)) || ((ws.length : Int) != ((nwords k : Nat) : Int))) == false) && ((k == (32 : Int)) == true)) = ((((!(okw k)) || ((ws.length : Int) != ((nwords k : Nat) : Int))) == false) && ((k == (32 : Int)) == true))) (.cons (fun (hg : (((((!(okw k)) || ((ws.length : Int) != ((nwords k : Nat) : Int))) == false) && ((k == (32 : Int)) == true)) == true) = true) => (inR_i64 (n := IntKind.i32.wrap ((ws.getD 0 0 : Nat) : Int)) (by (try have hg := dec_guard hg); omega))) (.cons (rfl : ((((!(okw k)) || ((ws.length : Int) != ((nwords k : Nat) : Int))) == false) && ((k == (32 : Int)) == true)) = ((((!(okw k)) || ((ws.length : Int) != ((nwords k : Nat) : Int))) == false) && ((k == (32 : Int)) == true))) (.cons (rfl : ((((!(okw k)) || ((ws.length : Int) != ((nwords k : Nat) : Int))) == false) && ((k == (32 : Int)) == true)) = ((((!(okw k)) || ((ws.length : Int) != ((nwords k : Nat) : Int))) == false) && ((k == (32 : Int)) == true))) (.cons (rfl : ((((!(okw k)) || ((ws.length : Int) != ((nwords k : Nat) : Int))) == false) && ((k == (32 : Int)) == true)) = ((((!(okw k)) || ((ws.length : Int) != ((nwords k : Nat) : Int))) == false) && ((k == (32 : Int)) == true))) (.cons (rfl : ((((!(okw k)) || ((ws.length : Int) != ((nwords k : Nat) : Int))) == false) && ((k == (32 : Int)) == true)) = ((((!(okw k)) || ((ws.length : Int) != ((nwords k : Nat) : Int))) == false) && ((k == (32 : Int)) == true))) (.cons (rfl : ((((!(okw k)) || ((ws.length : Int) != ((nwords k : Nat) : Int))) == false) && ((k == (32 : Int)) == true)) = ((((!(okw k)) || ((ws.length : Int) != ((nwords k : Nat) : Int))) == false) && ((k == (32 : Int)) == true))) (.cons (rfl : ((((!(okw k)) || ((ws.length : Int) != ((nwords k : Nat) : Int))) == false) && ((k == (32 : Int)) == true)) = ((((!(okw k)) || ((ws.length : Int) != ((nwords k : Nat) : Int))) == false) && ((k == (32 : Int)) == true))) (.cons (rfl : ((((!(okw k)) || ((ws.length : Int) != ((nwords k : Nat) : Int))) == false) && ((k == (32 : Int)) == true)) = ((((!(okw k)) || ((ws.length : Int) != ((nwords k : Nat) : Int))) == false) && ((k == (32 : Int)) == true))) (.cons (rfl : ((((!(okw k)) || ((ws.length : Int) != ((nwords k : Nat) : Int))) == false) && ((k == (32 : Int)) == true)) = ((((!(okw k)) || ((ws.length : Int) != ((nwords k : Nat) : Int))) == false) && ((k == (32 : Int)) == true))) (.cons (rfl : ((((!(okw k)) || ((ws.length : Int) != ((nwords k : Nat) : Int))) == false) && ((k == (32 : Int)) == true)) = ((((!(okw k)) || ((ws.length : Int) != ((nwords k : Nat) : Int))) == false) && ((k == (32 : Int)) == true))) (.cons (rfl : ((((!(okw k)) || ((ws.length : Int) != ((nwords k : Nat) : Int))) == false) && ((k == (32 : Int)) == true)) = ((((!(okw k)) || ((ws.length : Int) != ((nwords k : Nat) : Int))) == false) && ((k == (32 : Int)) == true))) (.cons (rfl : ((((!(okw k)) || ((ws.length : Int) != ((nwords k : Nat) : Int))) == false) && ((k == (32 : Int)) == true)) = ((((!(okw k)) || ((ws.length : Int) != ((nwords k : Nat) : Int))) == false) && ((k == (32 : Int)) == true))) (.cons (rfl : ((((!(okw k)) || ((ws.length : Int) != ((nwords k : Nat) : Int))) == false) && ((k == (32 : Int)) == true)) = ((((!(okw k)) || ((ws.length : Int) != ((nwords k : Nat) : Int))) == false) && ((k == (32 : Int)) == true))) (.cons (rfl : ((((!(okw k)) || ((ws.length : Int) != ((nwords k : Nat) : Int))) == false) && ((k == (32 : Int)) == true)) = ((((!(okw k)) || ((ws.length : Int) != ((nwords k : Nat) : Int))) == false) && ((k == (32 : Int)) == true))) (.cons (rfl : ((((!(okw k)) || ((ws.length : Int) != ((nwords k : Nat) : Int))) == false) && ((k == (32 : Int)) == true)) = ((((!(okw k)) || ((ws.length : Int) != ((nwords k : Nat) : Int))) == false) && ((k == (32 : Int)) == true))) (.cons (rfl : ((((!(okw k)) || ((ws.length : Int) != ((nwords k : Nat) : Int))) == false) && ((k == (32 : Int)) == true)) = ((((!(okw k)) || ((ws.length : Int) != ((nwords k : Nat) : Int))) == false) && ((k == (32 : Int)) == true))) (.cons (rfl : ((((!(okw k)) || ((ws.length : Int) != ((nwords k : Nat) : Int))) == false) && ((k == (32 : Int)) == true)) = ((((!(okw k)) || ((ws.length : Int) != ((nwords k : Nat) : Int))) == false) && ((k == (32 : Int)) == true))) (.cons (rfl : ((((!(okw k)) || ((ws.length : Int) != ((nwords k : Nat) : Int))) == false) && ((k == (32 : Int)) == true)) = ((((!(okw k)) || ((ws.length : Int) != ((nwords k : Nat) : Int))) == false) && ((k == (32 : Int)) == true))) (.cons (rfl : ((((!(okw k)) || ((ws.length : Int) != ((nwords k : Nat) : Int))) == false) && ((k == (32 : Int)) == true)) = ((((!(okw k)) || ((ws.length : Int) != ((nwords k : Nat) : Int))) == false) && ((k == (32 : Int)) == true))) (.cons (fun (hg : (((((!(okw k)) || ((ws.length : Int) != ((nwords k : Nat) : Int))) == false) && ((k == (32 : Int)) == true)) == true) = true) => (by (try have hg := dec_guard hg); omega : (0 : Int) ≤ (0 : Int) ∧ (0 : Int) < (ws.length : Int))) (.cons (fun (hg : (((((!(okw k)) || ((ws.length : Int) != ((nwords k : Nat) : Int))) == false) && ((k == (32 : Int)) == true)) == true) = true) => (nats_some (i := 0) (hx.cells.mono hB.cls) (by (try have hg := dec_guard hg); omega))) (.cons (rfl : ((((!(okw k)) || ((ws.length : Int) != ((nwords k : Nat) : Int))) == false) && ((k == (32 : Int)) == true)) = ((((!(okw k)) || ((ws.length : Int) != ((nwords k : Nat) : Int))) == false) && ((k == (32 : Int)) == true))) (.cons (rfl : ((((!(okw k)) || ((ws.length : Int) != ((nwords k : Nat) : Int))) == false) && ((k == (32 : Int)) == true)) = ((((!(okw k)) || ((ws.length : Int) != ((nwords k : Nat) : Int))) == false) && ((k == (32 : Int)) == true))) (.cons (rfl : ((((!(okw k)) || ((ws.length : Int) != ((nwords k : Nat) : Int))) == false) && ((k == (32 : Int)) == true)) = ((((!(okw k)) || ((ws.length : Int) != ((nwords k : Nat) : Int))) == false) && ((k == (32 : Int)) == true))) (.cons (rfl : ((((!(okw k)) || ((ws.length : Int) != ((nwords k : Nat) : Int))) == false) && ((k == (32 : Int)) == true)) = ((((!(okw k)) || ((ws.length : Int) != ((nwords k : Nat) : Int))) == false) && ((k == (32 : Int)) == true))) (.cons (rfl : ((((!(okw k)) || ((ws.length : Int) != ((nwords k : Nat) : Int))) == false) && ((k == (32 : Int)) == true)) = ((((!(okw k)) || ((ws.length : Int) != ((nwords k : Nat) : Int))) == false) && ((k == (32 : Int)) == true))) (.cons (rfl : ((((!(okw k)) || ((ws.length : Int) != ((nwords k : Nat) : Int))) == false) && ((k == (32 : Int)) == true)) = ((((!(okw k)) || ((ws.length : Int) != ((nwords k : Nat) : Int))) == false) && ((k == (32 : Int)) == true))) (.cons (rfl : ((((!(okw k)) || ((ws.length : Int) != ((nwords k : Nat) : Int))) == false) && ((k == (32 : Int)) == true)) = ((((!(okw k)) || ((ws.length : Int) != ((nwords k : Nat) : Int))) == false) && ((k == (32 : Int)) == true))) (.cons (rfl : ((((!(okw k)) || ((ws.length : Int) != ((nwords k : Nat) : Int))) == false) && ((k == (32 : Int)) == true)) = ((((!(okw k)) || ((ws.length : Int) != ((nwords k : Nat) : Int))) == false) && ((k == (32 : Int)) == true))) (.cons (fun (hg : (((((!(okw k)) || ((ws.length : Int) != ((nwords k : Nat) : Int))) == false) && ((k == (32 : Int)) == true)) == true) = true) => (nats_load (i := 0) (m := 1) (hx.cells.mono hB.cls) (by (try have hg := dec_guard hg); omega))) (.cons (rfl : ((((!(okw k)) || ((ws.length : Int) != ((nwords k : Nat) : Int))) == false) && ((k == (32 : Int)) == true)) = ((((!(okw k)) || ((ws.length : Int) != ((nwords k : Nat) : Int))) == false) && ((k == (32 : Int)) == true))) (.cons (rfl : ((((!(okw k)) || ((ws.length : Int) != ((nwords k : Nat) : Int))) == false) && ((k == (32 : Int)) == true)) = ((((!(okw k)) || ((ws.length : Int) != ((nwords k : Nat) : Int))) == false) && ((k == (32 : Int)) == true))) (.cons (rfl : ((((!(okw k)) || ((ws.length : Int) != ((nwords k : Nat) : Int))) == false) && ((k == (32 : Int)) == true)) = ((((!(okw k)) || ((ws.length : Int) != ((nwords k : Nat) : Int))) == false) && ((k == (32 : Int)) == true))) (.cons (rfl : ((((!(okw k)) || ((ws.length : Int) != ((nwords k : Nat) : Int))) == false) && ((k == (32 : Int)) == true)) = ((((!(okw k)) || ((ws.length : Int) != ((nwords k : Nat) : Int))) == false) && ((k == (32 : Int)) == true))) (.cons (rfl : ((((!(okw k)) || ((ws.length : Int) != ((nwords k : Nat) : Int))) == false) && ((k == (32 : Int)) == true)) = ((((!(okw k)) || ((ws.length : Int) != ((nwords k : Nat) : Int))) == false) && ((k == (32 : Int)) == true))) (.cons (rfl : ((((!(okw k)) || ((ws.length : Int) != ((nwords k : Nat) : Int))) == false) && ((k == (32 : Int)) == true)) = ((((!(okw k)) || ((ws.length : Int) != ((nwords k : Nat) : Int))) == false) && ((k == (32 : Int)) == true))) (.cons (rfl : ((((!(okw k)) || ((ws.length : Int) != ((nwords k : Nat) : Int))) == false) && ((k == (32 : Int)) == true)) = ((((!(okw k)) || ((ws.length : Int) != ((nwords k : Nat) : Int))) == false) && ((k == (32 : Int)) == true))) (.cons (rfl : ((((!(okw k)) || ((ws.length : Int) != ((nwords k : Nat) : Int))) == false) && ((k == (32 : Int)) == true)) = ((((!(okw k)) || ((ws.length : Int) != ((nwords k : Nat) : Int))) == false) && ((k == (32 : Int)) == true))) (.cons (rfl : ((((!(okw k)) || ((ws.length : Int) != ((nwords k : Nat) : Int))) == false) && ((k == (32 : Int)) == true)) = ((((!(okw k)) || ((ws.length : Int) != ((nwords k : Nat) : Int))) == false) && ((k == (32 : Int)) == true))) (.cons (rfl : ((!(okw k)) || ((ws.length : Int) != ((nwords k : Nat) : Int))) = ((!(okw k)) || ((ws.length : Int) != ((nwords k : Nat) : Int)))) (.cons (rfl : ((!(okw k)) || ((ws.length : Int) != ((nwords k : Nat) : Int))) = ((!(okw k)) || ((ws.length : Int) != ((nwords k : Nat) : Int)))) (.cons (rfl : ((!(okw k)) || ((ws.length : Int) != ((nwords k : Nat) : Int))) = ((!(okw k)) || ((ws.length : Int) != ((nwords k : Nat) : Int)))) (.cons (fun (hg : (((!(okw k)) || ((ws.length : Int) != ((nwords k : Nat) : Int))) == false) = true) => (by (try have hg := dec_guard hg); first | exact (by (try have hg := dec_guard hg); intro b_; cases b_ <;> rfl : ∀ b_ : Bool, (b_ == true) = b_) _ | exact (by (try have hg := dec_guard hg); intro b_; cases b_ <;> rfl : ∀ b_ : Bool, (b_ == false) = !b_) _ | exact Bool.beq_true _ | exact Bool.beq_false _ | rfl | simp_all : (((((!(okw k)) || ((ws.length : Int) != ((nwords k : Nat) : Int))) == false) && ((k == (32 : Int)) == true)) == true) = (k == (32 : Int)))) (.cons (by first | exact (by intro b_; cases b_ <;> rfl : ∀ b_ : Bool, (b_ == true) = b_) _ | exact (by intro b_; cases b_ <;> rfl : ∀ b_ : Bool, (b_ == false) = !b_) _ | exact Bool.beq_true _ | exact Bool.beq_false _ | rfl | simp_all : (((!(okw k)) || ((ws.length : Int) != ((nwords k : Nat) : Int))) == false) = !((!(okw k)) || ((ws.length : Int) != ((nwords k : Nat) : Int)))) .nil))))))))))))))))))))))))))))))))))))))))))))))))))))))))))))))))))) (by kernel_rfl) (by kernel_rfl) (fun e5 a5 w5 hag hR hI => ?_)
 refine cnd (b := (((!(okw k)) || ((ws.length : Int) != ((nwords k : Nat) : Int))) || ((k == (32 : Int)) && ((IntKind.u64.wrap (IntKind.i32.wrap ((ws.getD 0 0 : Nat) : Int))) != ((ws.getD 0 0 : Nat) : Int))))) hI (by kernel_rfl) (fun hc6 => ?_) (fun hc6 => ?_)
 ·
  replace hI := hI.rb 36 hc6
  have hno := dec_no hc6
  refine rZ tab 1 [(5, vB false)] [4] hR hI fun e7 a7 w7 hag hR hI => ?_
  refine wp_ret ?_
  refine ret_then ?_
  refine oN tab [.agg [vB false, vS none 0 0], vB false] hR hI ?_
  exact ⟨false, false, none, 0, [], rfl, hB.fin hR, 0, ⟨Sl.nil, .inl rfl, fun h => (by cases h), rfl, Nat.zero_le _⟩, fun h => (by cases h), fun h => absurd h hno⟩
 ·
  replace hI := hI.rb 36 hc6
  have hok := dec_yes hc6; have hl4 := hok.2.1
  refine wp_skip ?_
  refine then_n ?_
  refine wp_seq (reg (is := [0, 1, 2, 3]) (by kernel_rfl) ?_)
  refine pZ tab [0] [1, 2, 3] 1 [(38, vS ad ws.length cap)] [4] hR hI fun e8 a8 w8 hag hR hI => ?_
  refine cO [vS ad ws.length cap] hI Tryz.func20 ?_
  refine (fromWords_spec (hx.now hB hR) (by omega)).mono ?_
  rintro ex w9 ⟨nz, zd, zc, zs, rfl, hk, hz⟩
  replace hx := hx.next hB hR hk
  obtain ⟨hB, hR⟩ := nx hB hR hk
  refine ⟨_, rfl, ?_⟩
  replace hI := hI.pt 39 (.v (.agg #[.bool nz, .slice zd zs.length zc])) [39, 38, 4]
  refine pK tab [2, 3] [] 1 [] [] [(5, vB true)] [4] [⟨0, 29, [vB nz, vS zd zs.length zc]⟩] [] [] [] 1 hR hI .nil fun e10 a10 w10 hag hR hI => ?_
  refine ops_nil (then_n ?_)
  refine wp_ret (oN tab [.agg [vB nz, vS zd zs.length zc], vB true] hR hI ?_)
  exact ⟨true, nz, zd, zc, zs, rfl, hB.fin hR, _, (hz.fin hB hR).to rfl (by have := hok.2.1; omega), fun _ => ⟨hok, rfl⟩, fun _ => rfl⟩

theorem decOf128_spec {C : Nat → Prop} {w : World} {ad : Option Addr} {cap : Nat} {ws : List Nat} (hx : Sl .u64 18446744073709551616 C w ad cap ws) (hl : ws.length = 2) :
    Calls P 15 #[.int .i64 128, .slice ad ws.length cap] w fun ex w' => ex = .returned (.tuple #[.agg #[.int .i64 128, .int .i32 0, .int .i64 0, .int .u64 ((ws.getD 0 0 : Nat) : Int), .int .i64 (IntKind.i64.wrap ((ws.getD 1 0 : Nat) : Int)), .int .u64 0, .int .u64 0, .int .u64 0, .int .u64 0], .bool true]) ∧ KS w w' := by
 refine dN (C := C) [.v (.int .i64 128), vS ad ws.length cap] 88 2 Tryz.func15 fun a_ hI hR hB => ?_
 replace hI : Is 88 [] e0 [(0, .v (.int .i64 128)), (1, vS ad ws.length cap)] a_ := hI
 have hrx := hx.room; have hmx := hx.max; have hwb := i32_in ((ws.getD 0 0 : Nat) : Int)
 refine rK tab 0 [] [] [(4, .p 0 0)] [0, 1] [⟨0, 52, [.v (.int .i64 0), .v (.int .i32 0), .v (.int .i64 0), .v (.int .u64 0), .v (.int .i64 0), .v (.int .u64 0), .v (.int .u64 0), .v (.int .u64 0), .v (.int .u64 0)]⟩] [] [] [] 1 hR hI .nil fun e1 a1 w1 hag hR hI => ?_
 refine wp_seq ?_
 refine wp_block ?_
 refine regQ_seq tab (by kernel_rfl) (k := 1) (hs := []) (gs := []) (ks := [6, 4, 0, 1])
   (L' := [(6, vB false), (4, .p 0 0), (0, .v (.int .i64 128)), (1, vS ad ws.length cap)]) hR hI (by kernel_rfl) (fun _ _ _ _ _ h => h) (by kernel_rfl)
   .nil (by kernel_rfl) (by kernel_rfl) (fun e2 a2 w2 hag hR hI => ?_)
 refine cnd_f hI (by kernel_rfl) ?_
 refine rZ tab 1 [(32, vB false)] [4, 0, 1] hR hI fun e3 a3 w3 hag hR hI => ?_
 refine cnd_f hI (by kernel_rfl) ?_
 refine rK tab 1 [(5, .eq (.bool true))] [] [(46, vB true)] [4, 0, 1] [] [0] [] [] 1 hR hI (.cons (congrArg Value.bool (by rw [hl]; rfl : ((ws.length : Int) == (2 : Int)) = true)) .nil) fun e4 a4 w4 hag hR hI => ?_
 refine cnd_t hI (by kernel_rfl) ?_
 refine wp_seq ?_
 refine regL 10 hR (by kernel_rfl) (fun hS => ?_)
 replace hR := hR.drew; have hF := hR.fore
 refine lK tab [(3, .val (vU (ws.getD 1 0))), (7, .val (vU (ws.getD 0 0)))] [] [0, 1, 2, 3, 4, 5, 6, 7] 4 [(61, vU (ws.getD 0 0)), (58, .v (.int .i64 (IntKind.i64.wrap ((ws.getD 1 0 : Nat) : Int)))), (54, .v (.int .i64 128))] [4] hS hI (.cons (by omega : (0 : Int) ≤ (1 : Int) ∧ (1 : Int) < (ws.length : Int)) (.cons (nats_some (i := 1) (hx.cells.mono hB.cls) (by omega)) (.cons (nats_load (i := 1) (m := 1) (hx.cells.mono hB.cls) (by omega)) (.cons (by omega : (0 : Int) ≤ (0 : Int) ∧ (0 : Int) < (ws.length : Int)) (.cons (nats_some (i := 0) (hx.cells.mono hB.cls) (by omega)) (.cons (nats_load (i := 0) (m := 1) (hx.cells.mono hB.cls) (by omega)) .nil)))))) fun a5 hI => ?_
 refine oneL (i := 8) (f' := 3) (by kernel_rfl) (by rfl) ?_
 refine cH [.v (.int .i64 (IntKind.i64.wrap ((ws.getD 1 0 : Nat) : Int))), vU (ws.getD 0 0)] hI Tryz.func33 ?_
 refine (new128_spec (C := C) (IntKind.i64.wrap ((ws.getD 1 0 : Nat) : Int)) ((ws.getD 0 0 : Nat) : Int)).mono ?_
 rintro ex w6 ⟨rfl, hk⟩
 replace hS := hS.same hk; replace hR := hR.same hk; clear hk
 refine ⟨_, rfl, hS, ?_⟩
 replace hI := hI.pt 62 (.v (.agg #[.int .u64 ((ws.getD 0 0 : Nat) : Int), .int .i64 (IntKind.i64.wrap ((ws.getD 1 0 : Nat) : Int))])) [62, 61, 58, 54, 4]
 refine lK tab [] [] [9] 2 [(63, .agg [.v (.int .i64 128), .v (.int .i32 0), .v (.int .i64 0), vU (ws.getD 0 0), .v (.int .i64 (IntKind.i64.wrap ((ws.getD 1 0 : Nat) : Int))), .v (.int .u64 0), .v (.int .u64 0), .v (.int .u64 0), .v (.int .u64 0)])] [4] hS hI .nil fun a7 hI => ?_
 refine endL (i := 10) (f' := 1) (by kernel_rfl) (by rfl) (by kernel_rfl) ?_
 refine eK tab 1 .no (.v (undef)) [⟨0, 52, [.v (.int .i64 128), .v (.int .i32 0), .v (.int .i64 0), vU (ws.getD 0 0), .v (.int .i64 (IntKind.i64.wrap ((ws.getD 1 0 : Nat) : Int))), .v (.int .u64 0), .v (.int .u64 0), .v (.int .u64 0), .v (.int .u64 0)]⟩] [] [] [] 1 true hR hI .nil fun e8 a8 w8 hag hR2 hI => ?_
 replace hR := hR2; clear hR2
 replace hI := hI.sl [63, 4] rfl
 refine endL (i := 11) (f' := 0) (by kernel_rfl) (by rfl) (by kernel_rfl) ?_
 refine quietL tab (hh := .no) (x := vB true) hR hI rfl rfl rfl (by kernel_rfl) .nil (fun a9 hI => ?_)
 replace hI := hI.sl [5, 63, 4] rfl
 refine doneL (by kernel_rfl) ?_
 refine then_n ?_
 replace hI := hI.sl [5, 4] rfl; replace hR := hR.sel [0] [] rfl rfl
 refine wp_ret ?_
 refine ret_block ?_
 refine ret_then ?_
 refine oN tab [.agg [.v (.int .i64 128), .v (.int .i32 0), .v (.int .i64 0), vU (ws.getD 0 0), .v (.int .i64 (IntKind.i64.wrap ((ws.getD 1 0 : Nat) : Int))), .v (.int .u64 0), .v (.int .u64 0), .v (.int .u64 0), .v (.int .u64 0)], vB true] hR hI ?_
 exact ⟨rfl, hB.fin hR⟩

theorem words128_spec {C : Nat → Prop} {w : World} {p1 p2 : Int} (l : Nat) (d : Int) (hlb : l < 18446744073709551616) :
    Calls P 18 #[.agg #[.int .i64 128, .int .i32 p1, .int .i64 p2, .int .u64 (l : Int), .int .i64 d, .int .u64 0, .int .u64 0, .int .u64 0, .int .u64 0]] w fun ex w' => ∃ wd wc ws, ex = .returned (.slice wd (List.length ws) wc) ∧ KS w w' ∧ Sl .u64 18446744073709551616 (Grow C w w') w' wd wc ws ∧ ∃ m : Nat, ws = [l, m] ∧ IntKind.u64.wrap d = (m : Int) := by
 refine dN (C := C) [.v (.agg #[.int .i64 128, .int .i32 p1, .int .i64 p2, .int .u64 (l : Int), .int .i64 d, .int .u64 0, .int .u64 0, .int .u64 0, .int .u64 0])] 33 1 Tryz.func18 fun a_ hI hR hB => ?_
 replace hI : Is 33 [] e0 [(0, .v (.agg #[.int .i64 128, .int .i32 p1, .int .i64 p2, .int .u64 (l : Int), .int .i64 d, .int .u64 0, .int .u64 0, .int .u64 0, .int .u64 0]))] a_ := hI
 obtain ⟨m, hm, hmb⟩ := u64_nat d
 refine rK tab 0 [] [] [(1, .p 0 0)] [] [⟨0, 52, [.v (.int .i64 128), .v (.int .i32 p1), .v (.int .i64 p2), vU l, .v (.int .i64 d), .v (.int .u64 0), .v (.int .u64 0), .v (.int .u64 0), .v (.int .u64 0)]⟩] [] [] [] 1 hR hI .nil fun e1 a1 w1 hag hR hI => ?_
 refine wp_seq ?_
 refine rZ tab 1 [(5, .v (.int .i64 128))] [1] hR hI fun e2 a2 w2 hag hR hI => ?_
 refine wp_block ?_
 refine rZ tab 1 [(6, vB false)] [5, 1] hR hI fun e3 a3 w3 hag hR hI => ?_
 refine cnd_f hI (by kernel_rfl) ?_
 refine rZ tab 1 [(13, vB false)] [5, 1] hR hI fun e4 a4 w4 hag hR hI => ?_
 refine cnd_f hI (by kernel_rfl) ?_
 refine rZ tab 1 [(19, vB true)] [1] hR hI fun e5 a5 w5 hag hR hI => ?_
 refine cnd_t hI (by kernel_rfl) ?_
 refine wp_seq ?_
 refine regL 8 hR (by kernel_rfl) (fun hS => ?_)
 replace hR := hR.drew; have hF := hR.fore
 refine lK tab [] [] [0, 1, 3, 4] 5 [(25, .agg [vU l, .v (.int .i64 d)]), (22, .agg [vU l, .v (.int .i64 d)])] [] hS hI .nil fun a6 hI => ?_
 refine oneL (i := 2) (f' := 4) (by kernel_rfl) (by rfl) ?_
 refine cH [.agg [vU l, .v (.int .i64 d)]] hI Tryz.func40 ?_
 refine (lowBits_spec (C := C) d (l : Int)).mono ?_
 rintro ex w7 ⟨rfl, hk⟩
 replace hS := hS.same hk; replace hR := hR.same hk; clear hk
 refine ⟨_, rfl, hS, ?_⟩
 replace hI := hI.pt 23 (vU l) [23, 25, 22]
 refine oneL (i := 5) (f' := 3) (by kernel_rfl) (by rfl) ?_
 refine cH [.agg [vU l, .v (.int .i64 d)]] hI Tryz.func41 ?_
 refine (highBits_spec (C := C) d (l : Int)).mono ?_
 rintro ex w8 ⟨rfl, hk⟩
 replace hS := hS.same hk; replace hR := hR.same hk; clear hk
 refine ⟨_, rfl, hS, ?_⟩
 replace hI := hI.pt 26 (.v (.int .i64 d)) [26, 23, 25, 22]
 refine lK tab [(6, .eq (.int .u64 (m : Int)))] [] [6] 2 [(27, vU m)] [23] hS hI (.cons (congrArg (Value.int .u64) (hm : IntKind.u64.wrap d = (m : Int))) .nil) fun a9 hI => ?_
 refine oneL (i := 7) (f' := 1) (by kernel_rfl) (by rfl) ?_
 refine eK tab 1 .no (.sl 1 0 2 2) [⟨1, 25, [vU l, vU m]⟩] [0] [] [] 2 false hR hI .nil fun e10 a10 w10 hag hR2 hI => ?_
 replace hS := Rel.old (k := 1) hS hR hR2 hF hag [0] [] (by kernel_rfl) (by kernel_rfl) (by kernel_rfl); replace hR := hR2
 refine ⟨hS, ?_⟩
 refine wpL_env hag (by kernel_rfl) ?_
 replace hS := hS.agree (k := 1) (L := []) (Wf.of (by kernel_rfl)) hag
 replace hI := hI.sl [28, 27, 23] rfl
 refine endL (i := 8) (f' := 0) (by kernel_rfl) (by rfl) (by kernel_rfl) ?_
 refine quietL tab (hh := .no) (x := .sl 1 0 2 2) hR hI rfl rfl rfl (by kernel_rfl) .nil (fun a11 hI => ?_)
 replace hI := hI.sl [2, 28, 27, 23] rfl
 refine doneL (by kernel_rfl) ?_
 refine then_n ?_
 replace hI := hI.sl [2] rfl; replace hR := hR.sel [1] [] rfl rfl
 refine wp_ret ?_
 refine ret_block ?_
 refine ret_then ?_
 obtain ⟨e12, hag_, hr_, hR_⟩ := hR.litRow (L := [(2, .sl 1 0 2 2)]) 2 [] (by kernel_rfl) (b := ⟨1, 25, [vU l, vU m]⟩) (by simp) (by simp) (n := 2) (sz := 1) (xs := ints .u64 [l, m]) rfl rfl (by decide)
 replace hI := hI.agreeB (H := []) (G := []) (by kernel_rfl) hag_; replace hR := hR_; replace hI := hI.re 2 (.row 2) rfl hr_.symm; clear hag_ hr_ hR_
 obtain ⟨hB_, hR_, hrel_, wd, wc, hv_, hcells_, hlen_, hcap_, hmax_⟩ := hB.release hR (y := ⟨2, 25, 1, 2, (ints .u64 [l, m])⟩) (by simp) rfl _ dropN_mem
 have hw : Sl .u64 18446744073709551616 _ _ wd wc [l, m] := ⟨hcells_, (dig64_2 hlb hmb), (by dsimp only at hlen_ hcap_; rw [ints_length] at hlen_; omega), hmax_⟩
 replace hI := hI.re 2 (vS wd 2 wc) rfl hv_
 replace hB := hB_; replace hR := hR_.sel [] [] rfl rfl; clear hB_ hR_ hrel_ hcells_ hv_
 refine oN tab [vS wd 2 wc] hR hI ?_
 exact ⟨wd, wc, [l, m], rfl, hB.fin hR, hw.fin hB hR, m, rfl, hm⟩

end Go.Proofs.YtmendapdibnbdaaGreatDoor.Stride
