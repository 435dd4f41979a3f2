/- Walks of the program's functions, printed by a program of mine (walk.py) over the words of Stride: each function's contract. -/
import Derived.Test.YteipgknmhpilfaaDecT
namespace Go.Proofs.Yteipgknmhpilfaa.Stride
open Go Go.RowKit Go.Proofs.Yteipgknmhpilfaa.Mag
set_option linter.unusedVariables false
set_option linter.unusedSimpArgs false
/-! ### Numbers that wrap -/
theorem u64_ex (z : Int) : ∃ q : Int, IntKind.u64.wrap z = z + 18446744073709551616 * q := ⟨-(z / 18446744073709551616), by rw [wrap_u64]; omega⟩
theorem i64_ex (z : Int) : ∃ q : Int, IntKind.i64.wrap z = z + 18446744073709551616 * q := ⟨-((z + 9223372036854775808) / 18446744073709551616), by rw [IntKind.wrap_i64]; omega⟩
theorem i32_ex (z : Int) : ∃ q : Int, IntKind.i32.wrap z = z + 4294967296 * q := ⟨-((z + 2147483648) / 4294967296), by rw [IntKind.wrap_i32]; omega⟩
theorem i32_in (z : Int) : -2147483648 ≤ IntKind.i32.wrap z ∧ IntKind.i32.wrap z ≤ 2147483647 := by rw [IntKind.wrap_i32]; omega
theorem i64_in (z : Int) : -9223372036854775808 ≤ IntKind.i64.wrap z ∧ IntKind.i64.wrap z ≤ 9223372036854775807 := by rw [IntKind.wrap_i64]; omega
theorem u64_nat (z : Int) : ∃ m : Nat, IntKind.u64.wrap z = (m : Int) ∧ m < 18446744073709551616 := by
  have h : 0 ≤ IntKind.u64.wrap z ∧ IntKind.u64.wrap z < 18446744073709551616 := by rw [wrap_u64]; omega
  exact ⟨(IntKind.u64.wrap z).toNat, by omega, by omega⟩
theorem u64_mask32 (x : Nat) (h : x < 18446744073709551616) : bits .and .u64 (x : Int) (4294967295 : Int) = ((x % 4294967296 : Nat) : Int) := by
  have := bits_mask .u64 64 (by decide) (fun n h0 h1 => by rw [wrap_u64]; omega) 32 (by decide) (x : Int) (by omega) (by omega)
  have e : (2 : Int) ^ 32 - 1 = 4294967295 := by decide
  rw [e] at this
  rw [this]
  rfl
theorem mul64_law {x y x0 x1 y0 y1 t h : Nat} (hx : x < 18446744073709551616) (hy : y < 18446744073709551616) (hx0 : x0 = x % 4294967296) (hx1 : x1 = x / 4294967296) (hy0 : y0 = y % 4294967296) (hy1 : y1 = y / 4294967296)
    (ht : t = x1 * y0 + x0 * y0 / 4294967296) (hh : h = x1 * y1 + t / 4294967296 + (t % 4294967296 + x0 * y1) / 4294967296) :
    h * 18446744073709551616 + x * y % 18446744073709551616 = x * y ∧ h < 18446744073709551616 ∧ x * y % 18446744073709551616 < 18446744073709551616 := by
  have e : x * y = x1 * y1 * 18446744073709551616 + (x1 * y0 + x0 * y1) * 4294967296 + x0 * y0 := by
    have h1 : x = x1 * 4294967296 + x0 := by omega
    have h2 : y = y1 * 4294967296 + y0 := by omega
    rw [h1, h2]; grind
  have hb : x * y ≤ 18446744073709551615 * 18446744073709551615 := Nat.mul_le_mul (by omega) (by omega)
  generalize x * y = m at *
  generalize x1 * y1 = s at *
  generalize x1 * y0 = q at *
  generalize x0 * y1 = r at *
  generalize x0 * y0 = p at *
  clear hx0 hx1 hy0 hy1
  omega
theorem m128_law {x0 y0 h l : Nat} {x1 y1 hh : Int} (he : h * 18446744073709551616 + l = x0 * y0)
    (hh_ : hh = IntKind.i64.wrap (IntKind.u64.wrap ((h : Int) + IntKind.u64.wrap (IntKind.u64.wrap (IntKind.u64.wrap x1 * (y0 : Int)) + IntKind.u64.wrap ((x0 : Int) * IntKind.u64.wrap y1))))) :
    ∃ q : Int, (l : Int) + 18446744073709551616 * hh = ((x0 : Int) + 18446744073709551616 * x1) * ((y0 : Int) + 18446744073709551616 * y1) + 340282366920938463463374607431768211456 * q := by
  obtain ⟨a1, h1⟩ := u64_ex x1
  obtain ⟨a2, h2⟩ := u64_ex y1
  rw [h1, h2] at hh_
  obtain ⟨a3, h3⟩ := u64_ex ((x1 + 18446744073709551616 * a1) * (y0 : Int))
  obtain ⟨a4, h4⟩ := u64_ex ((x0 : Int) * (y1 + 18446744073709551616 * a2))
  rw [h3, h4] at hh_
  obtain ⟨a5, h5⟩ := u64_ex ((x1 + 18446744073709551616 * a1) * (y0 : Int) + 18446744073709551616 * a3 + ((x0 : Int) * (y1 + 18446744073709551616 * a2) + 18446744073709551616 * a4))
  rw [h5] at hh_
  obtain ⟨a6, h6⟩ := u64_ex ((h : Int) + ((x1 + 18446744073709551616 * a1) * (y0 : Int) + 18446744073709551616 * a3 + ((x0 : Int) * (y1 + 18446744073709551616 * a2) + 18446744073709551616 * a4) + 18446744073709551616 * a5))
  rw [h6] at hh_
  obtain ⟨a7, h7⟩ := i64_ex ((h : Int) + ((x1 + 18446744073709551616 * a1) * (y0 : Int) + 18446744073709551616 * a3 + ((x0 : Int) * (y1 + 18446744073709551616 * a2) + 18446744073709551616 * a4) + 18446744073709551616 * a5) + 18446744073709551616 * a6)
  rw [h7] at hh_
  have he' : (h : Int) * 18446744073709551616 + (l : Int) = (x0 : Int) * (y0 : Int) := by
    have h8 := congrArg (fun n : Nat => (n : Int)) he
    rw [Int.natCast_add, Int.natCast_mul, Int.natCast_mul] at h8
    exact h8
  refine ⟨a1 * (y0 : Int) + a3 + (x0 : Int) * a2 + a4 + a5 + a6 + a7 - x1 * y1, ?_⟩
  subst hh_
  generalize (h : Int) = h at *
  generalize (l : Int) = l at *
  generalize (x0 : Int) = x0 at *
  generalize (y0 : Int) = y0 at *
  grind
/-! ### Widths -/
def nwords (k : Int) : Nat := if k = 32 ∨ k = 64 then 1 else if k = 128 then 2 else if k = 256 then 4 else 0
def okw (k : Int) : Bool := decide (k = 32 ∨ k = 64 ∨ k = 128 ∨ k = 256)
theorem wo1 {k : Int} (h : k = 32 ∨ k = 64) : nwords k = 1 ∧ okw k = true := by rcases h with rfl | rfl <;> decide
theorem wo2 {k : Int} (h : k = 128 ∨ k = 256) : ((nwords k : Nat) : Int) = k / 64 ∧ okw k = true := by rcases h with rfl | rfl <;> decide
theorem wo0 {k : Int} (h : k ≠ 32 ∧ k ≠ 64 ∧ k ≠ 128 ∧ k ≠ 256) : nwords k = 0 ∧ okw k = false := by
  unfold nwords okw
  exact ⟨by rw [if_neg (by omega), if_neg (by omega), if_neg (by omega)], by rw [decide_eq_false (by omega)]⟩
def sext (w : Nat) : Int := IntKind.u64.wrap (IntKind.i32.wrap (w : Int))
/-- What the law takes for a number of a width. -/
def decOK (k : Int) (ws : List Nat) : Prop := okw k = true ∧ ws.length = nwords k ∧ (k = 32 → sext (ws.getD 0 0) = ((ws.getD 0 0 : Nat) : Int))
theorem dig64_1 {m : Nat} (h : m < 18446744073709551616) : ∀ d ∈ [m], d < 18446744073709551616 := fun d hd => by
  have h1 : d = m := by simpa using hd
  omega
theorem dig64_2 {l m : Nat} (h : l < 18446744073709551616) (h' : m < 18446744073709551616) : ∀ d ∈ [l, m], d < 18446744073709551616 := fun d hd => by
  have h1 : d = l ∨ d = m := by simpa using hd
  omega
theorem nwords_le (k : Int) : nwords k ≤ 4 := by unfold nwords; split <;> (try split) <;> (try split) <;> decide
theorem dec_guard {k : Int} {ws : List Nat} (hg : (((((!(okw k)) || (((ws.length : Nat) : Int) != ((nwords k : Nat) : Int))) == false) && ((k == (32 : Int)) == true)) == true) = true) : 0 < ws.length := by
  simp only [beq_iff_eq, Bool.and_eq_true, Bool.or_eq_false_iff, bne_eq_false_iff_eq, beq_true, beq_self_eq_true] at hg
  obtain ⟨⟨_, h1⟩, h2⟩ := hg
  have := (wo1 (k := k) (.inl h2)).1
  omega
theorem dec_no {k : Int} {ws : List Nat} (h : (((!(okw k)) || (((ws.length : Nat) : Int) != ((nwords k : Nat) : Int))) || ((k == (32 : Int)) && ((IntKind.u64.wrap (IntKind.i32.wrap ((ws.getD 0 0 : Nat) : Int))) != ((ws.getD 0 0 : Nat) : Int)))) = true) : ¬ decOK k ws := fun ⟨h1, h2, h3⟩ => by
  rw [h1, h2] at h
  simp only [Bool.not_true, Bool.false_or, bne_self_eq_false, Bool.and_eq_true, beq_iff_eq, bne_iff_ne, ne_eq] at h
  exact h.2 (h3 h.1)
theorem dec_yes {k : Int} {ws : List Nat} (h : (((!(okw k)) || (((ws.length : Nat) : Int) != ((nwords k : Nat) : Int))) || ((k == (32 : Int)) && ((IntKind.u64.wrap (IntKind.i32.wrap ((ws.getD 0 0 : Nat) : Int))) != ((ws.getD 0 0 : Nat) : Int)))) = false) : decOK k ws := by
  simp only [Bool.or_eq_false_iff, Bool.not_eq_false', bne_eq_false_iff_eq, Bool.and_eq_false_iff, beq_eq_false_iff_ne, ne_eq] at h
  refine ⟨h.1.1, by omega, fun hk => ?_⟩
  rcases h.2 with h2 | h2
  · exact absurd hk h2
  · exact h2
theorem nwords_pos {k : Int} (h : okw k = true) : 1 ≤ nwords k := by
  have h1 : k = 32 ∨ k = 64 ∨ k = 128 ∨ k = 256 := of_decide_eq_true h
  rcases h1 with rfl | rfl | rfl | rfl <;> decide
/-- The words of a number, cut to a width. -/
def Wrapped (k a : Int) (vs : List Nat) : Prop :=
  (k = 32 → ∃ m u : Nat, vs = [m] ∧ (u : Int) = a % 18446744073709551616 ∧ IntKind.u64.wrap (IntKind.i32.wrap (u : Int)) = (m : Int)) ∧ (k ≠ 32 → vs.length = nwords k ∧ (wval vs : Int) = a % ((2 ^ (64 * nwords k) : Nat) : Int))
theorem wrapped32 {k a : Int} {ws : List Nat} {m : Nat} (hk : k = 32) (hl : ws.length = nwords k) (hv : (wval ws : Int) = a % ((2 ^ (64 * nwords k) : Nat) : Int)) (hm : IntKind.u64.wrap (IntKind.i32.wrap ((ws.getD 0 0 : Nat) : Int)) = (m : Int)) : Wrapped k a [m] := by
  have h1 := (wo1 (.inl hk)).1
  rw [h1] at hl hv
  refine ⟨fun _ => ⟨m, ws.getD 0 0, rfl, ?_, hm⟩, fun h => absurd hk h⟩
  cases ws with
  | nil => cases hl
  | cons x r =>
    have hr : r = [] := by
      cases r with
      | nil => rfl
      | cons y s => simp at hl
    subst hr
    simp only [wval, Nat.mul_zero, Nat.add_zero] at hv
    exact hv


theorem idle14 (x0 x1 : Value) : Idle P 14 #[x0, x1] := ⟨fun w => by
  refine callsD_of_wpS Try.func14 rfl fun c₀ cs hu => ?_
  apply wpS_seq
  apply wpS_region
  simp [wpOpsS, go_sem, recoverD, hu, Try.ntmps14, Exit.thenS]
  refine wpS_cond (t := false) (by simp [Act.eval, Array.replicate]) ?_
  simp only [Bool.false_eq_true, if_false]
  refine wpS_of_wp (wp_skip ?_)
  cases c₀
  simp_all [bodyPostS, results, Try.results14]⟩

set_option maxHeartbeats 4000000 in
set_option maxRecDepth 100000 in
theorem mul64_spec {w : World} {C : Nat → Prop} {x y : Nat} (hx : x < 18446744073709551616) (hy : y < 18446744073709551616) :
    Calls P 32 #[.int .u64 ((x : Nat) : Int), .int .u64 ((y : Nat) : Int)] w fun ex w' => ∃ h l : Nat, ex = .returned (.tuple #[.int .u64 ((h : Nat) : Int), .int .u64 ((l : Nat) : Int)]) ∧ Keep (fun b => b < w.heap.size) w w' ∧ h * 18446744073709551616 + l = x * y ∧ h < 18446744073709551616 ∧ l < 18446744073709551616 := by
  refine doorN (e := e0) (vs := [.v (.int .u64 ((x : Nat) : Int)), .v (.int .u64 ((y : Nat) : Int))]) (n := 51) (m := 2) Try.func32 rfl rfl rfl (by decide) fun a_ hI => ?_
  replace hI : Is 51 [] e0 [(0, .v (.int .u64 ((x : Nat) : Int))), (1, .v (.int .u64 ((y : Nat) : Int)))] a_ := hI
  have hR : Rel (fun b => b < w.heap.size) w e0 [] [] w := Rel.start (fun k hk => hk)
  have hB : Base C w C (fun b => b < w.heap.size) w := Base.start
  obtain ⟨x0, hx0⟩ : ∃ m, m = x % 4294967296 := ⟨_, rfl⟩; obtain ⟨x1, hx1⟩ : ∃ m, m = x / 4294967296 := ⟨_, rfl⟩; obtain ⟨y0, hy0⟩ : ∃ m, m = y % 4294967296 := ⟨_, rfl⟩; obtain ⟨y1, hy1⟩ : ∃ m, m = y / 4294967296 := ⟨_, rfl⟩
  have h00 : x0 * y0 ≤ 18446744065119617025 := Nat.mul_le_mul (by omega : x0 ≤ 4294967295) (by omega : y0 ≤ 4294967295); have h01 : x0 * y1 ≤ 18446744065119617025 := Nat.mul_le_mul (by omega : x0 ≤ 4294967295) (by omega : y1 ≤ 4294967295); have h10 : x1 * y0 ≤ 18446744065119617025 := Nat.mul_le_mul (by omega : x1 ≤ 4294967295) (by omega : y0 ≤ 4294967295); have h11 : x1 * y1 ≤ 18446744065119617025 := Nat.mul_le_mul (by omega : x1 ≤ 4294967295) (by omega : y1 ≤ 4294967295)
  refine reg_seq tab (k := 0) (hs := []) (sy := []) (ks := [0, 1]) (bs := []) (gs := [])
      (L' := [(0, .v (.int .u64 ((x : Nat) : Int))), (1, .v (.int .u64 ((y : Nat) : Int)))])
      (H' := []) (G' := []) (k' := 0) hR hI (by kernel_rfl)
      .nil (fun e1 a1 w1 hag hR hI => ?_)
  refine reg_seq tab (k := 0) (hs := [(1, .eq (.int .u64 ((x0 : Nat) : Int)))]) (sy := []) (ks := [6, 0, 1]) (bs := []) (gs := [])
      (L' := [(6, .v (.int .u64 ((x0 : Nat) : Int))), (0, .v (.int .u64 ((x : Nat) : Int))), (1, .v (.int .u64 ((y : Nat) : Int)))])
      (H' := []) (G' := []) (k' := 0) hR hI (by kernel_rfl)
      (.cons (congrArg (Value.int .u64) ((u64_mask32 x hx).trans (by rw [hx0]) : bits .and .u64 ((x : Nat) : Int) (4294967295 : Int) = ((x0 : Nat) : Int))) .nil) (fun e2 a2 w2 hag hR hI => ?_)
  refine reg_seq tab (k := 0) (hs := [(1, .eq (.int .u64 ((x1 : Nat) : Int)))]) (sy := []) (ks := [7, 6, 0, 1]) (bs := []) (gs := [])
      (L' := [(7, .v (.int .u64 ((x1 : Nat) : Int))), (6, .v (.int .u64 ((x0 : Nat) : Int))), (0, .v (.int .u64 ((x : Nat) : Int))), (1, .v (.int .u64 ((y : Nat) : Int)))])
      (H' := []) (G' := []) (k' := 0) hR hI (by kernel_rfl)
      (.cons (congrArg (Value.int .u64) (by omega : ((x : Nat) : Int) / 4294967296 = ((x1 : Nat) : Int))) (.cons (by decide : (0 : Int) ≤ 32) (.cons (by decide : (32 : Int) ≤ (IntKind.u64.bits : Int)) .nil))) (fun e3 a3 w3 hag hR hI => ?_)
  refine reg_seq tab (k := 0) (hs := [(1, .eq (.int .u64 ((y0 : Nat) : Int)))]) (sy := []) (ks := [8, 7, 6, 0, 1]) (bs := []) (gs := [])
      (L' := [(8, .v (.int .u64 ((y0 : Nat) : Int))), (7, .v (.int .u64 ((x1 : Nat) : Int))), (6, .v (.int .u64 ((x0 : Nat) : Int))), (0, .v (.int .u64 ((x : Nat) : Int))), (1, .v (.int .u64 ((y : Nat) : Int)))])
      (H' := []) (G' := []) (k' := 0) hR hI (by kernel_rfl)
      (.cons (congrArg (Value.int .u64) ((u64_mask32 y hy).trans (by rw [hy0]) : bits .and .u64 ((y : Nat) : Int) (4294967295 : Int) = ((y0 : Nat) : Int))) .nil) (fun e4 a4 w4 hag hR hI => ?_)
  refine reg_seq tab (k := 0) (hs := [(1, .eq (.int .u64 ((y1 : Nat) : Int)))]) (sy := []) (ks := [9, 8, 7, 6, 0, 1]) (bs := []) (gs := [])
      (L' := [(9, .v (.int .u64 ((y1 : Nat) : Int))), (8, .v (.int .u64 ((y0 : Nat) : Int))), (7, .v (.int .u64 ((x1 : Nat) : Int))), (6, .v (.int .u64 ((x0 : Nat) : Int))), (0, .v (.int .u64 ((x : Nat) : Int))), (1, .v (.int .u64 ((y : Nat) : Int)))])
      (H' := []) (G' := []) (k' := 0) hR hI (by kernel_rfl)
      (.cons (congrArg (Value.int .u64) (by omega : ((y : Nat) : Int) / 4294967296 = ((y1 : Nat) : Int))) (.cons (by decide : (0 : Int) ≤ 32) (.cons (by decide : (32 : Int) ≤ (IntKind.u64.bits : Int)) .nil))) (fun e5 a5 w5 hag hR hI => ?_)
  refine reg_seq tab (k := 0) (hs := [(2, .nw)]) (sy := []) (ks := [10, 9, 8, 7, 6, 0, 1]) (bs := []) (gs := [])
      (L' := [(10, .v (.int .u64 ((x0 * y0 : Nat) : Int))), (9, .v (.int .u64 ((y1 : Nat) : Int))), (8, .v (.int .u64 ((y0 : Nat) : Int))), (7, .v (.int .u64 ((x1 : Nat) : Int))), (6, .v (.int .u64 ((x0 : Nat) : Int))), (0, .v (.int .u64 ((x : Nat) : Int))), (1, .v (.int .u64 ((y : Nat) : Int)))])
      (H' := []) (G' := []) (k' := 0) hR hI (by kernel_rfl)
      (.cons (inR_u64 (n := ((x0 : Nat) : Int) * ((y0 : Nat) : Int)) (by omega)) .nil) (fun e6 a6 w6 hag hR hI => ?_)
  refine reg_seq tab (k := 0) (hs := [(2, .nw), (5, .nw)]) (sy := []) (ks := [11, 9, 7, 6, 0, 1]) (bs := []) (gs := [])
      (L' := [(11, .v (.int .u64 (((x1 * y0) + ((x0 * y0) / 4294967296) : Nat) : Int))), (9, .v (.int .u64 ((y1 : Nat) : Int))), (7, .v (.int .u64 ((x1 : Nat) : Int))), (6, .v (.int .u64 ((x0 : Nat) : Int))), (0, .v (.int .u64 ((x : Nat) : Int))), (1, .v (.int .u64 ((y : Nat) : Int)))])
      (H' := []) (G' := []) (k' := 0) hR hI (by kernel_rfl)
      (.cons (inR_u64 (n := ((x1 : Nat) : Int) * ((y0 : Nat) : Int)) (by omega)) (.cons (by decide : (0 : Int) ≤ 32) (.cons (by decide : (32 : Int) ≤ (IntKind.u64.bits : Int)) (.cons (inR_u64 (n := ((x1 * y0 : Nat) : Int) + (((x0 * y0) / 4294967296 : Nat) : Int)) (by omega)) .nil)))) (fun e7 a7 w7 hag hR hI => ?_)
  obtain ⟨t, ht⟩ : ∃ t, t = (x1 * y0) + ((x0 * y0) / 4294967296) := ⟨_, rfl⟩
  replace hI := hI.re 11 (.v (.int .u64 ((t : Nat) : Int))) rfl (congrArg (Value.int .u64) (by rw [ht]))
  have htb : t < 18446744073709551616 := by omega
  refine reg_seq tab (k := 0) (hs := [(1, .eq (.int .u64 ((t % 4294967296 : Nat) : Int)))]) (sy := []) (ks := [12, 11, 9, 7, 6, 0, 1]) (bs := []) (gs := [])
      (L' := [(12, .v (.int .u64 ((t % 4294967296 : Nat) : Int))), (11, .v (.int .u64 ((t : Nat) : Int))), (9, .v (.int .u64 ((y1 : Nat) : Int))), (7, .v (.int .u64 ((x1 : Nat) : Int))), (6, .v (.int .u64 ((x0 : Nat) : Int))), (0, .v (.int .u64 ((x : Nat) : Int))), (1, .v (.int .u64 ((y : Nat) : Int)))])
      (H' := []) (G' := []) (k' := 0) hR hI (by kernel_rfl)
      (.cons (congrArg (Value.int .u64) (u64_mask32 t htb : bits .and .u64 ((t : Nat) : Int) (4294967295 : Int) = ((t % 4294967296 : Nat) : Int))) .nil) (fun e8 a8 w8 hag hR hI => ?_)
  refine reg_seq tab (k := 0) (hs := []) (sy := []) (ks := [13, 12, 9, 7, 6, 0, 1]) (bs := []) (gs := [])
      (L' := [(13, .v (.int .u64 ((t / 4294967296 : Nat) : Int))), (12, .v (.int .u64 ((t % 4294967296 : Nat) : Int))), (9, .v (.int .u64 ((y1 : Nat) : Int))), (7, .v (.int .u64 ((x1 : Nat) : Int))), (6, .v (.int .u64 ((x0 : Nat) : Int))), (0, .v (.int .u64 ((x : Nat) : Int))), (1, .v (.int .u64 ((y : Nat) : Int)))])
      (H' := []) (G' := []) (k' := 0) hR hI (by kernel_rfl)
      (.cons (by decide : (0 : Int) ≤ 32) (.cons (by decide : (32 : Int) ≤ (IntKind.u64.bits : Int)) .nil)) (fun e9 a9 w9 hag hR hI => ?_)
  refine reg_seq tab (k := 0) (hs := [(3, .nw), (4, .nw)]) (sy := []) (ks := [12, 13, 9, 7, 0, 1]) (bs := []) (gs := [])
      (L' := [(12, .v (.int .u64 (((t % 4294967296) + (x0 * y1) : Nat) : Int))), (13, .v (.int .u64 ((t / 4294967296 : Nat) : Int))), (9, .v (.int .u64 ((y1 : Nat) : Int))), (7, .v (.int .u64 ((x1 : Nat) : Int))), (0, .v (.int .u64 ((x : Nat) : Int))), (1, .v (.int .u64 ((y : Nat) : Int)))])
      (H' := []) (G' := []) (k' := 0) hR hI (by kernel_rfl)
      (.cons (inR_u64 (n := ((x0 : Nat) : Int) * ((y1 : Nat) : Int)) (by omega)) (.cons (inR_u64 (n := ((t % 4294967296 : Nat) : Int) + ((x0 * y1 : Nat) : Int)) (by omega)) .nil)) (fun e10 a10 w10 hag hR hI => ?_)
  refine reg_seq tab (k := 0) (hs := [(2, .nw), (4, .nw), (7, .nw)]) (sy := []) (ks := [4, 0, 1]) (bs := []) (gs := [])
      (L' := [(4, .v (.int .u64 ((((x1 * y1) + (t / 4294967296)) + (((t % 4294967296) + (x0 * y1)) / 4294967296) : Nat) : Int))), (0, .v (.int .u64 ((x : Nat) : Int))), (1, .v (.int .u64 ((y : Nat) : Int)))])
      (H' := []) (G' := []) (k' := 0) hR hI (by kernel_rfl)
      (.cons (inR_u64 (n := ((x1 : Nat) : Int) * ((y1 : Nat) : Int)) (by omega)) (.cons (inR_u64 (n := ((x1 * y1 : Nat) : Int) + ((t / 4294967296 : Nat) : Int)) (by omega)) (.cons (by decide : (0 : Int) ≤ 32) (.cons (by decide : (32 : Int) ≤ (IntKind.u64.bits : Int)) (.cons (inR_u64 (n := (((x1 * y1) + (t / 4294967296) : Nat) : Int) + ((((t % 4294967296) + (x0 * y1)) / 4294967296 : Nat) : Int)) (by omega)) .nil))))) (fun e11 a11 w11 hag hR hI => ?_)
  refine reg_seq tab (k := 0) (hs := [(2, .eq (.int .u64 ((x * y % 18446744073709551616 : Nat) : Int)))]) (sy := []) (ks := [5, 4]) (bs := []) (gs := [])
      (L' := [(5, .v (.int .u64 ((x * y % 18446744073709551616 : Nat) : Int))), (4, .v (.int .u64 ((((x1 * y1) + (t / 4294967296)) + (((t % 4294967296) + (x0 * y1)) / 4294967296) : Nat) : Int)))])
      (H' := []) (G' := []) (k' := 0) hR hI (by kernel_rfl)
      (.cons (congrArg (Value.int .u64) (by rw [← Int.natCast_mul]; exact wrap_u64_nat _ : IntKind.u64.wrap (((x : Nat) : Int) * ((y : Nat) : Int)) = ((x * y % 18446744073709551616 : Nat) : Int))) .nil) (fun e12 a12 w12 hag hR hI => ?_)
  refine wp_ret ?_
  refine outN tab (xs := [.v (.int .u64 ((((x1 * y1) + (t / 4294967296)) + (((t % 4294967296) + (x0 * y1)) / 4294967296) : Nat) : Int)), .v (.int .u64 ((x * y % 18446744073709551616 : Nat) : Int))]) hR hI rfl (by kernel_rfl) ?_
  exact ⟨_, _, rfl, hB.fin hR, mul64_law hx hy hx0 hx1 hy0 hy1 ht rfl⟩

set_option maxHeartbeats 4000000 in
set_option maxRecDepth 100000 in
theorem d32Mul_spec {w : World} {C : Nat → Prop} (x y : Int) :
    Calls P 16 #[.int .i32 x, .int .i32 y] w fun ex w' => ex = .returned (.int .i32 (IntKind.i32.wrap (x * y))) ∧ Keep (fun b => b < w.heap.size) w w' := by
  refine doorN (e := e0) (vs := [.v (.int .i32 x), .v (.int .i32 y)]) (n := 8) (m := 2) Try.func16 rfl rfl rfl (by decide) fun a_ hI => ?_
  replace hI : Is 8 [] e0 [(0, .v (.int .i32 x)), (1, .v (.int .i32 y))] a_ := hI
  have hR : Rel (fun b => b < w.heap.size) w e0 [] [] w := Rel.start (fun k hk => hk)
  have hB : Base C w C (fun b => b < w.heap.size) w := Base.start
  refine reg_seq tab (k := 0) (hs := []) (sy := []) (ks := [0, 1]) (bs := []) (gs := [])
      (L' := [(0, .v (.int .i32 x)), (1, .v (.int .i32 y))])
      (H' := []) (G' := []) (k' := 0) hR hI (by kernel_rfl)
      .nil (fun e1 a1 w1 hag hR hI => ?_)
  refine reg_seq tab (k := 0) (hs := []) (sy := []) (ks := [4]) (bs := []) (gs := [])
      (L' := [(4, .v (.int .i32 (IntKind.i32.wrap (x * y))))])
      (H' := []) (G' := []) (k' := 0) hR hI (by kernel_rfl)
      .nil (fun e2 a2 w2 hag hR hI => ?_)
  refine wp_ret ?_
  refine outN tab (xs := [.v (.int .i32 (IntKind.i32.wrap (x * y)))]) hR hI rfl (by kernel_rfl) ?_
  exact ⟨rfl, hB.fin hR⟩

set_option maxHeartbeats 4000000 in
set_option maxRecDepth 100000 in
theorem d64Mul_spec {w : World} {C : Nat → Prop} (x y : Int) :
    Calls P 17 #[.int .i64 x, .int .i64 y] w fun ex w' => ex = .returned (.int .i64 (IntKind.i64.wrap (x * y))) ∧ Keep (fun b => b < w.heap.size) w w' := by
  refine doorN (e := e0) (vs := [.v (.int .i64 x), .v (.int .i64 y)]) (n := 8) (m := 2) Try.func17 rfl rfl rfl (by decide) fun a_ hI => ?_
  replace hI : Is 8 [] e0 [(0, .v (.int .i64 x)), (1, .v (.int .i64 y))] a_ := hI
  have hR : Rel (fun b => b < w.heap.size) w e0 [] [] w := Rel.start (fun k hk => hk)
  have hB : Base C w C (fun b => b < w.heap.size) w := Base.start
  refine reg_seq tab (k := 0) (hs := []) (sy := []) (ks := [0, 1]) (bs := []) (gs := [])
      (L' := [(0, .v (.int .i64 x)), (1, .v (.int .i64 y))])
      (H' := []) (G' := []) (k' := 0) hR hI (by kernel_rfl)
      .nil (fun e1 a1 w1 hag hR hI => ?_)
  refine reg_seq tab (k := 0) (hs := []) (sy := []) (ks := [4]) (bs := []) (gs := [])
      (L' := [(4, .v (.int .i64 (IntKind.i64.wrap (x * y))))])
      (H' := []) (G' := []) (k' := 0) hR hI (by kernel_rfl)
      .nil (fun e2 a2 w2 hag hR hI => ?_)
  refine wp_ret ?_
  refine outN tab (xs := [.v (.int .i64 (IntKind.i64.wrap (x * y)))]) hR hI rfl (by kernel_rfl) ?_
  exact ⟨rfl, hB.fin hR⟩

set_option maxHeartbeats 4000000 in
set_option maxRecDepth 100000 in
theorem d128Mul_spec {w : World} {C : Nat → Prop} {x0 y0 : Nat} (x1 y1 : Int) (hx : x0 < 18446744073709551616) (hy : y0 < 18446744073709551616) :
    Calls P 18 #[.agg #[.int .u64 ((x0 : Nat) : Int), .int .i64 x1], .agg #[.int .u64 ((y0 : Nat) : Int), .int .i64 y1]] w fun ex w' => ∃ (l : Nat) (hh : Int), ex = .returned (.agg #[.int .u64 ((l : Nat) : Int), .int .i64 hh]) ∧ Keep (fun b => b < w.heap.size) w w' ∧ l < 18446744073709551616 ∧
      ∃ q : Int, (l : Int) + 18446744073709551616 * hh = ((x0 : Int) + 18446744073709551616 * x1) * ((y0 : Int) + 18446744073709551616 * y1) + 340282366920938463463374607431768211456 * q := by
  refine doorN (e := e0) (vs := [.v (.agg #[.int .u64 ((x0 : Nat) : Int), .int .i64 x1]), .v (.agg #[.int .u64 ((y0 : Nat) : Int), .int .i64 y1])]) (n := 34) (m := 2) Try.func18 rfl rfl rfl (by decide) fun a_ hI => ?_
  replace hI : Is 34 [] e0 [(0, .v (.agg #[.int .u64 ((x0 : Nat) : Int), .int .i64 x1])), (1, .v (.agg #[.int .u64 ((y0 : Nat) : Int), .int .i64 y1]))] a_ := hI
  have hR : Rel (fun b => b < w.heap.size) w e0 [] [] w := Rel.start (fun k hk => hk)
  have hB : Base C w C (fun b => b < w.heap.size) w := Base.start
  refine reg_seq tab (k := 0) (hs := []) (sy := []) (ks := [4, 3, 2]) (bs := [2, 1, 0]) (gs := [])
      (L' := [(4, .p 2 0), (3, .p 1 0), (2, .p 0 0)])
      (H' := [⟨2, 46, [.v (.int .u64 0), .v (.int .i64 0)]⟩, ⟨1, 46, [.v (.int .u64 ((y0 : Nat) : Int)), .v (.int .i64 y1)]⟩, ⟨0, 46, [.v (.int .u64 ((x0 : Nat) : Int)), .v (.int .i64 x1)]⟩]) (G' := []) (k' := 3) hR hI (by kernel_rfl)
      .nil (fun e1 a1 w1 hag hR hI => ?_)
  refine wp_seq ?_
  refine reg (is := [0, 1, 2, 3, 4, 5, 6, 7, 8, 9]) (by kernel_rfl) ?_
  refine part_ tab [0, 1, 2, 3] [4, 5, 6, 7, 8, 9] (by rfl) (k := 3) (hs := []) (sy := []) (ks := [11, 9, 4, 3, 2]) (bs := [2, 1, 0]) (gs := [])
      (L' := [(11, .v (.int .u64 ((y0 : Nat) : Int))), (9, .v (.int .u64 ((x0 : Nat) : Int))), (4, .p 2 0), (3, .p 1 0), (2, .p 0 0)])
      (H' := [⟨2, 46, [.v (.int .u64 0), .v (.int .i64 0)]⟩, ⟨1, 46, [.v (.int .u64 ((y0 : Nat) : Int)), .v (.int .i64 y1)]⟩, ⟨0, 46, [.v (.int .u64 ((x0 : Nat) : Int)), .v (.int .i64 x1)]⟩]) (G' := []) (k' := 3) hR hI (by kernel_rfl)
      .nil (fun e2 a2 w2 hag hR hI => ?_)
  refine callOp (ys := [.v (.int .u64 ((x0 : Nat) : Int)), .v (.int .u64 ((y0 : Nat) : Int))]) hI rfl rfl ⟨_, rfl, rfl, rfl⟩ (by kernel_rfl) Try.func32 rfl rfl ?_
  refine (mul64_spec (C := C) hx hy).mono ?_
  rintro ex w3 ⟨h, l, rfl, hk, he, hhb, hlb⟩
  replace hR := hR.same hk; clear hk
  refine ⟨_, rfl, ?_⟩
  replace hI := hI.put (d := some 12) (x := .v (.tuple #[.int .u64 ((h : Nat) : Int), .int .u64 ((l : Nat) : Int)])) (by intro t ht; cases ht; decide) rfl
  replace hI := hI.sel [12, 11, 9, 4, 3, 2] (by kernel_rfl : sel _ _ = some [(12, .v (.tuple #[.int .u64 ((h : Nat) : Int), .int .u64 ((l : Nat) : Int)])), (11, .v (.int .u64 ((y0 : Nat) : Int))), (9, .v (.int .u64 ((x0 : Nat) : Int))), (4, .p 2 0), (3, .p 1 0), (2, .p 0 0)])
  refine part_ tab [5, 6, 7, 8, 9] [] (by rfl) (k := 3) (hs := []) (sy := []) (ks := [6, 5, 4, 3, 2]) (bs := [2, 1, 0]) (gs := [])
      (L' := [(6, .v (.int .u64 ((l : Nat) : Int))), (5, .v (.int .u64 ((h : Nat) : Int))), (4, .p 2 0), (3, .p 1 0), (2, .p 0 0)])
      (H' := [⟨2, 46, [.v (.int .u64 0), .v (.int .i64 0)]⟩, ⟨1, 46, [.v (.int .u64 ((y0 : Nat) : Int)), .v (.int .i64 y1)]⟩, ⟨0, 46, [.v (.int .u64 ((x0 : Nat) : Int)), .v (.int .i64 x1)]⟩]) (G' := []) (k' := 3) hR hI (by kernel_rfl)
      .nil (fun e4 a4 w4 hag hR hI => ?_)
  refine ops_nil ?_
  refine then_n ?_
  refine reg_seq tab (k := 3) (hs := []) (sy := []) (ks := [5, 6, 4]) (bs := [2]) (gs := [])
      (L' := [(5, .v (.int .u64 (IntKind.u64.wrap (((h : Nat) : Int) + (IntKind.u64.wrap ((IntKind.u64.wrap ((IntKind.u64.wrap x1) * ((y0 : Nat) : Int))) + (IntKind.u64.wrap (((x0 : Nat) : Int) * (IntKind.u64.wrap y1))))))))), (6, .v (.int .u64 ((l : Nat) : Int))), (4, .p 2 0)])
      (H' := [⟨2, 46, [.v (.int .u64 0), .v (.int .i64 0)]⟩]) (G' := []) (k' := 3) hR hI (by kernel_rfl)
      .nil (fun e5 a5 w5 hag hR hI => ?_)
  refine reg_seq tab (k := 3) (hs := []) (sy := []) (ks := [4]) (bs := [2]) (gs := [])
      (L' := [(4, .p 2 0)])
      (H' := [⟨2, 46, [.v (.int .u64 ((l : Nat) : Int)), .v (.int .i64 (IntKind.i64.wrap (IntKind.u64.wrap (((h : Nat) : Int) + (IntKind.u64.wrap ((IntKind.u64.wrap ((IntKind.u64.wrap x1) * ((y0 : Nat) : Int))) + (IntKind.u64.wrap (((x0 : Nat) : Int) * (IntKind.u64.wrap y1)))))))))]⟩]) (G' := []) (k' := 3) hR hI (by kernel_rfl)
      .nil (fun e6 a6 w6 hag hR hI => ?_)
  refine wp_ret ?_
  refine outN tab (xs := [.agg [.v (.int .u64 ((l : Nat) : Int)), .v (.int .i64 (IntKind.i64.wrap (IntKind.u64.wrap (((h : Nat) : Int) + (IntKind.u64.wrap ((IntKind.u64.wrap ((IntKind.u64.wrap x1) * ((y0 : Nat) : Int))) + (IntKind.u64.wrap (((x0 : Nat) : Int) * (IntKind.u64.wrap y1)))))))))]]) hR hI rfl (by kernel_rfl) ?_
  exact ⟨l, _, rfl, hB.fin hR, hlb, m128_law he rfl⟩

set_option maxHeartbeats 4000000 in
set_option maxRecDepth 100000 in
theorem new128_spec {w : World} {C : Nat → Prop} (hi lo : Int) :
    Calls P 30 #[.int .i64 hi, .int .u64 lo] w fun ex w' => ex = .returned (.agg #[.int .u64 lo, .int .i64 hi]) ∧ Keep (fun b => b < w.heap.size) w w' := by
  refine doorN (e := e0) (vs := [.v (.int .i64 hi), .v (.int .u64 lo)]) (n := 8) (m := 2) Try.func30 rfl rfl rfl (by decide) fun a_ hI => ?_
  replace hI : Is 8 [] e0 [(0, .v (.int .i64 hi)), (1, .v (.int .u64 lo))] a_ := hI
  have hR : Rel (fun b => b < w.heap.size) w e0 [] [] w := Rel.start (fun k hk => hk)
  have hB : Base C w C (fun b => b < w.heap.size) w := Base.start
  refine reg_seq tab (k := 0) (hs := []) (sy := []) (ks := [4, 0, 1]) (bs := [0]) (gs := [])
      (L' := [(4, .p 0 0), (0, .v (.int .i64 hi)), (1, .v (.int .u64 lo))])
      (H' := [⟨0, 46, [.v (.int .u64 0), .v (.int .i64 0)]⟩]) (G' := []) (k' := 1) hR hI (by kernel_rfl)
      .nil (fun e1 a1 w1 hag hR hI => ?_)
  refine reg_seq tab (k := 1) (hs := []) (sy := []) (ks := [4]) (bs := [0]) (gs := [])
      (L' := [(4, .p 0 0)])
      (H' := [⟨0, 46, [.v (.int .u64 lo), .v (.int .i64 hi)]⟩]) (G' := []) (k' := 1) hR hI (by kernel_rfl)
      .nil (fun e2 a2 w2 hag hR hI => ?_)
  refine wp_ret ?_
  refine outN tab (xs := [.agg [.v (.int .u64 lo), .v (.int .i64 hi)]]) hR hI rfl (by kernel_rfl) ?_
  exact ⟨rfl, hB.fin hR⟩

set_option maxHeartbeats 4000000 in
set_option maxRecDepth 100000 in
theorem lowBits_spec {w : World} {C : Nat → Prop} (hi lo : Int) :
    Calls P 33 #[.agg #[.int .u64 lo, .int .i64 hi]] w fun ex w' => ex = .returned (.int .u64 lo) ∧ Keep (fun b => b < w.heap.size) w w' := by
  refine doorN (e := e0) (vs := [.v (.agg #[.int .u64 lo, .int .i64 hi])]) (n := 5) (m := 1) Try.func33 rfl rfl rfl (by decide) fun a_ hI => ?_
  replace hI : Is 5 [] e0 [(0, .v (.agg #[.int .u64 lo, .int .i64 hi]))] a_ := hI
  have hR : Rel (fun b => b < w.heap.size) w e0 [] [] w := Rel.start (fun k hk => hk)
  have hB : Base C w C (fun b => b < w.heap.size) w := Base.start
  refine reg_seq tab (k := 0) (hs := []) (sy := []) (ks := [1]) (bs := [0]) (gs := [])
      (L' := [(1, .p 0 0)])
      (H' := [⟨0, 46, [.v (.int .u64 lo), .v (.int .i64 hi)]⟩]) (G' := []) (k' := 1) hR hI (by kernel_rfl)
      .nil (fun e1 a1 w1 hag hR hI => ?_)
  refine reg_seq tab (k := 1) (hs := []) (sy := []) (ks := [2]) (bs := []) (gs := [])
      (L' := [(2, .v (.int .u64 lo))])
      (H' := []) (G' := []) (k' := 1) hR hI (by kernel_rfl)
      .nil (fun e2 a2 w2 hag hR hI => ?_)
  refine wp_ret ?_
  refine outN tab (xs := [.v (.int .u64 lo)]) hR hI rfl (by kernel_rfl) ?_
  exact ⟨rfl, hB.fin hR⟩

set_option maxHeartbeats 4000000 in
set_option maxRecDepth 100000 in
theorem highBits_spec {w : World} {C : Nat → Prop} (hi lo : Int) :
    Calls P 34 #[.agg #[.int .u64 lo, .int .i64 hi]] w fun ex w' => ex = .returned (.int .i64 hi) ∧ Keep (fun b => b < w.heap.size) w w' := by
  refine doorN (e := e0) (vs := [.v (.agg #[.int .u64 lo, .int .i64 hi])]) (n := 5) (m := 1) Try.func34 rfl rfl rfl (by decide) fun a_ hI => ?_
  replace hI : Is 5 [] e0 [(0, .v (.agg #[.int .u64 lo, .int .i64 hi]))] a_ := hI
  have hR : Rel (fun b => b < w.heap.size) w e0 [] [] w := Rel.start (fun k hk => hk)
  have hB : Base C w C (fun b => b < w.heap.size) w := Base.start
  refine reg_seq tab (k := 0) (hs := []) (sy := []) (ks := [1]) (bs := [0]) (gs := [])
      (L' := [(1, .p 0 0)])
      (H' := [⟨0, 46, [.v (.int .u64 lo), .v (.int .i64 hi)]⟩]) (G' := []) (k' := 1) hR hI (by kernel_rfl)
      .nil (fun e1 a1 w1 hag hR hI => ?_)
  refine reg_seq tab (k := 1) (hs := []) (sy := []) (ks := [2]) (bs := []) (gs := [])
      (L' := [(2, .v (.int .i64 hi))])
      (H' := []) (G' := []) (k' := 1) hR hI (by kernel_rfl)
      .nil (fun e2 a2 w2 hag hR hI => ?_)
  refine wp_ret ?_
  refine outN tab (xs := [.v (.int .i64 hi)]) hR hI rfl (by kernel_rfl) ?_
  exact ⟨rfl, hB.fin hR⟩

set_option maxHeartbeats 4000000 in
set_option maxRecDepth 100000 in
theorem wordsOf_spec {w : World} {C : Nat → Prop} (k : Int) :
    Calls P 20 #[.int .i64 k] w fun ex w' => ex = .returned (.tuple #[.int .i64 ((nwords k : Nat) : Int), .bool (okw k)]) ∧ Keep (fun b => b < w.heap.size) w w' := by
  refine doorN (e := e0) (vs := [.v (.int .i64 k)]) (n := 13) (m := 1) Try.func20 rfl rfl rfl (by decide) fun a_ hI => ?_
  replace hI : Is 13 [] e0 [(0, .v (.int .i64 k))] a_ := hI
  have hR : Rel (fun b => b < w.heap.size) w e0 [] [] w := Rel.start (fun k hk => hk)
  have hB : Base C w C (fun b => b < w.heap.size) w := Base.start
  refine reg_seq tab (k := 0) (hs := []) (sy := []) (ks := [0]) (bs := []) (gs := [])
      (L' := [(0, .v (.int .i64 k))])
      (H' := []) (G' := []) (k' := 0) hR hI (by kernel_rfl)
      .nil (fun e1 a1 w1 hag hR hI => ?_)
  refine wp_seq ?_
  refine reg_seq tab (k := 0) (hs := []) (sy := []) (ks := [4, 0]) (bs := []) (gs := [])
      (L' := [(4, .v (.int .i64 k)), (0, .v (.int .i64 k))])
      (H' := []) (G' := []) (k' := 0) hR hI (by kernel_rfl)
      .nil (fun e2 a2 w2 hag hR hI => ?_)
  refine wp_block ?_
  refine wp_seq ?_
  refine reg_seq tab (k := 0) (hs := []) (sy := []) (ks := [5, 4, 0]) (bs := []) (gs := [])
      (L' := [(5, .v (.bool (k == (32 : Int)))), (4, .v (.int .i64 k)), (0, .v (.int .i64 k))])
      (H' := []) (G' := []) (k' := 0) hR hI (by kernel_rfl)
      .nil (fun e3 a3 w3 hag hR hI => ?_)
  refine cnd (b := (k == (32 : Int))) hI (by kernel_rfl) (fun hc4 => ?_) (fun hc4 => ?_)
  · skip
    replace hI := hI.re 5 (.v (.bool true)) rfl (congrArg Value.bool hc4)
    try simp only [decide_eq_true_eq, decide_eq_false_iff_not, beq_iff_eq, bne_iff_ne, beq_eq_false_iff_ne, bne_eq_false_iff_eq, Bool.and_eq_true, Bool.and_eq_false_iff, Bool.or_eq_true, Bool.or_eq_false_iff, Bool.not_eq_true', Bool.not_eq_false', ne_eq] at hc4
    refine wp_skip ?_
    refine then_n ?_
    refine cnd_t hI (by kernel_rfl) ?_
    refine reg_seq tab (k := 0) (hs := []) (sy := []) (ks := [3, 2]) (bs := []) (gs := [])
        (L' := [(3, .v (.bool true)), (2, .v (.int .i64 1))])
        (H' := []) (G' := []) (k' := 0) hR hI (by kernel_rfl)
        .nil (fun e5 a5 w5 hag hR hI => ?_)
    refine wp_ret ?_
    refine ret_block ?_
    refine ret_then ?_
    refine outN tab (xs := [.v (.int .i64 1), .v (.bool true)]) hR hI rfl (by kernel_rfl) ?_
    exact ⟨by rw [(wo1 (k := k) (by omega)).1, (wo1 (k := k) (by omega)).2]; rfl, hB.fin hR⟩
  · skip
    replace hI := hI.re 5 (.v (.bool false)) rfl (congrArg Value.bool hc4)
    try simp only [decide_eq_true_eq, decide_eq_false_iff_not, beq_iff_eq, bne_iff_ne, beq_eq_false_iff_ne, bne_eq_false_iff_eq, Bool.and_eq_true, Bool.and_eq_false_iff, Bool.or_eq_true, Bool.or_eq_false_iff, Bool.not_eq_true', Bool.not_eq_false', ne_eq] at hc4
    refine reg_all tab (k := 0) (hs := []) (sy := []) (ks := [5, 4, 0]) (bs := []) (gs := [])
        (L' := [(5, .v (.bool (k == (64 : Int)))), (4, .v (.int .i64 k)), (0, .v (.int .i64 k))])
        (H' := []) (G' := []) (k' := 0) hR hI (by kernel_rfl)
        .nil (fun e6 a6 w6 hag hR hI => ?_)
    refine then_n ?_
    refine cnd (b := (k == (64 : Int))) hI (by kernel_rfl) (fun hc7 => ?_) (fun hc7 => ?_)
    · skip
      replace hI := hI.re 5 (.v (.bool true)) rfl (congrArg Value.bool hc7)
      try simp only [decide_eq_true_eq, decide_eq_false_iff_not, beq_iff_eq, bne_iff_ne, beq_eq_false_iff_ne, bne_eq_false_iff_eq, Bool.and_eq_true, Bool.and_eq_false_iff, Bool.or_eq_true, Bool.or_eq_false_iff, Bool.not_eq_true', Bool.not_eq_false', ne_eq] at hc7
      refine reg_seq tab (k := 0) (hs := []) (sy := []) (ks := [3, 2]) (bs := []) (gs := [])
          (L' := [(3, .v (.bool true)), (2, .v (.int .i64 1))])
          (H' := []) (G' := []) (k' := 0) hR hI (by kernel_rfl)
          .nil (fun e8 a8 w8 hag hR hI => ?_)
      refine wp_ret ?_
      refine ret_block ?_
      refine ret_then ?_
      refine outN tab (xs := [.v (.int .i64 1), .v (.bool true)]) hR hI rfl (by kernel_rfl) ?_
      exact ⟨by rw [(wo1 (k := k) (by omega)).1, (wo1 (k := k) (by omega)).2]; rfl, hB.fin hR⟩
    · skip
      replace hI := hI.re 5 (.v (.bool false)) rfl (congrArg Value.bool hc7)
      try simp only [decide_eq_true_eq, decide_eq_false_iff_not, beq_iff_eq, bne_iff_ne, beq_eq_false_iff_ne, bne_eq_false_iff_eq, Bool.and_eq_true, Bool.and_eq_false_iff, Bool.or_eq_true, Bool.or_eq_false_iff, Bool.not_eq_true', Bool.not_eq_false', ne_eq] at hc7
      refine wp_seq ?_
      refine reg_seq tab (k := 0) (hs := []) (sy := []) (ks := [8, 4, 0]) (bs := []) (gs := [])
          (L' := [(8, .v (.bool (k == (128 : Int)))), (4, .v (.int .i64 k)), (0, .v (.int .i64 k))])
          (H' := []) (G' := []) (k' := 0) hR hI (by kernel_rfl)
          .nil (fun e9 a9 w9 hag hR hI => ?_)
      refine cnd (b := (k == (128 : Int))) hI (by kernel_rfl) (fun hc10 => ?_) (fun hc10 => ?_)
      · skip
        replace hI := hI.re 8 (.v (.bool true)) rfl (congrArg Value.bool hc10)
        try simp only [decide_eq_true_eq, decide_eq_false_iff_not, beq_iff_eq, bne_iff_ne, beq_eq_false_iff_ne, bne_eq_false_iff_eq, Bool.and_eq_true, Bool.and_eq_false_iff, Bool.or_eq_true, Bool.or_eq_false_iff, Bool.not_eq_true', Bool.not_eq_false', ne_eq] at hc10
        refine wp_skip ?_
        refine then_n ?_
        refine cnd_t hI (by kernel_rfl) ?_
        refine reg_seq tab (k := 0) (hs := [(1, .nw)]) (sy := []) (ks := [3, 2]) (bs := []) (gs := [])
            (L' := [(3, .v (.bool true)), (2, .v (.int .i64 (k / (64 : Int))))])
            (H' := []) (G' := []) (k' := 0) hR hI (by kernel_rfl)
            (.cons (by omega : (0 : Int) ≤ k) (.cons (by omega : (0 : Int) < (64 : Int)) (.cons (inR_i64 (n := k / (64 : Int)) (by omega)) .nil))) (fun e11 a11 w11 hag hR hI => ?_)
        refine wp_ret ?_
        refine ret_block ?_
        refine ret_then ?_
        refine outN tab (xs := [.v (.int .i64 (k / (64 : Int))), .v (.bool true)]) hR hI rfl (by kernel_rfl) ?_
        exact ⟨by rw [(wo2 (k := k) (by omega)).1, (wo2 (k := k) (by omega)).2]; rfl, hB.fin hR⟩
      · skip
        replace hI := hI.re 8 (.v (.bool false)) rfl (congrArg Value.bool hc10)
        try simp only [decide_eq_true_eq, decide_eq_false_iff_not, beq_iff_eq, bne_iff_ne, beq_eq_false_iff_ne, bne_eq_false_iff_eq, Bool.and_eq_true, Bool.and_eq_false_iff, Bool.or_eq_true, Bool.or_eq_false_iff, Bool.not_eq_true', Bool.not_eq_false', ne_eq] at hc10
        refine reg_all tab (k := 0) (hs := []) (sy := []) (ks := [8, 0]) (bs := []) (gs := [])
            (L' := [(8, .v (.bool (k == (256 : Int)))), (0, .v (.int .i64 k))])
            (H' := []) (G' := []) (k' := 0) hR hI (by kernel_rfl)
            .nil (fun e12 a12 w12 hag hR hI => ?_)
        refine then_n ?_
        refine cnd (b := (k == (256 : Int))) hI (by kernel_rfl) (fun hc13 => ?_) (fun hc13 => ?_)
        · skip
          replace hI := hI.re 8 (.v (.bool true)) rfl (congrArg Value.bool hc13)
          try simp only [decide_eq_true_eq, decide_eq_false_iff_not, beq_iff_eq, bne_iff_ne, beq_eq_false_iff_ne, bne_eq_false_iff_eq, Bool.and_eq_true, Bool.and_eq_false_iff, Bool.or_eq_true, Bool.or_eq_false_iff, Bool.not_eq_true', Bool.not_eq_false', ne_eq] at hc13
          refine reg_seq tab (k := 0) (hs := [(1, .nw)]) (sy := []) (ks := [3, 2]) (bs := []) (gs := [])
              (L' := [(3, .v (.bool true)), (2, .v (.int .i64 (k / (64 : Int))))])
              (H' := []) (G' := []) (k' := 0) hR hI (by kernel_rfl)
              (.cons (by omega : (0 : Int) ≤ k) (.cons (by omega : (0 : Int) < (64 : Int)) (.cons (inR_i64 (n := k / (64 : Int)) (by omega)) .nil))) (fun e14 a14 w14 hag hR hI => ?_)
          refine wp_ret ?_
          refine ret_block ?_
          refine ret_then ?_
          refine outN tab (xs := [.v (.int .i64 (k / (64 : Int))), .v (.bool true)]) hR hI rfl (by kernel_rfl) ?_
          exact ⟨by rw [(wo2 (k := k) (by omega)).1, (wo2 (k := k) (by omega)).2]; rfl, hB.fin hR⟩
        · skip
          replace hI := hI.re 8 (.v (.bool false)) rfl (congrArg Value.bool hc13)
          try simp only [decide_eq_true_eq, decide_eq_false_iff_not, beq_iff_eq, bne_iff_ne, beq_eq_false_iff_ne, bne_eq_false_iff_eq, Bool.and_eq_true, Bool.and_eq_false_iff, Bool.or_eq_true, Bool.or_eq_false_iff, Bool.not_eq_true', Bool.not_eq_false', ne_eq] at hc13
          refine wp_skip ?_
          refine normal_block ?_
          refine then_n ?_
          refine reg_seq tab (k := 0) (hs := []) (sy := []) (ks := [3, 2]) (bs := []) (gs := [])
              (L' := [(3, .v (.bool false)), (2, .v (.int .i64 0))])
              (H' := []) (G' := []) (k' := 0) hR hI (by kernel_rfl)
              .nil (fun e15 a15 w15 hag hR hI => ?_)
          refine wp_ret ?_
          refine outN tab (xs := [.v (.int .i64 0), .v (.bool false)]) hR hI rfl (by kernel_rfl) ?_
          exact ⟨by rw [(wo0 (k := k) (by omega)).1, (wo0 (k := k) (by omega)).2]; rfl, hB.fin hR⟩

set_option maxHeartbeats 4000000 in
set_option maxRecDepth 100000 in
theorem unit_spec {w : World} {C : Nat → Prop} :
    Calls P 6 #[] w fun ex w' => ∃ wd wc, ex = .returned (.slice wd (List.length [1, 0]) wc) ∧ Keep (fun b => b < w.heap.size) w w' ∧ Sl .u64 18446744073709551616 (Grow C w w') w' wd wc [1, 0] := by
  refine doorN (e := e0) (vs := []) (n := 2) (m := 0) Try.func6 rfl rfl rfl (by decide) fun a_ hI => ?_
  replace hI : Is 2 [] e0 [] a_ := hI
  have hR : Rel (fun b => b < w.heap.size) w e0 [] [] w := Rel.start (fun k hk => hk)
  have hB : Base C w C (fun b => b < w.heap.size) w := Base.start
  refine reg_seq tab (k := 0) (hs := []) (sy := []) (ks := []) (bs := []) (gs := [])
      (L' := [])
      (H' := []) (G' := []) (k' := 0) hR hI (by kernel_rfl)
      .nil (fun e1 a1 w1 hag hR hI => ?_)
  refine reg_seq tab (k := 0) (hs := []) (sy := []) (ks := [0]) (bs := [0]) (gs := [])
      (L' := [(0, .sl 0 0 2 2)])
      (H' := [⟨0, 35, [.v (.int .u64 1), .v (.int .u64 0)]⟩]) (G' := []) (k' := 1) hR hI (by kernel_rfl)
      .nil (fun e2 a2 w2 hag hR hI => ?_)
  refine wp_ret ?_
  obtain ⟨e3, hag_, hr_, hR_⟩ := hR.litRow (L := [(0, .sl 0 0 2 2)]) 1 [] (by kernel_rfl) (b := ⟨0, 35, [.v (.int .u64 1), .v (.int .u64 0)]⟩) (by simp) (by simp) (n := 2) (sz := 1) (xs := ints .u64 [1, 0]) rfl rfl (by decide)
  replace hI := hI.agreeB (H := []) (G := []) (by kernel_rfl) hag_; replace hR := hR_; replace hI := hI.re 0 (.row 1) rfl hr_.symm; clear hag_ hr_ hR_
  obtain ⟨hB_, hR_, hrel_, wd, wc, hv_, hcells_, hlen_, hcap_, hmax_⟩ := hB.release hR (y := ⟨1, 35, 1, 2, (ints .u64 [1, 0])⟩) (by simp) rfl _ dropN_mem
  have hw : Sl .u64 18446744073709551616 _ _ wd wc [1, 0] := ⟨hcells_, (dig64_2 (by decide) (by decide)), (by dsimp only at hlen_ hcap_; rw [ints_length] at hlen_; omega), hmax_⟩
  replace hI := hI.re 0 (.v (.slice wd 2 wc)) rfl hv_
  replace hB := hB_; replace hR := hR_.sel [] [] (by kernel_rfl : selH _ _ = some []) (by kernel_rfl : selG _ _ = some []); clear hB_ hR_ hrel_ hcells_ hv_
  refine outN tab (xs := [.v (.slice wd 2 wc)]) hR hI rfl (by kernel_rfl) ?_
  exact ⟨wd, wc, rfl, hB.fin hR, hw.fin hB hR⟩

theorem same_done {xs ys : List Nat} {i : Nat} (h : i = xs.length) (h' : i = ys.length) (ht : xs.take i = ys.take i) : xs = ys := by
  rw [List.take_of_length_le (by omega), List.take_of_length_le (by omega)] at ht
  exact ht
theorem take_same {xs ys : List Nat} {i : Nat} (hx : i < xs.length) (hy : i < ys.length) (h : xs.take i = ys.take i) (he : xs.getD i 0 = ys.getD i 0) : xs.take (i + 1) = ys.take (i + 1) := by
  rw [List.take_add_one, List.take_add_one, h]
  rw [List.getD_eq_getElem?_getD, List.getD_eq_getElem?_getD, List.getElem?_eq_getElem hx, List.getElem?_eq_getElem hy] at he
  rw [List.getElem?_eq_getElem hx, List.getElem?_eq_getElem hy]
  simp only [Option.getD_some] at he
  rw [he]

set_option maxHeartbeats 4000000 in
set_option maxRecDepth 100000 in
theorem sameWords_spec {C : Nat → Prop} {w : World} {ad bd : Option Addr} {cap dap : Nat} {xs ys : List Nat} (hx : Sl .u64 18446744073709551616 C w ad cap xs) (hy : Sl .u64 18446744073709551616 C w bd dap ys) :
    Calls P 7 #[.slice ad xs.length cap, .slice bd ys.length dap] w fun ex w' => ∃ b : Bool, ex = .returned (.bool b) ∧ Keep (fun b => b < w.heap.size) w w' ∧ (b = true ↔ xs = ys) := by
  refine doorN (e := e0) (vs := [.v (.slice ad xs.length cap), .v (.slice bd ys.length dap)]) (n := 26) (m := 2) Try.func7 rfl rfl rfl (by decide) fun a_ hI => ?_
  replace hI : Is 26 [] e0 [(0, .v (.slice ad xs.length cap)), (1, .v (.slice bd ys.length dap))] a_ := hI
  have hR : Rel (fun b => b < w.heap.size) w e0 [] [] w := Rel.start (fun k hk => hk)
  have hB : Base C w C (fun b => b < w.heap.size) w := Base.start
  have hrx := hx.room; have hmx := hx.max; have hry := hy.room; have hmy := hy.max
  refine reg_seq tab (k := 0) (hs := []) (sy := []) (ks := [0, 1]) (bs := []) (gs := [])
      (L' := [(0, .v (.slice ad xs.length cap)), (1, .v (.slice bd ys.length dap))])
      (H' := []) (G' := []) (k' := 0) hR hI (by kernel_rfl)
      .nil (fun e1 a1 w1 hag hR hI => ?_)
  refine wp_seq ?_
  refine reg_seq tab (k := 0) (hs := []) (sy := []) (ks := [10, 0, 1]) (bs := []) (gs := [])
      (L' := [(10, .v (.bool (((xs.length : Nat) : Int) != ((ys.length : Nat) : Int)))), (0, .v (.slice ad xs.length cap)), (1, .v (.slice bd ys.length dap))])
      (H' := []) (G' := []) (k' := 0) hR hI (by kernel_rfl)
      .nil (fun e2 a2 w2 hag hR hI => ?_)
  refine cnd (b := (((xs.length : Nat) : Int) != ((ys.length : Nat) : Int))) hI (by kernel_rfl) (fun hc3 => ?_) (fun hc3 => ?_)
  · skip
    replace hI := hI.re 10 (.v (.bool true)) rfl (congrArg Value.bool hc3)
    try simp only [decide_eq_true_eq, decide_eq_false_iff_not, beq_iff_eq, bne_iff_ne, beq_eq_false_iff_ne, bne_eq_false_iff_eq, Bool.and_eq_true, Bool.and_eq_false_iff, Bool.or_eq_true, Bool.or_eq_false_iff, Bool.not_eq_true', Bool.not_eq_false', ne_eq] at hc3
    refine reg_seq tab (k := 0) (hs := []) (sy := []) (ks := [4]) (bs := []) (gs := [])
        (L' := [(4, .v (.bool false))])
        (H' := []) (G' := []) (k' := 0) hR hI (by kernel_rfl)
        .nil (fun e4 a4 w4 hag hR hI => ?_)
    refine wp_ret ?_
    refine ret_then ?_
    refine outN tab (xs := [.v (.bool false)]) hR hI rfl (by kernel_rfl) ?_
    exact ⟨false, rfl, hB.fin hR, ⟨fun h => (by cases h), fun h => absurd (congrArg List.length h) (by omega)⟩⟩
  · skip
    replace hI := hI.re 10 (.v (.bool false)) rfl (congrArg Value.bool hc3)
    try simp only [decide_eq_true_eq, decide_eq_false_iff_not, beq_iff_eq, bne_iff_ne, beq_eq_false_iff_ne, bne_eq_false_iff_eq, Bool.and_eq_true, Bool.and_eq_false_iff, Bool.or_eq_true, Bool.or_eq_false_iff, Bool.not_eq_true', Bool.not_eq_false', ne_eq] at hc3
    refine wp_skip ?_
    refine then_n ?_
    refine wp_seq ?_
    refine reg_seq tab (k := 0) (hs := []) (sy := []) (ks := [13, 12, 0, 1]) (bs := []) (gs := [])
        (L' := [(13, .v (.int .i64 0)), (12, .v (.int .i64 ((xs.length : Nat) : Int))), (0, .v (.slice ad xs.length cap)), (1, .v (.slice bd ys.length dap))])
        (H' := []) (G' := []) (k' := 0) hR hI (by kernel_rfl)
        .nil (fun e5 a5 w5 hag hR hI => ?_)
    refine wp_block ?_
    refine lp (γ := Nat) (fun i => (⟨[(0, .v (.slice ad xs.length cap)), (1, .v (.slice bd ys.length dap)), (12, .v (.int .i64 ((xs.length : Nat) : Int))), (13, .v (.int .i64 ((i : Nat) : Int)))], [], [], 0⟩ : Sy)) (fun i e => i ≤ xs.length ∧ xs.length = ys.length ∧ xs.take i = ys.take i) (fun i => xs.length - i) (0) (⟨Nat.zero_le _, by omega, rfl⟩)
        (hR.sel [] [] (by kernel_rfl) (by kernel_rfl)) (hI.sel [0, 1, 12, 13] (by kernel_rfl)) ?_
    clear hR hI
    rintro i e6 a6 w6 hp hR hI
    dsimp only at hp hR hI
    obtain ⟨hi, hle, htk⟩ := hp
    refine reg_seq tab (k := 0) (hs := []) (sy := []) (ks := [14, 0, 1, 12, 13]) (bs := []) (gs := [])
        (L' := [(14, .v (.bool (decide (((i : Nat) : Int) < ((xs.length : Nat) : Int))))), (0, .v (.slice ad xs.length cap)), (1, .v (.slice bd ys.length dap)), (12, .v (.int .i64 ((xs.length : Nat) : Int))), (13, .v (.int .i64 ((i : Nat) : Int)))])
        (H' := []) (G' := []) (k' := 0) hR hI (by kernel_rfl)
        .nil (fun e7 a7 w7 hag hR hI => ?_)
    refine wp_seq ?_
    refine cnd (b := decide (((i : Nat) : Int) < ((xs.length : Nat) : Int))) hI (by kernel_rfl) (fun hc8 => ?_) (fun hc8 => ?_)
    · skip
      replace hI := hI.re 14 (.v (.bool true)) rfl (congrArg Value.bool hc8)
      try simp only [decide_eq_true_eq, decide_eq_false_iff_not, beq_iff_eq, bne_iff_ne, beq_eq_false_iff_ne, bne_eq_false_iff_eq, Bool.and_eq_true, Bool.and_eq_false_iff, Bool.or_eq_true, Bool.or_eq_false_iff, Bool.not_eq_true', Bool.not_eq_false', ne_eq] at hc8
      refine wp_skip ?_
      refine then_n ?_
      refine wp_seq ?_
      refine wp_block ?_
      refine reg_seq tab (k := 0) (hs := []) (sy := []) (ks := [5, 0, 1, 12, 13]) (bs := []) (gs := [])
          (L' := [(5, .v (.int .i64 ((i : Nat) : Int))), (0, .v (.slice ad xs.length cap)), (1, .v (.slice bd ys.length dap)), (12, .v (.int .i64 ((xs.length : Nat) : Int))), (13, .v (.int .i64 ((i : Nat) : Int)))])
          (H' := []) (G' := []) (k' := 0) hR hI (by kernel_rfl)
          .nil (fun e9 a9 w9 hag hR hI => ?_)
      refine regQ_seq tab (by kernel_rfl) (k := 0) (hs := [(3, .val (.v (.int .u64 ((xs.getD i 0 : Nat) : Int)))), (7, .val (.v (.int .u64 ((ys.getD i 0 : Nat) : Int))))]) (gs := []) (ks := [24, 0, 1, 12, 13])
          (L' := [(24, .v (.bool (((xs.getD i 0 : Nat) : Int) != ((ys.getD i 0 : Nat) : Int)))), (0, .v (.slice ad xs.length cap)), (1, .v (.slice bd ys.length dap)), (12, .v (.int .i64 ((xs.length : Nat) : Int))), (13, .v (.int .i64 ((i : Nat) : Int)))]) hR hI (by kernel_rfl) (fun _ _ _ _ _ h => h) (by kernel_rfl)
          (.cons (by omega : (0 : Int) ≤ ((i : Nat) : Int) ∧ ((i : Nat) : Int) < ((xs.length : Nat) : Int)) (.cons (nats_some (i := i) (hx.cells.mono hB.cls) (by omega)) (.cons (nats_load (i := i) (m := 1) (hx.cells.mono hB.cls) (by omega)) (.cons (by omega : (0 : Int) ≤ ((i : Nat) : Int) ∧ ((i : Nat) : Int) < ((ys.length : Nat) : Int)) (.cons (nats_some (i := i) (hy.cells.mono hB.cls) (by omega)) (.cons (nats_load (i := i) (m := 1) (hy.cells.mono hB.cls) (by omega)) .nil)))))) (by kernel_rfl) (by kernel_rfl) (fun e10 a10 w10 hag hR hI => ?_)
      refine cnd (b := (((xs.getD i 0 : Nat) : Int) != ((ys.getD i 0 : Nat) : Int))) hI (by kernel_rfl) (fun hc11 => ?_) (fun hc11 => ?_)
      · skip
        replace hI := hI.re 24 (.v (.bool true)) rfl (congrArg Value.bool hc11)
        try simp only [decide_eq_true_eq, decide_eq_false_iff_not, beq_iff_eq, bne_iff_ne, beq_eq_false_iff_ne, bne_eq_false_iff_eq, Bool.and_eq_true, Bool.and_eq_false_iff, Bool.or_eq_true, Bool.or_eq_false_iff, Bool.not_eq_true', Bool.not_eq_false', ne_eq] at hc11
        refine reg_seq tab (k := 0) (hs := []) (sy := []) (ks := [4]) (bs := []) (gs := [])
            (L' := [(4, .v (.bool false))])
            (H' := []) (G' := []) (k' := 0) hR hI (by kernel_rfl)
            .nil (fun e12 a12 w12 hag hR hI => ?_)
        refine wp_ret ?_
        refine ret_block ?_
        refine ret_then ?_
        refine ret_then ?_
        refine ret_block ?_
        refine ret_then ?_
        refine outN tab (xs := [.v (.bool false)]) hR hI rfl (by kernel_rfl) ?_
        exact ⟨false, rfl, hB.fin hR, ⟨fun h => (by cases h), fun h => absurd (congrArg (fun l => l.getD i 0) h) (by show ¬ xs.getD i 0 = ys.getD i 0; omega)⟩⟩
      · skip
        replace hI := hI.re 24 (.v (.bool false)) rfl (congrArg Value.bool hc11)
        try simp only [decide_eq_true_eq, decide_eq_false_iff_not, beq_iff_eq, bne_iff_ne, beq_eq_false_iff_ne, bne_eq_false_iff_eq, Bool.and_eq_true, Bool.and_eq_false_iff, Bool.or_eq_true, Bool.or_eq_false_iff, Bool.not_eq_true', Bool.not_eq_false', ne_eq] at hc11
        refine wp_skip ?_
        refine normal_block ?_
        refine then_n ?_
        refine reg_all tab (k := 0) (hs := [(0, .nw)]) (sy := []) (ks := [13, 0, 1, 12]) (bs := []) (gs := [])
            (L' := [(13, .v (.int .i64 ((i + 1 : Nat) : Int))), (0, .v (.slice ad xs.length cap)), (1, .v (.slice bd ys.length dap)), (12, .v (.int .i64 ((xs.length : Nat) : Int)))])
            (H' := []) (G' := []) (k' := 0) hR hI (by kernel_rfl)
            (.cons (inR_i64 (n := ((i : Nat) : Int) + (1 : Int)) (by omega)) .nil) (fun e13 a13 w13 hag hR hI => ?_)
        refine then_n ?_
        exact ⟨(i + 1), e13, ⟨by omega, hle, take_same (by omega) (by omega) htk (by omega)⟩, by (try dsimp only); omega, hR.sel [] [] (by kernel_rfl) (by kernel_rfl), hI.sel [0, 1, 12, 13] (by kernel_rfl)⟩
    · skip
      replace hI := hI.re 14 (.v (.bool false)) rfl (congrArg Value.bool hc8)
      try simp only [decide_eq_true_eq, decide_eq_false_iff_not, beq_iff_eq, bne_iff_ne, beq_eq_false_iff_ne, bne_eq_false_iff_eq, Bool.and_eq_true, Bool.and_eq_false_iff, Bool.or_eq_true, Bool.or_eq_false_iff, Bool.not_eq_true', Bool.not_eq_false', ne_eq] at hc8
      refine wp_exit ?_
      refine exit_then ?_
      refine exit_then ?_
      refine exit_hit ?_
      refine then_n ?_
      refine reg_seq tab (k := 0) (hs := []) (sy := []) (ks := [4]) (bs := []) (gs := [])
          (L' := [(4, .v (.bool true))])
          (H' := []) (G' := []) (k' := 0) hR hI (by kernel_rfl)
          .nil (fun e14 a14 w14 hag hR hI => ?_)
      refine wp_ret ?_
      refine outN tab (xs := [.v (.bool true)]) hR hI rfl (by kernel_rfl) ?_
      exact ⟨true, rfl, hB.fin hR, ⟨fun _ => same_done (by omega) (by omega) htk, fun _ => rfl⟩⟩

set_option maxHeartbeats 4000000 in
set_option maxRecDepth 100000 in
theorem decimal_spec {C : Nat → Prop} {w : World} {ad : Option Addr} {cap : Nat} {ws : List Nat} (k : Int) (hx : Sl .u64 18446744073709551616 C w ad cap ws) :
    Calls P 8 #[.int .i64 k, .slice ad ws.length cap] w fun ex w' => ∃ ok nz zd zc zs, ex = .returned (.tuple #[.agg #[.bool nz, .slice zd (List.length zs) zc], .bool ok]) ∧ Keep (fun b => b < w.heap.size) w w' ∧ ∃ z, Wd (Grow C w w') w' nz zd zc zs z 18 ∧ (ok = true → decOK k ws ∧ z = swv ws) ∧ (decOK k ws → ok = true) := by
  refine doorN (e := e0) (vs := [.v (.int .i64 k), .v (.slice ad ws.length cap)]) (n := 40) (m := 2) Try.func8 rfl rfl rfl (by decide) fun a_ hI => ?_
  replace hI : Is 40 [] e0 [(0, .v (.int .i64 k)), (1, .v (.slice ad ws.length cap))] a_ := hI
  have hR : Rel (fun b => b < w.heap.size) w e0 [] [] w := Rel.start (fun k hk => hk)
  have hB : Base C w C (fun b => b < w.heap.size) w := Base.start
  have hrx := hx.room; have hmx := hx.max; have hnw := nwords_le k; have hwb := i32_in ((ws.getD 0 0 : Nat) : Int); have hnk : k = 32 → nwords k = 1 := fun h => (wo1 (.inl h)).1
  refine reg_seq tab (k := 0) (hs := []) (sy := []) (ks := [4, 0, 1]) (bs := [0]) (gs := [])
      (L' := [(4, .p 0 0), (0, .v (.int .i64 k)), (1, .v (.slice ad ws.length cap))])
      (H' := [⟨0, 29, [.v (.bool false), .v (.slice none 0 0)]⟩]) (G' := []) (k' := 1) hR hI (by kernel_rfl)
      .nil (fun e1 a1 w1 hag hR hI => ?_)
  refine wp_seq ?_
  refine reg (is := [0, 1, 2, 3, 4, 5, 6]) (by kernel_rfl) ?_
  refine part_ tab [0] [1, 2, 3, 4, 5, 6] (by rfl) (k := 1) (hs := []) (sy := []) (ks := [9, 4, 0, 1]) (bs := [0]) (gs := [])
      (L' := [(9, .v (.int .i64 k)), (4, .p 0 0), (0, .v (.int .i64 k)), (1, .v (.slice ad ws.length cap))])
      (H' := [⟨0, 29, [.v (.bool false), .v (.slice none 0 0)]⟩]) (G' := []) (k' := 1) hR hI (by kernel_rfl)
      .nil (fun e2 a2 w2 hag hR hI => ?_)
  refine callOp (ys := [.v (.int .i64 k)]) hI rfl rfl ⟨_, rfl, rfl, rfl⟩ (by kernel_rfl) Try.func20 rfl rfl ?_
  refine (wordsOf_spec (C := C) k).mono ?_
  rintro ex w3 ⟨rfl, hk⟩
  replace hR := hR.same hk; clear hk
  refine ⟨_, rfl, ?_⟩
  replace hI := hI.put (d := some 10) (x := .v (.tuple #[.int .i64 ((nwords k : Nat) : Int), .bool (okw k)])) (by intro t ht; cases ht; decide) rfl
  replace hI := hI.sel [10, 9, 4, 0, 1] (by kernel_rfl : sel _ _ = some [(10, .v (.tuple #[.int .i64 ((nwords k : Nat) : Int), .bool (okw k)])), (9, .v (.int .i64 k)), (4, .p 0 0), (0, .v (.int .i64 k)), (1, .v (.slice ad ws.length cap))])
  refine part_ tab [2, 3, 4, 5, 6] [] (by rfl) (k := 1) (hs := []) (sy := []) (ks := [7, 6, 4, 0, 1]) (bs := [0]) (gs := [])
      (L' := [(7, .v (.bool (okw k))), (6, .v (.int .i64 ((nwords k : Nat) : Int))), (4, .p 0 0), (0, .v (.int .i64 k)), (1, .v (.slice ad ws.length cap))])
      (H' := [⟨0, 29, [.v (.bool false), .v (.slice none 0 0)]⟩]) (G' := []) (k' := 1) hR hI (by kernel_rfl)
      .nil (fun e4 a4 w4 hag hR hI => ?_)
  refine ops_nil ?_
  refine then_n ?_
  refine wp_seq ?_
  refine regQ_seq tab (by kernel_rfl) (k := 1) (hs := [(7, .sym), (14, .val (.v (.int .u64 ((ws.getD 0 0 : Nat) : Int)))), (16, .nw), (20, .val (.v (.int .u64 ((ws.getD 0 0 : Nat) : Int)))), (22, .sym), (23, .sym)]) (gs := [3, 4, 5, 6, 9, 10, 11, 12, 13, 14, 15, 16, 17, 18, 19, 20, 21, 22]) (ks := [36, 4, 1])
      (L' := [(36, .v (.bool (((!(okw k)) || (((ws.length : Nat) : Int) != ((nwords k : Nat) : Int))) || ((k == (32 : Int)) && ((IntKind.u64.wrap (IntKind.i32.wrap ((ws.getD 0 0 : Nat) : Int))) != ((ws.getD 0 0 : Nat) : Int)))))), (4, .p 0 0), (1, .v (.slice ad ws.length cap))]) hR hI (by kernel_rfl) (fun _ _ _ _ _ h => h) (by kernel_rfl)
      (.cons (rfl : (!(okw k)) = (!(okw k))) (.cons (rfl : (!(okw k)) = (!(okw k))) (.cons (rfl : (!(okw k)) = (!(okw k))) (.cons (rfl : (!(okw k)) = (!(okw k))) (.cons (rfl : (!(okw k)) = (!(okw k))) (.cons (rfl : (!(okw k)) = (!(okw k))) (.cons (by first | exact Bool.beq_true _ | exact Bool.beq_false _ | rfl | simp_all : ((!(okw k)) == false) = !(!(okw k))) (.cons (rfl : ((!(okw k)) || (((ws.length : Nat) : Int) != ((nwords k : Nat) : Int))) = ((!(okw k)) || (((ws.length : Nat) : Int) != ((nwords k : Nat) : Int)))) (.cons (rfl : ((!(okw k)) || (((ws.length : Nat) : Int) != ((nwords k : Nat) : Int))) = ((!(okw k)) || (((ws.length : Nat) : Int) != ((nwords k : Nat) : Int)))) (.cons (rfl : ((!(okw k)) || (((ws.length : Nat) : Int) != ((nwords k : Nat) : Int))) = ((!(okw k)) || (((ws.length : Nat) : Int) != ((nwords k : Nat) : Int)))) (.cons (rfl : ((((!(okw k)) || (((ws.length : Nat) : Int) != ((nwords k : Nat) : Int))) == false) && ((k == (32 : Int)) == true)) = ((((!(okw k)) || (((ws.length : Nat) : Int) != ((nwords k : Nat) : Int))) == false) && ((k == (32 : Int)) == true))) (.cons (fun (hg : (((((!(okw k)) || (((ws.length : Nat) : Int) != ((nwords k : Nat) : Int))) == false) && ((k == (32 : Int)) == true)) == true) = true) => (by (try have hg := dec_guard hg); omega : (0 : Int) ≤ (0 : Int) ∧ (0 : Int) < ((ws.length : Nat) : Int))) (.cons (fun (hg : (((((!(okw k)) || (((ws.length : Nat) : Int) != ((nwords k : Nat) : Int))) == false) && ((k == (32 : Int)) == true)) == true) = true) => (nats_some (i := 0) (hx.cells.mono hB.cls) (by (try have hg := dec_guard hg); omega))) (.cons (rfl : ((((!(okw k)) || (((ws.length : Nat) : Int) != ((nwords k : Nat) : Int))) == false) && ((k == (32 : Int)) == true)) = ((((!(okw k)) || (((ws.length : Nat) : Int) != ((nwords k : Nat) : Int))) == false) && ((k == (32 : Int)) == true))) (.cons (rfl : ((((!(okw k)) || (((ws.length : Nat) : Int) != ((nwords k : Nat) : Int))) == false) && ((k == (32 : Int)) == true)) = ((((!(okw k)) || (((ws.length : Nat) : Int) != ((nwords k : Nat) : Int))) == false) && ((k == (32 : Int)) == true))) (.cons (fun (hg : (((((!(okw k)) || (((ws.length : Nat) : Int) != ((nwords k : Nat) : Int))) == false) && ((k == (32 : Int)) == true)) == true) = true) => (nats_load (i := 0) (m := 1) (hx.cells.mono hB.cls) (by (try have hg := dec_guard hg); omega))) (.cons (rfl : ((((!(okw k)) || (((ws.length : Nat) : Int) != ((nwords k : Nat) : Int))) == false) && ((k == (32 : Int)) == true)) = ((((!(okw k)) || (((ws.length : Nat) : Int) != ((nwords k : Nat) : Int))) == false) && ((k == (32 : Int)) == true))) (.cons (rfl : ((((!(okw k)) || (((ws.length : Nat) : Int) != ((nwords k : Nat) : Int))) == false) && ((k == (32 : Int)) == true)) = ((((!(okw k)) || (((ws.length : Nat) : Int) != ((nwords k : Nat) : Int))) == false) && ((k == (32 : Int)) == true))) (.cons (rfl : ((((!(okw k)) || (((ws.length : Nat) : Int) != ((nwords k : Nat) : Int))) == false) && ((k == (32 : Int)) == true)) = ((((!(okw k)) || (((ws.length : Nat) : Int) != ((nwords k : Nat) : Int))) == false) && ((k == (32 : Int)) == true))) (.cons (rfl : ((((!(okw k)) || (((ws.length : Nat) : Int) != ((nwords k : Nat) : Int))) == false) && ((k == (32 : Int)) == true)) = ((((!(okw k)) || (((ws.length : Nat) : Int) != ((nwords k : Nat) : Int))) == false) && ((k == (32 : Int)) == true))) (.cons (rfl : ((((!(okw k)) || (((ws.length : Nat) : Int) != ((nwords k : Nat) : Int))) == false) && ((k == (32 : Int)) == true)) = ((((!(okw k)) || (((ws.length : Nat) : Int) != ((nwords k : Nat) : Int))) == false) && ((k == (32 : Int)) == true))) (.cons (rfl : ((((!(okw k)) || (((ws.length : Nat) : Int) != ((nwords k : Nat) : Int))) == false) && ((k == (32 : Int)) == true)) = ((((!(okw k)) || (((ws.length : Nat) : Int) != ((nwords k : Nat) : Int))) == false) && ((k == (32 : Int)) == true))) (.cons (rfl : ((((!(okw k)) || (((ws.length : Nat) : Int) != ((nwords k : Nat) : Int))) == false) && ((k == (32 : Int)) == true)) = ((((!(okw k)) || (((ws.length : Nat) : Int) != ((nwords k : Nat) : Int))) == false) && ((k == (32 : Int)) == true))) (.cons (fun (hg : (((((!(okw k)) || (((ws.length : Nat) : Int) != ((nwords k : Nat) : Int))) == false) && ((k == (32 : Int)) == true)) == true) = true) => (inR_i64 (n := IntKind.i32.wrap ((ws.getD 0 0 : Nat) : Int)) (by (try have hg := dec_guard hg); omega))) (.cons (rfl : ((((!(okw k)) || (((ws.length : Nat) : Int) != ((nwords k : Nat) : Int))) == false) && ((k == (32 : Int)) == true)) = ((((!(okw k)) || (((ws.length : Nat) : Int) != ((nwords k : Nat) : Int))) == false) && ((k == (32 : Int)) == true))) (.cons (rfl : ((((!(okw k)) || (((ws.length : Nat) : Int) != ((nwords k : Nat) : Int))) == false) && ((k == (32 : Int)) == true)) = ((((!(okw k)) || (((ws.length : Nat) : Int) != ((nwords k : Nat) : Int))) == false) && ((k == (32 : Int)) == true))) (.cons (rfl : ((((!(okw k)) || (((ws.length : Nat) : Int) != ((nwords k : Nat) : Int))) == false) && ((k == (32 : Int)) == true)) = ((((!(okw k)) || (((ws.length : Nat) : Int) != ((nwords k : Nat) : Int))) == false) && ((k == (32 : Int)) == true))) (.cons (rfl : ((((!(okw k)) || (((ws.length : Nat) : Int) != ((nwords k : Nat) : Int))) == false) && ((k == (32 : Int)) == true)) = ((((!(okw k)) || (((ws.length : Nat) : Int) != ((nwords k : Nat) : Int))) == false) && ((k == (32 : Int)) == true))) (.cons (rfl : ((((!(okw k)) || (((ws.length : Nat) : Int) != ((nwords k : Nat) : Int))) == false) && ((k == (32 : Int)) == true)) = ((((!(okw k)) || (((ws.length : Nat) : Int) != ((nwords k : Nat) : Int))) == false) && ((k == (32 : Int)) == true))) (.cons (rfl : ((((!(okw k)) || (((ws.length : Nat) : Int) != ((nwords k : Nat) : Int))) == false) && ((k == (32 : Int)) == true)) = ((((!(okw k)) || (((ws.length : Nat) : Int) != ((nwords k : Nat) : Int))) == false) && ((k == (32 : Int)) == true))) (.cons (rfl : ((((!(okw k)) || (((ws.length : Nat) : Int) != ((nwords k : Nat) : Int))) == false) && ((k == (32 : Int)) == true)) = ((((!(okw k)) || (((ws.length : Nat) : Int) != ((nwords k : Nat) : Int))) == false) && ((k == (32 : Int)) == true))) (.cons (rfl : ((((!(okw k)) || (((ws.length : Nat) : Int) != ((nwords k : Nat) : Int))) == false) && ((k == (32 : Int)) == true)) = ((((!(okw k)) || (((ws.length : Nat) : Int) != ((nwords k : Nat) : Int))) == false) && ((k == (32 : Int)) == true))) (.cons (rfl : ((((!(okw k)) || (((ws.length : Nat) : Int) != ((nwords k : Nat) : Int))) == false) && ((k == (32 : Int)) == true)) = ((((!(okw k)) || (((ws.length : Nat) : Int) != ((nwords k : Nat) : Int))) == false) && ((k == (32 : Int)) == true))) (.cons (rfl : ((((!(okw k)) || (((ws.length : Nat) : Int) != ((nwords k : Nat) : Int))) == false) && ((k == (32 : Int)) == true)) = ((((!(okw k)) || (((ws.length : Nat) : Int) != ((nwords k : Nat) : Int))) == false) && ((k == (32 : Int)) == true))) (.cons (rfl : ((((!(okw k)) || (((ws.length : Nat) : Int) != ((nwords k : Nat) : Int))) == false) && ((k == (32 : Int)) == true)) = ((((!(okw k)) || (((ws.length : Nat) : Int) != ((nwords k : Nat) : Int))) == false) && ((k == (32 : Int)) == true))) (.cons (rfl : ((((!(okw k)) || (((ws.length : Nat) : Int) != ((nwords k : Nat) : Int))) == false) && ((k == (32 : Int)) == true)) = ((((!(okw k)) || (((ws.length : Nat) : Int) != ((nwords k : Nat) : Int))) == false) && ((k == (32 : Int)) == true))) (.cons (rfl : ((((!(okw k)) || (((ws.length : Nat) : Int) != ((nwords k : Nat) : Int))) == false) && ((k == (32 : Int)) == true)) = ((((!(okw k)) || (((ws.length : Nat) : Int) != ((nwords k : Nat) : Int))) == false) && ((k == (32 : Int)) == true))) (.cons (rfl : ((((!(okw k)) || (((ws.length : Nat) : Int) != ((nwords k : Nat) : Int))) == false) && ((k == (32 : Int)) == true)) = ((((!(okw k)) || (((ws.length : Nat) : Int) != ((nwords k : Nat) : Int))) == false) && ((k == (32 : Int)) == true))) (.cons (rfl : ((((!(okw k)) || (((ws.length : Nat) : Int) != ((nwords k : Nat) : Int))) == false) && ((k == (32 : Int)) == true)) = ((((!(okw k)) || (((ws.length : Nat) : Int) != ((nwords k : Nat) : Int))) == false) && ((k == (32 : Int)) == true))) (.cons (rfl : ((((!(okw k)) || (((ws.length : Nat) : Int) != ((nwords k : Nat) : Int))) == false) && ((k == (32 : Int)) == true)) = ((((!(okw k)) || (((ws.length : Nat) : Int) != ((nwords k : Nat) : Int))) == false) && ((k == (32 : Int)) == true))) (.cons (rfl : ((((!(okw k)) || (((ws.length : Nat) : Int) != ((nwords k : Nat) : Int))) == false) && ((k == (32 : Int)) == true)) = ((((!(okw k)) || (((ws.length : Nat) : Int) != ((nwords k : Nat) : Int))) == false) && ((k == (32 : Int)) == true))) (.cons (rfl : ((((!(okw k)) || (((ws.length : Nat) : Int) != ((nwords k : Nat) : Int))) == false) && ((k == (32 : Int)) == true)) = ((((!(okw k)) || (((ws.length : Nat) : Int) != ((nwords k : Nat) : Int))) == false) && ((k == (32 : Int)) == true))) (.cons (fun (hg : (((((!(okw k)) || (((ws.length : Nat) : Int) != ((nwords k : Nat) : Int))) == false) && ((k == (32 : Int)) == true)) == true) = true) => (by (try have hg := dec_guard hg); omega : (0 : Int) ≤ (0 : Int) ∧ (0 : Int) < ((ws.length : Nat) : Int))) (.cons (fun (hg : (((((!(okw k)) || (((ws.length : Nat) : Int) != ((nwords k : Nat) : Int))) == false) && ((k == (32 : Int)) == true)) == true) = true) => (nats_some (i := 0) (hx.cells.mono hB.cls) (by (try have hg := dec_guard hg); omega))) (.cons (rfl : ((((!(okw k)) || (((ws.length : Nat) : Int) != ((nwords k : Nat) : Int))) == false) && ((k == (32 : Int)) == true)) = ((((!(okw k)) || (((ws.length : Nat) : Int) != ((nwords k : Nat) : Int))) == false) && ((k == (32 : Int)) == true))) (.cons (rfl : ((((!(okw k)) || (((ws.length : Nat) : Int) != ((nwords k : Nat) : Int))) == false) && ((k == (32 : Int)) == true)) = ((((!(okw k)) || (((ws.length : Nat) : Int) != ((nwords k : Nat) : Int))) == false) && ((k == (32 : Int)) == true))) (.cons (rfl : ((((!(okw k)) || (((ws.length : Nat) : Int) != ((nwords k : Nat) : Int))) == false) && ((k == (32 : Int)) == true)) = ((((!(okw k)) || (((ws.length : Nat) : Int) != ((nwords k : Nat) : Int))) == false) && ((k == (32 : Int)) == true))) (.cons (rfl : ((((!(okw k)) || (((ws.length : Nat) : Int) != ((nwords k : Nat) : Int))) == false) && ((k == (32 : Int)) == true)) = ((((!(okw k)) || (((ws.length : Nat) : Int) != ((nwords k : Nat) : Int))) == false) && ((k == (32 : Int)) == true))) (.cons (rfl : ((((!(okw k)) || (((ws.length : Nat) : Int) != ((nwords k : Nat) : Int))) == false) && ((k == (32 : Int)) == true)) = ((((!(okw k)) || (((ws.length : Nat) : Int) != ((nwords k : Nat) : Int))) == false) && ((k == (32 : Int)) == true))) (.cons (rfl : ((((!(okw k)) || (((ws.length : Nat) : Int) != ((nwords k : Nat) : Int))) == false) && ((k == (32 : Int)) == true)) = ((((!(okw k)) || (((ws.length : Nat) : Int) != ((nwords k : Nat) : Int))) == false) && ((k == (32 : Int)) == true))) (.cons (rfl : ((((!(okw k)) || (((ws.length : Nat) : Int) != ((nwords k : Nat) : Int))) == false) && ((k == (32 : Int)) == true)) = ((((!(okw k)) || (((ws.length : Nat) : Int) != ((nwords k : Nat) : Int))) == false) && ((k == (32 : Int)) == true))) (.cons (rfl : ((((!(okw k)) || (((ws.length : Nat) : Int) != ((nwords k : Nat) : Int))) == false) && ((k == (32 : Int)) == true)) = ((((!(okw k)) || (((ws.length : Nat) : Int) != ((nwords k : Nat) : Int))) == false) && ((k == (32 : Int)) == true))) (.cons (fun (hg : (((((!(okw k)) || (((ws.length : Nat) : Int) != ((nwords k : Nat) : Int))) == false) && ((k == (32 : Int)) == true)) == true) = true) => (nats_load (i := 0) (m := 1) (hx.cells.mono hB.cls) (by (try have hg := dec_guard hg); omega))) (.cons (rfl : ((((!(okw k)) || (((ws.length : Nat) : Int) != ((nwords k : Nat) : Int))) == false) && ((k == (32 : Int)) == true)) = ((((!(okw k)) || (((ws.length : Nat) : Int) != ((nwords k : Nat) : Int))) == false) && ((k == (32 : Int)) == true))) (.cons (rfl : ((((!(okw k)) || (((ws.length : Nat) : Int) != ((nwords k : Nat) : Int))) == false) && ((k == (32 : Int)) == true)) = ((((!(okw k)) || (((ws.length : Nat) : Int) != ((nwords k : Nat) : Int))) == false) && ((k == (32 : Int)) == true))) (.cons (rfl : ((((!(okw k)) || (((ws.length : Nat) : Int) != ((nwords k : Nat) : Int))) == false) && ((k == (32 : Int)) == true)) = ((((!(okw k)) || (((ws.length : Nat) : Int) != ((nwords k : Nat) : Int))) == false) && ((k == (32 : Int)) == true))) (.cons (rfl : ((((!(okw k)) || (((ws.length : Nat) : Int) != ((nwords k : Nat) : Int))) == false) && ((k == (32 : Int)) == true)) = ((((!(okw k)) || (((ws.length : Nat) : Int) != ((nwords k : Nat) : Int))) == false) && ((k == (32 : Int)) == true))) (.cons (rfl : ((((!(okw k)) || (((ws.length : Nat) : Int) != ((nwords k : Nat) : Int))) == false) && ((k == (32 : Int)) == true)) = ((((!(okw k)) || (((ws.length : Nat) : Int) != ((nwords k : Nat) : Int))) == false) && ((k == (32 : Int)) == true))) (.cons (rfl : ((((!(okw k)) || (((ws.length : Nat) : Int) != ((nwords k : Nat) : Int))) == false) && ((k == (32 : Int)) == true)) = ((((!(okw k)) || (((ws.length : Nat) : Int) != ((nwords k : Nat) : Int))) == false) && ((k == (32 : Int)) == true))) (.cons (rfl : ((((!(okw k)) || (((ws.length : Nat) : Int) != ((nwords k : Nat) : Int))) == false) && ((k == (32 : Int)) == true)) = ((((!(okw k)) || (((ws.length : Nat) : Int) != ((nwords k : Nat) : Int))) == false) && ((k == (32 : Int)) == true))) (.cons (rfl : ((((!(okw k)) || (((ws.length : Nat) : Int) != ((nwords k : Nat) : Int))) == false) && ((k == (32 : Int)) == true)) = ((((!(okw k)) || (((ws.length : Nat) : Int) != ((nwords k : Nat) : Int))) == false) && ((k == (32 : Int)) == true))) (.cons (rfl : ((((!(okw k)) || (((ws.length : Nat) : Int) != ((nwords k : Nat) : Int))) == false) && ((k == (32 : Int)) == true)) = ((((!(okw k)) || (((ws.length : Nat) : Int) != ((nwords k : Nat) : Int))) == false) && ((k == (32 : Int)) == true))) (.cons (rfl : ((!(okw k)) || (((ws.length : Nat) : Int) != ((nwords k : Nat) : Int))) = ((!(okw k)) || (((ws.length : Nat) : Int) != ((nwords k : Nat) : Int)))) (.cons (rfl : ((!(okw k)) || (((ws.length : Nat) : Int) != ((nwords k : Nat) : Int))) = ((!(okw k)) || (((ws.length : Nat) : Int) != ((nwords k : Nat) : Int)))) (.cons (rfl : ((!(okw k)) || (((ws.length : Nat) : Int) != ((nwords k : Nat) : Int))) = ((!(okw k)) || (((ws.length : Nat) : Int) != ((nwords k : Nat) : Int)))) (.cons (fun (hg : (((!(okw k)) || (((ws.length : Nat) : Int) != ((nwords k : Nat) : Int))) == false) = true) => (by (try have hg := dec_guard hg); first | exact Bool.beq_true _ | exact Bool.beq_false _ | rfl | simp_all : (((((!(okw k)) || (((ws.length : Nat) : Int) != ((nwords k : Nat) : Int))) == false) && ((k == (32 : Int)) == true)) == true) = (k == (32 : Int)))) (.cons (by first | exact Bool.beq_true _ | exact Bool.beq_false _ | rfl | simp_all : (((!(okw k)) || (((ws.length : Nat) : Int) != ((nwords k : Nat) : Int))) == false) = !((!(okw k)) || (((ws.length : Nat) : Int) != ((nwords k : Nat) : Int)))) .nil))))))))))))))))))))))))))))))))))))))))))))))))))))))))))))))))))) (by kernel_rfl) (by kernel_rfl) (fun e5 a5 w5 hag hR hI => ?_)
  refine cnd (b := (((!(okw k)) || (((ws.length : Nat) : Int) != ((nwords k : Nat) : Int))) || ((k == (32 : Int)) && ((IntKind.u64.wrap (IntKind.i32.wrap ((ws.getD 0 0 : Nat) : Int))) != ((ws.getD 0 0 : Nat) : Int))))) hI (by kernel_rfl) (fun hc6 => ?_) (fun hc6 => ?_)
  · skip
    replace hI := hI.re 36 (.v (.bool true)) rfl (congrArg Value.bool hc6)
    have hno := dec_no hc6
    refine reg_seq tab (k := 1) (hs := []) (sy := []) (ks := [5, 4]) (bs := [0]) (gs := [])
        (L' := [(5, .v (.bool false)), (4, .p 0 0)])
        (H' := [⟨0, 29, [.v (.bool false), .v (.slice none 0 0)]⟩]) (G' := []) (k' := 1) hR hI (by kernel_rfl)
        .nil (fun e7 a7 w7 hag hR hI => ?_)
    refine wp_ret ?_
    refine ret_then ?_
    refine outN tab (xs := [.agg [.v (.bool false), .v (.slice none 0 0)], .v (.bool false)]) hR hI rfl (by kernel_rfl) ?_
    exact ⟨false, false, none, 0, [], rfl, hB.fin hR, 0, ⟨Sl.nil, .inl rfl, fun h => (by cases h), rfl, Nat.zero_le _⟩, fun h => (by cases h), fun h => absurd h hno⟩
  · skip
    replace hI := hI.re 36 (.v (.bool false)) rfl (congrArg Value.bool hc6)
    have hok := dec_yes hc6; have hl4 := hok.2.1
    refine wp_skip ?_
    refine then_n ?_
    refine wp_seq ?_
    refine reg (is := [0, 1, 2, 3]) (by kernel_rfl) ?_
    refine part_ tab [0] [1, 2, 3] (by rfl) (k := 1) (hs := []) (sy := []) (ks := [38, 4]) (bs := [0]) (gs := [])
        (L' := [(38, .v (.slice ad ws.length cap)), (4, .p 0 0)])
        (H' := [⟨0, 29, [.v (.bool false), .v (.slice none 0 0)]⟩]) (G' := []) (k' := 1) hR hI (by kernel_rfl)
        .nil (fun e8 a8 w8 hag hR hI => ?_)
    refine callOp (ys := [.v (.slice ad ws.length cap)]) hI rfl rfl ⟨_, rfl, rfl, rfl⟩ (by kernel_rfl) Try.func21 rfl rfl ?_
    refine (fromWords_spec (hx.now hB hR) (by omega)).mono ?_
    rintro ex w9 ⟨nz, zd, zc, zs, rfl, hk, hz⟩
    replace hx := hx.next hB hR hk
    have hB_ := hB.next hR hk
    replace hR := hR.after hk
    replace hB := hB_; clear hB_ hk
    refine ⟨_, rfl, ?_⟩
    replace hI := hI.put (d := some 39) (x := .v (.agg #[.bool nz, .slice zd zs.length zc])) (by intro t ht; cases ht; decide) rfl
    replace hI := hI.sel [39, 38, 4] (by kernel_rfl : sel _ _ = some [(39, .v (.agg #[.bool nz, .slice zd zs.length zc])), (38, .v (.slice ad ws.length cap)), (4, .p 0 0)])
    refine part_ tab [2, 3] [] (by rfl) (k := 1) (hs := []) (sy := []) (ks := [5, 4]) (bs := [0]) (gs := [])
        (L' := [(5, .v (.bool true)), (4, .p 0 0)])
        (H' := [⟨0, 29, [.v (.bool nz), .v (.slice zd zs.length zc)]⟩]) (G' := []) (k' := 1) hR hI (by kernel_rfl)
        .nil (fun e10 a10 w10 hag hR hI => ?_)
    refine ops_nil ?_
    refine then_n ?_
    refine wp_ret ?_
    refine outN tab (xs := [.agg [.v (.bool nz), .v (.slice zd zs.length zc)], .v (.bool true)]) hR hI rfl (by kernel_rfl) ?_
    exact ⟨true, nz, zd, zc, zs, rfl, hB.fin hR, _, (hz.fin hB hR).to rfl (by have := hok.2.1; omega), fun _ => ⟨hok, rfl⟩, fun _ => rfl⟩

set_option maxHeartbeats 4000000 in
set_option maxRecDepth 100000 in
theorem wrapped_spec {C : Nat → Prop} {w : World} {na : Bool} {ad : Option Addr} {cap : Nat} {xs : List Nat} {a : Int} {L : Nat} (k : Int) (hk : okw k = true) (ha : Wd C w na ad cap xs a L) (hL : L ≤ 10000) :
    Calls P 9 #[.int .i64 k, .agg #[.bool na, .slice ad (List.length xs) cap]] w fun ex w' => ∃ vs vd vc f, ex = .returned (.tuple #[.slice vd (List.length vs) vc, .bool f]) ∧ Keep (fun b => b < w.heap.size) w w' ∧ Sl .u64 18446744073709551616 (Grow C w w') w' vd vc vs ∧ Wrapped k a vs := by
  refine doorN (e := e0) (vs := [.v (.int .i64 k), .v (.agg #[.bool na, .slice ad xs.length cap])]) (n := 42) (m := 2) Try.func9 rfl rfl rfl (by decide) fun a_ hI => ?_
  replace hI : Is 42 [] e0 [(0, .v (.int .i64 k)), (1, .v (.agg #[.bool na, .slice ad xs.length cap]))] a_ := hI
  have hR : Rel (fun b => b < w.heap.size) w e0 [] [] w := Rel.start (fun k hk => hk)
  have hB : Base C w C (fun b => b < w.heap.size) w := Base.start
  have hnp := nwords_pos hk; have hnw := nwords_le k
  refine reg_seq tab (k := 0) (hs := []) (sy := []) (ks := [3, 0]) (bs := [0]) (gs := [])
      (L' := [(3, .p 0 0), (0, .v (.int .i64 k))])
      (H' := [⟨0, 29, [.v (.bool na), .v (.slice ad xs.length cap)]⟩]) (G' := []) (k' := 1) hR hI (by kernel_rfl)
      .nil (fun e1 a1 w1 hag hR hI => ?_)
  refine wp_seq ?_
  refine reg (is := [0, 1, 2, 3, 4, 5, 6]) (by kernel_rfl) ?_
  refine part_ tab [0] [1, 2, 3, 4, 5, 6] (by rfl) (k := 1) (hs := []) (sy := []) (ks := [12, 3, 0]) (bs := [0]) (gs := [])
      (L' := [(12, .v (.int .i64 k)), (3, .p 0 0), (0, .v (.int .i64 k))])
      (H' := [⟨0, 29, [.v (.bool na), .v (.slice ad xs.length cap)]⟩]) (G' := []) (k' := 1) hR hI (by kernel_rfl)
      .nil (fun e2 a2 w2 hag hR hI => ?_)
  refine callOp (ys := [.v (.int .i64 k)]) hI rfl rfl ⟨_, rfl, rfl, rfl⟩ (by kernel_rfl) Try.func20 rfl rfl ?_
  refine (wordsOf_spec (C := C) k).mono ?_
  rintro ex w3 ⟨rfl, hk⟩
  replace hR := hR.same hk; clear hk
  refine ⟨_, rfl, ?_⟩
  replace hI := hI.put (d := some 13) (x := .v (.tuple #[.int .i64 ((nwords k : Nat) : Int), .bool (okw k)])) (by intro t ht; cases ht; decide) rfl
  replace hI := hI.sel [13, 12, 3, 0] (by kernel_rfl : sel _ _ = some [(13, .v (.tuple #[.int .i64 ((nwords k : Nat) : Int), .bool (okw k)])), (12, .v (.int .i64 k)), (3, .p 0 0), (0, .v (.int .i64 k))])
  refine part_ tab [2, 3, 4, 5, 6] [] (by rfl) (k := 1) (hs := []) (sy := []) (ks := [6, 3, 0]) (bs := [0]) (gs := [])
      (L' := [(6, .v (.int .i64 ((nwords k : Nat) : Int))), (3, .p 0 0), (0, .v (.int .i64 k))])
      (H' := [⟨0, 29, [.v (.bool na), .v (.slice ad xs.length cap)]⟩]) (G' := []) (k' := 1) hR hI (by kernel_rfl)
      .nil (fun e4 a4 w4 hag hR hI => ?_)
  refine ops_nil ?_
  refine then_n ?_
  refine wp_seq ?_
  refine reg (is := [0, 1, 2, 3, 4, 5, 6, 7]) (by kernel_rfl) ?_
  refine part_ tab [0, 1] [2, 3, 4, 5, 6, 7] (by rfl) (k := 1) (hs := []) (sy := []) (ks := [18, 17, 0]) (bs := []) (gs := [])
      (L' := [(18, .v (.int .i64 ((nwords k : Nat) : Int))), (17, .agg [.v (.bool na), .v (.slice ad xs.length cap)]), (0, .v (.int .i64 k))])
      (H' := []) (G' := []) (k' := 1) hR hI (by kernel_rfl)
      .nil (fun e5 a5 w5 hag hR hI => ?_)
  refine callOp (ys := [.agg [.v (.bool na), .v (.slice ad xs.length cap)], .v (.int .i64 ((nwords k : Nat) : Int))]) hI rfl rfl ⟨_, rfl, rfl, rfl⟩ (by kernel_rfl) Try.func22 rfl rfl ?_
  refine (toWords_spec (ha.now hB hR) hL ⟨hnp, hnw⟩).mono ?_
  rintro ex w6 ⟨ws, wd, wc, rfl, hk, hw, hwl, hwv⟩
  replace ha := ha.next hB hR hk
  have hB_ := hB.next hR hk
  replace hR := hR.after hk
  replace hB := hB_; clear hB_ hk
  have hrw := hw.room; have hmw := hw.max
  refine ⟨_, rfl, ?_⟩
  replace hI := hI.put (d := some 19) (x := .v (.tuple #[.slice wd ws.length wc, .bool (decide (-((2 ^ (64 * nwords k - 1) : Nat) : Int) ≤ a ∧ a < ((2 ^ (64 * nwords k - 1) : Nat) : Int)))])) (by intro t ht; cases ht; decide) rfl
  replace hI := hI.sel [19, 18, 17, 0] (by kernel_rfl : sel _ _ = some [(19, .v (.tuple #[.slice wd ws.length wc, .bool (decide (-((2 ^ (64 * nwords k - 1) : Nat) : Int) ≤ a ∧ a < ((2 ^ (64 * nwords k - 1) : Nat) : Int)))])), (18, .v (.int .i64 ((nwords k : Nat) : Int))), (17, .agg [.v (.bool na), .v (.slice ad xs.length cap)]), (0, .v (.int .i64 k))])
  refine part_ tab [3, 4, 5, 6, 7] [] (by rfl) (k := 1) (hs := []) (sy := []) (ks := [9, 8, 0]) (bs := []) (gs := [])
      (L' := [(9, .v (.bool (decide (-((2 ^ (64 * nwords k - 1) : Nat) : Int) ≤ a ∧ a < ((2 ^ (64 * nwords k - 1) : Nat) : Int))))), (8, .v (.slice wd ws.length wc)), (0, .v (.int .i64 k))])
      (H' := []) (G' := []) (k' := 1) hR hI (by kernel_rfl)
      .nil (fun e7 a7 w7 hag hR hI => ?_)
  refine ops_nil ?_
  refine then_n ?_
  refine wp_seq ?_
  refine reg_seq tab (k := 1) (hs := []) (sy := []) (ks := [23, 9, 8]) (bs := []) (gs := [])
      (L' := [(23, .v (.bool (k == (32 : Int)))), (9, .v (.bool (decide (-((2 ^ (64 * nwords k - 1) : Nat) : Int) ≤ a ∧ a < ((2 ^ (64 * nwords k - 1) : Nat) : Int))))), (8, .v (.slice wd ws.length wc))])
      (H' := []) (G' := []) (k' := 1) hR hI (by kernel_rfl)
      .nil (fun e8 a8 w8 hag hR hI => ?_)
  refine cnd (b := (k == (32 : Int))) hI (by kernel_rfl) (fun hc9 => ?_) (fun hc9 => ?_)
  · skip
    replace hI := hI.re 23 (.v (.bool true)) rfl (congrArg Value.bool hc9)
    try simp only [decide_eq_true_eq, decide_eq_false_iff_not, beq_iff_eq, bne_iff_ne, beq_eq_false_iff_ne, bne_eq_false_iff_eq, Bool.and_eq_true, Bool.and_eq_false_iff, Bool.or_eq_true, Bool.or_eq_false_iff, Bool.not_eq_true', Bool.not_eq_false', ne_eq] at hc9
    have hc32 := hc9; have hl1 : nwords k = 1 := (wo1 (.inl hc32)).1
    obtain ⟨m, hm, hmb⟩ := u64_nat (IntKind.i32.wrap ((ws.getD 0 0 : Nat) : Int)); have hwb := i32_in ((ws.getD 0 0 : Nat) : Int)
    refine reg_seq tab (k := 1) (hs := [(2, .val (.v (.int .u64 ((ws.getD 0 0 : Nat) : Int)))), (4, .nw), (5, .eq (.int .u64 ((m : Nat) : Int)))]) (sy := []) (ks := [10, 9, 8]) (bs := []) (gs := [])
        (L' := [(10, .v (.int .u64 ((m : Nat) : Int))), (9, .v (.bool (decide (-((2 ^ (64 * nwords k - 1) : Nat) : Int) ≤ a ∧ a < ((2 ^ (64 * nwords k - 1) : Nat) : Int))))), (8, .v (.slice wd ws.length wc))])
        (H' := []) (G' := []) (k' := 1) hR hI (by kernel_rfl)
        (.cons (by omega : (0 : Int) ≤ (0 : Int) ∧ (0 : Int) < ((ws.length : Nat) : Int)) (.cons (nats_some (i := 0) (hw.cells.mono hB.cls) (by omega)) (.cons (nats_load (i := 0) (m := 1) (hw.cells.mono hB.cls) (by omega)) (.cons (inR_i64 (n := IntKind.i32.wrap ((ws.getD 0 0 : Nat) : Int)) (by omega)) (.cons (congrArg (Value.int .u64) (hm : IntKind.u64.wrap (IntKind.i32.wrap ((ws.getD 0 0 : Nat) : Int)) = ((m : Nat) : Int))) .nil))))) (fun e10 a10 w10 hag hR hI => ?_)
    refine wp_seq ?_
    refine regL 11 hR (by kernel_rfl) (fun hS => ?_)
    replace hR := hR.drew; have hF := hR.fore
    refine takeL tab (H := []) (G := []) (hs := [(7, .val (.v (.int .u64 ((ws.getD 0 0 : Nat) : Int)))), (9, .sym)]) (gs := [4, 5, 6, 7, 8]) (is := [0, 2, 3, 4, 5, 6, 7, 8, 9]) (ks := [39, 30]) (f' := 3)
        (L' := [(39, .v (.bool ((decide (-((2 ^ (64 * nwords k - 1) : Nat) : Int) ≤ a ∧ a < ((2 ^ (64 * nwords k - 1) : Nat) : Int))) && (((m : Nat) : Int) == ((ws.getD 0 0 : Nat) : Int))))), (30, .v (.int .u64 ((m : Nat) : Int)))]) hS hI (by kernel_rfl) (fun _ _ _ _ _ h => h) (by kernel_rfl)
        (.cons (rfl : (decide (-((2 ^ (64 * nwords k - 1) : Nat) : Int) ≤ a ∧ a < ((2 ^ (64 * nwords k - 1) : Nat) : Int))) = (decide (-((2 ^ (64 * nwords k - 1) : Nat) : Int) ≤ a ∧ a < ((2 ^ (64 * nwords k - 1) : Nat) : Int)))) (.cons (rfl : (decide (-((2 ^ (64 * nwords k - 1) : Nat) : Int) ≤ a ∧ a < ((2 ^ (64 * nwords k - 1) : Nat) : Int))) = (decide (-((2 ^ (64 * nwords k - 1) : Nat) : Int) ≤ a ∧ a < ((2 ^ (64 * nwords k - 1) : Nat) : Int)))) (.cons (rfl : (decide (-((2 ^ (64 * nwords k - 1) : Nat) : Int) ≤ a ∧ a < ((2 ^ (64 * nwords k - 1) : Nat) : Int))) = (decide (-((2 ^ (64 * nwords k - 1) : Nat) : Int) ≤ a ∧ a < ((2 ^ (64 * nwords k - 1) : Nat) : Int)))) (.cons (fun (hg : ((decide (-((2 ^ (64 * nwords k - 1) : Nat) : Int) ≤ a ∧ a < ((2 ^ (64 * nwords k - 1) : Nat) : Int))) == true) = true) => have hg := gd_t hg; (by omega : (0 : Int) ≤ (0 : Int) ∧ (0 : Int) < ((ws.length : Nat) : Int))) (.cons (fun (hg : ((decide (-((2 ^ (64 * nwords k - 1) : Nat) : Int) ≤ a ∧ a < ((2 ^ (64 * nwords k - 1) : Nat) : Int))) == true) = true) => have hg := gd_t hg; (nats_some (i := 0) (hw.cells.mono hB.cls) (by omega))) (.cons (rfl : (decide (-((2 ^ (64 * nwords k - 1) : Nat) : Int) ≤ a ∧ a < ((2 ^ (64 * nwords k - 1) : Nat) : Int))) = (decide (-((2 ^ (64 * nwords k - 1) : Nat) : Int) ≤ a ∧ a < ((2 ^ (64 * nwords k - 1) : Nat) : Int)))) (.cons (rfl : (decide (-((2 ^ (64 * nwords k - 1) : Nat) : Int) ≤ a ∧ a < ((2 ^ (64 * nwords k - 1) : Nat) : Int))) = (decide (-((2 ^ (64 * nwords k - 1) : Nat) : Int) ≤ a ∧ a < ((2 ^ (64 * nwords k - 1) : Nat) : Int)))) (.cons (rfl : (decide (-((2 ^ (64 * nwords k - 1) : Nat) : Int) ≤ a ∧ a < ((2 ^ (64 * nwords k - 1) : Nat) : Int))) = (decide (-((2 ^ (64 * nwords k - 1) : Nat) : Int) ≤ a ∧ a < ((2 ^ (64 * nwords k - 1) : Nat) : Int)))) (.cons (fun (hg : ((decide (-((2 ^ (64 * nwords k - 1) : Nat) : Int) ≤ a ∧ a < ((2 ^ (64 * nwords k - 1) : Nat) : Int))) == true) = true) => have hg := gd_t hg; (nats_load (i := 0) (m := 1) (hw.cells.mono hB.cls) (by omega))) (.cons (rfl : (decide (-((2 ^ (64 * nwords k - 1) : Nat) : Int) ≤ a ∧ a < ((2 ^ (64 * nwords k - 1) : Nat) : Int))) = (decide (-((2 ^ (64 * nwords k - 1) : Nat) : Int) ≤ a ∧ a < ((2 ^ (64 * nwords k - 1) : Nat) : Int)))) (.cons (rfl : (decide (-((2 ^ (64 * nwords k - 1) : Nat) : Int) ≤ a ∧ a < ((2 ^ (64 * nwords k - 1) : Nat) : Int))) = (decide (-((2 ^ (64 * nwords k - 1) : Nat) : Int) ≤ a ∧ a < ((2 ^ (64 * nwords k - 1) : Nat) : Int)))) (.cons (rfl : (decide (-((2 ^ (64 * nwords k - 1) : Nat) : Int) ≤ a ∧ a < ((2 ^ (64 * nwords k - 1) : Nat) : Int))) = (decide (-((2 ^ (64 * nwords k - 1) : Nat) : Int) ≤ a ∧ a < ((2 ^ (64 * nwords k - 1) : Nat) : Int)))) (.cons (rfl : (decide (-((2 ^ (64 * nwords k - 1) : Nat) : Int) ≤ a ∧ a < ((2 ^ (64 * nwords k - 1) : Nat) : Int))) = (decide (-((2 ^ (64 * nwords k - 1) : Nat) : Int) ≤ a ∧ a < ((2 ^ (64 * nwords k - 1) : Nat) : Int)))) (.cons (by first | exact Bool.beq_true _ | exact Bool.beq_false _ | rfl | simp_all : ((decide (-((2 ^ (64 * nwords k - 1) : Nat) : Int) ≤ a ∧ a < ((2 ^ (64 * nwords k - 1) : Nat) : Int))) == true) = (decide (-((2 ^ (64 * nwords k - 1) : Nat) : Int) ≤ a ∧ a < ((2 ^ (64 * nwords k - 1) : Nat) : Int)))) .nil)))))))))))))) (by kernel_rfl) (by kernel_rfl) (by kernel_rfl) (by rfl) (fun a11 hI => ?_)
    refine oneL (i := 1) (f' := 2) (by kernel_rfl) (by rfl) ?_
    refine effH tab (k := 1) (hh := .no) (r := ⟨.sl 1 0 1 1, [⟨1, 35, [.v (.int .u64 ((m : Nat) : Int))]⟩], [], 2, _, false⟩) hR hI (by kernel_rfl) rfl rfl rfl (by kernel_rfl) .nil (fun e12 a12 w12 hag hR2 hI => ?_)
    replace hS := Rel.old (k := 1) hS hR hR2 hF hag [] [] (by kernel_rfl) (by kernel_rfl) (by kernel_rfl); replace hR := hR2
    refine ⟨hS, ?_⟩
    refine wpL_env hag (by kernel_rfl) ?_
    replace hS := hS.agree (k := 1) (L := []) (Wf.of (by kernel_rfl)) hag
    replace hI := hI.sel [31, 39, 30] (by kernel_rfl : sel _ _ = some [(31, .sl 1 0 1 1), (39, .v (.bool ((decide (-((2 ^ (64 * nwords k - 1) : Nat) : Int) ≤ a ∧ a < ((2 ^ (64 * nwords k - 1) : Nat) : Int))) && (((m : Nat) : Int) == ((ws.getD 0 0 : Nat) : Int))))), (30, .v (.int .u64 ((m : Nat) : Int)))])
    refine takeL tab (H := []) (G := []) (hs := []) (gs := []) (is := [10]) (ks := [4, 39]) (f' := 1)
        (L' := [(4, .sl 1 0 1 1), (39, .v (.bool ((decide (-((2 ^ (64 * nwords k - 1) : Nat) : Int) ≤ a ∧ a < ((2 ^ (64 * nwords k - 1) : Nat) : Int))) && (((m : Nat) : Int) == ((ws.getD 0 0 : Nat) : Int)))))]) hS hI (by kernel_rfl) (fun _ _ _ _ _ h => h) (by kernel_rfl)
        .nil (by kernel_rfl) (by kernel_rfl) (by kernel_rfl) (by rfl) (fun a13 hI => ?_)
    refine endL (i := 11) (f' := 0) (by kernel_rfl) (by rfl) (by kernel_rfl) ?_
    refine quietL tab (hh := .no) (x := .v (.bool ((decide (-((2 ^ (64 * nwords k - 1) : Nat) : Int) ≤ a ∧ a < ((2 ^ (64 * nwords k - 1) : Nat) : Int))) && (((m : Nat) : Int) == ((ws.getD 0 0 : Nat) : Int))))) hR hI rfl rfl rfl (by kernel_rfl) .nil (fun a14 hI => ?_)
    replace hI := hI.sel [5, 4, 39] (by kernel_rfl : sel _ _ = some [(5, .v (.bool ((decide (-((2 ^ (64 * nwords k - 1) : Nat) : Int) ≤ a ∧ a < ((2 ^ (64 * nwords k - 1) : Nat) : Int))) && (((m : Nat) : Int) == ((ws.getD 0 0 : Nat) : Int))))), (4, .sl 1 0 1 1), (39, .v (.bool ((decide (-((2 ^ (64 * nwords k - 1) : Nat) : Int) ≤ a ∧ a < ((2 ^ (64 * nwords k - 1) : Nat) : Int))) && (((m : Nat) : Int) == ((ws.getD 0 0 : Nat) : Int)))))])
    refine doneL (by kernel_rfl) ?_
    refine then_n ?_
    replace hI := hI.sel [5, 4] (by kernel_rfl : sel _ _ = some [(5, .v (.bool ((decide (-((2 ^ (64 * nwords k - 1) : Nat) : Int) ≤ a ∧ a < ((2 ^ (64 * nwords k - 1) : Nat) : Int))) && (((m : Nat) : Int) == ((ws.getD 0 0 : Nat) : Int))))), (4, .sl 1 0 1 1)]); replace hR := hR.sel [1] [] (by kernel_rfl : selH _ _ = some [⟨1, 35, [.v (.int .u64 ((m : Nat) : Int))]⟩]) (by kernel_rfl : selG _ _ = some [])
    refine wp_ret ?_
    refine ret_then ?_
    obtain ⟨e15, hag_, hr_, hR_⟩ := hR.litRow (L := [(5, .v (.bool ((decide (-((2 ^ (64 * nwords k - 1) : Nat) : Int) ≤ a ∧ a < ((2 ^ (64 * nwords k - 1) : Nat) : Int))) && (((m : Nat) : Int) == ((ws.getD 0 0 : Nat) : Int))))), (4, .sl 1 0 1 1)]) 2 [] (by kernel_rfl) (b := ⟨1, 35, [.v (.int .u64 ((m : Nat) : Int))]⟩) (by simp) (by simp) (n := 1) (sz := 1) (xs := ints .u64 [m]) rfl rfl (by decide)
    replace hI := hI.agreeB (H := []) (G := []) (by kernel_rfl) hag_; replace hR := hR_; replace hI := hI.re 4 (.row 2) rfl hr_.symm; clear hag_ hr_ hR_
    obtain ⟨hB_, hR_, hrel_, od, oc, hv_, hcells_, hlen_, hcap_, hmax_⟩ := hB.release hR (y := ⟨2, 35, 1, 1, (ints .u64 [m])⟩) (by simp) rfl _ dropN_mem
    replace ha := ha.rel hrel_
    replace hw := hw.rel hrel_
    have ho : Sl .u64 18446744073709551616 _ _ od oc [m] := ⟨hcells_, (dig64_1 hmb), (by dsimp only at hlen_ hcap_; rw [ints_length] at hlen_; omega), hmax_⟩
    replace hI := hI.re 4 (.v (.slice od 1 oc)) rfl hv_
    replace hB := hB_; replace hR := hR_.sel [] [] (by kernel_rfl : selH _ _ = some []) (by kernel_rfl : selG _ _ = some []); clear hB_ hR_ hrel_ hcells_ hv_
    refine outN tab (xs := [.v (.slice od 1 oc), .v (.bool ((decide (-((2 ^ (64 * nwords k - 1) : Nat) : Int) ≤ a ∧ a < ((2 ^ (64 * nwords k - 1) : Nat) : Int))) && (((m : Nat) : Int) == ((ws.getD 0 0 : Nat) : Int))))]) hR hI rfl (by kernel_rfl) ?_
    exact ⟨[m], od, oc, _, rfl, hB.fin hR, ho.fin hB hR, wrapped32 hc32 hwl hwv hm⟩
  · skip
    replace hI := hI.re 23 (.v (.bool false)) rfl (congrArg Value.bool hc9)
    try simp only [decide_eq_true_eq, decide_eq_false_iff_not, beq_iff_eq, bne_iff_ne, beq_eq_false_iff_ne, bne_eq_false_iff_eq, Bool.and_eq_true, Bool.and_eq_false_iff, Bool.or_eq_true, Bool.or_eq_false_iff, Bool.not_eq_true', Bool.not_eq_false', ne_eq] at hc9
    have hc32 := hc9
    refine wp_skip ?_
    refine then_n ?_
    refine reg_seq tab (k := 1) (hs := []) (sy := []) (ks := [5, 4]) (bs := []) (gs := [])
        (L' := [(5, .v (.bool (decide (-((2 ^ (64 * nwords k - 1) : Nat) : Int) ≤ a ∧ a < ((2 ^ (64 * nwords k - 1) : Nat) : Int))))), (4, .v (.slice wd ws.length wc))])
        (H' := []) (G' := []) (k' := 1) hR hI (by kernel_rfl)
        .nil (fun e16 a16 w16 hag hR hI => ?_)
    refine wp_ret ?_
    refine outN tab (xs := [.v (.slice wd ws.length wc), .v (.bool (decide (-((2 ^ (64 * nwords k - 1) : Nat) : Int) ≤ a ∧ a < ((2 ^ (64 * nwords k - 1) : Nat) : Int))))]) hR hI rfl (by kernel_rfl) ?_
    exact ⟨ws, wd, wc, _, rfl, hB.fin hR, hw.fin hB hR, fun h => absurd h hc32, fun _ => ⟨hwl, hwv⟩⟩

theorem sext_i64 {x : Nat} (h : sext x = (x : Int)) : IntKind.i64.wrap (x : Int) = IntKind.i32.wrap (x : Int) := by
  have h1 := i32_in (x : Int)
  unfold sext at h
  rw [← h]
  generalize IntKind.i32.wrap (x : Int) = z at *
  rw [IntKind.wrap_i32, IntKind.wrap_i64, wrap_u64]
  omega

set_option maxHeartbeats 4000000 in
set_option maxRecDepth 100000 in
theorem decOf32_spec {C : Nat → Prop} {w : World} {ad : Option Addr} {cap : Nat} {ws : List Nat} (hx : Sl .u64 18446744073709551616 C w ad cap ws) (hl : ws.length = 1) (hsx : sext (ws.getD 0 0) = ((ws.getD 0 0 : Nat) : Int)) :
    Calls P 15 #[.int .i64 32, .slice ad ws.length cap] w fun ex w' => ex = .returned (.tuple #[.agg #[.int .i64 32, .int .i32 (IntKind.i32.wrap ((ws.getD 0 0 : Nat) : Int)), .int .i64 0, .int .u64 0, .int .i64 0, .int .u64 0, .int .u64 0, .int .u64 0, .int .u64 0], .bool true]) ∧ Keep (fun b => b < w.heap.size) w w' := by
  refine doorN (e := e0) (vs := [.v (.int .i64 32), .v (.slice ad ws.length cap)]) (n := 88) (m := 2) Try.func15 rfl rfl rfl (by decide) fun a_ hI => ?_
  replace hI : Is 88 [] e0 [(0, .v (.int .i64 32)), (1, .v (.slice ad ws.length cap))] a_ := hI
  have hR : Rel (fun b => b < w.heap.size) w e0 [] [] w := Rel.start (fun k hk => hk)
  have hB : Base C w C (fun b => b < w.heap.size) w := Base.start
  have hrx := hx.room; have hmx := hx.max; have hwb := i32_in ((ws.getD 0 0 : Nat) : Int)
  refine reg_seq tab (k := 0) (hs := []) (sy := []) (ks := [4, 0, 1]) (bs := [0]) (gs := [])
      (L' := [(4, .p 0 0), (0, .v (.int .i64 32)), (1, .v (.slice ad ws.length cap))])
      (H' := [⟨0, 51, [.v (.int .i64 0), .v (.int .i32 0), .v (.int .i64 0), .v (.int .u64 0), .v (.int .i64 0), .v (.int .u64 0), .v (.int .u64 0), .v (.int .u64 0), .v (.int .u64 0)]⟩]) (G' := []) (k' := 1) hR hI (by kernel_rfl)
      .nil (fun e1 a1 w1 hag hR hI => ?_)
  refine wp_seq ?_
  refine wp_block ?_
  refine regQ_seq tab (by kernel_rfl) (k := 1) (hs := [(5, .eq (.bool true)), (10, .val (.v (.int .u64 ((ws.getD 0 0 : Nat) : Int)))), (14, .val (.v (.int .u64 ((ws.getD 0 0 : Nat) : Int)))), (16, .nw), (17, .eq (.bool true))]) (gs := []) (ks := [6, 4, 0, 1])
      (L' := [(6, .v (.bool true)), (4, .p 0 0), (0, .v (.int .i64 32)), (1, .v (.slice ad ws.length cap))]) hR hI (by kernel_rfl) (fun _ _ _ _ _ h => h) (by kernel_rfl)
      (.cons (congrArg Value.bool (by rw [hl]; rfl : (((ws.length : Nat) : Int) == (1 : Int)) = true)) (.cons (by omega : (0 : Int) ≤ (0 : Int) ∧ (0 : Int) < ((ws.length : Nat) : Int)) (.cons (nats_some (i := 0) (hx.cells.mono hB.cls) (by omega)) (.cons (nats_load (i := 0) (m := 1) (hx.cells.mono hB.cls) (by omega)) (.cons (by omega : (0 : Int) ≤ (0 : Int) ∧ (0 : Int) < ((ws.length : Nat) : Int)) (.cons (nats_some (i := 0) (hx.cells.mono hB.cls) (by omega)) (.cons (nats_load (i := 0) (m := 1) (hx.cells.mono hB.cls) (by omega)) (.cons (inR_i64 (n := IntKind.i32.wrap ((ws.getD 0 0 : Nat) : Int)) (by omega)) (.cons (congrArg Value.bool (by rw [beq_iff_eq]; exact sext_i64 hsx : ((IntKind.i64.wrap ((ws.getD 0 0 : Nat) : Int)) == (IntKind.i32.wrap ((ws.getD 0 0 : Nat) : Int))) = true)) .nil))))))))) (by kernel_rfl) (by kernel_rfl) (fun e2 a2 w2 hag hR hI => ?_)
  refine cnd_t hI (by kernel_rfl) ?_
  refine reg_seq tab (k := 1) (hs := [(3, .val (.v (.int .u64 ((ws.getD 0 0 : Nat) : Int))))]) (sy := []) (ks := [5, 4]) (bs := [0]) (gs := [])
      (L' := [(5, .v (.bool true)), (4, .p 0 0)])
      (H' := [⟨0, 51, [.v (.int .i64 32), .v (.int .i32 (IntKind.i32.wrap ((ws.getD 0 0 : Nat) : Int))), .v (.int .i64 0), .v (.int .u64 0), .v (.int .i64 0), .v (.int .u64 0), .v (.int .u64 0), .v (.int .u64 0), .v (.int .u64 0)]⟩]) (G' := []) (k' := 1) hR hI (by kernel_rfl)
      (.cons (by omega : (0 : Int) ≤ (0 : Int) ∧ (0 : Int) < ((ws.length : Nat) : Int)) (.cons (nats_some (i := 0) (hx.cells.mono hB.cls) (by omega)) (.cons (nats_load (i := 0) (m := 1) (hx.cells.mono hB.cls) (by omega)) .nil))) (fun e3 a3 w3 hag hR hI => ?_)
  refine wp_ret ?_
  refine ret_block ?_
  refine ret_then ?_
  refine outN tab (xs := [.agg [.v (.int .i64 32), .v (.int .i32 (IntKind.i32.wrap ((ws.getD 0 0 : Nat) : Int))), .v (.int .i64 0), .v (.int .u64 0), .v (.int .i64 0), .v (.int .u64 0), .v (.int .u64 0), .v (.int .u64 0), .v (.int .u64 0)], .v (.bool true)]) hR hI rfl (by kernel_rfl) ?_
  exact ⟨rfl, hB.fin hR⟩

set_option maxHeartbeats 4000000 in
set_option maxRecDepth 100000 in
theorem decOf64_spec {C : Nat → Prop} {w : World} {ad : Option Addr} {cap : Nat} {ws : List Nat} (hx : Sl .u64 18446744073709551616 C w ad cap ws) (hl : ws.length = 1) :
    Calls P 15 #[.int .i64 64, .slice ad ws.length cap] w fun ex w' => ex = .returned (.tuple #[.agg #[.int .i64 64, .int .i32 0, .int .i64 (IntKind.i64.wrap ((ws.getD 0 0 : Nat) : Int)), .int .u64 0, .int .i64 0, .int .u64 0, .int .u64 0, .int .u64 0, .int .u64 0], .bool true]) ∧ Keep (fun b => b < w.heap.size) w w' := by
  refine doorN (e := e0) (vs := [.v (.int .i64 64), .v (.slice ad ws.length cap)]) (n := 88) (m := 2) Try.func15 rfl rfl rfl (by decide) fun a_ hI => ?_
  replace hI : Is 88 [] e0 [(0, .v (.int .i64 64)), (1, .v (.slice ad ws.length cap))] a_ := hI
  have hR : Rel (fun b => b < w.heap.size) w e0 [] [] w := Rel.start (fun k hk => hk)
  have hB : Base C w C (fun b => b < w.heap.size) w := Base.start
  have hrx := hx.room; have hmx := hx.max; have hwb := i32_in ((ws.getD 0 0 : Nat) : Int)
  refine reg_seq tab (k := 0) (hs := []) (sy := []) (ks := [4, 0, 1]) (bs := [0]) (gs := [])
      (L' := [(4, .p 0 0), (0, .v (.int .i64 64)), (1, .v (.slice ad ws.length cap))])
      (H' := [⟨0, 51, [.v (.int .i64 0), .v (.int .i32 0), .v (.int .i64 0), .v (.int .u64 0), .v (.int .i64 0), .v (.int .u64 0), .v (.int .u64 0), .v (.int .u64 0), .v (.int .u64 0)]⟩]) (G' := []) (k' := 1) hR hI (by kernel_rfl)
      .nil (fun e1 a1 w1 hag hR hI => ?_)
  refine wp_seq ?_
  refine wp_block ?_
  refine regQ_seq tab (by kernel_rfl) (k := 1) (hs := []) (gs := []) (ks := [6, 4, 0, 1])
      (L' := [(6, .v (.bool false)), (4, .p 0 0), (0, .v (.int .i64 64)), (1, .v (.slice ad ws.length cap))]) hR hI (by kernel_rfl) (fun _ _ _ _ _ h => h) (by kernel_rfl)
      .nil (by kernel_rfl) (by kernel_rfl) (fun e2 a2 w2 hag hR hI => ?_)
  refine cnd_f hI (by kernel_rfl) ?_
  refine reg_seq tab (k := 1) (hs := [(5, .eq (.bool true))]) (sy := []) (ks := [32, 4, 0, 1]) (bs := [0]) (gs := [])
      (L' := [(32, .v (.bool true)), (4, .p 0 0), (0, .v (.int .i64 64)), (1, .v (.slice ad ws.length cap))])
      (H' := [⟨0, 51, [.v (.int .i64 0), .v (.int .i32 0), .v (.int .i64 0), .v (.int .u64 0), .v (.int .i64 0), .v (.int .u64 0), .v (.int .u64 0), .v (.int .u64 0), .v (.int .u64 0)]⟩]) (G' := []) (k' := 1) hR hI (by kernel_rfl)
      (.cons (congrArg Value.bool (by rw [hl]; rfl : (((ws.length : Nat) : Int) == (1 : Int)) = true)) .nil) (fun e3 a3 w3 hag hR hI => ?_)
  refine cnd_t hI (by kernel_rfl) ?_
  refine reg_seq tab (k := 1) (hs := [(3, .val (.v (.int .u64 ((ws.getD 0 0 : Nat) : Int))))]) (sy := []) (ks := [5, 4]) (bs := [0]) (gs := [])
      (L' := [(5, .v (.bool true)), (4, .p 0 0)])
      (H' := [⟨0, 51, [.v (.int .i64 64), .v (.int .i32 0), .v (.int .i64 (IntKind.i64.wrap ((ws.getD 0 0 : Nat) : Int))), .v (.int .u64 0), .v (.int .i64 0), .v (.int .u64 0), .v (.int .u64 0), .v (.int .u64 0), .v (.int .u64 0)]⟩]) (G' := []) (k' := 1) hR hI (by kernel_rfl)
      (.cons (by omega : (0 : Int) ≤ (0 : Int) ∧ (0 : Int) < ((ws.length : Nat) : Int)) (.cons (nats_some (i := 0) (hx.cells.mono hB.cls) (by omega)) (.cons (nats_load (i := 0) (m := 1) (hx.cells.mono hB.cls) (by omega)) .nil))) (fun e4 a4 w4 hag hR hI => ?_)
  refine wp_ret ?_
  refine ret_block ?_
  refine ret_then ?_
  refine outN tab (xs := [.agg [.v (.int .i64 64), .v (.int .i32 0), .v (.int .i64 (IntKind.i64.wrap ((ws.getD 0 0 : Nat) : Int))), .v (.int .u64 0), .v (.int .i64 0), .v (.int .u64 0), .v (.int .u64 0), .v (.int .u64 0), .v (.int .u64 0)], .v (.bool true)]) hR hI rfl (by kernel_rfl) ?_
  exact ⟨rfl, hB.fin hR⟩

set_option maxHeartbeats 4000000 in
set_option maxRecDepth 100000 in
theorem decOf128_spec {C : Nat → Prop} {w : World} {ad : Option Addr} {cap : Nat} {ws : List Nat} (hx : Sl .u64 18446744073709551616 C w ad cap ws) (hl : ws.length = 2) :
    Calls P 15 #[.int .i64 128, .slice ad ws.length cap] w fun ex w' => ex = .returned (.tuple #[.agg #[.int .i64 128, .int .i32 0, .int .i64 0, .int .u64 ((ws.getD 0 0 : Nat) : Int), .int .i64 (IntKind.i64.wrap ((ws.getD 1 0 : Nat) : Int)), .int .u64 0, .int .u64 0, .int .u64 0, .int .u64 0], .bool true]) ∧ Keep (fun b => b < w.heap.size) w w' := by
  refine doorN (e := e0) (vs := [.v (.int .i64 128), .v (.slice ad ws.length cap)]) (n := 88) (m := 2) Try.func15 rfl rfl rfl (by decide) fun a_ hI => ?_
  replace hI : Is 88 [] e0 [(0, .v (.int .i64 128)), (1, .v (.slice ad ws.length cap))] a_ := hI
  have hR : Rel (fun b => b < w.heap.size) w e0 [] [] w := Rel.start (fun k hk => hk)
  have hB : Base C w C (fun b => b < w.heap.size) w := Base.start
  have hrx := hx.room; have hmx := hx.max; have hwb := i32_in ((ws.getD 0 0 : Nat) : Int)
  refine reg_seq tab (k := 0) (hs := []) (sy := []) (ks := [4, 0, 1]) (bs := [0]) (gs := [])
      (L' := [(4, .p 0 0), (0, .v (.int .i64 128)), (1, .v (.slice ad ws.length cap))])
      (H' := [⟨0, 51, [.v (.int .i64 0), .v (.int .i32 0), .v (.int .i64 0), .v (.int .u64 0), .v (.int .i64 0), .v (.int .u64 0), .v (.int .u64 0), .v (.int .u64 0), .v (.int .u64 0)]⟩]) (G' := []) (k' := 1) hR hI (by kernel_rfl)
      .nil (fun e1 a1 w1 hag hR hI => ?_)
  refine wp_seq ?_
  refine wp_block ?_
  refine regQ_seq tab (by kernel_rfl) (k := 1) (hs := []) (gs := []) (ks := [6, 4, 0, 1])
      (L' := [(6, .v (.bool false)), (4, .p 0 0), (0, .v (.int .i64 128)), (1, .v (.slice ad ws.length cap))]) hR hI (by kernel_rfl) (fun _ _ _ _ _ h => h) (by kernel_rfl)
      .nil (by kernel_rfl) (by kernel_rfl) (fun e2 a2 w2 hag hR hI => ?_)
  refine cnd_f hI (by kernel_rfl) ?_
  refine reg_seq tab (k := 1) (hs := []) (sy := []) (ks := [32, 4, 0, 1]) (bs := [0]) (gs := [])
      (L' := [(32, .v (.bool false)), (4, .p 0 0), (0, .v (.int .i64 128)), (1, .v (.slice ad ws.length cap))])
      (H' := [⟨0, 51, [.v (.int .i64 0), .v (.int .i32 0), .v (.int .i64 0), .v (.int .u64 0), .v (.int .i64 0), .v (.int .u64 0), .v (.int .u64 0), .v (.int .u64 0), .v (.int .u64 0)]⟩]) (G' := []) (k' := 1) hR hI (by kernel_rfl)
      .nil (fun e3 a3 w3 hag hR hI => ?_)
  refine cnd_f hI (by kernel_rfl) ?_
  refine reg_seq tab (k := 1) (hs := [(5, .eq (.bool true))]) (sy := []) (ks := [46, 4, 0, 1]) (bs := [0]) (gs := [])
      (L' := [(46, .v (.bool true)), (4, .p 0 0), (0, .v (.int .i64 128)), (1, .v (.slice ad ws.length cap))])
      (H' := [⟨0, 51, [.v (.int .i64 0), .v (.int .i32 0), .v (.int .i64 0), .v (.int .u64 0), .v (.int .i64 0), .v (.int .u64 0), .v (.int .u64 0), .v (.int .u64 0), .v (.int .u64 0)]⟩]) (G' := []) (k' := 1) hR hI (by kernel_rfl)
      (.cons (congrArg Value.bool (by rw [hl]; rfl : (((ws.length : Nat) : Int) == (2 : Int)) = true)) .nil) (fun e4 a4 w4 hag hR hI => ?_)
  refine cnd_t hI (by kernel_rfl) ?_
  refine wp_seq ?_
  refine regL 10 hR (by kernel_rfl) (fun hS => ?_)
  replace hR := hR.drew; have hF := hR.fore
  refine takeL tab (H := [⟨0, 51, [.v (.int .i64 0), .v (.int .i32 0), .v (.int .i64 0), .v (.int .u64 0), .v (.int .i64 0), .v (.int .u64 0), .v (.int .u64 0), .v (.int .u64 0), .v (.int .u64 0)]⟩]) (G := []) (hs := [(3, .val (.v (.int .u64 ((ws.getD 1 0 : Nat) : Int)))), (7, .val (.v (.int .u64 ((ws.getD 0 0 : Nat) : Int))))]) (gs := []) (is := [0, 1, 2, 3, 4, 5, 6, 7]) (ks := [61, 58, 54, 4]) (f' := 4)
      (L' := [(61, .v (.int .u64 ((ws.getD 0 0 : Nat) : Int))), (58, .v (.int .i64 (IntKind.i64.wrap ((ws.getD 1 0 : Nat) : Int)))), (54, .v (.int .i64 128)), (4, .p 0 0)]) hS hI (by kernel_rfl) (fun _ _ _ _ _ h => h) (by kernel_rfl)
      (.cons (by omega : (0 : Int) ≤ (1 : Int) ∧ (1 : Int) < ((ws.length : Nat) : Int)) (.cons (nats_some (i := 1) (hx.cells.mono hB.cls) (by omega)) (.cons (nats_load (i := 1) (m := 1) (hx.cells.mono hB.cls) (by omega)) (.cons (by omega : (0 : Int) ≤ (0 : Int) ∧ (0 : Int) < ((ws.length : Nat) : Int)) (.cons (nats_some (i := 0) (hx.cells.mono hB.cls) (by omega)) (.cons (nats_load (i := 0) (m := 1) (hx.cells.mono hB.cls) (by omega)) .nil)))))) (by kernel_rfl) (by kernel_rfl) (by kernel_rfl) (by rfl) (fun a5 hI => ?_)
  refine oneL (i := 8) (f' := 3) (by kernel_rfl) (by rfl) ?_
  refine callH (ys := [.v (.int .i64 (IntKind.i64.wrap ((ws.getD 1 0 : Nat) : Int))), .v (.int .u64 ((ws.getD 0 0 : Nat) : Int))]) hI rfl rfl ⟨_, rfl, rfl, rfl⟩ (by kernel_rfl) Try.func30 rfl rfl ?_
  refine (new128_spec (C := C) (IntKind.i64.wrap ((ws.getD 1 0 : Nat) : Int)) ((ws.getD 0 0 : Nat) : Int)).mono ?_
  rintro ex w6 ⟨rfl, hk⟩
  replace hS := hS.same hk; replace hR := hR.same hk; clear hk
  refine ⟨_, rfl, hS, ?_⟩
  replace hI := hI.put (d := some 62) (x := .v (.agg #[.int .u64 ((ws.getD 0 0 : Nat) : Int), .int .i64 (IntKind.i64.wrap ((ws.getD 1 0 : Nat) : Int))])) (by intro t ht; cases ht; decide) rfl
  replace hI := hI.sel [62, 61, 58, 54, 4] (by kernel_rfl : sel _ _ = some [(62, .v (.agg #[.int .u64 ((ws.getD 0 0 : Nat) : Int), .int .i64 (IntKind.i64.wrap ((ws.getD 1 0 : Nat) : Int))])), (61, .v (.int .u64 ((ws.getD 0 0 : Nat) : Int))), (58, .v (.int .i64 (IntKind.i64.wrap ((ws.getD 1 0 : Nat) : Int)))), (54, .v (.int .i64 128)), (4, .p 0 0)])
  refine takeL tab (H := [⟨0, 51, [.v (.int .i64 0), .v (.int .i32 0), .v (.int .i64 0), .v (.int .u64 0), .v (.int .i64 0), .v (.int .u64 0), .v (.int .u64 0), .v (.int .u64 0), .v (.int .u64 0)]⟩]) (G := []) (hs := []) (gs := []) (is := [9]) (ks := [63, 4]) (f' := 2)
      (L' := [(63, .agg [.v (.int .i64 128), .v (.int .i32 0), .v (.int .i64 0), .v (.int .u64 ((ws.getD 0 0 : Nat) : Int)), .v (.int .i64 (IntKind.i64.wrap ((ws.getD 1 0 : Nat) : Int))), .v (.int .u64 0), .v (.int .u64 0), .v (.int .u64 0), .v (.int .u64 0)]), (4, .p 0 0)]) hS hI (by kernel_rfl) (fun _ _ _ _ _ h => h) (by kernel_rfl)
      .nil (by kernel_rfl) (by kernel_rfl) (by kernel_rfl) (by rfl) (fun a7 hI => ?_)
  refine endL (i := 10) (f' := 1) (by kernel_rfl) (by rfl) (by kernel_rfl) ?_
  refine effH tab (k := 1) (hh := .no) (r := ⟨.v (undef), [⟨0, 51, [.v (.int .i64 128), .v (.int .i32 0), .v (.int .i64 0), .v (.int .u64 ((ws.getD 0 0 : Nat) : Int)), .v (.int .i64 (IntKind.i64.wrap ((ws.getD 1 0 : Nat) : Int))), .v (.int .u64 0), .v (.int .u64 0), .v (.int .u64 0), .v (.int .u64 0)]⟩], [], 1, _, true⟩) hR hI (by kernel_rfl) rfl rfl rfl (by kernel_rfl) .nil (fun e8 a8 w8 hag hR2 hI => ?_)
  replace hR := hR2; clear hR2
  replace hI := hI.sel [63, 4] (by kernel_rfl : sel _ _ = some [(63, .agg [.v (.int .i64 128), .v (.int .i32 0), .v (.int .i64 0), .v (.int .u64 ((ws.getD 0 0 : Nat) : Int)), .v (.int .i64 (IntKind.i64.wrap ((ws.getD 1 0 : Nat) : Int))), .v (.int .u64 0), .v (.int .u64 0), .v (.int .u64 0), .v (.int .u64 0)]), (4, .p 0 0)])
  refine endL (i := 11) (f' := 0) (by kernel_rfl) (by rfl) (by kernel_rfl) ?_
  refine quietL tab (hh := .no) (x := .v (.bool true)) hR hI rfl rfl rfl (by kernel_rfl) .nil (fun a9 hI => ?_)
  replace hI := hI.sel [5, 63, 4] (by kernel_rfl : sel _ _ = some [(5, .v (.bool true)), (63, .agg [.v (.int .i64 128), .v (.int .i32 0), .v (.int .i64 0), .v (.int .u64 ((ws.getD 0 0 : Nat) : Int)), .v (.int .i64 (IntKind.i64.wrap ((ws.getD 1 0 : Nat) : Int))), .v (.int .u64 0), .v (.int .u64 0), .v (.int .u64 0), .v (.int .u64 0)]), (4, .p 0 0)])
  refine doneL (by kernel_rfl) ?_
  refine then_n ?_
  replace hI := hI.sel [5, 4] (by kernel_rfl : sel _ _ = some [(5, .v (.bool true)), (4, .p 0 0)]); replace hR := hR.sel [0] [] (by kernel_rfl : selH _ _ = some [⟨0, 51, [.v (.int .i64 128), .v (.int .i32 0), .v (.int .i64 0), .v (.int .u64 ((ws.getD 0 0 : Nat) : Int)), .v (.int .i64 (IntKind.i64.wrap ((ws.getD 1 0 : Nat) : Int))), .v (.int .u64 0), .v (.int .u64 0), .v (.int .u64 0), .v (.int .u64 0)]⟩]) (by kernel_rfl : selG _ _ = some [])
  refine wp_ret ?_
  refine ret_block ?_
  refine ret_then ?_
  refine outN tab (xs := [.agg [.v (.int .i64 128), .v (.int .i32 0), .v (.int .i64 0), .v (.int .u64 ((ws.getD 0 0 : Nat) : Int)), .v (.int .i64 (IntKind.i64.wrap ((ws.getD 1 0 : Nat) : Int))), .v (.int .u64 0), .v (.int .u64 0), .v (.int .u64 0), .v (.int .u64 0)], .v (.bool true)]) hR hI rfl (by kernel_rfl) ?_
  exact ⟨rfl, hB.fin hR⟩

set_option maxHeartbeats 4000000 in
set_option maxRecDepth 100000 in
theorem words32_spec {C : Nat → Prop} {w : World} {p2 p3 p4 : Int} (d : Int) (hd : -2147483648 ≤ d ∧ d ≤ 2147483647) :
    Calls P 19 #[.agg #[.int .i64 32, .int .i32 d, .int .i64 p2, .int .u64 p3, .int .i64 p4, .int .u64 0, .int .u64 0, .int .u64 0, .int .u64 0]] w fun ex w' => ∃ wd wc ws, ex = .returned (.slice wd (List.length ws) wc) ∧ Keep (fun b => b < w.heap.size) w w' ∧ Sl .u64 18446744073709551616 (Grow C w w') w' wd wc ws ∧ ∃ m : Nat, ws = [m] ∧ IntKind.u64.wrap d = (m : Int) := by
  refine doorN (e := e0) (vs := [.v (.agg #[.int .i64 32, .int .i32 d, .int .i64 p2, .int .u64 p3, .int .i64 p4, .int .u64 0, .int .u64 0, .int .u64 0, .int .u64 0])]) (n := 33) (m := 1) Try.func19 rfl rfl rfl (by decide) fun a_ hI => ?_
  replace hI : Is 33 [] e0 [(0, .v (.agg #[.int .i64 32, .int .i32 d, .int .i64 p2, .int .u64 p3, .int .i64 p4, .int .u64 0, .int .u64 0, .int .u64 0, .int .u64 0]))] a_ := hI
  have hR : Rel (fun b => b < w.heap.size) w e0 [] [] w := Rel.start (fun k hk => hk)
  have hB : Base C w C (fun b => b < w.heap.size) w := Base.start
  obtain ⟨m, hm, hmb⟩ := u64_nat d
  refine reg_seq tab (k := 0) (hs := []) (sy := []) (ks := [1]) (bs := [0]) (gs := [])
      (L' := [(1, .p 0 0)])
      (H' := [⟨0, 51, [.v (.int .i64 32), .v (.int .i32 d), .v (.int .i64 p2), .v (.int .u64 p3), .v (.int .i64 p4), .v (.int .u64 0), .v (.int .u64 0), .v (.int .u64 0), .v (.int .u64 0)]⟩]) (G' := []) (k' := 1) hR hI (by kernel_rfl)
      .nil (fun e1 a1 w1 hag hR hI => ?_)
  refine wp_seq ?_
  refine reg_seq tab (k := 1) (hs := []) (sy := []) (ks := [5, 1]) (bs := [0]) (gs := [])
      (L' := [(5, .v (.int .i64 32)), (1, .p 0 0)])
      (H' := [⟨0, 51, [.v (.int .i64 32), .v (.int .i32 d), .v (.int .i64 p2), .v (.int .u64 p3), .v (.int .i64 p4), .v (.int .u64 0), .v (.int .u64 0), .v (.int .u64 0), .v (.int .u64 0)]⟩]) (G' := []) (k' := 1) hR hI (by kernel_rfl)
      .nil (fun e2 a2 w2 hag hR hI => ?_)
  refine wp_block ?_
  refine reg_seq tab (k := 1) (hs := []) (sy := []) (ks := [6, 5, 1]) (bs := [0]) (gs := [])
      (L' := [(6, .v (.bool true)), (5, .v (.int .i64 32)), (1, .p 0 0)])
      (H' := [⟨0, 51, [.v (.int .i64 32), .v (.int .i32 d), .v (.int .i64 p2), .v (.int .u64 p3), .v (.int .i64 p4), .v (.int .u64 0), .v (.int .u64 0), .v (.int .u64 0), .v (.int .u64 0)]⟩]) (G' := []) (k' := 1) hR hI (by kernel_rfl)
      .nil (fun e3 a3 w3 hag hR hI => ?_)
  refine cnd_t hI (by kernel_rfl) ?_
  refine reg_seq tab (k := 1) (hs := [(2, .nw), (3, .eq (.int .u64 ((m : Nat) : Int)))]) (sy := []) (ks := [2]) (bs := [1]) (gs := [])
      (L' := [(2, .sl 1 0 1 1)])
      (H' := [⟨1, 35, [.v (.int .u64 ((m : Nat) : Int))]⟩]) (G' := []) (k' := 2) hR hI (by kernel_rfl)
      (.cons (inR_i64 (n := d) (by omega)) (.cons (congrArg (Value.int .u64) (hm : IntKind.u64.wrap d = ((m : Nat) : Int))) .nil)) (fun e4 a4 w4 hag hR hI => ?_)
  refine wp_ret ?_
  refine ret_block ?_
  refine ret_then ?_
  obtain ⟨e5, hag_, hr_, hR_⟩ := hR.litRow (L := [(2, .sl 1 0 1 1)]) 2 [] (by kernel_rfl) (b := ⟨1, 35, [.v (.int .u64 ((m : Nat) : Int))]⟩) (by simp) (by simp) (n := 1) (sz := 1) (xs := ints .u64 [m]) rfl rfl (by decide)
  replace hI := hI.agreeB (H := []) (G := []) (by kernel_rfl) hag_; replace hR := hR_; replace hI := hI.re 2 (.row 2) rfl hr_.symm; clear hag_ hr_ hR_
  obtain ⟨hB_, hR_, hrel_, wd, wc, hv_, hcells_, hlen_, hcap_, hmax_⟩ := hB.release hR (y := ⟨2, 35, 1, 1, (ints .u64 [m])⟩) (by simp) rfl _ dropN_mem
  have hw : Sl .u64 18446744073709551616 _ _ wd wc [m] := ⟨hcells_, (dig64_1 hmb), (by dsimp only at hlen_ hcap_; rw [ints_length] at hlen_; omega), hmax_⟩
  replace hI := hI.re 2 (.v (.slice wd 1 wc)) rfl hv_
  replace hB := hB_; replace hR := hR_.sel [] [] (by kernel_rfl : selH _ _ = some []) (by kernel_rfl : selG _ _ = some []); clear hB_ hR_ hrel_ hcells_ hv_
  refine outN tab (xs := [.v (.slice wd 1 wc)]) hR hI rfl (by kernel_rfl) ?_
  exact ⟨wd, wc, [m], rfl, hB.fin hR, hw.fin hB hR, m, rfl, hm⟩

set_option maxHeartbeats 4000000 in
set_option maxRecDepth 100000 in
theorem words64_spec {C : Nat → Prop} {w : World} {p1 p3 p4 : Int} (d : Int) :
    Calls P 19 #[.agg #[.int .i64 64, .int .i32 p1, .int .i64 d, .int .u64 p3, .int .i64 p4, .int .u64 0, .int .u64 0, .int .u64 0, .int .u64 0]] w fun ex w' => ∃ wd wc ws, ex = .returned (.slice wd (List.length ws) wc) ∧ Keep (fun b => b < w.heap.size) w w' ∧ Sl .u64 18446744073709551616 (Grow C w w') w' wd wc ws ∧ ∃ m : Nat, ws = [m] ∧ IntKind.u64.wrap d = (m : Int) := by
  refine doorN (e := e0) (vs := [.v (.agg #[.int .i64 64, .int .i32 p1, .int .i64 d, .int .u64 p3, .int .i64 p4, .int .u64 0, .int .u64 0, .int .u64 0, .int .u64 0])]) (n := 33) (m := 1) Try.func19 rfl rfl rfl (by decide) fun a_ hI => ?_
  replace hI : Is 33 [] e0 [(0, .v (.agg #[.int .i64 64, .int .i32 p1, .int .i64 d, .int .u64 p3, .int .i64 p4, .int .u64 0, .int .u64 0, .int .u64 0, .int .u64 0]))] a_ := hI
  have hR : Rel (fun b => b < w.heap.size) w e0 [] [] w := Rel.start (fun k hk => hk)
  have hB : Base C w C (fun b => b < w.heap.size) w := Base.start
  obtain ⟨m, hm, hmb⟩ := u64_nat d
  refine reg_seq tab (k := 0) (hs := []) (sy := []) (ks := [1]) (bs := [0]) (gs := [])
      (L' := [(1, .p 0 0)])
      (H' := [⟨0, 51, [.v (.int .i64 64), .v (.int .i32 p1), .v (.int .i64 d), .v (.int .u64 p3), .v (.int .i64 p4), .v (.int .u64 0), .v (.int .u64 0), .v (.int .u64 0), .v (.int .u64 0)]⟩]) (G' := []) (k' := 1) hR hI (by kernel_rfl)
      .nil (fun e1 a1 w1 hag hR hI => ?_)
  refine wp_seq ?_
  refine reg_seq tab (k := 1) (hs := []) (sy := []) (ks := [5, 1]) (bs := [0]) (gs := [])
      (L' := [(5, .v (.int .i64 64)), (1, .p 0 0)])
      (H' := [⟨0, 51, [.v (.int .i64 64), .v (.int .i32 p1), .v (.int .i64 d), .v (.int .u64 p3), .v (.int .i64 p4), .v (.int .u64 0), .v (.int .u64 0), .v (.int .u64 0), .v (.int .u64 0)]⟩]) (G' := []) (k' := 1) hR hI (by kernel_rfl)
      .nil (fun e2 a2 w2 hag hR hI => ?_)
  refine wp_block ?_
  refine reg_seq tab (k := 1) (hs := []) (sy := []) (ks := [6, 5, 1]) (bs := [0]) (gs := [])
      (L' := [(6, .v (.bool false)), (5, .v (.int .i64 64)), (1, .p 0 0)])
      (H' := [⟨0, 51, [.v (.int .i64 64), .v (.int .i32 p1), .v (.int .i64 d), .v (.int .u64 p3), .v (.int .i64 p4), .v (.int .u64 0), .v (.int .u64 0), .v (.int .u64 0), .v (.int .u64 0)]⟩]) (G' := []) (k' := 1) hR hI (by kernel_rfl)
      .nil (fun e3 a3 w3 hag hR hI => ?_)
  refine cnd_f hI (by kernel_rfl) ?_
  refine reg_seq tab (k := 1) (hs := []) (sy := []) (ks := [13, 5, 1]) (bs := [0]) (gs := [])
      (L' := [(13, .v (.bool true)), (5, .v (.int .i64 64)), (1, .p 0 0)])
      (H' := [⟨0, 51, [.v (.int .i64 64), .v (.int .i32 p1), .v (.int .i64 d), .v (.int .u64 p3), .v (.int .i64 p4), .v (.int .u64 0), .v (.int .u64 0), .v (.int .u64 0), .v (.int .u64 0)]⟩]) (G' := []) (k' := 1) hR hI (by kernel_rfl)
      .nil (fun e4 a4 w4 hag hR hI => ?_)
  refine cnd_t hI (by kernel_rfl) ?_
  refine reg_seq tab (k := 1) (hs := [(2, .eq (.int .u64 ((m : Nat) : Int)))]) (sy := []) (ks := [2]) (bs := [1]) (gs := [])
      (L' := [(2, .sl 1 0 1 1)])
      (H' := [⟨1, 35, [.v (.int .u64 ((m : Nat) : Int))]⟩]) (G' := []) (k' := 2) hR hI (by kernel_rfl)
      (.cons (congrArg (Value.int .u64) (hm : IntKind.u64.wrap d = ((m : Nat) : Int))) .nil) (fun e5 a5 w5 hag hR hI => ?_)
  refine wp_ret ?_
  refine ret_block ?_
  refine ret_then ?_
  obtain ⟨e6, hag_, hr_, hR_⟩ := hR.litRow (L := [(2, .sl 1 0 1 1)]) 2 [] (by kernel_rfl) (b := ⟨1, 35, [.v (.int .u64 ((m : Nat) : Int))]⟩) (by simp) (by simp) (n := 1) (sz := 1) (xs := ints .u64 [m]) rfl rfl (by decide)
  replace hI := hI.agreeB (H := []) (G := []) (by kernel_rfl) hag_; replace hR := hR_; replace hI := hI.re 2 (.row 2) rfl hr_.symm; clear hag_ hr_ hR_
  obtain ⟨hB_, hR_, hrel_, wd, wc, hv_, hcells_, hlen_, hcap_, hmax_⟩ := hB.release hR (y := ⟨2, 35, 1, 1, (ints .u64 [m])⟩) (by simp) rfl _ dropN_mem
  have hw : Sl .u64 18446744073709551616 _ _ wd wc [m] := ⟨hcells_, (dig64_1 hmb), (by dsimp only at hlen_ hcap_; rw [ints_length] at hlen_; omega), hmax_⟩
  replace hI := hI.re 2 (.v (.slice wd 1 wc)) rfl hv_
  replace hB := hB_; replace hR := hR_.sel [] [] (by kernel_rfl : selH _ _ = some []) (by kernel_rfl : selG _ _ = some []); clear hB_ hR_ hrel_ hcells_ hv_
  refine outN tab (xs := [.v (.slice wd 1 wc)]) hR hI rfl (by kernel_rfl) ?_
  exact ⟨wd, wc, [m], rfl, hB.fin hR, hw.fin hB hR, m, rfl, hm⟩

set_option maxHeartbeats 4000000 in
set_option maxRecDepth 100000 in
theorem words128_spec {C : Nat → Prop} {w : World} {p1 p2 : Int} (l : Nat) (d : Int) (hlb : l < 18446744073709551616) :
    Calls P 19 #[.agg #[.int .i64 128, .int .i32 p1, .int .i64 p2, .int .u64 ((l : Nat) : Int), .int .i64 d, .int .u64 0, .int .u64 0, .int .u64 0, .int .u64 0]] w fun ex w' => ∃ wd wc ws, ex = .returned (.slice wd (List.length ws) wc) ∧ Keep (fun b => b < w.heap.size) w w' ∧ Sl .u64 18446744073709551616 (Grow C w w') w' wd wc ws ∧ ∃ m : Nat, ws = [l, m] ∧ IntKind.u64.wrap d = (m : Int) := by
  refine doorN (e := e0) (vs := [.v (.agg #[.int .i64 128, .int .i32 p1, .int .i64 p2, .int .u64 ((l : Nat) : Int), .int .i64 d, .int .u64 0, .int .u64 0, .int .u64 0, .int .u64 0])]) (n := 33) (m := 1) Try.func19 rfl rfl rfl (by decide) fun a_ hI => ?_
  replace hI : Is 33 [] e0 [(0, .v (.agg #[.int .i64 128, .int .i32 p1, .int .i64 p2, .int .u64 ((l : Nat) : Int), .int .i64 d, .int .u64 0, .int .u64 0, .int .u64 0, .int .u64 0]))] a_ := hI
  have hR : Rel (fun b => b < w.heap.size) w e0 [] [] w := Rel.start (fun k hk => hk)
  have hB : Base C w C (fun b => b < w.heap.size) w := Base.start
  obtain ⟨m, hm, hmb⟩ := u64_nat d
  refine reg_seq tab (k := 0) (hs := []) (sy := []) (ks := [1]) (bs := [0]) (gs := [])
      (L' := [(1, .p 0 0)])
      (H' := [⟨0, 51, [.v (.int .i64 128), .v (.int .i32 p1), .v (.int .i64 p2), .v (.int .u64 ((l : Nat) : Int)), .v (.int .i64 d), .v (.int .u64 0), .v (.int .u64 0), .v (.int .u64 0), .v (.int .u64 0)]⟩]) (G' := []) (k' := 1) hR hI (by kernel_rfl)
      .nil (fun e1 a1 w1 hag hR hI => ?_)
  refine wp_seq ?_
  refine reg_seq tab (k := 1) (hs := []) (sy := []) (ks := [5, 1]) (bs := [0]) (gs := [])
      (L' := [(5, .v (.int .i64 128)), (1, .p 0 0)])
      (H' := [⟨0, 51, [.v (.int .i64 128), .v (.int .i32 p1), .v (.int .i64 p2), .v (.int .u64 ((l : Nat) : Int)), .v (.int .i64 d), .v (.int .u64 0), .v (.int .u64 0), .v (.int .u64 0), .v (.int .u64 0)]⟩]) (G' := []) (k' := 1) hR hI (by kernel_rfl)
      .nil (fun e2 a2 w2 hag hR hI => ?_)
  refine wp_block ?_
  refine reg_seq tab (k := 1) (hs := []) (sy := []) (ks := [6, 5, 1]) (bs := [0]) (gs := [])
      (L' := [(6, .v (.bool false)), (5, .v (.int .i64 128)), (1, .p 0 0)])
      (H' := [⟨0, 51, [.v (.int .i64 128), .v (.int .i32 p1), .v (.int .i64 p2), .v (.int .u64 ((l : Nat) : Int)), .v (.int .i64 d), .v (.int .u64 0), .v (.int .u64 0), .v (.int .u64 0), .v (.int .u64 0)]⟩]) (G' := []) (k' := 1) hR hI (by kernel_rfl)
      .nil (fun e3 a3 w3 hag hR hI => ?_)
  refine cnd_f hI (by kernel_rfl) ?_
  refine reg_seq tab (k := 1) (hs := []) (sy := []) (ks := [13, 5, 1]) (bs := [0]) (gs := [])
      (L' := [(13, .v (.bool false)), (5, .v (.int .i64 128)), (1, .p 0 0)])
      (H' := [⟨0, 51, [.v (.int .i64 128), .v (.int .i32 p1), .v (.int .i64 p2), .v (.int .u64 ((l : Nat) : Int)), .v (.int .i64 d), .v (.int .u64 0), .v (.int .u64 0), .v (.int .u64 0), .v (.int .u64 0)]⟩]) (G' := []) (k' := 1) hR hI (by kernel_rfl)
      .nil (fun e4 a4 w4 hag hR hI => ?_)
  refine cnd_f hI (by kernel_rfl) ?_
  refine reg_seq tab (k := 1) (hs := []) (sy := []) (ks := [19, 1]) (bs := [0]) (gs := [])
      (L' := [(19, .v (.bool true)), (1, .p 0 0)])
      (H' := [⟨0, 51, [.v (.int .i64 128), .v (.int .i32 p1), .v (.int .i64 p2), .v (.int .u64 ((l : Nat) : Int)), .v (.int .i64 d), .v (.int .u64 0), .v (.int .u64 0), .v (.int .u64 0), .v (.int .u64 0)]⟩]) (G' := []) (k' := 1) hR hI (by kernel_rfl)
      .nil (fun e5 a5 w5 hag hR hI => ?_)
  refine cnd_t hI (by kernel_rfl) ?_
  refine wp_seq ?_
  refine regL 8 hR (by kernel_rfl) (fun hS => ?_)
  replace hR := hR.drew; have hF := hR.fore
  refine takeL tab (H := [⟨0, 51, [.v (.int .i64 128), .v (.int .i32 p1), .v (.int .i64 p2), .v (.int .u64 ((l : Nat) : Int)), .v (.int .i64 d), .v (.int .u64 0), .v (.int .u64 0), .v (.int .u64 0), .v (.int .u64 0)]⟩]) (G := []) (hs := []) (gs := []) (is := [0, 1, 3, 4]) (ks := [25, 22]) (f' := 5)
      (L' := [(25, .agg [.v (.int .u64 ((l : Nat) : Int)), .v (.int .i64 d)]), (22, .agg [.v (.int .u64 ((l : Nat) : Int)), .v (.int .i64 d)])]) hS hI (by kernel_rfl) (fun _ _ _ _ _ h => h) (by kernel_rfl)
      .nil (by kernel_rfl) (by kernel_rfl) (by kernel_rfl) (by rfl) (fun a6 hI => ?_)
  refine oneL (i := 2) (f' := 4) (by kernel_rfl) (by rfl) ?_
  refine callH (ys := [.agg [.v (.int .u64 ((l : Nat) : Int)), .v (.int .i64 d)]]) hI rfl rfl ⟨_, rfl, rfl, rfl⟩ (by kernel_rfl) Try.func33 rfl rfl ?_
  refine (lowBits_spec (C := C) d ((l : Nat) : Int)).mono ?_
  rintro ex w7 ⟨rfl, hk⟩
  replace hS := hS.same hk; replace hR := hR.same hk; clear hk
  refine ⟨_, rfl, hS, ?_⟩
  replace hI := hI.put (d := some 23) (x := .v (.int .u64 ((l : Nat) : Int))) (by intro t ht; cases ht; decide) rfl
  replace hI := hI.sel [23, 25, 22] (by kernel_rfl : sel _ _ = some [(23, .v (.int .u64 ((l : Nat) : Int))), (25, .agg [.v (.int .u64 ((l : Nat) : Int)), .v (.int .i64 d)]), (22, .agg [.v (.int .u64 ((l : Nat) : Int)), .v (.int .i64 d)])])
  refine oneL (i := 5) (f' := 3) (by kernel_rfl) (by rfl) ?_
  refine callH (ys := [.agg [.v (.int .u64 ((l : Nat) : Int)), .v (.int .i64 d)]]) hI rfl rfl ⟨_, rfl, rfl, rfl⟩ (by kernel_rfl) Try.func34 rfl rfl ?_
  refine (highBits_spec (C := C) d ((l : Nat) : Int)).mono ?_
  rintro ex w8 ⟨rfl, hk⟩
  replace hS := hS.same hk; replace hR := hR.same hk; clear hk
  refine ⟨_, rfl, hS, ?_⟩
  replace hI := hI.put (d := some 26) (x := .v (.int .i64 d)) (by intro t ht; cases ht; decide) rfl
  replace hI := hI.sel [26, 23, 25, 22] (by kernel_rfl : sel _ _ = some [(26, .v (.int .i64 d)), (23, .v (.int .u64 ((l : Nat) : Int))), (25, .agg [.v (.int .u64 ((l : Nat) : Int)), .v (.int .i64 d)]), (22, .agg [.v (.int .u64 ((l : Nat) : Int)), .v (.int .i64 d)])])
  refine takeL tab (H := [⟨0, 51, [.v (.int .i64 128), .v (.int .i32 p1), .v (.int .i64 p2), .v (.int .u64 ((l : Nat) : Int)), .v (.int .i64 d), .v (.int .u64 0), .v (.int .u64 0), .v (.int .u64 0), .v (.int .u64 0)]⟩]) (G := []) (hs := [(6, .eq (.int .u64 ((m : Nat) : Int)))]) (gs := []) (is := [6]) (ks := [27, 23]) (f' := 2)
      (L' := [(27, .v (.int .u64 ((m : Nat) : Int))), (23, .v (.int .u64 ((l : Nat) : Int)))]) hS hI (by kernel_rfl) (fun _ _ _ _ _ h => h) (by kernel_rfl)
      (.cons (congrArg (Value.int .u64) (hm : IntKind.u64.wrap d = ((m : Nat) : Int))) .nil) (by kernel_rfl) (by kernel_rfl) (by kernel_rfl) (by rfl) (fun a9 hI => ?_)
  refine oneL (i := 7) (f' := 1) (by kernel_rfl) (by rfl) ?_
  refine effH tab (k := 1) (hh := .no) (r := ⟨.sl 1 0 2 2, [⟨1, 35, [.v (.int .u64 ((l : Nat) : Int)), .v (.int .u64 ((m : Nat) : Int))]⟩, ⟨0, 51, [.v (.int .i64 128), .v (.int .i32 p1), .v (.int .i64 p2), .v (.int .u64 ((l : Nat) : Int)), .v (.int .i64 d), .v (.int .u64 0), .v (.int .u64 0), .v (.int .u64 0), .v (.int .u64 0)]⟩], [], 2, _, false⟩) hR hI (by kernel_rfl) rfl rfl rfl (by kernel_rfl) .nil (fun e10 a10 w10 hag hR2 hI => ?_)
  replace hS := Rel.old (k := 1) hS hR hR2 hF hag [0] [] (by kernel_rfl) (by kernel_rfl) (by kernel_rfl); replace hR := hR2
  refine ⟨hS, ?_⟩
  refine wpL_env hag (by kernel_rfl) ?_
  replace hS := hS.agree (k := 1) (L := []) (Wf.of (by kernel_rfl)) hag
  replace hI := hI.sel [28, 27, 23] (by kernel_rfl : sel _ _ = some [(28, .sl 1 0 2 2), (27, .v (.int .u64 ((m : Nat) : Int))), (23, .v (.int .u64 ((l : Nat) : Int)))])
  refine endL (i := 8) (f' := 0) (by kernel_rfl) (by rfl) (by kernel_rfl) ?_
  refine quietL tab (hh := .no) (x := .sl 1 0 2 2) hR hI rfl rfl rfl (by kernel_rfl) .nil (fun a11 hI => ?_)
  replace hI := hI.sel [2, 28, 27, 23] (by kernel_rfl : sel _ _ = some [(2, .sl 1 0 2 2), (28, .sl 1 0 2 2), (27, .v (.int .u64 ((m : Nat) : Int))), (23, .v (.int .u64 ((l : Nat) : Int)))])
  refine doneL (by kernel_rfl) ?_
  refine then_n ?_
  replace hI := hI.sel [2] (by kernel_rfl : sel _ _ = some [(2, .sl 1 0 2 2)]); replace hR := hR.sel [1] [] (by kernel_rfl : selH _ _ = some [⟨1, 35, [.v (.int .u64 ((l : Nat) : Int)), .v (.int .u64 ((m : Nat) : Int))]⟩]) (by kernel_rfl : selG _ _ = some [])
  refine wp_ret ?_
  refine ret_block ?_
  refine ret_then ?_
  obtain ⟨e12, hag_, hr_, hR_⟩ := hR.litRow (L := [(2, .sl 1 0 2 2)]) 2 [] (by kernel_rfl) (b := ⟨1, 35, [.v (.int .u64 ((l : Nat) : Int)), .v (.int .u64 ((m : Nat) : Int))]⟩) (by simp) (by simp) (n := 2) (sz := 1) (xs := ints .u64 [l, m]) rfl rfl (by decide)
  replace hI := hI.agreeB (H := []) (G := []) (by kernel_rfl) hag_; replace hR := hR_; replace hI := hI.re 2 (.row 2) rfl hr_.symm; clear hag_ hr_ hR_
  obtain ⟨hB_, hR_, hrel_, wd, wc, hv_, hcells_, hlen_, hcap_, hmax_⟩ := hB.release hR (y := ⟨2, 35, 1, 2, (ints .u64 [l, m])⟩) (by simp) rfl _ dropN_mem
  have hw : Sl .u64 18446744073709551616 _ _ wd wc [l, m] := ⟨hcells_, (dig64_2 hlb hmb), (by dsimp only at hlen_ hcap_; rw [ints_length] at hlen_; omega), hmax_⟩
  replace hI := hI.re 2 (.v (.slice wd 2 wc)) rfl hv_
  replace hB := hB_; replace hR := hR_.sel [] [] (by kernel_rfl : selH _ _ = some []) (by kernel_rfl : selG _ _ = some []); clear hB_ hR_ hrel_ hcells_ hv_
  refine outN tab (xs := [.v (.slice wd 2 wc)]) hR hI rfl (by kernel_rfl) ?_
  exact ⟨wd, wc, [l, m], rfl, hB.fin hR, hw.fin hB hR, m, rfl, hm⟩

end Go.Proofs.Yteipgknmhpilfaa.Stride
