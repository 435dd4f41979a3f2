/- Walks of the program's functions, printed by a program of mine (walk.py) over the words of Stride: each function's contract. -/
import Derived.Test.YtmendapdibnbdaaGreatDoorDfC
import Derived.ChangeKeysEq
namespace Go.Proofs.YtmendapdibnbdaaGreatDoor.Stride
open Go Go.RowKit Go.Proofs.YtmendapdibnbdaaGreatDoor.Mag
set_option linter.unusedVariables false
set_option linter.unusedSimpArgs false
set_option maxHeartbeats 4000000
set_option maxRecDepth 100000
theorem wd_zero {C : Nat → Prop} {w : World} {n : Bool} {ad : Option Addr} {cap L : Nat} {xs : List Nat} {z : Int} (h : Wd C w n ad cap xs z L) : z = 0 ↔ val xs = 0 := by
 rw [← h.eq]
 cases n <;> simp only [sg] <;> omega
theorem len_two {ws : List Nat} (h : ws.length = 2) : ∃ x y, ws = [x, y] := by
 match ws, h with
 | [x, y], _ => exact ⟨x, y, rfl⟩
theorem len_four {ws : List Nat} (h : ws.length = 4) : ∃ a b c d, ws = [a, b, c, d] := by
 match ws, h with
 | [a, b, c, d], _ => exact ⟨a, b, c, d, rfl⟩
theorem swv_two {x y : Nat} (hy : y < 18446744073709551616) : swv [x, y] = (x : Int) + 18446744073709551616 * IntKind.i64.wrap (y : Int) := by
 rw [IntKind.wrap_i64]
 have e1 : wval [x, y] = x + 18446744073709551616 * y := by simp [wval]
 by_cases h : 9223372036854775808 ≤ y
 ·
  rw [swv_neg (ws := [x, y]) ⟨by simp, h⟩]
  have e2 : ((2 ^ (64 * [x, y].length) : Nat) : Int) = 340282366920938463463374607431768211456 := by
   show ((2 ^ (64 * 2) : Nat) : Int) = 340282366920938463463374607431768211456
   decide
  rw [e1, e2]; omega
 · rw [swv_pos (ws := [x, y]) (fun h' => h h'.2), e1]; omega
def NotLeast (k v : Int) : Prop := (k = 128 → v ≠ -170141183460469231731687303715884105728) ∧ (k = 256 → v ≠ -57896044618658097711785492504343953926634992332820282019728792003956564819968)
theorem abs128 {x y : Nat} (hx : x < 18446744073709551616) (hy : y < 18446744073709551616) (h : NotLeast 128 (swv [x, y])) : Int.natAbs ((x : Int) + 18446744073709551616 * IntKind.i64.wrap (y : Int)) < 2 ^ 127 := by
 have e : 2 ^ 127 = 170141183460469231731687303715884105728 := by decide
 have h1 := h.1 rfl
 rw [swv_two hy] at h1
 rw [IntKind.wrap_i64] at h1 ⊢
 rw [e]; omega
theorem abs256 {a b c d : Nat} (hq : a < 18446744073709551616 ∧ b < 18446744073709551616 ∧ c < 18446744073709551616 ∧ d < 18446744073709551616) (h : NotLeast 256 (swv [a, b, c, d])) : Int.natAbs (swv [a, b, c, d]) < 2 ^ 255 := by
 have e : 2 ^ 255 = 57896044618658097711785492504343953926634992332820282019728792003956564819968 := by decide
 have h1 := h.2 rfl
 have h2 := nval4_lt hq
 rw [e]
 rw [swv4] at h1 ⊢
 simp only [nval] at h1 h2 ⊢
 split at h1 <;> rename_i h3
 · rw [if_pos h3]; omega
 · rw [if_neg h3]; omega
theorem dec_wide {k : Int} {ws : List Nat} (h : decOK k ws) (h128 : ¬ k < 128) : k = 128 ∧ ws.length = 2 ∨ k = 256 ∧ ws.length = 4 := by
 have h1 : k = 32 ∨ k = 64 ∨ k = 128 ∨ k = 256 := of_decide_eq_true h.1
 rcases h1 with rfl | rfl | rfl | rfl
 · omega
 · omega
 · exact .inl ⟨rfl, h.2.1⟩
 · exact .inr ⟨rfl, h.2.1⟩
theorem tells_three {us : List Nat} (hu : ∀ d ∈ us, d < 18446744073709551616) (h : Tells 128 (Int.tdiv (((([6, 0] : List Nat).getD 0 0 : Nat) : Int) + 18446744073709551616 * IntKind.i64.wrap ((([6, 0] : List Nat).getD 1 0 : Nat) : Int)) (((([2, 0] : List Nat).getD 0 0 : Nat) : Int) + 18446744073709551616 * IntKind.i64.wrap ((([2, 0] : List Nat).getD 1 0 : Nat) : Int))) us) : us = [3, 0] := by
 refine wval_inj (h.1.trans (by decide)) hu (dig2 (by decide) (by decide)) ?_
 have h2 := h.2
 have e : (Int.tdiv (((([6, 0] : List Nat).getD 0 0 : Nat) : Int) + 18446744073709551616 * IntKind.i64.wrap ((([6, 0] : List Nat).getD 1 0 : Nat) : Int)) (((([2, 0] : List Nat).getD 0 0 : Nat) : Int) + 18446744073709551616 * IntKind.i64.wrap ((([2, 0] : List Nat).getD 1 0 : Nat) : Int))) % ((2 ^ (64 * nwords 128) : Nat) : Int) = 3 := by decide
 rw [e] at h2
 have e2 : wval [3, 0] = 3 := by decide
 omega
theorem cmpZ_ne {a b : Int} (h : ¬ cmpZ a b = 0) : a ≠ b := by
 rintro rfl
 exact h (by unfold cmpZ; rw [if_neg (by omega), if_neg (by omega)])
theorem not_least128 {a : Int} (h : a ≠ -(((2 ^ 127 : Nat) : Int))) : a ≠ -170141183460469231731687303715884105728 := by
 have e : ((2 ^ 127 : Nat) : Int) = 170141183460469231731687303715884105728 := by decide
 rwa [e] at h
theorem not_least256 {a : Int} (h : a ≠ -(((2 ^ 255 : Nat) : Int))) : a ≠ -57896044618658097711785492504343953926634992332820282019728792003956564819968 := by
 have e : ((2 ^ 255 : Nat) : Int) = 57896044618658097711785492504343953926634992332820282019728792003956564819968 := by decide
 rwa [e] at h


theorem wideSign_spec {C : Nat → Prop} {w : World} {na : Bool} {ad : Option Addr} {cap L : Nat} {xs : List Nat} {a : Int} (ha : Wd C w na ad cap xs a L) :
    Calls P 8 #[.agg #[.bool na, .slice ad xs.length cap]] w fun ex w' => ∃ z : Int, ex = .returned (.int .i64 z) ∧ KS w w' ∧ (z = 0 ↔ a = 0) := by
 refine dN (C := C) [.v (.agg #[.bool na, .slice ad xs.length cap])] 11 1 Tryz.func8 fun a_ hI hR hB => ?_
 replace hI : Is 11 [] e0 [(0, .v (.agg #[.bool na, .slice ad xs.length cap]))] a_ := hI
 have hrx := ha.sl.room; have hmx := ha.sl.max; have hz_ := wd_zero ha
 refine rK tab 0 [] [] [(1, .p 0 0)] [] [⟨0, 29, [vB na, vS ad xs.length cap]⟩] [] [] [] 1 hR hI .nil fun e1 a1 w1 hag hR hI => ?_
 refine wp_seq ?_
 refine wp_block ?_
 refine rZ tab 1 [(3, vB na)] [1] hR hI fun e2 a2 w2 hag hR hI => ?_
 refine cnd (b := na) hI (by kernel_rfl) (fun hc3 => ?_) (fun hc3 => ?_)
 ·
  replace hI := hI.rb 3 hc3
  try simp only [tolds] at hc3
  have hw_ := hc3
  refine rK tab 1 [] [] [(2, .v (.int .i64 (-1)))] [] [] [] [] [] 1 hR hI .nil fun e4 a4 w4 hag hR hI => ?_
  refine wp_ret ?_
  refine ret_block ?_
  refine ret_then ?_
  refine oN tab [.v (.int .i64 (-1))] hR hI ?_
  exact ⟨-1, rfl, hB.fin hR, ⟨fun h_ => by omega, fun h_ => by have h2_ := ha.sign hw_; omega⟩⟩
 ·
  replace hI := hI.rb 3 hc3
  try simp only [tolds] at hc3
  refine rK tab 1 [] [] [(6, vB ((xs.length : Int) == (0 : Int)))] [] [] [] [] [] 1 hR hI .nil fun e5 a5 w5 hag hR hI => ?_
  refine cnd (b := ((xs.length : Int) == (0 : Int))) hI (by kernel_rfl) (fun hc6 => ?_) (fun hc6 => ?_)
  ·
   replace hI := hI.rb 6 hc6
   try simp only [tolds] at hc6
   have hw_ := hc6
   refine rZ tab 1 [(2, .v (.int .i64 0))] [] hR hI fun e7 a7 w7 hag hR hI => ?_
   refine wp_ret ?_
   refine ret_block ?_
   refine ret_then ?_
   refine oN tab [.v (.int .i64 0)] hR hI ?_
   have hn_ : xs = [] := List.eq_nil_of_length_eq_zero (by omega)
   exact ⟨0, rfl, hB.fin hR, ⟨fun _ => hz_.2 ((val_eq_zero ha.trim).2 hn_), fun _ => rfl⟩⟩
  ·
   replace hI := hI.rb 6 hc6
   try simp only [tolds] at hc6
   have hw_ := hc6
   refine wp_skip ?_
   refine normal_block ?_
   refine then_n ?_
   refine rZ tab 1 [(2, .v (.int .i64 1))] [] hR hI fun e8 a8 w8 hag hR hI => ?_
   refine wp_ret (oN tab [.v (.int .i64 1)] hR hI ?_)
   exact ⟨1, rfl, hB.fin hR, ⟨fun h_ => by omega, fun h_ => by have h2_ := (val_eq_zero ha.trim).1 (hz_.1 h_); rw [h2_] at hw_; simp at hw_⟩⟩

theorem least128_spec {C : Nat → Prop} {w : World} {na : Bool} {ad : Option Addr} {cap L : Nat} {xs : List Nat} {a : Int} (ha : Wd C w na ad cap xs a L) :
    Calls P 9 #[.int .i64 128, .agg #[.bool na, .slice ad xs.length cap]] w fun ex w' => ∃ f : Bool, ex = .returned (.bool f) ∧ KS w w' ∧ (f = false → a ≠ -(((2 ^ 127 : Nat) : Int))) := by
 refine dN (C := C) [.v (.int .i64 128), .v (.agg #[.bool na, .slice ad xs.length cap])] 12 2 Tryz.func9 fun a_ hI hR hB => ?_
 replace hI : Is 12 [] e0 [(0, .v (.int .i64 128)), (1, .v (.agg #[.bool na, .slice ad xs.length cap]))] a_ := hI
 refine rK tab 0 [] [] [(3, .p 0 0)] [0] [⟨0, 29, [vB na, vS ad xs.length cap]⟩] [] [] [] 1 hR hI .nil fun e1 a1 w1 hag hR hI => ?_
 refine wp_seq ?_
 refine regL 7 hR (by kernel_rfl) (fun hS => ?_)
 replace hR := hR.drew; have hF := hR.fore
 refine lK tab [(2, .eq (.int .i64 ((127 : Nat) : Int)))] [] [0, 1, 2] 5 [(7, vI 127), (5, .agg [vB na, vS ad xs.length cap])] [] hS hI (.cons (congrArg (Value.int .i64) (by decide : IntKind.i64.wrap ((128 : Int) - (1 : Int)) = ((127 : Nat) : Int))) .nil) fun a2 hI => ?_
 refine oneL (i := 3) (f' := 4) (by kernel_rfl) (by rfl) ?_
 refine cH [vI 127] hI Tryz.func22 ?_
 refine (two_spec (C := Now hB) (n := 127) (by decide)).mono ?_
 rintro ex w3 ⟨n2, d2, c2, x2, rfl, hk, h2⟩
 replace hF := hF.grow hR hk; replace hS := hS.same hk
 replace ha := ha.next hB hR hk
 obtain ⟨hB, hR⟩ := nx hB hR hk
 refine ⟨_, rfl, hS, ?_⟩
 replace hI := hI.pt 8 (.v (.agg #[.bool n2, .slice d2 x2.length c2])) [8, 7, 5]
 refine oneL (i := 4) (f' := 3) (by kernel_rfl) (by rfl) ?_
 refine cH [.v (.agg #[.bool n2, .slice d2 x2.length c2])] hI Tryz.func23 ?_
 refine (negated_spec (h2.now hB hR)).mono ?_
 rintro ex w4 ⟨n3, d3, c3, x3, rfl, hk, h3⟩
 replace hF := hF.grow hR hk; replace hS := hS.same hk
 replace h2 := h2.next hB hR hk
 replace ha := ha.next hB hR hk
 obtain ⟨hB, hR⟩ := nx hB hR hk
 refine ⟨_, rfl, hS, ?_⟩
 replace hI := hI.pt 9 (.v (.agg #[.bool n3, .slice d3 x3.length c3])) [9, 8, 7, 5]
 refine oneL (i := 5) (f' := 2) (by kernel_rfl) (by rfl) ?_
 refine cH [.agg [vB na, vS ad xs.length cap], .v (.agg #[.bool n3, .slice d3 x3.length c3])] hI Tryz.func21 ?_
 refine (wideCmp_spec (ha.now hB hR) (h3.now hB hR)).mono ?_
 rintro ex w5 ⟨rfl, hk⟩
 replace hS := hS.same hk; replace hR := hR.same hk; clear hk
 refine ⟨_, rfl, hS, ?_⟩
 replace hI := hI.pt 10 (.v (.int .i64 (cmpZ a (-(((2 ^ 127 : Nat) : Int)))))) [10, 9, 8, 7, 5]
 refine lK tab [] [] [6] 1 [(11, vB ((cmpZ a (-(((2 ^ 127 : Nat) : Int)))) == (0 : Int)))] [] hS hI .nil fun a6 hI => ?_
 refine endL (i := 7) (f' := 0) (by kernel_rfl) (by rfl) (by kernel_rfl) ?_
 refine quietL tab (hh := .no) (x := vB ((cmpZ a (-(((2 ^ 127 : Nat) : Int)))) == (0 : Int))) hR hI rfl rfl rfl (by kernel_rfl) .nil (fun a7 hI => ?_)
 replace hI := hI.sl [4, 11] rfl
 refine doneL (by kernel_rfl) ?_
 refine then_n ?_
 replace hI := hI.sl [4] rfl; replace hR := hR.sel [] [] rfl rfl
 refine wp_ret (oN tab [vB ((cmpZ a (-(((2 ^ 127 : Nat) : Int)))) == (0 : Int))] hR hI ?_)
 exact ⟨_, rfl, hB.fin hR, fun h_ he_ => cmpZ_ne (of_decide_eq_false h_) he_⟩

theorem least256_spec {C : Nat → Prop} {w : World} {na : Bool} {ad : Option Addr} {cap L : Nat} {xs : List Nat} {a : Int} (ha : Wd C w na ad cap xs a L) :
    Calls P 9 #[.int .i64 256, .agg #[.bool na, .slice ad xs.length cap]] w fun ex w' => ∃ f : Bool, ex = .returned (.bool f) ∧ KS w w' ∧ (f = false → a ≠ -(((2 ^ 255 : Nat) : Int))) := by
 refine dN (C := C) [.v (.int .i64 256), .v (.agg #[.bool na, .slice ad xs.length cap])] 12 2 Tryz.func9 fun a_ hI hR hB => ?_
 replace hI : Is 12 [] e0 [(0, .v (.int .i64 256)), (1, .v (.agg #[.bool na, .slice ad xs.length cap]))] a_ := hI
 refine rK tab 0 [] [] [(3, .p 0 0)] [0] [⟨0, 29, [vB na, vS ad xs.length cap]⟩] [] [] [] 1 hR hI .nil fun e1 a1 w1 hag hR hI => ?_
 refine wp_seq ?_
 refine regL 7 hR (by kernel_rfl) (fun hS => ?_)
 replace hR := hR.drew; have hF := hR.fore
 refine lK tab [(2, .eq (.int .i64 ((255 : Nat) : Int)))] [] [0, 1, 2] 5 [(7, vI 255), (5, .agg [vB na, vS ad xs.length cap])] [] hS hI (.cons (congrArg (Value.int .i64) (by decide : IntKind.i64.wrap ((256 : Int) - (1 : Int)) = ((255 : Nat) : Int))) .nil) fun a2 hI => ?_
 refine oneL (i := 3) (f' := 4) (by kernel_rfl) (by rfl) ?_
 refine cH [vI 255] hI Tryz.func22 ?_
 refine (two_spec (C := Now hB) (n := 255) (by decide)).mono ?_
 rintro ex w3 ⟨n2, d2, c2, x2, rfl, hk, h2⟩
 replace hF := hF.grow hR hk; replace hS := hS.same hk
 replace ha := ha.next hB hR hk
 obtain ⟨hB, hR⟩ := nx hB hR hk
 refine ⟨_, rfl, hS, ?_⟩
 replace hI := hI.pt 8 (.v (.agg #[.bool n2, .slice d2 x2.length c2])) [8, 7, 5]
 refine oneL (i := 4) (f' := 3) (by kernel_rfl) (by rfl) ?_
 refine cH [.v (.agg #[.bool n2, .slice d2 x2.length c2])] hI Tryz.func23 ?_
 refine (negated_spec (h2.now hB hR)).mono ?_
 rintro ex w4 ⟨n3, d3, c3, x3, rfl, hk, h3⟩
 replace hF := hF.grow hR hk; replace hS := hS.same hk
 replace h2 := h2.next hB hR hk
 replace ha := ha.next hB hR hk
 obtain ⟨hB, hR⟩ := nx hB hR hk
 refine ⟨_, rfl, hS, ?_⟩
 replace hI := hI.pt 9 (.v (.agg #[.bool n3, .slice d3 x3.length c3])) [9, 8, 7, 5]
 refine oneL (i := 5) (f' := 2) (by kernel_rfl) (by rfl) ?_
 refine cH [.agg [vB na, vS ad xs.length cap], .v (.agg #[.bool n3, .slice d3 x3.length c3])] hI Tryz.func21 ?_
 refine (wideCmp_spec (ha.now hB hR) (h3.now hB hR)).mono ?_
 rintro ex w5 ⟨rfl, hk⟩
 replace hS := hS.same hk; replace hR := hR.same hk; clear hk
 refine ⟨_, rfl, hS, ?_⟩
 replace hI := hI.pt 10 (.v (.int .i64 (cmpZ a (-(((2 ^ 255 : Nat) : Int)))))) [10, 9, 8, 7, 5]
 refine lK tab [] [] [6] 1 [(11, vB ((cmpZ a (-(((2 ^ 255 : Nat) : Int)))) == (0 : Int)))] [] hS hI .nil fun a6 hI => ?_
 refine endL (i := 7) (f' := 0) (by kernel_rfl) (by rfl) (by kernel_rfl) ?_
 refine quietL tab (hh := .no) (x := vB ((cmpZ a (-(((2 ^ 255 : Nat) : Int)))) == (0 : Int))) hR hI rfl rfl rfl (by kernel_rfl) .nil (fun a7 hI => ?_)
 replace hI := hI.sl [4, 11] rfl
 refine doneL (by kernel_rfl) ?_
 refine then_n ?_
 replace hI := hI.sl [4] rfl; replace hR := hR.sel [] [] rfl rfl
 refine wp_ret (oN tab [vB ((cmpZ a (-(((2 ^ 255 : Nat) : Int)))) == (0 : Int))] hR hI ?_)
 exact ⟨_, rfl, hB.fin hR, fun h_ he_ => cmpZ_ne (of_decide_eq_false h_) he_⟩

theorem least_spec {C : Nat → Prop} {w : World} {k : Int} {na : Bool} {ad : Option Addr} {cap L : Nat} {xs : List Nat} {a : Int} (ha : Wd C w na ad cap xs a L) (hk : k = 128 ∨ k = 256) :
  Calls P 9 #[.int .i64 k, .agg #[.bool na, .slice ad xs.length cap]] w fun ex w' => ∃ f : Bool, ex = .returned (.bool f) ∧ Keep (fun b => b < w.heap.size) w w' ∧ (f = false → NotLeast k a) := by
 rcases hk with rfl | rfl
 ·
  refine (least128_spec ha).mono fun ex w' h => ?_
  obtain ⟨f, h1, h2, h3⟩ := h
  exact ⟨f, h1, h2, fun hf => ⟨fun _ => not_least128 (h3 hf), fun h_ => by omega⟩⟩
 ·
  refine (least256_spec ha).mono fun ex w' h => ?_
  obtain ⟨f, h1, h2, h3⟩ := h
  exact ⟨f, h1, h2, fun hf => ⟨fun h_ => by omega, fun _ => not_least256 (h3 hf)⟩⟩
theorem decDivWide_spec {C : Nat → Prop} {w : World} {ad bd : Option Addr} {cap dap : Nat} {ws vs : List Nat} (k : Int) (hx : Sl .u64 18446744073709551616 C w ad cap ws) (hy : Sl .u64 18446744073709551616 C w bd dap vs) (hgl : Sl .i64 18446744073709551616 C w (some ⟨0, 0, none⟩) 1 [40]) (hk1 : decOK k ws) (hk2 : decOK k vs) (h128 : ¬ k < 128) (hy0 : swv vs ≠ 0) (hlx : NotLeast k (swv ws)) (hly : NotLeast k (swv vs)) :
  Calls P 5 #[.int .i64 k, .slice ad ws.length cap, .slice bd vs.length dap] w fun ex w' => ∃ us ud uc rs rd rc, ex = .returned (.tuple #[.slice ud (List.length us) uc, .slice rd (List.length rs) rc, .bool true]) ∧ Keep (fun b => b < w.heap.size) w w' ∧ Sl .u64 18446744073709551616 (Grow C w w') w' ud uc us ∧ Sl .u64 18446744073709551616 (Grow C w w') w' rd rc rs ∧ Tells k (Int.tdiv (swv ws) (swv vs)) us ∧ Tells k (Int.tmod (swv ws) (swv vs)) rs := by
 rcases dec_wide hk1 h128 with ⟨rfl, hl⟩ | ⟨rfl, hl⟩
 ·
  have hl2 : vs.length = 2 := hk2.2.1
  obtain ⟨x, y, rfl⟩ := len_two hl
  obtain ⟨z, v, rfl⟩ := len_two hl2
  have hx0 := hx.dig_ 0; have hx1 := hx.dig_ 1; have hy0_ := hy.dig_ 0; have hy1 := hy.dig_ 1
  have ha := abs128 hx0 hx1 hlx; have hb := abs128 hy0_ hy1 hly
  have e1 := swv_two (x := x) (y := y) hx1; have e2 := swv_two (x := z) (y := v) hy1
  rw [e1, e2]; rw [e2] at hy0
  exact decDivWide128_spec hx hy hgl rfl rfl hy0 ha hb
 ·
  have hl2 : vs.length = 4 := hk2.2.1
  obtain ⟨a, b, c, d, rfl⟩ := len_four hl
  obtain ⟨p, q, r, s, rfl⟩ := len_four hl2
  have ha := abs256 ⟨hx.dig_ 0, hx.dig_ 1, hx.dig_ 2, hx.dig_ 3⟩ hlx; have hb := abs256 ⟨hy.dig_ 0, hy.dig_ 1, hy.dig_ 2, hy.dig_ 3⟩ hly
  exact decDivWide256_spec hx hy hgl rfl rfl hy0 ha hb

theorem law_spec {C : Nat → Prop} {w : World} {ad bd : Option Addr} {cap dap : Nat} {xs ys : List Nat} (k : Int) (hx : Sl .u64 18446744073709551616 C w ad cap xs) (hy : Sl .u64 18446744073709551616 C w bd dap ys) (hgl : Sl .i64 18446744073709551616 C w (some ⟨0, 0, none⟩) 1 [40]) :
    Calls P 3 #[.int .i64 k, .slice ad xs.length cap, .slice bd ys.length dap] w fun ex w' => ex = .returned (.bool true) ∧ KS w w' := by
 refine dN (C := C) [.v (.int .i64 k), vS ad xs.length cap, vS bd ys.length dap] 121 3 Tryz.func3 fun a_ hI hR hB => ?_
 replace hI : Is 121 [] e0 [(0, .v (.int .i64 k)), (1, vS ad xs.length cap), (2, vS bd ys.length dap)] a_ := hI
 have hrx := hx.room; have hmx := hx.max; have hry := hy.room; have hmy := hy.max
 refine rZ tab 0 [] [0, 1, 2] hR hI fun e1 a1 w1 hag hR hI => ?_
 refine wp_seq ?_
 refine rK tab 0 [(7, .sym)] [4, 5, 6] [(29, vB ((decide ((xs.length : Int) > (2147483647 : Int))) || (decide ((ys.length : Int) > (2147483647 : Int)))))] [0, 1, 2] [] [] [] [] 0 hR hI (.cons (rfl : (decide ((xs.length : Int) > (2147483647 : Int))) = (decide ((xs.length : Int) > (2147483647 : Int)))) (.cons (rfl : (decide ((xs.length : Int) > (2147483647 : Int))) = (decide ((xs.length : Int) > (2147483647 : Int)))) (.cons (rfl : (decide ((xs.length : Int) > (2147483647 : Int))) = (decide ((xs.length : Int) > (2147483647 : Int)))) (.cons (by first | exact (by intro b_; cases b_ <;> rfl : ∀ b_ : Bool, (b_ == true) = b_) _ | exact (by intro b_; cases b_ <;> rfl : ∀ b_ : Bool, (b_ == false) = !b_) _ | exact Bool.beq_true _ | exact Bool.beq_false _ | rfl | simp_all : ((decide ((xs.length : Int) > (2147483647 : Int))) == false) = !(decide ((xs.length : Int) > (2147483647 : Int)))) .nil)))) fun e2 a2 w2 hag hR hI => ?_
 refine cnd (b := ((decide ((xs.length : Int) > (2147483647 : Int))) || (decide ((ys.length : Int) > (2147483647 : Int))))) hI (by kernel_rfl) (fun hc3 => ?_) (fun hc3 => ?_)
 ·
  replace hI := hI.rb 29 hc3
  try simp only [tolds] at hc3
  refine rZ tab 0 [(6, vB true)] [] hR hI fun e4 a4 w4 hag hR hI => ?_
  refine wp_ret ?_
  refine ret_then ?_
  refine oN tab [vB true] hR hI ?_
  exact ⟨rfl, hB.fin hR⟩
 ·
  replace hI := hI.rb 29 hc3
  try simp only [tolds] at hc3
  refine wp_skip ?_
  refine then_n ?_
  refine wp_seq (reg (is := [0, 1, 2, 3, 4, 5, 6, 7, 8, 9]) (by kernel_rfl) ?_)
  refine pK tab [0, 1] [2, 3, 4, 5, 6, 7, 8, 9] 0 [] [] [(32, .sl 1 0 2 2), (31, .sl 0 0 2 2)] [0, 1, 2] [⟨1, 25, [.v (.int .u64 2), .v (.int .u64 0)]⟩, ⟨0, 25, [.v (.int .u64 6), .v (.int .u64 0)]⟩] [] [] [] 2 hR hI .nil fun e5 a5 w5 hag hR hI => ?_
  obtain ⟨e6, hag_, hr_, hR_⟩ := hR.litRow (L := [(32, .sl 1 0 2 2), (31, .sl 0 0 2 2), (0, .v (.int .i64 k)), (1, vS ad xs.length cap), (2, vS bd ys.length dap)]) 2 [⟨1, 25, [.v (.int .u64 2), .v (.int .u64 0)]⟩] (by kernel_rfl) (b := ⟨0, 25, [.v (.int .u64 6), .v (.int .u64 0)]⟩) (by simp) (by simp) (n := 2) (sz := 1) (xs := ints .u64 [6, 0]) rfl rfl (by decide)
  replace hI := hI.agreeB (H := [⟨1, 25, [.v (.int .u64 2), .v (.int .u64 0)]⟩]) (G := []) (by kernel_rfl) hag_; replace hR := hR_; replace hI := hI.re 31 (.row 2) rfl hr_.symm; clear hag_ hr_ hR_
  obtain ⟨hB_, hR_, hrel_, u1d, u1c, hv_, hcells_, hlen_, hcap_, hmax_⟩ := hB.release hR (y := ⟨2, 25, 1, 2, (ints .u64 [6, 0])⟩) (by simp) rfl _ dropN_mem
  replace hgl := hgl.rel hrel_
  replace hx := hx.rel hrel_
  replace hy := hy.rel hrel_
  have hu1 : Sl .u64 18446744073709551616 _ _ u1d u1c [6, 0] := ⟨hcells_, (dig2 (by decide) (by decide)), (by dsimp only at hlen_ hcap_; rw [ints_length] at hlen_; omega), hmax_⟩
  replace hI := hI.re 31 (vS u1d 2 u1c) rfl hv_
  replace hB := hB_; replace hR := hR_.sel [1] [] rfl rfl; clear hB_ hR_ hrel_ hcells_ hv_
  obtain ⟨e7, hag_, hr_, hR_⟩ := hR.litRow (L := [(31, vS u1d 2 u1c), (32, .sl 1 0 2 2), (0, .v (.int .i64 k)), (1, vS ad xs.length cap), (2, vS bd ys.length dap)]) 3 [] (by kernel_rfl) (b := ⟨1, 25, [.v (.int .u64 2), .v (.int .u64 0)]⟩) (by simp) (by simp) (n := 2) (sz := 1) (xs := ints .u64 [2, 0]) rfl rfl (by decide)
  replace hI := hI.agreeB (H := []) (G := []) (by kernel_rfl) hag_; replace hR := hR_; replace hI := hI.re 32 (.row 3) rfl hr_.symm; clear hag_ hr_ hR_
  obtain ⟨hB_, hR_, hrel_, u2d, u2c, hv_, hcells_, hlen_, hcap_, hmax_⟩ := hB.release hR (y := ⟨3, 25, 1, 2, (ints .u64 [2, 0])⟩) (by simp) rfl _ dropN_mem
  replace hgl := hgl.rel hrel_
  replace hu1 := hu1.rel hrel_
  replace hx := hx.rel hrel_
  replace hy := hy.rel hrel_
  have hu2 : Sl .u64 18446744073709551616 _ _ u2d u2c [2, 0] := ⟨hcells_, (dig2 (by decide) (by decide)), (by dsimp only at hlen_ hcap_; rw [ints_length] at hlen_; omega), hmax_⟩
  replace hI := hI.re 32 (vS u2d 2 u2c) rfl hv_
  replace hB := hB_; replace hR := hR_.sel [] [] rfl rfl; clear hB_ hR_ hrel_ hcells_ hv_
  refine cO [.v (.int .i64 128), vS u1d 2 u1c, vS u2d 2 u2c] hI Tryz.func5 ?_
  refine (decDivWide128_spec (C := Now hB) (hu1.now hB hR) (hu2.now hB hR) (hgl.now hB hR) rfl rfl (by decide) (by decide) (by decide)).mono ?_
  rintro ex w8 ⟨g, gd, gc, g2, g2d, g2c, rfl, hk, hg, hg2, hgm, hgm2⟩
  replace hgl := hgl.next hB hR hk
  replace hu1 := hu1.next hB hR hk
  replace hu2 := hu2.next hB hR hk
  replace hx := hx.next hB hR hk
  replace hy := hy.next hB hR hk
  obtain ⟨hB, hR⟩ := nx hB hR hk
  have hgu := tells_three hg.dig hgm
  refine ⟨_, rfl, ?_⟩
  replace hI := hI.pt 33 (.v (.tuple #[.slice gd g.length gc, .slice g2d g2.length g2c, .bool true])) [33, 32, 31, 0, 1, 2]
  refine pZ tab [3, 4, 5, 6, 7, 8, 9] [] 4 [(9, vB true), (7, vS gd g.length gc)] [0, 1, 2] hR hI fun e9 a9 w9 hag hR hI => ?_
  refine ops_nil (then_n ?_)
  refine wp_seq (reg (is := [0, 1, 2, 3, 4, 5, 6]) (by kernel_rfl) ?_)
  refine pK tab [0, 1, 2, 3] [4, 5, 6] 4 [] [] [(40, .sl 4 0 2 2), (39, vS gd g.length gc), (38, vB true)] [0, 1, 2] [⟨4, 25, [.v (.int .u64 3), .v (.int .u64 0)]⟩] [] [] [] 5 hR hI .nil fun e10 a10 w10 hag hR hI => ?_
  obtain ⟨e11, hag_, hr_, hR_⟩ := hR.litRow (L := [(40, .sl 4 0 2 2), (39, vS gd g.length gc), (38, vB true), (0, .v (.int .i64 k)), (1, vS ad xs.length cap), (2, vS bd ys.length dap)]) 5 [] (by kernel_rfl) (b := ⟨4, 25, [.v (.int .u64 3), .v (.int .u64 0)]⟩) (by simp) (by simp) (n := 2) (sz := 1) (xs := ints .u64 [3, 0]) rfl rfl (by decide)
  replace hI := hI.agreeB (H := []) (G := []) (by kernel_rfl) hag_; replace hR := hR_; replace hI := hI.re 40 (.row 5) rfl hr_.symm; clear hag_ hr_ hR_
  obtain ⟨hB_, hR_, hrel_, u3d, u3c, hv_, hcells_, hlen_, hcap_, hmax_⟩ := hB.release hR (y := ⟨5, 25, 1, 2, (ints .u64 [3, 0])⟩) (by simp) rfl _ dropN_mem
  replace hg := hg.rel hrel_
  replace hg2 := hg2.rel hrel_
  replace hgl := hgl.rel hrel_
  replace hu1 := hu1.rel hrel_
  replace hu2 := hu2.rel hrel_
  replace hx := hx.rel hrel_
  replace hy := hy.rel hrel_
  have hu3 : Sl .u64 18446744073709551616 _ _ u3d u3c [3, 0] := ⟨hcells_, (dig2 (by decide) (by decide)), (by dsimp only at hlen_ hcap_; rw [ints_length] at hlen_; omega), hmax_⟩
  replace hI := hI.re 40 (vS u3d 2 u3c) rfl hv_
  replace hB := hB_; replace hR := hR_.sel [] [] rfl rfl; clear hB_ hR_ hrel_ hcells_ hv_
  refine cO [vS gd g.length gc, vS u3d 2 u3c] hI Tryz.func6 ?_
  refine (sameWords_spec (hg.now hB hR) (hu3.now hB hR)).mono ?_
  rintro ex w12 ⟨b, rfl, hk, hb⟩
  replace hR := hR.same hk; clear hk
  obtain rfl : b = true := hb.2 hgu
  refine ⟨_, rfl, ?_⟩
  replace hI := hI.pt 41 (vB true) [41, 40, 39, 38, 0, 1, 2]
  refine pZ tab [5, 6] [] 6 [(10, vB true)] [0, 1, 2] hR hI fun e13 a13 w13 hag hR hI => ?_
  refine ops_nil (then_n ?_)
  refine wp_seq (reg (is := [0, 1, 2, 3, 4, 5, 6, 7, 8]) (by kernel_rfl) ?_)
  refine pZ tab [0, 1] [2, 3, 4, 5, 6, 7, 8] 6 [(45, vS ad xs.length cap), (44, .v (.int .i64 k))] [10, 0, 1, 2] hR hI fun e14 a14 w14 hag hR hI => ?_
  refine cO [.v (.int .i64 k), vS ad xs.length cap] hI Tryz.func7 ?_
  refine (decimal_spec k (hx.now hB hR)).mono ?_
  rintro ex w15 ⟨o1, n1, d1, c1, x1, rfl, hk, z1, h1, hok1, hno1⟩
  replace hg := hg.next hB hR hk
  replace hg2 := hg2.next hB hR hk
  replace hgl := hgl.next hB hR hk
  replace hu1 := hu1.next hB hR hk
  replace hu2 := hu2.next hB hR hk
  replace hu3 := hu3.next hB hR hk
  replace hx := hx.next hB hR hk
  replace hy := hy.next hB hR hk
  obtain ⟨hB, hR⟩ := nx hB hR hk
  refine ⟨_, rfl, ?_⟩
  replace hI := hI.pt 46 (.v (.tuple #[.agg #[.bool n1, .slice d1 x1.length c1], .bool o1])) [46, 45, 44, 10, 0, 1, 2]
  refine pK tab [3, 4, 5, 6, 7, 8] [] 6 [] [] [(12, vB o1), (11, .p 6 0)] [10, 0, 1, 2] [⟨6, 29, [vB n1, vS d1 x1.length c1]⟩] [] [] [] 7 hR hI .nil fun e16 a16 w16 hag hR hI => ?_
  refine ops_nil (then_n ?_)
  refine wp_seq (reg (is := [0, 1, 2, 3, 4, 5, 6, 7, 8]) (by kernel_rfl) ?_)
  refine pZ tab [0, 1] [2, 3, 4, 5, 6, 7, 8] 7 [(51, vS bd ys.length dap), (50, .v (.int .i64 k))] [12, 11, 10, 0, 1, 2] hR hI fun e17 a17 w17 hag hR hI => ?_
  refine cO [.v (.int .i64 k), vS bd ys.length dap] hI Tryz.func7 ?_
  refine (decimal_spec k (hy.now hB hR)).mono ?_
  rintro ex w18 ⟨o2, n2, d2, c2, x2, rfl, hk, z2, h2, hok2, hno2⟩
  replace h1 := h1.next hB hR hk
  replace hg := hg.next hB hR hk
  replace hg2 := hg2.next hB hR hk
  replace hgl := hgl.next hB hR hk
  replace hu1 := hu1.next hB hR hk
  replace hu2 := hu2.next hB hR hk
  replace hu3 := hu3.next hB hR hk
  replace hx := hx.next hB hR hk
  replace hy := hy.next hB hR hk
  obtain ⟨hB, hR⟩ := nx hB hR hk
  refine ⟨_, rfl, ?_⟩
  replace hI := hI.pt 52 (.v (.tuple #[.agg #[.bool n2, .slice d2 x2.length c2], .bool o2])) [52, 51, 50, 12, 11, 10, 0, 1, 2]
  refine pK tab [3, 4, 5, 6, 7, 8] [] 7 [] [] [(14, vB o2), (13, .p 7 0)] [12, 11, 10, 0, 1, 2] [⟨7, 29, [vB n2, vS d2 x2.length c2]⟩] [6] [] [] 8 hR hI .nil fun e19 a19 w19 hag hR hI => ?_
  refine ops_nil (then_n ?_)
  refine wp_seq ?_
  refine wp_seq (reg (is := [0, 1, 2, 3, 4, 5, 6, 7, 8, 9, 10, 11, 12, 13, 14, 15, 16, 17, 18, 19, 20, 21, 22, 23, 24]) (by kernel_rfl) ?_)
  refine pK tab [0, 1, 2, 3, 4, 5, 6, 7, 8, 9, 10, 11] [12, 13, 14, 15, 16, 17, 18, 19, 20, 21, 22, 23, 24] 8 [(5, .sym), (9, .sym)] [3, 4, 7, 8, 11] [(66, .gd 10 false (((!o1) || (!o2)) || (decide (k < (128 : Int)))) (.agg [vB n2, vS d2 x2.length c2])), (65, vB (((!o1) || (!o2)) || (decide (k < (128 : Int)))))] [13, 11, 10, 0, 1, 2] [] [7, 6] [] [] 8 hR hI (.cons (rfl : (!o1) = (!o1)) (.cons (by first | exact (by intro b_; cases b_ <;> rfl : ∀ b_ : Bool, (b_ == true) = b_) _ | exact (by intro b_; cases b_ <;> rfl : ∀ b_ : Bool, (b_ == false) = !b_) _ | exact Bool.beq_true _ | exact Bool.beq_false _ | rfl | simp_all : ((!o1) == false) = !(!o1)) (.cons (rfl : ((!o1) || (!o2)) = ((!o1) || (!o2))) (.cons (by first | exact (by intro b_; cases b_ <;> rfl : ∀ b_ : Bool, (b_ == true) = b_) _ | exact (by intro b_; cases b_ <;> rfl : ∀ b_ : Bool, (b_ == false) = !b_) _ | exact Bool.beq_true _ | exact Bool.beq_false _ | rfl | simp_all : (((!o1) || (!o2)) == false) = !((!o1) || (!o2))) .nil)))) fun e20 a20 w20 hag hR hI => ?_
  rcases Bool.eq_false_or_eq_true (((!o1) || (!o2)) || (decide (k < (128 : Int)))) with hc21 | hc21
  ·
   replace hI := hI.rb 65 hc21
   try simp only [tolds] at hc21
   refine pZ tab [12, 13, 14, 15, 16, 17] [18, 19, 20, 21, 22, 23, 24] 8 [(70, vB true)] [13, 11, 10, 0, 1, 2] hR hI fun e22 a22 w22 hag hR hI => ?_
   refine pZ tab [18, 19, 20, 21, 22] [23, 24] 8 [(75, vB true)] [13, 11, 10, 0, 1, 2] hR hI fun e23 a23 w23 hag hR hI => ?_
   refine pZ tab [23, 24] [] 8 [(79, vB true)] [13, 11, 10, 0, 1, 2] hR hI fun e24 a24 w24 hag hR hI => ?_
   refine ops_nil (then_n ?_)
   refine cnd_t hI (by kernel_rfl) ?_
   refine rK tab 8 [] [] [(6, vB true)] [] [] [] [] [] 8 hR hI .nil fun e25 a25 w25 hag hR hI => ?_
   refine wp_ret ?_
   refine ret_then ?_
   refine oN tab [vB true] hR hI ?_
   exact ⟨rfl, hB.fin hR⟩
  ·
   replace hI := hI.re 66 (.agg [vB n2, vS d2 x2.length c2]) rfl (by rw [den, hc21]; rfl)
   replace hI := hI.rb 65 hc21
   try simp only [tolds] at hc21
   refine cO [.agg [vB n2, vS d2 x2.length c2]] hI Tryz.func8 ?_
   obtain ⟨⟨ho1, ho2⟩, hk128⟩ := hc21
   obtain ⟨hk1, hz1⟩ := hok1 ho1; obtain ⟨hk2, hz2⟩ := hok2 ho2
   have hkc : k = 128 ∨ k = 256 := (dec_wide hk1 (by omega)).imp And.left And.left
   refine (wideSign_spec (h2.now hB hR)).mono ?_
   rintro ex w26 ⟨sz, rfl, hk, hsz⟩
   replace hR := hR.same hk; clear hk
   refine ⟨_, rfl, ?_⟩
   replace hI := hI.pt 67 (.v (.int .i64 sz)) [67, 65, 66, 13, 11, 10, 0, 1, 2]
   refine pK tab [13, 14, 15, 16, 17] [18, 19, 20, 21, 22, 23, 24] 8 [] [16, 17] [(72, .gd 15 false (sz == (0 : Int)) (.agg [vB n1, vS d1 x1.length c1])), (71, .gd 15 false (sz == (0 : Int)) (.v (.int .i64 k))), (70, vB (sz == (0 : Int)))] [13, 11, 10, 0, 1, 2] [] [7, 6] [] [] 8 hR hI (.cons (rfl : (sz == (0 : Int)) = (sz == (0 : Int))) .nil) fun e27 a27 w27 hag hR hI => ?_
   rcases Bool.eq_false_or_eq_true (sz == (0 : Int)) with hc28 | hc28
   ·
    replace hI := hI.rb 70 hc28
    try simp only [tolds] at hc28
    refine pZ tab [] [18, 19, 20, 21, 22, 23, 24] 8 [] [70, 13, 11, 10, 0, 1, 2] hR hI fun e29 a29 w29 hag hR hI => ?_
    refine pZ tab [18, 19, 20, 21, 22] [23, 24] 8 [(75, vB true)] [13, 11, 10, 0, 1, 2] hR hI fun e30 a30 w30 hag hR hI => ?_
    refine pZ tab [23, 24] [] 8 [(79, vB true)] [13, 11, 10, 0, 1, 2] hR hI fun e31 a31 w31 hag hR hI => ?_
    refine ops_nil (then_n ?_)
    refine cnd_t hI (by kernel_rfl) ?_
    refine rK tab 8 [] [] [(6, vB true)] [] [] [] [] [] 8 hR hI .nil fun e32 a32 w32 hag hR hI => ?_
    refine wp_ret ?_
    refine ret_then ?_
    refine oN tab [vB true] hR hI ?_
    exact ⟨rfl, hB.fin hR⟩
   ·
    replace hI := hI.re 72 (.agg [vB n1, vS d1 x1.length c1]) rfl (by rw [den, hc28]; rfl)
    replace hI := hI.re 71 (.v (.int .i64 k)) rfl (by rw [den, hc28]; rfl)
    replace hI := hI.rb 70 hc28
    try simp only [tolds] at hc28
    refine cO [.v (.int .i64 k), .agg [vB n1, vS d1 x1.length c1]] hI Tryz.func9 ?_
    have hs0 := hc28
    refine (least_spec (h1.now hB hR) hkc).mono ?_
    rintro ex w33 ⟨f1, rfl, hk, hf1⟩
    replace hR := hR.same hk; clear hk
    refine ⟨_, rfl, ?_⟩
    replace hI := hI.pt 73 (vB f1) [73, 70, 71, 72, 13, 11, 10, 0, 1, 2]
    refine pK tab [19, 20, 21, 22] [23, 24] 8 [] [21, 22] [(77, .gd 20 false f1 (.agg [vB n2, vS d2 x2.length c2])), (76, .gd 20 false f1 (.v (.int .i64 k))), (75, vB f1)] [13, 11, 10, 0, 1, 2] [] [7, 6] [] [] 8 hR hI (.cons (rfl : f1 = f1) .nil) fun e34 a34 w34 hag hR hI => ?_
    rcases Bool.eq_false_or_eq_true f1 with hc35 | hc35
    ·
     replace hI := hI.rb 75 hc35
     try simp only [tolds] at hc35
     refine pZ tab [] [23, 24] 8 [] [75, 13, 11, 10, 0, 1, 2] hR hI fun e36 a36 w36 hag hR hI => ?_
     refine pZ tab [] [23, 24] 8 [] [75, 13, 11, 10, 0, 1, 2] hR hI fun e37 a37 w37 hag hR hI => ?_
     refine pZ tab [23, 24] [] 8 [(79, vB true)] [13, 11, 10, 0, 1, 2] hR hI fun e38 a38 w38 hag hR hI => ?_
     refine ops_nil (then_n ?_)
     refine cnd_t hI (by kernel_rfl) ?_
     refine rK tab 8 [] [] [(6, vB true)] [] [] [] [] [] 8 hR hI .nil fun e39 a39 w39 hag hR hI => ?_
     refine wp_ret ?_
     refine ret_then ?_
     refine oN tab [vB true] hR hI ?_
     exact ⟨rfl, hB.fin hR⟩
    ·
     replace hI := hI.re 77 (.agg [vB n2, vS d2 x2.length c2]) rfl (by rw [den, hc35]; rfl)
     replace hI := hI.re 76 (.v (.int .i64 k)) rfl (by rw [den, hc35]; rfl)
     replace hI := hI.rb 75 hc35
     try simp only [tolds] at hc35
     refine cO [.v (.int .i64 k), .agg [vB n2, vS d2 x2.length c2]] hI Tryz.func9 ?_
     have hl1 := hf1 hc35; rw [hz1] at hl1
     refine (least_spec (h2.now hB hR) hkc).mono ?_
     rintro ex w40 ⟨f2, rfl, hk, hf2⟩
     replace hR := hR.same hk; clear hk
     refine ⟨_, rfl, ?_⟩
     replace hI := hI.pt 78 (vB f2) [78, 75, 76, 77, 13, 11, 10, 0, 1, 2]
     refine pZ tab [24] [] 8 [(79, vB f2)] [13, 11, 10, 0, 1, 2] hR hI fun e41 a41 w41 hag hR hI => ?_
     refine ops_nil (then_n ?_)
     refine cnd (b := f2) hI (by kernel_rfl) (fun hc42 => ?_) (fun hc42 => ?_)
     ·
      replace hI := hI.rb 79 hc42
      try simp only [tolds] at hc42
      refine rK tab 8 [] [] [(6, vB true)] [] [] [] [] [] 8 hR hI .nil fun e43 a43 w43 hag hR hI => ?_
      refine wp_ret ?_
      refine ret_then ?_
      refine oN tab [vB true] hR hI ?_
      exact ⟨rfl, hB.fin hR⟩
     ·
      replace hI := hI.rb 79 hc42
      try simp only [tolds] at hc42
      have hl2 := hf2 hc42; rw [hz2] at hl2
      refine wp_skip ?_
      refine then_n ?_
      refine wp_seq (reg (is := [0, 1, 2, 3, 4, 5, 6, 7, 8, 9]) (by kernel_rfl) ?_)
      refine pK tab [0, 1] [2, 3, 4, 5, 6, 7, 8, 9] 8 [] [] [(83, .agg [vB n2, vS d2 x2.length c2]), (82, .agg [vB n1, vS d1 x1.length c1])] [10, 0, 1, 2] [] [] [] [] 8 hR hI .nil fun e44 a44 w44 hag hR hI => ?_
      refine cO [.agg [vB n1, vS d1 x1.length c1], .agg [vB n2, vS d2 x2.length c2]] hI Tryz.func10 ?_
      have hpos : 0 < val x2 := Nat.pos_of_ne_zero fun h_ => hs0 (hsz.2 ((wd_zero h2).2 h_))
      refine (wideDiv_spec (h1.now hB hR) (h2.now hB hR) hpos (by decide)).mono ?_
      rintro ex w45 ⟨nq, dq, cq, xq, nr, dr, cr, xr, rfl, hk, hzq, hzr⟩
      replace h1 := h1.next hB hR hk
      replace h2 := h2.next hB hR hk
      replace hg := hg.next hB hR hk
      replace hg2 := hg2.next hB hR hk
      replace hgl := hgl.next hB hR hk
      replace hu1 := hu1.next hB hR hk
      replace hu2 := hu2.next hB hR hk
      replace hu3 := hu3.next hB hR hk
      replace hx := hx.next hB hR hk
      replace hy := hy.next hB hR hk
      obtain ⟨hB, hR⟩ := nx hB hR hk
      refine ⟨_, rfl, ?_⟩
      replace hI := hI.pt 84 (.v (.tuple #[.agg #[.bool nq, .slice dq xq.length cq], .agg #[.bool nr, .slice dr xr.length cr]])) [84, 83, 82, 10, 0, 1, 2]
      refine pK tab [3, 4, 5, 6, 7, 8, 9] [] 8 [] [] [(16, .p 9 0), (15, .p 8 0)] [10, 0, 1, 2] [⟨9, 29, [vB nr, vS dr xr.length cr]⟩, ⟨8, 29, [vB nq, vS dq xq.length cq]⟩] [] [] [] 10 hR hI .nil fun e46 a46 w46 hag hR hI => ?_
      refine ops_nil (then_n ?_)
      refine wp_seq (reg (is := [0, 1, 2, 3, 4, 5, 6, 7]) (by kernel_rfl) ?_)
      refine pK tab [0, 1] [2, 3, 4, 5, 6, 7] 10 [] [] [(89, .agg [vB nq, vS dq xq.length cq]), (88, .v (.int .i64 k))] [16, 10, 0, 1, 2] [] [9] [] [] 10 hR hI .nil fun e47 a47 w47 hag hR hI => ?_
      refine cO [.v (.int .i64 k), .agg [vB nq, vS dq xq.length cq]] hI Tryz.func11 ?_
      refine (wrapped_spec k hk1.1 (hzq.now hB hR) (by decide)).mono ?_
      rintro ex w48 ⟨ts, tds, tcs, fs, rfl, hk, hts, hws⟩
      replace h1 := h1.next hB hR hk
      replace h2 := h2.next hB hR hk
      replace hg := hg.next hB hR hk
      replace hg2 := hg2.next hB hR hk
      replace hgl := hgl.next hB hR hk
      replace hu1 := hu1.next hB hR hk
      replace hu2 := hu2.next hB hR hk
      replace hu3 := hu3.next hB hR hk
      replace hx := hx.next hB hR hk
      replace hy := hy.next hB hR hk
      replace hzq := hzq.next hB hR hk
      replace hzr := hzr.next hB hR hk
      obtain ⟨hB, hR⟩ := nx hB hR hk
      refine ⟨_, rfl, ?_⟩
      replace hI := hI.pt 90 (.v (.tuple #[.slice tds ts.length tcs, .bool fs])) [90, 89, 88, 16, 10, 0, 1, 2]
      refine pZ tab [3, 4, 5, 6, 7] [] 10 [(17, vS tds ts.length tcs)] [16, 10, 0, 1, 2] hR hI fun e49 a49 w49 hag hR hI => ?_
      refine ops_nil (then_n ?_)
      refine wp_seq (reg (is := [0, 1, 2, 3, 4, 5, 6, 7]) (by kernel_rfl) ?_)
      refine pK tab [0, 1] [2, 3, 4, 5, 6, 7] 10 [] [] [(95, .agg [vB nr, vS dr xr.length cr]), (94, .v (.int .i64 k))] [17, 10, 0, 1, 2] [] [] [] [] 10 hR hI .nil fun e50 a50 w50 hag hR hI => ?_
      refine cO [.v (.int .i64 k), .agg [vB nr, vS dr xr.length cr]] hI Tryz.func11 ?_
      refine (wrapped_spec k hk1.1 (hzr.now hB hR) (by decide)).mono ?_
      rintro ex w51 ⟨tr, tdr, tcr, fr, rfl, hk, htr, hwr⟩
      replace h1 := h1.next hB hR hk
      replace h2 := h2.next hB hR hk
      replace hg := hg.next hB hR hk
      replace hg2 := hg2.next hB hR hk
      replace hgl := hgl.next hB hR hk
      replace hts := hts.next hB hR hk
      replace hu1 := hu1.next hB hR hk
      replace hu2 := hu2.next hB hR hk
      replace hu3 := hu3.next hB hR hk
      replace hx := hx.next hB hR hk
      replace hy := hy.next hB hR hk
      replace hzq := hzq.next hB hR hk
      replace hzr := hzr.next hB hR hk
      obtain ⟨hB, hR⟩ := nx hB hR hk
      refine ⟨_, rfl, ?_⟩
      replace hI := hI.pt 96 (.v (.tuple #[.slice tdr tr.length tcr, .bool fr])) [96, 95, 94, 17, 10, 0, 1, 2]
      refine pZ tab [3, 4, 5, 6, 7] [] 10 [(19, vS tdr tr.length tcr)] [17, 10, 0, 1, 2] hR hI fun e52 a52 w52 hag hR hI => ?_
      refine ops_nil (then_n ?_)
      refine wp_seq (reg (is := [0, 1, 2, 3, 4, 5, 6, 7, 8, 9, 10]) (by kernel_rfl) ?_)
      refine pZ tab [0, 1, 2] [3, 4, 5, 6, 7, 8, 9, 10] 10 [(102, vS bd ys.length dap), (101, vS ad xs.length cap), (100, .v (.int .i64 k))] [19, 17, 10] hR hI fun e53 a53 w53 hag hR hI => ?_
      refine cO [.v (.int .i64 k), vS ad xs.length cap, vS bd ys.length dap] hI Tryz.func5 ?_
      refine (decDivWide_spec k (hx.now hB hR) (hy.now hB hR) (hgl.now hB hR) hk1 hk2 (by omega) (fun h_ => hs0 (hsz.2 (by rw [hz2]; exact h_))) hl1 hl2).mono ?_
      rintro ex w54 ⟨us, ud, uc, rs, rd, rc, rfl, hk, hu, hrr, hm, hm2⟩
      replace h1 := h1.next hB hR hk
      replace h2 := h2.next hB hR hk
      replace hg := hg.next hB hR hk
      replace hg2 := hg2.next hB hR hk
      replace hgl := hgl.next hB hR hk
      replace htr := htr.next hB hR hk
      replace hts := hts.next hB hR hk
      replace hu1 := hu1.next hB hR hk
      replace hu2 := hu2.next hB hR hk
      replace hu3 := hu3.next hB hR hk
      replace hx := hx.next hB hR hk
      replace hy := hy.next hB hR hk
      replace hzq := hzq.next hB hR hk
      replace hzr := hzr.next hB hR hk
      obtain ⟨hB, hR⟩ := nx hB hR hk
      refine ⟨_, rfl, ?_⟩
      replace hI := hI.pt 103 (.v (.tuple #[.slice ud us.length uc, .slice rd rs.length rc, .bool true])) [103, 102, 101, 100, 19, 17, 10]
      refine pZ tab [4, 5, 6, 7, 8, 9, 10] [] 10 [(9, vB true), (21, vS rd rs.length rc), (7, vS ud us.length uc)] [19, 17, 10] hR hI fun e55 a55 w55 hag hR hI => ?_
      refine ops_nil (then_n ?_)
      refine wp_seq (reg (is := [0, 1, 2, 3, 4, 5, 6, 7, 8, 9, 10, 11, 12, 13, 14]) (by kernel_rfl) ?_)
      refine pZ tab [0, 1, 2, 3] [4, 5, 6, 7, 8, 9, 10, 11, 12, 13, 14] 10 [(110, vS tds ts.length tcs), (109, vS ud us.length uc), (108, vB true)] [21, 19, 10] hR hI fun e56 a56 w56 hag hR hI => ?_
      refine cO [vS ud us.length uc, vS tds ts.length tcs] hI Tryz.func6 ?_
      refine (sameWords_spec (hu.now hB hR) (hts.now hB hR)).mono ?_
      rintro ex w57 ⟨b, rfl, hk, hb⟩
      replace hR := hR.same hk; clear hk
      rw [hz1, hz2] at hws
      obtain rfl : b = true := hb.2 (tells_eq (by omega) hu.dig hts.dig hm hws)
      refine ⟨_, rfl, ?_⟩
      replace hI := hI.pt 111 (vB true) [111, 110, 109, 108, 21, 19, 10]
      refine pZ tab [5, 6, 7, 8] [9, 10, 11, 12, 13, 14] 10 [(115, vS tdr tr.length tcr), (114, vS rd rs.length rc), (113, vB true)] [10] hR hI fun e58 a58 w58 hag hR hI => ?_
      refine cO [vS rd rs.length rc, vS tdr tr.length tcr] hI Tryz.func6 ?_
      refine (sameWords_spec (hrr.now hB hR) (htr.now hB hR)).mono ?_
      rintro ex w59 ⟨b, rfl, hk, hb⟩
      replace hR := hR.same hk; clear hk
      rw [hz1, hz2] at hwr
      obtain rfl : b = true := hb.2 (tells_eq (by omega) hrr.dig htr.dig hm2 hwr)
      refine ⟨_, rfl, ?_⟩
      replace hI := hI.pt 116 (vB true) [116, 115, 114, 113, 10]
      refine pZ tab [10, 11, 12, 13, 14] [] 10 [(6, vB true)] [] hR hI fun e60 a60 w60 hag hR hI => ?_
      refine ops_nil (then_n ?_)
      refine wp_ret (oN tab [vB true] hR hI ?_)
      exact ⟨rfl, hB.fin hR⟩

end Go.Proofs.YtmendapdibnbdaaGreatDoor.Stride
