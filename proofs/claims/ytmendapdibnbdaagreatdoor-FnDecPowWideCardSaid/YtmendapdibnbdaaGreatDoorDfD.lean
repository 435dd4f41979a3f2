/- Walks of the program's functions, printed by a program of mine (walk.py) over the words of Stride: each function's contract. -/
import Derived.Test.YtmendapdibnbdaaGreatDoorDfC
import Derived.ChangeKeysEq
namespace Go.Proofs.YtmendapdibnbdaaGreatDoor.Stride
open Go Go.RowKit Go.Proofs.YtmendapdibnbdaaGreatDoor.Mag
set_option linter.unusedVariables false
set_option linter.unusedSimpArgs false
set_option maxHeartbeats 4000000
set_option maxRecDepth 100000
theorem len_two {ws : List Nat} (h : ws.length = 2) : ∃ x y, ws = [x, y] := by
 match ws, h with
 | [x, y], _ => exact ⟨x, y, rfl⟩
theorem len_four {ws : List Nat} (h : ws.length = 4) : ∃ a b c d, ws = [a, b, c, d] := by
 match ws, h with
 | [a, b, c, d], _ => exact ⟨a, b, c, d, rfl⟩
theorem swv_two {x y : Nat} (hy : y < 18446744073709551616) : swv [x, y] = (x : Int) + 18446744073709551616 * IntKind.i64.wrap (y : Int) := by
 rw [IntKind.wrap_i64]
 have e1 : wval [x, y] = x + 18446744073709551616 * y := by simp [wval]
 by_cases h : 9223372036854775808 ≤ y
 ·
  rw [swv_neg (ws := [x, y]) ⟨by simp, h⟩]
  have e2 : ((2 ^ (64 * [x, y].length) : Nat) : Int) = 340282366920938463463374607431768211456 := by
   show ((2 ^ (64 * 2) : Nat) : Int) = 340282366920938463463374607431768211456
   decide
  rw [e1, e2]; omega
 · rw [swv_pos (ws := [x, y]) (fun h' => h h'.2), e1]; omega
def NotLeast (k v : Int) : Prop := (k = 128 → v ≠ -170141183460469231731687303715884105728) ∧ (k = 256 → v ≠ -57896044618658097711785492504343953926634992332820282019728792003956564819968)
theorem dec_wide {k : Int} {ws : List Nat} (h : decOK k ws) (h128 : ¬ k < 128) : k = 128 ∧ ws.length = 2 ∨ k = 256 ∧ ws.length = 4 := by
 have h1 : k = 32 ∨ k = 64 ∨ k = 128 ∨ k = 256 := of_decide_eq_true h.1
 rcases h1 with rfl | rfl | rfl | rfl
 · omega
 · omega
 · exact .inl ⟨rfl, h.2.1⟩
 · exact .inr ⟨rfl, h.2.1⟩
theorem cmpZ_ne {a b : Int} (h : ¬ cmpZ a b = 0) : a ≠ b := by
 rintro rfl
 exact h (by unfold cmpZ; rw [if_neg (by omega), if_neg (by omega)])
theorem not_least128 {a : Int} (h : a ≠ -(((2 ^ 127 : Nat) : Int))) : a ≠ -170141183460469231731687303715884105728 := by
 have e : ((2 ^ 127 : Nat) : Int) = 170141183460469231731687303715884105728 := by decide
 rwa [e] at h
theorem not_least256 {a : Int} (h : a ≠ -(((2 ^ 255 : Nat) : Int))) : a ≠ -57896044618658097711785492504343953926634992332820282019728792003956564819968 := by
 have e : ((2 ^ 255 : Nat) : Int) = 57896044618658097711785492504343953926634992332820282019728792003956564819968 := by decide
 rwa [e] at h


theorem least128_spec {C : Nat → Prop} {w : World} {na : Bool} {ad : Option Addr} {cap L : Nat} {xs : List Nat} {a : Int} (ha : Wd C w na ad cap xs a L) :
    Calls P 9 #[.int .i64 128, .agg #[.bool na, .slice ad xs.length cap]] w fun ex w' => ∃ f : Bool, ex = .returned (.bool f) ∧ KS w w' ∧ (f = false → a ≠ -(((2 ^ 127 : Nat) : Int))) := by
 refine dN (C := C) [.v (.int .i64 128), .v (.agg #[.bool na, .slice ad xs.length cap])] 12 2 Tryz.func9 fun a_ hI hR hB => ?_
 replace hI : Is 12 [] e0 [(0, .v (.int .i64 128)), (1, .v (.agg #[.bool na, .slice ad xs.length cap]))] a_ := hI
 refine rK tab 0 [] [] [(3, .p 0 0)] [0] [⟨0, 29, [vB na, vS ad xs.length cap]⟩] [] [] [] 1 hR hI .nil fun e1 a1 w1 hag hR hI => ?_
 refine wp_seq ?_
 refine regL 7 hR (by kernel_rfl) (fun hS => ?_)
 replace hR := hR.drew; have hF := hR.fore
 refine lK tab [(2, .eq (.int .i64 ((127 : Nat) : Int)))] [] [0, 1, 2] 5 [(7, vI 127), (5, .agg [vB na, vS ad xs.length cap])] [] hS hI (.cons (congrArg (Value.int .i64) (by decide : IntKind.i64.wrap ((128 : Int) - (1 : Int)) = ((127 : Nat) : Int))) .nil) fun a2 hI => ?_
 refine oneL (i := 3) (f' := 4) (by kernel_rfl) (by rfl) ?_
 refine cH [vI 127] hI Tryz.func22 ?_
 refine (two_spec (C := Now hB) (n := 127) (by decide)).mono ?_
 rintro ex w3 ⟨n2, d2, c2, x2, rfl, hk, h2⟩
 replace hF := hF.grow hR hk; replace hS := hS.same hk
 replace ha := ha.next hB hR hk
 obtain ⟨hB, hR⟩ := nx hB hR hk
 refine ⟨_, rfl, hS, ?_⟩
 replace hI := hI.pt 8 (.v (.agg #[.bool n2, .slice d2 x2.length c2])) [8, 7, 5]
 refine oneL (i := 4) (f' := 3) (by kernel_rfl) (by rfl) ?_
 refine cH [.v (.agg #[.bool n2, .slice d2 x2.length c2])] hI Tryz.func23 ?_
 refine (negated_spec (h2.now hB hR)).mono ?_
 rintro ex w4 ⟨n3, d3, c3, x3, rfl, hk, h3⟩
 replace hF := hF.grow hR hk; replace hS := hS.same hk
 replace h2 := h2.next hB hR hk
 replace ha := ha.next hB hR hk
 obtain ⟨hB, hR⟩ := nx hB hR hk
 refine ⟨_, rfl, hS, ?_⟩
 replace hI := hI.pt 9 (.v (.agg #[.bool n3, .slice d3 x3.length c3])) [9, 8, 7, 5]
 refine oneL (i := 5) (f' := 2) (by kernel_rfl) (by rfl) ?_
 refine cH [.agg [vB na, vS ad xs.length cap], .v (.agg #[.bool n3, .slice d3 x3.length c3])] hI Tryz.func21 ?_
 refine (wideCmp_spec (ha.now hB hR) (h3.now hB hR)).mono ?_
 rintro ex w5 ⟨rfl, hk⟩
 replace hS := hS.same hk; replace hR := hR.same hk; clear hk
 refine ⟨_, rfl, hS, ?_⟩
 replace hI := hI.pt 10 (.v (.int .i64 (cmpZ a (-(((2 ^ 127 : Nat) : Int)))))) [10, 9, 8, 7, 5]
 refine lK tab [] [] [6] 1 [(11, vB ((cmpZ a (-(((2 ^ 127 : Nat) : Int)))) == (0 : Int)))] [] hS hI .nil fun a6 hI => ?_
 refine endL (i := 7) (f' := 0) (by kernel_rfl) (by rfl) (by kernel_rfl) ?_
 refine quietL tab (hh := .no) (x := vB ((cmpZ a (-(((2 ^ 127 : Nat) : Int)))) == (0 : Int))) hR hI rfl rfl rfl (by kernel_rfl) .nil (fun a7 hI => ?_)
 replace hI := hI.sl [4, 11] rfl
 refine doneL (by kernel_rfl) ?_
 refine then_n ?_
 replace hI := hI.sl [4] rfl; replace hR := hR.sel [] [] rfl rfl
 refine wp_ret (oN tab [vB ((cmpZ a (-(((2 ^ 127 : Nat) : Int)))) == (0 : Int))] hR hI ?_)
 exact ⟨_, rfl, hB.fin hR, fun h_ he_ => cmpZ_ne (of_decide_eq_false h_) he_⟩

theorem least256_spec {C : Nat → Prop} {w : World} {na : Bool} {ad : Option Addr} {cap L : Nat} {xs : List Nat} {a : Int} (ha : Wd C w na ad cap xs a L) :
    Calls P 9 #[.int .i64 256, .agg #[.bool na, .slice ad xs.length cap]] w fun ex w' => ∃ f : Bool, ex = .returned (.bool f) ∧ KS w w' ∧ (f = false → a ≠ -(((2 ^ 255 : Nat) : Int))) := by
 refine dN (C := C) [.v (.int .i64 256), .v (.agg #[.bool na, .slice ad xs.length cap])] 12 2 Tryz.func9 fun a_ hI hR hB => ?_
 replace hI : Is 12 [] e0 [(0, .v (.int .i64 256)), (1, .v (.agg #[.bool na, .slice ad xs.length cap]))] a_ := hI
 refine rK tab 0 [] [] [(3, .p 0 0)] [0] [⟨0, 29, [vB na, vS ad xs.length cap]⟩] [] [] [] 1 hR hI .nil fun e1 a1 w1 hag hR hI => ?_
 refine wp_seq ?_
 refine regL 7 hR (by kernel_rfl) (fun hS => ?_)
 replace hR := hR.drew; have hF := hR.fore
 refine lK tab [(2, .eq (.int .i64 ((255 : Nat) : Int)))] [] [0, 1, 2] 5 [(7, vI 255), (5, .agg [vB na, vS ad xs.length cap])] [] hS hI (.cons (congrArg (Value.int .i64) (by decide : IntKind.i64.wrap ((256 : Int) - (1 : Int)) = ((255 : Nat) : Int))) .nil) fun a2 hI => ?_
 refine oneL (i := 3) (f' := 4) (by kernel_rfl) (by rfl) ?_
 refine cH [vI 255] hI Tryz.func22 ?_
 refine (two_spec (C := Now hB) (n := 255) (by decide)).mono ?_
 rintro ex w3 ⟨n2, d2, c2, x2, rfl, hk, h2⟩
 replace hF := hF.grow hR hk; replace hS := hS.same hk
 replace ha := ha.next hB hR hk
 obtain ⟨hB, hR⟩ := nx hB hR hk
 refine ⟨_, rfl, hS, ?_⟩
 replace hI := hI.pt 8 (.v (.agg #[.bool n2, .slice d2 x2.length c2])) [8, 7, 5]
 refine oneL (i := 4) (f' := 3) (by kernel_rfl) (by rfl) ?_
 refine cH [.v (.agg #[.bool n2, .slice d2 x2.length c2])] hI Tryz.func23 ?_
 refine (negated_spec (h2.now hB hR)).mono ?_
 rintro ex w4 ⟨n3, d3, c3, x3, rfl, hk, h3⟩
 replace hF := hF.grow hR hk; replace hS := hS.same hk
 replace h2 := h2.next hB hR hk
 replace ha := ha.next hB hR hk
 obtain ⟨hB, hR⟩ := nx hB hR hk
 refine ⟨_, rfl, hS, ?_⟩
 replace hI := hI.pt 9 (.v (.agg #[.bool n3, .slice d3 x3.length c3])) [9, 8, 7, 5]
 refine oneL (i := 5) (f' := 2) (by kernel_rfl) (by rfl) ?_
 refine cH [.agg [vB na, vS ad xs.length cap], .v (.agg #[.bool n3, .slice d3 x3.length c3])] hI Tryz.func21 ?_
 refine (wideCmp_spec (ha.now hB hR) (h3.now hB hR)).mono ?_
 rintro ex w5 ⟨rfl, hk⟩
 replace hS := hS.same hk; replace hR := hR.same hk; clear hk
 refine ⟨_, rfl, hS, ?_⟩
 replace hI := hI.pt 10 (.v (.int .i64 (cmpZ a (-(((2 ^ 255 : Nat) : Int)))))) [10, 9, 8, 7, 5]
 refine lK tab [] [] [6] 1 [(11, vB ((cmpZ a (-(((2 ^ 255 : Nat) : Int)))) == (0 : Int)))] [] hS hI .nil fun a6 hI => ?_
 refine endL (i := 7) (f' := 0) (by kernel_rfl) (by rfl) (by kernel_rfl) ?_
 refine quietL tab (hh := .no) (x := vB ((cmpZ a (-(((2 ^ 255 : Nat) : Int)))) == (0 : Int))) hR hI rfl rfl rfl (by kernel_rfl) .nil (fun a7 hI => ?_)
 replace hI := hI.sl [4, 11] rfl
 refine doneL (by kernel_rfl) ?_
 refine then_n ?_
 replace hI := hI.sl [4] rfl; replace hR := hR.sel [] [] rfl rfl
 refine wp_ret (oN tab [vB ((cmpZ a (-(((2 ^ 255 : Nat) : Int)))) == (0 : Int))] hR hI ?_)
 exact ⟨_, rfl, hB.fin hR, fun h_ he_ => cmpZ_ne (of_decide_eq_false h_) he_⟩

theorem least_spec {C : Nat → Prop} {w : World} {k : Int} {na : Bool} {ad : Option Addr} {cap L : Nat} {xs : List Nat} {a : Int} (ha : Wd C w na ad cap xs a L) (hk : k = 128 ∨ k = 256) :
  Calls P 9 #[.int .i64 k, .agg #[.bool na, .slice ad xs.length cap]] w fun ex w' => ∃ f : Bool, ex = .returned (.bool f) ∧ Keep (fun b => b < w.heap.size) w w' ∧ (f = false → NotLeast k a) := by
 rcases hk with rfl | rfl
 ·
  refine (least128_spec ha).mono fun ex w' h => ?_
  obtain ⟨f, h1, h2, h3⟩ := h
  exact ⟨f, h1, h2, fun hf => ⟨fun _ => not_least128 (h3 hf), fun h_ => by omega⟩⟩
 ·
  refine (least256_spec ha).mono fun ex w' h => ?_
  obtain ⟨f, h1, h2, h3⟩ := h
  exact ⟨f, h1, h2, fun hf => ⟨fun h_ => by omega, fun _ => not_least256 (h3 hf)⟩⟩
end Go.Proofs.YtmendapdibnbdaaGreatDoor.Stride
