/- Walks of the program's functions, printed by a program of mine (walk.py) over the words of Stride: each function's contract. -/
import Derived.Test.YtmendapdibnbdaaGreatDoorDfB
import Derived.ChangeKeysEq
namespace Go.Proofs.YtmendapdibnbdaaGreatDoor.Stride
open Go Go.RowKit Go.Proofs.YtmendapdibnbdaaGreatDoor.Mag
set_option linter.unusedVariables false
set_option linter.unusedSimpArgs false
set_option maxHeartbeats 4000000
set_option maxRecDepth 100000
def Tells (k v : Int) (us : List Nat) : Prop := us.length = nwords k ∧ (wval us : Int) = v % ((2 ^ (64 * nwords k) : Nat) : Int)
theorem two128 : ((2 ^ (64 * nwords 128) : Nat) : Int) = 340282366920938463463374607431768211456 := by decide
theorem two256 : ((2 ^ (64 * nwords 256) : Nat) : Int) = 115792089237316195423570985008687907853269984665640564039457584007913129639936 := by decide
theorem Sl.dig_ {C : Nat → Prop} {w : World} {ad : Option Addr} {cap : Nat} {xs : List Nat} (h : Sl .u64 18446744073709551616 C w ad cap xs) (i : Nat) : xs.getD i 0 < 18446744073709551616 := ndig_get h.dig i
theorem tells128_of {l m : Nat} {hi v : Int} {us : List Nat} (hm : IntKind.u64.wrap hi = (m : Int)) (hu : us = [l, m]) (hl : l < 18446744073709551616) (he : (l : Int) + 18446744073709551616 * hi = v) : Tells 128 v us := by
 subst hu
 refine ⟨show 2 = nwords 128 by decide, ?_⟩
 have e1 : wval [l, m] = l + 18446744073709551616 * m := by simp [wval]
 rw [wrap_u64] at hm
 rw [e1, two128]; omega
theorem tells256_of {q0 q1 q2 q3 : Nat} {v : Int} {us : List Nat} (hu : us = [q0, q1, q2, q3]) (hq : q0 < 18446744073709551616 ∧ q1 < 18446744073709551616 ∧ q2 < 18446744073709551616 ∧ q3 < 18446744073709551616) (he : swv [q0, q1, q2, q3] = v) : Tells 256 v us := by
 subst hu
 refine ⟨show 4 = nwords 256 by decide, ?_⟩
 have h := nval4_lt hq
 rw [swv4] at he
 rw [two256, wval_nval]
 split at he <;> omega
theorem wval_inj : ∀ {xs ys : List Nat}, xs.length = ys.length → (∀ d ∈ xs, d < 18446744073709551616) → (∀ d ∈ ys, d < 18446744073709551616) → wval xs = wval ys → xs = ys
 | [], [], _, _, _, _ => rfl
 | x :: xs, y :: ys, hl, hx, hy, h => by
  have h1 := hx x (by simp)
  have h2 := hy y (by simp)
  simp only [wval] at h
  have e1 : x = y := by omega
  have e2 : wval xs = wval ys := by omega
  have hl' : xs.length = ys.length := by simpa using hl
  rw [e1, wval_inj hl' (fun d hd => hx d (by simp [hd])) (fun d hd => hy d (by simp [hd])) e2]
theorem tells_eq {k v : Int} {us ts : List Nat} (h32 : k ≠ 32) (hu : ∀ d ∈ us, d < 18446744073709551616) (ht : ∀ d ∈ ts, d < 18446744073709551616) (h : Tells k v us) (hW : Wrapped k v ts) : us = ts := by
 obtain ⟨h1, h2⟩ := hW.2 h32
 refine wval_inj (by rw [h.1, h1]) hu ht ?_
 have := h.2
 omega


theorem decOf256_spec {C : Nat → Prop} {w : World} {ad : Option Addr} {cap : Nat} {ws : List Nat} (hx : Sl .u64 18446744073709551616 C w ad cap ws) (hl : ws.length = 4) :
    Calls P 15 #[.int .i64 256, .slice ad ws.length cap] w fun ex w' => ex = .returned (.tuple #[.agg #[.int .i64 256, .int .i32 0, .int .i64 0, .int .u64 0, .int .i64 0, .int .u64 ((ws.getD 0 0 : Nat) : Int), .int .u64 ((ws.getD 1 0 : Nat) : Int), .int .u64 ((ws.getD 2 0 : Nat) : Int), .int .u64 ((ws.getD 3 0 : Nat) : Int)], .bool true]) ∧ KS w w' := by
 refine dN (C := C) [.v (.int .i64 256), vS ad ws.length cap] 88 2 Tryz.func15 fun a_ hI hR hB => ?_
 replace hI : Is 88 [] e0 [(0, .v (.int .i64 256)), (1, vS ad ws.length cap)] a_ := hI
 have hrx := hx.room; have hmx := hx.max
 refine rK tab 0 [] [] [(4, .p 0 0)] [0, 1] [⟨0, 52, [.v (.int .i64 0), .v (.int .i32 0), .v (.int .i64 0), .v (.int .u64 0), .v (.int .i64 0), .v (.int .u64 0), .v (.int .u64 0), .v (.int .u64 0), .v (.int .u64 0)]⟩] [] [] [] 1 hR hI .nil fun e1 a1 w1 hag hR hI => ?_
 refine wp_seq ?_
 refine wp_block ?_
 refine regQ_seq tab (by kernel_rfl) (k := 1) (hs := []) (gs := []) (ks := [6, 4, 0, 1])
   (L' := [(6, vB false), (4, .p 0 0), (0, .v (.int .i64 256)), (1, vS ad ws.length cap)]) hR hI (by kernel_rfl) (fun _ _ _ _ _ h => h) (by kernel_rfl)
   .nil (by kernel_rfl) (by kernel_rfl) (fun e2 a2 w2 hag hR hI => ?_)
 refine cnd_f hI (by kernel_rfl) ?_
 refine rZ tab 1 [(32, vB false)] [4, 0, 1] hR hI fun e3 a3 w3 hag hR hI => ?_
 refine cnd_f hI (by kernel_rfl) ?_
 refine rZ tab 1 [(46, vB false)] [4, 0, 1] hR hI fun e4 a4 w4 hag hR hI => ?_
 refine cnd_f hI (by kernel_rfl) ?_
 refine rK tab 1 [(5, .eq (.bool true))] [] [(64, vB true)] [4, 0, 1] [] [0] [] [] 1 hR hI (.cons (congrArg Value.bool (by rw [hl]; rfl : ((ws.length : Int) == (4 : Int)) = true)) .nil) fun e5 a5 w5 hag hR hI => ?_
 refine cnd_t hI (by kernel_rfl) ?_
 refine wp_seq ?_
 refine regL 15 hR (by kernel_rfl) (fun hS => ?_)
 replace hR := hR.drew; have hF := hR.fore
 refine lK tab [(3, .val (vU (ws.getD 3 0))), (6, .val (vU (ws.getD 2 0))), (9, .val (vU (ws.getD 1 0))), (12, .val (vU (ws.getD 0 0)))] [] [0, 1, 2, 3, 4, 5, 6, 7, 8, 9, 10, 11, 12] 4 [(84, vU (ws.getD 0 0)), (81, vU (ws.getD 1 0)), (78, vU (ws.getD 2 0)), (75, vU (ws.getD 3 0)), (72, .v (.int .i64 256))] [4] hS hI (.cons (by omega : (0 : Int) ≤ (3 : Int) ∧ (3 : Int) < (ws.length : Int)) (.cons (nats_some (i := 3) (hx.cells.mono hB.cls) (by omega)) (.cons (nats_load (i := 3) (m := 1) (hx.cells.mono hB.cls) (by omega)) (.cons (by omega : (0 : Int) ≤ (2 : Int) ∧ (2 : Int) < (ws.length : Int)) (.cons (nats_some (i := 2) (hx.cells.mono hB.cls) (by omega)) (.cons (nats_load (i := 2) (m := 1) (hx.cells.mono hB.cls) (by omega)) (.cons (by omega : (0 : Int) ≤ (1 : Int) ∧ (1 : Int) < (ws.length : Int)) (.cons (nats_some (i := 1) (hx.cells.mono hB.cls) (by omega)) (.cons (nats_load (i := 1) (m := 1) (hx.cells.mono hB.cls) (by omega)) (.cons (by omega : (0 : Int) ≤ (0 : Int) ∧ (0 : Int) < (ws.length : Int)) (.cons (nats_some (i := 0) (hx.cells.mono hB.cls) (by omega)) (.cons (nats_load (i := 0) (m := 1) (hx.cells.mono hB.cls) (by omega)) .nil)))))))))))) fun a6 hI => ?_
 refine oneL (i := 13) (f' := 3) (by kernel_rfl) (by rfl) ?_
 refine cH [vU (ws.getD 3 0), vU (ws.getD 2 0), vU (ws.getD 1 0), vU (ws.getD 0 0)] hI Tryz.func34 ?_
 refine (new256_spec (C := C) ((ws.getD 3 0 : Nat) : Int) ((ws.getD 2 0 : Nat) : Int) ((ws.getD 1 0 : Nat) : Int) ((ws.getD 0 0 : Nat) : Int)).mono ?_
 rintro ex w7 ⟨rfl, hk⟩
 replace hS := hS.same hk; replace hR := hR.same hk; clear hk
 refine ⟨_, rfl, hS, ?_⟩
 replace hI := hI.pt 85 (.v (.agg #[.int .u64 ((ws.getD 0 0 : Nat) : Int), .int .u64 ((ws.getD 1 0 : Nat) : Int), .int .u64 ((ws.getD 2 0 : Nat) : Int), .int .u64 ((ws.getD 3 0 : Nat) : Int)])) [85, 84, 81, 78, 75, 72, 4]
 refine lK tab [] [] [14] 2 [(86, .agg [.v (.int .i64 256), .v (.int .i32 0), .v (.int .i64 0), .v (.int .u64 0), .v (.int .i64 0), vU (ws.getD 0 0), vU (ws.getD 1 0), vU (ws.getD 2 0), vU (ws.getD 3 0)])] [4] hS hI .nil fun a8 hI => ?_
 refine endL (i := 15) (f' := 1) (by kernel_rfl) (by rfl) (by kernel_rfl) ?_
 refine eK tab 1 .no (.v (undef)) [⟨0, 52, [.v (.int .i64 256), .v (.int .i32 0), .v (.int .i64 0), .v (.int .u64 0), .v (.int .i64 0), vU (ws.getD 0 0), vU (ws.getD 1 0), vU (ws.getD 2 0), vU (ws.getD 3 0)]⟩] [] [] [] 1 true hR hI .nil fun e9 a9 w9 hag hR2 hI => ?_
 replace hR := hR2; clear hR2
 replace hI := hI.sl [86, 4] rfl
 refine endL (i := 16) (f' := 0) (by kernel_rfl) (by rfl) (by kernel_rfl) ?_
 refine quietL tab (hh := .no) (x := vB true) hR hI rfl rfl rfl (by kernel_rfl) .nil (fun a10 hI => ?_)
 replace hI := hI.sl [5, 86, 4] rfl
 refine doneL (by kernel_rfl) ?_
 refine then_n ?_
 replace hI := hI.sl [5, 4] rfl; replace hR := hR.sel [0] [] rfl rfl
 refine wp_ret ?_
 refine ret_block ?_
 refine ret_then ?_
 refine oN tab [.agg [.v (.int .i64 256), .v (.int .i32 0), .v (.int .i64 0), .v (.int .u64 0), .v (.int .i64 0), vU (ws.getD 0 0), vU (ws.getD 1 0), vU (ws.getD 2 0), vU (ws.getD 3 0)], vB true] hR hI ?_
 exact ⟨rfl, hB.fin hR⟩

theorem words256_spec {C : Nat → Prop} {w : World} {x3 x4 : Int} {q0 q1 q2 q3 : Nat} (hq : q0 < 18446744073709551616 ∧ q1 < 18446744073709551616 ∧ q2 < 18446744073709551616 ∧ q3 < 18446744073709551616) :
    Calls P 18 #[.agg #[.int .i64 256, .int .i32 0, .int .i64 0, .int .u64 x3, .int .i64 x4, .int .u64 (q0 : Int), .int .u64 (q1 : Int), .int .u64 (q2 : Int), .int .u64 (q3 : Int)]] w fun ex w' => ∃ wd wc ws, ex = .returned (.slice wd (List.length ws) wc) ∧ KS w w' ∧ Sl .u64 18446744073709551616 (Grow C w w') w' wd wc ws ∧ ws = [q0, q1, q2, q3] := by
 refine dN (C := C) [.v (.agg #[.int .i64 256, .int .i32 0, .int .i64 0, .int .u64 x3, .int .i64 x4, .int .u64 (q0 : Int), .int .u64 (q1 : Int), .int .u64 (q2 : Int), .int .u64 (q3 : Int)])] 33 1 Tryz.func18 fun a_ hI hR hB => ?_
 replace hI : Is 33 [] e0 [(0, .v (.agg #[.int .i64 256, .int .i32 0, .int .i64 0, .int .u64 x3, .int .i64 x4, .int .u64 (q0 : Int), .int .u64 (q1 : Int), .int .u64 (q2 : Int), .int .u64 (q3 : Int)]))] a_ := hI
 refine rK tab 0 [] [] [(1, .p 0 0)] [] [⟨0, 52, [.v (.int .i64 256), .v (.int .i32 0), .v (.int .i64 0), .v (.int .u64 x3), .v (.int .i64 x4), vU q0, vU q1, vU q2, vU q3]⟩] [] [] [] 1 hR hI .nil fun e1 a1 w1 hag hR hI => ?_
 refine wp_seq ?_
 refine rZ tab 1 [(5, .v (.int .i64 256))] [1] hR hI fun e2 a2 w2 hag hR hI => ?_
 refine wp_block ?_
 refine rZ tab 1 [(6, vB false)] [5, 1] hR hI fun e3 a3 w3 hag hR hI => ?_
 refine cnd_f hI (by kernel_rfl) ?_
 refine rZ tab 1 [(13, vB false)] [5, 1] hR hI fun e4 a4 w4 hag hR hI => ?_
 refine cnd_f hI (by kernel_rfl) ?_
 refine rZ tab 1 [(19, vB false)] [1] hR hI fun e5 a5 w5 hag hR hI => ?_
 refine cnd_f hI (by kernel_rfl) ?_
 refine wp_skip ?_
 refine normal_block ?_
 refine then_n ?_
 refine wp_seq (reg (is := [0, 1, 2, 3, 4]) (by kernel_rfl) ?_)
 refine pK tab [0, 1] [2, 3, 4] 1 [] [] [(30, .agg [vU q0, vU q1, vU q2, vU q3])] [] [] [] [] [] 1 hR hI .nil fun e6 a6 w6 hag hR hI => ?_
 refine cO [.agg [vU q0, vU q1, vU q2, vU q3]] hI Tryz.func42 ?_
 refine (array_spec (C := C) q0 q1 q2 q3).mono ?_
 rintro ex w7 ⟨rfl, hk⟩
 replace hR := hR.same hk; clear hk
 refine ⟨_, rfl, ?_⟩
 replace hI := hI.pt 31 (.v (.agg #[.int .u64 (q0 : Int), .int .u64 (q1 : Int), .int .u64 (q2 : Int), .int .u64 (q3 : Int)])) [31, 30]
 refine pK tab [3, 4] [] 1 [] [] [(3, .p 1 0)] [] [⟨1, 48, [vU q0, vU q1, vU q2, vU q3]⟩] [] [] [] 2 hR hI .nil fun e8 a8 w8 hag hR hI => ?_
 refine ops_nil (then_n ?_)
 refine rZ tab 2 [(2, .sl 1 0 4 4)] [] hR hI fun e9 a9 w9 hag hR hI => ?_
 refine wp_ret ?_
 obtain ⟨e10, hag_, hr_, hR_⟩ := hR.litRow (L := [(2, .sl 1 0 4 4)]) 2 [] (by kernel_rfl) (b := ⟨1, 48, [vU q0, vU q1, vU q2, vU q3]⟩) (by simp) (by simp) (n := 4) (sz := 1) (xs := ints .u64 [q0, q1, q2, q3]) rfl rfl (by decide)
 replace hI := hI.agreeB (H := []) (G := []) (by kernel_rfl) hag_; replace hR := hR_; replace hI := hI.re 2 (.row 2) rfl hr_.symm; clear hag_ hr_ hR_
 obtain ⟨hB_, hR_, hrel_, wd, wc, hv_, hcells_, hlen_, hcap_, hmax_⟩ := hB.release hR (y := ⟨2, 48, 1, 4, (ints .u64 [q0, q1, q2, q3])⟩) (by simp) rfl _ dropN_mem
 have hw : Sl .u64 18446744073709551616 _ _ wd wc [q0, q1, q2, q3] := ⟨hcells_, (dig4 hq), (by dsimp only at hlen_ hcap_; rw [ints_length] at hlen_; omega), hmax_⟩
 replace hI := hI.re 2 (vS wd 4 wc) rfl hv_
 replace hB := hB_; replace hR := hR_.sel [] [] rfl rfl; clear hB_ hR_ hrel_ hcells_ hv_
 refine oN tab [vS wd 4 wc] hR hI ?_
 exact ⟨wd, wc, _, rfl, hB.fin hR, hw.fin hB hR, rfl⟩

end Go.Proofs.YtmendapdibnbdaaGreatDoor.Stride
