/- Walks of the program's functions, printed by a program of mine (walk.py) over the words of Stride: each function's contract. -/
import Derived.Test.YtmendapdibnbdaaGreatDoorDfB
import Derived.ChangeKeysEq
namespace Go.Proofs.YtmendapdibnbdaaGreatDoor.Stride
open Go Go.RowKit Go.Proofs.YtmendapdibnbdaaGreatDoor.Mag
set_option linter.unusedVariables false
set_option linter.unusedSimpArgs false
set_option maxHeartbeats 4000000
set_option maxRecDepth 100000
def Tells (k v : Int) (us : List Nat) : Prop := us.length = nwords k ∧ (wval us : Int) = v % ((2 ^ (64 * nwords k) : Nat) : Int)
theorem two128 : ((2 ^ (64 * nwords 128) : Nat) : Int) = 340282366920938463463374607431768211456 := by decide
theorem two256 : ((2 ^ (64 * nwords 256) : Nat) : Int) = 115792089237316195423570985008687907853269984665640564039457584007913129639936 := by decide
theorem Sl.dig_ {C : Nat → Prop} {w : World} {ad : Option Addr} {cap : Nat} {xs : List Nat} (h : Sl .u64 18446744073709551616 C w ad cap xs) (i : Nat) : xs.getD i 0 < 18446744073709551616 := ndig_get h.dig i
theorem tells128_of {l m : Nat} {hi v : Int} {us : List Nat} (hm : IntKind.u64.wrap hi = (m : Int)) (hu : us = [l, m]) (hl : l < 18446744073709551616) (he : (l : Int) + 18446744073709551616 * hi = v) : Tells 128 v us := by
 subst hu
 refine ⟨show 2 = nwords 128 by decide, ?_⟩
 have e1 : wval [l, m] = l + 18446744073709551616 * m := by simp [wval]
 rw [wrap_u64] at hm
 rw [e1, two128]; omega
theorem tells256_of {q0 q1 q2 q3 : Nat} {v : Int} {us : List Nat} (hu : us = [q0, q1, q2, q3]) (hq : q0 < 18446744073709551616 ∧ q1 < 18446744073709551616 ∧ q2 < 18446744073709551616 ∧ q3 < 18446744073709551616) (he : swv [q0, q1, q2, q3] = v) : Tells 256 v us := by
 subst hu
 refine ⟨show 4 = nwords 256 by decide, ?_⟩
 have h := nval4_lt hq
 rw [swv4] at he
 rw [two256, wval_nval]
 split at he <;> omega
theorem wval_inj : ∀ {xs ys : List Nat}, xs.length = ys.length → (∀ d ∈ xs, d < 18446744073709551616) → (∀ d ∈ ys, d < 18446744073709551616) → wval xs = wval ys → xs = ys
 | [], [], _, _, _, _ => rfl
 | x :: xs, y :: ys, hl, hx, hy, h => by
  have h1 := hx x (by simp)
  have h2 := hy y (by simp)
  simp only [wval] at h
  have e1 : x = y := by omega
  have e2 : wval xs = wval ys := by omega
  have hl' : xs.length = ys.length := by simpa using hl
  rw [e1, wval_inj hl' (fun d hd => hx d (by simp [hd])) (fun d hd => hy d (by simp [hd])) e2]
theorem tells_eq {k v : Int} {us ts : List Nat} (h32 : k ≠ 32) (hu : ∀ d ∈ us, d < 18446744073709551616) (ht : ∀ d ∈ ts, d < 18446744073709551616) (h : Tells k v us) (hW : Wrapped k v ts) : us = ts := by
 obtain ⟨h1, h2⟩ := hW.2 h32
 refine wval_inj (by rw [h.1, h1]) hu ht ?_
 have := h.2
 omega


theorem idle14 (x0 x1 x2 : Value) : Idle P 14 #[x0, x1, x2] := ⟨fun w => by
 refine callsD_of_wpS Tryz.func14 rfl fun c₀ cs hu => ?_
 apply wpS_seq
 apply wpS_region
 simp [wpOpsS, go_sem, recoverD, hu, Tryz.ntmps14, Exit.thenS]
 refine wpS_cond (t := false) (by simp [Act.eval, Array.replicate]) ?_
 simp only [Bool.false_eq_true, if_false]
 refine wpS_of_wp (wp_skip ?_)
 cases c₀
 simp_all [bodyPostS, results, Tryz.results14]⟩

theorem decOf256_spec {C : Nat → Prop} {w : World} {ad : Option Addr} {cap : Nat} {ws : List Nat} (hx : Sl .u64 18446744073709551616 C w ad cap ws) (hl : ws.length = 4) :
    Calls P 15 #[.int .i64 256, .slice ad ws.length cap] w fun ex w' => ex = .returned (.tuple #[.agg #[.int .i64 256, .int .i32 0, .int .i64 0, .int .u64 0, .int .i64 0, .int .u64 ((ws.getD 0 0 : Nat) : Int), .int .u64 ((ws.getD 1 0 : Nat) : Int), .int .u64 ((ws.getD 2 0 : Nat) : Int), .int .u64 ((ws.getD 3 0 : Nat) : Int)], .bool true]) ∧ KS w w' := by
 refine dN (C := C) [.v (.int .i64 256), vS ad ws.length cap] 88 2 Tryz.func15 fun a_ hI hR hB => ?_
 replace hI : Is 88 [] e0 [(0, .v (.int .i64 256)), (1, vS ad ws.length cap)] a_ := hI
 have hrx := hx.room; have hmx := hx.max
 refine rK tab 0 [] [] [(4, .p 0 0)] [0, 1] [⟨0, 52, [.v (.int .i64 0), .v (.int .i32 0), .v (.int .i64 0), .v (.int .u64 0), .v (.int .i64 0), .v (.int .u64 0), .v (.int .u64 0), .v (.int .u64 0), .v (.int .u64 0)]⟩] [] [] [] 1 hR hI .nil fun e1 a1 w1 hag hR hI => ?_
 refine wp_seq ?_
 refine wp_block ?_
 refine regQ_seq tab (by kernel_rfl) (k := 1) (hs := []) (gs := []) (ks := [6, 4, 0, 1])
   (L' := [(6, vB false), (4, .p 0 0), (0, .v (.int .i64 256)), (1, vS ad ws.length cap)]) hR hI (by kernel_rfl) (fun _ _ _ _ _ h => h) (by kernel_rfl)
   .nil (by kernel_rfl) (by kernel_rfl) (fun e2 a2 w2 hag hR hI => ?_)
 refine cnd_f hI (by kernel_rfl) ?_
 refine rZ tab 1 [(32, vB false)] [4, 0, 1] hR hI fun e3 a3 w3 hag hR hI => ?_
 refine cnd_f hI (by kernel_rfl) ?_
 refine rZ tab 1 [(46, vB false)] [4, 0, 1] hR hI fun e4 a4 w4 hag hR hI => ?_
 refine cnd_f hI (by kernel_rfl) ?_
 refine rK tab 1 [(5, .eq (.bool true))] [] [(64, vB true)] [4, 0, 1] [] [0] [] [] 1 hR hI (.cons (congrArg Value.bool (by rw [hl]; rfl : ((ws.length : Int) == (4 : Int)) = true)) .nil) fun e5 a5 w5 hag hR hI => ?_
 refine cnd_t hI (by kernel_rfl) ?_
 refine wp_seq ?_
 refine regL 15 hR (by kernel_rfl) (fun hS => ?_)
 replace hR := hR.drew; have hF := hR.fore
 refine lK tab [(3, .val (vU (ws.getD 3 0))), (6, .val (vU (ws.getD 2 0))), (9, .val (vU (ws.getD 1 0))), (12, .val (vU (ws.getD 0 0)))] [] [0, 1, 2, 3, 4, 5, 6, 7, 8, 9, 10, 11, 12] 4 [(84, vU (ws.getD 0 0)), (81, vU (ws.getD 1 0)), (78, vU (ws.getD 2 0)), (75, vU (ws.getD 3 0)), (72, .v (.int .i64 256))] [4] hS hI (.cons (by omega : (0 : Int) ≤ (3 : Int) ∧ (3 : Int) < (ws.length : Int)) (.cons (nats_some (i := 3) (hx.cells.mono hB.cls) (by omega)) (.cons (nats_load (i := 3) (m := 1) (hx.cells.mono hB.cls) (by omega)) (.cons (by omega : (0 : Int) ≤ (2 : Int) ∧ (2 : Int) < (ws.length : Int)) (.cons (nats_some (i := 2) (hx.cells.mono hB.cls) (by omega)) (.cons (nats_load (i := 2) (m := 1) (hx.cells.mono hB.cls) (by omega)) (.cons (by omega : (0 : Int) ≤ (1 : Int) ∧ (1 : Int) < (ws.length : Int)) (.cons (nats_some (i := 1) (hx.cells.mono hB.cls) (by omega)) (.cons (nats_load (i := 1) (m := 1) (hx.cells.mono hB.cls) (by omega)) (.cons (by omega : (0 : Int) ≤ (0 : Int) ∧ (0 : Int) < (ws.length : Int)) (.cons (nats_some (i := 0) (hx.cells.mono hB.cls) (by omega)) (.cons (nats_load (i := 0) (m := 1) (hx.cells.mono hB.cls) (by omega)) .nil)))))))))))) fun a6 hI => ?_
 refine oneL (i := 13) (f' := 3) (by kernel_rfl) (by rfl) ?_
 refine cH [vU (ws.getD 3 0), vU (ws.getD 2 0), vU (ws.getD 1 0), vU (ws.getD 0 0)] hI Tryz.func34 ?_
 refine (new256_spec (C := C) ((ws.getD 3 0 : Nat) : Int) ((ws.getD 2 0 : Nat) : Int) ((ws.getD 1 0 : Nat) : Int) ((ws.getD 0 0 : Nat) : Int)).mono ?_
 rintro ex w7 ⟨rfl, hk⟩
 replace hS := hS.same hk; replace hR := hR.same hk; clear hk
 refine ⟨_, rfl, hS, ?_⟩
 replace hI := hI.pt 85 (.v (.agg #[.int .u64 ((ws.getD 0 0 : Nat) : Int), .int .u64 ((ws.getD 1 0 : Nat) : Int), .int .u64 ((ws.getD 2 0 : Nat) : Int), .int .u64 ((ws.getD 3 0 : Nat) : Int)])) [85, 84, 81, 78, 75, 72, 4]
 refine lK tab [] [] [14] 2 [(86, .agg [.v (.int .i64 256), .v (.int .i32 0), .v (.int .i64 0), .v (.int .u64 0), .v (.int .i64 0), vU (ws.getD 0 0), vU (ws.getD 1 0), vU (ws.getD 2 0), vU (ws.getD 3 0)])] [4] hS hI .nil fun a8 hI => ?_
 refine endL (i := 15) (f' := 1) (by kernel_rfl) (by rfl) (by kernel_rfl) ?_
 refine eK tab 1 .no (.v (undef)) [⟨0, 52, [.v (.int .i64 256), .v (.int .i32 0), .v (.int .i64 0), .v (.int .u64 0), .v (.int .i64 0), vU (ws.getD 0 0), vU (ws.getD 1 0), vU (ws.getD 2 0), vU (ws.getD 3 0)]⟩] [] [] [] 1 true hR hI .nil fun e9 a9 w9 hag hR2 hI => ?_
 replace hR := hR2; clear hR2
 replace hI := hI.sl [86, 4] rfl
 refine endL (i := 16) (f' := 0) (by kernel_rfl) (by rfl) (by kernel_rfl) ?_
 refine quietL tab (hh := .no) (x := vB true) hR hI rfl rfl rfl (by kernel_rfl) .nil (fun a10 hI => ?_)
 replace hI := hI.sl [5, 86, 4] rfl
 refine doneL (by kernel_rfl) ?_
 refine then_n ?_
 replace hI := hI.sl [5, 4] rfl; replace hR := hR.sel [0] [] rfl rfl
 refine wp_ret ?_
 refine ret_block ?_
 refine ret_then ?_
 refine oN tab [.agg [.v (.int .i64 256), .v (.int .i32 0), .v (.int .i64 0), .v (.int .u64 0), .v (.int .i64 0), vU (ws.getD 0 0), vU (ws.getD 1 0), vU (ws.getD 2 0), vU (ws.getD 3 0)], vB true] hR hI ?_
 exact ⟨rfl, hB.fin hR⟩

theorem words256_spec {C : Nat → Prop} {w : World} {x3 x4 : Int} {q0 q1 q2 q3 : Nat} (hq : q0 < 18446744073709551616 ∧ q1 < 18446744073709551616 ∧ q2 < 18446744073709551616 ∧ q3 < 18446744073709551616) :
    Calls P 18 #[.agg #[.int .i64 256, .int .i32 0, .int .i64 0, .int .u64 x3, .int .i64 x4, .int .u64 (q0 : Int), .int .u64 (q1 : Int), .int .u64 (q2 : Int), .int .u64 (q3 : Int)]] w fun ex w' => ∃ wd wc ws, ex = .returned (.slice wd (List.length ws) wc) ∧ KS w w' ∧ Sl .u64 18446744073709551616 (Grow C w w') w' wd wc ws ∧ ws = [q0, q1, q2, q3] := by
 refine dN (C := C) [.v (.agg #[.int .i64 256, .int .i32 0, .int .i64 0, .int .u64 x3, .int .i64 x4, .int .u64 (q0 : Int), .int .u64 (q1 : Int), .int .u64 (q2 : Int), .int .u64 (q3 : Int)])] 33 1 Tryz.func18 fun a_ hI hR hB => ?_
 replace hI : Is 33 [] e0 [(0, .v (.agg #[.int .i64 256, .int .i32 0, .int .i64 0, .int .u64 x3, .int .i64 x4, .int .u64 (q0 : Int), .int .u64 (q1 : Int), .int .u64 (q2 : Int), .int .u64 (q3 : Int)]))] a_ := hI
 refine rK tab 0 [] [] [(1, .p 0 0)] [] [⟨0, 52, [.v (.int .i64 256), .v (.int .i32 0), .v (.int .i64 0), .v (.int .u64 x3), .v (.int .i64 x4), vU q0, vU q1, vU q2, vU q3]⟩] [] [] [] 1 hR hI .nil fun e1 a1 w1 hag hR hI => ?_
 refine wp_seq ?_
 refine rZ tab 1 [(5, .v (.int .i64 256))] [1] hR hI fun e2 a2 w2 hag hR hI => ?_
 refine wp_block ?_
 refine rZ tab 1 [(6, vB false)] [5, 1] hR hI fun e3 a3 w3 hag hR hI => ?_
 refine cnd_f hI (by kernel_rfl) ?_
 refine rZ tab 1 [(13, vB false)] [5, 1] hR hI fun e4 a4 w4 hag hR hI => ?_
 refine cnd_f hI (by kernel_rfl) ?_
 refine rZ tab 1 [(19, vB false)] [1] hR hI fun e5 a5 w5 hag hR hI => ?_
 refine cnd_f hI (by kernel_rfl) ?_
 refine wp_skip ?_
 refine normal_block ?_
 refine then_n ?_
 refine wp_seq (reg (is := [0, 1, 2, 3, 4]) (by kernel_rfl) ?_)
 refine pK tab [0, 1] [2, 3, 4] 1 [] [] [(30, .agg [vU q0, vU q1, vU q2, vU q3])] [] [] [] [] [] 1 hR hI .nil fun e6 a6 w6 hag hR hI => ?_
 refine cO [.agg [vU q0, vU q1, vU q2, vU q3]] hI Tryz.func42 ?_
 refine (array_spec (C := C) q0 q1 q2 q3).mono ?_
 rintro ex w7 ⟨rfl, hk⟩
 replace hR := hR.same hk; clear hk
 refine ⟨_, rfl, ?_⟩
 replace hI := hI.pt 31 (.v (.agg #[.int .u64 (q0 : Int), .int .u64 (q1 : Int), .int .u64 (q2 : Int), .int .u64 (q3 : Int)])) [31, 30]
 refine pK tab [3, 4] [] 1 [] [] [(3, .p 1 0)] [] [⟨1, 48, [vU q0, vU q1, vU q2, vU q3]⟩] [] [] [] 2 hR hI .nil fun e8 a8 w8 hag hR hI => ?_
 refine ops_nil (then_n ?_)
 refine rZ tab 2 [(2, .sl 1 0 4 4)] [] hR hI fun e9 a9 w9 hag hR hI => ?_
 refine wp_ret ?_
 obtain ⟨e10, hag_, hr_, hR_⟩ := hR.litRow (L := [(2, .sl 1 0 4 4)]) 2 [] (by kernel_rfl) (b := ⟨1, 48, [vU q0, vU q1, vU q2, vU q3]⟩) (by simp) (by simp) (n := 4) (sz := 1) (xs := ints .u64 [q0, q1, q2, q3]) rfl rfl (by decide)
 replace hI := hI.agreeB (H := []) (G := []) (by kernel_rfl) hag_; replace hR := hR_; replace hI := hI.re 2 (.row 2) rfl hr_.symm; clear hag_ hr_ hR_
 obtain ⟨hB_, hR_, hrel_, wd, wc, hv_, hcells_, hlen_, hcap_, hmax_⟩ := hB.release hR (y := ⟨2, 48, 1, 4, (ints .u64 [q0, q1, q2, q3])⟩) (by simp) rfl _ dropN_mem
 have hw : Sl .u64 18446744073709551616 _ _ wd wc [q0, q1, q2, q3] := ⟨hcells_, (dig4 hq), (by dsimp only at hlen_ hcap_; rw [ints_length] at hlen_; omega), hmax_⟩
 replace hI := hI.re 2 (vS wd 4 wc) rfl hv_
 replace hB := hB_; replace hR := hR_.sel [] [] rfl rfl; clear hB_ hR_ hrel_ hcells_ hv_
 refine oN tab [vS wd 4 wc] hR hI ?_
 exact ⟨wd, wc, _, rfl, hB.fin hR, hw.fin hB hR, rfl⟩

theorem decDivWide128_spec {C : Nat → Prop} {w : World} {ad bd : Option Addr} {cap dap : Nat} {ws vs : List Nat} (hx : Sl .u64 18446744073709551616 C w ad cap ws) (hy : Sl .u64 18446744073709551616 C w bd dap vs) (hgl : Sl .i64 18446744073709551616 C w (some ⟨0, 0, none⟩) 1 [40]) (hl : ws.length = 2) (hl' : vs.length = 2) (hy0 : ((((vs.getD 0 0 : Nat) : Int) : Int) + 18446744073709551616 * IntKind.i64.wrap ((vs.getD 1 0 : Nat) : Int)) ≠ 0) (hxb : Int.natAbs ((((ws.getD 0 0 : Nat) : Int) : Int) + 18446744073709551616 * IntKind.i64.wrap ((ws.getD 1 0 : Nat) : Int)) < 2 ^ 127) (hyb : Int.natAbs ((((vs.getD 0 0 : Nat) : Int) : Int) + 18446744073709551616 * IntKind.i64.wrap ((vs.getD 1 0 : Nat) : Int)) < 2 ^ 127) :
    Calls P 5 #[.int .i64 128, .slice ad ws.length cap, .slice bd vs.length dap] w fun ex w' => ∃ us ud uc rs rd rc, ex = .returned (.tuple #[.slice ud (List.length us) uc, .slice rd (List.length rs) rc, .bool true]) ∧ KS w w' ∧ Sl .u64 18446744073709551616 (Grow C w w') w' ud uc us ∧ Sl .u64 18446744073709551616 (Grow C w w') w' rd rc rs ∧ Tells 128 (Int.tdiv ((((ws.getD 0 0 : Nat) : Int) : Int) + 18446744073709551616 * IntKind.i64.wrap ((ws.getD 1 0 : Nat) : Int)) ((((vs.getD 0 0 : Nat) : Int) : Int) + 18446744073709551616 * IntKind.i64.wrap ((vs.getD 1 0 : Nat) : Int))) us ∧ Tells 128 (Int.tmod ((((ws.getD 0 0 : Nat) : Int) : Int) + 18446744073709551616 * IntKind.i64.wrap ((ws.getD 1 0 : Nat) : Int)) ((((vs.getD 0 0 : Nat) : Int) : Int) + 18446744073709551616 * IntKind.i64.wrap ((vs.getD 1 0 : Nat) : Int))) rs := by
 refine doorD (e := e0) (vs := [.v (.int .i64 128), vS ad ws.length cap, vS bd vs.length dap]) (n := 67) (m := 3) Tryz.func5 rfl rfl rfl (by decide) fun a_ hI => ?_
 replace hI : Is 67 [] e0 [(0, .v (.int .i64 128)), (1, vS ad ws.length cap), (2, vS bd vs.length dap)] a_ := hI
 have hR : Rel (fun b => b < w.heap.size) w e0 [] [] w := Rel.start (fun k hk => hk)
 have hB : Base C w C (fun b => b < w.heap.size) w := Base.start
 refine rK tab 0 [] [] [(8, .p 2 0), (7, .p 1 0), (6, .p 0 0)] [0, 1, 2] [⟨2, 4, [vB false]⟩, ⟨1, 22, [vS none 0 0]⟩, ⟨0, 22, [vS none 0 0]⟩] [] [] [] 3 hR hI .nil fun e1 a1 w1 hag hR hI => ?_
 refine wp_seq (reg (is := [0]) (by kernel_rfl) ?_)
 refine deferOp (ys := [.p 0 0, .p 1 0, .p 2 0]) hI rfl rfl rfl ⟨_, rfl, rfl, rfl⟩ (by kernel_rfl) (fun a1 hI => ?_)
 replace hI := hI.sl [8, 7, 6, 0, 1, 2] rfl
 refine ops_nil (then_n ?_)
 refine wp_seq (reg (is := [0, 1, 2, 3, 4, 5, 6, 7, 8]) (by kernel_rfl) ?_)
 refine pZ tab [0, 1] [2, 3, 4, 5, 6, 7, 8] 3 [(17, vS ad ws.length cap), (16, .v (.int .i64 128))] [8, 7, 6, 0, 2] hR hI fun e2 a2 w2 hag hR hI => ?_
 refine cO [.v (.int .i64 128), vS ad ws.length cap] hI Tryz.func15 ?_
 refine (decOf128_spec (hx.now hB hR) hl).mono ?_
 rintro ex w3 ⟨rfl, hk⟩
 replace hR := hR.same hk; clear hk
 refine ⟨_, rfl, ?_⟩
 replace hI := hI.pt 18 (.v (.tuple #[.agg #[.int .i64 128, .int .i32 0, .int .i64 0, .int .u64 ((ws.getD 0 0 : Nat) : Int), .int .i64 (IntKind.i64.wrap ((ws.getD 1 0 : Nat) : Int)), .int .u64 0, .int .u64 0, .int .u64 0, .int .u64 0], .bool true])) [18, 17, 16, 8, 7, 6, 0, 2]
 refine pK tab [3, 4, 5, 6, 7, 8] [] 3 [] [] [(10, vB true), (9, .p 3 0)] [8, 7, 6, 0, 2] [⟨3, 52, [.v (.int .i64 128), .v (.int .i32 0), .v (.int .i64 0), vU (ws.getD 0 0), .v (.int .i64 (IntKind.i64.wrap ((ws.getD 1 0 : Nat) : Int))), .v (.int .u64 0), .v (.int .u64 0), .v (.int .u64 0), .v (.int .u64 0)]⟩] [2, 1, 0] [] [] 4 hR hI .nil fun e4 a4 w4 hag hR hI => ?_
 refine ops_nil (then_n ?_)
 refine wp_seq (reg (is := [0, 1, 2, 3, 4, 5, 6, 7, 8]) (by kernel_rfl) ?_)
 refine pZ tab [0, 1] [2, 3, 4, 5, 6, 7, 8] 4 [(23, vS bd vs.length dap), (22, .v (.int .i64 128))] [10, 9, 8, 7, 6, 0] hR hI fun e5 a5 w5 hag hR hI => ?_
 refine cO [.v (.int .i64 128), vS bd vs.length dap] hI Tryz.func15 ?_
 refine (decOf128_spec (hy.now hB hR) hl').mono ?_
 rintro ex w6 ⟨rfl, hk⟩
 replace hR := hR.same hk; clear hk
 refine ⟨_, rfl, ?_⟩
 replace hI := hI.pt 24 (.v (.tuple #[.agg #[.int .i64 128, .int .i32 0, .int .i64 0, .int .u64 ((vs.getD 0 0 : Nat) : Int), .int .i64 (IntKind.i64.wrap ((vs.getD 1 0 : Nat) : Int)), .int .u64 0, .int .u64 0, .int .u64 0, .int .u64 0], .bool true])) [24, 23, 22, 10, 9, 8, 7, 6, 0]
 refine pK tab [3, 4, 5, 6, 7, 8] [] 4 [] [] [(12, vB true), (11, .p 4 0)] [10, 9, 8, 7, 6, 0] [⟨4, 52, [.v (.int .i64 128), .v (.int .i32 0), .v (.int .i64 0), vU (vs.getD 0 0), .v (.int .i64 (IntKind.i64.wrap ((vs.getD 1 0 : Nat) : Int))), .v (.int .u64 0), .v (.int .u64 0), .v (.int .u64 0), .v (.int .u64 0)]⟩] [3, 2, 1, 0] [] [] 5 hR hI .nil fun e7 a7 w7 hag hR hI => ?_
 refine ops_nil (then_n ?_)
 refine wp_seq ?_
 refine rZ tab 5 [(36, vB false)] [11, 9, 8, 7, 6, 0] hR hI fun e8 a8 w8 hag hR hI => ?_
 refine cnd_f hI (by kernel_rfl) ?_
 refine wp_skip ?_
 refine then_n ?_
 refine rK tab 5 [] [] [(14, .p 6 0), (13, .p 5 0)] [11, 9, 8, 7, 6, 0] [⟨6, 52, [.v (.int .i64 128), .v (.int .i32 0), .v (.int .i64 0), .v (.int .u64 0), .v (.int .i64 0), .v (.int .u64 0), .v (.int .u64 0), .v (.int .u64 0), .v (.int .u64 0)]⟩, ⟨5, 52, [.v (.int .i64 128), .v (.int .i32 0), .v (.int .i64 0), .v (.int .u64 0), .v (.int .i64 0), .v (.int .u64 0), .v (.int .u64 0), .v (.int .u64 0), .v (.int .u64 0)]⟩] [4, 3, 2, 1, 0] [] [] 7 hR hI .nil fun e9 a9 w9 hag hR hI => ?_
 refine wp_seq ?_
 refine rZ tab 7 [(42, vB true)] [14, 13, 11, 9, 8, 7, 6] hR hI fun e10 a10 w10 hag hR hI => ?_
 refine cnd_t hI (by kernel_rfl) ?_
 refine reg (is := [0, 1, 2, 3, 4, 5, 6, 7, 8, 9, 10, 11]) (by kernel_rfl) ?_
 refine pK tab [0, 1, 2, 3] [4, 5, 6, 7, 8, 9, 10, 11] 7 [] [] [(47, .agg [vU (vs.getD 0 0), .v (.int .i64 (IntKind.i64.wrap ((vs.getD 1 0 : Nat) : Int)))]), (45, .agg [vU (ws.getD 0 0), .v (.int .i64 (IntKind.i64.wrap ((ws.getD 1 0 : Nat) : Int)))])] [14, 13, 8, 7, 6] [] [6, 5, 2, 1, 0] [] [] 7 hR hI .nil fun e11 a11 w11 hag hR hI => ?_
 refine cO [.agg [vU (ws.getD 0 0), .v (.int .i64 (IntKind.i64.wrap ((ws.getD 1 0 : Nat) : Int)))], .agg [vU (vs.getD 0 0), .v (.int .i64 (IntKind.i64.wrap ((vs.getD 1 0 : Nat) : Int)))]] hI Tryz.func16 ?_
 refine (div128_spec (C := Now hB) (hx.dig_ 0) (i64_in _).1 (i64_in _).2 (hy.dig_ 0) (i64_in _).1 (i64_in _).2 (hgl.now hB hR) hy0 hxb hyb).mono ?_
 rintro ex w12 ⟨l2, hi2, l3, hi3, rfl, hk, hqb, hrb, hqv, hrv⟩
 replace hR := hR.same hk; clear hk
 refine ⟨_, rfl, ?_⟩
 replace hI := hI.pt 48 (.tup [.v (.agg #[.int .u64 (l2 : Int), .int .i64 hi2]), .v (.agg #[.int .u64 (l3 : Int), .int .i64 hi3])]) [48, 47, 45, 14, 13, 8, 7, 6]
 refine pK tab [5, 6, 7, 8, 9, 10, 11] [] 7 [] [] [] [14, 13, 8, 7, 6] [⟨6, 52, [.v (.int .i64 128), .v (.int .i32 0), .v (.int .i64 0), vU l3, .v (.int .i64 hi3), .v (.int .u64 0), .v (.int .u64 0), .v (.int .u64 0), .v (.int .u64 0)]⟩, ⟨5, 52, [.v (.int .i64 128), .v (.int .i32 0), .v (.int .i64 0), vU l2, .v (.int .i64 hi2), .v (.int .u64 0), .v (.int .u64 0), .v (.int .u64 0), .v (.int .u64 0)]⟩] [2, 1, 0] [] [] 7 hR hI .nil fun e13 a13 w13 hag hR hI => ?_
 refine ops_nil (then_n ?_)
 refine wp_seq ?_
 refine regL 4 hR (by kernel_rfl) (fun hS => ?_)
 replace hR := hR.drew; have hF := hR.fore
 refine cK tab [] [] [0, 2] 5 [(65, .agg [.v (.int .i64 128), .v (.int .i32 0), .v (.int .i64 0), vU l3, .v (.int .i64 hi3), .v (.int .u64 0), .v (.int .u64 0), .v (.int .u64 0), .v (.int .u64 0)]), (63, .agg [.v (.int .i64 128), .v (.int .i32 0), .v (.int .i64 0), vU l2, .v (.int .i64 hi2), .v (.int .u64 0), .v (.int .u64 0), .v (.int .u64 0), .v (.int .u64 0)])] [8, 7, 6] hS hI .nil fun a14 hI => ?_
 refine oneL (i := 1) (f' := 4) (by kernel_rfl) (by rfl) ?_
 refine cH [.agg [.v (.int .i64 128), .v (.int .i32 0), .v (.int .i64 0), vU l2, .v (.int .i64 hi2), .v (.int .u64 0), .v (.int .u64 0), .v (.int .u64 0), .v (.int .u64 0)]] hI Tryz.func18 ?_
 refine (words128_spec (C := Now hB) l2 hi2 hqb.1).mono ?_
 rintro ex w15 ⟨ud, uc, us, rfl, hk, huw, mu, hus, hmu⟩
 replace hF := hF.grow hR hk; replace hS := hS.same hk
 replace hgl := hgl.next hB hR hk
 replace hx := hx.next hB hR hk
 replace hy := hy.next hB hR hk
 obtain ⟨hB, hR⟩ := nx hB hR hk
 refine ⟨_, rfl, hS, ?_⟩
 replace hI := hI.pt 64 (vS ud us.length uc) [64, 65, 63, 8, 7, 6]
 refine oneL (i := 3) (f' := 3) (by kernel_rfl) (by rfl) ?_
 refine cH [.agg [.v (.int .i64 128), .v (.int .i32 0), .v (.int .i64 0), vU l3, .v (.int .i64 hi3), .v (.int .u64 0), .v (.int .u64 0), .v (.int .u64 0), .v (.int .u64 0)]] hI Tryz.func18 ?_
 refine (words128_spec (C := Now hB) l3 hi3 hrb.1).mono ?_
 rintro ex w16 ⟨rd, rc, rs, rfl, hk, hrw, mr, hrs, hmr⟩
 replace hF := hF.grow hR hk; replace hS := hS.same hk
 replace hgl := hgl.next hB hR hk
 replace huw := huw.next hB hR hk
 replace hx := hx.next hB hR hk
 replace hy := hy.next hB hR hk
 obtain ⟨hB, hR⟩ := nx hB hR hk
 refine ⟨_, rfl, hS, ?_⟩
 replace hI := hI.pt 66 (vS rd rs.length rc) [66, 64, 65, 63, 8, 7, 6]
 refine endL (i := 4) (f' := 2) (by kernel_rfl) (by rfl) (by kernel_rfl) ?_
 refine eK tab 7 .no (.v (undef)) [⟨0, 22, [vS ud us.length uc]⟩] [6, 5, 2, 1] [] [] 7 true hR hI .nil fun e17 a17 w17 hag hR2 hI => ?_
 replace hR := hR2; clear hR2
 replace hI := hI.sl [66, 64, 65, 63, 8, 7, 6] rfl
 refine endL (i := 5) (f' := 1) (by kernel_rfl) (by rfl) (by kernel_rfl) ?_
 refine eK tab 7 .no (.v (undef)) [⟨1, 22, [vS rd rs.length rc]⟩] [0, 6, 5, 2] [] [] 7 true hR hI .nil fun e18 a18 w18 hag hR2 hI => ?_
 replace hR := hR2; clear hR2
 replace hI := hI.sl [66, 64, 65, 63, 8, 7, 6] rfl
 refine endL (i := 6) (f' := 0) (by kernel_rfl) (by rfl) (by kernel_rfl) ?_
 refine eK tab 7 .no (.v (undef)) [⟨2, 4, [vB true]⟩] [1, 0, 6, 5] [] [] 7 true hR hI .nil fun e19 a19 w19 hag hR2 hI => ?_
 replace hR := hR2; clear hR2
 replace hI := hI.sl [66, 64, 65, 63, 8, 7, 6] rfl
 refine doneL (by kernel_rfl) ?_
 refine then_n ?_
 replace hI := hI.sl [8, 7, 6] rfl; replace hR := hR.sel [2, 1, 0] [] rfl rfl
 refine wp_ret ?_
 refine outD tab (xs := [vS ud us.length uc, vS rd rs.length rc, vB true]) hR hI Tryz.func14 rfl rfl (idle14 _ _ _) rfl (by kernel_rfl) ?_
 exact ⟨us, ud, uc, rs, rd, rc, rfl, hB.fin hR, huw.fin hB hR, hrw.fin hB hR, tells128_of hmu hus hqb.1 hqv, tells128_of hmr hrs hrb.1 hrv⟩

theorem decDivWide256_spec {C : Nat → Prop} {w : World} {ad bd : Option Addr} {cap dap : Nat} {ws vs : List Nat} (hx : Sl .u64 18446744073709551616 C w ad cap ws) (hy : Sl .u64 18446744073709551616 C w bd dap vs) (hgl : Sl .i64 18446744073709551616 C w (some ⟨0, 0, none⟩) 1 [40]) (hl : ws.length = 4) (hl' : vs.length = 4) (hy0 : (swv [vs.getD 0 0, vs.getD 1 0, vs.getD 2 0, vs.getD 3 0]) ≠ 0) (hxb : Int.natAbs (swv [ws.getD 0 0, ws.getD 1 0, ws.getD 2 0, ws.getD 3 0]) < 2 ^ 255) (hyb : Int.natAbs (swv [vs.getD 0 0, vs.getD 1 0, vs.getD 2 0, vs.getD 3 0]) < 2 ^ 255) :
    Calls P 5 #[.int .i64 256, .slice ad ws.length cap, .slice bd vs.length dap] w fun ex w' => ∃ us ud uc rs rd rc, ex = .returned (.tuple #[.slice ud (List.length us) uc, .slice rd (List.length rs) rc, .bool true]) ∧ KS w w' ∧ Sl .u64 18446744073709551616 (Grow C w w') w' ud uc us ∧ Sl .u64 18446744073709551616 (Grow C w w') w' rd rc rs ∧ Tells 256 (Int.tdiv (swv [ws.getD 0 0, ws.getD 1 0, ws.getD 2 0, ws.getD 3 0]) (swv [vs.getD 0 0, vs.getD 1 0, vs.getD 2 0, vs.getD 3 0])) us ∧ Tells 256 (Int.tmod (swv [ws.getD 0 0, ws.getD 1 0, ws.getD 2 0, ws.getD 3 0]) (swv [vs.getD 0 0, vs.getD 1 0, vs.getD 2 0, vs.getD 3 0])) rs := by
 refine doorD (e := e0) (vs := [.v (.int .i64 256), vS ad ws.length cap, vS bd vs.length dap]) (n := 67) (m := 3) Tryz.func5 rfl rfl rfl (by decide) fun a_ hI => ?_
 replace hI : Is 67 [] e0 [(0, .v (.int .i64 256)), (1, vS ad ws.length cap), (2, vS bd vs.length dap)] a_ := hI
 have hR : Rel (fun b => b < w.heap.size) w e0 [] [] w := Rel.start (fun k hk => hk)
 have hB : Base C w C (fun b => b < w.heap.size) w := Base.start
 refine rK tab 0 [] [] [(8, .p 2 0), (7, .p 1 0), (6, .p 0 0)] [0, 1, 2] [⟨2, 4, [vB false]⟩, ⟨1, 22, [vS none 0 0]⟩, ⟨0, 22, [vS none 0 0]⟩] [] [] [] 3 hR hI .nil fun e1 a1 w1 hag hR hI => ?_
 refine wp_seq (reg (is := [0]) (by kernel_rfl) ?_)
 refine deferOp (ys := [.p 0 0, .p 1 0, .p 2 0]) hI rfl rfl rfl ⟨_, rfl, rfl, rfl⟩ (by kernel_rfl) (fun a1 hI => ?_)
 replace hI := hI.sl [8, 7, 6, 0, 1, 2] rfl
 refine ops_nil (then_n ?_)
 refine wp_seq (reg (is := [0, 1, 2, 3, 4, 5, 6, 7, 8]) (by kernel_rfl) ?_)
 refine pZ tab [0, 1] [2, 3, 4, 5, 6, 7, 8] 3 [(17, vS ad ws.length cap), (16, .v (.int .i64 256))] [8, 7, 6, 0, 2] hR hI fun e2 a2 w2 hag hR hI => ?_
 refine cO [.v (.int .i64 256), vS ad ws.length cap] hI Tryz.func15 ?_
 refine (decOf256_spec (hx.now hB hR) hl).mono ?_
 rintro ex w3 ⟨rfl, hk⟩
 replace hR := hR.same hk; clear hk
 refine ⟨_, rfl, ?_⟩
 replace hI := hI.pt 18 (.v (.tuple #[.agg #[.int .i64 256, .int .i32 0, .int .i64 0, .int .u64 0, .int .i64 0, .int .u64 ((ws.getD 0 0 : Nat) : Int), .int .u64 ((ws.getD 1 0 : Nat) : Int), .int .u64 ((ws.getD 2 0 : Nat) : Int), .int .u64 ((ws.getD 3 0 : Nat) : Int)], .bool true])) [18, 17, 16, 8, 7, 6, 0, 2]
 refine pK tab [3, 4, 5, 6, 7, 8] [] 3 [] [] [(10, vB true), (9, .p 3 0)] [8, 7, 6, 0, 2] [⟨3, 52, [.v (.int .i64 256), .v (.int .i32 0), .v (.int .i64 0), .v (.int .u64 0), .v (.int .i64 0), vU (ws.getD 0 0), vU (ws.getD 1 0), vU (ws.getD 2 0), vU (ws.getD 3 0)]⟩] [2, 1, 0] [] [] 4 hR hI .nil fun e4 a4 w4 hag hR hI => ?_
 refine ops_nil (then_n ?_)
 refine wp_seq (reg (is := [0, 1, 2, 3, 4, 5, 6, 7, 8]) (by kernel_rfl) ?_)
 refine pZ tab [0, 1] [2, 3, 4, 5, 6, 7, 8] 4 [(23, vS bd vs.length dap), (22, .v (.int .i64 256))] [10, 9, 8, 7, 6, 0] hR hI fun e5 a5 w5 hag hR hI => ?_
 refine cO [.v (.int .i64 256), vS bd vs.length dap] hI Tryz.func15 ?_
 refine (decOf256_spec (hy.now hB hR) hl').mono ?_
 rintro ex w6 ⟨rfl, hk⟩
 replace hR := hR.same hk; clear hk
 refine ⟨_, rfl, ?_⟩
 replace hI := hI.pt 24 (.v (.tuple #[.agg #[.int .i64 256, .int .i32 0, .int .i64 0, .int .u64 0, .int .i64 0, .int .u64 ((vs.getD 0 0 : Nat) : Int), .int .u64 ((vs.getD 1 0 : Nat) : Int), .int .u64 ((vs.getD 2 0 : Nat) : Int), .int .u64 ((vs.getD 3 0 : Nat) : Int)], .bool true])) [24, 23, 22, 10, 9, 8, 7, 6, 0]
 refine pK tab [3, 4, 5, 6, 7, 8] [] 4 [] [] [(12, vB true), (11, .p 4 0)] [10, 9, 8, 7, 6, 0] [⟨4, 52, [.v (.int .i64 256), .v (.int .i32 0), .v (.int .i64 0), .v (.int .u64 0), .v (.int .i64 0), vU (vs.getD 0 0), vU (vs.getD 1 0), vU (vs.getD 2 0), vU (vs.getD 3 0)]⟩] [3, 2, 1, 0] [] [] 5 hR hI .nil fun e7 a7 w7 hag hR hI => ?_
 refine ops_nil (then_n ?_)
 refine wp_seq ?_
 refine rZ tab 5 [(36, vB false)] [11, 9, 8, 7, 6, 0] hR hI fun e8 a8 w8 hag hR hI => ?_
 refine cnd_f hI (by kernel_rfl) ?_
 refine wp_skip ?_
 refine then_n ?_
 refine rK tab 5 [] [] [(14, .p 6 0), (13, .p 5 0)] [11, 9, 8, 7, 6, 0] [⟨6, 52, [.v (.int .i64 256), .v (.int .i32 0), .v (.int .i64 0), .v (.int .u64 0), .v (.int .i64 0), .v (.int .u64 0), .v (.int .u64 0), .v (.int .u64 0), .v (.int .u64 0)]⟩, ⟨5, 52, [.v (.int .i64 256), .v (.int .i32 0), .v (.int .i64 0), .v (.int .u64 0), .v (.int .i64 0), .v (.int .u64 0), .v (.int .u64 0), .v (.int .u64 0), .v (.int .u64 0)]⟩] [4, 3, 2, 1, 0] [] [] 7 hR hI .nil fun e9 a9 w9 hag hR hI => ?_
 refine wp_seq ?_
 refine rZ tab 7 [(42, vB false)] [14, 13, 11, 9, 8, 7, 6] hR hI fun e10 a10 w10 hag hR hI => ?_
 refine cnd_f hI (by kernel_rfl) ?_
 refine reg (is := [0, 1, 2, 3, 4, 5, 6, 7, 8, 9, 10, 11]) (by kernel_rfl) ?_
 refine pK tab [0, 1, 2, 3] [4, 5, 6, 7, 8, 9, 10, 11] 7 [] [] [(57, .agg [vU (vs.getD 0 0), vU (vs.getD 1 0), vU (vs.getD 2 0), vU (vs.getD 3 0)]), (55, .agg [vU (ws.getD 0 0), vU (ws.getD 1 0), vU (ws.getD 2 0), vU (ws.getD 3 0)])] [14, 13, 8, 7, 6] [] [6, 5, 2, 1, 0] [] [] 7 hR hI .nil fun e11 a11 w11 hag hR hI => ?_
 refine cO [.agg [vU (ws.getD 0 0), vU (ws.getD 1 0), vU (ws.getD 2 0), vU (ws.getD 3 0)], .agg [vU (vs.getD 0 0), vU (vs.getD 1 0), vU (vs.getD 2 0), vU (vs.getD 3 0)]] hI Tryz.func17 ?_
 refine (div256_spec (C := Now hB) ⟨hx.dig_ 0, hx.dig_ 1, hx.dig_ 2, hx.dig_ 3⟩ ⟨hy.dig_ 0, hy.dig_ 1, hy.dig_ 2, hy.dig_ 3⟩ (hgl.now hB hR) hy0 hxb hyb).mono ?_
 rintro ex w12 ⟨c0, c1, c2, c3, d0, d1, d2, d3, rfl, hk, hqb, hrb, hqv, hrv⟩
 replace hR := hR.same hk; clear hk
 refine ⟨_, rfl, ?_⟩
 replace hI := hI.pt 58 (.tup [.v (.agg #[.int .u64 (c0 : Int), .int .u64 (c1 : Int), .int .u64 (c2 : Int), .int .u64 (c3 : Int)]), .v (.agg #[.int .u64 (d0 : Int), .int .u64 (d1 : Int), .int .u64 (d2 : Int), .int .u64 (d3 : Int)])]) [58, 57, 55, 14, 13, 8, 7, 6]
 refine pK tab [5, 6, 7, 8, 9, 10, 11] [] 7 [] [] [] [14, 13, 8, 7, 6] [⟨6, 52, [.v (.int .i64 256), .v (.int .i32 0), .v (.int .i64 0), .v (.int .u64 0), .v (.int .i64 0), vU d0, vU d1, vU d2, vU d3]⟩, ⟨5, 52, [.v (.int .i64 256), .v (.int .i32 0), .v (.int .i64 0), .v (.int .u64 0), .v (.int .i64 0), vU c0, vU c1, vU c2, vU c3]⟩] [2, 1, 0] [] [] 7 hR hI .nil fun e13 a13 w13 hag hR hI => ?_
 refine ops_nil (then_n ?_)
 refine wp_seq ?_
 refine regL 4 hR (by kernel_rfl) (fun hS => ?_)
 replace hR := hR.drew; have hF := hR.fore
 refine cK tab [] [] [0, 2] 5 [(65, .agg [.v (.int .i64 256), .v (.int .i32 0), .v (.int .i64 0), .v (.int .u64 0), .v (.int .i64 0), vU d0, vU d1, vU d2, vU d3]), (63, .agg [.v (.int .i64 256), .v (.int .i32 0), .v (.int .i64 0), .v (.int .u64 0), .v (.int .i64 0), vU c0, vU c1, vU c2, vU c3])] [8, 7, 6] hS hI .nil fun a14 hI => ?_
 refine oneL (i := 1) (f' := 4) (by kernel_rfl) (by rfl) ?_
 refine cH [.agg [.v (.int .i64 256), .v (.int .i32 0), .v (.int .i64 0), .v (.int .u64 0), .v (.int .i64 0), vU c0, vU c1, vU c2, vU c3]] hI Tryz.func18 ?_
 refine (words256_spec (C := Now hB) hqb).mono ?_
 rintro ex w15 ⟨ud, uc, us, rfl, hk, huw, hus⟩
 replace hF := hF.grow hR hk; replace hS := hS.same hk
 replace hgl := hgl.next hB hR hk
 replace hx := hx.next hB hR hk
 replace hy := hy.next hB hR hk
 obtain ⟨hB, hR⟩ := nx hB hR hk
 refine ⟨_, rfl, hS, ?_⟩
 replace hI := hI.pt 64 (vS ud us.length uc) [64, 65, 63, 8, 7, 6]
 refine oneL (i := 3) (f' := 3) (by kernel_rfl) (by rfl) ?_
 refine cH [.agg [.v (.int .i64 256), .v (.int .i32 0), .v (.int .i64 0), .v (.int .u64 0), .v (.int .i64 0), vU d0, vU d1, vU d2, vU d3]] hI Tryz.func18 ?_
 refine (words256_spec (C := Now hB) hrb).mono ?_
 rintro ex w16 ⟨rd, rc, rs, rfl, hk, hrw, hrs⟩
 replace hF := hF.grow hR hk; replace hS := hS.same hk
 replace hgl := hgl.next hB hR hk
 replace huw := huw.next hB hR hk
 replace hx := hx.next hB hR hk
 replace hy := hy.next hB hR hk
 obtain ⟨hB, hR⟩ := nx hB hR hk
 refine ⟨_, rfl, hS, ?_⟩
 replace hI := hI.pt 66 (vS rd rs.length rc) [66, 64, 65, 63, 8, 7, 6]
 refine endL (i := 4) (f' := 2) (by kernel_rfl) (by rfl) (by kernel_rfl) ?_
 refine eK tab 7 .no (.v (undef)) [⟨0, 22, [vS ud us.length uc]⟩] [6, 5, 2, 1] [] [] 7 true hR hI .nil fun e17 a17 w17 hag hR2 hI => ?_
 replace hR := hR2; clear hR2
 replace hI := hI.sl [66, 64, 65, 63, 8, 7, 6] rfl
 refine endL (i := 5) (f' := 1) (by kernel_rfl) (by rfl) (by kernel_rfl) ?_
 refine eK tab 7 .no (.v (undef)) [⟨1, 22, [vS rd rs.length rc]⟩] [0, 6, 5, 2] [] [] 7 true hR hI .nil fun e18 a18 w18 hag hR2 hI => ?_
 replace hR := hR2; clear hR2
 replace hI := hI.sl [66, 64, 65, 63, 8, 7, 6] rfl
 refine endL (i := 6) (f' := 0) (by kernel_rfl) (by rfl) (by kernel_rfl) ?_
 refine eK tab 7 .no (.v (undef)) [⟨2, 4, [vB true]⟩] [1, 0, 6, 5] [] [] 7 true hR hI .nil fun e19 a19 w19 hag hR2 hI => ?_
 replace hR := hR2; clear hR2
 replace hI := hI.sl [66, 64, 65, 63, 8, 7, 6] rfl
 refine doneL (by kernel_rfl) ?_
 refine then_n ?_
 replace hI := hI.sl [8, 7, 6] rfl; replace hR := hR.sel [2, 1, 0] [] rfl rfl
 refine wp_ret ?_
 refine outD tab (xs := [vS ud us.length uc, vS rd rs.length rc, vB true]) hR hI Tryz.func14 rfl rfl (idle14 _ _ _) rfl (by kernel_rfl) ?_
 exact ⟨us, ud, uc, rs, rd, rc, rfl, hB.fin hR, huw.fin hB hR, hrw.fin hB hR, tells256_of hus hqb hqv, tells256_of hrs hrb hrv⟩

end Go.Proofs.YtmendapdibnbdaaGreatDoor.Stride
