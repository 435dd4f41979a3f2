/- Walks of the program's functions, printed by a program of mine (walk.py) over the words of Stride: each function's contract. -/
import Derived.Test.YtmendapdibnbdaaGreatDoorPwG
namespace Go.Proofs.YtmendapdibnbdaaGreatDoor.Stride
open Go Go.RowKit Go.Proofs.YtmendapdibnbdaaGreatDoor.Mag
set_option linter.unusedVariables false
set_option linter.unusedSimpArgs false
set_option maxHeartbeats 4000000
set_option maxRecDepth 100000
theorem idle27 (x0 x1 : Value) : Idle P 27 #[x0, x1] := ⟨fun w => by
 refine callsD_of_wpS Tryz.func27 rfl fun c₀ cs hu => ?_
 apply wpS_seq
 apply wpS_region
 simp [wpOpsS, go_sem, recoverD, hu, Tryz.ntmps27, Exit.thenS]
 refine wpS_cond (t := false) (by simp [Act.eval, Array.replicate]) ?_
 simp only [Bool.false_eq_true, if_false]
 refine wpS_of_wp (wp_skip ?_)
 cases c₀
 simp_all [bodyPostS, results, Tryz.results27]⟩

theorem decPowWide128_spec {C : Nat → Prop} {w : World} {ad bd : Option Addr} {cap dap : Nat} {ws vs : List Nat} (hx : Sl .u64 18446744073709551616 C w ad cap ws) (hy : Sl .u64 18446744073709551616 C w bd dap vs) (hk1 : Sl .i64 18446744073709551616 C w (some ⟨1, 0, none⟩) 1 [12]) (hk2 : Sl .i64 18446744073709551616 C w (some ⟨2, 0, none⟩) 1 [80]) (hk3 : Sl .i64 18446744073709551616 C w (some ⟨3, 0, none⟩) 1 [40]) (hl : ws.length = 2) (hl' : vs.length = 2) (hy0 : 0 ≤ ((((vs.getD 0 0 : Nat) : Int) : Int) + 18446744073709551616 * IntKind.i64.wrap ((vs.getD 1 0 : Nat) : Int))) (hy20 : ((((vs.getD 0 0 : Nat) : Int) : Int) + 18446744073709551616 * IntKind.i64.wrap ((vs.getD 1 0 : Nat) : Int)) ≤ 20) (hpb : Int.natAbs ((((ws.getD 0 0 : Nat) : Int) : Int) + 18446744073709551616 * IntKind.i64.wrap ((ws.getD 1 0 : Nat) : Int)) ^ Int.natAbs ((((vs.getD 0 0 : Nat) : Int) : Int) + 18446744073709551616 * IntKind.i64.wrap ((vs.getD 1 0 : Nat) : Int)) < 2 ^ 127) :
    Calls P 12 #[.int .i64 128, .slice ad ws.length cap, .slice bd vs.length dap] w fun ex w' => ∃ us ud uc, ex = .returned (.tuple #[.slice ud (List.length us) uc, .bool true]) ∧ KS w w' ∧ Sl .u64 18446744073709551616 (Grow C w w') w' ud uc us ∧ Tells 128 (((((ws.getD 0 0 : Nat) : Int) : Int) + 18446744073709551616 * IntKind.i64.wrap ((ws.getD 1 0 : Nat) : Int)) ^ Int.natAbs ((((vs.getD 0 0 : Nat) : Int) : Int) + 18446744073709551616 * IntKind.i64.wrap ((vs.getD 1 0 : Nat) : Int))) us := by
 refine doorD (e := e0) (vs := [.v (.int .i64 128), vS ad ws.length cap, vS bd vs.length dap]) (n := 50) (m := 3) Tryz.func12 rfl rfl rfl (by decide) fun a_ hI => ?_
 replace hI : Is 50 [] e0 [(0, .v (.int .i64 128)), (1, vS ad ws.length cap), (2, vS bd vs.length dap)] a_ := hI
 have hR : Rel (fun b => b < w.heap.size) w e0 [] [] w := Rel.start (fun k hk => hk)
 have hB : Base C w C (fun b => b < w.heap.size) w := Base.start
 refine rK tab 0 [] [] [(7, .p 1 0), (6, .p 0 0)] [0, 1, 2] [⟨1, 4, [vB false]⟩, ⟨0, 22, [vS none 0 0]⟩] [] [] [] 2 hR hI .nil fun e1 a1 w1 hag hR hI => ?_
 refine wp_seq (reg (is := [0]) (by kernel_rfl) ?_)
 refine deferOp (ys := [.p 0 0, .p 1 0]) hI rfl rfl rfl ⟨_, rfl, rfl, rfl⟩ (by kernel_rfl) (fun a1 hI => ?_)
 replace hI := hI.sl [7, 6, 0, 1, 2] rfl
 refine ops_nil (then_n ?_)
 refine wp_seq (reg (is := [0, 1, 2, 3, 4, 5, 6, 7, 8]) (by kernel_rfl) ?_)
 refine pZ tab [0, 1] [2, 3, 4, 5, 6, 7, 8] 2 [(14, vS ad ws.length cap), (13, .v (.int .i64 128))] [7, 6, 0, 2] hR hI fun e2 a2 w2 hag hR hI => ?_
 refine cO [.v (.int .i64 128), vS ad ws.length cap] hI Tryz.func15 ?_
 refine (decOf128_spec (hx.now hB hR) hl).mono ?_
 rintro ex w3 ⟨rfl, hk⟩
 replace hR := hR.same hk; clear hk
 refine ⟨_, rfl, ?_⟩
 replace hI := hI.pt 15 (.v (.tuple #[.agg #[.int .i64 128, .int .i32 0, .int .i64 0, .int .u64 ((ws.getD 0 0 : Nat) : Int), .int .i64 (IntKind.i64.wrap ((ws.getD 1 0 : Nat) : Int)), .int .u64 0, .int .u64 0, .int .u64 0, .int .u64 0], .bool true])) [15, 14, 13, 7, 6, 0, 2]
 refine pK tab [3, 4, 5, 6, 7, 8] [] 2 [] [] [(9, vB true), (8, .p 2 0)] [7, 6, 0, 2] [⟨2, 52, [.v (.int .i64 128), .v (.int .i32 0), .v (.int .i64 0), vU (ws.getD 0 0), .v (.int .i64 (IntKind.i64.wrap ((ws.getD 1 0 : Nat) : Int))), .v (.int .u64 0), .v (.int .u64 0), .v (.int .u64 0), .v (.int .u64 0)]⟩] [1, 0] [] [] 3 hR hI .nil fun e4 a4 w4 hag hR hI => ?_
 refine ops_nil (then_n ?_)
 refine wp_seq (reg (is := [0, 1, 2, 3, 4, 5, 6, 7, 8]) (by kernel_rfl) ?_)
 refine pZ tab [0, 1] [2, 3, 4, 5, 6, 7, 8] 3 [(20, vS bd vs.length dap), (19, .v (.int .i64 128))] [9, 8, 7, 6, 0] hR hI fun e5 a5 w5 hag hR hI => ?_
 refine cO [.v (.int .i64 128), vS bd vs.length dap] hI Tryz.func15 ?_
 refine (decOf128_spec (hy.now hB hR) hl').mono ?_
 rintro ex w6 ⟨rfl, hk⟩
 replace hR := hR.same hk; clear hk
 refine ⟨_, rfl, ?_⟩
 replace hI := hI.pt 21 (.v (.tuple #[.agg #[.int .i64 128, .int .i32 0, .int .i64 0, .int .u64 ((vs.getD 0 0 : Nat) : Int), .int .i64 (IntKind.i64.wrap ((vs.getD 1 0 : Nat) : Int)), .int .u64 0, .int .u64 0, .int .u64 0, .int .u64 0], .bool true])) [21, 20, 19, 9, 8, 7, 6, 0]
 refine pK tab [3, 4, 5, 6, 7, 8] [] 3 [] [] [(11, vB true), (10, .p 3 0)] [9, 8, 7, 6, 0] [⟨3, 52, [.v (.int .i64 128), .v (.int .i32 0), .v (.int .i64 0), vU (vs.getD 0 0), .v (.int .i64 (IntKind.i64.wrap ((vs.getD 1 0 : Nat) : Int))), .v (.int .u64 0), .v (.int .u64 0), .v (.int .u64 0), .v (.int .u64 0)]⟩] [2, 1, 0] [] [] 4 hR hI .nil fun e7 a7 w7 hag hR hI => ?_
 refine ops_nil (then_n ?_)
 refine wp_seq ?_
 refine rZ tab 4 [(33, vB false)] [10, 8, 7, 6, 0] hR hI fun e8 a8 w8 hag hR hI => ?_
 refine cnd_f hI (by kernel_rfl) ?_
 refine wp_skip ?_
 refine then_n ?_
 refine wp_seq ?_
 refine rZ tab 4 [(35, vB true)] [10, 8, 7, 6] hR hI fun e9 a9 w9 hag hR hI => ?_
 refine cnd_t hI (by kernel_rfl) ?_
 refine reg (is := [0, 1, 2, 3, 4, 5, 6]) (by kernel_rfl) ?_
 refine pK tab [0, 1, 2, 3] [4, 5, 6] 4 [] [] [(39, .agg [vU (vs.getD 0 0), .v (.int .i64 (IntKind.i64.wrap ((vs.getD 1 0 : Nat) : Int)))]), (37, .agg [vU (ws.getD 0 0), .v (.int .i64 (IntKind.i64.wrap ((ws.getD 1 0 : Nat) : Int)))])] [8, 7, 6] [] [2, 1, 0] [] [] 4 hR hI .nil fun e10 a10 w10 hag hR hI => ?_
 refine cO [.agg [vU (ws.getD 0 0), .v (.int .i64 (IntKind.i64.wrap ((ws.getD 1 0 : Nat) : Int)))], .agg [vU (vs.getD 0 0), .v (.int .i64 (IntKind.i64.wrap ((vs.getD 1 0 : Nat) : Int)))]] hI Tryz.func28 ?_
 refine (pow128_spec (C := Now hB) (hx.dig_ 0) (i64_in _).1 (i64_in _).2 (hy.dig_ 0) (i64_in _).1 (i64_in _).2 (hk1.now hB hR) (hk2.now hB hR) (hk3.now hB hR) hy0 hy20 hpb).mono ?_
 rintro ex w11 ⟨l2, hi2, rfl, hk, hqb, hqv⟩
 replace hR := hR.same hk; clear hk
 refine ⟨_, rfl, ?_⟩
 replace hI := hI.pt 40 (.v (.agg #[.int .u64 (l2 : Int), .int .i64 hi2])) [40, 39, 37, 8, 7, 6]
 refine pK tab [5, 6] [] 4 [] [] [] [8, 7, 6] [⟨2, 52, [.v (.int .i64 128), .v (.int .i32 0), .v (.int .i64 0), vU l2, .v (.int .i64 hi2), .v (.int .u64 0), .v (.int .u64 0), .v (.int .u64 0), .v (.int .u64 0)]⟩] [1, 0] [] [] 4 hR hI .nil fun e12 a12 w12 hag hR hI => ?_
 refine ops_nil (then_n ?_)
 refine wp_seq (reg (is := [0, 1, 2, 3]) (by kernel_rfl) ?_)
 refine pK tab [0] [1, 2, 3] 4 [] [] [(48, .agg [.v (.int .i64 128), .v (.int .i32 0), .v (.int .i64 0), vU l2, .v (.int .i64 hi2), .v (.int .u64 0), .v (.int .u64 0), .v (.int .u64 0), .v (.int .u64 0)])] [7, 6] [] [1, 0] [] [] 4 hR hI .nil fun e13 a13 w13 hag hR hI => ?_
 refine cO [.agg [.v (.int .i64 128), .v (.int .i32 0), .v (.int .i64 0), vU l2, .v (.int .i64 hi2), .v (.int .u64 0), .v (.int .u64 0), .v (.int .u64 0), .v (.int .u64 0)]] hI Tryz.func18 ?_
 refine (words128_spec (C := Now hB) l2 hi2 hqb.1).mono ?_
 rintro ex w14 ⟨ud, uc, us, rfl, hk, huw, mu, hus, hmu⟩
 replace hk1 := hk1.next hB hR hk
 replace hk2 := hk2.next hB hR hk
 replace hk3 := hk3.next hB hR hk
 replace hx := hx.next hB hR hk
 replace hy := hy.next hB hR hk
 obtain ⟨hB, hR⟩ := nx hB hR hk
 refine ⟨_, rfl, ?_⟩
 replace hI := hI.pt 49 (vS ud us.length uc) [49, 48, 7, 6]
 refine pK tab [2, 3] [] 4 [] [] [] [7, 6] [⟨1, 4, [vB true]⟩, ⟨0, 22, [vS ud us.length uc]⟩] [] [] [] 4 hR hI .nil fun e15 a15 w15 hag hR hI => ?_
 refine ops_nil (then_n ?_)
 refine wp_ret ?_
 refine outD tab (xs := [vS ud us.length uc, vB true]) hR hI Tryz.func27 rfl rfl (idle27 _ _) rfl (by kernel_rfl) ?_
 exact ⟨us, ud, uc, rfl, hB.fin hR, huw.fin hB hR, tells128_of hmu hus hqb.1 hqv⟩

theorem decPowWide256_spec {C : Nat → Prop} {w : World} {ad bd : Option Addr} {cap dap : Nat} {ws vs : List Nat} (hx : Sl .u64 18446744073709551616 C w ad cap ws) (hy : Sl .u64 18446744073709551616 C w bd dap vs) (hk1 : Sl .i64 18446744073709551616 C w (some ⟨1, 0, none⟩) 1 [12]) (hk2 : Sl .i64 18446744073709551616 C w (some ⟨2, 0, none⟩) 1 [80]) (hk3 : Sl .i64 18446744073709551616 C w (some ⟨3, 0, none⟩) 1 [40]) (hl : ws.length = 4) (hl' : vs.length = 4) (hy0 : 0 ≤ (swv [vs.getD 0 0, vs.getD 1 0, vs.getD 2 0, vs.getD 3 0])) (hy20 : (swv [vs.getD 0 0, vs.getD 1 0, vs.getD 2 0, vs.getD 3 0]) ≤ 20) (hpb : Int.natAbs (swv [ws.getD 0 0, ws.getD 1 0, ws.getD 2 0, ws.getD 3 0]) ^ Int.natAbs (swv [vs.getD 0 0, vs.getD 1 0, vs.getD 2 0, vs.getD 3 0]) < 2 ^ 255) :
    Calls P 12 #[.int .i64 256, .slice ad ws.length cap, .slice bd vs.length dap] w fun ex w' => ∃ us ud uc, ex = .returned (.tuple #[.slice ud (List.length us) uc, .bool true]) ∧ KS w w' ∧ Sl .u64 18446744073709551616 (Grow C w w') w' ud uc us ∧ Tells 256 ((swv [ws.getD 0 0, ws.getD 1 0, ws.getD 2 0, ws.getD 3 0]) ^ Int.natAbs (swv [vs.getD 0 0, vs.getD 1 0, vs.getD 2 0, vs.getD 3 0])) us := by
 refine doorD (e := e0) (vs := [.v (.int .i64 256), vS ad ws.length cap, vS bd vs.length dap]) (n := 50) (m := 3) Tryz.func12 rfl rfl rfl (by decide) fun a_ hI => ?_
 replace hI : Is 50 [] e0 [(0, .v (.int .i64 256)), (1, vS ad ws.length cap), (2, vS bd vs.length dap)] a_ := hI
 have hR : Rel (fun b => b < w.heap.size) w e0 [] [] w := Rel.start (fun k hk => hk)
 have hB : Base C w C (fun b => b < w.heap.size) w := Base.start
 refine rK tab 0 [] [] [(7, .p 1 0), (6, .p 0 0)] [0, 1, 2] [⟨1, 4, [vB false]⟩, ⟨0, 22, [vS none 0 0]⟩] [] [] [] 2 hR hI .nil fun e1 a1 w1 hag hR hI => ?_
 refine wp_seq (reg (is := [0]) (by kernel_rfl) ?_)
 refine deferOp (ys := [.p 0 0, .p 1 0]) hI rfl rfl rfl ⟨_, rfl, rfl, rfl⟩ (by kernel_rfl) (fun a1 hI => ?_)
 replace hI := hI.sl [7, 6, 0, 1, 2] rfl
 refine ops_nil (then_n ?_)
 refine wp_seq (reg (is := [0, 1, 2, 3, 4, 5, 6, 7, 8]) (by kernel_rfl) ?_)
 refine pZ tab [0, 1] [2, 3, 4, 5, 6, 7, 8] 2 [(14, vS ad ws.length cap), (13, .v (.int .i64 256))] [7, 6, 0, 2] hR hI fun e2 a2 w2 hag hR hI => ?_
 refine cO [.v (.int .i64 256), vS ad ws.length cap] hI Tryz.func15 ?_
 refine (decOf256_spec (hx.now hB hR) hl).mono ?_
 rintro ex w3 ⟨rfl, hk⟩
 replace hR := hR.same hk; clear hk
 refine ⟨_, rfl, ?_⟩
 replace hI := hI.pt 15 (.v (.tuple #[.agg #[.int .i64 256, .int .i32 0, .int .i64 0, .int .u64 0, .int .i64 0, .int .u64 ((ws.getD 0 0 : Nat) : Int), .int .u64 ((ws.getD 1 0 : Nat) : Int), .int .u64 ((ws.getD 2 0 : Nat) : Int), .int .u64 ((ws.getD 3 0 : Nat) : Int)], .bool true])) [15, 14, 13, 7, 6, 0, 2]
 refine pK tab [3, 4, 5, 6, 7, 8] [] 2 [] [] [(9, vB true), (8, .p 2 0)] [7, 6, 0, 2] [⟨2, 52, [.v (.int .i64 256), .v (.int .i32 0), .v (.int .i64 0), .v (.int .u64 0), .v (.int .i64 0), vU (ws.getD 0 0), vU (ws.getD 1 0), vU (ws.getD 2 0), vU (ws.getD 3 0)]⟩] [1, 0] [] [] 3 hR hI .nil fun e4 a4 w4 hag hR hI => ?_
 refine ops_nil (then_n ?_)
 refine wp_seq (reg (is := [0, 1, 2, 3, 4, 5, 6, 7, 8]) (by kernel_rfl) ?_)
 refine pZ tab [0, 1] [2, 3, 4, 5, 6, 7, 8] 3 [(20, vS bd vs.length dap), (19, .v (.int .i64 256))] [9, 8, 7, 6, 0] hR hI fun e5 a5 w5 hag hR hI => ?_
 refine cO [.v (.int .i64 256), vS bd vs.length dap] hI Tryz.func15 ?_
 refine (decOf256_spec (hy.now hB hR) hl').mono ?_
 rintro ex w6 ⟨rfl, hk⟩
 replace hR := hR.same hk; clear hk
 refine ⟨_, rfl, ?_⟩
 replace hI := hI.pt 21 (.v (.tuple #[.agg #[.int .i64 256, .int .i32 0, .int .i64 0, .int .u64 0, .int .i64 0, .int .u64 ((vs.getD 0 0 : Nat) : Int), .int .u64 ((vs.getD 1 0 : Nat) : Int), .int .u64 ((vs.getD 2 0 : Nat) : Int), .int .u64 ((vs.getD 3 0 : Nat) : Int)], .bool true])) [21, 20, 19, 9, 8, 7, 6, 0]
 refine pK tab [3, 4, 5, 6, 7, 8] [] 3 [] [] [(11, vB true), (10, .p 3 0)] [9, 8, 7, 6, 0] [⟨3, 52, [.v (.int .i64 256), .v (.int .i32 0), .v (.int .i64 0), .v (.int .u64 0), .v (.int .i64 0), vU (vs.getD 0 0), vU (vs.getD 1 0), vU (vs.getD 2 0), vU (vs.getD 3 0)]⟩] [2, 1, 0] [] [] 4 hR hI .nil fun e7 a7 w7 hag hR hI => ?_
 refine ops_nil (then_n ?_)
 refine wp_seq ?_
 refine rZ tab 4 [(33, vB false)] [10, 8, 7, 6, 0] hR hI fun e8 a8 w8 hag hR hI => ?_
 refine cnd_f hI (by kernel_rfl) ?_
 refine wp_skip ?_
 refine then_n ?_
 refine wp_seq ?_
 refine rZ tab 4 [(35, vB false)] [10, 8, 7, 6] hR hI fun e9 a9 w9 hag hR hI => ?_
 refine cnd_f hI (by kernel_rfl) ?_
 refine reg (is := [0, 1, 2, 3, 4, 5, 6]) (by kernel_rfl) ?_
 refine pK tab [0, 1, 2, 3] [4, 5, 6] 4 [] [] [(45, .agg [vU (vs.getD 0 0), vU (vs.getD 1 0), vU (vs.getD 2 0), vU (vs.getD 3 0)]), (43, .agg [vU (ws.getD 0 0), vU (ws.getD 1 0), vU (ws.getD 2 0), vU (ws.getD 3 0)])] [8, 7, 6] [] [2, 1, 0] [] [] 4 hR hI .nil fun e10 a10 w10 hag hR hI => ?_
 refine cO [.agg [vU (ws.getD 0 0), vU (ws.getD 1 0), vU (ws.getD 2 0), vU (ws.getD 3 0)], .agg [vU (vs.getD 0 0), vU (vs.getD 1 0), vU (vs.getD 2 0), vU (vs.getD 3 0)]] hI Tryz.func29 ?_
 refine (pow256_spec (C := Now hB) ⟨hx.dig_ 0, hx.dig_ 1, hx.dig_ 2, hx.dig_ 3⟩ ⟨hy.dig_ 0, hy.dig_ 1, hy.dig_ 2, hy.dig_ 3⟩ (hk1.now hB hR) (hk2.now hB hR) (hk3.now hB hR) hy0 hy20 hpb).mono ?_
 rintro ex w11 ⟨c0, c1, c2, c3, rfl, hk, hqb, hqv⟩
 replace hR := hR.same hk; clear hk
 refine ⟨_, rfl, ?_⟩
 replace hI := hI.pt 46 (.v (.agg #[.int .u64 (c0 : Int), .int .u64 (c1 : Int), .int .u64 (c2 : Int), .int .u64 (c3 : Int)])) [46, 45, 43, 8, 7, 6]
 refine pK tab [5, 6] [] 4 [] [] [] [8, 7, 6] [⟨2, 52, [.v (.int .i64 256), .v (.int .i32 0), .v (.int .i64 0), .v (.int .u64 0), .v (.int .i64 0), vU c0, vU c1, vU c2, vU c3]⟩] [1, 0] [] [] 4 hR hI .nil fun e12 a12 w12 hag hR hI => ?_
 refine ops_nil (then_n ?_)
 refine wp_seq (reg (is := [0, 1, 2, 3]) (by kernel_rfl) ?_)
 refine pK tab [0] [1, 2, 3] 4 [] [] [(48, .agg [.v (.int .i64 256), .v (.int .i32 0), .v (.int .i64 0), .v (.int .u64 0), .v (.int .i64 0), vU c0, vU c1, vU c2, vU c3])] [7, 6] [] [1, 0] [] [] 4 hR hI .nil fun e13 a13 w13 hag hR hI => ?_
 refine cO [.agg [.v (.int .i64 256), .v (.int .i32 0), .v (.int .i64 0), .v (.int .u64 0), .v (.int .i64 0), vU c0, vU c1, vU c2, vU c3]] hI Tryz.func18 ?_
 refine (words256_spec (C := Now hB) hqb).mono ?_
 rintro ex w14 ⟨ud, uc, us, rfl, hk, huw, hus⟩
 replace hk1 := hk1.next hB hR hk
 replace hk2 := hk2.next hB hR hk
 replace hk3 := hk3.next hB hR hk
 replace hx := hx.next hB hR hk
 replace hy := hy.next hB hR hk
 obtain ⟨hB, hR⟩ := nx hB hR hk
 refine ⟨_, rfl, ?_⟩
 replace hI := hI.pt 49 (vS ud us.length uc) [49, 48, 7, 6]
 refine pK tab [2, 3] [] 4 [] [] [] [7, 6] [⟨1, 4, [vB true]⟩, ⟨0, 22, [vS ud us.length uc]⟩] [] [] [] 4 hR hI .nil fun e15 a15 w15 hag hR hI => ?_
 refine ops_nil (then_n ?_)
 refine wp_ret ?_
 refine outD tab (xs := [vS ud us.length uc, vB true]) hR hI Tryz.func27 rfl rfl (idle27 _ _) rfl (by kernel_rfl) ?_
 exact ⟨us, ud, uc, rfl, hB.fin hR, huw.fin hB hR, tells256_of hus hqb hqv⟩

end Go.Proofs.YtmendapdibnbdaaGreatDoor.Stride
