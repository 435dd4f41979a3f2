/- Walks of the program's functions, printed by a program of mine (walk.py) over the words of Stride: each function's contract. -/
import Derived.Test.YteipgknmhpilfaaDecU
namespace Go.Proofs.Yteipgknmhpilfaa.Stride
open Go Go.RowKit Go.Proofs.Yteipgknmhpilfaa.Mag
set_option linter.unusedVariables false
set_option linter.unusedSimpArgs false
set_option maxHeartbeats 4000000 in
set_option maxRecDepth 100000 in
theorem decMul32_spec {C : Nat → Prop} {w : World} {ad bd : Option Addr} {cap dap : Nat} {ws vs : List Nat} (hx : Sl .u64 18446744073709551616 C w ad cap ws) (hy : Sl .u64 18446744073709551616 C w bd dap vs) (hl : ws.length = 1) (hl' : vs.length = 1) (hls : sext (ws.getD 0 0) = ((ws.getD 0 0 : Nat) : Int)) (hl's : sext (vs.getD 0 0) = ((vs.getD 0 0 : Nat) : Int)) :
    Calls P 5 #[.int .i64 32, .slice ad ws.length cap, .slice bd vs.length dap] w fun ex w' => ∃ us wd wc, ex = .returned (.tuple #[.slice wd (List.length us) wc, .bool true]) ∧ Keep (fun b => b < w.heap.size) w w' ∧ Sl .u64 18446744073709551616 (Grow C w w') w' wd wc us ∧ ∃ m : Nat, us = [m] ∧ IntKind.u64.wrap (IntKind.i32.wrap (IntKind.i32.wrap ((ws.getD 0 0 : Nat) : Int) * IntKind.i32.wrap ((vs.getD 0 0 : Nat) : Int))) = (m : Int) := by
  refine doorD (e := e0) (vs := [.v (.int .i64 32), .v (.slice ad ws.length cap), .v (.slice bd vs.length dap)]) (n := 52) (m := 3) Try.func5 rfl rfl rfl (by decide) fun a_ hI => ?_
  replace hI : Is 52 [] e0 [(0, .v (.int .i64 32)), (1, .v (.slice ad ws.length cap)), (2, .v (.slice bd vs.length dap))] a_ := hI
  have hR : Rel (fun b => b < w.heap.size) w e0 [] [] w := Rel.start (fun k hk => hk)
  have hB : Base C w C (fun b => b < w.heap.size) w := Base.start
  refine reg_seq tab (k := 0) (hs := []) (sy := []) (ks := [7, 6, 0, 1, 2]) (bs := [1, 0]) (gs := [])
      (L' := [(7, .p 1 0), (6, .p 0 0), (0, .v (.int .i64 32)), (1, .v (.slice ad ws.length cap)), (2, .v (.slice bd vs.length dap))])
      (H' := [⟨1, 4, [.v (.bool false)]⟩, ⟨0, 22, [.v (.slice none 0 0)]⟩]) (G' := []) (k' := 2) hR hI (by kernel_rfl)
      .nil (fun e1 a1 w1 hag hR hI => ?_)
  refine wp_seq ?_
  refine reg (is := [0]) (by kernel_rfl) ?_
  refine deferOp (ys := [.p 0 0, .p 1 0]) hI rfl rfl rfl ⟨_, rfl, rfl, rfl⟩ (by kernel_rfl) (fun a1 hI => ?_)
  replace hI := hI.sel [7, 6, 0, 1, 2] (by kernel_rfl : sel _ _ = some [(7, .p 1 0), (6, .p 0 0), (0, .v (.int .i64 32)), (1, .v (.slice ad ws.length cap)), (2, .v (.slice bd vs.length dap))])
  refine ops_nil ?_
  refine then_n ?_
  refine wp_seq ?_
  refine reg (is := [0, 1, 2, 3, 4, 5, 6, 7, 8]) (by kernel_rfl) ?_
  refine part_ tab [0, 1] [2, 3, 4, 5, 6, 7, 8] (by rfl) (k := 2) (hs := []) (sy := []) (ks := [14, 13, 7, 6, 0, 2]) (bs := [1, 0]) (gs := [])
      (L' := [(14, .v (.slice ad ws.length cap)), (13, .v (.int .i64 32)), (7, .p 1 0), (6, .p 0 0), (0, .v (.int .i64 32)), (2, .v (.slice bd vs.length dap))])
      (H' := [⟨1, 4, [.v (.bool false)]⟩, ⟨0, 22, [.v (.slice none 0 0)]⟩]) (G' := []) (k' := 2) hR hI (by kernel_rfl)
      .nil (fun e2 a2 w2 hag hR hI => ?_)
  refine callOp (ys := [.v (.int .i64 32), .v (.slice ad ws.length cap)]) hI rfl rfl ⟨_, rfl, rfl, rfl⟩ (by kernel_rfl) Try.func15 rfl rfl ?_
  refine (decOf32_spec (hx.now hB hR) hl hls).mono ?_
  rintro ex w3 ⟨rfl, hk⟩
  replace hR := hR.same hk; clear hk
  refine ⟨_, rfl, ?_⟩
  replace hI := hI.put (d := some 15) (x := .v (.tuple #[.agg #[.int .i64 32, .int .i32 (IntKind.i32.wrap ((ws.getD 0 0 : Nat) : Int)), .int .i64 0, .int .u64 0, .int .i64 0, .int .u64 0, .int .u64 0, .int .u64 0, .int .u64 0], .bool true])) (by intro t ht; cases ht; decide) rfl
  replace hI := hI.sel [15, 14, 13, 7, 6, 0, 2] (by kernel_rfl : sel _ _ = some [(15, .v (.tuple #[.agg #[.int .i64 32, .int .i32 (IntKind.i32.wrap ((ws.getD 0 0 : Nat) : Int)), .int .i64 0, .int .u64 0, .int .i64 0, .int .u64 0, .int .u64 0, .int .u64 0, .int .u64 0], .bool true])), (14, .v (.slice ad ws.length cap)), (13, .v (.int .i64 32)), (7, .p 1 0), (6, .p 0 0), (0, .v (.int .i64 32)), (2, .v (.slice bd vs.length dap))])
  refine part_ tab [3, 4, 5, 6, 7, 8] [] (by rfl) (k := 2) (hs := []) (sy := []) (ks := [9, 8, 7, 6, 0, 2]) (bs := [2, 1, 0]) (gs := [])
      (L' := [(9, .v (.bool true)), (8, .p 2 0), (7, .p 1 0), (6, .p 0 0), (0, .v (.int .i64 32)), (2, .v (.slice bd vs.length dap))])
      (H' := [⟨2, 51, [.v (.int .i64 32), .v (.int .i32 (IntKind.i32.wrap ((ws.getD 0 0 : Nat) : Int))), .v (.int .i64 0), .v (.int .u64 0), .v (.int .i64 0), .v (.int .u64 0), .v (.int .u64 0), .v (.int .u64 0), .v (.int .u64 0)]⟩, ⟨1, 4, [.v (.bool false)]⟩, ⟨0, 22, [.v (.slice none 0 0)]⟩]) (G' := []) (k' := 3) hR hI (by kernel_rfl)
      .nil (fun e4 a4 w4 hag hR hI => ?_)
  refine ops_nil ?_
  refine then_n ?_
  refine wp_seq ?_
  refine reg (is := [0, 1, 2, 3, 4, 5, 6, 7, 8]) (by kernel_rfl) ?_
  refine part_ tab [0, 1] [2, 3, 4, 5, 6, 7, 8] (by rfl) (k := 3) (hs := []) (sy := []) (ks := [20, 19, 9, 8, 7, 6, 0]) (bs := [2, 1, 0]) (gs := [])
      (L' := [(20, .v (.slice bd vs.length dap)), (19, .v (.int .i64 32)), (9, .v (.bool true)), (8, .p 2 0), (7, .p 1 0), (6, .p 0 0), (0, .v (.int .i64 32))])
      (H' := [⟨2, 51, [.v (.int .i64 32), .v (.int .i32 (IntKind.i32.wrap ((ws.getD 0 0 : Nat) : Int))), .v (.int .i64 0), .v (.int .u64 0), .v (.int .i64 0), .v (.int .u64 0), .v (.int .u64 0), .v (.int .u64 0), .v (.int .u64 0)]⟩, ⟨1, 4, [.v (.bool false)]⟩, ⟨0, 22, [.v (.slice none 0 0)]⟩]) (G' := []) (k' := 3) hR hI (by kernel_rfl)
      .nil (fun e5 a5 w5 hag hR hI => ?_)
  refine callOp (ys := [.v (.int .i64 32), .v (.slice bd vs.length dap)]) hI rfl rfl ⟨_, rfl, rfl, rfl⟩ (by kernel_rfl) Try.func15 rfl rfl ?_
  refine (decOf32_spec (hy.now hB hR) hl' hl's).mono ?_
  rintro ex w6 ⟨rfl, hk⟩
  replace hR := hR.same hk; clear hk
  refine ⟨_, rfl, ?_⟩
  replace hI := hI.put (d := some 21) (x := .v (.tuple #[.agg #[.int .i64 32, .int .i32 (IntKind.i32.wrap ((vs.getD 0 0 : Nat) : Int)), .int .i64 0, .int .u64 0, .int .i64 0, .int .u64 0, .int .u64 0, .int .u64 0, .int .u64 0], .bool true])) (by intro t ht; cases ht; decide) rfl
  replace hI := hI.sel [21, 20, 19, 9, 8, 7, 6, 0] (by kernel_rfl : sel _ _ = some [(21, .v (.tuple #[.agg #[.int .i64 32, .int .i32 (IntKind.i32.wrap ((vs.getD 0 0 : Nat) : Int)), .int .i64 0, .int .u64 0, .int .i64 0, .int .u64 0, .int .u64 0, .int .u64 0, .int .u64 0], .bool true])), (20, .v (.slice bd vs.length dap)), (19, .v (.int .i64 32)), (9, .v (.bool true)), (8, .p 2 0), (7, .p 1 0), (6, .p 0 0), (0, .v (.int .i64 32))])
  refine part_ tab [3, 4, 5, 6, 7, 8] [] (by rfl) (k := 3) (hs := []) (sy := []) (ks := [11, 10, 9, 8, 7, 6, 0]) (bs := [3, 2, 1, 0]) (gs := [])
      (L' := [(11, .v (.bool true)), (10, .p 3 0), (9, .v (.bool true)), (8, .p 2 0), (7, .p 1 0), (6, .p 0 0), (0, .v (.int .i64 32))])
      (H' := [⟨3, 51, [.v (.int .i64 32), .v (.int .i32 (IntKind.i32.wrap ((vs.getD 0 0 : Nat) : Int))), .v (.int .i64 0), .v (.int .u64 0), .v (.int .i64 0), .v (.int .u64 0), .v (.int .u64 0), .v (.int .u64 0), .v (.int .u64 0)]⟩, ⟨2, 51, [.v (.int .i64 32), .v (.int .i32 (IntKind.i32.wrap ((ws.getD 0 0 : Nat) : Int))), .v (.int .i64 0), .v (.int .u64 0), .v (.int .i64 0), .v (.int .u64 0), .v (.int .u64 0), .v (.int .u64 0), .v (.int .u64 0)]⟩, ⟨1, 4, [.v (.bool false)]⟩, ⟨0, 22, [.v (.slice none 0 0)]⟩]) (G' := []) (k' := 4) hR hI (by kernel_rfl)
      .nil (fun e7 a7 w7 hag hR hI => ?_)
  refine ops_nil ?_
  refine then_n ?_
  refine wp_seq ?_
  refine reg_seq tab (k := 4) (hs := []) (sy := []) (ks := [33, 10, 8, 7, 6, 0]) (bs := [3, 2, 1, 0]) (gs := [])
      (L' := [(33, .v (.bool false)), (10, .p 3 0), (8, .p 2 0), (7, .p 1 0), (6, .p 0 0), (0, .v (.int .i64 32))])
      (H' := [⟨3, 51, [.v (.int .i64 32), .v (.int .i32 (IntKind.i32.wrap ((vs.getD 0 0 : Nat) : Int))), .v (.int .i64 0), .v (.int .u64 0), .v (.int .i64 0), .v (.int .u64 0), .v (.int .u64 0), .v (.int .u64 0), .v (.int .u64 0)]⟩, ⟨2, 51, [.v (.int .i64 32), .v (.int .i32 (IntKind.i32.wrap ((ws.getD 0 0 : Nat) : Int))), .v (.int .i64 0), .v (.int .u64 0), .v (.int .i64 0), .v (.int .u64 0), .v (.int .u64 0), .v (.int .u64 0), .v (.int .u64 0)]⟩, ⟨1, 4, [.v (.bool false)]⟩, ⟨0, 22, [.v (.slice none 0 0)]⟩]) (G' := []) (k' := 4) hR hI (by kernel_rfl)
      .nil (fun e8 a8 w8 hag hR hI => ?_)
  refine cnd_f hI (by kernel_rfl) ?_
  refine wp_skip ?_
  refine then_n ?_
  refine wp_seq ?_
  refine regL 18 hR (by kernel_rfl) (fun hS => ?_)
  replace hR := hR.drew; have hF := hR.fore
  refine takeL tab (H := [⟨3, 51, [.v (.int .i64 32), .v (.int .i32 (IntKind.i32.wrap ((vs.getD 0 0 : Nat) : Int))), .v (.int .i64 0), .v (.int .u64 0), .v (.int .i64 0), .v (.int .u64 0), .v (.int .u64 0), .v (.int .u64 0), .v (.int .u64 0)]⟩, ⟨2, 51, [.v (.int .i64 32), .v (.int .i32 (IntKind.i32.wrap ((ws.getD 0 0 : Nat) : Int))), .v (.int .i64 0), .v (.int .u64 0), .v (.int .i64 0), .v (.int .u64 0), .v (.int .u64 0), .v (.int .u64 0), .v (.int .u64 0)]⟩, ⟨1, 4, [.v (.bool false)]⟩, ⟨0, 22, [.v (.slice none 0 0)]⟩]) (G := []) (hs := []) (gs := []) (is := [0, 1, 2, 3, 4, 6, 7, 8, 9, 11, 12, 13, 14]) (ks := [48, 46, 43, 41, 38, 36, 34, 7, 6]) (f' := 7)
      (L' := [(48, .agg [.v (.int .u64 0), .v (.int .i64 0)]), (46, .agg [.v (.int .u64 0), .v (.int .i64 0)]), (43, .v (.int .i64 0)), (41, .v (.int .i64 0)), (38, .v (.int .i32 (IntKind.i32.wrap ((vs.getD 0 0 : Nat) : Int)))), (36, .v (.int .i32 (IntKind.i32.wrap ((ws.getD 0 0 : Nat) : Int)))), (34, .v (.int .i64 32)), (7, .p 1 0), (6, .p 0 0)]) hS hI (by kernel_rfl) (fun _ _ _ _ _ h => h) (by kernel_rfl)
      .nil (by kernel_rfl) (by kernel_rfl) (by kernel_rfl) (by rfl) (fun a9 hI => ?_)
  refine oneL (i := 5) (f' := 6) (by kernel_rfl) (by rfl) ?_
  refine callH (ys := [.v (.int .i32 (IntKind.i32.wrap ((ws.getD 0 0 : Nat) : Int))), .v (.int .i32 (IntKind.i32.wrap ((vs.getD 0 0 : Nat) : Int)))]) hI rfl rfl ⟨_, rfl, rfl, rfl⟩ (by kernel_rfl) Try.func16 rfl rfl ?_
  refine (d32Mul_spec (C := C) (IntKind.i32.wrap ((ws.getD 0 0 : Nat) : Int)) (IntKind.i32.wrap ((vs.getD 0 0 : Nat) : Int))).mono ?_
  rintro ex w10 ⟨rfl, hk⟩
  replace hS := hS.same hk; replace hR := hR.same hk; clear hk
  refine ⟨_, rfl, hS, ?_⟩
  replace hI := hI.put (d := some 39) (x := .v (.int .i32 (IntKind.i32.wrap ((IntKind.i32.wrap ((ws.getD 0 0 : Nat) : Int)) * (IntKind.i32.wrap ((vs.getD 0 0 : Nat) : Int)))))) (by intro t ht; cases ht; decide) rfl
  replace hI := hI.sel [39, 48, 46, 43, 41, 38, 36, 34, 7, 6] (by kernel_rfl : sel _ _ = some [(39, .v (.int .i32 (IntKind.i32.wrap ((IntKind.i32.wrap ((ws.getD 0 0 : Nat) : Int)) * (IntKind.i32.wrap ((vs.getD 0 0 : Nat) : Int)))))), (48, .agg [.v (.int .u64 0), .v (.int .i64 0)]), (46, .agg [.v (.int .u64 0), .v (.int .i64 0)]), (43, .v (.int .i64 0)), (41, .v (.int .i64 0)), (38, .v (.int .i32 (IntKind.i32.wrap ((vs.getD 0 0 : Nat) : Int)))), (36, .v (.int .i32 (IntKind.i32.wrap ((ws.getD 0 0 : Nat) : Int)))), (34, .v (.int .i64 32)), (7, .p 1 0), (6, .p 0 0)])
  refine oneL (i := 10) (f' := 5) (by kernel_rfl) (by rfl) ?_
  refine callH (ys := [.v (.int .i64 0), .v (.int .i64 0)]) hI rfl rfl ⟨_, rfl, rfl, rfl⟩ (by kernel_rfl) Try.func17 rfl rfl ?_
  refine (d64Mul_spec (C := C) 0 0).mono ?_
  rintro ex w11 ⟨rfl, hk⟩
  replace hS := hS.same hk; replace hR := hR.same hk; clear hk
  refine ⟨_, rfl, hS, ?_⟩
  replace hI := hI.put (d := some 44) (x := .v (.int .i64 (IntKind.i64.wrap ((0 : Int) * (0 : Int))))) (by intro t ht; cases ht; decide) rfl
  replace hI := hI.sel [44, 39, 48, 46, 43, 41, 38, 36, 34, 7, 6] (by kernel_rfl : sel _ _ = some [(44, .v (.int .i64 (IntKind.i64.wrap ((0 : Int) * (0 : Int))))), (39, .v (.int .i32 (IntKind.i32.wrap ((IntKind.i32.wrap ((ws.getD 0 0 : Nat) : Int)) * (IntKind.i32.wrap ((vs.getD 0 0 : Nat) : Int)))))), (48, .agg [.v (.int .u64 0), .v (.int .i64 0)]), (46, .agg [.v (.int .u64 0), .v (.int .i64 0)]), (43, .v (.int .i64 0)), (41, .v (.int .i64 0)), (38, .v (.int .i32 (IntKind.i32.wrap ((vs.getD 0 0 : Nat) : Int)))), (36, .v (.int .i32 (IntKind.i32.wrap ((ws.getD 0 0 : Nat) : Int)))), (34, .v (.int .i64 32)), (7, .p 1 0), (6, .p 0 0)])
  refine oneL (i := 15) (f' := 4) (by kernel_rfl) (by rfl) ?_
  refine callH (ys := [.agg [.v (.int .u64 0), .v (.int .i64 0)], .agg [.v (.int .u64 0), .v (.int .i64 0)]]) hI rfl rfl ⟨_, rfl, rfl, rfl⟩ (by kernel_rfl) Try.func18 rfl rfl ?_
  refine (d128Mul_spec (C := C) (x0 := 0) (y0 := 0) 0 0 (by decide) (by decide)).mono ?_
  rintro ex w12 ⟨l, hh, rfl, hk, hlb, q, hq⟩
  replace hS := hS.same hk; replace hR := hR.same hk; clear hk
  refine ⟨_, rfl, hS, ?_⟩
  replace hI := hI.put (d := some 49) (x := .v (.agg #[.int .u64 ((l : Nat) : Int), .int .i64 hh])) (by intro t ht; cases ht; decide) rfl
  replace hI := hI.sel [49, 44, 39, 48, 46, 43, 41, 38, 36, 34, 7, 6] (by kernel_rfl : sel _ _ = some [(49, .v (.agg #[.int .u64 ((l : Nat) : Int), .int .i64 hh])), (44, .v (.int .i64 (IntKind.i64.wrap ((0 : Int) * (0 : Int))))), (39, .v (.int .i32 (IntKind.i32.wrap ((IntKind.i32.wrap ((ws.getD 0 0 : Nat) : Int)) * (IntKind.i32.wrap ((vs.getD 0 0 : Nat) : Int)))))), (48, .agg [.v (.int .u64 0), .v (.int .i64 0)]), (46, .agg [.v (.int .u64 0), .v (.int .i64 0)]), (43, .v (.int .i64 0)), (41, .v (.int .i64 0)), (38, .v (.int .i32 (IntKind.i32.wrap ((vs.getD 0 0 : Nat) : Int)))), (36, .v (.int .i32 (IntKind.i32.wrap ((ws.getD 0 0 : Nat) : Int)))), (34, .v (.int .i64 32)), (7, .p 1 0), (6, .p 0 0)])
  refine takeL tab (H := [⟨3, 51, [.v (.int .i64 32), .v (.int .i32 (IntKind.i32.wrap ((vs.getD 0 0 : Nat) : Int))), .v (.int .i64 0), .v (.int .u64 0), .v (.int .i64 0), .v (.int .u64 0), .v (.int .u64 0), .v (.int .u64 0), .v (.int .u64 0)]⟩, ⟨2, 51, [.v (.int .i64 32), .v (.int .i32 (IntKind.i32.wrap ((ws.getD 0 0 : Nat) : Int))), .v (.int .i64 0), .v (.int .u64 0), .v (.int .i64 0), .v (.int .u64 0), .v (.int .u64 0), .v (.int .u64 0), .v (.int .u64 0)]⟩, ⟨1, 4, [.v (.bool false)]⟩, ⟨0, 22, [.v (.slice none 0 0)]⟩]) (G := []) (hs := []) (gs := []) (is := [16]) (ks := [50, 7, 6]) (f' := 3)
      (L' := [(50, .agg [.v (.int .i64 32), .v (.int .i32 (IntKind.i32.wrap ((IntKind.i32.wrap ((ws.getD 0 0 : Nat) : Int)) * (IntKind.i32.wrap ((vs.getD 0 0 : Nat) : Int))))), .v (.int .i64 (IntKind.i64.wrap ((0 : Int) * (0 : Int)))), .v (.int .u64 ((l : Nat) : Int)), .v (.int .i64 hh), .v (.int .u64 0), .v (.int .u64 0), .v (.int .u64 0), .v (.int .u64 0)]), (7, .p 1 0), (6, .p 0 0)]) hS hI (by kernel_rfl) (fun _ _ _ _ _ h => h) (by kernel_rfl)
      .nil (by kernel_rfl) (by kernel_rfl) (by kernel_rfl) (by rfl) (fun a13 hI => ?_)
  refine oneL (i := 17) (f' := 2) (by kernel_rfl) (by rfl) ?_
  refine callH (ys := [.agg [.v (.int .i64 32), .v (.int .i32 (IntKind.i32.wrap ((IntKind.i32.wrap ((ws.getD 0 0 : Nat) : Int)) * (IntKind.i32.wrap ((vs.getD 0 0 : Nat) : Int))))), .v (.int .i64 (IntKind.i64.wrap ((0 : Int) * (0 : Int)))), .v (.int .u64 ((l : Nat) : Int)), .v (.int .i64 hh), .v (.int .u64 0), .v (.int .u64 0), .v (.int .u64 0), .v (.int .u64 0)]]) hI rfl rfl ⟨_, rfl, rfl, rfl⟩ (by kernel_rfl) Try.func19 rfl rfl ?_
  refine (words32_spec (C := Now hB) _ (i32_in _)).mono ?_
  rintro ex w14 ⟨wd, wc, us, rfl, hk, hw, m, hus, hm⟩
  replace hF := hF.grow hR hk; replace hS := hS.same hk
  replace hx := hx.next hB hR hk
  replace hy := hy.next hB hR hk
  have hB_ := hB.next hR hk
  replace hR := hR.after hk
  replace hB := hB_; clear hB_ hk
  refine ⟨_, rfl, hS, ?_⟩
  replace hI := hI.put (d := some 51) (x := .v (.slice wd us.length wc)) (by intro t ht; cases ht; decide) rfl
  replace hI := hI.sel [51, 50, 7, 6] (by kernel_rfl : sel _ _ = some [(51, .v (.slice wd us.length wc)), (50, .agg [.v (.int .i64 32), .v (.int .i32 (IntKind.i32.wrap ((IntKind.i32.wrap ((ws.getD 0 0 : Nat) : Int)) * (IntKind.i32.wrap ((vs.getD 0 0 : Nat) : Int))))), .v (.int .i64 (IntKind.i64.wrap ((0 : Int) * (0 : Int)))), .v (.int .u64 ((l : Nat) : Int)), .v (.int .i64 hh), .v (.int .u64 0), .v (.int .u64 0), .v (.int .u64 0), .v (.int .u64 0)]), (7, .p 1 0), (6, .p 0 0)])
  refine endL (i := 18) (f' := 1) (by kernel_rfl) (by rfl) (by kernel_rfl) ?_
  refine effH tab (k := 4) (hh := .no) (r := ⟨.v (undef), [⟨0, 22, [.v (.slice wd us.length wc)]⟩, ⟨3, 51, [.v (.int .i64 32), .v (.int .i32 (IntKind.i32.wrap ((vs.getD 0 0 : Nat) : Int))), .v (.int .i64 0), .v (.int .u64 0), .v (.int .i64 0), .v (.int .u64 0), .v (.int .u64 0), .v (.int .u64 0), .v (.int .u64 0)]⟩, ⟨2, 51, [.v (.int .i64 32), .v (.int .i32 (IntKind.i32.wrap ((ws.getD 0 0 : Nat) : Int))), .v (.int .i64 0), .v (.int .u64 0), .v (.int .i64 0), .v (.int .u64 0), .v (.int .u64 0), .v (.int .u64 0), .v (.int .u64 0)]⟩, ⟨1, 4, [.v (.bool false)]⟩], [], 4, _, true⟩) hR hI (by kernel_rfl) rfl rfl rfl (by kernel_rfl) .nil (fun e15 a15 w15 hag hR2 hI => ?_)
  replace hR := hR2; clear hR2
  replace hI := hI.sel [51, 50, 7, 6] (by kernel_rfl : sel _ _ = some [(51, .v (.slice wd us.length wc)), (50, .agg [.v (.int .i64 32), .v (.int .i32 (IntKind.i32.wrap ((IntKind.i32.wrap ((ws.getD 0 0 : Nat) : Int)) * (IntKind.i32.wrap ((vs.getD 0 0 : Nat) : Int))))), .v (.int .i64 (IntKind.i64.wrap ((0 : Int) * (0 : Int)))), .v (.int .u64 ((l : Nat) : Int)), .v (.int .i64 hh), .v (.int .u64 0), .v (.int .u64 0), .v (.int .u64 0), .v (.int .u64 0)]), (7, .p 1 0), (6, .p 0 0)])
  refine endL (i := 19) (f' := 0) (by kernel_rfl) (by rfl) (by kernel_rfl) ?_
  refine effH tab (k := 4) (hh := .no) (r := ⟨.v (undef), [⟨1, 4, [.v (.bool true)]⟩, ⟨0, 22, [.v (.slice wd us.length wc)]⟩, ⟨3, 51, [.v (.int .i64 32), .v (.int .i32 (IntKind.i32.wrap ((vs.getD 0 0 : Nat) : Int))), .v (.int .i64 0), .v (.int .u64 0), .v (.int .i64 0), .v (.int .u64 0), .v (.int .u64 0), .v (.int .u64 0), .v (.int .u64 0)]⟩, ⟨2, 51, [.v (.int .i64 32), .v (.int .i32 (IntKind.i32.wrap ((ws.getD 0 0 : Nat) : Int))), .v (.int .i64 0), .v (.int .u64 0), .v (.int .i64 0), .v (.int .u64 0), .v (.int .u64 0), .v (.int .u64 0), .v (.int .u64 0)]⟩], [], 4, _, true⟩) hR hI (by kernel_rfl) rfl rfl rfl (by kernel_rfl) .nil (fun e16 a16 w16 hag hR2 hI => ?_)
  replace hR := hR2; clear hR2
  replace hI := hI.sel [51, 50, 7, 6] (by kernel_rfl : sel _ _ = some [(51, .v (.slice wd us.length wc)), (50, .agg [.v (.int .i64 32), .v (.int .i32 (IntKind.i32.wrap ((IntKind.i32.wrap ((ws.getD 0 0 : Nat) : Int)) * (IntKind.i32.wrap ((vs.getD 0 0 : Nat) : Int))))), .v (.int .i64 (IntKind.i64.wrap ((0 : Int) * (0 : Int)))), .v (.int .u64 ((l : Nat) : Int)), .v (.int .i64 hh), .v (.int .u64 0), .v (.int .u64 0), .v (.int .u64 0), .v (.int .u64 0)]), (7, .p 1 0), (6, .p 0 0)])
  refine doneL (by kernel_rfl) ?_
  refine then_n ?_
  replace hI := hI.sel [7, 6] (by kernel_rfl : sel _ _ = some [(7, .p 1 0), (6, .p 0 0)]); replace hR := hR.sel [1, 0] [] (by kernel_rfl : selH _ _ = some [⟨1, 4, [.v (.bool true)]⟩, ⟨0, 22, [.v (.slice wd us.length wc)]⟩]) (by kernel_rfl : selG _ _ = some [])
  refine wp_ret ?_
  refine outD tab (xs := [.v (.slice wd us.length wc), .v (.bool true)]) hR hI Try.func14 rfl rfl (idle14 _ _) rfl (by kernel_rfl) ?_
  exact ⟨us, wd, wc, rfl, hB.fin hR, hw.fin hB hR, m, hus, hm⟩

set_option maxHeartbeats 4000000 in
set_option maxRecDepth 100000 in
theorem decMul64_spec {C : Nat → Prop} {w : World} {ad bd : Option Addr} {cap dap : Nat} {ws vs : List Nat} (hx : Sl .u64 18446744073709551616 C w ad cap ws) (hy : Sl .u64 18446744073709551616 C w bd dap vs) (hl : ws.length = 1) (hl' : vs.length = 1) :
    Calls P 5 #[.int .i64 64, .slice ad ws.length cap, .slice bd vs.length dap] w fun ex w' => ∃ us wd wc, ex = .returned (.tuple #[.slice wd (List.length us) wc, .bool true]) ∧ Keep (fun b => b < w.heap.size) w w' ∧ Sl .u64 18446744073709551616 (Grow C w w') w' wd wc us ∧ ∃ m : Nat, us = [m] ∧ IntKind.u64.wrap (IntKind.i64.wrap (IntKind.i64.wrap ((ws.getD 0 0 : Nat) : Int) * IntKind.i64.wrap ((vs.getD 0 0 : Nat) : Int))) = (m : Int) := by
  refine doorD (e := e0) (vs := [.v (.int .i64 64), .v (.slice ad ws.length cap), .v (.slice bd vs.length dap)]) (n := 52) (m := 3) Try.func5 rfl rfl rfl (by decide) fun a_ hI => ?_
  replace hI : Is 52 [] e0 [(0, .v (.int .i64 64)), (1, .v (.slice ad ws.length cap)), (2, .v (.slice bd vs.length dap))] a_ := hI
  have hR : Rel (fun b => b < w.heap.size) w e0 [] [] w := Rel.start (fun k hk => hk)
  have hB : Base C w C (fun b => b < w.heap.size) w := Base.start
  refine reg_seq tab (k := 0) (hs := []) (sy := []) (ks := [7, 6, 0, 1, 2]) (bs := [1, 0]) (gs := [])
      (L' := [(7, .p 1 0), (6, .p 0 0), (0, .v (.int .i64 64)), (1, .v (.slice ad ws.length cap)), (2, .v (.slice bd vs.length dap))])
      (H' := [⟨1, 4, [.v (.bool false)]⟩, ⟨0, 22, [.v (.slice none 0 0)]⟩]) (G' := []) (k' := 2) hR hI (by kernel_rfl)
      .nil (fun e1 a1 w1 hag hR hI => ?_)
  refine wp_seq ?_
  refine reg (is := [0]) (by kernel_rfl) ?_
  refine deferOp (ys := [.p 0 0, .p 1 0]) hI rfl rfl rfl ⟨_, rfl, rfl, rfl⟩ (by kernel_rfl) (fun a1 hI => ?_)
  replace hI := hI.sel [7, 6, 0, 1, 2] (by kernel_rfl : sel _ _ = some [(7, .p 1 0), (6, .p 0 0), (0, .v (.int .i64 64)), (1, .v (.slice ad ws.length cap)), (2, .v (.slice bd vs.length dap))])
  refine ops_nil ?_
  refine then_n ?_
  refine wp_seq ?_
  refine reg (is := [0, 1, 2, 3, 4, 5, 6, 7, 8]) (by kernel_rfl) ?_
  refine part_ tab [0, 1] [2, 3, 4, 5, 6, 7, 8] (by rfl) (k := 2) (hs := []) (sy := []) (ks := [14, 13, 7, 6, 0, 2]) (bs := [1, 0]) (gs := [])
      (L' := [(14, .v (.slice ad ws.length cap)), (13, .v (.int .i64 64)), (7, .p 1 0), (6, .p 0 0), (0, .v (.int .i64 64)), (2, .v (.slice bd vs.length dap))])
      (H' := [⟨1, 4, [.v (.bool false)]⟩, ⟨0, 22, [.v (.slice none 0 0)]⟩]) (G' := []) (k' := 2) hR hI (by kernel_rfl)
      .nil (fun e2 a2 w2 hag hR hI => ?_)
  refine callOp (ys := [.v (.int .i64 64), .v (.slice ad ws.length cap)]) hI rfl rfl ⟨_, rfl, rfl, rfl⟩ (by kernel_rfl) Try.func15 rfl rfl ?_
  refine (decOf64_spec (hx.now hB hR) hl).mono ?_
  rintro ex w3 ⟨rfl, hk⟩
  replace hR := hR.same hk; clear hk
  refine ⟨_, rfl, ?_⟩
  replace hI := hI.put (d := some 15) (x := .v (.tuple #[.agg #[.int .i64 64, .int .i32 0, .int .i64 (IntKind.i64.wrap ((ws.getD 0 0 : Nat) : Int)), .int .u64 0, .int .i64 0, .int .u64 0, .int .u64 0, .int .u64 0, .int .u64 0], .bool true])) (by intro t ht; cases ht; decide) rfl
  replace hI := hI.sel [15, 14, 13, 7, 6, 0, 2] (by kernel_rfl : sel _ _ = some [(15, .v (.tuple #[.agg #[.int .i64 64, .int .i32 0, .int .i64 (IntKind.i64.wrap ((ws.getD 0 0 : Nat) : Int)), .int .u64 0, .int .i64 0, .int .u64 0, .int .u64 0, .int .u64 0, .int .u64 0], .bool true])), (14, .v (.slice ad ws.length cap)), (13, .v (.int .i64 64)), (7, .p 1 0), (6, .p 0 0), (0, .v (.int .i64 64)), (2, .v (.slice bd vs.length dap))])
  refine part_ tab [3, 4, 5, 6, 7, 8] [] (by rfl) (k := 2) (hs := []) (sy := []) (ks := [9, 8, 7, 6, 0, 2]) (bs := [2, 1, 0]) (gs := [])
      (L' := [(9, .v (.bool true)), (8, .p 2 0), (7, .p 1 0), (6, .p 0 0), (0, .v (.int .i64 64)), (2, .v (.slice bd vs.length dap))])
      (H' := [⟨2, 51, [.v (.int .i64 64), .v (.int .i32 0), .v (.int .i64 (IntKind.i64.wrap ((ws.getD 0 0 : Nat) : Int))), .v (.int .u64 0), .v (.int .i64 0), .v (.int .u64 0), .v (.int .u64 0), .v (.int .u64 0), .v (.int .u64 0)]⟩, ⟨1, 4, [.v (.bool false)]⟩, ⟨0, 22, [.v (.slice none 0 0)]⟩]) (G' := []) (k' := 3) hR hI (by kernel_rfl)
      .nil (fun e4 a4 w4 hag hR hI => ?_)
  refine ops_nil ?_
  refine then_n ?_
  refine wp_seq ?_
  refine reg (is := [0, 1, 2, 3, 4, 5, 6, 7, 8]) (by kernel_rfl) ?_
  refine part_ tab [0, 1] [2, 3, 4, 5, 6, 7, 8] (by rfl) (k := 3) (hs := []) (sy := []) (ks := [20, 19, 9, 8, 7, 6, 0]) (bs := [2, 1, 0]) (gs := [])
      (L' := [(20, .v (.slice bd vs.length dap)), (19, .v (.int .i64 64)), (9, .v (.bool true)), (8, .p 2 0), (7, .p 1 0), (6, .p 0 0), (0, .v (.int .i64 64))])
      (H' := [⟨2, 51, [.v (.int .i64 64), .v (.int .i32 0), .v (.int .i64 (IntKind.i64.wrap ((ws.getD 0 0 : Nat) : Int))), .v (.int .u64 0), .v (.int .i64 0), .v (.int .u64 0), .v (.int .u64 0), .v (.int .u64 0), .v (.int .u64 0)]⟩, ⟨1, 4, [.v (.bool false)]⟩, ⟨0, 22, [.v (.slice none 0 0)]⟩]) (G' := []) (k' := 3) hR hI (by kernel_rfl)
      .nil (fun e5 a5 w5 hag hR hI => ?_)
  refine callOp (ys := [.v (.int .i64 64), .v (.slice bd vs.length dap)]) hI rfl rfl ⟨_, rfl, rfl, rfl⟩ (by kernel_rfl) Try.func15 rfl rfl ?_
  refine (decOf64_spec (hy.now hB hR) hl').mono ?_
  rintro ex w6 ⟨rfl, hk⟩
  replace hR := hR.same hk; clear hk
  refine ⟨_, rfl, ?_⟩
  replace hI := hI.put (d := some 21) (x := .v (.tuple #[.agg #[.int .i64 64, .int .i32 0, .int .i64 (IntKind.i64.wrap ((vs.getD 0 0 : Nat) : Int)), .int .u64 0, .int .i64 0, .int .u64 0, .int .u64 0, .int .u64 0, .int .u64 0], .bool true])) (by intro t ht; cases ht; decide) rfl
  replace hI := hI.sel [21, 20, 19, 9, 8, 7, 6, 0] (by kernel_rfl : sel _ _ = some [(21, .v (.tuple #[.agg #[.int .i64 64, .int .i32 0, .int .i64 (IntKind.i64.wrap ((vs.getD 0 0 : Nat) : Int)), .int .u64 0, .int .i64 0, .int .u64 0, .int .u64 0, .int .u64 0, .int .u64 0], .bool true])), (20, .v (.slice bd vs.length dap)), (19, .v (.int .i64 64)), (9, .v (.bool true)), (8, .p 2 0), (7, .p 1 0), (6, .p 0 0), (0, .v (.int .i64 64))])
  refine part_ tab [3, 4, 5, 6, 7, 8] [] (by rfl) (k := 3) (hs := []) (sy := []) (ks := [11, 10, 9, 8, 7, 6, 0]) (bs := [3, 2, 1, 0]) (gs := [])
      (L' := [(11, .v (.bool true)), (10, .p 3 0), (9, .v (.bool true)), (8, .p 2 0), (7, .p 1 0), (6, .p 0 0), (0, .v (.int .i64 64))])
      (H' := [⟨3, 51, [.v (.int .i64 64), .v (.int .i32 0), .v (.int .i64 (IntKind.i64.wrap ((vs.getD 0 0 : Nat) : Int))), .v (.int .u64 0), .v (.int .i64 0), .v (.int .u64 0), .v (.int .u64 0), .v (.int .u64 0), .v (.int .u64 0)]⟩, ⟨2, 51, [.v (.int .i64 64), .v (.int .i32 0), .v (.int .i64 (IntKind.i64.wrap ((ws.getD 0 0 : Nat) : Int))), .v (.int .u64 0), .v (.int .i64 0), .v (.int .u64 0), .v (.int .u64 0), .v (.int .u64 0), .v (.int .u64 0)]⟩, ⟨1, 4, [.v (.bool false)]⟩, ⟨0, 22, [.v (.slice none 0 0)]⟩]) (G' := []) (k' := 4) hR hI (by kernel_rfl)
      .nil (fun e7 a7 w7 hag hR hI => ?_)
  refine ops_nil ?_
  refine then_n ?_
  refine wp_seq ?_
  refine reg_seq tab (k := 4) (hs := []) (sy := []) (ks := [33, 10, 8, 7, 6, 0]) (bs := [3, 2, 1, 0]) (gs := [])
      (L' := [(33, .v (.bool false)), (10, .p 3 0), (8, .p 2 0), (7, .p 1 0), (6, .p 0 0), (0, .v (.int .i64 64))])
      (H' := [⟨3, 51, [.v (.int .i64 64), .v (.int .i32 0), .v (.int .i64 (IntKind.i64.wrap ((vs.getD 0 0 : Nat) : Int))), .v (.int .u64 0), .v (.int .i64 0), .v (.int .u64 0), .v (.int .u64 0), .v (.int .u64 0), .v (.int .u64 0)]⟩, ⟨2, 51, [.v (.int .i64 64), .v (.int .i32 0), .v (.int .i64 (IntKind.i64.wrap ((ws.getD 0 0 : Nat) : Int))), .v (.int .u64 0), .v (.int .i64 0), .v (.int .u64 0), .v (.int .u64 0), .v (.int .u64 0), .v (.int .u64 0)]⟩, ⟨1, 4, [.v (.bool false)]⟩, ⟨0, 22, [.v (.slice none 0 0)]⟩]) (G' := []) (k' := 4) hR hI (by kernel_rfl)
      .nil (fun e8 a8 w8 hag hR hI => ?_)
  refine cnd_f hI (by kernel_rfl) ?_
  refine wp_skip ?_
  refine then_n ?_
  refine wp_seq ?_
  refine regL 18 hR (by kernel_rfl) (fun hS => ?_)
  replace hR := hR.drew; have hF := hR.fore
  refine takeL tab (H := [⟨3, 51, [.v (.int .i64 64), .v (.int .i32 0), .v (.int .i64 (IntKind.i64.wrap ((vs.getD 0 0 : Nat) : Int))), .v (.int .u64 0), .v (.int .i64 0), .v (.int .u64 0), .v (.int .u64 0), .v (.int .u64 0), .v (.int .u64 0)]⟩, ⟨2, 51, [.v (.int .i64 64), .v (.int .i32 0), .v (.int .i64 (IntKind.i64.wrap ((ws.getD 0 0 : Nat) : Int))), .v (.int .u64 0), .v (.int .i64 0), .v (.int .u64 0), .v (.int .u64 0), .v (.int .u64 0), .v (.int .u64 0)]⟩, ⟨1, 4, [.v (.bool false)]⟩, ⟨0, 22, [.v (.slice none 0 0)]⟩]) (G := []) (hs := []) (gs := []) (is := [0, 1, 2, 3, 4, 6, 7, 8, 9, 11, 12, 13, 14]) (ks := [48, 46, 43, 41, 38, 36, 34, 7, 6]) (f' := 7)
      (L' := [(48, .agg [.v (.int .u64 0), .v (.int .i64 0)]), (46, .agg [.v (.int .u64 0), .v (.int .i64 0)]), (43, .v (.int .i64 (IntKind.i64.wrap ((vs.getD 0 0 : Nat) : Int)))), (41, .v (.int .i64 (IntKind.i64.wrap ((ws.getD 0 0 : Nat) : Int)))), (38, .v (.int .i32 0)), (36, .v (.int .i32 0)), (34, .v (.int .i64 64)), (7, .p 1 0), (6, .p 0 0)]) hS hI (by kernel_rfl) (fun _ _ _ _ _ h => h) (by kernel_rfl)
      .nil (by kernel_rfl) (by kernel_rfl) (by kernel_rfl) (by rfl) (fun a9 hI => ?_)
  refine oneL (i := 5) (f' := 6) (by kernel_rfl) (by rfl) ?_
  refine callH (ys := [.v (.int .i32 0), .v (.int .i32 0)]) hI rfl rfl ⟨_, rfl, rfl, rfl⟩ (by kernel_rfl) Try.func16 rfl rfl ?_
  refine (d32Mul_spec (C := C) 0 0).mono ?_
  rintro ex w10 ⟨rfl, hk⟩
  replace hS := hS.same hk; replace hR := hR.same hk; clear hk
  refine ⟨_, rfl, hS, ?_⟩
  replace hI := hI.put (d := some 39) (x := .v (.int .i32 (IntKind.i32.wrap ((0 : Int) * (0 : Int))))) (by intro t ht; cases ht; decide) rfl
  replace hI := hI.sel [39, 48, 46, 43, 41, 38, 36, 34, 7, 6] (by kernel_rfl : sel _ _ = some [(39, .v (.int .i32 (IntKind.i32.wrap ((0 : Int) * (0 : Int))))), (48, .agg [.v (.int .u64 0), .v (.int .i64 0)]), (46, .agg [.v (.int .u64 0), .v (.int .i64 0)]), (43, .v (.int .i64 (IntKind.i64.wrap ((vs.getD 0 0 : Nat) : Int)))), (41, .v (.int .i64 (IntKind.i64.wrap ((ws.getD 0 0 : Nat) : Int)))), (38, .v (.int .i32 0)), (36, .v (.int .i32 0)), (34, .v (.int .i64 64)), (7, .p 1 0), (6, .p 0 0)])
  refine oneL (i := 10) (f' := 5) (by kernel_rfl) (by rfl) ?_
  refine callH (ys := [.v (.int .i64 (IntKind.i64.wrap ((ws.getD 0 0 : Nat) : Int))), .v (.int .i64 (IntKind.i64.wrap ((vs.getD 0 0 : Nat) : Int)))]) hI rfl rfl ⟨_, rfl, rfl, rfl⟩ (by kernel_rfl) Try.func17 rfl rfl ?_
  refine (d64Mul_spec (C := C) (IntKind.i64.wrap ((ws.getD 0 0 : Nat) : Int)) (IntKind.i64.wrap ((vs.getD 0 0 : Nat) : Int))).mono ?_
  rintro ex w11 ⟨rfl, hk⟩
  replace hS := hS.same hk; replace hR := hR.same hk; clear hk
  refine ⟨_, rfl, hS, ?_⟩
  replace hI := hI.put (d := some 44) (x := .v (.int .i64 (IntKind.i64.wrap ((IntKind.i64.wrap ((ws.getD 0 0 : Nat) : Int)) * (IntKind.i64.wrap ((vs.getD 0 0 : Nat) : Int)))))) (by intro t ht; cases ht; decide) rfl
  replace hI := hI.sel [44, 39, 48, 46, 43, 41, 38, 36, 34, 7, 6] (by kernel_rfl : sel _ _ = some [(44, .v (.int .i64 (IntKind.i64.wrap ((IntKind.i64.wrap ((ws.getD 0 0 : Nat) : Int)) * (IntKind.i64.wrap ((vs.getD 0 0 : Nat) : Int)))))), (39, .v (.int .i32 (IntKind.i32.wrap ((0 : Int) * (0 : Int))))), (48, .agg [.v (.int .u64 0), .v (.int .i64 0)]), (46, .agg [.v (.int .u64 0), .v (.int .i64 0)]), (43, .v (.int .i64 (IntKind.i64.wrap ((vs.getD 0 0 : Nat) : Int)))), (41, .v (.int .i64 (IntKind.i64.wrap ((ws.getD 0 0 : Nat) : Int)))), (38, .v (.int .i32 0)), (36, .v (.int .i32 0)), (34, .v (.int .i64 64)), (7, .p 1 0), (6, .p 0 0)])
  refine oneL (i := 15) (f' := 4) (by kernel_rfl) (by rfl) ?_
  refine callH (ys := [.agg [.v (.int .u64 0), .v (.int .i64 0)], .agg [.v (.int .u64 0), .v (.int .i64 0)]]) hI rfl rfl ⟨_, rfl, rfl, rfl⟩ (by kernel_rfl) Try.func18 rfl rfl ?_
  refine (d128Mul_spec (C := C) (x0 := 0) (y0 := 0) 0 0 (by decide) (by decide)).mono ?_
  rintro ex w12 ⟨l, hh, rfl, hk, hlb, q, hq⟩
  replace hS := hS.same hk; replace hR := hR.same hk; clear hk
  refine ⟨_, rfl, hS, ?_⟩
  replace hI := hI.put (d := some 49) (x := .v (.agg #[.int .u64 ((l : Nat) : Int), .int .i64 hh])) (by intro t ht; cases ht; decide) rfl
  replace hI := hI.sel [49, 44, 39, 48, 46, 43, 41, 38, 36, 34, 7, 6] (by kernel_rfl : sel _ _ = some [(49, .v (.agg #[.int .u64 ((l : Nat) : Int), .int .i64 hh])), (44, .v (.int .i64 (IntKind.i64.wrap ((IntKind.i64.wrap ((ws.getD 0 0 : Nat) : Int)) * (IntKind.i64.wrap ((vs.getD 0 0 : Nat) : Int)))))), (39, .v (.int .i32 (IntKind.i32.wrap ((0 : Int) * (0 : Int))))), (48, .agg [.v (.int .u64 0), .v (.int .i64 0)]), (46, .agg [.v (.int .u64 0), .v (.int .i64 0)]), (43, .v (.int .i64 (IntKind.i64.wrap ((vs.getD 0 0 : Nat) : Int)))), (41, .v (.int .i64 (IntKind.i64.wrap ((ws.getD 0 0 : Nat) : Int)))), (38, .v (.int .i32 0)), (36, .v (.int .i32 0)), (34, .v (.int .i64 64)), (7, .p 1 0), (6, .p 0 0)])
  refine takeL tab (H := [⟨3, 51, [.v (.int .i64 64), .v (.int .i32 0), .v (.int .i64 (IntKind.i64.wrap ((vs.getD 0 0 : Nat) : Int))), .v (.int .u64 0), .v (.int .i64 0), .v (.int .u64 0), .v (.int .u64 0), .v (.int .u64 0), .v (.int .u64 0)]⟩, ⟨2, 51, [.v (.int .i64 64), .v (.int .i32 0), .v (.int .i64 (IntKind.i64.wrap ((ws.getD 0 0 : Nat) : Int))), .v (.int .u64 0), .v (.int .i64 0), .v (.int .u64 0), .v (.int .u64 0), .v (.int .u64 0), .v (.int .u64 0)]⟩, ⟨1, 4, [.v (.bool false)]⟩, ⟨0, 22, [.v (.slice none 0 0)]⟩]) (G := []) (hs := []) (gs := []) (is := [16]) (ks := [50, 7, 6]) (f' := 3)
      (L' := [(50, .agg [.v (.int .i64 64), .v (.int .i32 (IntKind.i32.wrap ((0 : Int) * (0 : Int)))), .v (.int .i64 (IntKind.i64.wrap ((IntKind.i64.wrap ((ws.getD 0 0 : Nat) : Int)) * (IntKind.i64.wrap ((vs.getD 0 0 : Nat) : Int))))), .v (.int .u64 ((l : Nat) : Int)), .v (.int .i64 hh), .v (.int .u64 0), .v (.int .u64 0), .v (.int .u64 0), .v (.int .u64 0)]), (7, .p 1 0), (6, .p 0 0)]) hS hI (by kernel_rfl) (fun _ _ _ _ _ h => h) (by kernel_rfl)
      .nil (by kernel_rfl) (by kernel_rfl) (by kernel_rfl) (by rfl) (fun a13 hI => ?_)
  refine oneL (i := 17) (f' := 2) (by kernel_rfl) (by rfl) ?_
  refine callH (ys := [.agg [.v (.int .i64 64), .v (.int .i32 (IntKind.i32.wrap ((0 : Int) * (0 : Int)))), .v (.int .i64 (IntKind.i64.wrap ((IntKind.i64.wrap ((ws.getD 0 0 : Nat) : Int)) * (IntKind.i64.wrap ((vs.getD 0 0 : Nat) : Int))))), .v (.int .u64 ((l : Nat) : Int)), .v (.int .i64 hh), .v (.int .u64 0), .v (.int .u64 0), .v (.int .u64 0), .v (.int .u64 0)]]) hI rfl rfl ⟨_, rfl, rfl, rfl⟩ (by kernel_rfl) Try.func19 rfl rfl ?_
  refine (words64_spec (C := Now hB) _).mono ?_
  rintro ex w14 ⟨wd, wc, us, rfl, hk, hw, m, hus, hm⟩
  replace hF := hF.grow hR hk; replace hS := hS.same hk
  replace hx := hx.next hB hR hk
  replace hy := hy.next hB hR hk
  have hB_ := hB.next hR hk
  replace hR := hR.after hk
  replace hB := hB_; clear hB_ hk
  refine ⟨_, rfl, hS, ?_⟩
  replace hI := hI.put (d := some 51) (x := .v (.slice wd us.length wc)) (by intro t ht; cases ht; decide) rfl
  replace hI := hI.sel [51, 50, 7, 6] (by kernel_rfl : sel _ _ = some [(51, .v (.slice wd us.length wc)), (50, .agg [.v (.int .i64 64), .v (.int .i32 (IntKind.i32.wrap ((0 : Int) * (0 : Int)))), .v (.int .i64 (IntKind.i64.wrap ((IntKind.i64.wrap ((ws.getD 0 0 : Nat) : Int)) * (IntKind.i64.wrap ((vs.getD 0 0 : Nat) : Int))))), .v (.int .u64 ((l : Nat) : Int)), .v (.int .i64 hh), .v (.int .u64 0), .v (.int .u64 0), .v (.int .u64 0), .v (.int .u64 0)]), (7, .p 1 0), (6, .p 0 0)])
  refine endL (i := 18) (f' := 1) (by kernel_rfl) (by rfl) (by kernel_rfl) ?_
  refine effH tab (k := 4) (hh := .no) (r := ⟨.v (undef), [⟨0, 22, [.v (.slice wd us.length wc)]⟩, ⟨3, 51, [.v (.int .i64 64), .v (.int .i32 0), .v (.int .i64 (IntKind.i64.wrap ((vs.getD 0 0 : Nat) : Int))), .v (.int .u64 0), .v (.int .i64 0), .v (.int .u64 0), .v (.int .u64 0), .v (.int .u64 0), .v (.int .u64 0)]⟩, ⟨2, 51, [.v (.int .i64 64), .v (.int .i32 0), .v (.int .i64 (IntKind.i64.wrap ((ws.getD 0 0 : Nat) : Int))), .v (.int .u64 0), .v (.int .i64 0), .v (.int .u64 0), .v (.int .u64 0), .v (.int .u64 0), .v (.int .u64 0)]⟩, ⟨1, 4, [.v (.bool false)]⟩], [], 4, _, true⟩) hR hI (by kernel_rfl) rfl rfl rfl (by kernel_rfl) .nil (fun e15 a15 w15 hag hR2 hI => ?_)
  replace hR := hR2; clear hR2
  replace hI := hI.sel [51, 50, 7, 6] (by kernel_rfl : sel _ _ = some [(51, .v (.slice wd us.length wc)), (50, .agg [.v (.int .i64 64), .v (.int .i32 (IntKind.i32.wrap ((0 : Int) * (0 : Int)))), .v (.int .i64 (IntKind.i64.wrap ((IntKind.i64.wrap ((ws.getD 0 0 : Nat) : Int)) * (IntKind.i64.wrap ((vs.getD 0 0 : Nat) : Int))))), .v (.int .u64 ((l : Nat) : Int)), .v (.int .i64 hh), .v (.int .u64 0), .v (.int .u64 0), .v (.int .u64 0), .v (.int .u64 0)]), (7, .p 1 0), (6, .p 0 0)])
  refine endL (i := 19) (f' := 0) (by kernel_rfl) (by rfl) (by kernel_rfl) ?_
  refine effH tab (k := 4) (hh := .no) (r := ⟨.v (undef), [⟨1, 4, [.v (.bool true)]⟩, ⟨0, 22, [.v (.slice wd us.length wc)]⟩, ⟨3, 51, [.v (.int .i64 64), .v (.int .i32 0), .v (.int .i64 (IntKind.i64.wrap ((vs.getD 0 0 : Nat) : Int))), .v (.int .u64 0), .v (.int .i64 0), .v (.int .u64 0), .v (.int .u64 0), .v (.int .u64 0), .v (.int .u64 0)]⟩, ⟨2, 51, [.v (.int .i64 64), .v (.int .i32 0), .v (.int .i64 (IntKind.i64.wrap ((ws.getD 0 0 : Nat) : Int))), .v (.int .u64 0), .v (.int .i64 0), .v (.int .u64 0), .v (.int .u64 0), .v (.int .u64 0), .v (.int .u64 0)]⟩], [], 4, _, true⟩) hR hI (by kernel_rfl) rfl rfl rfl (by kernel_rfl) .nil (fun e16 a16 w16 hag hR2 hI => ?_)
  replace hR := hR2; clear hR2
  replace hI := hI.sel [51, 50, 7, 6] (by kernel_rfl : sel _ _ = some [(51, .v (.slice wd us.length wc)), (50, .agg [.v (.int .i64 64), .v (.int .i32 (IntKind.i32.wrap ((0 : Int) * (0 : Int)))), .v (.int .i64 (IntKind.i64.wrap ((IntKind.i64.wrap ((ws.getD 0 0 : Nat) : Int)) * (IntKind.i64.wrap ((vs.getD 0 0 : Nat) : Int))))), .v (.int .u64 ((l : Nat) : Int)), .v (.int .i64 hh), .v (.int .u64 0), .v (.int .u64 0), .v (.int .u64 0), .v (.int .u64 0)]), (7, .p 1 0), (6, .p 0 0)])
  refine doneL (by kernel_rfl) ?_
  refine then_n ?_
  replace hI := hI.sel [7, 6] (by kernel_rfl : sel _ _ = some [(7, .p 1 0), (6, .p 0 0)]); replace hR := hR.sel [1, 0] [] (by kernel_rfl : selH _ _ = some [⟨1, 4, [.v (.bool true)]⟩, ⟨0, 22, [.v (.slice wd us.length wc)]⟩]) (by kernel_rfl : selG _ _ = some [])
  refine wp_ret ?_
  refine outD tab (xs := [.v (.slice wd us.length wc), .v (.bool true)]) hR hI Try.func14 rfl rfl (idle14 _ _) rfl (by kernel_rfl) ?_
  exact ⟨us, wd, wc, rfl, hB.fin hR, hw.fin hB hR, m, hus, hm⟩

set_option maxHeartbeats 4000000 in
set_option maxRecDepth 100000 in
theorem decMul128_spec {C : Nat → Prop} {w : World} {ad bd : Option Addr} {cap dap : Nat} {ws vs : List Nat} (hx : Sl .u64 18446744073709551616 C w ad cap ws) (hy : Sl .u64 18446744073709551616 C w bd dap vs) (hl : ws.length = 2) (hl' : vs.length = 2) :
    Calls P 5 #[.int .i64 128, .slice ad ws.length cap, .slice bd vs.length dap] w fun ex w' => ∃ us wd wc, ex = .returned (.tuple #[.slice wd (List.length us) wc, .bool true]) ∧ Keep (fun b => b < w.heap.size) w w' ∧ Sl .u64 18446744073709551616 (Grow C w w') w' wd wc us ∧ ∃ (l m : Nat) (hh q : Int), us = [l, m] ∧ IntKind.u64.wrap hh = (m : Int) ∧ (l : Int) + 18446744073709551616 * hh = (((ws.getD 0 0 : Nat) : Int) + 18446744073709551616 * IntKind.i64.wrap ((ws.getD 1 0 : Nat) : Int)) * (((vs.getD 0 0 : Nat) : Int) + 18446744073709551616 * IntKind.i64.wrap ((vs.getD 1 0 : Nat) : Int)) + 340282366920938463463374607431768211456 * q := by
  refine doorD (e := e0) (vs := [.v (.int .i64 128), .v (.slice ad ws.length cap), .v (.slice bd vs.length dap)]) (n := 52) (m := 3) Try.func5 rfl rfl rfl (by decide) fun a_ hI => ?_
  replace hI : Is 52 [] e0 [(0, .v (.int .i64 128)), (1, .v (.slice ad ws.length cap)), (2, .v (.slice bd vs.length dap))] a_ := hI
  have hR : Rel (fun b => b < w.heap.size) w e0 [] [] w := Rel.start (fun k hk => hk)
  have hB : Base C w C (fun b => b < w.heap.size) w := Base.start
  refine reg_seq tab (k := 0) (hs := []) (sy := []) (ks := [7, 6, 0, 1, 2]) (bs := [1, 0]) (gs := [])
      (L' := [(7, .p 1 0), (6, .p 0 0), (0, .v (.int .i64 128)), (1, .v (.slice ad ws.length cap)), (2, .v (.slice bd vs.length dap))])
      (H' := [⟨1, 4, [.v (.bool false)]⟩, ⟨0, 22, [.v (.slice none 0 0)]⟩]) (G' := []) (k' := 2) hR hI (by kernel_rfl)
      .nil (fun e1 a1 w1 hag hR hI => ?_)
  refine wp_seq ?_
  refine reg (is := [0]) (by kernel_rfl) ?_
  refine deferOp (ys := [.p 0 0, .p 1 0]) hI rfl rfl rfl ⟨_, rfl, rfl, rfl⟩ (by kernel_rfl) (fun a1 hI => ?_)
  replace hI := hI.sel [7, 6, 0, 1, 2] (by kernel_rfl : sel _ _ = some [(7, .p 1 0), (6, .p 0 0), (0, .v (.int .i64 128)), (1, .v (.slice ad ws.length cap)), (2, .v (.slice bd vs.length dap))])
  refine ops_nil ?_
  refine then_n ?_
  refine wp_seq ?_
  refine reg (is := [0, 1, 2, 3, 4, 5, 6, 7, 8]) (by kernel_rfl) ?_
  refine part_ tab [0, 1] [2, 3, 4, 5, 6, 7, 8] (by rfl) (k := 2) (hs := []) (sy := []) (ks := [14, 13, 7, 6, 0, 2]) (bs := [1, 0]) (gs := [])
      (L' := [(14, .v (.slice ad ws.length cap)), (13, .v (.int .i64 128)), (7, .p 1 0), (6, .p 0 0), (0, .v (.int .i64 128)), (2, .v (.slice bd vs.length dap))])
      (H' := [⟨1, 4, [.v (.bool false)]⟩, ⟨0, 22, [.v (.slice none 0 0)]⟩]) (G' := []) (k' := 2) hR hI (by kernel_rfl)
      .nil (fun e2 a2 w2 hag hR hI => ?_)
  refine callOp (ys := [.v (.int .i64 128), .v (.slice ad ws.length cap)]) hI rfl rfl ⟨_, rfl, rfl, rfl⟩ (by kernel_rfl) Try.func15 rfl rfl ?_
  refine (decOf128_spec (hx.now hB hR) hl).mono ?_
  rintro ex w3 ⟨rfl, hk⟩
  replace hR := hR.same hk; clear hk
  refine ⟨_, rfl, ?_⟩
  replace hI := hI.put (d := some 15) (x := .v (.tuple #[.agg #[.int .i64 128, .int .i32 0, .int .i64 0, .int .u64 ((ws.getD 0 0 : Nat) : Int), .int .i64 (IntKind.i64.wrap ((ws.getD 1 0 : Nat) : Int)), .int .u64 0, .int .u64 0, .int .u64 0, .int .u64 0], .bool true])) (by intro t ht; cases ht; decide) rfl
  replace hI := hI.sel [15, 14, 13, 7, 6, 0, 2] (by kernel_rfl : sel _ _ = some [(15, .v (.tuple #[.agg #[.int .i64 128, .int .i32 0, .int .i64 0, .int .u64 ((ws.getD 0 0 : Nat) : Int), .int .i64 (IntKind.i64.wrap ((ws.getD 1 0 : Nat) : Int)), .int .u64 0, .int .u64 0, .int .u64 0, .int .u64 0], .bool true])), (14, .v (.slice ad ws.length cap)), (13, .v (.int .i64 128)), (7, .p 1 0), (6, .p 0 0), (0, .v (.int .i64 128)), (2, .v (.slice bd vs.length dap))])
  refine part_ tab [3, 4, 5, 6, 7, 8] [] (by rfl) (k := 2) (hs := []) (sy := []) (ks := [9, 8, 7, 6, 0, 2]) (bs := [2, 1, 0]) (gs := [])
      (L' := [(9, .v (.bool true)), (8, .p 2 0), (7, .p 1 0), (6, .p 0 0), (0, .v (.int .i64 128)), (2, .v (.slice bd vs.length dap))])
      (H' := [⟨2, 51, [.v (.int .i64 128), .v (.int .i32 0), .v (.int .i64 0), .v (.int .u64 ((ws.getD 0 0 : Nat) : Int)), .v (.int .i64 (IntKind.i64.wrap ((ws.getD 1 0 : Nat) : Int))), .v (.int .u64 0), .v (.int .u64 0), .v (.int .u64 0), .v (.int .u64 0)]⟩, ⟨1, 4, [.v (.bool false)]⟩, ⟨0, 22, [.v (.slice none 0 0)]⟩]) (G' := []) (k' := 3) hR hI (by kernel_rfl)
      .nil (fun e4 a4 w4 hag hR hI => ?_)
  refine ops_nil ?_
  refine then_n ?_
  refine wp_seq ?_
  refine reg (is := [0, 1, 2, 3, 4, 5, 6, 7, 8]) (by kernel_rfl) ?_
  refine part_ tab [0, 1] [2, 3, 4, 5, 6, 7, 8] (by rfl) (k := 3) (hs := []) (sy := []) (ks := [20, 19, 9, 8, 7, 6, 0]) (bs := [2, 1, 0]) (gs := [])
      (L' := [(20, .v (.slice bd vs.length dap)), (19, .v (.int .i64 128)), (9, .v (.bool true)), (8, .p 2 0), (7, .p 1 0), (6, .p 0 0), (0, .v (.int .i64 128))])
      (H' := [⟨2, 51, [.v (.int .i64 128), .v (.int .i32 0), .v (.int .i64 0), .v (.int .u64 ((ws.getD 0 0 : Nat) : Int)), .v (.int .i64 (IntKind.i64.wrap ((ws.getD 1 0 : Nat) : Int))), .v (.int .u64 0), .v (.int .u64 0), .v (.int .u64 0), .v (.int .u64 0)]⟩, ⟨1, 4, [.v (.bool false)]⟩, ⟨0, 22, [.v (.slice none 0 0)]⟩]) (G' := []) (k' := 3) hR hI (by kernel_rfl)
      .nil (fun e5 a5 w5 hag hR hI => ?_)
  refine callOp (ys := [.v (.int .i64 128), .v (.slice bd vs.length dap)]) hI rfl rfl ⟨_, rfl, rfl, rfl⟩ (by kernel_rfl) Try.func15 rfl rfl ?_
  refine (decOf128_spec (hy.now hB hR) hl').mono ?_
  rintro ex w6 ⟨rfl, hk⟩
  replace hR := hR.same hk; clear hk
  refine ⟨_, rfl, ?_⟩
  replace hI := hI.put (d := some 21) (x := .v (.tuple #[.agg #[.int .i64 128, .int .i32 0, .int .i64 0, .int .u64 ((vs.getD 0 0 : Nat) : Int), .int .i64 (IntKind.i64.wrap ((vs.getD 1 0 : Nat) : Int)), .int .u64 0, .int .u64 0, .int .u64 0, .int .u64 0], .bool true])) (by intro t ht; cases ht; decide) rfl
  replace hI := hI.sel [21, 20, 19, 9, 8, 7, 6, 0] (by kernel_rfl : sel _ _ = some [(21, .v (.tuple #[.agg #[.int .i64 128, .int .i32 0, .int .i64 0, .int .u64 ((vs.getD 0 0 : Nat) : Int), .int .i64 (IntKind.i64.wrap ((vs.getD 1 0 : Nat) : Int)), .int .u64 0, .int .u64 0, .int .u64 0, .int .u64 0], .bool true])), (20, .v (.slice bd vs.length dap)), (19, .v (.int .i64 128)), (9, .v (.bool true)), (8, .p 2 0), (7, .p 1 0), (6, .p 0 0), (0, .v (.int .i64 128))])
  refine part_ tab [3, 4, 5, 6, 7, 8] [] (by rfl) (k := 3) (hs := []) (sy := []) (ks := [11, 10, 9, 8, 7, 6, 0]) (bs := [3, 2, 1, 0]) (gs := [])
      (L' := [(11, .v (.bool true)), (10, .p 3 0), (9, .v (.bool true)), (8, .p 2 0), (7, .p 1 0), (6, .p 0 0), (0, .v (.int .i64 128))])
      (H' := [⟨3, 51, [.v (.int .i64 128), .v (.int .i32 0), .v (.int .i64 0), .v (.int .u64 ((vs.getD 0 0 : Nat) : Int)), .v (.int .i64 (IntKind.i64.wrap ((vs.getD 1 0 : Nat) : Int))), .v (.int .u64 0), .v (.int .u64 0), .v (.int .u64 0), .v (.int .u64 0)]⟩, ⟨2, 51, [.v (.int .i64 128), .v (.int .i32 0), .v (.int .i64 0), .v (.int .u64 ((ws.getD 0 0 : Nat) : Int)), .v (.int .i64 (IntKind.i64.wrap ((ws.getD 1 0 : Nat) : Int))), .v (.int .u64 0), .v (.int .u64 0), .v (.int .u64 0), .v (.int .u64 0)]⟩, ⟨1, 4, [.v (.bool false)]⟩, ⟨0, 22, [.v (.slice none 0 0)]⟩]) (G' := []) (k' := 4) hR hI (by kernel_rfl)
      .nil (fun e7 a7 w7 hag hR hI => ?_)
  refine ops_nil ?_
  refine then_n ?_
  refine wp_seq ?_
  refine reg_seq tab (k := 4) (hs := []) (sy := []) (ks := [33, 10, 8, 7, 6, 0]) (bs := [3, 2, 1, 0]) (gs := [])
      (L' := [(33, .v (.bool false)), (10, .p 3 0), (8, .p 2 0), (7, .p 1 0), (6, .p 0 0), (0, .v (.int .i64 128))])
      (H' := [⟨3, 51, [.v (.int .i64 128), .v (.int .i32 0), .v (.int .i64 0), .v (.int .u64 ((vs.getD 0 0 : Nat) : Int)), .v (.int .i64 (IntKind.i64.wrap ((vs.getD 1 0 : Nat) : Int))), .v (.int .u64 0), .v (.int .u64 0), .v (.int .u64 0), .v (.int .u64 0)]⟩, ⟨2, 51, [.v (.int .i64 128), .v (.int .i32 0), .v (.int .i64 0), .v (.int .u64 ((ws.getD 0 0 : Nat) : Int)), .v (.int .i64 (IntKind.i64.wrap ((ws.getD 1 0 : Nat) : Int))), .v (.int .u64 0), .v (.int .u64 0), .v (.int .u64 0), .v (.int .u64 0)]⟩, ⟨1, 4, [.v (.bool false)]⟩, ⟨0, 22, [.v (.slice none 0 0)]⟩]) (G' := []) (k' := 4) hR hI (by kernel_rfl)
      .nil (fun e8 a8 w8 hag hR hI => ?_)
  refine cnd_f hI (by kernel_rfl) ?_
  refine wp_skip ?_
  refine then_n ?_
  refine wp_seq ?_
  refine regL 18 hR (by kernel_rfl) (fun hS => ?_)
  replace hR := hR.drew; have hF := hR.fore
  refine takeL tab (H := [⟨3, 51, [.v (.int .i64 128), .v (.int .i32 0), .v (.int .i64 0), .v (.int .u64 ((vs.getD 0 0 : Nat) : Int)), .v (.int .i64 (IntKind.i64.wrap ((vs.getD 1 0 : Nat) : Int))), .v (.int .u64 0), .v (.int .u64 0), .v (.int .u64 0), .v (.int .u64 0)]⟩, ⟨2, 51, [.v (.int .i64 128), .v (.int .i32 0), .v (.int .i64 0), .v (.int .u64 ((ws.getD 0 0 : Nat) : Int)), .v (.int .i64 (IntKind.i64.wrap ((ws.getD 1 0 : Nat) : Int))), .v (.int .u64 0), .v (.int .u64 0), .v (.int .u64 0), .v (.int .u64 0)]⟩, ⟨1, 4, [.v (.bool false)]⟩, ⟨0, 22, [.v (.slice none 0 0)]⟩]) (G := []) (hs := []) (gs := []) (is := [0, 1, 2, 3, 4, 6, 7, 8, 9, 11, 12, 13, 14]) (ks := [48, 46, 43, 41, 38, 36, 34, 7, 6]) (f' := 7)
      (L' := [(48, .agg [.v (.int .u64 ((vs.getD 0 0 : Nat) : Int)), .v (.int .i64 (IntKind.i64.wrap ((vs.getD 1 0 : Nat) : Int)))]), (46, .agg [.v (.int .u64 ((ws.getD 0 0 : Nat) : Int)), .v (.int .i64 (IntKind.i64.wrap ((ws.getD 1 0 : Nat) : Int)))]), (43, .v (.int .i64 0)), (41, .v (.int .i64 0)), (38, .v (.int .i32 0)), (36, .v (.int .i32 0)), (34, .v (.int .i64 128)), (7, .p 1 0), (6, .p 0 0)]) hS hI (by kernel_rfl) (fun _ _ _ _ _ h => h) (by kernel_rfl)
      .nil (by kernel_rfl) (by kernel_rfl) (by kernel_rfl) (by rfl) (fun a9 hI => ?_)
  refine oneL (i := 5) (f' := 6) (by kernel_rfl) (by rfl) ?_
  refine callH (ys := [.v (.int .i32 0), .v (.int .i32 0)]) hI rfl rfl ⟨_, rfl, rfl, rfl⟩ (by kernel_rfl) Try.func16 rfl rfl ?_
  refine (d32Mul_spec (C := C) 0 0).mono ?_
  rintro ex w10 ⟨rfl, hk⟩
  replace hS := hS.same hk; replace hR := hR.same hk; clear hk
  refine ⟨_, rfl, hS, ?_⟩
  replace hI := hI.put (d := some 39) (x := .v (.int .i32 (IntKind.i32.wrap ((0 : Int) * (0 : Int))))) (by intro t ht; cases ht; decide) rfl
  replace hI := hI.sel [39, 48, 46, 43, 41, 38, 36, 34, 7, 6] (by kernel_rfl : sel _ _ = some [(39, .v (.int .i32 (IntKind.i32.wrap ((0 : Int) * (0 : Int))))), (48, .agg [.v (.int .u64 ((vs.getD 0 0 : Nat) : Int)), .v (.int .i64 (IntKind.i64.wrap ((vs.getD 1 0 : Nat) : Int)))]), (46, .agg [.v (.int .u64 ((ws.getD 0 0 : Nat) : Int)), .v (.int .i64 (IntKind.i64.wrap ((ws.getD 1 0 : Nat) : Int)))]), (43, .v (.int .i64 0)), (41, .v (.int .i64 0)), (38, .v (.int .i32 0)), (36, .v (.int .i32 0)), (34, .v (.int .i64 128)), (7, .p 1 0), (6, .p 0 0)])
  refine oneL (i := 10) (f' := 5) (by kernel_rfl) (by rfl) ?_
  refine callH (ys := [.v (.int .i64 0), .v (.int .i64 0)]) hI rfl rfl ⟨_, rfl, rfl, rfl⟩ (by kernel_rfl) Try.func17 rfl rfl ?_
  refine (d64Mul_spec (C := C) 0 0).mono ?_
  rintro ex w11 ⟨rfl, hk⟩
  replace hS := hS.same hk; replace hR := hR.same hk; clear hk
  refine ⟨_, rfl, hS, ?_⟩
  replace hI := hI.put (d := some 44) (x := .v (.int .i64 (IntKind.i64.wrap ((0 : Int) * (0 : Int))))) (by intro t ht; cases ht; decide) rfl
  replace hI := hI.sel [44, 39, 48, 46, 43, 41, 38, 36, 34, 7, 6] (by kernel_rfl : sel _ _ = some [(44, .v (.int .i64 (IntKind.i64.wrap ((0 : Int) * (0 : Int))))), (39, .v (.int .i32 (IntKind.i32.wrap ((0 : Int) * (0 : Int))))), (48, .agg [.v (.int .u64 ((vs.getD 0 0 : Nat) : Int)), .v (.int .i64 (IntKind.i64.wrap ((vs.getD 1 0 : Nat) : Int)))]), (46, .agg [.v (.int .u64 ((ws.getD 0 0 : Nat) : Int)), .v (.int .i64 (IntKind.i64.wrap ((ws.getD 1 0 : Nat) : Int)))]), (43, .v (.int .i64 0)), (41, .v (.int .i64 0)), (38, .v (.int .i32 0)), (36, .v (.int .i32 0)), (34, .v (.int .i64 128)), (7, .p 1 0), (6, .p 0 0)])
  refine oneL (i := 15) (f' := 4) (by kernel_rfl) (by rfl) ?_
  refine callH (ys := [.agg [.v (.int .u64 ((ws.getD 0 0 : Nat) : Int)), .v (.int .i64 (IntKind.i64.wrap ((ws.getD 1 0 : Nat) : Int)))], .agg [.v (.int .u64 ((vs.getD 0 0 : Nat) : Int)), .v (.int .i64 (IntKind.i64.wrap ((vs.getD 1 0 : Nat) : Int)))]]) hI rfl rfl ⟨_, rfl, rfl, rfl⟩ (by kernel_rfl) Try.func18 rfl rfl ?_
  refine (d128Mul_spec (C := C) (x0 := ws.getD 0 0) (y0 := vs.getD 0 0) (IntKind.i64.wrap ((ws.getD 1 0 : Nat) : Int)) (IntKind.i64.wrap ((vs.getD 1 0 : Nat) : Int)) (hx.get 0 (by decide)) (hy.get 0 (by decide))).mono ?_
  rintro ex w12 ⟨l, hh, rfl, hk, hlb, q, hq⟩
  replace hS := hS.same hk; replace hR := hR.same hk; clear hk
  refine ⟨_, rfl, hS, ?_⟩
  replace hI := hI.put (d := some 49) (x := .v (.agg #[.int .u64 ((l : Nat) : Int), .int .i64 hh])) (by intro t ht; cases ht; decide) rfl
  replace hI := hI.sel [49, 44, 39, 48, 46, 43, 41, 38, 36, 34, 7, 6] (by kernel_rfl : sel _ _ = some [(49, .v (.agg #[.int .u64 ((l : Nat) : Int), .int .i64 hh])), (44, .v (.int .i64 (IntKind.i64.wrap ((0 : Int) * (0 : Int))))), (39, .v (.int .i32 (IntKind.i32.wrap ((0 : Int) * (0 : Int))))), (48, .agg [.v (.int .u64 ((vs.getD 0 0 : Nat) : Int)), .v (.int .i64 (IntKind.i64.wrap ((vs.getD 1 0 : Nat) : Int)))]), (46, .agg [.v (.int .u64 ((ws.getD 0 0 : Nat) : Int)), .v (.int .i64 (IntKind.i64.wrap ((ws.getD 1 0 : Nat) : Int)))]), (43, .v (.int .i64 0)), (41, .v (.int .i64 0)), (38, .v (.int .i32 0)), (36, .v (.int .i32 0)), (34, .v (.int .i64 128)), (7, .p 1 0), (6, .p 0 0)])
  refine takeL tab (H := [⟨3, 51, [.v (.int .i64 128), .v (.int .i32 0), .v (.int .i64 0), .v (.int .u64 ((vs.getD 0 0 : Nat) : Int)), .v (.int .i64 (IntKind.i64.wrap ((vs.getD 1 0 : Nat) : Int))), .v (.int .u64 0), .v (.int .u64 0), .v (.int .u64 0), .v (.int .u64 0)]⟩, ⟨2, 51, [.v (.int .i64 128), .v (.int .i32 0), .v (.int .i64 0), .v (.int .u64 ((ws.getD 0 0 : Nat) : Int)), .v (.int .i64 (IntKind.i64.wrap ((ws.getD 1 0 : Nat) : Int))), .v (.int .u64 0), .v (.int .u64 0), .v (.int .u64 0), .v (.int .u64 0)]⟩, ⟨1, 4, [.v (.bool false)]⟩, ⟨0, 22, [.v (.slice none 0 0)]⟩]) (G := []) (hs := []) (gs := []) (is := [16]) (ks := [50, 7, 6]) (f' := 3)
      (L' := [(50, .agg [.v (.int .i64 128), .v (.int .i32 (IntKind.i32.wrap ((0 : Int) * (0 : Int)))), .v (.int .i64 (IntKind.i64.wrap ((0 : Int) * (0 : Int)))), .v (.int .u64 ((l : Nat) : Int)), .v (.int .i64 hh), .v (.int .u64 0), .v (.int .u64 0), .v (.int .u64 0), .v (.int .u64 0)]), (7, .p 1 0), (6, .p 0 0)]) hS hI (by kernel_rfl) (fun _ _ _ _ _ h => h) (by kernel_rfl)
      .nil (by kernel_rfl) (by kernel_rfl) (by kernel_rfl) (by rfl) (fun a13 hI => ?_)
  refine oneL (i := 17) (f' := 2) (by kernel_rfl) (by rfl) ?_
  refine callH (ys := [.agg [.v (.int .i64 128), .v (.int .i32 (IntKind.i32.wrap ((0 : Int) * (0 : Int)))), .v (.int .i64 (IntKind.i64.wrap ((0 : Int) * (0 : Int)))), .v (.int .u64 ((l : Nat) : Int)), .v (.int .i64 hh), .v (.int .u64 0), .v (.int .u64 0), .v (.int .u64 0), .v (.int .u64 0)]]) hI rfl rfl ⟨_, rfl, rfl, rfl⟩ (by kernel_rfl) Try.func19 rfl rfl ?_
  refine (words128_spec (C := Now hB) l hh hlb).mono ?_
  rintro ex w14 ⟨wd, wc, us, rfl, hk, hw, m, hus, hm⟩
  replace hF := hF.grow hR hk; replace hS := hS.same hk
  replace hx := hx.next hB hR hk
  replace hy := hy.next hB hR hk
  have hB_ := hB.next hR hk
  replace hR := hR.after hk
  replace hB := hB_; clear hB_ hk
  refine ⟨_, rfl, hS, ?_⟩
  replace hI := hI.put (d := some 51) (x := .v (.slice wd us.length wc)) (by intro t ht; cases ht; decide) rfl
  replace hI := hI.sel [51, 50, 7, 6] (by kernel_rfl : sel _ _ = some [(51, .v (.slice wd us.length wc)), (50, .agg [.v (.int .i64 128), .v (.int .i32 (IntKind.i32.wrap ((0 : Int) * (0 : Int)))), .v (.int .i64 (IntKind.i64.wrap ((0 : Int) * (0 : Int)))), .v (.int .u64 ((l : Nat) : Int)), .v (.int .i64 hh), .v (.int .u64 0), .v (.int .u64 0), .v (.int .u64 0), .v (.int .u64 0)]), (7, .p 1 0), (6, .p 0 0)])
  refine endL (i := 18) (f' := 1) (by kernel_rfl) (by rfl) (by kernel_rfl) ?_
  refine effH tab (k := 4) (hh := .no) (r := ⟨.v (undef), [⟨0, 22, [.v (.slice wd us.length wc)]⟩, ⟨3, 51, [.v (.int .i64 128), .v (.int .i32 0), .v (.int .i64 0), .v (.int .u64 ((vs.getD 0 0 : Nat) : Int)), .v (.int .i64 (IntKind.i64.wrap ((vs.getD 1 0 : Nat) : Int))), .v (.int .u64 0), .v (.int .u64 0), .v (.int .u64 0), .v (.int .u64 0)]⟩, ⟨2, 51, [.v (.int .i64 128), .v (.int .i32 0), .v (.int .i64 0), .v (.int .u64 ((ws.getD 0 0 : Nat) : Int)), .v (.int .i64 (IntKind.i64.wrap ((ws.getD 1 0 : Nat) : Int))), .v (.int .u64 0), .v (.int .u64 0), .v (.int .u64 0), .v (.int .u64 0)]⟩, ⟨1, 4, [.v (.bool false)]⟩], [], 4, _, true⟩) hR hI (by kernel_rfl) rfl rfl rfl (by kernel_rfl) .nil (fun e15 a15 w15 hag hR2 hI => ?_)
  replace hR := hR2; clear hR2
  replace hI := hI.sel [51, 50, 7, 6] (by kernel_rfl : sel _ _ = some [(51, .v (.slice wd us.length wc)), (50, .agg [.v (.int .i64 128), .v (.int .i32 (IntKind.i32.wrap ((0 : Int) * (0 : Int)))), .v (.int .i64 (IntKind.i64.wrap ((0 : Int) * (0 : Int)))), .v (.int .u64 ((l : Nat) : Int)), .v (.int .i64 hh), .v (.int .u64 0), .v (.int .u64 0), .v (.int .u64 0), .v (.int .u64 0)]), (7, .p 1 0), (6, .p 0 0)])
  refine endL (i := 19) (f' := 0) (by kernel_rfl) (by rfl) (by kernel_rfl) ?_
  refine effH tab (k := 4) (hh := .no) (r := ⟨.v (undef), [⟨1, 4, [.v (.bool true)]⟩, ⟨0, 22, [.v (.slice wd us.length wc)]⟩, ⟨3, 51, [.v (.int .i64 128), .v (.int .i32 0), .v (.int .i64 0), .v (.int .u64 ((vs.getD 0 0 : Nat) : Int)), .v (.int .i64 (IntKind.i64.wrap ((vs.getD 1 0 : Nat) : Int))), .v (.int .u64 0), .v (.int .u64 0), .v (.int .u64 0), .v (.int .u64 0)]⟩, ⟨2, 51, [.v (.int .i64 128), .v (.int .i32 0), .v (.int .i64 0), .v (.int .u64 ((ws.getD 0 0 : Nat) : Int)), .v (.int .i64 (IntKind.i64.wrap ((ws.getD 1 0 : Nat) : Int))), .v (.int .u64 0), .v (.int .u64 0), .v (.int .u64 0), .v (.int .u64 0)]⟩], [], 4, _, true⟩) hR hI (by kernel_rfl) rfl rfl rfl (by kernel_rfl) .nil (fun e16 a16 w16 hag hR2 hI => ?_)
  replace hR := hR2; clear hR2
  replace hI := hI.sel [51, 50, 7, 6] (by kernel_rfl : sel _ _ = some [(51, .v (.slice wd us.length wc)), (50, .agg [.v (.int .i64 128), .v (.int .i32 (IntKind.i32.wrap ((0 : Int) * (0 : Int)))), .v (.int .i64 (IntKind.i64.wrap ((0 : Int) * (0 : Int)))), .v (.int .u64 ((l : Nat) : Int)), .v (.int .i64 hh), .v (.int .u64 0), .v (.int .u64 0), .v (.int .u64 0), .v (.int .u64 0)]), (7, .p 1 0), (6, .p 0 0)])
  refine doneL (by kernel_rfl) ?_
  refine then_n ?_
  replace hI := hI.sel [7, 6] (by kernel_rfl : sel _ _ = some [(7, .p 1 0), (6, .p 0 0)]); replace hR := hR.sel [1, 0] [] (by kernel_rfl : selH _ _ = some [⟨1, 4, [.v (.bool true)]⟩, ⟨0, 22, [.v (.slice wd us.length wc)]⟩]) (by kernel_rfl : selG _ _ = some [])
  refine wp_ret ?_
  refine outD tab (xs := [.v (.slice wd us.length wc), .v (.bool true)]) hR hI Try.func14 rfl rfl (idle14 _ _) rfl (by kernel_rfl) ?_
  exact ⟨us, wd, wc, rfl, hB.fin hR, hw.fin hB hR, l, m, hh, q, hus, hm, hq⟩

/-! ### The law's arithmetic -/
theorem dec_cases {k : Int} {ws : List Nat} (h : decOK k ws) (h256 : k ≠ 256) : k = 32 ∨ k = 64 ∨ k = 128 := by
  have h1 : k = 32 ∨ k = 64 ∨ k = 128 ∨ k = 256 := of_decide_eq_true h.1
  omega
theorem len_one {ws : List Nat} (h : ws.length = 1) : ∃ x, ws = [x] := by
  match ws, h with
  | [x], _ => exact ⟨x, rfl⟩
theorem len_two {ws : List Nat} (h : ws.length = 2) : ∃ x y, ws = [x, y] := by
  match ws, h with
  | [x, y], _ => exact ⟨x, y, rfl⟩
theorem swv_one {x : Nat} (hx : x < 18446744073709551616) : swv [x] = IntKind.i64.wrap (x : Int) := by
  rw [IntKind.wrap_i64]
  by_cases h : 9223372036854775808 ≤ x
  · rw [swv_neg (ws := [x]) ⟨by simp, h⟩]
    have e1 : wval [x] = x := by simp [wval]
    have e2 : ((2 ^ (64 * [x].length) : Nat) : Int) = 18446744073709551616 := by
      show ((2 ^ (64 * 1) : Nat) : Int) = 18446744073709551616
      decide
    rw [e1, e2]; omega
  · rw [swv_pos (ws := [x]) (fun h' => h h'.2)]
    have e1 : wval [x] = x := by simp [wval]
    rw [e1]; omega
theorem swv_two {x y : Nat} (hy : y < 18446744073709551616) : swv [x, y] = (x : Int) + 18446744073709551616 * IntKind.i64.wrap (y : Int) := by
  rw [IntKind.wrap_i64]
  have e1 : wval [x, y] = x + 18446744073709551616 * y := by simp [wval]
  by_cases h : 9223372036854775808 ≤ y
  · rw [swv_neg (ws := [x, y]) ⟨by simp, h⟩]
    have e2 : ((2 ^ (64 * [x, y].length) : Nat) : Int) = 340282366920938463463374607431768211456 := by
      show ((2 ^ (64 * 2) : Nat) : Int) = 340282366920938463463374607431768211456
      decide
    rw [e1, e2]; omega
  · rw [swv_pos (ws := [x, y]) (fun h' => h h'.2), e1]; omega
/-- What the code gives back for a product. -/
def MulRes (k : Int) (ws vs us : List Nat) : Prop :=
  (k = 32 → ∃ m : Nat, us = [m] ∧ IntKind.u64.wrap (IntKind.i32.wrap (IntKind.i32.wrap ((ws.getD 0 0 : Nat) : Int) * IntKind.i32.wrap ((vs.getD 0 0 : Nat) : Int))) = (m : Int)) ∧
  (k = 64 → ∃ m : Nat, us = [m] ∧ IntKind.u64.wrap (IntKind.i64.wrap (IntKind.i64.wrap ((ws.getD 0 0 : Nat) : Int) * IntKind.i64.wrap ((vs.getD 0 0 : Nat) : Int))) = (m : Int)) ∧
  (k = 128 → ∃ (l m : Nat) (hh q : Int), us = [l, m] ∧ IntKind.u64.wrap hh = (m : Int) ∧ (l : Int) + 18446744073709551616 * hh = (((ws.getD 0 0 : Nat) : Int) + 18446744073709551616 * IntKind.i64.wrap ((ws.getD 1 0 : Nat) : Int)) * (((vs.getD 0 0 : Nat) : Int) + 18446744073709551616 * IntKind.i64.wrap ((vs.getD 1 0 : Nat) : Int)) + 340282366920938463463374607431768211456 * q)
theorem wval_inj2 {x y x' y' : Nat} (hx : x < 18446744073709551616) (hx' : x' < 18446744073709551616) (h : wval [x, y] = wval [x', y']) : [x, y] = [x', y'] := by
  have e1 : wval [x, y] = x + 18446744073709551616 * y := by simp [wval]
  have e2 : wval [x', y'] = x' + 18446744073709551616 * y' := by simp [wval]
  rw [e1, e2] at h
  have h1 : x = x' := by omega
  have h2 : y = y' := by omega
  rw [h1, h2]
theorem mul_law {k : Int} {ws vs us ts : List Nat} (hk : decOK k ws) (hk' : decOK k vs) (h256 : k ≠ 256) (hw : ∀ d ∈ ws, d < 18446744073709551616) (hv : ∀ d ∈ vs, d < 18446744073709551616) (hu : ∀ d ∈ us, d < 18446744073709551616) (ht : ∀ d ∈ ts, d < 18446744073709551616)
    (hR : MulRes k ws vs us) (hW : Wrapped k (swv ws * swv vs) ts) : us = ts := by
  rcases dec_cases hk h256 with rfl | rfl | rfl
  · obtain ⟨m, rfl, hm⟩ := hR.1 rfl
    obtain ⟨m', u, rfl, hu', hm'⟩ := hW.1 rfl
    obtain ⟨x, rfl⟩ := len_one hk.2.1
    obtain ⟨y, rfl⟩ := len_one hk'.2.1
    have hx := hw x (by simp)
    have hy := hv y (by simp)
    have sx : sext x = (x : Int) := hk.2.2 rfl
    have sy : sext y = (y : Int) := hk'.2.2 rfl
    rw [swv_one hx, swv_one hy, sext_i64 sx, sext_i64 sy] at hu'
    have hm2 : IntKind.u64.wrap (IntKind.i32.wrap (IntKind.i32.wrap (x : Int) * IntKind.i32.wrap (y : Int))) = (m : Int) := hm
    generalize IntKind.i32.wrap (x : Int) * IntKind.i32.wrap (y : Int) = z at *
    have e : IntKind.i32.wrap (u : Int) = IntKind.i32.wrap z := by rw [IntKind.wrap_i32, IntKind.wrap_i32, hu']; omega
    rw [e, hm2] at hm'
    have : m = m' := by omega
    rw [this]
  · obtain ⟨m, rfl, hm⟩ := hR.2.1 rfl
    obtain ⟨hl, hv'⟩ := hW.2 (by decide)
    obtain ⟨m', rfl⟩ := len_one hl
    obtain ⟨x, rfl⟩ := len_one hk.2.1
    obtain ⟨y, rfl⟩ := len_one hk'.2.1
    rw [swv_one (hw x (by simp)), swv_one (hv y (by simp))] at hv'
    have hm2 : IntKind.u64.wrap (IntKind.i64.wrap (IntKind.i64.wrap (x : Int) * IntKind.i64.wrap (y : Int))) = (m : Int) := hm
    generalize IntKind.i64.wrap (x : Int) * IntKind.i64.wrap (y : Int) = z at *
    have e1 : wval [m'] = m' := by simp [wval]
    have e2 : ((2 ^ (64 * nwords 64) : Nat) : Int) = 18446744073709551616 := by decide
    rw [e1, e2] at hv'
    rw [IntKind.wrap_i64, wrap_u64] at hm2
    have : m = m' := by omega
    rw [this]
  · obtain ⟨l, m, hh, q, rfl, hm, hq⟩ := hR.2.2 rfl
    obtain ⟨hl, hv'⟩ := hW.2 (by decide)
    obtain ⟨l', m', rfl⟩ := len_two hl
    obtain ⟨x, x', rfl⟩ := len_two hk.2.1
    obtain ⟨y, y', rfl⟩ := len_two hk'.2.1
    rw [swv_two (hw x' (by simp)), swv_two (hv y' (by simp))] at hv'
    have hq2 : (l : Int) + 18446744073709551616 * hh = ((x : Int) + 18446744073709551616 * IntKind.i64.wrap (x' : Int)) * ((y : Int) + 18446744073709551616 * IntKind.i64.wrap (y' : Int)) + 340282366920938463463374607431768211456 * q := hq
    have hlb := hu l (by simp)
    have hlb' := ht l' (by simp)
    have hmb := hu m (by simp)
    have hmb' := ht m' (by simp)
    refine wval_inj2 hlb hlb' ?_
    have e1 : wval [l, m] = l + 18446744073709551616 * m := by simp [wval]
    have e2 : ((2 ^ (64 * nwords 128) : Nat) : Int) = 340282366920938463463374607431768211456 := by decide
    rw [e2] at hv'
    generalize ((x : Int) + 18446744073709551616 * IntKind.i64.wrap (x' : Int)) * ((y : Int) + 18446744073709551616 * IntKind.i64.wrap (y' : Int)) = z at *
    rw [wrap_u64] at hm
    have h3 : (wval [l, m] : Int) = z % 340282366920938463463374607431768211456 := by rw [e1]; omega
    omega
theorem dec_unit : decOK 128 [1, 0] := ⟨by decide, by decide, fun h => absurd h (by decide)⟩
theorem mul_unit {us : List Nat} (hu : ∀ d ∈ us, d < 18446744073709551616) (h : MulRes 128 [1, 0] [1, 0] us) : us = [1, 0] := by
  obtain ⟨l, m, hh, q, rfl, hm, hq⟩ := h.2.2 rfl
  have hlb := hu l (by simp)
  have hmb := hu m (by simp)
  have e : IntKind.i64.wrap 0 = 0 := by decide
  have hq2 : (l : Int) + 18446744073709551616 * hh = ((1 : Int) + 18446744073709551616 * IntKind.i64.wrap 0) * ((1 : Int) + 18446744073709551616 * IntKind.i64.wrap 0) + 340282366920938463463374607431768211456 * q := hq
  rw [e] at hq2
  rw [wrap_u64] at hm
  have h1 : l = 1 := by omega
  have h2 : m = 0 := by omega
  rw [h1, h2]
theorem decMul_spec {C : Nat → Prop} {w : World} {ad bd : Option Addr} {cap dap : Nat} {ws vs : List Nat} (k : Int) (hx : Sl .u64 18446744073709551616 C w ad cap ws) (hy : Sl .u64 18446744073709551616 C w bd dap vs) (hk : decOK k ws) (hk' : decOK k vs) (h256 : k ≠ 256) :
    Calls P 5 #[.int .i64 k, .slice ad (List.length ws) cap, .slice bd (List.length vs) dap] w fun ex w' => ∃ us wd wc, ex = .returned (.tuple #[.slice wd (List.length us) wc, .bool true]) ∧ Keep (fun b => b < w.heap.size) w w' ∧ Sl .u64 18446744073709551616 (Grow C w w') w' wd wc us ∧ MulRes k ws vs us := by
  rcases dec_cases hk h256 with rfl | rfl | rfl
  · exact (decMul32_spec hx hy hk.2.1 hk'.2.1 (hk.2.2 rfl) (hk'.2.2 rfl)).mono fun ex w' ⟨us, wd, wc, h1, h2, h3, h4⟩ => ⟨us, wd, wc, h1, h2, h3, fun _ => h4, fun h => absurd h (by decide), fun h => absurd h (by decide)⟩
  · exact (decMul64_spec hx hy hk.2.1 hk'.2.1).mono fun ex w' ⟨us, wd, wc, h1, h2, h3, h4⟩ => ⟨us, wd, wc, h1, h2, h3, fun h => absurd h (by decide), fun _ => h4, fun h => absurd h (by decide)⟩
  · exact (decMul128_spec hx hy hk.2.1 hk'.2.1).mono fun ex w' ⟨us, wd, wc, h1, h2, h3, h4⟩ => ⟨us, wd, wc, h1, h2, h3, fun h => absurd h (by decide), fun h => absurd h (by decide), fun _ => h4⟩


set_option maxHeartbeats 4000000 in
set_option maxRecDepth 100000 in
theorem law_spec {C : Nat → Prop} {w : World} {ad bd : Option Addr} {cap dap : Nat} {xs ys : List Nat} (k : Int) (hx : Sl .u64 18446744073709551616 C w ad cap xs) (hy : Sl .u64 18446744073709551616 C w bd dap ys) :
    Calls P 3 #[.int .i64 k, .slice ad xs.length cap, .slice bd ys.length dap] w fun ex w' => ex = .returned (.bool true) ∧ Keep (fun b => b < w.heap.size) w w' := by
  refine doorN (e := e0) (vs := [.v (.int .i64 k), .v (.slice ad xs.length cap), .v (.slice bd ys.length dap)]) (n := 83) (m := 3) Try.func3 rfl rfl rfl (by decide) fun a_ hI => ?_
  replace hI : Is 83 [] e0 [(0, .v (.int .i64 k)), (1, .v (.slice ad xs.length cap)), (2, .v (.slice bd ys.length dap))] a_ := hI
  have hR : Rel (fun b => b < w.heap.size) w e0 [] [] w := Rel.start (fun k hk => hk)
  have hB : Base C w C (fun b => b < w.heap.size) w := Base.start
  have hrx := hx.room; have hmx := hx.max; have hry := hy.room; have hmy := hy.max
  refine reg_seq tab (k := 0) (hs := []) (sy := []) (ks := [0, 1, 2]) (bs := []) (gs := [])
      (L' := [(0, .v (.int .i64 k)), (1, .v (.slice ad xs.length cap)), (2, .v (.slice bd ys.length dap))])
      (H' := []) (G' := []) (k' := 0) hR hI (by kernel_rfl)
      .nil (fun e1 a1 w1 hag hR hI => ?_)
  refine wp_seq ?_
  refine reg_seq tab (k := 0) (hs := [(7, .sym)]) (sy := [4, 5, 6]) (ks := [23, 0, 1, 2]) (bs := []) (gs := [])
      (L' := [(23, .v (.bool ((decide (((xs.length : Nat) : Int) > (2147483647 : Int))) || (decide (((ys.length : Nat) : Int) > (2147483647 : Int)))))), (0, .v (.int .i64 k)), (1, .v (.slice ad xs.length cap)), (2, .v (.slice bd ys.length dap))])
      (H' := []) (G' := []) (k' := 0) hR hI (by kernel_rfl)
      (.cons (rfl : (decide (((xs.length : Nat) : Int) > (2147483647 : Int))) = (decide (((xs.length : Nat) : Int) > (2147483647 : Int)))) (.cons (rfl : (decide (((xs.length : Nat) : Int) > (2147483647 : Int))) = (decide (((xs.length : Nat) : Int) > (2147483647 : Int)))) (.cons (rfl : (decide (((xs.length : Nat) : Int) > (2147483647 : Int))) = (decide (((xs.length : Nat) : Int) > (2147483647 : Int)))) (.cons (by first | exact Bool.beq_true _ | exact Bool.beq_false _ | rfl | simp_all : ((decide (((xs.length : Nat) : Int) > (2147483647 : Int))) == false) = !(decide (((xs.length : Nat) : Int) > (2147483647 : Int)))) .nil)))) (fun e2 a2 w2 hag hR hI => ?_)
  refine cnd (b := ((decide (((xs.length : Nat) : Int) > (2147483647 : Int))) || (decide (((ys.length : Nat) : Int) > (2147483647 : Int))))) hI (by kernel_rfl) (fun hc3 => ?_) (fun hc3 => ?_)
  · skip
    replace hI := hI.re 23 (.v (.bool true)) rfl (congrArg Value.bool hc3)
    try simp only [decide_eq_true_eq, decide_eq_false_iff_not, beq_iff_eq, bne_iff_ne, beq_eq_false_iff_ne, bne_eq_false_iff_eq, Bool.and_eq_true, Bool.and_eq_false_iff, Bool.or_eq_true, Bool.or_eq_false_iff, Bool.not_eq_true', Bool.not_eq_false', ne_eq] at hc3
    refine reg_seq tab (k := 0) (hs := []) (sy := []) (ks := [6]) (bs := []) (gs := [])
        (L' := [(6, .v (.bool true))])
        (H' := []) (G' := []) (k' := 0) hR hI (by kernel_rfl)
        .nil (fun e4 a4 w4 hag hR hI => ?_)
    refine wp_ret ?_
    refine ret_then ?_
    refine outN tab (xs := [.v (.bool true)]) hR hI rfl (by kernel_rfl) ?_
    exact ⟨rfl, hB.fin hR⟩
  · skip
    replace hI := hI.re 23 (.v (.bool false)) rfl (congrArg Value.bool hc3)
    try simp only [decide_eq_true_eq, decide_eq_false_iff_not, beq_iff_eq, bne_iff_ne, beq_eq_false_iff_ne, bne_eq_false_iff_eq, Bool.and_eq_true, Bool.and_eq_false_iff, Bool.or_eq_true, Bool.or_eq_false_iff, Bool.not_eq_true', Bool.not_eq_false', ne_eq] at hc3
    refine wp_skip ?_
    refine then_n ?_
    refine wp_seq ?_
    refine reg (is := [0, 1, 2, 3, 4, 5, 6, 7]) (by kernel_rfl) ?_
    refine callOp (ys := []) hI rfl rfl ⟨_, rfl, rfl, rfl⟩ (by kernel_rfl) Try.func6 rfl rfl ?_
    refine (unit_spec (C := Now hB)).mono ?_
    rintro ex w5 ⟨u1d, u1c, rfl, hk, hu1⟩
    replace hx := hx.next hB hR hk
    replace hy := hy.next hB hR hk
    have hB_ := hB.next hR hk
    replace hR := hR.after hk
    replace hB := hB_; clear hB_ hk
    refine ⟨_, rfl, ?_⟩
    replace hI := hI.put (d := some 25) (x := .v (.slice u1d (List.length [1, 0]) u1c)) (by intro t ht; cases ht; decide) rfl
    replace hI := hI.sel [25, 23, 0, 1, 2] (by kernel_rfl : sel _ _ = some [(25, .v (.slice u1d (List.length [1, 0]) u1c)), (23, .v (.bool false)), (0, .v (.int .i64 k)), (1, .v (.slice ad xs.length cap)), (2, .v (.slice bd ys.length dap))])
    refine callOp (ys := []) hI rfl rfl ⟨_, rfl, rfl, rfl⟩ (by kernel_rfl) Try.func6 rfl rfl ?_
    refine (unit_spec (C := Now hB)).mono ?_
    rintro ex w6 ⟨u2d, u2c, rfl, hk, hu2⟩
    replace hu1 := hu1.next hB hR hk
    replace hx := hx.next hB hR hk
    replace hy := hy.next hB hR hk
    have hB_ := hB.next hR hk
    replace hR := hR.after hk
    replace hB := hB_; clear hB_ hk
    refine ⟨_, rfl, ?_⟩
    replace hI := hI.put (d := some 26) (x := .v (.slice u2d (List.length [1, 0]) u2c)) (by intro t ht; cases ht; decide) rfl
    replace hI := hI.sel [26, 25, 23, 0, 1, 2] (by kernel_rfl : sel _ _ = some [(26, .v (.slice u2d (List.length [1, 0]) u2c)), (25, .v (.slice u1d (List.length [1, 0]) u1c)), (23, .v (.bool false)), (0, .v (.int .i64 k)), (1, .v (.slice ad xs.length cap)), (2, .v (.slice bd ys.length dap))])
    refine callOp (ys := [.v (.int .i64 128), .v (.slice u1d (List.length [1, 0]) u1c), .v (.slice u2d (List.length [1, 0]) u2c)]) hI rfl rfl ⟨_, rfl, rfl, rfl⟩ (by kernel_rfl) Try.func5 rfl rfl ?_
    refine (decMul_spec 128 (hu1.now hB hR) (hu2.now hB hR) dec_unit dec_unit (by decide)).mono ?_
    rintro ex w7 ⟨g, gd, gc, rfl, hk, hg, hgm⟩
    replace hu1 := hu1.next hB hR hk
    replace hu2 := hu2.next hB hR hk
    replace hx := hx.next hB hR hk
    replace hy := hy.next hB hR hk
    have hB_ := hB.next hR hk
    replace hR := hR.after hk
    replace hB := hB_; clear hB_ hk
    have hgu := mul_unit hg.dig hgm
    refine ⟨_, rfl, ?_⟩
    replace hI := hI.put (d := some 27) (x := .v (.tuple #[.slice gd g.length gc, .bool true])) (by intro t ht; cases ht; decide) rfl
    replace hI := hI.sel [27, 26, 25, 23, 0, 1, 2] (by kernel_rfl : sel _ _ = some [(27, .v (.tuple #[.slice gd g.length gc, .bool true])), (26, .v (.slice u2d (List.length [1, 0]) u2c)), (25, .v (.slice u1d (List.length [1, 0]) u1c)), (23, .v (.bool false)), (0, .v (.int .i64 k)), (1, .v (.slice ad xs.length cap)), (2, .v (.slice bd ys.length dap))])
    refine part_ tab [3, 4, 5, 6, 7] [] (by rfl) (k := 0) (hs := []) (sy := []) (ks := [8, 7, 0, 1, 2]) (bs := []) (gs := [])
        (L' := [(8, .v (.bool true)), (7, .v (.slice gd g.length gc)), (0, .v (.int .i64 k)), (1, .v (.slice ad xs.length cap)), (2, .v (.slice bd ys.length dap))])
        (H' := []) (G' := []) (k' := 0) hR hI (by kernel_rfl)
        .nil (fun e8 a8 w8 hag hR hI => ?_)
    refine ops_nil ?_
    refine then_n ?_
    refine wp_seq ?_
    refine reg (is := [0, 1, 2, 3, 4, 5, 6]) (by kernel_rfl) ?_
    refine part_ tab [0, 1, 2] [3, 4, 5, 6] (by rfl) (k := 0) (hs := []) (sy := []) (ks := [32, 31, 0, 1, 2]) (bs := []) (gs := [])
        (L' := [(32, .v (.slice gd g.length gc)), (31, .v (.bool true)), (0, .v (.int .i64 k)), (1, .v (.slice ad xs.length cap)), (2, .v (.slice bd ys.length dap))])
        (H' := []) (G' := []) (k' := 0) hR hI (by kernel_rfl)
        .nil (fun e9 a9 w9 hag hR hI => ?_)
    refine callOp (ys := []) hI rfl rfl ⟨_, rfl, rfl, rfl⟩ (by kernel_rfl) Try.func6 rfl rfl ?_
    refine (unit_spec (C := Now hB)).mono ?_
    rintro ex w10 ⟨u3d, u3c, rfl, hk, hu3⟩
    replace hg := hg.next hB hR hk
    replace hu1 := hu1.next hB hR hk
    replace hu2 := hu2.next hB hR hk
    replace hx := hx.next hB hR hk
    replace hy := hy.next hB hR hk
    have hB_ := hB.next hR hk
    replace hR := hR.after hk
    replace hB := hB_; clear hB_ hk
    refine ⟨_, rfl, ?_⟩
    replace hI := hI.put (d := some 33) (x := .v (.slice u3d (List.length [1, 0]) u3c)) (by intro t ht; cases ht; decide) rfl
    replace hI := hI.sel [33, 32, 31, 0, 1, 2] (by kernel_rfl : sel _ _ = some [(33, .v (.slice u3d (List.length [1, 0]) u3c)), (32, .v (.slice gd g.length gc)), (31, .v (.bool true)), (0, .v (.int .i64 k)), (1, .v (.slice ad xs.length cap)), (2, .v (.slice bd ys.length dap))])
    refine callOp (ys := [.v (.slice gd g.length gc), .v (.slice u3d (List.length [1, 0]) u3c)]) hI rfl rfl ⟨_, rfl, rfl, rfl⟩ (by kernel_rfl) Try.func7 rfl rfl ?_
    refine (sameWords_spec (hg.now hB hR) (hu3.now hB hR)).mono ?_
    rintro ex w11 ⟨b, rfl, hk, hb⟩
    replace hR := hR.same hk; clear hk
    obtain rfl : b = true := hb.2 hgu
    refine ⟨_, rfl, ?_⟩
    replace hI := hI.put (d := some 34) (x := .v (.bool true)) (by intro t ht; cases ht; decide) rfl
    replace hI := hI.sel [34, 33, 32, 31, 0, 1, 2] (by kernel_rfl : sel _ _ = some [(34, .v (.bool true)), (33, .v (.slice u3d (List.length [1, 0]) u3c)), (32, .v (.slice gd g.length gc)), (31, .v (.bool true)), (0, .v (.int .i64 k)), (1, .v (.slice ad xs.length cap)), (2, .v (.slice bd ys.length dap))])
    refine part_ tab [5, 6] [] (by rfl) (k := 0) (hs := []) (sy := []) (ks := [9, 0, 1, 2]) (bs := []) (gs := [])
        (L' := [(9, .v (.bool true)), (0, .v (.int .i64 k)), (1, .v (.slice ad xs.length cap)), (2, .v (.slice bd ys.length dap))])
        (H' := []) (G' := []) (k' := 0) hR hI (by kernel_rfl)
        .nil (fun e12 a12 w12 hag hR hI => ?_)
    refine ops_nil ?_
    refine then_n ?_
    refine wp_seq ?_
    refine reg (is := [0, 1, 2, 3, 4, 5, 6, 7, 8]) (by kernel_rfl) ?_
    refine part_ tab [0, 1] [2, 3, 4, 5, 6, 7, 8] (by rfl) (k := 0) (hs := []) (sy := []) (ks := [38, 37, 9, 0, 1, 2]) (bs := []) (gs := [])
        (L' := [(38, .v (.slice ad xs.length cap)), (37, .v (.int .i64 k)), (9, .v (.bool true)), (0, .v (.int .i64 k)), (1, .v (.slice ad xs.length cap)), (2, .v (.slice bd ys.length dap))])
        (H' := []) (G' := []) (k' := 0) hR hI (by kernel_rfl)
        .nil (fun e13 a13 w13 hag hR hI => ?_)
    refine callOp (ys := [.v (.int .i64 k), .v (.slice ad xs.length cap)]) hI rfl rfl ⟨_, rfl, rfl, rfl⟩ (by kernel_rfl) Try.func8 rfl rfl ?_
    refine (decimal_spec k (hx.now hB hR)).mono ?_
    rintro ex w14 ⟨o1, n1, d1, c1, x1, rfl, hk, z1, h1, hok1, hno1⟩
    replace hg := hg.next hB hR hk
    replace hu1 := hu1.next hB hR hk
    replace hu2 := hu2.next hB hR hk
    replace hu3 := hu3.next hB hR hk
    replace hx := hx.next hB hR hk
    replace hy := hy.next hB hR hk
    have hB_ := hB.next hR hk
    replace hR := hR.after hk
    replace hB := hB_; clear hB_ hk
    refine ⟨_, rfl, ?_⟩
    replace hI := hI.put (d := some 39) (x := .v (.tuple #[.agg #[.bool n1, .slice d1 x1.length c1], .bool o1])) (by intro t ht; cases ht; decide) rfl
    replace hI := hI.sel [39, 38, 37, 9, 0, 1, 2] (by kernel_rfl : sel _ _ = some [(39, .v (.tuple #[.agg #[.bool n1, .slice d1 x1.length c1], .bool o1])), (38, .v (.slice ad xs.length cap)), (37, .v (.int .i64 k)), (9, .v (.bool true)), (0, .v (.int .i64 k)), (1, .v (.slice ad xs.length cap)), (2, .v (.slice bd ys.length dap))])
    refine part_ tab [3, 4, 5, 6, 7, 8] [] (by rfl) (k := 0) (hs := []) (sy := []) (ks := [11, 10, 9, 0, 1, 2]) (bs := [0]) (gs := [])
        (L' := [(11, .v (.bool o1)), (10, .p 0 0), (9, .v (.bool true)), (0, .v (.int .i64 k)), (1, .v (.slice ad xs.length cap)), (2, .v (.slice bd ys.length dap))])
        (H' := [⟨0, 29, [.v (.bool n1), .v (.slice d1 x1.length c1)]⟩]) (G' := []) (k' := 1) hR hI (by kernel_rfl)
        .nil (fun e15 a15 w15 hag hR hI => ?_)
    refine ops_nil ?_
    refine then_n ?_
    refine wp_seq ?_
    refine reg (is := [0, 1, 2, 3, 4, 5, 6, 7, 8]) (by kernel_rfl) ?_
    refine part_ tab [0, 1] [2, 3, 4, 5, 6, 7, 8] (by rfl) (k := 1) (hs := []) (sy := []) (ks := [44, 43, 11, 10, 9, 0, 1, 2]) (bs := [0]) (gs := [])
        (L' := [(44, .v (.slice bd ys.length dap)), (43, .v (.int .i64 k)), (11, .v (.bool o1)), (10, .p 0 0), (9, .v (.bool true)), (0, .v (.int .i64 k)), (1, .v (.slice ad xs.length cap)), (2, .v (.slice bd ys.length dap))])
        (H' := [⟨0, 29, [.v (.bool n1), .v (.slice d1 x1.length c1)]⟩]) (G' := []) (k' := 1) hR hI (by kernel_rfl)
        .nil (fun e16 a16 w16 hag hR hI => ?_)
    refine callOp (ys := [.v (.int .i64 k), .v (.slice bd ys.length dap)]) hI rfl rfl ⟨_, rfl, rfl, rfl⟩ (by kernel_rfl) Try.func8 rfl rfl ?_
    refine (decimal_spec k (hy.now hB hR)).mono ?_
    rintro ex w17 ⟨o2, n2, d2, c2, x2, rfl, hk, z2, h2, hok2, hno2⟩
    replace h1 := h1.next hB hR hk
    replace hg := hg.next hB hR hk
    replace hu1 := hu1.next hB hR hk
    replace hu2 := hu2.next hB hR hk
    replace hu3 := hu3.next hB hR hk
    replace hx := hx.next hB hR hk
    replace hy := hy.next hB hR hk
    have hB_ := hB.next hR hk
    replace hR := hR.after hk
    replace hB := hB_; clear hB_ hk
    refine ⟨_, rfl, ?_⟩
    replace hI := hI.put (d := some 45) (x := .v (.tuple #[.agg #[.bool n2, .slice d2 x2.length c2], .bool o2])) (by intro t ht; cases ht; decide) rfl
    replace hI := hI.sel [45, 44, 43, 11, 10, 9, 0, 1, 2] (by kernel_rfl : sel _ _ = some [(45, .v (.tuple #[.agg #[.bool n2, .slice d2 x2.length c2], .bool o2])), (44, .v (.slice bd ys.length dap)), (43, .v (.int .i64 k)), (11, .v (.bool o1)), (10, .p 0 0), (9, .v (.bool true)), (0, .v (.int .i64 k)), (1, .v (.slice ad xs.length cap)), (2, .v (.slice bd ys.length dap))])
    refine part_ tab [3, 4, 5, 6, 7, 8] [] (by rfl) (k := 1) (hs := []) (sy := []) (ks := [13, 12, 11, 10, 9, 0, 1, 2]) (bs := [1, 0]) (gs := [])
        (L' := [(13, .v (.bool o2)), (12, .p 1 0), (11, .v (.bool o1)), (10, .p 0 0), (9, .v (.bool true)), (0, .v (.int .i64 k)), (1, .v (.slice ad xs.length cap)), (2, .v (.slice bd ys.length dap))])
        (H' := [⟨1, 29, [.v (.bool n2), .v (.slice d2 x2.length c2)]⟩, ⟨0, 29, [.v (.bool n1), .v (.slice d1 x1.length c1)]⟩]) (G' := []) (k' := 2) hR hI (by kernel_rfl)
        .nil (fun e18 a18 w18 hag hR hI => ?_)
    refine ops_nil ?_
    refine then_n ?_
    refine wp_seq ?_
    refine reg_seq tab (k := 2) (hs := [(5, .sym), (9, .sym)]) (sy := [3, 4, 7, 8]) (ks := [57, 12, 10, 9, 0, 1, 2]) (bs := [1, 0]) (gs := [])
        (L' := [(57, .v (.bool (((!o1) || (!o2)) || (k == (256 : Int))))), (12, .p 1 0), (10, .p 0 0), (9, .v (.bool true)), (0, .v (.int .i64 k)), (1, .v (.slice ad xs.length cap)), (2, .v (.slice bd ys.length dap))])
        (H' := [⟨1, 29, [.v (.bool n2), .v (.slice d2 x2.length c2)]⟩, ⟨0, 29, [.v (.bool n1), .v (.slice d1 x1.length c1)]⟩]) (G' := []) (k' := 2) hR hI (by kernel_rfl)
        (.cons (rfl : (!o1) = (!o1)) (.cons (by first | exact Bool.beq_true _ | exact Bool.beq_false _ | rfl | simp_all : ((!o1) == false) = !(!o1)) (.cons (rfl : ((!o1) || (!o2)) = ((!o1) || (!o2))) (.cons (by first | exact Bool.beq_true _ | exact Bool.beq_false _ | rfl | simp_all : (((!o1) || (!o2)) == false) = !((!o1) || (!o2))) .nil)))) (fun e19 a19 w19 hag hR hI => ?_)
    refine cnd (b := (((!o1) || (!o2)) || (k == (256 : Int)))) hI (by kernel_rfl) (fun hc20 => ?_) (fun hc20 => ?_)
    · skip
      replace hI := hI.re 57 (.v (.bool true)) rfl (congrArg Value.bool hc20)
      try simp only [decide_eq_true_eq, decide_eq_false_iff_not, beq_iff_eq, bne_iff_ne, beq_eq_false_iff_ne, bne_eq_false_iff_eq, Bool.and_eq_true, Bool.and_eq_false_iff, Bool.or_eq_true, Bool.or_eq_false_iff, Bool.not_eq_true', Bool.not_eq_false', ne_eq] at hc20
      refine reg_seq tab (k := 2) (hs := []) (sy := []) (ks := [6]) (bs := []) (gs := [])
          (L' := [(6, .v (.bool true))])
          (H' := []) (G' := []) (k' := 2) hR hI (by kernel_rfl)
          .nil (fun e21 a21 w21 hag hR hI => ?_)
      refine wp_ret ?_
      refine ret_then ?_
      refine outN tab (xs := [.v (.bool true)]) hR hI rfl (by kernel_rfl) ?_
      exact ⟨rfl, hB.fin hR⟩
    · skip
      replace hI := hI.re 57 (.v (.bool false)) rfl (congrArg Value.bool hc20)
      try simp only [decide_eq_true_eq, decide_eq_false_iff_not, beq_iff_eq, bne_iff_ne, beq_eq_false_iff_ne, bne_eq_false_iff_eq, Bool.and_eq_true, Bool.and_eq_false_iff, Bool.or_eq_true, Bool.or_eq_false_iff, Bool.not_eq_true', Bool.not_eq_false', ne_eq] at hc20
      obtain ⟨⟨ho1, ho2⟩, h256⟩ := hc20
      obtain ⟨hk1, hz1⟩ := hok1 ho1; obtain ⟨hk2, hz2⟩ := hok2 ho2
      refine wp_skip ?_
      refine then_n ?_
      refine wp_seq ?_
      refine reg (is := [0, 1, 2, 3, 4, 5, 6, 7, 8, 9]) (by kernel_rfl) ?_
      refine part_ tab [0, 1, 2] [3, 4, 5, 6, 7, 8, 9] (by rfl) (k := 2) (hs := []) (sy := []) (ks := [62, 61, 60, 9, 0, 1, 2]) (bs := []) (gs := [])
          (L' := [(62, .agg [.v (.bool n2), .v (.slice d2 x2.length c2)]), (61, .agg [.v (.bool n1), .v (.slice d1 x1.length c1)]), (60, .v (.int .i64 k)), (9, .v (.bool true)), (0, .v (.int .i64 k)), (1, .v (.slice ad xs.length cap)), (2, .v (.slice bd ys.length dap))])
          (H' := []) (G' := []) (k' := 2) hR hI (by kernel_rfl)
          .nil (fun e22 a22 w22 hag hR hI => ?_)
      refine callOp (ys := [.agg [.v (.bool n1), .v (.slice d1 x1.length c1)], .agg [.v (.bool n2), .v (.slice d2 x2.length c2)]]) hI rfl rfl ⟨_, rfl, rfl, rfl⟩ (by kernel_rfl) Try.func10 rfl rfl ?_
      refine (wideMul_spec (h1.now hB hR) (h2.now hB hR) (by decide)).mono ?_
      rintro ex w23 ⟨np, pd, pc, p, rfl, hk, hp⟩
      replace h1 := h1.next hB hR hk
      replace h2 := h2.next hB hR hk
      replace hg := hg.next hB hR hk
      replace hu1 := hu1.next hB hR hk
      replace hu2 := hu2.next hB hR hk
      replace hu3 := hu3.next hB hR hk
      replace hx := hx.next hB hR hk
      replace hy := hy.next hB hR hk
      have hB_ := hB.next hR hk
      replace hR := hR.after hk
      replace hB := hB_; clear hB_ hk
      refine ⟨_, rfl, ?_⟩
      replace hI := hI.put (d := some 63) (x := .v (.agg #[.bool np, .slice pd p.length pc])) (by intro t ht; cases ht; decide) rfl
      replace hI := hI.sel [63, 62, 61, 60, 9, 0, 1, 2] (by kernel_rfl : sel _ _ = some [(63, .v (.agg #[.bool np, .slice pd p.length pc])), (62, .agg [.v (.bool n2), .v (.slice d2 x2.length c2)]), (61, .agg [.v (.bool n1), .v (.slice d1 x1.length c1)]), (60, .v (.int .i64 k)), (9, .v (.bool true)), (0, .v (.int .i64 k)), (1, .v (.slice ad xs.length cap)), (2, .v (.slice bd ys.length dap))])
      refine callOp (ys := [.v (.int .i64 k), .v (.agg #[.bool np, .slice pd p.length pc])]) hI rfl rfl ⟨_, rfl, rfl, rfl⟩ (by kernel_rfl) Try.func9 rfl rfl ?_
      refine (wrapped_spec k hk1.1 (hp.now hB hR) (by decide)).mono ?_
      rintro ex w24 ⟨ts, td, tc, f, rfl, hk, ht, hw⟩
      replace h1 := h1.next hB hR hk
      replace h2 := h2.next hB hR hk
      replace hg := hg.next hB hR hk
      replace hp := hp.next hB hR hk
      replace hu1 := hu1.next hB hR hk
      replace hu2 := hu2.next hB hR hk
      replace hu3 := hu3.next hB hR hk
      replace hx := hx.next hB hR hk
      replace hy := hy.next hB hR hk
      have hB_ := hB.next hR hk
      replace hR := hR.after hk
      replace hB := hB_; clear hB_ hk
      refine ⟨_, rfl, ?_⟩
      replace hI := hI.put (d := some 64) (x := .v (.tuple #[.slice td ts.length tc, .bool f])) (by intro t ht; cases ht; decide) rfl
      replace hI := hI.sel [64, 63, 62, 61, 60, 9, 0, 1, 2] (by kernel_rfl : sel _ _ = some [(64, .v (.tuple #[.slice td ts.length tc, .bool f])), (63, .v (.agg #[.bool np, .slice pd p.length pc])), (62, .agg [.v (.bool n2), .v (.slice d2 x2.length c2)]), (61, .agg [.v (.bool n1), .v (.slice d1 x1.length c1)]), (60, .v (.int .i64 k)), (9, .v (.bool true)), (0, .v (.int .i64 k)), (1, .v (.slice ad xs.length cap)), (2, .v (.slice bd ys.length dap))])
      refine part_ tab [5, 6, 7, 8, 9] [] (by rfl) (k := 2) (hs := []) (sy := []) (ks := [14, 9, 0, 1, 2]) (bs := []) (gs := [])
          (L' := [(14, .v (.slice td ts.length tc)), (9, .v (.bool true)), (0, .v (.int .i64 k)), (1, .v (.slice ad xs.length cap)), (2, .v (.slice bd ys.length dap))])
          (H' := []) (G' := []) (k' := 2) hR hI (by kernel_rfl)
          .nil (fun e25 a25 w25 hag hR hI => ?_)
      refine ops_nil ?_
      refine then_n ?_
      refine wp_seq ?_
      refine reg (is := [0, 1, 2, 3, 4, 5, 6, 7, 8]) (by kernel_rfl) ?_
      refine part_ tab [0, 1, 2] [3, 4, 5, 6, 7, 8] (by rfl) (k := 2) (hs := []) (sy := []) (ks := [70, 69, 68, 14, 9]) (bs := []) (gs := [])
          (L' := [(70, .v (.slice bd ys.length dap)), (69, .v (.slice ad xs.length cap)), (68, .v (.int .i64 k)), (14, .v (.slice td ts.length tc)), (9, .v (.bool true))])
          (H' := []) (G' := []) (k' := 2) hR hI (by kernel_rfl)
          .nil (fun e26 a26 w26 hag hR hI => ?_)
      refine callOp (ys := [.v (.int .i64 k), .v (.slice ad xs.length cap), .v (.slice bd ys.length dap)]) hI rfl rfl ⟨_, rfl, rfl, rfl⟩ (by kernel_rfl) Try.func5 rfl rfl ?_
      refine (decMul_spec k (hx.now hB hR) (hy.now hB hR) hk1 hk2 h256).mono ?_
      rintro ex w27 ⟨us, wd, wc, rfl, hk, hq, hm⟩
      replace h1 := h1.next hB hR hk
      replace h2 := h2.next hB hR hk
      replace hg := hg.next hB hR hk
      replace hp := hp.next hB hR hk
      replace ht := ht.next hB hR hk
      replace hu1 := hu1.next hB hR hk
      replace hu2 := hu2.next hB hR hk
      replace hu3 := hu3.next hB hR hk
      replace hx := hx.next hB hR hk
      replace hy := hy.next hB hR hk
      have hB_ := hB.next hR hk
      replace hR := hR.after hk
      replace hB := hB_; clear hB_ hk
      refine ⟨_, rfl, ?_⟩
      replace hI := hI.put (d := some 71) (x := .v (.tuple #[.slice wd us.length wc, .bool true])) (by intro t ht; cases ht; decide) rfl
      replace hI := hI.sel [71, 70, 69, 68, 14, 9] (by kernel_rfl : sel _ _ = some [(71, .v (.tuple #[.slice wd us.length wc, .bool true])), (70, .v (.slice bd ys.length dap)), (69, .v (.slice ad xs.length cap)), (68, .v (.int .i64 k)), (14, .v (.slice td ts.length tc)), (9, .v (.bool true))])
      refine part_ tab [4, 5, 6, 7, 8] [] (by rfl) (k := 2) (hs := []) (sy := []) (ks := [8, 7, 14, 9]) (bs := []) (gs := [])
          (L' := [(8, .v (.bool true)), (7, .v (.slice wd us.length wc)), (14, .v (.slice td ts.length tc)), (9, .v (.bool true))])
          (H' := []) (G' := []) (k' := 2) hR hI (by kernel_rfl)
          .nil (fun e28 a28 w28 hag hR hI => ?_)
      refine ops_nil ?_
      refine then_n ?_
      refine wp_seq ?_
      refine reg (is := [0, 1, 2, 3, 4, 5, 6, 7, 8, 9]) (by kernel_rfl) ?_
      refine part_ tab [0, 1, 2, 3] [4, 5, 6, 7, 8, 9] (by rfl) (k := 2) (hs := []) (sy := []) (ks := [77, 76, 75, 9]) (bs := []) (gs := [])
          (L' := [(77, .v (.slice td ts.length tc)), (76, .v (.slice wd us.length wc)), (75, .v (.bool true)), (9, .v (.bool true))])
          (H' := []) (G' := []) (k' := 2) hR hI (by kernel_rfl)
          .nil (fun e29 a29 w29 hag hR hI => ?_)
      refine callOp (ys := [.v (.slice wd us.length wc), .v (.slice td ts.length tc)]) hI rfl rfl ⟨_, rfl, rfl, rfl⟩ (by kernel_rfl) Try.func7 rfl rfl ?_
      refine (sameWords_spec (hq.now hB hR) (ht.now hB hR)).mono ?_
      rintro ex w30 ⟨b, rfl, hk, hb⟩
      replace hR := hR.same hk; clear hk
      rw [hz1, hz2] at hw
      obtain rfl : b = true := hb.2 (mul_law hk1 hk2 h256 hx.dig hy.dig hq.dig ht.dig hm hw)
      refine ⟨_, rfl, ?_⟩
      replace hI := hI.put (d := some 78) (x := .v (.bool true)) (by intro t ht; cases ht; decide) rfl
      replace hI := hI.sel [78, 77, 76, 75, 9] (by kernel_rfl : sel _ _ = some [(78, .v (.bool true)), (77, .v (.slice td ts.length tc)), (76, .v (.slice wd us.length wc)), (75, .v (.bool true)), (9, .v (.bool true))])
      refine part_ tab [5, 6, 7, 8, 9] [] (by rfl) (k := 2) (hs := []) (sy := []) (ks := [6]) (bs := []) (gs := [])
          (L' := [(6, .v (.bool true))])
          (H' := []) (G' := []) (k' := 2) hR hI (by kernel_rfl)
          .nil (fun e31 a31 w31 hag hR hI => ?_)
      refine ops_nil ?_
      refine then_n ?_
      refine wp_ret ?_
      refine outN tab (xs := [.v (.bool true)]) hR hI rfl (by kernel_rfl) ?_
      exact ⟨rfl, hB.fin hR⟩

end Go.Proofs.Yteipgknmhpilfaa.Stride
