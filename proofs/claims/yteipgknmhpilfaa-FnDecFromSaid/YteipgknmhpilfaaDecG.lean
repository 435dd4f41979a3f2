/- Walks of the program's functions, printed by a program of mine (walk.py) over the words of Stride: each function's contract. -/
import Derived.Test.YteipgknmhpilfaaDecF
namespace Go.Proofs.Yteipgknmhpilfaa.Stride
open Go Go.RowKit Go.Proofs.Yteipgknmhpilfaa.Mag
set_option linter.unusedVariables false
set_option linter.unusedSimpArgs false
theorem decFrom_spec {C : Nat → Prop} {w : World} {n : Nat} (k : Int) (sgn by128 : Bool) (hn : n < 18446744073709551616) (h : (k = 128 ∧ by128 = false) ∨ k = 256) :
    Calls P 11 #[.int .i64 k, .int .u64 ((n : Nat) : Int), .bool sgn, .bool by128] w fun ex w' => ∃ us wd wc, ex = .returned (.tuple #[.slice wd (List.length us) wc, .bool true]) ∧ Keep (fun b => b < w.heap.size) w w' ∧ Sl .u64 18446744073709551616 (Grow C w w') w' wd wc us ∧ Tells k (fromV n sgn) us := by
  rcases h with ⟨rfl, rfl⟩ | rfl
  · cases sgn
    · exact decFrom128u_spec hn
    · exact decFrom128s_spec hn
  · cases sgn <;> cases by128
    · exact decFrom256u_spec hn
    · exact decFrom256ub_spec hn
    · exact decFrom256s_spec hn
    · exact decFrom256sb_spec hn
theorem okw_of {k : Int} {b : Bool} (h : (k = 128 ∧ b = false) ∨ k = 256) : okw k = true ∧ k ≠ 32 := by
  rcases h with ⟨rfl, _⟩ | rfl <;> exact ⟨by decide, by decide⟩


set_option maxHeartbeats 4000000 in
set_option maxRecDepth 100000 in
theorem lawFrom_spec {w : World} {C : Nat → Prop} {n : Nat} (k : Int) (sgn by128 : Bool) (hn : n < 18446744073709551616) :
    Calls P 4 #[.int .i64 k, .int .u64 ((n : Nat) : Int), .bool sgn, .bool by128] w fun ex w' => ex = .returned (.bool true) ∧ Keep (fun b => b < w.heap.size) w w' := by
  refine doorN (e := e0) (vs := [.v (.int .i64 k), .v (.int .u64 ((n : Nat) : Int)), .v (.bool sgn), .v (.bool by128)]) (n := 70) (m := 4) Try.func4 rfl rfl rfl (by decide) fun a_ hI => ?_
  replace hI : Is 70 [] e0 [(0, .v (.int .i64 k)), (1, .v (.int .u64 ((n : Nat) : Int))), (2, .v (.bool sgn)), (3, .v (.bool by128))] a_ := hI
  have hR : Rel (fun b => b < w.heap.size) w e0 [] [] w := Rel.start (fun k hk => hk)
  have hB : Base C w C (fun b => b < w.heap.size) w := Base.start
  refine reg_seq tab (k := 0) (hs := []) (sy := []) (ks := [0, 1, 2, 3]) (bs := []) (gs := [])
      (L' := [(0, .v (.int .i64 k)), (1, .v (.int .u64 ((n : Nat) : Int))), (2, .v (.bool sgn)), (3, .v (.bool by128))])
      (H' := []) (G' := []) (k' := 0) hR hI (by kernel_rfl)
      .nil (fun e1 a1 w1 hag hR hI => ?_)
  refine wp_seq ?_
  refine reg (is := [0, 1, 2, 3, 4, 5]) (by kernel_rfl) ?_
  refine callOp (ys := [.v (.int .i64 128), .v (.int .u64 2), .v (.bool true), .v (.bool false)]) hI rfl rfl ⟨_, rfl, rfl, rfl⟩ (by kernel_rfl) Try.func11 rfl rfl ?_
  refine (decFrom_spec (C := Now hB) (n := 2) 128 true false (by decide) (.inl ⟨rfl, rfl⟩)).mono ?_
  rintro ex w2 ⟨g, gd, gc, rfl, hk, hg, hgm⟩
  have hB_ := hB.next hR hk
  replace hR := hR.after hk
  replace hB := hB_; clear hB_ hk
  have hgu := from_two hg.dig hgm
  refine ⟨_, rfl, ?_⟩
  replace hI := hI.put (d := some 18) (x := .v (.tuple #[.slice gd g.length gc, .bool true])) (by intro t ht; cases ht; decide) rfl
  replace hI := hI.sel [18, 0, 1, 2, 3] (by kernel_rfl : sel _ _ = some [(18, .v (.tuple #[.slice gd g.length gc, .bool true])), (0, .v (.int .i64 k)), (1, .v (.int .u64 ((n : Nat) : Int))), (2, .v (.bool sgn)), (3, .v (.bool by128))])
  refine part_ tab [1, 2, 3, 4, 5] [] (by rfl) (k := 0) (hs := []) (sy := []) (ks := [10, 9, 0, 1, 2, 3]) (bs := []) (gs := [])
      (L' := [(10, .v (.bool true)), (9, .v (.slice gd g.length gc)), (0, .v (.int .i64 k)), (1, .v (.int .u64 ((n : Nat) : Int))), (2, .v (.bool sgn)), (3, .v (.bool by128))])
      (H' := []) (G' := []) (k' := 0) hR hI (by kernel_rfl)
      .nil (fun e3 a3 w3 hag hR hI => ?_)
  refine ops_nil ?_
  refine then_n ?_
  refine wp_seq ?_
  refine reg (is := [0, 1, 2, 3, 4, 5, 6]) (by kernel_rfl) ?_
  refine part_ tab [0, 1, 2, 3] [4, 5, 6] (by rfl) (k := 0) (hs := []) (sy := []) (ks := [24, 23, 22, 0, 1, 2, 3]) (bs := [0]) (gs := [])
      (L' := [(24, .sl 0 0 2 2), (23, .v (.slice gd g.length gc)), (22, .v (.bool true)), (0, .v (.int .i64 k)), (1, .v (.int .u64 ((n : Nat) : Int))), (2, .v (.bool sgn)), (3, .v (.bool by128))])
      (H' := [⟨0, 35, [.v (.int .u64 2), .v (.int .u64 0)]⟩]) (G' := []) (k' := 1) hR hI (by kernel_rfl)
      .nil (fun e4 a4 w4 hag hR hI => ?_)
  obtain ⟨e5, hag_, hr_, hR_⟩ := hR.litRow (L := [(24, .sl 0 0 2 2), (23, .v (.slice gd g.length gc)), (22, .v (.bool true)), (0, .v (.int .i64 k)), (1, .v (.int .u64 ((n : Nat) : Int))), (2, .v (.bool sgn)), (3, .v (.bool by128))]) 1 [] (by kernel_rfl) (b := ⟨0, 35, [.v (.int .u64 2), .v (.int .u64 0)]⟩) (by simp) (by simp) (n := 2) (sz := 1) (xs := ints .u64 [2, 0]) rfl rfl (by decide)
  replace hI := hI.agreeB (H := []) (G := []) (by kernel_rfl) hag_; replace hR := hR_; replace hI := hI.re 24 (.row 1) rfl hr_.symm; clear hag_ hr_ hR_
  obtain ⟨hB_, hR_, hrel_, ud, uc, hv_, hcells_, hlen_, hcap_, hmax_⟩ := hB.release hR (y := ⟨1, 35, 1, 2, (ints .u64 [2, 0])⟩) (by simp) rfl _ dropN_mem
  replace hg := hg.rel hrel_
  have hu : Sl .u64 18446744073709551616 _ _ ud uc [2, 0] := ⟨hcells_, (dig64_2 (by decide) (by decide)), (by dsimp only at hlen_ hcap_; rw [ints_length] at hlen_; omega), hmax_⟩
  replace hI := hI.re 24 (.v (.slice ud 2 uc)) rfl hv_
  replace hB := hB_; replace hR := hR_.sel [] [] (by kernel_rfl : selH _ _ = some []) (by kernel_rfl : selG _ _ = some []); clear hB_ hR_ hrel_ hcells_ hv_
  refine callOp (ys := [.v (.slice gd g.length gc), .v (.slice ud 2 uc)]) hI rfl rfl ⟨_, rfl, rfl, rfl⟩ (by kernel_rfl) Try.func7 rfl rfl ?_
  refine (sameWords_spec (hg.now hB hR) (hu.now hB hR)).mono ?_
  rintro ex w6 ⟨b, rfl, hk, hb⟩
  replace hR := hR.same hk; clear hk
  obtain rfl : b = true := hb.2 hgu
  refine ⟨_, rfl, ?_⟩
  replace hI := hI.put (d := some 25) (x := .v (.bool true)) (by intro t ht; cases ht; decide) rfl
  replace hI := hI.sel [25, 24, 23, 22, 0, 1, 2, 3] (by kernel_rfl : sel _ _ = some [(25, .v (.bool true)), (24, .v (.slice ud 2 uc)), (23, .v (.slice gd g.length gc)), (22, .v (.bool true)), (0, .v (.int .i64 k)), (1, .v (.int .u64 ((n : Nat) : Int))), (2, .v (.bool sgn)), (3, .v (.bool by128))])
  refine part_ tab [5, 6] [] (by rfl) (k := 2) (hs := []) (sy := []) (ks := [11, 0, 1, 2, 3]) (bs := []) (gs := [])
      (L' := [(11, .v (.bool true)), (0, .v (.int .i64 k)), (1, .v (.int .u64 ((n : Nat) : Int))), (2, .v (.bool sgn)), (3, .v (.bool by128))])
      (H' := []) (G' := []) (k' := 2) hR hI (by kernel_rfl)
      .nil (fun e7 a7 w7 hag hR hI => ?_)
  refine ops_nil ?_
  refine then_n ?_
  refine wp_seq ?_
  refine reg_seq tab (k := 2) (hs := [(5, .sym), (11, .sym), (12, .sym)]) (sy := [3, 4, 7, 8, 9, 10, 11]) (ks := [39, 11, 0, 1, 2, 3]) (bs := []) (gs := [])
      (L' := [(39, .v (.bool (((k != (128 : Int)) && (k != (256 : Int))) || (by128 && (k != (256 : Int)))))), (11, .v (.bool true)), (0, .v (.int .i64 k)), (1, .v (.int .u64 ((n : Nat) : Int))), (2, .v (.bool sgn)), (3, .v (.bool by128))])
      (H' := []) (G' := []) (k' := 2) hR hI (by kernel_rfl)
      (.cons (rfl : (k != (128 : Int)) = (k != (128 : Int))) (.cons (by first | exact Bool.beq_true _ | exact Bool.beq_false _ | rfl | simp_all : ((k != (128 : Int)) == true) = (k != (128 : Int))) (.cons (rfl : ((k != (128 : Int)) && (k != (256 : Int))) = ((k != (128 : Int)) && (k != (256 : Int)))) (.cons (rfl : ((((k != (128 : Int)) && (k != (256 : Int))) == false) && (by128 == true)) = ((((k != (128 : Int)) && (k != (256 : Int))) == false) && (by128 == true))) (.cons (rfl : ((k != (128 : Int)) && (k != (256 : Int))) = ((k != (128 : Int)) && (k != (256 : Int)))) (.cons (rfl : ((k != (128 : Int)) && (k != (256 : Int))) = ((k != (128 : Int)) && (k != (256 : Int)))) (.cons (fun (hg : (((k != (128 : Int)) && (k != (256 : Int))) == false) = true) => (by skip; first | exact Bool.beq_true _ | exact Bool.beq_false _ | rfl | simp_all : (((((k != (128 : Int)) && (k != (256 : Int))) == false) && (by128 == true)) == true) = by128)) (.cons (by first | exact Bool.beq_true _ | exact Bool.beq_false _ | rfl | simp_all : (((k != (128 : Int)) && (k != (256 : Int))) == false) = !((k != (128 : Int)) && (k != (256 : Int)))) .nil)))))))) (fun e8 a8 w8 hag hR hI => ?_)
  refine cnd (b := (((k != (128 : Int)) && (k != (256 : Int))) || (by128 && (k != (256 : Int))))) hI (by kernel_rfl) (fun hc9 => ?_) (fun hc9 => ?_)
  · skip
    replace hI := hI.re 39 (.v (.bool true)) rfl (congrArg Value.bool hc9)
    refine reg_seq tab (k := 2) (hs := []) (sy := []) (ks := [8]) (bs := []) (gs := [])
        (L' := [(8, .v (.bool true))])
        (H' := []) (G' := []) (k' := 2) hR hI (by kernel_rfl)
        .nil (fun e10 a10 w10 hag hR hI => ?_)
    refine wp_ret ?_
    refine ret_then ?_
    refine outN tab (xs := [.v (.bool true)]) hR hI rfl (by kernel_rfl) ?_
    exact ⟨rfl, hB.fin hR⟩
  · skip
    replace hI := hI.re 39 (.v (.bool false)) rfl (congrArg Value.bool hc9)
    have hfr := from_ok hc9; have hok := okw_of hfr
    refine wp_skip ?_
    refine then_n ?_
    refine wp_seq ?_
    refine reg (is := [0, 1, 2, 3]) (by kernel_rfl) ?_
    refine part_ tab [0] [1, 2, 3] (by rfl) (k := 2) (hs := []) (sy := []) (ks := [41, 11, 0, 1, 2, 3]) (bs := []) (gs := [])
        (L' := [(41, .v (.int .u64 ((n : Nat) : Int))), (11, .v (.bool true)), (0, .v (.int .i64 k)), (1, .v (.int .u64 ((n : Nat) : Int))), (2, .v (.bool sgn)), (3, .v (.bool by128))])
        (H' := []) (G' := []) (k' := 2) hR hI (by kernel_rfl)
        .nil (fun e11 a11 w11 hag hR hI => ?_)
    refine callOp (ys := [.v (.int .u64 ((n : Nat) : Int))]) hI rfl rfl ⟨_, rfl, rfl, rfl⟩ (by kernel_rfl) Try.func12 rfl rfl ?_
    refine (wideUint_spec (C := Now hB) hn).mono ?_
    rintro ex w12 ⟨n1, d1, c1, x1, rfl, hk, h1⟩
    replace hg := hg.next hB hR hk
    replace hu := hu.next hB hR hk
    have hB_ := hB.next hR hk
    replace hR := hR.after hk
    replace hB := hB_; clear hB_ hk
    refine ⟨_, rfl, ?_⟩
    replace hI := hI.put (d := some 42) (x := .v (.agg #[.bool n1, .slice d1 x1.length c1])) (by intro t ht; cases ht; decide) rfl
    replace hI := hI.sel [42, 41, 11, 0, 1, 2, 3] (by kernel_rfl : sel _ _ = some [(42, .v (.agg #[.bool n1, .slice d1 x1.length c1])), (41, .v (.int .u64 ((n : Nat) : Int))), (11, .v (.bool true)), (0, .v (.int .i64 k)), (1, .v (.int .u64 ((n : Nat) : Int))), (2, .v (.bool sgn)), (3, .v (.bool by128))])
    refine part_ tab [2, 3] [] (by rfl) (k := 2) (hs := []) (sy := []) (ks := [12, 11, 0, 1, 2, 3]) (bs := [2]) (gs := [])
        (L' := [(12, .p 2 0), (11, .v (.bool true)), (0, .v (.int .i64 k)), (1, .v (.int .u64 ((n : Nat) : Int))), (2, .v (.bool sgn)), (3, .v (.bool by128))])
        (H' := [⟨2, 29, [.v (.bool n1), .v (.slice d1 x1.length c1)]⟩]) (G' := []) (k' := 3) hR hI (by kernel_rfl)
        .nil (fun e13 a13 w13 hag hR hI => ?_)
    refine ops_nil ?_
    refine then_n ?_
    refine wp_seq ?_
    refine reg_seq tab (k := 3) (hs := []) (sy := []) (ks := [43, 12, 11, 0, 1, 2, 3]) (bs := [2]) (gs := [])
        (L' := [(43, .v (.bool sgn)), (12, .p 2 0), (11, .v (.bool true)), (0, .v (.int .i64 k)), (1, .v (.int .u64 ((n : Nat) : Int))), (2, .v (.bool sgn)), (3, .v (.bool by128))])
        (H' := [⟨2, 29, [.v (.bool n1), .v (.slice d1 x1.length c1)]⟩]) (G' := []) (k' := 3) hR hI (by kernel_rfl)
        .nil (fun e14 a14 w14 hag hR hI => ?_)
    refine cnd (b := sgn) hI (by kernel_rfl) (fun hc15 => ?_) (fun hc15 => ?_)
    · skip
      replace hI := hI.re 43 (.v (.bool true)) rfl (congrArg Value.bool hc15)
      replace hI := hI.re 2 (.v (.bool true)) rfl (congrArg Value.bool hc15)
      refine reg (is := [0, 1, 2, 3]) (by kernel_rfl) ?_
      refine part_ tab [0, 1] [2, 3] (by rfl) (k := 3) (hs := []) (sy := []) (ks := [45, 2, 12, 11, 0, 1, 3]) (bs := [2]) (gs := [])
          (L' := [(45, .v (.int .i64 (IntKind.i64.wrap ((n : Nat) : Int)))), (2, .v (.bool true)), (12, .p 2 0), (11, .v (.bool true)), (0, .v (.int .i64 k)), (1, .v (.int .u64 ((n : Nat) : Int))), (3, .v (.bool by128))])
          (H' := [⟨2, 29, [.v (.bool n1), .v (.slice d1 x1.length c1)]⟩]) (G' := []) (k' := 3) hR hI (by kernel_rfl)
          .nil (fun e16 a16 w16 hag hR hI => ?_)
      refine callOp (ys := [.v (.int .i64 (IntKind.i64.wrap ((n : Nat) : Int)))]) hI rfl rfl ⟨_, rfl, rfl, rfl⟩ (by kernel_rfl) Try.func13 rfl rfl ?_
      refine (wideInt_spec (C := Now hB) (i64_in _)).mono ?_
      rintro ex w17 ⟨n2, d2, c2, x2, rfl, hk, h2⟩
      replace h1 := h1.next hB hR hk
      replace hg := hg.next hB hR hk
      replace hu := hu.next hB hR hk
      have hB_ := hB.next hR hk
      replace hR := hR.after hk
      replace hB := hB_; clear hB_ hk
      refine ⟨_, rfl, ?_⟩
      replace hI := hI.put (d := some 46) (x := .v (.agg #[.bool n2, .slice d2 x2.length c2])) (by intro t ht; cases ht; decide) rfl
      replace hI := hI.sel [46, 45, 2, 12, 11, 0, 1, 3] (by kernel_rfl : sel _ _ = some [(46, .v (.agg #[.bool n2, .slice d2 x2.length c2])), (45, .v (.int .i64 (IntKind.i64.wrap ((n : Nat) : Int)))), (2, .v (.bool true)), (12, .p 2 0), (11, .v (.bool true)), (0, .v (.int .i64 k)), (1, .v (.int .u64 ((n : Nat) : Int))), (3, .v (.bool by128))])
      refine part_ tab [3] [] (by rfl) (k := 3) (hs := []) (sy := []) (ks := [2, 12, 11, 0, 1, 3]) (bs := [2]) (gs := [])
          (L' := [(2, .v (.bool true)), (12, .p 2 0), (11, .v (.bool true)), (0, .v (.int .i64 k)), (1, .v (.int .u64 ((n : Nat) : Int))), (3, .v (.bool by128))])
          (H' := [⟨2, 29, [.v (.bool n2), .v (.slice d2 x2.length c2)]⟩]) (G' := []) (k' := 3) hR hI (by kernel_rfl)
          .nil (fun e18 a18 w18 hag hR hI => ?_)
      refine ops_nil ?_
      refine then_n ?_
      refine wp_seq ?_
      refine reg (is := [0, 1, 2, 3, 4, 5, 6, 7]) (by kernel_rfl) ?_
      refine part_ tab [0, 1] [2, 3, 4, 5, 6, 7] (by rfl) (k := 3) (hs := []) (sy := []) (ks := [49, 48, 2, 11, 0, 1, 3]) (bs := []) (gs := [])
          (L' := [(49, .agg [.v (.bool n2), .v (.slice d2 x2.length c2)]), (48, .v (.int .i64 k)), (2, .v (.bool true)), (11, .v (.bool true)), (0, .v (.int .i64 k)), (1, .v (.int .u64 ((n : Nat) : Int))), (3, .v (.bool by128))])
          (H' := []) (G' := []) (k' := 3) hR hI (by kernel_rfl)
          .nil (fun e19 a19 w19 hag hR hI => ?_)
      refine callOp (ys := [.v (.int .i64 k), .agg [.v (.bool n2), .v (.slice d2 x2.length c2)]]) hI rfl rfl ⟨_, rfl, rfl, rfl⟩ (by kernel_rfl) Try.func9 rfl rfl ?_
      refine (wrapped_spec k hok.1 (h2.now hB hR) (by decide)).mono ?_
      rintro ex w20 ⟨ts, td, tc, f, rfl, hk, ht, hw⟩
      replace h1 := h1.next hB hR hk
      replace h2 := h2.next hB hR hk
      replace hg := hg.next hB hR hk
      replace hu := hu.next hB hR hk
      have hB_ := hB.next hR hk
      replace hR := hR.after hk
      replace hB := hB_; clear hB_ hk
      refine ⟨_, rfl, ?_⟩
      replace hI := hI.put (d := some 50) (x := .v (.tuple #[.slice td ts.length tc, .bool f])) (by intro t ht; cases ht; decide) rfl
      replace hI := hI.sel [50, 49, 48, 2, 11, 0, 1, 3] (by kernel_rfl : sel _ _ = some [(50, .v (.tuple #[.slice td ts.length tc, .bool f])), (49, .agg [.v (.bool n2), .v (.slice d2 x2.length c2)]), (48, .v (.int .i64 k)), (2, .v (.bool true)), (11, .v (.bool true)), (0, .v (.int .i64 k)), (1, .v (.int .u64 ((n : Nat) : Int))), (3, .v (.bool by128))])
      refine part_ tab [3, 4, 5, 6, 7] [] (by rfl) (k := 3) (hs := []) (sy := []) (ks := [13, 2, 11, 0, 1, 3]) (bs := []) (gs := [])
          (L' := [(13, .v (.slice td ts.length tc)), (2, .v (.bool true)), (11, .v (.bool true)), (0, .v (.int .i64 k)), (1, .v (.int .u64 ((n : Nat) : Int))), (3, .v (.bool by128))])
          (H' := []) (G' := []) (k' := 3) hR hI (by kernel_rfl)
          .nil (fun e21 a21 w21 hag hR hI => ?_)
      refine ops_nil ?_
      refine then_n ?_
      refine wp_seq ?_
      refine reg (is := [0, 1, 2, 3, 4, 5, 6, 7, 8, 9]) (by kernel_rfl) ?_
      refine part_ tab [0, 1, 2, 3] [4, 5, 6, 7, 8, 9] (by rfl) (k := 3) (hs := []) (sy := []) (ks := [57, 56, 55, 54, 13, 11]) (bs := []) (gs := [])
          (L' := [(57, .v (.bool by128)), (56, .v (.bool true)), (55, .v (.int .u64 ((n : Nat) : Int))), (54, .v (.int .i64 k)), (13, .v (.slice td ts.length tc)), (11, .v (.bool true))])
          (H' := []) (G' := []) (k' := 3) hR hI (by kernel_rfl)
          .nil (fun e22 a22 w22 hag hR hI => ?_)
      refine callOp (ys := [.v (.int .i64 k), .v (.int .u64 ((n : Nat) : Int)), .v (.bool true), .v (.bool by128)]) hI rfl rfl ⟨_, rfl, rfl, rfl⟩ (by kernel_rfl) Try.func11 rfl rfl ?_
      refine (decFrom_spec (C := Now hB) k true by128 hn hfr).mono ?_
      rintro ex w23 ⟨us, wd, wc, rfl, hk, hq, hm⟩
      replace h1 := h1.next hB hR hk
      replace h2 := h2.next hB hR hk
      replace hg := hg.next hB hR hk
      replace ht := ht.next hB hR hk
      replace hu := hu.next hB hR hk
      have hB_ := hB.next hR hk
      replace hR := hR.after hk
      replace hB := hB_; clear hB_ hk
      refine ⟨_, rfl, ?_⟩
      replace hI := hI.put (d := some 58) (x := .v (.tuple #[.slice wd us.length wc, .bool true])) (by intro t ht; cases ht; decide) rfl
      replace hI := hI.sel [58, 57, 56, 55, 54, 13, 11] (by kernel_rfl : sel _ _ = some [(58, .v (.tuple #[.slice wd us.length wc, .bool true])), (57, .v (.bool by128)), (56, .v (.bool true)), (55, .v (.int .u64 ((n : Nat) : Int))), (54, .v (.int .i64 k)), (13, .v (.slice td ts.length tc)), (11, .v (.bool true))])
      refine part_ tab [5, 6, 7, 8, 9] [] (by rfl) (k := 3) (hs := []) (sy := []) (ks := [16, 15, 13, 11]) (bs := []) (gs := [])
          (L' := [(16, .v (.bool true)), (15, .v (.slice wd us.length wc)), (13, .v (.slice td ts.length tc)), (11, .v (.bool true))])
          (H' := []) (G' := []) (k' := 3) hR hI (by kernel_rfl)
          .nil (fun e24 a24 w24 hag hR hI => ?_)
      refine ops_nil ?_
      refine then_n ?_
      refine wp_seq ?_
      refine reg (is := [0, 1, 2, 3, 4, 5, 6, 7, 8, 9]) (by kernel_rfl) ?_
      refine part_ tab [0, 1, 2, 3] [4, 5, 6, 7, 8, 9] (by rfl) (k := 3) (hs := []) (sy := []) (ks := [64, 63, 62, 11]) (bs := []) (gs := [])
          (L' := [(64, .v (.slice td ts.length tc)), (63, .v (.slice wd us.length wc)), (62, .v (.bool true)), (11, .v (.bool true))])
          (H' := []) (G' := []) (k' := 3) hR hI (by kernel_rfl)
          .nil (fun e25 a25 w25 hag hR hI => ?_)
      refine callOp (ys := [.v (.slice wd us.length wc), .v (.slice td ts.length tc)]) hI rfl rfl ⟨_, rfl, rfl, rfl⟩ (by kernel_rfl) Try.func7 rfl rfl ?_
      refine (sameWords_spec (hq.now hB hR) (ht.now hB hR)).mono ?_
      rintro ex w26 ⟨b, rfl, hk, hb⟩
      replace hR := hR.same hk; clear hk
      obtain rfl : b = true := hb.2 (from_law hok.2 hq.dig ht.dig hm hw)
      refine ⟨_, rfl, ?_⟩
      replace hI := hI.put (d := some 65) (x := .v (.bool true)) (by intro t ht; cases ht; decide) rfl
      replace hI := hI.sel [65, 64, 63, 62, 11] (by kernel_rfl : sel _ _ = some [(65, .v (.bool true)), (64, .v (.slice td ts.length tc)), (63, .v (.slice wd us.length wc)), (62, .v (.bool true)), (11, .v (.bool true))])
      refine part_ tab [5, 6, 7, 8, 9] [] (by rfl) (k := 3) (hs := []) (sy := []) (ks := [8]) (bs := []) (gs := [])
          (L' := [(8, .v (.bool true))])
          (H' := []) (G' := []) (k' := 3) hR hI (by kernel_rfl)
          .nil (fun e27 a27 w27 hag hR hI => ?_)
      refine ops_nil ?_
      refine then_n ?_
      refine wp_ret ?_
      refine outN tab (xs := [.v (.bool true)]) hR hI rfl (by kernel_rfl) ?_
      exact ⟨rfl, hB.fin hR⟩
    · skip
      replace hI := hI.re 43 (.v (.bool false)) rfl (congrArg Value.bool hc15)
      replace hI := hI.re 2 (.v (.bool false)) rfl (congrArg Value.bool hc15)
      refine wp_skip ?_
      refine then_n ?_
      refine wp_seq ?_
      refine reg (is := [0, 1, 2, 3, 4, 5, 6, 7]) (by kernel_rfl) ?_
      refine part_ tab [0, 1] [2, 3, 4, 5, 6, 7] (by rfl) (k := 3) (hs := []) (sy := []) (ks := [49, 48, 2, 11, 0, 1, 3]) (bs := []) (gs := [])
          (L' := [(49, .agg [.v (.bool n1), .v (.slice d1 x1.length c1)]), (48, .v (.int .i64 k)), (2, .v (.bool false)), (11, .v (.bool true)), (0, .v (.int .i64 k)), (1, .v (.int .u64 ((n : Nat) : Int))), (3, .v (.bool by128))])
          (H' := []) (G' := []) (k' := 3) hR hI (by kernel_rfl)
          .nil (fun e28 a28 w28 hag hR hI => ?_)
      refine callOp (ys := [.v (.int .i64 k), .agg [.v (.bool n1), .v (.slice d1 x1.length c1)]]) hI rfl rfl ⟨_, rfl, rfl, rfl⟩ (by kernel_rfl) Try.func9 rfl rfl ?_
      refine (wrapped_spec k hok.1 (h1.now hB hR) (by decide)).mono ?_
      rintro ex w29 ⟨ts, td, tc, f, rfl, hk, ht, hw⟩
      replace h1 := h1.next hB hR hk
      replace hg := hg.next hB hR hk
      replace hu := hu.next hB hR hk
      have hB_ := hB.next hR hk
      replace hR := hR.after hk
      replace hB := hB_; clear hB_ hk
      refine ⟨_, rfl, ?_⟩
      replace hI := hI.put (d := some 50) (x := .v (.tuple #[.slice td ts.length tc, .bool f])) (by intro t ht; cases ht; decide) rfl
      replace hI := hI.sel [50, 49, 48, 2, 11, 0, 1, 3] (by kernel_rfl : sel _ _ = some [(50, .v (.tuple #[.slice td ts.length tc, .bool f])), (49, .agg [.v (.bool n1), .v (.slice d1 x1.length c1)]), (48, .v (.int .i64 k)), (2, .v (.bool false)), (11, .v (.bool true)), (0, .v (.int .i64 k)), (1, .v (.int .u64 ((n : Nat) : Int))), (3, .v (.bool by128))])
      refine part_ tab [3, 4, 5, 6, 7] [] (by rfl) (k := 3) (hs := []) (sy := []) (ks := [13, 2, 11, 0, 1, 3]) (bs := []) (gs := [])
          (L' := [(13, .v (.slice td ts.length tc)), (2, .v (.bool false)), (11, .v (.bool true)), (0, .v (.int .i64 k)), (1, .v (.int .u64 ((n : Nat) : Int))), (3, .v (.bool by128))])
          (H' := []) (G' := []) (k' := 3) hR hI (by kernel_rfl)
          .nil (fun e30 a30 w30 hag hR hI => ?_)
      refine ops_nil ?_
      refine then_n ?_
      refine wp_seq ?_
      refine reg (is := [0, 1, 2, 3, 4, 5, 6, 7, 8, 9]) (by kernel_rfl) ?_
      refine part_ tab [0, 1, 2, 3] [4, 5, 6, 7, 8, 9] (by rfl) (k := 3) (hs := []) (sy := []) (ks := [57, 56, 55, 54, 13, 11]) (bs := []) (gs := [])
          (L' := [(57, .v (.bool by128)), (56, .v (.bool false)), (55, .v (.int .u64 ((n : Nat) : Int))), (54, .v (.int .i64 k)), (13, .v (.slice td ts.length tc)), (11, .v (.bool true))])
          (H' := []) (G' := []) (k' := 3) hR hI (by kernel_rfl)
          .nil (fun e31 a31 w31 hag hR hI => ?_)
      refine callOp (ys := [.v (.int .i64 k), .v (.int .u64 ((n : Nat) : Int)), .v (.bool false), .v (.bool by128)]) hI rfl rfl ⟨_, rfl, rfl, rfl⟩ (by kernel_rfl) Try.func11 rfl rfl ?_
      refine (decFrom_spec (C := Now hB) k false by128 hn hfr).mono ?_
      rintro ex w32 ⟨us, wd, wc, rfl, hk, hq, hm⟩
      replace h1 := h1.next hB hR hk
      replace hg := hg.next hB hR hk
      replace ht := ht.next hB hR hk
      replace hu := hu.next hB hR hk
      have hB_ := hB.next hR hk
      replace hR := hR.after hk
      replace hB := hB_; clear hB_ hk
      refine ⟨_, rfl, ?_⟩
      replace hI := hI.put (d := some 58) (x := .v (.tuple #[.slice wd us.length wc, .bool true])) (by intro t ht; cases ht; decide) rfl
      replace hI := hI.sel [58, 57, 56, 55, 54, 13, 11] (by kernel_rfl : sel _ _ = some [(58, .v (.tuple #[.slice wd us.length wc, .bool true])), (57, .v (.bool by128)), (56, .v (.bool false)), (55, .v (.int .u64 ((n : Nat) : Int))), (54, .v (.int .i64 k)), (13, .v (.slice td ts.length tc)), (11, .v (.bool true))])
      refine part_ tab [5, 6, 7, 8, 9] [] (by rfl) (k := 3) (hs := []) (sy := []) (ks := [16, 15, 13, 11]) (bs := []) (gs := [])
          (L' := [(16, .v (.bool true)), (15, .v (.slice wd us.length wc)), (13, .v (.slice td ts.length tc)), (11, .v (.bool true))])
          (H' := []) (G' := []) (k' := 3) hR hI (by kernel_rfl)
          .nil (fun e33 a33 w33 hag hR hI => ?_)
      refine ops_nil ?_
      refine then_n ?_
      refine wp_seq ?_
      refine reg (is := [0, 1, 2, 3, 4, 5, 6, 7, 8, 9]) (by kernel_rfl) ?_
      refine part_ tab [0, 1, 2, 3] [4, 5, 6, 7, 8, 9] (by rfl) (k := 3) (hs := []) (sy := []) (ks := [64, 63, 62, 11]) (bs := []) (gs := [])
          (L' := [(64, .v (.slice td ts.length tc)), (63, .v (.slice wd us.length wc)), (62, .v (.bool true)), (11, .v (.bool true))])
          (H' := []) (G' := []) (k' := 3) hR hI (by kernel_rfl)
          .nil (fun e34 a34 w34 hag hR hI => ?_)
      refine callOp (ys := [.v (.slice wd us.length wc), .v (.slice td ts.length tc)]) hI rfl rfl ⟨_, rfl, rfl, rfl⟩ (by kernel_rfl) Try.func7 rfl rfl ?_
      refine (sameWords_spec (hq.now hB hR) (ht.now hB hR)).mono ?_
      rintro ex w35 ⟨b, rfl, hk, hb⟩
      replace hR := hR.same hk; clear hk
      obtain rfl : b = true := hb.2 (from_law hok.2 hq.dig ht.dig hm hw)
      refine ⟨_, rfl, ?_⟩
      replace hI := hI.put (d := some 65) (x := .v (.bool true)) (by intro t ht; cases ht; decide) rfl
      replace hI := hI.sel [65, 64, 63, 62, 11] (by kernel_rfl : sel _ _ = some [(65, .v (.bool true)), (64, .v (.slice td ts.length tc)), (63, .v (.slice wd us.length wc)), (62, .v (.bool true)), (11, .v (.bool true))])
      refine part_ tab [5, 6, 7, 8, 9] [] (by rfl) (k := 3) (hs := []) (sy := []) (ks := [8]) (bs := []) (gs := [])
          (L' := [(8, .v (.bool true))])
          (H' := []) (G' := []) (k' := 3) hR hI (by kernel_rfl)
          .nil (fun e36 a36 w36 hag hR hI => ?_)
      refine ops_nil ?_
      refine then_n ?_
      refine wp_ret ?_
      refine outN tab (xs := [.v (.bool true)]) hR hI rfl (by kernel_rfl) ?_
      exact ⟨rfl, hB.fin hR⟩

end Go.Proofs.Yteipgknmhpilfaa.Stride
