/- Walks of the program's functions, printed by a program of mine (walk.py) over the words of Stride: each function's contract. -/
import Derived.Test.YtahbgcjcfbjbmaaHpY
namespace Go.Proofs.Ytahbgcjcfbjbmaa.Stride
open Go Go.RowKit Go.Proofs.Ytahbgcjcfbjbmaa.Mag
set_option linter.unusedVariables false
set_option linter.unusedSimpArgs false
theorem nan_order {z : Nat} (h : nan32 z) : FloatKind.f32.format.order z z = none := by
  obtain ⟨s, t, rfl⟩ := h
  have hz : s % 2 * 2147483648 + 2139095040 + 1 + t % 8388607 < 4294967296 := by omega
  have key : ∃ s' m', Ieee.single.read (s % 2 * 2147483648 + 2139095040 + 1 + t % 8388607) = .nan s' m' := by
    rcases single_cases hz with ⟨_, _, hh⟩ | (h | h) | (h | h) | ⟨h1, h2, _⟩ | ⟨h1, h2, _⟩
    · exact hh
    all_goals (exfalso; omega)
  obtain ⟨s', m', hh⟩ := key
  show (Ieee.single.read _).order (Ieee.single.read _) = none
  rw [hh]; rfl
/-- A result that is a number is the same at each time. -/
theorem fres_same {o : Option Nat} {z z' : Nat} (h : FRes o z) (h' : FRes o z') (hnn : (FloatKind.f32.format.order z z != some .eq) = false) : z' = z := by
  rcases h with h | ⟨_, h⟩
  · rcases h' with h' | ⟨h', _⟩
    · rw [h] at h'; exact (Option.some.inj h').symm
    · rw [h] at h'; cases h'
  · rw [nan_order h] at hnn; cases hnn
theorem fin4 : ∀ {p q g s : Bool}, (p == (g || s)) = true → (p || q) = true → True := fun _ _ => trivial


set_option maxHeartbeats 4000000 in
set_option maxRecDepth 100000 in
theorem sameEq_spec {C : Nat → Prop} {w : World} {x : Int} :
    Calls P 11 #[.int .u16 x, .int .u16 x] w fun ex w' => ex = .returned (.bool true) ∧ Keep (fun b => b < w.heap.size) w w' := by
  refine doorN (e := e0) (vs := [.v (.int .u16 x), .v (.int .u16 x)]) (n := 15) (m := 2) Try.func11 rfl rfl rfl (by decide) fun a_ hI => ?_
  replace hI : Is 15 [] e0 [(0, .v (.int .u16 x)), (1, .v (.int .u16 x))] a_ := hI
  have hR : Rel (fun b => b < w.heap.size) w e0 [] [] w := Rel.start (fun k hk => hk)
  have hB : Base C w C (fun b => b < w.heap.size) w := Base.start
  refine reg_seq tab (k := 0) (hs := []) (sy := []) (ks := [0, 1]) (bs := []) (gs := [])
      (L' := [(0, .v (.int .u16 x)), (1, .v (.int .u16 x))])
      (H' := []) (G' := []) (k' := 0) hR hI (by kernel_rfl)
      .nil (fun e1 a1 w1 hag hR hI => ?_)
  refine wp_seq ?_
  refine reg (is := [0, 1, 2, 3, 4, 5, 6, 7, 8, 9, 10]) (by kernel_rfl) ?_
  refine part_ tab [0, 1, 2, 3, 4] [5, 6, 7, 8, 9, 10] (by rfl) (k := 0) (hs := [(2, .eq (.bool true))]) (sy := []) (ks := [8, 1]) (bs := []) (gs := [])
      (L' := [(8, .v (.bool true)), (1, .v (.int .u16 x))])
      (H' := []) (G' := []) (k' := 0) hR hI (by kernel_rfl)
      (.cons (congrArg Value.bool (beq_self_eq_true x : (x == x) = true)) .nil) (fun e2 a2 w2 hag hR hI => ?_)
  refine part_ tab [5, 6] [7, 8, 9, 10] (by rfl) (k := 0) (hs := []) (sy := []) (ks := [8]) (bs := []) (gs := [])
      (L' := [(8, .v (.bool true))])
      (H' := []) (G' := []) (k' := 0) hR hI (by kernel_rfl)
      .nil (fun e3 a3 w3 hag hR hI => ?_)
  refine part_ tab [7, 8, 9, 10] [] (by rfl) (k := 0) (hs := []) (sy := []) (ks := [4]) (bs := []) (gs := [])
      (L' := [(4, .v (.bool true))])
      (H' := []) (G' := []) (k' := 0) hR hI (by kernel_rfl)
      .nil (fun e4 a4 w4 hag hR hI => ?_)
  refine ops_nil ?_
  refine then_n ?_
  refine wp_ret ?_
  refine outN tab (xs := [.v (.bool true)]) hR hI rfl (by kernel_rfl) ?_
  exact ⟨rfl, hB.fin hR⟩

set_option maxHeartbeats 4000000 in
set_option maxRecDepth 100000 in
theorem law_spec {C : Nat → Prop} {w : World} {op : Int} {a b : Nat} (ha : a < 65536) (hb : b < 65536) :
    Calls P 4 #[.int .i64 op, .int .u16 ((a : Nat) : Int), .int .u16 ((b : Nat) : Int)] w fun ex w' => ex = .returned (.bool true) ∧ Keep (fun b => b < w.heap.size) w w' := by
  refine doorN (e := e0) (vs := [.v (.int .i64 op), .v (.int .u16 ((a : Nat) : Int)), .v (.int .u16 ((b : Nat) : Int))]) (n := 124) (m := 3) Try.func4 rfl rfl rfl (by decide) fun a_ hI => ?_
  replace hI : Is 124 [] e0 [(0, .v (.int .i64 op)), (1, .v (.int .u16 ((a : Nat) : Int))), (2, .v (.int .u16 ((b : Nat) : Int)))] a_ := hI
  have hR : Rel (fun b => b < w.heap.size) w e0 [] [] w := Rel.start (fun k hk => hk)
  have hB : Base C w C (fun b => b < w.heap.size) w := Base.start
  refine reg_seq tab (k := 0) (hs := []) (sy := []) (ks := [0, 1, 2]) (bs := []) (gs := [])
      (L' := [(0, .v (.int .i64 op)), (1, .v (.int .u16 ((a : Nat) : Int))), (2, .v (.int .u16 ((b : Nat) : Int)))])
      (H' := []) (G' := []) (k' := 0) hR hI (by kernel_rfl)
      .nil (fun e1 a1 w1 hag hR hI => ?_)
  refine wp_seq ?_
  refine wp_seq ?_
  refine reg (is := [0, 1, 2, 3, 4, 5, 6, 7, 8, 9, 10, 11, 12, 13, 14, 15]) (by kernel_rfl) ?_
  refine part_ tab [0, 1, 2, 3, 4, 5, 6, 7] [8, 9, 10, 11, 12, 13, 14, 15] (by rfl) (k := 0) (hs := [(5, .sym)]) (sy := [3, 4, 7]) (ks := [19, 18, 0, 1, 2]) (bs := []) (gs := [])
      (L' := [(19, .gd 6 false ((decide (op < (0 : Int))) || (decide (op > (5 : Int)))) (.v (.int .u16 ((a : Nat) : Int)))), (18, .v (.bool ((decide (op < (0 : Int))) || (decide (op > (5 : Int)))))), (0, .v (.int .i64 op)), (1, .v (.int .u16 ((a : Nat) : Int))), (2, .v (.int .u16 ((b : Nat) : Int)))])
      (H' := []) (G' := []) (k' := 0) hR hI (by kernel_rfl)
      (.cons (rfl : (decide (op < (0 : Int))) = (decide (op < (0 : Int)))) (.cons (by first | exact Bool.beq_true _ | exact Bool.beq_false _ | rfl | simp_all : ((decide (op < (0 : Int))) == false) = !(decide (op < (0 : Int)))) .nil)) (fun e2 a2 w2 hag hR hI => ?_)
  rcases Bool.eq_false_or_eq_true ((decide (op < (0 : Int))) || (decide (op > (5 : Int)))) with hc3 | hc3
  · skip
    replace hI := hI.re 18 (.v (.bool true)) rfl (congrArg Value.bool hc3)
    try simp only [decide_eq_true_eq, decide_eq_false_iff_not, beq_iff_eq, bne_iff_ne, beq_eq_false_iff_ne, bne_eq_false_iff_eq, Bool.and_eq_true, Bool.and_eq_false_iff, Bool.or_eq_true, Bool.or_eq_false_iff, Bool.not_eq_true', Bool.not_eq_false', ne_eq] at hc3
    refine part_ tab [8, 9, 10, 11, 12] [13, 14, 15] (by rfl) (k := 0) (hs := []) (sy := []) (ks := [23, 0, 1, 2]) (bs := []) (gs := [])
        (L' := [(23, .v (.bool true)), (0, .v (.int .i64 op)), (1, .v (.int .u16 ((a : Nat) : Int))), (2, .v (.int .u16 ((b : Nat) : Int)))])
        (H' := []) (G' := []) (k' := 0) hR hI (by kernel_rfl)
        .nil (fun e4 a4 w4 hag hR hI => ?_)
    refine part_ tab [13, 14, 15] [] (by rfl) (k := 0) (hs := []) (sy := []) (ks := [27, 0, 1, 2]) (bs := []) (gs := [])
        (L' := [(27, .v (.bool true)), (0, .v (.int .i64 op)), (1, .v (.int .u16 ((a : Nat) : Int))), (2, .v (.int .u16 ((b : Nat) : Int)))])
        (H' := []) (G' := []) (k' := 0) hR hI (by kernel_rfl)
        .nil (fun e5 a5 w5 hag hR hI => ?_)
    refine ops_nil ?_
    refine then_n ?_
    refine cnd_t hI (by kernel_rfl) ?_
    refine wp_seq ?_
    refine reg (is := [0, 1]) (by kernel_rfl) ?_
    refine callOp (ys := []) hI rfl rfl ⟨_, rfl, rfl, rfl⟩ (by kernel_rfl) Try.func6 rfl rfl ?_
    refine (halves_spec (C := C)).mono ?_
    rintro ex w6 ⟨rfl, hk⟩
    replace hR := hR.same hk; clear hk
    refine ⟨_, rfl, ?_⟩
    replace hI := hI.put (d := some 28) (x := .v (.bool true)) (by intro t ht; cases ht; decide) rfl
    replace hI := hI.sel [28, 27, 0, 1, 2] (by kernel_rfl : sel _ _ = some [(28, .v (.bool true)), (27, .v (.bool true)), (0, .v (.int .i64 op)), (1, .v (.int .u16 ((a : Nat) : Int))), (2, .v (.int .u16 ((b : Nat) : Int)))])
    refine part_ tab [1] [] (by rfl) (k := 0) (hs := []) (sy := []) (ks := [6]) (bs := []) (gs := [])
        (L' := [(6, .v (.bool true))])
        (H' := []) (G' := []) (k' := 0) hR hI (by kernel_rfl)
        .nil (fun e7 a7 w7 hag hR hI => ?_)
    refine ops_nil ?_
    refine then_n ?_
    refine wp_ret ?_
    refine ret_then ?_
    refine outN tab (xs := [.v (.bool true)]) hR hI rfl (by kernel_rfl) ?_
    exact ⟨rfl, hB.fin hR⟩
  · skip
    replace hI := hI.re 19 (.v (.int .u16 ((a : Nat) : Int))) rfl (by rw [den, hc3]; rfl)
    replace hI := hI.re 18 (.v (.bool false)) rfl (congrArg Value.bool hc3)
    try simp only [decide_eq_true_eq, decide_eq_false_iff_not, beq_iff_eq, bne_iff_ne, beq_eq_false_iff_ne, bne_eq_false_iff_eq, Bool.and_eq_true, Bool.and_eq_false_iff, Bool.or_eq_true, Bool.or_eq_false_iff, Bool.not_eq_true', Bool.not_eq_false', ne_eq] at hc3
    refine callOp (ys := [.v (.int .u16 ((a : Nat) : Int))]) hI rfl rfl ⟨_, rfl, rfl, rfl⟩ (by kernel_rfl) Try.func5 rfl rfl ?_
    refine (usualHalf_spec (C := C) ha).mono ?_
    rintro ex w8 ⟨rfl, hk⟩
    replace hR := hR.same hk; clear hk
    refine ⟨_, rfl, ?_⟩
    replace hI := hI.put (d := some 20) (x := .v (.bool (usual a))) (by intro t ht; cases ht; decide) rfl
    replace hI := hI.sel [20, 18, 19, 0, 1, 2] (by kernel_rfl : sel _ _ = some [(20, .v (.bool (usual a))), (18, .v (.bool false)), (19, .v (.int .u16 ((a : Nat) : Int))), (0, .v (.int .i64 op)), (1, .v (.int .u16 ((a : Nat) : Int))), (2, .v (.int .u16 ((b : Nat) : Int)))])
    refine part_ tab [9, 10, 11, 12] [13, 14, 15] (by rfl) (k := 0) (hs := []) (sy := [12]) (ks := [24, 23, 0, 1, 2]) (bs := []) (gs := [])
        (L' := [(24, .gd 11 false (!(usual a)) (.v (.int .u16 ((b : Nat) : Int)))), (23, .v (.bool (!(usual a)))), (0, .v (.int .i64 op)), (1, .v (.int .u16 ((a : Nat) : Int))), (2, .v (.int .u16 ((b : Nat) : Int)))])
        (H' := []) (G' := []) (k' := 0) hR hI (by kernel_rfl)
        .nil (fun e9 a9 w9 hag hR hI => ?_)
    rcases Bool.eq_false_or_eq_true (!(usual a)) with hc10 | hc10
    · skip
      replace hI := hI.re 23 (.v (.bool true)) rfl (congrArg Value.bool hc10)
      try simp only [decide_eq_true_eq, decide_eq_false_iff_not, beq_iff_eq, bne_iff_ne, beq_eq_false_iff_ne, bne_eq_false_iff_eq, Bool.and_eq_true, Bool.and_eq_false_iff, Bool.or_eq_true, Bool.or_eq_false_iff, Bool.not_eq_true', Bool.not_eq_false', ne_eq] at hc10
      refine part_ tab [] [13, 14, 15] (by rfl) (k := 0) (hs := []) (sy := []) (ks := [23, 0, 1, 2]) (bs := []) (gs := [])
          (L' := [(23, .v (.bool true)), (0, .v (.int .i64 op)), (1, .v (.int .u16 ((a : Nat) : Int))), (2, .v (.int .u16 ((b : Nat) : Int)))])
          (H' := []) (G' := []) (k' := 0) hR hI (by kernel_rfl)
          .nil (fun e11 a11 w11 hag hR hI => ?_)
      refine part_ tab [13, 14, 15] [] (by rfl) (k := 0) (hs := []) (sy := []) (ks := [27, 0, 1, 2]) (bs := []) (gs := [])
          (L' := [(27, .v (.bool true)), (0, .v (.int .i64 op)), (1, .v (.int .u16 ((a : Nat) : Int))), (2, .v (.int .u16 ((b : Nat) : Int)))])
          (H' := []) (G' := []) (k' := 0) hR hI (by kernel_rfl)
          .nil (fun e12 a12 w12 hag hR hI => ?_)
      refine ops_nil ?_
      refine then_n ?_
      refine cnd_t hI (by kernel_rfl) ?_
      refine wp_seq ?_
      refine reg (is := [0, 1]) (by kernel_rfl) ?_
      refine callOp (ys := []) hI rfl rfl ⟨_, rfl, rfl, rfl⟩ (by kernel_rfl) Try.func6 rfl rfl ?_
      refine (halves_spec (C := C)).mono ?_
      rintro ex w13 ⟨rfl, hk⟩
      replace hR := hR.same hk; clear hk
      refine ⟨_, rfl, ?_⟩
      replace hI := hI.put (d := some 28) (x := .v (.bool true)) (by intro t ht; cases ht; decide) rfl
      replace hI := hI.sel [28, 27, 0, 1, 2] (by kernel_rfl : sel _ _ = some [(28, .v (.bool true)), (27, .v (.bool true)), (0, .v (.int .i64 op)), (1, .v (.int .u16 ((a : Nat) : Int))), (2, .v (.int .u16 ((b : Nat) : Int)))])
      refine part_ tab [1] [] (by rfl) (k := 0) (hs := []) (sy := []) (ks := [6]) (bs := []) (gs := [])
          (L' := [(6, .v (.bool true))])
          (H' := []) (G' := []) (k' := 0) hR hI (by kernel_rfl)
          .nil (fun e14 a14 w14 hag hR hI => ?_)
      refine ops_nil ?_
      refine then_n ?_
      refine wp_ret ?_
      refine ret_then ?_
      refine outN tab (xs := [.v (.bool true)]) hR hI rfl (by kernel_rfl) ?_
      exact ⟨rfl, hB.fin hR⟩
    · skip
      replace hI := hI.re 24 (.v (.int .u16 ((b : Nat) : Int))) rfl (by rw [den, hc10]; rfl)
      replace hI := hI.re 23 (.v (.bool false)) rfl (congrArg Value.bool hc10)
      try simp only [decide_eq_true_eq, decide_eq_false_iff_not, beq_iff_eq, bne_iff_ne, beq_eq_false_iff_ne, bne_eq_false_iff_eq, Bool.and_eq_true, Bool.and_eq_false_iff, Bool.or_eq_true, Bool.or_eq_false_iff, Bool.not_eq_true', Bool.not_eq_false', ne_eq] at hc10
      refine callOp (ys := [.v (.int .u16 ((b : Nat) : Int))]) hI rfl rfl ⟨_, rfl, rfl, rfl⟩ (by kernel_rfl) Try.func5 rfl rfl ?_
      refine (usualHalf_spec (C := C) hb).mono ?_
      rintro ex w15 ⟨rfl, hk⟩
      replace hR := hR.same hk; clear hk
      refine ⟨_, rfl, ?_⟩
      replace hI := hI.put (d := some 25) (x := .v (.bool (usual b))) (by intro t ht; cases ht; decide) rfl
      replace hI := hI.sel [25, 23, 24, 0, 1, 2] (by kernel_rfl : sel _ _ = some [(25, .v (.bool (usual b))), (23, .v (.bool false)), (24, .v (.int .u16 ((b : Nat) : Int))), (0, .v (.int .i64 op)), (1, .v (.int .u16 ((a : Nat) : Int))), (2, .v (.int .u16 ((b : Nat) : Int)))])
      refine part_ tab [14, 15] [] (by rfl) (k := 0) (hs := []) (sy := []) (ks := [27, 0, 1, 2]) (bs := []) (gs := [])
          (L' := [(27, .v (.bool (!(usual b)))), (0, .v (.int .i64 op)), (1, .v (.int .u16 ((a : Nat) : Int))), (2, .v (.int .u16 ((b : Nat) : Int)))])
          (H' := []) (G' := []) (k' := 0) hR hI (by kernel_rfl)
          .nil (fun e16 a16 w16 hag hR hI => ?_)
      refine ops_nil ?_
      refine then_n ?_
      refine cnd (b := (!(usual b))) hI (by kernel_rfl) (fun hc17 => ?_) (fun hc17 => ?_)
      · skip
        replace hI := hI.re 27 (.v (.bool true)) rfl (congrArg Value.bool hc17)
        try simp only [decide_eq_true_eq, decide_eq_false_iff_not, beq_iff_eq, bne_iff_ne, beq_eq_false_iff_ne, bne_eq_false_iff_eq, Bool.and_eq_true, Bool.and_eq_false_iff, Bool.or_eq_true, Bool.or_eq_false_iff, Bool.not_eq_true', Bool.not_eq_false', ne_eq] at hc17
        refine wp_seq ?_
        refine reg (is := [0, 1]) (by kernel_rfl) ?_
        refine callOp (ys := []) hI rfl rfl ⟨_, rfl, rfl, rfl⟩ (by kernel_rfl) Try.func6 rfl rfl ?_
        refine (halves_spec (C := C)).mono ?_
        rintro ex w18 ⟨rfl, hk⟩
        replace hR := hR.same hk; clear hk
        refine ⟨_, rfl, ?_⟩
        replace hI := hI.put (d := some 28) (x := .v (.bool true)) (by intro t ht; cases ht; decide) rfl
        replace hI := hI.sel [28, 27, 0, 1, 2] (by kernel_rfl : sel _ _ = some [(28, .v (.bool true)), (27, .v (.bool true)), (0, .v (.int .i64 op)), (1, .v (.int .u16 ((a : Nat) : Int))), (2, .v (.int .u16 ((b : Nat) : Int)))])
        refine part_ tab [1] [] (by rfl) (k := 0) (hs := []) (sy := []) (ks := [6]) (bs := []) (gs := [])
            (L' := [(6, .v (.bool true))])
            (H' := []) (G' := []) (k' := 0) hR hI (by kernel_rfl)
            .nil (fun e19 a19 w19 hag hR hI => ?_)
        refine ops_nil ?_
        refine then_n ?_
        refine wp_ret ?_
        refine ret_then ?_
        refine outN tab (xs := [.v (.bool true)]) hR hI rfl (by kernel_rfl) ?_
        exact ⟨rfl, hB.fin hR⟩
      · skip
        replace hI := hI.re 27 (.v (.bool false)) rfl (congrArg Value.bool hc17)
        try simp only [decide_eq_true_eq, decide_eq_false_iff_not, beq_iff_eq, bne_iff_ne, beq_eq_false_iff_ne, bne_eq_false_iff_eq, Bool.and_eq_true, Bool.and_eq_false_iff, Bool.or_eq_true, Bool.or_eq_false_iff, Bool.not_eq_true', Bool.not_eq_false', ne_eq] at hc17
        have hua : usual a = true := by first | assumption | simp_all only [Bool.not_eq_false']
        have hub : usual b = true := by first | assumption | simp_all only [Bool.not_eq_false']
        have hop : 0 ≤ op ∧ op ≤ 5 := by omega
        refine wp_skip ?_
        refine then_n ?_
        refine wp_seq ?_
        refine reg (is := [0, 1, 2, 3, 4, 5, 6, 7]) (by kernel_rfl) ?_
        refine part_ tab [0] [1, 2, 3, 4, 5, 6, 7] (by rfl) (k := 0) (hs := []) (sy := []) (ks := [29, 0, 1, 2]) (bs := []) (gs := [])
            (L' := [(29, .v (.int .u16 ((a : Nat) : Int))), (0, .v (.int .i64 op)), (1, .v (.int .u16 ((a : Nat) : Int))), (2, .v (.int .u16 ((b : Nat) : Int)))])
            (H' := []) (G' := []) (k' := 0) hR hI (by kernel_rfl)
            .nil (fun e20 a20 w20 hag hR hI => ?_)
        refine callOp (ys := [.v (.int .u16 ((a : Nat) : Int))]) hI rfl rfl ⟨_, rfl, rfl, rfl⟩ (by kernel_rfl) Try.func7 rfl rfl ?_
        refine (HalfValue_spec (C := C) ha (of_decide_eq_true hua).1 (of_decide_eq_true hua).2).mono ?_
        rintro ex w21 ⟨rfl, hk⟩
        replace hR := hR.same hk; clear hk
        refine ⟨_, rfl, ?_⟩
        replace hI := hI.put (d := some 30) (x := .v (.float .f64 (dbl a))) (by intro t ht; cases ht; decide) rfl
        replace hI := hI.sel [30, 29, 0, 1, 2] (by kernel_rfl : sel _ _ = some [(30, .v (.float .f64 (dbl a))), (29, .v (.int .u16 ((a : Nat) : Int))), (0, .v (.int .i64 op)), (1, .v (.int .u16 ((a : Nat) : Int))), (2, .v (.int .u16 ((b : Nat) : Int)))])
        refine part_ tab [2, 3] [4, 5, 6, 7] (by rfl) (k := 0) (hs := [(2, .val (.v (.float .f32 (sgl a))))]) (sy := []) (ks := [32, 31, 0, 1, 2]) (bs := []) (gs := [])
            (L' := [(32, .v (.int .u16 ((b : Nat) : Int))), (31, .v (.float .f32 (sgl a))), (0, .v (.int .i64 op)), (1, .v (.int .u16 ((a : Nat) : Int))), (2, .v (.int .u16 ((b : Nat) : Int)))])
            (H' := []) (G' := []) (k' := 0) hR hI (by kernel_rfl)
            (.cons (conv_dbl ha (of_decide_eq_true hua).1 (of_decide_eq_true hua).2 : floatToFloatBits .f64 (dbl a) .f32 = some (sgl a)) .nil) (fun e22 a22 w22 hag hR hI => ?_)
        refine callOp (ys := [.v (.int .u16 ((b : Nat) : Int))]) hI rfl rfl ⟨_, rfl, rfl, rfl⟩ (by kernel_rfl) Try.func7 rfl rfl ?_
        refine (HalfValue_spec (C := C) hb (of_decide_eq_true hub).1 (of_decide_eq_true hub).2).mono ?_
        rintro ex w23 ⟨rfl, hk⟩
        replace hR := hR.same hk; clear hk
        refine ⟨_, rfl, ?_⟩
        replace hI := hI.put (d := some 33) (x := .v (.float .f64 (dbl b))) (by intro t ht; cases ht; decide) rfl
        replace hI := hI.sel [33, 32, 31, 0, 1, 2] (by kernel_rfl : sel _ _ = some [(33, .v (.float .f64 (dbl b))), (32, .v (.int .u16 ((b : Nat) : Int))), (31, .v (.float .f32 (sgl a))), (0, .v (.int .i64 op)), (1, .v (.int .u16 ((a : Nat) : Int))), (2, .v (.int .u16 ((b : Nat) : Int)))])
        refine part_ tab [5, 6, 7] [] (by rfl) (k := 0) (hs := [(5, .val (.v (.float .f32 (sgl b))))]) (sy := []) (ks := [8, 7, 0, 1, 2]) (bs := []) (gs := [])
            (L' := [(8, .v (.float .f32 (sgl b))), (7, .v (.float .f32 (sgl a))), (0, .v (.int .i64 op)), (1, .v (.int .u16 ((a : Nat) : Int))), (2, .v (.int .u16 ((b : Nat) : Int)))])
            (H' := []) (G' := []) (k' := 0) hR hI (by kernel_rfl)
            (.cons (conv_dbl hb (of_decide_eq_true hub).1 (of_decide_eq_true hub).2 : floatToFloatBits .f64 (dbl b) .f32 = some (sgl b)) .nil) (fun e24 a24 w24 hag hR hI => ?_)
        refine ops_nil ?_
        refine then_n ?_
        refine wp_seq ?_
        refine reg (is := [0, 1, 2, 3, 4]) (by kernel_rfl) ?_
        refine part_ tab [0, 1, 2] [3, 4] (by rfl) (k := 0) (hs := []) (sy := []) (ks := [37, 36, 35, 8, 7, 0, 1, 2]) (bs := []) (gs := [])
            (L' := [(37, .v (.int .u16 ((b : Nat) : Int))), (36, .v (.int .u16 ((a : Nat) : Int))), (35, .v (.int .i64 op)), (8, .v (.float .f32 (sgl b))), (7, .v (.float .f32 (sgl a))), (0, .v (.int .i64 op)), (1, .v (.int .u16 ((a : Nat) : Int))), (2, .v (.int .u16 ((b : Nat) : Int)))])
            (H' := []) (G' := []) (k' := 0) hR hI (by kernel_rfl)
            .nil (fun e25 a25 w25 hag hR hI => ?_)
        refine callOp (ys := [.v (.int .i64 op), .v (.int .u16 ((a : Nat) : Int)), .v (.int .u16 ((b : Nat) : Int))]) hI rfl rfl ⟨_, rfl, rfl, rfl⟩ (by kernel_rfl) Try.func10 rfl rfl ?_
        refine (HalfOp_spec (C := C) (op := op) ha hb).mono ?_
        rintro ex w26 ⟨⟨r, hres, rfl⟩, hk⟩
        replace hR := hR.same hk; clear hk
        refine ⟨_, rfl, ?_⟩
        replace hI := hI.put (d := some 38) (x := .v (.int .u16 ((r : Nat) : Int))) (by intro t ht; cases ht; decide) rfl
        replace hI := hI.sel [38, 37, 36, 35, 8, 7, 0, 1, 2] (by kernel_rfl : sel _ _ = some [(38, .v (.int .u16 ((r : Nat) : Int))), (37, .v (.int .u16 ((b : Nat) : Int))), (36, .v (.int .u16 ((a : Nat) : Int))), (35, .v (.int .i64 op)), (8, .v (.float .f32 (sgl b))), (7, .v (.float .f32 (sgl a))), (0, .v (.int .i64 op)), (1, .v (.int .u16 ((a : Nat) : Int))), (2, .v (.int .u16 ((b : Nat) : Int)))])
        refine part_ tab [4] [] (by rfl) (k := 0) (hs := []) (sy := []) (ks := [9, 8, 7, 0, 1, 2]) (bs := []) (gs := [])
            (L' := [(9, .v (.int .u16 ((r : Nat) : Int))), (8, .v (.float .f32 (sgl b))), (7, .v (.float .f32 (sgl a))), (0, .v (.int .i64 op)), (1, .v (.int .u16 ((a : Nat) : Int))), (2, .v (.int .u16 ((b : Nat) : Int)))])
            (H' := []) (G' := []) (k' := 0) hR hI (by kernel_rfl)
            .nil (fun e27 a27 w27 hag hR hI => ?_)
        refine ops_nil ?_
        refine then_n ?_
        refine wp_seq ?_
        refine reg_seq tab (k := 0) (hs := []) (sy := []) (ks := [39, 9, 8, 7, 0, 1, 2]) (bs := []) (gs := [])
            (L' := [(39, .v (.int .i64 op)), (9, .v (.int .u16 ((r : Nat) : Int))), (8, .v (.float .f32 (sgl b))), (7, .v (.float .f32 (sgl a))), (0, .v (.int .i64 op)), (1, .v (.int .u16 ((a : Nat) : Int))), (2, .v (.int .u16 ((b : Nat) : Int)))])
            (H' := []) (G' := []) (k' := 0) hR hI (by kernel_rfl)
            .nil (fun e28 a28 w28 hag hR hI => ?_)
        refine wp_block ?_
        refine reg_seq tab (k := 0) (hs := []) (sy := []) (ks := [40, 39, 9, 8, 7, 0, 1, 2]) (bs := []) (gs := [])
            (L' := [(40, .v (.bool (op == (4 : Int)))), (39, .v (.int .i64 op)), (9, .v (.int .u16 ((r : Nat) : Int))), (8, .v (.float .f32 (sgl b))), (7, .v (.float .f32 (sgl a))), (0, .v (.int .i64 op)), (1, .v (.int .u16 ((a : Nat) : Int))), (2, .v (.int .u16 ((b : Nat) : Int)))])
            (H' := []) (G' := []) (k' := 0) hR hI (by kernel_rfl)
            .nil (fun e29 a29 w29 hag hR hI => ?_)
        refine cnd (b := (op == (4 : Int))) hI (by kernel_rfl) (fun hc30 => ?_) (fun hc30 => ?_)
        · skip
          replace hI := hI.re 40 (.v (.bool true)) rfl (congrArg Value.bool hc30)
          try simp only [decide_eq_true_eq, decide_eq_false_iff_not, beq_iff_eq, bne_iff_ne, beq_eq_false_iff_ne, bne_eq_false_iff_eq, Bool.and_eq_true, Bool.and_eq_false_iff, Bool.or_eq_true, Bool.or_eq_false_iff, Bool.not_eq_true', Bool.not_eq_false', ne_eq] at hc30
          have hr4 : r = maxH a b := hres.2.2.2.2.1 hc30
          obtain ⟨hl1, hl2⟩ := law4 ha hb hua hub
          replace hI := hI.re 9 (.v (.int .u16 ((maxH a b : Nat) : Int))) rfl (congrArg (Value.int .u16) (by rw [hr4]))
          refine wp_seq ?_
          refine reg (is := [0, 1, 2, 3, 4, 5, 6, 7, 8, 9, 10, 11, 12, 13, 14, 15, 16, 17, 18, 19, 20, 21, 22, 23, 24, 25]) (by kernel_rfl) ?_
          refine callOp (ys := []) hI rfl rfl ⟨_, rfl, rfl, rfl⟩ (by kernel_rfl) Try.func6 rfl rfl ?_
          refine (halves_spec (C := C)).mono ?_
          rintro ex w31 ⟨rfl, hk⟩
          replace hR := hR.same hk; clear hk
          refine ⟨_, rfl, ?_⟩
          replace hI := hI.put (d := some 42) (x := .v (.bool true)) (by intro t ht; cases ht; decide) rfl
          replace hI := hI.sel [42, 9, 40, 39, 8, 7, 0, 1, 2] (by kernel_rfl : sel _ _ = some [(42, .v (.bool true)), (9, .v (.int .u16 ((maxH a b : Nat) : Int))), (40, .v (.bool true)), (39, .v (.int .i64 op)), (8, .v (.float .f32 (sgl b))), (7, .v (.float .f32 (sgl a))), (0, .v (.int .i64 op)), (1, .v (.int .u16 ((a : Nat) : Int))), (2, .v (.int .u16 ((b : Nat) : Int)))])
          refine part_ tab [1, 2, 3] [4, 5, 6, 7, 8, 9, 10, 11, 12, 13, 14, 15, 16, 17, 18, 19, 20, 21, 22, 23, 24, 25] (by rfl) (k := 0) (hs := []) (sy := []) (ks := [45, 44, 43, 9, 8, 7, 1, 2]) (bs := []) (gs := [])
              (L' := [(45, .v (.int .u16 ((a : Nat) : Int))), (44, .v (.int .u16 ((maxH a b : Nat) : Int))), (43, .v (.bool true)), (9, .v (.int .u16 ((maxH a b : Nat) : Int))), (8, .v (.float .f32 (sgl b))), (7, .v (.float .f32 (sgl a))), (1, .v (.int .u16 ((a : Nat) : Int))), (2, .v (.int .u16 ((b : Nat) : Int)))])
              (H' := []) (G' := []) (k' := 0) hR hI (by kernel_rfl)
              .nil (fun e32 a32 w32 hag hR hI => ?_)
          refine callOp (ys := [.v (.int .u16 ((maxH a b : Nat) : Int)), .v (.int .u16 ((a : Nat) : Int))]) hI rfl rfl ⟨_, rfl, rfl, rfl⟩ (by kernel_rfl) Try.func11 rfl rfl ?_
          refine (sameHalf_spec (C := C) (a := maxH a b) (b := a) (max_lt ha hb) ha (usual_max hua hub) hua).mono ?_
          rintro ex w33 ⟨rfl, hk⟩
          replace hR := hR.same hk; clear hk
          refine ⟨_, rfl, ?_⟩
          replace hI := hI.put (d := some 46) (x := .v (.bool (sameB (maxH a b) a))) (by intro t ht; cases ht; decide) rfl
          replace hI := hI.sel [46, 45, 44, 43, 9, 8, 7, 1, 2] (by kernel_rfl : sel _ _ = some [(46, .v (.bool (sameB (maxH a b) a))), (45, .v (.int .u16 ((a : Nat) : Int))), (44, .v (.int .u16 ((maxH a b : Nat) : Int))), (43, .v (.bool true)), (9, .v (.int .u16 ((maxH a b : Nat) : Int))), (8, .v (.float .f32 (sgl b))), (7, .v (.float .f32 (sgl a))), (1, .v (.int .u16 ((a : Nat) : Int))), (2, .v (.int .u16 ((b : Nat) : Int)))])
          refine part_ tab [5, 6, 7, 8, 9, 10] [11, 12, 13, 14, 15, 16, 17, 18, 19, 20, 21, 22, 23, 24, 25] (by rfl) (k := 0) (hs := []) (sy := [9, 10]) (ks := [52, 51, 50, 46, 43, 9, 1, 2]) (bs := []) (gs := [])
              (L' := [(52, .gd 8 false (FloatKind.f32.format.order (sgl a) (sgl b) == some .gt || FloatKind.f32.format.order (sgl a) (sgl b) == some .eq) (.v (.int .u16 ((b : Nat) : Int)))), (51, .gd 8 false (FloatKind.f32.format.order (sgl a) (sgl b) == some .gt || FloatKind.f32.format.order (sgl a) (sgl b) == some .eq) (.v (.int .u16 ((a : Nat) : Int)))), (50, .v (.bool (FloatKind.f32.format.order (sgl a) (sgl b) == some .gt || FloatKind.f32.format.order (sgl a) (sgl b) == some .eq))), (46, .v (.bool (sameB (maxH a b) a))), (43, .v (.bool true)), (9, .v (.int .u16 ((maxH a b : Nat) : Int))), (1, .v (.int .u16 ((a : Nat) : Int))), (2, .v (.int .u16 ((b : Nat) : Int)))])
              (H' := []) (G' := []) (k' := 0) hR hI (by kernel_rfl)
              (.cons (rfl : (FloatKind.f32.format.order (sgl a) (sgl b) == some .gt || FloatKind.f32.format.order (sgl a) (sgl b) == some .eq) = (FloatKind.f32.format.order (sgl a) (sgl b) == some .gt || FloatKind.f32.format.order (sgl a) (sgl b) == some .eq)) .nil) (fun e34 a34 w34 hag hR hI => ?_)
          rcases Bool.eq_false_or_eq_true (FloatKind.f32.format.order (sgl a) (sgl b) == some .gt || FloatKind.f32.format.order (sgl a) (sgl b) == some .eq) with hc35 | hc35
          · skip
            replace hI := hI.re 50 (.v (.bool true)) rfl (congrArg Value.bool hc35)
            refine part_ tab [] [11, 12, 13, 14, 15, 16, 17, 18, 19, 20, 21, 22, 23, 24, 25] (by rfl) (k := 0) (hs := []) (sy := []) (ks := [50, 46, 43, 9, 1, 2]) (bs := []) (gs := [])
                (L' := [(50, .v (.bool true)), (46, .v (.bool (sameB (maxH a b) a))), (43, .v (.bool true)), (9, .v (.int .u16 ((maxH a b : Nat) : Int))), (1, .v (.int .u16 ((a : Nat) : Int))), (2, .v (.int .u16 ((b : Nat) : Int)))])
                (H' := []) (G' := []) (k' := 0) hR hI (by kernel_rfl)
                .nil (fun e36 a36 w36 hag hR hI => ?_)
            refine part_ tab [] [11, 12, 13, 14, 15, 16, 17, 18, 19, 20, 21, 22, 23, 24, 25] (by rfl) (k := 0) (hs := []) (sy := []) (ks := [50, 46, 43, 9, 1, 2]) (bs := []) (gs := [])
                (L' := [(50, .v (.bool true)), (46, .v (.bool (sameB (maxH a b) a))), (43, .v (.bool true)), (9, .v (.int .u16 ((maxH a b : Nat) : Int))), (1, .v (.int .u16 ((a : Nat) : Int))), (2, .v (.int .u16 ((b : Nat) : Int)))])
                (H' := []) (G' := []) (k' := 0) hR hI (by kernel_rfl)
                .nil (fun e37 a37 w37 hag hR hI => ?_)
            refine part_ tab [11, 12, 13, 14, 15, 16, 17] [18, 19, 20, 21, 22, 23, 24, 25] (by rfl) (k := 0) (hs := []) (sy := [16, 17]) (ks := [59, 58, 57, 9, 2]) (bs := []) (gs := [])
                (L' := [(59, .gd 15 true ((sameB (maxH a b) a) == true) (.v (.int .u16 ((a : Nat) : Int)))), (58, .gd 15 true ((sameB (maxH a b) a) == true) (.v (.int .u16 ((maxH a b : Nat) : Int)))), (57, .v (.bool ((sameB (maxH a b) a) == true))), (9, .v (.int .u16 ((maxH a b : Nat) : Int))), (2, .v (.int .u16 ((b : Nat) : Int)))])
                (H' := []) (G' := []) (k' := 0) hR hI (by kernel_rfl)
                (.cons (rfl : ((sameB (maxH a b) a) == true) = ((sameB (maxH a b) a) == true)) .nil) (fun e38 a38 w38 hag hR hI => ?_)
            rcases Bool.eq_false_or_eq_true ((sameB (maxH a b) a) == true) with hc39 | hc39
            · skip
              replace hI := hI.re 59 (.v (.int .u16 ((a : Nat) : Int))) rfl (by rw [den, hc39]; rfl)
              replace hI := hI.re 58 (.v (.int .u16 ((maxH a b : Nat) : Int))) rfl (by rw [den, hc39]; rfl)
              replace hI := hI.re 57 (.v (.bool true)) rfl (congrArg Value.bool hc39)
              refine callOp (ys := [.v (.int .u16 ((maxH a b : Nat) : Int)), .v (.int .u16 ((a : Nat) : Int))]) hI rfl rfl ⟨_, rfl, rfl, rfl⟩ (by kernel_rfl) Try.func11 rfl rfl ?_
              refine (sameHalf_spec (C := C) (a := maxH a b) (b := a) (max_lt ha hb) ha (usual_max hua hub) hua).mono ?_
              rintro ex w40 ⟨rfl, hk⟩
              replace hR := hR.same hk; clear hk
              refine ⟨_, rfl, ?_⟩
              replace hI := hI.put (d := some 60) (x := .v (.bool (sameB (maxH a b) a))) (by intro t ht; cases ht; decide) rfl
              replace hI := hI.sel [60, 57, 58, 59, 9, 2] (by kernel_rfl : sel _ _ = some [(60, .v (.bool (sameB (maxH a b) a))), (57, .v (.bool true)), (58, .v (.int .u16 ((maxH a b : Nat) : Int))), (59, .v (.int .u16 ((a : Nat) : Int))), (9, .v (.int .u16 ((maxH a b : Nat) : Int))), (2, .v (.int .u16 ((b : Nat) : Int)))])
              refine part_ tab [19, 20, 21] [22, 23, 24, 25] (by rfl) (k := 0) (hs := []) (sy := [20, 21]) (ks := [63, 62, 61, 57]) (bs := []) (gs := [])
                  (L' := [(63, .gd 19 false (sameB (maxH a b) a) (.v (.int .u16 ((b : Nat) : Int)))), (62, .gd 19 false (sameB (maxH a b) a) (.v (.int .u16 ((maxH a b : Nat) : Int)))), (61, .v (.bool (sameB (maxH a b) a))), (57, .v (.bool true))])
                  (H' := []) (G' := []) (k' := 0) hR hI (by kernel_rfl)
                  (.cons (rfl : (sameB (maxH a b) a) = (sameB (maxH a b) a)) .nil) (fun e41 a41 w41 hag hR hI => ?_)
              rcases Bool.eq_false_or_eq_true (sameB (maxH a b) a) with hc42 | hc42
              · skip
                replace hI := hI.re 61 (.v (.bool true)) rfl (congrArg Value.bool hc42)
                refine part_ tab [] [22, 23, 24, 25] (by rfl) (k := 0) (hs := []) (sy := []) (ks := [61, 57]) (bs := []) (gs := [])
                    (L' := [(61, .v (.bool true)), (57, .v (.bool true))])
                    (H' := []) (G' := []) (k' := 0) hR hI (by kernel_rfl)
                    .nil (fun e43 a43 w43 hag hR hI => ?_)
                refine part_ tab [22, 23, 24, 25] [] (by rfl) (k := 0) (hs := []) (sy := []) (ks := [6, 61]) (bs := []) (gs := [])
                    (L' := [(6, .v (.bool true)), (61, .v (.bool true))])
                    (H' := []) (G' := []) (k' := 0) hR hI (by kernel_rfl)
                    .nil (fun e44 a44 w44 hag hR hI => ?_)
                refine ops_nil ?_
                refine then_n ?_
                refine wp_ret ?_
                refine ret_block ?_
                refine ret_then ?_
                refine outN tab (xs := [.v (.bool true)]) hR hI rfl (by kernel_rfl) ?_
                exact ⟨rfl, hB.fin hR⟩
              · skip
                replace hI := hI.re 63 (.v (.int .u16 ((b : Nat) : Int))) rfl (by rw [den, hc42]; rfl)
                replace hI := hI.re 62 (.v (.int .u16 ((maxH a b : Nat) : Int))) rfl (by rw [den, hc42]; rfl)
                replace hI := hI.re 61 (.v (.bool false)) rfl (congrArg Value.bool hc42)
                refine callOp (ys := [.v (.int .u16 ((maxH a b : Nat) : Int)), .v (.int .u16 ((b : Nat) : Int))]) hI rfl rfl ⟨_, rfl, rfl, rfl⟩ (by kernel_rfl) Try.func11 rfl rfl ?_
                refine (sameHalf_spec (C := C) (a := maxH a b) (b := b) (max_lt ha hb) hb (usual_max hua hub) hub).mono ?_
                rintro ex w45 ⟨rfl, hk⟩
                replace hR := hR.same hk; clear hk
                refine ⟨_, rfl, ?_⟩
                replace hI := hI.put (d := some 64) (x := .v (.bool (sameB (maxH a b) b))) (by intro t ht; cases ht; decide) rfl
                replace hI := hI.sel [64, 61, 62, 63, 57] (by kernel_rfl : sel _ _ = some [(64, .v (.bool (sameB (maxH a b) b))), (61, .v (.bool false)), (62, .v (.int .u16 ((maxH a b : Nat) : Int))), (63, .v (.int .u16 ((b : Nat) : Int))), (57, .v (.bool true))])
                refine part_ tab [23, 24, 25] [] (by rfl) (k := 0) (hs := []) (sy := []) (ks := [6, 61]) (bs := []) (gs := [])
                    (L' := [(6, .v (.bool (sameB (maxH a b) b))), (61, .v (.bool false))])
                    (H' := []) (G' := []) (k' := 0) hR hI (by kernel_rfl)
                    .nil (fun e46 a46 w46 hag hR hI => ?_)
                refine ops_nil ?_
                refine then_n ?_
                refine wp_ret ?_
                refine ret_block ?_
                refine ret_then ?_
                refine outN tab (xs := [.v (.bool (sameB (maxH a b) b))]) hR hI rfl (by kernel_rfl) ?_
                have hx_ : (sameB (maxH a b) b) = true := by
                  clear hI hR hB hres
                  simp_all
                exact ⟨by rw [hx_]; rfl, hB.fin hR⟩
            · skip
              replace hI := hI.re 57 (.v (.bool false)) rfl (congrArg Value.bool hc39)
              refine part_ tab [18, 19, 20, 21] [22, 23, 24, 25] (by rfl) (k := 0) (hs := []) (sy := []) (ks := [61, 57]) (bs := []) (gs := [])
                  (L' := [(61, .v (undef)), (57, .v (.bool false))])
                  (H' := []) (G' := []) (k' := 0) hR hI (by kernel_rfl)
                  .nil (fun e47 a47 w47 hag hR hI => ?_)
              refine part_ tab [22, 23, 24, 25] [] (by rfl) (k := 0) (hs := []) (sy := []) (ks := [6, 61]) (bs := []) (gs := [])
                  (L' := [(6, .v (.bool false)), (61, .v (undef))])
                  (H' := []) (G' := []) (k' := 0) hR hI (by kernel_rfl)
                  .nil (fun e48 a48 w48 hag hR hI => ?_)
              refine ops_nil ?_
              refine then_n ?_
              refine wp_ret ?_
              refine ret_block ?_
              refine ret_then ?_
              refine outN tab (xs := [.v (.bool false)]) hR hI rfl (by kernel_rfl) ?_
              have hx_ : false = true := by
                clear hI hR hB hres
                simp_all
              exact ⟨by rw [hx_]; rfl, hB.fin hR⟩
          · skip
            replace hI := hI.re 52 (.v (.int .u16 ((b : Nat) : Int))) rfl (by rw [den, hc35]; rfl)
            replace hI := hI.re 51 (.v (.int .u16 ((a : Nat) : Int))) rfl (by rw [den, hc35]; rfl)
            replace hI := hI.re 50 (.v (.bool false)) rfl (congrArg Value.bool hc35)
            refine callOp (ys := [.v (.int .u16 ((a : Nat) : Int)), .v (.int .u16 ((b : Nat) : Int))]) hI rfl rfl ⟨_, rfl, rfl, rfl⟩ (by kernel_rfl) Try.func11 rfl rfl ?_
            refine (sameHalf_spec (C := C) (a := a) (b := b) ha hb hua hub).mono ?_
            rintro ex w49 ⟨rfl, hk⟩
            replace hR := hR.same hk; clear hk
            refine ⟨_, rfl, ?_⟩
            replace hI := hI.put (d := some 53) (x := .v (.bool (sameB a b))) (by intro t ht; cases ht; decide) rfl
            replace hI := hI.sel [53, 50, 51, 52, 46, 43, 9, 1, 2] (by kernel_rfl : sel _ _ = some [(53, .v (.bool (sameB a b))), (50, .v (.bool false)), (51, .v (.int .u16 ((a : Nat) : Int))), (52, .v (.int .u16 ((b : Nat) : Int))), (46, .v (.bool (sameB (maxH a b) a))), (43, .v (.bool true)), (9, .v (.int .u16 ((maxH a b : Nat) : Int))), (1, .v (.int .u16 ((a : Nat) : Int))), (2, .v (.int .u16 ((b : Nat) : Int)))])
            refine part_ tab [12, 13, 14, 15, 16, 17] [18, 19, 20, 21, 22, 23, 24, 25] (by rfl) (k := 0) (hs := []) (sy := [16, 17]) (ks := [59, 58, 57, 9, 2]) (bs := []) (gs := [])
                (L' := [(59, .gd 15 true ((sameB (maxH a b) a) == (sameB a b)) (.v (.int .u16 ((a : Nat) : Int)))), (58, .gd 15 true ((sameB (maxH a b) a) == (sameB a b)) (.v (.int .u16 ((maxH a b : Nat) : Int)))), (57, .v (.bool ((sameB (maxH a b) a) == (sameB a b)))), (9, .v (.int .u16 ((maxH a b : Nat) : Int))), (2, .v (.int .u16 ((b : Nat) : Int)))])
                (H' := []) (G' := []) (k' := 0) hR hI (by kernel_rfl)
                (.cons (rfl : ((sameB (maxH a b) a) == (sameB a b)) = ((sameB (maxH a b) a) == (sameB a b))) .nil) (fun e50 a50 w50 hag hR hI => ?_)
            rcases Bool.eq_false_or_eq_true ((sameB (maxH a b) a) == (sameB a b)) with hc51 | hc51
            · skip
              replace hI := hI.re 59 (.v (.int .u16 ((a : Nat) : Int))) rfl (by rw [den, hc51]; rfl)
              replace hI := hI.re 58 (.v (.int .u16 ((maxH a b : Nat) : Int))) rfl (by rw [den, hc51]; rfl)
              replace hI := hI.re 57 (.v (.bool true)) rfl (congrArg Value.bool hc51)
              refine callOp (ys := [.v (.int .u16 ((maxH a b : Nat) : Int)), .v (.int .u16 ((a : Nat) : Int))]) hI rfl rfl ⟨_, rfl, rfl, rfl⟩ (by kernel_rfl) Try.func11 rfl rfl ?_
              refine (sameHalf_spec (C := C) (a := maxH a b) (b := a) (max_lt ha hb) ha (usual_max hua hub) hua).mono ?_
              rintro ex w52 ⟨rfl, hk⟩
              replace hR := hR.same hk; clear hk
              refine ⟨_, rfl, ?_⟩
              replace hI := hI.put (d := some 60) (x := .v (.bool (sameB (maxH a b) a))) (by intro t ht; cases ht; decide) rfl
              replace hI := hI.sel [60, 57, 58, 59, 9, 2] (by kernel_rfl : sel _ _ = some [(60, .v (.bool (sameB (maxH a b) a))), (57, .v (.bool true)), (58, .v (.int .u16 ((maxH a b : Nat) : Int))), (59, .v (.int .u16 ((a : Nat) : Int))), (9, .v (.int .u16 ((maxH a b : Nat) : Int))), (2, .v (.int .u16 ((b : Nat) : Int)))])
              refine part_ tab [19, 20, 21] [22, 23, 24, 25] (by rfl) (k := 0) (hs := []) (sy := [20, 21]) (ks := [63, 62, 61, 57]) (bs := []) (gs := [])
                  (L' := [(63, .gd 19 false (sameB (maxH a b) a) (.v (.int .u16 ((b : Nat) : Int)))), (62, .gd 19 false (sameB (maxH a b) a) (.v (.int .u16 ((maxH a b : Nat) : Int)))), (61, .v (.bool (sameB (maxH a b) a))), (57, .v (.bool true))])
                  (H' := []) (G' := []) (k' := 0) hR hI (by kernel_rfl)
                  (.cons (rfl : (sameB (maxH a b) a) = (sameB (maxH a b) a)) .nil) (fun e53 a53 w53 hag hR hI => ?_)
              rcases Bool.eq_false_or_eq_true (sameB (maxH a b) a) with hc54 | hc54
              · skip
                replace hI := hI.re 61 (.v (.bool true)) rfl (congrArg Value.bool hc54)
                refine part_ tab [] [22, 23, 24, 25] (by rfl) (k := 0) (hs := []) (sy := []) (ks := [61, 57]) (bs := []) (gs := [])
                    (L' := [(61, .v (.bool true)), (57, .v (.bool true))])
                    (H' := []) (G' := []) (k' := 0) hR hI (by kernel_rfl)
                    .nil (fun e55 a55 w55 hag hR hI => ?_)
                refine part_ tab [] [22, 23, 24, 25] (by rfl) (k := 0) (hs := []) (sy := []) (ks := [61, 57]) (bs := []) (gs := [])
                    (L' := [(61, .v (.bool true)), (57, .v (.bool true))])
                    (H' := []) (G' := []) (k' := 0) hR hI (by kernel_rfl)
                    .nil (fun e56 a56 w56 hag hR hI => ?_)
                refine part_ tab [] [22, 23, 24, 25] (by rfl) (k := 0) (hs := []) (sy := []) (ks := [61, 57]) (bs := []) (gs := [])
                    (L' := [(61, .v (.bool true)), (57, .v (.bool true))])
                    (H' := []) (G' := []) (k' := 0) hR hI (by kernel_rfl)
                    .nil (fun e57 a57 w57 hag hR hI => ?_)
                refine part_ tab [] [22, 23, 24, 25] (by rfl) (k := 0) (hs := []) (sy := []) (ks := [61, 57]) (bs := []) (gs := [])
                    (L' := [(61, .v (.bool true)), (57, .v (.bool true))])
                    (H' := []) (G' := []) (k' := 0) hR hI (by kernel_rfl)
                    .nil (fun e58 a58 w58 hag hR hI => ?_)
                refine part_ tab [22, 23, 24, 25] [] (by rfl) (k := 0) (hs := []) (sy := []) (ks := [6, 61]) (bs := []) (gs := [])
                    (L' := [(6, .v (.bool true)), (61, .v (.bool true))])
                    (H' := []) (G' := []) (k' := 0) hR hI (by kernel_rfl)
                    .nil (fun e59 a59 w59 hag hR hI => ?_)
                refine ops_nil ?_
                refine then_n ?_
                refine wp_ret ?_
                refine ret_block ?_
                refine ret_then ?_
                refine outN tab (xs := [.v (.bool true)]) hR hI rfl (by kernel_rfl) ?_
                exact ⟨rfl, hB.fin hR⟩
              · skip
                replace hI := hI.re 63 (.v (.int .u16 ((b : Nat) : Int))) rfl (by rw [den, hc54]; rfl)
                replace hI := hI.re 62 (.v (.int .u16 ((maxH a b : Nat) : Int))) rfl (by rw [den, hc54]; rfl)
                replace hI := hI.re 61 (.v (.bool false)) rfl (congrArg Value.bool hc54)
                refine callOp (ys := [.v (.int .u16 ((maxH a b : Nat) : Int)), .v (.int .u16 ((b : Nat) : Int))]) hI rfl rfl ⟨_, rfl, rfl, rfl⟩ (by kernel_rfl) Try.func11 rfl rfl ?_
                refine (sameHalf_spec (C := C) (a := maxH a b) (b := b) (max_lt ha hb) hb (usual_max hua hub) hub).mono ?_
                rintro ex w60 ⟨rfl, hk⟩
                replace hR := hR.same hk; clear hk
                refine ⟨_, rfl, ?_⟩
                replace hI := hI.put (d := some 64) (x := .v (.bool (sameB (maxH a b) b))) (by intro t ht; cases ht; decide) rfl
                replace hI := hI.sel [64, 61, 62, 63, 57] (by kernel_rfl : sel _ _ = some [(64, .v (.bool (sameB (maxH a b) b))), (61, .v (.bool false)), (62, .v (.int .u16 ((maxH a b : Nat) : Int))), (63, .v (.int .u16 ((b : Nat) : Int))), (57, .v (.bool true))])
                refine part_ tab [23, 24, 25] [] (by rfl) (k := 0) (hs := []) (sy := []) (ks := [6, 61]) (bs := []) (gs := [])
                    (L' := [(6, .v (.bool (sameB (maxH a b) b))), (61, .v (.bool false))])
                    (H' := []) (G' := []) (k' := 0) hR hI (by kernel_rfl)
                    .nil (fun e61 a61 w61 hag hR hI => ?_)
                refine ops_nil ?_
                refine then_n ?_
                refine wp_ret ?_
                refine ret_block ?_
                refine ret_then ?_
                refine outN tab (xs := [.v (.bool (sameB (maxH a b) b))]) hR hI rfl (by kernel_rfl) ?_
                have hx_ : (sameB (maxH a b) b) = true := by
                  clear hI hR hB hres
                  simp_all
                exact ⟨by rw [hx_]; rfl, hB.fin hR⟩
            · skip
              replace hI := hI.re 57 (.v (.bool false)) rfl (congrArg Value.bool hc51)
              refine part_ tab [] [18, 19, 20, 21, 22, 23, 24, 25] (by rfl) (k := 0) (hs := []) (sy := []) (ks := [57, 9, 2]) (bs := []) (gs := [])
                  (L' := [(57, .v (.bool false)), (9, .v (.int .u16 ((maxH a b : Nat) : Int))), (2, .v (.int .u16 ((b : Nat) : Int)))])
                  (H' := []) (G' := []) (k' := 0) hR hI (by kernel_rfl)
                  .nil (fun e62 a62 w62 hag hR hI => ?_)
              refine part_ tab [] [18, 19, 20, 21, 22, 23, 24, 25] (by rfl) (k := 0) (hs := []) (sy := []) (ks := [57, 9, 2]) (bs := []) (gs := [])
                  (L' := [(57, .v (.bool false)), (9, .v (.int .u16 ((maxH a b : Nat) : Int))), (2, .v (.int .u16 ((b : Nat) : Int)))])
                  (H' := []) (G' := []) (k' := 0) hR hI (by kernel_rfl)
                  .nil (fun e63 a63 w63 hag hR hI => ?_)
              refine part_ tab [] [18, 19, 20, 21, 22, 23, 24, 25] (by rfl) (k := 0) (hs := []) (sy := []) (ks := [57, 9, 2]) (bs := []) (gs := [])
                  (L' := [(57, .v (.bool false)), (9, .v (.int .u16 ((maxH a b : Nat) : Int))), (2, .v (.int .u16 ((b : Nat) : Int)))])
                  (H' := []) (G' := []) (k' := 0) hR hI (by kernel_rfl)
                  .nil (fun e64 a64 w64 hag hR hI => ?_)
              refine part_ tab [18, 19, 20, 21] [22, 23, 24, 25] (by rfl) (k := 0) (hs := []) (sy := []) (ks := [61, 57]) (bs := []) (gs := [])
                  (L' := [(61, .v (undef)), (57, .v (.bool false))])
                  (H' := []) (G' := []) (k' := 0) hR hI (by kernel_rfl)
                  .nil (fun e65 a65 w65 hag hR hI => ?_)
              refine part_ tab [22, 23, 24, 25] [] (by rfl) (k := 0) (hs := []) (sy := []) (ks := [6, 61]) (bs := []) (gs := [])
                  (L' := [(6, .v (.bool false)), (61, .v (undef))])
                  (H' := []) (G' := []) (k' := 0) hR hI (by kernel_rfl)
                  .nil (fun e66 a66 w66 hag hR hI => ?_)
              refine ops_nil ?_
              refine then_n ?_
              refine wp_ret ?_
              refine ret_block ?_
              refine ret_then ?_
              refine outN tab (xs := [.v (.bool false)]) hR hI rfl (by kernel_rfl) ?_
              have hx_ : false = true := by
                clear hI hR hB hres
                simp_all
              exact ⟨by rw [hx_]; rfl, hB.fin hR⟩
        · skip
          replace hI := hI.re 40 (.v (.bool false)) rfl (congrArg Value.bool hc30)
          try simp only [decide_eq_true_eq, decide_eq_false_iff_not, beq_iff_eq, bne_iff_ne, beq_eq_false_iff_ne, bne_eq_false_iff_eq, Bool.and_eq_true, Bool.and_eq_false_iff, Bool.or_eq_true, Bool.or_eq_false_iff, Bool.not_eq_true', Bool.not_eq_false', ne_eq] at hc30
          refine reg_seq tab (k := 0) (hs := []) (sy := []) (ks := [67, 9, 8, 7, 0, 1, 2]) (bs := []) (gs := [])
              (L' := [(67, .v (.bool (op == (5 : Int)))), (9, .v (.int .u16 ((r : Nat) : Int))), (8, .v (.float .f32 (sgl b))), (7, .v (.float .f32 (sgl a))), (0, .v (.int .i64 op)), (1, .v (.int .u16 ((a : Nat) : Int))), (2, .v (.int .u16 ((b : Nat) : Int)))])
              (H' := []) (G' := []) (k' := 0) hR hI (by kernel_rfl)
              .nil (fun e67 a67 w67 hag hR hI => ?_)
          refine cnd (b := (op == (5 : Int))) hI (by kernel_rfl) (fun hc68 => ?_) (fun hc68 => ?_)
          · skip
            replace hI := hI.re 67 (.v (.bool true)) rfl (congrArg Value.bool hc68)
            try simp only [decide_eq_true_eq, decide_eq_false_iff_not, beq_iff_eq, bne_iff_ne, beq_eq_false_iff_ne, bne_eq_false_iff_eq, Bool.and_eq_true, Bool.and_eq_false_iff, Bool.or_eq_true, Bool.or_eq_false_iff, Bool.not_eq_true', Bool.not_eq_false', ne_eq] at hc68
            have hr4 : r = minH a b := hres.2.2.2.2.2 hc68
            obtain ⟨hl1, hl2⟩ := law5 ha hb hua hub
            replace hI := hI.re 9 (.v (.int .u16 ((minH a b : Nat) : Int))) rfl (congrArg (Value.int .u16) (by rw [hr4]))
            refine wp_seq ?_
            refine reg (is := [0, 1, 2, 3, 4, 5, 6, 7, 8, 9, 10, 11, 12, 13, 14, 15, 16, 17, 18, 19, 20, 21, 22, 23, 24, 25]) (by kernel_rfl) ?_
            refine callOp (ys := []) hI rfl rfl ⟨_, rfl, rfl, rfl⟩ (by kernel_rfl) Try.func6 rfl rfl ?_
            refine (halves_spec (C := C)).mono ?_
            rintro ex w69 ⟨rfl, hk⟩
            replace hR := hR.same hk; clear hk
            refine ⟨_, rfl, ?_⟩
            replace hI := hI.put (d := some 69) (x := .v (.bool true)) (by intro t ht; cases ht; decide) rfl
            replace hI := hI.sel [69, 9, 67, 8, 7, 0, 1, 2] (by kernel_rfl : sel _ _ = some [(69, .v (.bool true)), (9, .v (.int .u16 ((minH a b : Nat) : Int))), (67, .v (.bool true)), (8, .v (.float .f32 (sgl b))), (7, .v (.float .f32 (sgl a))), (0, .v (.int .i64 op)), (1, .v (.int .u16 ((a : Nat) : Int))), (2, .v (.int .u16 ((b : Nat) : Int)))])
            refine part_ tab [1, 2, 3] [4, 5, 6, 7, 8, 9, 10, 11, 12, 13, 14, 15, 16, 17, 18, 19, 20, 21, 22, 23, 24, 25] (by rfl) (k := 0) (hs := []) (sy := []) (ks := [72, 71, 70, 9, 8, 7, 1, 2]) (bs := []) (gs := [])
                (L' := [(72, .v (.int .u16 ((a : Nat) : Int))), (71, .v (.int .u16 ((minH a b : Nat) : Int))), (70, .v (.bool true)), (9, .v (.int .u16 ((minH a b : Nat) : Int))), (8, .v (.float .f32 (sgl b))), (7, .v (.float .f32 (sgl a))), (1, .v (.int .u16 ((a : Nat) : Int))), (2, .v (.int .u16 ((b : Nat) : Int)))])
                (H' := []) (G' := []) (k' := 0) hR hI (by kernel_rfl)
                .nil (fun e70 a70 w70 hag hR hI => ?_)
            refine callOp (ys := [.v (.int .u16 ((minH a b : Nat) : Int)), .v (.int .u16 ((a : Nat) : Int))]) hI rfl rfl ⟨_, rfl, rfl, rfl⟩ (by kernel_rfl) Try.func11 rfl rfl ?_
            refine (sameHalf_spec (C := C) (a := minH a b) (b := a) (min_lt ha hb) ha (usual_min hua hub) hua).mono ?_
            rintro ex w71 ⟨rfl, hk⟩
            replace hR := hR.same hk; clear hk
            refine ⟨_, rfl, ?_⟩
            replace hI := hI.put (d := some 73) (x := .v (.bool (sameB (minH a b) a))) (by intro t ht; cases ht; decide) rfl
            replace hI := hI.sel [73, 72, 71, 70, 9, 8, 7, 1, 2] (by kernel_rfl : sel _ _ = some [(73, .v (.bool (sameB (minH a b) a))), (72, .v (.int .u16 ((a : Nat) : Int))), (71, .v (.int .u16 ((minH a b : Nat) : Int))), (70, .v (.bool true)), (9, .v (.int .u16 ((minH a b : Nat) : Int))), (8, .v (.float .f32 (sgl b))), (7, .v (.float .f32 (sgl a))), (1, .v (.int .u16 ((a : Nat) : Int))), (2, .v (.int .u16 ((b : Nat) : Int)))])
            refine part_ tab [5, 6, 7, 8, 9, 10] [11, 12, 13, 14, 15, 16, 17, 18, 19, 20, 21, 22, 23, 24, 25] (by rfl) (k := 0) (hs := []) (sy := [9, 10]) (ks := [79, 78, 77, 73, 70, 9, 1, 2]) (bs := []) (gs := [])
                (L' := [(79, .gd 8 false (FloatKind.f32.format.order (sgl a) (sgl b) == some .lt || FloatKind.f32.format.order (sgl a) (sgl b) == some .eq) (.v (.int .u16 ((b : Nat) : Int)))), (78, .gd 8 false (FloatKind.f32.format.order (sgl a) (sgl b) == some .lt || FloatKind.f32.format.order (sgl a) (sgl b) == some .eq) (.v (.int .u16 ((a : Nat) : Int)))), (77, .v (.bool (FloatKind.f32.format.order (sgl a) (sgl b) == some .lt || FloatKind.f32.format.order (sgl a) (sgl b) == some .eq))), (73, .v (.bool (sameB (minH a b) a))), (70, .v (.bool true)), (9, .v (.int .u16 ((minH a b : Nat) : Int))), (1, .v (.int .u16 ((a : Nat) : Int))), (2, .v (.int .u16 ((b : Nat) : Int)))])
                (H' := []) (G' := []) (k' := 0) hR hI (by kernel_rfl)
                (.cons (rfl : (FloatKind.f32.format.order (sgl a) (sgl b) == some .lt || FloatKind.f32.format.order (sgl a) (sgl b) == some .eq) = (FloatKind.f32.format.order (sgl a) (sgl b) == some .lt || FloatKind.f32.format.order (sgl a) (sgl b) == some .eq)) .nil) (fun e72 a72 w72 hag hR hI => ?_)
            rcases Bool.eq_false_or_eq_true (FloatKind.f32.format.order (sgl a) (sgl b) == some .lt || FloatKind.f32.format.order (sgl a) (sgl b) == some .eq) with hc73 | hc73
            · skip
              replace hI := hI.re 77 (.v (.bool true)) rfl (congrArg Value.bool hc73)
              refine part_ tab [] [11, 12, 13, 14, 15, 16, 17, 18, 19, 20, 21, 22, 23, 24, 25] (by rfl) (k := 0) (hs := []) (sy := []) (ks := [77, 73, 70, 9, 1, 2]) (bs := []) (gs := [])
                  (L' := [(77, .v (.bool true)), (73, .v (.bool (sameB (minH a b) a))), (70, .v (.bool true)), (9, .v (.int .u16 ((minH a b : Nat) : Int))), (1, .v (.int .u16 ((a : Nat) : Int))), (2, .v (.int .u16 ((b : Nat) : Int)))])
                  (H' := []) (G' := []) (k' := 0) hR hI (by kernel_rfl)
                  .nil (fun e74 a74 w74 hag hR hI => ?_)
              refine part_ tab [] [11, 12, 13, 14, 15, 16, 17, 18, 19, 20, 21, 22, 23, 24, 25] (by rfl) (k := 0) (hs := []) (sy := []) (ks := [77, 73, 70, 9, 1, 2]) (bs := []) (gs := [])
                  (L' := [(77, .v (.bool true)), (73, .v (.bool (sameB (minH a b) a))), (70, .v (.bool true)), (9, .v (.int .u16 ((minH a b : Nat) : Int))), (1, .v (.int .u16 ((a : Nat) : Int))), (2, .v (.int .u16 ((b : Nat) : Int)))])
                  (H' := []) (G' := []) (k' := 0) hR hI (by kernel_rfl)
                  .nil (fun e75 a75 w75 hag hR hI => ?_)
              refine part_ tab [11, 12, 13, 14, 15, 16, 17] [18, 19, 20, 21, 22, 23, 24, 25] (by rfl) (k := 0) (hs := []) (sy := [16, 17]) (ks := [86, 85, 84, 9, 2]) (bs := []) (gs := [])
                  (L' := [(86, .gd 15 true ((sameB (minH a b) a) == true) (.v (.int .u16 ((a : Nat) : Int)))), (85, .gd 15 true ((sameB (minH a b) a) == true) (.v (.int .u16 ((minH a b : Nat) : Int)))), (84, .v (.bool ((sameB (minH a b) a) == true))), (9, .v (.int .u16 ((minH a b : Nat) : Int))), (2, .v (.int .u16 ((b : Nat) : Int)))])
                  (H' := []) (G' := []) (k' := 0) hR hI (by kernel_rfl)
                  (.cons (rfl : ((sameB (minH a b) a) == true) = ((sameB (minH a b) a) == true)) .nil) (fun e76 a76 w76 hag hR hI => ?_)
              rcases Bool.eq_false_or_eq_true ((sameB (minH a b) a) == true) with hc77 | hc77
              · skip
                replace hI := hI.re 86 (.v (.int .u16 ((a : Nat) : Int))) rfl (by rw [den, hc77]; rfl)
                replace hI := hI.re 85 (.v (.int .u16 ((minH a b : Nat) : Int))) rfl (by rw [den, hc77]; rfl)
                replace hI := hI.re 84 (.v (.bool true)) rfl (congrArg Value.bool hc77)
                refine callOp (ys := [.v (.int .u16 ((minH a b : Nat) : Int)), .v (.int .u16 ((a : Nat) : Int))]) hI rfl rfl ⟨_, rfl, rfl, rfl⟩ (by kernel_rfl) Try.func11 rfl rfl ?_
                refine (sameHalf_spec (C := C) (a := minH a b) (b := a) (min_lt ha hb) ha (usual_min hua hub) hua).mono ?_
                rintro ex w78 ⟨rfl, hk⟩
                replace hR := hR.same hk; clear hk
                refine ⟨_, rfl, ?_⟩
                replace hI := hI.put (d := some 87) (x := .v (.bool (sameB (minH a b) a))) (by intro t ht; cases ht; decide) rfl
                replace hI := hI.sel [87, 84, 85, 86, 9, 2] (by kernel_rfl : sel _ _ = some [(87, .v (.bool (sameB (minH a b) a))), (84, .v (.bool true)), (85, .v (.int .u16 ((minH a b : Nat) : Int))), (86, .v (.int .u16 ((a : Nat) : Int))), (9, .v (.int .u16 ((minH a b : Nat) : Int))), (2, .v (.int .u16 ((b : Nat) : Int)))])
                refine part_ tab [19, 20, 21] [22, 23, 24, 25] (by rfl) (k := 0) (hs := []) (sy := [20, 21]) (ks := [90, 89, 88, 84]) (bs := []) (gs := [])
                    (L' := [(90, .gd 19 false (sameB (minH a b) a) (.v (.int .u16 ((b : Nat) : Int)))), (89, .gd 19 false (sameB (minH a b) a) (.v (.int .u16 ((minH a b : Nat) : Int)))), (88, .v (.bool (sameB (minH a b) a))), (84, .v (.bool true))])
                    (H' := []) (G' := []) (k' := 0) hR hI (by kernel_rfl)
                    (.cons (rfl : (sameB (minH a b) a) = (sameB (minH a b) a)) .nil) (fun e79 a79 w79 hag hR hI => ?_)
                rcases Bool.eq_false_or_eq_true (sameB (minH a b) a) with hc80 | hc80
                · skip
                  replace hI := hI.re 88 (.v (.bool true)) rfl (congrArg Value.bool hc80)
                  refine part_ tab [] [22, 23, 24, 25] (by rfl) (k := 0) (hs := []) (sy := []) (ks := [88, 84]) (bs := []) (gs := [])
                      (L' := [(88, .v (.bool true)), (84, .v (.bool true))])
                      (H' := []) (G' := []) (k' := 0) hR hI (by kernel_rfl)
                      .nil (fun e81 a81 w81 hag hR hI => ?_)
                  refine part_ tab [22, 23, 24, 25] [] (by rfl) (k := 0) (hs := []) (sy := []) (ks := [6, 88]) (bs := []) (gs := [])
                      (L' := [(6, .v (.bool true)), (88, .v (.bool true))])
                      (H' := []) (G' := []) (k' := 0) hR hI (by kernel_rfl)
                      .nil (fun e82 a82 w82 hag hR hI => ?_)
                  refine ops_nil ?_
                  refine then_n ?_
                  refine wp_ret ?_
                  refine ret_block ?_
                  refine ret_then ?_
                  refine outN tab (xs := [.v (.bool true)]) hR hI rfl (by kernel_rfl) ?_
                  exact ⟨rfl, hB.fin hR⟩
                · skip
                  replace hI := hI.re 90 (.v (.int .u16 ((b : Nat) : Int))) rfl (by rw [den, hc80]; rfl)
                  replace hI := hI.re 89 (.v (.int .u16 ((minH a b : Nat) : Int))) rfl (by rw [den, hc80]; rfl)
                  replace hI := hI.re 88 (.v (.bool false)) rfl (congrArg Value.bool hc80)
                  refine callOp (ys := [.v (.int .u16 ((minH a b : Nat) : Int)), .v (.int .u16 ((b : Nat) : Int))]) hI rfl rfl ⟨_, rfl, rfl, rfl⟩ (by kernel_rfl) Try.func11 rfl rfl ?_
                  refine (sameHalf_spec (C := C) (a := minH a b) (b := b) (min_lt ha hb) hb (usual_min hua hub) hub).mono ?_
                  rintro ex w83 ⟨rfl, hk⟩
                  replace hR := hR.same hk; clear hk
                  refine ⟨_, rfl, ?_⟩
                  replace hI := hI.put (d := some 91) (x := .v (.bool (sameB (minH a b) b))) (by intro t ht; cases ht; decide) rfl
                  replace hI := hI.sel [91, 88, 89, 90, 84] (by kernel_rfl : sel _ _ = some [(91, .v (.bool (sameB (minH a b) b))), (88, .v (.bool false)), (89, .v (.int .u16 ((minH a b : Nat) : Int))), (90, .v (.int .u16 ((b : Nat) : Int))), (84, .v (.bool true))])
                  refine part_ tab [23, 24, 25] [] (by rfl) (k := 0) (hs := []) (sy := []) (ks := [6, 88]) (bs := []) (gs := [])
                      (L' := [(6, .v (.bool (sameB (minH a b) b))), (88, .v (.bool false))])
                      (H' := []) (G' := []) (k' := 0) hR hI (by kernel_rfl)
                      .nil (fun e84 a84 w84 hag hR hI => ?_)
                  refine ops_nil ?_
                  refine then_n ?_
                  refine wp_ret ?_
                  refine ret_block ?_
                  refine ret_then ?_
                  refine outN tab (xs := [.v (.bool (sameB (minH a b) b))]) hR hI rfl (by kernel_rfl) ?_
                  have hx_ : (sameB (minH a b) b) = true := by
                    clear hI hR hB hres
                    simp_all
                  exact ⟨by rw [hx_]; rfl, hB.fin hR⟩
              · skip
                replace hI := hI.re 84 (.v (.bool false)) rfl (congrArg Value.bool hc77)
                refine part_ tab [18, 19, 20, 21] [22, 23, 24, 25] (by rfl) (k := 0) (hs := []) (sy := []) (ks := [88, 84]) (bs := []) (gs := [])
                    (L' := [(88, .v (undef)), (84, .v (.bool false))])
                    (H' := []) (G' := []) (k' := 0) hR hI (by kernel_rfl)
                    .nil (fun e85 a85 w85 hag hR hI => ?_)
                refine part_ tab [22, 23, 24, 25] [] (by rfl) (k := 0) (hs := []) (sy := []) (ks := [6, 88]) (bs := []) (gs := [])
                    (L' := [(6, .v (.bool false)), (88, .v (undef))])
                    (H' := []) (G' := []) (k' := 0) hR hI (by kernel_rfl)
                    .nil (fun e86 a86 w86 hag hR hI => ?_)
                refine ops_nil ?_
                refine then_n ?_
                refine wp_ret ?_
                refine ret_block ?_
                refine ret_then ?_
                refine outN tab (xs := [.v (.bool false)]) hR hI rfl (by kernel_rfl) ?_
                have hx_ : false = true := by
                  clear hI hR hB hres
                  simp_all
                exact ⟨by rw [hx_]; rfl, hB.fin hR⟩
            · skip
              replace hI := hI.re 79 (.v (.int .u16 ((b : Nat) : Int))) rfl (by rw [den, hc73]; rfl)
              replace hI := hI.re 78 (.v (.int .u16 ((a : Nat) : Int))) rfl (by rw [den, hc73]; rfl)
              replace hI := hI.re 77 (.v (.bool false)) rfl (congrArg Value.bool hc73)
              refine callOp (ys := [.v (.int .u16 ((a : Nat) : Int)), .v (.int .u16 ((b : Nat) : Int))]) hI rfl rfl ⟨_, rfl, rfl, rfl⟩ (by kernel_rfl) Try.func11 rfl rfl ?_
              refine (sameHalf_spec (C := C) (a := a) (b := b) ha hb hua hub).mono ?_
              rintro ex w87 ⟨rfl, hk⟩
              replace hR := hR.same hk; clear hk
              refine ⟨_, rfl, ?_⟩
              replace hI := hI.put (d := some 80) (x := .v (.bool (sameB a b))) (by intro t ht; cases ht; decide) rfl
              replace hI := hI.sel [80, 77, 78, 79, 73, 70, 9, 1, 2] (by kernel_rfl : sel _ _ = some [(80, .v (.bool (sameB a b))), (77, .v (.bool false)), (78, .v (.int .u16 ((a : Nat) : Int))), (79, .v (.int .u16 ((b : Nat) : Int))), (73, .v (.bool (sameB (minH a b) a))), (70, .v (.bool true)), (9, .v (.int .u16 ((minH a b : Nat) : Int))), (1, .v (.int .u16 ((a : Nat) : Int))), (2, .v (.int .u16 ((b : Nat) : Int)))])
              refine part_ tab [12, 13, 14, 15, 16, 17] [18, 19, 20, 21, 22, 23, 24, 25] (by rfl) (k := 0) (hs := []) (sy := [16, 17]) (ks := [86, 85, 84, 9, 2]) (bs := []) (gs := [])
                  (L' := [(86, .gd 15 true ((sameB (minH a b) a) == (sameB a b)) (.v (.int .u16 ((a : Nat) : Int)))), (85, .gd 15 true ((sameB (minH a b) a) == (sameB a b)) (.v (.int .u16 ((minH a b : Nat) : Int)))), (84, .v (.bool ((sameB (minH a b) a) == (sameB a b)))), (9, .v (.int .u16 ((minH a b : Nat) : Int))), (2, .v (.int .u16 ((b : Nat) : Int)))])
                  (H' := []) (G' := []) (k' := 0) hR hI (by kernel_rfl)
                  (.cons (rfl : ((sameB (minH a b) a) == (sameB a b)) = ((sameB (minH a b) a) == (sameB a b))) .nil) (fun e88 a88 w88 hag hR hI => ?_)
              rcases Bool.eq_false_or_eq_true ((sameB (minH a b) a) == (sameB a b)) with hc89 | hc89
              · skip
                replace hI := hI.re 86 (.v (.int .u16 ((a : Nat) : Int))) rfl (by rw [den, hc89]; rfl)
                replace hI := hI.re 85 (.v (.int .u16 ((minH a b : Nat) : Int))) rfl (by rw [den, hc89]; rfl)
                replace hI := hI.re 84 (.v (.bool true)) rfl (congrArg Value.bool hc89)
                refine callOp (ys := [.v (.int .u16 ((minH a b : Nat) : Int)), .v (.int .u16 ((a : Nat) : Int))]) hI rfl rfl ⟨_, rfl, rfl, rfl⟩ (by kernel_rfl) Try.func11 rfl rfl ?_
                refine (sameHalf_spec (C := C) (a := minH a b) (b := a) (min_lt ha hb) ha (usual_min hua hub) hua).mono ?_
                rintro ex w90 ⟨rfl, hk⟩
                replace hR := hR.same hk; clear hk
                refine ⟨_, rfl, ?_⟩
                replace hI := hI.put (d := some 87) (x := .v (.bool (sameB (minH a b) a))) (by intro t ht; cases ht; decide) rfl
                replace hI := hI.sel [87, 84, 85, 86, 9, 2] (by kernel_rfl : sel _ _ = some [(87, .v (.bool (sameB (minH a b) a))), (84, .v (.bool true)), (85, .v (.int .u16 ((minH a b : Nat) : Int))), (86, .v (.int .u16 ((a : Nat) : Int))), (9, .v (.int .u16 ((minH a b : Nat) : Int))), (2, .v (.int .u16 ((b : Nat) : Int)))])
                refine part_ tab [19, 20, 21] [22, 23, 24, 25] (by rfl) (k := 0) (hs := []) (sy := [20, 21]) (ks := [90, 89, 88, 84]) (bs := []) (gs := [])
                    (L' := [(90, .gd 19 false (sameB (minH a b) a) (.v (.int .u16 ((b : Nat) : Int)))), (89, .gd 19 false (sameB (minH a b) a) (.v (.int .u16 ((minH a b : Nat) : Int)))), (88, .v (.bool (sameB (minH a b) a))), (84, .v (.bool true))])
                    (H' := []) (G' := []) (k' := 0) hR hI (by kernel_rfl)
                    (.cons (rfl : (sameB (minH a b) a) = (sameB (minH a b) a)) .nil) (fun e91 a91 w91 hag hR hI => ?_)
                rcases Bool.eq_false_or_eq_true (sameB (minH a b) a) with hc92 | hc92
                · skip
                  replace hI := hI.re 88 (.v (.bool true)) rfl (congrArg Value.bool hc92)
                  refine part_ tab [] [22, 23, 24, 25] (by rfl) (k := 0) (hs := []) (sy := []) (ks := [88, 84]) (bs := []) (gs := [])
                      (L' := [(88, .v (.bool true)), (84, .v (.bool true))])
                      (H' := []) (G' := []) (k' := 0) hR hI (by kernel_rfl)
                      .nil (fun e93 a93 w93 hag hR hI => ?_)
                  refine part_ tab [] [22, 23, 24, 25] (by rfl) (k := 0) (hs := []) (sy := []) (ks := [88, 84]) (bs := []) (gs := [])
                      (L' := [(88, .v (.bool true)), (84, .v (.bool true))])
                      (H' := []) (G' := []) (k' := 0) hR hI (by kernel_rfl)
                      .nil (fun e94 a94 w94 hag hR hI => ?_)
                  refine part_ tab [] [22, 23, 24, 25] (by rfl) (k := 0) (hs := []) (sy := []) (ks := [88, 84]) (bs := []) (gs := [])
                      (L' := [(88, .v (.bool true)), (84, .v (.bool true))])
                      (H' := []) (G' := []) (k' := 0) hR hI (by kernel_rfl)
                      .nil (fun e95 a95 w95 hag hR hI => ?_)
                  refine part_ tab [] [22, 23, 24, 25] (by rfl) (k := 0) (hs := []) (sy := []) (ks := [88, 84]) (bs := []) (gs := [])
                      (L' := [(88, .v (.bool true)), (84, .v (.bool true))])
                      (H' := []) (G' := []) (k' := 0) hR hI (by kernel_rfl)
                      .nil (fun e96 a96 w96 hag hR hI => ?_)
                  refine part_ tab [22, 23, 24, 25] [] (by rfl) (k := 0) (hs := []) (sy := []) (ks := [6, 88]) (bs := []) (gs := [])
                      (L' := [(6, .v (.bool true)), (88, .v (.bool true))])
                      (H' := []) (G' := []) (k' := 0) hR hI (by kernel_rfl)
                      .nil (fun e97 a97 w97 hag hR hI => ?_)
                  refine ops_nil ?_
                  refine then_n ?_
                  refine wp_ret ?_
                  refine ret_block ?_
                  refine ret_then ?_
                  refine outN tab (xs := [.v (.bool true)]) hR hI rfl (by kernel_rfl) ?_
                  exact ⟨rfl, hB.fin hR⟩
                · skip
                  replace hI := hI.re 90 (.v (.int .u16 ((b : Nat) : Int))) rfl (by rw [den, hc92]; rfl)
                  replace hI := hI.re 89 (.v (.int .u16 ((minH a b : Nat) : Int))) rfl (by rw [den, hc92]; rfl)
                  replace hI := hI.re 88 (.v (.bool false)) rfl (congrArg Value.bool hc92)
                  refine callOp (ys := [.v (.int .u16 ((minH a b : Nat) : Int)), .v (.int .u16 ((b : Nat) : Int))]) hI rfl rfl ⟨_, rfl, rfl, rfl⟩ (by kernel_rfl) Try.func11 rfl rfl ?_
                  refine (sameHalf_spec (C := C) (a := minH a b) (b := b) (min_lt ha hb) hb (usual_min hua hub) hub).mono ?_
                  rintro ex w98 ⟨rfl, hk⟩
                  replace hR := hR.same hk; clear hk
                  refine ⟨_, rfl, ?_⟩
                  replace hI := hI.put (d := some 91) (x := .v (.bool (sameB (minH a b) b))) (by intro t ht; cases ht; decide) rfl
                  replace hI := hI.sel [91, 88, 89, 90, 84] (by kernel_rfl : sel _ _ = some [(91, .v (.bool (sameB (minH a b) b))), (88, .v (.bool false)), (89, .v (.int .u16 ((minH a b : Nat) : Int))), (90, .v (.int .u16 ((b : Nat) : Int))), (84, .v (.bool true))])
                  refine part_ tab [23, 24, 25] [] (by rfl) (k := 0) (hs := []) (sy := []) (ks := [6, 88]) (bs := []) (gs := [])
                      (L' := [(6, .v (.bool (sameB (minH a b) b))), (88, .v (.bool false))])
                      (H' := []) (G' := []) (k' := 0) hR hI (by kernel_rfl)
                      .nil (fun e99 a99 w99 hag hR hI => ?_)
                  refine ops_nil ?_
                  refine then_n ?_
                  refine wp_ret ?_
                  refine ret_block ?_
                  refine ret_then ?_
                  refine outN tab (xs := [.v (.bool (sameB (minH a b) b))]) hR hI rfl (by kernel_rfl) ?_
                  have hx_ : (sameB (minH a b) b) = true := by
                    clear hI hR hB hres
                    simp_all
                  exact ⟨by rw [hx_]; rfl, hB.fin hR⟩
              · skip
                replace hI := hI.re 84 (.v (.bool false)) rfl (congrArg Value.bool hc89)
                refine part_ tab [] [18, 19, 20, 21, 22, 23, 24, 25] (by rfl) (k := 0) (hs := []) (sy := []) (ks := [84, 9, 2]) (bs := []) (gs := [])
                    (L' := [(84, .v (.bool false)), (9, .v (.int .u16 ((minH a b : Nat) : Int))), (2, .v (.int .u16 ((b : Nat) : Int)))])
                    (H' := []) (G' := []) (k' := 0) hR hI (by kernel_rfl)
                    .nil (fun e100 a100 w100 hag hR hI => ?_)
                refine part_ tab [] [18, 19, 20, 21, 22, 23, 24, 25] (by rfl) (k := 0) (hs := []) (sy := []) (ks := [84, 9, 2]) (bs := []) (gs := [])
                    (L' := [(84, .v (.bool false)), (9, .v (.int .u16 ((minH a b : Nat) : Int))), (2, .v (.int .u16 ((b : Nat) : Int)))])
                    (H' := []) (G' := []) (k' := 0) hR hI (by kernel_rfl)
                    .nil (fun e101 a101 w101 hag hR hI => ?_)
                refine part_ tab [] [18, 19, 20, 21, 22, 23, 24, 25] (by rfl) (k := 0) (hs := []) (sy := []) (ks := [84, 9, 2]) (bs := []) (gs := [])
                    (L' := [(84, .v (.bool false)), (9, .v (.int .u16 ((minH a b : Nat) : Int))), (2, .v (.int .u16 ((b : Nat) : Int)))])
                    (H' := []) (G' := []) (k' := 0) hR hI (by kernel_rfl)
                    .nil (fun e102 a102 w102 hag hR hI => ?_)
                refine part_ tab [18, 19, 20, 21] [22, 23, 24, 25] (by rfl) (k := 0) (hs := []) (sy := []) (ks := [88, 84]) (bs := []) (gs := [])
                    (L' := [(88, .v (undef)), (84, .v (.bool false))])
                    (H' := []) (G' := []) (k' := 0) hR hI (by kernel_rfl)
                    .nil (fun e103 a103 w103 hag hR hI => ?_)
                refine part_ tab [22, 23, 24, 25] [] (by rfl) (k := 0) (hs := []) (sy := []) (ks := [6, 88]) (bs := []) (gs := [])
                    (L' := [(6, .v (.bool false)), (88, .v (undef))])
                    (H' := []) (G' := []) (k' := 0) hR hI (by kernel_rfl)
                    .nil (fun e104 a104 w104 hag hR hI => ?_)
                refine ops_nil ?_
                refine then_n ?_
                refine wp_ret ?_
                refine ret_block ?_
                refine ret_then ?_
                refine outN tab (xs := [.v (.bool false)]) hR hI rfl (by kernel_rfl) ?_
                have hx_ : false = true := by
                  clear hI hR hB hres
                  simp_all
                exact ⟨by rw [hx_]; rfl, hB.fin hR⟩
          · skip
            replace hI := hI.re 67 (.v (.bool false)) rfl (congrArg Value.bool hc68)
            try simp only [decide_eq_true_eq, decide_eq_false_iff_not, beq_iff_eq, bne_iff_ne, beq_eq_false_iff_ne, bne_eq_false_iff_eq, Bool.and_eq_true, Bool.and_eq_false_iff, Bool.or_eq_true, Bool.or_eq_false_iff, Bool.not_eq_true', Bool.not_eq_false', ne_eq] at hc68
            refine wp_skip ?_
            refine normal_block ?_
            refine then_n ?_
            refine wp_seq ?_
            refine reg (is := [0, 1, 2, 3, 4, 5, 6, 7, 8, 9, 10, 11, 12, 13, 14, 15, 16, 17, 18, 19, 20, 21]) (by kernel_rfl) ?_
            refine part_ tab [0, 1] [2, 3, 4, 5, 6, 7, 8, 9, 10, 11, 12, 13, 14, 15, 16, 17, 18, 19, 20, 21] (by rfl) (k := 0) (hs := []) (sy := []) (ks := [96, 95, 9, 8, 7, 0]) (bs := []) (gs := [])
                (L' := [(96, .v (.float .f32 (sgl b))), (95, .v (.float .f32 (sgl a))), (9, .v (.int .u16 ((r : Nat) : Int))), (8, .v (.float .f32 (sgl b))), (7, .v (.float .f32 (sgl a))), (0, .v (.int .i64 op))])
                (H' := []) (G' := []) (k' := 0) hR hI (by kernel_rfl)
                .nil (fun e105 a105 w105 hag hR hI => ?_)
            refine faddOp (u := (sgl a)) (v := (sgl b)) hI rfl rfl rfl rfl rfl (by kernel_rfl) (by kernel_rfl) (fun z0 a106 w106 hz0 hk hI => ?_)
            replace hR := hR.same hk; clear hk
            replace hI := hI.sel [97, 96, 95, 9, 8, 7, 0] (by kernel_rfl : sel _ _ = some [(97, .v (.float .f32 z0)), (96, .v (.float .f32 (sgl b))), (95, .v (.float .f32 (sgl a))), (9, .v (.int .u16 ((r : Nat) : Int))), (8, .v (.float .f32 (sgl b))), (7, .v (.float .f32 (sgl a))), (0, .v (.int .i64 op))])
            have hop4_ : op = 0 ∨ op = 1 ∨ op = 2 ∨ op = 3 := by omega
            rcases hop4_ with hopk | hopk | hopk | hopk
            · skip
              have hr4 := hres.1 hopk
              replace hI := hI.re 0 (.v (.int .i64 0)) rfl (congrArg (Value.int .i64) (hopk))
              refine part_ tab [3, 4] [5, 6, 7, 8, 9, 10, 11, 12, 13, 14, 15, 16, 17, 18, 19, 20, 21] (by rfl) (k := 0) (hs := []) (sy := []) (ks := [99, 98, 0, 97, 9, 8, 7]) (bs := []) (gs := [])
                  (L' := [(99, .v (.float .f32 (sgl b))), (98, .v (.float .f32 (sgl a))), (0, .v (.int .i64 0)), (97, .v (.float .f32 z0)), (9, .v (.int .u16 ((r : Nat) : Int))), (8, .v (.float .f32 (sgl b))), (7, .v (.float .f32 (sgl a)))])
                  (H' := []) (G' := []) (k' := 0) hR hI (by kernel_rfl)
                  .nil (fun e107 a107 w107 hag hR hI => ?_)
              refine faddOp (u := (sgl a)) (v := (sgl b)) hI rfl rfl rfl rfl rfl (by kernel_rfl) (by kernel_rfl) (fun z1 a108 w108 hz1 hk hI => ?_)
              replace hR := hR.same hk; clear hk
              replace hI := hI.sel [100, 99, 98, 0, 97, 9, 8, 7] (by kernel_rfl : sel _ _ = some [(100, .v (.float .f32 z1)), (99, .v (.float .f32 (sgl b))), (98, .v (.float .f32 (sgl a))), (0, .v (.int .i64 0)), (97, .v (.float .f32 z0)), (9, .v (.int .u16 ((r : Nat) : Int))), (8, .v (.float .f32 (sgl b))), (7, .v (.float .f32 (sgl a)))])
              refine part_ tab [6, 7] [8, 9, 10, 11, 12, 13, 14, 15, 16, 17, 18, 19, 20, 21] (by rfl) (k := 0) (hs := []) (sy := []) (ks := [102, 101, 100, 0, 97, 9, 8, 7]) (bs := []) (gs := [])
                  (L' := [(102, .v (.float .f32 (sgl b))), (101, .v (.float .f32 (sgl a))), (100, .v (.float .f32 z1)), (0, .v (.int .i64 0)), (97, .v (.float .f32 z0)), (9, .v (.int .u16 ((r : Nat) : Int))), (8, .v (.float .f32 (sgl b))), (7, .v (.float .f32 (sgl a)))])
                  (H' := []) (G' := []) (k' := 0) hR hI (by kernel_rfl)
                  .nil (fun e109 a109 w109 hag hR hI => ?_)
              refine faddOp (u := (sgl a)) (v := (sgl b)) hI rfl rfl rfl rfl rfl (by kernel_rfl) (by kernel_rfl) (fun z2 a110 w110 hz2 hk hI => ?_)
              replace hR := hR.same hk; clear hk
              replace hI := hI.sel [103, 102, 101, 100, 0, 97, 9, 8, 7] (by kernel_rfl : sel _ _ = some [(103, .v (.float .f32 z2)), (102, .v (.float .f32 (sgl b))), (101, .v (.float .f32 (sgl a))), (100, .v (.float .f32 z1)), (0, .v (.int .i64 0)), (97, .v (.float .f32 z0)), (9, .v (.int .u16 ((r : Nat) : Int))), (8, .v (.float .f32 (sgl b))), (7, .v (.float .f32 (sgl a)))])
              refine part_ tab [9, 10] [11, 12, 13, 14, 15, 16, 17, 18, 19, 20, 21] (by rfl) (k := 0) (hs := []) (sy := []) (ks := [105, 104, 103, 100, 0, 97, 9]) (bs := []) (gs := [])
                  (L' := [(105, .v (.float .f32 (sgl b))), (104, .v (.float .f32 (sgl a))), (103, .v (.float .f32 z2)), (100, .v (.float .f32 z1)), (0, .v (.int .i64 0)), (97, .v (.float .f32 z0)), (9, .v (.int .u16 ((r : Nat) : Int)))])
                  (H' := []) (G' := []) (k' := 0) hR hI (by kernel_rfl)
                  .nil (fun e111 a111 w111 hag hR hI => ?_)
              refine faddOp (u := (sgl a)) (v := (sgl b)) hI rfl rfl rfl rfl rfl (by kernel_rfl) (by kernel_rfl) (fun z3 a112 w112 hz3 hk hI => ?_)
              replace hR := hR.same hk; clear hk
              replace hI := hI.sel [106, 105, 104, 103, 100, 0, 97, 9] (by kernel_rfl : sel _ _ = some [(106, .v (.float .f32 z3)), (105, .v (.float .f32 (sgl b))), (104, .v (.float .f32 (sgl a))), (103, .v (.float .f32 z2)), (100, .v (.float .f32 z1)), (0, .v (.int .i64 0)), (97, .v (.float .f32 z0)), (9, .v (.int .u16 ((r : Nat) : Int)))])
              refine part_ tab [12, 13, 14, 15] [16, 17, 18, 19, 20, 21] (by rfl) (k := 0) (hs := []) (sy := []) (ks := [110, 9]) (bs := []) (gs := [])
                  (L' := [(110, .v (.float .f32 z0)), (9, .v (.int .u16 ((r : Nat) : Int)))])
                  (H' := []) (G' := []) (k' := 1) hR hI (by kernel_rfl)
                  (.cons (by omega : (0 : Int) ≤ (0 : Int) ∧ (0 : Int) < ((4 : Nat) : Int)) .nil) (fun e113 a113 w113 hag hR hI => ?_)
              refine callOp (ys := [.v (.float .f32 z0)]) hI rfl rfl ⟨_, rfl, rfl, rfl⟩ (by kernel_rfl) Try.func12 rfl rfl ?_
              refine (cut_spec (C := C) (z := z0) (fres_lt hz0)).mono ?_
              rintro ex w114 ⟨⟨x, is_, rfl, hx⟩, hk⟩
              replace hR := hR.same hk; clear hk
              refine ⟨_, rfl, ?_⟩
              replace hI := hI.put (d := some 111) (x := .v (.tuple #[.int .u16 x, .bool is_])) (by intro t ht; cases ht; decide) rfl
              replace hI := hI.sel [111, 110, 9] (by kernel_rfl : sel _ _ = some [(111, .v (.tuple #[.int .u16 x, .bool is_])), (110, .v (.float .f32 z0)), (9, .v (.int .u16 ((r : Nat) : Int)))])
              refine part_ tab [17, 18, 19, 20, 21] [] (by rfl) (k := 1) (hs := []) (sy := []) (ks := [11, 10, 9]) (bs := []) (gs := [])
                  (L' := [(11, .v (.bool is_)), (10, .v (.int .u16 x)), (9, .v (.int .u16 ((r : Nat) : Int)))])
                  (H' := []) (G' := []) (k' := 1) hR hI (by kernel_rfl)
                  .nil (fun e115 a115 w115 hag hR hI => ?_)
              refine ops_nil ?_
              refine then_n ?_
              refine wp_seq ?_
              refine reg (is := [0, 1, 2, 3, 4, 5, 6, 7, 8, 9, 10]) (by kernel_rfl) ?_
              refine callOp (ys := []) hI rfl rfl ⟨_, rfl, rfl, rfl⟩ (by kernel_rfl) Try.func6 rfl rfl ?_
              refine (halves_spec (C := C)).mono ?_
              rintro ex w116 ⟨rfl, hk⟩
              replace hR := hR.same hk; clear hk
              refine ⟨_, rfl, ?_⟩
              replace hI := hI.put (d := some 114) (x := .v (.bool true)) (by intro t ht; cases ht; decide) rfl
              replace hI := hI.sel [114, 11, 10, 9] (by kernel_rfl : sel _ _ = some [(114, .v (.bool true)), (11, .v (.bool is_)), (10, .v (.int .u16 x)), (9, .v (.int .u16 ((r : Nat) : Int)))])
              refine part_ tab [1, 2, 3, 4, 5, 6] [7, 8, 9, 10] (by rfl) (k := 1) (hs := []) (sy := [5, 6]) (ks := [120, 119, 118, 115]) (bs := []) (gs := [])
                  (L' := [(120, .gd 4 false (!is_) (.v (.int .u16 x))), (119, .gd 4 false (!is_) (.v (.int .u16 ((r : Nat) : Int)))), (118, .v (.bool (!is_))), (115, .v (.bool true))])
                  (H' := []) (G' := []) (k' := 1) hR hI (by kernel_rfl)
                  (.cons (rfl : (!is_) = (!is_)) .nil) (fun e117 a117 w117 hag hR hI => ?_)
              rcases Bool.eq_false_or_eq_true (!is_) with hc118 | hc118
              · skip
                replace hI := hI.re 118 (.v (.bool true)) rfl (congrArg Value.bool hc118)
                try simp only [decide_eq_true_eq, decide_eq_false_iff_not, beq_iff_eq, bne_iff_ne, beq_eq_false_iff_ne, bne_eq_false_iff_eq, Bool.and_eq_true, Bool.and_eq_false_iff, Bool.or_eq_true, Bool.or_eq_false_iff, Bool.not_eq_true', Bool.not_eq_false', ne_eq] at hc118
                refine part_ tab [] [7, 8, 9, 10] (by rfl) (k := 1) (hs := []) (sy := []) (ks := [118, 115]) (bs := []) (gs := [])
                    (L' := [(118, .v (.bool true)), (115, .v (.bool true))])
                    (H' := []) (G' := []) (k' := 1) hR hI (by kernel_rfl)
                    .nil (fun e119 a119 w119 hag hR hI => ?_)
                refine part_ tab [7, 8, 9, 10] [] (by rfl) (k := 1) (hs := []) (sy := []) (ks := [6]) (bs := []) (gs := [])
                    (L' := [(6, .v (.bool true))])
                    (H' := []) (G' := []) (k' := 1) hR hI (by kernel_rfl)
                    .nil (fun e120 a120 w120 hag hR hI => ?_)
                refine ops_nil ?_
                refine then_n ?_
                refine wp_ret ?_
                refine outN tab (xs := [.v (.bool true)]) hR hI rfl (by kernel_rfl) ?_
                exact ⟨rfl, hB.fin hR⟩
              · skip
                replace hI := hI.re 120 (.v (.int .u16 x)) rfl (by rw [den, hc118]; rfl)
                replace hI := hI.re 119 (.v (.int .u16 ((r : Nat) : Int))) rfl (by rw [den, hc118]; rfl)
                replace hI := hI.re 118 (.v (.bool false)) rfl (congrArg Value.bool hc118)
                try simp only [decide_eq_true_eq, decide_eq_false_iff_not, beq_iff_eq, bne_iff_ne, beq_eq_false_iff_ne, bne_eq_false_iff_eq, Bool.and_eq_true, Bool.and_eq_false_iff, Bool.or_eq_true, Bool.or_eq_false_iff, Bool.not_eq_true', Bool.not_eq_false', ne_eq] at hc118
                refine callOp (ys := [.v (.int .u16 ((r : Nat) : Int)), .v (.int .u16 x)]) hI rfl rfl ⟨_, rfl, rfl, rfl⟩ (by kernel_rfl) Try.func11 rfl rfl ?_
                have hi_ : is_ = true := by first | assumption | simp_all only [Bool.not_eq_false']
                obtain ⟨hxe, hnn⟩ := hx hi_
                obtain ⟨zz, hzz, hrr⟩ := hr4
                have hze := fres_same hz0 hzz hnn
                rw [hxe, hrr, hze]
                refine (sameEq_spec (C := C)).mono ?_
                rintro ex w121 ⟨rfl, hk⟩
                replace hR := hR.same hk; clear hk
                refine ⟨_, rfl, ?_⟩
                replace hI := hI.put (d := some 121) (x := .v (.bool true)) (by intro t ht; cases ht; decide) rfl
                replace hI := hI.sel [121, 118, 119, 120, 115] (by kernel_rfl : sel _ _ = some [(121, .v (.bool true)), (118, .v (.bool false)), (119, .v (.int .u16 ((r : Nat) : Int))), (120, .v (.int .u16 x)), (115, .v (.bool true))])
                refine part_ tab [8, 9, 10] [] (by rfl) (k := 1) (hs := []) (sy := []) (ks := [6]) (bs := []) (gs := [])
                    (L' := [(6, .v (.bool true))])
                    (H' := []) (G' := []) (k' := 1) hR hI (by kernel_rfl)
                    .nil (fun e122 a122 w122 hag hR hI => ?_)
                refine ops_nil ?_
                refine then_n ?_
                refine wp_ret ?_
                refine outN tab (xs := [.v (.bool true)]) hR hI rfl (by kernel_rfl) ?_
                exact ⟨rfl, hB.fin hR⟩
            · skip
              have hr4 := hres.2.1 hopk
              replace hI := hI.re 0 (.v (.int .i64 1)) rfl (congrArg (Value.int .i64) (hopk))
              refine part_ tab [3, 4] [5, 6, 7, 8, 9, 10, 11, 12, 13, 14, 15, 16, 17, 18, 19, 20, 21] (by rfl) (k := 0) (hs := []) (sy := []) (ks := [99, 98, 0, 97, 9, 8, 7]) (bs := []) (gs := [])
                  (L' := [(99, .v (.float .f32 (sgl b))), (98, .v (.float .f32 (sgl a))), (0, .v (.int .i64 1)), (97, .v (.float .f32 z0)), (9, .v (.int .u16 ((r : Nat) : Int))), (8, .v (.float .f32 (sgl b))), (7, .v (.float .f32 (sgl a)))])
                  (H' := []) (G' := []) (k' := 0) hR hI (by kernel_rfl)
                  .nil (fun e123 a123 w123 hag hR hI => ?_)
              refine faddOp (u := (sgl a)) (v := (sgl b)) hI rfl rfl rfl rfl rfl (by kernel_rfl) (by kernel_rfl) (fun z1 a124 w124 hz1 hk hI => ?_)
              replace hR := hR.same hk; clear hk
              replace hI := hI.sel [100, 99, 98, 0, 97, 9, 8, 7] (by kernel_rfl : sel _ _ = some [(100, .v (.float .f32 z1)), (99, .v (.float .f32 (sgl b))), (98, .v (.float .f32 (sgl a))), (0, .v (.int .i64 1)), (97, .v (.float .f32 z0)), (9, .v (.int .u16 ((r : Nat) : Int))), (8, .v (.float .f32 (sgl b))), (7, .v (.float .f32 (sgl a)))])
              refine part_ tab [6, 7] [8, 9, 10, 11, 12, 13, 14, 15, 16, 17, 18, 19, 20, 21] (by rfl) (k := 0) (hs := []) (sy := []) (ks := [102, 101, 100, 0, 97, 9, 8, 7]) (bs := []) (gs := [])
                  (L' := [(102, .v (.float .f32 (sgl b))), (101, .v (.float .f32 (sgl a))), (100, .v (.float .f32 z1)), (0, .v (.int .i64 1)), (97, .v (.float .f32 z0)), (9, .v (.int .u16 ((r : Nat) : Int))), (8, .v (.float .f32 (sgl b))), (7, .v (.float .f32 (sgl a)))])
                  (H' := []) (G' := []) (k' := 0) hR hI (by kernel_rfl)
                  .nil (fun e125 a125 w125 hag hR hI => ?_)
              refine faddOp (u := (sgl a)) (v := (sgl b)) hI rfl rfl rfl rfl rfl (by kernel_rfl) (by kernel_rfl) (fun z2 a126 w126 hz2 hk hI => ?_)
              replace hR := hR.same hk; clear hk
              replace hI := hI.sel [103, 102, 101, 100, 0, 97, 9, 8, 7] (by kernel_rfl : sel _ _ = some [(103, .v (.float .f32 z2)), (102, .v (.float .f32 (sgl b))), (101, .v (.float .f32 (sgl a))), (100, .v (.float .f32 z1)), (0, .v (.int .i64 1)), (97, .v (.float .f32 z0)), (9, .v (.int .u16 ((r : Nat) : Int))), (8, .v (.float .f32 (sgl b))), (7, .v (.float .f32 (sgl a)))])
              refine part_ tab [9, 10] [11, 12, 13, 14, 15, 16, 17, 18, 19, 20, 21] (by rfl) (k := 0) (hs := []) (sy := []) (ks := [105, 104, 103, 100, 0, 97, 9]) (bs := []) (gs := [])
                  (L' := [(105, .v (.float .f32 (sgl b))), (104, .v (.float .f32 (sgl a))), (103, .v (.float .f32 z2)), (100, .v (.float .f32 z1)), (0, .v (.int .i64 1)), (97, .v (.float .f32 z0)), (9, .v (.int .u16 ((r : Nat) : Int)))])
                  (H' := []) (G' := []) (k' := 0) hR hI (by kernel_rfl)
                  .nil (fun e127 a127 w127 hag hR hI => ?_)
              refine faddOp (u := (sgl a)) (v := (sgl b)) hI rfl rfl rfl rfl rfl (by kernel_rfl) (by kernel_rfl) (fun z3 a128 w128 hz3 hk hI => ?_)
              replace hR := hR.same hk; clear hk
              replace hI := hI.sel [106, 105, 104, 103, 100, 0, 97, 9] (by kernel_rfl : sel _ _ = some [(106, .v (.float .f32 z3)), (105, .v (.float .f32 (sgl b))), (104, .v (.float .f32 (sgl a))), (103, .v (.float .f32 z2)), (100, .v (.float .f32 z1)), (0, .v (.int .i64 1)), (97, .v (.float .f32 z0)), (9, .v (.int .u16 ((r : Nat) : Int)))])
              refine part_ tab [12, 13, 14, 15] [16, 17, 18, 19, 20, 21] (by rfl) (k := 0) (hs := []) (sy := []) (ks := [110, 9]) (bs := []) (gs := [])
                  (L' := [(110, .v (.float .f32 z1)), (9, .v (.int .u16 ((r : Nat) : Int)))])
                  (H' := []) (G' := []) (k' := 1) hR hI (by kernel_rfl)
                  (.cons (by omega : (0 : Int) ≤ (1 : Int) ∧ (1 : Int) < ((4 : Nat) : Int)) .nil) (fun e129 a129 w129 hag hR hI => ?_)
              refine callOp (ys := [.v (.float .f32 z1)]) hI rfl rfl ⟨_, rfl, rfl, rfl⟩ (by kernel_rfl) Try.func12 rfl rfl ?_
              refine (cut_spec (C := C) (z := z1) (fres_lt hz1)).mono ?_
              rintro ex w130 ⟨⟨x, is_, rfl, hx⟩, hk⟩
              replace hR := hR.same hk; clear hk
              refine ⟨_, rfl, ?_⟩
              replace hI := hI.put (d := some 111) (x := .v (.tuple #[.int .u16 x, .bool is_])) (by intro t ht; cases ht; decide) rfl
              replace hI := hI.sel [111, 110, 9] (by kernel_rfl : sel _ _ = some [(111, .v (.tuple #[.int .u16 x, .bool is_])), (110, .v (.float .f32 z1)), (9, .v (.int .u16 ((r : Nat) : Int)))])
              refine part_ tab [17, 18, 19, 20, 21] [] (by rfl) (k := 1) (hs := []) (sy := []) (ks := [11, 10, 9]) (bs := []) (gs := [])
                  (L' := [(11, .v (.bool is_)), (10, .v (.int .u16 x)), (9, .v (.int .u16 ((r : Nat) : Int)))])
                  (H' := []) (G' := []) (k' := 1) hR hI (by kernel_rfl)
                  .nil (fun e131 a131 w131 hag hR hI => ?_)
              refine ops_nil ?_
              refine then_n ?_
              refine wp_seq ?_
              refine reg (is := [0, 1, 2, 3, 4, 5, 6, 7, 8, 9, 10]) (by kernel_rfl) ?_
              refine callOp (ys := []) hI rfl rfl ⟨_, rfl, rfl, rfl⟩ (by kernel_rfl) Try.func6 rfl rfl ?_
              refine (halves_spec (C := C)).mono ?_
              rintro ex w132 ⟨rfl, hk⟩
              replace hR := hR.same hk; clear hk
              refine ⟨_, rfl, ?_⟩
              replace hI := hI.put (d := some 114) (x := .v (.bool true)) (by intro t ht; cases ht; decide) rfl
              replace hI := hI.sel [114, 11, 10, 9] (by kernel_rfl : sel _ _ = some [(114, .v (.bool true)), (11, .v (.bool is_)), (10, .v (.int .u16 x)), (9, .v (.int .u16 ((r : Nat) : Int)))])
              refine part_ tab [1, 2, 3, 4, 5, 6] [7, 8, 9, 10] (by rfl) (k := 1) (hs := []) (sy := [5, 6]) (ks := [120, 119, 118, 115]) (bs := []) (gs := [])
                  (L' := [(120, .gd 4 false (!is_) (.v (.int .u16 x))), (119, .gd 4 false (!is_) (.v (.int .u16 ((r : Nat) : Int)))), (118, .v (.bool (!is_))), (115, .v (.bool true))])
                  (H' := []) (G' := []) (k' := 1) hR hI (by kernel_rfl)
                  (.cons (rfl : (!is_) = (!is_)) .nil) (fun e133 a133 w133 hag hR hI => ?_)
              rcases Bool.eq_false_or_eq_true (!is_) with hc134 | hc134
              · skip
                replace hI := hI.re 118 (.v (.bool true)) rfl (congrArg Value.bool hc134)
                try simp only [decide_eq_true_eq, decide_eq_false_iff_not, beq_iff_eq, bne_iff_ne, beq_eq_false_iff_ne, bne_eq_false_iff_eq, Bool.and_eq_true, Bool.and_eq_false_iff, Bool.or_eq_true, Bool.or_eq_false_iff, Bool.not_eq_true', Bool.not_eq_false', ne_eq] at hc134
                refine part_ tab [] [7, 8, 9, 10] (by rfl) (k := 1) (hs := []) (sy := []) (ks := [118, 115]) (bs := []) (gs := [])
                    (L' := [(118, .v (.bool true)), (115, .v (.bool true))])
                    (H' := []) (G' := []) (k' := 1) hR hI (by kernel_rfl)
                    .nil (fun e135 a135 w135 hag hR hI => ?_)
                refine part_ tab [7, 8, 9, 10] [] (by rfl) (k := 1) (hs := []) (sy := []) (ks := [6]) (bs := []) (gs := [])
                    (L' := [(6, .v (.bool true))])
                    (H' := []) (G' := []) (k' := 1) hR hI (by kernel_rfl)
                    .nil (fun e136 a136 w136 hag hR hI => ?_)
                refine ops_nil ?_
                refine then_n ?_
                refine wp_ret ?_
                refine outN tab (xs := [.v (.bool true)]) hR hI rfl (by kernel_rfl) ?_
                exact ⟨rfl, hB.fin hR⟩
              · skip
                replace hI := hI.re 120 (.v (.int .u16 x)) rfl (by rw [den, hc134]; rfl)
                replace hI := hI.re 119 (.v (.int .u16 ((r : Nat) : Int))) rfl (by rw [den, hc134]; rfl)
                replace hI := hI.re 118 (.v (.bool false)) rfl (congrArg Value.bool hc134)
                try simp only [decide_eq_true_eq, decide_eq_false_iff_not, beq_iff_eq, bne_iff_ne, beq_eq_false_iff_ne, bne_eq_false_iff_eq, Bool.and_eq_true, Bool.and_eq_false_iff, Bool.or_eq_true, Bool.or_eq_false_iff, Bool.not_eq_true', Bool.not_eq_false', ne_eq] at hc134
                refine callOp (ys := [.v (.int .u16 ((r : Nat) : Int)), .v (.int .u16 x)]) hI rfl rfl ⟨_, rfl, rfl, rfl⟩ (by kernel_rfl) Try.func11 rfl rfl ?_
                have hi_ : is_ = true := by first | assumption | simp_all only [Bool.not_eq_false']
                obtain ⟨hxe, hnn⟩ := hx hi_
                obtain ⟨zz, hzz, hrr⟩ := hr4
                have hze := fres_same hz1 hzz hnn
                rw [hxe, hrr, hze]
                refine (sameEq_spec (C := C)).mono ?_
                rintro ex w137 ⟨rfl, hk⟩
                replace hR := hR.same hk; clear hk
                refine ⟨_, rfl, ?_⟩
                replace hI := hI.put (d := some 121) (x := .v (.bool true)) (by intro t ht; cases ht; decide) rfl
                replace hI := hI.sel [121, 118, 119, 120, 115] (by kernel_rfl : sel _ _ = some [(121, .v (.bool true)), (118, .v (.bool false)), (119, .v (.int .u16 ((r : Nat) : Int))), (120, .v (.int .u16 x)), (115, .v (.bool true))])
                refine part_ tab [8, 9, 10] [] (by rfl) (k := 1) (hs := []) (sy := []) (ks := [6]) (bs := []) (gs := [])
                    (L' := [(6, .v (.bool true))])
                    (H' := []) (G' := []) (k' := 1) hR hI (by kernel_rfl)
                    .nil (fun e138 a138 w138 hag hR hI => ?_)
                refine ops_nil ?_
                refine then_n ?_
                refine wp_ret ?_
                refine outN tab (xs := [.v (.bool true)]) hR hI rfl (by kernel_rfl) ?_
                exact ⟨rfl, hB.fin hR⟩
            · skip
              have hr4 := hres.2.2.1 hopk
              replace hI := hI.re 0 (.v (.int .i64 2)) rfl (congrArg (Value.int .i64) (hopk))
              refine part_ tab [3, 4] [5, 6, 7, 8, 9, 10, 11, 12, 13, 14, 15, 16, 17, 18, 19, 20, 21] (by rfl) (k := 0) (hs := []) (sy := []) (ks := [99, 98, 0, 97, 9, 8, 7]) (bs := []) (gs := [])
                  (L' := [(99, .v (.float .f32 (sgl b))), (98, .v (.float .f32 (sgl a))), (0, .v (.int .i64 2)), (97, .v (.float .f32 z0)), (9, .v (.int .u16 ((r : Nat) : Int))), (8, .v (.float .f32 (sgl b))), (7, .v (.float .f32 (sgl a)))])
                  (H' := []) (G' := []) (k' := 0) hR hI (by kernel_rfl)
                  .nil (fun e139 a139 w139 hag hR hI => ?_)
              refine faddOp (u := (sgl a)) (v := (sgl b)) hI rfl rfl rfl rfl rfl (by kernel_rfl) (by kernel_rfl) (fun z1 a140 w140 hz1 hk hI => ?_)
              replace hR := hR.same hk; clear hk
              replace hI := hI.sel [100, 99, 98, 0, 97, 9, 8, 7] (by kernel_rfl : sel _ _ = some [(100, .v (.float .f32 z1)), (99, .v (.float .f32 (sgl b))), (98, .v (.float .f32 (sgl a))), (0, .v (.int .i64 2)), (97, .v (.float .f32 z0)), (9, .v (.int .u16 ((r : Nat) : Int))), (8, .v (.float .f32 (sgl b))), (7, .v (.float .f32 (sgl a)))])
              refine part_ tab [6, 7] [8, 9, 10, 11, 12, 13, 14, 15, 16, 17, 18, 19, 20, 21] (by rfl) (k := 0) (hs := []) (sy := []) (ks := [102, 101, 100, 0, 97, 9, 8, 7]) (bs := []) (gs := [])
                  (L' := [(102, .v (.float .f32 (sgl b))), (101, .v (.float .f32 (sgl a))), (100, .v (.float .f32 z1)), (0, .v (.int .i64 2)), (97, .v (.float .f32 z0)), (9, .v (.int .u16 ((r : Nat) : Int))), (8, .v (.float .f32 (sgl b))), (7, .v (.float .f32 (sgl a)))])
                  (H' := []) (G' := []) (k' := 0) hR hI (by kernel_rfl)
                  .nil (fun e141 a141 w141 hag hR hI => ?_)
              refine faddOp (u := (sgl a)) (v := (sgl b)) hI rfl rfl rfl rfl rfl (by kernel_rfl) (by kernel_rfl) (fun z2 a142 w142 hz2 hk hI => ?_)
              replace hR := hR.same hk; clear hk
              replace hI := hI.sel [103, 102, 101, 100, 0, 97, 9, 8, 7] (by kernel_rfl : sel _ _ = some [(103, .v (.float .f32 z2)), (102, .v (.float .f32 (sgl b))), (101, .v (.float .f32 (sgl a))), (100, .v (.float .f32 z1)), (0, .v (.int .i64 2)), (97, .v (.float .f32 z0)), (9, .v (.int .u16 ((r : Nat) : Int))), (8, .v (.float .f32 (sgl b))), (7, .v (.float .f32 (sgl a)))])
              refine part_ tab [9, 10] [11, 12, 13, 14, 15, 16, 17, 18, 19, 20, 21] (by rfl) (k := 0) (hs := []) (sy := []) (ks := [105, 104, 103, 100, 0, 97, 9]) (bs := []) (gs := [])
                  (L' := [(105, .v (.float .f32 (sgl b))), (104, .v (.float .f32 (sgl a))), (103, .v (.float .f32 z2)), (100, .v (.float .f32 z1)), (0, .v (.int .i64 2)), (97, .v (.float .f32 z0)), (9, .v (.int .u16 ((r : Nat) : Int)))])
                  (H' := []) (G' := []) (k' := 0) hR hI (by kernel_rfl)
                  .nil (fun e143 a143 w143 hag hR hI => ?_)
              refine faddOp (u := (sgl a)) (v := (sgl b)) hI rfl rfl rfl rfl rfl (by kernel_rfl) (by kernel_rfl) (fun z3 a144 w144 hz3 hk hI => ?_)
              replace hR := hR.same hk; clear hk
              replace hI := hI.sel [106, 105, 104, 103, 100, 0, 97, 9] (by kernel_rfl : sel _ _ = some [(106, .v (.float .f32 z3)), (105, .v (.float .f32 (sgl b))), (104, .v (.float .f32 (sgl a))), (103, .v (.float .f32 z2)), (100, .v (.float .f32 z1)), (0, .v (.int .i64 2)), (97, .v (.float .f32 z0)), (9, .v (.int .u16 ((r : Nat) : Int)))])
              refine part_ tab [12, 13, 14, 15] [16, 17, 18, 19, 20, 21] (by rfl) (k := 0) (hs := []) (sy := []) (ks := [110, 9]) (bs := []) (gs := [])
                  (L' := [(110, .v (.float .f32 z2)), (9, .v (.int .u16 ((r : Nat) : Int)))])
                  (H' := []) (G' := []) (k' := 1) hR hI (by kernel_rfl)
                  (.cons (by omega : (0 : Int) ≤ (2 : Int) ∧ (2 : Int) < ((4 : Nat) : Int)) .nil) (fun e145 a145 w145 hag hR hI => ?_)
              refine callOp (ys := [.v (.float .f32 z2)]) hI rfl rfl ⟨_, rfl, rfl, rfl⟩ (by kernel_rfl) Try.func12 rfl rfl ?_
              refine (cut_spec (C := C) (z := z2) (fres_lt hz2)).mono ?_
              rintro ex w146 ⟨⟨x, is_, rfl, hx⟩, hk⟩
              replace hR := hR.same hk; clear hk
              refine ⟨_, rfl, ?_⟩
              replace hI := hI.put (d := some 111) (x := .v (.tuple #[.int .u16 x, .bool is_])) (by intro t ht; cases ht; decide) rfl
              replace hI := hI.sel [111, 110, 9] (by kernel_rfl : sel _ _ = some [(111, .v (.tuple #[.int .u16 x, .bool is_])), (110, .v (.float .f32 z2)), (9, .v (.int .u16 ((r : Nat) : Int)))])
              refine part_ tab [17, 18, 19, 20, 21] [] (by rfl) (k := 1) (hs := []) (sy := []) (ks := [11, 10, 9]) (bs := []) (gs := [])
                  (L' := [(11, .v (.bool is_)), (10, .v (.int .u16 x)), (9, .v (.int .u16 ((r : Nat) : Int)))])
                  (H' := []) (G' := []) (k' := 1) hR hI (by kernel_rfl)
                  .nil (fun e147 a147 w147 hag hR hI => ?_)
              refine ops_nil ?_
              refine then_n ?_
              refine wp_seq ?_
              refine reg (is := [0, 1, 2, 3, 4, 5, 6, 7, 8, 9, 10]) (by kernel_rfl) ?_
              refine callOp (ys := []) hI rfl rfl ⟨_, rfl, rfl, rfl⟩ (by kernel_rfl) Try.func6 rfl rfl ?_
              refine (halves_spec (C := C)).mono ?_
              rintro ex w148 ⟨rfl, hk⟩
              replace hR := hR.same hk; clear hk
              refine ⟨_, rfl, ?_⟩
              replace hI := hI.put (d := some 114) (x := .v (.bool true)) (by intro t ht; cases ht; decide) rfl
              replace hI := hI.sel [114, 11, 10, 9] (by kernel_rfl : sel _ _ = some [(114, .v (.bool true)), (11, .v (.bool is_)), (10, .v (.int .u16 x)), (9, .v (.int .u16 ((r : Nat) : Int)))])
              refine part_ tab [1, 2, 3, 4, 5, 6] [7, 8, 9, 10] (by rfl) (k := 1) (hs := []) (sy := [5, 6]) (ks := [120, 119, 118, 115]) (bs := []) (gs := [])
                  (L' := [(120, .gd 4 false (!is_) (.v (.int .u16 x))), (119, .gd 4 false (!is_) (.v (.int .u16 ((r : Nat) : Int)))), (118, .v (.bool (!is_))), (115, .v (.bool true))])
                  (H' := []) (G' := []) (k' := 1) hR hI (by kernel_rfl)
                  (.cons (rfl : (!is_) = (!is_)) .nil) (fun e149 a149 w149 hag hR hI => ?_)
              rcases Bool.eq_false_or_eq_true (!is_) with hc150 | hc150
              · skip
                replace hI := hI.re 118 (.v (.bool true)) rfl (congrArg Value.bool hc150)
                try simp only [decide_eq_true_eq, decide_eq_false_iff_not, beq_iff_eq, bne_iff_ne, beq_eq_false_iff_ne, bne_eq_false_iff_eq, Bool.and_eq_true, Bool.and_eq_false_iff, Bool.or_eq_true, Bool.or_eq_false_iff, Bool.not_eq_true', Bool.not_eq_false', ne_eq] at hc150
                refine part_ tab [] [7, 8, 9, 10] (by rfl) (k := 1) (hs := []) (sy := []) (ks := [118, 115]) (bs := []) (gs := [])
                    (L' := [(118, .v (.bool true)), (115, .v (.bool true))])
                    (H' := []) (G' := []) (k' := 1) hR hI (by kernel_rfl)
                    .nil (fun e151 a151 w151 hag hR hI => ?_)
                refine part_ tab [7, 8, 9, 10] [] (by rfl) (k := 1) (hs := []) (sy := []) (ks := [6]) (bs := []) (gs := [])
                    (L' := [(6, .v (.bool true))])
                    (H' := []) (G' := []) (k' := 1) hR hI (by kernel_rfl)
                    .nil (fun e152 a152 w152 hag hR hI => ?_)
                refine ops_nil ?_
                refine then_n ?_
                refine wp_ret ?_
                refine outN tab (xs := [.v (.bool true)]) hR hI rfl (by kernel_rfl) ?_
                exact ⟨rfl, hB.fin hR⟩
              · skip
                replace hI := hI.re 120 (.v (.int .u16 x)) rfl (by rw [den, hc150]; rfl)
                replace hI := hI.re 119 (.v (.int .u16 ((r : Nat) : Int))) rfl (by rw [den, hc150]; rfl)
                replace hI := hI.re 118 (.v (.bool false)) rfl (congrArg Value.bool hc150)
                try simp only [decide_eq_true_eq, decide_eq_false_iff_not, beq_iff_eq, bne_iff_ne, beq_eq_false_iff_ne, bne_eq_false_iff_eq, Bool.and_eq_true, Bool.and_eq_false_iff, Bool.or_eq_true, Bool.or_eq_false_iff, Bool.not_eq_true', Bool.not_eq_false', ne_eq] at hc150
                refine callOp (ys := [.v (.int .u16 ((r : Nat) : Int)), .v (.int .u16 x)]) hI rfl rfl ⟨_, rfl, rfl, rfl⟩ (by kernel_rfl) Try.func11 rfl rfl ?_
                have hi_ : is_ = true := by first | assumption | simp_all only [Bool.not_eq_false']
                obtain ⟨hxe, hnn⟩ := hx hi_
                obtain ⟨zz, hzz, hrr⟩ := hr4
                have hze := fres_same hz2 hzz hnn
                rw [hxe, hrr, hze]
                refine (sameEq_spec (C := C)).mono ?_
                rintro ex w153 ⟨rfl, hk⟩
                replace hR := hR.same hk; clear hk
                refine ⟨_, rfl, ?_⟩
                replace hI := hI.put (d := some 121) (x := .v (.bool true)) (by intro t ht; cases ht; decide) rfl
                replace hI := hI.sel [121, 118, 119, 120, 115] (by kernel_rfl : sel _ _ = some [(121, .v (.bool true)), (118, .v (.bool false)), (119, .v (.int .u16 ((r : Nat) : Int))), (120, .v (.int .u16 x)), (115, .v (.bool true))])
                refine part_ tab [8, 9, 10] [] (by rfl) (k := 1) (hs := []) (sy := []) (ks := [6]) (bs := []) (gs := [])
                    (L' := [(6, .v (.bool true))])
                    (H' := []) (G' := []) (k' := 1) hR hI (by kernel_rfl)
                    .nil (fun e154 a154 w154 hag hR hI => ?_)
                refine ops_nil ?_
                refine then_n ?_
                refine wp_ret ?_
                refine outN tab (xs := [.v (.bool true)]) hR hI rfl (by kernel_rfl) ?_
                exact ⟨rfl, hB.fin hR⟩
            · skip
              have hr4 := hres.2.2.2.1 hopk
              replace hI := hI.re 0 (.v (.int .i64 3)) rfl (congrArg (Value.int .i64) (hopk))
              refine part_ tab [3, 4] [5, 6, 7, 8, 9, 10, 11, 12, 13, 14, 15, 16, 17, 18, 19, 20, 21] (by rfl) (k := 0) (hs := []) (sy := []) (ks := [99, 98, 0, 97, 9, 8, 7]) (bs := []) (gs := [])
                  (L' := [(99, .v (.float .f32 (sgl b))), (98, .v (.float .f32 (sgl a))), (0, .v (.int .i64 3)), (97, .v (.float .f32 z0)), (9, .v (.int .u16 ((r : Nat) : Int))), (8, .v (.float .f32 (sgl b))), (7, .v (.float .f32 (sgl a)))])
                  (H' := []) (G' := []) (k' := 0) hR hI (by kernel_rfl)
                  .nil (fun e155 a155 w155 hag hR hI => ?_)
              refine faddOp (u := (sgl a)) (v := (sgl b)) hI rfl rfl rfl rfl rfl (by kernel_rfl) (by kernel_rfl) (fun z1 a156 w156 hz1 hk hI => ?_)
              replace hR := hR.same hk; clear hk
              replace hI := hI.sel [100, 99, 98, 0, 97, 9, 8, 7] (by kernel_rfl : sel _ _ = some [(100, .v (.float .f32 z1)), (99, .v (.float .f32 (sgl b))), (98, .v (.float .f32 (sgl a))), (0, .v (.int .i64 3)), (97, .v (.float .f32 z0)), (9, .v (.int .u16 ((r : Nat) : Int))), (8, .v (.float .f32 (sgl b))), (7, .v (.float .f32 (sgl a)))])
              refine part_ tab [6, 7] [8, 9, 10, 11, 12, 13, 14, 15, 16, 17, 18, 19, 20, 21] (by rfl) (k := 0) (hs := []) (sy := []) (ks := [102, 101, 100, 0, 97, 9, 8, 7]) (bs := []) (gs := [])
                  (L' := [(102, .v (.float .f32 (sgl b))), (101, .v (.float .f32 (sgl a))), (100, .v (.float .f32 z1)), (0, .v (.int .i64 3)), (97, .v (.float .f32 z0)), (9, .v (.int .u16 ((r : Nat) : Int))), (8, .v (.float .f32 (sgl b))), (7, .v (.float .f32 (sgl a)))])
                  (H' := []) (G' := []) (k' := 0) hR hI (by kernel_rfl)
                  .nil (fun e157 a157 w157 hag hR hI => ?_)
              refine faddOp (u := (sgl a)) (v := (sgl b)) hI rfl rfl rfl rfl rfl (by kernel_rfl) (by kernel_rfl) (fun z2 a158 w158 hz2 hk hI => ?_)
              replace hR := hR.same hk; clear hk
              replace hI := hI.sel [103, 102, 101, 100, 0, 97, 9, 8, 7] (by kernel_rfl : sel _ _ = some [(103, .v (.float .f32 z2)), (102, .v (.float .f32 (sgl b))), (101, .v (.float .f32 (sgl a))), (100, .v (.float .f32 z1)), (0, .v (.int .i64 3)), (97, .v (.float .f32 z0)), (9, .v (.int .u16 ((r : Nat) : Int))), (8, .v (.float .f32 (sgl b))), (7, .v (.float .f32 (sgl a)))])
              refine part_ tab [9, 10] [11, 12, 13, 14, 15, 16, 17, 18, 19, 20, 21] (by rfl) (k := 0) (hs := []) (sy := []) (ks := [105, 104, 103, 100, 0, 97, 9]) (bs := []) (gs := [])
                  (L' := [(105, .v (.float .f32 (sgl b))), (104, .v (.float .f32 (sgl a))), (103, .v (.float .f32 z2)), (100, .v (.float .f32 z1)), (0, .v (.int .i64 3)), (97, .v (.float .f32 z0)), (9, .v (.int .u16 ((r : Nat) : Int)))])
                  (H' := []) (G' := []) (k' := 0) hR hI (by kernel_rfl)
                  .nil (fun e159 a159 w159 hag hR hI => ?_)
              refine faddOp (u := (sgl a)) (v := (sgl b)) hI rfl rfl rfl rfl rfl (by kernel_rfl) (by kernel_rfl) (fun z3 a160 w160 hz3 hk hI => ?_)
              replace hR := hR.same hk; clear hk
              replace hI := hI.sel [106, 105, 104, 103, 100, 0, 97, 9] (by kernel_rfl : sel _ _ = some [(106, .v (.float .f32 z3)), (105, .v (.float .f32 (sgl b))), (104, .v (.float .f32 (sgl a))), (103, .v (.float .f32 z2)), (100, .v (.float .f32 z1)), (0, .v (.int .i64 3)), (97, .v (.float .f32 z0)), (9, .v (.int .u16 ((r : Nat) : Int)))])
              refine part_ tab [12, 13, 14, 15] [16, 17, 18, 19, 20, 21] (by rfl) (k := 0) (hs := []) (sy := []) (ks := [110, 9]) (bs := []) (gs := [])
                  (L' := [(110, .v (.float .f32 z3)), (9, .v (.int .u16 ((r : Nat) : Int)))])
                  (H' := []) (G' := []) (k' := 1) hR hI (by kernel_rfl)
                  (.cons (by omega : (0 : Int) ≤ (3 : Int) ∧ (3 : Int) < ((4 : Nat) : Int)) .nil) (fun e161 a161 w161 hag hR hI => ?_)
              refine callOp (ys := [.v (.float .f32 z3)]) hI rfl rfl ⟨_, rfl, rfl, rfl⟩ (by kernel_rfl) Try.func12 rfl rfl ?_
              refine (cut_spec (C := C) (z := z3) (fres_lt hz3)).mono ?_
              rintro ex w162 ⟨⟨x, is_, rfl, hx⟩, hk⟩
              replace hR := hR.same hk; clear hk
              refine ⟨_, rfl, ?_⟩
              replace hI := hI.put (d := some 111) (x := .v (.tuple #[.int .u16 x, .bool is_])) (by intro t ht; cases ht; decide) rfl
              replace hI := hI.sel [111, 110, 9] (by kernel_rfl : sel _ _ = some [(111, .v (.tuple #[.int .u16 x, .bool is_])), (110, .v (.float .f32 z3)), (9, .v (.int .u16 ((r : Nat) : Int)))])
              refine part_ tab [17, 18, 19, 20, 21] [] (by rfl) (k := 1) (hs := []) (sy := []) (ks := [11, 10, 9]) (bs := []) (gs := [])
                  (L' := [(11, .v (.bool is_)), (10, .v (.int .u16 x)), (9, .v (.int .u16 ((r : Nat) : Int)))])
                  (H' := []) (G' := []) (k' := 1) hR hI (by kernel_rfl)
                  .nil (fun e163 a163 w163 hag hR hI => ?_)
              refine ops_nil ?_
              refine then_n ?_
              refine wp_seq ?_
              refine reg (is := [0, 1, 2, 3, 4, 5, 6, 7, 8, 9, 10]) (by kernel_rfl) ?_
              refine callOp (ys := []) hI rfl rfl ⟨_, rfl, rfl, rfl⟩ (by kernel_rfl) Try.func6 rfl rfl ?_
              refine (halves_spec (C := C)).mono ?_
              rintro ex w164 ⟨rfl, hk⟩
              replace hR := hR.same hk; clear hk
              refine ⟨_, rfl, ?_⟩
              replace hI := hI.put (d := some 114) (x := .v (.bool true)) (by intro t ht; cases ht; decide) rfl
              replace hI := hI.sel [114, 11, 10, 9] (by kernel_rfl : sel _ _ = some [(114, .v (.bool true)), (11, .v (.bool is_)), (10, .v (.int .u16 x)), (9, .v (.int .u16 ((r : Nat) : Int)))])
              refine part_ tab [1, 2, 3, 4, 5, 6] [7, 8, 9, 10] (by rfl) (k := 1) (hs := []) (sy := [5, 6]) (ks := [120, 119, 118, 115]) (bs := []) (gs := [])
                  (L' := [(120, .gd 4 false (!is_) (.v (.int .u16 x))), (119, .gd 4 false (!is_) (.v (.int .u16 ((r : Nat) : Int)))), (118, .v (.bool (!is_))), (115, .v (.bool true))])
                  (H' := []) (G' := []) (k' := 1) hR hI (by kernel_rfl)
                  (.cons (rfl : (!is_) = (!is_)) .nil) (fun e165 a165 w165 hag hR hI => ?_)
              rcases Bool.eq_false_or_eq_true (!is_) with hc166 | hc166
              · skip
                replace hI := hI.re 118 (.v (.bool true)) rfl (congrArg Value.bool hc166)
                try simp only [decide_eq_true_eq, decide_eq_false_iff_not, beq_iff_eq, bne_iff_ne, beq_eq_false_iff_ne, bne_eq_false_iff_eq, Bool.and_eq_true, Bool.and_eq_false_iff, Bool.or_eq_true, Bool.or_eq_false_iff, Bool.not_eq_true', Bool.not_eq_false', ne_eq] at hc166
                refine part_ tab [] [7, 8, 9, 10] (by rfl) (k := 1) (hs := []) (sy := []) (ks := [118, 115]) (bs := []) (gs := [])
                    (L' := [(118, .v (.bool true)), (115, .v (.bool true))])
                    (H' := []) (G' := []) (k' := 1) hR hI (by kernel_rfl)
                    .nil (fun e167 a167 w167 hag hR hI => ?_)
                refine part_ tab [7, 8, 9, 10] [] (by rfl) (k := 1) (hs := []) (sy := []) (ks := [6]) (bs := []) (gs := [])
                    (L' := [(6, .v (.bool true))])
                    (H' := []) (G' := []) (k' := 1) hR hI (by kernel_rfl)
                    .nil (fun e168 a168 w168 hag hR hI => ?_)
                refine ops_nil ?_
                refine then_n ?_
                refine wp_ret ?_
                refine outN tab (xs := [.v (.bool true)]) hR hI rfl (by kernel_rfl) ?_
                exact ⟨rfl, hB.fin hR⟩
              · skip
                replace hI := hI.re 120 (.v (.int .u16 x)) rfl (by rw [den, hc166]; rfl)
                replace hI := hI.re 119 (.v (.int .u16 ((r : Nat) : Int))) rfl (by rw [den, hc166]; rfl)
                replace hI := hI.re 118 (.v (.bool false)) rfl (congrArg Value.bool hc166)
                try simp only [decide_eq_true_eq, decide_eq_false_iff_not, beq_iff_eq, bne_iff_ne, beq_eq_false_iff_ne, bne_eq_false_iff_eq, Bool.and_eq_true, Bool.and_eq_false_iff, Bool.or_eq_true, Bool.or_eq_false_iff, Bool.not_eq_true', Bool.not_eq_false', ne_eq] at hc166
                refine callOp (ys := [.v (.int .u16 ((r : Nat) : Int)), .v (.int .u16 x)]) hI rfl rfl ⟨_, rfl, rfl, rfl⟩ (by kernel_rfl) Try.func11 rfl rfl ?_
                have hi_ : is_ = true := by first | assumption | simp_all only [Bool.not_eq_false']
                obtain ⟨hxe, hnn⟩ := hx hi_
                obtain ⟨zz, hzz, hrr⟩ := hr4
                have hze := fres_same hz3 hzz hnn
                rw [hxe, hrr, hze]
                refine (sameEq_spec (C := C)).mono ?_
                rintro ex w169 ⟨rfl, hk⟩
                replace hR := hR.same hk; clear hk
                refine ⟨_, rfl, ?_⟩
                replace hI := hI.put (d := some 121) (x := .v (.bool true)) (by intro t ht; cases ht; decide) rfl
                replace hI := hI.sel [121, 118, 119, 120, 115] (by kernel_rfl : sel _ _ = some [(121, .v (.bool true)), (118, .v (.bool false)), (119, .v (.int .u16 ((r : Nat) : Int))), (120, .v (.int .u16 x)), (115, .v (.bool true))])
                refine part_ tab [8, 9, 10] [] (by rfl) (k := 1) (hs := []) (sy := []) (ks := [6]) (bs := []) (gs := [])
                    (L' := [(6, .v (.bool true))])
                    (H' := []) (G' := []) (k' := 1) hR hI (by kernel_rfl)
                    .nil (fun e170 a170 w170 hag hR hI => ?_)
                refine ops_nil ?_
                refine then_n ?_
                refine wp_ret ?_
                refine outN tab (xs := [.v (.bool true)]) hR hI rfl (by kernel_rfl) ?_
                exact ⟨rfl, hB.fin hR⟩

end Go.Proofs.Ytahbgcjcfbjbmaa.Stride
