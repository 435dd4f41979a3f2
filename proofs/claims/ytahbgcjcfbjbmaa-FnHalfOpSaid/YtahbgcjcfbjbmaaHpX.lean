/- Walks of the program's functions, printed by a program of mine (walk.py) over the words of Stride: each function's contract. -/
import Derived.Test.YtahbgcjcfbjbmaaHpW
namespace Go.Proofs.Ytahbgcjcfbjbmaa.Stride
open Go Go.RowKit Go.Proofs.Ytahbgcjcfbjbmaa.Mag
set_option linter.unusedVariables false
set_option linter.unusedSimpArgs false
theorem bft : ∀ y : Bool, ((true && (y == false)) == true) = !y := by decide
def usual (a : Nat) : Bool := decide ((a / 1024 % 32 = 0 → a % 1024 = 0) ∧ (a / 1024 % 32 = 31 → a % 1024 = 0))

set_option maxHeartbeats 4000000 in
set_option maxRecDepth 100000 in
theorem usualHalf_spec {C : Nat → Prop} {w : World} {a : Nat} (ha : a < 65536) :
    Calls P 5 #[.int .u16 ((a : Nat) : Int)] w fun ex w' => ex = .returned (.bool (usual a)) ∧ Keep (fun b => b < w.heap.size) w w' := by
  refine doorN (e := e0) (vs := [.v (.int .u16 ((a : Nat) : Int))]) (n := 17) (m := 1) Try.func5 rfl rfl rfl (by decide) fun a_ hI => ?_
  replace hI : Is 17 [] e0 [(0, .v (.int .u16 ((a : Nat) : Int)))] a_ := hI
  have hR : Rel (fun b => b < w.heap.size) w e0 [] [] w := Rel.start (fun k hk => hk)
  have hB : Base C w C (fun b => b < w.heap.size) w := Base.start
  refine reg_seq tab (k := 0) (hs := []) (sy := []) (ks := [0]) (bs := []) (gs := [])
      (L' := [(0, .v (.int .u16 ((a : Nat) : Int)))])
      (H' := []) (G' := []) (k' := 0) hR hI (by kernel_rfl)
      .nil (fun e1 a1 w1 hag hR hI => ?_)
  refine wp_seq ?_
  refine reg (is := [0, 1, 2, 3, 4, 5, 6, 7, 8, 9, 10, 11, 12, 13, 14]) (by kernel_rfl) ?_
  refine part_ tab [0] [1, 2, 3, 4, 5, 6, 7, 8, 9, 10, 11, 12, 13, 14] (by rfl) (k := 0) (hs := []) (sy := []) (ks := [3, 0]) (bs := []) (gs := [])
      (L' := [(3, .v (.int .u16 ((a : Nat) : Int))), (0, .v (.int .u16 ((a : Nat) : Int)))])
      (H' := []) (G' := []) (k' := 0) hR hI (by kernel_rfl)
      .nil (fun e2 a2 w2 hag hR hI => ?_)
  refine callOp (ys := [.v (.int .u16 ((a : Nat) : Int))]) hI rfl rfl ⟨_, rfl, rfl, rfl⟩ (by kernel_rfl) Try.func13 rfl rfl ?_
  refine (halfNaN_spec (C := C) ha).mono ?_
  rintro ex w3 ⟨rfl, hk⟩
  replace hR := hR.same hk; clear hk
  refine ⟨_, rfl, ?_⟩
  replace hI := hI.put (d := some 4) (x := .v (.bool (decide (a / 1024 % 32 = 31 ∧ a % 1024 ≠ 0)))) (by intro t ht; cases ht; decide) rfl
  replace hI := hI.sel [4, 3, 0] (by kernel_rfl : sel _ _ = some [(4, .v (.bool (decide (a / 1024 % 32 = 31 ∧ a % 1024 ≠ 0)))), (3, .v (.int .u16 ((a : Nat) : Int))), (0, .v (.int .u16 ((a : Nat) : Int)))])
  refine part_ tab [2, 3, 4, 5, 6, 7, 8, 9, 10, 11, 12, 13, 14] [] (by rfl) (k := 0) (hs := [(6, .eq (.int .u16 ((a / 1024 % 32 : Nat) : Int))), (10, .eq (.int .u16 ((a % 1024 : Nat) : Int))), (12, .sym), (13, .sym)]) (sy := [4, 5, 6, 7, 8, 9, 10, 11, 12]) (ks := [2]) (bs := []) (gs := [])
      (L' := [(2, .v (.bool ((!(decide (a / 1024 % 32 = 31 ∧ a % 1024 ≠ 0))) && ((((a / 1024 % 32 : Nat) : Int) != (0 : Int)) || (((a % 1024 : Nat) : Int) == (0 : Int))))))])
      (H' := []) (G' := []) (k' := 0) hR hI (by kernel_rfl)
      (.cons (rfl : (!(decide (a / 1024 % 32 = 31 ∧ a % 1024 ≠ 0))) = (!(decide (a / 1024 % 32 = 31 ∧ a % 1024 ≠ 0)))) (.cons (fun (hg : ((!(decide (a / 1024 % 32 = 31 ∧ a % 1024 ≠ 0))) == true) = true) => (by skip; decide : (0 : Int) ≤ 10)) (.cons (fun (hg : ((!(decide (a / 1024 % 32 = 31 ∧ a % 1024 ≠ 0))) == true) = true) => (by skip; decide : (10 : Int) ≤ (IntKind.u16.bits : Int))) (.cons (rfl : (!(decide (a / 1024 % 32 = 31 ∧ a % 1024 ≠ 0))) = (!(decide (a / 1024 % 32 = 31 ∧ a % 1024 ≠ 0)))) (.cons (rfl : (!(decide (a / 1024 % 32 = 31 ∧ a % 1024 ≠ 0))) = (!(decide (a / 1024 % 32 = 31 ∧ a % 1024 ≠ 0)))) (.cons (fun (hg : ((!(decide (a / 1024 % 32 = 31 ∧ a % 1024 ≠ 0))) == true) = true) => (congrArg (Value.int .u16) (u16_and31 (a / 1024) (by skip; omega) : bits .and .u16 ((a / 1024 : Nat) : Int) (31 : Int) = ((a / 1024 % 32 : Nat) : Int)))) (.cons (rfl : (!(decide (a / 1024 % 32 = 31 ∧ a % 1024 ≠ 0))) = (!(decide (a / 1024 % 32 = 31 ∧ a % 1024 ≠ 0)))) (.cons (rfl : (!(decide (a / 1024 % 32 = 31 ∧ a % 1024 ≠ 0))) = (!(decide (a / 1024 % 32 = 31 ∧ a % 1024 ≠ 0)))) (.cons (rfl : (!(decide (a / 1024 % 32 = 31 ∧ a % 1024 ≠ 0))) = (!(decide (a / 1024 % 32 = 31 ∧ a % 1024 ≠ 0)))) (.cons (rfl : (!(decide (a / 1024 % 32 = 31 ∧ a % 1024 ≠ 0))) = (!(decide (a / 1024 % 32 = 31 ∧ a % 1024 ≠ 0)))) (.cons (rfl : (!(decide (a / 1024 % 32 = 31 ∧ a % 1024 ≠ 0))) = (!(decide (a / 1024 % 32 = 31 ∧ a % 1024 ≠ 0)))) (.cons (rfl : (!(decide (a / 1024 % 32 = 31 ∧ a % 1024 ≠ 0))) = (!(decide (a / 1024 % 32 = 31 ∧ a % 1024 ≠ 0)))) (.cons (rfl : (!(decide (a / 1024 % 32 = 31 ∧ a % 1024 ≠ 0))) = (!(decide (a / 1024 % 32 = 31 ∧ a % 1024 ≠ 0)))) (.cons (rfl : (((!(decide (a / 1024 % 32 = 31 ∧ a % 1024 ≠ 0))) == true) && ((((a / 1024 % 32 : Nat) : Int) != (0 : Int)) == false)) = (((!(decide (a / 1024 % 32 = 31 ∧ a % 1024 ≠ 0))) == true) && ((((a / 1024 % 32 : Nat) : Int) != (0 : Int)) == false))) (.cons (fun (hg : ((((!(decide (a / 1024 % 32 = 31 ∧ a % 1024 ≠ 0))) == true) && ((((a / 1024 % 32 : Nat) : Int) != (0 : Int)) == false)) == true) = true) => (congrArg (Value.int .u16) (u16_and1023 a ha : bits .and .u16 ((a : Nat) : Int) (1023 : Int) = ((a % 1024 : Nat) : Int)))) (.cons (rfl : (((!(decide (a / 1024 % 32 = 31 ∧ a % 1024 ≠ 0))) == true) && ((((a / 1024 % 32 : Nat) : Int) != (0 : Int)) == false)) = (((!(decide (a / 1024 % 32 = 31 ∧ a % 1024 ≠ 0))) == true) && ((((a / 1024 % 32 : Nat) : Int) != (0 : Int)) == false))) (.cons (rfl : (((!(decide (a / 1024 % 32 = 31 ∧ a % 1024 ≠ 0))) == true) && ((((a / 1024 % 32 : Nat) : Int) != (0 : Int)) == false)) = (((!(decide (a / 1024 % 32 = 31 ∧ a % 1024 ≠ 0))) == true) && ((((a / 1024 % 32 : Nat) : Int) != (0 : Int)) == false))) (.cons (rfl : (!(decide (a / 1024 % 32 = 31 ∧ a % 1024 ≠ 0))) = (!(decide (a / 1024 % 32 = 31 ∧ a % 1024 ≠ 0)))) (.cons (rfl : (!(decide (a / 1024 % 32 = 31 ∧ a % 1024 ≠ 0))) = (!(decide (a / 1024 % 32 = 31 ∧ a % 1024 ≠ 0)))) (.cons (rfl : (!(decide (a / 1024 % 32 = 31 ∧ a % 1024 ≠ 0))) = (!(decide (a / 1024 % 32 = 31 ∧ a % 1024 ≠ 0)))) (.cons (rfl : (!(decide (a / 1024 % 32 = 31 ∧ a % 1024 ≠ 0))) = (!(decide (a / 1024 % 32 = 31 ∧ a % 1024 ≠ 0)))) (.cons (rfl : (!(decide (a / 1024 % 32 = 31 ∧ a % 1024 ≠ 0))) = (!(decide (a / 1024 % 32 = 31 ∧ a % 1024 ≠ 0)))) (.cons (fun (hg : ((!(decide (a / 1024 % 32 = 31 ∧ a % 1024 ≠ 0))) == true) = true) => (by skip; first | exact Bool.beq_true _ | exact Bool.beq_false _ | rfl | (rw [hg]; exact bft _) | simp_all : ((((!(decide (a / 1024 % 32 = 31 ∧ a % 1024 ≠ 0))) == true) && ((((a / 1024 % 32 : Nat) : Int) != (0 : Int)) == false)) == true) = !(((a / 1024 % 32 : Nat) : Int) != (0 : Int)))) (.cons (by first | exact Bool.beq_true _ | exact Bool.beq_false _ | rfl | (rw [hg]; exact bft _) | simp_all : ((!(decide (a / 1024 % 32 = 31 ∧ a % 1024 ≠ 0))) == true) = (!(decide (a / 1024 % 32 = 31 ∧ a % 1024 ≠ 0)))) .nil)))))))))))))))))))))))) (fun e4 a4 w4 hag hR hI => ?_)
  refine ops_nil ?_
  refine then_n ?_
  refine wp_ret ?_
  refine outN tab (xs := [.v (.bool ((!(decide (a / 1024 % 32 = 31 ∧ a % 1024 ≠ 0))) && ((((a / 1024 % 32 : Nat) : Int) != (0 : Int)) || (((a % 1024 : Nat) : Int) == (0 : Int)))))]) hR hI rfl (by kernel_rfl) ?_
  have hu_ : usual a = (((!(decide (a / 1024 % 32 = 31 ∧ a % 1024 ≠ 0))) && ((((a / 1024 % 32 : Nat) : Int) != (0 : Int)) || (((a % 1024 : Nat) : Int) == (0 : Int))))) := by unfold usual; rw [Bool.eq_iff_iff]; simp only [Bool.and_eq_true, Bool.or_eq_true, Bool.not_eq_true', bne_iff_ne, beq_iff_eq, ne_eq, decide_eq_true_eq, decide_eq_false_iff_not]; omega
  exact ⟨by rw [hu_]; rfl, hB.fin hR⟩

set_option maxHeartbeats 4000000 in
set_option maxRecDepth 100000 in
theorem HalfNew_spec {C : Nat → Prop} {w : World} {z : Nat} (hz : z < 4294967296) :
    Calls P 14 #[.float .f32 z] w fun ex w' => ex = .returned (.int .u16 ((newH z : Nat) : Int)) ∧ Keep (fun b => b < w.heap.size) w w' := by
  refine doorN (e := e0) (vs := [.v (.float .f32 z)]) (n := 6) (m := 1) Try.func14 rfl rfl rfl (by decide) fun a_ hI => ?_
  replace hI : Is 6 [] e0 [(0, .v (.float .f32 z))] a_ := hI
  have hR : Rel (fun b => b < w.heap.size) w e0 [] [] w := Rel.start (fun k hk => hk)
  have hB : Base C w C (fun b => b < w.heap.size) w := Base.start
  refine reg_seq tab (k := 0) (hs := []) (sy := []) (ks := [0]) (bs := []) (gs := [])
      (L' := [(0, .v (.float .f32 z))])
      (H' := []) (G' := []) (k' := 0) hR hI (by kernel_rfl)
      .nil (fun e1 a1 w1 hag hR hI => ?_)
  refine wp_seq ?_
  refine reg (is := [0, 1, 2, 3]) (by kernel_rfl) ?_
  refine part_ tab [0] [1, 2, 3] (by rfl) (k := 0) (hs := []) (sy := []) (ks := [3]) (bs := []) (gs := [])
      (L' := [(3, .v (.float .f32 z))])
      (H' := []) (G' := []) (k' := 0) hR hI (by kernel_rfl)
      .nil (fun e2 a2 w2 hag hR hI => ?_)
  refine callOp (ys := [.v (.float .f32 z)]) hI rfl rfl ⟨_, rfl, rfl, rfl⟩ (by kernel_rfl) Try.func35 rfl rfl ?_
  refine (new_spec (C := C) (z := z) hz).mono ?_
  rintro ex w3 ⟨rfl, hk⟩
  replace hR := hR.same hk; clear hk
  refine ⟨_, rfl, ?_⟩
  replace hI := hI.put (d := some 4) (x := .v (.agg #[.int .u16 ((newH z : Nat) : Int)])) (by intro t ht; cases ht; decide) rfl
  replace hI := hI.sel [4, 3] (by kernel_rfl : sel _ _ = some [(4, .v (.agg #[.int .u16 ((newH z : Nat) : Int)])), (3, .v (.float .f32 z))])
  refine callOp (ys := [.v (.agg #[.int .u16 ((newH z : Nat) : Int)])]) hI rfl rfl ⟨_, rfl, rfl, rfl⟩ (by kernel_rfl) Try.func27 rfl rfl ?_
  refine (uint16_spec (C := C) (((newH z : Nat) : Int))).mono ?_
  rintro ex w4 ⟨rfl, hk⟩
  replace hR := hR.same hk; clear hk
  refine ⟨_, rfl, ?_⟩
  replace hI := hI.put (d := some 5) (x := .v (.int .u16 ((newH z : Nat) : Int))) (by intro t ht; cases ht; decide) rfl
  replace hI := hI.sel [5, 4, 3] (by kernel_rfl : sel _ _ = some [(5, .v (.int .u16 ((newH z : Nat) : Int))), (4, .v (.agg #[.int .u16 ((newH z : Nat) : Int)])), (3, .v (.float .f32 z))])
  refine part_ tab [3] [] (by rfl) (k := 0) (hs := []) (sy := []) (ks := [2]) (bs := []) (gs := [])
      (L' := [(2, .v (.int .u16 ((newH z : Nat) : Int)))])
      (H' := []) (G' := []) (k' := 0) hR hI (by kernel_rfl)
      .nil (fun e5 a5 w5 hag hR hI => ?_)
  refine ops_nil ?_
  refine then_n ?_
  refine wp_ret ?_
  refine outN tab (xs := [.v (.int .u16 ((newH z : Nat) : Int))]) hR hI rfl (by kernel_rfl) ?_
  exact ⟨rfl, hB.fin hR⟩

set_option maxHeartbeats 4000000 in
set_option maxRecDepth 100000 in
theorem HalfFloat_spec {C : Nat → Prop} {w : World} {a : Nat} (ha : a < 65536) :
    Calls P 15 #[.int .u16 ((a : Nat) : Int)] w fun ex w' => ex = .returned (.float .f32 (sgl a)) ∧ Keep (fun b => b < w.heap.size) w w' := by
  refine doorN (e := e0) (vs := [.v (.int .u16 ((a : Nat) : Int))]) (n := 6) (m := 1) Try.func15 rfl rfl rfl (by decide) fun a_ hI => ?_
  replace hI : Is 6 [] e0 [(0, .v (.int .u16 ((a : Nat) : Int)))] a_ := hI
  have hR : Rel (fun b => b < w.heap.size) w e0 [] [] w := Rel.start (fun k hk => hk)
  have hB : Base C w C (fun b => b < w.heap.size) w := Base.start
  refine reg_seq tab (k := 0) (hs := []) (sy := []) (ks := [0]) (bs := []) (gs := [])
      (L' := [(0, .v (.int .u16 ((a : Nat) : Int)))])
      (H' := []) (G' := []) (k' := 0) hR hI (by kernel_rfl)
      .nil (fun e1 a1 w1 hag hR hI => ?_)
  refine wp_seq ?_
  refine reg (is := [0, 1, 2, 3]) (by kernel_rfl) ?_
  refine part_ tab [0] [1, 2, 3] (by rfl) (k := 0) (hs := []) (sy := []) (ks := [3]) (bs := []) (gs := [])
      (L' := [(3, .v (.int .u16 ((a : Nat) : Int)))])
      (H' := []) (G' := []) (k' := 0) hR hI (by kernel_rfl)
      .nil (fun e2 a2 w2 hag hR hI => ?_)
  refine callOp (ys := [.v (.int .u16 ((a : Nat) : Int))]) hI rfl rfl ⟨_, rfl, rfl, rfl⟩ (by kernel_rfl) Try.func19 rfl rfl ?_
  refine (fromBits_spec (C := C) (((a : Nat) : Int))).mono ?_
  rintro ex w3 ⟨rfl, hk⟩
  replace hR := hR.same hk; clear hk
  refine ⟨_, rfl, ?_⟩
  replace hI := hI.put (d := some 4) (x := .v (.agg #[.int .u16 ((a : Nat) : Int)])) (by intro t ht; cases ht; decide) rfl
  replace hI := hI.sel [4, 3] (by kernel_rfl : sel _ _ = some [(4, .v (.agg #[.int .u16 ((a : Nat) : Int)])), (3, .v (.int .u16 ((a : Nat) : Int)))])
  refine callOp (ys := [.v (.agg #[.int .u16 ((a : Nat) : Int)])]) hI rfl rfl ⟨_, rfl, rfl, rfl⟩ (by kernel_rfl) Try.func36 rfl rfl ?_
  refine (float32_spec (C := C) (a := a) ha).mono ?_
  rintro ex w4 ⟨rfl, hk⟩
  replace hR := hR.same hk; clear hk
  refine ⟨_, rfl, ?_⟩
  replace hI := hI.put (d := some 5) (x := .v (.float .f32 (sgl a))) (by intro t ht; cases ht; decide) rfl
  replace hI := hI.sel [5, 4, 3] (by kernel_rfl : sel _ _ = some [(5, .v (.float .f32 (sgl a))), (4, .v (.agg #[.int .u16 ((a : Nat) : Int)])), (3, .v (.int .u16 ((a : Nat) : Int)))])
  refine part_ tab [3] [] (by rfl) (k := 0) (hs := []) (sy := []) (ks := [2]) (bs := []) (gs := [])
      (L' := [(2, .v (.float .f32 (sgl a)))])
      (H' := []) (G' := []) (k' := 0) hR hI (by kernel_rfl)
      .nil (fun e5 a5 w5 hag hR hI => ?_)
  refine ops_nil ?_
  refine then_n ?_
  refine wp_ret ?_
  refine outN tab (xs := [.v (.float .f32 (sgl a))]) hR hI rfl (by kernel_rfl) ?_
  exact ⟨rfl, hB.fin hR⟩

theorem newH_one : ((newH 1065353216 : Nat) : Int) = 15360 := by decide
theorem sgl_one : sgl 15360 = 1065353216 := by decide
theorem one_same : (FloatKind.f32.format.order (sgl 15360) 1065353216 == some .eq) = true := by rw [sgl_one]; decide +kernel

set_option maxHeartbeats 4000000 in
set_option maxRecDepth 100000 in
theorem halves_spec {C : Nat → Prop} {w : World} :
    Calls P 6 #[] w fun ex w' => ex = .returned (.bool true) ∧ Keep (fun b => b < w.heap.size) w w' := by
  refine doorN (e := e0) (vs := []) (n := 7) (m := 0) Try.func6 rfl rfl rfl (by decide) fun a_ hI => ?_
  replace hI : Is 7 [] e0 [] a_ := hI
  have hR : Rel (fun b => b < w.heap.size) w e0 [] [] w := Rel.start (fun k hk => hk)
  have hB : Base C w C (fun b => b < w.heap.size) w := Base.start
  refine reg_seq tab (k := 0) (hs := []) (sy := []) (ks := []) (bs := []) (gs := [])
      (L' := [])
      (H' := []) (G' := []) (k' := 0) hR hI (by kernel_rfl)
      .nil (fun e1 a1 w1 hag hR hI => ?_)
  refine wp_seq ?_
  refine reg (is := [0, 1, 2, 3, 4, 5, 6]) (by kernel_rfl) ?_
  refine callOp (ys := [.v (.float .f32 1065353216)]) hI rfl rfl ⟨_, rfl, rfl, rfl⟩ (by kernel_rfl) Try.func14 rfl rfl ?_
  refine (HalfNew_spec (C := C) (z := 1065353216) (by decide)).mono ?_
  rintro ex w2 ⟨rfl, hk⟩
  replace hR := hR.same hk; clear hk
  rw [newH_one]
  refine ⟨_, rfl, ?_⟩
  replace hI := hI.put (d := some 1) (x := .v (.int .u16 15360)) (by intro t ht; cases ht; decide) rfl
  replace hI := hI.sel [1] (by kernel_rfl : sel _ _ = some [(1, .v (.int .u16 15360))])
  refine part_ tab [1, 2] [3, 4, 5, 6] (by rfl) (k := 0) (hs := []) (sy := []) (ks := [3]) (bs := []) (gs := [])
      (L' := [(3, .v (.bool true))])
      (H' := []) (G' := []) (k' := 0) hR hI (by kernel_rfl)
      .nil (fun e3 a3 w3 hag hR hI => ?_)
  refine callOp (ys := [.v (.int .u16 15360)]) hI rfl rfl ⟨_, rfl, rfl, rfl⟩ (by kernel_rfl) Try.func15 rfl rfl ?_
  refine (HalfFloat_spec (C := C) (a := 15360) (by decide)).mono ?_
  rintro ex w4 ⟨rfl, hk⟩
  replace hR := hR.same hk; clear hk
  refine ⟨_, rfl, ?_⟩
  replace hI := hI.put (d := some 4) (x := .v (.float .f32 (sgl 15360))) (by intro t ht; cases ht; decide) rfl
  replace hI := hI.sel [4, 3] (by kernel_rfl : sel _ _ = some [(4, .v (.float .f32 (sgl 15360))), (3, .v (.bool true))])
  refine part_ tab [4, 5, 6] [] (by rfl) (k := 0) (hs := [(4, .eq (.bool true))]) (sy := []) (ks := [0]) (bs := []) (gs := [])
      (L' := [(0, .v (.bool true))])
      (H' := []) (G' := []) (k' := 0) hR hI (by kernel_rfl)
      (.cons (congrArg Value.bool (one_same : (FloatKind.f32.format.order (sgl 15360) 1065353216 == some .eq) = true)) .nil) (fun e5 a5 w5 hag hR hI => ?_)
  refine ops_nil ?_
  refine then_n ?_
  refine wp_ret ?_
  refine outN tab (xs := [.v (.bool true)]) hR hI rfl (by kernel_rfl) ?_
  exact ⟨rfl, hB.fin hR⟩

set_option maxHeartbeats 4000000 in
set_option maxRecDepth 100000 in
theorem Greater_spec {C : Nat → Prop} {w : World} {a b : Nat} (ha : a < 65536) (hb : b < 65536) :
    Calls P 41 #[.agg #[.int .u16 ((a : Nat) : Int)], .agg #[.int .u16 ((b : Nat) : Int)]] w fun ex w' => ex = .returned (.bool (FloatKind.f32.format.order (sgl a) (sgl b) == some .gt)) ∧ Keep (fun b => b < w.heap.size) w w' := by
  refine doorN (e := e0) (vs := [.v (.agg #[.int .u16 ((a : Nat) : Int)]), .v (.agg #[.int .u16 ((b : Nat) : Int)])]) (n := 10) (m := 2) Try.func41 rfl rfl rfl (by decide) fun a_ hI => ?_
  replace hI : Is 10 [] e0 [(0, .v (.agg #[.int .u16 ((a : Nat) : Int)])), (1, .v (.agg #[.int .u16 ((b : Nat) : Int)]))] a_ := hI
  have hR : Rel (fun b => b < w.heap.size) w e0 [] [] w := Rel.start (fun k hk => hk)
  have hB : Base C w C (fun b => b < w.heap.size) w := Base.start
  refine reg_seq tab (k := 0) (hs := []) (sy := []) (ks := [3, 2]) (bs := [1, 0]) (gs := [])
      (L' := [(3, .p 1 0), (2, .p 0 0)])
      (H' := [⟨1, 44, [.v (.int .u16 ((b : Nat) : Int))]⟩, ⟨0, 44, [.v (.int .u16 ((a : Nat) : Int))]⟩]) (G' := []) (k' := 2) hR hI (by kernel_rfl)
      .nil (fun e1 a1 w1 hag hR hI => ?_)
  refine wp_seq ?_
  refine regL 5 hR (by kernel_rfl) (fun hS => ?_)
  replace hR := hR.drew; have hF := hR.fore
  refine takeL tab (H := [⟨1, 44, [.v (.int .u16 ((b : Nat) : Int))]⟩, ⟨0, 44, [.v (.int .u16 ((a : Nat) : Int))]⟩]) (G := []) (hs := []) (gs := []) (is := [0, 2]) (ks := [7, 5]) (f' := 4)
      (L' := [(7, .agg [.v (.int .u16 ((b : Nat) : Int))]), (5, .agg [.v (.int .u16 ((a : Nat) : Int))])]) hS hI (by kernel_rfl) (fun _ _ _ _ _ h => h) (by kernel_rfl)
      .nil (by kernel_rfl) (by kernel_rfl) (by kernel_rfl) (by rfl) (fun a2 hI => ?_)
  refine oneL (i := 1) (f' := 3) (by kernel_rfl) (by rfl) ?_
  refine callH (ys := [.agg [.v (.int .u16 ((a : Nat) : Int))]]) hI rfl rfl ⟨_, rfl, rfl, rfl⟩ (by kernel_rfl) Try.func36 rfl rfl ?_
  refine (float32_spec (C := C) (a := a) ha).mono ?_
  rintro ex w3 ⟨rfl, hk⟩
  replace hS := hS.same hk; replace hR := hR.same hk; clear hk
  refine ⟨_, rfl, hS, ?_⟩
  replace hI := hI.put (d := some 6) (x := .v (.float .f32 (sgl a))) (by intro t ht; cases ht; decide) rfl
  replace hI := hI.sel [6, 7, 5] (by kernel_rfl : sel _ _ = some [(6, .v (.float .f32 (sgl a))), (7, .agg [.v (.int .u16 ((b : Nat) : Int))]), (5, .agg [.v (.int .u16 ((a : Nat) : Int))])])
  refine oneL (i := 3) (f' := 2) (by kernel_rfl) (by rfl) ?_
  refine callH (ys := [.agg [.v (.int .u16 ((b : Nat) : Int))]]) hI rfl rfl ⟨_, rfl, rfl, rfl⟩ (by kernel_rfl) Try.func36 rfl rfl ?_
  refine (float32_spec (C := C) (a := b) hb).mono ?_
  rintro ex w4 ⟨rfl, hk⟩
  replace hS := hS.same hk; replace hR := hR.same hk; clear hk
  refine ⟨_, rfl, hS, ?_⟩
  replace hI := hI.put (d := some 8) (x := .v (.float .f32 (sgl b))) (by intro t ht; cases ht; decide) rfl
  replace hI := hI.sel [8, 6, 7, 5] (by kernel_rfl : sel _ _ = some [(8, .v (.float .f32 (sgl b))), (6, .v (.float .f32 (sgl a))), (7, .agg [.v (.int .u16 ((b : Nat) : Int))]), (5, .agg [.v (.int .u16 ((a : Nat) : Int))])])
  refine takeL tab (H := [⟨1, 44, [.v (.int .u16 ((b : Nat) : Int))]⟩, ⟨0, 44, [.v (.int .u16 ((a : Nat) : Int))]⟩]) (G := []) (hs := []) (gs := []) (is := [4]) (ks := [9]) (f' := 1)
      (L' := [(9, .v (.bool (FloatKind.f32.format.order (sgl a) (sgl b) == some .gt)))]) hS hI (by kernel_rfl) (fun _ _ _ _ _ h => h) (by kernel_rfl)
      .nil (by kernel_rfl) (by kernel_rfl) (by kernel_rfl) (by rfl) (fun a5 hI => ?_)
  refine endL (i := 5) (f' := 0) (by kernel_rfl) (by rfl) (by kernel_rfl) ?_
  refine quietL tab (hh := .no) (x := .v (.bool (FloatKind.f32.format.order (sgl a) (sgl b) == some .gt))) hR hI rfl rfl rfl (by kernel_rfl) .nil (fun a6 hI => ?_)
  replace hI := hI.sel [4, 9] (by kernel_rfl : sel _ _ = some [(4, .v (.bool (FloatKind.f32.format.order (sgl a) (sgl b) == some .gt))), (9, .v (.bool (FloatKind.f32.format.order (sgl a) (sgl b) == some .gt)))])
  refine doneL (by kernel_rfl) ?_
  refine then_n ?_
  replace hI := hI.sel [4] (by kernel_rfl : sel _ _ = some [(4, .v (.bool (FloatKind.f32.format.order (sgl a) (sgl b) == some .gt)))]); replace hR := hR.sel [] [] (by kernel_rfl : selH _ _ = some []) (by kernel_rfl : selG _ _ = some [])
  refine wp_ret ?_
  refine outN tab (xs := [.v (.bool (FloatKind.f32.format.order (sgl a) (sgl b) == some .gt))]) hR hI rfl (by kernel_rfl) ?_
  exact ⟨rfl, hB.fin hR⟩

set_option maxHeartbeats 4000000 in
set_option maxRecDepth 100000 in
theorem Less_spec {C : Nat → Prop} {w : World} {a b : Nat} (ha : a < 65536) (hb : b < 65536) :
    Calls P 42 #[.agg #[.int .u16 ((a : Nat) : Int)], .agg #[.int .u16 ((b : Nat) : Int)]] w fun ex w' => ex = .returned (.bool (FloatKind.f32.format.order (sgl a) (sgl b) == some .lt)) ∧ Keep (fun b => b < w.heap.size) w w' := by
  refine doorN (e := e0) (vs := [.v (.agg #[.int .u16 ((a : Nat) : Int)]), .v (.agg #[.int .u16 ((b : Nat) : Int)])]) (n := 10) (m := 2) Try.func42 rfl rfl rfl (by decide) fun a_ hI => ?_
  replace hI : Is 10 [] e0 [(0, .v (.agg #[.int .u16 ((a : Nat) : Int)])), (1, .v (.agg #[.int .u16 ((b : Nat) : Int)]))] a_ := hI
  have hR : Rel (fun b => b < w.heap.size) w e0 [] [] w := Rel.start (fun k hk => hk)
  have hB : Base C w C (fun b => b < w.heap.size) w := Base.start
  refine reg_seq tab (k := 0) (hs := []) (sy := []) (ks := [3, 2]) (bs := [1, 0]) (gs := [])
      (L' := [(3, .p 1 0), (2, .p 0 0)])
      (H' := [⟨1, 44, [.v (.int .u16 ((b : Nat) : Int))]⟩, ⟨0, 44, [.v (.int .u16 ((a : Nat) : Int))]⟩]) (G' := []) (k' := 2) hR hI (by kernel_rfl)
      .nil (fun e1 a1 w1 hag hR hI => ?_)
  refine wp_seq ?_
  refine regL 5 hR (by kernel_rfl) (fun hS => ?_)
  replace hR := hR.drew; have hF := hR.fore
  refine takeL tab (H := [⟨1, 44, [.v (.int .u16 ((b : Nat) : Int))]⟩, ⟨0, 44, [.v (.int .u16 ((a : Nat) : Int))]⟩]) (G := []) (hs := []) (gs := []) (is := [0, 2]) (ks := [7, 5]) (f' := 4)
      (L' := [(7, .agg [.v (.int .u16 ((b : Nat) : Int))]), (5, .agg [.v (.int .u16 ((a : Nat) : Int))])]) hS hI (by kernel_rfl) (fun _ _ _ _ _ h => h) (by kernel_rfl)
      .nil (by kernel_rfl) (by kernel_rfl) (by kernel_rfl) (by rfl) (fun a2 hI => ?_)
  refine oneL (i := 1) (f' := 3) (by kernel_rfl) (by rfl) ?_
  refine callH (ys := [.agg [.v (.int .u16 ((a : Nat) : Int))]]) hI rfl rfl ⟨_, rfl, rfl, rfl⟩ (by kernel_rfl) Try.func36 rfl rfl ?_
  refine (float32_spec (C := C) (a := a) ha).mono ?_
  rintro ex w3 ⟨rfl, hk⟩
  replace hS := hS.same hk; replace hR := hR.same hk; clear hk
  refine ⟨_, rfl, hS, ?_⟩
  replace hI := hI.put (d := some 6) (x := .v (.float .f32 (sgl a))) (by intro t ht; cases ht; decide) rfl
  replace hI := hI.sel [6, 7, 5] (by kernel_rfl : sel _ _ = some [(6, .v (.float .f32 (sgl a))), (7, .agg [.v (.int .u16 ((b : Nat) : Int))]), (5, .agg [.v (.int .u16 ((a : Nat) : Int))])])
  refine oneL (i := 3) (f' := 2) (by kernel_rfl) (by rfl) ?_
  refine callH (ys := [.agg [.v (.int .u16 ((b : Nat) : Int))]]) hI rfl rfl ⟨_, rfl, rfl, rfl⟩ (by kernel_rfl) Try.func36 rfl rfl ?_
  refine (float32_spec (C := C) (a := b) hb).mono ?_
  rintro ex w4 ⟨rfl, hk⟩
  replace hS := hS.same hk; replace hR := hR.same hk; clear hk
  refine ⟨_, rfl, hS, ?_⟩
  replace hI := hI.put (d := some 8) (x := .v (.float .f32 (sgl b))) (by intro t ht; cases ht; decide) rfl
  replace hI := hI.sel [8, 6, 7, 5] (by kernel_rfl : sel _ _ = some [(8, .v (.float .f32 (sgl b))), (6, .v (.float .f32 (sgl a))), (7, .agg [.v (.int .u16 ((b : Nat) : Int))]), (5, .agg [.v (.int .u16 ((a : Nat) : Int))])])
  refine takeL tab (H := [⟨1, 44, [.v (.int .u16 ((b : Nat) : Int))]⟩, ⟨0, 44, [.v (.int .u16 ((a : Nat) : Int))]⟩]) (G := []) (hs := []) (gs := []) (is := [4]) (ks := [9]) (f' := 1)
      (L' := [(9, .v (.bool (FloatKind.f32.format.order (sgl a) (sgl b) == some .lt)))]) hS hI (by kernel_rfl) (fun _ _ _ _ _ h => h) (by kernel_rfl)
      .nil (by kernel_rfl) (by kernel_rfl) (by kernel_rfl) (by rfl) (fun a5 hI => ?_)
  refine endL (i := 5) (f' := 0) (by kernel_rfl) (by rfl) (by kernel_rfl) ?_
  refine quietL tab (hh := .no) (x := .v (.bool (FloatKind.f32.format.order (sgl a) (sgl b) == some .lt))) hR hI rfl rfl rfl (by kernel_rfl) .nil (fun a6 hI => ?_)
  replace hI := hI.sel [4, 9] (by kernel_rfl : sel _ _ = some [(4, .v (.bool (FloatKind.f32.format.order (sgl a) (sgl b) == some .lt))), (9, .v (.bool (FloatKind.f32.format.order (sgl a) (sgl b) == some .lt)))])
  refine doneL (by kernel_rfl) ?_
  refine then_n ?_
  replace hI := hI.sel [4] (by kernel_rfl : sel _ _ = some [(4, .v (.bool (FloatKind.f32.format.order (sgl a) (sgl b) == some .lt)))]); replace hR := hR.sel [] [] (by kernel_rfl : selH _ _ = some []) (by kernel_rfl : selG _ _ = some [])
  refine wp_ret ?_
  refine outN tab (xs := [.v (.bool (FloatKind.f32.format.order (sgl a) (sgl b) == some .lt))]) hR hI rfl (by kernel_rfl) ?_
  exact ⟨rfl, hB.fin hR⟩

theorem fres_lt {op : BinOp} {x y z : Nat} (h : FRes (floatBits op .f32 x y) z) : z < 4294967296 := by
  rcases h with h | ⟨_, s, t, h⟩
  · have := floatBits_wf h; simpa [Lit.wf] using this
  · omega

set_option maxHeartbeats 4000000 in
set_option maxRecDepth 100000 in
theorem Add_spec {C : Nat → Prop} {w : World} {a b : Nat} (ha : a < 65536) (hb : b < 65536) :
    Calls P 26 #[.agg #[.int .u16 ((a : Nat) : Int)], .agg #[.int .u16 ((b : Nat) : Int)]] w fun ex w' => (∃ z, FRes (floatBits .add .f32 (sgl a) (sgl b)) z ∧ ex = .returned (.agg #[.int .u16 ((newH z : Nat) : Int)])) ∧ Keep (fun b => b < w.heap.size) w w' := by
  refine doorN (e := e0) (vs := [.v (.agg #[.int .u16 ((a : Nat) : Int)]), .v (.agg #[.int .u16 ((b : Nat) : Int)])]) (n := 11) (m := 2) Try.func26 rfl rfl rfl (by decide) fun a_ hI => ?_
  replace hI : Is 11 [] e0 [(0, .v (.agg #[.int .u16 ((a : Nat) : Int)])), (1, .v (.agg #[.int .u16 ((b : Nat) : Int)]))] a_ := hI
  have hR : Rel (fun b => b < w.heap.size) w e0 [] [] w := Rel.start (fun k hk => hk)
  have hB : Base C w C (fun b => b < w.heap.size) w := Base.start
  refine reg_seq tab (k := 0) (hs := []) (sy := []) (ks := [4, 3, 2]) (bs := [2, 1, 0]) (gs := [])
      (L' := [(4, .p 2 0), (3, .p 1 0), (2, .p 0 0)])
      (H' := [⟨2, 44, [.v (.int .u16 0)]⟩, ⟨1, 44, [.v (.int .u16 ((b : Nat) : Int))]⟩, ⟨0, 44, [.v (.int .u16 ((a : Nat) : Int))]⟩]) (G' := []) (k' := 3) hR hI (by kernel_rfl)
      .nil (fun e1 a1 w1 hag hR hI => ?_)
  refine wp_seq ?_
  refine regL 6 hR (by kernel_rfl) (fun hS => ?_)
  replace hR := hR.drew; have hF := hR.fore
  refine takeL tab (H := [⟨2, 44, [.v (.int .u16 0)]⟩, ⟨1, 44, [.v (.int .u16 ((b : Nat) : Int))]⟩, ⟨0, 44, [.v (.int .u16 ((a : Nat) : Int))]⟩]) (G := []) (hs := []) (gs := []) (is := [0, 2]) (ks := [7, 5, 4]) (f' := 5)
      (L' := [(7, .agg [.v (.int .u16 ((b : Nat) : Int))]), (5, .agg [.v (.int .u16 ((a : Nat) : Int))]), (4, .p 2 0)]) hS hI (by kernel_rfl) (fun _ _ _ _ _ h => h) (by kernel_rfl)
      .nil (by kernel_rfl) (by kernel_rfl) (by kernel_rfl) (by rfl) (fun a2 hI => ?_)
  refine oneL (i := 1) (f' := 4) (by kernel_rfl) (by rfl) ?_
  refine callH (ys := [.agg [.v (.int .u16 ((a : Nat) : Int))]]) hI rfl rfl ⟨_, rfl, rfl, rfl⟩ (by kernel_rfl) Try.func36 rfl rfl ?_
  refine (float32_spec (C := C) (a := a) ha).mono ?_
  rintro ex w3 ⟨rfl, hk⟩
  replace hS := hS.same hk; replace hR := hR.same hk; clear hk
  refine ⟨_, rfl, hS, ?_⟩
  replace hI := hI.put (d := some 6) (x := .v (.float .f32 (sgl a))) (by intro t ht; cases ht; decide) rfl
  replace hI := hI.sel [6, 7, 5, 4] (by kernel_rfl : sel _ _ = some [(6, .v (.float .f32 (sgl a))), (7, .agg [.v (.int .u16 ((b : Nat) : Int))]), (5, .agg [.v (.int .u16 ((a : Nat) : Int))]), (4, .p 2 0)])
  refine oneL (i := 3) (f' := 3) (by kernel_rfl) (by rfl) ?_
  refine callH (ys := [.agg [.v (.int .u16 ((b : Nat) : Int))]]) hI rfl rfl ⟨_, rfl, rfl, rfl⟩ (by kernel_rfl) Try.func36 rfl rfl ?_
  refine (float32_spec (C := C) (a := b) hb).mono ?_
  rintro ex w4 ⟨rfl, hk⟩
  replace hS := hS.same hk; replace hR := hR.same hk; clear hk
  refine ⟨_, rfl, hS, ?_⟩
  replace hI := hI.put (d := some 8) (x := .v (.float .f32 (sgl b))) (by intro t ht; cases ht; decide) rfl
  replace hI := hI.sel [8, 6, 7, 5, 4] (by kernel_rfl : sel _ _ = some [(8, .v (.float .f32 (sgl b))), (6, .v (.float .f32 (sgl a))), (7, .agg [.v (.int .u16 ((b : Nat) : Int))]), (5, .agg [.v (.int .u16 ((a : Nat) : Int))]), (4, .p 2 0)])
  refine oneL (i := 4) (f' := 2) (by kernel_rfl) (by rfl) ?_
  refine faddH (u := (sgl a)) (v := (sgl b)) hI rfl rfl rfl rfl rfl (by kernel_rfl) (by kernel_rfl) (fun z a5 w5 hz hk hI => ?_)
  replace hS := hS.same hk; replace hR := hR.same hk; clear hk
  refine ⟨hS, ?_⟩
  replace hI := hI.sel [9, 8, 6, 7, 5, 4] (by kernel_rfl : sel _ _ = some [(9, .v (.float .f32 z)), (8, .v (.float .f32 (sgl b))), (6, .v (.float .f32 (sgl a))), (7, .agg [.v (.int .u16 ((b : Nat) : Int))]), (5, .agg [.v (.int .u16 ((a : Nat) : Int))]), (4, .p 2 0)])
  refine oneL (i := 5) (f' := 1) (by kernel_rfl) (by rfl) ?_
  refine callH (ys := [.v (.float .f32 z)]) hI rfl rfl ⟨_, rfl, rfl, rfl⟩ (by kernel_rfl) Try.func35 rfl rfl ?_
  refine (new_spec (C := C) (z := z) (fres_lt hz)).mono ?_
  rintro ex w6 ⟨rfl, hk⟩
  replace hS := hS.same hk; replace hR := hR.same hk; clear hk
  refine ⟨_, rfl, hS, ?_⟩
  replace hI := hI.put (d := some 10) (x := .v (.agg #[.int .u16 ((newH z : Nat) : Int)])) (by intro t ht; cases ht; decide) rfl
  replace hI := hI.sel [10, 9, 8, 6, 7, 5, 4] (by kernel_rfl : sel _ _ = some [(10, .v (.agg #[.int .u16 ((newH z : Nat) : Int)])), (9, .v (.float .f32 z)), (8, .v (.float .f32 (sgl b))), (6, .v (.float .f32 (sgl a))), (7, .agg [.v (.int .u16 ((b : Nat) : Int))]), (5, .agg [.v (.int .u16 ((a : Nat) : Int))]), (4, .p 2 0)])
  refine endL (i := 6) (f' := 0) (by kernel_rfl) (by rfl) (by kernel_rfl) ?_
  refine effH tab (k := 3) (hh := .no) (r := ⟨.v (undef), [⟨2, 44, [.v (.int .u16 ((newH z : Nat) : Int))]⟩, ⟨1, 44, [.v (.int .u16 ((b : Nat) : Int))]⟩, ⟨0, 44, [.v (.int .u16 ((a : Nat) : Int))]⟩], [], 3, _, true⟩) hR hI (by kernel_rfl) rfl rfl rfl (by kernel_rfl) .nil (fun e7 a7 w7 hag hR2 hI => ?_)
  replace hR := hR2; clear hR2
  replace hI := hI.sel [10, 9, 8, 6, 7, 5, 4] (by kernel_rfl : sel _ _ = some [(10, .v (.agg #[.int .u16 ((newH z : Nat) : Int)])), (9, .v (.float .f32 z)), (8, .v (.float .f32 (sgl b))), (6, .v (.float .f32 (sgl a))), (7, .agg [.v (.int .u16 ((b : Nat) : Int))]), (5, .agg [.v (.int .u16 ((a : Nat) : Int))]), (4, .p 2 0)])
  refine doneL (by kernel_rfl) ?_
  refine then_n ?_
  replace hI := hI.sel [4] (by kernel_rfl : sel _ _ = some [(4, .p 2 0)]); replace hR := hR.sel [2] [] (by kernel_rfl : selH _ _ = some [⟨2, 44, [.v (.int .u16 ((newH z : Nat) : Int))]⟩]) (by kernel_rfl : selG _ _ = some [])
  refine wp_ret ?_
  refine outN tab (xs := [.agg [.v (.int .u16 ((newH z : Nat) : Int))]]) hR hI rfl (by kernel_rfl) ?_
  exact ⟨⟨z, hz, rfl⟩, hB.fin hR⟩

set_option maxHeartbeats 4000000 in
set_option maxRecDepth 100000 in
theorem Sub_spec {C : Nat → Prop} {w : World} {a b : Nat} (ha : a < 65536) (hb : b < 65536) :
    Calls P 28 #[.agg #[.int .u16 ((a : Nat) : Int)], .agg #[.int .u16 ((b : Nat) : Int)]] w fun ex w' => (∃ z, FRes (floatBits .sub .f32 (sgl a) (sgl b)) z ∧ ex = .returned (.agg #[.int .u16 ((newH z : Nat) : Int)])) ∧ Keep (fun b => b < w.heap.size) w w' := by
  refine doorN (e := e0) (vs := [.v (.agg #[.int .u16 ((a : Nat) : Int)]), .v (.agg #[.int .u16 ((b : Nat) : Int)])]) (n := 11) (m := 2) Try.func28 rfl rfl rfl (by decide) fun a_ hI => ?_
  replace hI : Is 11 [] e0 [(0, .v (.agg #[.int .u16 ((a : Nat) : Int)])), (1, .v (.agg #[.int .u16 ((b : Nat) : Int)]))] a_ := hI
  have hR : Rel (fun b => b < w.heap.size) w e0 [] [] w := Rel.start (fun k hk => hk)
  have hB : Base C w C (fun b => b < w.heap.size) w := Base.start
  refine reg_seq tab (k := 0) (hs := []) (sy := []) (ks := [4, 3, 2]) (bs := [2, 1, 0]) (gs := [])
      (L' := [(4, .p 2 0), (3, .p 1 0), (2, .p 0 0)])
      (H' := [⟨2, 44, [.v (.int .u16 0)]⟩, ⟨1, 44, [.v (.int .u16 ((b : Nat) : Int))]⟩, ⟨0, 44, [.v (.int .u16 ((a : Nat) : Int))]⟩]) (G' := []) (k' := 3) hR hI (by kernel_rfl)
      .nil (fun e1 a1 w1 hag hR hI => ?_)
  refine wp_seq ?_
  refine regL 6 hR (by kernel_rfl) (fun hS => ?_)
  replace hR := hR.drew; have hF := hR.fore
  refine takeL tab (H := [⟨2, 44, [.v (.int .u16 0)]⟩, ⟨1, 44, [.v (.int .u16 ((b : Nat) : Int))]⟩, ⟨0, 44, [.v (.int .u16 ((a : Nat) : Int))]⟩]) (G := []) (hs := []) (gs := []) (is := [0, 2]) (ks := [7, 5, 4]) (f' := 5)
      (L' := [(7, .agg [.v (.int .u16 ((b : Nat) : Int))]), (5, .agg [.v (.int .u16 ((a : Nat) : Int))]), (4, .p 2 0)]) hS hI (by kernel_rfl) (fun _ _ _ _ _ h => h) (by kernel_rfl)
      .nil (by kernel_rfl) (by kernel_rfl) (by kernel_rfl) (by rfl) (fun a2 hI => ?_)
  refine oneL (i := 1) (f' := 4) (by kernel_rfl) (by rfl) ?_
  refine callH (ys := [.agg [.v (.int .u16 ((a : Nat) : Int))]]) hI rfl rfl ⟨_, rfl, rfl, rfl⟩ (by kernel_rfl) Try.func36 rfl rfl ?_
  refine (float32_spec (C := C) (a := a) ha).mono ?_
  rintro ex w3 ⟨rfl, hk⟩
  replace hS := hS.same hk; replace hR := hR.same hk; clear hk
  refine ⟨_, rfl, hS, ?_⟩
  replace hI := hI.put (d := some 6) (x := .v (.float .f32 (sgl a))) (by intro t ht; cases ht; decide) rfl
  replace hI := hI.sel [6, 7, 5, 4] (by kernel_rfl : sel _ _ = some [(6, .v (.float .f32 (sgl a))), (7, .agg [.v (.int .u16 ((b : Nat) : Int))]), (5, .agg [.v (.int .u16 ((a : Nat) : Int))]), (4, .p 2 0)])
  refine oneL (i := 3) (f' := 3) (by kernel_rfl) (by rfl) ?_
  refine callH (ys := [.agg [.v (.int .u16 ((b : Nat) : Int))]]) hI rfl rfl ⟨_, rfl, rfl, rfl⟩ (by kernel_rfl) Try.func36 rfl rfl ?_
  refine (float32_spec (C := C) (a := b) hb).mono ?_
  rintro ex w4 ⟨rfl, hk⟩
  replace hS := hS.same hk; replace hR := hR.same hk; clear hk
  refine ⟨_, rfl, hS, ?_⟩
  replace hI := hI.put (d := some 8) (x := .v (.float .f32 (sgl b))) (by intro t ht; cases ht; decide) rfl
  replace hI := hI.sel [8, 6, 7, 5, 4] (by kernel_rfl : sel _ _ = some [(8, .v (.float .f32 (sgl b))), (6, .v (.float .f32 (sgl a))), (7, .agg [.v (.int .u16 ((b : Nat) : Int))]), (5, .agg [.v (.int .u16 ((a : Nat) : Int))]), (4, .p 2 0)])
  refine oneL (i := 4) (f' := 2) (by kernel_rfl) (by rfl) ?_
  refine faddH (u := (sgl a)) (v := (sgl b)) hI rfl rfl rfl rfl rfl (by kernel_rfl) (by kernel_rfl) (fun z a5 w5 hz hk hI => ?_)
  replace hS := hS.same hk; replace hR := hR.same hk; clear hk
  refine ⟨hS, ?_⟩
  replace hI := hI.sel [9, 8, 6, 7, 5, 4] (by kernel_rfl : sel _ _ = some [(9, .v (.float .f32 z)), (8, .v (.float .f32 (sgl b))), (6, .v (.float .f32 (sgl a))), (7, .agg [.v (.int .u16 ((b : Nat) : Int))]), (5, .agg [.v (.int .u16 ((a : Nat) : Int))]), (4, .p 2 0)])
  refine oneL (i := 5) (f' := 1) (by kernel_rfl) (by rfl) ?_
  refine callH (ys := [.v (.float .f32 z)]) hI rfl rfl ⟨_, rfl, rfl, rfl⟩ (by kernel_rfl) Try.func35 rfl rfl ?_
  refine (new_spec (C := C) (z := z) (fres_lt hz)).mono ?_
  rintro ex w6 ⟨rfl, hk⟩
  replace hS := hS.same hk; replace hR := hR.same hk; clear hk
  refine ⟨_, rfl, hS, ?_⟩
  replace hI := hI.put (d := some 10) (x := .v (.agg #[.int .u16 ((newH z : Nat) : Int)])) (by intro t ht; cases ht; decide) rfl
  replace hI := hI.sel [10, 9, 8, 6, 7, 5, 4] (by kernel_rfl : sel _ _ = some [(10, .v (.agg #[.int .u16 ((newH z : Nat) : Int)])), (9, .v (.float .f32 z)), (8, .v (.float .f32 (sgl b))), (6, .v (.float .f32 (sgl a))), (7, .agg [.v (.int .u16 ((b : Nat) : Int))]), (5, .agg [.v (.int .u16 ((a : Nat) : Int))]), (4, .p 2 0)])
  refine endL (i := 6) (f' := 0) (by kernel_rfl) (by rfl) (by kernel_rfl) ?_
  refine effH tab (k := 3) (hh := .no) (r := ⟨.v (undef), [⟨2, 44, [.v (.int .u16 ((newH z : Nat) : Int))]⟩, ⟨1, 44, [.v (.int .u16 ((b : Nat) : Int))]⟩, ⟨0, 44, [.v (.int .u16 ((a : Nat) : Int))]⟩], [], 3, _, true⟩) hR hI (by kernel_rfl) rfl rfl rfl (by kernel_rfl) .nil (fun e7 a7 w7 hag hR2 hI => ?_)
  replace hR := hR2; clear hR2
  replace hI := hI.sel [10, 9, 8, 6, 7, 5, 4] (by kernel_rfl : sel _ _ = some [(10, .v (.agg #[.int .u16 ((newH z : Nat) : Int)])), (9, .v (.float .f32 z)), (8, .v (.float .f32 (sgl b))), (6, .v (.float .f32 (sgl a))), (7, .agg [.v (.int .u16 ((b : Nat) : Int))]), (5, .agg [.v (.int .u16 ((a : Nat) : Int))]), (4, .p 2 0)])
  refine doneL (by kernel_rfl) ?_
  refine then_n ?_
  replace hI := hI.sel [4] (by kernel_rfl : sel _ _ = some [(4, .p 2 0)]); replace hR := hR.sel [2] [] (by kernel_rfl : selH _ _ = some [⟨2, 44, [.v (.int .u16 ((newH z : Nat) : Int))]⟩]) (by kernel_rfl : selG _ _ = some [])
  refine wp_ret ?_
  refine outN tab (xs := [.agg [.v (.int .u16 ((newH z : Nat) : Int))]]) hR hI rfl (by kernel_rfl) ?_
  exact ⟨⟨z, hz, rfl⟩, hB.fin hR⟩

set_option maxHeartbeats 4000000 in
set_option maxRecDepth 100000 in
theorem Mul_spec {C : Nat → Prop} {w : World} {a b : Nat} (ha : a < 65536) (hb : b < 65536) :
    Calls P 29 #[.agg #[.int .u16 ((a : Nat) : Int)], .agg #[.int .u16 ((b : Nat) : Int)]] w fun ex w' => (∃ z, FRes (floatBits .mul .f32 (sgl a) (sgl b)) z ∧ ex = .returned (.agg #[.int .u16 ((newH z : Nat) : Int)])) ∧ Keep (fun b => b < w.heap.size) w w' := by
  refine doorN (e := e0) (vs := [.v (.agg #[.int .u16 ((a : Nat) : Int)]), .v (.agg #[.int .u16 ((b : Nat) : Int)])]) (n := 11) (m := 2) Try.func29 rfl rfl rfl (by decide) fun a_ hI => ?_
  replace hI : Is 11 [] e0 [(0, .v (.agg #[.int .u16 ((a : Nat) : Int)])), (1, .v (.agg #[.int .u16 ((b : Nat) : Int)]))] a_ := hI
  have hR : Rel (fun b => b < w.heap.size) w e0 [] [] w := Rel.start (fun k hk => hk)
  have hB : Base C w C (fun b => b < w.heap.size) w := Base.start
  refine reg_seq tab (k := 0) (hs := []) (sy := []) (ks := [4, 3, 2]) (bs := [2, 1, 0]) (gs := [])
      (L' := [(4, .p 2 0), (3, .p 1 0), (2, .p 0 0)])
      (H' := [⟨2, 44, [.v (.int .u16 0)]⟩, ⟨1, 44, [.v (.int .u16 ((b : Nat) : Int))]⟩, ⟨0, 44, [.v (.int .u16 ((a : Nat) : Int))]⟩]) (G' := []) (k' := 3) hR hI (by kernel_rfl)
      .nil (fun e1 a1 w1 hag hR hI => ?_)
  refine wp_seq ?_
  refine regL 6 hR (by kernel_rfl) (fun hS => ?_)
  replace hR := hR.drew; have hF := hR.fore
  refine takeL tab (H := [⟨2, 44, [.v (.int .u16 0)]⟩, ⟨1, 44, [.v (.int .u16 ((b : Nat) : Int))]⟩, ⟨0, 44, [.v (.int .u16 ((a : Nat) : Int))]⟩]) (G := []) (hs := []) (gs := []) (is := [0, 2]) (ks := [7, 5, 4]) (f' := 5)
      (L' := [(7, .agg [.v (.int .u16 ((b : Nat) : Int))]), (5, .agg [.v (.int .u16 ((a : Nat) : Int))]), (4, .p 2 0)]) hS hI (by kernel_rfl) (fun _ _ _ _ _ h => h) (by kernel_rfl)
      .nil (by kernel_rfl) (by kernel_rfl) (by kernel_rfl) (by rfl) (fun a2 hI => ?_)
  refine oneL (i := 1) (f' := 4) (by kernel_rfl) (by rfl) ?_
  refine callH (ys := [.agg [.v (.int .u16 ((a : Nat) : Int))]]) hI rfl rfl ⟨_, rfl, rfl, rfl⟩ (by kernel_rfl) Try.func36 rfl rfl ?_
  refine (float32_spec (C := C) (a := a) ha).mono ?_
  rintro ex w3 ⟨rfl, hk⟩
  replace hS := hS.same hk; replace hR := hR.same hk; clear hk
  refine ⟨_, rfl, hS, ?_⟩
  replace hI := hI.put (d := some 6) (x := .v (.float .f32 (sgl a))) (by intro t ht; cases ht; decide) rfl
  replace hI := hI.sel [6, 7, 5, 4] (by kernel_rfl : sel _ _ = some [(6, .v (.float .f32 (sgl a))), (7, .agg [.v (.int .u16 ((b : Nat) : Int))]), (5, .agg [.v (.int .u16 ((a : Nat) : Int))]), (4, .p 2 0)])
  refine oneL (i := 3) (f' := 3) (by kernel_rfl) (by rfl) ?_
  refine callH (ys := [.agg [.v (.int .u16 ((b : Nat) : Int))]]) hI rfl rfl ⟨_, rfl, rfl, rfl⟩ (by kernel_rfl) Try.func36 rfl rfl ?_
  refine (float32_spec (C := C) (a := b) hb).mono ?_
  rintro ex w4 ⟨rfl, hk⟩
  replace hS := hS.same hk; replace hR := hR.same hk; clear hk
  refine ⟨_, rfl, hS, ?_⟩
  replace hI := hI.put (d := some 8) (x := .v (.float .f32 (sgl b))) (by intro t ht; cases ht; decide) rfl
  replace hI := hI.sel [8, 6, 7, 5, 4] (by kernel_rfl : sel _ _ = some [(8, .v (.float .f32 (sgl b))), (6, .v (.float .f32 (sgl a))), (7, .agg [.v (.int .u16 ((b : Nat) : Int))]), (5, .agg [.v (.int .u16 ((a : Nat) : Int))]), (4, .p 2 0)])
  refine oneL (i := 4) (f' := 2) (by kernel_rfl) (by rfl) ?_
  refine faddH (u := (sgl a)) (v := (sgl b)) hI rfl rfl rfl rfl rfl (by kernel_rfl) (by kernel_rfl) (fun z a5 w5 hz hk hI => ?_)
  replace hS := hS.same hk; replace hR := hR.same hk; clear hk
  refine ⟨hS, ?_⟩
  replace hI := hI.sel [9, 8, 6, 7, 5, 4] (by kernel_rfl : sel _ _ = some [(9, .v (.float .f32 z)), (8, .v (.float .f32 (sgl b))), (6, .v (.float .f32 (sgl a))), (7, .agg [.v (.int .u16 ((b : Nat) : Int))]), (5, .agg [.v (.int .u16 ((a : Nat) : Int))]), (4, .p 2 0)])
  refine oneL (i := 5) (f' := 1) (by kernel_rfl) (by rfl) ?_
  refine callH (ys := [.v (.float .f32 z)]) hI rfl rfl ⟨_, rfl, rfl, rfl⟩ (by kernel_rfl) Try.func35 rfl rfl ?_
  refine (new_spec (C := C) (z := z) (fres_lt hz)).mono ?_
  rintro ex w6 ⟨rfl, hk⟩
  replace hS := hS.same hk; replace hR := hR.same hk; clear hk
  refine ⟨_, rfl, hS, ?_⟩
  replace hI := hI.put (d := some 10) (x := .v (.agg #[.int .u16 ((newH z : Nat) : Int)])) (by intro t ht; cases ht; decide) rfl
  replace hI := hI.sel [10, 9, 8, 6, 7, 5, 4] (by kernel_rfl : sel _ _ = some [(10, .v (.agg #[.int .u16 ((newH z : Nat) : Int)])), (9, .v (.float .f32 z)), (8, .v (.float .f32 (sgl b))), (6, .v (.float .f32 (sgl a))), (7, .agg [.v (.int .u16 ((b : Nat) : Int))]), (5, .agg [.v (.int .u16 ((a : Nat) : Int))]), (4, .p 2 0)])
  refine endL (i := 6) (f' := 0) (by kernel_rfl) (by rfl) (by kernel_rfl) ?_
  refine effH tab (k := 3) (hh := .no) (r := ⟨.v (undef), [⟨2, 44, [.v (.int .u16 ((newH z : Nat) : Int))]⟩, ⟨1, 44, [.v (.int .u16 ((b : Nat) : Int))]⟩, ⟨0, 44, [.v (.int .u16 ((a : Nat) : Int))]⟩], [], 3, _, true⟩) hR hI (by kernel_rfl) rfl rfl rfl (by kernel_rfl) .nil (fun e7 a7 w7 hag hR2 hI => ?_)
  replace hR := hR2; clear hR2
  replace hI := hI.sel [10, 9, 8, 6, 7, 5, 4] (by kernel_rfl : sel _ _ = some [(10, .v (.agg #[.int .u16 ((newH z : Nat) : Int)])), (9, .v (.float .f32 z)), (8, .v (.float .f32 (sgl b))), (6, .v (.float .f32 (sgl a))), (7, .agg [.v (.int .u16 ((b : Nat) : Int))]), (5, .agg [.v (.int .u16 ((a : Nat) : Int))]), (4, .p 2 0)])
  refine doneL (by kernel_rfl) ?_
  refine then_n ?_
  replace hI := hI.sel [4] (by kernel_rfl : sel _ _ = some [(4, .p 2 0)]); replace hR := hR.sel [2] [] (by kernel_rfl : selH _ _ = some [⟨2, 44, [.v (.int .u16 ((newH z : Nat) : Int))]⟩]) (by kernel_rfl : selG _ _ = some [])
  refine wp_ret ?_
  refine outN tab (xs := [.agg [.v (.int .u16 ((newH z : Nat) : Int))]]) hR hI rfl (by kernel_rfl) ?_
  exact ⟨⟨z, hz, rfl⟩, hB.fin hR⟩

set_option maxHeartbeats 4000000 in
set_option maxRecDepth 100000 in
theorem Div_spec {C : Nat → Prop} {w : World} {a b : Nat} (ha : a < 65536) (hb : b < 65536) :
    Calls P 30 #[.agg #[.int .u16 ((a : Nat) : Int)], .agg #[.int .u16 ((b : Nat) : Int)]] w fun ex w' => (∃ z, FRes (floatBits .quo .f32 (sgl a) (sgl b)) z ∧ ex = .returned (.agg #[.int .u16 ((newH z : Nat) : Int)])) ∧ Keep (fun b => b < w.heap.size) w w' := by
  refine doorN (e := e0) (vs := [.v (.agg #[.int .u16 ((a : Nat) : Int)]), .v (.agg #[.int .u16 ((b : Nat) : Int)])]) (n := 11) (m := 2) Try.func30 rfl rfl rfl (by decide) fun a_ hI => ?_
  replace hI : Is 11 [] e0 [(0, .v (.agg #[.int .u16 ((a : Nat) : Int)])), (1, .v (.agg #[.int .u16 ((b : Nat) : Int)]))] a_ := hI
  have hR : Rel (fun b => b < w.heap.size) w e0 [] [] w := Rel.start (fun k hk => hk)
  have hB : Base C w C (fun b => b < w.heap.size) w := Base.start
  refine reg_seq tab (k := 0) (hs := []) (sy := []) (ks := [4, 3, 2]) (bs := [2, 1, 0]) (gs := [])
      (L' := [(4, .p 2 0), (3, .p 1 0), (2, .p 0 0)])
      (H' := [⟨2, 44, [.v (.int .u16 0)]⟩, ⟨1, 44, [.v (.int .u16 ((b : Nat) : Int))]⟩, ⟨0, 44, [.v (.int .u16 ((a : Nat) : Int))]⟩]) (G' := []) (k' := 3) hR hI (by kernel_rfl)
      .nil (fun e1 a1 w1 hag hR hI => ?_)
  refine wp_seq ?_
  refine regL 6 hR (by kernel_rfl) (fun hS => ?_)
  replace hR := hR.drew; have hF := hR.fore
  refine takeL tab (H := [⟨2, 44, [.v (.int .u16 0)]⟩, ⟨1, 44, [.v (.int .u16 ((b : Nat) : Int))]⟩, ⟨0, 44, [.v (.int .u16 ((a : Nat) : Int))]⟩]) (G := []) (hs := []) (gs := []) (is := [0, 2]) (ks := [7, 5, 4]) (f' := 5)
      (L' := [(7, .agg [.v (.int .u16 ((b : Nat) : Int))]), (5, .agg [.v (.int .u16 ((a : Nat) : Int))]), (4, .p 2 0)]) hS hI (by kernel_rfl) (fun _ _ _ _ _ h => h) (by kernel_rfl)
      .nil (by kernel_rfl) (by kernel_rfl) (by kernel_rfl) (by rfl) (fun a2 hI => ?_)
  refine oneL (i := 1) (f' := 4) (by kernel_rfl) (by rfl) ?_
  refine callH (ys := [.agg [.v (.int .u16 ((a : Nat) : Int))]]) hI rfl rfl ⟨_, rfl, rfl, rfl⟩ (by kernel_rfl) Try.func36 rfl rfl ?_
  refine (float32_spec (C := C) (a := a) ha).mono ?_
  rintro ex w3 ⟨rfl, hk⟩
  replace hS := hS.same hk; replace hR := hR.same hk; clear hk
  refine ⟨_, rfl, hS, ?_⟩
  replace hI := hI.put (d := some 6) (x := .v (.float .f32 (sgl a))) (by intro t ht; cases ht; decide) rfl
  replace hI := hI.sel [6, 7, 5, 4] (by kernel_rfl : sel _ _ = some [(6, .v (.float .f32 (sgl a))), (7, .agg [.v (.int .u16 ((b : Nat) : Int))]), (5, .agg [.v (.int .u16 ((a : Nat) : Int))]), (4, .p 2 0)])
  refine oneL (i := 3) (f' := 3) (by kernel_rfl) (by rfl) ?_
  refine callH (ys := [.agg [.v (.int .u16 ((b : Nat) : Int))]]) hI rfl rfl ⟨_, rfl, rfl, rfl⟩ (by kernel_rfl) Try.func36 rfl rfl ?_
  refine (float32_spec (C := C) (a := b) hb).mono ?_
  rintro ex w4 ⟨rfl, hk⟩
  replace hS := hS.same hk; replace hR := hR.same hk; clear hk
  refine ⟨_, rfl, hS, ?_⟩
  replace hI := hI.put (d := some 8) (x := .v (.float .f32 (sgl b))) (by intro t ht; cases ht; decide) rfl
  replace hI := hI.sel [8, 6, 7, 5, 4] (by kernel_rfl : sel _ _ = some [(8, .v (.float .f32 (sgl b))), (6, .v (.float .f32 (sgl a))), (7, .agg [.v (.int .u16 ((b : Nat) : Int))]), (5, .agg [.v (.int .u16 ((a : Nat) : Int))]), (4, .p 2 0)])
  refine oneL (i := 4) (f' := 2) (by kernel_rfl) (by rfl) ?_
  refine faddH (u := (sgl a)) (v := (sgl b)) hI rfl rfl rfl rfl rfl (by kernel_rfl) (by kernel_rfl) (fun z a5 w5 hz hk hI => ?_)
  replace hS := hS.same hk; replace hR := hR.same hk; clear hk
  refine ⟨hS, ?_⟩
  replace hI := hI.sel [9, 8, 6, 7, 5, 4] (by kernel_rfl : sel _ _ = some [(9, .v (.float .f32 z)), (8, .v (.float .f32 (sgl b))), (6, .v (.float .f32 (sgl a))), (7, .agg [.v (.int .u16 ((b : Nat) : Int))]), (5, .agg [.v (.int .u16 ((a : Nat) : Int))]), (4, .p 2 0)])
  refine oneL (i := 5) (f' := 1) (by kernel_rfl) (by rfl) ?_
  refine callH (ys := [.v (.float .f32 z)]) hI rfl rfl ⟨_, rfl, rfl, rfl⟩ (by kernel_rfl) Try.func35 rfl rfl ?_
  refine (new_spec (C := C) (z := z) (fres_lt hz)).mono ?_
  rintro ex w6 ⟨rfl, hk⟩
  replace hS := hS.same hk; replace hR := hR.same hk; clear hk
  refine ⟨_, rfl, hS, ?_⟩
  replace hI := hI.put (d := some 10) (x := .v (.agg #[.int .u16 ((newH z : Nat) : Int)])) (by intro t ht; cases ht; decide) rfl
  replace hI := hI.sel [10, 9, 8, 6, 7, 5, 4] (by kernel_rfl : sel _ _ = some [(10, .v (.agg #[.int .u16 ((newH z : Nat) : Int)])), (9, .v (.float .f32 z)), (8, .v (.float .f32 (sgl b))), (6, .v (.float .f32 (sgl a))), (7, .agg [.v (.int .u16 ((b : Nat) : Int))]), (5, .agg [.v (.int .u16 ((a : Nat) : Int))]), (4, .p 2 0)])
  refine endL (i := 6) (f' := 0) (by kernel_rfl) (by rfl) (by kernel_rfl) ?_
  refine effH tab (k := 3) (hh := .no) (r := ⟨.v (undef), [⟨2, 44, [.v (.int .u16 ((newH z : Nat) : Int))]⟩, ⟨1, 44, [.v (.int .u16 ((b : Nat) : Int))]⟩, ⟨0, 44, [.v (.int .u16 ((a : Nat) : Int))]⟩], [], 3, _, true⟩) hR hI (by kernel_rfl) rfl rfl rfl (by kernel_rfl) .nil (fun e7 a7 w7 hag hR2 hI => ?_)
  replace hR := hR2; clear hR2
  replace hI := hI.sel [10, 9, 8, 6, 7, 5, 4] (by kernel_rfl : sel _ _ = some [(10, .v (.agg #[.int .u16 ((newH z : Nat) : Int)])), (9, .v (.float .f32 z)), (8, .v (.float .f32 (sgl b))), (6, .v (.float .f32 (sgl a))), (7, .agg [.v (.int .u16 ((b : Nat) : Int))]), (5, .agg [.v (.int .u16 ((a : Nat) : Int))]), (4, .p 2 0)])
  refine doneL (by kernel_rfl) ?_
  refine then_n ?_
  replace hI := hI.sel [4] (by kernel_rfl : sel _ _ = some [(4, .p 2 0)]); replace hR := hR.sel [2] [] (by kernel_rfl : selH _ _ = some [⟨2, 44, [.v (.int .u16 ((newH z : Nat) : Int))]⟩]) (by kernel_rfl : selG _ _ = some [])
  refine wp_ret ?_
  refine outN tab (xs := [.agg [.v (.int .u16 ((newH z : Nat) : Int))]]) hR hI rfl (by kernel_rfl) ?_
  exact ⟨⟨z, hz, rfl⟩, hB.fin hR⟩

def maxH (a b : Nat) : Nat := if (FloatKind.f32.format.order (sgl b) (sgl a) == some .gt) = true then b else a
def minH (a b : Nat) : Nat := if (FloatKind.f32.format.order (sgl b) (sgl a) == some .lt) = true then b else a

set_option maxHeartbeats 4000000 in
set_option maxRecDepth 100000 in
theorem Max_spec {C : Nat → Prop} {w : World} {q a b : Nat} (ha : a < 65536) (hb2 : b < 65536) (hb : w.heap[q]? = some (.cells #[.int .u16 ((b : Nat) : Int)] 44 (0, 0))) (hCb : ¬ C q) :
    Calls P 31 #[.agg #[.int .u16 ((a : Nat) : Int)], .slice (some ⟨q, 0, none⟩) 1 1] w fun ex w' => ex = .returned (.agg #[.int .u16 ((maxH a b : Nat) : Int)]) ∧ Keep (But q w) w w' ∧ w'.heap[q]? = some (.cells #[.int .u16 ((b : Nat) : Int)] 44 (0, 0)) := by
  refine doorN (e := e0.addB 0 q) (vs := [.v (.agg #[.int .u16 ((a : Nat) : Int)]), .sl 0 0 1 1]) (n := 21) (m := 2) Try.func31 rfl rfl rfl (by decide) fun a_ hI => ?_
  replace hI : Is 21 [] (e0.addB 0 q) [(0, .v (.agg #[.int .u16 ((a : Nat) : Int)])), (1, .sl 0 0 1 1)] a_ := hI
  have hR : Rel (But q w) w (e0.addB 0 q) [⟨0, 44, [.v (.int .u16 ((b : Nat) : Int))]⟩] [] w := Rel.startB hb (fun k h => h.1) (fun h => h.2 rfl)
  have hbk : (e0.addB 0 q).b 0 = q := addB_b _ _ _
  have hB : BaseD (But q w) C w C (But q w) w := BaseD.start (fun k hC hlt => ⟨hlt, fun he => hCb (he ▸ hC)⟩)
  refine reg_seq tab (k := 1) (hs := []) (sy := []) (ks := [4, 2, 1]) (bs := [2, 1, 0]) (gs := [])
      (L' := [(4, .p 2 0), (2, .p 1 0), (1, .sl 0 0 1 1)])
      (H' := [⟨2, 44, [.v (.int .u16 0)]⟩, ⟨1, 44, [.v (.int .u16 ((a : Nat) : Int))]⟩, ⟨0, 44, [.v (.int .u16 ((b : Nat) : Int))]⟩]) (G' := []) (k' := 3) hR hI (by kernel_rfl)
      .nil (fun e1 a1 w1 hag hR hI => ?_)
  replace hbk := (hag 0 (by decide)).1.trans hbk
  refine reg_seq tab (k := 3) (hs := []) (sy := []) (ks := [5, 4, 1]) (bs := [3, 2, 1, 0]) (gs := [])
      (L' := [(5, .p 3 0), (4, .p 2 0), (1, .sl 0 0 1 1)])
      (H' := [⟨3, 44, [.v (.int .u16 ((a : Nat) : Int))]⟩, ⟨2, 44, [.v (.int .u16 0)]⟩, ⟨1, 44, [.v (.int .u16 ((a : Nat) : Int))]⟩, ⟨0, 44, [.v (.int .u16 ((b : Nat) : Int))]⟩]) (G' := []) (k' := 4) hR hI (by kernel_rfl)
      .nil (fun e2 a2 w2 hag hR hI => ?_)
  replace hbk := (hag 0 (by decide)).1.trans hbk
  refine wp_seq ?_
  refine reg_seq tab (k := 4) (hs := []) (sy := []) (ks := [11, 10, 9, 5, 4]) (bs := [3, 2, 1, 0]) (gs := [])
      (L' := [(11, .v (.int .i64 0)), (10, .v (.int .i64 1)), (9, .sl 0 0 1 1), (5, .p 3 0), (4, .p 2 0)])
      (H' := [⟨3, 44, [.v (.int .u16 ((a : Nat) : Int))]⟩, ⟨2, 44, [.v (.int .u16 0)]⟩, ⟨1, 44, [.v (.int .u16 ((a : Nat) : Int))]⟩, ⟨0, 44, [.v (.int .u16 ((b : Nat) : Int))]⟩]) (G' := []) (k' := 4) hR hI (by kernel_rfl)
      .nil (fun e3 a3 w3 hag hR hI => ?_)
  replace hbk := (hag 0 (by decide)).1.trans hbk
  refine wp_block ?_
  refine lp (γ := Nat × Nat) (fun (i, y) => (⟨[(4, .p 2 0), (5, .p 3 0), (9, .sl 0 0 1 1), (10, .v (.int .i64 1)), (11, .v (.int .i64 ((i : Nat) : Int)))], [⟨3, 44, [.v (.int .u16 ((y : Nat) : Int))]⟩, ⟨2, 44, [.v (.int .u16 0)]⟩, ⟨0, 44, [.v (.int .u16 ((b : Nat) : Int))]⟩], [], 4⟩ : Sy)) (fun (i, y) e => e.b 0 = q ∧ ((i = 0 ∧ y = a) ∨ (i = 1 ∧ y = maxH a b))) (fun (i, y) => 1 - i) (0, a) (⟨hbk, Or.inl ⟨rfl, rfl⟩⟩)
      (hR.sel [3, 2, 0] [] (by kernel_rfl) (by kernel_rfl)) (hI.sel [4, 5, 9, 10, 11] (by kernel_rfl)) ?_
  clear hR hI
  rintro ⟨i, y⟩ e4 a4 w4 hp hR hI
  dsimp only at hp hR hI
  obtain ⟨hbk, hp⟩ := hp
  refine reg_seq tab (k := 4) (hs := []) (sy := []) (ks := [12, 4, 5, 9, 10, 11]) (bs := [3, 2, 0]) (gs := [])
      (L' := [(12, .v (.bool (decide (((i : Nat) : Int) < (1 : Int))))), (4, .p 2 0), (5, .p 3 0), (9, .sl 0 0 1 1), (10, .v (.int .i64 1)), (11, .v (.int .i64 ((i : Nat) : Int)))])
      (H' := [⟨3, 44, [.v (.int .u16 ((y : Nat) : Int))]⟩, ⟨2, 44, [.v (.int .u16 0)]⟩, ⟨0, 44, [.v (.int .u16 ((b : Nat) : Int))]⟩]) (G' := []) (k' := 4) hR hI (by kernel_rfl)
      .nil (fun e5 a5 w5 hag hR hI => ?_)
  replace hbk := (hag 0 (by decide)).1.trans hbk
  refine wp_seq ?_
  refine cnd (b := decide (((i : Nat) : Int) < (1 : Int))) hI (by kernel_rfl) (fun hc6 => ?_) (fun hc6 => ?_)
  · skip
    replace hI := hI.re 12 (.v (.bool true)) rfl (congrArg Value.bool hc6)
    try simp only [decide_eq_true_eq, decide_eq_false_iff_not, beq_iff_eq, bne_iff_ne, beq_eq_false_iff_ne, bne_eq_false_iff_eq, Bool.and_eq_true, Bool.and_eq_false_iff, Bool.or_eq_true, Bool.or_eq_false_iff, Bool.not_eq_true', Bool.not_eq_false', ne_eq] at hc6
    obtain ⟨hi0, hy0⟩ : i = 0 ∧ y = a := by
      rcases hp with h | h
      · exact h
      · exact absurd h.1 (by omega)
    replace hI := hI.re 11 (.v (.int .i64 0)) rfl (congrArg (Value.int .i64) (by rw [hi0]; rfl))
    refine wp_skip ?_
    refine then_n ?_
    refine wp_seq ?_
    refine wp_block ?_
    refine reg_seq tab (k := 4) (hs := []) (sy := []) (ks := [7, 11, 4, 5, 9, 10]) (bs := [4, 3, 2, 0]) (gs := [])
        (L' := [(7, .p 4 0), (11, .v (.int .i64 0)), (4, .p 2 0), (5, .p 3 0), (9, .sl 0 0 1 1), (10, .v (.int .i64 1))])
        (H' := [⟨4, 44, [.v (.int .u16 ((b : Nat) : Int))]⟩, ⟨3, 44, [.v (.int .u16 ((y : Nat) : Int))]⟩, ⟨2, 44, [.v (.int .u16 0)]⟩, ⟨0, 44, [.v (.int .u16 ((b : Nat) : Int))]⟩]) (G' := []) (k' := 5) hR hI (by kernel_rfl)
        (.cons (by omega : (0 : Int) ≤ (0 : Int) ∧ (0 : Int) < ((1 : Nat) : Int)) .nil) (fun e7 a7 w7 hag hR hI => ?_)
    replace hbk := (hag 0 (by decide)).1.trans hbk
    refine wp_seq ?_
    refine reg (is := [0, 1, 2]) (by kernel_rfl) ?_
    refine part_ tab [0, 1] [2] (by rfl) (k := 5) (hs := []) (sy := []) (ks := [16, 15, 7, 11, 4, 5, 9, 10]) (bs := [4, 3, 2, 0]) (gs := [])
        (L' := [(16, .agg [.v (.int .u16 ((y : Nat) : Int))]), (15, .agg [.v (.int .u16 ((b : Nat) : Int))]), (7, .p 4 0), (11, .v (.int .i64 0)), (4, .p 2 0), (5, .p 3 0), (9, .sl 0 0 1 1), (10, .v (.int .i64 1))])
        (H' := [⟨4, 44, [.v (.int .u16 ((b : Nat) : Int))]⟩, ⟨3, 44, [.v (.int .u16 ((y : Nat) : Int))]⟩, ⟨2, 44, [.v (.int .u16 0)]⟩, ⟨0, 44, [.v (.int .u16 ((b : Nat) : Int))]⟩]) (G' := []) (k' := 5) hR hI (by kernel_rfl)
        .nil (fun e8 a8 w8 hag hR hI => ?_)
    replace hbk := (hag 0 (by decide)).1.trans hbk
    refine callOp (ys := [.agg [.v (.int .u16 ((b : Nat) : Int))], .agg [.v (.int .u16 ((y : Nat) : Int))]]) hI rfl rfl ⟨_, rfl, rfl, rfl⟩ (by kernel_rfl) Try.func41 rfl rfl ?_
    refine (Greater_spec (C := C) (a := b) (b := y) hb2 (by rw [hy0]; exact ha)).mono ?_
    rintro ex w9 ⟨rfl, hk⟩
    replace hR := hR.same hk; clear hk
    refine ⟨_, rfl, ?_⟩
    replace hI := hI.put (d := some 17) (x := .v (.bool (FloatKind.f32.format.order (sgl b) (sgl y) == some .gt))) (by intro t ht; cases ht; decide) rfl
    replace hI := hI.sel [17, 16, 15, 7, 11, 4, 5, 9, 10] (by kernel_rfl : sel _ _ = some [(17, .v (.bool (FloatKind.f32.format.order (sgl b) (sgl y) == some .gt))), (16, .agg [.v (.int .u16 ((y : Nat) : Int))]), (15, .agg [.v (.int .u16 ((b : Nat) : Int))]), (7, .p 4 0), (11, .v (.int .i64 0)), (4, .p 2 0), (5, .p 3 0), (9, .sl 0 0 1 1), (10, .v (.int .i64 1))])
    refine ops_nil ?_
    refine then_n ?_
    refine cnd (b := FloatKind.f32.format.order (sgl b) (sgl y) == some .gt) hI (by kernel_rfl) (fun hc10 => ?_) (fun hc10 => ?_)
    · skip
      replace hI := hI.re 17 (.v (.bool true)) rfl (congrArg Value.bool hc10)
      try simp only [decide_eq_true_eq, decide_eq_false_iff_not, beq_iff_eq, bne_iff_ne, beq_eq_false_iff_ne, bne_eq_false_iff_eq, Bool.and_eq_true, Bool.and_eq_false_iff, Bool.or_eq_true, Bool.or_eq_false_iff, Bool.not_eq_true', Bool.not_eq_false', ne_eq] at hc10
      have hbr := hc10
      refine reg_all tab (k := 5) (hs := []) (sy := []) (ks := [11, 4, 5, 9, 10]) (bs := [3, 2, 0]) (gs := [])
          (L' := [(11, .v (.int .i64 0)), (4, .p 2 0), (5, .p 3 0), (9, .sl 0 0 1 1), (10, .v (.int .i64 1))])
          (H' := [⟨3, 44, [.v (.int .u16 ((b : Nat) : Int))]⟩, ⟨2, 44, [.v (.int .u16 0)]⟩, ⟨0, 44, [.v (.int .u16 ((b : Nat) : Int))]⟩]) (G' := []) (k' := 5) hR hI (by kernel_rfl)
          .nil (fun e11 a11 w11 hag hR hI => ?_)
      replace hbk := (hag 0 (by decide)).1.trans hbk
      refine normal_block ?_
      refine then_n ?_
      refine reg_all tab (k := 5) (hs := [(0, .nw)]) (sy := []) (ks := [11, 4, 5, 9, 10]) (bs := [3, 2, 0]) (gs := [])
          (L' := [(11, .v (.int .i64 ((0 : Int) + (1 : Int)))), (4, .p 2 0), (5, .p 3 0), (9, .sl 0 0 1 1), (10, .v (.int .i64 1))])
          (H' := [⟨3, 44, [.v (.int .u16 ((b : Nat) : Int))]⟩, ⟨2, 44, [.v (.int .u16 0)]⟩, ⟨0, 44, [.v (.int .u16 ((b : Nat) : Int))]⟩]) (G' := []) (k' := 5) hR hI (by kernel_rfl)
          (.cons (inR_i64 (n := (0 : Int) + (1 : Int)) (by omega)) .nil) (fun e12 a12 w12 hag hR hI => ?_)
      replace hbk := (hag 0 (by decide)).1.trans hbk
      refine then_n ?_
      exact ⟨(1, b), e12, ⟨hbk, Or.inr ⟨rfl, by unfold maxH; rw [← hy0]; simp [hbr]⟩⟩, by (try dsimp only); omega, hR.sel [3, 2, 0] [] (by kernel_rfl) (by kernel_rfl), hI.sel [4, 5, 9, 10, 11] (by kernel_rfl)⟩
    · skip
      replace hI := hI.re 17 (.v (.bool false)) rfl (congrArg Value.bool hc10)
      try simp only [decide_eq_true_eq, decide_eq_false_iff_not, beq_iff_eq, bne_iff_ne, beq_eq_false_iff_ne, bne_eq_false_iff_eq, Bool.and_eq_true, Bool.and_eq_false_iff, Bool.or_eq_true, Bool.or_eq_false_iff, Bool.not_eq_true', Bool.not_eq_false', ne_eq] at hc10
      have hbr := hc10
      refine wp_skip ?_
      refine normal_block ?_
      refine then_n ?_
      refine reg_all tab (k := 5) (hs := [(0, .nw)]) (sy := []) (ks := [11, 4, 5, 9, 10]) (bs := [3, 2, 0]) (gs := [])
          (L' := [(11, .v (.int .i64 ((0 : Int) + (1 : Int)))), (4, .p 2 0), (5, .p 3 0), (9, .sl 0 0 1 1), (10, .v (.int .i64 1))])
          (H' := [⟨3, 44, [.v (.int .u16 ((y : Nat) : Int))]⟩, ⟨2, 44, [.v (.int .u16 0)]⟩, ⟨0, 44, [.v (.int .u16 ((b : Nat) : Int))]⟩]) (G' := []) (k' := 5) hR hI (by kernel_rfl)
          (.cons (inR_i64 (n := (0 : Int) + (1 : Int)) (by omega)) .nil) (fun e13 a13 w13 hag hR hI => ?_)
      replace hbk := (hag 0 (by decide)).1.trans hbk
      refine then_n ?_
      exact ⟨(1, y), e13, ⟨hbk, Or.inr ⟨rfl, by unfold maxH; rw [← hy0]; simp [hbr]⟩⟩, by (try dsimp only); omega, hR.sel [3, 2, 0] [] (by kernel_rfl) (by kernel_rfl), hI.sel [4, 5, 9, 10, 11] (by kernel_rfl)⟩
  · skip
    replace hI := hI.re 12 (.v (.bool false)) rfl (congrArg Value.bool hc6)
    try simp only [decide_eq_true_eq, decide_eq_false_iff_not, beq_iff_eq, bne_iff_ne, beq_eq_false_iff_ne, bne_eq_false_iff_eq, Bool.and_eq_true, Bool.and_eq_false_iff, Bool.or_eq_true, Bool.or_eq_false_iff, Bool.not_eq_true', Bool.not_eq_false', ne_eq] at hc6
    refine wp_exit ?_
    refine exit_then ?_
    refine exit_then ?_
    refine exit_hit ?_
    refine then_n ?_
    refine reg_seq tab (k := 4) (hs := []) (sy := []) (ks := [4]) (bs := [2, 0]) (gs := [])
        (L' := [(4, .p 2 0)])
        (H' := [⟨2, 44, [.v (.int .u16 ((y : Nat) : Int))]⟩, ⟨0, 44, [.v (.int .u16 ((b : Nat) : Int))]⟩]) (G' := []) (k' := 4) hR hI (by kernel_rfl)
        .nil (fun e14 a14 w14 hag hR hI => ?_)
    replace hbk := (hag 0 (by decide)).1.trans hbk
    refine wp_ret ?_
    refine outN tab (xs := [.agg [.v (.int .u16 ((y : Nat) : Int))]]) hR hI rfl (by kernel_rfl) ?_
    have hy_ : y = maxH a b := by
      rcases hp with h | h
      · exact absurd h.1 (by omega)
      · exact h.2
    exact ⟨by rw [hy_]; rfl, hB.fin hR, hbk ▸ (hR.blk _ (List.mem_cons_of_mem _ (List.mem_cons_self ..))).1⟩

set_option maxHeartbeats 4000000 in
set_option maxRecDepth 100000 in
theorem Min_spec {C : Nat → Prop} {w : World} {q a b : Nat} (ha : a < 65536) (hb2 : b < 65536) (hb : w.heap[q]? = some (.cells #[.int .u16 ((b : Nat) : Int)] 44 (0, 0))) (hCb : ¬ C q) :
    Calls P 32 #[.agg #[.int .u16 ((a : Nat) : Int)], .slice (some ⟨q, 0, none⟩) 1 1] w fun ex w' => ex = .returned (.agg #[.int .u16 ((minH a b : Nat) : Int)]) ∧ Keep (But q w) w w' ∧ w'.heap[q]? = some (.cells #[.int .u16 ((b : Nat) : Int)] 44 (0, 0)) := by
  refine doorN (e := e0.addB 0 q) (vs := [.v (.agg #[.int .u16 ((a : Nat) : Int)]), .sl 0 0 1 1]) (n := 21) (m := 2) Try.func32 rfl rfl rfl (by decide) fun a_ hI => ?_
  replace hI : Is 21 [] (e0.addB 0 q) [(0, .v (.agg #[.int .u16 ((a : Nat) : Int)])), (1, .sl 0 0 1 1)] a_ := hI
  have hR : Rel (But q w) w (e0.addB 0 q) [⟨0, 44, [.v (.int .u16 ((b : Nat) : Int))]⟩] [] w := Rel.startB hb (fun k h => h.1) (fun h => h.2 rfl)
  have hbk : (e0.addB 0 q).b 0 = q := addB_b _ _ _
  have hB : BaseD (But q w) C w C (But q w) w := BaseD.start (fun k hC hlt => ⟨hlt, fun he => hCb (he ▸ hC)⟩)
  refine reg_seq tab (k := 1) (hs := []) (sy := []) (ks := [4, 2, 1]) (bs := [2, 1, 0]) (gs := [])
      (L' := [(4, .p 2 0), (2, .p 1 0), (1, .sl 0 0 1 1)])
      (H' := [⟨2, 44, [.v (.int .u16 0)]⟩, ⟨1, 44, [.v (.int .u16 ((a : Nat) : Int))]⟩, ⟨0, 44, [.v (.int .u16 ((b : Nat) : Int))]⟩]) (G' := []) (k' := 3) hR hI (by kernel_rfl)
      .nil (fun e1 a1 w1 hag hR hI => ?_)
  replace hbk := (hag 0 (by decide)).1.trans hbk
  refine reg_seq tab (k := 3) (hs := []) (sy := []) (ks := [5, 4, 1]) (bs := [3, 2, 1, 0]) (gs := [])
      (L' := [(5, .p 3 0), (4, .p 2 0), (1, .sl 0 0 1 1)])
      (H' := [⟨3, 44, [.v (.int .u16 ((a : Nat) : Int))]⟩, ⟨2, 44, [.v (.int .u16 0)]⟩, ⟨1, 44, [.v (.int .u16 ((a : Nat) : Int))]⟩, ⟨0, 44, [.v (.int .u16 ((b : Nat) : Int))]⟩]) (G' := []) (k' := 4) hR hI (by kernel_rfl)
      .nil (fun e2 a2 w2 hag hR hI => ?_)
  replace hbk := (hag 0 (by decide)).1.trans hbk
  refine wp_seq ?_
  refine reg_seq tab (k := 4) (hs := []) (sy := []) (ks := [11, 10, 9, 5, 4]) (bs := [3, 2, 1, 0]) (gs := [])
      (L' := [(11, .v (.int .i64 0)), (10, .v (.int .i64 1)), (9, .sl 0 0 1 1), (5, .p 3 0), (4, .p 2 0)])
      (H' := [⟨3, 44, [.v (.int .u16 ((a : Nat) : Int))]⟩, ⟨2, 44, [.v (.int .u16 0)]⟩, ⟨1, 44, [.v (.int .u16 ((a : Nat) : Int))]⟩, ⟨0, 44, [.v (.int .u16 ((b : Nat) : Int))]⟩]) (G' := []) (k' := 4) hR hI (by kernel_rfl)
      .nil (fun e3 a3 w3 hag hR hI => ?_)
  replace hbk := (hag 0 (by decide)).1.trans hbk
  refine wp_block ?_
  refine lp (γ := Nat × Nat) (fun (i, y) => (⟨[(4, .p 2 0), (5, .p 3 0), (9, .sl 0 0 1 1), (10, .v (.int .i64 1)), (11, .v (.int .i64 ((i : Nat) : Int)))], [⟨3, 44, [.v (.int .u16 ((y : Nat) : Int))]⟩, ⟨2, 44, [.v (.int .u16 0)]⟩, ⟨0, 44, [.v (.int .u16 ((b : Nat) : Int))]⟩], [], 4⟩ : Sy)) (fun (i, y) e => e.b 0 = q ∧ ((i = 0 ∧ y = a) ∨ (i = 1 ∧ y = minH a b))) (fun (i, y) => 1 - i) (0, a) (⟨hbk, Or.inl ⟨rfl, rfl⟩⟩)
      (hR.sel [3, 2, 0] [] (by kernel_rfl) (by kernel_rfl)) (hI.sel [4, 5, 9, 10, 11] (by kernel_rfl)) ?_
  clear hR hI
  rintro ⟨i, y⟩ e4 a4 w4 hp hR hI
  dsimp only at hp hR hI
  obtain ⟨hbk, hp⟩ := hp
  refine reg_seq tab (k := 4) (hs := []) (sy := []) (ks := [12, 4, 5, 9, 10, 11]) (bs := [3, 2, 0]) (gs := [])
      (L' := [(12, .v (.bool (decide (((i : Nat) : Int) < (1 : Int))))), (4, .p 2 0), (5, .p 3 0), (9, .sl 0 0 1 1), (10, .v (.int .i64 1)), (11, .v (.int .i64 ((i : Nat) : Int)))])
      (H' := [⟨3, 44, [.v (.int .u16 ((y : Nat) : Int))]⟩, ⟨2, 44, [.v (.int .u16 0)]⟩, ⟨0, 44, [.v (.int .u16 ((b : Nat) : Int))]⟩]) (G' := []) (k' := 4) hR hI (by kernel_rfl)
      .nil (fun e5 a5 w5 hag hR hI => ?_)
  replace hbk := (hag 0 (by decide)).1.trans hbk
  refine wp_seq ?_
  refine cnd (b := decide (((i : Nat) : Int) < (1 : Int))) hI (by kernel_rfl) (fun hc6 => ?_) (fun hc6 => ?_)
  · skip
    replace hI := hI.re 12 (.v (.bool true)) rfl (congrArg Value.bool hc6)
    try simp only [decide_eq_true_eq, decide_eq_false_iff_not, beq_iff_eq, bne_iff_ne, beq_eq_false_iff_ne, bne_eq_false_iff_eq, Bool.and_eq_true, Bool.and_eq_false_iff, Bool.or_eq_true, Bool.or_eq_false_iff, Bool.not_eq_true', Bool.not_eq_false', ne_eq] at hc6
    obtain ⟨hi0, hy0⟩ : i = 0 ∧ y = a := by
      rcases hp with h | h
      · exact h
      · exact absurd h.1 (by omega)
    replace hI := hI.re 11 (.v (.int .i64 0)) rfl (congrArg (Value.int .i64) (by rw [hi0]; rfl))
    refine wp_skip ?_
    refine then_n ?_
    refine wp_seq ?_
    refine wp_block ?_
    refine reg_seq tab (k := 4) (hs := []) (sy := []) (ks := [7, 11, 4, 5, 9, 10]) (bs := [4, 3, 2, 0]) (gs := [])
        (L' := [(7, .p 4 0), (11, .v (.int .i64 0)), (4, .p 2 0), (5, .p 3 0), (9, .sl 0 0 1 1), (10, .v (.int .i64 1))])
        (H' := [⟨4, 44, [.v (.int .u16 ((b : Nat) : Int))]⟩, ⟨3, 44, [.v (.int .u16 ((y : Nat) : Int))]⟩, ⟨2, 44, [.v (.int .u16 0)]⟩, ⟨0, 44, [.v (.int .u16 ((b : Nat) : Int))]⟩]) (G' := []) (k' := 5) hR hI (by kernel_rfl)
        (.cons (by omega : (0 : Int) ≤ (0 : Int) ∧ (0 : Int) < ((1 : Nat) : Int)) .nil) (fun e7 a7 w7 hag hR hI => ?_)
    replace hbk := (hag 0 (by decide)).1.trans hbk
    refine wp_seq ?_
    refine reg (is := [0, 1, 2]) (by kernel_rfl) ?_
    refine part_ tab [0, 1] [2] (by rfl) (k := 5) (hs := []) (sy := []) (ks := [16, 15, 7, 11, 4, 5, 9, 10]) (bs := [4, 3, 2, 0]) (gs := [])
        (L' := [(16, .agg [.v (.int .u16 ((y : Nat) : Int))]), (15, .agg [.v (.int .u16 ((b : Nat) : Int))]), (7, .p 4 0), (11, .v (.int .i64 0)), (4, .p 2 0), (5, .p 3 0), (9, .sl 0 0 1 1), (10, .v (.int .i64 1))])
        (H' := [⟨4, 44, [.v (.int .u16 ((b : Nat) : Int))]⟩, ⟨3, 44, [.v (.int .u16 ((y : Nat) : Int))]⟩, ⟨2, 44, [.v (.int .u16 0)]⟩, ⟨0, 44, [.v (.int .u16 ((b : Nat) : Int))]⟩]) (G' := []) (k' := 5) hR hI (by kernel_rfl)
        .nil (fun e8 a8 w8 hag hR hI => ?_)
    replace hbk := (hag 0 (by decide)).1.trans hbk
    refine callOp (ys := [.agg [.v (.int .u16 ((b : Nat) : Int))], .agg [.v (.int .u16 ((y : Nat) : Int))]]) hI rfl rfl ⟨_, rfl, rfl, rfl⟩ (by kernel_rfl) Try.func42 rfl rfl ?_
    refine (Less_spec (C := C) (a := b) (b := y) hb2 (by rw [hy0]; exact ha)).mono ?_
    rintro ex w9 ⟨rfl, hk⟩
    replace hR := hR.same hk; clear hk
    refine ⟨_, rfl, ?_⟩
    replace hI := hI.put (d := some 17) (x := .v (.bool (FloatKind.f32.format.order (sgl b) (sgl y) == some .lt))) (by intro t ht; cases ht; decide) rfl
    replace hI := hI.sel [17, 16, 15, 7, 11, 4, 5, 9, 10] (by kernel_rfl : sel _ _ = some [(17, .v (.bool (FloatKind.f32.format.order (sgl b) (sgl y) == some .lt))), (16, .agg [.v (.int .u16 ((y : Nat) : Int))]), (15, .agg [.v (.int .u16 ((b : Nat) : Int))]), (7, .p 4 0), (11, .v (.int .i64 0)), (4, .p 2 0), (5, .p 3 0), (9, .sl 0 0 1 1), (10, .v (.int .i64 1))])
    refine ops_nil ?_
    refine then_n ?_
    refine cnd (b := FloatKind.f32.format.order (sgl b) (sgl y) == some .lt) hI (by kernel_rfl) (fun hc10 => ?_) (fun hc10 => ?_)
    · skip
      replace hI := hI.re 17 (.v (.bool true)) rfl (congrArg Value.bool hc10)
      try simp only [decide_eq_true_eq, decide_eq_false_iff_not, beq_iff_eq, bne_iff_ne, beq_eq_false_iff_ne, bne_eq_false_iff_eq, Bool.and_eq_true, Bool.and_eq_false_iff, Bool.or_eq_true, Bool.or_eq_false_iff, Bool.not_eq_true', Bool.not_eq_false', ne_eq] at hc10
      have hbr := hc10
      refine reg_all tab (k := 5) (hs := []) (sy := []) (ks := [11, 4, 5, 9, 10]) (bs := [3, 2, 0]) (gs := [])
          (L' := [(11, .v (.int .i64 0)), (4, .p 2 0), (5, .p 3 0), (9, .sl 0 0 1 1), (10, .v (.int .i64 1))])
          (H' := [⟨3, 44, [.v (.int .u16 ((b : Nat) : Int))]⟩, ⟨2, 44, [.v (.int .u16 0)]⟩, ⟨0, 44, [.v (.int .u16 ((b : Nat) : Int))]⟩]) (G' := []) (k' := 5) hR hI (by kernel_rfl)
          .nil (fun e11 a11 w11 hag hR hI => ?_)
      replace hbk := (hag 0 (by decide)).1.trans hbk
      refine normal_block ?_
      refine then_n ?_
      refine reg_all tab (k := 5) (hs := [(0, .nw)]) (sy := []) (ks := [11, 4, 5, 9, 10]) (bs := [3, 2, 0]) (gs := [])
          (L' := [(11, .v (.int .i64 ((0 : Int) + (1 : Int)))), (4, .p 2 0), (5, .p 3 0), (9, .sl 0 0 1 1), (10, .v (.int .i64 1))])
          (H' := [⟨3, 44, [.v (.int .u16 ((b : Nat) : Int))]⟩, ⟨2, 44, [.v (.int .u16 0)]⟩, ⟨0, 44, [.v (.int .u16 ((b : Nat) : Int))]⟩]) (G' := []) (k' := 5) hR hI (by kernel_rfl)
          (.cons (inR_i64 (n := (0 : Int) + (1 : Int)) (by omega)) .nil) (fun e12 a12 w12 hag hR hI => ?_)
      replace hbk := (hag 0 (by decide)).1.trans hbk
      refine then_n ?_
      exact ⟨(1, b), e12, ⟨hbk, Or.inr ⟨rfl, by unfold minH; rw [← hy0]; simp [hbr]⟩⟩, by (try dsimp only); omega, hR.sel [3, 2, 0] [] (by kernel_rfl) (by kernel_rfl), hI.sel [4, 5, 9, 10, 11] (by kernel_rfl)⟩
    · skip
      replace hI := hI.re 17 (.v (.bool false)) rfl (congrArg Value.bool hc10)
      try simp only [decide_eq_true_eq, decide_eq_false_iff_not, beq_iff_eq, bne_iff_ne, beq_eq_false_iff_ne, bne_eq_false_iff_eq, Bool.and_eq_true, Bool.and_eq_false_iff, Bool.or_eq_true, Bool.or_eq_false_iff, Bool.not_eq_true', Bool.not_eq_false', ne_eq] at hc10
      have hbr := hc10
      refine wp_skip ?_
      refine normal_block ?_
      refine then_n ?_
      refine reg_all tab (k := 5) (hs := [(0, .nw)]) (sy := []) (ks := [11, 4, 5, 9, 10]) (bs := [3, 2, 0]) (gs := [])
          (L' := [(11, .v (.int .i64 ((0 : Int) + (1 : Int)))), (4, .p 2 0), (5, .p 3 0), (9, .sl 0 0 1 1), (10, .v (.int .i64 1))])
          (H' := [⟨3, 44, [.v (.int .u16 ((y : Nat) : Int))]⟩, ⟨2, 44, [.v (.int .u16 0)]⟩, ⟨0, 44, [.v (.int .u16 ((b : Nat) : Int))]⟩]) (G' := []) (k' := 5) hR hI (by kernel_rfl)
          (.cons (inR_i64 (n := (0 : Int) + (1 : Int)) (by omega)) .nil) (fun e13 a13 w13 hag hR hI => ?_)
      replace hbk := (hag 0 (by decide)).1.trans hbk
      refine then_n ?_
      exact ⟨(1, y), e13, ⟨hbk, Or.inr ⟨rfl, by unfold minH; rw [← hy0]; simp [hbr]⟩⟩, by (try dsimp only); omega, hR.sel [3, 2, 0] [] (by kernel_rfl) (by kernel_rfl), hI.sel [4, 5, 9, 10, 11] (by kernel_rfl)⟩
  · skip
    replace hI := hI.re 12 (.v (.bool false)) rfl (congrArg Value.bool hc6)
    try simp only [decide_eq_true_eq, decide_eq_false_iff_not, beq_iff_eq, bne_iff_ne, beq_eq_false_iff_ne, bne_eq_false_iff_eq, Bool.and_eq_true, Bool.and_eq_false_iff, Bool.or_eq_true, Bool.or_eq_false_iff, Bool.not_eq_true', Bool.not_eq_false', ne_eq] at hc6
    refine wp_exit ?_
    refine exit_then ?_
    refine exit_then ?_
    refine exit_hit ?_
    refine then_n ?_
    refine reg_seq tab (k := 4) (hs := []) (sy := []) (ks := [4]) (bs := [2, 0]) (gs := [])
        (L' := [(4, .p 2 0)])
        (H' := [⟨2, 44, [.v (.int .u16 ((y : Nat) : Int))]⟩, ⟨0, 44, [.v (.int .u16 ((b : Nat) : Int))]⟩]) (G' := []) (k' := 4) hR hI (by kernel_rfl)
        .nil (fun e14 a14 w14 hag hR hI => ?_)
    replace hbk := (hag 0 (by decide)).1.trans hbk
    refine wp_ret ?_
    refine outN tab (xs := [.agg [.v (.int .u16 ((y : Nat) : Int))]]) hR hI rfl (by kernel_rfl) ?_
    have hy_ : y = minH a b := by
      rcases hp with h | h
      · exact absurd h.1 (by omega)
      · exact h.2
    exact ⟨by rw [hy_]; rfl, hB.fin hR, hbk ▸ (hR.blk _ (List.mem_cons_of_mem _ (List.mem_cons_self ..))).1⟩

/-- What HalfOp gives. -/
def HRes (op : Int) (a b r : Nat) : Prop := (op = 0 → ∃ z, FRes (floatBits .add .f32 (sgl a) (sgl b)) z ∧ r = newH z) ∧ (op = 1 → ∃ z, FRes (floatBits .sub .f32 (sgl a) (sgl b)) z ∧ r = newH z) ∧ (op = 2 → ∃ z, FRes (floatBits .mul .f32 (sgl a) (sgl b)) z ∧ r = newH z) ∧ (op = 3 → ∃ z, FRes (floatBits .quo .f32 (sgl a) (sgl b)) z ∧ r = newH z) ∧ (op = 4 → r = maxH a b) ∧ (op = 5 → r = minH a b)

set_option maxHeartbeats 4000000 in
set_option maxRecDepth 100000 in
theorem HalfOp_spec {C : Nat → Prop} {w : World} {op : Int} {a b : Nat} (ha : a < 65536) (hb : b < 65536) :
    Calls P 10 #[.int .i64 op, .int .u16 ((a : Nat) : Int), .int .u16 ((b : Nat) : Int)] w fun ex w' => (∃ r : Nat, HRes op a b r ∧ ex = .returned (.int .u16 ((r : Nat) : Int))) ∧ Keep (fun b => b < w.heap.size) w w' := by
  refine doorN (e := e0) (vs := [.v (.int .i64 op), .v (.int .u16 ((a : Nat) : Int)), .v (.int .u16 ((b : Nat) : Int))]) (n := 52) (m := 3) Try.func10 rfl rfl rfl (by decide) fun a_ hI => ?_
  replace hI : Is 52 [] e0 [(0, .v (.int .i64 op)), (1, .v (.int .u16 ((a : Nat) : Int))), (2, .v (.int .u16 ((b : Nat) : Int)))] a_ := hI
  have hR : Rel (fun b => b < w.heap.size) w e0 [] [] w := Rel.start (fun k hk => hk)
  have hB : Base C w C (fun b => b < w.heap.size) w := Base.start
  refine reg_seq tab (k := 0) (hs := []) (sy := []) (ks := [0, 1, 2]) (bs := []) (gs := [])
      (L' := [(0, .v (.int .i64 op)), (1, .v (.int .u16 ((a : Nat) : Int))), (2, .v (.int .u16 ((b : Nat) : Int)))])
      (H' := []) (G' := []) (k' := 0) hR hI (by kernel_rfl)
      .nil (fun e1 a1 w1 hag hR hI => ?_)
  refine wp_seq ?_
  refine reg (is := [0, 1, 2, 3, 4, 5, 6, 7]) (by kernel_rfl) ?_
  refine part_ tab [0] [1, 2, 3, 4, 5, 6, 7] (by rfl) (k := 0) (hs := []) (sy := []) (ks := [9, 0, 2]) (bs := []) (gs := [])
      (L' := [(9, .v (.int .u16 ((a : Nat) : Int))), (0, .v (.int .i64 op)), (2, .v (.int .u16 ((b : Nat) : Int)))])
      (H' := []) (G' := []) (k' := 0) hR hI (by kernel_rfl)
      .nil (fun e2 a2 w2 hag hR hI => ?_)
  refine callOp (ys := [.v (.int .u16 ((a : Nat) : Int))]) hI rfl rfl ⟨_, rfl, rfl, rfl⟩ (by kernel_rfl) Try.func19 rfl rfl ?_
  refine (fromBits_spec (C := C) (((a : Nat) : Int))).mono ?_
  rintro ex w3 ⟨rfl, hk⟩
  replace hR := hR.same hk; clear hk
  refine ⟨_, rfl, ?_⟩
  replace hI := hI.put (d := some 10) (x := .v (.agg #[.int .u16 ((a : Nat) : Int)])) (by intro t ht; cases ht; decide) rfl
  replace hI := hI.sel [10, 9, 0, 2] (by kernel_rfl : sel _ _ = some [(10, .v (.agg #[.int .u16 ((a : Nat) : Int)])), (9, .v (.int .u16 ((a : Nat) : Int))), (0, .v (.int .i64 op)), (2, .v (.int .u16 ((b : Nat) : Int)))])
  refine part_ tab [2] [3, 4, 5, 6, 7] (by rfl) (k := 0) (hs := []) (sy := []) (ks := [11, 10, 0]) (bs := []) (gs := [])
      (L' := [(11, .v (.int .u16 ((b : Nat) : Int))), (10, .v (.agg #[.int .u16 ((a : Nat) : Int)])), (0, .v (.int .i64 op))])
      (H' := []) (G' := []) (k' := 0) hR hI (by kernel_rfl)
      .nil (fun e4 a4 w4 hag hR hI => ?_)
  refine callOp (ys := [.v (.int .u16 ((b : Nat) : Int))]) hI rfl rfl ⟨_, rfl, rfl, rfl⟩ (by kernel_rfl) Try.func19 rfl rfl ?_
  refine (fromBits_spec (C := C) (((b : Nat) : Int))).mono ?_
  rintro ex w5 ⟨rfl, hk⟩
  replace hR := hR.same hk; clear hk
  refine ⟨_, rfl, ?_⟩
  replace hI := hI.put (d := some 12) (x := .v (.agg #[.int .u16 ((b : Nat) : Int)])) (by intro t ht; cases ht; decide) rfl
  replace hI := hI.sel [12, 11, 10, 0] (by kernel_rfl : sel _ _ = some [(12, .v (.agg #[.int .u16 ((b : Nat) : Int)])), (11, .v (.int .u16 ((b : Nat) : Int))), (10, .v (.agg #[.int .u16 ((a : Nat) : Int)])), (0, .v (.int .i64 op))])
  refine part_ tab [4, 5, 6, 7] [] (by rfl) (k := 0) (hs := []) (sy := []) (ks := [8, 7, 0]) (bs := [1, 0]) (gs := [])
      (L' := [(8, .p 1 0), (7, .p 0 0), (0, .v (.int .i64 op))])
      (H' := [⟨1, 44, [.v (.int .u16 ((b : Nat) : Int))]⟩, ⟨0, 44, [.v (.int .u16 ((a : Nat) : Int))]⟩]) (G' := []) (k' := 2) hR hI (by kernel_rfl)
      .nil (fun e6 a6 w6 hag hR hI => ?_)
  refine ops_nil ?_
  refine then_n ?_
  refine wp_seq ?_
  refine reg_seq tab (k := 2) (hs := []) (sy := []) (ks := [13, 8, 7]) (bs := [1, 0]) (gs := [])
      (L' := [(13, .v (.int .i64 op)), (8, .p 1 0), (7, .p 0 0)])
      (H' := [⟨1, 44, [.v (.int .u16 ((b : Nat) : Int))]⟩, ⟨0, 44, [.v (.int .u16 ((a : Nat) : Int))]⟩]) (G' := []) (k' := 2) hR hI (by kernel_rfl)
      .nil (fun e7 a7 w7 hag hR hI => ?_)
  refine wp_block ?_
  refine reg_seq tab (k := 2) (hs := []) (sy := []) (ks := [14, 13, 8, 7]) (bs := [1, 0]) (gs := [])
      (L' := [(14, .v (.bool (op == (0 : Int)))), (13, .v (.int .i64 op)), (8, .p 1 0), (7, .p 0 0)])
      (H' := [⟨1, 44, [.v (.int .u16 ((b : Nat) : Int))]⟩, ⟨0, 44, [.v (.int .u16 ((a : Nat) : Int))]⟩]) (G' := []) (k' := 2) hR hI (by kernel_rfl)
      .nil (fun e8 a8 w8 hag hR hI => ?_)
  refine cnd (b := (op == (0 : Int))) hI (by kernel_rfl) (fun hc9 => ?_) (fun hc9 => ?_)
  · skip
    replace hI := hI.re 14 (.v (.bool true)) rfl (congrArg Value.bool hc9)
    try simp only [decide_eq_true_eq, decide_eq_false_iff_not, beq_iff_eq, bne_iff_ne, beq_eq_false_iff_ne, bne_eq_false_iff_eq, Bool.and_eq_true, Bool.and_eq_false_iff, Bool.or_eq_true, Bool.or_eq_false_iff, Bool.not_eq_true', Bool.not_eq_false', ne_eq] at hc9
    refine wp_seq ?_
    refine reg (is := [0, 1, 2, 3, 4]) (by kernel_rfl) ?_
    refine part_ tab [0, 1] [2, 3, 4] (by rfl) (k := 2) (hs := []) (sy := []) (ks := [17, 16]) (bs := []) (gs := [])
        (L' := [(17, .agg [.v (.int .u16 ((b : Nat) : Int))]), (16, .agg [.v (.int .u16 ((a : Nat) : Int))])])
        (H' := []) (G' := []) (k' := 2) hR hI (by kernel_rfl)
        .nil (fun e10 a10 w10 hag hR hI => ?_)
    refine callOp (ys := [.agg [.v (.int .u16 ((a : Nat) : Int))], .agg [.v (.int .u16 ((b : Nat) : Int))]]) hI rfl rfl ⟨_, rfl, rfl, rfl⟩ (by kernel_rfl) Try.func26 rfl rfl ?_
    refine (Add_spec (C := C) ha hb).mono ?_
    rintro ex w11 ⟨⟨z, hz, rfl⟩, hk⟩
    replace hR := hR.same hk; clear hk
    refine ⟨_, rfl, ?_⟩
    replace hI := hI.put (d := some 18) (x := .v (.agg #[.int .u16 ((newH z : Nat) : Int)])) (by intro t ht; cases ht; decide) rfl
    replace hI := hI.sel [18, 17, 16] (by kernel_rfl : sel _ _ = some [(18, .v (.agg #[.int .u16 ((newH z : Nat) : Int)])), (17, .agg [.v (.int .u16 ((b : Nat) : Int))]), (16, .agg [.v (.int .u16 ((a : Nat) : Int))])])
    refine callOp (ys := [.v (.agg #[.int .u16 ((newH z : Nat) : Int)])]) hI rfl rfl ⟨_, rfl, rfl, rfl⟩ (by kernel_rfl) Try.func27 rfl rfl ?_
    refine (uint16_spec (C := C) (((newH z : Nat) : Int))).mono ?_
    rintro ex w12 ⟨rfl, hk⟩
    replace hR := hR.same hk; clear hk
    refine ⟨_, rfl, ?_⟩
    replace hI := hI.put (d := some 19) (x := .v (.int .u16 ((newH z : Nat) : Int))) (by intro t ht; cases ht; decide) rfl
    replace hI := hI.sel [19, 18, 17, 16] (by kernel_rfl : sel _ _ = some [(19, .v (.int .u16 ((newH z : Nat) : Int))), (18, .v (.agg #[.int .u16 ((newH z : Nat) : Int)])), (17, .agg [.v (.int .u16 ((b : Nat) : Int))]), (16, .agg [.v (.int .u16 ((a : Nat) : Int))])])
    refine part_ tab [4] [] (by rfl) (k := 2) (hs := []) (sy := []) (ks := [6]) (bs := []) (gs := [])
        (L' := [(6, .v (.int .u16 ((newH z : Nat) : Int)))])
        (H' := []) (G' := []) (k' := 2) hR hI (by kernel_rfl)
        .nil (fun e13 a13 w13 hag hR hI => ?_)
    refine ops_nil ?_
    refine then_n ?_
    refine wp_ret ?_
    refine ret_block ?_
    refine ret_then ?_
    refine outN tab (xs := [.v (.int .u16 ((newH z : Nat) : Int))]) hR hI rfl (by kernel_rfl) ?_
    exact ⟨⟨newH z, ⟨fun _ => ⟨z, hz, rfl⟩, fun h => absurd h (by omega), fun h => absurd h (by omega), fun h => absurd h (by omega), fun h => absurd h (by omega), fun h => absurd h (by omega)⟩, rfl⟩, hB.fin hR⟩
  · skip
    replace hI := hI.re 14 (.v (.bool false)) rfl (congrArg Value.bool hc9)
    try simp only [decide_eq_true_eq, decide_eq_false_iff_not, beq_iff_eq, bne_iff_ne, beq_eq_false_iff_ne, bne_eq_false_iff_eq, Bool.and_eq_true, Bool.and_eq_false_iff, Bool.or_eq_true, Bool.or_eq_false_iff, Bool.not_eq_true', Bool.not_eq_false', ne_eq] at hc9
    refine reg_seq tab (k := 2) (hs := []) (sy := []) (ks := [20, 13, 8, 7]) (bs := [1, 0]) (gs := [])
        (L' := [(20, .v (.bool (op == (1 : Int)))), (13, .v (.int .i64 op)), (8, .p 1 0), (7, .p 0 0)])
        (H' := [⟨1, 44, [.v (.int .u16 ((b : Nat) : Int))]⟩, ⟨0, 44, [.v (.int .u16 ((a : Nat) : Int))]⟩]) (G' := []) (k' := 2) hR hI (by kernel_rfl)
        .nil (fun e14 a14 w14 hag hR hI => ?_)
    refine cnd (b := (op == (1 : Int))) hI (by kernel_rfl) (fun hc15 => ?_) (fun hc15 => ?_)
    · skip
      replace hI := hI.re 20 (.v (.bool true)) rfl (congrArg Value.bool hc15)
      try simp only [decide_eq_true_eq, decide_eq_false_iff_not, beq_iff_eq, bne_iff_ne, beq_eq_false_iff_ne, bne_eq_false_iff_eq, Bool.and_eq_true, Bool.and_eq_false_iff, Bool.or_eq_true, Bool.or_eq_false_iff, Bool.not_eq_true', Bool.not_eq_false', ne_eq] at hc15
      refine wp_seq ?_
      refine reg (is := [0, 1, 2, 3, 4]) (by kernel_rfl) ?_
      refine part_ tab [0, 1] [2, 3, 4] (by rfl) (k := 2) (hs := []) (sy := []) (ks := [23, 22]) (bs := []) (gs := [])
          (L' := [(23, .agg [.v (.int .u16 ((b : Nat) : Int))]), (22, .agg [.v (.int .u16 ((a : Nat) : Int))])])
          (H' := []) (G' := []) (k' := 2) hR hI (by kernel_rfl)
          .nil (fun e16 a16 w16 hag hR hI => ?_)
      refine callOp (ys := [.agg [.v (.int .u16 ((a : Nat) : Int))], .agg [.v (.int .u16 ((b : Nat) : Int))]]) hI rfl rfl ⟨_, rfl, rfl, rfl⟩ (by kernel_rfl) Try.func28 rfl rfl ?_
      refine (Sub_spec (C := C) ha hb).mono ?_
      rintro ex w17 ⟨⟨z, hz, rfl⟩, hk⟩
      replace hR := hR.same hk; clear hk
      refine ⟨_, rfl, ?_⟩
      replace hI := hI.put (d := some 24) (x := .v (.agg #[.int .u16 ((newH z : Nat) : Int)])) (by intro t ht; cases ht; decide) rfl
      replace hI := hI.sel [24, 23, 22] (by kernel_rfl : sel _ _ = some [(24, .v (.agg #[.int .u16 ((newH z : Nat) : Int)])), (23, .agg [.v (.int .u16 ((b : Nat) : Int))]), (22, .agg [.v (.int .u16 ((a : Nat) : Int))])])
      refine callOp (ys := [.v (.agg #[.int .u16 ((newH z : Nat) : Int)])]) hI rfl rfl ⟨_, rfl, rfl, rfl⟩ (by kernel_rfl) Try.func27 rfl rfl ?_
      refine (uint16_spec (C := C) (((newH z : Nat) : Int))).mono ?_
      rintro ex w18 ⟨rfl, hk⟩
      replace hR := hR.same hk; clear hk
      refine ⟨_, rfl, ?_⟩
      replace hI := hI.put (d := some 25) (x := .v (.int .u16 ((newH z : Nat) : Int))) (by intro t ht; cases ht; decide) rfl
      replace hI := hI.sel [25, 24, 23, 22] (by kernel_rfl : sel _ _ = some [(25, .v (.int .u16 ((newH z : Nat) : Int))), (24, .v (.agg #[.int .u16 ((newH z : Nat) : Int)])), (23, .agg [.v (.int .u16 ((b : Nat) : Int))]), (22, .agg [.v (.int .u16 ((a : Nat) : Int))])])
      refine part_ tab [4] [] (by rfl) (k := 2) (hs := []) (sy := []) (ks := [6]) (bs := []) (gs := [])
          (L' := [(6, .v (.int .u16 ((newH z : Nat) : Int)))])
          (H' := []) (G' := []) (k' := 2) hR hI (by kernel_rfl)
          .nil (fun e19 a19 w19 hag hR hI => ?_)
      refine ops_nil ?_
      refine then_n ?_
      refine wp_ret ?_
      refine ret_block ?_
      refine ret_then ?_
      refine outN tab (xs := [.v (.int .u16 ((newH z : Nat) : Int))]) hR hI rfl (by kernel_rfl) ?_
      exact ⟨⟨newH z, ⟨fun h => absurd h (by omega), fun _ => ⟨z, hz, rfl⟩, fun h => absurd h (by omega), fun h => absurd h (by omega), fun h => absurd h (by omega), fun h => absurd h (by omega)⟩, rfl⟩, hB.fin hR⟩
    · skip
      replace hI := hI.re 20 (.v (.bool false)) rfl (congrArg Value.bool hc15)
      try simp only [decide_eq_true_eq, decide_eq_false_iff_not, beq_iff_eq, bne_iff_ne, beq_eq_false_iff_ne, bne_eq_false_iff_eq, Bool.and_eq_true, Bool.and_eq_false_iff, Bool.or_eq_true, Bool.or_eq_false_iff, Bool.not_eq_true', Bool.not_eq_false', ne_eq] at hc15
      refine reg_seq tab (k := 2) (hs := []) (sy := []) (ks := [26, 13, 8, 7]) (bs := [1, 0]) (gs := [])
          (L' := [(26, .v (.bool (op == (2 : Int)))), (13, .v (.int .i64 op)), (8, .p 1 0), (7, .p 0 0)])
          (H' := [⟨1, 44, [.v (.int .u16 ((b : Nat) : Int))]⟩, ⟨0, 44, [.v (.int .u16 ((a : Nat) : Int))]⟩]) (G' := []) (k' := 2) hR hI (by kernel_rfl)
          .nil (fun e20 a20 w20 hag hR hI => ?_)
      refine cnd (b := (op == (2 : Int))) hI (by kernel_rfl) (fun hc21 => ?_) (fun hc21 => ?_)
      · skip
        replace hI := hI.re 26 (.v (.bool true)) rfl (congrArg Value.bool hc21)
        try simp only [decide_eq_true_eq, decide_eq_false_iff_not, beq_iff_eq, bne_iff_ne, beq_eq_false_iff_ne, bne_eq_false_iff_eq, Bool.and_eq_true, Bool.and_eq_false_iff, Bool.or_eq_true, Bool.or_eq_false_iff, Bool.not_eq_true', Bool.not_eq_false', ne_eq] at hc21
        refine wp_seq ?_
        refine reg (is := [0, 1, 2, 3, 4]) (by kernel_rfl) ?_
        refine part_ tab [0, 1] [2, 3, 4] (by rfl) (k := 2) (hs := []) (sy := []) (ks := [29, 28]) (bs := []) (gs := [])
            (L' := [(29, .agg [.v (.int .u16 ((b : Nat) : Int))]), (28, .agg [.v (.int .u16 ((a : Nat) : Int))])])
            (H' := []) (G' := []) (k' := 2) hR hI (by kernel_rfl)
            .nil (fun e22 a22 w22 hag hR hI => ?_)
        refine callOp (ys := [.agg [.v (.int .u16 ((a : Nat) : Int))], .agg [.v (.int .u16 ((b : Nat) : Int))]]) hI rfl rfl ⟨_, rfl, rfl, rfl⟩ (by kernel_rfl) Try.func29 rfl rfl ?_
        refine (Mul_spec (C := C) ha hb).mono ?_
        rintro ex w23 ⟨⟨z, hz, rfl⟩, hk⟩
        replace hR := hR.same hk; clear hk
        refine ⟨_, rfl, ?_⟩
        replace hI := hI.put (d := some 30) (x := .v (.agg #[.int .u16 ((newH z : Nat) : Int)])) (by intro t ht; cases ht; decide) rfl
        replace hI := hI.sel [30, 29, 28] (by kernel_rfl : sel _ _ = some [(30, .v (.agg #[.int .u16 ((newH z : Nat) : Int)])), (29, .agg [.v (.int .u16 ((b : Nat) : Int))]), (28, .agg [.v (.int .u16 ((a : Nat) : Int))])])
        refine callOp (ys := [.v (.agg #[.int .u16 ((newH z : Nat) : Int)])]) hI rfl rfl ⟨_, rfl, rfl, rfl⟩ (by kernel_rfl) Try.func27 rfl rfl ?_
        refine (uint16_spec (C := C) (((newH z : Nat) : Int))).mono ?_
        rintro ex w24 ⟨rfl, hk⟩
        replace hR := hR.same hk; clear hk
        refine ⟨_, rfl, ?_⟩
        replace hI := hI.put (d := some 31) (x := .v (.int .u16 ((newH z : Nat) : Int))) (by intro t ht; cases ht; decide) rfl
        replace hI := hI.sel [31, 30, 29, 28] (by kernel_rfl : sel _ _ = some [(31, .v (.int .u16 ((newH z : Nat) : Int))), (30, .v (.agg #[.int .u16 ((newH z : Nat) : Int)])), (29, .agg [.v (.int .u16 ((b : Nat) : Int))]), (28, .agg [.v (.int .u16 ((a : Nat) : Int))])])
        refine part_ tab [4] [] (by rfl) (k := 2) (hs := []) (sy := []) (ks := [6]) (bs := []) (gs := [])
            (L' := [(6, .v (.int .u16 ((newH z : Nat) : Int)))])
            (H' := []) (G' := []) (k' := 2) hR hI (by kernel_rfl)
            .nil (fun e25 a25 w25 hag hR hI => ?_)
        refine ops_nil ?_
        refine then_n ?_
        refine wp_ret ?_
        refine ret_block ?_
        refine ret_then ?_
        refine outN tab (xs := [.v (.int .u16 ((newH z : Nat) : Int))]) hR hI rfl (by kernel_rfl) ?_
        exact ⟨⟨newH z, ⟨fun h => absurd h (by omega), fun h => absurd h (by omega), fun _ => ⟨z, hz, rfl⟩, fun h => absurd h (by omega), fun h => absurd h (by omega), fun h => absurd h (by omega)⟩, rfl⟩, hB.fin hR⟩
      · skip
        replace hI := hI.re 26 (.v (.bool false)) rfl (congrArg Value.bool hc21)
        try simp only [decide_eq_true_eq, decide_eq_false_iff_not, beq_iff_eq, bne_iff_ne, beq_eq_false_iff_ne, bne_eq_false_iff_eq, Bool.and_eq_true, Bool.and_eq_false_iff, Bool.or_eq_true, Bool.or_eq_false_iff, Bool.not_eq_true', Bool.not_eq_false', ne_eq] at hc21
        refine reg_seq tab (k := 2) (hs := []) (sy := []) (ks := [32, 13, 8, 7]) (bs := [1, 0]) (gs := [])
            (L' := [(32, .v (.bool (op == (3 : Int)))), (13, .v (.int .i64 op)), (8, .p 1 0), (7, .p 0 0)])
            (H' := [⟨1, 44, [.v (.int .u16 ((b : Nat) : Int))]⟩, ⟨0, 44, [.v (.int .u16 ((a : Nat) : Int))]⟩]) (G' := []) (k' := 2) hR hI (by kernel_rfl)
            .nil (fun e26 a26 w26 hag hR hI => ?_)
        refine cnd (b := (op == (3 : Int))) hI (by kernel_rfl) (fun hc27 => ?_) (fun hc27 => ?_)
        · skip
          replace hI := hI.re 32 (.v (.bool true)) rfl (congrArg Value.bool hc27)
          try simp only [decide_eq_true_eq, decide_eq_false_iff_not, beq_iff_eq, bne_iff_ne, beq_eq_false_iff_ne, bne_eq_false_iff_eq, Bool.and_eq_true, Bool.and_eq_false_iff, Bool.or_eq_true, Bool.or_eq_false_iff, Bool.not_eq_true', Bool.not_eq_false', ne_eq] at hc27
          refine wp_seq ?_
          refine reg (is := [0, 1, 2, 3, 4]) (by kernel_rfl) ?_
          refine part_ tab [0, 1] [2, 3, 4] (by rfl) (k := 2) (hs := []) (sy := []) (ks := [35, 34]) (bs := []) (gs := [])
              (L' := [(35, .agg [.v (.int .u16 ((b : Nat) : Int))]), (34, .agg [.v (.int .u16 ((a : Nat) : Int))])])
              (H' := []) (G' := []) (k' := 2) hR hI (by kernel_rfl)
              .nil (fun e28 a28 w28 hag hR hI => ?_)
          refine callOp (ys := [.agg [.v (.int .u16 ((a : Nat) : Int))], .agg [.v (.int .u16 ((b : Nat) : Int))]]) hI rfl rfl ⟨_, rfl, rfl, rfl⟩ (by kernel_rfl) Try.func30 rfl rfl ?_
          refine (Div_spec (C := C) ha hb).mono ?_
          rintro ex w29 ⟨⟨z, hz, rfl⟩, hk⟩
          replace hR := hR.same hk; clear hk
          refine ⟨_, rfl, ?_⟩
          replace hI := hI.put (d := some 36) (x := .v (.agg #[.int .u16 ((newH z : Nat) : Int)])) (by intro t ht; cases ht; decide) rfl
          replace hI := hI.sel [36, 35, 34] (by kernel_rfl : sel _ _ = some [(36, .v (.agg #[.int .u16 ((newH z : Nat) : Int)])), (35, .agg [.v (.int .u16 ((b : Nat) : Int))]), (34, .agg [.v (.int .u16 ((a : Nat) : Int))])])
          refine callOp (ys := [.v (.agg #[.int .u16 ((newH z : Nat) : Int)])]) hI rfl rfl ⟨_, rfl, rfl, rfl⟩ (by kernel_rfl) Try.func27 rfl rfl ?_
          refine (uint16_spec (C := C) (((newH z : Nat) : Int))).mono ?_
          rintro ex w30 ⟨rfl, hk⟩
          replace hR := hR.same hk; clear hk
          refine ⟨_, rfl, ?_⟩
          replace hI := hI.put (d := some 37) (x := .v (.int .u16 ((newH z : Nat) : Int))) (by intro t ht; cases ht; decide) rfl
          replace hI := hI.sel [37, 36, 35, 34] (by kernel_rfl : sel _ _ = some [(37, .v (.int .u16 ((newH z : Nat) : Int))), (36, .v (.agg #[.int .u16 ((newH z : Nat) : Int)])), (35, .agg [.v (.int .u16 ((b : Nat) : Int))]), (34, .agg [.v (.int .u16 ((a : Nat) : Int))])])
          refine part_ tab [4] [] (by rfl) (k := 2) (hs := []) (sy := []) (ks := [6]) (bs := []) (gs := [])
              (L' := [(6, .v (.int .u16 ((newH z : Nat) : Int)))])
              (H' := []) (G' := []) (k' := 2) hR hI (by kernel_rfl)
              .nil (fun e31 a31 w31 hag hR hI => ?_)
          refine ops_nil ?_
          refine then_n ?_
          refine wp_ret ?_
          refine ret_block ?_
          refine ret_then ?_
          refine outN tab (xs := [.v (.int .u16 ((newH z : Nat) : Int))]) hR hI rfl (by kernel_rfl) ?_
          exact ⟨⟨newH z, ⟨fun h => absurd h (by omega), fun h => absurd h (by omega), fun h => absurd h (by omega), fun _ => ⟨z, hz, rfl⟩, fun h => absurd h (by omega), fun h => absurd h (by omega)⟩, rfl⟩, hB.fin hR⟩
        · skip
          replace hI := hI.re 32 (.v (.bool false)) rfl (congrArg Value.bool hc27)
          try simp only [decide_eq_true_eq, decide_eq_false_iff_not, beq_iff_eq, bne_iff_ne, beq_eq_false_iff_ne, bne_eq_false_iff_eq, Bool.and_eq_true, Bool.and_eq_false_iff, Bool.or_eq_true, Bool.or_eq_false_iff, Bool.not_eq_true', Bool.not_eq_false', ne_eq] at hc27
          refine reg_seq tab (k := 2) (hs := []) (sy := []) (ks := [38, 13, 8, 7]) (bs := [1, 0]) (gs := [])
              (L' := [(38, .v (.bool (op == (4 : Int)))), (13, .v (.int .i64 op)), (8, .p 1 0), (7, .p 0 0)])
              (H' := [⟨1, 44, [.v (.int .u16 ((b : Nat) : Int))]⟩, ⟨0, 44, [.v (.int .u16 ((a : Nat) : Int))]⟩]) (G' := []) (k' := 2) hR hI (by kernel_rfl)
              .nil (fun e32 a32 w32 hag hR hI => ?_)
          refine cnd (b := (op == (4 : Int))) hI (by kernel_rfl) (fun hc33 => ?_) (fun hc33 => ?_)
          · skip
            replace hI := hI.re 38 (.v (.bool true)) rfl (congrArg Value.bool hc33)
            try simp only [decide_eq_true_eq, decide_eq_false_iff_not, beq_iff_eq, bne_iff_ne, beq_eq_false_iff_ne, bne_eq_false_iff_eq, Bool.and_eq_true, Bool.and_eq_false_iff, Bool.or_eq_true, Bool.or_eq_false_iff, Bool.not_eq_true', Bool.not_eq_false', ne_eq] at hc33
            refine wp_seq ?_
            refine reg (is := [0, 1, 2, 3, 4, 5]) (by kernel_rfl) ?_
            refine part_ tab [0, 1, 2] [3, 4, 5] (by rfl) (k := 2) (hs := []) (sy := []) (ks := [42, 40]) (bs := [2]) (gs := [])
                (L' := [(42, .sl 2 0 1 1), (40, .agg [.v (.int .u16 ((a : Nat) : Int))])])
                (H' := [⟨2, 44, [.v (.int .u16 ((b : Nat) : Int))]⟩]) (G' := []) (k' := 3) hR hI (by kernel_rfl)
                .nil (fun e34 a34 w34 hag hR hI => ?_)
            refine callOp (ys := [.agg [.v (.int .u16 ((a : Nat) : Int))], .sl 2 0 1 1]) hI rfl rfl ⟨_, rfl, rfl, rfl⟩ (by kernel_rfl) Try.func31 rfl rfl ?_
            have hblk_ := hR.blk ⟨2, 44, [.v (.int .u16 ((b : Nat) : Int))]⟩ (by simp)
            refine (Max_spec (C := fun _ => False) ha hb hblk_.1 (fun h => h)).mono ?_
            rintro ex w35 ⟨rfl, hk, hnew⟩
            have hkF_ := hR.keepB (b := ⟨2, 44, [.v (.int .u16 ((b : Nat) : Int))]⟩) (by simp) hk
            have hB_ := hB.nextF hR hkF_
            replace hR := hR.turned (b := ⟨2, 44, [.v (.int .u16 ((b : Nat) : Int))]⟩) (by simp) [.v (.int .u16 ((b : Nat) : Int))] [] (by simp) hk hnew
            dsimp only at hR; replace hB := hB_; clear hB_ hk hkF_ hblk_
            refine ⟨_, rfl, ?_⟩
            replace hI := hI.put (d := some 43) (x := .v (.agg #[.int .u16 ((maxH a b : Nat) : Int)])) (by intro t ht; cases ht; decide) rfl
            replace hI := hI.sel [43, 42, 40] (by kernel_rfl : sel _ _ = some [(43, .v (.agg #[.int .u16 ((maxH a b : Nat) : Int)])), (42, .sl 2 0 1 1), (40, .agg [.v (.int .u16 ((a : Nat) : Int))])])
            refine callOp (ys := [.v (.agg #[.int .u16 ((maxH a b : Nat) : Int)])]) hI rfl rfl ⟨_, rfl, rfl, rfl⟩ (by kernel_rfl) Try.func27 rfl rfl ?_
            refine (uint16_spec (C := C) (((maxH a b : Nat) : Int))).mono ?_
            rintro ex w36 ⟨rfl, hk⟩
            replace hR := hR.same hk; clear hk
            refine ⟨_, rfl, ?_⟩
            replace hI := hI.put (d := some 44) (x := .v (.int .u16 ((maxH a b : Nat) : Int))) (by intro t ht; cases ht; decide) rfl
            replace hI := hI.sel [44, 43, 42, 40] (by kernel_rfl : sel _ _ = some [(44, .v (.int .u16 ((maxH a b : Nat) : Int))), (43, .v (.agg #[.int .u16 ((maxH a b : Nat) : Int)])), (42, .sl 2 0 1 1), (40, .agg [.v (.int .u16 ((a : Nat) : Int))])])
            refine part_ tab [5] [] (by rfl) (k := 3) (hs := []) (sy := []) (ks := [6]) (bs := []) (gs := [])
                (L' := [(6, .v (.int .u16 ((maxH a b : Nat) : Int)))])
                (H' := []) (G' := []) (k' := 3) hR hI (by kernel_rfl)
                .nil (fun e37 a37 w37 hag hR hI => ?_)
            refine ops_nil ?_
            refine then_n ?_
            refine wp_ret ?_
            refine ret_block ?_
            refine ret_then ?_
            refine outN tab (xs := [.v (.int .u16 ((maxH a b : Nat) : Int))]) hR hI rfl (by kernel_rfl) ?_
            exact ⟨⟨maxH a b, ⟨fun h => absurd h (by omega), fun h => absurd h (by omega), fun h => absurd h (by omega), fun h => absurd h (by omega), fun _ => rfl, fun h => absurd h (by omega)⟩, rfl⟩, hB.fin hR⟩
          · skip
            replace hI := hI.re 38 (.v (.bool false)) rfl (congrArg Value.bool hc33)
            try simp only [decide_eq_true_eq, decide_eq_false_iff_not, beq_iff_eq, bne_iff_ne, beq_eq_false_iff_ne, bne_eq_false_iff_eq, Bool.and_eq_true, Bool.and_eq_false_iff, Bool.or_eq_true, Bool.or_eq_false_iff, Bool.not_eq_true', Bool.not_eq_false', ne_eq] at hc33
            refine reg_seq tab (k := 2) (hs := []) (sy := []) (ks := [45, 8, 7]) (bs := [1, 0]) (gs := [])
                (L' := [(45, .v (.bool (op == (5 : Int)))), (8, .p 1 0), (7, .p 0 0)])
                (H' := [⟨1, 44, [.v (.int .u16 ((b : Nat) : Int))]⟩, ⟨0, 44, [.v (.int .u16 ((a : Nat) : Int))]⟩]) (G' := []) (k' := 2) hR hI (by kernel_rfl)
                .nil (fun e38 a38 w38 hag hR hI => ?_)
            refine cnd (b := (op == (5 : Int))) hI (by kernel_rfl) (fun hc39 => ?_) (fun hc39 => ?_)
            · skip
              replace hI := hI.re 45 (.v (.bool true)) rfl (congrArg Value.bool hc39)
              try simp only [decide_eq_true_eq, decide_eq_false_iff_not, beq_iff_eq, bne_iff_ne, beq_eq_false_iff_ne, bne_eq_false_iff_eq, Bool.and_eq_true, Bool.and_eq_false_iff, Bool.or_eq_true, Bool.or_eq_false_iff, Bool.not_eq_true', Bool.not_eq_false', ne_eq] at hc39
              refine wp_seq ?_
              refine reg (is := [0, 1, 2, 3, 4, 5]) (by kernel_rfl) ?_
              refine part_ tab [0, 1, 2] [3, 4, 5] (by rfl) (k := 2) (hs := []) (sy := []) (ks := [49, 47]) (bs := [2]) (gs := [])
                  (L' := [(49, .sl 2 0 1 1), (47, .agg [.v (.int .u16 ((a : Nat) : Int))])])
                  (H' := [⟨2, 44, [.v (.int .u16 ((b : Nat) : Int))]⟩]) (G' := []) (k' := 3) hR hI (by kernel_rfl)
                  .nil (fun e40 a40 w40 hag hR hI => ?_)
              refine callOp (ys := [.agg [.v (.int .u16 ((a : Nat) : Int))], .sl 2 0 1 1]) hI rfl rfl ⟨_, rfl, rfl, rfl⟩ (by kernel_rfl) Try.func32 rfl rfl ?_
              have hblk_ := hR.blk ⟨2, 44, [.v (.int .u16 ((b : Nat) : Int))]⟩ (by simp)
              refine (Min_spec (C := fun _ => False) ha hb hblk_.1 (fun h => h)).mono ?_
              rintro ex w41 ⟨rfl, hk, hnew⟩
              have hkF_ := hR.keepB (b := ⟨2, 44, [.v (.int .u16 ((b : Nat) : Int))]⟩) (by simp) hk
              have hB_ := hB.nextF hR hkF_
              replace hR := hR.turned (b := ⟨2, 44, [.v (.int .u16 ((b : Nat) : Int))]⟩) (by simp) [.v (.int .u16 ((b : Nat) : Int))] [] (by simp) hk hnew
              dsimp only at hR; replace hB := hB_; clear hB_ hk hkF_ hblk_
              refine ⟨_, rfl, ?_⟩
              replace hI := hI.put (d := some 50) (x := .v (.agg #[.int .u16 ((minH a b : Nat) : Int)])) (by intro t ht; cases ht; decide) rfl
              replace hI := hI.sel [50, 49, 47] (by kernel_rfl : sel _ _ = some [(50, .v (.agg #[.int .u16 ((minH a b : Nat) : Int)])), (49, .sl 2 0 1 1), (47, .agg [.v (.int .u16 ((a : Nat) : Int))])])
              refine callOp (ys := [.v (.agg #[.int .u16 ((minH a b : Nat) : Int)])]) hI rfl rfl ⟨_, rfl, rfl, rfl⟩ (by kernel_rfl) Try.func27 rfl rfl ?_
              refine (uint16_spec (C := C) (((minH a b : Nat) : Int))).mono ?_
              rintro ex w42 ⟨rfl, hk⟩
              replace hR := hR.same hk; clear hk
              refine ⟨_, rfl, ?_⟩
              replace hI := hI.put (d := some 51) (x := .v (.int .u16 ((minH a b : Nat) : Int))) (by intro t ht; cases ht; decide) rfl
              replace hI := hI.sel [51, 50, 49, 47] (by kernel_rfl : sel _ _ = some [(51, .v (.int .u16 ((minH a b : Nat) : Int))), (50, .v (.agg #[.int .u16 ((minH a b : Nat) : Int)])), (49, .sl 2 0 1 1), (47, .agg [.v (.int .u16 ((a : Nat) : Int))])])
              refine part_ tab [5] [] (by rfl) (k := 3) (hs := []) (sy := []) (ks := [6]) (bs := []) (gs := [])
                  (L' := [(6, .v (.int .u16 ((minH a b : Nat) : Int)))])
                  (H' := []) (G' := []) (k' := 3) hR hI (by kernel_rfl)
                  .nil (fun e43 a43 w43 hag hR hI => ?_)
              refine ops_nil ?_
              refine then_n ?_
              refine wp_ret ?_
              refine ret_block ?_
              refine ret_then ?_
              refine outN tab (xs := [.v (.int .u16 ((minH a b : Nat) : Int))]) hR hI rfl (by kernel_rfl) ?_
              exact ⟨⟨minH a b, ⟨fun h => absurd h (by omega), fun h => absurd h (by omega), fun h => absurd h (by omega), fun h => absurd h (by omega), fun h => absurd h (by omega), fun _ => rfl⟩, rfl⟩, hB.fin hR⟩
            · skip
              replace hI := hI.re 45 (.v (.bool false)) rfl (congrArg Value.bool hc39)
              try simp only [decide_eq_true_eq, decide_eq_false_iff_not, beq_iff_eq, bne_iff_ne, beq_eq_false_iff_ne, bne_eq_false_iff_eq, Bool.and_eq_true, Bool.and_eq_false_iff, Bool.or_eq_true, Bool.or_eq_false_iff, Bool.not_eq_true', Bool.not_eq_false', ne_eq] at hc39
              refine wp_skip ?_
              refine normal_block ?_
              refine then_n ?_
              refine reg_seq tab (k := 2) (hs := []) (sy := []) (ks := [6]) (bs := []) (gs := [])
                  (L' := [(6, .v (.int .u16 0))])
                  (H' := []) (G' := []) (k' := 2) hR hI (by kernel_rfl)
                  .nil (fun e44 a44 w44 hag hR hI => ?_)
              refine wp_ret ?_
              refine outN tab (xs := [.v (.int .u16 0)]) hR hI rfl (by kernel_rfl) ?_
              exact ⟨⟨0, ⟨fun h => absurd h (by omega), fun h => absurd h (by omega), fun h => absurd h (by omega), fun h => absurd h (by omega), fun h => absurd h (by omega), fun h => absurd h (by omega)⟩, rfl⟩, hB.fin hR⟩

section
open Ieee
theorem shs : Ieee.single.signWeight = 2147483648 := by decide
theorem shb : Ieee.single.binade = 8388608 := by decide
theorem shi : Ieee.single.infRung = 2139095040 := by decide
theorem shl_ : Ieee.single.leastPlace = -149 := by decide
theorem shf : Ieee.single.fractionBits = 23 := rfl
/-- The word of a normal number of 32 bits. -/
def sw (s : Bool) (E M : Nat) : Nat := (if s then 2147483648 else 0) + E * 8388608 + M
theorem read_single (s : Bool) (E M : Nat) (h1 : 1 ≤ E) (h2 : E ≤ 254) (hM : M < 8388608) :
    Ieee.single.read (sw s E M) = .number s (8388608 + M) (-149 + ((E - 1 : Nat) : Int)) := by
  unfold Ieee.Format.read sw
  simp only [shs, shb, shi, shl_]
  have e1 : (((if s then 2147483648 else 0) + E * 8388608 + M) / 2147483648 % 2 == 1) = s := by
    cases s
    · simp only [Bool.false_eq_true, if_false]
      have : (0 + E * 8388608 + M) / 2147483648 = 0 := by omega
      rw [this]; rfl
    · simp only [if_true]
      have : (2147483648 + E * 8388608 + M) / 2147483648 = 1 := by omega
      rw [this]; rfl
  have e2 : ((if s then 2147483648 else 0) + E * 8388608 + M) % 2147483648 = E * 8388608 + M := by
    cases s
    · simp only [Bool.false_eq_true, if_false]; omega
    · simp only [if_true]; omega
  rw [e2, e1, if_neg (by omega), if_pos (by omega)]
  have e3 : (E * 8388608 + M) % 8388608 = M := by omega
  have e4 : (E * 8388608 + M) / 8388608 = E := by omega
  rw [e3, e4]
theorem nearest_single (t : Bool) (E M : Nat) (h1 : 1 ≤ E) (h2 : E ≤ 254) (hM : M < 8388608) :
    Ieee.single.nearest t (536870912 * (8388608 + M)) (-1074 + ((E + 895 : Nat) : Int)) = sw t E M := by
  have hlog : (536870912 * (8388608 + M)).log2 = 52 := by
    rw [Nat.log2_eq_iff (by omega)]
    omega
  unfold Ieee.Format.nearest
  rw [if_neg (by omega)]
  simp only [hlog, shf, shl_, shb, shi]
  have e1 : max (-1074 + ((E + 895 : Nat) : Int) + ((52 : Nat) : Int) - ((23 : Nat) : Int)) (-149) = (E : Int) - 150 := by omega
  rw [e1]
  have e2 : (-1074 + ((E + 895 : Nat) : Int) - ((E : Int) - 150)).toNat = 0 := by omega
  have e3 : (((E : Int) - 150) - (-1074 + ((E + 895 : Nat) : Int))).toNat = 29 := by omega
  have e4 : (((E : Int) - 150) - -149).toNat = E - 1 := by omega
  rw [e2, e3, e4]
  have hc : Ieee.Toward.even.cut t ((536870912 * (8388608 + M)) <<< 0) 29 = 8388608 + M := by
    unfold Ieee.Toward.cut
    rw [Nat.shiftLeft_zero, hlog]
    have g : 1 <<< min 29 (52 + 2) = 536870912 := by decide
    simp only [g]
    have d1 : 536870912 * (8388608 + M) / 536870912 = 8388608 + M := by omega
    have d2 : 536870912 * (8388608 + M) % 536870912 = 0 := by omega
    rw [d1, d2]
    simp
  rw [hc]
  unfold Ieee.Format.word sw
  rw [shs]
  have e5 : min ((E - 1) * 8388608 + (8388608 + M)) 2139095040 = E * 8388608 + M := by omega
  rw [e5]
  cases t
  · simp
  · simp only [if_true]; omega
theorem narrow (s : Bool) (E M : Nat) (h1 : 1 ≤ E) (h2 : E ≤ 254) (hM : M < 8388608) : floatToFloatBits .f64 (nw s (E + 896) (M * 536870912)) .f32 = some (sw s E M) := by
  unfold floatToFloatBits
  rw [if_neg (by decide)]
  have hr : FloatKind.decode .f64 (nw s (E + 896) (M * 536870912)) = .number s (536870912 * (8388608 + M)) (-1074 + ((E + 895 : Nat) : Int)) := by
    show Ieee.double.read _ = _
    rw [read_normal s (E + 896) (M * 536870912) (by omega) (by omega) (by omega)]
    congr 1
    omega
  have hw : FloatKind.encode .f32 (.number s (536870912 * (8388608 + M)) (-1074 + ((E + 895 : Nat) : Int))) = sw s E M := nearest_single s E M h1 h2 hM
  have hd : FloatKind.decode .f32 (sw s E M) = .number s (8388608 + M) (-149 + ((E - 1 : Nat) : Int)) := read_single s E M h1 h2 hM
  rw [hr]
  simp only [hw, hd]
  rfl
theorem conv_dbl {a : Nat} (ha : a < 65536) (hu0 : a / 1024 % 32 = 0 → a % 1024 = 0) (hu1 : a / 1024 % 32 = 31 → a % 1024 = 0) : floatToFloatBits .f64 (dbl a) .f32 = some (sgl a) := by
  by_cases h0 : a / 1024 % 32 = 0
  · have : a = 0 ∨ a = 32768 := by have := hu0 h0; omega
    rcases this with rfl | rfl <;> decide +kernel
  · by_cases h1 : a / 1024 % 32 = 31
    · have : a = 31744 ∨ a = 64512 := by have := hu1 h1; omega
      rcases this with rfl | rfl <;> decide +kernel
    · have h := narrow (decide (a / 32768 % 2 = 1)) (a / 1024 % 32 + 112) (a % 1024 * 8192) (by omega) (by omega) (by omega)
      rw [show a / 1024 % 32 + 112 + 896 = a / 1024 % 32 + 1008 by omega, show a % 1024 * 8192 * 536870912 = a % 1024 * 4398046511104 by omega, ← dbl_norm a h0 h1] at h
      rw [h]
      congr 1
      unfold sw sgl rexp
      rw [if_neg h0, if_neg h1]
      by_cases hs : a / 32768 % 2 = 1
      · simp only [hs, decide_true, if_true]; try omega
      · have : a / 32768 % 2 = 0 := by omega
        simp [this]
theorem nearest_double (t : Bool) (E M : Nat) (h1 : 1 ≤ E) (h2 : E ≤ 254) (hM : M < 8388608) :
    Ieee.double.nearest t (8388608 + M) (-149 + ((E - 1 : Nat) : Int)) = nw t (E + 896) (M * 536870912) := by
  have hlog : (8388608 + M).log2 = 23 := by
    rw [Nat.log2_eq_iff (by omega)]
    omega
  have hlog2 : ((8388608 + M) <<< 29).log2 = 52 := by
    rw [Nat.shiftLeft_eq, Nat.log2_eq_iff (by omega)]
    omega
  unfold Ieee.Format.nearest
  rw [if_neg (by omega)]
  simp only [hlog, dhf, dhl, dhb, dhi]
  have e1 : max (-149 + ((E - 1 : Nat) : Int) + ((23 : Nat) : Int) - ((52 : Nat) : Int)) (-1074) = (E : Int) - 179 := by omega
  rw [e1]
  have e2 : (-149 + ((E - 1 : Nat) : Int) - ((E : Int) - 179)).toNat = 29 := by omega
  have e3 : (((E : Int) - 179) - (-149 + ((E - 1 : Nat) : Int))).toNat = 0 := by omega
  have e4 : (((E : Int) - 179) - -1074).toNat = E + 895 := by omega
  rw [e2, e3, e4]
  have hc : Ieee.Toward.even.cut t ((8388608 + M) <<< 29) 0 = 4503599627370496 + M * 536870912 := by
    unfold Ieee.Toward.cut
    rw [hlog2]
    have g : 1 <<< min 0 (52 + 2) = 1 := by decide
    simp only [g, Nat.div_one, Nat.mod_one]
    rw [Nat.shiftLeft_eq]
    simp
    omega
  rw [hc]
  unfold Ieee.Format.word nw
  rw [dhs]
  have e5 : min ((E + 895) * 4503599627370496 + (4503599627370496 + M * 536870912)) 9218868437227405312 = (E + 896) * 4503599627370496 + M * 536870912 := by omega
  rw [e5]
  cases t
  · simp
  · simp only [if_true]; omega
theorem widen (s : Bool) (E M : Nat) (h1 : 1 ≤ E) (h2 : E ≤ 254) (hM : M < 8388608) : floatToFloatBits .f32 (sw s E M) .f64 = some (nw s (E + 896) (M * 536870912)) := by
  unfold floatToFloatBits
  rw [if_neg (by decide)]
  have hr : FloatKind.decode .f32 (sw s E M) = .number s (8388608 + M) (-149 + ((E - 1 : Nat) : Int)) := read_single s E M h1 h2 hM
  have hw : FloatKind.encode .f64 (.number s (8388608 + M) (-149 + ((E - 1 : Nat) : Int))) = nw s (E + 896) (M * 536870912) := nearest_double s E M h1 h2 hM
  have hd : FloatKind.decode .f64 (nw s (E + 896) (M * 536870912)) = .number s (4503599627370496 + M * 536870912) (-1074 + ((E + 896 - 1 : Nat) : Int)) := read_normal s (E + 896) (M * 536870912) (by omega) (by omega) (by omega)
  rw [hr]
  simp only [hw, hd]
  rfl
end

section
open Ieee
theorem cmp_swap (x y : Int) : compare y x = (compare x y).swap := by
  rcases Int.lt_trichotomy x y with h | h | h
  · rw [cmp_lt h, cmp_gt h]; rfl
  · subst h; rw [cmp_eq]; rfl
  · rw [cmp_lt h, cmp_gt h]; rfl
theorem cmpN_swap (x y : Nat) : compare y x = (compare x y).swap := by
  rcases Nat.lt_trichotomy x y with h | h | h
  · simp only [compare, compareOfLessAndEq]; rw [if_neg (by omega), if_neg (by omega), if_pos h]; rfl
  · subst h; simp [compare, compareOfLessAndEq]
  · simp only [compare, compareOfLessAndEq]; rw [if_pos h, if_neg (by omega), if_neg (by omega)]; rfl
theorem datum_swap (x y : Ieee.Datum) : y.order x = (x.order y).map Ordering.swap := by
  cases x <;> cases y <;> simp only [Ieee.Datum.order, Option.map_some, Option.map_none]
  · rw [Int.min_comm, cmp_swap]
  · rename_i s _ _ t; cases t <;> rfl
  · rename_i s _ _ _; cases s <;> rfl
  · rw [cmpN_swap]
theorem order_swap (f : Ieee.Format) (x y : Nat) : f.order y x = (f.order x y).map Ordering.swap := datum_swap _ _
def sameB (a b : Nat) : Bool := (((a : Nat) : Int) == ((b : Nat) : Int)) || (FloatKind.f64.format.order (dbl a) (dbl b) == some .eq)
theorem sameB_self (a : Nat) : sameB a a = true := by simp [sameB]
theorem sameB_symm (a b : Nat) : sameB a b = sameB b a := by
  have h : FloatKind.f64.format.order (dbl b) (dbl a) = (FloatKind.f64.format.order (dbl a) (dbl b)).map Ordering.swap := order_swap _ _ _
  unfold sameB
  rw [h]
  congr 1
  · rw [Bool.eq_iff_iff]; simp only [beq_iff_eq]; omega
  · cases FloatKind.f64.format.order (dbl a) (dbl b) with
    | none => rfl
    | some o => cases o <;> rfl
theorem sgl_number {a : Nat} (ha : a < 65536) (hu0 : a / 1024 % 32 = 0 → a % 1024 = 0) (hu1 : a / 1024 % 32 = 31 → a % 1024 = 0) : ∀ s m, Ieee.single.read (sgl a) ≠ .nan s m := by
  by_cases h0 : a / 1024 % 32 = 0
  · have : a = 0 ∨ a = 32768 := by have := hu0 h0; omega
    rcases this with rfl | rfl
    · rw [show Ieee.single.read (sgl 0) = .number false 0 (-149) by decide +kernel]; intro s m h; cases h
    · rw [show Ieee.single.read (sgl 32768) = .number true 0 (-149) by decide +kernel]; intro s m h; cases h
  · by_cases h1 : a / 1024 % 32 = 31
    · have : a = 31744 ∨ a = 64512 := by have := hu1 h1; omega
      rcases this with rfl | rfl
      · rw [show Ieee.single.read (sgl 31744) = .infinity false by decide +kernel]; intro s m h; cases h
      · rw [show Ieee.single.read (sgl 64512) = .infinity true by decide +kernel]; intro s m h; cases h
    · have e : sgl a = sw (decide (a / 32768 % 2 = 1)) (a / 1024 % 32 + 112) (a % 1024 * 8192) := by
        unfold sw sgl rexp
        rw [if_neg h0, if_neg h1]
        by_cases hs : a / 32768 % 2 = 1
        · simp only [hs, decide_true, if_true]; try omega
        · have : a / 32768 % 2 = 0 := by omega
          simp [this]
      rw [e, read_single _ _ _ (by omega) (by omega) (by omega)]
      intro s m h; cases h
theorem datum_some {x y : Ieee.Datum} (hx : ∀ s m, x ≠ .nan s m) (hy : ∀ s m, y ≠ .nan s m) : ∃ o, x.order y = some o := by
  cases x with
  | nan s m => exact absurd rfl (hx s m)
  | infinity s => cases y with
    | nan s m => exact absurd rfl (hy s m)
    | infinity t => exact ⟨_, rfl⟩
    | number _ _ _ => exact ⟨_, rfl⟩
  | number _ _ _ => cases y with
    | nan s m => exact absurd rfl (hy s m)
    | infinity t => exact ⟨_, rfl⟩
    | number _ _ _ => exact ⟨_, rfl⟩
theorem order_some {a b : Nat} (ha : a < 65536) (hb : b < 65536) (hua : usual a = true) (hub : usual b = true) : ∃ o, FloatKind.f32.format.order (sgl a) (sgl b) = some o ∧ FloatKind.f32.format.order (sgl b) (sgl a) = some o.swap := by
  have h1 := of_decide_eq_true hua; have h2 := of_decide_eq_true hub
  obtain ⟨o, ho⟩ := datum_some (sgl_number ha h1.1 h1.2) (sgl_number hb h2.1 h2.2)
  refine ⟨o, ho, ?_⟩
  have := order_swap FloatKind.f32.format (sgl a) (sgl b)
  rw [this, show FloatKind.f32.format.order (sgl a) (sgl b) = some o from ho]; rfl
theorem law4 {a b : Nat} (ha : a < 65536) (hb : b < 65536) (hua : usual a = true) (hub : usual b = true) :
    (sameB (maxH a b) a == ((FloatKind.f32.format.order (sgl a) (sgl b) == some .gt || FloatKind.f32.format.order (sgl a) (sgl b) == some .eq) || sameB a b)) = true ∧ (sameB (maxH a b) a || sameB (maxH a b) b) = true := by
  obtain ⟨o, h1, h2⟩ := order_some ha hb hua hub
  unfold maxH
  rw [h1, h2]
  cases o
  · rw [if_pos (show ((some Ordering.lt.swap : Option Ordering) == some .gt) = true from rfl), sameB_self, sameB_symm b a]; cases sameB a b <;> exact ⟨rfl, rfl⟩
  · rw [if_neg (show ¬ ((some Ordering.eq.swap : Option Ordering) == some .gt) = true by decide), sameB_self]; cases sameB a b <;> exact ⟨rfl, rfl⟩
  · rw [if_neg (show ¬ ((some Ordering.gt.swap : Option Ordering) == some .gt) = true by decide), sameB_self]; cases sameB a b <;> exact ⟨rfl, rfl⟩
theorem law5 {a b : Nat} (ha : a < 65536) (hb : b < 65536) (hua : usual a = true) (hub : usual b = true) :
    (sameB (minH a b) a == ((FloatKind.f32.format.order (sgl a) (sgl b) == some .lt || FloatKind.f32.format.order (sgl a) (sgl b) == some .eq) || sameB a b)) = true ∧ (sameB (minH a b) a || sameB (minH a b) b) = true := by
  obtain ⟨o, h1, h2⟩ := order_some ha hb hua hub
  unfold minH
  rw [h1, h2]
  cases o
  · rw [if_neg (show ¬ ((some Ordering.lt.swap : Option Ordering) == some .lt) = true by decide), sameB_self]; cases sameB a b <;> exact ⟨rfl, rfl⟩
  · rw [if_neg (show ¬ ((some Ordering.eq.swap : Option Ordering) == some .lt) = true by decide), sameB_self]; cases sameB a b <;> exact ⟨rfl, rfl⟩
  · rw [if_pos (show ((some Ordering.gt.swap : Option Ordering) == some .lt) = true from rfl), sameB_self, sameB_symm b a]; cases sameB a b <;> exact ⟨rfl, rfl⟩
theorem usual_max {a b : Nat} (hua : usual a = true) (hub : usual b = true) : usual (maxH a b) = true := by unfold maxH; split <;> assumption
theorem usual_min {a b : Nat} (hua : usual a = true) (hub : usual b = true) : usual (minH a b) = true := by unfold minH; split <;> assumption
theorem max_lt {a b : Nat} (ha : a < 65536) (hb : b < 65536) : maxH a b < 65536 := by unfold maxH; split <;> assumption
theorem min_lt {a b : Nat} (ha : a < 65536) (hb : b < 65536) : minH a b < 65536 := by unfold minH; split <;> assumption
end

set_option maxHeartbeats 4000000 in
set_option maxRecDepth 100000 in
theorem sameHalf_spec {C : Nat → Prop} {w : World} {a b : Nat} (ha : a < 65536) (hb : b < 65536) (hua : usual a = true) (hub : usual b = true) :
    Calls P 11 #[.int .u16 ((a : Nat) : Int), .int .u16 ((b : Nat) : Int)] w fun ex w' => ex = .returned (.bool (sameB a b)) ∧ Keep (fun b => b < w.heap.size) w w' := by
  refine doorN (e := e0) (vs := [.v (.int .u16 ((a : Nat) : Int)), .v (.int .u16 ((b : Nat) : Int))]) (n := 15) (m := 2) Try.func11 rfl rfl rfl (by decide) fun a_ hI => ?_
  replace hI : Is 15 [] e0 [(0, .v (.int .u16 ((a : Nat) : Int))), (1, .v (.int .u16 ((b : Nat) : Int)))] a_ := hI
  have hR : Rel (fun b => b < w.heap.size) w e0 [] [] w := Rel.start (fun k hk => hk)
  have hB : Base C w C (fun b => b < w.heap.size) w := Base.start
  refine reg_seq tab (k := 0) (hs := []) (sy := []) (ks := [0, 1]) (bs := []) (gs := [])
      (L' := [(0, .v (.int .u16 ((a : Nat) : Int))), (1, .v (.int .u16 ((b : Nat) : Int)))])
      (H' := []) (G' := []) (k' := 0) hR hI (by kernel_rfl)
      .nil (fun e1 a1 w1 hag hR hI => ?_)
  refine wp_seq ?_
  refine reg (is := [0, 1, 2, 3, 4, 5, 6, 7, 8, 9, 10]) (by kernel_rfl) ?_
  refine part_ tab [0, 1, 2, 3, 4] [5, 6, 7, 8, 9, 10] (by rfl) (k := 0) (hs := []) (sy := [4]) (ks := [9, 8, 1]) (bs := []) (gs := [])
      (L' := [(9, .gd 3 false (((a : Nat) : Int) == ((b : Nat) : Int)) (.v (.int .u16 ((a : Nat) : Int)))), (8, .v (.bool (((a : Nat) : Int) == ((b : Nat) : Int)))), (1, .v (.int .u16 ((b : Nat) : Int)))])
      (H' := []) (G' := []) (k' := 0) hR hI (by kernel_rfl)
      .nil (fun e2 a2 w2 hag hR hI => ?_)
  rcases Bool.eq_false_or_eq_true (((a : Nat) : Int) == ((b : Nat) : Int)) with hc3 | hc3
  · skip
    replace hI := hI.re 8 (.v (.bool true)) rfl (congrArg Value.bool hc3)
    try simp only [decide_eq_true_eq, decide_eq_false_iff_not, beq_iff_eq, bne_iff_ne, beq_eq_false_iff_ne, bne_eq_false_iff_eq, Bool.and_eq_true, Bool.and_eq_false_iff, Bool.or_eq_true, Bool.or_eq_false_iff, Bool.not_eq_true', Bool.not_eq_false', ne_eq] at hc3
    refine part_ tab [5, 6] [7, 8, 9, 10] (by rfl) (k := 0) (hs := []) (sy := []) (ks := [8]) (bs := []) (gs := [])
        (L' := [(8, .v (.bool true))])
        (H' := []) (G' := []) (k' := 0) hR hI (by kernel_rfl)
        .nil (fun e4 a4 w4 hag hR hI => ?_)
    refine part_ tab [7, 8, 9, 10] [] (by rfl) (k := 0) (hs := []) (sy := []) (ks := [4]) (bs := []) (gs := [])
        (L' := [(4, .v (.bool true))])
        (H' := []) (G' := []) (k' := 0) hR hI (by kernel_rfl)
        .nil (fun e5 a5 w5 hag hR hI => ?_)
    refine ops_nil ?_
    refine then_n ?_
    refine wp_ret ?_
    refine outN tab (xs := [.v (.bool true)]) hR hI rfl (by kernel_rfl) ?_
    have hs_ : sameB a b = true := by
      unfold sameB
      first
      | (have hq : ((a : Nat) : Int) = ((b : Nat) : Int) := by assumption
         rw [beq_iff_eq.2 hq, Bool.true_or])
      | (have hq : ¬ ((a : Nat) : Int) = ((b : Nat) : Int) := by assumption
         rw [beq_eq_false_iff_ne.2 hq, Bool.false_or])
    exact ⟨by rw [hs_]; rfl, hB.fin hR⟩
  · skip
    replace hI := hI.re 9 (.v (.int .u16 ((a : Nat) : Int))) rfl (by rw [den, hc3]; rfl)
    replace hI := hI.re 8 (.v (.bool false)) rfl (congrArg Value.bool hc3)
    try simp only [decide_eq_true_eq, decide_eq_false_iff_not, beq_iff_eq, bne_iff_ne, beq_eq_false_iff_ne, bne_eq_false_iff_eq, Bool.and_eq_true, Bool.and_eq_false_iff, Bool.or_eq_true, Bool.or_eq_false_iff, Bool.not_eq_true', Bool.not_eq_false', ne_eq] at hc3
    refine callOp (ys := [.v (.int .u16 ((a : Nat) : Int))]) hI rfl rfl ⟨_, rfl, rfl, rfl⟩ (by kernel_rfl) Try.func7 rfl rfl ?_
    refine (HalfValue_spec (C := C) ha (of_decide_eq_true hua).1 (of_decide_eq_true hua).2).mono ?_
    rintro ex w6 ⟨rfl, hk⟩
    replace hR := hR.same hk; clear hk
    refine ⟨_, rfl, ?_⟩
    replace hI := hI.put (d := some 10) (x := .v (.float .f64 (dbl a))) (by intro t ht; cases ht; decide) rfl
    replace hI := hI.sel [10, 8, 9, 1] (by kernel_rfl : sel _ _ = some [(10, .v (.float .f64 (dbl a))), (8, .v (.bool false)), (9, .v (.int .u16 ((a : Nat) : Int))), (1, .v (.int .u16 ((b : Nat) : Int)))])
    refine part_ tab [6] [7, 8, 9, 10] (by rfl) (k := 0) (hs := []) (sy := []) (ks := [11, 10, 8]) (bs := []) (gs := [])
        (L' := [(11, .v (.int .u16 ((b : Nat) : Int))), (10, .v (.float .f64 (dbl a))), (8, .v (.bool false))])
        (H' := []) (G' := []) (k' := 0) hR hI (by kernel_rfl)
        .nil (fun e7 a7 w7 hag hR hI => ?_)
    refine callOp (ys := [.v (.int .u16 ((b : Nat) : Int))]) hI rfl rfl ⟨_, rfl, rfl, rfl⟩ (by kernel_rfl) Try.func7 rfl rfl ?_
    refine (HalfValue_spec (C := C) hb (of_decide_eq_true hub).1 (of_decide_eq_true hub).2).mono ?_
    rintro ex w8 ⟨rfl, hk⟩
    replace hR := hR.same hk; clear hk
    refine ⟨_, rfl, ?_⟩
    replace hI := hI.put (d := some 12) (x := .v (.float .f64 (dbl b))) (by intro t ht; cases ht; decide) rfl
    replace hI := hI.sel [12, 11, 10, 8] (by kernel_rfl : sel _ _ = some [(12, .v (.float .f64 (dbl b))), (11, .v (.int .u16 ((b : Nat) : Int))), (10, .v (.float .f64 (dbl a))), (8, .v (.bool false))])
    refine part_ tab [8, 9, 10] [] (by rfl) (k := 0) (hs := []) (sy := []) (ks := [4]) (bs := []) (gs := [])
        (L' := [(4, .v (.bool (FloatKind.f64.format.order (dbl a) (dbl b) == some .eq)))])
        (H' := []) (G' := []) (k' := 0) hR hI (by kernel_rfl)
        .nil (fun e9 a9 w9 hag hR hI => ?_)
    refine ops_nil ?_
    refine then_n ?_
    refine wp_ret ?_
    refine outN tab (xs := [.v (.bool (FloatKind.f64.format.order (dbl a) (dbl b) == some .eq))]) hR hI rfl (by kernel_rfl) ?_
    have hs_ : sameB a b = (FloatKind.f64.format.order (dbl a) (dbl b) == some .eq) := by
      unfold sameB
      first
      | (have hq : ((a : Nat) : Int) = ((b : Nat) : Int) := by assumption
         rw [beq_iff_eq.2 hq, Bool.true_or])
      | (have hq : ¬ ((a : Nat) : Int) = ((b : Nat) : Int) := by assumption
         rw [beq_eq_false_iff_ne.2 hq, Bool.false_or])
    exact ⟨by rw [hs_]; rfl, hB.fin hR⟩

end Go.Proofs.Ytahbgcjcfbjbmaa.Stride
