/- Written by a program of mine over the kit's print program, turned at a few places (variables of one cell in memory; deferred closures): each Go function as a Lean function, with the proof of its call. -/
import Derived.Test.YtahbgcjcfbjbmaaQHalfFactsx0
import Derived.Test.YtahbgcjcfbjbmaaQHalfFactsx1
namespace Go.Proofs.Ytahbgcjcfbjbmaa.QHalfFacts
open Go.RowKit Go.Proofs.YtahbgcjcfbjbmaaW.PrintWords Go.Proofs.YtahbgcjcfbjbmaaW.PrintLast Go.Proofs.YtahbgcjcfbjbmaaW.PrintMore
attribute [local go_sem] HalfWords.run_b64 HalfWords.run_f64 HalfWords.run_b32 HalfWords.run_f32 HalfWords.run_arith HalfWords.run_f2i HalfWords.run_f2f max2_int min2_int max_two min_two max_three min_three max_four min_four   -- for this text's walks alone
set_option linter.unusedVariables false
set_option linter.unusedSimpArgs false

/-! ### float16_Num_Sign: function 20 -/
def float16_Num_Sign.f (a0_0 : Int) : Option (Int) := (float16_Num_IsZero.f a0_0).bind fun t129 => (if t129 = true then (some 0) else ((float16_Num_Signbit.f a0_0).bind fun t130 => (if t130 = true then (some (-1)) else (some 1))))
set_option maxHeartbeats 8000000 in
set_option maxRecDepth 100000 in
theorem float16_Num_Sign.calls (a0_0 : Int) (r : Int) (w : World) (h : float16_Num_Sign.f a0_0 = some r) :
    Calls Try.prog 20 #[.agg #[.int .u16 a0_0]] w fun e w' => e = .returned (.int .i64 r) ∧ Below w.heap.size w w' := by
  have hu44 := Try.underlying44
  have HB := Aside0.mk (Below.refl w.heap.size w)
  have H : ((float16_Num_IsZero.f a0_0).bind fun t129 => (if t129 = true then (some 0) else ((float16_Num_Signbit.f a0_0).bind fun t130 => (if t130 = true then (some (-1)) else (some 1))))) = some r := h
  clear h
  replace H := Option.bind_eq_some_iff.mp H
  obtain ⟨t129, A20, H⟩ := H
  replace H : (if t129 = true then (some 0) else ((float16_Num_Signbit.f a0_0).bind fun t130 => (if t130 = true then (some (-1)) else (some 1)))) = some r := H
  have A2 := Aside0.mk A20
  clear A20
  by_cases c3 : t129 = true
  · subst c3
    have H1 : (some 0) = some r := by rw [if_pos rfl] at H; exact H
    clear H
    have H := H1
    clear H1
    obtain rfl := Option.some.inj H
    go_enter Try.func20, Try.ntmps20
    go_wp2_with (first | ((with_reducible refine gate_dst (N := 1) rfl ?_); refine box_event ?hg (N := 1) ?hd (cs := #[.int .u16 a0_0]) (t := 44) ?hr ?_; (case hd => rfl); (case hg => rfl); (case hr => first | (go_simp; done) | (go_simp; rfl)); intro gb128 hg w4 hbox hb; have n0_ := Aside0.mk (below_step (by repeat (first | (with_reducible first | exact HB.out | apply below_alloc | apply pw_below_drewN | apply below_drew1) | exact HB.out)) hb); have n1_ := Aside0.mk (hbox); have n2_ := Aside0.mk ((by rw [hg]; exact (below_size (by repeat (first | (with_reducible first | exact HB.out | apply below_alloc | apply pw_below_drewN | apply below_drew1) | exact HB.out))) : w.heap.size ≤ gb128)); have n3_ := Aside0.mk ((by rw [hg]; exact (below_size (by repeat (first | (with_reducible first | exact HB.out | apply below_alloc | apply pw_below_drewN | apply below_drew1) | exact HB.out))) : w.heap.size ≤ gb128)); clear HB; have HB := n0_; have BK128 := n1_; have GW128 := n2_; have GE128 := n3_; clear n0_ n1_ n2_ n3_; clear hb hbox hg; have hcz5_0 : w4.cell? ⟨gb128, 0, none⟩ = some (.int .u16 a0_0) := (blk_cell BK128.out 0).trans rfl; have hfz5_0 := blk_frozen BK128.out 0) | ((with_reducible refine gate_callee (f := 22) rfl ?_); refine goesL_ (some 4) rfl rfl Try.func22 (by kernel_rfl) rfl #[.agg #[.int .u16 a0_0]] rfl (by (try simp only [List.map_toArray, List.map_cons, List.map_nil]); first | done | rfl | (simp only [List.length_drop, List.length_take]; rfl)) ?_; (with_reducible refine (float16_Num_IsZero.calls a0_0 true _ A2.out).mono ?_); rintro e w6 ⟨rfl, hb⟩; refine ⟨_, rfl, ?_⟩; have n0_ := Aside0.mk (blk_below (g := gb128) (o := .cells #[.int .u16 a0_0] 44 (0, 0)) (by (with_reducible repeat (first | refine blk_drewN ?_ _ | refine blk_drew ?_ | refine blk_alloc ?_ _)); exact BK128.out) hb); have n1_ := Aside0.mk (below_step (by repeat (first | (with_reducible first | exact HB.out | apply below_alloc | apply pw_below_drewN | apply below_drew1 | refine below_set ?_ GE128.out) | exact HB.out)) hb); clear BK128; clear HB; have BK128 := n0_; have HB := n1_; clear n0_ n1_; (try clear hb); (try clear hb2); (try clear hk); (try clear hi)))
    go_ret
    exact ⟨by first | rfl | (simp [errW_none, errW_some] <;> rfl) | (simp [*, errW_none, errW_some] <;> rfl), by repeat (first | (with_reducible first | exact HB.out | apply below_alloc | apply pw_below_drewN | apply below_drew1 | refine below_set ?_ GE128.out) | exact HB.out)⟩
  · replace c3 := Bool.eq_false_iff.mpr c3
    subst c3
    have H1 : ((float16_Num_Signbit.f a0_0).bind fun t130 => (if t130 = true then (some (-1)) else (some 1))) = some r := by rw [if_neg (show ¬ (false = true) by decide)] at H; exact H
    clear H
    have H := H1
    clear H1
    replace H := Option.bind_eq_some_iff.mp H
    obtain ⟨t130, A70, H⟩ := H
    replace H : (if t130 = true then (some (-1)) else (some 1)) = some r := H
    have A7 := Aside0.mk A70
    clear A70
    by_cases c8 : t130 = true
    · subst c8
      have H1 : (some (-1)) = some r := by rw [if_pos rfl] at H; exact H
      clear H
      have H := H1
      clear H1
      obtain rfl := Option.some.inj H
      go_enter Try.func20, Try.ntmps20
      go_wp2_with (first | ((with_reducible refine gate_dst (N := 1) rfl ?_); refine box_event ?hg (N := 1) ?hd (cs := #[.int .u16 a0_0]) (t := 44) ?hr ?_; (case hd => rfl); (case hg => rfl); (case hr => first | (go_simp; done) | (go_simp; rfl)); intro gb128 hg w9 hbox hb; have n0_ := Aside0.mk (below_step (by repeat (first | (with_reducible first | exact HB.out | apply below_alloc | apply pw_below_drewN | apply below_drew1) | exact HB.out)) hb); have n1_ := Aside0.mk (hbox); have n2_ := Aside0.mk ((by rw [hg]; exact (below_size (by repeat (first | (with_reducible first | exact HB.out | apply below_alloc | apply pw_below_drewN | apply below_drew1) | exact HB.out))) : w.heap.size ≤ gb128)); have n3_ := Aside0.mk ((by rw [hg]; exact (below_size (by repeat (first | (with_reducible first | exact HB.out | apply below_alloc | apply pw_below_drewN | apply below_drew1) | exact HB.out))) : w.heap.size ≤ gb128)); clear HB; have HB := n0_; have BK128 := n1_; have GW128 := n2_; have GE128 := n3_; clear n0_ n1_ n2_ n3_; clear hb hbox hg; have hcz10_0 : w9.cell? ⟨gb128, 0, none⟩ = some (.int .u16 a0_0) := (blk_cell BK128.out 0).trans rfl; have hfz10_0 := blk_frozen BK128.out 0) | ((with_reducible refine gate_callee (f := 22) rfl ?_); refine goesL_ (some 4) rfl rfl Try.func22 (by kernel_rfl) rfl #[.agg #[.int .u16 a0_0]] rfl (by (try simp only [List.map_toArray, List.map_cons, List.map_nil]); first | done | rfl | (simp only [List.length_drop, List.length_take]; rfl)) ?_; (with_reducible refine (float16_Num_IsZero.calls a0_0 false _ A2.out).mono ?_); rintro e w11 ⟨rfl, hb⟩; refine ⟨_, rfl, ?_⟩; have n0_ := Aside0.mk (blk_below (g := gb128) (o := .cells #[.int .u16 a0_0] 44 (0, 0)) (by (with_reducible repeat (first | refine blk_drewN ?_ _ | refine blk_drew ?_ | refine blk_alloc ?_ _)); exact BK128.out) hb); have n1_ := Aside0.mk (below_step (by repeat (first | (with_reducible first | exact HB.out | apply below_alloc | apply pw_below_drewN | apply below_drew1 | refine below_set ?_ GE128.out) | exact HB.out)) hb); clear BK128; clear HB; have BK128 := n0_; have HB := n1_; clear n0_ n1_; (try clear hb); (try clear hb2); (try clear hk); (try clear hi); have hcz12_0 : w11.cell? ⟨gb128, 0, none⟩ = some (.int .u16 a0_0) := (blk_cell BK128.out 0).trans rfl; have hfz12_0 := blk_frozen BK128.out 0) | ((with_reducible refine gate_callee (f := 21) rfl ?_); refine goesL_ (some 6) rfl rfl Try.func21 (by kernel_rfl) rfl #[.agg #[.int .u16 a0_0]] rfl (by (try simp only [List.map_toArray, List.map_cons, List.map_nil]); first | done | rfl | (simp only [List.length_drop, List.length_take]; rfl)) ?_; (with_reducible refine (float16_Num_Signbit.calls a0_0 true _ A7.out).mono ?_); rintro e w13 ⟨rfl, hb⟩; refine ⟨_, rfl, ?_⟩; have n0_ := Aside0.mk (blk_below (g := gb128) (o := .cells #[.int .u16 a0_0] 44 (0, 0)) (by (with_reducible repeat (first | refine blk_drewN ?_ _ | refine blk_drew ?_ | refine blk_alloc ?_ _)); exact BK128.out) hb); have n1_ := Aside0.mk (below_step (by repeat (first | (with_reducible first | exact HB.out | apply below_alloc | apply pw_below_drewN | apply below_drew1 | refine below_set ?_ GE128.out) | exact HB.out)) hb); clear BK128; clear HB; have BK128 := n0_; have HB := n1_; clear n0_ n1_; (try clear hb); (try clear hb2); (try clear hk); (try clear hi)))
      go_ret
      exact ⟨by first | rfl | (simp [errW_none, errW_some] <;> rfl) | (simp [*, errW_none, errW_some] <;> rfl), by repeat (first | (with_reducible first | exact HB.out | apply below_alloc | apply pw_below_drewN | apply below_drew1 | refine below_set ?_ GE128.out) | exact HB.out)⟩
    · replace c8 := Bool.eq_false_iff.mpr c8
      subst c8
      have H1 : (some 1) = some r := by rw [if_neg (show ¬ (false = true) by decide)] at H; exact H
      clear H
      have H := H1
      clear H1
      obtain rfl := Option.some.inj H
      go_enter Try.func20, Try.ntmps20
      go_wp2_with (first | ((with_reducible refine gate_dst (N := 1) rfl ?_); refine box_event ?hg (N := 1) ?hd (cs := #[.int .u16 a0_0]) (t := 44) ?hr ?_; (case hd => rfl); (case hg => rfl); (case hr => first | (go_simp; done) | (go_simp; rfl)); intro gb128 hg w14 hbox hb; have n0_ := Aside0.mk (below_step (by repeat (first | (with_reducible first | exact HB.out | apply below_alloc | apply pw_below_drewN | apply below_drew1) | exact HB.out)) hb); have n1_ := Aside0.mk (hbox); have n2_ := Aside0.mk ((by rw [hg]; exact (below_size (by repeat (first | (with_reducible first | exact HB.out | apply below_alloc | apply pw_below_drewN | apply below_drew1) | exact HB.out))) : w.heap.size ≤ gb128)); have n3_ := Aside0.mk ((by rw [hg]; exact (below_size (by repeat (first | (with_reducible first | exact HB.out | apply below_alloc | apply pw_below_drewN | apply below_drew1) | exact HB.out))) : w.heap.size ≤ gb128)); clear HB; have HB := n0_; have BK128 := n1_; have GW128 := n2_; have GE128 := n3_; clear n0_ n1_ n2_ n3_; clear hb hbox hg; have hcz15_0 : w14.cell? ⟨gb128, 0, none⟩ = some (.int .u16 a0_0) := (blk_cell BK128.out 0).trans rfl; have hfz15_0 := blk_frozen BK128.out 0) | ((with_reducible refine gate_callee (f := 22) rfl ?_); refine goesL_ (some 4) rfl rfl Try.func22 (by kernel_rfl) rfl #[.agg #[.int .u16 a0_0]] rfl (by (try simp only [List.map_toArray, List.map_cons, List.map_nil]); first | done | rfl | (simp only [List.length_drop, List.length_take]; rfl)) ?_; (with_reducible refine (float16_Num_IsZero.calls a0_0 false _ A2.out).mono ?_); rintro e w16 ⟨rfl, hb⟩; refine ⟨_, rfl, ?_⟩; have n0_ := Aside0.mk (blk_below (g := gb128) (o := .cells #[.int .u16 a0_0] 44 (0, 0)) (by (with_reducible repeat (first | refine blk_drewN ?_ _ | refine blk_drew ?_ | refine blk_alloc ?_ _)); exact BK128.out) hb); have n1_ := Aside0.mk (below_step (by repeat (first | (with_reducible first | exact HB.out | apply below_alloc | apply pw_below_drewN | apply below_drew1 | refine below_set ?_ GE128.out) | exact HB.out)) hb); clear BK128; clear HB; have BK128 := n0_; have HB := n1_; clear n0_ n1_; (try clear hb); (try clear hb2); (try clear hk); (try clear hi); have hcz17_0 : w16.cell? ⟨gb128, 0, none⟩ = some (.int .u16 a0_0) := (blk_cell BK128.out 0).trans rfl; have hfz17_0 := blk_frozen BK128.out 0) | ((with_reducible refine gate_callee (f := 21) rfl ?_); refine goesL_ (some 6) rfl rfl Try.func21 (by kernel_rfl) rfl #[.agg #[.int .u16 a0_0]] rfl (by (try simp only [List.map_toArray, List.map_cons, List.map_nil]); first | done | rfl | (simp only [List.length_drop, List.length_take]; rfl)) ?_; (with_reducible refine (float16_Num_Signbit.calls a0_0 false _ A7.out).mono ?_); rintro e w18 ⟨rfl, hb⟩; refine ⟨_, rfl, ?_⟩; have n0_ := Aside0.mk (blk_below (g := gb128) (o := .cells #[.int .u16 a0_0] 44 (0, 0)) (by (with_reducible repeat (first | refine blk_drewN ?_ _ | refine blk_drew ?_ | refine blk_alloc ?_ _)); exact BK128.out) hb); have n1_ := Aside0.mk (below_step (by repeat (first | (with_reducible first | exact HB.out | apply below_alloc | apply pw_below_drewN | apply below_drew1 | refine below_set ?_ GE128.out) | exact HB.out)) hb); clear BK128; clear HB; have BK128 := n0_; have HB := n1_; clear n0_ n1_; (try clear hb); (try clear hb2); (try clear hk); (try clear hi)))
      go_ret
      exact ⟨by first | rfl | (simp [errW_none, errW_some] <;> rfl) | (simp [*, errW_none, errW_some] <;> rfl), by repeat (first | (with_reducible first | exact HB.out | apply below_alloc | apply pw_below_drewN | apply below_drew1 | refine below_set ?_ GE128.out) | exact HB.out)⟩

/-! ### float16_Num_IsInf: function 23 -/
def float16_Num_IsInf.f (a0_0 : Int) : Option (Bool) := some ((Go.bits .and .u16 a0_0 31744) == 31744)
set_option maxHeartbeats 8000000 in
set_option maxRecDepth 100000 in
theorem float16_Num_IsInf.calls (a0_0 : Int) (r : Bool) (w : World) (h : float16_Num_IsInf.f a0_0 = some r) :
    Calls Try.prog 23 #[.agg #[.int .u16 a0_0]] w fun e w' => e = .returned (.bool r) ∧ Below w.heap.size w w' := by
  have hu44 := Try.underlying44
  have HB := Aside0.mk (Below.refl w.heap.size w)
  have H : (some ((Go.bits .and .u16 a0_0 31744) == 31744)) = some r := h
  clear h
  obtain rfl := Option.some.inj H
  go_enter Try.func23, Try.ntmps23
  go_wp2_with (first | ((with_reducible refine gate_dst (N := 1) rfl ?_); refine box_event ?hg (N := 1) ?hd (cs := #[.int .u16 a0_0]) (t := 44) ?hr ?_; (case hd => rfl); (case hg => rfl); (case hr => first | (go_simp; done) | (go_simp; rfl)); intro gb131 hg w2 hbox hb; have n0_ := Aside0.mk (below_step (by repeat (first | (with_reducible first | exact HB.out | apply below_alloc | apply pw_below_drewN | apply below_drew1) | exact HB.out)) hb); have n1_ := Aside0.mk (hbox); have n2_ := Aside0.mk ((by rw [hg]; exact (below_size (by repeat (first | (with_reducible first | exact HB.out | apply below_alloc | apply pw_below_drewN | apply below_drew1) | exact HB.out))) : w.heap.size ≤ gb131)); have n3_ := Aside0.mk ((by rw [hg]; exact (below_size (by repeat (first | (with_reducible first | exact HB.out | apply below_alloc | apply pw_below_drewN | apply below_drew1) | exact HB.out))) : w.heap.size ≤ gb131)); clear HB; have HB := n0_; have BK131 := n1_; have GW131 := n2_; have GE131 := n3_; clear n0_ n1_ n2_ n3_; clear hb hbox hg; have hcz3_0 : w2.cell? ⟨gb131, 0, none⟩ = some (.int .u16 a0_0) := (blk_cell BK131.out 0).trans rfl; have hfz3_0 := blk_frozen BK131.out 0))
  go_ret
  exact ⟨by first | rfl | (simp [errW_none, errW_some] <;> rfl) | (simp [*, errW_none, errW_some] <;> rfl), by repeat (first | (with_reducible first | exact HB.out | apply below_alloc | apply pw_below_drewN | apply below_drew1 | refine below_set ?_ GE131.out) | exact HB.out)⟩

/-! ### float16_Num_IsNaN: function 24 -/
def float16_Num_IsNaN.f (a0_0 : Int) : Option (Bool) := some (decide ((Go.bits .and .u16 a0_0 32767) > 31744))
set_option maxHeartbeats 8000000 in
set_option maxRecDepth 100000 in
theorem float16_Num_IsNaN.calls (a0_0 : Int) (r : Bool) (w : World) (h : float16_Num_IsNaN.f a0_0 = some r) :
    Calls Try.prog 24 #[.agg #[.int .u16 a0_0]] w fun e w' => e = .returned (.bool r) ∧ Below w.heap.size w w' := by
  have hu44 := Try.underlying44
  have HB := Aside0.mk (Below.refl w.heap.size w)
  have H : (some (decide ((Go.bits .and .u16 a0_0 32767) > 31744))) = some r := h
  clear h
  obtain rfl := Option.some.inj H
  go_enter Try.func24, Try.ntmps24
  go_wp2_with (first | ((with_reducible refine gate_dst (N := 1) rfl ?_); refine box_event ?hg (N := 1) ?hd (cs := #[.int .u16 a0_0]) (t := 44) ?hr ?_; (case hd => rfl); (case hg => rfl); (case hr => first | (go_simp; done) | (go_simp; rfl)); intro gb132 hg w2 hbox hb; have n0_ := Aside0.mk (below_step (by repeat (first | (with_reducible first | exact HB.out | apply below_alloc | apply pw_below_drewN | apply below_drew1) | exact HB.out)) hb); have n1_ := Aside0.mk (hbox); have n2_ := Aside0.mk ((by rw [hg]; exact (below_size (by repeat (first | (with_reducible first | exact HB.out | apply below_alloc | apply pw_below_drewN | apply below_drew1) | exact HB.out))) : w.heap.size ≤ gb132)); have n3_ := Aside0.mk ((by rw [hg]; exact (below_size (by repeat (first | (with_reducible first | exact HB.out | apply below_alloc | apply pw_below_drewN | apply below_drew1) | exact HB.out))) : w.heap.size ≤ gb132)); clear HB; have HB := n0_; have BK132 := n1_; have GW132 := n2_; have GE132 := n3_; clear n0_ n1_ n2_ n3_; clear hb hbox hg; have hcz3_0 : w2.cell? ⟨gb132, 0, none⟩ = some (.int .u16 a0_0) := (blk_cell BK132.out 0).trans rfl; have hfz3_0 := blk_frozen BK132.out 0))
  go_ret
  exact ⟨by first | rfl | (simp [errW_none, errW_some] <;> rfl) | (simp [*, errW_none, errW_some] <;> rfl), by repeat (first | (with_reducible first | exact HB.out | apply below_alloc | apply pw_below_drewN | apply below_drew1 | refine below_set ?_ GE132.out) | exact HB.out)⟩

/-! ### impl_HalfFacts: function 8 -/
def impl_HalfFacts.f (a0 : Int) : Option (Int × Bool × Bool × Bool × Bool) := (float16_FromBits.f a0).bind fun t133 => ((float16_Num_Sign.f t133).bind fun t135 => ((float16_Num_Signbit.f t133).bind fun t136 => ((float16_Num_IsZero.f t133).bind fun t137 => ((float16_Num_IsInf.f t133).bind fun t138 => ((float16_Num_IsNaN.f t133).bind fun t139 => (some (t135, t136, t137, t138, t139)))))))
def impl_HalfFacts.T2 : Bool × List (List Nat × List Nat) := (true, [([], []), ([0], [0]), ([], []), ([2, 1], [2]), ([], []), ([4, 3], [4]), ([], []), ([6, 5], [6]), ([], []), ([8, 7], [8]), ([1, 9, 0, 1], [1]), ([3, 10, 0, 1, 2, 3, 10], [3]), ([5, 11, 0, 1, 2, 3, 4, 5, 10, 11], [5]), ([7, 12, 0, 1, 2, 3, 4, 5, 6, 7, 10, 11, 12], [7]), ([9, 13, 0, 1, 2, 3, 4, 5, 6, 7, 8, 9, 10, 11, 12, 13], [9])])
def impl_HalfFacts.B2 : List Nat := [0, 1, 0, 7, 0, 31, 0, 127, 0, 511, 1023, 2047, 4095, 8191, 16383]
theorem impl_HalfFacts.tab2 : rtab .any (opsOf Try.f8 2) = impl_HalfFacts.T2 := by kernel_rfl
theorem impl_HalfFacts.bits2 : waitsOk impl_HalfFacts.T2.2 impl_HalfFacts.B2 = true := by kernel_rfl
set_option maxHeartbeats 8000000 in
set_option maxRecDepth 100000 in
theorem impl_HalfFacts.calls (a0 : Int) (r1 : Int) (r2 : Bool) (r3 : Bool) (r4 : Bool) (r5 : Bool) (w : World) (h : impl_HalfFacts.f a0 = some (r1, r2, r3, r4, r5)) :
    Calls Try.prog 8 #[.int .u16 a0] w fun e w' => e = .returned (.tuple #[.int .i64 r1, .bool r2, .bool r3, .bool r4, .bool r5]) ∧ Below w.heap.size w w' := by
  have hu44 := Try.underlying44
  have HB := Aside0.mk (Below.refl w.heap.size w)
  have H : ((float16_FromBits.f a0).bind fun t133 => ((float16_Num_Sign.f t133).bind fun t135 => ((float16_Num_Signbit.f t133).bind fun t136 => ((float16_Num_IsZero.f t133).bind fun t137 => ((float16_Num_IsInf.f t133).bind fun t138 => ((float16_Num_IsNaN.f t133).bind fun t139 => (some (t135, t136, t137, t138, t139)))))))) = some (r1, r2, r3, r4, r5) := h
  clear h
  replace H := Option.bind_eq_some_iff.mp H
  obtain ⟨t133, A20, H⟩ := H
  replace H : ((float16_Num_Sign.f t133).bind fun t135 => ((float16_Num_Signbit.f t133).bind fun t136 => ((float16_Num_IsZero.f t133).bind fun t137 => ((float16_Num_IsInf.f t133).bind fun t138 => ((float16_Num_IsNaN.f t133).bind fun t139 => (some (t135, t136, t137, t138, t139))))))) = some (r1, r2, r3, r4, r5) := H
  have A2 := Aside0.mk A20
  clear A20
  replace H := Option.bind_eq_some_iff.mp H
  obtain ⟨t135, A30, H⟩ := H
  replace H : ((float16_Num_Signbit.f t133).bind fun t136 => ((float16_Num_IsZero.f t133).bind fun t137 => ((float16_Num_IsInf.f t133).bind fun t138 => ((float16_Num_IsNaN.f t133).bind fun t139 => (some (t135, t136, t137, t138, t139)))))) = some (r1, r2, r3, r4, r5) := H
  have A3 := Aside0.mk A30
  clear A30
  replace H := Option.bind_eq_some_iff.mp H
  obtain ⟨t136, A40, H⟩ := H
  replace H : ((float16_Num_IsZero.f t133).bind fun t137 => ((float16_Num_IsInf.f t133).bind fun t138 => ((float16_Num_IsNaN.f t133).bind fun t139 => (some (t135, t136, t137, t138, t139))))) = some (r1, r2, r3, r4, r5) := H
  have A4 := Aside0.mk A40
  clear A40
  replace H := Option.bind_eq_some_iff.mp H
  obtain ⟨t137, A50, H⟩ := H
  replace H : ((float16_Num_IsInf.f t133).bind fun t138 => ((float16_Num_IsNaN.f t133).bind fun t139 => (some (t135, t136, t137, t138, t139)))) = some (r1, r2, r3, r4, r5) := H
  have A5 := Aside0.mk A50
  clear A50
  replace H := Option.bind_eq_some_iff.mp H
  obtain ⟨t138, A60, H⟩ := H
  replace H : ((float16_Num_IsNaN.f t133).bind fun t139 => (some (t135, t136, t137, t138, t139))) = some (r1, r2, r3, r4, r5) := H
  have A6 := Aside0.mk A60
  clear A60
  replace H := Option.bind_eq_some_iff.mp H
  obtain ⟨t139, A70, H⟩ := H
  replace H : (some (t135, t136, t137, t138, t139)) = some (r1, r2, r3, r4, r5) := H
  have A7 := Aside0.mk A70
  clear A70
  simp only [Option.some.injEq, Prod.mk.injEq] at H
  obtain ⟨rfl, rfl, rfl, rfl, rfl⟩ := H
  go_enter Try.func8, Try.ntmps8
  try go_wp2_with (first | ((with_reducible refine gate_callee (f := 19) rfl ?_); refine goesL_ (some 9) rfl rfl Try.func19 (by kernel_rfl) rfl #[.int .u16 a0] rfl (by (try simp only [List.map_toArray, List.map_cons, List.map_nil]); first | done | rfl | (simp only [List.length_drop, List.length_take]; rfl)) ?_; (with_reducible refine (float16_FromBits.calls a0 t133 _ A2.out).mono ?_); rintro e w8 ⟨rfl, hb⟩; refine ⟨_, rfl, ?_⟩; have n0_ := Aside0.mk (below_step (by repeat (first | (with_reducible first | exact HB.out | apply below_alloc | apply pw_below_drewN | apply below_drew1) | exact HB.out)) hb); clear HB; have HB := n0_; clear n0_; (try clear hb); (try clear hb2); (try clear hk); (try clear hi)) | ((with_reducible refine gate_dst (N := 7) rfl ?_); refine box_event ?hg (N := 7) ?hd (cs := #[.int .u16 0]) (t := 44) ?hr ?_; (case hd => rfl); (case hg => rfl); (case hr => first | (go_simp; done) | (go_simp; rfl)); intro gb134 hg w9 hbox hb; have n0_ := Aside0.mk (below_step (by repeat (first | (with_reducible first | exact HB.out | apply below_alloc | apply pw_below_drewN | apply below_drew1) | exact HB.out)) hb); have n1_ := Aside0.mk (hbox); have n2_ := Aside0.mk ((by rw [hg]; exact (below_size (by repeat (first | (with_reducible first | exact HB.out | apply below_alloc | apply pw_below_drewN | apply below_drew1) | exact HB.out))) : w.heap.size ≤ gb134)); have n3_ := Aside0.mk ((by rw [hg]; exact (below_size (by repeat (first | (with_reducible first | exact HB.out | apply below_alloc | apply pw_below_drewN | apply below_drew1) | exact HB.out))) : w.heap.size ≤ gb134)); clear HB; have HB := n0_; have BK134 := n1_; have GW134 := n2_; have GE134 := n3_; clear n0_ n1_ n2_ n3_; clear hb hbox hg; have hcz10_0 : w9.cell? ⟨gb134, 0, none⟩ = some (.int .u16 0) := (blk_cell BK134.out 0).trans rfl; have hfz10_0 := blk_frozen BK134.out 0))
  have n0_ : Aside0 ((w9.setCell ⟨gb134, 0, none⟩ (.int .u16 t133)).heap[gb134]? = some (.cells #[.int .u16 t133] 44 (0, 0))) := ⟨by (with_reducible repeat (first | refine blk_drewN ?_ _ | refine blk_drew ?_ | refine blk_alloc ?_ _)); refine blk_put (cs := #[.int .u16 0]) ?_ 0 _ rfl; (with_reducible repeat (first | refine blk_drewN ?_ _ | refine blk_drew ?_ | refine blk_alloc ?_ _)); exact BK134.out⟩
  have n1_ : Aside0 (Below w.heap.size w (w9.setCell ⟨gb134, 0, none⟩ (.int .u16 t133))) := ⟨by repeat (first | (with_reducible first | exact HB.out | apply below_alloc | apply pw_below_drewN | apply below_drew1 | refine below_set ?_ GE134.out) | exact HB.out)⟩
  (try clear BK134)
  (try clear HB)
  generalize (w9.setCell ⟨gb134, 0, none⟩ (.int .u16 t133)) = w11 at n0_ n1_ ⊢
  have BK134 := n0_
  have HB := n1_
  clear n0_ n1_
  have n0_ := Aside0.mk (blk_drew BK134.out)
  have n1_ := Aside0.mk (below_drew1 HB.out)
  clear BK134
  clear HB
  have BK134 := n0_
  have HB := n1_
  clear n0_ n1_
  refine start_ (n := 15) (S := fun w' => w'.cell? ⟨gb134, 0, none⟩ = some (.int .u16 t133)) (ds := []) #[false, false, false, false, false, false, false, false, false, false, false, false, false, false, false] (by kernel_rfl) rfl rfl ((blk_cell BK134.out 0).trans rfl) (fun hHeld => ?_); refine with_tabW impl_HalfFacts.tab2 impl_HalfFacts.bits2 (fun HT_ HW_ => ?_)
  generalize w11.drew = w12 at BK134 HB hHeld ⊢
  refine take_ (i := 0) (N := some 10) (v := ?_) (a' := ?_) #[true, false, false, false, false, false, false, false, false, false, false, false, false, false, false] rfl rfl (take_ofW HT_.out HW_.out (by kernel_rfl)) (fun _ _ _ h => h) (Or.inl ⟨by rfl, ?_⟩) hHeld ?_ ?_
  rotate_left
  · intro w' s0
    go_simp
    with_reducible rfl
  rotate_left
  · simp only [Act.put, List.setIfInBounds_toArray, List.set_cons_zero, List.set_cons_succ, i64_w, i32_w]
    rfl
  refine take_ (i := 2) (N := some 12) (v := ?_) (a' := ?_) #[true, false, true, false, false, false, false, false, false, false, false, false, false, false, false] rfl rfl (take_ofW HT_.out HW_.out (by kernel_rfl)) (fun _ _ _ h => h) (Or.inl ⟨by rfl, ?_⟩) hHeld ?_ ?_
  rotate_left
  · intro w' s0
    go_simp
    with_reducible rfl
  rotate_left
  · simp only [Act.put, List.setIfInBounds_toArray, List.set_cons_zero, List.set_cons_succ, i64_w, i32_w]
    rfl
  refine take_ (i := 4) (N := some 14) (v := ?_) (a' := ?_) #[true, false, true, false, true, false, false, false, false, false, false, false, false, false, false] rfl rfl (take_ofW HT_.out HW_.out (by kernel_rfl)) (fun _ _ _ h => h) (Or.inl ⟨by rfl, ?_⟩) hHeld ?_ ?_
  rotate_left
  · intro w' s0
    go_simp
    with_reducible rfl
  rotate_left
  · simp only [Act.put, List.setIfInBounds_toArray, List.set_cons_zero, List.set_cons_succ, i64_w, i32_w]
    rfl
  refine take_ (i := 6) (N := some 16) (v := ?_) (a' := ?_) #[true, false, true, false, true, false, true, false, false, false, false, false, false, false, false] rfl rfl (take_ofW HT_.out HW_.out (by kernel_rfl)) (fun _ _ _ h => h) (Or.inl ⟨by rfl, ?_⟩) hHeld ?_ ?_
  rotate_left
  · intro w' s0
    go_simp
    with_reducible rfl
  rotate_left
  · simp only [Act.put, List.setIfInBounds_toArray, List.set_cons_zero, List.set_cons_succ, i64_w, i32_w]
    rfl
  refine take_ (i := 8) (N := some 18) (v := ?_) (a' := ?_) #[true, false, true, false, true, false, true, false, true, false, false, false, false, false, false] rfl rfl (take_ofW HT_.out HW_.out (by kernel_rfl)) (fun _ _ _ h => h) (Or.inl ⟨by rfl, ?_⟩) hHeld ?_ ?_
  rotate_left
  · intro w' s0
    go_simp
    with_reducible rfl
  rotate_left
  · simp only [Act.put, List.setIfInBounds_toArray, List.set_cons_zero, List.set_cons_succ, i64_w, i32_w]
    rfl
  refine one_ (i := 1) (N := some 11) #[true, true, true, false, true, false, true, false, true, false, false, false, false, false, false] rfl rfl (one_of HT_.out (by kernel_rfl)) (by decide) (fun K hK => ?_)
  refine goes_ Try.func20 (by kernel_rfl) rfl #[.agg #[.int .u16 t133]] (by rfl) rfl rfl (by (try simp only [List.map_toArray, List.map_cons, List.map_nil]); first | done | rfl | (simp only [List.length_drop, List.length_take]; rfl)) ?_
  with_reducible refine (float16_Num_Sign.calls t133 t135 _ A3.out).mono ?_
  rintro e w13 ⟨rfl, hb⟩
  refine ⟨_, rfl, ?_⟩
  have n0_ := Aside0.mk (blk_below (g := gb134) (o := .cells #[.int .u16 t133] 44 (0, 0)) (by (with_reducible repeat (first | refine blk_drewN ?_ _ | refine blk_drew ?_ | refine blk_alloc ?_ _)); exact BK134.out) hb)
  have n1_ := Aside0.mk (below_step (by repeat (first | (with_reducible first | exact HB.out | apply below_alloc | apply pw_below_drewN | apply below_drew1 | refine below_set ?_ GE134.out) | exact HB.out)) hb)
  clear BK134
  clear HB
  have BK134 := n0_
  have HB := n1_
  clear n0_ n1_
  (try clear hb)
  (try clear hb2)
  (try clear hk)
  (try clear hi)
  refine hK.out _ _ ((blk_cell BK134.out 0).trans rfl) (fun hHeld => ?_)
  clear hK K
  refine norm_ (a' := ?_) ?_ ?_
  rotate_left
  · show Act.put _ (some 11) _ = _
    simp only [Act.put, List.setIfInBounds_toArray, List.set_cons_zero, List.set_cons_succ, i64_w, i32_w]
    rfl
  refine one_ (i := 3) (N := some 13) #[true, true, true, true, true, false, true, false, true, false, false, false, false, false, false] rfl rfl (one_of HT_.out (by kernel_rfl)) (by decide) (fun K hK => ?_)
  refine goes_ Try.func21 (by kernel_rfl) rfl #[.agg #[.int .u16 t133]] (by rfl) rfl rfl (by (try simp only [List.map_toArray, List.map_cons, List.map_nil]); first | done | rfl | (simp only [List.length_drop, List.length_take]; rfl)) ?_
  with_reducible refine (float16_Num_Signbit.calls t133 t136 _ A4.out).mono ?_
  rintro e w14 ⟨rfl, hb⟩
  refine ⟨_, rfl, ?_⟩
  have n0_ := Aside0.mk (blk_below (g := gb134) (o := .cells #[.int .u16 t133] 44 (0, 0)) (by (with_reducible repeat (first | refine blk_drewN ?_ _ | refine blk_drew ?_ | refine blk_alloc ?_ _)); exact BK134.out) hb)
  have n1_ := Aside0.mk (below_step (by repeat (first | (with_reducible first | exact HB.out | apply below_alloc | apply pw_below_drewN | apply below_drew1 | refine below_set ?_ GE134.out) | exact HB.out)) hb)
  clear BK134
  clear HB
  have BK134 := n0_
  have HB := n1_
  clear n0_ n1_
  (try clear hb)
  (try clear hb2)
  (try clear hk)
  (try clear hi)
  refine hK.out _ _ ((blk_cell BK134.out 0).trans rfl) (fun hHeld => ?_)
  clear hK K
  refine norm_ (a' := ?_) ?_ ?_
  rotate_left
  · show Act.put _ (some 13) _ = _
    simp only [Act.put, List.setIfInBounds_toArray, List.set_cons_zero, List.set_cons_succ, i64_w, i32_w]
    rfl
  refine one_ (i := 5) (N := some 15) #[true, true, true, true, true, true, true, false, true, false, false, false, false, false, false] rfl rfl (one_of HT_.out (by kernel_rfl)) (by decide) (fun K hK => ?_)
  refine goes_ Try.func22 (by kernel_rfl) rfl #[.agg #[.int .u16 t133]] (by rfl) rfl rfl (by (try simp only [List.map_toArray, List.map_cons, List.map_nil]); first | done | rfl | (simp only [List.length_drop, List.length_take]; rfl)) ?_
  with_reducible refine (float16_Num_IsZero.calls t133 t137 _ A5.out).mono ?_
  rintro e w15 ⟨rfl, hb⟩
  refine ⟨_, rfl, ?_⟩
  have n0_ := Aside0.mk (blk_below (g := gb134) (o := .cells #[.int .u16 t133] 44 (0, 0)) (by (with_reducible repeat (first | refine blk_drewN ?_ _ | refine blk_drew ?_ | refine blk_alloc ?_ _)); exact BK134.out) hb)
  have n1_ := Aside0.mk (below_step (by repeat (first | (with_reducible first | exact HB.out | apply below_alloc | apply pw_below_drewN | apply below_drew1 | refine below_set ?_ GE134.out) | exact HB.out)) hb)
  clear BK134
  clear HB
  have BK134 := n0_
  have HB := n1_
  clear n0_ n1_
  (try clear hb)
  (try clear hb2)
  (try clear hk)
  (try clear hi)
  refine hK.out _ _ ((blk_cell BK134.out 0).trans rfl) (fun hHeld => ?_)
  clear hK K
  refine norm_ (a' := ?_) ?_ ?_
  rotate_left
  · show Act.put _ (some 15) _ = _
    simp only [Act.put, List.setIfInBounds_toArray, List.set_cons_zero, List.set_cons_succ, i64_w, i32_w]
    rfl
  refine one_ (i := 7) (N := some 17) #[true, true, true, true, true, true, true, true, true, false, false, false, false, false, false] rfl rfl (one_of HT_.out (by kernel_rfl)) (by decide) (fun K hK => ?_)
  refine goes_ Try.func23 (by kernel_rfl) rfl #[.agg #[.int .u16 t133]] (by rfl) rfl rfl (by (try simp only [List.map_toArray, List.map_cons, List.map_nil]); first | done | rfl | (simp only [List.length_drop, List.length_take]; rfl)) ?_
  with_reducible refine (float16_Num_IsInf.calls t133 t138 _ A6.out).mono ?_
  rintro e w16 ⟨rfl, hb⟩
  refine ⟨_, rfl, ?_⟩
  have n0_ := Aside0.mk (blk_below (g := gb134) (o := .cells #[.int .u16 t133] 44 (0, 0)) (by (with_reducible repeat (first | refine blk_drewN ?_ _ | refine blk_drew ?_ | refine blk_alloc ?_ _)); exact BK134.out) hb)
  have n1_ := Aside0.mk (below_step (by repeat (first | (with_reducible first | exact HB.out | apply below_alloc | apply pw_below_drewN | apply below_drew1 | refine below_set ?_ GE134.out) | exact HB.out)) hb)
  clear BK134
  clear HB
  have BK134 := n0_
  have HB := n1_
  clear n0_ n1_
  (try clear hb)
  (try clear hb2)
  (try clear hk)
  (try clear hi)
  refine hK.out _ _ ((blk_cell BK134.out 0).trans rfl) (fun hHeld => ?_)
  clear hK K
  refine norm_ (a' := ?_) ?_ ?_
  rotate_left
  · show Act.put _ (some 17) _ = _
    simp only [Act.put, List.setIfInBounds_toArray, List.set_cons_zero, List.set_cons_succ, i64_w, i32_w]
    rfl
  refine one_ (i := 9) (N := some 19) #[true, true, true, true, true, true, true, true, true, true, false, false, false, false, false] rfl rfl (one_of HT_.out (by kernel_rfl)) (by decide) (fun K hK => ?_)
  refine goes_ Try.func24 (by kernel_rfl) rfl #[.agg #[.int .u16 t133]] (by rfl) rfl rfl (by (try simp only [List.map_toArray, List.map_cons, List.map_nil]); first | done | rfl | (simp only [List.length_drop, List.length_take]; rfl)) ?_
  with_reducible refine (float16_Num_IsNaN.calls t133 t139 _ A7.out).mono ?_
  rintro e w17 ⟨rfl, hb⟩
  refine ⟨_, rfl, ?_⟩
  have n0_ := Aside0.mk (blk_below (g := gb134) (o := .cells #[.int .u16 t133] 44 (0, 0)) (by (with_reducible repeat (first | refine blk_drewN ?_ _ | refine blk_drew ?_ | refine blk_alloc ?_ _)); exact BK134.out) hb)
  have n1_ := Aside0.mk (below_step (by repeat (first | (with_reducible first | exact HB.out | apply below_alloc | apply pw_below_drewN | apply below_drew1 | refine below_set ?_ GE134.out) | exact HB.out)) hb)
  clear BK134
  clear HB
  have BK134 := n0_
  have HB := n1_
  clear n0_ n1_
  (try clear hb)
  (try clear hb2)
  (try clear hk)
  (try clear hi)
  refine hK.out _ _ ((blk_cell BK134.out 0).trans rfl) (fun hHeld => ?_)
  clear hK K
  refine norm_ (a' := ?_) ?_ ?_
  rotate_left
  · show Act.put _ (some 19) _ = _
    simp only [Act.put, List.setIfInBounds_toArray, List.set_cons_zero, List.set_cons_succ, i64_w, i32_w]
    rfl
  refine pure_ (i := 10) (N := some 2) (v := ?_) (a' := ?_) #[true, true, true, true, true, true, true, true, true, true, true, false, false, false, false] rfl rfl (any_of HT_.out (by kernel_rfl)) (fun _ _ _ h => h) (Or.inl ⟨by rfl, ?_⟩) ?_ ?_
  rotate_left
  · intro w'
    go_simp
    with_reducible rfl
  rotate_left
  · simp only [Act.put, List.setIfInBounds_toArray, List.set_cons_zero, List.set_cons_succ, i64_w, i32_w]
    rfl
  refine pure_ (i := 11) (N := some 3) (v := ?_) (a' := ?_) #[true, true, true, true, true, true, true, true, true, true, true, true, false, false, false] rfl rfl (any_of HT_.out (by kernel_rfl)) (fun _ _ _ h => h) (Or.inl ⟨by rfl, ?_⟩) ?_ ?_
  rotate_left
  · intro w'
    go_simp
    with_reducible rfl
  rotate_left
  · simp only [Act.put, List.setIfInBounds_toArray, List.set_cons_zero, List.set_cons_succ, i64_w, i32_w]
    rfl
  refine pure_ (i := 12) (N := some 4) (v := ?_) (a' := ?_) #[true, true, true, true, true, true, true, true, true, true, true, true, true, false, false] rfl rfl (any_of HT_.out (by kernel_rfl)) (fun _ _ _ h => h) (Or.inl ⟨by rfl, ?_⟩) ?_ ?_
  rotate_left
  · intro w'
    go_simp
    with_reducible rfl
  rotate_left
  · simp only [Act.put, List.setIfInBounds_toArray, List.set_cons_zero, List.set_cons_succ, i64_w, i32_w]
    rfl
  refine pure_ (i := 13) (N := some 5) (v := ?_) (a' := ?_) #[true, true, true, true, true, true, true, true, true, true, true, true, true, true, false] rfl rfl (any_of HT_.out (by kernel_rfl)) (fun _ _ _ h => h) (Or.inl ⟨by rfl, ?_⟩) ?_ ?_
  rotate_left
  · intro w'
    go_simp
    with_reducible rfl
  rotate_left
  · simp only [Act.put, List.setIfInBounds_toArray, List.set_cons_zero, List.set_cons_succ, i64_w, i32_w]
    rfl
  refine pure_ (i := 14) (N := some 6) (v := ?_) (a' := ?_) #[true, true, true, true, true, true, true, true, true, true, true, true, true, true, true] rfl rfl (any_of HT_.out (by kernel_rfl)) (fun _ _ _ h => h) (Or.inl ⟨by rfl, ?_⟩) ?_ ?_
  rotate_left
  · intro w'
    go_simp
    with_reducible rfl
  rotate_left
  · simp only [Act.put, List.setIfInBounds_toArray, List.set_cons_zero, List.set_cons_succ, i64_w, i32_w]
    rfl
  refine done_ (done_of HT_.out (by kernel_rfl)) ?_
  try go_wp2
  refine bodyPost_ret (results_list (rs := [.tmp 2, .tmp 3, .tmp 4, .tmp 5, .tmp 6]) rfl (by simp) (.tmp (.tmp (.tmp (.tmp (.tmp .nil)))))) rfl ?_
  exact ⟨by first | rfl | (simp [errW_none, errW_some] <;> rfl) | (simp [*, errW_none, errW_some] <;> rfl), by repeat (first | (with_reducible first | exact HB.out | apply below_alloc | apply pw_below_drewN | apply below_drew1 | refine below_set ?_ GE134.out) | exact HB.out)⟩

/-! ### laws_FnHalfFacts: function 3 -/
def laws_FnHalfFacts.j0 : Nat → Int → Nat → Int → Bool → Bool → Bool → Bool → Int → Option (Bool)
  | 0, _, _, _, _, _, _, _, _ => none
  | k + 1, x0, x3, x4, x5, x6, x7, x8, x9 => if ((Go.FloatKind.format .f64).order x3 0 == some .gt) = true then ((laws_halves.f).bind fun t148 => (if t148 = true then (if x4 = 1 then (if (x5 == ((x0 / 32768) == 1)) = true then (if (x6 == ((Go.FloatKind.format .f64).order x3 0 == some .eq)) = true then ((math_IsInf.f x3 0).bind fun t149 => (if (x7 == t149) = true then (some (!x8)) else (some false))) else (some false)) else (some false)) else (some false)) else (some false))) else ((laws_halves.f).bind fun t150 => (if t150 = true then (if x4 = x9 then (if (x5 == ((x0 / 32768) == 1)) = true then (if (x6 == ((Go.FloatKind.format .f64).order x3 0 == some .eq)) = true then ((math_IsInf.f x3 0).bind fun t151 => (if (x7 == t151) = true then (some (!x8)) else (some false))) else (some false)) else (some false)) else (some false)) else (some false)))
def laws_FnHalfFacts.f (k : Nat) (a0 : Int) : Option (Bool) := (laws_usualHalf.f a0).bind fun t140 => (if t140 = true then ((spec_HalfValue.f k a0).bind fun t142 => ((impl_HalfFacts.f a0).bind fun bt143 => (if ((Go.FloatKind.format .f64).order t142 0 == some .lt) = true then (laws_FnHalfFacts.j0 k a0 t142 bt143.1 bt143.2.1 bt143.2.2.1 bt143.2.2.2.1 bt143.2.2.2.2 (-1)) else (laws_FnHalfFacts.j0 k a0 t142 bt143.1 bt143.2.1 bt143.2.2.1 bt143.2.2.2.1 bt143.2.2.2.2 0)))) else ((laws_halves.f).bind fun t141 => (some t141)))
theorem laws_FnHalfFacts.mono_l : ∀ k, (∀ y0 y1 y2 y3 y4 y5 y6 y7, LeO (laws_FnHalfFacts.j0 k y0 y1 y2 y3 y4 y5 y6 y7) (laws_FnHalfFacts.j0 (k + 1) y0 y1 y2 y3 y4 y5 y6 y7))
  | 0 => fun _ _ _ _ _ _ _ _ r h => by simp [laws_FnHalfFacts.j0] at h
  | k + 1 => by
    have ih0 := laws_FnHalfFacts.mono_l k
    · intro y0 y1 y2 y3 y4 y5 y6 y7
      unfold laws_FnHalfFacts.j0
      repeat' first
      | (with_reducible exact ih0 _ _ _ _ _ _ _ _)
      | (with_reducible exact spec_HalfValue.mono _ _)
      | (with_reducible exact LeO.refl _)
      | (with_reducible exact LeO.none _)
      | (with_reducible refine LeO.ite ?_ ?_)
      | (with_reducible refine LeO.bind ?_ (fun _ => ?_))
      | exact ih0 _ _ _ _ _ _ _ _
      | exact spec_HalfValue.mono _ _
      | exact LeO.none _
      | refine LeO.ite ?_ ?_
      | refine LeO.bind ?_ (fun _ => ?_)
theorem laws_FnHalfFacts.mono : ∀ a0 k, LeO (laws_FnHalfFacts.f k a0) (laws_FnHalfFacts.f (k + 1) a0) := by
  intro a0 k
  have ih0 := laws_FnHalfFacts.mono_l k
  unfold laws_FnHalfFacts.f
  repeat' first
      | (with_reducible exact ih0 _ _ _ _ _ _ _ _)
      | (with_reducible exact spec_HalfValue.mono _ _)
      | (with_reducible exact LeO.refl _)
      | (with_reducible exact LeO.none _)
      | (with_reducible refine LeO.ite ?_ ?_)
      | (with_reducible refine LeO.bind ?_ (fun _ => ?_))
      | exact ih0 _ _ _ _ _ _ _ _
      | exact spec_HalfValue.mono _ _
      | exact LeO.none _
      | refine LeO.ite ?_ ?_
      | refine LeO.bind ?_ (fun _ => ?_)
set_option maxHeartbeats 8000000 in
set_option maxRecDepth 100000 in
theorem laws_FnHalfFacts.calls (k : Nat) (a0 : Int) (r : Bool) (w : World) (h : laws_FnHalfFacts.f k a0 = some r) :
    Calls Try.prog 3 #[.int .u16 a0] w fun e w' => e = .returned (.bool r) ∧ Below w.heap.size w w' := by
  have HB := Aside0.mk (Below.refl w.heap.size w)
  have H : ((laws_usualHalf.f a0).bind fun t140 => (if t140 = true then ((spec_HalfValue.f k a0).bind fun t142 => ((impl_HalfFacts.f a0).bind fun bt143 => (if ((Go.FloatKind.format .f64).order t142 0 == some .lt) = true then (laws_FnHalfFacts.j0 k a0 t142 bt143.1 bt143.2.1 bt143.2.2.1 bt143.2.2.2.1 bt143.2.2.2.2 (-1)) else (laws_FnHalfFacts.j0 k a0 t142 bt143.1 bt143.2.1 bt143.2.2.1 bt143.2.2.2.1 bt143.2.2.2.2 0)))) else ((laws_halves.f).bind fun t141 => (some t141)))) = some r := h
  clear h
  replace H := Option.bind_eq_some_iff.mp H
  obtain ⟨t140, A20, H⟩ := H
  replace H : (if t140 = true then ((spec_HalfValue.f k a0).bind fun t142 => ((impl_HalfFacts.f a0).bind fun bt143 => (if ((Go.FloatKind.format .f64).order t142 0 == some .lt) = true then (laws_FnHalfFacts.j0 k a0 t142 bt143.1 bt143.2.1 bt143.2.2.1 bt143.2.2.2.1 bt143.2.2.2.2 (-1)) else (laws_FnHalfFacts.j0 k a0 t142 bt143.1 bt143.2.1 bt143.2.2.1 bt143.2.2.2.1 bt143.2.2.2.2 0)))) else ((laws_halves.f).bind fun t141 => (some t141))) = some r := H
  have A2 := Aside0.mk A20
  clear A20
  by_cases c3 : t140 = true
  · subst c3
    have H1 : ((spec_HalfValue.f k a0).bind fun t142 => ((impl_HalfFacts.f a0).bind fun bt143 => (if ((Go.FloatKind.format .f64).order t142 0 == some .lt) = true then (laws_FnHalfFacts.j0 k a0 t142 bt143.1 bt143.2.1 bt143.2.2.1 bt143.2.2.2.1 bt143.2.2.2.2 (-1)) else (laws_FnHalfFacts.j0 k a0 t142 bt143.1 bt143.2.1 bt143.2.2.1 bt143.2.2.2.1 bt143.2.2.2.2 0)))) = some r := by rw [if_pos rfl] at H; exact H
    clear H
    have H := H1
    clear H1
    replace H := Option.bind_eq_some_iff.mp H
    obtain ⟨t142, A40, H⟩ := H
    replace H : ((impl_HalfFacts.f a0).bind fun bt143 => (if ((Go.FloatKind.format .f64).order t142 0 == some .lt) = true then (laws_FnHalfFacts.j0 k a0 t142 bt143.1 bt143.2.1 bt143.2.2.1 bt143.2.2.2.1 bt143.2.2.2.2 (-1)) else (laws_FnHalfFacts.j0 k a0 t142 bt143.1 bt143.2.1 bt143.2.2.1 bt143.2.2.2.1 bt143.2.2.2.2 0))) = some r := H
    have A4 := Aside0.mk A40
    clear A40
    replace H := Option.bind_eq_some_iff.mp H
    obtain ⟨⟨t143, t144, t145, t146, t147⟩, A50, H⟩ := H
    replace H : (if ((Go.FloatKind.format .f64).order t142 0 == some .lt) = true then (laws_FnHalfFacts.j0 k a0 t142 t143 t144 t145 t146 t147 (-1)) else (laws_FnHalfFacts.j0 k a0 t142 t143 t144 t145 t146 t147 0)) = some r := H
    have A5 := Aside0.mk A50
    clear A50
    have HC6 := Aside0.mk H
    clear H
    go_enter Try.func3, Try.ntmps3
    go_upto_if 25 with (first | ((with_reducible refine gate_callee (f := 5) rfl ?_); refine goesL_ (some 11) rfl rfl Try.func5 (by kernel_rfl) rfl #[.int .u16 a0] rfl (by (try simp only [List.map_toArray, List.map_cons, List.map_nil]); first | done | rfl | (simp only [List.length_drop, List.length_take]; rfl)) ?_; (with_reducible refine (laws_usualHalf.calls a0 true _ A2.out).mono ?_); rintro e w' ⟨rfl, ⟨nd, rfl⟩⟩; refine ⟨_, rfl, ?_⟩) | ((with_reducible refine gate_callee (f := 7) rfl ?_); refine goesL_ (some 15) rfl rfl Try.func7 (by kernel_rfl) rfl #[.int .u16 a0] rfl (by (try simp only [List.map_toArray, List.map_cons, List.map_nil]); first | done | rfl | (simp only [List.length_drop, List.length_take]; rfl)) ?_; (with_reducible refine (spec_HalfValue.calls k a0 t142 _ A4.out).mono ?_); rintro e w' ⟨rfl, ⟨nd, rfl⟩⟩; refine ⟨_, rfl, ?_⟩) | ((with_reducible refine gate_callee (f := 8) rfl ?_); refine goesL_ (some 18) rfl rfl Try.func8 (by kernel_rfl) rfl #[.int .u16 a0] rfl (by (try simp only [List.map_toArray, List.map_cons, List.map_nil]); first | done | rfl | (simp only [List.length_drop, List.length_take]; rfl)) ?_; (with_reducible refine (impl_HalfFacts.calls a0 t143 t144 t145 t146 t147 _ A5.out).mono ?_); rintro e w7 ⟨rfl, hb⟩; refine ⟨_, rfl, ?_⟩; have n0_ := Aside0.mk (below_step (by repeat (first | (with_reducible first | exact HB.out | apply below_alloc | apply pw_below_drewN | apply below_drew1) | exact HB.out)) hb); clear HB; have HB := n0_; clear n0_; (try clear hb); (try clear hb2); (try clear hk); (try clear hi)))
    (try simp only [Act.put, List.setIfInBounds_toArray, List.set_cons_zero, List.set_cons_succ])
    go_cut [9] (fun v9 wc => ∃ (kq : Nat) (x9_5 : Int), v9 = .int .i64 x9_5 ∧ Aside0 (laws_FnHalfFacts.j0 kq a0 t142 t143 t144 t145 t146 t147 x9_5 = some r) ∧ Aside0 (kq ≤ k) ∧ Aside0 (Below w.heap.size w wc))
    case first =>
      have H := HC6.out
      clear HC6
      by_cases c8 : ((Go.FloatKind.format .f64).order t142 0 == some .lt) = true
      · rw [if_pos c8] at H
        have c8b0 : ((Go.FloatKind.format .f64).order t142 0 == some .lt) = true := c8
        (try (have c8b1 : decide ((Go.FloatKind.format .f64).order t142 0 = some .lt) = true := by simpa using c8))
        (try (have c8b2 : ((Go.FloatKind.format .f64).order t142 0 == some .lt) = true := by simpa using c8))
        clear c8
        (first | rw [c8b0] | (simp only [i64_w, i32_w]; rw [c8b0]) | skip)
        have H' := Aside0.mk H
        clear H
        go_wp2
        go_meet
        case rel => exact ⟨_, ((-1)), (by first | rfl | (simp; done) | (simp [*]; done)), H', ⟨by first | omega | exact Nat.le_refl _⟩, ⟨by repeat (first | (with_reducible first | exact HB.out | apply below_alloc | apply pw_below_drewN | apply below_drew1) | exact HB.out)⟩⟩
      · rw [if_neg c8] at H
        have c8b0 : ((Go.FloatKind.format .f64).order t142 0 == some .lt) = false := by simpa using c8
        (try (have c8b1 : decide ((Go.FloatKind.format .f64).order t142 0 = some .lt) = false := by simpa using c8))
        (try (have c8b2 : ((Go.FloatKind.format .f64).order t142 0 == some .lt) = false := by simpa using c8))
        (try (have c8b3 : ¬ ((Go.FloatKind.format .f64).order t142 0 = some .lt) := by simpa using c8))
        clear c8
        (first | rw [c8b0] | (simp only [i64_w, i32_w]; rw [c8b0]) | skip)
        have H' := Aside0.mk H
        clear H
        go_wp2
        go_meet
        case rel => exact ⟨_, (0), (by first | rfl | (simp; done) | (simp [*]; done)), H', ⟨by first | omega | exact Nat.le_refl _⟩, ⟨by repeat (first | (with_reducible first | exact HB.out | apply below_alloc | apply pw_below_drewN | apply below_drew1) | exact HB.out)⟩⟩
    case rest =>
      clear HC6
      try clear p2
      try clear c3
      try clear c5
      try clear c7
      try clear c8
      try clear c8b0
      try clear c8b1
      try clear c8b2
      obtain ⟨kq, x9_5, rfl, HA, HJ5, HB⟩ := hcut
      cases kq with
      | zero => exact absurd HA.out (by simp [laws_FnHalfFacts.j0])
      | succ kj5 =>
        have H := HA.out
        clear HA
        simp only [laws_FnHalfFacts.j0] at H
        by_cases c9 : ((Go.FloatKind.format .f64).order t142 0 == some .gt) = true
        · rw [if_pos c9] at H
          have c9b0 : ((Go.FloatKind.format .f64).order t142 0 == some .gt) = true := c9
          (try (have c9b1 : decide ((Go.FloatKind.format .f64).order t142 0 = some .gt) = true := by simpa using c9))
          (try (have c9b2 : ((Go.FloatKind.format .f64).order t142 0 == some .gt) = true := by simpa using c9))
          clear c9
          replace H := Option.bind_eq_some_iff.mp H
          obtain ⟨t148, A100, H⟩ := H
          replace H : (if t148 = true then (if t143 = 1 then (if (t144 == ((a0 / 32768) == 1)) = true then (if (t145 == ((Go.FloatKind.format .f64).order t142 0 == some .eq)) = true then ((math_IsInf.f t142 0).bind fun t149 => (if (t146 == t149) = true then (some (!t147)) else (some false))) else (some false)) else (some false)) else (some false)) else (some false)) = some r := H
          have A10 := Aside0.mk A100
          clear A100
          by_cases c11 : t148 = true
          · subst c11
            have H1 : (if t143 = 1 then (if (t144 == ((a0 / 32768) == 1)) = true then (if (t145 == ((Go.FloatKind.format .f64).order t142 0 == some .eq)) = true then ((math_IsInf.f t142 0).bind fun t149 => (if (t146 == t149) = true then (some (!t147)) else (some false))) else (some false)) else (some false)) else (some false)) = some r := by rw [if_pos rfl] at H; exact H
            clear H
            have H := H1
            clear H1
            by_cases c12 : t143 = 1
            · rw [if_pos c12] at H
              have c12b0 : (t143 == 1) = true := beq_iff_eq.mpr c12
              have c12b1 : (t143 != 1) = false := bne_eq_false_iff_eq.mpr c12
              clear c12
              by_cases c13 : (t144 == ((a0 / 32768) == 1)) = true
              · rw [if_pos c13] at H
                have c13b0 : (t144 == ((a0 / 32768) == 1)) = true := c13
                (try (have c13b1 : decide (t144 = ((a0 / 32768) == 1)) = true := by simpa using c13))
                (try (have c13b2 : (t144 == ((a0 / 32768) == 1)) = true := by simpa using c13))
                clear c13
                by_cases c14 : (t145 == ((Go.FloatKind.format .f64).order t142 0 == some .eq)) = true
                · rw [if_pos c14] at H
                  have c14b0 : (t145 == ((Go.FloatKind.format .f64).order t142 0 == some .eq)) = true := c14
                  (try (have c14b1 : decide (t145 = ((Go.FloatKind.format .f64).order t142 0 == some .eq)) = true := by simpa using c14))
                  (try (have c14b2 : (t145 == ((Go.FloatKind.format .f64).order t142 0 == some .eq)) = true := by simpa using c14))
                  clear c14
                  replace H := Option.bind_eq_some_iff.mp H
                  obtain ⟨t149, A150, H⟩ := H
                  replace H : (if (t146 == t149) = true then (some (!t147)) else (some false)) = some r := H
                  have A15 := Aside0.mk A150
                  clear A150
                  by_cases c16 : (t146 == t149) = true
                  · rw [if_pos c16] at H
                    have c16b0 : (t146 == t149) = true := c16
                    (try (have c16b1 : decide (t146 = t149) = true := by simpa using c16))
                    (try (have c16b2 : (t146 == t149) = true := by simpa using c16))
                    clear c16
                    obtain rfl := Option.some.inj H
                    go_wp2_with (first | ((with_reducible refine gate_callee (f := 6) rfl ?_); refine goesL_ (some 28) rfl rfl Try.func6 (by kernel_rfl) rfl #[] rfl (by (try simp only [List.map_toArray, List.map_cons, List.map_nil]); first | done | rfl | (simp only [List.length_drop, List.length_take]; rfl)) ?_; (with_reducible refine (laws_halves.calls  true _ A10.out).mono ?_); rintro e w17 ⟨rfl, hb⟩; refine ⟨_, rfl, ?_⟩; have n0_ := Aside0.mk (below_step (by repeat (first | (with_reducible first | exact HB.out | apply below_alloc | apply pw_below_drewN | apply below_drew1) | exact HB.out)) hb); clear HB; have HB := n0_; clear n0_; (try clear hb); (try clear hb2); (try clear hk); (try clear hi)) | (go_at_call 9; (with_reducible refine (math_IsInf.calls t142 0 t149 _ A15.out).mono ?_); rintro e w' ⟨rfl, ⟨nd, rfl⟩⟩))
                    go_ret
                    exact ⟨by first | rfl | (simp [errW_none, errW_some] <;> rfl) | (simp [*, errW_none, errW_some] <;> rfl), by repeat (first | (with_reducible first | exact HB.out | apply below_alloc | apply pw_below_drewN | apply below_drew1) | exact HB.out)⟩
                  · rw [if_neg c16] at H
                    have c16b0 : (t146 == t149) = false := by simpa using c16
                    (try (have c16b1 : decide (t146 = t149) = false := by simpa using c16))
                    (try (have c16b2 : (t146 == t149) = false := by simpa using c16))
                    (try (have c16b3 : ¬ (t146 = t149) := by simpa using c16))
                    clear c16
                    obtain rfl := Option.some.inj H
                    go_wp2_with (first | ((with_reducible refine gate_callee (f := 6) rfl ?_); refine goesL_ (some 28) rfl rfl Try.func6 (by kernel_rfl) rfl #[] rfl (by (try simp only [List.map_toArray, List.map_cons, List.map_nil]); first | done | rfl | (simp only [List.length_drop, List.length_take]; rfl)) ?_; (with_reducible refine (laws_halves.calls  true _ A10.out).mono ?_); rintro e w18 ⟨rfl, hb⟩; refine ⟨_, rfl, ?_⟩; have n0_ := Aside0.mk (below_step (by repeat (first | (with_reducible first | exact HB.out | apply below_alloc | apply pw_below_drewN | apply below_drew1) | exact HB.out)) hb); clear HB; have HB := n0_; clear n0_; (try clear hb); (try clear hb2); (try clear hk); (try clear hi)) | (go_at_call 9; (with_reducible refine (math_IsInf.calls t142 0 t149 _ A15.out).mono ?_); rintro e w' ⟨rfl, ⟨nd, rfl⟩⟩))
                    go_ret
                    exact ⟨by first | rfl | (simp [errW_none, errW_some] <;> rfl) | (simp [*, errW_none, errW_some] <;> rfl), by repeat (first | (with_reducible first | exact HB.out | apply below_alloc | apply pw_below_drewN | apply below_drew1) | exact HB.out)⟩
                · rw [if_neg c14] at H
                  have c14b0 : (t145 == ((Go.FloatKind.format .f64).order t142 0 == some .eq)) = false := by simpa using c14
                  (try (have c14b1 : decide (t145 = ((Go.FloatKind.format .f64).order t142 0 == some .eq)) = false := by simpa using c14))
                  (try (have c14b2 : (t145 == ((Go.FloatKind.format .f64).order t142 0 == some .eq)) = false := by simpa using c14))
                  (try (have c14b3 : ¬ (t145 = ((Go.FloatKind.format .f64).order t142 0 == some .eq)) := by simpa using c14))
                  clear c14
                  obtain rfl := Option.some.inj H
                  go_wp2_with (first | ((with_reducible refine gate_callee (f := 6) rfl ?_); refine goesL_ (some 28) rfl rfl Try.func6 (by kernel_rfl) rfl #[] rfl (by (try simp only [List.map_toArray, List.map_cons, List.map_nil]); first | done | rfl | (simp only [List.length_drop, List.length_take]; rfl)) ?_; (with_reducible refine (laws_halves.calls  true _ A10.out).mono ?_); rintro e w19 ⟨rfl, hb⟩; refine ⟨_, rfl, ?_⟩; have n0_ := Aside0.mk (below_step (by repeat (first | (with_reducible first | exact HB.out | apply below_alloc | apply pw_below_drewN | apply below_drew1) | exact HB.out)) hb); clear HB; have HB := n0_; clear n0_; (try clear hb); (try clear hb2); (try clear hk); (try clear hi)))
                  go_ret
                  exact ⟨by first | rfl | (simp [errW_none, errW_some] <;> rfl) | (simp [*, errW_none, errW_some] <;> rfl), by repeat (first | (with_reducible first | exact HB.out | apply below_alloc | apply pw_below_drewN | apply below_drew1) | exact HB.out)⟩
              · rw [if_neg c13] at H
                have c13b0 : (t144 == ((a0 / 32768) == 1)) = false := by simpa using c13
                (try (have c13b1 : decide (t144 = ((a0 / 32768) == 1)) = false := by simpa using c13))
                (try (have c13b2 : (t144 == ((a0 / 32768) == 1)) = false := by simpa using c13))
                (try (have c13b3 : ¬ (t144 = ((a0 / 32768) == 1)) := by simpa using c13))
                clear c13
                obtain rfl := Option.some.inj H
                go_wp2_with (first | ((with_reducible refine gate_callee (f := 6) rfl ?_); refine goesL_ (some 28) rfl rfl Try.func6 (by kernel_rfl) rfl #[] rfl (by (try simp only [List.map_toArray, List.map_cons, List.map_nil]); first | done | rfl | (simp only [List.length_drop, List.length_take]; rfl)) ?_; (with_reducible refine (laws_halves.calls  true _ A10.out).mono ?_); rintro e w20 ⟨rfl, hb⟩; refine ⟨_, rfl, ?_⟩; have n0_ := Aside0.mk (below_step (by repeat (first | (with_reducible first | exact HB.out | apply below_alloc | apply pw_below_drewN | apply below_drew1) | exact HB.out)) hb); clear HB; have HB := n0_; clear n0_; (try clear hb); (try clear hb2); (try clear hk); (try clear hi)))
                go_ret
                exact ⟨by first | rfl | (simp [errW_none, errW_some] <;> rfl) | (simp [*, errW_none, errW_some] <;> rfl), by repeat (first | (with_reducible first | exact HB.out | apply below_alloc | apply pw_below_drewN | apply below_drew1) | exact HB.out)⟩
            · rw [if_neg c12] at H
              have c12b0 : (t143 == 1) = false := beq_eq_false_iff_ne.mpr c12
              have c12b1 : (t143 != 1) = true := bne_iff_ne.mpr c12
              obtain rfl := Option.some.inj H
              go_wp2_with (first | ((with_reducible refine gate_callee (f := 6) rfl ?_); refine goesL_ (some 28) rfl rfl Try.func6 (by kernel_rfl) rfl #[] rfl (by (try simp only [List.map_toArray, List.map_cons, List.map_nil]); first | done | rfl | (simp only [List.length_drop, List.length_take]; rfl)) ?_; (with_reducible refine (laws_halves.calls  true _ A10.out).mono ?_); rintro e w21 ⟨rfl, hb⟩; refine ⟨_, rfl, ?_⟩; have n0_ := Aside0.mk (below_step (by repeat (first | (with_reducible first | exact HB.out | apply below_alloc | apply pw_below_drewN | apply below_drew1) | exact HB.out)) hb); clear HB; have HB := n0_; clear n0_; (try clear hb); (try clear hb2); (try clear hk); (try clear hi)))
              go_ret
              exact ⟨by first | rfl | (simp [errW_none, errW_some] <;> rfl) | (simp [*, errW_none, errW_some] <;> rfl), by repeat (first | (with_reducible first | exact HB.out | apply below_alloc | apply pw_below_drewN | apply below_drew1) | exact HB.out)⟩
          · replace c11 := Bool.eq_false_iff.mpr c11
            subst c11
            have H1 : (some false) = some r := by rw [if_neg (show ¬ (false = true) by decide)] at H; exact H
            clear H
            have H := H1
            clear H1
            obtain rfl := Option.some.inj H
            go_wp2_with (first | ((with_reducible refine gate_callee (f := 6) rfl ?_); refine goesL_ (some 28) rfl rfl Try.func6 (by kernel_rfl) rfl #[] rfl (by (try simp only [List.map_toArray, List.map_cons, List.map_nil]); first | done | rfl | (simp only [List.length_drop, List.length_take]; rfl)) ?_; (with_reducible refine (laws_halves.calls  false _ A10.out).mono ?_); rintro e w22 ⟨rfl, hb⟩; refine ⟨_, rfl, ?_⟩; have n0_ := Aside0.mk (below_step (by repeat (first | (with_reducible first | exact HB.out | apply below_alloc | apply pw_below_drewN | apply below_drew1) | exact HB.out)) hb); clear HB; have HB := n0_; clear n0_; (try clear hb); (try clear hb2); (try clear hk); (try clear hi)))
            go_ret
            exact ⟨by first | rfl | (simp [errW_none, errW_some] <;> rfl) | (simp [*, errW_none, errW_some] <;> rfl), by repeat (first | (with_reducible first | exact HB.out | apply below_alloc | apply pw_below_drewN | apply below_drew1) | exact HB.out)⟩
        · rw [if_neg c9] at H
          have c9b0 : ((Go.FloatKind.format .f64).order t142 0 == some .gt) = false := by simpa using c9
          (try (have c9b1 : decide ((Go.FloatKind.format .f64).order t142 0 = some .gt) = false := by simpa using c9))
          (try (have c9b2 : ((Go.FloatKind.format .f64).order t142 0 == some .gt) = false := by simpa using c9))
          (try (have c9b3 : ¬ ((Go.FloatKind.format .f64).order t142 0 = some .gt) := by simpa using c9))
          clear c9
          replace H := Option.bind_eq_some_iff.mp H
          obtain ⟨t150, A230, H⟩ := H
          replace H : (if t150 = true then (if t143 = x9_5 then (if (t144 == ((a0 / 32768) == 1)) = true then (if (t145 == ((Go.FloatKind.format .f64).order t142 0 == some .eq)) = true then ((math_IsInf.f t142 0).bind fun t151 => (if (t146 == t151) = true then (some (!t147)) else (some false))) else (some false)) else (some false)) else (some false)) else (some false)) = some r := H
          have A23 := Aside0.mk A230
          clear A230
          by_cases c24 : t150 = true
          · subst c24
            have H1 : (if t143 = x9_5 then (if (t144 == ((a0 / 32768) == 1)) = true then (if (t145 == ((Go.FloatKind.format .f64).order t142 0 == some .eq)) = true then ((math_IsInf.f t142 0).bind fun t151 => (if (t146 == t151) = true then (some (!t147)) else (some false))) else (some false)) else (some false)) else (some false)) = some r := by rw [if_pos rfl] at H; exact H
            clear H
            have H := H1
            clear H1
            by_cases c25 : t143 = x9_5
            · rw [if_pos c25] at H
              have c25b0 : (t143 == x9_5) = true := beq_iff_eq.mpr c25
              have c25b1 : (t143 != x9_5) = false := bne_eq_false_iff_eq.mpr c25
              clear c25
              by_cases c26 : (t144 == ((a0 / 32768) == 1)) = true
              · rw [if_pos c26] at H
                have c26b0 : (t144 == ((a0 / 32768) == 1)) = true := c26
                (try (have c26b1 : decide (t144 = ((a0 / 32768) == 1)) = true := by simpa using c26))
                (try (have c26b2 : (t144 == ((a0 / 32768) == 1)) = true := by simpa using c26))
                clear c26
                by_cases c27 : (t145 == ((Go.FloatKind.format .f64).order t142 0 == some .eq)) = true
                · rw [if_pos c27] at H
                  have c27b0 : (t145 == ((Go.FloatKind.format .f64).order t142 0 == some .eq)) = true := c27
                  (try (have c27b1 : decide (t145 = ((Go.FloatKind.format .f64).order t142 0 == some .eq)) = true := by simpa using c27))
                  (try (have c27b2 : (t145 == ((Go.FloatKind.format .f64).order t142 0 == some .eq)) = true := by simpa using c27))
                  clear c27
                  replace H := Option.bind_eq_some_iff.mp H
                  obtain ⟨t151, A280, H⟩ := H
                  replace H : (if (t146 == t151) = true then (some (!t147)) else (some false)) = some r := H
                  have A28 := Aside0.mk A280
                  clear A280
                  by_cases c29 : (t146 == t151) = true
                  · rw [if_pos c29] at H
                    have c29b0 : (t146 == t151) = true := c29
                    (try (have c29b1 : decide (t146 = t151) = true := by simpa using c29))
                    (try (have c29b2 : (t146 == t151) = true := by simpa using c29))
                    clear c29
                    obtain rfl := Option.some.inj H
                    go_wp2_with (first | ((with_reducible refine gate_callee (f := 6) rfl ?_); refine goesL_ (some 28) rfl rfl Try.func6 (by kernel_rfl) rfl #[] rfl (by (try simp only [List.map_toArray, List.map_cons, List.map_nil]); first | done | rfl | (simp only [List.length_drop, List.length_take]; rfl)) ?_; (with_reducible refine (laws_halves.calls  true _ A23.out).mono ?_); rintro e w30 ⟨rfl, hb⟩; refine ⟨_, rfl, ?_⟩; have n0_ := Aside0.mk (below_step (by repeat (first | (with_reducible first | exact HB.out | apply below_alloc | apply pw_below_drewN | apply below_drew1) | exact HB.out)) hb); clear HB; have HB := n0_; clear n0_; (try clear hb); (try clear hb2); (try clear hk); (try clear hi)) | (go_at_call 9; (with_reducible refine (math_IsInf.calls t142 0 t151 _ A28.out).mono ?_); rintro e w' ⟨rfl, ⟨nd, rfl⟩⟩))
                    go_ret
                    exact ⟨by first | rfl | (simp [errW_none, errW_some] <;> rfl) | (simp [*, errW_none, errW_some] <;> rfl), by repeat (first | (with_reducible first | exact HB.out | apply below_alloc | apply pw_below_drewN | apply below_drew1) | exact HB.out)⟩
                  · rw [if_neg c29] at H
                    have c29b0 : (t146 == t151) = false := by simpa using c29
                    (try (have c29b1 : decide (t146 = t151) = false := by simpa using c29))
                    (try (have c29b2 : (t146 == t151) = false := by simpa using c29))
                    (try (have c29b3 : ¬ (t146 = t151) := by simpa using c29))
                    clear c29
                    obtain rfl := Option.some.inj H
                    go_wp2_with (first | ((with_reducible refine gate_callee (f := 6) rfl ?_); refine goesL_ (some 28) rfl rfl Try.func6 (by kernel_rfl) rfl #[] rfl (by (try simp only [List.map_toArray, List.map_cons, List.map_nil]); first | done | rfl | (simp only [List.length_drop, List.length_take]; rfl)) ?_; (with_reducible refine (laws_halves.calls  true _ A23.out).mono ?_); rintro e w31 ⟨rfl, hb⟩; refine ⟨_, rfl, ?_⟩; have n0_ := Aside0.mk (below_step (by repeat (first | (with_reducible first | exact HB.out | apply below_alloc | apply pw_below_drewN | apply below_drew1) | exact HB.out)) hb); clear HB; have HB := n0_; clear n0_; (try clear hb); (try clear hb2); (try clear hk); (try clear hi)) | (go_at_call 9; (with_reducible refine (math_IsInf.calls t142 0 t151 _ A28.out).mono ?_); rintro e w' ⟨rfl, ⟨nd, rfl⟩⟩))
                    go_ret
                    exact ⟨by first | rfl | (simp [errW_none, errW_some] <;> rfl) | (simp [*, errW_none, errW_some] <;> rfl), by repeat (first | (with_reducible first | exact HB.out | apply below_alloc | apply pw_below_drewN | apply below_drew1) | exact HB.out)⟩
                · rw [if_neg c27] at H
                  have c27b0 : (t145 == ((Go.FloatKind.format .f64).order t142 0 == some .eq)) = false := by simpa using c27
                  (try (have c27b1 : decide (t145 = ((Go.FloatKind.format .f64).order t142 0 == some .eq)) = false := by simpa using c27))
                  (try (have c27b2 : (t145 == ((Go.FloatKind.format .f64).order t142 0 == some .eq)) = false := by simpa using c27))
                  (try (have c27b3 : ¬ (t145 = ((Go.FloatKind.format .f64).order t142 0 == some .eq)) := by simpa using c27))
                  clear c27
                  obtain rfl := Option.some.inj H
                  go_wp2_with (first | ((with_reducible refine gate_callee (f := 6) rfl ?_); refine goesL_ (some 28) rfl rfl Try.func6 (by kernel_rfl) rfl #[] rfl (by (try simp only [List.map_toArray, List.map_cons, List.map_nil]); first | done | rfl | (simp only [List.length_drop, List.length_take]; rfl)) ?_; (with_reducible refine (laws_halves.calls  true _ A23.out).mono ?_); rintro e w32 ⟨rfl, hb⟩; refine ⟨_, rfl, ?_⟩; have n0_ := Aside0.mk (below_step (by repeat (first | (with_reducible first | exact HB.out | apply below_alloc | apply pw_below_drewN | apply below_drew1) | exact HB.out)) hb); clear HB; have HB := n0_; clear n0_; (try clear hb); (try clear hb2); (try clear hk); (try clear hi)))
                  go_ret
                  exact ⟨by first | rfl | (simp [errW_none, errW_some] <;> rfl) | (simp [*, errW_none, errW_some] <;> rfl), by repeat (first | (with_reducible first | exact HB.out | apply below_alloc | apply pw_below_drewN | apply below_drew1) | exact HB.out)⟩
              · rw [if_neg c26] at H
                have c26b0 : (t144 == ((a0 / 32768) == 1)) = false := by simpa using c26
                (try (have c26b1 : decide (t144 = ((a0 / 32768) == 1)) = false := by simpa using c26))
                (try (have c26b2 : (t144 == ((a0 / 32768) == 1)) = false := by simpa using c26))
                (try (have c26b3 : ¬ (t144 = ((a0 / 32768) == 1)) := by simpa using c26))
                clear c26
                obtain rfl := Option.some.inj H
                go_wp2_with (first | ((with_reducible refine gate_callee (f := 6) rfl ?_); refine goesL_ (some 28) rfl rfl Try.func6 (by kernel_rfl) rfl #[] rfl (by (try simp only [List.map_toArray, List.map_cons, List.map_nil]); first | done | rfl | (simp only [List.length_drop, List.length_take]; rfl)) ?_; (with_reducible refine (laws_halves.calls  true _ A23.out).mono ?_); rintro e w33 ⟨rfl, hb⟩; refine ⟨_, rfl, ?_⟩; have n0_ := Aside0.mk (below_step (by repeat (first | (with_reducible first | exact HB.out | apply below_alloc | apply pw_below_drewN | apply below_drew1) | exact HB.out)) hb); clear HB; have HB := n0_; clear n0_; (try clear hb); (try clear hb2); (try clear hk); (try clear hi)))
                go_ret
                exact ⟨by first | rfl | (simp [errW_none, errW_some] <;> rfl) | (simp [*, errW_none, errW_some] <;> rfl), by repeat (first | (with_reducible first | exact HB.out | apply below_alloc | apply pw_below_drewN | apply below_drew1) | exact HB.out)⟩
            · rw [if_neg c25] at H
              have c25b0 : (t143 == x9_5) = false := beq_eq_false_iff_ne.mpr c25
              have c25b1 : (t143 != x9_5) = true := bne_iff_ne.mpr c25
              obtain rfl := Option.some.inj H
              go_wp2_with (first | ((with_reducible refine gate_callee (f := 6) rfl ?_); refine goesL_ (some 28) rfl rfl Try.func6 (by kernel_rfl) rfl #[] rfl (by (try simp only [List.map_toArray, List.map_cons, List.map_nil]); first | done | rfl | (simp only [List.length_drop, List.length_take]; rfl)) ?_; (with_reducible refine (laws_halves.calls  true _ A23.out).mono ?_); rintro e w34 ⟨rfl, hb⟩; refine ⟨_, rfl, ?_⟩; have n0_ := Aside0.mk (below_step (by repeat (first | (with_reducible first | exact HB.out | apply below_alloc | apply pw_below_drewN | apply below_drew1) | exact HB.out)) hb); clear HB; have HB := n0_; clear n0_; (try clear hb); (try clear hb2); (try clear hk); (try clear hi)))
              go_ret
              exact ⟨by first | rfl | (simp [errW_none, errW_some] <;> rfl) | (simp [*, errW_none, errW_some] <;> rfl), by repeat (first | (with_reducible first | exact HB.out | apply below_alloc | apply pw_below_drewN | apply below_drew1) | exact HB.out)⟩
          · replace c24 := Bool.eq_false_iff.mpr c24
            subst c24
            have H1 : (some false) = some r := by rw [if_neg (show ¬ (false = true) by decide)] at H; exact H
            clear H
            have H := H1
            clear H1
            obtain rfl := Option.some.inj H
            go_wp2_with (first | ((with_reducible refine gate_callee (f := 6) rfl ?_); refine goesL_ (some 28) rfl rfl Try.func6 (by kernel_rfl) rfl #[] rfl (by (try simp only [List.map_toArray, List.map_cons, List.map_nil]); first | done | rfl | (simp only [List.length_drop, List.length_take]; rfl)) ?_; (with_reducible refine (laws_halves.calls  false _ A23.out).mono ?_); rintro e w35 ⟨rfl, hb⟩; refine ⟨_, rfl, ?_⟩; have n0_ := Aside0.mk (below_step (by repeat (first | (with_reducible first | exact HB.out | apply below_alloc | apply pw_below_drewN | apply below_drew1) | exact HB.out)) hb); clear HB; have HB := n0_; clear n0_; (try clear hb); (try clear hb2); (try clear hk); (try clear hi)))
            go_ret
            exact ⟨by first | rfl | (simp [errW_none, errW_some] <;> rfl) | (simp [*, errW_none, errW_some] <;> rfl), by repeat (first | (with_reducible first | exact HB.out | apply below_alloc | apply pw_below_drewN | apply below_drew1) | exact HB.out)⟩
  · replace c3 := Bool.eq_false_iff.mpr c3
    subst c3
    have H1 : ((laws_halves.f).bind fun t141 => (some t141)) = some r := by rw [if_neg (show ¬ (false = true) by decide)] at H; exact H
    clear H
    have H := H1
    clear H1
    replace H := Option.bind_eq_some_iff.mp H
    obtain ⟨t141, A360, H⟩ := H
    replace H : (some t141) = some r := H
    have A36 := Aside0.mk A360
    clear A360
    obtain rfl := Option.some.inj H
    go_enter Try.func3, Try.ntmps3
    go_wp2_with (first | ((with_reducible refine gate_callee (f := 5) rfl ?_); refine goesL_ (some 11) rfl rfl Try.func5 (by kernel_rfl) rfl #[.int .u16 a0] rfl (by (try simp only [List.map_toArray, List.map_cons, List.map_nil]); first | done | rfl | (simp only [List.length_drop, List.length_take]; rfl)) ?_; (with_reducible refine (laws_usualHalf.calls a0 false _ A2.out).mono ?_); rintro e w' ⟨rfl, ⟨nd, rfl⟩⟩; refine ⟨_, rfl, ?_⟩) | ((with_reducible refine gate_callee (f := 6) rfl ?_); refine goesL_ (some 13) rfl rfl Try.func6 (by kernel_rfl) rfl #[] rfl (by (try simp only [List.map_toArray, List.map_cons, List.map_nil]); first | done | rfl | (simp only [List.length_drop, List.length_take]; rfl)) ?_; (with_reducible refine (laws_halves.calls  t141 _ A36.out).mono ?_); rintro e w37 ⟨rfl, hb⟩; refine ⟨_, rfl, ?_⟩; have n0_ := Aside0.mk (below_step (by repeat (first | (with_reducible first | exact HB.out | apply below_alloc | apply pw_below_drewN | apply below_drew1) | exact HB.out)) hb); clear HB; have HB := n0_; clear n0_; (try clear hb); (try clear hb2); (try clear hk); (try clear hi)))
    go_ret
    exact ⟨by first | rfl | (simp [errW_none, errW_some] <;> rfl) | (simp [*, errW_none, errW_some] <;> rfl), by repeat (first | (with_reducible first | exact HB.out | apply below_alloc | apply pw_below_drewN | apply below_drew1) | exact HB.out)⟩

/-- THE ONE PURE STATEMENT of laws_FnHalfFacts: yours. -/
def laws_FnHalfFacts.Pure : Prop := ∀ (a0 : Int), (Lit.int .u16 a0).wf = true → ∃ k, laws_FnHalfFacts.f k a0 = some true
theorem laws_FnHalfFacts.walk (P : laws_FnHalfFacts.Pure) (a0 : Int) (w : World) (w0 : (Lit.int .u16 a0).wf = true) :
    Calls Try.prog 3 #[.int .u16 a0] w fun e w' => e = .returned (.bool true) ∧ Below w.heap.size w w' := by
  obtain ⟨k, h⟩ := P a0 w0
  refine (laws_FnHalfFacts.calls k a0 true w h).mono ?_
  rintro e w' ⟨rfl, hd⟩
  exact ⟨rfl, hd⟩

end Go.Proofs.Ytahbgcjcfbjbmaa.QHalfFacts
