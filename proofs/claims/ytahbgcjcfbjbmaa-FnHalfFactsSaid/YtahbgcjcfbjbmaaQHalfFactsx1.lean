/- Written by a program of mine over the kit's print program, turned at a few places (variables of one cell in memory; deferred closures): each Go function as a Lean function, with the proof of its call. -/
import Derived.Test.YtahbgcjcfbjbmaaQHalfFactsx0
import Derived.Test.YtahbgcjcfbjbmaaHalfWords
namespace Go.Proofs.Ytahbgcjcfbjbmaa.QHalfFacts
open Go.RowKit Go.Proofs.YtahbgcjcfbjbmaaW.PrintWords Go.Proofs.YtahbgcjcfbjbmaaW.PrintLast Go.Proofs.YtahbgcjcfbjbmaaW.PrintMore
attribute [local go_sem] HalfWords.run_b64 HalfWords.run_f64 HalfWords.run_b32 HalfWords.run_f32 HalfWords.run_arith HalfWords.run_f2i HalfWords.run_f2f max2_int min2_int max_two min_two max_three min_three max_four min_four   -- for this text's walks alone
set_option linter.unusedVariables false
set_option linter.unusedSimpArgs false

/-! ### spec_HalfNaN: function 13 -/
def spec_HalfNaN.f (a0 : Int) : Option (Bool) := if (Go.bits .and .u16 (a0 / 1024) 31) = 31 then (some ((Go.bits .and .u16 a0 1023) != 0)) else (some false)
set_option maxHeartbeats 8000000 in
set_option maxRecDepth 100000 in
theorem spec_HalfNaN.calls (a0 : Int) (r : Bool) (w : World) (h : spec_HalfNaN.f a0 = some r) :
    Calls Try.prog 13 #[.int .u16 a0] w fun e w' => e = .returned (.bool r) ∧ Drawn0 w w' := by
  have H : (if (Go.bits .and .u16 (a0 / 1024) 31) = 31 then (some ((Go.bits .and .u16 a0 1023) != 0)) else (some false)) = some r := h
  clear h
  by_cases c2 : (Go.bits .and .u16 (a0 / 1024) 31) = 31
  · rw [if_pos c2] at H
    have c2b0 : ((Go.bits .and .u16 (a0 / 1024) 31) == 31) = true := beq_iff_eq.mpr c2
    have c2b1 : ((Go.bits .and .u16 (a0 / 1024) 31) != 31) = false := bne_eq_false_iff_eq.mpr c2
    clear c2
    obtain rfl := Option.some.inj H
    go_enter Try.func13, Try.ntmps13
    go_wp2
    go_ret
    exact ⟨by first | rfl | (simp; done) | (simp [*]; done), by repeat (first | exact Drawn0.refl _ | apply Drawn0.step)⟩
  · rw [if_neg c2] at H
    have c2b0 : ((Go.bits .and .u16 (a0 / 1024) 31) == 31) = false := beq_eq_false_iff_ne.mpr c2
    have c2b1 : ((Go.bits .and .u16 (a0 / 1024) 31) != 31) = true := bne_iff_ne.mpr c2
    obtain rfl := Option.some.inj H
    go_enter Try.func13, Try.ntmps13
    go_wp2
    go_ret
    exact ⟨by first | rfl | (simp; done) | (simp [*]; done), by repeat (first | exact Drawn0.refl _ | apply Drawn0.step)⟩

/-! ### laws_usualHalf: function 5 -/
def laws_usualHalf.f (a0 : Int) : Option (Bool) := (spec_HalfNaN.f a0).bind fun t101 => (if t101 = true then (some false) else (if (Go.bits .and .u16 (a0 / 1024) 31) = 0 then (some ((Go.bits .and .u16 a0 1023) == 0)) else (some true)))
set_option maxHeartbeats 8000000 in
set_option maxRecDepth 100000 in
theorem laws_usualHalf.calls (a0 : Int) (r : Bool) (w : World) (h : laws_usualHalf.f a0 = some r) :
    Calls Try.prog 5 #[.int .u16 a0] w fun e w' => e = .returned (.bool r) ∧ Drawn0 w w' := by
  have H : ((spec_HalfNaN.f a0).bind fun t101 => (if t101 = true then (some false) else (if (Go.bits .and .u16 (a0 / 1024) 31) = 0 then (some ((Go.bits .and .u16 a0 1023) == 0)) else (some true)))) = some r := h
  clear h
  replace H := Option.bind_eq_some_iff.mp H
  obtain ⟨t101, A20, H⟩ := H
  replace H : (if t101 = true then (some false) else (if (Go.bits .and .u16 (a0 / 1024) 31) = 0 then (some ((Go.bits .and .u16 a0 1023) == 0)) else (some true))) = some r := H
  have A2 := Aside0.mk A20
  clear A20
  by_cases c3 : t101 = true
  · subst c3
    have H1 : (some false) = some r := by rw [if_pos rfl] at H; exact H
    clear H
    have H := H1
    clear H1
    obtain rfl := Option.some.inj H
    go_enter Try.func5, Try.ntmps5
    go_wp2_with (first | ((with_reducible refine gate_callee (f := 13) rfl ?_); refine goesL_ (some 4) rfl rfl Try.func13 (by kernel_rfl) rfl #[.int .u16 a0] rfl (by (try simp only [List.map_toArray, List.map_cons, List.map_nil]); first | done | rfl | (simp only [List.length_drop, List.length_take]; rfl)) ?_; (with_reducible refine (spec_HalfNaN.calls a0 true _ A2.out).mono ?_); rintro e w' ⟨rfl, ⟨nd, rfl⟩⟩; refine ⟨_, rfl, ?_⟩))
    go_ret
    exact ⟨by first | rfl | (simp; done) | (simp [*]; done), by repeat (first | exact Drawn0.refl _ | apply Drawn0.step)⟩
  · replace c3 := Bool.eq_false_iff.mpr c3
    subst c3
    have H1 : (if (Go.bits .and .u16 (a0 / 1024) 31) = 0 then (some ((Go.bits .and .u16 a0 1023) == 0)) else (some true)) = some r := by rw [if_neg (show ¬ (false = true) by decide)] at H; exact H
    clear H
    have H := H1
    clear H1
    by_cases c4 : (Go.bits .and .u16 (a0 / 1024) 31) = 0
    · rw [if_pos c4] at H
      have c4b0 : ((Go.bits .and .u16 (a0 / 1024) 31) == 0) = true := beq_iff_eq.mpr c4
      have c4b1 : ((Go.bits .and .u16 (a0 / 1024) 31) != 0) = false := bne_eq_false_iff_eq.mpr c4
      clear c4
      obtain rfl := Option.some.inj H
      go_enter Try.func5, Try.ntmps5
      go_wp2_with (first | ((with_reducible refine gate_callee (f := 13) rfl ?_); refine goesL_ (some 4) rfl rfl Try.func13 (by kernel_rfl) rfl #[.int .u16 a0] rfl (by (try simp only [List.map_toArray, List.map_cons, List.map_nil]); first | done | rfl | (simp only [List.length_drop, List.length_take]; rfl)) ?_; (with_reducible refine (spec_HalfNaN.calls a0 false _ A2.out).mono ?_); rintro e w' ⟨rfl, ⟨nd, rfl⟩⟩; refine ⟨_, rfl, ?_⟩))
      go_ret
      exact ⟨by first | rfl | (simp; done) | (simp [*]; done), by repeat (first | exact Drawn0.refl _ | apply Drawn0.step)⟩
    · rw [if_neg c4] at H
      have c4b0 : ((Go.bits .and .u16 (a0 / 1024) 31) == 0) = false := beq_eq_false_iff_ne.mpr c4
      have c4b1 : ((Go.bits .and .u16 (a0 / 1024) 31) != 0) = true := bne_iff_ne.mpr c4
      obtain rfl := Option.some.inj H
      go_enter Try.func5, Try.ntmps5
      go_wp2_with (first | ((with_reducible refine gate_callee (f := 13) rfl ?_); refine goesL_ (some 4) rfl rfl Try.func13 (by kernel_rfl) rfl #[.int .u16 a0] rfl (by (try simp only [List.map_toArray, List.map_cons, List.map_nil]); first | done | rfl | (simp only [List.length_drop, List.length_take]; rfl)) ?_; (with_reducible refine (spec_HalfNaN.calls a0 false _ A2.out).mono ?_); rintro e w' ⟨rfl, ⟨nd, rfl⟩⟩; refine ⟨_, rfl, ?_⟩))
      go_ret
      exact ⟨by first | rfl | (simp; done) | (simp [*]; done), by repeat (first | exact Drawn0.refl _ | apply Drawn0.step)⟩

/-! ### float16_Num_Uint16: function 27 -/
def float16_Num_Uint16.f (a0_0 : Int) : Option (Int) := some a0_0
set_option maxHeartbeats 8000000 in
set_option maxRecDepth 100000 in
theorem float16_Num_Uint16.calls (a0_0 : Int) (r : Int) (w : World) (h : float16_Num_Uint16.f a0_0 = some r) :
    Calls Try.prog 27 #[.agg #[.int .u16 a0_0]] w fun e w' => e = .returned (.int .u16 r) ∧ Below w.heap.size w w' := by
  have hu44 := Try.underlying44
  have HB := Aside0.mk (Below.refl w.heap.size w)
  have H : (some a0_0) = some r := h
  clear h
  obtain rfl := Option.some.inj H
  go_enter Try.func27, Try.ntmps27
  go_wp2_with (first | ((with_reducible refine gate_dst (N := 1) rfl ?_); refine box_event ?hg (N := 1) ?hd (cs := #[.int .u16 a0_0]) (t := 44) ?hr ?_; (case hd => rfl); (case hg => rfl); (case hr => first | (go_simp; done) | (go_simp; rfl)); intro gb102 hg w2 hbox hb; have n0_ := Aside0.mk (below_step (by repeat (first | (with_reducible first | exact HB.out | apply below_alloc | apply pw_below_drewN | apply below_drew1) | exact HB.out)) hb); have n1_ := Aside0.mk (hbox); have n2_ := Aside0.mk ((by rw [hg]; exact (below_size (by repeat (first | (with_reducible first | exact HB.out | apply below_alloc | apply pw_below_drewN | apply below_drew1) | exact HB.out))) : w.heap.size ≤ gb102)); have n3_ := Aside0.mk ((by rw [hg]; exact (below_size (by repeat (first | (with_reducible first | exact HB.out | apply below_alloc | apply pw_below_drewN | apply below_drew1) | exact HB.out))) : w.heap.size ≤ gb102)); clear HB; have HB := n0_; have BK102 := n1_; have GW102 := n2_; have GE102 := n3_; clear n0_ n1_ n2_ n3_; clear hb hbox hg; have hcz3_0 : w2.cell? ⟨gb102, 0, none⟩ = some (.int .u16 a0_0) := (blk_cell BK102.out 0).trans rfl; have hfz3_0 := blk_frozen BK102.out 0))
  go_ret
  exact ⟨by first | rfl | (simp [errW_none, errW_some] <;> rfl) | (simp [*, errW_none, errW_some] <;> rfl), by repeat (first | (with_reducible first | exact HB.out | apply below_alloc | apply pw_below_drewN | apply below_drew1 | refine below_set ?_ GE102.out) | exact HB.out)⟩

-- NOT PRINTED: function 45 (math_Float32bits)

/-! ### float16_New: function 35 -/
def float16_New.f (a0 : Nat) : Option (Int) := if (Go.bits .and .u32 ((a0 : Nat) / 8388608) 255) = 0 then (some (Go.bits .or .u16 (Go.bits .or .u16 (IntKind.u16.wrap ((IntKind.u16.wrap (Go.bits .and .u32 ((a0 : Nat) / 2147483648) 1)) * 32768)) (0 * 1024)) (Go.bits .and .u16 (IntKind.u16.wrap ((a0 : Nat) / 8192)) 1023))) else (if (Go.bits .and .u32 ((a0 : Nat) / 8388608) 255) = 255 then (some (Go.bits .or .u16 (Go.bits .or .u16 (IntKind.u16.wrap ((IntKind.u16.wrap (Go.bits .and .u32 ((a0 : Nat) / 2147483648) 1)) * 32768)) (31 * 1024)) (Go.bits .and .u16 (IntKind.u16.wrap ((a0 : Nat) / 8192)) 1023))) else (if (IntKind.i16.wrap ((IntKind.i16.wrap ((IntKind.i16.wrap (Go.bits .and .u32 ((a0 : Nat) / 8388608) 255)) - 127)) + 15)) > 30 then (some (Go.bits .or .u16 (Go.bits .or .u16 (IntKind.u16.wrap ((IntKind.u16.wrap (Go.bits .and .u32 ((a0 : Nat) / 2147483648) 1)) * 32768)) (31 * 1024)) 0)) else (if (IntKind.i16.wrap ((IntKind.i16.wrap ((IntKind.i16.wrap (Go.bits .and .u32 ((a0 : Nat) / 8388608) 255)) - 127)) + 15)) < 1 then (some (Go.bits .or .u16 (Go.bits .or .u16 (IntKind.u16.wrap ((IntKind.u16.wrap (Go.bits .and .u32 ((a0 : Nat) / 2147483648) 1)) * 32768)) (0 * 1024)) 0)) else (some (Go.bits .or .u16 (Go.bits .or .u16 (IntKind.u16.wrap ((IntKind.u16.wrap (Go.bits .and .u32 ((a0 : Nat) / 2147483648) 1)) * 32768)) (IntKind.u16.wrap (IntKind.i16.wrap ((IntKind.i16.wrap ((IntKind.i16.wrap ((IntKind.i16.wrap (Go.bits .and .u32 ((a0 : Nat) / 8388608) 255)) - 127)) + 15)) * 1024)))) (Go.bits .and .u16 (IntKind.u16.wrap ((a0 : Nat) / 8192)) 1023))))))
set_option maxHeartbeats 8000000 in
set_option maxRecDepth 100000 in
theorem float16_New.calls (a0 : Nat) (r : Int) (w : World) (h : float16_New.f a0 = some r) :
    Calls Try.prog 35 #[.float .f32 a0] w fun e w' => e = .returned (.agg #[.int .u16 r]) ∧ Below w.heap.size w w' := by
  have hu44 := Try.underlying44
  have HB := Aside0.mk (Below.refl w.heap.size w)
  have H : (if (Go.bits .and .u32 ((a0 : Nat) / 8388608) 255) = 0 then (some (Go.bits .or .u16 (Go.bits .or .u16 (IntKind.u16.wrap ((IntKind.u16.wrap (Go.bits .and .u32 ((a0 : Nat) / 2147483648) 1)) * 32768)) (0 * 1024)) (Go.bits .and .u16 (IntKind.u16.wrap ((a0 : Nat) / 8192)) 1023))) else (if (Go.bits .and .u32 ((a0 : Nat) / 8388608) 255) = 255 then (some (Go.bits .or .u16 (Go.bits .or .u16 (IntKind.u16.wrap ((IntKind.u16.wrap (Go.bits .and .u32 ((a0 : Nat) / 2147483648) 1)) * 32768)) (31 * 1024)) (Go.bits .and .u16 (IntKind.u16.wrap ((a0 : Nat) / 8192)) 1023))) else (if (IntKind.i16.wrap ((IntKind.i16.wrap ((IntKind.i16.wrap (Go.bits .and .u32 ((a0 : Nat) / 8388608) 255)) - 127)) + 15)) > 30 then (some (Go.bits .or .u16 (Go.bits .or .u16 (IntKind.u16.wrap ((IntKind.u16.wrap (Go.bits .and .u32 ((a0 : Nat) / 2147483648) 1)) * 32768)) (31 * 1024)) 0)) else (if (IntKind.i16.wrap ((IntKind.i16.wrap ((IntKind.i16.wrap (Go.bits .and .u32 ((a0 : Nat) / 8388608) 255)) - 127)) + 15)) < 1 then (some (Go.bits .or .u16 (Go.bits .or .u16 (IntKind.u16.wrap ((IntKind.u16.wrap (Go.bits .and .u32 ((a0 : Nat) / 2147483648) 1)) * 32768)) (0 * 1024)) 0)) else (some (Go.bits .or .u16 (Go.bits .or .u16 (IntKind.u16.wrap ((IntKind.u16.wrap (Go.bits .and .u32 ((a0 : Nat) / 2147483648) 1)) * 32768)) (IntKind.u16.wrap (IntKind.i16.wrap ((IntKind.i16.wrap ((IntKind.i16.wrap ((IntKind.i16.wrap (Go.bits .and .u32 ((a0 : Nat) / 8388608) 255)) - 127)) + 15)) * 1024)))) (Go.bits .and .u16 (IntKind.u16.wrap ((a0 : Nat) / 8192)) 1023))))))) = some r := h
  clear h
  by_cases c2 : (Go.bits .and .u32 ((a0 : Nat) / 8388608) 255) = 0
  · rw [if_pos c2] at H
    have c2b0 : ((Go.bits .and .u32 ((a0 : Nat) / 8388608) 255) == 0) = true := beq_iff_eq.mpr c2
    have c2b1 : ((Go.bits .and .u32 ((a0 : Nat) / 8388608) 255) != 0) = false := bne_eq_false_iff_eq.mpr c2
    clear c2
    obtain rfl := Option.some.inj H
    go_enter Try.func35, Try.ntmps35
    go_wp2_with (first | ((with_reducible refine gate_dst (N := 2) rfl ?_); refine box_event ?hg (N := 2) ?hd (cs := #[.int .u16 0]) (t := 44) ?hr ?_; (case hd => rfl); (case hg => rfl); (case hr => first | (go_simp; done) | (go_simp; rfl)); intro gb103 hg w3 hbox hb; have n0_ := Aside0.mk (below_step (by repeat (first | (with_reducible first | exact HB.out | apply below_alloc | apply pw_below_drewN | apply below_drew1) | exact HB.out)) hb); have n1_ := Aside0.mk (hbox); have n2_ := Aside0.mk ((by rw [hg]; exact (below_size (by repeat (first | (with_reducible first | exact HB.out | apply below_alloc | apply pw_below_drewN | apply below_drew1) | exact HB.out))) : w.heap.size ≤ gb103)); have n3_ := Aside0.mk ((by rw [hg]; exact (below_size (by repeat (first | (with_reducible first | exact HB.out | apply below_alloc | apply pw_below_drewN | apply below_drew1) | exact HB.out))) : w.heap.size ≤ gb103)); clear HB; have HB := n0_; have BK103 := n1_; have GW103 := n2_; have GE103 := n3_; clear n0_ n1_ n2_ n3_; clear hb hbox hg; have hcz4_0 : w3.cell? ⟨gb103, 0, none⟩ = some (.int .u16 0) := (blk_cell BK103.out 0).trans rfl; have hfz4_0 := blk_frozen BK103.out 0))
    refine bodyPost_ret (results_cell_row rfl _ _ gb103 44 #[.int .u16 (Go.bits .or .u16 (Go.bits .or .u16 (IntKind.u16.wrap ((IntKind.u16.wrap (Go.bits .and .u32 ((a0 : Nat) / 2147483648) 1)) * 32768)) (0 * 1024)) (Go.bits .and .u16 (IntKind.u16.wrap ((a0 : Nat) / 8192)) 1023))] (0, 0) _ rfl (by (with_reducible repeat (first | refine blk_drewN ?_ _ | refine blk_drew ?_ | refine blk_alloc ?_ _)); refine blk_put (cs := #[.int .u16 0]) ?_ 0 _ rfl; (with_reducible repeat (first | refine blk_drewN ?_ _ | refine blk_drew ?_ | refine blk_alloc ?_ _)); exact BK103.out) Try.underlying44 rfl (by kernel_rfl)) rfl ?_
    exact ⟨by first | rfl | (simp [errW_none, errW_some] <;> rfl) | (simp [*, errW_none, errW_some] <;> rfl), by repeat (first | (with_reducible first | exact HB.out | apply below_alloc | apply pw_below_drewN | apply below_drew1 | refine below_set ?_ GE103.out) | exact HB.out)⟩
  · rw [if_neg c2] at H
    have c2b0 : ((Go.bits .and .u32 ((a0 : Nat) / 8388608) 255) == 0) = false := beq_eq_false_iff_ne.mpr c2
    have c2b1 : ((Go.bits .and .u32 ((a0 : Nat) / 8388608) 255) != 0) = true := bne_iff_ne.mpr c2
    by_cases c5 : (Go.bits .and .u32 ((a0 : Nat) / 8388608) 255) = 255
    · rw [if_pos c5] at H
      have c5b0 : ((Go.bits .and .u32 ((a0 : Nat) / 8388608) 255) == 255) = true := beq_iff_eq.mpr c5
      have c5b1 : ((Go.bits .and .u32 ((a0 : Nat) / 8388608) 255) != 255) = false := bne_eq_false_iff_eq.mpr c5
      clear c5
      obtain rfl := Option.some.inj H
      go_enter Try.func35, Try.ntmps35
      go_wp2_with (first | ((with_reducible refine gate_dst (N := 2) rfl ?_); refine box_event ?hg (N := 2) ?hd (cs := #[.int .u16 0]) (t := 44) ?hr ?_; (case hd => rfl); (case hg => rfl); (case hr => first | (go_simp; done) | (go_simp; rfl)); intro gb103 hg w6 hbox hb; have n0_ := Aside0.mk (below_step (by repeat (first | (with_reducible first | exact HB.out | apply below_alloc | apply pw_below_drewN | apply below_drew1) | exact HB.out)) hb); have n1_ := Aside0.mk (hbox); have n2_ := Aside0.mk ((by rw [hg]; exact (below_size (by repeat (first | (with_reducible first | exact HB.out | apply below_alloc | apply pw_below_drewN | apply below_drew1) | exact HB.out))) : w.heap.size ≤ gb103)); have n3_ := Aside0.mk ((by rw [hg]; exact (below_size (by repeat (first | (with_reducible first | exact HB.out | apply below_alloc | apply pw_below_drewN | apply below_drew1) | exact HB.out))) : w.heap.size ≤ gb103)); clear HB; have HB := n0_; have BK103 := n1_; have GW103 := n2_; have GE103 := n3_; clear n0_ n1_ n2_ n3_; clear hb hbox hg; have hcz7_0 : w6.cell? ⟨gb103, 0, none⟩ = some (.int .u16 0) := (blk_cell BK103.out 0).trans rfl; have hfz7_0 := blk_frozen BK103.out 0))
      refine bodyPost_ret (results_cell_row rfl _ _ gb103 44 #[.int .u16 (Go.bits .or .u16 (Go.bits .or .u16 (IntKind.u16.wrap ((IntKind.u16.wrap (Go.bits .and .u32 ((a0 : Nat) / 2147483648) 1)) * 32768)) (31 * 1024)) (Go.bits .and .u16 (IntKind.u16.wrap ((a0 : Nat) / 8192)) 1023))] (0, 0) _ rfl (by (with_reducible repeat (first | refine blk_drewN ?_ _ | refine blk_drew ?_ | refine blk_alloc ?_ _)); refine blk_put (cs := #[.int .u16 0]) ?_ 0 _ rfl; (with_reducible repeat (first | refine blk_drewN ?_ _ | refine blk_drew ?_ | refine blk_alloc ?_ _)); exact BK103.out) Try.underlying44 rfl (by kernel_rfl)) rfl ?_
      exact ⟨by first | rfl | (simp [errW_none, errW_some] <;> rfl) | (simp [*, errW_none, errW_some] <;> rfl), by repeat (first | (with_reducible first | exact HB.out | apply below_alloc | apply pw_below_drewN | apply below_drew1 | refine below_set ?_ GE103.out) | exact HB.out)⟩
    · rw [if_neg c5] at H
      have c5b0 : ((Go.bits .and .u32 ((a0 : Nat) / 8388608) 255) == 255) = false := beq_eq_false_iff_ne.mpr c5
      have c5b1 : ((Go.bits .and .u32 ((a0 : Nat) / 8388608) 255) != 255) = true := bne_iff_ne.mpr c5
      by_cases c8 : (IntKind.i16.wrap ((IntKind.i16.wrap ((IntKind.i16.wrap (Go.bits .and .u32 ((a0 : Nat) / 8388608) 255)) - 127)) + 15)) > 30
      · rw [if_pos c8] at H
        have c8b0 : decide (30 < (IntKind.i16.wrap ((IntKind.i16.wrap ((IntKind.i16.wrap (Go.bits .and .u32 ((a0 : Nat) / 8388608) 255)) - 127)) + 15))) = true := decide_eq_true c8
        clear c8
        obtain rfl := Option.some.inj H
        go_enter Try.func35, Try.ntmps35
        go_wp2_with (first | ((with_reducible refine gate_dst (N := 2) rfl ?_); refine box_event ?hg (N := 2) ?hd (cs := #[.int .u16 0]) (t := 44) ?hr ?_; (case hd => rfl); (case hg => rfl); (case hr => first | (go_simp; done) | (go_simp; rfl)); intro gb103 hg w9 hbox hb; have n0_ := Aside0.mk (below_step (by repeat (first | (with_reducible first | exact HB.out | apply below_alloc | apply pw_below_drewN | apply below_drew1) | exact HB.out)) hb); have n1_ := Aside0.mk (hbox); have n2_ := Aside0.mk ((by rw [hg]; exact (below_size (by repeat (first | (with_reducible first | exact HB.out | apply below_alloc | apply pw_below_drewN | apply below_drew1) | exact HB.out))) : w.heap.size ≤ gb103)); have n3_ := Aside0.mk ((by rw [hg]; exact (below_size (by repeat (first | (with_reducible first | exact HB.out | apply below_alloc | apply pw_below_drewN | apply below_drew1) | exact HB.out))) : w.heap.size ≤ gb103)); clear HB; have HB := n0_; have BK103 := n1_; have GW103 := n2_; have GE103 := n3_; clear n0_ n1_ n2_ n3_; clear hb hbox hg; have hcz10_0 : w9.cell? ⟨gb103, 0, none⟩ = some (.int .u16 0) := (blk_cell BK103.out 0).trans rfl; have hfz10_0 := blk_frozen BK103.out 0))
        refine bodyPost_ret (results_cell_row rfl _ _ gb103 44 #[.int .u16 (Go.bits .or .u16 (Go.bits .or .u16 (IntKind.u16.wrap ((IntKind.u16.wrap (Go.bits .and .u32 ((a0 : Nat) / 2147483648) 1)) * 32768)) (31 * 1024)) 0)] (0, 0) _ rfl (by (with_reducible repeat (first | refine blk_drewN ?_ _ | refine blk_drew ?_ | refine blk_alloc ?_ _)); refine blk_put (cs := #[.int .u16 0]) ?_ 0 _ rfl; (with_reducible repeat (first | refine blk_drewN ?_ _ | refine blk_drew ?_ | refine blk_alloc ?_ _)); exact BK103.out) Try.underlying44 rfl (by kernel_rfl)) rfl ?_
        exact ⟨by first | rfl | (simp [errW_none, errW_some] <;> rfl) | (simp [*, errW_none, errW_some] <;> rfl), by repeat (first | (with_reducible first | exact HB.out | apply below_alloc | apply pw_below_drewN | apply below_drew1 | refine below_set ?_ GE103.out) | exact HB.out)⟩
      · rw [if_neg c8] at H
        have c8b0 : decide (30 < (IntKind.i16.wrap ((IntKind.i16.wrap ((IntKind.i16.wrap (Go.bits .and .u32 ((a0 : Nat) / 8388608) 255)) - 127)) + 15))) = false := decide_eq_false c8
        clear c8
        by_cases c11 : (IntKind.i16.wrap ((IntKind.i16.wrap ((IntKind.i16.wrap (Go.bits .and .u32 ((a0 : Nat) / 8388608) 255)) - 127)) + 15)) < 1
        · rw [if_pos c11] at H
          have c11b0 : decide ((IntKind.i16.wrap ((IntKind.i16.wrap ((IntKind.i16.wrap (Go.bits .and .u32 ((a0 : Nat) / 8388608) 255)) - 127)) + 15)) < 1) = true := decide_eq_true c11
          clear c11
          obtain rfl := Option.some.inj H
          go_enter Try.func35, Try.ntmps35
          go_wp2_with (first | ((with_reducible refine gate_dst (N := 2) rfl ?_); refine box_event ?hg (N := 2) ?hd (cs := #[.int .u16 0]) (t := 44) ?hr ?_; (case hd => rfl); (case hg => rfl); (case hr => first | (go_simp; done) | (go_simp; rfl)); intro gb103 hg w12 hbox hb; have n0_ := Aside0.mk (below_step (by repeat (first | (with_reducible first | exact HB.out | apply below_alloc | apply pw_below_drewN | apply below_drew1) | exact HB.out)) hb); have n1_ := Aside0.mk (hbox); have n2_ := Aside0.mk ((by rw [hg]; exact (below_size (by repeat (first | (with_reducible first | exact HB.out | apply below_alloc | apply pw_below_drewN | apply below_drew1) | exact HB.out))) : w.heap.size ≤ gb103)); have n3_ := Aside0.mk ((by rw [hg]; exact (below_size (by repeat (first | (with_reducible first | exact HB.out | apply below_alloc | apply pw_below_drewN | apply below_drew1) | exact HB.out))) : w.heap.size ≤ gb103)); clear HB; have HB := n0_; have BK103 := n1_; have GW103 := n2_; have GE103 := n3_; clear n0_ n1_ n2_ n3_; clear hb hbox hg; have hcz13_0 : w12.cell? ⟨gb103, 0, none⟩ = some (.int .u16 0) := (blk_cell BK103.out 0).trans rfl; have hfz13_0 := blk_frozen BK103.out 0))
          refine bodyPost_ret (results_cell_row rfl _ _ gb103 44 #[.int .u16 (Go.bits .or .u16 (Go.bits .or .u16 (IntKind.u16.wrap ((IntKind.u16.wrap (Go.bits .and .u32 ((a0 : Nat) / 2147483648) 1)) * 32768)) (0 * 1024)) 0)] (0, 0) _ rfl (by (with_reducible repeat (first | refine blk_drewN ?_ _ | refine blk_drew ?_ | refine blk_alloc ?_ _)); refine blk_put (cs := #[.int .u16 0]) ?_ 0 _ rfl; (with_reducible repeat (first | refine blk_drewN ?_ _ | refine blk_drew ?_ | refine blk_alloc ?_ _)); exact BK103.out) Try.underlying44 rfl (by kernel_rfl)) rfl ?_
          exact ⟨by first | rfl | (simp [errW_none, errW_some] <;> rfl) | (simp [*, errW_none, errW_some] <;> rfl), by repeat (first | (with_reducible first | exact HB.out | apply below_alloc | apply pw_below_drewN | apply below_drew1 | refine below_set ?_ GE103.out) | exact HB.out)⟩
        · rw [if_neg c11] at H
          have c11b0 : decide ((IntKind.i16.wrap ((IntKind.i16.wrap ((IntKind.i16.wrap (Go.bits .and .u32 ((a0 : Nat) / 8388608) 255)) - 127)) + 15)) < 1) = false := decide_eq_false c11
          clear c11
          obtain rfl := Option.some.inj H
          go_enter Try.func35, Try.ntmps35
          go_wp2_with (first | ((with_reducible refine gate_dst (N := 2) rfl ?_); refine box_event ?hg (N := 2) ?hd (cs := #[.int .u16 0]) (t := 44) ?hr ?_; (case hd => rfl); (case hg => rfl); (case hr => first | (go_simp; done) | (go_simp; rfl)); intro gb103 hg w14 hbox hb; have n0_ := Aside0.mk (below_step (by repeat (first | (with_reducible first | exact HB.out | apply below_alloc | apply pw_below_drewN | apply below_drew1) | exact HB.out)) hb); have n1_ := Aside0.mk (hbox); have n2_ := Aside0.mk ((by rw [hg]; exact (below_size (by repeat (first | (with_reducible first | exact HB.out | apply below_alloc | apply pw_below_drewN | apply below_drew1) | exact HB.out))) : w.heap.size ≤ gb103)); have n3_ := Aside0.mk ((by rw [hg]; exact (below_size (by repeat (first | (with_reducible first | exact HB.out | apply below_alloc | apply pw_below_drewN | apply below_drew1) | exact HB.out))) : w.heap.size ≤ gb103)); clear HB; have HB := n0_; have BK103 := n1_; have GW103 := n2_; have GE103 := n3_; clear n0_ n1_ n2_ n3_; clear hb hbox hg; have hcz15_0 : w14.cell? ⟨gb103, 0, none⟩ = some (.int .u16 0) := (blk_cell BK103.out 0).trans rfl; have hfz15_0 := blk_frozen BK103.out 0))
          refine bodyPost_ret (results_cell_row rfl _ _ gb103 44 #[.int .u16 (Go.bits .or .u16 (Go.bits .or .u16 (IntKind.u16.wrap ((IntKind.u16.wrap (Go.bits .and .u32 ((a0 : Nat) / 2147483648) 1)) * 32768)) (IntKind.u16.wrap (IntKind.i16.wrap ((IntKind.i16.wrap ((IntKind.i16.wrap ((IntKind.i16.wrap (Go.bits .and .u32 ((a0 : Nat) / 8388608) 255)) - 127)) + 15)) * 1024)))) (Go.bits .and .u16 (IntKind.u16.wrap ((a0 : Nat) / 8192)) 1023))] (0, 0) _ rfl (by (with_reducible repeat (first | refine blk_drewN ?_ _ | refine blk_drew ?_ | refine blk_alloc ?_ _)); refine blk_put (cs := #[.int .u16 0]) ?_ 0 _ rfl; (with_reducible repeat (first | refine blk_drewN ?_ _ | refine blk_drew ?_ | refine blk_alloc ?_ _)); exact BK103.out) Try.underlying44 rfl (by kernel_rfl)) rfl ?_
          exact ⟨by first | rfl | (simp [errW_none, errW_some] <;> rfl) | (simp [*, errW_none, errW_some] <;> rfl), by repeat (first | (with_reducible first | exact HB.out | apply below_alloc | apply pw_below_drewN | apply below_drew1 | refine below_set ?_ GE103.out) | exact HB.out)⟩

/-! ### impl_HalfNew: function 14 -/
def impl_HalfNew.f (a0 : Nat) : Option (Int) := (float16_New.f a0).bind fun t104 => ((float16_Num_Uint16.f t104).bind fun t105 => (some t105))
set_option maxHeartbeats 8000000 in
set_option maxRecDepth 100000 in
theorem impl_HalfNew.calls (a0 : Nat) (r : Int) (w : World) (h : impl_HalfNew.f a0 = some r) :
    Calls Try.prog 14 #[.float .f32 a0] w fun e w' => e = .returned (.int .u16 r) ∧ Below w.heap.size w w' := by
  have HB := Aside0.mk (Below.refl w.heap.size w)
  have H : ((float16_New.f a0).bind fun t104 => ((float16_Num_Uint16.f t104).bind fun t105 => (some t105))) = some r := h
  clear h
  replace H := Option.bind_eq_some_iff.mp H
  obtain ⟨t104, A20, H⟩ := H
  replace H : ((float16_Num_Uint16.f t104).bind fun t105 => (some t105)) = some r := H
  have A2 := Aside0.mk A20
  clear A20
  replace H := Option.bind_eq_some_iff.mp H
  obtain ⟨t105, A30, H⟩ := H
  replace H : (some t105) = some r := H
  have A3 := Aside0.mk A30
  clear A30
  obtain rfl := Option.some.inj H
  go_enter Try.func14, Try.ntmps14
  go_wp2_with (first | ((with_reducible refine gate_callee (f := 35) rfl ?_); refine goesL_ (some 4) rfl rfl Try.func35 (by kernel_rfl) rfl #[.float .f32 a0] rfl (by (try simp only [List.map_toArray, List.map_cons, List.map_nil]); first | done | rfl | (simp only [List.length_drop, List.length_take]; rfl)) ?_; (with_reducible refine (float16_New.calls a0 t104 _ A2.out).mono ?_); rintro e w4 ⟨rfl, hb⟩; refine ⟨_, rfl, ?_⟩; have n0_ := Aside0.mk (below_step (by repeat (first | (with_reducible first | exact HB.out | apply below_alloc | apply pw_below_drewN | apply below_drew1) | exact HB.out)) hb); clear HB; have HB := n0_; clear n0_; (try clear hb); (try clear hb2); (try clear hk); (try clear hi)) | ((with_reducible refine gate_callee (f := 27) rfl ?_); refine goesL_ (some 5) rfl rfl Try.func27 (by kernel_rfl) rfl #[.agg #[.int .u16 t104]] rfl (by (try simp only [List.map_toArray, List.map_cons, List.map_nil]); first | done | rfl | (simp only [List.length_drop, List.length_take]; rfl)) ?_; (with_reducible refine (float16_Num_Uint16.calls t104 t105 _ A3.out).mono ?_); rintro e w5 ⟨rfl, hb⟩; refine ⟨_, rfl, ?_⟩; have n0_ := Aside0.mk (below_step (by repeat (first | (with_reducible first | exact HB.out | apply below_alloc | apply pw_below_drewN | apply below_drew1) | exact HB.out)) hb); clear HB; have HB := n0_; clear n0_; (try clear hb); (try clear hb2); (try clear hk); (try clear hi)))
  go_ret
  exact ⟨by first | rfl | (simp [errW_none, errW_some] <;> rfl) | (simp [*, errW_none, errW_some] <;> rfl), by repeat (first | (with_reducible first | exact HB.out | apply below_alloc | apply pw_below_drewN | apply below_drew1) | exact HB.out)⟩

/-! ### float16_FromBits: function 19 -/
def float16_FromBits.f (a0 : Int) : Option (Int) := some a0
set_option maxHeartbeats 8000000 in
set_option maxRecDepth 100000 in
theorem float16_FromBits.calls (a0 : Int) (r : Int) (w : World) (h : float16_FromBits.f a0 = some r) :
    Calls Try.prog 19 #[.int .u16 a0] w fun e w' => e = .returned (.agg #[.int .u16 r]) ∧ Below w.heap.size w w' := by
  have hu44 := Try.underlying44
  have HB := Aside0.mk (Below.refl w.heap.size w)
  have H : (some a0) = some r := h
  clear h
  obtain rfl := Option.some.inj H
  go_enter Try.func19, Try.ntmps19
  go_wp2_with (first | ((with_reducible refine gate_dst (N := 2) rfl ?_); refine box_event ?hg (N := 2) ?hd (cs := #[.int .u16 0]) (t := 44) ?hr ?_; (case hd => rfl); (case hg => rfl); (case hr => first | (go_simp; done) | (go_simp; rfl)); intro gb106 hg w2 hbox hb; have n0_ := Aside0.mk (below_step (by repeat (first | (with_reducible first | exact HB.out | apply below_alloc | apply pw_below_drewN | apply below_drew1) | exact HB.out)) hb); have n1_ := Aside0.mk (hbox); have n2_ := Aside0.mk ((by rw [hg]; exact (below_size (by repeat (first | (with_reducible first | exact HB.out | apply below_alloc | apply pw_below_drewN | apply below_drew1) | exact HB.out))) : w.heap.size ≤ gb106)); have n3_ := Aside0.mk ((by rw [hg]; exact (below_size (by repeat (first | (with_reducible first | exact HB.out | apply below_alloc | apply pw_below_drewN | apply below_drew1) | exact HB.out))) : w.heap.size ≤ gb106)); clear HB; have HB := n0_; have BK106 := n1_; have GW106 := n2_; have GE106 := n3_; clear n0_ n1_ n2_ n3_; clear hb hbox hg; have hcz3_0 : w2.cell? ⟨gb106, 0, none⟩ = some (.int .u16 0) := (blk_cell BK106.out 0).trans rfl; have hfz3_0 := blk_frozen BK106.out 0))
  refine bodyPost_ret (results_cell_row rfl _ _ gb106 44 #[.int .u16 a0] (0, 0) _ rfl (by (with_reducible repeat (first | refine blk_drewN ?_ _ | refine blk_drew ?_ | refine blk_alloc ?_ _)); refine blk_put (cs := #[.int .u16 0]) ?_ 0 _ rfl; (with_reducible repeat (first | refine blk_drewN ?_ _ | refine blk_drew ?_ | refine blk_alloc ?_ _)); exact BK106.out) Try.underlying44 rfl (by kernel_rfl)) rfl ?_
  exact ⟨by first | rfl | (simp [errW_none, errW_some] <;> rfl) | (simp [*, errW_none, errW_some] <;> rfl), by repeat (first | (with_reducible first | exact HB.out | apply below_alloc | apply pw_below_drewN | apply below_drew1 | refine below_set ?_ GE106.out) | exact HB.out)⟩

-- NOT PRINTED: function 46 (math_Float32frombits)

/-! ### float16_Num_Float32: function 36 -/
def float16_Num_Float32.f (a0_0 : Int) : Option (Nat) := if (Go.bits .and .u16 (a0_0 / 1024) 31) = 0 then (some ((Go.bits .or .u32 (Go.bits .or .u32 ((((Go.bits .and .u16 (a0_0 / 32768) 1) % 4294967296) * 2147483648) % 4294967296) (0 * 8388608)) ((((Go.bits .and .u16 a0_0 1023) % 4294967296) * 8192) % 4294967296) : Int).toNat)) else (if (Go.bits .and .u16 (a0_0 / 1024) 31) = 31 then (some ((Go.bits .or .u32 (Go.bits .or .u32 ((((Go.bits .and .u16 (a0_0 / 32768) 1) % 4294967296) * 2147483648) % 4294967296) (255 * 8388608)) ((((Go.bits .and .u16 a0_0 1023) % 4294967296) * 8192) % 4294967296) : Int).toNat)) else (some ((Go.bits .or .u32 (Go.bits .or .u32 ((((Go.bits .and .u16 (a0_0 / 32768) 1) % 4294967296) * 2147483648) % 4294967296) ((((((((Go.bits .and .u16 (a0_0 / 1024) 31) % 4294967296) + 127) % 4294967296) - 15) % 4294967296) * 8388608) % 4294967296)) ((((Go.bits .and .u16 a0_0 1023) % 4294967296) * 8192) % 4294967296) : Int).toNat)))
set_option maxHeartbeats 8000000 in
set_option maxRecDepth 100000 in
theorem float16_Num_Float32.calls (a0_0 : Int) (r : Nat) (w : World) (h : float16_Num_Float32.f a0_0 = some r) :
    Calls Try.prog 36 #[.agg #[.int .u16 a0_0]] w fun e w' => e = .returned (.float .f32 r) ∧ Below w.heap.size w w' := by
  have hu44 := Try.underlying44
  have HB := Aside0.mk (Below.refl w.heap.size w)
  have H : (if (Go.bits .and .u16 (a0_0 / 1024) 31) = 0 then (some ((Go.bits .or .u32 (Go.bits .or .u32 ((((Go.bits .and .u16 (a0_0 / 32768) 1) % 4294967296) * 2147483648) % 4294967296) (0 * 8388608)) ((((Go.bits .and .u16 a0_0 1023) % 4294967296) * 8192) % 4294967296) : Int).toNat)) else (if (Go.bits .and .u16 (a0_0 / 1024) 31) = 31 then (some ((Go.bits .or .u32 (Go.bits .or .u32 ((((Go.bits .and .u16 (a0_0 / 32768) 1) % 4294967296) * 2147483648) % 4294967296) (255 * 8388608)) ((((Go.bits .and .u16 a0_0 1023) % 4294967296) * 8192) % 4294967296) : Int).toNat)) else (some ((Go.bits .or .u32 (Go.bits .or .u32 ((((Go.bits .and .u16 (a0_0 / 32768) 1) % 4294967296) * 2147483648) % 4294967296) ((((((((Go.bits .and .u16 (a0_0 / 1024) 31) % 4294967296) + 127) % 4294967296) - 15) % 4294967296) * 8388608) % 4294967296)) ((((Go.bits .and .u16 a0_0 1023) % 4294967296) * 8192) % 4294967296) : Int).toNat)))) = some r := h
  clear h
  by_cases c2 : (Go.bits .and .u16 (a0_0 / 1024) 31) = 0
  · rw [if_pos c2] at H
    have c2b0 : ((Go.bits .and .u16 (a0_0 / 1024) 31) == 0) = true := beq_iff_eq.mpr c2
    have c2b1 : ((Go.bits .and .u16 (a0_0 / 1024) 31) != 0) = false := bne_eq_false_iff_eq.mpr c2
    clear c2
    obtain rfl := Option.some.inj H
    go_enter Try.func36, Try.ntmps36
    go_wp2_with (first | ((with_reducible refine gate_dst (N := 1) rfl ?_); refine box_event ?hg (N := 1) ?hd (cs := #[.int .u16 a0_0]) (t := 44) ?hr ?_; (case hd => rfl); (case hg => rfl); (case hr => first | (go_simp; done) | (go_simp; rfl)); intro gb107 hg w3 hbox hb; have n0_ := Aside0.mk (below_step (by repeat (first | (with_reducible first | exact HB.out | apply below_alloc | apply pw_below_drewN | apply below_drew1) | exact HB.out)) hb); have n1_ := Aside0.mk (hbox); have n2_ := Aside0.mk ((by rw [hg]; exact (below_size (by repeat (first | (with_reducible first | exact HB.out | apply below_alloc | apply pw_below_drewN | apply below_drew1) | exact HB.out))) : w.heap.size ≤ gb107)); have n3_ := Aside0.mk ((by rw [hg]; exact (below_size (by repeat (first | (with_reducible first | exact HB.out | apply below_alloc | apply pw_below_drewN | apply below_drew1) | exact HB.out))) : w.heap.size ≤ gb107)); clear HB; have HB := n0_; have BK107 := n1_; have GW107 := n2_; have GE107 := n3_; clear n0_ n1_ n2_ n3_; clear hb hbox hg; have hcz4_0 : w3.cell? ⟨gb107, 0, none⟩ = some (.int .u16 a0_0) := (blk_cell BK107.out 0).trans rfl; have hfz4_0 := blk_frozen BK107.out 0))
    go_ret
    exact ⟨by first | rfl | (simp [errW_none, errW_some] <;> rfl) | (simp [*, errW_none, errW_some] <;> rfl), by repeat (first | (with_reducible first | exact HB.out | apply below_alloc | apply pw_below_drewN | apply below_drew1 | refine below_set ?_ GE107.out) | exact HB.out)⟩
  · rw [if_neg c2] at H
    have c2b0 : ((Go.bits .and .u16 (a0_0 / 1024) 31) == 0) = false := beq_eq_false_iff_ne.mpr c2
    have c2b1 : ((Go.bits .and .u16 (a0_0 / 1024) 31) != 0) = true := bne_iff_ne.mpr c2
    by_cases c5 : (Go.bits .and .u16 (a0_0 / 1024) 31) = 31
    · rw [if_pos c5] at H
      have c5b0 : ((Go.bits .and .u16 (a0_0 / 1024) 31) == 31) = true := beq_iff_eq.mpr c5
      have c5b1 : ((Go.bits .and .u16 (a0_0 / 1024) 31) != 31) = false := bne_eq_false_iff_eq.mpr c5
      clear c5
      obtain rfl := Option.some.inj H
      go_enter Try.func36, Try.ntmps36
      go_wp2_with (first | ((with_reducible refine gate_dst (N := 1) rfl ?_); refine box_event ?hg (N := 1) ?hd (cs := #[.int .u16 a0_0]) (t := 44) ?hr ?_; (case hd => rfl); (case hg => rfl); (case hr => first | (go_simp; done) | (go_simp; rfl)); intro gb107 hg w6 hbox hb; have n0_ := Aside0.mk (below_step (by repeat (first | (with_reducible first | exact HB.out | apply below_alloc | apply pw_below_drewN | apply below_drew1) | exact HB.out)) hb); have n1_ := Aside0.mk (hbox); have n2_ := Aside0.mk ((by rw [hg]; exact (below_size (by repeat (first | (with_reducible first | exact HB.out | apply below_alloc | apply pw_below_drewN | apply below_drew1) | exact HB.out))) : w.heap.size ≤ gb107)); have n3_ := Aside0.mk ((by rw [hg]; exact (below_size (by repeat (first | (with_reducible first | exact HB.out | apply below_alloc | apply pw_below_drewN | apply below_drew1) | exact HB.out))) : w.heap.size ≤ gb107)); clear HB; have HB := n0_; have BK107 := n1_; have GW107 := n2_; have GE107 := n3_; clear n0_ n1_ n2_ n3_; clear hb hbox hg; have hcz7_0 : w6.cell? ⟨gb107, 0, none⟩ = some (.int .u16 a0_0) := (blk_cell BK107.out 0).trans rfl; have hfz7_0 := blk_frozen BK107.out 0))
      go_ret
      exact ⟨by first | rfl | (simp [errW_none, errW_some] <;> rfl) | (simp [*, errW_none, errW_some] <;> rfl), by repeat (first | (with_reducible first | exact HB.out | apply below_alloc | apply pw_below_drewN | apply below_drew1 | refine below_set ?_ GE107.out) | exact HB.out)⟩
    · rw [if_neg c5] at H
      have c5b0 : ((Go.bits .and .u16 (a0_0 / 1024) 31) == 31) = false := beq_eq_false_iff_ne.mpr c5
      have c5b1 : ((Go.bits .and .u16 (a0_0 / 1024) 31) != 31) = true := bne_iff_ne.mpr c5
      obtain rfl := Option.some.inj H
      go_enter Try.func36, Try.ntmps36
      go_wp2_with (first | ((with_reducible refine gate_dst (N := 1) rfl ?_); refine box_event ?hg (N := 1) ?hd (cs := #[.int .u16 a0_0]) (t := 44) ?hr ?_; (case hd => rfl); (case hg => rfl); (case hr => first | (go_simp; done) | (go_simp; rfl)); intro gb107 hg w8 hbox hb; have n0_ := Aside0.mk (below_step (by repeat (first | (with_reducible first | exact HB.out | apply below_alloc | apply pw_below_drewN | apply below_drew1) | exact HB.out)) hb); have n1_ := Aside0.mk (hbox); have n2_ := Aside0.mk ((by rw [hg]; exact (below_size (by repeat (first | (with_reducible first | exact HB.out | apply below_alloc | apply pw_below_drewN | apply below_drew1) | exact HB.out))) : w.heap.size ≤ gb107)); have n3_ := Aside0.mk ((by rw [hg]; exact (below_size (by repeat (first | (with_reducible first | exact HB.out | apply below_alloc | apply pw_below_drewN | apply below_drew1) | exact HB.out))) : w.heap.size ≤ gb107)); clear HB; have HB := n0_; have BK107 := n1_; have GW107 := n2_; have GE107 := n3_; clear n0_ n1_ n2_ n3_; clear hb hbox hg; have hcz9_0 : w8.cell? ⟨gb107, 0, none⟩ = some (.int .u16 a0_0) := (blk_cell BK107.out 0).trans rfl; have hfz9_0 := blk_frozen BK107.out 0))
      go_ret
      exact ⟨by first | rfl | (simp [errW_none, errW_some] <;> rfl) | (simp [*, errW_none, errW_some] <;> rfl), by repeat (first | (with_reducible first | exact HB.out | apply below_alloc | apply pw_below_drewN | apply below_drew1 | refine below_set ?_ GE107.out) | exact HB.out)⟩

/-! ### impl_HalfFloat: function 15 -/
def impl_HalfFloat.f (a0 : Int) : Option (Nat) := (float16_FromBits.f a0).bind fun t108 => ((float16_Num_Float32.f t108).bind fun t109 => (some t109))
set_option maxHeartbeats 8000000 in
set_option maxRecDepth 100000 in
theorem impl_HalfFloat.calls (a0 : Int) (r : Nat) (w : World) (h : impl_HalfFloat.f a0 = some r) :
    Calls Try.prog 15 #[.int .u16 a0] w fun e w' => e = .returned (.float .f32 r) ∧ Below w.heap.size w w' := by
  have HB := Aside0.mk (Below.refl w.heap.size w)
  have H : ((float16_FromBits.f a0).bind fun t108 => ((float16_Num_Float32.f t108).bind fun t109 => (some t109))) = some r := h
  clear h
  replace H := Option.bind_eq_some_iff.mp H
  obtain ⟨t108, A20, H⟩ := H
  replace H : ((float16_Num_Float32.f t108).bind fun t109 => (some t109)) = some r := H
  have A2 := Aside0.mk A20
  clear A20
  replace H := Option.bind_eq_some_iff.mp H
  obtain ⟨t109, A30, H⟩ := H
  replace H : (some t109) = some r := H
  have A3 := Aside0.mk A30
  clear A30
  obtain rfl := Option.some.inj H
  go_enter Try.func15, Try.ntmps15
  go_wp2_with (first | ((with_reducible refine gate_callee (f := 19) rfl ?_); refine goesL_ (some 4) rfl rfl Try.func19 (by kernel_rfl) rfl #[.int .u16 a0] rfl (by (try simp only [List.map_toArray, List.map_cons, List.map_nil]); first | done | rfl | (simp only [List.length_drop, List.length_take]; rfl)) ?_; (with_reducible refine (float16_FromBits.calls a0 t108 _ A2.out).mono ?_); rintro e w4 ⟨rfl, hb⟩; refine ⟨_, rfl, ?_⟩; have n0_ := Aside0.mk (below_step (by repeat (first | (with_reducible first | exact HB.out | apply below_alloc | apply pw_below_drewN | apply below_drew1) | exact HB.out)) hb); clear HB; have HB := n0_; clear n0_; (try clear hb); (try clear hb2); (try clear hk); (try clear hi)) | ((with_reducible refine gate_callee (f := 36) rfl ?_); refine goesL_ (some 5) rfl rfl Try.func36 (by kernel_rfl) rfl #[.agg #[.int .u16 t108]] rfl (by (try simp only [List.map_toArray, List.map_cons, List.map_nil]); first | done | rfl | (simp only [List.length_drop, List.length_take]; rfl)) ?_; (with_reducible refine (float16_Num_Float32.calls t108 t109 _ A3.out).mono ?_); rintro e w5 ⟨rfl, hb⟩; refine ⟨_, rfl, ?_⟩; have n0_ := Aside0.mk (below_step (by repeat (first | (with_reducible first | exact HB.out | apply below_alloc | apply pw_below_drewN | apply below_drew1) | exact HB.out)) hb); clear HB; have HB := n0_; clear n0_; (try clear hb); (try clear hb2); (try clear hk); (try clear hi)))
  go_ret
  exact ⟨by first | rfl | (simp [errW_none, errW_some] <;> rfl) | (simp [*, errW_none, errW_some] <;> rfl), by repeat (first | (with_reducible first | exact HB.out | apply below_alloc | apply pw_below_drewN | apply below_drew1) | exact HB.out)⟩

/-! ### laws_halves: function 6 -/
def laws_halves.f  : Option (Bool) := (impl_HalfNew.f 1065353216).bind fun t110 => (if t110 = 15360 then ((impl_HalfFloat.f 15360).bind fun t111 => (some ((Go.FloatKind.format .f32).order t111 1065353216 == some .eq))) else (some false))
set_option maxHeartbeats 8000000 in
set_option maxRecDepth 100000 in
theorem laws_halves.calls  (r : Bool) (w : World) (h : laws_halves.f  = some r) :
    Calls Try.prog 6 #[] w fun e w' => e = .returned (.bool r) ∧ Below w.heap.size w w' := by
  have HB := Aside0.mk (Below.refl w.heap.size w)
  have H : ((impl_HalfNew.f 1065353216).bind fun t110 => (if t110 = 15360 then ((impl_HalfFloat.f 15360).bind fun t111 => (some ((Go.FloatKind.format .f32).order t111 1065353216 == some .eq))) else (some false))) = some r := h
  clear h
  replace H := Option.bind_eq_some_iff.mp H
  obtain ⟨t110, A10, H⟩ := H
  replace H : (if t110 = 15360 then ((impl_HalfFloat.f 15360).bind fun t111 => (some ((Go.FloatKind.format .f32).order t111 1065353216 == some .eq))) else (some false)) = some r := H
  have A1 := Aside0.mk A10
  clear A10
  by_cases c2 : t110 = 15360
  · rw [if_pos c2] at H
    have c2b0 : (t110 == 15360) = true := beq_iff_eq.mpr c2
    have c2b1 : (t110 != 15360) = false := bne_eq_false_iff_eq.mpr c2
    clear c2
    replace H := Option.bind_eq_some_iff.mp H
    obtain ⟨t111, A30, H⟩ := H
    replace H : (some ((Go.FloatKind.format .f32).order t111 1065353216 == some .eq)) = some r := H
    have A3 := Aside0.mk A30
    clear A30
    obtain rfl := Option.some.inj H
    go_enter Try.func6, Try.ntmps6
    go_wp2_with (first | ((with_reducible refine gate_callee (f := 14) rfl ?_); refine goesL_ (some 1) rfl rfl Try.func14 (by kernel_rfl) rfl #[.float .f32 1065353216] rfl (by (try simp only [List.map_toArray, List.map_cons, List.map_nil]); first | done | rfl | (simp only [List.length_drop, List.length_take]; rfl)) ?_; (with_reducible refine (impl_HalfNew.calls 1065353216 t110 _ A1.out).mono ?_); rintro e w4 ⟨rfl, hb⟩; refine ⟨_, rfl, ?_⟩; have n0_ := Aside0.mk (below_step (by repeat (first | (with_reducible first | exact HB.out | apply below_alloc | apply pw_below_drewN | apply below_drew1) | exact HB.out)) hb); clear HB; have HB := n0_; clear n0_; (try clear hb); (try clear hb2); (try clear hk); (try clear hi)) | (go_at_call 15; (with_reducible refine (impl_HalfFloat.calls 15360 t111 _ A3.out).mono ?_); rintro e w5 ⟨rfl, hb⟩; have n0_ := Aside0.mk (below_step (by repeat (first | (with_reducible first | exact HB.out | apply below_alloc | apply pw_below_drewN | apply below_drew1) | exact HB.out)) hb); clear HB; have HB := n0_; clear n0_; (try clear hb); (try clear hb2); (try clear hk); (try clear hi)))
    go_ret
    exact ⟨by first | rfl | (simp [errW_none, errW_some] <;> rfl) | (simp [*, errW_none, errW_some] <;> rfl), by repeat (first | (with_reducible first | exact HB.out | apply below_alloc | apply pw_below_drewN | apply below_drew1) | exact HB.out)⟩
  · rw [if_neg c2] at H
    have c2b0 : (t110 == 15360) = false := beq_eq_false_iff_ne.mpr c2
    have c2b1 : (t110 != 15360) = true := bne_iff_ne.mpr c2
    obtain rfl := Option.some.inj H
    go_enter Try.func6, Try.ntmps6
    go_wp2_with (first | ((with_reducible refine gate_callee (f := 14) rfl ?_); refine goesL_ (some 1) rfl rfl Try.func14 (by kernel_rfl) rfl #[.float .f32 1065353216] rfl (by (try simp only [List.map_toArray, List.map_cons, List.map_nil]); first | done | rfl | (simp only [List.length_drop, List.length_take]; rfl)) ?_; (with_reducible refine (impl_HalfNew.calls 1065353216 t110 _ A1.out).mono ?_); rintro e w6 ⟨rfl, hb⟩; refine ⟨_, rfl, ?_⟩; have n0_ := Aside0.mk (below_step (by repeat (first | (with_reducible first | exact HB.out | apply below_alloc | apply pw_below_drewN | apply below_drew1) | exact HB.out)) hb); clear HB; have HB := n0_; clear n0_; (try clear hb); (try clear hb2); (try clear hk); (try clear hi)))
    go_ret
    exact ⟨by first | rfl | (simp [errW_none, errW_some] <;> rfl) | (simp [*, errW_none, errW_some] <;> rfl), by repeat (first | (with_reducible first | exact HB.out | apply below_alloc | apply pw_below_drewN | apply below_drew1) | exact HB.out)⟩

/-! ### math_archLdexp: function 37 -/
def math_archLdexp.f (a0 : Nat) (a1 : Int) : Option (Nat) := if 0 < 0 then (none) else (none)
set_option maxHeartbeats 8000000 in
set_option maxRecDepth 100000 in
theorem math_archLdexp.calls (a0 : Nat) (a1 : Int) (r : Nat) (w : World) (h : math_archLdexp.f a0 a1 = some r) :
    Calls Try.prog 37 #[.float .f64 a0, .int .i64 a1] w fun e w' => e = .returned (.float .f64 r) ∧ Drawn0 w w' := by
  have H : (if 0 < 0 then (none) else (none)) = some r := h
  clear h
  by_cases c3 : 0 < 0
  · exact absurd c3 (by decide)
  · rw [if_neg c3] at H
    exact absurd H (by simp)

-- NOT PRINTED: function 39 (math_Float64frombits)

-- NOT PRINTED: function 40 (math_Float64bits)

/-! ### math_Abs: function 25 -/
def math_Abs.f (a0 : Nat) : Option (Nat) := some ((Go.bits .andNot .u64 (a0 : Nat) 9223372036854775808 : Int).toNat)
set_option maxHeartbeats 8000000 in
set_option maxRecDepth 100000 in
theorem math_Abs.calls (a0 : Nat) (r : Nat) (w : World) (h : math_Abs.f a0 = some r) :
    Calls Try.prog 25 #[.float .f64 a0] w fun e w' => e = .returned (.float .f64 r) ∧ Drawn0 w w' := by
  have H : (some ((Go.bits .andNot .u64 (a0 : Nat) 9223372036854775808 : Int).toNat)) = some r := h
  clear h
  obtain rfl := Option.some.inj H
  go_enter Try.func25, Try.ntmps25
  go_wp2
  go_ret
  exact ⟨by first | rfl | (simp; done) | (simp [*]; done), by repeat (first | exact Drawn0.refl _ | apply Drawn0.step)⟩

/-! ### math_IsInf: function 9 -/
def math_IsInf.f (a0 : Nat) (a1 : Int) : Option (Bool) := if a1 = 0 then ((math_Abs.f a0).bind fun t112 => (some ((Go.FloatKind.format .f64).order t112 9218868437227405311 == some .gt))) else (if a1 < 0 then (if 0 < 0 then (some ((Go.FloatKind.format .f64).order a0 9218868437227405311 == some .gt)) else (none)) else (some ((Go.FloatKind.format .f64).order a0 9218868437227405311 == some .gt)))
set_option maxHeartbeats 8000000 in
set_option maxRecDepth 100000 in
theorem math_IsInf.calls (a0 : Nat) (a1 : Int) (r : Bool) (w : World) (h : math_IsInf.f a0 a1 = some r) :
    Calls Try.prog 9 #[.float .f64 a0, .int .i64 a1] w fun e w' => e = .returned (.bool r) ∧ Drawn0 w w' := by
  have H : (if a1 = 0 then ((math_Abs.f a0).bind fun t112 => (some ((Go.FloatKind.format .f64).order t112 9218868437227405311 == some .gt))) else (if a1 < 0 then (if 0 < 0 then (some ((Go.FloatKind.format .f64).order a0 9218868437227405311 == some .gt)) else (none)) else (some ((Go.FloatKind.format .f64).order a0 9218868437227405311 == some .gt)))) = some r := h
  clear h
  by_cases c3 : a1 = 0
  · rw [if_pos c3] at H
    have c3b0 : (a1 == 0) = true := beq_iff_eq.mpr c3
    have c3b1 : (a1 != 0) = false := bne_eq_false_iff_eq.mpr c3
    clear c3
    replace H := Option.bind_eq_some_iff.mp H
    obtain ⟨t112, A40, H⟩ := H
    replace H : (some ((Go.FloatKind.format .f64).order t112 9218868437227405311 == some .gt)) = some r := H
    have A4 := Aside0.mk A40
    clear A40
    obtain rfl := Option.some.inj H
    go_enter Try.func9, Try.ntmps9
    go_wp2_with (first | ((with_reducible refine gate_callee (f := 25) rfl ?_); refine goesL_ (some 8) rfl rfl Try.func25 (by kernel_rfl) rfl #[.float .f64 a0] rfl (by (try simp only [List.map_toArray, List.map_cons, List.map_nil]); first | done | rfl | (simp only [List.length_drop, List.length_take]; rfl)) ?_; (with_reducible refine (math_Abs.calls a0 t112 _ A4.out).mono ?_); rintro e w' ⟨rfl, ⟨nd, rfl⟩⟩; refine ⟨_, rfl, ?_⟩))
    go_ret
    exact ⟨by first | rfl | (simp; done) | (simp [*]; done), by repeat (first | exact Drawn0.refl _ | apply Drawn0.step)⟩
  · rw [if_neg c3] at H
    have c3b0 : (a1 == 0) = false := beq_eq_false_iff_ne.mpr c3
    have c3b1 : (a1 != 0) = true := bne_iff_ne.mpr c3
    by_cases c5 : a1 < 0
    · rw [if_pos c5] at H
      have c5b0 : decide (a1 < 0) = true := decide_eq_true c5
      clear c5
      by_cases c6 : 0 < 0
      · exact absurd c6 (by decide)
      · rw [if_neg c6] at H
        exact absurd H (by simp)
    · rw [if_neg c5] at H
      have c5b0 : decide (a1 < 0) = false := decide_eq_false c5
      clear c5
      obtain rfl := Option.some.inj H
      go_enter Try.func9, Try.ntmps9
      go_wp2
      go_ret
      exact ⟨by first | rfl | (simp; done) | (simp [*]; done), by repeat (first | exact Drawn0.refl _ | apply Drawn0.step)⟩

/-! ### math_Inf: function 17 -/
def math_Inf.f (a0 : Int) : Option (Nat) := if a0 ≥ 0 then (some ((9218868437227405312 : Int).toNat)) else (some ((18442240474082181120 : Int).toNat))
set_option maxHeartbeats 8000000 in
set_option maxRecDepth 100000 in
theorem math_Inf.calls (a0 : Int) (r : Nat) (w : World) (h : math_Inf.f a0 = some r) :
    Calls Try.prog 17 #[.int .i64 a0] w fun e w' => e = .returned (.float .f64 r) ∧ Drawn0 w w' := by
  have H : (if a0 ≥ 0 then (some ((9218868437227405312 : Int).toNat)) else (some ((18442240474082181120 : Int).toNat))) = some r := h
  clear h
  by_cases c2 : a0 ≥ 0
  · rw [if_pos c2] at H
    have c2b0 : decide (0 ≤ a0) = true := decide_eq_true c2
    clear c2
    obtain rfl := Option.some.inj H
    go_enter Try.func17, Try.ntmps17
    go_wp2
    go_ret
    exact ⟨by first | rfl | (simp; done) | (simp [*]; done), by repeat (first | exact Drawn0.refl _ | apply Drawn0.step)⟩
  · rw [if_neg c2] at H
    have c2b0 : decide (0 ≤ a0) = false := decide_eq_false c2
    clear c2
    obtain rfl := Option.some.inj H
    go_enter Try.func17, Try.ntmps17
    go_wp2
    go_ret
    exact ⟨by first | rfl | (simp; done) | (simp [*]; done), by repeat (first | exact Drawn0.refl _ | apply Drawn0.step)⟩

/-! ### math_IsNaN: function 47 -/
def math_IsNaN.f (a0 : Nat) : Option (Bool) := some ((Go.FloatKind.format .f64).order a0 a0 != some .eq)
set_option maxHeartbeats 8000000 in
set_option maxRecDepth 100000 in
theorem math_IsNaN.calls (a0 : Nat) (r : Bool) (w : World) (h : math_IsNaN.f a0 = some r) :
    Calls Try.prog 47 #[.float .f64 a0] w fun e w' => e = .returned (.bool r) ∧ Drawn0 w w' := by
  have H : (some ((Go.FloatKind.format .f64).order a0 a0 != some .eq)) = some r := h
  clear h
  obtain rfl := Option.some.inj H
  go_enter Try.func47, Try.ntmps47
  go_wp2
  go_ret
  exact ⟨by first | rfl | (simp; done) | (simp [*]; done), by repeat (first | exact Drawn0.refl _ | apply Drawn0.step)⟩

/-! ### math_normalize: function 48 -/
def math_normalize.f (a0 : Nat) : Option (Nat × Int) := (math_Abs.f a0).bind fun t113 => (if ((Go.FloatKind.format .f64).order t113 4503599627370496 == some .lt) = true then (if (Go.floatBits .mul .f64 a0 4841369599423283200).isSome = true then (some ((Go.floatBits .mul .f64 a0 4841369599423283200).getD 0, (-52))) else (none)) else (some (a0, 0)))
set_option maxHeartbeats 8000000 in
set_option maxRecDepth 100000 in
theorem math_normalize.calls (a0 : Nat) (r1 : Nat) (r2 : Int) (w : World) (h : math_normalize.f a0 = some (r1, r2)) :
    Calls Try.prog 48 #[.float .f64 a0] w fun e w' => e = .returned (.tuple #[.float .f64 r1, .int .i64 r2]) ∧ Drawn0 w w' := by
  have H : ((math_Abs.f a0).bind fun t113 => (if ((Go.FloatKind.format .f64).order t113 4503599627370496 == some .lt) = true then (if (Go.floatBits .mul .f64 a0 4841369599423283200).isSome = true then (some ((Go.floatBits .mul .f64 a0 4841369599423283200).getD 0, (-52))) else (none)) else (some (a0, 0)))) = some (r1, r2) := h
  clear h
  replace H := Option.bind_eq_some_iff.mp H
  obtain ⟨t113, A20, H⟩ := H
  replace H : (if ((Go.FloatKind.format .f64).order t113 4503599627370496 == some .lt) = true then (if (Go.floatBits .mul .f64 a0 4841369599423283200).isSome = true then (some ((Go.floatBits .mul .f64 a0 4841369599423283200).getD 0, (-52))) else (none)) else (some (a0, 0))) = some (r1, r2) := H
  have A2 := Aside0.mk A20
  clear A20
  by_cases c3 : ((Go.FloatKind.format .f64).order t113 4503599627370496 == some .lt) = true
  · rw [if_pos c3] at H
    have c3b0 : ((Go.FloatKind.format .f64).order t113 4503599627370496 == some .lt) = true := c3
    (try (have c3b1 : decide ((Go.FloatKind.format .f64).order t113 4503599627370496 = some .lt) = true := by simpa using c3))
    (try (have c3b2 : ((Go.FloatKind.format .f64).order t113 4503599627370496 == some .lt) = true := by simpa using c3))
    clear c3
    by_cases c4 : (Go.floatBits .mul .f64 a0 4841369599423283200).isSome = true
    · rw [if_pos c4] at H
      have c4b0 := eq_true c4
      have c4b1 : decide ((Go.floatBits .mul .f64 a0 4841369599423283200).isSome = true) = true := decide_eq_true c4
      clear c4
      simp only [Option.some.injEq, Prod.mk.injEq] at H
      obtain ⟨rfl, rfl⟩ := H
      go_enter Try.func48, Try.ntmps48
      go_wp2_with (first | ((with_reducible refine gate_callee (f := 25) rfl ?_); refine goesL_ (some 5) rfl rfl Try.func25 (by kernel_rfl) rfl #[.float .f64 a0] rfl (by (try simp only [List.map_toArray, List.map_cons, List.map_nil]); first | done | rfl | (simp only [List.length_drop, List.length_take]; rfl)) ?_; (with_reducible refine (math_Abs.calls a0 t113 _ A2.out).mono ?_); rintro e w' ⟨rfl, ⟨nd, rfl⟩⟩; refine ⟨_, rfl, ?_⟩))
      go_ret2
      exact ⟨by first | rfl | (simp; done) | (simp [*]; done), by repeat (first | exact Drawn0.refl _ | apply Drawn0.step)⟩
    · rw [if_neg c4] at H
      exact absurd H (by simp)
  · rw [if_neg c3] at H
    have c3b0 : ((Go.FloatKind.format .f64).order t113 4503599627370496 == some .lt) = false := by simpa using c3
    (try (have c3b1 : decide ((Go.FloatKind.format .f64).order t113 4503599627370496 = some .lt) = false := by simpa using c3))
    (try (have c3b2 : ((Go.FloatKind.format .f64).order t113 4503599627370496 == some .lt) = false := by simpa using c3))
    (try (have c3b3 : ¬ ((Go.FloatKind.format .f64).order t113 4503599627370496 = some .lt) := by simpa using c3))
    clear c3
    simp only [Option.some.injEq, Prod.mk.injEq] at H
    obtain ⟨rfl, rfl⟩ := H
    go_enter Try.func48, Try.ntmps48
    go_wp2_with (first | ((with_reducible refine gate_callee (f := 25) rfl ?_); refine goesL_ (some 5) rfl rfl Try.func25 (by kernel_rfl) rfl #[.float .f64 a0] rfl (by (try simp only [List.map_toArray, List.map_cons, List.map_nil]); first | done | rfl | (simp only [List.length_drop, List.length_take]; rfl)) ?_; (with_reducible refine (math_Abs.calls a0 t113 _ A2.out).mono ?_); rintro e w' ⟨rfl, ⟨nd, rfl⟩⟩; refine ⟨_, rfl, ?_⟩))
    go_ret2
    exact ⟨by first | rfl | (simp; done) | (simp [*]; done), by repeat (first | exact Drawn0.refl _ | apply Drawn0.step)⟩

/-! ### math_Copysign: function 49 -/
def math_Copysign.f (a0 : Nat) (a1 : Nat) : Option (Nat) := some ((Go.bits .or .u64 (Go.bits .andNot .u64 (a0 : Nat) 9223372036854775808) (Go.bits .and .u64 (a1 : Nat) 9223372036854775808) : Int).toNat)
set_option maxHeartbeats 8000000 in
set_option maxRecDepth 100000 in
theorem math_Copysign.calls (a0 : Nat) (a1 : Nat) (r : Nat) (w : World) (h : math_Copysign.f a0 a1 = some r) :
    Calls Try.prog 49 #[.float .f64 a0, .float .f64 a1] w fun e w' => e = .returned (.float .f64 r) ∧ Drawn0 w w' := by
  have H : (some ((Go.bits .or .u64 (Go.bits .andNot .u64 (a0 : Nat) 9223372036854775808) (Go.bits .and .u64 (a1 : Nat) 9223372036854775808) : Int).toNat)) = some r := h
  clear h
  obtain rfl := Option.some.inj H
  go_enter Try.func49, Try.ntmps49
  go_wp2
  go_ret
  exact ⟨by first | rfl | (simp; done) | (simp [*]; done), by repeat (first | exact Drawn0.refl _ | apply Drawn0.step)⟩

/-! ### math_ldexp: function 38 -/
def math_ldexp.f (a0 : Nat) (a1 : Int) : Option (Nat) := if ((Go.FloatKind.format .f64).order a0 0 == some .eq) = true then (some a0) else ((math_IsInf.f a0 0).bind fun t114 => (if t114 = true then (some a0) else ((math_IsNaN.f a0).bind fun t115 => (if t115 = true then (some a0) else ((math_normalize.f a0).bind fun bt116 => (if (wrap64 ((wrap64 (a1 + bt116.2)) + (wrap64 ((Go.bits .and .i64 (wrap64 ((bt116.1 : Nat) / 4503599627370496)) 2047) - 1023)))) < (-1075) then ((math_Copysign.f 0 bt116.1).bind fun t118 => (some t118)) else (if (wrap64 ((wrap64 (a1 + bt116.2)) + (wrap64 ((Go.bits .and .i64 (wrap64 ((bt116.1 : Nat) / 4503599627370496)) 2047) - 1023)))) > 1023 then (if ((Go.FloatKind.format .f64).order bt116.1 0 == some .lt) = true then ((math_Inf.f (-1)).bind fun t119 => (some t119)) else ((math_Inf.f 1).bind fun t120 => (some t120))) else (if (wrap64 ((wrap64 (a1 + bt116.2)) + (wrap64 ((Go.bits .and .i64 (wrap64 ((bt116.1 : Nat) / 4503599627370496)) 2047) - 1023)))) < (-1022) then (if (Go.floatBits .mul .f64 4368491638549381120 ((Go.bits .or .u64 (Go.bits .andNot .u64 (bt116.1 : Nat) 9218868437227405312) (IntKind.u64.wrap ((IntKind.u64.wrap (wrap64 ((wrap64 ((wrap64 ((wrap64 (a1 + bt116.2)) + (wrap64 ((Go.bits .and .i64 (wrap64 ((bt116.1 : Nat) / 4503599627370496)) 2047) - 1023)))) + 53)) + 1023))) * 4503599627370496)) : Int).toNat)).isSome = true then (some ((Go.floatBits .mul .f64 4368491638549381120 ((Go.bits .or .u64 (Go.bits .andNot .u64 (bt116.1 : Nat) 9218868437227405312) (IntKind.u64.wrap ((IntKind.u64.wrap (wrap64 ((wrap64 ((wrap64 ((wrap64 (a1 + bt116.2)) + (wrap64 ((Go.bits .and .i64 (wrap64 ((bt116.1 : Nat) / 4503599627370496)) 2047) - 1023)))) + 53)) + 1023))) * 4503599627370496)) : Int).toNat)).getD 0)) else (none)) else (if (Go.floatBits .mul .f64 4607182418800017408 ((Go.bits .or .u64 (Go.bits .andNot .u64 (bt116.1 : Nat) 9218868437227405312) (IntKind.u64.wrap ((IntKind.u64.wrap (wrap64 ((wrap64 ((wrap64 (a1 + bt116.2)) + (wrap64 ((Go.bits .and .i64 (wrap64 ((bt116.1 : Nat) / 4503599627370496)) 2047) - 1023)))) + 1023))) * 4503599627370496)) : Int).toNat)).isSome = true then (some ((Go.floatBits .mul .f64 4607182418800017408 ((Go.bits .or .u64 (Go.bits .andNot .u64 (bt116.1 : Nat) 9218868437227405312) (IntKind.u64.wrap ((IntKind.u64.wrap (wrap64 ((wrap64 ((wrap64 (a1 + bt116.2)) + (wrap64 ((Go.bits .and .i64 (wrap64 ((bt116.1 : Nat) / 4503599627370496)) 2047) - 1023)))) + 1023))) * 4503599627370496)) : Int).toNat)).getD 0)) else (none))))))))))
set_option maxHeartbeats 8000000 in
set_option maxRecDepth 100000 in
theorem math_ldexp.calls (a0 : Nat) (a1 : Int) (r : Nat) (w : World) (h : math_ldexp.f a0 a1 = some r) :
    Calls Try.prog 38 #[.float .f64 a0, .int .i64 a1] w fun e w' => e = .returned (.float .f64 r) ∧ Drawn0 w w' := by
  have H : (if ((Go.FloatKind.format .f64).order a0 0 == some .eq) = true then (some a0) else ((math_IsInf.f a0 0).bind fun t114 => (if t114 = true then (some a0) else ((math_IsNaN.f a0).bind fun t115 => (if t115 = true then (some a0) else ((math_normalize.f a0).bind fun bt116 => (if (wrap64 ((wrap64 (a1 + bt116.2)) + (wrap64 ((Go.bits .and .i64 (wrap64 ((bt116.1 : Nat) / 4503599627370496)) 2047) - 1023)))) < (-1075) then ((math_Copysign.f 0 bt116.1).bind fun t118 => (some t118)) else (if (wrap64 ((wrap64 (a1 + bt116.2)) + (wrap64 ((Go.bits .and .i64 (wrap64 ((bt116.1 : Nat) / 4503599627370496)) 2047) - 1023)))) > 1023 then (if ((Go.FloatKind.format .f64).order bt116.1 0 == some .lt) = true then ((math_Inf.f (-1)).bind fun t119 => (some t119)) else ((math_Inf.f 1).bind fun t120 => (some t120))) else (if (wrap64 ((wrap64 (a1 + bt116.2)) + (wrap64 ((Go.bits .and .i64 (wrap64 ((bt116.1 : Nat) / 4503599627370496)) 2047) - 1023)))) < (-1022) then (if (Go.floatBits .mul .f64 4368491638549381120 ((Go.bits .or .u64 (Go.bits .andNot .u64 (bt116.1 : Nat) 9218868437227405312) (IntKind.u64.wrap ((IntKind.u64.wrap (wrap64 ((wrap64 ((wrap64 ((wrap64 (a1 + bt116.2)) + (wrap64 ((Go.bits .and .i64 (wrap64 ((bt116.1 : Nat) / 4503599627370496)) 2047) - 1023)))) + 53)) + 1023))) * 4503599627370496)) : Int).toNat)).isSome = true then (some ((Go.floatBits .mul .f64 4368491638549381120 ((Go.bits .or .u64 (Go.bits .andNot .u64 (bt116.1 : Nat) 9218868437227405312) (IntKind.u64.wrap ((IntKind.u64.wrap (wrap64 ((wrap64 ((wrap64 ((wrap64 (a1 + bt116.2)) + (wrap64 ((Go.bits .and .i64 (wrap64 ((bt116.1 : Nat) / 4503599627370496)) 2047) - 1023)))) + 53)) + 1023))) * 4503599627370496)) : Int).toNat)).getD 0)) else (none)) else (if (Go.floatBits .mul .f64 4607182418800017408 ((Go.bits .or .u64 (Go.bits .andNot .u64 (bt116.1 : Nat) 9218868437227405312) (IntKind.u64.wrap ((IntKind.u64.wrap (wrap64 ((wrap64 ((wrap64 (a1 + bt116.2)) + (wrap64 ((Go.bits .and .i64 (wrap64 ((bt116.1 : Nat) / 4503599627370496)) 2047) - 1023)))) + 1023))) * 4503599627370496)) : Int).toNat)).isSome = true then (some ((Go.floatBits .mul .f64 4607182418800017408 ((Go.bits .or .u64 (Go.bits .andNot .u64 (bt116.1 : Nat) 9218868437227405312) (IntKind.u64.wrap ((IntKind.u64.wrap (wrap64 ((wrap64 ((wrap64 (a1 + bt116.2)) + (wrap64 ((Go.bits .and .i64 (wrap64 ((bt116.1 : Nat) / 4503599627370496)) 2047) - 1023)))) + 1023))) * 4503599627370496)) : Int).toNat)).getD 0)) else (none))))))))))) = some r := h
  clear h
  by_cases c3 : ((Go.FloatKind.format .f64).order a0 0 == some .eq) = true
  · rw [if_pos c3] at H
    have c3b0 : ((Go.FloatKind.format .f64).order a0 0 == some .eq) = true := c3
    (try (have c3b1 : decide ((Go.FloatKind.format .f64).order a0 0 = some .eq) = true := by simpa using c3))
    (try (have c3b2 : ((Go.FloatKind.format .f64).order a0 0 == some .eq) = true := by simpa using c3))
    clear c3
    obtain rfl := Option.some.inj H
    go_enter Try.func38, Try.ntmps38
    go_wp2
    go_ret
    exact ⟨by first | rfl | (simp; done) | (simp [*]; done), by repeat (first | exact Drawn0.refl _ | apply Drawn0.step)⟩
  · rw [if_neg c3] at H
    have c3b0 : ((Go.FloatKind.format .f64).order a0 0 == some .eq) = false := by simpa using c3
    (try (have c3b1 : decide ((Go.FloatKind.format .f64).order a0 0 = some .eq) = false := by simpa using c3))
    (try (have c3b2 : ((Go.FloatKind.format .f64).order a0 0 == some .eq) = false := by simpa using c3))
    (try (have c3b3 : ¬ ((Go.FloatKind.format .f64).order a0 0 = some .eq) := by simpa using c3))
    clear c3
    replace H := Option.bind_eq_some_iff.mp H
    obtain ⟨t114, A40, H⟩ := H
    replace H : (if t114 = true then (some a0) else ((math_IsNaN.f a0).bind fun t115 => (if t115 = true then (some a0) else ((math_normalize.f a0).bind fun bt116 => (if (wrap64 ((wrap64 (a1 + bt116.2)) + (wrap64 ((Go.bits .and .i64 (wrap64 ((bt116.1 : Nat) / 4503599627370496)) 2047) - 1023)))) < (-1075) then ((math_Copysign.f 0 bt116.1).bind fun t118 => (some t118)) else (if (wrap64 ((wrap64 (a1 + bt116.2)) + (wrap64 ((Go.bits .and .i64 (wrap64 ((bt116.1 : Nat) / 4503599627370496)) 2047) - 1023)))) > 1023 then (if ((Go.FloatKind.format .f64).order bt116.1 0 == some .lt) = true then ((math_Inf.f (-1)).bind fun t119 => (some t119)) else ((math_Inf.f 1).bind fun t120 => (some t120))) else (if (wrap64 ((wrap64 (a1 + bt116.2)) + (wrap64 ((Go.bits .and .i64 (wrap64 ((bt116.1 : Nat) / 4503599627370496)) 2047) - 1023)))) < (-1022) then (if (Go.floatBits .mul .f64 4368491638549381120 ((Go.bits .or .u64 (Go.bits .andNot .u64 (bt116.1 : Nat) 9218868437227405312) (IntKind.u64.wrap ((IntKind.u64.wrap (wrap64 ((wrap64 ((wrap64 ((wrap64 (a1 + bt116.2)) + (wrap64 ((Go.bits .and .i64 (wrap64 ((bt116.1 : Nat) / 4503599627370496)) 2047) - 1023)))) + 53)) + 1023))) * 4503599627370496)) : Int).toNat)).isSome = true then (some ((Go.floatBits .mul .f64 4368491638549381120 ((Go.bits .or .u64 (Go.bits .andNot .u64 (bt116.1 : Nat) 9218868437227405312) (IntKind.u64.wrap ((IntKind.u64.wrap (wrap64 ((wrap64 ((wrap64 ((wrap64 (a1 + bt116.2)) + (wrap64 ((Go.bits .and .i64 (wrap64 ((bt116.1 : Nat) / 4503599627370496)) 2047) - 1023)))) + 53)) + 1023))) * 4503599627370496)) : Int).toNat)).getD 0)) else (none)) else (if (Go.floatBits .mul .f64 4607182418800017408 ((Go.bits .or .u64 (Go.bits .andNot .u64 (bt116.1 : Nat) 9218868437227405312) (IntKind.u64.wrap ((IntKind.u64.wrap (wrap64 ((wrap64 ((wrap64 (a1 + bt116.2)) + (wrap64 ((Go.bits .and .i64 (wrap64 ((bt116.1 : Nat) / 4503599627370496)) 2047) - 1023)))) + 1023))) * 4503599627370496)) : Int).toNat)).isSome = true then (some ((Go.floatBits .mul .f64 4607182418800017408 ((Go.bits .or .u64 (Go.bits .andNot .u64 (bt116.1 : Nat) 9218868437227405312) (IntKind.u64.wrap ((IntKind.u64.wrap (wrap64 ((wrap64 ((wrap64 (a1 + bt116.2)) + (wrap64 ((Go.bits .and .i64 (wrap64 ((bt116.1 : Nat) / 4503599627370496)) 2047) - 1023)))) + 1023))) * 4503599627370496)) : Int).toNat)).getD 0)) else (none))))))))) = some r := H
    have A4 := Aside0.mk A40
    clear A40
    by_cases c5 : t114 = true
    · subst c5
      have H1 : (some a0) = some r := by rw [if_pos rfl] at H; exact H
      clear H
      have H := H1
      clear H1
      obtain rfl := Option.some.inj H
      go_enter Try.func38, Try.ntmps38
      go_wp2_with (first | ((with_reducible refine gate_callee (f := 9) rfl ?_); refine goesL_ (some 14) rfl rfl Try.func9 (by kernel_rfl) rfl #[.float .f64 a0, .int .i64 0] rfl (by (try simp only [List.map_toArray, List.map_cons, List.map_nil]); first | done | rfl | (simp only [List.length_drop, List.length_take]; rfl)) ?_; (with_reducible refine (math_IsInf.calls a0 0 true _ A4.out).mono ?_); rintro e w' ⟨rfl, ⟨nd, rfl⟩⟩; refine ⟨_, rfl, ?_⟩))
      go_ret
      exact ⟨by first | rfl | (simp; done) | (simp [*]; done), by repeat (first | exact Drawn0.refl _ | apply Drawn0.step)⟩
    · replace c5 := Bool.eq_false_iff.mpr c5
      subst c5
      have H1 : ((math_IsNaN.f a0).bind fun t115 => (if t115 = true then (some a0) else ((math_normalize.f a0).bind fun bt116 => (if (wrap64 ((wrap64 (a1 + bt116.2)) + (wrap64 ((Go.bits .and .i64 (wrap64 ((bt116.1 : Nat) / 4503599627370496)) 2047) - 1023)))) < (-1075) then ((math_Copysign.f 0 bt116.1).bind fun t118 => (some t118)) else (if (wrap64 ((wrap64 (a1 + bt116.2)) + (wrap64 ((Go.bits .and .i64 (wrap64 ((bt116.1 : Nat) / 4503599627370496)) 2047) - 1023)))) > 1023 then (if ((Go.FloatKind.format .f64).order bt116.1 0 == some .lt) = true then ((math_Inf.f (-1)).bind fun t119 => (some t119)) else ((math_Inf.f 1).bind fun t120 => (some t120))) else (if (wrap64 ((wrap64 (a1 + bt116.2)) + (wrap64 ((Go.bits .and .i64 (wrap64 ((bt116.1 : Nat) / 4503599627370496)) 2047) - 1023)))) < (-1022) then (if (Go.floatBits .mul .f64 4368491638549381120 ((Go.bits .or .u64 (Go.bits .andNot .u64 (bt116.1 : Nat) 9218868437227405312) (IntKind.u64.wrap ((IntKind.u64.wrap (wrap64 ((wrap64 ((wrap64 ((wrap64 (a1 + bt116.2)) + (wrap64 ((Go.bits .and .i64 (wrap64 ((bt116.1 : Nat) / 4503599627370496)) 2047) - 1023)))) + 53)) + 1023))) * 4503599627370496)) : Int).toNat)).isSome = true then (some ((Go.floatBits .mul .f64 4368491638549381120 ((Go.bits .or .u64 (Go.bits .andNot .u64 (bt116.1 : Nat) 9218868437227405312) (IntKind.u64.wrap ((IntKind.u64.wrap (wrap64 ((wrap64 ((wrap64 ((wrap64 (a1 + bt116.2)) + (wrap64 ((Go.bits .and .i64 (wrap64 ((bt116.1 : Nat) / 4503599627370496)) 2047) - 1023)))) + 53)) + 1023))) * 4503599627370496)) : Int).toNat)).getD 0)) else (none)) else (if (Go.floatBits .mul .f64 4607182418800017408 ((Go.bits .or .u64 (Go.bits .andNot .u64 (bt116.1 : Nat) 9218868437227405312) (IntKind.u64.wrap ((IntKind.u64.wrap (wrap64 ((wrap64 ((wrap64 (a1 + bt116.2)) + (wrap64 ((Go.bits .and .i64 (wrap64 ((bt116.1 : Nat) / 4503599627370496)) 2047) - 1023)))) + 1023))) * 4503599627370496)) : Int).toNat)).isSome = true then (some ((Go.floatBits .mul .f64 4607182418800017408 ((Go.bits .or .u64 (Go.bits .andNot .u64 (bt116.1 : Nat) 9218868437227405312) (IntKind.u64.wrap ((IntKind.u64.wrap (wrap64 ((wrap64 ((wrap64 (a1 + bt116.2)) + (wrap64 ((Go.bits .and .i64 (wrap64 ((bt116.1 : Nat) / 4503599627370496)) 2047) - 1023)))) + 1023))) * 4503599627370496)) : Int).toNat)).getD 0)) else (none)))))))) = some r := by rw [if_neg (show ¬ (false = true) by decide)] at H; exact H
      clear H
      have H := H1
      clear H1
      replace H := Option.bind_eq_some_iff.mp H
      obtain ⟨t115, A60, H⟩ := H
      replace H : (if t115 = true then (some a0) else ((math_normalize.f a0).bind fun bt116 => (if (wrap64 ((wrap64 (a1 + bt116.2)) + (wrap64 ((Go.bits .and .i64 (wrap64 ((bt116.1 : Nat) / 4503599627370496)) 2047) - 1023)))) < (-1075) then ((math_Copysign.f 0 bt116.1).bind fun t118 => (some t118)) else (if (wrap64 ((wrap64 (a1 + bt116.2)) + (wrap64 ((Go.bits .and .i64 (wrap64 ((bt116.1 : Nat) / 4503599627370496)) 2047) - 1023)))) > 1023 then (if ((Go.FloatKind.format .f64).order bt116.1 0 == some .lt) = true then ((math_Inf.f (-1)).bind fun t119 => (some t119)) else ((math_Inf.f 1).bind fun t120 => (some t120))) else (if (wrap64 ((wrap64 (a1 + bt116.2)) + (wrap64 ((Go.bits .and .i64 (wrap64 ((bt116.1 : Nat) / 4503599627370496)) 2047) - 1023)))) < (-1022) then (if (Go.floatBits .mul .f64 4368491638549381120 ((Go.bits .or .u64 (Go.bits .andNot .u64 (bt116.1 : Nat) 9218868437227405312) (IntKind.u64.wrap ((IntKind.u64.wrap (wrap64 ((wrap64 ((wrap64 ((wrap64 (a1 + bt116.2)) + (wrap64 ((Go.bits .and .i64 (wrap64 ((bt116.1 : Nat) / 4503599627370496)) 2047) - 1023)))) + 53)) + 1023))) * 4503599627370496)) : Int).toNat)).isSome = true then (some ((Go.floatBits .mul .f64 4368491638549381120 ((Go.bits .or .u64 (Go.bits .andNot .u64 (bt116.1 : Nat) 9218868437227405312) (IntKind.u64.wrap ((IntKind.u64.wrap (wrap64 ((wrap64 ((wrap64 ((wrap64 (a1 + bt116.2)) + (wrap64 ((Go.bits .and .i64 (wrap64 ((bt116.1 : Nat) / 4503599627370496)) 2047) - 1023)))) + 53)) + 1023))) * 4503599627370496)) : Int).toNat)).getD 0)) else (none)) else (if (Go.floatBits .mul .f64 4607182418800017408 ((Go.bits .or .u64 (Go.bits .andNot .u64 (bt116.1 : Nat) 9218868437227405312) (IntKind.u64.wrap ((IntKind.u64.wrap (wrap64 ((wrap64 ((wrap64 (a1 + bt116.2)) + (wrap64 ((Go.bits .and .i64 (wrap64 ((bt116.1 : Nat) / 4503599627370496)) 2047) - 1023)))) + 1023))) * 4503599627370496)) : Int).toNat)).isSome = true then (some ((Go.floatBits .mul .f64 4607182418800017408 ((Go.bits .or .u64 (Go.bits .andNot .u64 (bt116.1 : Nat) 9218868437227405312) (IntKind.u64.wrap ((IntKind.u64.wrap (wrap64 ((wrap64 ((wrap64 (a1 + bt116.2)) + (wrap64 ((Go.bits .and .i64 (wrap64 ((bt116.1 : Nat) / 4503599627370496)) 2047) - 1023)))) + 1023))) * 4503599627370496)) : Int).toNat)).getD 0)) else (none))))))) = some r := H
      have A6 := Aside0.mk A60
      clear A60
      by_cases c7 : t115 = true
      · subst c7
        have H1 : (some a0) = some r := by rw [if_pos rfl] at H; exact H
        clear H
        have H := H1
        clear H1
        obtain rfl := Option.some.inj H
        go_enter Try.func38, Try.ntmps38
        go_wp2_with (first | ((with_reducible refine gate_callee (f := 9) rfl ?_); refine goesL_ (some 14) rfl rfl Try.func9 (by kernel_rfl) rfl #[.float .f64 a0, .int .i64 0] rfl (by (try simp only [List.map_toArray, List.map_cons, List.map_nil]); first | done | rfl | (simp only [List.length_drop, List.length_take]; rfl)) ?_; (with_reducible refine (math_IsInf.calls a0 0 false _ A4.out).mono ?_); rintro e w' ⟨rfl, ⟨nd, rfl⟩⟩; refine ⟨_, rfl, ?_⟩) | (go_at_call 47; (with_reducible refine (math_IsNaN.calls a0 true _ A6.out).mono ?_); rintro e w' ⟨rfl, ⟨nd, rfl⟩⟩))
        go_ret
        exact ⟨by first | rfl | (simp; done) | (simp [*]; done), by repeat (first | exact Drawn0.refl _ | apply Drawn0.step)⟩
      · replace c7 := Bool.eq_false_iff.mpr c7
        subst c7
        have H1 : ((math_normalize.f a0).bind fun bt116 => (if (wrap64 ((wrap64 (a1 + bt116.2)) + (wrap64 ((Go.bits .and .i64 (wrap64 ((bt116.1 : Nat) / 4503599627370496)) 2047) - 1023)))) < (-1075) then ((math_Copysign.f 0 bt116.1).bind fun t118 => (some t118)) else (if (wrap64 ((wrap64 (a1 + bt116.2)) + (wrap64 ((Go.bits .and .i64 (wrap64 ((bt116.1 : Nat) / 4503599627370496)) 2047) - 1023)))) > 1023 then (if ((Go.FloatKind.format .f64).order bt116.1 0 == some .lt) = true then ((math_Inf.f (-1)).bind fun t119 => (some t119)) else ((math_Inf.f 1).bind fun t120 => (some t120))) else (if (wrap64 ((wrap64 (a1 + bt116.2)) + (wrap64 ((Go.bits .and .i64 (wrap64 ((bt116.1 : Nat) / 4503599627370496)) 2047) - 1023)))) < (-1022) then (if (Go.floatBits .mul .f64 4368491638549381120 ((Go.bits .or .u64 (Go.bits .andNot .u64 (bt116.1 : Nat) 9218868437227405312) (IntKind.u64.wrap ((IntKind.u64.wrap (wrap64 ((wrap64 ((wrap64 ((wrap64 (a1 + bt116.2)) + (wrap64 ((Go.bits .and .i64 (wrap64 ((bt116.1 : Nat) / 4503599627370496)) 2047) - 1023)))) + 53)) + 1023))) * 4503599627370496)) : Int).toNat)).isSome = true then (some ((Go.floatBits .mul .f64 4368491638549381120 ((Go.bits .or .u64 (Go.bits .andNot .u64 (bt116.1 : Nat) 9218868437227405312) (IntKind.u64.wrap ((IntKind.u64.wrap (wrap64 ((wrap64 ((wrap64 ((wrap64 (a1 + bt116.2)) + (wrap64 ((Go.bits .and .i64 (wrap64 ((bt116.1 : Nat) / 4503599627370496)) 2047) - 1023)))) + 53)) + 1023))) * 4503599627370496)) : Int).toNat)).getD 0)) else (none)) else (if (Go.floatBits .mul .f64 4607182418800017408 ((Go.bits .or .u64 (Go.bits .andNot .u64 (bt116.1 : Nat) 9218868437227405312) (IntKind.u64.wrap ((IntKind.u64.wrap (wrap64 ((wrap64 ((wrap64 (a1 + bt116.2)) + (wrap64 ((Go.bits .and .i64 (wrap64 ((bt116.1 : Nat) / 4503599627370496)) 2047) - 1023)))) + 1023))) * 4503599627370496)) : Int).toNat)).isSome = true then (some ((Go.floatBits .mul .f64 4607182418800017408 ((Go.bits .or .u64 (Go.bits .andNot .u64 (bt116.1 : Nat) 9218868437227405312) (IntKind.u64.wrap ((IntKind.u64.wrap (wrap64 ((wrap64 ((wrap64 (a1 + bt116.2)) + (wrap64 ((Go.bits .and .i64 (wrap64 ((bt116.1 : Nat) / 4503599627370496)) 2047) - 1023)))) + 1023))) * 4503599627370496)) : Int).toNat)).getD 0)) else (none)))))) = some r := by rw [if_neg (show ¬ (false = true) by decide)] at H; exact H
        clear H
        have H := H1
        clear H1
        replace H := Option.bind_eq_some_iff.mp H
        obtain ⟨⟨t116, t117⟩, A80, H⟩ := H
        replace H : (if (wrap64 ((wrap64 (a1 + t117)) + (wrap64 ((Go.bits .and .i64 (wrap64 ((t116 : Nat) / 4503599627370496)) 2047) - 1023)))) < (-1075) then ((math_Copysign.f 0 t116).bind fun t118 => (some t118)) else (if (wrap64 ((wrap64 (a1 + t117)) + (wrap64 ((Go.bits .and .i64 (wrap64 ((t116 : Nat) / 4503599627370496)) 2047) - 1023)))) > 1023 then (if ((Go.FloatKind.format .f64).order t116 0 == some .lt) = true then ((math_Inf.f (-1)).bind fun t119 => (some t119)) else ((math_Inf.f 1).bind fun t120 => (some t120))) else (if (wrap64 ((wrap64 (a1 + t117)) + (wrap64 ((Go.bits .and .i64 (wrap64 ((t116 : Nat) / 4503599627370496)) 2047) - 1023)))) < (-1022) then (if (Go.floatBits .mul .f64 4368491638549381120 ((Go.bits .or .u64 (Go.bits .andNot .u64 (t116 : Nat) 9218868437227405312) (IntKind.u64.wrap ((IntKind.u64.wrap (wrap64 ((wrap64 ((wrap64 ((wrap64 (a1 + t117)) + (wrap64 ((Go.bits .and .i64 (wrap64 ((t116 : Nat) / 4503599627370496)) 2047) - 1023)))) + 53)) + 1023))) * 4503599627370496)) : Int).toNat)).isSome = true then (some ((Go.floatBits .mul .f64 4368491638549381120 ((Go.bits .or .u64 (Go.bits .andNot .u64 (t116 : Nat) 9218868437227405312) (IntKind.u64.wrap ((IntKind.u64.wrap (wrap64 ((wrap64 ((wrap64 ((wrap64 (a1 + t117)) + (wrap64 ((Go.bits .and .i64 (wrap64 ((t116 : Nat) / 4503599627370496)) 2047) - 1023)))) + 53)) + 1023))) * 4503599627370496)) : Int).toNat)).getD 0)) else (none)) else (if (Go.floatBits .mul .f64 4607182418800017408 ((Go.bits .or .u64 (Go.bits .andNot .u64 (t116 : Nat) 9218868437227405312) (IntKind.u64.wrap ((IntKind.u64.wrap (wrap64 ((wrap64 ((wrap64 (a1 + t117)) + (wrap64 ((Go.bits .and .i64 (wrap64 ((t116 : Nat) / 4503599627370496)) 2047) - 1023)))) + 1023))) * 4503599627370496)) : Int).toNat)).isSome = true then (some ((Go.floatBits .mul .f64 4607182418800017408 ((Go.bits .or .u64 (Go.bits .andNot .u64 (t116 : Nat) 9218868437227405312) (IntKind.u64.wrap ((IntKind.u64.wrap (wrap64 ((wrap64 ((wrap64 (a1 + t117)) + (wrap64 ((Go.bits .and .i64 (wrap64 ((t116 : Nat) / 4503599627370496)) 2047) - 1023)))) + 1023))) * 4503599627370496)) : Int).toNat)).getD 0)) else (none))))) = some r := H
        have A8 := Aside0.mk A80
        clear A80
        by_cases c9 : (wrap64 ((wrap64 (a1 + t117)) + (wrap64 ((Go.bits .and .i64 (wrap64 ((t116 : Nat) / 4503599627370496)) 2047) - 1023)))) < (-1075)
        · rw [if_pos c9] at H
          have c9b0 : decide ((wrap64 ((wrap64 (a1 + t117)) + (wrap64 ((Go.bits .and .i64 (wrap64 ((t116 : Nat) / 4503599627370496)) 2047) - 1023)))) < (-1075)) = true := decide_eq_true c9
          clear c9
          replace H := Option.bind_eq_some_iff.mp H
          obtain ⟨t118, A100, H⟩ := H
          replace H : (some t118) = some r := H
          have A10 := Aside0.mk A100
          clear A100
          obtain rfl := Option.some.inj H
          go_enter Try.func38, Try.ntmps38
          go_wp2_with (first | ((with_reducible refine gate_callee (f := 9) rfl ?_); refine goesL_ (some 14) rfl rfl Try.func9 (by kernel_rfl) rfl #[.float .f64 a0, .int .i64 0] rfl (by (try simp only [List.map_toArray, List.map_cons, List.map_nil]); first | done | rfl | (simp only [List.length_drop, List.length_take]; rfl)) ?_; (with_reducible refine (math_IsInf.calls a0 0 false _ A4.out).mono ?_); rintro e w' ⟨rfl, ⟨nd, rfl⟩⟩; refine ⟨_, rfl, ?_⟩) | (go_at_call 47; (with_reducible refine (math_IsNaN.calls a0 false _ A6.out).mono ?_); rintro e w' ⟨rfl, ⟨nd, rfl⟩⟩) | ((with_reducible refine gate_callee (f := 48) rfl ?_); refine goesL_ (some 22) rfl rfl Try.func48 (by kernel_rfl) rfl #[.float .f64 a0] rfl (by (try simp only [List.map_toArray, List.map_cons, List.map_nil]); first | done | rfl | (simp only [List.length_drop, List.length_take]; rfl)) ?_; (with_reducible refine (math_normalize.calls a0 t116 t117 _ A8.out).mono ?_); rintro e w' ⟨rfl, ⟨nd, rfl⟩⟩; refine ⟨_, rfl, ?_⟩) | ((with_reducible refine gate_callee (f := 49) rfl ?_); refine goesL_ (some 40) rfl rfl Try.func49 (by kernel_rfl) rfl #[.float .f64 0, .float .f64 t116] rfl (by (try simp only [List.map_toArray, List.map_cons, List.map_nil]); first | done | rfl | (simp only [List.length_drop, List.length_take]; rfl)) ?_; (with_reducible refine (math_Copysign.calls 0 t116 t118 _ A10.out).mono ?_); rintro e w' ⟨rfl, ⟨nd, rfl⟩⟩; refine ⟨_, rfl, ?_⟩))
          go_ret
          exact ⟨by first | rfl | (simp; done) | (simp [*]; done), by repeat (first | exact Drawn0.refl _ | apply Drawn0.step)⟩
        · rw [if_neg c9] at H
          have c9b0 : decide ((wrap64 ((wrap64 (a1 + t117)) + (wrap64 ((Go.bits .and .i64 (wrap64 ((t116 : Nat) / 4503599627370496)) 2047) - 1023)))) < (-1075)) = false := decide_eq_false c9
          clear c9
          by_cases c11 : (wrap64 ((wrap64 (a1 + t117)) + (wrap64 ((Go.bits .and .i64 (wrap64 ((t116 : Nat) / 4503599627370496)) 2047) - 1023)))) > 1023
          · rw [if_pos c11] at H
            have c11b0 : decide (1023 < (wrap64 ((wrap64 (a1 + t117)) + (wrap64 ((Go.bits .and .i64 (wrap64 ((t116 : Nat) / 4503599627370496)) 2047) - 1023))))) = true := decide_eq_true c11
            clear c11
            by_cases c12 : ((Go.FloatKind.format .f64).order t116 0 == some .lt) = true
            · rw [if_pos c12] at H
              have c12b0 : ((Go.FloatKind.format .f64).order t116 0 == some .lt) = true := c12
              (try (have c12b1 : decide ((Go.FloatKind.format .f64).order t116 0 = some .lt) = true := by simpa using c12))
              (try (have c12b2 : ((Go.FloatKind.format .f64).order t116 0 == some .lt) = true := by simpa using c12))
              clear c12
              replace H := Option.bind_eq_some_iff.mp H
              obtain ⟨t119, A130, H⟩ := H
              replace H : (some t119) = some r := H
              have A13 := Aside0.mk A130
              clear A130
              obtain rfl := Option.some.inj H
              go_enter Try.func38, Try.ntmps38
              go_wp2_with (first | ((with_reducible refine gate_callee (f := 9) rfl ?_); refine goesL_ (some 14) rfl rfl Try.func9 (by kernel_rfl) rfl #[.float .f64 a0, .int .i64 0] rfl (by (try simp only [List.map_toArray, List.map_cons, List.map_nil]); first | done | rfl | (simp only [List.length_drop, List.length_take]; rfl)) ?_; (with_reducible refine (math_IsInf.calls a0 0 false _ A4.out).mono ?_); rintro e w' ⟨rfl, ⟨nd, rfl⟩⟩; refine ⟨_, rfl, ?_⟩) | (go_at_call 47; (with_reducible refine (math_IsNaN.calls a0 false _ A6.out).mono ?_); rintro e w' ⟨rfl, ⟨nd, rfl⟩⟩) | ((with_reducible refine gate_callee (f := 48) rfl ?_); refine goesL_ (some 22) rfl rfl Try.func48 (by kernel_rfl) rfl #[.float .f64 a0] rfl (by (try simp only [List.map_toArray, List.map_cons, List.map_nil]); first | done | rfl | (simp only [List.length_drop, List.length_take]; rfl)) ?_; (with_reducible refine (math_normalize.calls a0 t116 t117 _ A8.out).mono ?_); rintro e w' ⟨rfl, ⟨nd, rfl⟩⟩; refine ⟨_, rfl, ?_⟩) | ((with_reducible refine gate_callee (f := 17) rfl ?_); refine goesL_ (some 45) rfl rfl Try.func17 (by kernel_rfl) rfl #[.int .i64 (-1)] rfl (by (try simp only [List.map_toArray, List.map_cons, List.map_nil]); first | done | rfl | (simp only [List.length_drop, List.length_take]; rfl)) ?_; (with_reducible refine (math_Inf.calls (-1) t119 _ A13.out).mono ?_); rintro e w' ⟨rfl, ⟨nd, rfl⟩⟩; refine ⟨_, rfl, ?_⟩))
              go_ret
              exact ⟨by first | rfl | (simp; done) | (simp [*]; done), by repeat (first | exact Drawn0.refl _ | apply Drawn0.step)⟩
            · rw [if_neg c12] at H
              have c12b0 : ((Go.FloatKind.format .f64).order t116 0 == some .lt) = false := by simpa using c12
              (try (have c12b1 : decide ((Go.FloatKind.format .f64).order t116 0 = some .lt) = false := by simpa using c12))
              (try (have c12b2 : ((Go.FloatKind.format .f64).order t116 0 == some .lt) = false := by simpa using c12))
              (try (have c12b3 : ¬ ((Go.FloatKind.format .f64).order t116 0 = some .lt) := by simpa using c12))
              clear c12
              replace H := Option.bind_eq_some_iff.mp H
              obtain ⟨t120, A140, H⟩ := H
              replace H : (some t120) = some r := H
              have A14 := Aside0.mk A140
              clear A140
              obtain rfl := Option.some.inj H
              go_enter Try.func38, Try.ntmps38
              go_wp2_with (first | ((with_reducible refine gate_callee (f := 9) rfl ?_); refine goesL_ (some 14) rfl rfl Try.func9 (by kernel_rfl) rfl #[.float .f64 a0, .int .i64 0] rfl (by (try simp only [List.map_toArray, List.map_cons, List.map_nil]); first | done | rfl | (simp only [List.length_drop, List.length_take]; rfl)) ?_; (with_reducible refine (math_IsInf.calls a0 0 false _ A4.out).mono ?_); rintro e w' ⟨rfl, ⟨nd, rfl⟩⟩; refine ⟨_, rfl, ?_⟩) | (go_at_call 47; (with_reducible refine (math_IsNaN.calls a0 false _ A6.out).mono ?_); rintro e w' ⟨rfl, ⟨nd, rfl⟩⟩) | ((with_reducible refine gate_callee (f := 48) rfl ?_); refine goesL_ (some 22) rfl rfl Try.func48 (by kernel_rfl) rfl #[.float .f64 a0] rfl (by (try simp only [List.map_toArray, List.map_cons, List.map_nil]); first | done | rfl | (simp only [List.length_drop, List.length_take]; rfl)) ?_; (with_reducible refine (math_normalize.calls a0 t116 t117 _ A8.out).mono ?_); rintro e w' ⟨rfl, ⟨nd, rfl⟩⟩; refine ⟨_, rfl, ?_⟩) | ((with_reducible refine gate_callee (f := 17) rfl ?_); refine goesL_ (some 46) rfl rfl Try.func17 (by kernel_rfl) rfl #[.int .i64 1] rfl (by (try simp only [List.map_toArray, List.map_cons, List.map_nil]); first | done | rfl | (simp only [List.length_drop, List.length_take]; rfl)) ?_; (with_reducible refine (math_Inf.calls 1 t120 _ A14.out).mono ?_); rintro e w' ⟨rfl, ⟨nd, rfl⟩⟩; refine ⟨_, rfl, ?_⟩))
              go_ret
              exact ⟨by first | rfl | (simp; done) | (simp [*]; done), by repeat (first | exact Drawn0.refl _ | apply Drawn0.step)⟩
          · rw [if_neg c11] at H
            have c11b0 : decide (1023 < (wrap64 ((wrap64 (a1 + t117)) + (wrap64 ((Go.bits .and .i64 (wrap64 ((t116 : Nat) / 4503599627370496)) 2047) - 1023))))) = false := decide_eq_false c11
            clear c11
            by_cases c15 : (wrap64 ((wrap64 (a1 + t117)) + (wrap64 ((Go.bits .and .i64 (wrap64 ((t116 : Nat) / 4503599627370496)) 2047) - 1023)))) < (-1022)
            · rw [if_pos c15] at H
              have c15b0 : decide ((wrap64 ((wrap64 (a1 + t117)) + (wrap64 ((Go.bits .and .i64 (wrap64 ((t116 : Nat) / 4503599627370496)) 2047) - 1023)))) < (-1022)) = true := decide_eq_true c15
              clear c15
              by_cases c16 : (Go.floatBits .mul .f64 4368491638549381120 ((Go.bits .or .u64 (Go.bits .andNot .u64 (t116 : Nat) 9218868437227405312) (IntKind.u64.wrap ((IntKind.u64.wrap (wrap64 ((wrap64 ((wrap64 ((wrap64 (a1 + t117)) + (wrap64 ((Go.bits .and .i64 (wrap64 ((t116 : Nat) / 4503599627370496)) 2047) - 1023)))) + 53)) + 1023))) * 4503599627370496)) : Int).toNat)).isSome = true
              · rw [if_pos c16] at H
                have c16b0 := eq_true c16
                have c16b1 : decide ((Go.floatBits .mul .f64 4368491638549381120 ((Go.bits .or .u64 (Go.bits .andNot .u64 (t116 : Nat) 9218868437227405312) (IntKind.u64.wrap ((IntKind.u64.wrap (wrap64 ((wrap64 ((wrap64 ((wrap64 (a1 + t117)) + (wrap64 ((Go.bits .and .i64 (wrap64 ((t116 : Nat) / 4503599627370496)) 2047) - 1023)))) + 53)) + 1023))) * 4503599627370496)) : Int).toNat)).isSome = true) = true := decide_eq_true c16
                obtain rfl := Option.some.inj H
                go_enter Try.func38, Try.ntmps38
                go_wp2_with (first | ((with_reducible refine gate_callee (f := 9) rfl ?_); refine goesL_ (some 14) rfl rfl Try.func9 (by kernel_rfl) rfl #[.float .f64 a0, .int .i64 0] rfl (by (try simp only [List.map_toArray, List.map_cons, List.map_nil]); first | done | rfl | (simp only [List.length_drop, List.length_take]; rfl)) ?_; (with_reducible refine (math_IsInf.calls a0 0 false _ A4.out).mono ?_); rintro e w' ⟨rfl, ⟨nd, rfl⟩⟩; refine ⟨_, rfl, ?_⟩) | (go_at_call 47; (with_reducible refine (math_IsNaN.calls a0 false _ A6.out).mono ?_); rintro e w' ⟨rfl, ⟨nd, rfl⟩⟩) | ((with_reducible refine gate_callee (f := 48) rfl ?_); refine goesL_ (some 22) rfl rfl Try.func48 (by kernel_rfl) rfl #[.float .f64 a0] rfl (by (try simp only [List.map_toArray, List.map_cons, List.map_nil]); first | done | rfl | (simp only [List.length_drop, List.length_take]; rfl)) ?_; (with_reducible refine (math_normalize.calls a0 t116 t117 _ A8.out).mono ?_); rintro e w' ⟨rfl, ⟨nd, rfl⟩⟩; refine ⟨_, rfl, ?_⟩))
                go_ret
                exact ⟨by first | rfl | (simp; done) | (simp [*]; done), by repeat (first | exact Drawn0.refl _ | apply Drawn0.step)⟩
              · rw [if_neg c16] at H
                exact absurd H (by simp)
            · rw [if_neg c15] at H
              have c15b0 : decide ((wrap64 ((wrap64 (a1 + t117)) + (wrap64 ((Go.bits .and .i64 (wrap64 ((t116 : Nat) / 4503599627370496)) 2047) - 1023)))) < (-1022)) = false := decide_eq_false c15
              clear c15
              by_cases c17 : (Go.floatBits .mul .f64 4607182418800017408 ((Go.bits .or .u64 (Go.bits .andNot .u64 (t116 : Nat) 9218868437227405312) (IntKind.u64.wrap ((IntKind.u64.wrap (wrap64 ((wrap64 ((wrap64 (a1 + t117)) + (wrap64 ((Go.bits .and .i64 (wrap64 ((t116 : Nat) / 4503599627370496)) 2047) - 1023)))) + 1023))) * 4503599627370496)) : Int).toNat)).isSome = true
              · rw [if_pos c17] at H
                have c17b0 := eq_true c17
                have c17b1 : decide ((Go.floatBits .mul .f64 4607182418800017408 ((Go.bits .or .u64 (Go.bits .andNot .u64 (t116 : Nat) 9218868437227405312) (IntKind.u64.wrap ((IntKind.u64.wrap (wrap64 ((wrap64 ((wrap64 (a1 + t117)) + (wrap64 ((Go.bits .and .i64 (wrap64 ((t116 : Nat) / 4503599627370496)) 2047) - 1023)))) + 1023))) * 4503599627370496)) : Int).toNat)).isSome = true) = true := decide_eq_true c17
                obtain rfl := Option.some.inj H
                go_enter Try.func38, Try.ntmps38
                go_wp2_with (first | ((with_reducible refine gate_callee (f := 9) rfl ?_); refine goesL_ (some 14) rfl rfl Try.func9 (by kernel_rfl) rfl #[.float .f64 a0, .int .i64 0] rfl (by (try simp only [List.map_toArray, List.map_cons, List.map_nil]); first | done | rfl | (simp only [List.length_drop, List.length_take]; rfl)) ?_; (with_reducible refine (math_IsInf.calls a0 0 false _ A4.out).mono ?_); rintro e w' ⟨rfl, ⟨nd, rfl⟩⟩; refine ⟨_, rfl, ?_⟩) | (go_at_call 47; (with_reducible refine (math_IsNaN.calls a0 false _ A6.out).mono ?_); rintro e w' ⟨rfl, ⟨nd, rfl⟩⟩) | ((with_reducible refine gate_callee (f := 48) rfl ?_); refine goesL_ (some 22) rfl rfl Try.func48 (by kernel_rfl) rfl #[.float .f64 a0] rfl (by (try simp only [List.map_toArray, List.map_cons, List.map_nil]); first | done | rfl | (simp only [List.length_drop, List.length_take]; rfl)) ?_; (with_reducible refine (math_normalize.calls a0 t116 t117 _ A8.out).mono ?_); rintro e w' ⟨rfl, ⟨nd, rfl⟩⟩; refine ⟨_, rfl, ?_⟩))
                go_ret
                exact ⟨by first | rfl | (simp; done) | (simp [*]; done), by repeat (first | exact Drawn0.refl _ | apply Drawn0.step)⟩
              · rw [if_neg c17] at H
                exact absurd H (by simp)

/-! ### math_Ldexp: function 16 -/
def math_Ldexp.f (a0 : Nat) (a1 : Int) : Option (Nat) := (math_ldexp.f a0 a1).bind fun t121 => (some t121)
set_option maxHeartbeats 8000000 in
set_option maxRecDepth 100000 in
theorem math_Ldexp.calls (a0 : Nat) (a1 : Int) (r : Nat) (w : World) (h : math_Ldexp.f a0 a1 = some r) :
    Calls Try.prog 16 #[.float .f64 a0, .int .i64 a1] w fun e w' => e = .returned (.float .f64 r) ∧ Drawn0 w w' := by
  have H : ((math_ldexp.f a0 a1).bind fun t121 => (some t121)) = some r := h
  clear h
  replace H := Option.bind_eq_some_iff.mp H
  obtain ⟨t121, A30, H⟩ := H
  replace H : (some t121) = some r := H
  have A3 := Aside0.mk A30
  clear A30
  obtain rfl := Option.some.inj H
  go_enter Try.func16, Try.ntmps16
  go_wp2_with (first | ((with_reducible refine gate_callee (f := 38) rfl ?_); refine goesL_ (some 10) rfl rfl Try.func38 (by kernel_rfl) rfl #[.float .f64 a0, .int .i64 a1] rfl (by (try simp only [List.map_toArray, List.map_cons, List.map_nil]); first | done | rfl | (simp only [List.length_drop, List.length_take]; rfl)) ?_; (with_reducible refine (math_ldexp.calls a0 a1 t121 _ A3.out).mono ?_); rintro e w' ⟨rfl, ⟨nd, rfl⟩⟩; refine ⟨_, rfl, ?_⟩))
  go_ret
  exact ⟨by first | rfl | (simp; done) | (simp [*]; done), by repeat (first | exact Drawn0.refl _ | apply Drawn0.step)⟩

/-! ### math_NaN: function 18 -/
def math_NaN.f  : Option (Nat) := some ((9221120237041090561 : Int).toNat)
set_option maxHeartbeats 8000000 in
set_option maxRecDepth 100000 in
theorem math_NaN.calls  (r : Nat) (w : World) (h : math_NaN.f  = some r) :
    Calls Try.prog 18 #[] w fun e w' => e = .returned (.float .f64 r) ∧ Drawn0 w w' := by
  have H : (some ((9221120237041090561 : Int).toNat)) = some r := h
  clear h
  obtain rfl := Option.some.inj H
  go_enter Try.func18, Try.ntmps18
  go_wp2
  go_ret
  exact ⟨by first | rfl | (simp; done) | (simp [*]; done), by repeat (first | exact Drawn0.refl _ | apply Drawn0.step)⟩

/-! ### spec_HalfValue: function 7 -/
def spec_HalfValue.j0 : Nat → Int → Nat → Option (Nat)
  | 0, _, _ => none
  | k + 1, x0, x3 => if (Go.bits .and .i64 (wrap64 (x0 / 1024)) 31) = 0 then ((math_Ldexp.f (Go.floatOfInt .f64 (Go.bits .and .u16 x0 1023)) (-24)).bind fun t122 => (if (Go.floatBits .mul .f64 x3 t122).isSome = true then (some ((Go.floatBits .mul .f64 x3 t122).getD 0)) else (none))) else (if (Go.bits .and .i64 (wrap64 (x0 / 1024)) 31) = 31 then (if ((Go.FloatKind.format .f64).order (Go.floatOfInt .f64 (Go.bits .and .u16 x0 1023)) 0 == some .eq) = true then (if (Go.floatToIntVal .f64 x3 .i64).isSome = true then ((math_Inf.f ((Go.floatToIntVal .f64 x3 .i64).getD 0)).bind fun t123 => (some t123)) else (none)) else ((math_NaN.f).bind fun t124 => (some t124))) else (if (Go.floatBits .add .f64 4652218415073722368 (Go.floatOfInt .f64 (Go.bits .and .u16 x0 1023))).isSome = true then ((math_Ldexp.f ((Go.floatBits .add .f64 4652218415073722368 (Go.floatOfInt .f64 (Go.bits .and .u16 x0 1023))).getD 0) (wrap64 ((Go.bits .and .i64 (wrap64 (x0 / 1024)) 31) - 25))).bind fun t125 => (if (Go.floatBits .mul .f64 x3 t125).isSome = true then (some ((Go.floatBits .mul .f64 x3 t125).getD 0)) else (none))) else (none)))
def spec_HalfValue.f (k : Nat) (a0 : Int) : Option (Nat) := if (a0 / 32768) = 1 then (spec_HalfValue.j0 k a0 13830554455654793216) else (spec_HalfValue.j0 k a0 4607182418800017408)
theorem spec_HalfValue.mono_l : ∀ k, (∀ y0 y1, LeO (spec_HalfValue.j0 k y0 y1) (spec_HalfValue.j0 (k + 1) y0 y1))
  | 0 => fun _ _ r h => by simp [spec_HalfValue.j0] at h
  | k + 1 => by
    have ih0 := spec_HalfValue.mono_l k
    · intro y0 y1
      unfold spec_HalfValue.j0
      repeat' first
      | (with_reducible exact ih0 _ _)
      | (with_reducible exact LeO.refl _)
      | (with_reducible exact LeO.none _)
      | (with_reducible refine LeO.ite ?_ ?_)
      | (with_reducible refine LeO.bind ?_ (fun _ => ?_))
      | exact ih0 _ _
      | exact LeO.none _
      | refine LeO.ite ?_ ?_
      | refine LeO.bind ?_ (fun _ => ?_)
theorem spec_HalfValue.mono : ∀ a0 k, LeO (spec_HalfValue.f k a0) (spec_HalfValue.f (k + 1) a0) := by
  intro a0 k
  have ih0 := spec_HalfValue.mono_l k
  unfold spec_HalfValue.f
  repeat' first
      | (with_reducible exact ih0 _ _)
      | (with_reducible exact LeO.refl _)
      | (with_reducible exact LeO.none _)
      | (with_reducible refine LeO.ite ?_ ?_)
      | (with_reducible refine LeO.bind ?_ (fun _ => ?_))
      | exact ih0 _ _
      | exact LeO.none _
      | refine LeO.ite ?_ ?_
      | refine LeO.bind ?_ (fun _ => ?_)
set_option maxHeartbeats 8000000 in
set_option maxRecDepth 100000 in
theorem spec_HalfValue.calls (k : Nat) (a0 : Int) (r : Nat) (w : World) (h : spec_HalfValue.f k a0 = some r) :
    Calls Try.prog 7 #[.int .u16 a0] w fun e w' => e = .returned (.float .f64 r) ∧ Drawn0 w w' := by
  have H : (if (a0 / 32768) = 1 then (spec_HalfValue.j0 k a0 13830554455654793216) else (spec_HalfValue.j0 k a0 4607182418800017408)) = some r := h
  clear h
  have HC2 := Aside0.mk H
  clear H
  go_enter Try.func7, Try.ntmps7
  go_upto_if 8 with (fail)
  go_cut [3] (fun v3 wc => ∃ (kq : Nat) (x3_1 : Nat), v3 = .float .f64 x3_1 ∧ Aside0 (spec_HalfValue.j0 kq a0 x3_1 = some r) ∧ Aside0 (kq ≤ k) ∧ Drawn0 w wc)
  case first =>
    have H := HC2.out
    clear HC2
    by_cases c3 : (a0 / 32768) = 1
    · rw [if_pos c3] at H
      have c3b0 : ((a0 / 32768) == 1) = true := beq_iff_eq.mpr c3
      have c3b1 : ((a0 / 32768) != 1) = false := bne_eq_false_iff_eq.mpr c3
      clear c3
      (first | rw [c3b0] | (simp only [i64_w, i32_w]; rw [c3b0]) | skip)
      have H' := Aside0.mk H
      clear H
      go_wp2
      go_meet
      case rel => exact ⟨_, (13830554455654793216), (by first | rfl | (simp; done) | (simp [*]; done)), H', ⟨by first | omega | exact Nat.le_refl _⟩, by repeat (first | exact Drawn0.refl _ | apply Drawn0.step)⟩
    · rw [if_neg c3] at H
      have c3b0 : ((a0 / 32768) == 1) = false := beq_eq_false_iff_ne.mpr c3
      have c3b1 : ((a0 / 32768) != 1) = true := bne_iff_ne.mpr c3
      (first | rw [c3b0] | (simp only [i64_w, i32_w]; rw [c3b0]) | skip)
      have H' := Aside0.mk H
      clear H
      go_wp2
      go_meet
      case rel => exact ⟨_, (4607182418800017408), (by first | rfl | (simp; done) | (simp [*]; done)), H', ⟨by first | omega | exact Nat.le_refl _⟩, by repeat (first | exact Drawn0.refl _ | apply Drawn0.step)⟩
  case rest =>
    clear HC2
    try clear p2
    try clear c3
    try clear c3b0
    try clear c3b1
    obtain ⟨kq, x3_1, rfl, HA, HJ1, ⟨mc1, rfl⟩⟩ := hcut
    cases kq with
    | zero => exact absurd HA.out (by simp [spec_HalfValue.j0])
    | succ kj1 =>
      have H := HA.out
      clear HA
      simp only [spec_HalfValue.j0] at H
      by_cases c4 : (Go.bits .and .i64 (wrap64 (a0 / 1024)) 31) = 0
      · rw [if_pos c4] at H
        have c4b0 : ((Go.bits .and .i64 (wrap64 (a0 / 1024)) 31) == 0) = true := beq_iff_eq.mpr c4
        have c4b1 : ((Go.bits .and .i64 (wrap64 (a0 / 1024)) 31) != 0) = false := bne_eq_false_iff_eq.mpr c4
        clear c4
        replace H := Option.bind_eq_some_iff.mp H
        obtain ⟨t122, A50, H⟩ := H
        replace H : (if (Go.floatBits .mul .f64 x3_1 t122).isSome = true then (some ((Go.floatBits .mul .f64 x3_1 t122).getD 0)) else (none)) = some r := H
        have A5 := Aside0.mk A50
        clear A50
        by_cases c6 : (Go.floatBits .mul .f64 x3_1 t122).isSome = true
        · rw [if_pos c6] at H
          have c6b0 := eq_true c6
          have c6b1 : decide ((Go.floatBits .mul .f64 x3_1 t122).isSome = true) = true := decide_eq_true c6
          clear c6
          obtain rfl := Option.some.inj H
          go_wp2_with (first | ((with_reducible refine gate_callee (f := 16) rfl ?_); refine goesL_ (some 21) rfl rfl Try.func16 (by kernel_rfl) rfl #[.float .f64 (Go.floatOfInt .f64 (Go.bits .and .u16 a0 1023)), .int .i64 (-24)] rfl (by (try simp only [List.map_toArray, List.map_cons, List.map_nil]); first | done | rfl | (simp only [List.length_drop, List.length_take]; rfl)) ?_; (with_reducible refine (math_Ldexp.calls (Go.floatOfInt .f64 (Go.bits .and .u16 a0 1023)) (-24) t122 _ A5.out).mono ?_); rintro e w' ⟨rfl, ⟨nd, rfl⟩⟩; refine ⟨_, rfl, ?_⟩))
          go_ret
          exact ⟨by first | rfl | (simp; done) | (simp [*]; done), by repeat (first | exact Drawn0.refl _ | apply Drawn0.step)⟩
        · rw [if_neg c6] at H
          exact absurd H (by simp)
      · rw [if_neg c4] at H
        have c4b0 : ((Go.bits .and .i64 (wrap64 (a0 / 1024)) 31) == 0) = false := beq_eq_false_iff_ne.mpr c4
        have c4b1 : ((Go.bits .and .i64 (wrap64 (a0 / 1024)) 31) != 0) = true := bne_iff_ne.mpr c4
        by_cases c7 : (Go.bits .and .i64 (wrap64 (a0 / 1024)) 31) = 31
        · rw [if_pos c7] at H
          have c7b0 : ((Go.bits .and .i64 (wrap64 (a0 / 1024)) 31) == 31) = true := beq_iff_eq.mpr c7
          have c7b1 : ((Go.bits .and .i64 (wrap64 (a0 / 1024)) 31) != 31) = false := bne_eq_false_iff_eq.mpr c7
          clear c7
          by_cases c8 : ((Go.FloatKind.format .f64).order (Go.floatOfInt .f64 (Go.bits .and .u16 a0 1023)) 0 == some .eq) = true
          · rw [if_pos c8] at H
            have c8b0 : ((Go.FloatKind.format .f64).order (Go.floatOfInt .f64 (Go.bits .and .u16 a0 1023)) 0 == some .eq) = true := c8
            (try (have c8b1 : decide ((Go.FloatKind.format .f64).order (Go.floatOfInt .f64 (Go.bits .and .u16 a0 1023)) 0 = some .eq) = true := by simpa using c8))
            (try (have c8b2 : ((Go.FloatKind.format .f64).order (Go.floatOfInt .f64 (Go.bits .and .u16 a0 1023)) 0 == some .eq) = true := by simpa using c8))
            clear c8
            by_cases c9 : (Go.floatToIntVal .f64 x3_1 .i64).isSome = true
            · rw [if_pos c9] at H
              have c9b0 := eq_true c9
              have c9b1 : decide ((Go.floatToIntVal .f64 x3_1 .i64).isSome = true) = true := decide_eq_true c9
              clear c9
              replace H := Option.bind_eq_some_iff.mp H
              obtain ⟨t123, A100, H⟩ := H
              replace H : (some t123) = some r := H
              have A10 := Aside0.mk A100
              clear A100
              obtain rfl := Option.some.inj H
              go_wp2_with (first | ((with_reducible refine gate_callee (f := 17) rfl ?_); refine goesL_ (some 29) rfl rfl Try.func17 (by kernel_rfl) rfl #[.int .i64 ((Go.floatToIntVal .f64 x3_1 .i64).getD 0)] rfl (by (try simp only [List.map_toArray, List.map_cons, List.map_nil]); first | done | rfl | (simp only [List.length_drop, List.length_take]; rfl)) ?_; (with_reducible refine (math_Inf.calls ((Go.floatToIntVal .f64 x3_1 .i64).getD 0) t123 _ A10.out).mono ?_); rintro e w' ⟨rfl, ⟨nd, rfl⟩⟩; refine ⟨_, rfl, ?_⟩))
              go_ret
              exact ⟨by first | rfl | (simp; done) | (simp [*]; done), by repeat (first | exact Drawn0.refl _ | apply Drawn0.step)⟩
            · rw [if_neg c9] at H
              exact absurd H (by simp)
          · rw [if_neg c8] at H
            have c8b0 : ((Go.FloatKind.format .f64).order (Go.floatOfInt .f64 (Go.bits .and .u16 a0 1023)) 0 == some .eq) = false := by simpa using c8
            (try (have c8b1 : decide ((Go.FloatKind.format .f64).order (Go.floatOfInt .f64 (Go.bits .and .u16 a0 1023)) 0 = some .eq) = false := by simpa using c8))
            (try (have c8b2 : ((Go.FloatKind.format .f64).order (Go.floatOfInt .f64 (Go.bits .and .u16 a0 1023)) 0 == some .eq) = false := by simpa using c8))
            (try (have c8b3 : ¬ ((Go.FloatKind.format .f64).order (Go.floatOfInt .f64 (Go.bits .and .u16 a0 1023)) 0 = some .eq) := by simpa using c8))
            clear c8
            replace H := Option.bind_eq_some_iff.mp H
            obtain ⟨t124, A110, H⟩ := H
            replace H : (some t124) = some r := H
            have A11 := Aside0.mk A110
            clear A110
            obtain rfl := Option.some.inj H
            go_wp2_with (first | ((with_reducible refine gate_callee (f := 18) rfl ?_); refine goesL_ (some 30) rfl rfl Try.func18 (by kernel_rfl) rfl #[] rfl (by (try simp only [List.map_toArray, List.map_cons, List.map_nil]); first | done | rfl | (simp only [List.length_drop, List.length_take]; rfl)) ?_; (with_reducible refine (math_NaN.calls  t124 _ A11.out).mono ?_); rintro e w' ⟨rfl, ⟨nd, rfl⟩⟩; refine ⟨_, rfl, ?_⟩))
            go_ret
            exact ⟨by first | rfl | (simp; done) | (simp [*]; done), by repeat (first | exact Drawn0.refl _ | apply Drawn0.step)⟩
        · rw [if_neg c7] at H
          have c7b0 : ((Go.bits .and .i64 (wrap64 (a0 / 1024)) 31) == 31) = false := beq_eq_false_iff_ne.mpr c7
          have c7b1 : ((Go.bits .and .i64 (wrap64 (a0 / 1024)) 31) != 31) = true := bne_iff_ne.mpr c7
          by_cases c12 : (Go.floatBits .add .f64 4652218415073722368 (Go.floatOfInt .f64 (Go.bits .and .u16 a0 1023))).isSome = true
          · rw [if_pos c12] at H
            have c12b0 := eq_true c12
            have c12b1 : decide ((Go.floatBits .add .f64 4652218415073722368 (Go.floatOfInt .f64 (Go.bits .and .u16 a0 1023))).isSome = true) = true := decide_eq_true c12
            clear c12
            replace H := Option.bind_eq_some_iff.mp H
            obtain ⟨t125, A130, H⟩ := H
            replace H : (if (Go.floatBits .mul .f64 x3_1 t125).isSome = true then (some ((Go.floatBits .mul .f64 x3_1 t125).getD 0)) else (none)) = some r := H
            have A13 := Aside0.mk A130
            clear A130
            by_cases c14 : (Go.floatBits .mul .f64 x3_1 t125).isSome = true
            · rw [if_pos c14] at H
              have c14b0 := eq_true c14
              have c14b1 : decide ((Go.floatBits .mul .f64 x3_1 t125).isSome = true) = true := decide_eq_true c14
              clear c14
              obtain rfl := Option.some.inj H
              go_wp2_with (first | ((with_reducible refine gate_callee (f := 16) rfl ?_); refine goesL_ (some 36) rfl rfl Try.func16 (by kernel_rfl) rfl #[.float .f64 ((Go.floatBits .add .f64 4652218415073722368 (Go.floatOfInt .f64 (Go.bits .and .u16 a0 1023))).getD 0), .int .i64 (wrap64 ((Go.bits .and .i64 (wrap64 (a0 / 1024)) 31) - 25))] rfl (by (try simp only [List.map_toArray, List.map_cons, List.map_nil]); first | done | rfl | (simp only [List.length_drop, List.length_take]; rfl)) ?_; (with_reducible refine (math_Ldexp.calls ((Go.floatBits .add .f64 4652218415073722368 (Go.floatOfInt .f64 (Go.bits .and .u16 a0 1023))).getD 0) (wrap64 ((Go.bits .and .i64 (wrap64 (a0 / 1024)) 31) - 25)) t125 _ A13.out).mono ?_); rintro e w' ⟨rfl, ⟨nd, rfl⟩⟩; refine ⟨_, rfl, ?_⟩))
              go_ret
              exact ⟨by first | rfl | (simp; done) | (simp [*]; done), by repeat (first | exact Drawn0.refl _ | apply Drawn0.step)⟩
            · rw [if_neg c14] at H
              exact absurd H (by simp)
          · rw [if_neg c12] at H
            exact absurd H (by simp)

/-! ### float16_Num_Signbit: function 21 -/
def float16_Num_Signbit.f (a0_0 : Int) : Option (Bool) := some ((Go.bits .and .u16 a0_0 32768) != 0)
set_option maxHeartbeats 8000000 in
set_option maxRecDepth 100000 in
theorem float16_Num_Signbit.calls (a0_0 : Int) (r : Bool) (w : World) (h : float16_Num_Signbit.f a0_0 = some r) :
    Calls Try.prog 21 #[.agg #[.int .u16 a0_0]] w fun e w' => e = .returned (.bool r) ∧ Below w.heap.size w w' := by
  have hu44 := Try.underlying44
  have HB := Aside0.mk (Below.refl w.heap.size w)
  have H : (some ((Go.bits .and .u16 a0_0 32768) != 0)) = some r := h
  clear h
  obtain rfl := Option.some.inj H
  go_enter Try.func21, Try.ntmps21
  go_wp2_with (first | ((with_reducible refine gate_dst (N := 1) rfl ?_); refine box_event ?hg (N := 1) ?hd (cs := #[.int .u16 a0_0]) (t := 44) ?hr ?_; (case hd => rfl); (case hg => rfl); (case hr => first | (go_simp; done) | (go_simp; rfl)); intro gb126 hg w2 hbox hb; have n0_ := Aside0.mk (below_step (by repeat (first | (with_reducible first | exact HB.out | apply below_alloc | apply pw_below_drewN | apply below_drew1) | exact HB.out)) hb); have n1_ := Aside0.mk (hbox); have n2_ := Aside0.mk ((by rw [hg]; exact (below_size (by repeat (first | (with_reducible first | exact HB.out | apply below_alloc | apply pw_below_drewN | apply below_drew1) | exact HB.out))) : w.heap.size ≤ gb126)); have n3_ := Aside0.mk ((by rw [hg]; exact (below_size (by repeat (first | (with_reducible first | exact HB.out | apply below_alloc | apply pw_below_drewN | apply below_drew1) | exact HB.out))) : w.heap.size ≤ gb126)); clear HB; have HB := n0_; have BK126 := n1_; have GW126 := n2_; have GE126 := n3_; clear n0_ n1_ n2_ n3_; clear hb hbox hg; have hcz3_0 : w2.cell? ⟨gb126, 0, none⟩ = some (.int .u16 a0_0) := (blk_cell BK126.out 0).trans rfl; have hfz3_0 := blk_frozen BK126.out 0))
  go_ret
  exact ⟨by first | rfl | (simp [errW_none, errW_some] <;> rfl) | (simp [*, errW_none, errW_some] <;> rfl), by repeat (first | (with_reducible first | exact HB.out | apply below_alloc | apply pw_below_drewN | apply below_drew1 | refine below_set ?_ GE126.out) | exact HB.out)⟩

/-! ### float16_Num_IsZero: function 22 -/
def float16_Num_IsZero.f (a0_0 : Int) : Option (Bool) := some ((Go.bits .and .u16 a0_0 32767) == 0)
set_option maxHeartbeats 8000000 in
set_option maxRecDepth 100000 in
theorem float16_Num_IsZero.calls (a0_0 : Int) (r : Bool) (w : World) (h : float16_Num_IsZero.f a0_0 = some r) :
    Calls Try.prog 22 #[.agg #[.int .u16 a0_0]] w fun e w' => e = .returned (.bool r) ∧ Below w.heap.size w w' := by
  have hu44 := Try.underlying44
  have HB := Aside0.mk (Below.refl w.heap.size w)
  have H : (some ((Go.bits .and .u16 a0_0 32767) == 0)) = some r := h
  clear h
  obtain rfl := Option.some.inj H
  go_enter Try.func22, Try.ntmps22
  go_wp2_with (first | ((with_reducible refine gate_dst (N := 1) rfl ?_); refine box_event ?hg (N := 1) ?hd (cs := #[.int .u16 a0_0]) (t := 44) ?hr ?_; (case hd => rfl); (case hg => rfl); (case hr => first | (go_simp; done) | (go_simp; rfl)); intro gb127 hg w2 hbox hb; have n0_ := Aside0.mk (below_step (by repeat (first | (with_reducible first | exact HB.out | apply below_alloc | apply pw_below_drewN | apply below_drew1) | exact HB.out)) hb); have n1_ := Aside0.mk (hbox); have n2_ := Aside0.mk ((by rw [hg]; exact (below_size (by repeat (first | (with_reducible first | exact HB.out | apply below_alloc | apply pw_below_drewN | apply below_drew1) | exact HB.out))) : w.heap.size ≤ gb127)); have n3_ := Aside0.mk ((by rw [hg]; exact (below_size (by repeat (first | (with_reducible first | exact HB.out | apply below_alloc | apply pw_below_drewN | apply below_drew1) | exact HB.out))) : w.heap.size ≤ gb127)); clear HB; have HB := n0_; have BK127 := n1_; have GW127 := n2_; have GE127 := n3_; clear n0_ n1_ n2_ n3_; clear hb hbox hg; have hcz3_0 : w2.cell? ⟨gb127, 0, none⟩ = some (.int .u16 a0_0) := (blk_cell BK127.out 0).trans rfl; have hfz3_0 := blk_frozen BK127.out 0))
  go_ret
  exact ⟨by first | rfl | (simp [errW_none, errW_some] <;> rfl) | (simp [*, errW_none, errW_some] <;> rfl), by repeat (first | (with_reducible first | exact HB.out | apply below_alloc | apply pw_below_drewN | apply below_drew1 | refine below_set ?_ GE127.out) | exact HB.out)⟩

end Go.Proofs.Ytahbgcjcfbjbmaa.QHalfFacts
