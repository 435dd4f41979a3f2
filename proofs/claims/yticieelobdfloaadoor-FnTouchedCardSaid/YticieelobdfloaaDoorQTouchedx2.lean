/- Written by a program of mine over the kit's print program, turned at a few places (variables of one cell in memory; deferred closures): each Go function as a Lean function, with the proof of its call. -/
import Derived.Test.YticieelobdfloaaDoorQTouchedx0
import Derived.Test.YticieelobdfloaaDoorQTouchedx1
namespace Go.Proofs.YticieelobdfloaaDoor.QTouched
open Go.RowKit Go.Proofs.YticieelobdfloaaDoorW.PrintWords Go.Proofs.YticieelobdfloaaDoorW.PrintLast Go.Proofs.YticieelobdfloaaDoorW.PrintMore
attribute [local go_sem] max2_int min2_int max_two min_two max_three min_three max_four min_four   -- for this text's walks alone
set_option linter.unusedVariables false
set_option linter.unusedSimpArgs false

/-! ### impl_Touched: function 7 -/
def impl_Touched.f (l0 : List Int) (a1 : Int) (a2 : Int) (a3 : Bool) : Option (List Int × Bool) := (impl_copied.f l0).bind fun t126 => (if a1 = 0 then ((bitutil_SetBit.f t126 a2).bind fun t129 => (some (t129, false))) else (if a1 = 1 then ((bitutil_ClearBit.f t126 a2).bind fun t130 => (some (t130, false))) else (if a1 = 2 then ((bitutil_SetBitTo.f t126 a2 a3).bind fun t131 => (some (t131, false))) else (if a1 = 3 then ((bitutil_SetBitSwap.f t126 a2).bind fun bt132 => (some (bt132.2, bt132.1))) else (if a1 = 4 then ((bitutil_ClearBitSwap.f t126 a2).bind fun bt134 => (some (bt134.2, bt134.1))) else (some (t126, false)))))))
set_option maxHeartbeats 8000000 in
set_option maxRecDepth 100000 in
theorem impl_Touched.calls (A0 : Option Addr) (c0 : Nat) (l0 : List Int) (a1 : Int) (a2 : Int) (a3 : Bool) (r1 : List Int) (r2 : Bool) (w : World) (hr0 : Kd.C (Kd.int .u8) w A0 l0.length l0) (hc0 : l0.length ≤ c0) (hg0 : Kd.C (Kd.int .u8) w (some ⟨0, 0, none⟩) gtab0.length gtab0) (hg1 : Kd.C (Kd.int .u8) w (some ⟨1, 0, none⟩) gtab1.length gtab1) (h : impl_Touched.f l0 a1 a2 a3 = some (r1, r2)) :
    Calls Tryd.prog 7 #[.slice A0 l0.length c0, .int .i64 a1, .int .i64 a2, .bool a3] w fun e w' => ∃ v0_ : Value, e = .returned (.tuple #[v0_, .bool r2]) ∧ Kd.R (Kd.int .u8) 5 w' w.heap.size (fun _ => True) v0_ r1 ∧ Below w.heap.size w w' := by
  have HR0 := Aside0.mk hr0
  have HC0 := Aside0.mk hc0
  clear hr0 hc0
  have HG0 := Aside0.mk hg0
  clear hg0
  have HG1 := Aside0.mk hg1
  clear hg1
  have HB := Aside0.mk (Below.refl w.heap.size w)
  have H : ((impl_copied.f l0).bind fun t126 => (if a1 = 0 then ((bitutil_SetBit.f t126 a2).bind fun t129 => (some (t129, false))) else (if a1 = 1 then ((bitutil_ClearBit.f t126 a2).bind fun t130 => (some (t130, false))) else (if a1 = 2 then ((bitutil_SetBitTo.f t126 a2 a3).bind fun t131 => (some (t131, false))) else (if a1 = 3 then ((bitutil_SetBitSwap.f t126 a2).bind fun bt132 => (some (bt132.2, bt132.1))) else (if a1 = 4 then ((bitutil_ClearBitSwap.f t126 a2).bind fun bt134 => (some (bt134.2, bt134.1))) else (some (t126, false)))))))) = some (r1, r2) := h
  clear h
  replace H := Option.bind_eq_some_iff.mp H
  obtain ⟨t126, A50, H⟩ := H
  replace H : (if a1 = 0 then ((bitutil_SetBit.f t126 a2).bind fun t129 => (some (t129, false))) else (if a1 = 1 then ((bitutil_ClearBit.f t126 a2).bind fun t130 => (some (t130, false))) else (if a1 = 2 then ((bitutil_SetBitTo.f t126 a2 a3).bind fun t131 => (some (t131, false))) else (if a1 = 3 then ((bitutil_SetBitSwap.f t126 a2).bind fun bt132 => (some (bt132.2, bt132.1))) else (if a1 = 4 then ((bitutil_ClearBitSwap.f t126 a2).bind fun bt134 => (some (bt134.2, bt134.1))) else (some (t126, false))))))) = some (r1, r2) := H
  have A5 := Aside0.mk A50
  clear A50
  by_cases c6 : a1 = 0
  · rw [if_pos c6] at H
    have c6b0 : (a1 == 0) = true := beq_iff_eq.mpr c6
    have c6b1 : (a1 != 0) = false := bne_eq_false_iff_eq.mpr c6
    clear c6
    replace H := Option.bind_eq_some_iff.mp H
    obtain ⟨t129, A70, H⟩ := H
    replace H : (some (t129, false)) = some (r1, r2) := H
    have A7 := Aside0.mk A70
    clear A70
    simp only [Option.some.injEq, Prod.mk.injEq] at H
    obtain ⟨rfl, rfl⟩ := H
    have hmf_ : ∀ (fn : Fn) (first cap : Array Value) (w : World), (Instr.makeFunc fn first cap).run Tryd.prog w = .ok (.func fn first cap) w := fun _ _ _ _ => rfl
    go_enter_defers Tryd.func7, Tryd.ntmps7
    refine Code.wp_mono (Aid.noPanic_le _) ?_
    try go_wp2_with (first | ((with_reducible refine gate_dst (N := 8) rfl ?_); refine box_event ?hg (N := 8) ?hd (cs := #[.slice none 0 0]) (t := 22) ?hr ?_; (case hd => rfl); (case hg => rfl); (case hr => first | (go_simp; done) | (go_simp; rfl)); intro gb124 hg w8 hbox hb; have n0_ := Aside0.mk (below_step (by repeat (first | (with_reducible first | exact HB.out | apply below_alloc | apply pw_below_drewN | apply below_drew1) | exact HB.out)) hb); have n1_ := Aside0.mk (hbox); have n2_ := Aside0.mk ((by rw [hg]; exact (below_size (by repeat (first | (with_reducible first | exact HB.out | apply below_alloc | apply pw_below_drewN | apply below_drew1) | exact HB.out))) : w.heap.size ≤ gb124)); have n3_ := Aside0.mk ((by rw [hg]; exact (below_size (by repeat (first | (with_reducible first | exact HB.out | apply below_alloc | apply pw_below_drewN | apply below_drew1) | exact HB.out))) : w.heap.size ≤ gb124)); clear HB; have HB := n0_; have BK124 := n1_; have GW124 := n2_; have GE124 := n3_; clear n0_ n1_ n2_ n3_; clear hb hbox hg) | ((with_reducible refine gate_dst (N := 9) rfl ?_); refine box_event ?hg (N := 9) ?hd (cs := #[.bool false]) (t := 4) ?hr ?_; (case hd => rfl); (case hg => rfl); (case hr => first | (go_simp; done) | (go_simp; rfl)); intro gb125 hg w9 hbox hb; have n0_ := Aside0.mk (blk_below (g := gb124) (o := .cells #[.slice none 0 0] 22 (0, 0)) (by (with_reducible repeat (first | refine blk_drewN ?_ _ | refine blk_drew ?_ | refine blk_alloc ?_ _)); exact BK124.out) hb); have n1_ := Aside0.mk (below_step (by repeat (first | (with_reducible first | exact HB.out | apply below_alloc | apply pw_below_drewN | apply below_drew1 | refine below_set ?_ GE124.out) | exact HB.out)) hb); have n2_ := Aside0.mk (hbox); have n3_ := Aside0.mk ((by rw [hg]; exact (below_size (by repeat (first | (with_reducible first | exact HB.out | apply below_alloc | apply pw_below_drewN | apply below_drew1 | refine below_set ?_ GE124.out) | exact HB.out))) : w.heap.size ≤ gb125)); have n4_ := Aside0.mk ((by rw [hg]; exact (below_size (by repeat (first | (with_reducible first | exact HB.out | apply below_alloc | apply pw_below_drewN | apply below_drew1 | refine below_set ?_ GE124.out) | exact HB.out))) : w.heap.size ≤ gb125)); have n5_ := Aside0.mk ((by rw [hg]; exact Nat.ne_of_lt (blk_lt (g := gb124) (o := .cells #[.slice none 0 0] 22 (0, 0)) (by (with_reducible repeat (first | refine blk_drewN ?_ _ | refine blk_drew ?_ | refine blk_alloc ?_ _)); exact BK124.out)) : gb124 ≠ gb125)); have n6_ := Aside0.mk ((by rw [hg]; exact Nat.ne_of_gt (blk_lt (g := gb124) (o := .cells #[.slice none 0 0] 22 (0, 0)) (by (with_reducible repeat (first | refine blk_drewN ?_ _ | refine blk_drew ?_ | refine blk_alloc ?_ _)); exact BK124.out)) : gb125 ≠ gb124)); clear BK124; clear HB; have BK124 := n0_; have HB := n1_; have BK125 := n2_; have GW125 := n3_; have GE125 := n4_; have NB124_125 := n5_; have NB125_124 := n6_; clear n0_ n1_ n2_ n3_ n4_ n5_ n6_; clear hb hbox hg) | ((with_reducible refine gate_callee (f := 14) rfl ?_); refine goesL_ (some 13) rfl rfl Tryd.func14 (by kernel_rfl) rfl #[.slice A0 l0.length c0] rfl (by (try simp only [List.map_toArray, List.map_cons, List.map_nil]); first | done | rfl | (simp only [List.length_drop, List.length_take]; rfl)) ?_; (with_reducible refine (impl_copied.calls _ _ l0 t126 _ ?side1 ?side2 A5.out).mono ?_); (case side1 => repeat (first | exact (Kd.C_below HR0.out HB.out) | (with_reducible refine Kd.C_alloc ?_ _) | (with_reducible refine Kd.C_drewN ?_ _) | (with_reducible refine Kd.C_drew ?_))); (case side2 => exact HC0.out); rintro e w10 ⟨v127, rfl, ho0, hb⟩; refine ⟨_, rfl, ?_⟩; have n0_ := Aside0.mk (Kd.R_lower ho0 (below_size (by repeat (first | (with_reducible first | exact HB.out | apply below_alloc | apply pw_below_drewN | apply below_drew1 | refine below_set ?_ GE124.out | refine below_set ?_ GE125.out) | exact HB.out)))); have n1_ := Aside0.mk (blk_below (g := gb124) (o := .cells #[.slice none 0 0] 22 (0, 0)) (by (with_reducible repeat (first | refine blk_drewN ?_ _ | refine blk_drew ?_ | refine blk_alloc ?_ _)); exact BK124.out) hb); have n2_ := Aside0.mk (blk_below (g := gb125) (o := .cells #[.bool false] 4 (0, 0)) (by (with_reducible repeat (first | refine blk_drewN ?_ _ | refine blk_drew ?_ | refine blk_alloc ?_ _)); exact BK125.out) hb); have n3_ := Aside0.mk (below_step (by repeat (first | (with_reducible first | exact HB.out | apply below_alloc | apply pw_below_drewN | apply below_drew1 | refine below_set ?_ GE124.out | refine below_set ?_ GE125.out) | exact HB.out)) hb); clear BK124; clear BK125; clear HB; have HO128 := n0_; have BK124 := n1_; have BK125 := n2_; have HB := n3_; clear n0_ n1_ n2_ n3_; (try clear hb); (try clear hb2); (try clear hk); (try clear hi); (try clear ho0); obtain ⟨Ao11, co11, eo11⟩ := Kd.R_slice HO128.out; subst eo11) | ((with_reducible refine gate_callee (f := 15) rfl ?_); refine goesL_ (some 19) rfl rfl Tryd.func15 (by kernel_rfl) rfl #[.slice Ao11 t126.length co11, .int .i64 a2] rfl (by (try simp only [List.map_toArray, List.map_cons, List.map_nil]); first | done | rfl | (simp only [List.length_drop, List.length_take]; rfl)) ?_; (with_reducible refine (bitutil_SetBit.calls (fun k_ => some k_ = (.slice Ao11 t126.length co11 : Value).ownBlock) (.slice Ao11 t126.length co11) t126 a2 t129 w _ ?side1 ?side2 ?side3 A7.out).mono ?_); (case side1 => repeat (first | (with_reducible first | exact HB.out | apply below_alloc | apply pw_below_drewN | apply below_drew1 | refine below_set ?_ GE124.out | refine below_set ?_ GE125.out) | exact HB.out)); (case side2 => exact Kd.R_tight rfl HO128.out); (case side3 => first | exact HG0.out | exact Kd.C_below HG0.out (by repeat (first | (with_reducible first | exact HB.out | apply below_alloc | apply pw_below_drewN | apply below_drew1 | refine below_set ?_ GE124.out | refine below_set ?_ GE125.out) | exact HB.out))); rintro e w12 ⟨rfl, hy0, hb, hkp⟩; refine ⟨_, rfl, ?_⟩; have n0_ := Aside0.mk (blk_kept (by (with_reducible repeat (first | refine blk_drewN ?_ _ | refine blk_drew ?_ | refine blk_alloc ?_ _)); exact BK124.out) hkp (fun hs_ => (fun e_ => (Kd.R_ne HO128.out BK124.out (by decide)) e_) hs_)); have n1_ := Aside0.mk (blk_kept (by (with_reducible repeat (first | refine blk_drewN ?_ _ | refine blk_drew ?_ | refine blk_alloc ?_ _)); exact BK125.out) hkp (fun hs_ => (fun e_ => (Kd.R_ne HO128.out BK125.out (by decide)) e_) hs_)); have n2_ := Aside0.mk (Kd.R_reok rfl hy0 (fun k_ e_ => HO128.out.1 k_ e_)); have n3_ := Aside0.mk (hb); clear BK124; clear BK125; clear HO128; clear HB; have BK124 := n0_; have BK125 := n1_; have HO128 := n2_; have HB := n3_; clear n0_ n1_ n2_ n3_; (try clear hb); (try clear hkp); (try clear hy0)))
    have n0_ := Aside0.mk (Kd.R_drew HO128.out)
    have n1_ := Aside0.mk (blk_drew BK124.out)
    have n2_ := Aside0.mk (blk_drew BK125.out)
    have n3_ := Aside0.mk (below_drew1 HB.out)
    clear HO128
    clear BK124
    clear BK125
    clear HB
    have HO128 := n0_
    have BK124 := n1_
    have BK125 := n2_
    have HB := n3_
    clear n0_ n1_ n2_ n3_
    refine start_ (n := 4) (S := fun w' => w'.cell? ⟨gb125, 0, none⟩ = some (.bool false)) (ds := []) #[false, false, false, false] (by kernel_rfl) rfl rfl ((blk_cell BK125.out 0).trans rfl) (fun hHeld => ?_)
    generalize w12.drew = w13 at HO128 BK124 BK125 HB hHeld ⊢
    refine pure_ (i := 0) (N := some 41) (v := ?_) (a' := ?_) #[true, false, false, false] rfl rfl (by kernel_rfl) (fun _ _ _ h => h) (Or.inl ⟨by rfl, ?_⟩) ?_ ?_
    rotate_left
    · intro w'
      go_simp
      with_reducible rfl
    rotate_left
    · simp only [Act.put, List.setIfInBounds_toArray, List.set_cons_zero, List.set_cons_succ, i64_w, i32_w]
      rfl
    refine take_ (i := 1) (N := some 42) (v := ?_) (a' := ?_) #[true, true, false, false] rfl rfl (by kernel_rfl) (fun _ _ _ h => h) (Or.inl ⟨by rfl, ?_⟩) hHeld ?_ ?_
    rotate_left
    · intro w' s0
      go_simp
      with_reducible rfl
    rotate_left
    · simp only [Act.put, List.setIfInBounds_toArray, List.set_cons_zero, List.set_cons_succ, i64_w, i32_w]
      rfl
    refine one_ (i := 2) (N := none) #[true, true, true, false] rfl rfl (by kernel_rfl) (by decide) (fun K hK => ?_)
    have hs14 : w13.cell? ⟨gb124, 0, none⟩ = some (.slice none 0 0) := (blk_cell BK124.out 0).trans rfl
    have hfs14 := blk_frozen BK124.out 0
    have hns14_1 := NB125_124.out
    have hms14_1 := NB124_125.out
    refine skip_ (w1 := ?_) (by rfl) rfl ?_ ?_
    rotate_left
    · go_simp
      rfl
    refine hK.out _ _ (((cell_far (p := ⟨gb124, _, none⟩) NB125_124.out _).trans (hHeld))) (fun hHeld => ?_)
    clear hK K
    refine one_ (i := 3) (N := none) #[true, true, true, true] rfl rfl (by kernel_rfl) (by decide) (fun K hK => ?_)
    have hs15 : w13.cell? ⟨gb125, 0, none⟩ = some (.bool false) := (blk_cell BK125.out 0).trans rfl
    have hfs15 := blk_frozen BK125.out 0
    have hns15_0 := NB124_125.out
    have hms15_0 := NB125_124.out
    refine skip_ (w1 := ?_) (by rfl) rfl ?_ ?_
    rotate_left
    · go_simp
      rfl
    refine hK.out _ _ ((Aid.cell_same (hHeld))) (fun hHeld => ?_)
    clear hK K
    refine done_ (by kernel_rfl) ?_
    try go_wp2
    (try simp only [Exit.inBlock, Exit.then])
    refine Aid.door_ (G := 13) (by simp [go_sem]) (idle13 (.pointer (some ⟨gb124, 0, none⟩)) (.pointer (some ⟨gb125, 0, none⟩))) (Aid.resultsB_list (rs := [.cell 8 22, .cell 9 4]) rfl (by simp) (.one gb124 22 (.slice Ao11 t126.length co11) _ rfl (by (with_reducible repeat (first | refine blk_drewN ?_ _ | refine blk_drew ?_ | refine blk_alloc ?_ _)); refine blk_far ?_ NB124_125.out _; (with_reducible repeat (first | refine blk_drewN ?_ _ | refine blk_drew ?_ | refine blk_alloc ?_ _)); refine blk_put (cs := #[.slice none 0 0]) ?_ 0 _ rfl; (with_reducible repeat (first | refine blk_drewN ?_ _ | refine blk_drew ?_ | refine blk_alloc ?_ _)); exact BK124.out) Tryd.underlying22 rfl (.one gb125 4 (.bool false) _ rfl (by (with_reducible repeat (first | refine blk_drewN ?_ _ | refine blk_drew ?_ | refine blk_alloc ?_ _)); refine blk_put (cs := #[.bool false]) ?_ 0 _ rfl; (with_reducible repeat (first | refine blk_drewN ?_ _ | refine blk_drew ?_ | refine blk_alloc ?_ _)); refine blk_far ?_ NB125_124.out _; (with_reducible repeat (first | refine blk_drewN ?_ _ | refine blk_drew ?_ | refine blk_alloc ?_ _)); exact BK125.out) Tryd.underlying4 rfl .nil))) ?_
    exact ⟨_, by first | rfl | (simp [errW_none, errW_some] <;> rfl) | (simp [*, errW_none, errW_some] <;> rfl), by (with_reducible repeat (first | apply Kd.R_alloc | apply Kd.R_drewN | apply Kd.R_drew)); exact Kd.R_mono (Kd.R_far (p := ⟨gb125, 0, none⟩) (Kd.R_far (p := ⟨gb124, 0, none⟩) (Kd.R_types (Kd.R_types HO128.out BK124.out (by decide)) BK125.out (by decide)) (fun _ hk => hk.1.2) (.slice Ao11 t126.length co11)) (fun _ hk => hk.2) (.bool false)) (fun _ hk => trivial), by repeat (first | (with_reducible first | exact HB.out | apply below_alloc | apply pw_below_drewN | apply below_drew1 | refine below_set ?_ GE124.out | refine below_set ?_ GE125.out) | exact HB.out)⟩
  · rw [if_neg c6] at H
    have c6b0 : (a1 == 0) = false := beq_eq_false_iff_ne.mpr c6
    have c6b1 : (a1 != 0) = true := bne_iff_ne.mpr c6
    by_cases c16 : a1 = 1
    · rw [if_pos c16] at H
      have c16b0 : (a1 == 1) = true := beq_iff_eq.mpr c16
      have c16b1 : (a1 != 1) = false := bne_eq_false_iff_eq.mpr c16
      clear c16
      replace H := Option.bind_eq_some_iff.mp H
      obtain ⟨t130, A170, H⟩ := H
      replace H : (some (t130, false)) = some (r1, r2) := H
      have A17 := Aside0.mk A170
      clear A170
      simp only [Option.some.injEq, Prod.mk.injEq] at H
      obtain ⟨rfl, rfl⟩ := H
      have hmf_ : ∀ (fn : Fn) (first cap : Array Value) (w : World), (Instr.makeFunc fn first cap).run Tryd.prog w = .ok (.func fn first cap) w := fun _ _ _ _ => rfl
      go_enter_defers Tryd.func7, Tryd.ntmps7
      refine Code.wp_mono (Aid.noPanic_le _) ?_
      try go_wp2_with (first | ((with_reducible refine gate_dst (N := 8) rfl ?_); refine box_event ?hg (N := 8) ?hd (cs := #[.slice none 0 0]) (t := 22) ?hr ?_; (case hd => rfl); (case hg => rfl); (case hr => first | (go_simp; done) | (go_simp; rfl)); intro gb124 hg w18 hbox hb; have n0_ := Aside0.mk (below_step (by repeat (first | (with_reducible first | exact HB.out | apply below_alloc | apply pw_below_drewN | apply below_drew1) | exact HB.out)) hb); have n1_ := Aside0.mk (hbox); have n2_ := Aside0.mk ((by rw [hg]; exact (below_size (by repeat (first | (with_reducible first | exact HB.out | apply below_alloc | apply pw_below_drewN | apply below_drew1) | exact HB.out))) : w.heap.size ≤ gb124)); have n3_ := Aside0.mk ((by rw [hg]; exact (below_size (by repeat (first | (with_reducible first | exact HB.out | apply below_alloc | apply pw_below_drewN | apply below_drew1) | exact HB.out))) : w.heap.size ≤ gb124)); clear HB; have HB := n0_; have BK124 := n1_; have GW124 := n2_; have GE124 := n3_; clear n0_ n1_ n2_ n3_; clear hb hbox hg) | ((with_reducible refine gate_dst (N := 9) rfl ?_); refine box_event ?hg (N := 9) ?hd (cs := #[.bool false]) (t := 4) ?hr ?_; (case hd => rfl); (case hg => rfl); (case hr => first | (go_simp; done) | (go_simp; rfl)); intro gb125 hg w19 hbox hb; have n0_ := Aside0.mk (blk_below (g := gb124) (o := .cells #[.slice none 0 0] 22 (0, 0)) (by (with_reducible repeat (first | refine blk_drewN ?_ _ | refine blk_drew ?_ | refine blk_alloc ?_ _)); exact BK124.out) hb); have n1_ := Aside0.mk (below_step (by repeat (first | (with_reducible first | exact HB.out | apply below_alloc | apply pw_below_drewN | apply below_drew1 | refine below_set ?_ GE124.out) | exact HB.out)) hb); have n2_ := Aside0.mk (hbox); have n3_ := Aside0.mk ((by rw [hg]; exact (below_size (by repeat (first | (with_reducible first | exact HB.out | apply below_alloc | apply pw_below_drewN | apply below_drew1 | refine below_set ?_ GE124.out) | exact HB.out))) : w.heap.size ≤ gb125)); have n4_ := Aside0.mk ((by rw [hg]; exact (below_size (by repeat (first | (with_reducible first | exact HB.out | apply below_alloc | apply pw_below_drewN | apply below_drew1 | refine below_set ?_ GE124.out) | exact HB.out))) : w.heap.size ≤ gb125)); have n5_ := Aside0.mk ((by rw [hg]; exact Nat.ne_of_lt (blk_lt (g := gb124) (o := .cells #[.slice none 0 0] 22 (0, 0)) (by (with_reducible repeat (first | refine blk_drewN ?_ _ | refine blk_drew ?_ | refine blk_alloc ?_ _)); exact BK124.out)) : gb124 ≠ gb125)); have n6_ := Aside0.mk ((by rw [hg]; exact Nat.ne_of_gt (blk_lt (g := gb124) (o := .cells #[.slice none 0 0] 22 (0, 0)) (by (with_reducible repeat (first | refine blk_drewN ?_ _ | refine blk_drew ?_ | refine blk_alloc ?_ _)); exact BK124.out)) : gb125 ≠ gb124)); clear BK124; clear HB; have BK124 := n0_; have HB := n1_; have BK125 := n2_; have GW125 := n3_; have GE125 := n4_; have NB124_125 := n5_; have NB125_124 := n6_; clear n0_ n1_ n2_ n3_ n4_ n5_ n6_; clear hb hbox hg) | ((with_reducible refine gate_callee (f := 14) rfl ?_); refine goesL_ (some 13) rfl rfl Tryd.func14 (by kernel_rfl) rfl #[.slice A0 l0.length c0] rfl (by (try simp only [List.map_toArray, List.map_cons, List.map_nil]); first | done | rfl | (simp only [List.length_drop, List.length_take]; rfl)) ?_; (with_reducible refine (impl_copied.calls _ _ l0 t126 _ ?side1 ?side2 A5.out).mono ?_); (case side1 => repeat (first | exact (Kd.C_below HR0.out HB.out) | (with_reducible refine Kd.C_alloc ?_ _) | (with_reducible refine Kd.C_drewN ?_ _) | (with_reducible refine Kd.C_drew ?_))); (case side2 => exact HC0.out); rintro e w20 ⟨v127, rfl, ho0, hb⟩; refine ⟨_, rfl, ?_⟩; have n0_ := Aside0.mk (Kd.R_lower ho0 (below_size (by repeat (first | (with_reducible first | exact HB.out | apply below_alloc | apply pw_below_drewN | apply below_drew1 | refine below_set ?_ GE124.out | refine below_set ?_ GE125.out) | exact HB.out)))); have n1_ := Aside0.mk (blk_below (g := gb124) (o := .cells #[.slice none 0 0] 22 (0, 0)) (by (with_reducible repeat (first | refine blk_drewN ?_ _ | refine blk_drew ?_ | refine blk_alloc ?_ _)); exact BK124.out) hb); have n2_ := Aside0.mk (blk_below (g := gb125) (o := .cells #[.bool false] 4 (0, 0)) (by (with_reducible repeat (first | refine blk_drewN ?_ _ | refine blk_drew ?_ | refine blk_alloc ?_ _)); exact BK125.out) hb); have n3_ := Aside0.mk (below_step (by repeat (first | (with_reducible first | exact HB.out | apply below_alloc | apply pw_below_drewN | apply below_drew1 | refine below_set ?_ GE124.out | refine below_set ?_ GE125.out) | exact HB.out)) hb); clear BK124; clear BK125; clear HB; have HO128 := n0_; have BK124 := n1_; have BK125 := n2_; have HB := n3_; clear n0_ n1_ n2_ n3_; (try clear hb); (try clear hb2); (try clear hk); (try clear hi); (try clear ho0); obtain ⟨Ao21, co21, eo21⟩ := Kd.R_slice HO128.out; subst eo21) | ((with_reducible refine gate_callee (f := 16) rfl ?_); refine goesL_ (some 24) rfl rfl Tryd.func16 (by kernel_rfl) rfl #[.slice Ao21 t126.length co21, .int .i64 a2] rfl (by (try simp only [List.map_toArray, List.map_cons, List.map_nil]); first | done | rfl | (simp only [List.length_drop, List.length_take]; rfl)) ?_; (with_reducible refine (bitutil_ClearBit.calls (fun k_ => some k_ = (.slice Ao21 t126.length co21 : Value).ownBlock) (.slice Ao21 t126.length co21) t126 a2 t130 w _ ?side1 ?side2 ?side3 A17.out).mono ?_); (case side1 => repeat (first | (with_reducible first | exact HB.out | apply below_alloc | apply pw_below_drewN | apply below_drew1 | refine below_set ?_ GE124.out | refine below_set ?_ GE125.out) | exact HB.out)); (case side2 => exact Kd.R_tight rfl HO128.out); (case side3 => first | exact HG1.out | exact Kd.C_below HG1.out (by repeat (first | (with_reducible first | exact HB.out | apply below_alloc | apply pw_below_drewN | apply below_drew1 | refine below_set ?_ GE124.out | refine below_set ?_ GE125.out) | exact HB.out))); rintro e w22 ⟨rfl, hy0, hb, hkp⟩; refine ⟨_, rfl, ?_⟩; have n0_ := Aside0.mk (blk_kept (by (with_reducible repeat (first | refine blk_drewN ?_ _ | refine blk_drew ?_ | refine blk_alloc ?_ _)); exact BK124.out) hkp (fun hs_ => (fun e_ => (Kd.R_ne HO128.out BK124.out (by decide)) e_) hs_)); have n1_ := Aside0.mk (blk_kept (by (with_reducible repeat (first | refine blk_drewN ?_ _ | refine blk_drew ?_ | refine blk_alloc ?_ _)); exact BK125.out) hkp (fun hs_ => (fun e_ => (Kd.R_ne HO128.out BK125.out (by decide)) e_) hs_)); have n2_ := Aside0.mk (Kd.R_reok rfl hy0 (fun k_ e_ => HO128.out.1 k_ e_)); have n3_ := Aside0.mk (hb); clear BK124; clear BK125; clear HO128; clear HB; have BK124 := n0_; have BK125 := n1_; have HO128 := n2_; have HB := n3_; clear n0_ n1_ n2_ n3_; (try clear hb); (try clear hkp); (try clear hy0)))
      have n0_ := Aside0.mk (Kd.R_drew HO128.out)
      have n1_ := Aside0.mk (blk_drew BK124.out)
      have n2_ := Aside0.mk (blk_drew BK125.out)
      have n3_ := Aside0.mk (below_drew1 HB.out)
      clear HO128
      clear BK124
      clear BK125
      clear HB
      have HO128 := n0_
      have BK124 := n1_
      have BK125 := n2_
      have HB := n3_
      clear n0_ n1_ n2_ n3_
      refine start_ (n := 4) (S := fun w' => w'.cell? ⟨gb125, 0, none⟩ = some (.bool false)) (ds := []) #[false, false, false, false] (by kernel_rfl) rfl rfl ((blk_cell BK125.out 0).trans rfl) (fun hHeld => ?_)
      generalize w22.drew = w23 at HO128 BK124 BK125 HB hHeld ⊢
      refine pure_ (i := 0) (N := some 41) (v := ?_) (a' := ?_) #[true, false, false, false] rfl rfl (by kernel_rfl) (fun _ _ _ h => h) (Or.inl ⟨by rfl, ?_⟩) ?_ ?_
      rotate_left
      · intro w'
        go_simp
        with_reducible rfl
      rotate_left
      · simp only [Act.put, List.setIfInBounds_toArray, List.set_cons_zero, List.set_cons_succ, i64_w, i32_w]
        rfl
      refine take_ (i := 1) (N := some 42) (v := ?_) (a' := ?_) #[true, true, false, false] rfl rfl (by kernel_rfl) (fun _ _ _ h => h) (Or.inl ⟨by rfl, ?_⟩) hHeld ?_ ?_
      rotate_left
      · intro w' s0
        go_simp
        with_reducible rfl
      rotate_left
      · simp only [Act.put, List.setIfInBounds_toArray, List.set_cons_zero, List.set_cons_succ, i64_w, i32_w]
        rfl
      refine one_ (i := 2) (N := none) #[true, true, true, false] rfl rfl (by kernel_rfl) (by decide) (fun K hK => ?_)
      have hs24 : w23.cell? ⟨gb124, 0, none⟩ = some (.slice none 0 0) := (blk_cell BK124.out 0).trans rfl
      have hfs24 := blk_frozen BK124.out 0
      have hns24_1 := NB125_124.out
      have hms24_1 := NB124_125.out
      refine skip_ (w1 := ?_) (by rfl) rfl ?_ ?_
      rotate_left
      · go_simp
        rfl
      refine hK.out _ _ (((cell_far (p := ⟨gb124, _, none⟩) NB125_124.out _).trans (hHeld))) (fun hHeld => ?_)
      clear hK K
      refine one_ (i := 3) (N := none) #[true, true, true, true] rfl rfl (by kernel_rfl) (by decide) (fun K hK => ?_)
      have hs25 : w23.cell? ⟨gb125, 0, none⟩ = some (.bool false) := (blk_cell BK125.out 0).trans rfl
      have hfs25 := blk_frozen BK125.out 0
      have hns25_0 := NB124_125.out
      have hms25_0 := NB125_124.out
      refine skip_ (w1 := ?_) (by rfl) rfl ?_ ?_
      rotate_left
      · go_simp
        rfl
      refine hK.out _ _ ((Aid.cell_same (hHeld))) (fun hHeld => ?_)
      clear hK K
      refine done_ (by kernel_rfl) ?_
      try go_wp2
      (try simp only [Exit.inBlock, Exit.then])
      refine Aid.door_ (G := 13) (by simp [go_sem]) (idle13 (.pointer (some ⟨gb124, 0, none⟩)) (.pointer (some ⟨gb125, 0, none⟩))) (Aid.resultsB_list (rs := [.cell 8 22, .cell 9 4]) rfl (by simp) (.one gb124 22 (.slice Ao21 t126.length co21) _ rfl (by (with_reducible repeat (first | refine blk_drewN ?_ _ | refine blk_drew ?_ | refine blk_alloc ?_ _)); refine blk_far ?_ NB124_125.out _; (with_reducible repeat (first | refine blk_drewN ?_ _ | refine blk_drew ?_ | refine blk_alloc ?_ _)); refine blk_put (cs := #[.slice none 0 0]) ?_ 0 _ rfl; (with_reducible repeat (first | refine blk_drewN ?_ _ | refine blk_drew ?_ | refine blk_alloc ?_ _)); exact BK124.out) Tryd.underlying22 rfl (.one gb125 4 (.bool false) _ rfl (by (with_reducible repeat (first | refine blk_drewN ?_ _ | refine blk_drew ?_ | refine blk_alloc ?_ _)); refine blk_put (cs := #[.bool false]) ?_ 0 _ rfl; (with_reducible repeat (first | refine blk_drewN ?_ _ | refine blk_drew ?_ | refine blk_alloc ?_ _)); refine blk_far ?_ NB125_124.out _; (with_reducible repeat (first | refine blk_drewN ?_ _ | refine blk_drew ?_ | refine blk_alloc ?_ _)); exact BK125.out) Tryd.underlying4 rfl .nil))) ?_
      exact ⟨_, by first | rfl | (simp [errW_none, errW_some] <;> rfl) | (simp [*, errW_none, errW_some] <;> rfl), by (with_reducible repeat (first | apply Kd.R_alloc | apply Kd.R_drewN | apply Kd.R_drew)); exact Kd.R_mono (Kd.R_far (p := ⟨gb125, 0, none⟩) (Kd.R_far (p := ⟨gb124, 0, none⟩) (Kd.R_types (Kd.R_types HO128.out BK124.out (by decide)) BK125.out (by decide)) (fun _ hk => hk.1.2) (.slice Ao21 t126.length co21)) (fun _ hk => hk.2) (.bool false)) (fun _ hk => trivial), by repeat (first | (with_reducible first | exact HB.out | apply below_alloc | apply pw_below_drewN | apply below_drew1 | refine below_set ?_ GE124.out | refine below_set ?_ GE125.out) | exact HB.out)⟩
    · rw [if_neg c16] at H
      have c16b0 : (a1 == 1) = false := beq_eq_false_iff_ne.mpr c16
      have c16b1 : (a1 != 1) = true := bne_iff_ne.mpr c16
      by_cases c26 : a1 = 2
      · rw [if_pos c26] at H
        have c26b0 : (a1 == 2) = true := beq_iff_eq.mpr c26
        have c26b1 : (a1 != 2) = false := bne_eq_false_iff_eq.mpr c26
        clear c26
        replace H := Option.bind_eq_some_iff.mp H
        obtain ⟨t131, A270, H⟩ := H
        replace H : (some (t131, false)) = some (r1, r2) := H
        have A27 := Aside0.mk A270
        clear A270
        simp only [Option.some.injEq, Prod.mk.injEq] at H
        obtain ⟨rfl, rfl⟩ := H
        have hmf_ : ∀ (fn : Fn) (first cap : Array Value) (w : World), (Instr.makeFunc fn first cap).run Tryd.prog w = .ok (.func fn first cap) w := fun _ _ _ _ => rfl
        go_enter_defers Tryd.func7, Tryd.ntmps7
        refine Code.wp_mono (Aid.noPanic_le _) ?_
        try go_wp2_with (first | ((with_reducible refine gate_dst (N := 8) rfl ?_); refine box_event ?hg (N := 8) ?hd (cs := #[.slice none 0 0]) (t := 22) ?hr ?_; (case hd => rfl); (case hg => rfl); (case hr => first | (go_simp; done) | (go_simp; rfl)); intro gb124 hg w28 hbox hb; have n0_ := Aside0.mk (below_step (by repeat (first | (with_reducible first | exact HB.out | apply below_alloc | apply pw_below_drewN | apply below_drew1) | exact HB.out)) hb); have n1_ := Aside0.mk (hbox); have n2_ := Aside0.mk ((by rw [hg]; exact (below_size (by repeat (first | (with_reducible first | exact HB.out | apply below_alloc | apply pw_below_drewN | apply below_drew1) | exact HB.out))) : w.heap.size ≤ gb124)); have n3_ := Aside0.mk ((by rw [hg]; exact (below_size (by repeat (first | (with_reducible first | exact HB.out | apply below_alloc | apply pw_below_drewN | apply below_drew1) | exact HB.out))) : w.heap.size ≤ gb124)); clear HB; have HB := n0_; have BK124 := n1_; have GW124 := n2_; have GE124 := n3_; clear n0_ n1_ n2_ n3_; clear hb hbox hg) | ((with_reducible refine gate_dst (N := 9) rfl ?_); refine box_event ?hg (N := 9) ?hd (cs := #[.bool false]) (t := 4) ?hr ?_; (case hd => rfl); (case hg => rfl); (case hr => first | (go_simp; done) | (go_simp; rfl)); intro gb125 hg w29 hbox hb; have n0_ := Aside0.mk (blk_below (g := gb124) (o := .cells #[.slice none 0 0] 22 (0, 0)) (by (with_reducible repeat (first | refine blk_drewN ?_ _ | refine blk_drew ?_ | refine blk_alloc ?_ _)); exact BK124.out) hb); have n1_ := Aside0.mk (below_step (by repeat (first | (with_reducible first | exact HB.out | apply below_alloc | apply pw_below_drewN | apply below_drew1 | refine below_set ?_ GE124.out) | exact HB.out)) hb); have n2_ := Aside0.mk (hbox); have n3_ := Aside0.mk ((by rw [hg]; exact (below_size (by repeat (first | (with_reducible first | exact HB.out | apply below_alloc | apply pw_below_drewN | apply below_drew1 | refine below_set ?_ GE124.out) | exact HB.out))) : w.heap.size ≤ gb125)); have n4_ := Aside0.mk ((by rw [hg]; exact (below_size (by repeat (first | (with_reducible first | exact HB.out | apply below_alloc | apply pw_below_drewN | apply below_drew1 | refine below_set ?_ GE124.out) | exact HB.out))) : w.heap.size ≤ gb125)); have n5_ := Aside0.mk ((by rw [hg]; exact Nat.ne_of_lt (blk_lt (g := gb124) (o := .cells #[.slice none 0 0] 22 (0, 0)) (by (with_reducible repeat (first | refine blk_drewN ?_ _ | refine blk_drew ?_ | refine blk_alloc ?_ _)); exact BK124.out)) : gb124 ≠ gb125)); have n6_ := Aside0.mk ((by rw [hg]; exact Nat.ne_of_gt (blk_lt (g := gb124) (o := .cells #[.slice none 0 0] 22 (0, 0)) (by (with_reducible repeat (first | refine blk_drewN ?_ _ | refine blk_drew ?_ | refine blk_alloc ?_ _)); exact BK124.out)) : gb125 ≠ gb124)); clear BK124; clear HB; have BK124 := n0_; have HB := n1_; have BK125 := n2_; have GW125 := n3_; have GE125 := n4_; have NB124_125 := n5_; have NB125_124 := n6_; clear n0_ n1_ n2_ n3_ n4_ n5_ n6_; clear hb hbox hg) | ((with_reducible refine gate_callee (f := 14) rfl ?_); refine goesL_ (some 13) rfl rfl Tryd.func14 (by kernel_rfl) rfl #[.slice A0 l0.length c0] rfl (by (try simp only [List.map_toArray, List.map_cons, List.map_nil]); first | done | rfl | (simp only [List.length_drop, List.length_take]; rfl)) ?_; (with_reducible refine (impl_copied.calls _ _ l0 t126 _ ?side1 ?side2 A5.out).mono ?_); (case side1 => repeat (first | exact (Kd.C_below HR0.out HB.out) | (with_reducible refine Kd.C_alloc ?_ _) | (with_reducible refine Kd.C_drewN ?_ _) | (with_reducible refine Kd.C_drew ?_))); (case side2 => exact HC0.out); rintro e w30 ⟨v127, rfl, ho0, hb⟩; refine ⟨_, rfl, ?_⟩; have n0_ := Aside0.mk (Kd.R_lower ho0 (below_size (by repeat (first | (with_reducible first | exact HB.out | apply below_alloc | apply pw_below_drewN | apply below_drew1 | refine below_set ?_ GE124.out | refine below_set ?_ GE125.out) | exact HB.out)))); have n1_ := Aside0.mk (blk_below (g := gb124) (o := .cells #[.slice none 0 0] 22 (0, 0)) (by (with_reducible repeat (first | refine blk_drewN ?_ _ | refine blk_drew ?_ | refine blk_alloc ?_ _)); exact BK124.out) hb); have n2_ := Aside0.mk (blk_below (g := gb125) (o := .cells #[.bool false] 4 (0, 0)) (by (with_reducible repeat (first | refine blk_drewN ?_ _ | refine blk_drew ?_ | refine blk_alloc ?_ _)); exact BK125.out) hb); have n3_ := Aside0.mk (below_step (by repeat (first | (with_reducible first | exact HB.out | apply below_alloc | apply pw_below_drewN | apply below_drew1 | refine below_set ?_ GE124.out | refine below_set ?_ GE125.out) | exact HB.out)) hb); clear BK124; clear BK125; clear HB; have HO128 := n0_; have BK124 := n1_; have BK125 := n2_; have HB := n3_; clear n0_ n1_ n2_ n3_; (try clear hb); (try clear hb2); (try clear hk); (try clear hi); (try clear ho0); obtain ⟨Ao31, co31, eo31⟩ := Kd.R_slice HO128.out; subst eo31) | ((with_reducible refine gate_callee (f := 17) rfl ?_); refine goesL_ (some 30) rfl rfl Tryd.func17 (by kernel_rfl) rfl #[.slice Ao31 t126.length co31, .int .i64 a2, .bool a3] rfl (by (try simp only [List.map_toArray, List.map_cons, List.map_nil]); first | done | rfl | (simp only [List.length_drop, List.length_take]; rfl)) ?_; (with_reducible refine (bitutil_SetBitTo.calls (fun k_ => some k_ = (.slice Ao31 t126.length co31 : Value).ownBlock) (.slice Ao31 t126.length co31) t126 a2 a3 t131 w _ ?side1 ?side2 ?side3 ?side4 A27.out).mono ?_); (case side1 => repeat (first | (with_reducible first | exact HB.out | apply below_alloc | apply pw_below_drewN | apply below_drew1 | refine below_set ?_ GE124.out | refine below_set ?_ GE125.out) | exact HB.out)); (case side2 => exact Kd.R_tight rfl HO128.out); (case side3 => first | exact HG0.out | exact Kd.C_below HG0.out (by repeat (first | (with_reducible first | exact HB.out | apply below_alloc | apply pw_below_drewN | apply below_drew1 | refine below_set ?_ GE124.out | refine below_set ?_ GE125.out) | exact HB.out))); (case side4 => first | exact HG1.out | exact Kd.C_below HG1.out (by repeat (first | (with_reducible first | exact HB.out | apply below_alloc | apply pw_below_drewN | apply below_drew1 | refine below_set ?_ GE124.out | refine below_set ?_ GE125.out) | exact HB.out))); rintro e w32 ⟨rfl, hy0, hb, hkp⟩; refine ⟨_, rfl, ?_⟩; have n0_ := Aside0.mk (blk_kept (by (with_reducible repeat (first | refine blk_drewN ?_ _ | refine blk_drew ?_ | refine blk_alloc ?_ _)); exact BK124.out) hkp (fun hs_ => (fun e_ => (Kd.R_ne HO128.out BK124.out (by decide)) e_) hs_)); have n1_ := Aside0.mk (blk_kept (by (with_reducible repeat (first | refine blk_drewN ?_ _ | refine blk_drew ?_ | refine blk_alloc ?_ _)); exact BK125.out) hkp (fun hs_ => (fun e_ => (Kd.R_ne HO128.out BK125.out (by decide)) e_) hs_)); have n2_ := Aside0.mk (Kd.R_reok rfl hy0 (fun k_ e_ => HO128.out.1 k_ e_)); have n3_ := Aside0.mk (hb); clear BK124; clear BK125; clear HO128; clear HB; have BK124 := n0_; have BK125 := n1_; have HO128 := n2_; have HB := n3_; clear n0_ n1_ n2_ n3_; (try clear hb); (try clear hkp); (try clear hy0)))
        have n0_ := Aside0.mk (Kd.R_drew HO128.out)
        have n1_ := Aside0.mk (blk_drew BK124.out)
        have n2_ := Aside0.mk (blk_drew BK125.out)
        have n3_ := Aside0.mk (below_drew1 HB.out)
        clear HO128
        clear BK124
        clear BK125
        clear HB
        have HO128 := n0_
        have BK124 := n1_
        have BK125 := n2_
        have HB := n3_
        clear n0_ n1_ n2_ n3_
        refine start_ (n := 4) (S := fun w' => w'.cell? ⟨gb125, 0, none⟩ = some (.bool false)) (ds := []) #[false, false, false, false] (by kernel_rfl) rfl rfl ((blk_cell BK125.out 0).trans rfl) (fun hHeld => ?_)
        generalize w32.drew = w33 at HO128 BK124 BK125 HB hHeld ⊢
        refine pure_ (i := 0) (N := some 41) (v := ?_) (a' := ?_) #[true, false, false, false] rfl rfl (by kernel_rfl) (fun _ _ _ h => h) (Or.inl ⟨by rfl, ?_⟩) ?_ ?_
        rotate_left
        · intro w'
          go_simp
          with_reducible rfl
        rotate_left
        · simp only [Act.put, List.setIfInBounds_toArray, List.set_cons_zero, List.set_cons_succ, i64_w, i32_w]
          rfl
        refine take_ (i := 1) (N := some 42) (v := ?_) (a' := ?_) #[true, true, false, false] rfl rfl (by kernel_rfl) (fun _ _ _ h => h) (Or.inl ⟨by rfl, ?_⟩) hHeld ?_ ?_
        rotate_left
        · intro w' s0
          go_simp
          with_reducible rfl
        rotate_left
        · simp only [Act.put, List.setIfInBounds_toArray, List.set_cons_zero, List.set_cons_succ, i64_w, i32_w]
          rfl
        refine one_ (i := 2) (N := none) #[true, true, true, false] rfl rfl (by kernel_rfl) (by decide) (fun K hK => ?_)
        have hs34 : w33.cell? ⟨gb124, 0, none⟩ = some (.slice none 0 0) := (blk_cell BK124.out 0).trans rfl
        have hfs34 := blk_frozen BK124.out 0
        have hns34_1 := NB125_124.out
        have hms34_1 := NB124_125.out
        refine skip_ (w1 := ?_) (by rfl) rfl ?_ ?_
        rotate_left
        · go_simp
          rfl
        refine hK.out _ _ (((cell_far (p := ⟨gb124, _, none⟩) NB125_124.out _).trans (hHeld))) (fun hHeld => ?_)
        clear hK K
        refine one_ (i := 3) (N := none) #[true, true, true, true] rfl rfl (by kernel_rfl) (by decide) (fun K hK => ?_)
        have hs35 : w33.cell? ⟨gb125, 0, none⟩ = some (.bool false) := (blk_cell BK125.out 0).trans rfl
        have hfs35 := blk_frozen BK125.out 0
        have hns35_0 := NB124_125.out
        have hms35_0 := NB125_124.out
        refine skip_ (w1 := ?_) (by rfl) rfl ?_ ?_
        rotate_left
        · go_simp
          rfl
        refine hK.out _ _ ((Aid.cell_same (hHeld))) (fun hHeld => ?_)
        clear hK K
        refine done_ (by kernel_rfl) ?_
        try go_wp2
        (try simp only [Exit.inBlock, Exit.then])
        refine Aid.door_ (G := 13) (by simp [go_sem]) (idle13 (.pointer (some ⟨gb124, 0, none⟩)) (.pointer (some ⟨gb125, 0, none⟩))) (Aid.resultsB_list (rs := [.cell 8 22, .cell 9 4]) rfl (by simp) (.one gb124 22 (.slice Ao31 t126.length co31) _ rfl (by (with_reducible repeat (first | refine blk_drewN ?_ _ | refine blk_drew ?_ | refine blk_alloc ?_ _)); refine blk_far ?_ NB124_125.out _; (with_reducible repeat (first | refine blk_drewN ?_ _ | refine blk_drew ?_ | refine blk_alloc ?_ _)); refine blk_put (cs := #[.slice none 0 0]) ?_ 0 _ rfl; (with_reducible repeat (first | refine blk_drewN ?_ _ | refine blk_drew ?_ | refine blk_alloc ?_ _)); exact BK124.out) Tryd.underlying22 rfl (.one gb125 4 (.bool false) _ rfl (by (with_reducible repeat (first | refine blk_drewN ?_ _ | refine blk_drew ?_ | refine blk_alloc ?_ _)); refine blk_put (cs := #[.bool false]) ?_ 0 _ rfl; (with_reducible repeat (first | refine blk_drewN ?_ _ | refine blk_drew ?_ | refine blk_alloc ?_ _)); refine blk_far ?_ NB125_124.out _; (with_reducible repeat (first | refine blk_drewN ?_ _ | refine blk_drew ?_ | refine blk_alloc ?_ _)); exact BK125.out) Tryd.underlying4 rfl .nil))) ?_
        exact ⟨_, by first | rfl | (simp [errW_none, errW_some] <;> rfl) | (simp [*, errW_none, errW_some] <;> rfl), by (with_reducible repeat (first | apply Kd.R_alloc | apply Kd.R_drewN | apply Kd.R_drew)); exact Kd.R_mono (Kd.R_far (p := ⟨gb125, 0, none⟩) (Kd.R_far (p := ⟨gb124, 0, none⟩) (Kd.R_types (Kd.R_types HO128.out BK124.out (by decide)) BK125.out (by decide)) (fun _ hk => hk.1.2) (.slice Ao31 t126.length co31)) (fun _ hk => hk.2) (.bool false)) (fun _ hk => trivial), by repeat (first | (with_reducible first | exact HB.out | apply below_alloc | apply pw_below_drewN | apply below_drew1 | refine below_set ?_ GE124.out | refine below_set ?_ GE125.out) | exact HB.out)⟩
      · rw [if_neg c26] at H
        have c26b0 : (a1 == 2) = false := beq_eq_false_iff_ne.mpr c26
        have c26b1 : (a1 != 2) = true := bne_iff_ne.mpr c26
        by_cases c36 : a1 = 3
        · rw [if_pos c36] at H
          have c36b0 : (a1 == 3) = true := beq_iff_eq.mpr c36
          have c36b1 : (a1 != 3) = false := bne_eq_false_iff_eq.mpr c36
          clear c36
          replace H := Option.bind_eq_some_iff.mp H
          obtain ⟨⟨t132, t133⟩, A370, H⟩ := H
          replace H : (some (t133, t132)) = some (r1, r2) := H
          have A37 := Aside0.mk A370
          clear A370
          simp only [Option.some.injEq, Prod.mk.injEq] at H
          obtain ⟨rfl, rfl⟩ := H
          have hmf_ : ∀ (fn : Fn) (first cap : Array Value) (w : World), (Instr.makeFunc fn first cap).run Tryd.prog w = .ok (.func fn first cap) w := fun _ _ _ _ => rfl
          go_enter_defers Tryd.func7, Tryd.ntmps7
          refine Code.wp_mono (Aid.noPanic_le _) ?_
          try go_wp2_with (first | ((with_reducible refine gate_dst (N := 8) rfl ?_); refine box_event ?hg (N := 8) ?hd (cs := #[.slice none 0 0]) (t := 22) ?hr ?_; (case hd => rfl); (case hg => rfl); (case hr => first | (go_simp; done) | (go_simp; rfl)); intro gb124 hg w38 hbox hb; have n0_ := Aside0.mk (below_step (by repeat (first | (with_reducible first | exact HB.out | apply below_alloc | apply pw_below_drewN | apply below_drew1) | exact HB.out)) hb); have n1_ := Aside0.mk (hbox); have n2_ := Aside0.mk ((by rw [hg]; exact (below_size (by repeat (first | (with_reducible first | exact HB.out | apply below_alloc | apply pw_below_drewN | apply below_drew1) | exact HB.out))) : w.heap.size ≤ gb124)); have n3_ := Aside0.mk ((by rw [hg]; exact (below_size (by repeat (first | (with_reducible first | exact HB.out | apply below_alloc | apply pw_below_drewN | apply below_drew1) | exact HB.out))) : w.heap.size ≤ gb124)); clear HB; have HB := n0_; have BK124 := n1_; have GW124 := n2_; have GE124 := n3_; clear n0_ n1_ n2_ n3_; clear hb hbox hg) | ((with_reducible refine gate_dst (N := 9) rfl ?_); refine box_event ?hg (N := 9) ?hd (cs := #[.bool false]) (t := 4) ?hr ?_; (case hd => rfl); (case hg => rfl); (case hr => first | (go_simp; done) | (go_simp; rfl)); intro gb125 hg w39 hbox hb; have n0_ := Aside0.mk (blk_below (g := gb124) (o := .cells #[.slice none 0 0] 22 (0, 0)) (by (with_reducible repeat (first | refine blk_drewN ?_ _ | refine blk_drew ?_ | refine blk_alloc ?_ _)); exact BK124.out) hb); have n1_ := Aside0.mk (below_step (by repeat (first | (with_reducible first | exact HB.out | apply below_alloc | apply pw_below_drewN | apply below_drew1 | refine below_set ?_ GE124.out) | exact HB.out)) hb); have n2_ := Aside0.mk (hbox); have n3_ := Aside0.mk ((by rw [hg]; exact (below_size (by repeat (first | (with_reducible first | exact HB.out | apply below_alloc | apply pw_below_drewN | apply below_drew1 | refine below_set ?_ GE124.out) | exact HB.out))) : w.heap.size ≤ gb125)); have n4_ := Aside0.mk ((by rw [hg]; exact (below_size (by repeat (first | (with_reducible first | exact HB.out | apply below_alloc | apply pw_below_drewN | apply below_drew1 | refine below_set ?_ GE124.out) | exact HB.out))) : w.heap.size ≤ gb125)); have n5_ := Aside0.mk ((by rw [hg]; exact Nat.ne_of_lt (blk_lt (g := gb124) (o := .cells #[.slice none 0 0] 22 (0, 0)) (by (with_reducible repeat (first | refine blk_drewN ?_ _ | refine blk_drew ?_ | refine blk_alloc ?_ _)); exact BK124.out)) : gb124 ≠ gb125)); have n6_ := Aside0.mk ((by rw [hg]; exact Nat.ne_of_gt (blk_lt (g := gb124) (o := .cells #[.slice none 0 0] 22 (0, 0)) (by (with_reducible repeat (first | refine blk_drewN ?_ _ | refine blk_drew ?_ | refine blk_alloc ?_ _)); exact BK124.out)) : gb125 ≠ gb124)); clear BK124; clear HB; have BK124 := n0_; have HB := n1_; have BK125 := n2_; have GW125 := n3_; have GE125 := n4_; have NB124_125 := n5_; have NB125_124 := n6_; clear n0_ n1_ n2_ n3_ n4_ n5_ n6_; clear hb hbox hg) | ((with_reducible refine gate_callee (f := 14) rfl ?_); refine goesL_ (some 13) rfl rfl Tryd.func14 (by kernel_rfl) rfl #[.slice A0 l0.length c0] rfl (by (try simp only [List.map_toArray, List.map_cons, List.map_nil]); first | done | rfl | (simp only [List.length_drop, List.length_take]; rfl)) ?_; (with_reducible refine (impl_copied.calls _ _ l0 t126 _ ?side1 ?side2 A5.out).mono ?_); (case side1 => repeat (first | exact (Kd.C_below HR0.out HB.out) | (with_reducible refine Kd.C_alloc ?_ _) | (with_reducible refine Kd.C_drewN ?_ _) | (with_reducible refine Kd.C_drew ?_))); (case side2 => exact HC0.out); rintro e w40 ⟨v127, rfl, ho0, hb⟩; refine ⟨_, rfl, ?_⟩; have n0_ := Aside0.mk (Kd.R_lower ho0 (below_size (by repeat (first | (with_reducible first | exact HB.out | apply below_alloc | apply pw_below_drewN | apply below_drew1 | refine below_set ?_ GE124.out | refine below_set ?_ GE125.out) | exact HB.out)))); have n1_ := Aside0.mk (blk_below (g := gb124) (o := .cells #[.slice none 0 0] 22 (0, 0)) (by (with_reducible repeat (first | refine blk_drewN ?_ _ | refine blk_drew ?_ | refine blk_alloc ?_ _)); exact BK124.out) hb); have n2_ := Aside0.mk (blk_below (g := gb125) (o := .cells #[.bool false] 4 (0, 0)) (by (with_reducible repeat (first | refine blk_drewN ?_ _ | refine blk_drew ?_ | refine blk_alloc ?_ _)); exact BK125.out) hb); have n3_ := Aside0.mk (below_step (by repeat (first | (with_reducible first | exact HB.out | apply below_alloc | apply pw_below_drewN | apply below_drew1 | refine below_set ?_ GE124.out | refine below_set ?_ GE125.out) | exact HB.out)) hb); clear BK124; clear BK125; clear HB; have HO128 := n0_; have BK124 := n1_; have BK125 := n2_; have HB := n3_; clear n0_ n1_ n2_ n3_; (try clear hb); (try clear hb2); (try clear hk); (try clear hi); (try clear ho0); obtain ⟨Ao41, co41, eo41⟩ := Kd.R_slice HO128.out; subst eo41) | ((with_reducible refine gate_callee (f := 18) rfl ?_); refine goesL_ (some 35) rfl rfl Tryd.func18 (by kernel_rfl) rfl #[.slice Ao41 t126.length co41, .int .i64 a2] rfl (by (try simp only [List.map_toArray, List.map_cons, List.map_nil]); first | done | rfl | (simp only [List.length_drop, List.length_take]; rfl)) ?_; (with_reducible refine (bitutil_SetBitSwap.calls (fun k_ => some k_ = (.slice Ao41 t126.length co41 : Value).ownBlock) (.slice Ao41 t126.length co41) t126 a2 t132 t133 w _ ?side1 ?side2 ?side3 A37.out).mono ?_); (case side1 => repeat (first | (with_reducible first | exact HB.out | apply below_alloc | apply pw_below_drewN | apply below_drew1 | refine below_set ?_ GE124.out | refine below_set ?_ GE125.out) | exact HB.out)); (case side2 => exact Kd.R_tight rfl HO128.out); (case side3 => first | exact HG0.out | exact Kd.C_below HG0.out (by repeat (first | (with_reducible first | exact HB.out | apply below_alloc | apply pw_below_drewN | apply below_drew1 | refine below_set ?_ GE124.out | refine below_set ?_ GE125.out) | exact HB.out))); rintro e w42 ⟨rfl, hy0, hb, hkp⟩; refine ⟨_, rfl, ?_⟩; have n0_ := Aside0.mk (blk_kept (by (with_reducible repeat (first | refine blk_drewN ?_ _ | refine blk_drew ?_ | refine blk_alloc ?_ _)); exact BK124.out) hkp (fun hs_ => (fun e_ => (Kd.R_ne HO128.out BK124.out (by decide)) e_) hs_)); have n1_ := Aside0.mk (blk_kept (by (with_reducible repeat (first | refine blk_drewN ?_ _ | refine blk_drew ?_ | refine blk_alloc ?_ _)); exact BK125.out) hkp (fun hs_ => (fun e_ => (Kd.R_ne HO128.out BK125.out (by decide)) e_) hs_)); have n2_ := Aside0.mk (Kd.R_reok rfl hy0 (fun k_ e_ => HO128.out.1 k_ e_)); have n3_ := Aside0.mk (hb); clear BK124; clear BK125; clear HO128; clear HB; have BK124 := n0_; have BK125 := n1_; have HO128 := n2_; have HB := n3_; clear n0_ n1_ n2_ n3_; (try clear hb); (try clear hkp); (try clear hy0); have hnb43 := NB125_124.out; have hnc43 := NB124_125.out; have hcz44_0 : w42.cell? ⟨gb125, 0, none⟩ = some (.bool false) := (blk_cell BK125.out 0).trans rfl; have hfz44_0 := blk_frozen BK125.out 0))
          have n0_ : Aside0 (Kd.R (Kd.int .u8) 5 (w42.setCell ⟨gb125, 0, none⟩ (.bool t132)) w.heap.size (fun _ => True) (.slice Ao41 t126.length co41) t133) := ⟨by (with_reducible repeat (first | apply Kd.R_alloc | apply Kd.R_drewN | apply Kd.R_drew)); exact Kd.R_mono (Kd.R_far (p := ⟨gb125, 0, none⟩) (Kd.R_types HO128.out BK125.out (by decide)) (fun _ hk => hk.2) (.bool t132)) (fun _ hk => trivial)⟩
          have n1_ : Aside0 ((w42.setCell ⟨gb125, 0, none⟩ (.bool t132)).heap[gb124]? = some (.cells #[.slice none 0 0] 22 (0, 0))) := ⟨by (with_reducible repeat (first | refine blk_drewN ?_ _ | refine blk_drew ?_ | refine blk_alloc ?_ _)); refine blk_far ?_ NB124_125.out _; (with_reducible repeat (first | refine blk_drewN ?_ _ | refine blk_drew ?_ | refine blk_alloc ?_ _)); exact BK124.out⟩
          have n2_ : Aside0 ((w42.setCell ⟨gb125, 0, none⟩ (.bool t132)).heap[gb125]? = some (.cells #[.bool t132] 4 (0, 0))) := ⟨by (with_reducible repeat (first | refine blk_drewN ?_ _ | refine blk_drew ?_ | refine blk_alloc ?_ _)); refine blk_put (cs := #[.bool false]) ?_ 0 _ rfl; (with_reducible repeat (first | refine blk_drewN ?_ _ | refine blk_drew ?_ | refine blk_alloc ?_ _)); exact BK125.out⟩
          have n3_ : Aside0 (Below w.heap.size w (w42.setCell ⟨gb125, 0, none⟩ (.bool t132))) := ⟨by repeat (first | (with_reducible first | exact HB.out | apply below_alloc | apply pw_below_drewN | apply below_drew1 | refine below_set ?_ GE124.out | refine below_set ?_ GE125.out) | exact HB.out)⟩
          (try clear HO128)
          (try clear BK124)
          (try clear BK125)
          (try clear HB)
          generalize (w42.setCell ⟨gb125, 0, none⟩ (.bool t132)) = w45 at n0_ n1_ n2_ n3_ ⊢
          have HO128 := n0_
          have BK124 := n1_
          have BK125 := n2_
          have HB := n3_
          clear n0_ n1_ n2_ n3_
          have n0_ := Aside0.mk (Kd.R_drew HO128.out)
          have n1_ := Aside0.mk (blk_drew BK124.out)
          have n2_ := Aside0.mk (blk_drew BK125.out)
          have n3_ := Aside0.mk (below_drew1 HB.out)
          clear HO128
          clear BK124
          clear BK125
          clear HB
          have HO128 := n0_
          have BK124 := n1_
          have BK125 := n2_
          have HB := n3_
          clear n0_ n1_ n2_ n3_
          refine start_ (n := 4) (S := fun w' => w'.cell? ⟨gb125, 0, none⟩ = some (.bool t132)) (ds := []) #[false, false, false, false] (by kernel_rfl) rfl rfl ((blk_cell BK125.out 0).trans rfl) (fun hHeld => ?_)
          generalize w45.drew = w46 at HO128 BK124 BK125 HB hHeld ⊢
          refine pure_ (i := 0) (N := some 41) (v := ?_) (a' := ?_) #[true, false, false, false] rfl rfl (by kernel_rfl) (fun _ _ _ h => h) (Or.inl ⟨by rfl, ?_⟩) ?_ ?_
          rotate_left
          · intro w'
            go_simp
            with_reducible rfl
          rotate_left
          · simp only [Act.put, List.setIfInBounds_toArray, List.set_cons_zero, List.set_cons_succ, i64_w, i32_w]
            rfl
          refine take_ (i := 1) (N := some 42) (v := ?_) (a' := ?_) #[true, true, false, false] rfl rfl (by kernel_rfl) (fun _ _ _ h => h) (Or.inl ⟨by rfl, ?_⟩) hHeld ?_ ?_
          rotate_left
          · intro w' s0
            go_simp
            with_reducible rfl
          rotate_left
          · simp only [Act.put, List.setIfInBounds_toArray, List.set_cons_zero, List.set_cons_succ, i64_w, i32_w]
            rfl
          refine one_ (i := 2) (N := none) #[true, true, true, false] rfl rfl (by kernel_rfl) (by decide) (fun K hK => ?_)
          have hs47 : w46.cell? ⟨gb124, 0, none⟩ = some (.slice none 0 0) := (blk_cell BK124.out 0).trans rfl
          have hfs47 := blk_frozen BK124.out 0
          have hns47_1 := NB125_124.out
          have hms47_1 := NB124_125.out
          refine skip_ (w1 := ?_) (by rfl) rfl ?_ ?_
          rotate_left
          · go_simp
            rfl
          refine hK.out _ _ (((cell_far (p := ⟨gb124, _, none⟩) NB125_124.out _).trans (hHeld))) (fun hHeld => ?_)
          clear hK K
          refine one_ (i := 3) (N := none) #[true, true, true, true] rfl rfl (by kernel_rfl) (by decide) (fun K hK => ?_)
          have hs48 : w46.cell? ⟨gb125, 0, none⟩ = some (.bool t132) := (blk_cell BK125.out 0).trans rfl
          have hfs48 := blk_frozen BK125.out 0
          have hns48_0 := NB124_125.out
          have hms48_0 := NB125_124.out
          refine skip_ (w1 := ?_) (by rfl) rfl ?_ ?_
          rotate_left
          · go_simp
            rfl
          refine hK.out _ _ ((Aid.cell_same (hHeld))) (fun hHeld => ?_)
          clear hK K
          refine done_ (by kernel_rfl) ?_
          try go_wp2
          (try simp only [Exit.inBlock, Exit.then])
          refine Aid.door_ (G := 13) (by simp [go_sem]) (idle13 (.pointer (some ⟨gb124, 0, none⟩)) (.pointer (some ⟨gb125, 0, none⟩))) (Aid.resultsB_list (rs := [.cell 8 22, .cell 9 4]) rfl (by simp) (.one gb124 22 (.slice Ao41 t126.length co41) _ rfl (by (with_reducible repeat (first | refine blk_drewN ?_ _ | refine blk_drew ?_ | refine blk_alloc ?_ _)); refine blk_far ?_ NB124_125.out _; (with_reducible repeat (first | refine blk_drewN ?_ _ | refine blk_drew ?_ | refine blk_alloc ?_ _)); refine blk_put (cs := #[.slice none 0 0]) ?_ 0 _ rfl; (with_reducible repeat (first | refine blk_drewN ?_ _ | refine blk_drew ?_ | refine blk_alloc ?_ _)); exact BK124.out) Tryd.underlying22 rfl (.one gb125 4 (.bool t132) _ rfl (by (with_reducible repeat (first | refine blk_drewN ?_ _ | refine blk_drew ?_ | refine blk_alloc ?_ _)); refine blk_put (cs := #[.bool t132]) ?_ 0 _ rfl; (with_reducible repeat (first | refine blk_drewN ?_ _ | refine blk_drew ?_ | refine blk_alloc ?_ _)); refine blk_far ?_ NB125_124.out _; (with_reducible repeat (first | refine blk_drewN ?_ _ | refine blk_drew ?_ | refine blk_alloc ?_ _)); exact BK125.out) Tryd.underlying4 rfl .nil))) ?_
          exact ⟨_, by first | rfl | (simp [errW_none, errW_some] <;> rfl) | (simp [*, errW_none, errW_some] <;> rfl), by (with_reducible repeat (first | apply Kd.R_alloc | apply Kd.R_drewN | apply Kd.R_drew)); exact Kd.R_mono (Kd.R_far (p := ⟨gb125, 0, none⟩) (Kd.R_far (p := ⟨gb124, 0, none⟩) (Kd.R_types (Kd.R_types HO128.out BK124.out (by decide)) BK125.out (by decide)) (fun _ hk => hk.1.2) (.slice Ao41 t126.length co41)) (fun _ hk => hk.2) (.bool t132)) (fun _ hk => trivial), by repeat (first | (with_reducible first | exact HB.out | apply below_alloc | apply pw_below_drewN | apply below_drew1 | refine below_set ?_ GE124.out | refine below_set ?_ GE125.out) | exact HB.out)⟩
        · rw [if_neg c36] at H
          have c36b0 : (a1 == 3) = false := beq_eq_false_iff_ne.mpr c36
          have c36b1 : (a1 != 3) = true := bne_iff_ne.mpr c36
          by_cases c49 : a1 = 4
          · rw [if_pos c49] at H
            have c49b0 : (a1 == 4) = true := beq_iff_eq.mpr c49
            have c49b1 : (a1 != 4) = false := bne_eq_false_iff_eq.mpr c49
            clear c49
            replace H := Option.bind_eq_some_iff.mp H
            obtain ⟨⟨t134, t135⟩, A500, H⟩ := H
            replace H : (some (t135, t134)) = some (r1, r2) := H
            have A50 := Aside0.mk A500
            clear A500
            simp only [Option.some.injEq, Prod.mk.injEq] at H
            obtain ⟨rfl, rfl⟩ := H
            have hmf_ : ∀ (fn : Fn) (first cap : Array Value) (w : World), (Instr.makeFunc fn first cap).run Tryd.prog w = .ok (.func fn first cap) w := fun _ _ _ _ => rfl
            go_enter_defers Tryd.func7, Tryd.ntmps7
            refine Code.wp_mono (Aid.noPanic_le _) ?_
            try go_wp2_with (first | ((with_reducible refine gate_dst (N := 8) rfl ?_); refine box_event ?hg (N := 8) ?hd (cs := #[.slice none 0 0]) (t := 22) ?hr ?_; (case hd => rfl); (case hg => rfl); (case hr => first | (go_simp; done) | (go_simp; rfl)); intro gb124 hg w51 hbox hb; have n0_ := Aside0.mk (below_step (by repeat (first | (with_reducible first | exact HB.out | apply below_alloc | apply pw_below_drewN | apply below_drew1) | exact HB.out)) hb); have n1_ := Aside0.mk (hbox); have n2_ := Aside0.mk ((by rw [hg]; exact (below_size (by repeat (first | (with_reducible first | exact HB.out | apply below_alloc | apply pw_below_drewN | apply below_drew1) | exact HB.out))) : w.heap.size ≤ gb124)); have n3_ := Aside0.mk ((by rw [hg]; exact (below_size (by repeat (first | (with_reducible first | exact HB.out | apply below_alloc | apply pw_below_drewN | apply below_drew1) | exact HB.out))) : w.heap.size ≤ gb124)); clear HB; have HB := n0_; have BK124 := n1_; have GW124 := n2_; have GE124 := n3_; clear n0_ n1_ n2_ n3_; clear hb hbox hg) | ((with_reducible refine gate_dst (N := 9) rfl ?_); refine box_event ?hg (N := 9) ?hd (cs := #[.bool false]) (t := 4) ?hr ?_; (case hd => rfl); (case hg => rfl); (case hr => first | (go_simp; done) | (go_simp; rfl)); intro gb125 hg w52 hbox hb; have n0_ := Aside0.mk (blk_below (g := gb124) (o := .cells #[.slice none 0 0] 22 (0, 0)) (by (with_reducible repeat (first | refine blk_drewN ?_ _ | refine blk_drew ?_ | refine blk_alloc ?_ _)); exact BK124.out) hb); have n1_ := Aside0.mk (below_step (by repeat (first | (with_reducible first | exact HB.out | apply below_alloc | apply pw_below_drewN | apply below_drew1 | refine below_set ?_ GE124.out) | exact HB.out)) hb); have n2_ := Aside0.mk (hbox); have n3_ := Aside0.mk ((by rw [hg]; exact (below_size (by repeat (first | (with_reducible first | exact HB.out | apply below_alloc | apply pw_below_drewN | apply below_drew1 | refine below_set ?_ GE124.out) | exact HB.out))) : w.heap.size ≤ gb125)); have n4_ := Aside0.mk ((by rw [hg]; exact (below_size (by repeat (first | (with_reducible first | exact HB.out | apply below_alloc | apply pw_below_drewN | apply below_drew1 | refine below_set ?_ GE124.out) | exact HB.out))) : w.heap.size ≤ gb125)); have n5_ := Aside0.mk ((by rw [hg]; exact Nat.ne_of_lt (blk_lt (g := gb124) (o := .cells #[.slice none 0 0] 22 (0, 0)) (by (with_reducible repeat (first | refine blk_drewN ?_ _ | refine blk_drew ?_ | refine blk_alloc ?_ _)); exact BK124.out)) : gb124 ≠ gb125)); have n6_ := Aside0.mk ((by rw [hg]; exact Nat.ne_of_gt (blk_lt (g := gb124) (o := .cells #[.slice none 0 0] 22 (0, 0)) (by (with_reducible repeat (first | refine blk_drewN ?_ _ | refine blk_drew ?_ | refine blk_alloc ?_ _)); exact BK124.out)) : gb125 ≠ gb124)); clear BK124; clear HB; have BK124 := n0_; have HB := n1_; have BK125 := n2_; have GW125 := n3_; have GE125 := n4_; have NB124_125 := n5_; have NB125_124 := n6_; clear n0_ n1_ n2_ n3_ n4_ n5_ n6_; clear hb hbox hg) | ((with_reducible refine gate_callee (f := 14) rfl ?_); refine goesL_ (some 13) rfl rfl Tryd.func14 (by kernel_rfl) rfl #[.slice A0 l0.length c0] rfl (by (try simp only [List.map_toArray, List.map_cons, List.map_nil]); first | done | rfl | (simp only [List.length_drop, List.length_take]; rfl)) ?_; (with_reducible refine (impl_copied.calls _ _ l0 t126 _ ?side1 ?side2 A5.out).mono ?_); (case side1 => repeat (first | exact (Kd.C_below HR0.out HB.out) | (with_reducible refine Kd.C_alloc ?_ _) | (with_reducible refine Kd.C_drewN ?_ _) | (with_reducible refine Kd.C_drew ?_))); (case side2 => exact HC0.out); rintro e w53 ⟨v127, rfl, ho0, hb⟩; refine ⟨_, rfl, ?_⟩; have n0_ := Aside0.mk (Kd.R_lower ho0 (below_size (by repeat (first | (with_reducible first | exact HB.out | apply below_alloc | apply pw_below_drewN | apply below_drew1 | refine below_set ?_ GE124.out | refine below_set ?_ GE125.out) | exact HB.out)))); have n1_ := Aside0.mk (blk_below (g := gb124) (o := .cells #[.slice none 0 0] 22 (0, 0)) (by (with_reducible repeat (first | refine blk_drewN ?_ _ | refine blk_drew ?_ | refine blk_alloc ?_ _)); exact BK124.out) hb); have n2_ := Aside0.mk (blk_below (g := gb125) (o := .cells #[.bool false] 4 (0, 0)) (by (with_reducible repeat (first | refine blk_drewN ?_ _ | refine blk_drew ?_ | refine blk_alloc ?_ _)); exact BK125.out) hb); have n3_ := Aside0.mk (below_step (by repeat (first | (with_reducible first | exact HB.out | apply below_alloc | apply pw_below_drewN | apply below_drew1 | refine below_set ?_ GE124.out | refine below_set ?_ GE125.out) | exact HB.out)) hb); clear BK124; clear BK125; clear HB; have HO128 := n0_; have BK124 := n1_; have BK125 := n2_; have HB := n3_; clear n0_ n1_ n2_ n3_; (try clear hb); (try clear hb2); (try clear hk); (try clear hi); (try clear ho0); obtain ⟨Ao54, co54, eo54⟩ := Kd.R_slice HO128.out; subst eo54) | ((with_reducible refine gate_callee (f := 19) rfl ?_); refine goesL_ (some 40) rfl rfl Tryd.func19 (by kernel_rfl) rfl #[.slice Ao54 t126.length co54, .int .i64 a2] rfl (by (try simp only [List.map_toArray, List.map_cons, List.map_nil]); first | done | rfl | (simp only [List.length_drop, List.length_take]; rfl)) ?_; (with_reducible refine (bitutil_ClearBitSwap.calls (fun k_ => some k_ = (.slice Ao54 t126.length co54 : Value).ownBlock) (.slice Ao54 t126.length co54) t126 a2 t134 t135 w _ ?side1 ?side2 ?side3 A50.out).mono ?_); (case side1 => repeat (first | (with_reducible first | exact HB.out | apply below_alloc | apply pw_below_drewN | apply below_drew1 | refine below_set ?_ GE124.out | refine below_set ?_ GE125.out) | exact HB.out)); (case side2 => exact Kd.R_tight rfl HO128.out); (case side3 => first | exact HG0.out | exact Kd.C_below HG0.out (by repeat (first | (with_reducible first | exact HB.out | apply below_alloc | apply pw_below_drewN | apply below_drew1 | refine below_set ?_ GE124.out | refine below_set ?_ GE125.out) | exact HB.out))); rintro e w55 ⟨rfl, hy0, hb, hkp⟩; refine ⟨_, rfl, ?_⟩; have n0_ := Aside0.mk (blk_kept (by (with_reducible repeat (first | refine blk_drewN ?_ _ | refine blk_drew ?_ | refine blk_alloc ?_ _)); exact BK124.out) hkp (fun hs_ => (fun e_ => (Kd.R_ne HO128.out BK124.out (by decide)) e_) hs_)); have n1_ := Aside0.mk (blk_kept (by (with_reducible repeat (first | refine blk_drewN ?_ _ | refine blk_drew ?_ | refine blk_alloc ?_ _)); exact BK125.out) hkp (fun hs_ => (fun e_ => (Kd.R_ne HO128.out BK125.out (by decide)) e_) hs_)); have n2_ := Aside0.mk (Kd.R_reok rfl hy0 (fun k_ e_ => HO128.out.1 k_ e_)); have n3_ := Aside0.mk (hb); clear BK124; clear BK125; clear HO128; clear HB; have BK124 := n0_; have BK125 := n1_; have HO128 := n2_; have HB := n3_; clear n0_ n1_ n2_ n3_; (try clear hb); (try clear hkp); (try clear hy0); have hnb56 := NB125_124.out; have hnc56 := NB124_125.out; have hcz57_0 : w55.cell? ⟨gb125, 0, none⟩ = some (.bool false) := (blk_cell BK125.out 0).trans rfl; have hfz57_0 := blk_frozen BK125.out 0))
            have n0_ : Aside0 (Kd.R (Kd.int .u8) 5 (w55.setCell ⟨gb125, 0, none⟩ (.bool t134)) w.heap.size (fun _ => True) (.slice Ao54 t126.length co54) t135) := ⟨by (with_reducible repeat (first | apply Kd.R_alloc | apply Kd.R_drewN | apply Kd.R_drew)); exact Kd.R_mono (Kd.R_far (p := ⟨gb125, 0, none⟩) (Kd.R_types HO128.out BK125.out (by decide)) (fun _ hk => hk.2) (.bool t134)) (fun _ hk => trivial)⟩
            have n1_ : Aside0 ((w55.setCell ⟨gb125, 0, none⟩ (.bool t134)).heap[gb124]? = some (.cells #[.slice none 0 0] 22 (0, 0))) := ⟨by (with_reducible repeat (first | refine blk_drewN ?_ _ | refine blk_drew ?_ | refine blk_alloc ?_ _)); refine blk_far ?_ NB124_125.out _; (with_reducible repeat (first | refine blk_drewN ?_ _ | refine blk_drew ?_ | refine blk_alloc ?_ _)); exact BK124.out⟩
            have n2_ : Aside0 ((w55.setCell ⟨gb125, 0, none⟩ (.bool t134)).heap[gb125]? = some (.cells #[.bool t134] 4 (0, 0))) := ⟨by (with_reducible repeat (first | refine blk_drewN ?_ _ | refine blk_drew ?_ | refine blk_alloc ?_ _)); refine blk_put (cs := #[.bool false]) ?_ 0 _ rfl; (with_reducible repeat (first | refine blk_drewN ?_ _ | refine blk_drew ?_ | refine blk_alloc ?_ _)); exact BK125.out⟩
            have n3_ : Aside0 (Below w.heap.size w (w55.setCell ⟨gb125, 0, none⟩ (.bool t134))) := ⟨by repeat (first | (with_reducible first | exact HB.out | apply below_alloc | apply pw_below_drewN | apply below_drew1 | refine below_set ?_ GE124.out | refine below_set ?_ GE125.out) | exact HB.out)⟩
            (try clear HO128)
            (try clear BK124)
            (try clear BK125)
            (try clear HB)
            generalize (w55.setCell ⟨gb125, 0, none⟩ (.bool t134)) = w58 at n0_ n1_ n2_ n3_ ⊢
            have HO128 := n0_
            have BK124 := n1_
            have BK125 := n2_
            have HB := n3_
            clear n0_ n1_ n2_ n3_
            have n0_ := Aside0.mk (Kd.R_drew HO128.out)
            have n1_ := Aside0.mk (blk_drew BK124.out)
            have n2_ := Aside0.mk (blk_drew BK125.out)
            have n3_ := Aside0.mk (below_drew1 HB.out)
            clear HO128
            clear BK124
            clear BK125
            clear HB
            have HO128 := n0_
            have BK124 := n1_
            have BK125 := n2_
            have HB := n3_
            clear n0_ n1_ n2_ n3_
            refine start_ (n := 4) (S := fun w' => w'.cell? ⟨gb125, 0, none⟩ = some (.bool t134)) (ds := []) #[false, false, false, false] (by kernel_rfl) rfl rfl ((blk_cell BK125.out 0).trans rfl) (fun hHeld => ?_)
            generalize w58.drew = w59 at HO128 BK124 BK125 HB hHeld ⊢
            refine pure_ (i := 0) (N := some 41) (v := ?_) (a' := ?_) #[true, false, false, false] rfl rfl (by kernel_rfl) (fun _ _ _ h => h) (Or.inl ⟨by rfl, ?_⟩) ?_ ?_
            rotate_left
            · intro w'
              go_simp
              with_reducible rfl
            rotate_left
            · simp only [Act.put, List.setIfInBounds_toArray, List.set_cons_zero, List.set_cons_succ, i64_w, i32_w]
              rfl
            refine take_ (i := 1) (N := some 42) (v := ?_) (a' := ?_) #[true, true, false, false] rfl rfl (by kernel_rfl) (fun _ _ _ h => h) (Or.inl ⟨by rfl, ?_⟩) hHeld ?_ ?_
            rotate_left
            · intro w' s0
              go_simp
              with_reducible rfl
            rotate_left
            · simp only [Act.put, List.setIfInBounds_toArray, List.set_cons_zero, List.set_cons_succ, i64_w, i32_w]
              rfl
            refine one_ (i := 2) (N := none) #[true, true, true, false] rfl rfl (by kernel_rfl) (by decide) (fun K hK => ?_)
            have hs60 : w59.cell? ⟨gb124, 0, none⟩ = some (.slice none 0 0) := (blk_cell BK124.out 0).trans rfl
            have hfs60 := blk_frozen BK124.out 0
            have hns60_1 := NB125_124.out
            have hms60_1 := NB124_125.out
            refine skip_ (w1 := ?_) (by rfl) rfl ?_ ?_
            rotate_left
            · go_simp
              rfl
            refine hK.out _ _ (((cell_far (p := ⟨gb124, _, none⟩) NB125_124.out _).trans (hHeld))) (fun hHeld => ?_)
            clear hK K
            refine one_ (i := 3) (N := none) #[true, true, true, true] rfl rfl (by kernel_rfl) (by decide) (fun K hK => ?_)
            have hs61 : w59.cell? ⟨gb125, 0, none⟩ = some (.bool t134) := (blk_cell BK125.out 0).trans rfl
            have hfs61 := blk_frozen BK125.out 0
            have hns61_0 := NB124_125.out
            have hms61_0 := NB125_124.out
            refine skip_ (w1 := ?_) (by rfl) rfl ?_ ?_
            rotate_left
            · go_simp
              rfl
            refine hK.out _ _ ((Aid.cell_same (hHeld))) (fun hHeld => ?_)
            clear hK K
            refine done_ (by kernel_rfl) ?_
            try go_wp2
            (try simp only [Exit.inBlock, Exit.then])
            refine Aid.door_ (G := 13) (by simp [go_sem]) (idle13 (.pointer (some ⟨gb124, 0, none⟩)) (.pointer (some ⟨gb125, 0, none⟩))) (Aid.resultsB_list (rs := [.cell 8 22, .cell 9 4]) rfl (by simp) (.one gb124 22 (.slice Ao54 t126.length co54) _ rfl (by (with_reducible repeat (first | refine blk_drewN ?_ _ | refine blk_drew ?_ | refine blk_alloc ?_ _)); refine blk_far ?_ NB124_125.out _; (with_reducible repeat (first | refine blk_drewN ?_ _ | refine blk_drew ?_ | refine blk_alloc ?_ _)); refine blk_put (cs := #[.slice none 0 0]) ?_ 0 _ rfl; (with_reducible repeat (first | refine blk_drewN ?_ _ | refine blk_drew ?_ | refine blk_alloc ?_ _)); exact BK124.out) Tryd.underlying22 rfl (.one gb125 4 (.bool t134) _ rfl (by (with_reducible repeat (first | refine blk_drewN ?_ _ | refine blk_drew ?_ | refine blk_alloc ?_ _)); refine blk_put (cs := #[.bool t134]) ?_ 0 _ rfl; (with_reducible repeat (first | refine blk_drewN ?_ _ | refine blk_drew ?_ | refine blk_alloc ?_ _)); refine blk_far ?_ NB125_124.out _; (with_reducible repeat (first | refine blk_drewN ?_ _ | refine blk_drew ?_ | refine blk_alloc ?_ _)); exact BK125.out) Tryd.underlying4 rfl .nil))) ?_
            exact ⟨_, by first | rfl | (simp [errW_none, errW_some] <;> rfl) | (simp [*, errW_none, errW_some] <;> rfl), by (with_reducible repeat (first | apply Kd.R_alloc | apply Kd.R_drewN | apply Kd.R_drew)); exact Kd.R_mono (Kd.R_far (p := ⟨gb125, 0, none⟩) (Kd.R_far (p := ⟨gb124, 0, none⟩) (Kd.R_types (Kd.R_types HO128.out BK124.out (by decide)) BK125.out (by decide)) (fun _ hk => hk.1.2) (.slice Ao54 t126.length co54)) (fun _ hk => hk.2) (.bool t134)) (fun _ hk => trivial), by repeat (first | (with_reducible first | exact HB.out | apply below_alloc | apply pw_below_drewN | apply below_drew1 | refine below_set ?_ GE124.out | refine below_set ?_ GE125.out) | exact HB.out)⟩
          · rw [if_neg c49] at H
            have c49b0 : (a1 == 4) = false := beq_eq_false_iff_ne.mpr c49
            have c49b1 : (a1 != 4) = true := bne_iff_ne.mpr c49
            simp only [Option.some.injEq, Prod.mk.injEq] at H
            obtain ⟨rfl, rfl⟩ := H
            have hmf_ : ∀ (fn : Fn) (first cap : Array Value) (w : World), (Instr.makeFunc fn first cap).run Tryd.prog w = .ok (.func fn first cap) w := fun _ _ _ _ => rfl
            go_enter_defers Tryd.func7, Tryd.ntmps7
            refine Code.wp_mono (Aid.noPanic_le _) ?_
            try go_wp2_with (first | ((with_reducible refine gate_dst (N := 8) rfl ?_); refine box_event ?hg (N := 8) ?hd (cs := #[.slice none 0 0]) (t := 22) ?hr ?_; (case hd => rfl); (case hg => rfl); (case hr => first | (go_simp; done) | (go_simp; rfl)); intro gb124 hg w62 hbox hb; have n0_ := Aside0.mk (below_step (by repeat (first | (with_reducible first | exact HB.out | apply below_alloc | apply pw_below_drewN | apply below_drew1) | exact HB.out)) hb); have n1_ := Aside0.mk (hbox); have n2_ := Aside0.mk ((by rw [hg]; exact (below_size (by repeat (first | (with_reducible first | exact HB.out | apply below_alloc | apply pw_below_drewN | apply below_drew1) | exact HB.out))) : w.heap.size ≤ gb124)); have n3_ := Aside0.mk ((by rw [hg]; exact (below_size (by repeat (first | (with_reducible first | exact HB.out | apply below_alloc | apply pw_below_drewN | apply below_drew1) | exact HB.out))) : w.heap.size ≤ gb124)); clear HB; have HB := n0_; have BK124 := n1_; have GW124 := n2_; have GE124 := n3_; clear n0_ n1_ n2_ n3_; clear hb hbox hg) | ((with_reducible refine gate_dst (N := 9) rfl ?_); refine box_event ?hg (N := 9) ?hd (cs := #[.bool false]) (t := 4) ?hr ?_; (case hd => rfl); (case hg => rfl); (case hr => first | (go_simp; done) | (go_simp; rfl)); intro gb125 hg w63 hbox hb; have n0_ := Aside0.mk (blk_below (g := gb124) (o := .cells #[.slice none 0 0] 22 (0, 0)) (by (with_reducible repeat (first | refine blk_drewN ?_ _ | refine blk_drew ?_ | refine blk_alloc ?_ _)); exact BK124.out) hb); have n1_ := Aside0.mk (below_step (by repeat (first | (with_reducible first | exact HB.out | apply below_alloc | apply pw_below_drewN | apply below_drew1 | refine below_set ?_ GE124.out) | exact HB.out)) hb); have n2_ := Aside0.mk (hbox); have n3_ := Aside0.mk ((by rw [hg]; exact (below_size (by repeat (first | (with_reducible first | exact HB.out | apply below_alloc | apply pw_below_drewN | apply below_drew1 | refine below_set ?_ GE124.out) | exact HB.out))) : w.heap.size ≤ gb125)); have n4_ := Aside0.mk ((by rw [hg]; exact (below_size (by repeat (first | (with_reducible first | exact HB.out | apply below_alloc | apply pw_below_drewN | apply below_drew1 | refine below_set ?_ GE124.out) | exact HB.out))) : w.heap.size ≤ gb125)); have n5_ := Aside0.mk ((by rw [hg]; exact Nat.ne_of_lt (blk_lt (g := gb124) (o := .cells #[.slice none 0 0] 22 (0, 0)) (by (with_reducible repeat (first | refine blk_drewN ?_ _ | refine blk_drew ?_ | refine blk_alloc ?_ _)); exact BK124.out)) : gb124 ≠ gb125)); have n6_ := Aside0.mk ((by rw [hg]; exact Nat.ne_of_gt (blk_lt (g := gb124) (o := .cells #[.slice none 0 0] 22 (0, 0)) (by (with_reducible repeat (first | refine blk_drewN ?_ _ | refine blk_drew ?_ | refine blk_alloc ?_ _)); exact BK124.out)) : gb125 ≠ gb124)); clear BK124; clear HB; have BK124 := n0_; have HB := n1_; have BK125 := n2_; have GW125 := n3_; have GE125 := n4_; have NB124_125 := n5_; have NB125_124 := n6_; clear n0_ n1_ n2_ n3_ n4_ n5_ n6_; clear hb hbox hg) | ((with_reducible refine gate_callee (f := 14) rfl ?_); refine goesL_ (some 13) rfl rfl Tryd.func14 (by kernel_rfl) rfl #[.slice A0 l0.length c0] rfl (by (try simp only [List.map_toArray, List.map_cons, List.map_nil]); first | done | rfl | (simp only [List.length_drop, List.length_take]; rfl)) ?_; (with_reducible refine (impl_copied.calls _ _ l0 t126 _ ?side1 ?side2 A5.out).mono ?_); (case side1 => repeat (first | exact (Kd.C_below HR0.out HB.out) | (with_reducible refine Kd.C_alloc ?_ _) | (with_reducible refine Kd.C_drewN ?_ _) | (with_reducible refine Kd.C_drew ?_))); (case side2 => exact HC0.out); rintro e w64 ⟨v127, rfl, ho0, hb⟩; refine ⟨_, rfl, ?_⟩; have n0_ := Aside0.mk (Kd.R_lower ho0 (below_size (by repeat (first | (with_reducible first | exact HB.out | apply below_alloc | apply pw_below_drewN | apply below_drew1 | refine below_set ?_ GE124.out | refine below_set ?_ GE125.out) | exact HB.out)))); have n1_ := Aside0.mk (blk_below (g := gb124) (o := .cells #[.slice none 0 0] 22 (0, 0)) (by (with_reducible repeat (first | refine blk_drewN ?_ _ | refine blk_drew ?_ | refine blk_alloc ?_ _)); exact BK124.out) hb); have n2_ := Aside0.mk (blk_below (g := gb125) (o := .cells #[.bool false] 4 (0, 0)) (by (with_reducible repeat (first | refine blk_drewN ?_ _ | refine blk_drew ?_ | refine blk_alloc ?_ _)); exact BK125.out) hb); have n3_ := Aside0.mk (below_step (by repeat (first | (with_reducible first | exact HB.out | apply below_alloc | apply pw_below_drewN | apply below_drew1 | refine below_set ?_ GE124.out | refine below_set ?_ GE125.out) | exact HB.out)) hb); clear BK124; clear BK125; clear HB; have HO128 := n0_; have BK124 := n1_; have BK125 := n2_; have HB := n3_; clear n0_ n1_ n2_ n3_; (try clear hb); (try clear hb2); (try clear hk); (try clear hi); (try clear ho0)))
            have n0_ := Aside0.mk (Kd.R_drew HO128.out)
            have n1_ := Aside0.mk (blk_drew BK124.out)
            have n2_ := Aside0.mk (blk_drew BK125.out)
            have n3_ := Aside0.mk (below_drew1 HB.out)
            clear HO128
            clear BK124
            clear BK125
            clear HB
            have HO128 := n0_
            have BK124 := n1_
            have BK125 := n2_
            have HB := n3_
            clear n0_ n1_ n2_ n3_
            obtain ⟨Ao66, co66, eo66⟩ := Kd.R_slice HO128.out
            (first | subst eo66 | (injection eo66 with f1_ f2_ f3_; have f4_ := f1_.symm; have f5_ := f3_.symm; clear f1_ f2_ f3_; subst f4_; subst f5_))
            refine start_ (n := 4) (S := fun w' => w'.cell? ⟨gb125, 0, none⟩ = some (.bool false)) (ds := []) #[false, false, false, false] (by kernel_rfl) rfl rfl ((blk_cell BK125.out 0).trans rfl) (fun hHeld => ?_)
            generalize w64.drew = w65 at HO128 BK124 BK125 HB hHeld ⊢
            refine pure_ (i := 0) (N := some 41) (v := ?_) (a' := ?_) #[true, false, false, false] rfl rfl (by kernel_rfl) (fun _ _ _ h => h) (Or.inl ⟨by rfl, ?_⟩) ?_ ?_
            rotate_left
            · intro w'
              go_simp
              with_reducible rfl
            rotate_left
            · simp only [Act.put, List.setIfInBounds_toArray, List.set_cons_zero, List.set_cons_succ, i64_w, i32_w]
              rfl
            refine take_ (i := 1) (N := some 42) (v := ?_) (a' := ?_) #[true, true, false, false] rfl rfl (by kernel_rfl) (fun _ _ _ h => h) (Or.inl ⟨by rfl, ?_⟩) hHeld ?_ ?_
            rotate_left
            · intro w' s0
              go_simp
              with_reducible rfl
            rotate_left
            · simp only [Act.put, List.setIfInBounds_toArray, List.set_cons_zero, List.set_cons_succ, i64_w, i32_w]
              rfl
            refine one_ (i := 2) (N := none) #[true, true, true, false] rfl rfl (by kernel_rfl) (by decide) (fun K hK => ?_)
            have hs67 : w65.cell? ⟨gb124, 0, none⟩ = some (.slice none 0 0) := (blk_cell BK124.out 0).trans rfl
            have hfs67 := blk_frozen BK124.out 0
            have hns67_1 := NB125_124.out
            have hms67_1 := NB124_125.out
            refine skip_ (w1 := ?_) (by rfl) rfl ?_ ?_
            rotate_left
            · go_simp
              rfl
            refine hK.out _ _ (((cell_far (p := ⟨gb124, _, none⟩) NB125_124.out _).trans (hHeld))) (fun hHeld => ?_)
            clear hK K
            refine one_ (i := 3) (N := none) #[true, true, true, true] rfl rfl (by kernel_rfl) (by decide) (fun K hK => ?_)
            have hs68 : w65.cell? ⟨gb125, 0, none⟩ = some (.bool false) := (blk_cell BK125.out 0).trans rfl
            have hfs68 := blk_frozen BK125.out 0
            have hns68_0 := NB124_125.out
            have hms68_0 := NB125_124.out
            refine skip_ (w1 := ?_) (by rfl) rfl ?_ ?_
            rotate_left
            · go_simp
              rfl
            refine hK.out _ _ ((Aid.cell_same (hHeld))) (fun hHeld => ?_)
            clear hK K
            refine done_ (by kernel_rfl) ?_
            try go_wp2
            (try simp only [Exit.inBlock, Exit.then])
            refine Aid.door_ (G := 13) (by simp [go_sem]) (idle13 (.pointer (some ⟨gb124, 0, none⟩)) (.pointer (some ⟨gb125, 0, none⟩))) (Aid.resultsB_list (rs := [.cell 8 22, .cell 9 4]) rfl (by simp) (.one gb124 22 (.slice Ao66 t126.length co66) _ rfl (by (with_reducible repeat (first | refine blk_drewN ?_ _ | refine blk_drew ?_ | refine blk_alloc ?_ _)); refine blk_far ?_ NB124_125.out _; (with_reducible repeat (first | refine blk_drewN ?_ _ | refine blk_drew ?_ | refine blk_alloc ?_ _)); refine blk_put (cs := #[.slice none 0 0]) ?_ 0 _ rfl; (with_reducible repeat (first | refine blk_drewN ?_ _ | refine blk_drew ?_ | refine blk_alloc ?_ _)); exact BK124.out) Tryd.underlying22 rfl (.one gb125 4 (.bool false) _ rfl (by (with_reducible repeat (first | refine blk_drewN ?_ _ | refine blk_drew ?_ | refine blk_alloc ?_ _)); refine blk_put (cs := #[.bool false]) ?_ 0 _ rfl; (with_reducible repeat (first | refine blk_drewN ?_ _ | refine blk_drew ?_ | refine blk_alloc ?_ _)); refine blk_far ?_ NB125_124.out _; (with_reducible repeat (first | refine blk_drewN ?_ _ | refine blk_drew ?_ | refine blk_alloc ?_ _)); exact BK125.out) Tryd.underlying4 rfl .nil))) ?_
            exact ⟨_, by first | rfl | (simp [errW_none, errW_some] <;> rfl) | (simp [*, errW_none, errW_some] <;> rfl), by (with_reducible repeat (first | apply Kd.R_alloc | apply Kd.R_drewN | apply Kd.R_drew)); exact Kd.R_mono (Kd.R_far (p := ⟨gb125, 0, none⟩) (Kd.R_far (p := ⟨gb124, 0, none⟩) (Kd.R_types (Kd.R_types HO128.out BK124.out (by decide)) BK125.out (by decide)) (fun _ hk => hk.1.2) (.slice Ao66 t126.length co66)) (fun _ hk => hk.2) (.bool false)) (fun _ hk => trivial), by repeat (first | (with_reducible first | exact HB.out | apply below_alloc | apply pw_below_drewN | apply below_drew1 | refine below_set ?_ GE124.out | refine below_set ?_ GE125.out) | exact HB.out)⟩

/-! ### laws_same: function 8 -/
def laws_same.f (l0 : List Int) (l1 : List Int) : Option (Bool) := some ((strOfNums l0).toList == (strOfNums l1).toList)
set_option maxHeartbeats 8000000 in
set_option maxRecDepth 100000 in
theorem laws_same.calls (A0 : Option Addr) (c0 : Nat) (l0 : List Int) (A1 : Option Addr) (c1 : Nat) (l1 : List Int) (r : Bool) (w : World) (hr0 : Kd.C (Kd.int .u8) w A0 l0.length l0) (hc0 : l0.length ≤ c0) (hr1 : Kd.C (Kd.int .u8) w A1 l1.length l1) (hc1 : l1.length ≤ c1) (h : laws_same.f l0 l1 = some r) :
    Calls Tryd.prog 8 #[.slice A0 l0.length c0, .slice A1 l1.length c1] w fun e w' => e = .returned (.bool r) ∧ Drawn0 w w' := by
  have HR0 := Aside0.mk hr0
  have HC0 := Aside0.mk hc0
  clear hr0 hc0
  have HR1 := Aside0.mk hr1
  have HC1 := Aside0.mk hc1
  clear hr1 hc1
  have H : (some ((strOfNums l0).toList == (strOfNums l1).toList)) = some r := h
  clear h
  obtain rfl := Option.some.inj H
  have hcv3 := Kd.C_string (P := Tryd.prog) (A := A0) (c := c0) Tryd.underlying22 Tryd.underlying5 Tryd.underlying9 HR0.out
  have hcv4 := Kd.C_string (P := Tryd.prog) (A := A1) (c := c1) Tryd.underlying22 Tryd.underlying5 Tryd.underlying9 HR1.out
  go_enter Tryd.func8, Tryd.ntmps8
  go_wp2
  go_ret
  exact ⟨by first | rfl | (simp; done) | (simp [*]; done), by repeat (first | exact Drawn0.refl _ | apply Drawn0.step)⟩

end Go.Proofs.YticieelobdfloaaDoor.QTouched
