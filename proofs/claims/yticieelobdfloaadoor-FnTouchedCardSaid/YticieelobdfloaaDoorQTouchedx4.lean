/- Written by a program of mine over the kit's print program, turned at a few places (variables of one cell in memory; deferred closures): each Go function as a Lean function, with the proof of its call. -/
import Derived.Test.YticieelobdfloaaDoorQTouchedx0
import Derived.Test.YticieelobdfloaaDoorQTouchedx1
import Derived.Test.YticieelobdfloaaDoorQTouchedx2
import Derived.Test.YticieelobdfloaaDoorQTouchedx3
namespace Go.Proofs.YticieelobdfloaaDoor.QTouched
open Go.RowKit Go.Proofs.YticieelobdfloaaDoorW.PrintWords Go.Proofs.YticieelobdfloaaDoorW.PrintLast Go.Proofs.YticieelobdfloaaDoorW.PrintMore
attribute [local go_sem] max2_int min2_int max_two min_two max_three min_three max_four min_four   -- for this text's walks alone
set_option linter.unusedVariables false
set_option linter.unusedSimpArgs false

/-! ### laws_FnTouched: function 3 -/
mutual
def laws_FnTouched.j0 : Nat → List Int → Int → Int → Bool → Bool → Option (Bool)
  | 0, _, _, _, _, _ => none
  | k + 1, x0, x1, x2, x3, x27 => if x27 = true then (some true) else ((spec_Bit.f x0 x2).bind fun t156 => (if x1 = 0 then (laws_FnTouched.j1 k x0 x1 x2 x3 t156 true) else (if x1 = 3 then (laws_FnTouched.j1 k x0 x1 x2 x3 t156 true) else (if x1 = 2 then (laws_FnTouched.j1 k x0 x1 x2 x3 t156 x3) else (laws_FnTouched.j1 k x0 x1 x2 x3 t156 false)))))
def laws_FnTouched.j1 : Nat → List Int → Int → Int → Bool → Bool → Bool → Option (Bool)
  | 0, _, _, _, _, _, _ => none
  | k + 1, x0, x1, x2, x3, x9, x10 => (impl_Touched.f x0 x1 x2 x3).bind fun bt157 => (if x1 = 3 then (laws_FnTouched.j2 k x0 x2 x9 x10 bt157.1 bt157.2 true) else (laws_FnTouched.j2 k x0 x2 x9 x10 bt157.1 bt157.2 (x1 == 4)))
def laws_FnTouched.j2 : Nat → List Int → Int → Bool → Bool → List Int → Bool → Bool → Option (Bool)
  | 0, _, _, _, _, _, _, _ => none
  | k + 1, x0, x2, x9, x10, x11, x12, x57 => if x57 = true then (if (x12 != x9) = true then (some false) else (laws_FnTouched.j3 k x0 x2 x10 x11)) else (laws_FnTouched.j3 k x0 x2 x10 x11)
def laws_FnTouched.j3 : Nat → List Int → Int → Bool → List Int → Option (Bool)
  | 0, _, _, _, _ => none
  | k + 1, x0, x2, x10, x11 => (laws_changed.f k x0 x2 (([x10] : List Bool))).bind fun t164 => ((laws_same.f x11 t164).bind fun t167 => (if t167 = true then ((impl_IsSet.f x11 x2).bind fun t168 => (if (t168 == x10) = true then ((impl_IsNotSet.f x11 x2).bind fun t169 => (some (t169 == (!x10)))) else (some false))) else (some false)))
end
def laws_FnTouched.f (k : Nat) (l0 : List Int) (a1 : Int) (a2 : Int) (a3 : Bool) : Option (Bool) := if (l0.length : Int) > 2147483647 then (some true) else ((laws_within.f l0 a2 1).bind fun t155 => (if t155 = true then (if a1 < 0 then (laws_FnTouched.j0 k l0 a1 a2 a3 true) else (laws_FnTouched.j0 k l0 a1 a2 a3 (decide (a1 ≥ 5)))) else (laws_FnTouched.j0 k l0 a1 a2 a3 true)))
theorem laws_FnTouched.mono_l : ∀ k, (∀ y0 y1 y2 y3 y4, LeO (laws_FnTouched.j0 k y0 y1 y2 y3 y4) (laws_FnTouched.j0 (k + 1) y0 y1 y2 y3 y4)) ∧ (∀ y0 y1 y2 y3 y4 y5, LeO (laws_FnTouched.j1 k y0 y1 y2 y3 y4 y5) (laws_FnTouched.j1 (k + 1) y0 y1 y2 y3 y4 y5)) ∧ (∀ y0 y1 y2 y3 y4 y5 y6, LeO (laws_FnTouched.j2 k y0 y1 y2 y3 y4 y5 y6) (laws_FnTouched.j2 (k + 1) y0 y1 y2 y3 y4 y5 y6)) ∧ (∀ y0 y1 y2 y3, LeO (laws_FnTouched.j3 k y0 y1 y2 y3) (laws_FnTouched.j3 (k + 1) y0 y1 y2 y3))
  | 0 => ⟨fun _ _ _ _ _ r h => by simp [laws_FnTouched.j0] at h, fun _ _ _ _ _ _ r h => by simp [laws_FnTouched.j1] at h, fun _ _ _ _ _ _ _ r h => by simp [laws_FnTouched.j2] at h, fun _ _ _ _ r h => by simp [laws_FnTouched.j3] at h⟩
  | k + 1 => by
    obtain ⟨ih0, ih1, ih2, ih3⟩ := laws_FnTouched.mono_l k
    refine ⟨?_, ?_, ?_, ?_⟩
    · intro y0 y1 y2 y3 y4
      unfold laws_FnTouched.j0
      repeat' first
      | (with_reducible exact ih0 _ _ _ _ _)
      | (with_reducible exact ih1 _ _ _ _ _ _)
      | (with_reducible exact ih2 _ _ _ _ _ _ _)
      | (with_reducible exact ih3 _ _ _ _)
      | (with_reducible exact laws_changed.mono _ _ _ _)
      | (with_reducible exact LeO.refl _)
      | (with_reducible exact LeO.none _)
      | (with_reducible refine LeO.ite ?_ ?_)
      | (with_reducible refine LeO.bind ?_ (fun _ => ?_))
      | exact ih0 _ _ _ _ _
      | exact ih1 _ _ _ _ _ _
      | exact ih2 _ _ _ _ _ _ _
      | exact ih3 _ _ _ _
      | exact laws_changed.mono _ _ _ _
      | exact LeO.none _
      | refine LeO.ite ?_ ?_
      | refine LeO.bind ?_ (fun _ => ?_)
    · intro y0 y1 y2 y3 y4 y5
      unfold laws_FnTouched.j1
      repeat' first
      | (with_reducible exact ih0 _ _ _ _ _)
      | (with_reducible exact ih1 _ _ _ _ _ _)
      | (with_reducible exact ih2 _ _ _ _ _ _ _)
      | (with_reducible exact ih3 _ _ _ _)
      | (with_reducible exact laws_changed.mono _ _ _ _)
      | (with_reducible exact LeO.refl _)
      | (with_reducible exact LeO.none _)
      | (with_reducible refine LeO.ite ?_ ?_)
      | (with_reducible refine LeO.bind ?_ (fun _ => ?_))
      | exact ih0 _ _ _ _ _
      | exact ih1 _ _ _ _ _ _
      | exact ih2 _ _ _ _ _ _ _
      | exact ih3 _ _ _ _
      | exact laws_changed.mono _ _ _ _
      | exact LeO.none _
      | refine LeO.ite ?_ ?_
      | refine LeO.bind ?_ (fun _ => ?_)
    · intro y0 y1 y2 y3 y4 y5 y6
      unfold laws_FnTouched.j2
      repeat' first
      | (with_reducible exact ih0 _ _ _ _ _)
      | (with_reducible exact ih1 _ _ _ _ _ _)
      | (with_reducible exact ih2 _ _ _ _ _ _ _)
      | (with_reducible exact ih3 _ _ _ _)
      | (with_reducible exact laws_changed.mono _ _ _ _)
      | (with_reducible exact LeO.refl _)
      | (with_reducible exact LeO.none _)
      | (with_reducible refine LeO.ite ?_ ?_)
      | (with_reducible refine LeO.bind ?_ (fun _ => ?_))
      | exact ih0 _ _ _ _ _
      | exact ih1 _ _ _ _ _ _
      | exact ih2 _ _ _ _ _ _ _
      | exact ih3 _ _ _ _
      | exact laws_changed.mono _ _ _ _
      | exact LeO.none _
      | refine LeO.ite ?_ ?_
      | refine LeO.bind ?_ (fun _ => ?_)
    · intro y0 y1 y2 y3
      unfold laws_FnTouched.j3
      repeat' first
      | (with_reducible exact ih0 _ _ _ _ _)
      | (with_reducible exact ih1 _ _ _ _ _ _)
      | (with_reducible exact ih2 _ _ _ _ _ _ _)
      | (with_reducible exact ih3 _ _ _ _)
      | (with_reducible exact laws_changed.mono _ _ _ _)
      | (with_reducible exact LeO.refl _)
      | (with_reducible exact LeO.none _)
      | (with_reducible refine LeO.ite ?_ ?_)
      | (with_reducible refine LeO.bind ?_ (fun _ => ?_))
      | exact ih0 _ _ _ _ _
      | exact ih1 _ _ _ _ _ _
      | exact ih2 _ _ _ _ _ _ _
      | exact ih3 _ _ _ _
      | exact laws_changed.mono _ _ _ _
      | exact LeO.none _
      | refine LeO.ite ?_ ?_
      | refine LeO.bind ?_ (fun _ => ?_)
theorem laws_FnTouched.mono : ∀ a0 a1 a2 a3 k, LeO (laws_FnTouched.f k a0 a1 a2 a3) (laws_FnTouched.f (k + 1) a0 a1 a2 a3) := by
  intro a0 a1 a2 a3 k
  obtain ⟨ih0, ih1, ih2, ih3⟩ := laws_FnTouched.mono_l k
  unfold laws_FnTouched.f
  repeat' first
      | (with_reducible exact ih0 _ _ _ _ _)
      | (with_reducible exact ih1 _ _ _ _ _ _)
      | (with_reducible exact ih2 _ _ _ _ _ _ _)
      | (with_reducible exact ih3 _ _ _ _)
      | (with_reducible exact laws_changed.mono _ _ _ _)
      | (with_reducible exact LeO.refl _)
      | (with_reducible exact LeO.none _)
      | (with_reducible refine LeO.ite ?_ ?_)
      | (with_reducible refine LeO.bind ?_ (fun _ => ?_))
      | exact ih0 _ _ _ _ _
      | exact ih1 _ _ _ _ _ _
      | exact ih2 _ _ _ _ _ _ _
      | exact ih3 _ _ _ _
      | exact laws_changed.mono _ _ _ _
      | exact LeO.none _
      | refine LeO.ite ?_ ?_
      | refine LeO.bind ?_ (fun _ => ?_)
set_option maxHeartbeats 8000000 in
set_option maxRecDepth 100000 in
theorem laws_FnTouched.calls (k : Nat) (A0 : Option Addr) (c0 : Nat) (l0 : List Int) (a1 : Int) (a2 : Int) (a3 : Bool) (r : Bool) (w : World) (hr0 : Kd.C (Kd.int .u8) w A0 l0.length l0) (hc0 : l0.length ≤ c0) (hg0 : Kd.C (Kd.int .u8) w (some ⟨0, 0, none⟩) gtab0.length gtab0) (hg1 : Kd.C (Kd.int .u8) w (some ⟨1, 0, none⟩) gtab1.length gtab1) (h : laws_FnTouched.f k l0 a1 a2 a3 = some r) :
    Calls Tryd.prog 3 #[.slice A0 l0.length c0, .int .i64 a1, .int .i64 a2, .bool a3] w fun e w' => e = .returned (.bool r) ∧ Below w.heap.size w w' := by
  have HR0 := Aside0.mk hr0
  have HC0 := Aside0.mk hc0
  clear hr0 hc0
  have HG0 := Aside0.mk hg0
  clear hg0
  have HG1 := Aside0.mk hg1
  clear hg1
  have HB := Aside0.mk (Below.refl w.heap.size w)
  have H : (if (l0.length : Int) > 2147483647 then (some true) else ((laws_within.f l0 a2 1).bind fun t155 => (if t155 = true then (if a1 < 0 then (laws_FnTouched.j0 k l0 a1 a2 a3 true) else (laws_FnTouched.j0 k l0 a1 a2 a3 (decide (a1 ≥ 5)))) else (laws_FnTouched.j0 k l0 a1 a2 a3 true)))) = some r := h
  clear h
  by_cases c5 : (l0.length : Int) > 2147483647
  · rw [if_pos c5] at H
    have c5b0 : decide (2147483647 < (l0.length : Int)) = true := decide_eq_true c5
    have c5b1 : decide (2147483647 < l0.length) = true := decide_eq_true (by omega)
    clear c5
    obtain rfl := Option.some.inj H
    go_enter Tryd.func3, Tryd.ntmps3
    go_wp2
    go_ret
    exact ⟨by first | rfl | (simp [errW_none, errW_some] <;> rfl) | (simp [*, errW_none, errW_some] <;> rfl), by repeat (first | (with_reducible first | exact HB.out | apply below_alloc | apply pw_below_drewN | apply below_drew1) | exact HB.out)⟩
  · rw [if_neg c5] at H
    have c5b0 : decide (2147483647 < (l0.length : Int)) = false := decide_eq_false c5
    have c5b1 : decide (2147483647 < l0.length) = false := decide_eq_false (by omega)
    clear c5
    have HC6 := Aside0.mk H
    clear H
    go_enter Tryd.func3, Tryd.ntmps3
    go_upto_region 3 with (fail)
    go_cut [27] (fun v27 wc => ∃ (kq : Nat) (x27_5 : Bool), v27 = .bool x27_5 ∧ Aside0 (laws_FnTouched.j0 kq l0 a1 a2 a3 x27_5 = some r) ∧ Aside0 (kq ≤ k) ∧ Aside0 (Below w.heap.size w wc))
    case first =>
      have H := HC6.out
      clear HC6
      replace H := Option.bind_eq_some_iff.mp H
      obtain ⟨t155, A70, H⟩ := H
      replace H : (if t155 = true then (if a1 < 0 then (laws_FnTouched.j0 k l0 a1 a2 a3 true) else (laws_FnTouched.j0 k l0 a1 a2 a3 (decide (a1 ≥ 5)))) else (laws_FnTouched.j0 k l0 a1 a2 a3 true)) = some r := H
      have A7 := Aside0.mk A70
      clear A70
      by_cases c8 : t155 = true
      · subst c8
        have H1 : (if a1 < 0 then (laws_FnTouched.j0 k l0 a1 a2 a3 true) else (laws_FnTouched.j0 k l0 a1 a2 a3 (decide (a1 ≥ 5)))) = some r := by rw [if_pos rfl] at H; exact H
        clear H
        have H := H1
        clear H1
        by_cases c9 : a1 < 0
        · rw [if_pos c9] at H
          have c9b0 : decide (a1 < 0) = true := decide_eq_true c9
          clear c9
          (first | rw [c9b0] | (simp only [i64_w, i32_w]; rw [c9b0]) | skip)
          have H' := Aside0.mk H
          clear H
          go_wp2_with (first | ((with_reducible refine gate_callee (f := 5) rfl ?_); refine goesL_ (some 18) rfl rfl Tryd.func5 (by kernel_rfl) rfl #[.slice A0 l0.length c0, .int .i64 a2, .int .i64 1] rfl (by (try simp only [List.map_toArray, List.map_cons, List.map_nil]); first | done | rfl | (simp only [List.length_drop, List.length_take]; rfl)) ?_; (with_reducible refine (laws_within.calls _ _ l0 a2 1 true _ ?side1 ?side2 A7.out).mono ?_); (case side1 => repeat (first | exact (Kd.C_below HR0.out HB.out) | (with_reducible refine Kd.C_alloc ?_ _) | (with_reducible refine Kd.C_drewN ?_ _) | (with_reducible refine Kd.C_drew ?_))); (case side2 => exact HC0.out); rintro e w' ⟨rfl, ⟨nd, rfl⟩⟩; refine ⟨_, rfl, ?_⟩))
          go_meet
          case rel => exact ⟨_, (true), (by first | rfl | (simp; done) | (simp [*]; done)), H', ⟨by first | omega | exact Nat.le_refl _⟩, ⟨by repeat (first | (with_reducible first | exact HB.out | apply below_alloc | apply pw_below_drewN | apply below_drew1) | exact HB.out)⟩⟩
        · rw [if_neg c9] at H
          have c9b0 : decide (a1 < 0) = false := decide_eq_false c9
          clear c9
          (first | rw [c9b0] | (simp only [i64_w, i32_w]; rw [c9b0]) | skip)
          have H' := Aside0.mk H
          clear H
          go_wp2_with (first | ((with_reducible refine gate_callee (f := 5) rfl ?_); refine goesL_ (some 18) rfl rfl Tryd.func5 (by kernel_rfl) rfl #[.slice A0 l0.length c0, .int .i64 a2, .int .i64 1] rfl (by (try simp only [List.map_toArray, List.map_cons, List.map_nil]); first | done | rfl | (simp only [List.length_drop, List.length_take]; rfl)) ?_; (with_reducible refine (laws_within.calls _ _ l0 a2 1 true _ ?side1 ?side2 A7.out).mono ?_); (case side1 => repeat (first | exact (Kd.C_below HR0.out HB.out) | (with_reducible refine Kd.C_alloc ?_ _) | (with_reducible refine Kd.C_drewN ?_ _) | (with_reducible refine Kd.C_drew ?_))); (case side2 => exact HC0.out); rintro e w' ⟨rfl, ⟨nd, rfl⟩⟩; refine ⟨_, rfl, ?_⟩))
          go_meet
          case rel => exact ⟨_, (decide (a1 ≥ 5)), (by first | rfl | (simp; done) | (simp [*]; done)), H', ⟨by first | omega | exact Nat.le_refl _⟩, ⟨by repeat (first | (with_reducible first | exact HB.out | apply below_alloc | apply pw_below_drewN | apply below_drew1) | exact HB.out)⟩⟩
      · replace c8 := Bool.eq_false_iff.mpr c8
        subst c8
        have H1 : (laws_FnTouched.j0 k l0 a1 a2 a3 true) = some r := by rw [if_neg (show ¬ (false = true) by decide)] at H; exact H
        clear H
        have H := H1
        clear H1
        have H' := Aside0.mk H
        clear H
        go_wp2_with (first | ((with_reducible refine gate_callee (f := 5) rfl ?_); refine goesL_ (some 18) rfl rfl Tryd.func5 (by kernel_rfl) rfl #[.slice A0 l0.length c0, .int .i64 a2, .int .i64 1] rfl (by (try simp only [List.map_toArray, List.map_cons, List.map_nil]); first | done | rfl | (simp only [List.length_drop, List.length_take]; rfl)) ?_; (with_reducible refine (laws_within.calls _ _ l0 a2 1 false _ ?side1 ?side2 A7.out).mono ?_); (case side1 => repeat (first | exact (Kd.C_below HR0.out HB.out) | (with_reducible refine Kd.C_alloc ?_ _) | (with_reducible refine Kd.C_drewN ?_ _) | (with_reducible refine Kd.C_drew ?_))); (case side2 => exact HC0.out); rintro e w' ⟨rfl, ⟨nd, rfl⟩⟩; refine ⟨_, rfl, ?_⟩))
        go_meet
        case rel => exact ⟨_, (true), (by first | rfl | (simp; done) | (simp [*]; done)), H', ⟨by first | omega | exact Nat.le_refl _⟩, ⟨by repeat (first | (with_reducible first | exact HB.out | apply below_alloc | apply pw_below_drewN | apply below_drew1) | exact HB.out)⟩⟩
    case rest =>
      clear HC6
      try clear p2
      try clear c3
      try clear c5
      try clear c5b0
      try clear c5b1
      try clear c8
      try clear c9
      try clear c9b0
      obtain ⟨kq, x27_5, rfl, HA, HJ5, HB⟩ := hcut
      cases kq with
      | zero => exact absurd HA.out (by simp [laws_FnTouched.j0])
      | succ kj5 =>
        have H := HA.out
        clear HA
        simp only [laws_FnTouched.j0] at H
        by_cases c10 : x27_5 = true
        · subst c10
          have H1 : (some true) = some r := by rw [if_pos rfl] at H; exact H
          clear H
          have H := H1
          clear H1
          obtain rfl := Option.some.inj H
          go_wp2
          go_ret
          exact ⟨by first | rfl | (simp [errW_none, errW_some] <;> rfl) | (simp [*, errW_none, errW_some] <;> rfl), by repeat (first | (with_reducible first | exact HB.out | apply below_alloc | apply pw_below_drewN | apply below_drew1) | exact HB.out)⟩
        · replace c10 := Bool.eq_false_iff.mpr c10
          subst c10
          have H1 : ((spec_Bit.f l0 a2).bind fun t156 => (if a1 = 0 then (laws_FnTouched.j1 kj5 l0 a1 a2 a3 t156 true) else (if a1 = 3 then (laws_FnTouched.j1 kj5 l0 a1 a2 a3 t156 true) else (if a1 = 2 then (laws_FnTouched.j1 kj5 l0 a1 a2 a3 t156 a3) else (laws_FnTouched.j1 kj5 l0 a1 a2 a3 t156 false))))) = some r := by rw [if_neg (show ¬ (false = true) by decide)] at H; exact H
          clear H
          have H := H1
          clear H1
          replace H := Option.bind_eq_some_iff.mp H
          obtain ⟨t156, A110, H⟩ := H
          replace H : (if a1 = 0 then (laws_FnTouched.j1 kj5 l0 a1 a2 a3 t156 true) else (if a1 = 3 then (laws_FnTouched.j1 kj5 l0 a1 a2 a3 t156 true) else (if a1 = 2 then (laws_FnTouched.j1 kj5 l0 a1 a2 a3 t156 a3) else (laws_FnTouched.j1 kj5 l0 a1 a2 a3 t156 false)))) = some r := H
          have A11 := Aside0.mk A110
          clear A110
          have HC12 := Aside0.mk H
          clear H
          go_upto_region 6 with (first | ((with_reducible refine gate_callee (f := 6) rfl ?_); refine goesL_ (some 30) rfl rfl Tryd.func6 (by kernel_rfl) rfl #[.slice A0 l0.length c0, .int .i64 a2] rfl (by (try simp only [List.map_toArray, List.map_cons, List.map_nil]); first | done | rfl | (simp only [List.length_drop, List.length_take]; rfl)) ?_; (with_reducible refine (spec_Bit.calls _ _ l0 a2 t156 _ ?side1 ?side2 A11.out).mono ?_); (case side1 => repeat (first | exact (Kd.C_below HR0.out HB.out) | (with_reducible refine Kd.C_alloc ?_ _) | (with_reducible refine Kd.C_drewN ?_ _) | (with_reducible refine Kd.C_drew ?_))); (case side2 => exact HC0.out); rintro e w' ⟨rfl, ⟨nd, rfl⟩⟩; refine ⟨_, rfl, ?_⟩))
          (try simp only [Act.put, List.setIfInBounds_toArray, List.set_cons_zero, List.set_cons_succ])
          go_cut [10] (fun v10 wc => ∃ (kq : Nat) (x10_11 : Bool), v10 = .bool x10_11 ∧ Aside0 (laws_FnTouched.j1 kq l0 a1 a2 a3 t156 x10_11 = some r) ∧ Aside0 (kq ≤ kj5) ∧ Aside0 (Below w.heap.size w wc))
          case first =>
            have H := HC12.out
            clear HC12
            by_cases c13 : a1 = 0
            · rw [if_pos c13] at H
              have c13b0 : (a1 == 0) = true := beq_iff_eq.mpr c13
              have c13b1 : (a1 != 0) = false := bne_eq_false_iff_eq.mpr c13
              clear c13
              (first | rw [c13b0] | (simp only [i64_w, i32_w]; rw [c13b0]) | skip)
              have H' := Aside0.mk H
              clear H
              go_wp2
              go_meet
              case rel => exact ⟨_, (true), (by first | rfl | (simp; done) | (simp [*]; done)), H', ⟨by have := HJ5.out; first | omega | exact Nat.le_refl _⟩, ⟨by repeat (first | (with_reducible first | exact HB.out | apply below_alloc | apply pw_below_drewN | apply below_drew1) | exact HB.out)⟩⟩
            · rw [if_neg c13] at H
              have c13b0 : (a1 == 0) = false := beq_eq_false_iff_ne.mpr c13
              have c13b1 : (a1 != 0) = true := bne_iff_ne.mpr c13
              (first | rw [c13b0] | (simp only [i64_w, i32_w]; rw [c13b0]) | skip)
              by_cases c14 : a1 = 3
              · rw [if_pos c14] at H
                have c14b0 : (a1 == 3) = true := beq_iff_eq.mpr c14
                have c14b1 : (a1 != 3) = false := bne_eq_false_iff_eq.mpr c14
                clear c14
                have H' := Aside0.mk H
                clear H
                go_wp2
                go_meet
                case rel => exact ⟨_, (true), (by first | rfl | (simp; done) | (simp [*]; done)), H', ⟨by have := HJ5.out; first | omega | exact Nat.le_refl _⟩, ⟨by repeat (first | (with_reducible first | exact HB.out | apply below_alloc | apply pw_below_drewN | apply below_drew1) | exact HB.out)⟩⟩
              · rw [if_neg c14] at H
                have c14b0 : (a1 == 3) = false := beq_eq_false_iff_ne.mpr c14
                have c14b1 : (a1 != 3) = true := bne_iff_ne.mpr c14
                by_cases c15 : a1 = 2
                · rw [if_pos c15] at H
                  have c15b0 : (a1 == 2) = true := beq_iff_eq.mpr c15
                  have c15b1 : (a1 != 2) = false := bne_eq_false_iff_eq.mpr c15
                  clear c15
                  have H' := Aside0.mk H
                  clear H
                  go_wp2
                  go_meet
                  case rel => exact ⟨_, (a3), (by first | rfl | (simp; done) | (simp [*]; done)), H', ⟨by have := HJ5.out; first | omega | exact Nat.le_refl _⟩, ⟨by repeat (first | (with_reducible first | exact HB.out | apply below_alloc | apply pw_below_drewN | apply below_drew1) | exact HB.out)⟩⟩
                · rw [if_neg c15] at H
                  have c15b0 : (a1 == 2) = false := beq_eq_false_iff_ne.mpr c15
                  have c15b1 : (a1 != 2) = true := bne_iff_ne.mpr c15
                  have H' := Aside0.mk H
                  clear H
                  go_wp2
                  go_meet
                  case rel => exact ⟨_, (false), (by first | rfl | (simp; done) | (simp [*]; done)), H', ⟨by have := HJ5.out; first | omega | exact Nat.le_refl _⟩, ⟨by repeat (first | (with_reducible first | exact HB.out | apply below_alloc | apply pw_below_drewN | apply below_drew1) | exact HB.out)⟩⟩
          case rest =>
            clear HC12
            try clear c1
            try clear p2
            try clear c3
            try clear c5
            try clear c5b0
            try clear c5b1
            try clear c6
            try clear c8
            try clear c9
            try clear c9b0
            try clear c10
            try clear c13
            try clear c13b0
            try clear c13b1
            try clear c14
            try clear c14b0
            try clear c14b1
            try clear c15
            try clear c15b0
            try clear c15b1
            try clear p2
            obtain ⟨kq, x10_11, rfl, HA, HJ11, HB⟩ := hcut
            cases kq with
            | zero => exact absurd HA.out (by simp [laws_FnTouched.j1])
            | succ kj11 =>
              have H := HA.out
              clear HA
              simp only [laws_FnTouched.j1] at H
              replace H := Option.bind_eq_some_iff.mp H
              obtain ⟨⟨t157, t158⟩, A160, H⟩ := H
              replace H : (if a1 = 3 then (laws_FnTouched.j2 kj11 l0 a2 t156 x10_11 t157 t158 true) else (laws_FnTouched.j2 kj11 l0 a2 t156 x10_11 t157 t158 (a1 == 4))) = some r := H
              have A16 := Aside0.mk A160
              clear A160
              have HC17 := Aside0.mk H
              clear H
              go_upto_region 8 with (first | ((with_reducible refine gate_callee (f := 7) rfl ?_); refine goesL_ (some 49) rfl rfl Tryd.func7 (by kernel_rfl) rfl #[.slice A0 l0.length c0, .int .i64 a1, .int .i64 a2, .bool a3] rfl (by (try simp only [List.map_toArray, List.map_cons, List.map_nil]); first | done | rfl | (simp only [List.length_drop, List.length_take]; rfl)) ?_; (with_reducible refine (impl_Touched.calls _ _ l0 a1 a2 a3 t157 t158 _ ?side1 ?side2 ?side3 ?side4 A16.out).mono ?_); (case side1 => repeat (first | exact (Kd.C_below HR0.out HB.out) | (with_reducible refine Kd.C_alloc ?_ _) | (with_reducible refine Kd.C_drewN ?_ _) | (with_reducible refine Kd.C_drew ?_))); (case side2 => exact HC0.out); (case side3 => first | exact HG0.out | exact Kd.C_below HG0.out (by repeat (first | (with_reducible first | exact HB.out | apply below_alloc | apply pw_below_drewN | apply below_drew1) | exact HB.out))); (case side4 => first | exact HG1.out | exact Kd.C_below HG1.out (by repeat (first | (with_reducible first | exact HB.out | apply below_alloc | apply pw_below_drewN | apply below_drew1) | exact HB.out))); rintro e w18 ⟨v159, rfl, ho0, hb⟩; refine ⟨_, rfl, ?_⟩; have n0_ := Aside0.mk (Kd.R_lower ho0 (below_size (by repeat (first | (with_reducible first | exact HB.out | apply below_alloc | apply pw_below_drewN | apply below_drew1) | exact HB.out)))); have n1_ := Aside0.mk (below_step (by repeat (first | (with_reducible first | exact HB.out | apply below_alloc | apply pw_below_drewN | apply below_drew1) | exact HB.out)) hb); clear HB; have HO160 := n0_; have HB := n1_; clear n0_ n1_; (try clear hb); (try clear hb2); (try clear hk); (try clear hi); (try clear ho0)))
              (try simp only [Act.put, List.setIfInBounds_toArray, List.set_cons_zero, List.set_cons_succ])
              go_cut [57] (fun v57 wc => ∃ (kq : Nat) (x57_16 : Bool), v57 = .bool x57_16 ∧ Aside0 (laws_FnTouched.j2 kq l0 a2 t156 x10_11 t157 t158 x57_16 = some r) ∧ Aside0 (kq ≤ kj11) ∧ Aside0 (Kd.R (Kd.int .u8) 5 wc w.heap.size (fun _ => True) v159 t157) ∧ Aside0 (Below w.heap.size w wc))
              case first =>
                have H := HC17.out
                clear HC17
                by_cases c19 : a1 = 3
                · rw [if_pos c19] at H
                  have c19b0 : (a1 == 3) = true := beq_iff_eq.mpr c19
                  have c19b1 : (a1 != 3) = false := bne_eq_false_iff_eq.mpr c19
                  clear c19
                  (first | rw [c19b0] | (simp only [i64_w, i32_w]; rw [c19b0]) | skip)
                  have H' := Aside0.mk H
                  clear H
                  go_wp2
                  go_meet
                  case rel => exact ⟨_, (true), (by first | rfl | (simp; done) | (simp [*]; done)), H', ⟨by have := HJ5.out; have := HJ11.out; first | omega | exact Nat.le_refl _⟩, ⟨by (with_reducible repeat (first | apply Kd.R_alloc | apply Kd.R_drewN | apply Kd.R_drew)); exact HO160.out⟩, ⟨by repeat (first | (with_reducible first | exact HB.out | apply below_alloc | apply pw_below_drewN | apply below_drew1) | exact HB.out)⟩⟩
                · rw [if_neg c19] at H
                  have c19b0 : (a1 == 3) = false := beq_eq_false_iff_ne.mpr c19
                  have c19b1 : (a1 != 3) = true := bne_iff_ne.mpr c19
                  (first | rw [c19b0] | (simp only [i64_w, i32_w]; rw [c19b0]) | skip)
                  have H' := Aside0.mk H
                  clear H
                  go_wp2
                  go_meet
                  case rel => exact ⟨_, ((a1 == 4)), (by first | rfl | (simp; done) | (simp [*]; done)), H', ⟨by have := HJ5.out; have := HJ11.out; first | omega | exact Nat.le_refl _⟩, ⟨by (with_reducible repeat (first | apply Kd.R_alloc | apply Kd.R_drewN | apply Kd.R_drew)); exact HO160.out⟩, ⟨by repeat (first | (with_reducible first | exact HB.out | apply below_alloc | apply pw_below_drewN | apply below_drew1) | exact HB.out)⟩⟩
              case rest =>
                clear HC17
                try clear c1
                try clear p2
                try clear c3
                try clear c5
                try clear c5b0
                try clear c5b1
                try clear c6
                try clear c7
                try clear c8
                try clear c9
                try clear c9b0
                try clear c10
                try clear c13
                try clear c13b0
                try clear c13b1
                try clear c14
                try clear c14b0
                try clear c14b1
                try clear c15
                try clear c15b0
                try clear c15b1
                try clear c19
                try clear c19b0
                try clear c19b1
                try clear p2
                obtain ⟨kq, x57_16, rfl, HA, HJ16, HO_11, HB⟩ := hcut
                cases kq with
                | zero => exact absurd HA.out (by simp [laws_FnTouched.j2])
                | succ kj16 =>
                  have H := HA.out
                  clear HA
                  simp only [laws_FnTouched.j2] at H
                  have HC20 := Aside0.mk H
                  clear H
                  go_upto_if 57 with (fail)
                  go_cut [] (fun wc => ∃ (kq : Nat), Aside0 (laws_FnTouched.j3 kq l0 a2 x10_11 t157 = some r) ∧ Aside0 (kq ≤ kj16) ∧ Aside0 (Kd.R (Kd.int .u8) 5 wc w.heap.size (fun _ => True) v159 t157) ∧ Aside0 (Below w.heap.size w wc))
                  case first =>
                    have H := HC20.out
                    clear HC20
                    by_cases c21 : x57_16 = true
                    · subst c21
                      have H1 : (if (t158 != t156) = true then (some false) else (laws_FnTouched.j3 kj16 l0 a2 x10_11 t157)) = some r := by rw [if_pos rfl] at H; exact H
                      clear H
                      have H := H1
                      clear H1
                      by_cases c22 : (t158 != t156) = true
                      · rw [if_pos c22] at H
                        have c22b0 : (t158 != t156) = true := c22
                        (try (have c22b1 : decide (t158 = t156) = false := by simpa using c22))
                        (try (have c22b2 : (t158 == t156) = false := by simpa using c22))
                        (try (have c22b3 : ¬ (t158 = t156) := by simpa using c22))
                        clear c22
                        (first | rw [c22b0] | (simp only [i64_w, i32_w]; rw [c22b0]) | skip)
                        obtain rfl := Option.some.inj H
                        go_wp2
                        go_ret
                        exact ⟨by first | rfl | (simp [errW_none, errW_some] <;> rfl) | (simp [*, errW_none, errW_some] <;> rfl), by repeat (first | (with_reducible first | exact HB.out | apply below_alloc | apply pw_below_drewN | apply below_drew1) | exact HB.out)⟩
                      · rw [if_neg c22] at H
                        have c22b0 : (t158 != t156) = false := by simpa using c22
                        (try (have c22b1 : decide (t158 = t156) = true := by simpa using c22))
                        (try (have c22b2 : (t158 == t156) = true := by simpa using c22))
                        clear c22
                        (first | rw [c22b0] | (simp only [i64_w, i32_w]; rw [c22b0]) | skip)
                        have H' := Aside0.mk H
                        clear H
                        go_wp2
                        go_meet
                        case rel => exact ⟨_, H', ⟨by have := HJ5.out; have := HJ11.out; have := HJ16.out; first | omega | exact Nat.le_refl _⟩, ⟨by (with_reducible repeat (first | apply Kd.R_alloc | apply Kd.R_drewN | apply Kd.R_drew)); exact HO_11.out⟩, ⟨by repeat (first | (with_reducible first | exact HB.out | apply below_alloc | apply pw_below_drewN | apply below_drew1) | exact HB.out)⟩⟩
                    · replace c21 := Bool.eq_false_iff.mpr c21
                      subst c21
                      have H1 : (laws_FnTouched.j3 kj16 l0 a2 x10_11 t157) = some r := by rw [if_neg (show ¬ (false = true) by decide)] at H; exact H
                      clear H
                      have H := H1
                      clear H1
                      have H' := Aside0.mk H
                      clear H
                      go_wp2
                      go_meet
                      case rel => exact ⟨_, H', ⟨by have := HJ5.out; have := HJ11.out; have := HJ16.out; first | omega | exact Nat.le_refl _⟩, ⟨by (with_reducible repeat (first | apply Kd.R_alloc | apply Kd.R_drewN | apply Kd.R_drew)); exact HO_11.out⟩, ⟨by repeat (first | (with_reducible first | exact HB.out | apply below_alloc | apply pw_below_drewN | apply below_drew1) | exact HB.out)⟩⟩
                  case rest =>
                    clear HC20
                    try clear c1
                    try clear c2
                    try clear p2
                    try clear c3
                    try clear c5
                    try clear c5b0
                    try clear c5b1
                    try clear c6
                    try clear c7
                    try clear c8
                    try clear c9
                    try clear c9b0
                    try clear c10
                    try clear c13
                    try clear c13b0
                    try clear c13b1
                    try clear c14
                    try clear c14b0
                    try clear c14b1
                    try clear c15
                    try clear c15b0
                    try clear c15b1
                    try clear c19
                    try clear c19b0
                    try clear c19b1
                    try clear c21
                    try clear c22
                    try clear c22b0
                    try clear c22b1
                    try clear c22b2
                    try clear p2
                    obtain ⟨kq, HA, HJ19, HO_11, HB⟩ := hcut
                    cases kq with
                    | zero => exact absurd HA.out (by simp [laws_FnTouched.j3])
                    | succ kj19 =>
                      have H := HA.out
                      clear HA
                      simp only [laws_FnTouched.j3] at H
                      obtain ⟨y161, hy161⟩ : ∃ y_ : List Bool, y_ = (([x10_11] : List Bool)) := ⟨_, rfl⟩
                      replace H : ((laws_changed.f kj19 l0 a2 y161).bind fun t164 => ((laws_same.f t157 t164).bind fun t167 => (if t167 = true then ((impl_IsSet.f t157 a2).bind fun t168 => (if (t168 == x10_11) = true then ((impl_IsNotSet.f t157 a2).bind fun t169 => (some (t169 == (!x10_11)))) else (some false))) else (some false)))) = some r := by first | (rw [hy161]; with_reducible exact H) | (have H2_ := (Option.bind_some _ _).symm.trans H; rw [hy161]; with_reducible exact H2_) | (have H2_ := (Option.bind_some _ _).symm.trans H; with_reducible exact H2_) | with_reducible exact H | (rw [hy161]; exact H) | exact H
                      have Ny161 := Aside0.mk hy161
                      clear hy161
                      replace H := Option.bind_eq_some_iff.mp H
                      obtain ⟨t164, A230, H⟩ := H
                      replace H : ((laws_same.f t157 t164).bind fun t167 => (if t167 = true then ((impl_IsSet.f t157 a2).bind fun t168 => (if (t168 == x10_11) = true then ((impl_IsNotSet.f t157 a2).bind fun t169 => (some (t169 == (!x10_11)))) else (some false))) else (some false))) = some r := H
                      have A23 := Aside0.mk A230
                      clear A230
                      replace H := Option.bind_eq_some_iff.mp H
                      obtain ⟨t167, A240, H⟩ := H
                      replace H : (if t167 = true then ((impl_IsSet.f t157 a2).bind fun t168 => (if (t168 == x10_11) = true then ((impl_IsNotSet.f t157 a2).bind fun t169 => (some (t169 == (!x10_11)))) else (some false))) else (some false)) = some r := H
                      have A24 := Aside0.mk A240
                      clear A240
                      by_cases c25 : t167 = true
                      · subst c25
                        have H1 : ((impl_IsSet.f t157 a2).bind fun t168 => (if (t168 == x10_11) = true then ((impl_IsNotSet.f t157 a2).bind fun t169 => (some (t169 == (!x10_11)))) else (some false))) = some r := by rw [if_pos rfl] at H; exact H
                        clear H
                        have H := H1
                        clear H1
                        replace H := Option.bind_eq_some_iff.mp H
                        obtain ⟨t168, A260, H⟩ := H
                        replace H : (if (t168 == x10_11) = true then ((impl_IsNotSet.f t157 a2).bind fun t169 => (some (t169 == (!x10_11)))) else (some false)) = some r := H
                        have A26 := Aside0.mk A260
                        clear A260
                        by_cases c27 : (t168 == x10_11) = true
                        · rw [if_pos c27] at H
                          have c27b0 : (t168 == x10_11) = true := c27
                          (try (have c27b1 : decide (t168 = x10_11) = true := by simpa using c27))
                          (try (have c27b2 : (t168 == x10_11) = true := by simpa using c27))
                          clear c27
                          replace H := Option.bind_eq_some_iff.mp H
                          obtain ⟨t169, A280, H⟩ := H
                          replace H : (some (t169 == (!x10_11))) = some r := H
                          have A28 := Aside0.mk A280
                          clear A280
                          obtain rfl := Option.some.inj H
                          go_wp2_with (first | ((with_reducible refine gate_dst (N := 65) rfl ?_); refine Kd.R_lit Kd.bool _ 4 ?hg (N := 65) ?hd (xs := ([x10_11] : List Bool)) (inner := [.bool x10_11]) (ok := fun _ => True) (okp := fun _ => True) ?hr ?hp (fun _ hk => hk) trivial (Below.refl _ _) (Nat.le_refl _) (by simp) ?_; (case hd => rfl); (case hg => rfl); (case hr => first | (go_simp; done) | (go_simp; rfl)); (case hp => exact (Reps.one (show Kd.M Kd.bool _ _ _ x10_11 [.bool x10_11] from rfl) (Reps.none _ _))); intro v162 w29 ho30 hb hg_ hnew_; clear hg_ hnew_; (first | rw [← Ny161.out] at ho30 | (simp only [Int.reduceToNat] at ho30; rw [← Ny161.out] at ho30)); have n0_ := Aside0.mk (Kd.R_below (by (with_reducible repeat (first | apply Kd.R_alloc | apply Kd.R_drewN | apply Kd.R_drew)); exact HO_11.out) hb); have n1_ := Aside0.mk (Kd.R_lower ho30 (below_size (by repeat (first | (with_reducible first | exact HB.out | apply below_alloc | apply pw_below_drewN | apply below_drew1) | exact HB.out)))); have n2_ := Aside0.mk (below_step (by repeat (first | (with_reducible first | exact HB.out | apply below_alloc | apply pw_below_drewN | apply below_drew1) | exact HB.out)) hb); clear HO_11; clear HB; have HO_11 := n0_; have HO163 := n1_; have HB := n2_; clear n0_ n1_ n2_; clear hb ho30; obtain ⟨Ao31, co31, eo31⟩ := Kd.R_slice HO163.out; subst eo31) | ((with_reducible refine gate_callee (f := 9) rfl ?_); refine goesL_ (some 66) rfl rfl Tryd.func9 (by kernel_rfl) rfl #[.slice A0 l0.length c0, .int .i64 a2, .slice Ao31 y161.length co31] rfl (by (try simp only [List.map_toArray, List.map_cons, List.map_nil]); first | done | rfl | (simp only [List.length_drop, List.length_take]; rfl)) ?_; (with_reducible refine (laws_changed.calls kj19 _ _ l0 a2 _ _ y161 t164 _ ?side1 ?side2 ?side3 ?side4 A23.out).mono ?_); (case side1 => repeat (first | exact (Kd.C_below HR0.out HB.out) | (with_reducible refine Kd.C_alloc ?_ _) | (with_reducible refine Kd.C_drewN ?_ _) | (with_reducible refine Kd.C_drew ?_))); (case side2 => exact HC0.out); (case side3 => repeat (first | exact (Kd.R_reads' HO163.out).2.2 | (with_reducible refine Kd.C_alloc ?_ _) | (with_reducible refine Kd.C_drewN ?_ _) | (with_reducible refine Kd.C_drew ?_))); (case side4 => exact (Kd.R_reads' HO163.out).2.1); rintro e w32 ⟨v165, rfl, ho0, hb⟩; refine ⟨_, rfl, ?_⟩; have n0_ := Aside0.mk (Kd.R_elder' (by (with_reducible repeat (first | apply Kd.R_alloc | apply Kd.R_drewN | apply Kd.R_drew)); exact HO_11.out) (Kd.R_base ho0) hb); have n1_ := Aside0.mk (Kd.R_below (by (with_reducible repeat (first | apply Kd.R_alloc | apply Kd.R_drewN | apply Kd.R_drew)); exact HO163.out) hb); have n2_ := Aside0.mk (Kd.R_lower (Kd.R_new' ho0 (Kd.R_lt (by (with_reducible repeat (first | apply Kd.R_alloc | apply Kd.R_drewN | apply Kd.R_drew)); exact HO_11.out))) (below_size (by repeat (first | (with_reducible first | exact HB.out | apply below_alloc | apply pw_below_drewN | apply below_drew1) | exact HB.out)))); have n3_ := Aside0.mk (below_step (by repeat (first | (with_reducible first | exact HB.out | apply below_alloc | apply pw_below_drewN | apply below_drew1) | exact HB.out)) hb); clear HO_11; clear HO163; clear HB; have HO_11 := n0_; have HO163 := n1_; have HO166 := n2_; have HB := n3_; clear n0_ n1_ n2_ n3_; (try clear hb); (try clear hb2); (try clear hk); (try clear hi); (try clear ho0); obtain ⟨Ao33, co33, eo33⟩ := Kd.R_slice HO_11.out; subst eo33; obtain ⟨Ao34, co34, eo34⟩ := Kd.R_slice HO166.out; subst eo34) | ((with_reducible refine gate_callee (f := 8) rfl ?_); refine goesL_ (some 67) rfl rfl Tryd.func8 (by kernel_rfl) rfl #[.slice Ao33 t157.length co33, .slice Ao34 t164.length co34] rfl (by (try simp only [List.map_toArray, List.map_cons, List.map_nil]); first | done | rfl | (simp only [List.length_drop, List.length_take]; rfl)) ?_; (with_reducible refine (laws_same.calls _ _ t157 _ _ t164 true _ ?side1 ?side2 ?side3 ?side4 A24.out).mono ?_); (case side1 => repeat (first | exact (Kd.R_reads' HO_11.out).2.2 | (with_reducible refine Kd.C_alloc ?_ _) | (with_reducible refine Kd.C_drewN ?_ _) | (with_reducible refine Kd.C_drew ?_))); (case side2 => exact (Kd.R_reads' HO_11.out).2.1); (case side3 => repeat (first | exact (Kd.R_reads' HO166.out).2.2 | (with_reducible refine Kd.C_alloc ?_ _) | (with_reducible refine Kd.C_drewN ?_ _) | (with_reducible refine Kd.C_drew ?_))); (case side4 => exact (Kd.R_reads' HO166.out).2.1); rintro e w' ⟨rfl, ⟨nd, rfl⟩⟩; refine ⟨_, rfl, ?_⟩) | (go_at_call 10; (with_reducible refine (impl_IsSet.calls _ _ t157 a2 t168 _ ?side1 ?side2 ?side3 A26.out).mono ?_); (case side1 => repeat (first | exact (Kd.R_reads' HO_11.out).2.2 | (with_reducible refine Kd.C_alloc ?_ _) | (with_reducible refine Kd.C_drewN ?_ _) | (with_reducible refine Kd.C_drew ?_))); (case side2 => exact (Kd.R_reads' HO_11.out).2.1); (case side3 => first | exact HG0.out | exact Kd.C_below HG0.out (by repeat (first | (with_reducible first | exact HB.out | apply below_alloc | apply pw_below_drewN | apply below_drew1) | exact HB.out))); rintro e w35 ⟨rfl, hb⟩; have n0_ := Aside0.mk (Kd.R_below (by (with_reducible repeat (first | apply Kd.R_alloc | apply Kd.R_drewN | apply Kd.R_drew)); exact HO_11.out) hb); have n1_ := Aside0.mk (Kd.R_below (by (with_reducible repeat (first | apply Kd.R_alloc | apply Kd.R_drewN | apply Kd.R_drew)); exact HO163.out) hb); have n2_ := Aside0.mk (Kd.R_below (by (with_reducible repeat (first | apply Kd.R_alloc | apply Kd.R_drewN | apply Kd.R_drew)); exact HO166.out) hb); have n3_ := Aside0.mk (below_step (by repeat (first | (with_reducible first | exact HB.out | apply below_alloc | apply pw_below_drewN | apply below_drew1) | exact HB.out)) hb); clear HO_11; clear HO163; clear HO166; clear HB; have HO_11 := n0_; have HO163 := n1_; have HO166 := n2_; have HB := n3_; clear n0_ n1_ n2_ n3_; (try clear hb); (try clear hb2); (try clear hk); (try clear hi)) | (go_at_call 11; (with_reducible refine (impl_IsNotSet.calls _ _ t157 a2 t169 _ ?side1 ?side2 ?side3 A28.out).mono ?_); (case side1 => repeat (first | exact (Kd.R_reads' HO_11.out).2.2 | (with_reducible refine Kd.C_alloc ?_ _) | (with_reducible refine Kd.C_drewN ?_ _) | (with_reducible refine Kd.C_drew ?_))); (case side2 => exact (Kd.R_reads' HO_11.out).2.1); (case side3 => first | exact HG0.out | exact Kd.C_below HG0.out (by repeat (first | (with_reducible first | exact HB.out | apply below_alloc | apply pw_below_drewN | apply below_drew1) | exact HB.out))); rintro e w36 ⟨rfl, hb⟩; have n0_ := Aside0.mk (Kd.R_below (by (with_reducible repeat (first | apply Kd.R_alloc | apply Kd.R_drewN | apply Kd.R_drew)); exact HO_11.out) hb); have n1_ := Aside0.mk (Kd.R_below (by (with_reducible repeat (first | apply Kd.R_alloc | apply Kd.R_drewN | apply Kd.R_drew)); exact HO163.out) hb); have n2_ := Aside0.mk (Kd.R_below (by (with_reducible repeat (first | apply Kd.R_alloc | apply Kd.R_drewN | apply Kd.R_drew)); exact HO166.out) hb); have n3_ := Aside0.mk (below_step (by repeat (first | (with_reducible first | exact HB.out | apply below_alloc | apply pw_below_drewN | apply below_drew1) | exact HB.out)) hb); clear HO_11; clear HO163; clear HO166; clear HB; have HO_11 := n0_; have HO163 := n1_; have HO166 := n2_; have HB := n3_; clear n0_ n1_ n2_ n3_; (try clear hb); (try clear hb2); (try clear hk); (try clear hi)))
                          go_ret
                          exact ⟨by first | rfl | (simp [errW_none, errW_some] <;> rfl) | (simp [*, errW_none, errW_some] <;> rfl), by repeat (first | (with_reducible first | exact HB.out | apply below_alloc | apply pw_below_drewN | apply below_drew1) | exact HB.out)⟩
                        · rw [if_neg c27] at H
                          have c27b0 : (t168 == x10_11) = false := by simpa using c27
                          (try (have c27b1 : decide (t168 = x10_11) = false := by simpa using c27))
                          (try (have c27b2 : (t168 == x10_11) = false := by simpa using c27))
                          (try (have c27b3 : ¬ (t168 = x10_11) := by simpa using c27))
                          clear c27
                          obtain rfl := Option.some.inj H
                          go_wp2_with (first | ((with_reducible refine gate_dst (N := 65) rfl ?_); refine Kd.R_lit Kd.bool _ 4 ?hg (N := 65) ?hd (xs := ([x10_11] : List Bool)) (inner := [.bool x10_11]) (ok := fun _ => True) (okp := fun _ => True) ?hr ?hp (fun _ hk => hk) trivial (Below.refl _ _) (Nat.le_refl _) (by simp) ?_; (case hd => rfl); (case hg => rfl); (case hr => first | (go_simp; done) | (go_simp; rfl)); (case hp => exact (Reps.one (show Kd.M Kd.bool _ _ _ x10_11 [.bool x10_11] from rfl) (Reps.none _ _))); intro v162 w37 ho38 hb hg_ hnew_; clear hg_ hnew_; (first | rw [← Ny161.out] at ho38 | (simp only [Int.reduceToNat] at ho38; rw [← Ny161.out] at ho38)); have n0_ := Aside0.mk (Kd.R_below (by (with_reducible repeat (first | apply Kd.R_alloc | apply Kd.R_drewN | apply Kd.R_drew)); exact HO_11.out) hb); have n1_ := Aside0.mk (Kd.R_lower ho38 (below_size (by repeat (first | (with_reducible first | exact HB.out | apply below_alloc | apply pw_below_drewN | apply below_drew1) | exact HB.out)))); have n2_ := Aside0.mk (below_step (by repeat (first | (with_reducible first | exact HB.out | apply below_alloc | apply pw_below_drewN | apply below_drew1) | exact HB.out)) hb); clear HO_11; clear HB; have HO_11 := n0_; have HO163 := n1_; have HB := n2_; clear n0_ n1_ n2_; clear hb ho38; obtain ⟨Ao39, co39, eo39⟩ := Kd.R_slice HO163.out; subst eo39) | ((with_reducible refine gate_callee (f := 9) rfl ?_); refine goesL_ (some 66) rfl rfl Tryd.func9 (by kernel_rfl) rfl #[.slice A0 l0.length c0, .int .i64 a2, .slice Ao39 y161.length co39] rfl (by (try simp only [List.map_toArray, List.map_cons, List.map_nil]); first | done | rfl | (simp only [List.length_drop, List.length_take]; rfl)) ?_; (with_reducible refine (laws_changed.calls kj19 _ _ l0 a2 _ _ y161 t164 _ ?side1 ?side2 ?side3 ?side4 A23.out).mono ?_); (case side1 => repeat (first | exact (Kd.C_below HR0.out HB.out) | (with_reducible refine Kd.C_alloc ?_ _) | (with_reducible refine Kd.C_drewN ?_ _) | (with_reducible refine Kd.C_drew ?_))); (case side2 => exact HC0.out); (case side3 => repeat (first | exact (Kd.R_reads' HO163.out).2.2 | (with_reducible refine Kd.C_alloc ?_ _) | (with_reducible refine Kd.C_drewN ?_ _) | (with_reducible refine Kd.C_drew ?_))); (case side4 => exact (Kd.R_reads' HO163.out).2.1); rintro e w40 ⟨v165, rfl, ho0, hb⟩; refine ⟨_, rfl, ?_⟩; have n0_ := Aside0.mk (Kd.R_elder' (by (with_reducible repeat (first | apply Kd.R_alloc | apply Kd.R_drewN | apply Kd.R_drew)); exact HO_11.out) (Kd.R_base ho0) hb); have n1_ := Aside0.mk (Kd.R_below (by (with_reducible repeat (first | apply Kd.R_alloc | apply Kd.R_drewN | apply Kd.R_drew)); exact HO163.out) hb); have n2_ := Aside0.mk (Kd.R_lower (Kd.R_new' ho0 (Kd.R_lt (by (with_reducible repeat (first | apply Kd.R_alloc | apply Kd.R_drewN | apply Kd.R_drew)); exact HO_11.out))) (below_size (by repeat (first | (with_reducible first | exact HB.out | apply below_alloc | apply pw_below_drewN | apply below_drew1) | exact HB.out)))); have n3_ := Aside0.mk (below_step (by repeat (first | (with_reducible first | exact HB.out | apply below_alloc | apply pw_below_drewN | apply below_drew1) | exact HB.out)) hb); clear HO_11; clear HO163; clear HB; have HO_11 := n0_; have HO163 := n1_; have HO166 := n2_; have HB := n3_; clear n0_ n1_ n2_ n3_; (try clear hb); (try clear hb2); (try clear hk); (try clear hi); (try clear ho0); obtain ⟨Ao41, co41, eo41⟩ := Kd.R_slice HO_11.out; subst eo41; obtain ⟨Ao42, co42, eo42⟩ := Kd.R_slice HO166.out; subst eo42) | ((with_reducible refine gate_callee (f := 8) rfl ?_); refine goesL_ (some 67) rfl rfl Tryd.func8 (by kernel_rfl) rfl #[.slice Ao41 t157.length co41, .slice Ao42 t164.length co42] rfl (by (try simp only [List.map_toArray, List.map_cons, List.map_nil]); first | done | rfl | (simp only [List.length_drop, List.length_take]; rfl)) ?_; (with_reducible refine (laws_same.calls _ _ t157 _ _ t164 true _ ?side1 ?side2 ?side3 ?side4 A24.out).mono ?_); (case side1 => repeat (first | exact (Kd.R_reads' HO_11.out).2.2 | (with_reducible refine Kd.C_alloc ?_ _) | (with_reducible refine Kd.C_drewN ?_ _) | (with_reducible refine Kd.C_drew ?_))); (case side2 => exact (Kd.R_reads' HO_11.out).2.1); (case side3 => repeat (first | exact (Kd.R_reads' HO166.out).2.2 | (with_reducible refine Kd.C_alloc ?_ _) | (with_reducible refine Kd.C_drewN ?_ _) | (with_reducible refine Kd.C_drew ?_))); (case side4 => exact (Kd.R_reads' HO166.out).2.1); rintro e w' ⟨rfl, ⟨nd, rfl⟩⟩; refine ⟨_, rfl, ?_⟩) | (go_at_call 10; (with_reducible refine (impl_IsSet.calls _ _ t157 a2 t168 _ ?side1 ?side2 ?side3 A26.out).mono ?_); (case side1 => repeat (first | exact (Kd.R_reads' HO_11.out).2.2 | (with_reducible refine Kd.C_alloc ?_ _) | (with_reducible refine Kd.C_drewN ?_ _) | (with_reducible refine Kd.C_drew ?_))); (case side2 => exact (Kd.R_reads' HO_11.out).2.1); (case side3 => first | exact HG0.out | exact Kd.C_below HG0.out (by repeat (first | (with_reducible first | exact HB.out | apply below_alloc | apply pw_below_drewN | apply below_drew1) | exact HB.out))); rintro e w43 ⟨rfl, hb⟩; have n0_ := Aside0.mk (Kd.R_below (by (with_reducible repeat (first | apply Kd.R_alloc | apply Kd.R_drewN | apply Kd.R_drew)); exact HO_11.out) hb); have n1_ := Aside0.mk (Kd.R_below (by (with_reducible repeat (first | apply Kd.R_alloc | apply Kd.R_drewN | apply Kd.R_drew)); exact HO163.out) hb); have n2_ := Aside0.mk (Kd.R_below (by (with_reducible repeat (first | apply Kd.R_alloc | apply Kd.R_drewN | apply Kd.R_drew)); exact HO166.out) hb); have n3_ := Aside0.mk (below_step (by repeat (first | (with_reducible first | exact HB.out | apply below_alloc | apply pw_below_drewN | apply below_drew1) | exact HB.out)) hb); clear HO_11; clear HO163; clear HO166; clear HB; have HO_11 := n0_; have HO163 := n1_; have HO166 := n2_; have HB := n3_; clear n0_ n1_ n2_ n3_; (try clear hb); (try clear hb2); (try clear hk); (try clear hi)))
                          go_ret
                          exact ⟨by first | rfl | (simp [errW_none, errW_some] <;> rfl) | (simp [*, errW_none, errW_some] <;> rfl), by repeat (first | (with_reducible first | exact HB.out | apply below_alloc | apply pw_below_drewN | apply below_drew1) | exact HB.out)⟩
                      · replace c25 := Bool.eq_false_iff.mpr c25
                        subst c25
                        have H1 : (some false) = some r := by rw [if_neg (show ¬ (false = true) by decide)] at H; exact H
                        clear H
                        have H := H1
                        clear H1
                        obtain rfl := Option.some.inj H
                        go_wp2_with (first | ((with_reducible refine gate_dst (N := 65) rfl ?_); refine Kd.R_lit Kd.bool _ 4 ?hg (N := 65) ?hd (xs := ([x10_11] : List Bool)) (inner := [.bool x10_11]) (ok := fun _ => True) (okp := fun _ => True) ?hr ?hp (fun _ hk => hk) trivial (Below.refl _ _) (Nat.le_refl _) (by simp) ?_; (case hd => rfl); (case hg => rfl); (case hr => first | (go_simp; done) | (go_simp; rfl)); (case hp => exact (Reps.one (show Kd.M Kd.bool _ _ _ x10_11 [.bool x10_11] from rfl) (Reps.none _ _))); intro v162 w44 ho45 hb hg_ hnew_; clear hg_ hnew_; (first | rw [← Ny161.out] at ho45 | (simp only [Int.reduceToNat] at ho45; rw [← Ny161.out] at ho45)); have n0_ := Aside0.mk (Kd.R_below (by (with_reducible repeat (first | apply Kd.R_alloc | apply Kd.R_drewN | apply Kd.R_drew)); exact HO_11.out) hb); have n1_ := Aside0.mk (Kd.R_lower ho45 (below_size (by repeat (first | (with_reducible first | exact HB.out | apply below_alloc | apply pw_below_drewN | apply below_drew1) | exact HB.out)))); have n2_ := Aside0.mk (below_step (by repeat (first | (with_reducible first | exact HB.out | apply below_alloc | apply pw_below_drewN | apply below_drew1) | exact HB.out)) hb); clear HO_11; clear HB; have HO_11 := n0_; have HO163 := n1_; have HB := n2_; clear n0_ n1_ n2_; clear hb ho45; obtain ⟨Ao46, co46, eo46⟩ := Kd.R_slice HO163.out; subst eo46) | ((with_reducible refine gate_callee (f := 9) rfl ?_); refine goesL_ (some 66) rfl rfl Tryd.func9 (by kernel_rfl) rfl #[.slice A0 l0.length c0, .int .i64 a2, .slice Ao46 y161.length co46] rfl (by (try simp only [List.map_toArray, List.map_cons, List.map_nil]); first | done | rfl | (simp only [List.length_drop, List.length_take]; rfl)) ?_; (with_reducible refine (laws_changed.calls kj19 _ _ l0 a2 _ _ y161 t164 _ ?side1 ?side2 ?side3 ?side4 A23.out).mono ?_); (case side1 => repeat (first | exact (Kd.C_below HR0.out HB.out) | (with_reducible refine Kd.C_alloc ?_ _) | (with_reducible refine Kd.C_drewN ?_ _) | (with_reducible refine Kd.C_drew ?_))); (case side2 => exact HC0.out); (case side3 => repeat (first | exact (Kd.R_reads' HO163.out).2.2 | (with_reducible refine Kd.C_alloc ?_ _) | (with_reducible refine Kd.C_drewN ?_ _) | (with_reducible refine Kd.C_drew ?_))); (case side4 => exact (Kd.R_reads' HO163.out).2.1); rintro e w47 ⟨v165, rfl, ho0, hb⟩; refine ⟨_, rfl, ?_⟩; have n0_ := Aside0.mk (Kd.R_elder' (by (with_reducible repeat (first | apply Kd.R_alloc | apply Kd.R_drewN | apply Kd.R_drew)); exact HO_11.out) (Kd.R_base ho0) hb); have n1_ := Aside0.mk (Kd.R_below (by (with_reducible repeat (first | apply Kd.R_alloc | apply Kd.R_drewN | apply Kd.R_drew)); exact HO163.out) hb); have n2_ := Aside0.mk (Kd.R_lower (Kd.R_new' ho0 (Kd.R_lt (by (with_reducible repeat (first | apply Kd.R_alloc | apply Kd.R_drewN | apply Kd.R_drew)); exact HO_11.out))) (below_size (by repeat (first | (with_reducible first | exact HB.out | apply below_alloc | apply pw_below_drewN | apply below_drew1) | exact HB.out)))); have n3_ := Aside0.mk (below_step (by repeat (first | (with_reducible first | exact HB.out | apply below_alloc | apply pw_below_drewN | apply below_drew1) | exact HB.out)) hb); clear HO_11; clear HO163; clear HB; have HO_11 := n0_; have HO163 := n1_; have HO166 := n2_; have HB := n3_; clear n0_ n1_ n2_ n3_; (try clear hb); (try clear hb2); (try clear hk); (try clear hi); (try clear ho0); obtain ⟨Ao48, co48, eo48⟩ := Kd.R_slice HO_11.out; subst eo48; obtain ⟨Ao49, co49, eo49⟩ := Kd.R_slice HO166.out; subst eo49) | ((with_reducible refine gate_callee (f := 8) rfl ?_); refine goesL_ (some 67) rfl rfl Tryd.func8 (by kernel_rfl) rfl #[.slice Ao48 t157.length co48, .slice Ao49 t164.length co49] rfl (by (try simp only [List.map_toArray, List.map_cons, List.map_nil]); first | done | rfl | (simp only [List.length_drop, List.length_take]; rfl)) ?_; (with_reducible refine (laws_same.calls _ _ t157 _ _ t164 false _ ?side1 ?side2 ?side3 ?side4 A24.out).mono ?_); (case side1 => repeat (first | exact (Kd.R_reads' HO_11.out).2.2 | (with_reducible refine Kd.C_alloc ?_ _) | (with_reducible refine Kd.C_drewN ?_ _) | (with_reducible refine Kd.C_drew ?_))); (case side2 => exact (Kd.R_reads' HO_11.out).2.1); (case side3 => repeat (first | exact (Kd.R_reads' HO166.out).2.2 | (with_reducible refine Kd.C_alloc ?_ _) | (with_reducible refine Kd.C_drewN ?_ _) | (with_reducible refine Kd.C_drew ?_))); (case side4 => exact (Kd.R_reads' HO166.out).2.1); rintro e w' ⟨rfl, ⟨nd, rfl⟩⟩; refine ⟨_, rfl, ?_⟩))
                        go_ret
                        exact ⟨by first | rfl | (simp [errW_none, errW_some] <;> rfl) | (simp [*, errW_none, errW_some] <;> rfl), by repeat (first | (with_reducible first | exact HB.out | apply below_alloc | apply pw_below_drewN | apply below_drew1) | exact HB.out)⟩

/-- THE ONE PURE STATEMENT of laws_FnTouched: yours. -/
def laws_FnTouched.Pure : Prop := ∀ (l0 : List Int) (a1 : Int) (a2 : Int) (a3 : Bool), l0.length ≤ maxLen → l0.length * 1 ≤ 140737488351232 → (∀ x ∈ l0, (Lit.int .u8 x).wf = true) → (Lit.int .i64 a1).wf = true → (Lit.int .i64 a2).wf = true → ∃ k, laws_FnTouched.f k l0 a1 a2 a3 = some true
theorem laws_FnTouched.walk (P : laws_FnTouched.Pure) (a0 : Option Addr) (len0 cap0 : Nat) (z0 : List Int) (a1 : Int) (a2 : Int) (a3 : Bool) (w : World) (w0 : (a0 = none ∧ len0 = 0 ∧ cap0 = 0 ∧ z0 = []) ∨ ∃ x, a0 = some x ∧ len0 ≤ cap0 ∧ cap0 ≤ maxLen ∧ z0.length = cap0 ∧ (∀ i, i < z0.length → w.cell? (x.add i) = some (.int .u8 (z0.getD i 0))) ∧ ∀ n ∈ z0, (Lit.int .u8 n).wf = true) (y0 : len0 * 1 ≤ 140737488351232) (w1 : (Lit.int .i64 a1).wf = true) (w2 : (Lit.int .i64 a2).wf = true) (hg0 : Kd.C (Kd.int .u8) w (some ⟨0, 0, none⟩) gtab0.length gtab0) (hg1 : Kd.C (Kd.int .u8) w (some ⟨1, 0, none⟩) gtab1.length gtab1) :
    Calls Tryd.prog 3 #[.slice a0 len0 cap0, .int .i64 a1, .int .i64 a2, .bool a3] w fun e w' => e = .returned (.bool true) ∧ Below w.heap.size w w' := by
  obtain ⟨l0, rfl, hr0, hm0, hw0, hc0⟩ := ReadsInt.ofRowC w0
  obtain ⟨k, h⟩ := P l0 a1 a2 a3 hm0 y0 hw0 w1 w2
  refine (laws_FnTouched.calls k _ _ l0 a1 a2 a3 true w (Kd.C_of_reads (d := (0 : Int)) (h1 := fun _ => rfl) hr0) hc0 hg0 hg1 h).mono ?_
  rintro e w' ⟨rfl, hd⟩
  exact ⟨rfl, hd⟩

end Go.Proofs.YticieelobdfloaaDoor.QTouched
