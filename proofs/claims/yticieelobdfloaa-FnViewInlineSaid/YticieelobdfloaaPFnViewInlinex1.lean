-- PRINTED BY print.sh 35421559b90ae4d0a3588c463048766b98c2df88dd9212a6774a882060cdf62d: not written by this session
import Derived.Test.YticieelobdfloaaPFnViewInlinex0
namespace Go.Proofs.Yticieelobdfloaa.PFnViewInline
open Go.RowKit Go.Proofs.YticieelobdfloaaW.PrintWords Go.Proofs.YticieelobdfloaaW.PrintLast Go.Proofs.YticieelobdfloaaW.PrintMore
attribute [local go_sem] max2_int min2_int max_two min_two max_three min_three max_four min_four   -- for this text's walks alone
set_option linter.unusedVariables false
set_option linter.unusedSimpArgs false

/-! ### arrow_IsViewInline: function 10 -/
def arrow_IsViewInline.f (a0 : Int) : Option (Bool) := some (decide (a0 ≤ 12))
set_option maxHeartbeats 8000000 in
set_option maxRecDepth 100000 in
theorem arrow_IsViewInline.calls (a0 : Int) (r : Bool) (w : World) (h : arrow_IsViewInline.f a0 = some r) :
    Calls Try.prog 10 #[.int .i64 a0] w fun e w' => e = .returned (.bool r) ∧ Drawn0 w w' := by
  have H : (some (decide (a0 ≤ 12))) = some r := h
  clear h
  obtain rfl := Option.some.inj H
  go_enter Try.func10, Try.ntmps10
  go_wp2
  go_ret
  exact ⟨by first | rfl | (simp; done) | (simp [*]; done), by repeat (first | exact Drawn0.refl _ | apply Drawn0.step)⟩

/-! ### impl_ViewInline: function 6 -/
def impl_ViewInline.f (a0 : Int) : Option (Bool) := (arrow_IsViewInline.f a0).bind fun t101 => (some t101)
set_option maxHeartbeats 8000000 in
set_option maxRecDepth 100000 in
theorem impl_ViewInline.calls (a0 : Int) (r : Bool) (w : World) (h : impl_ViewInline.f a0 = some r) :
    Calls Try.prog 6 #[.int .i64 a0] w fun e w' => e = .returned (.bool r) ∧ Drawn0 w w' := by
  have H : ((arrow_IsViewInline.f a0).bind fun t101 => (some t101)) = some r := h
  clear h
  replace H := Option.bind_eq_some_iff.mp H
  obtain ⟨t101, A20, H⟩ := H
  replace H : (some t101) = some r := H
  have A2 := Aside0.mk A20
  clear A20
  obtain rfl := Option.some.inj H
  go_enter Try.func6, Try.ntmps6
  go_wp2_with (first | ((with_reducible refine gate_callee (f := 10) rfl ?_); refine goesL_ (some 4) rfl rfl Try.func10 (by kernel_rfl) rfl #[.int .i64 a0] rfl (by (try simp only [List.map_toArray, List.map_cons, List.map_nil]); first | done | rfl | (simp only [List.length_drop, List.length_take]; rfl)) ?_; (with_reducible refine (arrow_IsViewInline.calls a0 t101 _ A2.out).mono ?_); rintro e w' ⟨rfl, ⟨nd, rfl⟩⟩; refine ⟨_, rfl, ?_⟩))
  go_ret
  exact ⟨by first | rfl | (simp; done) | (simp [*]; done), by repeat (first | exact Drawn0.refl _ | apply Drawn0.step)⟩

/-! ### laws_FnViewInline: function 3 -/
def laws_FnViewInline.f (a0 : Int) : Option (Bool) := if a0 < 0 then (some true) else (if a0 > 2147483647 then (some true) else ((impl_ViewInline.f a0).bind fun t102 => (if (t102 == (decide (a0 ≤ 12))) = true then ((impl_ViewInline.f 12).bind fun t103 => (some t103)) else (some false))))
set_option maxHeartbeats 8000000 in
set_option maxRecDepth 100000 in
theorem laws_FnViewInline.calls (a0 : Int) (r : Bool) (w : World) (h : laws_FnViewInline.f a0 = some r) :
    Calls Try.prog 3 #[.int .i64 a0] w fun e w' => e = .returned (.bool r) ∧ Drawn0 w w' := by
  have H : (if a0 < 0 then (some true) else (if a0 > 2147483647 then (some true) else ((impl_ViewInline.f a0).bind fun t102 => (if (t102 == (decide (a0 ≤ 12))) = true then ((impl_ViewInline.f 12).bind fun t103 => (some t103)) else (some false))))) = some r := h
  clear h
  by_cases c2 : a0 < 0
  · rw [if_pos c2] at H
    have c2b0 : decide (a0 < 0) = true := decide_eq_true c2
    clear c2
    obtain rfl := Option.some.inj H
    go_enter Try.func3, Try.ntmps3
    go_wp2
    go_ret
    exact ⟨by first | rfl | (simp; done) | (simp [*]; done), by repeat (first | exact Drawn0.refl _ | apply Drawn0.step)⟩
  · rw [if_neg c2] at H
    have c2b0 : decide (a0 < 0) = false := decide_eq_false c2
    clear c2
    by_cases c3 : a0 > 2147483647
    · rw [if_pos c3] at H
      have c3b0 : decide (2147483647 < a0) = true := decide_eq_true c3
      clear c3
      obtain rfl := Option.some.inj H
      go_enter Try.func3, Try.ntmps3
      go_wp2
      go_ret
      exact ⟨by first | rfl | (simp; done) | (simp [*]; done), by repeat (first | exact Drawn0.refl _ | apply Drawn0.step)⟩
    · rw [if_neg c3] at H
      have c3b0 : decide (2147483647 < a0) = false := decide_eq_false c3
      clear c3
      replace H := Option.bind_eq_some_iff.mp H
      obtain ⟨t102, A40, H⟩ := H
      replace H : (if (t102 == (decide (a0 ≤ 12))) = true then ((impl_ViewInline.f 12).bind fun t103 => (some t103)) else (some false)) = some r := H
      have A4 := Aside0.mk A40
      clear A40
      by_cases c5 : (t102 == (decide (a0 ≤ 12))) = true
      · rw [if_pos c5] at H
        have c5b0 : (t102 == (decide (a0 ≤ 12))) = true := c5
        (try (have c5b1 : decide (t102 = (decide (a0 ≤ 12))) = true := by simpa using c5))
        (try (have c5b2 : (t102 == (decide (a0 ≤ 12))) = true := by simpa using c5))
        clear c5
        replace H := Option.bind_eq_some_iff.mp H
        obtain ⟨t103, A60, H⟩ := H
        replace H : (some t103) = some r := H
        have A6 := Aside0.mk A60
        clear A60
        obtain rfl := Option.some.inj H
        go_enter Try.func3, Try.ntmps3
        go_wp2_with (first | (go_at_call 6; (with_reducible refine (impl_ViewInline.calls a0 t102 _ A4.out).mono ?_); rintro e w' ⟨rfl, ⟨nd, rfl⟩⟩) | (go_at_call 6; (with_reducible refine (impl_ViewInline.calls 12 t103 _ A6.out).mono ?_); rintro e w' ⟨rfl, ⟨nd, rfl⟩⟩))
        go_ret
        exact ⟨by first | rfl | (simp; done) | (simp [*]; done), by repeat (first | exact Drawn0.refl _ | apply Drawn0.step)⟩
      · rw [if_neg c5] at H
        have c5b0 : (t102 == (decide (a0 ≤ 12))) = false := by simpa using c5
        (try (have c5b1 : decide (t102 = (decide (a0 ≤ 12))) = false := by simpa using c5))
        (try (have c5b2 : (t102 == (decide (a0 ≤ 12))) = false := by simpa using c5))
        (try (have c5b3 : ¬ (t102 = (decide (a0 ≤ 12))) := by simpa using c5))
        clear c5
        obtain rfl := Option.some.inj H
        go_enter Try.func3, Try.ntmps3
        go_wp2_with (first | (go_at_call 6; (with_reducible refine (impl_ViewInline.calls a0 t102 _ A4.out).mono ?_); rintro e w' ⟨rfl, ⟨nd, rfl⟩⟩))
        go_ret
        exact ⟨by first | rfl | (simp; done) | (simp [*]; done), by repeat (first | exact Drawn0.refl _ | apply Drawn0.step)⟩

/-- THE ONE PURE STATEMENT of laws_FnViewInline: yours. -/
def laws_FnViewInline.Pure : Prop := ∀ (a0 : Int), (Lit.int .i64 a0).wf = true → laws_FnViewInline.f a0 = some true
theorem laws_FnViewInline.walk (P : laws_FnViewInline.Pure) (a0 : Int) (w : World) (w0 : (Lit.int .i64 a0).wf = true) :
    Calls Try.prog 3 #[.int .i64 a0] w fun e w' => e = .returned (.bool true) ∧ Below w.heap.size w w' := by
  have h := P a0 w0
  refine (laws_FnViewInline.calls a0 true w h).mono ?_
  rintro e w' ⟨rfl, hd⟩
  exact ⟨rfl, hd.below⟩

end Go.Proofs.Yticieelobdfloaa.PFnViewInline
