/- Written by a program of mine over the kit's print program, turned at a few places (variables of one cell in memory; deferred closures): each Go function as a Lean function, with the proof of its call. -/
import Derived.Test.YticieelobdfloaaDoorQTouchedx0
namespace Go.Proofs.YticieelobdfloaaDoor.QTouched
open Go.RowKit Go.Proofs.YticieelobdfloaaDoorW.PrintWords Go.Proofs.YticieelobdfloaaDoorW.PrintLast Go.Proofs.YticieelobdfloaaDoorW.PrintMore
attribute [local go_sem] max2_int min2_int max_two min_two max_three min_three max_four min_four   -- for this text's walks alone
set_option linter.unusedVariables false
set_option linter.unusedSimpArgs false

/-! ### laws_within: function 5 -/
def laws_within.f (l0 : List Int) (a1 : Int) (a2 : Int) : Option (Bool) := if (l0.length : Int) ≤ 4096 then (if a1 ≥ 0 then (if a2 ≥ 0 then (if a1 ≤ (wrap64 (8 * (l0.length : Int))) then (some (decide (a2 ≤ (wrap64 ((wrap64 (8 * (l0.length : Int))) - a1))))) else (some false)) else (some false)) else (some false)) else (some false)
set_option maxHeartbeats 8000000 in
set_option maxRecDepth 100000 in
theorem laws_within.calls (A0 : Option Addr) (c0 : Nat) (l0 : List Int) (a1 : Int) (a2 : Int) (r : Bool) (w : World) (hr0 : Kd.C (Kd.int .u8) w A0 l0.length l0) (hc0 : l0.length ≤ c0) (h : laws_within.f l0 a1 a2 = some r) :
    Calls Tryd.prog 5 #[.slice A0 l0.length c0, .int .i64 a1, .int .i64 a2] w fun e w' => e = .returned (.bool r) ∧ Drawn0 w w' := by
  have HR0 := Aside0.mk hr0
  have HC0 := Aside0.mk hc0
  clear hr0 hc0
  have H : (if (l0.length : Int) ≤ 4096 then (if a1 ≥ 0 then (if a2 ≥ 0 then (if a1 ≤ (wrap64 (8 * (l0.length : Int))) then (some (decide (a2 ≤ (wrap64 ((wrap64 (8 * (l0.length : Int))) - a1))))) else (some false)) else (some false)) else (some false)) else (some false)) = some r := h
  clear h
  by_cases c4 : (l0.length : Int) ≤ 4096
  · rw [if_pos c4] at H
    have c4b0 : decide ((l0.length : Int) ≤ 4096) = true := decide_eq_true c4
    have c4b1 : decide (l0.length ≤ 4096) = true := decide_eq_true (by omega)
    clear c4
    by_cases c5 : a1 ≥ 0
    · rw [if_pos c5] at H
      have c5b0 : decide (0 ≤ a1) = true := decide_eq_true c5
      clear c5
      by_cases c6 : a2 ≥ 0
      · rw [if_pos c6] at H
        have c6b0 : decide (0 ≤ a2) = true := decide_eq_true c6
        clear c6
        by_cases c7 : a1 ≤ (wrap64 (8 * (l0.length : Int)))
        · rw [if_pos c7] at H
          have c7b0 : decide (a1 ≤ (wrap64 (8 * (l0.length : Int)))) = true := decide_eq_true c7
          clear c7
          obtain rfl := Option.some.inj H
          go_enter Tryd.func5, Tryd.ntmps5
          go_wp2
          go_ret
          exact ⟨by first | rfl | (simp; done) | (simp [*]; done), by repeat (first | exact Drawn0.refl _ | apply Drawn0.step)⟩
        · rw [if_neg c7] at H
          have c7b0 : decide (a1 ≤ (wrap64 (8 * (l0.length : Int)))) = false := decide_eq_false c7
          clear c7
          obtain rfl := Option.some.inj H
          go_enter Tryd.func5, Tryd.ntmps5
          go_wp2
          go_ret
          exact ⟨by first | rfl | (simp; done) | (simp [*]; done), by repeat (first | exact Drawn0.refl _ | apply Drawn0.step)⟩
      · rw [if_neg c6] at H
        have c6b0 : decide (0 ≤ a2) = false := decide_eq_false c6
        clear c6
        obtain rfl := Option.some.inj H
        go_enter Tryd.func5, Tryd.ntmps5
        go_wp2
        go_ret
        exact ⟨by first | rfl | (simp; done) | (simp [*]; done), by repeat (first | exact Drawn0.refl _ | apply Drawn0.step)⟩
    · rw [if_neg c5] at H
      have c5b0 : decide (0 ≤ a1) = false := decide_eq_false c5
      clear c5
      obtain rfl := Option.some.inj H
      go_enter Tryd.func5, Tryd.ntmps5
      go_wp2
      go_ret
      exact ⟨by first | rfl | (simp; done) | (simp [*]; done), by repeat (first | exact Drawn0.refl _ | apply Drawn0.step)⟩
  · rw [if_neg c4] at H
    have c4b0 : decide ((l0.length : Int) ≤ 4096) = false := decide_eq_false c4
    have c4b1 : decide (l0.length ≤ 4096) = false := decide_eq_false (by omega)
    clear c4
    obtain rfl := Option.some.inj H
    go_enter Tryd.func5, Tryd.ntmps5
    go_wp2
    go_ret
    exact ⟨by first | rfl | (simp; done) | (simp [*]; done), by repeat (first | exact Drawn0.refl _ | apply Drawn0.step)⟩

/-! ### spec_Bit: function 6 -/
def spec_Bit.f (l0 : List Int) (a1 : Int) : Option (Bool) := if 0 ≤ (wrap64 (Int.tdiv a1 8)) then (if (wrap64 (Int.tdiv a1 8)) < (l0.length : Int) then (if 0 ≤ (Int.tmod a1 8) then (some ((Go.bits .and .u8 (shr .u8 (rd l0 (wrap64 (Int.tdiv a1 8))) (Int.tmod a1 8)) 1) == 1)) else (none)) else (none)) else (none)
set_option maxHeartbeats 8000000 in
set_option maxRecDepth 100000 in
theorem spec_Bit.calls (A0 : Option Addr) (c0 : Nat) (l0 : List Int) (a1 : Int) (r : Bool) (w : World) (hr0 : Kd.C (Kd.int .u8) w A0 l0.length l0) (hc0 : l0.length ≤ c0) (h : spec_Bit.f l0 a1 = some r) :
    Calls Tryd.prog 6 #[.slice A0 l0.length c0, .int .i64 a1] w fun e w' => e = .returned (.bool r) ∧ Drawn0 w w' := by
  have HR0 := Aside0.mk hr0
  have HC0 := Aside0.mk hc0
  clear hr0 hc0
  have H : (if 0 ≤ (wrap64 (Int.tdiv a1 8)) then (if (wrap64 (Int.tdiv a1 8)) < (l0.length : Int) then (if 0 ≤ (Int.tmod a1 8) then (some ((Go.bits .and .u8 (shr .u8 (rd l0 (wrap64 (Int.tdiv a1 8))) (Int.tmod a1 8)) 1) == 1)) else (none)) else (none)) else (none)) = some r := h
  clear h
  obtain ⟨ji3, hji3⟩ : ∃ j_ : Int, (wrap64 (Int.tdiv a1 8)) = j_ := ⟨_, rfl⟩
  replace H : (if 0 ≤ (ji3) then (if (ji3) < (l0.length : Int) then (if 0 ≤ (Int.tmod a1 8) then (some ((Go.bits .and .u8 (shr .u8 (rd l0 (ji3)) (Int.tmod a1 8)) 1) == 1)) else (none)) else (none)) else (none)) = some r := by first | (rw [hji3] at H; exact H) | (simp only [hji3] at H ⊢; exact H)
  have hji3w : (IntKind.i64.wrap (Int.tdiv a1 8)) = ji3 := (i64_w _).trans hji3
  by_cases c4 : 0 ≤ (ji3)
  · rw [if_pos c4] at H
    have c4b0 : decide (0 ≤ (ji3)) = true := decide_eq_true c4
    clear c4
    by_cases c5 : (ji3) < (l0.length : Int)
    · rw [if_pos c5] at H
      have c5b0 : decide ((ji3) < (l0.length : Int)) = true := decide_eq_true c5
      clear c5
      obtain ⟨ji6, hji6⟩ : ∃ j_ : Int, (Int.tmod a1 8) = j_ := ⟨_, rfl⟩
      replace H : (if 0 ≤ (ji6) then (some ((Go.bits .and .u8 (shr .u8 (rd l0 (ji3)) (ji6)) 1) == 1)) else (none)) = some r := by first | (rw [hji6] at H; exact H) | (simp only [hji6] at H ⊢; exact H)
      by_cases c7 : 0 ≤ (ji6)
      · rw [if_pos c7] at H
        have c7b0 := eq_true c7
        have c7b1 : decide (0 ≤ (ji6)) = true := decide_eq_true c7
        clear c7
        obtain ⟨ji8, hji8⟩ : ∃ j_ : Int, (shr .u8 (rd l0 (ji3)) (ji6)) = j_ := ⟨_, rfl⟩
        replace H : (some ((Go.bits .and .u8 (ji8) 1) == 1)) = some r := by first | (rw [hji8] at H; exact H) | (simp only [hji8] at H ⊢; exact H)
        have hji8_ : ((rd l0 (ji3)) / 2 ^ min (ji6).toNat 8) = ji8 := hji8
        have hji8z : (ji6) ≤ 8 → ((rd l0 (ji3)) / 2 ^ (ji6).toNat) = ji8 := shr_small hji8
        obtain rfl := Option.some.inj H
        have p101 : 0 ≤ ((ji3) : Int) := of_decide_eq_true (by first | (with_reducible assumption) | assumption)
        have q101 : (ji3) < (l0.length : Int) := of_decide_eq_true (by first | (with_reducible assumption) | assumption)
        obtain ⟨ad101, e101, hx101_0⟩ := Kd.at_int HR0.out (ji3) p101 q101
        cases e101
        replace p101 := eq_true p101
        replace q101 := eq_true q101
        go_enter Tryd.func6, Tryd.ntmps6
        go_wp2
        go_ret
        exact ⟨by first | rfl | (simp; done) | (simp only [← hji3, ← hji6, ← hji8] <;> (first | rfl | simp)) | (simp [*]; done), by repeat (first | exact Drawn0.refl _ | apply Drawn0.step)⟩
      · rw [if_neg c7] at H
        exact absurd H (by simp)
    · rw [if_neg c5] at H
      exact absurd H (by simp)
  · rw [if_neg c4] at H
    exact absurd H (by simp)

/-! ### impl_copied: function 14 -/
def impl_copied.f (l0 : List Int) : Option (List Int) := (some (([] : List Int) : List Int)).bind fun y102 => (if y102.length + l0.length < 140737488355328 then (some (y102 ++ l0)) else (none))
set_option maxHeartbeats 8000000 in
set_option maxRecDepth 100000 in
theorem impl_copied.calls (A0 : Option Addr) (c0 : Nat) (l0 : List Int) (r : List Int) (w : World) (hr0 : Kd.C (Kd.int .u8) w A0 l0.length l0) (hc0 : l0.length ≤ c0) (h : impl_copied.f l0 = some r) :
    Calls Tryd.prog 14 #[.slice A0 l0.length c0] w fun e w' => ∃ v0_ : Value, e = .returned (v0_) ∧ Kd.R (Kd.int .u8) 5 w' w.heap.size (fun _ => True) v0_ r ∧ Below w.heap.size w w' := by
  have HR0 := Aside0.mk hr0
  have HC0 := Aside0.mk hc0
  clear hr0 hc0
  have HB := Aside0.mk (Below.refl w.heap.size w)
  have H : ((some (([] : List Int) : List Int)).bind fun y102 => (if y102.length + l0.length < 140737488355328 then (some (y102 ++ l0)) else (none))) = some r := h
  clear h
  obtain ⟨y102, hy102⟩ : ∃ y_ : List Int, y_ = (([] : List Int)) := ⟨_, rfl⟩
  replace H : (if y102.length + l0.length < 140737488355328 then (some (y102 ++ l0)) else (none)) = some r := by first | (rw [hy102]; with_reducible exact H) | (have H2_ := (Option.bind_some _ _).symm.trans H; rw [hy102]; with_reducible exact H2_) | (have H2_ := (Option.bind_some _ _).symm.trans H; with_reducible exact H2_) | with_reducible exact H | (rw [hy102]; exact H) | exact H
  have Ny102 := Aside0.mk hy102
  clear hy102
  by_cases c2 : y102.length + l0.length < 140737488355328
  · rw [if_pos c2] at H
    have LMc2 := Aside0.mk c2
    clear c2
    obtain ⟨y105, hy105⟩ : ∃ y_ : List Int, y_ = (y102 ++ l0) := ⟨_, rfl⟩
    replace H : (some y105) = some r := by first | (rw [hy105]; with_reducible exact H) | (have H2_ := (Option.bind_some _ _).symm.trans H; rw [hy105]; with_reducible exact H2_) | (have H2_ := (Option.bind_some _ _).symm.trans H; with_reducible exact H2_) | with_reducible exact H | (rw [hy105]; exact H) | exact H
    have Ny105 := Aside0.mk hy105
    clear hy105
    obtain rfl := Option.some.inj H
    go_enter Tryd.func14, Tryd.ntmps14
    go_wp2_with (first | ((with_reducible refine gate_dst (N := 3) rfl ?_); refine Kd.R_lit (Kd.int .u8) _ 5 ?hg (N := 3) ?hd (xs := ([] : List Int)) (inner := []) (ok := fun _ => True) (okp := fun _ => True) ?hr ?hp (fun _ hk => hk) trivial (Below.refl _ _) (Nat.le_refl _) (by simp) ?_; (case hd => rfl); (case hg => rfl); (case hr => first | (go_simp; done) | (go_simp; rfl)); (case hp => exact (Reps.none _ _)); intro v103 w3 ho4 hb hg_ hnew_; clear hg_ hnew_; (first | rw [← Ny102.out] at ho4 | (simp only [Int.reduceToNat] at ho4; rw [← Ny102.out] at ho4)); have n0_ := Aside0.mk (Kd.R_lower ho4 (below_size (by repeat (first | (with_reducible first | exact HB.out | apply below_alloc | apply pw_below_drewN | apply below_drew1) | exact HB.out)))); have n1_ := Aside0.mk (below_step (by repeat (first | (with_reducible first | exact HB.out | apply below_alloc | apply pw_below_drewN | apply below_drew1) | exact HB.out)) hb); clear HB; have HO104 := n0_; have HB := n1_; clear n0_ n1_; clear hb ho4) | ((with_reducible refine gate_builtin (b := .append) (xs := #[.tmp 3, .tmp 4]) rfl ?_); at_builtin; refine Kd.R_append_rows (Kd.int .u8) (w0 := w) w.heap.size rfl (.tmp 3) (.tmp 4) 22 5 (.int .u8 0) 1 rfl Tryd.underlying22 info5 rfl (by decide) (by omega) v103 y102 l0 _ _ _ (fun _ => True) (fun _ => False) rfl rfl ?aO ?aR (fun _ _ h => h) (fun _ h => h.elim) ?aF ?aB ?aS ?aL ?_; (case aR => repeat (first | exact (Kd.C_below HR0.out HB.out) | (with_reducible refine Kd.C_alloc ?_ _) | (with_reducible refine Kd.C_drewN ?_ _) | (with_reducible refine Kd.C_drew ?_))); (case aB => exact (by repeat (first | (with_reducible first | exact HB.out | apply below_alloc | apply pw_below_drewN | apply below_drew1) | exact HB.out))); (case aF => exact (fun _ _ => trivial)); (case aO => exact (by (with_reducible repeat (first | apply Kd.R_alloc | apply Kd.R_drewN | apply Kd.R_drew)); exact HO104.out)); (case aS => exact (below_size (by repeat (first | (with_reducible first | exact HB.out | apply below_alloc | apply pw_below_drewN | apply below_drew1) | exact HB.out)))); (case aL => have := LMc2.out; omega); intro v106 w5 ho hb hg hat; rw [← Ny105.out] at ho; have n0_ := Aside0.mk (hb); have n1_ := Aside0.mk (ho); clear HB; clear HO104; have HB := n0_; have HO107 := n1_; clear n0_ n1_; clear ho hb hg hat))
    go_ret
    exact ⟨_, by first | rfl | (simp [errW_none, errW_some] <;> rfl) | (simp [*, errW_none, errW_some] <;> rfl), by (with_reducible repeat (first | apply Kd.R_alloc | apply Kd.R_drewN | apply Kd.R_drew)); exact HO107.out, by repeat (first | (with_reducible first | exact HB.out | apply below_alloc | apply pw_below_drewN | apply below_drew1) | exact HB.out)⟩
  · rw [if_neg c2] at H
    exact absurd H (by simp)

/-! ### bitutil_SetBit: function 15 -/
def bitutil_SetBit.f (l0 : List Int) (a1 : Int) : Option (List Int) := if 0 ≤ (IntKind.u64.wrap (Int.tdiv (IntKind.u64.wrap (a1)) 8)) then (if (IntKind.u64.wrap (Int.tdiv (IntKind.u64.wrap (a1)) 8)) < (l0.length : Int) then (if 0 ≤ (((a1) % 256) % 8) then (if (((a1) % 256) % 8) < 8 then (some (l0.set ((IntKind.u64.wrap (Int.tdiv (IntKind.u64.wrap (a1)) 8)) : Int).toNat (Go.bits .or .u8 (rd l0 (IntKind.u64.wrap (Int.tdiv (IntKind.u64.wrap (a1)) 8))) (rd gtab0 (((a1) % 256) % 8))))) else (none)) else (none)) else (none)) else (none)
def bitutil_SetBit.T0 : Bool × List (List Nat × List Nat) := (true, [([], []), ([], []), ([1], [1]), ([2], [2]), ([0, 3], [0, 3]), ([4], [4]), ([], []), ([6], [6]), ([7], [7]), ([8], [8]), ([9], [9]), ([5, 10], [5, 10]), ([0, 3, 0, 1, 2, 3, 4, 5, 6, 7, 8, 9, 10, 11], [0, 3]), ([12, 11, 0, 1, 2, 3, 4, 5, 6, 7, 8, 9, 10, 11], [11, 12])])
def bitutil_SetBit.B0 : List Nat := [0, 0, 2, 6, 15, 31, 0, 64, 192, 448, 960, 2047, 4095, 8191]
theorem bitutil_SetBit.tab0 : rtab .any (opsOf Tryd.f15 0) = bitutil_SetBit.T0 := by kernel_rfl
theorem bitutil_SetBit.bits0 : waitsOk bitutil_SetBit.T0.2 bitutil_SetBit.B0 = true := by kernel_rfl
set_option maxHeartbeats 8000000 in
set_option maxRecDepth 100000 in
theorem bitutil_SetBit.calls (P0_ : Nat → Prop) (u9000_ : Value) (l0 : List Int) (a1 : Int) (r : List Int) (w0 w : World) (hB : Below w0.heap.size w0 w) (ho0 : Kd.R (Kd.int .u8) 5 w w0.heap.size P0_ u9000_ l0) (hg0 : Kd.C (Kd.int .u8) w0 (some ⟨0, 0, none⟩) gtab0.length gtab0) (h : bitutil_SetBit.f l0 a1 = some r) :
    Calls Tryd.prog 15 #[u9000_, .int .i64 a1] w fun e w' => e = .returned (.tuple #[]) ∧ Kd.R (Kd.int .u8) 5 w' w0.heap.size (fun k_ => (P0_ k_ ∨ w.heap.size ≤ k_)) u9000_ r ∧ Below w0.heap.size w0 w' ∧ Kept w w' (fun k_ => P0_ k_) := by
  have HO0 := Aside0.mk (show Kd.R (Kd.int .u8) 5 w w0.heap.size (fun k_ => (P0_ k_ ∨ w.heap.size ≤ k_)) u9000_ l0 from Kd.R_mono ho0 (fun k_ hk => (.inl hk)))
  have HG0 := Aside0.mk hg0
  clear hg0
  have HK := Aside0.mk (Kept.refl w (fun k_ => P0_ k_))
  have HW0 := Aside0.mk hB.size
  have HB := Aside0.mk hB
  clear hB
  have H : (if 0 ≤ (IntKind.u64.wrap (Int.tdiv (IntKind.u64.wrap (a1)) 8)) then (if (IntKind.u64.wrap (Int.tdiv (IntKind.u64.wrap (a1)) 8)) < (l0.length : Int) then (if 0 ≤ (((a1) % 256) % 8) then (if (((a1) % 256) % 8) < 8 then (some (l0.set ((IntKind.u64.wrap (Int.tdiv (IntKind.u64.wrap (a1)) 8)) : Int).toNat (Go.bits .or .u8 (rd l0 (IntKind.u64.wrap (Int.tdiv (IntKind.u64.wrap (a1)) 8))) (rd gtab0 (((a1) % 256) % 8))))) else (none)) else (none)) else (none)) else (none)) = some r := h
  clear h
  obtain ⟨ji3, hji3⟩ : ∃ j_ : Int, (IntKind.u64.wrap (Int.tdiv (IntKind.u64.wrap (a1)) 8)) = j_ := ⟨_, rfl⟩
  replace H : (if 0 ≤ (ji3) then (if (ji3) < (l0.length : Int) then (if 0 ≤ (((a1) % 256) % 8) then (if (((a1) % 256) % 8) < 8 then (some (l0.set ((ji3) : Int).toNat (Go.bits .or .u8 (rd l0 (ji3)) (rd gtab0 (((a1) % 256) % 8))))) else (none)) else (none)) else (none)) else (none)) = some r := by first | (rw [hji3] at H; exact H) | (simp only [hji3] at H ⊢; exact H)
  by_cases c4 : 0 ≤ (ji3)
  · rw [if_pos c4] at H
    have c4b0 : decide (0 ≤ (ji3)) = true := decide_eq_true c4
    clear c4
    by_cases c5 : (ji3) < (l0.length : Int)
    · rw [if_pos c5] at H
      have c5b0 : decide ((ji3) < (l0.length : Int)) = true := decide_eq_true c5
      clear c5
      obtain ⟨ji6, hji6⟩ : ∃ j_ : Int, (((a1) % 256) % 8) = j_ := ⟨_, rfl⟩
      replace H : (if 0 ≤ (ji6) then (if (ji6) < 8 then (some (l0.set ((ji3) : Int).toNat (Go.bits .or .u8 (rd l0 (ji3)) (rd gtab0 (ji6))))) else (none)) else (none)) = some r := by first | (rw [hji6] at H; exact H) | (simp only [hji6] at H ⊢; exact H)
      have hji6k : (IntKind.u8.wrap a1).tmod 8 = ji6 := (Aid.u8_mod _ (by decide)).trans hji6
      by_cases c7 : 0 ≤ (ji6)
      · rw [if_pos c7] at H
        have c7b0 : decide (0 ≤ (ji6)) = true := decide_eq_true c7
        clear c7
        by_cases c8 : (ji6) < 8
        · rw [if_pos c8] at H
          have c8b0 : decide ((ji6) < 8) = true := decide_eq_true c8
          clear c8
          obtain ⟨y110, hy110⟩ : ∃ y_ : List Int, y_ = (l0.set ((ji3) : Int).toNat (Go.bits .or .u8 (rd l0 (ji3)) (rd gtab0 (ji6)))) := ⟨_, rfl⟩
          replace H : (some y110) = some r := by first | (rw [hy110]; with_reducible exact H) | (have H2_ := (Option.bind_some _ _).symm.trans H; rw [hy110]; with_reducible exact H2_) | (have H2_ := (Option.bind_some _ _).symm.trans H; with_reducible exact H2_) | with_reducible exact H | (rw [hy110]; exact H) | exact H
          have Ny110 := Aside0.mk hy110
          clear hy110
          obtain rfl := Option.some.inj H
          go_enter Tryd.func15, Tryd.ntmps15
          try go_wp2
          have n0_ := Aside0.mk (Kd.R_drew HO0.out)
          have n1_ := Aside0.mk (Kept.drew HK.out)
          have n2_ := Aside0.mk (below_drew1 HB.out)
          clear HO0
          clear HK
          clear HB
          have HO0 := n0_
          have HK := n1_
          have HB := n2_
          clear n0_ n1_ n2_
          obtain ⟨Ao11, co11, eo11⟩ := Kd.R_slice HO0.out
          (first | subst eo11 | (injection eo11 with f1_ f2_ f3_; have f4_ := f1_.symm; have f5_ := f3_.symm; clear f1_ f2_ f3_; subst f4_; subst f5_))
          have p108 : 0 ≤ ((ji3) : Int) := of_decide_eq_true (by first | (with_reducible assumption) | assumption)
          have q108 : (ji3) < (l0.length : Int) := of_decide_eq_true (by first | (with_reducible assumption) | assumption)
          obtain ⟨ad108, e108, hx108_0⟩ := Kd.at_int (Kd.R_reads' HO0.out).2.2 (ji3) p108 q108
          cases e108
          replace p108 := eq_true p108
          replace q108 := eq_true q108
          have p109 : 0 ≤ ((ji6) : Int) := of_decide_eq_true (by first | (with_reducible assumption) | assumption)
          have q109 : (ji6) < (gtab0.length : Int) := (by have h_ : ((ji6) : Int) < (8 : Int) := (of_decide_eq_true (by first | (with_reducible assumption) | assumption)); have e_ : gtab0.length = 8 := rfl; omega)
          have qg109 : (((ji6) : Int) < 8) = True := eq_true (by have e_ : gtab0.length = 8 := rfl; omega)
          obtain ⟨ad109, e109, hx109_0⟩ := Kd.at_int HG0.out (ji6) p109 q109
          have hw109_0 := hx109_0
          obtain rfl : (⟨0, 0, none⟩ : Addr) = ad109 := (by injection e109)
          (first | simp only [add_plain] at hx109_0 | simp only [add_at] at hx109_0 | simp only [Addr.add, Nat.zero_add] at hx109_0 | skip)
          replace hx109_0 := (HB.out.cell (World.block_lt_of_cell? _ _ hx109_0)).trans hx109_0
          replace p109 := eq_true p109
          replace q109 := eq_true q109
          have p9 : 0 ≤ ((ji3) : Int) := of_decide_eq_true (by first | (with_reducible assumption) | assumption)
          have q9 : ((ji3) : Int) < ((l0.length : Int) : Int) := of_decide_eq_true (by first | (with_reducible assumption) | assumption)
          obtain ⟨go9, co9, eo9, gb9, gl9, cl9, HG9⟩ := Kd.R_form HO0.out (by omega)
          (first | cases eo9 | (injection eo9 with ea_ en_ ec_; (first | subst ea_ | (injection ea_ with ea_; subst ea_)); subst ec_; clear en_))
          have GB9 := Aside0.mk gb9
          have GG9 := Aside0.mk HG9
          clear gb9 gl9 HG9
          have HMgo9 := Aside0.mk (show (P0_ go9 ∨ w.heap.size ≤ go9) from (HO0.out.1 _ rfl))
          (first | simp only [add_plain] at hx108_0 | skip)
          obtain ⟨hx9_0, hf9_0⟩ := Kd.R_celln 0 HO0.out ((ji3) : Int) p9 q9
          replace p9 := eq_true p9
          replace q9 := eq_true q9
          have HP12 := Kd.R_putn HO0.out ((ji3) : Int) (Go.bits .or .u8 (rd l0 (ji3)) (rd gtab0 (ji6)))
          rw [← Ny110.out] at HP12
          have HQ12 := Aside0.mk HP12
          clear HP12
          refine start_ (n := 14) (S := fun w' => w'.cell? ⟨go9, ((ji3)).toNat, none⟩ = some (.int .u8 (rd l0 (ji3))) ∧ w'.cell? ⟨0, ((ji6)).toNat, none⟩ = some (.int .u8 (rd gtab0 (ji6)))) (ds := [13]) #[false, false, false, false, false, false, false, false, false, false, false, false, false, false] (by kernel_rfl) rfl rfl ⟨hx108_0, (by (first | simp only [add_plain] at hw109_0 | simp only [add_at] at hw109_0 | simp only [Addr.add, Nat.zero_add] at hw109_0 | skip); exact (HB.out.cell (World.block_lt_of_cell? _ _ hw109_0)).trans hw109_0)⟩ (fun hHeld => ?_); refine with_tabW bitutil_SetBit.tab0 bitutil_SetBit.bits0 (fun HT_ HW_ => ?_)
          generalize w.drew = w10 at HO0 HK HB GG9 HQ12 hf9_0 hx108_0 hx109_0 hx9_0 hHeld ⊢
          refine pure_ (i := 0) (N := some 4) (v := ?_) (a' := ?_) #[true, false, false, false, false, false, false, false, false, false, false, false, false, false] rfl rfl (any_of HT_.out (by kernel_rfl)) (fun _ _ _ h => h) (Or.inl ⟨by rfl, ?_⟩) ?_ ?_
          rotate_left
          · intro w'
            go_simp
            with_reducible rfl
          rotate_left
          · simp only [Act.put, List.setIfInBounds_toArray, List.set_cons_zero, List.set_cons_succ, i64_w, i32_w]
            rfl
          refine pure_ (i := 1) (N := some 5) (v := ?_) (a' := ?_) #[true, true, false, false, false, false, false, false, false, false, false, false, false, false] rfl rfl (any_of HT_.out (by kernel_rfl)) (fun _ _ _ h => h) (Or.inl ⟨by rfl, ?_⟩) ?_ ?_
          rotate_left
          · intro w'
            go_simp
            with_reducible rfl
          rotate_left
          · simp only [Act.put, List.setIfInBounds_toArray, List.set_cons_zero, List.set_cons_succ, i64_w, i32_w]
            rfl
          refine pure_ (i := 2) (N := some 6) (v := ?_) (a' := ?_) #[true, true, true, false, false, false, false, false, false, false, false, false, false, false] rfl rfl (any_of HT_.out (by kernel_rfl)) (fun _ _ _ h => h) (Or.inl ⟨by rfl, ?_⟩) ?_ ?_
          rotate_left
          · intro w'
            go_simp
            with_reducible rfl
          rotate_left
          · simp only [Act.put, List.setIfInBounds_toArray, List.set_cons_zero, List.set_cons_succ, i64_w, i32_w]
            rfl
          refine pure_ (i := 3) (N := some 7) (v := ?_) (a' := ?_) #[true, true, true, true, false, false, false, false, false, false, false, false, false, false] rfl rfl (any_of HT_.out (by kernel_rfl)) (fun _ _ _ h => h) (Or.inl ⟨by rfl, ?_⟩) ?_ ?_
          rotate_left
          · intro w'
            go_simp
            with_reducible rfl
          rotate_left
          · simp only [Act.put, List.setIfInBounds_toArray, List.set_cons_zero, List.set_cons_succ, i64_w, i32_w]
            rfl
          refine pure_ (i := 4) (N := some 8) (v := ?_) (a' := ?_) #[true, true, true, true, true, false, false, false, false, false, false, false, false, false] rfl rfl (any_of HT_.out (by kernel_rfl)) (fun _ _ _ h => h) (Or.inl ⟨by rfl, ?_⟩) ?_ ?_
          rotate_left
          · intro w'
            go_simp
            with_reducible rfl
          rotate_left
          · simp only [Act.put, List.setIfInBounds_toArray, List.set_cons_zero, List.set_cons_succ, i64_w, i32_w]
            rfl
          refine pure_ (i := 6) (N := some 10) (v := ?_) (a' := ?_) #[true, true, true, true, true, false, true, false, false, false, false, false, false, false] rfl rfl (any_of HT_.out (by kernel_rfl)) (fun _ _ _ h => h) (Or.inl ⟨by rfl, ?_⟩) ?_ ?_
          rotate_left
          · intro w'
            go_simp
            with_reducible rfl
          rotate_left
          · simp only [Act.put, List.setIfInBounds_toArray, List.set_cons_zero, List.set_cons_succ, i64_w, i32_w]
            rfl
          refine pure_ (i := 7) (N := some 11) (v := ?_) (a' := ?_) #[true, true, true, true, true, false, true, true, false, false, false, false, false, false] rfl rfl (any_of HT_.out (by kernel_rfl)) (fun _ _ _ h => h) (Or.inl ⟨by rfl, ?_⟩) ?_ ?_
          rotate_left
          · intro w'
            go_simp
            with_reducible rfl
          rotate_left
          · simp only [Act.put, List.setIfInBounds_toArray, List.set_cons_zero, List.set_cons_succ, i64_w, i32_w]
            rfl
          refine pure_ (i := 8) (N := some 12) (v := ?_) (a' := ?_) #[true, true, true, true, true, false, true, true, true, false, false, false, false, false] rfl rfl (any_of HT_.out (by kernel_rfl)) (fun _ _ _ h => h) (Or.inl ⟨by rfl, ?_⟩) ?_ ?_
          rotate_left
          · intro w'
            go_simp
            with_reducible rfl
          rotate_left
          · simp only [Act.put, List.setIfInBounds_toArray, List.set_cons_zero, List.set_cons_succ, i64_w, i32_w]
            rfl
          refine pure_ (i := 9) (N := some 13) (v := ?_) (a' := ?_) #[true, true, true, true, true, false, true, true, true, true, false, false, false, false] rfl rfl (any_of HT_.out (by kernel_rfl)) (fun _ _ _ h => h) (Or.inl ⟨by rfl, ?_⟩) ?_ ?_
          rotate_left
          · intro w'
            go_simp
            with_reducible rfl
          rotate_left
          · simp only [Act.put, List.setIfInBounds_toArray, List.set_cons_zero, List.set_cons_succ, i64_w, i32_w]
            rfl
          refine take_ (i := 5) (N := some 9) (v := ?_) (a' := ?_) #[true, true, true, true, true, true, true, true, true, true, false, false, false, false] rfl rfl (take_ofW HT_.out HW_.out (by kernel_rfl)) (fun _ _ _ h => h) (Or.inl ⟨by rfl, ?_⟩) hHeld ?_ ?_
          rotate_left
          · rintro w' ⟨s0, s1⟩
            go_simp
            with_reducible rfl
          rotate_left
          · simp only [Act.put, List.setIfInBounds_toArray, List.set_cons_zero, List.set_cons_succ, i64_w, i32_w]
            rfl
          refine take_ (i := 10) (N := some 14) (v := ?_) (a' := ?_) #[true, true, true, true, true, true, true, true, true, true, true, false, false, false] rfl rfl (take_ofW HT_.out HW_.out (by kernel_rfl)) (fun _ _ _ h => h) (Or.inl ⟨by rfl, ?_⟩) hHeld ?_ ?_
          rotate_left
          · rintro w' ⟨s0, s1⟩
            go_simp
            with_reducible rfl
          rotate_left
          · simp only [Act.put, List.setIfInBounds_toArray, List.set_cons_zero, List.set_cons_succ, i64_w, i32_w]
            rfl
          refine pure_ (i := 11) (N := some 15) (v := ?_) (a' := ?_) #[true, true, true, true, true, true, true, true, true, true, true, true, false, false] rfl rfl (any_of HT_.out (by kernel_rfl)) (fun _ _ _ h => h) (Or.inl ⟨by rfl, ?_⟩) ?_ ?_
          rotate_left
          · intro w'
            go_simp
            with_reducible rfl
          rotate_left
          · simp only [Act.put, List.setIfInBounds_toArray, List.set_cons_zero, List.set_cons_succ, i64_w, i32_w]
            rfl
          refine pure_ (i := 12) (N := some 16) (v := ?_) (a' := ?_) #[true, true, true, true, true, true, true, true, true, true, true, true, true, false] rfl rfl (any_of HT_.out (by kernel_rfl)) (fun _ _ _ h => h) (Or.inl ⟨by rfl, ?_⟩) ?_ ?_
          rotate_left
          · intro w'
            go_simp
            with_reducible rfl
          rotate_left
          · simp only [Act.put, List.setIfInBounds_toArray, List.set_cons_zero, List.set_cons_succ, i64_w, i32_w]
            rfl
          refine last_ (i := 13) (N := none) #[true, true, true, true, true, true, true, true, true, true, true, true, true, true] rfl rfl (one_of HT_.out (by kernel_rfl)) (by decide) (fun K hK => ?_)
          refine skip_ (w1 := ?_) (by rfl) rfl ?_ ?_
          rotate_left
          · go_simp
            rfl
          refine hK.out _ _ ?_
          clear hK K
          refine done_ (done_of HT_.out (by kernel_rfl)) ?_
          try go_wp2
          first | go_end0 | ((try simp only [Exit.inBlock, Exit.then]); refine bodyPost_ret (results_none rfl _ _ _) rfl ?_)
          exact ⟨by first | rfl | (simp [errW_none, errW_some] <;> rfl) | (simp only [← hji3, ← hji6]; first | rfl | (simp [errW_none, errW_some] <;> rfl)) | (simp [*, errW_none, errW_some] <;> rfl), by (with_reducible repeat (first | apply Kd.R_alloc | apply Kd.R_drewN | apply Kd.R_drew)); exact HQ12.out, by repeat (first | (with_reducible first | exact HB.out | apply below_alloc | apply pw_below_drewN | apply below_drew1 | refine below_set ?_ GB9.out) | exact HB.out), by repeat (first | (with_reducible first | exact HK.out | apply Kept.alloc | apply Kept.drewN | apply Kept.drew | refine Kept.setCell ?_ HMgo9.out _) | exact HK.out)⟩
        · rw [if_neg c8] at H
          exact absurd H (by simp)
      · rw [if_neg c7] at H
        exact absurd H (by simp)
    · rw [if_neg c5] at H
      exact absurd H (by simp)
  · rw [if_neg c4] at H
    exact absurd H (by simp)

/-! ### bitutil_ClearBit: function 16 -/
def bitutil_ClearBit.f (l0 : List Int) (a1 : Int) : Option (List Int) := if 0 ≤ (IntKind.u64.wrap (Int.tdiv (IntKind.u64.wrap (a1)) 8)) then (if (IntKind.u64.wrap (Int.tdiv (IntKind.u64.wrap (a1)) 8)) < (l0.length : Int) then (if 0 ≤ (((a1) % 256) % 8) then (if (((a1) % 256) % 8) < 8 then (some (l0.set ((IntKind.u64.wrap (Int.tdiv (IntKind.u64.wrap (a1)) 8)) : Int).toNat (Go.bits .and .u8 (rd l0 (IntKind.u64.wrap (Int.tdiv (IntKind.u64.wrap (a1)) 8))) (rd gtab1 (((a1) % 256) % 8))))) else (none)) else (none)) else (none)) else (none)
def bitutil_ClearBit.T0 : Bool × List (List Nat × List Nat) := (true, [([], []), ([], []), ([1], [1]), ([2], [2]), ([0, 3], [0, 3]), ([4], [4]), ([], []), ([6], [6]), ([7], [7]), ([8], [8]), ([9], [9]), ([5, 10], [5, 10]), ([0, 3, 0, 1, 2, 3, 4, 5, 6, 7, 8, 9, 10, 11], [0, 3]), ([12, 11, 0, 1, 2, 3, 4, 5, 6, 7, 8, 9, 10, 11], [11, 12])])
def bitutil_ClearBit.B0 : List Nat := [0, 0, 2, 6, 15, 31, 0, 64, 192, 448, 960, 2047, 4095, 8191]
theorem bitutil_ClearBit.tab0 : rtab .any (opsOf Tryd.f16 0) = bitutil_ClearBit.T0 := by kernel_rfl
theorem bitutil_ClearBit.bits0 : waitsOk bitutil_ClearBit.T0.2 bitutil_ClearBit.B0 = true := by kernel_rfl
set_option maxHeartbeats 8000000 in
set_option maxRecDepth 100000 in
theorem bitutil_ClearBit.calls (P0_ : Nat → Prop) (u9000_ : Value) (l0 : List Int) (a1 : Int) (r : List Int) (w0 w : World) (hB : Below w0.heap.size w0 w) (ho0 : Kd.R (Kd.int .u8) 5 w w0.heap.size P0_ u9000_ l0) (hg1 : Kd.C (Kd.int .u8) w0 (some ⟨1, 0, none⟩) gtab1.length gtab1) (h : bitutil_ClearBit.f l0 a1 = some r) :
    Calls Tryd.prog 16 #[u9000_, .int .i64 a1] w fun e w' => e = .returned (.tuple #[]) ∧ Kd.R (Kd.int .u8) 5 w' w0.heap.size (fun k_ => (P0_ k_ ∨ w.heap.size ≤ k_)) u9000_ r ∧ Below w0.heap.size w0 w' ∧ Kept w w' (fun k_ => P0_ k_) := by
  have HO0 := Aside0.mk (show Kd.R (Kd.int .u8) 5 w w0.heap.size (fun k_ => (P0_ k_ ∨ w.heap.size ≤ k_)) u9000_ l0 from Kd.R_mono ho0 (fun k_ hk => (.inl hk)))
  have HG1 := Aside0.mk hg1
  clear hg1
  have HK := Aside0.mk (Kept.refl w (fun k_ => P0_ k_))
  have HW0 := Aside0.mk hB.size
  have HB := Aside0.mk hB
  clear hB
  have H : (if 0 ≤ (IntKind.u64.wrap (Int.tdiv (IntKind.u64.wrap (a1)) 8)) then (if (IntKind.u64.wrap (Int.tdiv (IntKind.u64.wrap (a1)) 8)) < (l0.length : Int) then (if 0 ≤ (((a1) % 256) % 8) then (if (((a1) % 256) % 8) < 8 then (some (l0.set ((IntKind.u64.wrap (Int.tdiv (IntKind.u64.wrap (a1)) 8)) : Int).toNat (Go.bits .and .u8 (rd l0 (IntKind.u64.wrap (Int.tdiv (IntKind.u64.wrap (a1)) 8))) (rd gtab1 (((a1) % 256) % 8))))) else (none)) else (none)) else (none)) else (none)) = some r := h
  clear h
  obtain ⟨ji3, hji3⟩ : ∃ j_ : Int, (IntKind.u64.wrap (Int.tdiv (IntKind.u64.wrap (a1)) 8)) = j_ := ⟨_, rfl⟩
  replace H : (if 0 ≤ (ji3) then (if (ji3) < (l0.length : Int) then (if 0 ≤ (((a1) % 256) % 8) then (if (((a1) % 256) % 8) < 8 then (some (l0.set ((ji3) : Int).toNat (Go.bits .and .u8 (rd l0 (ji3)) (rd gtab1 (((a1) % 256) % 8))))) else (none)) else (none)) else (none)) else (none)) = some r := by first | (rw [hji3] at H; exact H) | (simp only [hji3] at H ⊢; exact H)
  by_cases c4 : 0 ≤ (ji3)
  · rw [if_pos c4] at H
    have c4b0 : decide (0 ≤ (ji3)) = true := decide_eq_true c4
    clear c4
    by_cases c5 : (ji3) < (l0.length : Int)
    · rw [if_pos c5] at H
      have c5b0 : decide ((ji3) < (l0.length : Int)) = true := decide_eq_true c5
      clear c5
      obtain ⟨ji6, hji6⟩ : ∃ j_ : Int, (((a1) % 256) % 8) = j_ := ⟨_, rfl⟩
      replace H : (if 0 ≤ (ji6) then (if (ji6) < 8 then (some (l0.set ((ji3) : Int).toNat (Go.bits .and .u8 (rd l0 (ji3)) (rd gtab1 (ji6))))) else (none)) else (none)) = some r := by first | (rw [hji6] at H; exact H) | (simp only [hji6] at H ⊢; exact H)
      have hji6k : (IntKind.u8.wrap a1).tmod 8 = ji6 := (Aid.u8_mod _ (by decide)).trans hji6
      by_cases c7 : 0 ≤ (ji6)
      · rw [if_pos c7] at H
        have c7b0 : decide (0 ≤ (ji6)) = true := decide_eq_true c7
        clear c7
        by_cases c8 : (ji6) < 8
        · rw [if_pos c8] at H
          have c8b0 : decide ((ji6) < 8) = true := decide_eq_true c8
          clear c8
          obtain ⟨y113, hy113⟩ : ∃ y_ : List Int, y_ = (l0.set ((ji3) : Int).toNat (Go.bits .and .u8 (rd l0 (ji3)) (rd gtab1 (ji6)))) := ⟨_, rfl⟩
          replace H : (some y113) = some r := by first | (rw [hy113]; with_reducible exact H) | (have H2_ := (Option.bind_some _ _).symm.trans H; rw [hy113]; with_reducible exact H2_) | (have H2_ := (Option.bind_some _ _).symm.trans H; with_reducible exact H2_) | with_reducible exact H | (rw [hy113]; exact H) | exact H
          have Ny113 := Aside0.mk hy113
          clear hy113
          obtain rfl := Option.some.inj H
          go_enter Tryd.func16, Tryd.ntmps16
          try go_wp2
          have n0_ := Aside0.mk (Kd.R_drew HO0.out)
          have n1_ := Aside0.mk (Kept.drew HK.out)
          have n2_ := Aside0.mk (below_drew1 HB.out)
          clear HO0
          clear HK
          clear HB
          have HO0 := n0_
          have HK := n1_
          have HB := n2_
          clear n0_ n1_ n2_
          obtain ⟨Ao11, co11, eo11⟩ := Kd.R_slice HO0.out
          (first | subst eo11 | (injection eo11 with f1_ f2_ f3_; have f4_ := f1_.symm; have f5_ := f3_.symm; clear f1_ f2_ f3_; subst f4_; subst f5_))
          have p111 : 0 ≤ ((ji3) : Int) := of_decide_eq_true (by first | (with_reducible assumption) | assumption)
          have q111 : (ji3) < (l0.length : Int) := of_decide_eq_true (by first | (with_reducible assumption) | assumption)
          obtain ⟨ad111, e111, hx111_0⟩ := Kd.at_int (Kd.R_reads' HO0.out).2.2 (ji3) p111 q111
          cases e111
          replace p111 := eq_true p111
          replace q111 := eq_true q111
          have p112 : 0 ≤ ((ji6) : Int) := of_decide_eq_true (by first | (with_reducible assumption) | assumption)
          have q112 : (ji6) < (gtab1.length : Int) := (by have h_ : ((ji6) : Int) < (8 : Int) := (of_decide_eq_true (by first | (with_reducible assumption) | assumption)); have e_ : gtab1.length = 8 := rfl; omega)
          have qg112 : (((ji6) : Int) < 8) = True := eq_true (by have e_ : gtab1.length = 8 := rfl; omega)
          obtain ⟨ad112, e112, hx112_0⟩ := Kd.at_int HG1.out (ji6) p112 q112
          have hw112_0 := hx112_0
          obtain rfl : (⟨1, 0, none⟩ : Addr) = ad112 := (by injection e112)
          (first | simp only [add_plain] at hx112_0 | simp only [add_at] at hx112_0 | simp only [Addr.add, Nat.zero_add] at hx112_0 | skip)
          replace hx112_0 := (HB.out.cell (World.block_lt_of_cell? _ _ hx112_0)).trans hx112_0
          replace p112 := eq_true p112
          replace q112 := eq_true q112
          have p9 : 0 ≤ ((ji3) : Int) := of_decide_eq_true (by first | (with_reducible assumption) | assumption)
          have q9 : ((ji3) : Int) < ((l0.length : Int) : Int) := of_decide_eq_true (by first | (with_reducible assumption) | assumption)
          obtain ⟨go9, co9, eo9, gb9, gl9, cl9, HG9⟩ := Kd.R_form HO0.out (by omega)
          (first | cases eo9 | (injection eo9 with ea_ en_ ec_; (first | subst ea_ | (injection ea_ with ea_; subst ea_)); subst ec_; clear en_))
          have GB9 := Aside0.mk gb9
          have GG9 := Aside0.mk HG9
          clear gb9 gl9 HG9
          have HMgo9 := Aside0.mk (show (P0_ go9 ∨ w.heap.size ≤ go9) from (HO0.out.1 _ rfl))
          (first | simp only [add_plain] at hx111_0 | skip)
          obtain ⟨hx9_0, hf9_0⟩ := Kd.R_celln 0 HO0.out ((ji3) : Int) p9 q9
          replace p9 := eq_true p9
          replace q9 := eq_true q9
          have HP12 := Kd.R_putn HO0.out ((ji3) : Int) (Go.bits .and .u8 (rd l0 (ji3)) (rd gtab1 (ji6)))
          rw [← Ny113.out] at HP12
          have HQ12 := Aside0.mk HP12
          clear HP12
          refine start_ (n := 14) (S := fun w' => w'.cell? ⟨go9, ((ji3)).toNat, none⟩ = some (.int .u8 (rd l0 (ji3))) ∧ w'.cell? ⟨1, ((ji6)).toNat, none⟩ = some (.int .u8 (rd gtab1 (ji6)))) (ds := [13]) #[false, false, false, false, false, false, false, false, false, false, false, false, false, false] (by kernel_rfl) rfl rfl ⟨hx111_0, (by (first | simp only [add_plain] at hw112_0 | simp only [add_at] at hw112_0 | simp only [Addr.add, Nat.zero_add] at hw112_0 | skip); exact (HB.out.cell (World.block_lt_of_cell? _ _ hw112_0)).trans hw112_0)⟩ (fun hHeld => ?_); refine with_tabW bitutil_ClearBit.tab0 bitutil_ClearBit.bits0 (fun HT_ HW_ => ?_)
          generalize w.drew = w10 at HO0 HK HB GG9 HQ12 hf9_0 hx111_0 hx112_0 hx9_0 hHeld ⊢
          refine pure_ (i := 0) (N := some 4) (v := ?_) (a' := ?_) #[true, false, false, false, false, false, false, false, false, false, false, false, false, false] rfl rfl (any_of HT_.out (by kernel_rfl)) (fun _ _ _ h => h) (Or.inl ⟨by rfl, ?_⟩) ?_ ?_
          rotate_left
          · intro w'
            go_simp
            with_reducible rfl
          rotate_left
          · simp only [Act.put, List.setIfInBounds_toArray, List.set_cons_zero, List.set_cons_succ, i64_w, i32_w]
            rfl
          refine pure_ (i := 1) (N := some 5) (v := ?_) (a' := ?_) #[true, true, false, false, false, false, false, false, false, false, false, false, false, false] rfl rfl (any_of HT_.out (by kernel_rfl)) (fun _ _ _ h => h) (Or.inl ⟨by rfl, ?_⟩) ?_ ?_
          rotate_left
          · intro w'
            go_simp
            with_reducible rfl
          rotate_left
          · simp only [Act.put, List.setIfInBounds_toArray, List.set_cons_zero, List.set_cons_succ, i64_w, i32_w]
            rfl
          refine pure_ (i := 2) (N := some 6) (v := ?_) (a' := ?_) #[true, true, true, false, false, false, false, false, false, false, false, false, false, false] rfl rfl (any_of HT_.out (by kernel_rfl)) (fun _ _ _ h => h) (Or.inl ⟨by rfl, ?_⟩) ?_ ?_
          rotate_left
          · intro w'
            go_simp
            with_reducible rfl
          rotate_left
          · simp only [Act.put, List.setIfInBounds_toArray, List.set_cons_zero, List.set_cons_succ, i64_w, i32_w]
            rfl
          refine pure_ (i := 3) (N := some 7) (v := ?_) (a' := ?_) #[true, true, true, true, false, false, false, false, false, false, false, false, false, false] rfl rfl (any_of HT_.out (by kernel_rfl)) (fun _ _ _ h => h) (Or.inl ⟨by rfl, ?_⟩) ?_ ?_
          rotate_left
          · intro w'
            go_simp
            with_reducible rfl
          rotate_left
          · simp only [Act.put, List.setIfInBounds_toArray, List.set_cons_zero, List.set_cons_succ, i64_w, i32_w]
            rfl
          refine pure_ (i := 4) (N := some 8) (v := ?_) (a' := ?_) #[true, true, true, true, true, false, false, false, false, false, false, false, false, false] rfl rfl (any_of HT_.out (by kernel_rfl)) (fun _ _ _ h => h) (Or.inl ⟨by rfl, ?_⟩) ?_ ?_
          rotate_left
          · intro w'
            go_simp
            with_reducible rfl
          rotate_left
          · simp only [Act.put, List.setIfInBounds_toArray, List.set_cons_zero, List.set_cons_succ, i64_w, i32_w]
            rfl
          refine pure_ (i := 6) (N := some 10) (v := ?_) (a' := ?_) #[true, true, true, true, true, false, true, false, false, false, false, false, false, false] rfl rfl (any_of HT_.out (by kernel_rfl)) (fun _ _ _ h => h) (Or.inl ⟨by rfl, ?_⟩) ?_ ?_
          rotate_left
          · intro w'
            go_simp
            with_reducible rfl
          rotate_left
          · simp only [Act.put, List.setIfInBounds_toArray, List.set_cons_zero, List.set_cons_succ, i64_w, i32_w]
            rfl
          refine pure_ (i := 7) (N := some 11) (v := ?_) (a' := ?_) #[true, true, true, true, true, false, true, true, false, false, false, false, false, false] rfl rfl (any_of HT_.out (by kernel_rfl)) (fun _ _ _ h => h) (Or.inl ⟨by rfl, ?_⟩) ?_ ?_
          rotate_left
          · intro w'
            go_simp
            with_reducible rfl
          rotate_left
          · simp only [Act.put, List.setIfInBounds_toArray, List.set_cons_zero, List.set_cons_succ, i64_w, i32_w]
            rfl
          refine pure_ (i := 8) (N := some 12) (v := ?_) (a' := ?_) #[true, true, true, true, true, false, true, true, true, false, false, false, false, false] rfl rfl (any_of HT_.out (by kernel_rfl)) (fun _ _ _ h => h) (Or.inl ⟨by rfl, ?_⟩) ?_ ?_
          rotate_left
          · intro w'
            go_simp
            with_reducible rfl
          rotate_left
          · simp only [Act.put, List.setIfInBounds_toArray, List.set_cons_zero, List.set_cons_succ, i64_w, i32_w]
            rfl
          refine pure_ (i := 9) (N := some 13) (v := ?_) (a' := ?_) #[true, true, true, true, true, false, true, true, true, true, false, false, false, false] rfl rfl (any_of HT_.out (by kernel_rfl)) (fun _ _ _ h => h) (Or.inl ⟨by rfl, ?_⟩) ?_ ?_
          rotate_left
          · intro w'
            go_simp
            with_reducible rfl
          rotate_left
          · simp only [Act.put, List.setIfInBounds_toArray, List.set_cons_zero, List.set_cons_succ, i64_w, i32_w]
            rfl
          refine take_ (i := 5) (N := some 9) (v := ?_) (a' := ?_) #[true, true, true, true, true, true, true, true, true, true, false, false, false, false] rfl rfl (take_ofW HT_.out HW_.out (by kernel_rfl)) (fun _ _ _ h => h) (Or.inl ⟨by rfl, ?_⟩) hHeld ?_ ?_
          rotate_left
          · rintro w' ⟨s0, s1⟩
            go_simp
            with_reducible rfl
          rotate_left
          · simp only [Act.put, List.setIfInBounds_toArray, List.set_cons_zero, List.set_cons_succ, i64_w, i32_w]
            rfl
          refine take_ (i := 10) (N := some 14) (v := ?_) (a' := ?_) #[true, true, true, true, true, true, true, true, true, true, true, false, false, false] rfl rfl (take_ofW HT_.out HW_.out (by kernel_rfl)) (fun _ _ _ h => h) (Or.inl ⟨by rfl, ?_⟩) hHeld ?_ ?_
          rotate_left
          · rintro w' ⟨s0, s1⟩
            go_simp
            with_reducible rfl
          rotate_left
          · simp only [Act.put, List.setIfInBounds_toArray, List.set_cons_zero, List.set_cons_succ, i64_w, i32_w]
            rfl
          refine pure_ (i := 11) (N := some 15) (v := ?_) (a' := ?_) #[true, true, true, true, true, true, true, true, true, true, true, true, false, false] rfl rfl (any_of HT_.out (by kernel_rfl)) (fun _ _ _ h => h) (Or.inl ⟨by rfl, ?_⟩) ?_ ?_
          rotate_left
          · intro w'
            go_simp
            with_reducible rfl
          rotate_left
          · simp only [Act.put, List.setIfInBounds_toArray, List.set_cons_zero, List.set_cons_succ, i64_w, i32_w]
            rfl
          refine pure_ (i := 12) (N := some 16) (v := ?_) (a' := ?_) #[true, true, true, true, true, true, true, true, true, true, true, true, true, false] rfl rfl (any_of HT_.out (by kernel_rfl)) (fun _ _ _ h => h) (Or.inl ⟨by rfl, ?_⟩) ?_ ?_
          rotate_left
          · intro w'
            go_simp
            with_reducible rfl
          rotate_left
          · simp only [Act.put, List.setIfInBounds_toArray, List.set_cons_zero, List.set_cons_succ, i64_w, i32_w]
            rfl
          refine last_ (i := 13) (N := none) #[true, true, true, true, true, true, true, true, true, true, true, true, true, true] rfl rfl (one_of HT_.out (by kernel_rfl)) (by decide) (fun K hK => ?_)
          refine skip_ (w1 := ?_) (by rfl) rfl ?_ ?_
          rotate_left
          · go_simp
            rfl
          refine hK.out _ _ ?_
          clear hK K
          refine done_ (done_of HT_.out (by kernel_rfl)) ?_
          try go_wp2
          first | go_end0 | ((try simp only [Exit.inBlock, Exit.then]); refine bodyPost_ret (results_none rfl _ _ _) rfl ?_)
          exact ⟨by first | rfl | (simp [errW_none, errW_some] <;> rfl) | (simp only [← hji3, ← hji6]; first | rfl | (simp [errW_none, errW_some] <;> rfl)) | (simp [*, errW_none, errW_some] <;> rfl), by (with_reducible repeat (first | apply Kd.R_alloc | apply Kd.R_drewN | apply Kd.R_drew)); exact HQ12.out, by repeat (first | (with_reducible first | exact HB.out | apply below_alloc | apply pw_below_drewN | apply below_drew1 | refine below_set ?_ GB9.out) | exact HB.out), by repeat (first | (with_reducible first | exact HK.out | apply Kept.alloc | apply Kept.drewN | apply Kept.drew | refine Kept.setCell ?_ HMgo9.out _) | exact HK.out)⟩
        · rw [if_neg c8] at H
          exact absurd H (by simp)
      · rw [if_neg c7] at H
        exact absurd H (by simp)
    · rw [if_neg c5] at H
      exact absurd H (by simp)
  · rw [if_neg c4] at H
    exact absurd H (by simp)

/-! ### bitutil_SetBitTo: function 17 -/
def bitutil_SetBitTo.f (l0 : List Int) (a1 : Int) (a2 : Bool) : Option (List Int) := if a2 = true then ((bitutil_SetBit.f l0 a1).bind fun t114 => (some t114)) else ((bitutil_ClearBit.f l0 a1).bind fun t115 => (some t115))
set_option maxHeartbeats 8000000 in
set_option maxRecDepth 100000 in
theorem bitutil_SetBitTo.calls (P0_ : Nat → Prop) (u9000_ : Value) (l0 : List Int) (a1 : Int) (a2 : Bool) (r : List Int) (w0 w : World) (hB : Below w0.heap.size w0 w) (ho0 : Kd.R (Kd.int .u8) 5 w w0.heap.size P0_ u9000_ l0) (hg0 : Kd.C (Kd.int .u8) w0 (some ⟨0, 0, none⟩) gtab0.length gtab0) (hg1 : Kd.C (Kd.int .u8) w0 (some ⟨1, 0, none⟩) gtab1.length gtab1) (h : bitutil_SetBitTo.f l0 a1 a2 = some r) :
    Calls Tryd.prog 17 #[u9000_, .int .i64 a1, .bool a2] w fun e w' => e = .returned (.tuple #[]) ∧ Kd.R (Kd.int .u8) 5 w' w0.heap.size (fun k_ => (P0_ k_ ∨ w.heap.size ≤ k_)) u9000_ r ∧ Below w0.heap.size w0 w' ∧ Kept w w' (fun k_ => P0_ k_) := by
  have HO0 := Aside0.mk (show Kd.R (Kd.int .u8) 5 w w0.heap.size (fun k_ => (P0_ k_ ∨ w.heap.size ≤ k_)) u9000_ l0 from Kd.R_mono ho0 (fun k_ hk => (.inl hk)))
  have HG0 := Aside0.mk hg0
  clear hg0
  have HG1 := Aside0.mk hg1
  clear hg1
  have HK := Aside0.mk (Kept.refl w (fun k_ => P0_ k_))
  have HW0 := Aside0.mk hB.size
  have HB := Aside0.mk hB
  clear hB
  have H : (if a2 = true then ((bitutil_SetBit.f l0 a1).bind fun t114 => (some t114)) else ((bitutil_ClearBit.f l0 a1).bind fun t115 => (some t115))) = some r := h
  clear h
  by_cases c4 : a2 = true
  · subst c4
    have H1 : ((bitutil_SetBit.f l0 a1).bind fun t114 => (some t114)) = some r := by rw [if_pos rfl] at H; exact H
    clear H
    have H := H1
    clear H1
    replace H := Option.bind_eq_some_iff.mp H
    obtain ⟨t114, A50, H⟩ := H
    replace H : (some t114) = some r := H
    have A5 := Aside0.mk A50
    clear A50
    obtain rfl := Option.some.inj H
    obtain ⟨Ao6, co6, eo6⟩ := Kd.R_slice HO0.out
    subst eo6
    go_enter Tryd.func17, Tryd.ntmps17
    go_wp2_with (first | ((with_reducible refine gate_callee (f := 15) rfl ?_); refine goesL_ (some 9) rfl rfl Tryd.func15 (by kernel_rfl) rfl #[.slice Ao6 l0.length co6, .int .i64 a1] rfl (by (try simp only [List.map_toArray, List.map_cons, List.map_nil]); first | done | rfl | (simp only [List.length_drop, List.length_take]; rfl)) ?_; (with_reducible refine (bitutil_SetBit.calls (fun k_ => some k_ = (.slice Ao6 l0.length co6 : Value).ownBlock) (.slice Ao6 l0.length co6) l0 a1 t114 w0 _ ?side1 ?side2 ?side3 A5.out).mono ?_); (case side1 => repeat (first | (with_reducible first | exact HB.out | apply below_alloc | apply pw_below_drewN | apply below_drew1) | exact HB.out)); (case side2 => exact Kd.R_tight rfl HO0.out); (case side3 => first | exact HG0.out | exact Kd.C_below HG0.out (by repeat (first | (with_reducible first | exact HB.out | apply below_alloc | apply pw_below_drewN | apply below_drew1) | exact HB.out))); rintro e w7 ⟨rfl, hy0, hb, hkp⟩; refine ⟨_, rfl, ?_⟩; have n0_ := Aside0.mk (Kd.R_reok rfl hy0 (fun k_ e_ => HO0.out.1 k_ e_)); have n1_ := Aside0.mk (Kept.then_ (S := (fun k_ => P0_ k_)) (by repeat (first | (with_reducible first | exact HK.out | apply Kept.alloc | apply Kept.drewN | apply Kept.drew) | exact HK.out)) hkp (fun k_ hs_ => (fun e_ => (HO0.out.1 k_ e_.symm)) hs_)); have n2_ := Aside0.mk (hb); clear HO0; clear HK; clear HB; have HO0 := n0_; have HK := n1_; have HB := n2_; clear n0_ n1_ n2_; (try clear hb); (try clear hkp); (try clear hy0)))
    first | go_end0 | ((try simp only [Exit.inBlock, Exit.then]); refine bodyPost_ret (results_none rfl _ _ _) rfl ?_)
    exact ⟨by first | rfl | (simp [errW_none, errW_some] <;> rfl) | (simp [*, errW_none, errW_some] <;> rfl), by (with_reducible repeat (first | apply Kd.R_alloc | apply Kd.R_drewN | apply Kd.R_drew)); exact HO0.out, by repeat (first | (with_reducible first | exact HB.out | apply below_alloc | apply pw_below_drewN | apply below_drew1) | exact HB.out), by repeat (first | (with_reducible first | exact HK.out | apply Kept.alloc | apply Kept.drewN | apply Kept.drew) | exact HK.out)⟩
  · replace c4 := Bool.eq_false_iff.mpr c4
    subst c4
    have H1 : ((bitutil_ClearBit.f l0 a1).bind fun t115 => (some t115)) = some r := by rw [if_neg (show ¬ (false = true) by decide)] at H; exact H
    clear H
    have H := H1
    clear H1
    replace H := Option.bind_eq_some_iff.mp H
    obtain ⟨t115, A80, H⟩ := H
    replace H : (some t115) = some r := H
    have A8 := Aside0.mk A80
    clear A80
    obtain rfl := Option.some.inj H
    obtain ⟨Ao9, co9, eo9⟩ := Kd.R_slice HO0.out
    subst eo9
    go_enter Tryd.func17, Tryd.ntmps17
    go_wp2_with (first | ((with_reducible refine gate_callee (f := 16) rfl ?_); refine goesL_ (some 12) rfl rfl Tryd.func16 (by kernel_rfl) rfl #[.slice Ao9 l0.length co9, .int .i64 a1] rfl (by (try simp only [List.map_toArray, List.map_cons, List.map_nil]); first | done | rfl | (simp only [List.length_drop, List.length_take]; rfl)) ?_; (with_reducible refine (bitutil_ClearBit.calls (fun k_ => some k_ = (.slice Ao9 l0.length co9 : Value).ownBlock) (.slice Ao9 l0.length co9) l0 a1 t115 w0 _ ?side1 ?side2 ?side3 A8.out).mono ?_); (case side1 => repeat (first | (with_reducible first | exact HB.out | apply below_alloc | apply pw_below_drewN | apply below_drew1) | exact HB.out)); (case side2 => exact Kd.R_tight rfl HO0.out); (case side3 => first | exact HG1.out | exact Kd.C_below HG1.out (by repeat (first | (with_reducible first | exact HB.out | apply below_alloc | apply pw_below_drewN | apply below_drew1) | exact HB.out))); rintro e w10 ⟨rfl, hy0, hb, hkp⟩; refine ⟨_, rfl, ?_⟩; have n0_ := Aside0.mk (Kd.R_reok rfl hy0 (fun k_ e_ => HO0.out.1 k_ e_)); have n1_ := Aside0.mk (Kept.then_ (S := (fun k_ => P0_ k_)) (by repeat (first | (with_reducible first | exact HK.out | apply Kept.alloc | apply Kept.drewN | apply Kept.drew) | exact HK.out)) hkp (fun k_ hs_ => (fun e_ => (HO0.out.1 k_ e_.symm)) hs_)); have n2_ := Aside0.mk (hb); clear HO0; clear HK; clear HB; have HO0 := n0_; have HK := n1_; have HB := n2_; clear n0_ n1_ n2_; (try clear hb); (try clear hkp); (try clear hy0)))
    first | go_end0 | ((try simp only [Exit.inBlock, Exit.then]); refine bodyPost_ret (results_none rfl _ _ _) rfl ?_)
    exact ⟨by first | rfl | (simp [errW_none, errW_some] <;> rfl) | (simp [*, errW_none, errW_some] <;> rfl), by (with_reducible repeat (first | apply Kd.R_alloc | apply Kd.R_drewN | apply Kd.R_drew)); exact HO0.out, by repeat (first | (with_reducible first | exact HB.out | apply below_alloc | apply pw_below_drewN | apply below_drew1) | exact HB.out), by repeat (first | (with_reducible first | exact HK.out | apply Kept.alloc | apply Kept.drewN | apply Kept.drew) | exact HK.out)⟩

/-! ### bitutil_SetBitSwap: function 18 -/
def bitutil_SetBitSwap.f (l0 : List Int) (a1 : Int) : Option (Bool × List Int) := if 0 ≤ (IntKind.u64.wrap (Int.tdiv (IntKind.u64.wrap (a1)) 8)) then (if (IntKind.u64.wrap (Int.tdiv (IntKind.u64.wrap (a1)) 8)) < (l0.length : Int) then (if 0 ≤ (((a1) % 256) % 8) then (if (((a1) % 256) % 8) < 8 then (some (((Go.bits .and .u8 (rd l0 (IntKind.u64.wrap (Int.tdiv (IntKind.u64.wrap (a1)) 8))) (rd gtab0 (((a1) % 256) % 8))) != 0), (l0.set ((IntKind.u64.wrap (Int.tdiv (IntKind.u64.wrap (a1)) 8)) : Int).toNat (Go.bits .or .u8 (rd l0 (IntKind.u64.wrap (Int.tdiv (IntKind.u64.wrap (a1)) 8))) (rd gtab0 (((a1) % 256) % 8)))))) else (none)) else (none)) else (none)) else (none)
set_option maxHeartbeats 8000000 in
set_option maxRecDepth 100000 in
theorem bitutil_SetBitSwap.calls (P0_ : Nat → Prop) (u9000_ : Value) (l0 : List Int) (a1 : Int) (r1 : Bool) (r2 : List Int) (w0 w : World) (hB : Below w0.heap.size w0 w) (ho0 : Kd.R (Kd.int .u8) 5 w w0.heap.size P0_ u9000_ l0) (hg0 : Kd.C (Kd.int .u8) w0 (some ⟨0, 0, none⟩) gtab0.length gtab0) (h : bitutil_SetBitSwap.f l0 a1 = some (r1, r2)) :
    Calls Tryd.prog 18 #[u9000_, .int .i64 a1] w fun e w' => e = .returned (.bool r1) ∧ Kd.R (Kd.int .u8) 5 w' w0.heap.size (fun k_ => (P0_ k_ ∨ w.heap.size ≤ k_)) u9000_ r2 ∧ Below w0.heap.size w0 w' ∧ Kept w w' (fun k_ => P0_ k_) := by
  have HO0 := Aside0.mk (show Kd.R (Kd.int .u8) 5 w w0.heap.size (fun k_ => (P0_ k_ ∨ w.heap.size ≤ k_)) u9000_ l0 from Kd.R_mono ho0 (fun k_ hk => (.inl hk)))
  have HG0 := Aside0.mk hg0
  clear hg0
  have HK := Aside0.mk (Kept.refl w (fun k_ => P0_ k_))
  have HW0 := Aside0.mk hB.size
  have HB := Aside0.mk hB
  clear hB
  have H : (if 0 ≤ (IntKind.u64.wrap (Int.tdiv (IntKind.u64.wrap (a1)) 8)) then (if (IntKind.u64.wrap (Int.tdiv (IntKind.u64.wrap (a1)) 8)) < (l0.length : Int) then (if 0 ≤ (((a1) % 256) % 8) then (if (((a1) % 256) % 8) < 8 then (some (((Go.bits .and .u8 (rd l0 (IntKind.u64.wrap (Int.tdiv (IntKind.u64.wrap (a1)) 8))) (rd gtab0 (((a1) % 256) % 8))) != 0), (l0.set ((IntKind.u64.wrap (Int.tdiv (IntKind.u64.wrap (a1)) 8)) : Int).toNat (Go.bits .or .u8 (rd l0 (IntKind.u64.wrap (Int.tdiv (IntKind.u64.wrap (a1)) 8))) (rd gtab0 (((a1) % 256) % 8)))))) else (none)) else (none)) else (none)) else (none)) = some (r1, r2) := h
  clear h
  obtain ⟨ji3, hji3⟩ : ∃ j_ : Int, (IntKind.u64.wrap (Int.tdiv (IntKind.u64.wrap (a1)) 8)) = j_ := ⟨_, rfl⟩
  replace H : (if 0 ≤ (ji3) then (if (ji3) < (l0.length : Int) then (if 0 ≤ (((a1) % 256) % 8) then (if (((a1) % 256) % 8) < 8 then (some (((Go.bits .and .u8 (rd l0 (ji3)) (rd gtab0 (((a1) % 256) % 8))) != 0), (l0.set ((ji3) : Int).toNat (Go.bits .or .u8 (rd l0 (ji3)) (rd gtab0 (((a1) % 256) % 8)))))) else (none)) else (none)) else (none)) else (none)) = some (r1, r2) := by first | (rw [hji3] at H; exact H) | (simp only [hji3] at H ⊢; exact H)
  by_cases c4 : 0 ≤ (ji3)
  · rw [if_pos c4] at H
    have c4b0 : decide (0 ≤ (ji3)) = true := decide_eq_true c4
    clear c4
    by_cases c5 : (ji3) < (l0.length : Int)
    · rw [if_pos c5] at H
      have c5b0 : decide ((ji3) < (l0.length : Int)) = true := decide_eq_true c5
      clear c5
      obtain ⟨ji6, hji6⟩ : ∃ j_ : Int, (((a1) % 256) % 8) = j_ := ⟨_, rfl⟩
      replace H : (if 0 ≤ (ji6) then (if (ji6) < 8 then (some (((Go.bits .and .u8 (rd l0 (ji3)) (rd gtab0 (ji6))) != 0), (l0.set ((ji3) : Int).toNat (Go.bits .or .u8 (rd l0 (ji3)) (rd gtab0 (ji6)))))) else (none)) else (none)) = some (r1, r2) := by first | (rw [hji6] at H; exact H) | (simp only [hji6] at H ⊢; exact H)
      have hji6k : (IntKind.u8.wrap a1).tmod 8 = ji6 := (Aid.u8_mod _ (by decide)).trans hji6
      by_cases c7 : 0 ≤ (ji6)
      · rw [if_pos c7] at H
        have c7b0 : decide (0 ≤ (ji6)) = true := decide_eq_true c7
        clear c7
        by_cases c8 : (ji6) < 8
        · rw [if_pos c8] at H
          have c8b0 : decide ((ji6) < 8) = true := decide_eq_true c8
          clear c8
          obtain ⟨y119, hy119⟩ : ∃ y_ : List Int, y_ = (l0.set ((ji3) : Int).toNat (Go.bits .or .u8 (rd l0 (ji3)) (rd gtab0 (ji6)))) := ⟨_, rfl⟩
          replace H : (some (((Go.bits .and .u8 (rd l0 (ji3)) (rd gtab0 (ji6))) != 0), y119)) = some (r1, r2) := by first | (rw [hy119]; with_reducible exact H) | (have H2_ := (Option.bind_some _ _).symm.trans H; rw [hy119]; with_reducible exact H2_) | (have H2_ := (Option.bind_some _ _).symm.trans H; with_reducible exact H2_) | with_reducible exact H | (rw [hy119]; exact H) | exact H
          have Ny119 := Aside0.mk hy119
          clear hy119
          simp only [Option.some.injEq, Prod.mk.injEq] at H
          obtain ⟨rfl, rfl⟩ := H
          obtain ⟨Ao10, co10, eo10⟩ := Kd.R_slice HO0.out
          subst eo10
          have p116 : 0 ≤ ((ji3) : Int) := of_decide_eq_true (by first | (with_reducible assumption) | assumption)
          have q116 : (ji3) < (l0.length : Int) := of_decide_eq_true (by first | (with_reducible assumption) | assumption)
          obtain ⟨ad116, e116, hx116_0⟩ := Kd.at_int (Kd.R_reads' HO0.out).2.2 (ji3) p116 q116
          cases e116
          replace p116 := eq_true p116
          replace q116 := eq_true q116
          have p117 : 0 ≤ ((ji6) : Int) := of_decide_eq_true (by first | (with_reducible assumption) | assumption)
          have q117 : (ji6) < (gtab0.length : Int) := (by have h_ : ((ji6) : Int) < (8 : Int) := (of_decide_eq_true (by first | (with_reducible assumption) | assumption)); have e_ : gtab0.length = 8 := rfl; omega)
          have qg117 : (((ji6) : Int) < 8) = True := eq_true (by have e_ : gtab0.length = 8 := rfl; omega)
          obtain ⟨ad117, e117, hx117_0⟩ := Kd.at_int HG0.out (ji6) p117 q117
          obtain rfl : (⟨0, 0, none⟩ : Addr) = ad117 := (by injection e117)
          (first | simp only [add_plain] at hx117_0 | simp only [add_at] at hx117_0 | simp only [Addr.add, Nat.zero_add] at hx117_0 | skip)
          replace hx117_0 := (HB.out.cell (World.block_lt_of_cell? _ _ hx117_0)).trans hx117_0
          replace p117 := eq_true p117
          replace q117 := eq_true q117
          have p118 : 0 ≤ ((ji3) : Int) := of_decide_eq_true (by first | (with_reducible assumption) | assumption)
          have q118 : (ji3) < (l0.length : Int) := of_decide_eq_true (by first | (with_reducible assumption) | assumption)
          obtain ⟨ad118, e118, hx118_0⟩ := Kd.at_int (Kd.R_reads' HO0.out).2.2 (ji3) p118 q118
          obtain rfl : ad116 = ad118 := (by injection e118)
          replace p118 := eq_true p118
          replace q118 := eq_true q118
          have p9 : 0 ≤ ((ji3) : Int) := of_decide_eq_true (by first | (with_reducible assumption) | assumption)
          have q9 : ((ji3) : Int) < ((l0.length : Int) : Int) := of_decide_eq_true (by first | (with_reducible assumption) | assumption)
          obtain ⟨go9, co9, eo9, gb9, gl9, cl9, HG9⟩ := Kd.R_form HO0.out (by omega)
          (first | cases eo9 | (injection eo9 with ea_ en_ ec_; (first | subst ea_ | (injection ea_ with ea_; subst ea_)); subst ec_; clear en_))
          have GB9 := Aside0.mk gb9
          have GG9 := Aside0.mk HG9
          clear gb9 gl9 HG9
          have HMgo9 := Aside0.mk (show (P0_ go9 ∨ w.heap.size ≤ go9) from (HO0.out.1 _ rfl))
          (first | simp only [add_plain] at hx116_0 | skip)
          (first | simp only [add_plain] at hx118_0 | skip)
          obtain ⟨hx9_0, hf9_0⟩ := Kd.R_celln 0 HO0.out ((ji3) : Int) p9 q9
          replace p9 := eq_true p9
          replace q9 := eq_true q9
          have HP11 := Kd.R_putg HO0.out ((ji3) : Int) (Go.bits .or .u8 (rd l0 (ji3)) (rd gtab0 (ji6)))
          go_enter Tryd.func18, Tryd.ntmps18
          go_wp2_with (first | ((with_reducible refine gate_store (t := 5) (p := 25) rfl ?_); refine store_event (t := 5) (p := 25) (v := ?vo_w12) (w1 := (w.setCell ⟨go9, ((ji3) : Int).toNat, none⟩ (.int .u8 (Go.bits .or .u8 (rd l0 (ji3)) (rd gtab0 (ji6)))))) ?hg ?ho ?hn ?hr ?_; (case ho => rfl); (case hg => rfl); (case hn => rfl); (case hr => first | (go_simp; done) | (go_simp; rfl)); intro w12 hw; have hg : w.grownBy w12 (some go9) := (by rw [hw]; exact HP11.2); have hp_ : Kd.R (Kd.int .u8) 5 w12 w0.heap.size (fun k_ => (P0_ k_ ∨ w.heap.size ≤ k_)) (.slice (some ⟨go9, 0, none⟩) l0.length co10) y119 := (by rw [hw, Ny119.out]; exact HP11.1); clear HP11; have n0_ := Aside0.mk (hp_); have n1_ := Aside0.mk ((by rw [hw]; exact below_set (HB.out) GB9.out : Below w0.heap.size w0 w12)); have n2_ := Aside0.mk (Kept.of_grown (S := (fun k_ => P0_ k_)) hg (by repeat (first | (with_reducible first | exact HK.out | apply Kept.alloc | apply Kept.drewN | apply Kept.drew) | exact HK.out)) (fun k_ e_ => (HO0.out.1 k_ e_))); clear HO0; clear HB; clear HK; have HO0 := n0_; have HB := n1_; have HK := n2_; clear n0_ n1_ n2_; clear hg hw hp_))
          go_ret
          exact ⟨by first | rfl | (simp [errW_none, errW_some] <;> rfl) | (simp only [← hji3, ← hji6]; first | rfl | (simp [errW_none, errW_some] <;> rfl)) | (simp [*, errW_none, errW_some] <;> rfl), by (with_reducible repeat (first | apply Kd.R_alloc | apply Kd.R_drewN | apply Kd.R_drew)); exact HO0.out, by repeat (first | (with_reducible first | exact HB.out | apply below_alloc | apply pw_below_drewN | apply below_drew1) | exact HB.out), by repeat (first | (with_reducible first | exact HK.out | apply Kept.alloc | apply Kept.drewN | apply Kept.drew) | exact HK.out)⟩
        · rw [if_neg c8] at H
          exact absurd H (by simp)
      · rw [if_neg c7] at H
        exact absurd H (by simp)
    · rw [if_neg c5] at H
      exact absurd H (by simp)
  · rw [if_neg c4] at H
    exact absurd H (by simp)

/-! ### bitutil_ClearBitSwap: function 19 -/
def bitutil_ClearBitSwap.f (l0 : List Int) (a1 : Int) : Option (Bool × List Int) := if 0 ≤ (IntKind.u64.wrap (Int.tdiv (IntKind.u64.wrap (a1)) 8)) then (if (IntKind.u64.wrap (Int.tdiv (IntKind.u64.wrap (a1)) 8)) < (l0.length : Int) then (if 0 ≤ (((a1) % 256) % 8) then (if (((a1) % 256) % 8) < 8 then (some (((Go.bits .and .u8 (rd l0 (IntKind.u64.wrap (Int.tdiv (IntKind.u64.wrap (a1)) 8))) (rd gtab0 (((a1) % 256) % 8))) != 0), (l0.set ((IntKind.u64.wrap (Int.tdiv (IntKind.u64.wrap (a1)) 8)) : Int).toNat (Go.bits .andNot .u8 (rd l0 (IntKind.u64.wrap (Int.tdiv (IntKind.u64.wrap (a1)) 8))) (rd gtab0 (((a1) % 256) % 8)))))) else (none)) else (none)) else (none)) else (none)
set_option maxHeartbeats 8000000 in
set_option maxRecDepth 100000 in
theorem bitutil_ClearBitSwap.calls (P0_ : Nat → Prop) (u9000_ : Value) (l0 : List Int) (a1 : Int) (r1 : Bool) (r2 : List Int) (w0 w : World) (hB : Below w0.heap.size w0 w) (ho0 : Kd.R (Kd.int .u8) 5 w w0.heap.size P0_ u9000_ l0) (hg0 : Kd.C (Kd.int .u8) w0 (some ⟨0, 0, none⟩) gtab0.length gtab0) (h : bitutil_ClearBitSwap.f l0 a1 = some (r1, r2)) :
    Calls Tryd.prog 19 #[u9000_, .int .i64 a1] w fun e w' => e = .returned (.bool r1) ∧ Kd.R (Kd.int .u8) 5 w' w0.heap.size (fun k_ => (P0_ k_ ∨ w.heap.size ≤ k_)) u9000_ r2 ∧ Below w0.heap.size w0 w' ∧ Kept w w' (fun k_ => P0_ k_) := by
  have HO0 := Aside0.mk (show Kd.R (Kd.int .u8) 5 w w0.heap.size (fun k_ => (P0_ k_ ∨ w.heap.size ≤ k_)) u9000_ l0 from Kd.R_mono ho0 (fun k_ hk => (.inl hk)))
  have HG0 := Aside0.mk hg0
  clear hg0
  have HK := Aside0.mk (Kept.refl w (fun k_ => P0_ k_))
  have HW0 := Aside0.mk hB.size
  have HB := Aside0.mk hB
  clear hB
  have H : (if 0 ≤ (IntKind.u64.wrap (Int.tdiv (IntKind.u64.wrap (a1)) 8)) then (if (IntKind.u64.wrap (Int.tdiv (IntKind.u64.wrap (a1)) 8)) < (l0.length : Int) then (if 0 ≤ (((a1) % 256) % 8) then (if (((a1) % 256) % 8) < 8 then (some (((Go.bits .and .u8 (rd l0 (IntKind.u64.wrap (Int.tdiv (IntKind.u64.wrap (a1)) 8))) (rd gtab0 (((a1) % 256) % 8))) != 0), (l0.set ((IntKind.u64.wrap (Int.tdiv (IntKind.u64.wrap (a1)) 8)) : Int).toNat (Go.bits .andNot .u8 (rd l0 (IntKind.u64.wrap (Int.tdiv (IntKind.u64.wrap (a1)) 8))) (rd gtab0 (((a1) % 256) % 8)))))) else (none)) else (none)) else (none)) else (none)) = some (r1, r2) := h
  clear h
  obtain ⟨ji3, hji3⟩ : ∃ j_ : Int, (IntKind.u64.wrap (Int.tdiv (IntKind.u64.wrap (a1)) 8)) = j_ := ⟨_, rfl⟩
  replace H : (if 0 ≤ (ji3) then (if (ji3) < (l0.length : Int) then (if 0 ≤ (((a1) % 256) % 8) then (if (((a1) % 256) % 8) < 8 then (some (((Go.bits .and .u8 (rd l0 (ji3)) (rd gtab0 (((a1) % 256) % 8))) != 0), (l0.set ((ji3) : Int).toNat (Go.bits .andNot .u8 (rd l0 (ji3)) (rd gtab0 (((a1) % 256) % 8)))))) else (none)) else (none)) else (none)) else (none)) = some (r1, r2) := by first | (rw [hji3] at H; exact H) | (simp only [hji3] at H ⊢; exact H)
  by_cases c4 : 0 ≤ (ji3)
  · rw [if_pos c4] at H
    have c4b0 : decide (0 ≤ (ji3)) = true := decide_eq_true c4
    clear c4
    by_cases c5 : (ji3) < (l0.length : Int)
    · rw [if_pos c5] at H
      have c5b0 : decide ((ji3) < (l0.length : Int)) = true := decide_eq_true c5
      clear c5
      obtain ⟨ji6, hji6⟩ : ∃ j_ : Int, (((a1) % 256) % 8) = j_ := ⟨_, rfl⟩
      replace H : (if 0 ≤ (ji6) then (if (ji6) < 8 then (some (((Go.bits .and .u8 (rd l0 (ji3)) (rd gtab0 (ji6))) != 0), (l0.set ((ji3) : Int).toNat (Go.bits .andNot .u8 (rd l0 (ji3)) (rd gtab0 (ji6)))))) else (none)) else (none)) = some (r1, r2) := by first | (rw [hji6] at H; exact H) | (simp only [hji6] at H ⊢; exact H)
      have hji6k : (IntKind.u8.wrap a1).tmod 8 = ji6 := (Aid.u8_mod _ (by decide)).trans hji6
      by_cases c7 : 0 ≤ (ji6)
      · rw [if_pos c7] at H
        have c7b0 : decide (0 ≤ (ji6)) = true := decide_eq_true c7
        clear c7
        by_cases c8 : (ji6) < 8
        · rw [if_pos c8] at H
          have c8b0 : decide ((ji6) < 8) = true := decide_eq_true c8
          clear c8
          obtain ⟨y123, hy123⟩ : ∃ y_ : List Int, y_ = (l0.set ((ji3) : Int).toNat (Go.bits .andNot .u8 (rd l0 (ji3)) (rd gtab0 (ji6)))) := ⟨_, rfl⟩
          replace H : (some (((Go.bits .and .u8 (rd l0 (ji3)) (rd gtab0 (ji6))) != 0), y123)) = some (r1, r2) := by first | (rw [hy123]; with_reducible exact H) | (have H2_ := (Option.bind_some _ _).symm.trans H; rw [hy123]; with_reducible exact H2_) | (have H2_ := (Option.bind_some _ _).symm.trans H; with_reducible exact H2_) | with_reducible exact H | (rw [hy123]; exact H) | exact H
          have Ny123 := Aside0.mk hy123
          clear hy123
          simp only [Option.some.injEq, Prod.mk.injEq] at H
          obtain ⟨rfl, rfl⟩ := H
          obtain ⟨Ao10, co10, eo10⟩ := Kd.R_slice HO0.out
          subst eo10
          have p120 : 0 ≤ ((ji3) : Int) := of_decide_eq_true (by first | (with_reducible assumption) | assumption)
          have q120 : (ji3) < (l0.length : Int) := of_decide_eq_true (by first | (with_reducible assumption) | assumption)
          obtain ⟨ad120, e120, hx120_0⟩ := Kd.at_int (Kd.R_reads' HO0.out).2.2 (ji3) p120 q120
          cases e120
          replace p120 := eq_true p120
          replace q120 := eq_true q120
          have p121 : 0 ≤ ((ji6) : Int) := of_decide_eq_true (by first | (with_reducible assumption) | assumption)
          have q121 : (ji6) < (gtab0.length : Int) := (by have h_ : ((ji6) : Int) < (8 : Int) := (of_decide_eq_true (by first | (with_reducible assumption) | assumption)); have e_ : gtab0.length = 8 := rfl; omega)
          have qg121 : (((ji6) : Int) < 8) = True := eq_true (by have e_ : gtab0.length = 8 := rfl; omega)
          obtain ⟨ad121, e121, hx121_0⟩ := Kd.at_int HG0.out (ji6) p121 q121
          obtain rfl : (⟨0, 0, none⟩ : Addr) = ad121 := (by injection e121)
          (first | simp only [add_plain] at hx121_0 | simp only [add_at] at hx121_0 | simp only [Addr.add, Nat.zero_add] at hx121_0 | skip)
          replace hx121_0 := (HB.out.cell (World.block_lt_of_cell? _ _ hx121_0)).trans hx121_0
          replace p121 := eq_true p121
          replace q121 := eq_true q121
          have p122 : 0 ≤ ((ji3) : Int) := of_decide_eq_true (by first | (with_reducible assumption) | assumption)
          have q122 : (ji3) < (l0.length : Int) := of_decide_eq_true (by first | (with_reducible assumption) | assumption)
          obtain ⟨ad122, e122, hx122_0⟩ := Kd.at_int (Kd.R_reads' HO0.out).2.2 (ji3) p122 q122
          obtain rfl : ad120 = ad122 := (by injection e122)
          replace p122 := eq_true p122
          replace q122 := eq_true q122
          have p9 : 0 ≤ ((ji3) : Int) := of_decide_eq_true (by first | (with_reducible assumption) | assumption)
          have q9 : ((ji3) : Int) < ((l0.length : Int) : Int) := of_decide_eq_true (by first | (with_reducible assumption) | assumption)
          obtain ⟨go9, co9, eo9, gb9, gl9, cl9, HG9⟩ := Kd.R_form HO0.out (by omega)
          (first | cases eo9 | (injection eo9 with ea_ en_ ec_; (first | subst ea_ | (injection ea_ with ea_; subst ea_)); subst ec_; clear en_))
          have GB9 := Aside0.mk gb9
          have GG9 := Aside0.mk HG9
          clear gb9 gl9 HG9
          have HMgo9 := Aside0.mk (show (P0_ go9 ∨ w.heap.size ≤ go9) from (HO0.out.1 _ rfl))
          (first | simp only [add_plain] at hx120_0 | skip)
          (first | simp only [add_plain] at hx122_0 | skip)
          obtain ⟨hx9_0, hf9_0⟩ := Kd.R_celln 0 HO0.out ((ji3) : Int) p9 q9
          replace p9 := eq_true p9
          replace q9 := eq_true q9
          have HP11 := Kd.R_putg HO0.out ((ji3) : Int) (Go.bits .andNot .u8 (rd l0 (ji3)) (rd gtab0 (ji6)))
          go_enter Tryd.func19, Tryd.ntmps19
          go_wp2_with (first | ((with_reducible refine gate_store (t := 5) (p := 25) rfl ?_); refine store_event (t := 5) (p := 25) (v := ?vo_w12) (w1 := (w.setCell ⟨go9, ((ji3) : Int).toNat, none⟩ (.int .u8 (Go.bits .andNot .u8 (rd l0 (ji3)) (rd gtab0 (ji6)))))) ?hg ?ho ?hn ?hr ?_; (case ho => rfl); (case hg => rfl); (case hn => rfl); (case hr => first | (go_simp; done) | (go_simp; rfl)); intro w12 hw; have hg : w.grownBy w12 (some go9) := (by rw [hw]; exact HP11.2); have hp_ : Kd.R (Kd.int .u8) 5 w12 w0.heap.size (fun k_ => (P0_ k_ ∨ w.heap.size ≤ k_)) (.slice (some ⟨go9, 0, none⟩) l0.length co10) y123 := (by rw [hw, Ny123.out]; exact HP11.1); clear HP11; have n0_ := Aside0.mk (hp_); have n1_ := Aside0.mk ((by rw [hw]; exact below_set (HB.out) GB9.out : Below w0.heap.size w0 w12)); have n2_ := Aside0.mk (Kept.of_grown (S := (fun k_ => P0_ k_)) hg (by repeat (first | (with_reducible first | exact HK.out | apply Kept.alloc | apply Kept.drewN | apply Kept.drew) | exact HK.out)) (fun k_ e_ => (HO0.out.1 k_ e_))); clear HO0; clear HB; clear HK; have HO0 := n0_; have HB := n1_; have HK := n2_; clear n0_ n1_ n2_; clear hg hw hp_))
          go_ret
          exact ⟨by first | rfl | (simp [errW_none, errW_some] <;> rfl) | (simp only [← hji3, ← hji6]; first | rfl | (simp [errW_none, errW_some] <;> rfl)) | (simp [*, errW_none, errW_some] <;> rfl), by (with_reducible repeat (first | apply Kd.R_alloc | apply Kd.R_drewN | apply Kd.R_drew)); exact HO0.out, by repeat (first | (with_reducible first | exact HB.out | apply below_alloc | apply pw_below_drewN | apply below_drew1) | exact HB.out), by repeat (first | (with_reducible first | exact HK.out | apply Kept.alloc | apply Kept.drewN | apply Kept.drew) | exact HK.out)⟩
        · rw [if_neg c8] at H
          exact absurd H (by simp)
      · rw [if_neg c7] at H
        exact absurd H (by simp)
    · rw [if_neg c5] at H
      exact absurd H (by simp)
  · rw [if_neg c4] at H
    exact absurd H (by simp)

end Go.Proofs.YticieelobdfloaaDoor.QTouched
