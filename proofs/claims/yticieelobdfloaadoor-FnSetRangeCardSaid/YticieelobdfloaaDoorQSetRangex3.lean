/- Written by a program of mine over the kit's print program, turned at a few places (variables of one cell in memory; deferred closures): each Go function as a Lean function, with the proof of its call. -/
import Derived.Test.YticieelobdfloaaDoorQSetRangex0
import Derived.Test.YticieelobdfloaaDoorQSetRangex1
import Derived.Test.YticieelobdfloaaDoorQSetRangex2
namespace Go.Proofs.YticieelobdfloaaDoor.QSetRange
open Go.RowKit Go.Proofs.YticieelobdfloaaDoorW.PrintWords Go.Proofs.YticieelobdfloaaDoorW.PrintLast Go.Proofs.YticieelobdfloaaDoorW.PrintMore
attribute [local go_sem] max2_int min2_int max_two min_two max_three min_three max_four min_four   -- for this text's walks alone
set_option linter.unusedVariables false
set_option linter.unusedSimpArgs false

/-! ### bitutil_SetBitsTo: function 24 -/
def bitutil_SetBitsTo.j0 : Nat → List Int → Int → Int → Int → Option (List Int)
  | 0, _, _, _, _ => none
  | k + 1, x0, x8, x9, x10 => if 0 ≤ (Int.tmod x8 8) then (if (Int.tmod x8 8) < 8 then (if 0 ≤ (Int.tmod x9 8) then (if (Int.tmod x9 8) < 8 then (if (wrap64 ((wrap64 (Int.tdiv x9 8)) + 1)) = (wrap64 ((wrap64 (Int.tdiv x8 8)) + 1)) then (if (Int.tmod x9 8) = 0 then (if 0 ≤ (wrap64 (Int.tdiv x8 8)) then (if (wrap64 (Int.tdiv x8 8)) < (x0.length : Int) then ((some (x0.set ((wrap64 (Int.tdiv x8 8)) : Int).toNat (Go.bits .and .u8 (rd x0 (wrap64 (Int.tdiv x8 8))) (rd gtab2 (Int.tmod x8 8))) : List Int)).bind fun y123 => (some (y123.set ((wrap64 (Int.tdiv x8 8)) : Int).toNat (Go.bits .or .u8 (rd y123 (wrap64 (Int.tdiv x8 8))) (Go.bits .andNot .u8 x10 (rd gtab2 (Int.tmod x8 8))))))) else (none)) else (none)) else (if 0 ≤ (wrap64 (Int.tdiv x8 8)) then (if (wrap64 (Int.tdiv x8 8)) < (x0.length : Int) then ((some (x0.set ((wrap64 (Int.tdiv x8 8)) : Int).toNat (Go.bits .and .u8 (rd x0 (wrap64 (Int.tdiv x8 8))) (Go.bits .or .u8 (rd gtab2 (Int.tmod x8 8)) (rd gtab3 (Int.tmod x9 8)))) : List Int)).bind fun y127 => (some (y127.set ((wrap64 (Int.tdiv x8 8)) : Int).toNat (Go.bits .or .u8 (rd y127 (wrap64 (Int.tdiv x8 8))) (Go.bits .andNot .u8 x10 (Go.bits .or .u8 (rd gtab2 (Int.tmod x8 8)) (rd gtab3 (Int.tmod x9 8)))))))) else (none)) else (none))) else (if 0 ≤ (wrap64 (Int.tdiv x8 8)) then (if (wrap64 (Int.tdiv x8 8)) < (x0.length : Int) then ((some (x0.set ((wrap64 (Int.tdiv x8 8)) : Int).toNat (Go.bits .and .u8 (rd x0 (wrap64 (Int.tdiv x8 8))) (rd gtab2 (Int.tmod x8 8))) : List Int)).bind fun y131 => ((some (y131.set ((wrap64 (Int.tdiv x8 8)) : Int).toNat (Go.bits .or .u8 (rd y131 (wrap64 (Int.tdiv x8 8))) (Go.bits .andNot .u8 x10 (rd gtab2 (Int.tmod x8 8)))) : List Int)).bind fun y133 => (if (wrap64 ((wrap64 ((wrap64 (Int.tdiv x9 8)) + 1)) - (wrap64 (Int.tdiv x8 8)))) > 2 then ((memory_Set.f k y133 x10 (wrap64 ((wrap64 (Int.tdiv x8 8)) + 1)) (wrap64 ((wrap64 ((wrap64 (Int.tdiv x9 8)) + 1)) - 1))).bind fun t134 => (if (Int.tmod x9 8) = 0 then (some t134) else (if 0 ≤ (wrap64 ((wrap64 ((wrap64 (Int.tdiv x9 8)) + 1)) - 1)) then (if (wrap64 ((wrap64 ((wrap64 (Int.tdiv x9 8)) + 1)) - 1)) < (x0.length : Int) then ((some (t134.set ((wrap64 ((wrap64 ((wrap64 (Int.tdiv x9 8)) + 1)) - 1)) : Int).toNat (Go.bits .and .u8 (rd t134 (wrap64 ((wrap64 ((wrap64 (Int.tdiv x9 8)) + 1)) - 1))) (rd gtab3 (Int.tmod x9 8))) : List Int)).bind fun y136 => (some (y136.set ((wrap64 ((wrap64 ((wrap64 (Int.tdiv x9 8)) + 1)) - 1)) : Int).toNat (Go.bits .or .u8 (rd y136 (wrap64 ((wrap64 ((wrap64 (Int.tdiv x9 8)) + 1)) - 1))) (Go.bits .andNot .u8 x10 (rd gtab3 (Int.tmod x9 8))))))) else (none)) else (none)))) else (if (Int.tmod x9 8) = 0 then (some y133) else (if 0 ≤ (wrap64 ((wrap64 ((wrap64 (Int.tdiv x9 8)) + 1)) - 1)) then (if (wrap64 ((wrap64 ((wrap64 (Int.tdiv x9 8)) + 1)) - 1)) < (x0.length : Int) then ((some (y133.set ((wrap64 ((wrap64 ((wrap64 (Int.tdiv x9 8)) + 1)) - 1)) : Int).toNat (Go.bits .and .u8 (rd y133 (wrap64 ((wrap64 ((wrap64 (Int.tdiv x9 8)) + 1)) - 1))) (rd gtab3 (Int.tmod x9 8))) : List Int)).bind fun y140 => (some (y140.set ((wrap64 ((wrap64 ((wrap64 (Int.tdiv x9 8)) + 1)) - 1)) : Int).toNat (Go.bits .or .u8 (rd y140 (wrap64 ((wrap64 ((wrap64 (Int.tdiv x9 8)) + 1)) - 1))) (Go.bits .andNot .u8 x10 (rd gtab3 (Int.tmod x9 8))))))) else (none)) else (none)))))) else (none)) else (none))) else (none)) else (none)) else (none)) else (none)
def bitutil_SetBitsTo.f (k : Nat) (l0 : List Int) (a1 : Int) (a2 : Int) (a3 : Bool) : Option (List Int) := if a2 = 0 then (some l0) else (if a3 = true then (bitutil_SetBitsTo.j0 k l0 a1 (wrap64 (a1 + a2)) 255) else (bitutil_SetBitsTo.j0 k l0 a1 (wrap64 (a1 + a2)) 0))
theorem bitutil_SetBitsTo.mono_l : ∀ k, (∀ y0 y1 y2 y3, LeO (bitutil_SetBitsTo.j0 k y0 y1 y2 y3) (bitutil_SetBitsTo.j0 (k + 1) y0 y1 y2 y3))
  | 0 => fun _ _ _ _ r h => by simp [bitutil_SetBitsTo.j0] at h
  | k + 1 => by
    have ih0 := bitutil_SetBitsTo.mono_l k
    · intro y0 y1 y2 y3
      unfold bitutil_SetBitsTo.j0
      repeat' first
      | (with_reducible exact ih0 _ _ _ _)
      | (with_reducible exact memory_Set.mono _ _ _ _ _)
      | (with_reducible exact LeO.refl _)
      | (with_reducible exact LeO.none _)
      | (with_reducible refine LeO.ite ?_ ?_)
      | (with_reducible refine LeO.bind ?_ (fun _ => ?_))
      | exact ih0 _ _ _ _
      | exact memory_Set.mono _ _ _ _ _
      | exact LeO.none _
      | refine LeO.ite ?_ ?_
      | refine LeO.bind ?_ (fun _ => ?_)
theorem bitutil_SetBitsTo.mono : ∀ a0 a1 a2 a3 k, LeO (bitutil_SetBitsTo.f k a0 a1 a2 a3) (bitutil_SetBitsTo.f (k + 1) a0 a1 a2 a3) := by
  intro a0 a1 a2 a3 k
  have ih0 := bitutil_SetBitsTo.mono_l k
  unfold bitutil_SetBitsTo.f
  repeat' first
      | (with_reducible exact ih0 _ _ _ _)
      | (with_reducible exact memory_Set.mono _ _ _ _ _)
      | (with_reducible exact LeO.refl _)
      | (with_reducible exact LeO.none _)
      | (with_reducible refine LeO.ite ?_ ?_)
      | (with_reducible refine LeO.bind ?_ (fun _ => ?_))
      | exact ih0 _ _ _ _
      | exact memory_Set.mono _ _ _ _ _
      | exact LeO.none _
      | refine LeO.ite ?_ ?_
      | refine LeO.bind ?_ (fun _ => ?_)
set_option maxHeartbeats 8000000 in
set_option maxRecDepth 100000 in
theorem bitutil_SetBitsTo.calls (k : Nat) (P0_ : Nat → Prop) (u9000_ : Value) (l0 : List Int) (a1 : Int) (a2 : Int) (a3 : Bool) (r : List Int) (w0 w : World) (hB : Below w0.heap.size w0 w) (ho0 : Kd.R (Kd.int .u8) 5 w w0.heap.size P0_ u9000_ l0) (hg2 : Kd.C (Kd.int .u8) w0 (some ⟨2, 0, none⟩) gtab2.length gtab2) (hg3 : Kd.C (Kd.int .u8) w0 (some ⟨3, 0, none⟩) gtab3.length gtab3) (h : bitutil_SetBitsTo.f k l0 a1 a2 a3 = some r) :
    Calls Tryd.prog 24 #[u9000_, .int .i64 a1, .int .i64 a2, .bool a3] w fun e w' => e = .returned (.tuple #[]) ∧ Kd.R (Kd.int .u8) 5 w' w0.heap.size (fun k_ => (P0_ k_ ∨ w.heap.size ≤ k_)) u9000_ r ∧ Below w0.heap.size w0 w' ∧ Kept w w' (fun k_ => P0_ k_) := by
  have HO0 := Aside0.mk (show Kd.R (Kd.int .u8) 5 w w0.heap.size (fun k_ => (P0_ k_ ∨ w.heap.size ≤ k_)) u9000_ l0 from Kd.R_mono ho0 (fun k_ hk => (.inl hk)))
  have HG2 := Aside0.mk hg2
  clear hg2
  have HG3 := Aside0.mk hg3
  clear hg3
  have HK := Aside0.mk (Kept.refl w (fun k_ => P0_ k_))
  have HW0 := Aside0.mk hB.size
  have HB := Aside0.mk hB
  clear hB
  have H : (if a2 = 0 then (some l0) else (if a3 = true then (bitutil_SetBitsTo.j0 k l0 a1 (wrap64 (a1 + a2)) 255) else (bitutil_SetBitsTo.j0 k l0 a1 (wrap64 (a1 + a2)) 0))) = some r := h
  clear h
  by_cases c5 : a2 = 0
  · rw [if_pos c5] at H
    have c5b0 : (a2 == 0) = true := beq_iff_eq.mpr c5
    have c5b1 : (a2 != 0) = false := bne_eq_false_iff_eq.mpr c5
    clear c5
    obtain rfl := Option.some.inj H
    go_enter Tryd.func24, Tryd.ntmps24
    go_wp2
    first | go_end0 | ((try simp only [Exit.inBlock, Exit.then]); refine bodyPost_ret (results_none rfl _ _ _) rfl ?_)
    exact ⟨by first | rfl | (simp [errW_none, errW_some] <;> rfl) | (simp [*, errW_none, errW_some] <;> rfl), by (with_reducible repeat (first | apply Kd.R_alloc | apply Kd.R_drewN | apply Kd.R_drew)); exact HO0.out, by repeat (first | (with_reducible first | exact HB.out | apply below_alloc | apply pw_below_drewN | apply below_drew1) | exact HB.out), by repeat (first | (with_reducible first | exact HK.out | apply Kept.alloc | apply Kept.drewN | apply Kept.drew) | exact HK.out)⟩
  · rw [if_neg c5] at H
    have c5b0 : (a2 == 0) = false := beq_eq_false_iff_ne.mpr c5
    have c5b1 : (a2 != 0) = true := bne_iff_ne.mpr c5
    have HC6 := Aside0.mk H
    clear H
    go_enter Tryd.func24, Tryd.ntmps24
    go_upto_if 22 with (fail)
    go_cut [10] (fun v10 wc => ∃ (kq : Nat) (x10_5 : Int), v10 = .int .u8 x10_5 ∧ Aside0 (bitutil_SetBitsTo.j0 kq l0 a1 (wrap64 (a1 + a2)) x10_5 = some r) ∧ Aside0 (kq ≤ k) ∧ Aside0 (Kd.R (Kd.int .u8) 5 wc w0.heap.size (fun k_ => (P0_ k_ ∨ w.heap.size ≤ k_)) u9000_ l0) ∧ Aside0 (Kept w wc (fun k_ => P0_ k_)) ∧ Aside0 (Below w0.heap.size w0 wc))
    case first =>
      have H := HC6.out
      clear HC6
      by_cases c7 : a3 = true
      · subst c7
        have H1 : (bitutil_SetBitsTo.j0 k l0 a1 (wrap64 (a1 + a2)) 255) = some r := by rw [if_pos rfl] at H; exact H
        clear H
        have H := H1
        clear H1
        have H' := Aside0.mk H
        clear H
        go_wp2
        go_meet
        case rel => exact ⟨_, (255), (by first | rfl | (simp; done) | (simp [*]; done)), H', ⟨by first | omega | exact Nat.le_refl _⟩, ⟨by (with_reducible repeat (first | apply Kd.R_alloc | apply Kd.R_drewN | apply Kd.R_drew)); exact HO0.out⟩, ⟨by repeat (first | (with_reducible first | exact HK.out | apply Kept.alloc | apply Kept.drewN | apply Kept.drew) | exact HK.out)⟩, ⟨by repeat (first | (with_reducible first | exact HB.out | apply below_alloc | apply pw_below_drewN | apply below_drew1) | exact HB.out)⟩⟩
      · replace c7 := Bool.eq_false_iff.mpr c7
        subst c7
        have H1 : (bitutil_SetBitsTo.j0 k l0 a1 (wrap64 (a1 + a2)) 0) = some r := by rw [if_neg (show ¬ (false = true) by decide)] at H; exact H
        clear H
        have H := H1
        clear H1
        have H' := Aside0.mk H
        clear H
        go_wp2
        go_meet
        case rel => exact ⟨_, (0), (by first | rfl | (simp; done) | (simp [*]; done)), H', ⟨by first | omega | exact Nat.le_refl _⟩, ⟨by (with_reducible repeat (first | apply Kd.R_alloc | apply Kd.R_drewN | apply Kd.R_drew)); exact HO0.out⟩, ⟨by repeat (first | (with_reducible first | exact HK.out | apply Kept.alloc | apply Kept.drewN | apply Kept.drew) | exact HK.out)⟩, ⟨by repeat (first | (with_reducible first | exact HB.out | apply below_alloc | apply pw_below_drewN | apply below_drew1) | exact HB.out)⟩⟩
    case rest =>
      clear HC6
      try clear c2
      try clear p2
      try clear c5
      try clear c5b0
      try clear c5b1
      try clear p6
      try clear c7
      obtain ⟨kq, x10_5, rfl, HA, HJ5, HO_0, HK, HB⟩ := hcut
      cases kq with
      | zero => exact absurd HA.out (by simp [bitutil_SetBitsTo.j0])
      | succ kj5 =>
        have H := HA.out
        clear HA
        simp only [bitutil_SetBitsTo.j0] at H
        obtain ⟨ji8, hji8⟩ : ∃ j_ : Int, (Int.tmod a1 8) = j_ := ⟨_, rfl⟩
        replace H : (if 0 ≤ (ji8) then (if (ji8) < 8 then (if 0 ≤ (Int.tmod (wrap64 (a1 + a2)) 8) then (if (Int.tmod (wrap64 (a1 + a2)) 8) < 8 then (if (wrap64 ((wrap64 (Int.tdiv (wrap64 (a1 + a2)) 8)) + 1)) = (wrap64 ((wrap64 (Int.tdiv a1 8)) + 1)) then (if (Int.tmod (wrap64 (a1 + a2)) 8) = 0 then (if 0 ≤ (wrap64 (Int.tdiv a1 8)) then (if (wrap64 (Int.tdiv a1 8)) < (l0.length : Int) then ((some (l0.set ((wrap64 (Int.tdiv a1 8)) : Int).toNat (Go.bits .and .u8 (rd l0 (wrap64 (Int.tdiv a1 8))) (rd gtab2 (ji8))) : List Int)).bind fun y123 => (some (y123.set ((wrap64 (Int.tdiv a1 8)) : Int).toNat (Go.bits .or .u8 (rd y123 (wrap64 (Int.tdiv a1 8))) (Go.bits .andNot .u8 x10_5 (rd gtab2 (ji8))))))) else (none)) else (none)) else (if 0 ≤ (wrap64 (Int.tdiv a1 8)) then (if (wrap64 (Int.tdiv a1 8)) < (l0.length : Int) then ((some (l0.set ((wrap64 (Int.tdiv a1 8)) : Int).toNat (Go.bits .and .u8 (rd l0 (wrap64 (Int.tdiv a1 8))) (Go.bits .or .u8 (rd gtab2 (ji8)) (rd gtab3 (Int.tmod (wrap64 (a1 + a2)) 8)))) : List Int)).bind fun y127 => (some (y127.set ((wrap64 (Int.tdiv a1 8)) : Int).toNat (Go.bits .or .u8 (rd y127 (wrap64 (Int.tdiv a1 8))) (Go.bits .andNot .u8 x10_5 (Go.bits .or .u8 (rd gtab2 (ji8)) (rd gtab3 (Int.tmod (wrap64 (a1 + a2)) 8)))))))) else (none)) else (none))) else (if 0 ≤ (wrap64 (Int.tdiv a1 8)) then (if (wrap64 (Int.tdiv a1 8)) < (l0.length : Int) then ((some (l0.set ((wrap64 (Int.tdiv a1 8)) : Int).toNat (Go.bits .and .u8 (rd l0 (wrap64 (Int.tdiv a1 8))) (rd gtab2 (ji8))) : List Int)).bind fun y131 => ((some (y131.set ((wrap64 (Int.tdiv a1 8)) : Int).toNat (Go.bits .or .u8 (rd y131 (wrap64 (Int.tdiv a1 8))) (Go.bits .andNot .u8 x10_5 (rd gtab2 (ji8)))) : List Int)).bind fun y133 => (if (wrap64 ((wrap64 ((wrap64 (Int.tdiv (wrap64 (a1 + a2)) 8)) + 1)) - (wrap64 (Int.tdiv a1 8)))) > 2 then ((memory_Set.f kj5 y133 x10_5 (wrap64 ((wrap64 (Int.tdiv a1 8)) + 1)) (wrap64 ((wrap64 ((wrap64 (Int.tdiv (wrap64 (a1 + a2)) 8)) + 1)) - 1))).bind fun t134 => (if (Int.tmod (wrap64 (a1 + a2)) 8) = 0 then (some t134) else (if 0 ≤ (wrap64 ((wrap64 ((wrap64 (Int.tdiv (wrap64 (a1 + a2)) 8)) + 1)) - 1)) then (if (wrap64 ((wrap64 ((wrap64 (Int.tdiv (wrap64 (a1 + a2)) 8)) + 1)) - 1)) < (l0.length : Int) then ((some (t134.set ((wrap64 ((wrap64 ((wrap64 (Int.tdiv (wrap64 (a1 + a2)) 8)) + 1)) - 1)) : Int).toNat (Go.bits .and .u8 (rd t134 (wrap64 ((wrap64 ((wrap64 (Int.tdiv (wrap64 (a1 + a2)) 8)) + 1)) - 1))) (rd gtab3 (Int.tmod (wrap64 (a1 + a2)) 8))) : List Int)).bind fun y136 => (some (y136.set ((wrap64 ((wrap64 ((wrap64 (Int.tdiv (wrap64 (a1 + a2)) 8)) + 1)) - 1)) : Int).toNat (Go.bits .or .u8 (rd y136 (wrap64 ((wrap64 ((wrap64 (Int.tdiv (wrap64 (a1 + a2)) 8)) + 1)) - 1))) (Go.bits .andNot .u8 x10_5 (rd gtab3 (Int.tmod (wrap64 (a1 + a2)) 8))))))) else (none)) else (none)))) else (if (Int.tmod (wrap64 (a1 + a2)) 8) = 0 then (some y133) else (if 0 ≤ (wrap64 ((wrap64 ((wrap64 (Int.tdiv (wrap64 (a1 + a2)) 8)) + 1)) - 1)) then (if (wrap64 ((wrap64 ((wrap64 (Int.tdiv (wrap64 (a1 + a2)) 8)) + 1)) - 1)) < (l0.length : Int) then ((some (y133.set ((wrap64 ((wrap64 ((wrap64 (Int.tdiv (wrap64 (a1 + a2)) 8)) + 1)) - 1)) : Int).toNat (Go.bits .and .u8 (rd y133 (wrap64 ((wrap64 ((wrap64 (Int.tdiv (wrap64 (a1 + a2)) 8)) + 1)) - 1))) (rd gtab3 (Int.tmod (wrap64 (a1 + a2)) 8))) : List Int)).bind fun y140 => (some (y140.set ((wrap64 ((wrap64 ((wrap64 (Int.tdiv (wrap64 (a1 + a2)) 8)) + 1)) - 1)) : Int).toNat (Go.bits .or .u8 (rd y140 (wrap64 ((wrap64 ((wrap64 (Int.tdiv (wrap64 (a1 + a2)) 8)) + 1)) - 1))) (Go.bits .andNot .u8 x10_5 (rd gtab3 (Int.tmod (wrap64 (a1 + a2)) 8))))))) else (none)) else (none)))))) else (none)) else (none))) else (none)) else (none)) else (none)) else (none)) = some r := by first | (rw [hji8] at H; exact H) | (simp only [hji8] at H ⊢; exact H)
        by_cases c9 : 0 ≤ (ji8)
        · rw [if_pos c9] at H
          have c9b0 : decide (0 ≤ (ji8)) = true := decide_eq_true c9
          clear c9
          by_cases c10 : (ji8) < 8
          · rw [if_pos c10] at H
            have c10b0 : decide ((ji8) < 8) = true := decide_eq_true c10
            clear c10
            obtain ⟨ji11, hji11⟩ : ∃ j_ : Int, (Int.tmod (wrap64 (a1 + a2)) 8) = j_ := ⟨_, rfl⟩
            replace H : (if 0 ≤ (ji11) then (if (ji11) < 8 then (if (wrap64 ((wrap64 (Int.tdiv (wrap64 (a1 + a2)) 8)) + 1)) = (wrap64 ((wrap64 (Int.tdiv a1 8)) + 1)) then (if (ji11) = 0 then (if 0 ≤ (wrap64 (Int.tdiv a1 8)) then (if (wrap64 (Int.tdiv a1 8)) < (l0.length : Int) then ((some (l0.set ((wrap64 (Int.tdiv a1 8)) : Int).toNat (Go.bits .and .u8 (rd l0 (wrap64 (Int.tdiv a1 8))) (rd gtab2 (ji8))) : List Int)).bind fun y123 => (some (y123.set ((wrap64 (Int.tdiv a1 8)) : Int).toNat (Go.bits .or .u8 (rd y123 (wrap64 (Int.tdiv a1 8))) (Go.bits .andNot .u8 x10_5 (rd gtab2 (ji8))))))) else (none)) else (none)) else (if 0 ≤ (wrap64 (Int.tdiv a1 8)) then (if (wrap64 (Int.tdiv a1 8)) < (l0.length : Int) then ((some (l0.set ((wrap64 (Int.tdiv a1 8)) : Int).toNat (Go.bits .and .u8 (rd l0 (wrap64 (Int.tdiv a1 8))) (Go.bits .or .u8 (rd gtab2 (ji8)) (rd gtab3 (ji11)))) : List Int)).bind fun y127 => (some (y127.set ((wrap64 (Int.tdiv a1 8)) : Int).toNat (Go.bits .or .u8 (rd y127 (wrap64 (Int.tdiv a1 8))) (Go.bits .andNot .u8 x10_5 (Go.bits .or .u8 (rd gtab2 (ji8)) (rd gtab3 (ji11)))))))) else (none)) else (none))) else (if 0 ≤ (wrap64 (Int.tdiv a1 8)) then (if (wrap64 (Int.tdiv a1 8)) < (l0.length : Int) then ((some (l0.set ((wrap64 (Int.tdiv a1 8)) : Int).toNat (Go.bits .and .u8 (rd l0 (wrap64 (Int.tdiv a1 8))) (rd gtab2 (ji8))) : List Int)).bind fun y131 => ((some (y131.set ((wrap64 (Int.tdiv a1 8)) : Int).toNat (Go.bits .or .u8 (rd y131 (wrap64 (Int.tdiv a1 8))) (Go.bits .andNot .u8 x10_5 (rd gtab2 (ji8)))) : List Int)).bind fun y133 => (if (wrap64 ((wrap64 ((wrap64 (Int.tdiv (wrap64 (a1 + a2)) 8)) + 1)) - (wrap64 (Int.tdiv a1 8)))) > 2 then ((memory_Set.f kj5 y133 x10_5 (wrap64 ((wrap64 (Int.tdiv a1 8)) + 1)) (wrap64 ((wrap64 ((wrap64 (Int.tdiv (wrap64 (a1 + a2)) 8)) + 1)) - 1))).bind fun t134 => (if (ji11) = 0 then (some t134) else (if 0 ≤ (wrap64 ((wrap64 ((wrap64 (Int.tdiv (wrap64 (a1 + a2)) 8)) + 1)) - 1)) then (if (wrap64 ((wrap64 ((wrap64 (Int.tdiv (wrap64 (a1 + a2)) 8)) + 1)) - 1)) < (l0.length : Int) then ((some (t134.set ((wrap64 ((wrap64 ((wrap64 (Int.tdiv (wrap64 (a1 + a2)) 8)) + 1)) - 1)) : Int).toNat (Go.bits .and .u8 (rd t134 (wrap64 ((wrap64 ((wrap64 (Int.tdiv (wrap64 (a1 + a2)) 8)) + 1)) - 1))) (rd gtab3 (ji11))) : List Int)).bind fun y136 => (some (y136.set ((wrap64 ((wrap64 ((wrap64 (Int.tdiv (wrap64 (a1 + a2)) 8)) + 1)) - 1)) : Int).toNat (Go.bits .or .u8 (rd y136 (wrap64 ((wrap64 ((wrap64 (Int.tdiv (wrap64 (a1 + a2)) 8)) + 1)) - 1))) (Go.bits .andNot .u8 x10_5 (rd gtab3 (ji11))))))) else (none)) else (none)))) else (if (ji11) = 0 then (some y133) else (if 0 ≤ (wrap64 ((wrap64 ((wrap64 (Int.tdiv (wrap64 (a1 + a2)) 8)) + 1)) - 1)) then (if (wrap64 ((wrap64 ((wrap64 (Int.tdiv (wrap64 (a1 + a2)) 8)) + 1)) - 1)) < (l0.length : Int) then ((some (y133.set ((wrap64 ((wrap64 ((wrap64 (Int.tdiv (wrap64 (a1 + a2)) 8)) + 1)) - 1)) : Int).toNat (Go.bits .and .u8 (rd y133 (wrap64 ((wrap64 ((wrap64 (Int.tdiv (wrap64 (a1 + a2)) 8)) + 1)) - 1))) (rd gtab3 (ji11))) : List Int)).bind fun y140 => (some (y140.set ((wrap64 ((wrap64 ((wrap64 (Int.tdiv (wrap64 (a1 + a2)) 8)) + 1)) - 1)) : Int).toNat (Go.bits .or .u8 (rd y140 (wrap64 ((wrap64 ((wrap64 (Int.tdiv (wrap64 (a1 + a2)) 8)) + 1)) - 1))) (Go.bits .andNot .u8 x10_5 (rd gtab3 (ji11))))))) else (none)) else (none)))))) else (none)) else (none))) else (none)) else (none)) = some r := by first | (rw [hji11] at H; exact H) | (simp only [hji11] at H ⊢; exact H)
            by_cases c12 : 0 ≤ (ji11)
            · rw [if_pos c12] at H
              have c12b0 : decide (0 ≤ (ji11)) = true := decide_eq_true c12
              clear c12
              by_cases c13 : (ji11) < 8
              · rw [if_pos c13] at H
                have c13b0 : decide ((ji11) < 8) = true := decide_eq_true c13
                clear c13
                by_cases c14 : (wrap64 ((wrap64 (Int.tdiv (wrap64 (a1 + a2)) 8)) + 1)) = (wrap64 ((wrap64 (Int.tdiv a1 8)) + 1))
                · rw [if_pos c14] at H
                  have c14b0 : ((wrap64 ((wrap64 (Int.tdiv (wrap64 (a1 + a2)) 8)) + 1)) == (wrap64 ((wrap64 (Int.tdiv a1 8)) + 1))) = true := beq_iff_eq.mpr c14
                  have c14b1 : ((wrap64 ((wrap64 (Int.tdiv (wrap64 (a1 + a2)) 8)) + 1)) != (wrap64 ((wrap64 (Int.tdiv a1 8)) + 1))) = false := bne_eq_false_iff_eq.mpr c14
                  clear c14
                  by_cases c15 : (ji11) = 0
                  · rw [if_pos c15] at H
                    have c15b0 : ((ji11) == 0) = true := beq_iff_eq.mpr c15
                    have c15b1 : ((ji11) != 0) = false := bne_eq_false_iff_eq.mpr c15
                    clear c15
                    obtain ⟨ji16, hji16⟩ : ∃ j_ : Int, (wrap64 (Int.tdiv a1 8)) = j_ := ⟨_, rfl⟩
                    replace H : (if 0 ≤ (ji16) then (if (ji16) < (l0.length : Int) then ((some (l0.set ((ji16) : Int).toNat (Go.bits .and .u8 (rd l0 (ji16)) (rd gtab2 (ji8))) : List Int)).bind fun y123 => (some (y123.set ((ji16) : Int).toNat (Go.bits .or .u8 (rd y123 (ji16)) (Go.bits .andNot .u8 x10_5 (rd gtab2 (ji8))))))) else (none)) else (none)) = some r := by first | (rw [hji16] at H; exact H) | (simp only [hji16] at H ⊢; exact H)
                    (try rw [hji16] at c14b0)
                    (try rw [hji16] at c14b1)
                    have hji16w : (IntKind.i64.wrap (Int.tdiv a1 8)) = ji16 := (i64_w _).trans hji16
                    by_cases c17 : 0 ≤ (ji16)
                    · rw [if_pos c17] at H
                      have c17b0 : decide (0 ≤ (ji16)) = true := decide_eq_true c17
                      clear c17
                      by_cases c18 : (ji16) < (l0.length : Int)
                      · rw [if_pos c18] at H
                        have c18b0 : decide ((ji16) < (l0.length : Int)) = true := decide_eq_true c18
                        clear c18
                        obtain ⟨y123, hy123⟩ : ∃ y_ : List Int, y_ = (l0.set ((ji16) : Int).toNat (Go.bits .and .u8 (rd l0 (ji16)) (rd gtab2 (ji8)))) := ⟨_, rfl⟩
                        replace H : (some (y123.set ((ji16) : Int).toNat (Go.bits .or .u8 (rd y123 (ji16)) (Go.bits .andNot .u8 x10_5 (rd gtab2 (ji8)))))) = some r := by first | (rw [hy123]; with_reducible exact H) | (have H2_ := (Option.bind_some _ _).symm.trans H; rw [hy123]; with_reducible exact H2_) | (have H2_ := (Option.bind_some _ _).symm.trans H; with_reducible exact H2_) | with_reducible exact H | (rw [hy123]; exact H) | exact H
                        have Ny123 := Aside0.mk hy123
                        clear hy123
                        obtain ⟨y125, hy125⟩ : ∃ y_ : List Int, y_ = (y123.set ((ji16) : Int).toNat (Go.bits .or .u8 (rd y123 (ji16)) (Go.bits .andNot .u8 x10_5 (rd gtab2 (ji8))))) := ⟨_, rfl⟩
                        replace H : (some y125) = some r := by first | (rw [hy125]; with_reducible exact H) | (have H2_ := (Option.bind_some _ _).symm.trans H; rw [hy125]; with_reducible exact H2_) | (have H2_ := (Option.bind_some _ _).symm.trans H; with_reducible exact H2_) | with_reducible exact H | (rw [hy125]; exact H) | exact H
                        have Ny125 := Aside0.mk hy125
                        clear hy125
                        obtain rfl := Option.some.inj H
                        have p120 : 0 ≤ ((ji8) : Int) := of_decide_eq_true (by first | (with_reducible assumption) | assumption)
                        have q120 : (ji8) < (gtab2.length : Int) := (by have h_ : ((ji8) : Int) < (8 : Int) := (of_decide_eq_true (by first | (with_reducible assumption) | assumption)); have e_ : gtab2.length = 8 := rfl; omega)
                        have qg120 : (((ji8) : Int) < 8) = True := eq_true (by have e_ : gtab2.length = 8 := rfl; omega)
                        obtain ⟨ad120, e120, hx120_0⟩ := Kd.at_int HG2.out (ji8) p120 q120
                        obtain rfl : (⟨2, 0, none⟩ : Addr) = ad120 := (by injection e120)
                        (first | simp only [add_plain] at hx120_0 | simp only [add_at] at hx120_0 | simp only [Addr.add, Nat.zero_add] at hx120_0 | skip)
                        replace hx120_0 := (HB.out.cell (World.block_lt_of_cell? _ _ hx120_0)).trans hx120_0
                        replace p120 := eq_true p120
                        replace q120 := eq_true q120
                        have p121 : 0 ≤ ((ji11) : Int) := of_decide_eq_true (by first | (with_reducible assumption) | assumption)
                        have q121 : (ji11) < (gtab3.length : Int) := (by have h_ : ((ji11) : Int) < (8 : Int) := (of_decide_eq_true (by first | (with_reducible assumption) | assumption)); have e_ : gtab3.length = 8 := rfl; omega)
                        have qg121 : (((ji11) : Int) < 8) = True := eq_true (by have e_ : gtab3.length = 8 := rfl; omega)
                        obtain ⟨ad121, e121, hx121_0⟩ := Kd.at_int HG3.out (ji11) p121 q121
                        obtain rfl : (⟨3, 0, none⟩ : Addr) = ad121 := (by injection e121)
                        (first | simp only [add_plain] at hx121_0 | simp only [add_at] at hx121_0 | simp only [Addr.add, Nat.zero_add] at hx121_0 | skip)
                        replace hx121_0 := (HB.out.cell (World.block_lt_of_cell? _ _ hx121_0)).trans hx121_0
                        replace p121 := eq_true p121
                        replace q121 := eq_true q121
                        obtain ⟨Ao21, co21, eo21⟩ := Kd.R_slice HO_0.out
                        subst eo21
                        have p122 : 0 ≤ ((ji16) : Int) := of_decide_eq_true (by first | (with_reducible assumption) | assumption)
                        have q122 : (ji16) < (l0.length : Int) := of_decide_eq_true (by first | (with_reducible assumption) | assumption)
                        obtain ⟨ad122, e122, hx122_0⟩ := Kd.at_int (Kd.R_reads' HO_0.out).2.2 (ji16) p122 q122
                        cases e122
                        replace p122 := eq_true p122
                        replace q122 := eq_true q122
                        have p19 : 0 ≤ ((ji16) : Int) := of_decide_eq_true (by first | (with_reducible assumption) | assumption)
                        have q19 : ((ji16) : Int) < ((l0.length : Int) : Int) := of_decide_eq_true (by first | (with_reducible assumption) | assumption)
                        obtain ⟨go19, co19, eo19, gb19, gl19, cl19, HG19⟩ := Kd.R_form HO_0.out (by omega)
                        (first | cases eo19 | (injection eo19 with ea_ en_ ec_; (first | subst ea_ | (injection ea_ with ea_; subst ea_)); subst ec_; clear en_))
                        have GB19 := Aside0.mk gb19
                        have GG19 := Aside0.mk HG19
                        clear gb19 gl19 HG19
                        have HMgo19 := Aside0.mk (show (P0_ go19 ∨ w.heap.size ≤ go19) from (HO_0.out.1 _ rfl))
                        (first | simp only [add_plain] at hx122_0 | skip)
                        obtain ⟨hx19_0, hf19_0⟩ := Kd.R_celln 0 HO_0.out ((ji16) : Int) p19 q19
                        replace p19 := eq_true p19
                        replace q19 := eq_true q19
                        have HP22 := Kd.R_putg HO_0.out ((ji16) : Int) (Go.bits .and .u8 (rd l0 (ji16)) (rd gtab2 (ji8)))
                        go_wp2_with (first | ((with_reducible refine gate_store (t := 5) (p := 53) rfl ?_); refine store_event (t := 5) (p := 53) (v := ?vo_w23) (w1 := (wc.setCell ⟨go19, ((ji16) : Int).toNat, none⟩ (.int .u8 (Go.bits .and .u8 (rd l0 (ji16)) (rd gtab2 (ji8)))))) ?hg ?ho ?hn ?hr ?_; (case ho => rfl); (case hg => rfl); (case hn => rfl); (case hr => first | (go_simp; done) | (go_simp; rfl)); intro w23 hw; have hg : wc.grownBy w23 (some go19) := (by rw [hw]; exact HP22.2); have hp_ : Kd.R (Kd.int .u8) 5 w23 w0.heap.size (fun k_ => (P0_ k_ ∨ w.heap.size ≤ k_)) (.slice (some ⟨go19, 0, none⟩) l0.length co21) y123 := (by rw [hw, Ny123.out]; exact HP22.1); clear HP22; have n0_ := Aside0.mk (hp_); have n1_ := Aside0.mk ((by rw [hw]; exact below_set (HB.out) GB19.out : Below w0.heap.size w0 w23)); have n2_ := Aside0.mk (Kept.of_grown (S := (fun k_ => P0_ k_)) hg (by repeat (first | (with_reducible first | exact HK.out | apply Kept.alloc | apply Kept.drewN | apply Kept.drew) | exact HK.out)) (fun k_ e_ => (HO_0.out.1 k_ e_))); clear HO_0; clear HB; clear HK; have HO_0 := n0_; have HB := n1_; have HK := n2_; clear n0_ n1_ n2_; clear hg hw hp_; have p124 : 0 ≤ ((ji16) : Int) := of_decide_eq_true (by first | (with_reducible assumption) | assumption); have q124 : (ji16) < (y123.length : Int) := (by have h_ : ((ji16) : Int) < ((l0.length : Int) : Int) := of_decide_eq_true (by first | (with_reducible assumption) | assumption); first | (have e_ := (Kd.R_reads' HO_0.out).1; omega) | simpa only [Ny123.out, List.length_set] using h_); have ql124 : (((ji16) : Int) < ((l0.length : Int) : Int)) = True := eq_true (of_decide_eq_true (by first | (with_reducible assumption) | assumption)); obtain ⟨ad124, e124, hx124_0⟩ := Kd.at_int (Kd.R_reads' HO_0.out).2.2 (ji16) p124 q124; obtain rfl : (⟨go19, 0, none⟩ : Addr) = ad124 := (by injection e124); (first | simp only [add_plain] at hx124_0 | simp only [add_at] at hx124_0 | simp only [Addr.add, Nat.zero_add] at hx124_0 | skip); replace p124 := eq_true p124; replace q124 := eq_true q124; have p20 : 0 ≤ ((ji16) : Int) := of_decide_eq_true (by first | (with_reducible assumption) | assumption); have q20 : ((ji16) : Int) < ((l0.length : Int) : Int) := of_decide_eq_true (by first | (with_reducible assumption) | assumption); obtain ⟨hx20_0, hf20_0⟩ := Kd.R_celln 0 HO_0.out ((ji16) : Int) p20 q20; replace p20 := eq_true p20; replace q20 := eq_true q20; obtain ⟨hy24_, hz24_⟩ := Kd.R_celln 0 HO_0.out ((ji16) : Int) (of_decide_eq_true (by first | (with_reducible assumption) | assumption)) (of_decide_eq_true (by first | (with_reducible assumption) | assumption)); have HP24 := Kd.R_putg HO_0.out ((ji16) : Int) (Go.bits .or .u8 (rd y123 (ji16)) (Go.bits .andNot .u8 x10_5 (rd gtab2 (ji8))))) | ((with_reducible refine gate_store (t := 5) (p := 62) rfl ?_); refine store_event (t := 5) (p := 62) (v := ?vo_w25) (w1 := (w23.setCell ⟨go19, ((ji16) : Int).toNat, none⟩ (.int .u8 (Go.bits .or .u8 (rd y123 (ji16)) (Go.bits .andNot .u8 x10_5 (rd gtab2 (ji8))))))) ?hg ?ho ?hn ?hr ?_; (case ho => rfl); (case hg => rfl); (case hn => rfl); (case hr => first | (go_simp; done) | (go_simp; rfl)); intro w25 hw; have hg : w23.grownBy w25 (some go19) := (by rw [hw]; exact HP24.2); have hp_ : Kd.R (Kd.int .u8) 5 w25 w0.heap.size (fun k_ => (P0_ k_ ∨ w.heap.size ≤ k_)) (.slice (some ⟨go19, 0, none⟩) l0.length co21) y125 := (by rw [hw, Ny125.out]; exact HP24.1); clear HP24; have n0_ := Aside0.mk (hp_); have n1_ := Aside0.mk ((by rw [hw]; exact below_set (HB.out) GB19.out : Below w0.heap.size w0 w25)); have n2_ := Aside0.mk (Kept.of_grown (S := (fun k_ => P0_ k_)) hg (by repeat (first | (with_reducible first | exact HK.out | apply Kept.alloc | apply Kept.drewN | apply Kept.drew) | exact HK.out)) (fun k_ e_ => (HO_0.out.1 k_ e_))); clear HO_0; clear HB; clear HK; have HO_0 := n0_; have HB := n1_; have HK := n2_; clear n0_ n1_ n2_; clear hg hw hp_))
                        first | go_end0 | ((try simp only [Exit.inBlock, Exit.then]); refine bodyPost_ret (results_none rfl _ _ _) rfl ?_)
                        exact ⟨by first | rfl | (simp [errW_none, errW_some] <;> rfl) | (simp only [← hji8, ← hji11, ← hji16]; first | rfl | (simp [errW_none, errW_some] <;> rfl)) | (simp [*, errW_none, errW_some] <;> rfl), by (with_reducible repeat (first | apply Kd.R_alloc | apply Kd.R_drewN | apply Kd.R_drew)); exact HO_0.out, by repeat (first | (with_reducible first | exact HB.out | apply below_alloc | apply pw_below_drewN | apply below_drew1) | exact HB.out), by repeat (first | (with_reducible first | exact HK.out | apply Kept.alloc | apply Kept.drewN | apply Kept.drew) | exact HK.out)⟩
                      · rw [if_neg c18] at H
                        exact absurd H (by simp)
                    · rw [if_neg c17] at H
                      exact absurd H (by simp)
                  · rw [if_neg c15] at H
                    have c15b0 : ((ji11) == 0) = false := beq_eq_false_iff_ne.mpr c15
                    have c15b1 : ((ji11) != 0) = true := bne_iff_ne.mpr c15
                    obtain ⟨ji26, hji26⟩ : ∃ j_ : Int, (wrap64 (Int.tdiv a1 8)) = j_ := ⟨_, rfl⟩
                    replace H : (if 0 ≤ (ji26) then (if (ji26) < (l0.length : Int) then ((some (l0.set ((ji26) : Int).toNat (Go.bits .and .u8 (rd l0 (ji26)) (Go.bits .or .u8 (rd gtab2 (ji8)) (rd gtab3 (ji11)))) : List Int)).bind fun y127 => (some (y127.set ((ji26) : Int).toNat (Go.bits .or .u8 (rd y127 (ji26)) (Go.bits .andNot .u8 x10_5 (Go.bits .or .u8 (rd gtab2 (ji8)) (rd gtab3 (ji11)))))))) else (none)) else (none)) = some r := by first | (rw [hji26] at H; exact H) | (simp only [hji26] at H ⊢; exact H)
                    (try rw [hji26] at c14b0)
                    (try rw [hji26] at c14b1)
                    have hji26w : (IntKind.i64.wrap (Int.tdiv a1 8)) = ji26 := (i64_w _).trans hji26
                    by_cases c27 : 0 ≤ (ji26)
                    · rw [if_pos c27] at H
                      have c27b0 : decide (0 ≤ (ji26)) = true := decide_eq_true c27
                      clear c27
                      by_cases c28 : (ji26) < (l0.length : Int)
                      · rw [if_pos c28] at H
                        have c28b0 : decide ((ji26) < (l0.length : Int)) = true := decide_eq_true c28
                        clear c28
                        obtain ⟨y127, hy127⟩ : ∃ y_ : List Int, y_ = (l0.set ((ji26) : Int).toNat (Go.bits .and .u8 (rd l0 (ji26)) (Go.bits .or .u8 (rd gtab2 (ji8)) (rd gtab3 (ji11))))) := ⟨_, rfl⟩
                        replace H : (some (y127.set ((ji26) : Int).toNat (Go.bits .or .u8 (rd y127 (ji26)) (Go.bits .andNot .u8 x10_5 (Go.bits .or .u8 (rd gtab2 (ji8)) (rd gtab3 (ji11))))))) = some r := by first | (rw [hy127]; with_reducible exact H) | (have H2_ := (Option.bind_some _ _).symm.trans H; rw [hy127]; with_reducible exact H2_) | (have H2_ := (Option.bind_some _ _).symm.trans H; with_reducible exact H2_) | with_reducible exact H | (rw [hy127]; exact H) | exact H
                        have Ny127 := Aside0.mk hy127
                        clear hy127
                        obtain ⟨y129, hy129⟩ : ∃ y_ : List Int, y_ = (y127.set ((ji26) : Int).toNat (Go.bits .or .u8 (rd y127 (ji26)) (Go.bits .andNot .u8 x10_5 (Go.bits .or .u8 (rd gtab2 (ji8)) (rd gtab3 (ji11)))))) := ⟨_, rfl⟩
                        replace H : (some y129) = some r := by first | (rw [hy129]; with_reducible exact H) | (have H2_ := (Option.bind_some _ _).symm.trans H; rw [hy129]; with_reducible exact H2_) | (have H2_ := (Option.bind_some _ _).symm.trans H; with_reducible exact H2_) | with_reducible exact H | (rw [hy129]; exact H) | exact H
                        have Ny129 := Aside0.mk hy129
                        clear hy129
                        obtain rfl := Option.some.inj H
                        have p120 : 0 ≤ ((ji8) : Int) := of_decide_eq_true (by first | (with_reducible assumption) | assumption)
                        have q120 : (ji8) < (gtab2.length : Int) := (by have h_ : ((ji8) : Int) < (8 : Int) := (of_decide_eq_true (by first | (with_reducible assumption) | assumption)); have e_ : gtab2.length = 8 := rfl; omega)
                        have qg120 : (((ji8) : Int) < 8) = True := eq_true (by have e_ : gtab2.length = 8 := rfl; omega)
                        obtain ⟨ad120, e120, hx120_0⟩ := Kd.at_int HG2.out (ji8) p120 q120
                        obtain rfl : (⟨2, 0, none⟩ : Addr) = ad120 := (by injection e120)
                        (first | simp only [add_plain] at hx120_0 | simp only [add_at] at hx120_0 | simp only [Addr.add, Nat.zero_add] at hx120_0 | skip)
                        replace hx120_0 := (HB.out.cell (World.block_lt_of_cell? _ _ hx120_0)).trans hx120_0
                        replace p120 := eq_true p120
                        replace q120 := eq_true q120
                        have p121 : 0 ≤ ((ji11) : Int) := of_decide_eq_true (by first | (with_reducible assumption) | assumption)
                        have q121 : (ji11) < (gtab3.length : Int) := (by have h_ : ((ji11) : Int) < (8 : Int) := (of_decide_eq_true (by first | (with_reducible assumption) | assumption)); have e_ : gtab3.length = 8 := rfl; omega)
                        have qg121 : (((ji11) : Int) < 8) = True := eq_true (by have e_ : gtab3.length = 8 := rfl; omega)
                        obtain ⟨ad121, e121, hx121_0⟩ := Kd.at_int HG3.out (ji11) p121 q121
                        obtain rfl : (⟨3, 0, none⟩ : Addr) = ad121 := (by injection e121)
                        (first | simp only [add_plain] at hx121_0 | simp only [add_at] at hx121_0 | simp only [Addr.add, Nat.zero_add] at hx121_0 | skip)
                        replace hx121_0 := (HB.out.cell (World.block_lt_of_cell? _ _ hx121_0)).trans hx121_0
                        replace p121 := eq_true p121
                        replace q121 := eq_true q121
                        obtain ⟨Ao31, co31, eo31⟩ := Kd.R_slice HO_0.out
                        subst eo31
                        have p126 : 0 ≤ ((ji26) : Int) := of_decide_eq_true (by first | (with_reducible assumption) | assumption)
                        have q126 : (ji26) < (l0.length : Int) := of_decide_eq_true (by first | (with_reducible assumption) | assumption)
                        obtain ⟨ad126, e126, hx126_0⟩ := Kd.at_int (Kd.R_reads' HO_0.out).2.2 (ji26) p126 q126
                        cases e126
                        replace p126 := eq_true p126
                        replace q126 := eq_true q126
                        have p29 : 0 ≤ ((ji26) : Int) := of_decide_eq_true (by first | (with_reducible assumption) | assumption)
                        have q29 : ((ji26) : Int) < ((l0.length : Int) : Int) := of_decide_eq_true (by first | (with_reducible assumption) | assumption)
                        obtain ⟨go29, co29, eo29, gb29, gl29, cl29, HG29⟩ := Kd.R_form HO_0.out (by omega)
                        (first | cases eo29 | (injection eo29 with ea_ en_ ec_; (first | subst ea_ | (injection ea_ with ea_; subst ea_)); subst ec_; clear en_))
                        have GB29 := Aside0.mk gb29
                        have GG29 := Aside0.mk HG29
                        clear gb29 gl29 HG29
                        have HMgo29 := Aside0.mk (show (P0_ go29 ∨ w.heap.size ≤ go29) from (HO_0.out.1 _ rfl))
                        (first | simp only [add_plain] at hx126_0 | skip)
                        obtain ⟨hx29_0, hf29_0⟩ := Kd.R_celln 0 HO_0.out ((ji26) : Int) p29 q29
                        replace p29 := eq_true p29
                        replace q29 := eq_true q29
                        have HP32 := Kd.R_putg HO_0.out ((ji26) : Int) (Go.bits .and .u8 (rd l0 (ji26)) (Go.bits .or .u8 (rd gtab2 (ji8)) (rd gtab3 (ji11))))
                        go_wp2_with (first | ((with_reducible refine gate_store (t := 5) (p := 53) rfl ?_); refine store_event (t := 5) (p := 53) (v := ?vo_w33) (w1 := (wc.setCell ⟨go29, ((ji26) : Int).toNat, none⟩ (.int .u8 (Go.bits .and .u8 (rd l0 (ji26)) (Go.bits .or .u8 (rd gtab2 (ji8)) (rd gtab3 (ji11))))))) ?hg ?ho ?hn ?hr ?_; (case ho => rfl); (case hg => rfl); (case hn => rfl); (case hr => first | (go_simp; done) | (go_simp; rfl)); intro w33 hw; have hg : wc.grownBy w33 (some go29) := (by rw [hw]; exact HP32.2); have hp_ : Kd.R (Kd.int .u8) 5 w33 w0.heap.size (fun k_ => (P0_ k_ ∨ w.heap.size ≤ k_)) (.slice (some ⟨go29, 0, none⟩) l0.length co31) y127 := (by rw [hw, Ny127.out]; exact HP32.1); clear HP32; have n0_ := Aside0.mk (hp_); have n1_ := Aside0.mk ((by rw [hw]; exact below_set (HB.out) GB29.out : Below w0.heap.size w0 w33)); have n2_ := Aside0.mk (Kept.of_grown (S := (fun k_ => P0_ k_)) hg (by repeat (first | (with_reducible first | exact HK.out | apply Kept.alloc | apply Kept.drewN | apply Kept.drew) | exact HK.out)) (fun k_ e_ => (HO_0.out.1 k_ e_))); clear HO_0; clear HB; clear HK; have HO_0 := n0_; have HB := n1_; have HK := n2_; clear n0_ n1_ n2_; clear hg hw hp_; have p128 : 0 ≤ ((ji26) : Int) := of_decide_eq_true (by first | (with_reducible assumption) | assumption); have q128 : (ji26) < (y127.length : Int) := (by have h_ : ((ji26) : Int) < ((l0.length : Int) : Int) := of_decide_eq_true (by first | (with_reducible assumption) | assumption); first | (have e_ := (Kd.R_reads' HO_0.out).1; omega) | simpa only [Ny127.out, List.length_set] using h_); have ql128 : (((ji26) : Int) < ((l0.length : Int) : Int)) = True := eq_true (of_decide_eq_true (by first | (with_reducible assumption) | assumption)); obtain ⟨ad128, e128, hx128_0⟩ := Kd.at_int (Kd.R_reads' HO_0.out).2.2 (ji26) p128 q128; obtain rfl : (⟨go29, 0, none⟩ : Addr) = ad128 := (by injection e128); (first | simp only [add_plain] at hx128_0 | simp only [add_at] at hx128_0 | simp only [Addr.add, Nat.zero_add] at hx128_0 | skip); replace p128 := eq_true p128; replace q128 := eq_true q128; have p30 : 0 ≤ ((ji26) : Int) := of_decide_eq_true (by first | (with_reducible assumption) | assumption); have q30 : ((ji26) : Int) < ((l0.length : Int) : Int) := of_decide_eq_true (by first | (with_reducible assumption) | assumption); obtain ⟨hx30_0, hf30_0⟩ := Kd.R_celln 0 HO_0.out ((ji26) : Int) p30 q30; replace p30 := eq_true p30; replace q30 := eq_true q30; obtain ⟨hy34_, hz34_⟩ := Kd.R_celln 0 HO_0.out ((ji26) : Int) (of_decide_eq_true (by first | (with_reducible assumption) | assumption)) (of_decide_eq_true (by first | (with_reducible assumption) | assumption)); have HP34 := Kd.R_putg HO_0.out ((ji26) : Int) (Go.bits .or .u8 (rd y127 (ji26)) (Go.bits .andNot .u8 x10_5 (Go.bits .or .u8 (rd gtab2 (ji8)) (rd gtab3 (ji11)))))) | ((with_reducible refine gate_store (t := 5) (p := 62) rfl ?_); refine store_event (t := 5) (p := 62) (v := ?vo_w35) (w1 := (w33.setCell ⟨go29, ((ji26) : Int).toNat, none⟩ (.int .u8 (Go.bits .or .u8 (rd y127 (ji26)) (Go.bits .andNot .u8 x10_5 (Go.bits .or .u8 (rd gtab2 (ji8)) (rd gtab3 (ji11)))))))) ?hg ?ho ?hn ?hr ?_; (case ho => rfl); (case hg => rfl); (case hn => rfl); (case hr => first | (go_simp; done) | (go_simp; rfl)); intro w35 hw; have hg : w33.grownBy w35 (some go29) := (by rw [hw]; exact HP34.2); have hp_ : Kd.R (Kd.int .u8) 5 w35 w0.heap.size (fun k_ => (P0_ k_ ∨ w.heap.size ≤ k_)) (.slice (some ⟨go29, 0, none⟩) l0.length co31) y129 := (by rw [hw, Ny129.out]; exact HP34.1); clear HP34; have n0_ := Aside0.mk (hp_); have n1_ := Aside0.mk ((by rw [hw]; exact below_set (HB.out) GB29.out : Below w0.heap.size w0 w35)); have n2_ := Aside0.mk (Kept.of_grown (S := (fun k_ => P0_ k_)) hg (by repeat (first | (with_reducible first | exact HK.out | apply Kept.alloc | apply Kept.drewN | apply Kept.drew) | exact HK.out)) (fun k_ e_ => (HO_0.out.1 k_ e_))); clear HO_0; clear HB; clear HK; have HO_0 := n0_; have HB := n1_; have HK := n2_; clear n0_ n1_ n2_; clear hg hw hp_))
                        first | go_end0 | ((try simp only [Exit.inBlock, Exit.then]); refine bodyPost_ret (results_none rfl _ _ _) rfl ?_)
                        exact ⟨by first | rfl | (simp [errW_none, errW_some] <;> rfl) | (simp only [← hji8, ← hji11, ← hji26]; first | rfl | (simp [errW_none, errW_some] <;> rfl)) | (simp [*, errW_none, errW_some] <;> rfl), by (with_reducible repeat (first | apply Kd.R_alloc | apply Kd.R_drewN | apply Kd.R_drew)); exact HO_0.out, by repeat (first | (with_reducible first | exact HB.out | apply below_alloc | apply pw_below_drewN | apply below_drew1) | exact HB.out), by repeat (first | (with_reducible first | exact HK.out | apply Kept.alloc | apply Kept.drewN | apply Kept.drew) | exact HK.out)⟩
                      · rw [if_neg c28] at H
                        exact absurd H (by simp)
                    · rw [if_neg c27] at H
                      exact absurd H (by simp)
                · rw [if_neg c14] at H
                  have c14b0 : ((wrap64 ((wrap64 (Int.tdiv (wrap64 (a1 + a2)) 8)) + 1)) == (wrap64 ((wrap64 (Int.tdiv a1 8)) + 1))) = false := beq_eq_false_iff_ne.mpr c14
                  have c14b1 : ((wrap64 ((wrap64 (Int.tdiv (wrap64 (a1 + a2)) 8)) + 1)) != (wrap64 ((wrap64 (Int.tdiv a1 8)) + 1))) = true := bne_iff_ne.mpr c14
                  obtain ⟨ji36, hji36⟩ : ∃ j_ : Int, (wrap64 (Int.tdiv a1 8)) = j_ := ⟨_, rfl⟩
                  replace H : (if 0 ≤ (ji36) then (if (ji36) < (l0.length : Int) then ((some (l0.set ((ji36) : Int).toNat (Go.bits .and .u8 (rd l0 (ji36)) (rd gtab2 (ji8))) : List Int)).bind fun y131 => ((some (y131.set ((ji36) : Int).toNat (Go.bits .or .u8 (rd y131 (ji36)) (Go.bits .andNot .u8 x10_5 (rd gtab2 (ji8)))) : List Int)).bind fun y133 => (if (wrap64 ((wrap64 ((wrap64 (Int.tdiv (wrap64 (a1 + a2)) 8)) + 1)) - (ji36))) > 2 then ((memory_Set.f kj5 y133 x10_5 (wrap64 ((ji36) + 1)) (wrap64 ((wrap64 ((wrap64 (Int.tdiv (wrap64 (a1 + a2)) 8)) + 1)) - 1))).bind fun t134 => (if (ji11) = 0 then (some t134) else (if 0 ≤ (wrap64 ((wrap64 ((wrap64 (Int.tdiv (wrap64 (a1 + a2)) 8)) + 1)) - 1)) then (if (wrap64 ((wrap64 ((wrap64 (Int.tdiv (wrap64 (a1 + a2)) 8)) + 1)) - 1)) < (l0.length : Int) then ((some (t134.set ((wrap64 ((wrap64 ((wrap64 (Int.tdiv (wrap64 (a1 + a2)) 8)) + 1)) - 1)) : Int).toNat (Go.bits .and .u8 (rd t134 (wrap64 ((wrap64 ((wrap64 (Int.tdiv (wrap64 (a1 + a2)) 8)) + 1)) - 1))) (rd gtab3 (ji11))) : List Int)).bind fun y136 => (some (y136.set ((wrap64 ((wrap64 ((wrap64 (Int.tdiv (wrap64 (a1 + a2)) 8)) + 1)) - 1)) : Int).toNat (Go.bits .or .u8 (rd y136 (wrap64 ((wrap64 ((wrap64 (Int.tdiv (wrap64 (a1 + a2)) 8)) + 1)) - 1))) (Go.bits .andNot .u8 x10_5 (rd gtab3 (ji11))))))) else (none)) else (none)))) else (if (ji11) = 0 then (some y133) else (if 0 ≤ (wrap64 ((wrap64 ((wrap64 (Int.tdiv (wrap64 (a1 + a2)) 8)) + 1)) - 1)) then (if (wrap64 ((wrap64 ((wrap64 (Int.tdiv (wrap64 (a1 + a2)) 8)) + 1)) - 1)) < (l0.length : Int) then ((some (y133.set ((wrap64 ((wrap64 ((wrap64 (Int.tdiv (wrap64 (a1 + a2)) 8)) + 1)) - 1)) : Int).toNat (Go.bits .and .u8 (rd y133 (wrap64 ((wrap64 ((wrap64 (Int.tdiv (wrap64 (a1 + a2)) 8)) + 1)) - 1))) (rd gtab3 (ji11))) : List Int)).bind fun y140 => (some (y140.set ((wrap64 ((wrap64 ((wrap64 (Int.tdiv (wrap64 (a1 + a2)) 8)) + 1)) - 1)) : Int).toNat (Go.bits .or .u8 (rd y140 (wrap64 ((wrap64 ((wrap64 (Int.tdiv (wrap64 (a1 + a2)) 8)) + 1)) - 1))) (Go.bits .andNot .u8 x10_5 (rd gtab3 (ji11))))))) else (none)) else (none)))))) else (none)) else (none)) = some r := by first | (rw [hji36] at H; exact H) | (simp only [hji36] at H ⊢; exact H)
                  (try rw [hji36] at c14b0)
                  (try rw [hji36] at c14b1)
                  have hji36w : (IntKind.i64.wrap (Int.tdiv a1 8)) = ji36 := (i64_w _).trans hji36
                  by_cases c37 : 0 ≤ (ji36)
                  · rw [if_pos c37] at H
                    have c37b0 : decide (0 ≤ (ji36)) = true := decide_eq_true c37
                    clear c37
                    by_cases c38 : (ji36) < (l0.length : Int)
                    · rw [if_pos c38] at H
                      have c38b0 : decide ((ji36) < (l0.length : Int)) = true := decide_eq_true c38
                      clear c38
                      obtain ⟨y131, hy131⟩ : ∃ y_ : List Int, y_ = (l0.set ((ji36) : Int).toNat (Go.bits .and .u8 (rd l0 (ji36)) (rd gtab2 (ji8)))) := ⟨_, rfl⟩
                      replace H : ((some (y131.set ((ji36) : Int).toNat (Go.bits .or .u8 (rd y131 (ji36)) (Go.bits .andNot .u8 x10_5 (rd gtab2 (ji8)))) : List Int)).bind fun y133 => (if (wrap64 ((wrap64 ((wrap64 (Int.tdiv (wrap64 (a1 + a2)) 8)) + 1)) - (ji36))) > 2 then ((memory_Set.f kj5 y133 x10_5 (wrap64 ((ji36) + 1)) (wrap64 ((wrap64 ((wrap64 (Int.tdiv (wrap64 (a1 + a2)) 8)) + 1)) - 1))).bind fun t134 => (if (ji11) = 0 then (some t134) else (if 0 ≤ (wrap64 ((wrap64 ((wrap64 (Int.tdiv (wrap64 (a1 + a2)) 8)) + 1)) - 1)) then (if (wrap64 ((wrap64 ((wrap64 (Int.tdiv (wrap64 (a1 + a2)) 8)) + 1)) - 1)) < (l0.length : Int) then ((some (t134.set ((wrap64 ((wrap64 ((wrap64 (Int.tdiv (wrap64 (a1 + a2)) 8)) + 1)) - 1)) : Int).toNat (Go.bits .and .u8 (rd t134 (wrap64 ((wrap64 ((wrap64 (Int.tdiv (wrap64 (a1 + a2)) 8)) + 1)) - 1))) (rd gtab3 (ji11))) : List Int)).bind fun y136 => (some (y136.set ((wrap64 ((wrap64 ((wrap64 (Int.tdiv (wrap64 (a1 + a2)) 8)) + 1)) - 1)) : Int).toNat (Go.bits .or .u8 (rd y136 (wrap64 ((wrap64 ((wrap64 (Int.tdiv (wrap64 (a1 + a2)) 8)) + 1)) - 1))) (Go.bits .andNot .u8 x10_5 (rd gtab3 (ji11))))))) else (none)) else (none)))) else (if (ji11) = 0 then (some y133) else (if 0 ≤ (wrap64 ((wrap64 ((wrap64 (Int.tdiv (wrap64 (a1 + a2)) 8)) + 1)) - 1)) then (if (wrap64 ((wrap64 ((wrap64 (Int.tdiv (wrap64 (a1 + a2)) 8)) + 1)) - 1)) < (l0.length : Int) then ((some (y133.set ((wrap64 ((wrap64 ((wrap64 (Int.tdiv (wrap64 (a1 + a2)) 8)) + 1)) - 1)) : Int).toNat (Go.bits .and .u8 (rd y133 (wrap64 ((wrap64 ((wrap64 (Int.tdiv (wrap64 (a1 + a2)) 8)) + 1)) - 1))) (rd gtab3 (ji11))) : List Int)).bind fun y140 => (some (y140.set ((wrap64 ((wrap64 ((wrap64 (Int.tdiv (wrap64 (a1 + a2)) 8)) + 1)) - 1)) : Int).toNat (Go.bits .or .u8 (rd y140 (wrap64 ((wrap64 ((wrap64 (Int.tdiv (wrap64 (a1 + a2)) 8)) + 1)) - 1))) (Go.bits .andNot .u8 x10_5 (rd gtab3 (ji11))))))) else (none)) else (none))))) = some r := by first | (rw [hy131]; with_reducible exact H) | (have H2_ := (Option.bind_some _ _).symm.trans H; rw [hy131]; with_reducible exact H2_) | (have H2_ := (Option.bind_some _ _).symm.trans H; with_reducible exact H2_) | with_reducible exact H | (rw [hy131]; exact H) | exact H
                      have Ny131 := Aside0.mk hy131
                      clear hy131
                      obtain ⟨y133, hy133⟩ : ∃ y_ : List Int, y_ = (y131.set ((ji36) : Int).toNat (Go.bits .or .u8 (rd y131 (ji36)) (Go.bits .andNot .u8 x10_5 (rd gtab2 (ji8))))) := ⟨_, rfl⟩
                      replace H : (if (wrap64 ((wrap64 ((wrap64 (Int.tdiv (wrap64 (a1 + a2)) 8)) + 1)) - (ji36))) > 2 then ((memory_Set.f kj5 y133 x10_5 (wrap64 ((ji36) + 1)) (wrap64 ((wrap64 ((wrap64 (Int.tdiv (wrap64 (a1 + a2)) 8)) + 1)) - 1))).bind fun t134 => (if (ji11) = 0 then (some t134) else (if 0 ≤ (wrap64 ((wrap64 ((wrap64 (Int.tdiv (wrap64 (a1 + a2)) 8)) + 1)) - 1)) then (if (wrap64 ((wrap64 ((wrap64 (Int.tdiv (wrap64 (a1 + a2)) 8)) + 1)) - 1)) < (l0.length : Int) then ((some (t134.set ((wrap64 ((wrap64 ((wrap64 (Int.tdiv (wrap64 (a1 + a2)) 8)) + 1)) - 1)) : Int).toNat (Go.bits .and .u8 (rd t134 (wrap64 ((wrap64 ((wrap64 (Int.tdiv (wrap64 (a1 + a2)) 8)) + 1)) - 1))) (rd gtab3 (ji11))) : List Int)).bind fun y136 => (some (y136.set ((wrap64 ((wrap64 ((wrap64 (Int.tdiv (wrap64 (a1 + a2)) 8)) + 1)) - 1)) : Int).toNat (Go.bits .or .u8 (rd y136 (wrap64 ((wrap64 ((wrap64 (Int.tdiv (wrap64 (a1 + a2)) 8)) + 1)) - 1))) (Go.bits .andNot .u8 x10_5 (rd gtab3 (ji11))))))) else (none)) else (none)))) else (if (ji11) = 0 then (some y133) else (if 0 ≤ (wrap64 ((wrap64 ((wrap64 (Int.tdiv (wrap64 (a1 + a2)) 8)) + 1)) - 1)) then (if (wrap64 ((wrap64 ((wrap64 (Int.tdiv (wrap64 (a1 + a2)) 8)) + 1)) - 1)) < (l0.length : Int) then ((some (y133.set ((wrap64 ((wrap64 ((wrap64 (Int.tdiv (wrap64 (a1 + a2)) 8)) + 1)) - 1)) : Int).toNat (Go.bits .and .u8 (rd y133 (wrap64 ((wrap64 ((wrap64 (Int.tdiv (wrap64 (a1 + a2)) 8)) + 1)) - 1))) (rd gtab3 (ji11))) : List Int)).bind fun y140 => (some (y140.set ((wrap64 ((wrap64 ((wrap64 (Int.tdiv (wrap64 (a1 + a2)) 8)) + 1)) - 1)) : Int).toNat (Go.bits .or .u8 (rd y140 (wrap64 ((wrap64 ((wrap64 (Int.tdiv (wrap64 (a1 + a2)) 8)) + 1)) - 1))) (Go.bits .andNot .u8 x10_5 (rd gtab3 (ji11))))))) else (none)) else (none)))) = some r := by first | (rw [hy133]; with_reducible exact H) | (have H2_ := (Option.bind_some _ _).symm.trans H; rw [hy133]; with_reducible exact H2_) | (have H2_ := (Option.bind_some _ _).symm.trans H; with_reducible exact H2_) | with_reducible exact H | (rw [hy133]; exact H) | exact H
                      have Ny133 := Aside0.mk hy133
                      clear hy133
                      by_cases c41 : (wrap64 ((wrap64 ((wrap64 (Int.tdiv (wrap64 (a1 + a2)) 8)) + 1)) - (ji36))) > 2
                      · rw [if_pos c41] at H
                        have c41b0 : decide (2 < (wrap64 ((wrap64 ((wrap64 (Int.tdiv (wrap64 (a1 + a2)) 8)) + 1)) - (ji36)))) = true := decide_eq_true c41
                        clear c41
                        replace H := Option.bind_eq_some_iff.mp H
                        obtain ⟨t134, A420, H⟩ := H
                        replace H : (if (ji11) = 0 then (some t134) else (if 0 ≤ (wrap64 ((wrap64 ((wrap64 (Int.tdiv (wrap64 (a1 + a2)) 8)) + 1)) - 1)) then (if (wrap64 ((wrap64 ((wrap64 (Int.tdiv (wrap64 (a1 + a2)) 8)) + 1)) - 1)) < (l0.length : Int) then ((some (t134.set ((wrap64 ((wrap64 ((wrap64 (Int.tdiv (wrap64 (a1 + a2)) 8)) + 1)) - 1)) : Int).toNat (Go.bits .and .u8 (rd t134 (wrap64 ((wrap64 ((wrap64 (Int.tdiv (wrap64 (a1 + a2)) 8)) + 1)) - 1))) (rd gtab3 (ji11))) : List Int)).bind fun y136 => (some (y136.set ((wrap64 ((wrap64 ((wrap64 (Int.tdiv (wrap64 (a1 + a2)) 8)) + 1)) - 1)) : Int).toNat (Go.bits .or .u8 (rd y136 (wrap64 ((wrap64 ((wrap64 (Int.tdiv (wrap64 (a1 + a2)) 8)) + 1)) - 1))) (Go.bits .andNot .u8 x10_5 (rd gtab3 (ji11))))))) else (none)) else (none))) = some r := H
                        have A42 := Aside0.mk A420
                        clear A420
                        by_cases c43 : (ji11) = 0
                        · rw [if_pos c43] at H
                          have c43b0 : ((ji11) == 0) = true := beq_iff_eq.mpr c43
                          have c43b1 : ((ji11) != 0) = false := bne_eq_false_iff_eq.mpr c43
                          clear c43
                          obtain rfl := Option.some.inj H
                          have p120 : 0 ≤ ((ji8) : Int) := of_decide_eq_true (by first | (with_reducible assumption) | assumption)
                          have q120 : (ji8) < (gtab2.length : Int) := (by have h_ : ((ji8) : Int) < (8 : Int) := (of_decide_eq_true (by first | (with_reducible assumption) | assumption)); have e_ : gtab2.length = 8 := rfl; omega)
                          have qg120 : (((ji8) : Int) < 8) = True := eq_true (by have e_ : gtab2.length = 8 := rfl; omega)
                          obtain ⟨ad120, e120, hx120_0⟩ := Kd.at_int HG2.out (ji8) p120 q120
                          obtain rfl : (⟨2, 0, none⟩ : Addr) = ad120 := (by injection e120)
                          (first | simp only [add_plain] at hx120_0 | simp only [add_at] at hx120_0 | simp only [Addr.add, Nat.zero_add] at hx120_0 | skip)
                          replace hx120_0 := (HB.out.cell (World.block_lt_of_cell? _ _ hx120_0)).trans hx120_0
                          replace p120 := eq_true p120
                          replace q120 := eq_true q120
                          have p121 : 0 ≤ ((ji11) : Int) := of_decide_eq_true (by first | (with_reducible assumption) | assumption)
                          have q121 : (ji11) < (gtab3.length : Int) := (by have h_ : ((ji11) : Int) < (8 : Int) := (of_decide_eq_true (by first | (with_reducible assumption) | assumption)); have e_ : gtab3.length = 8 := rfl; omega)
                          have qg121 : (((ji11) : Int) < 8) = True := eq_true (by have e_ : gtab3.length = 8 := rfl; omega)
                          obtain ⟨ad121, e121, hx121_0⟩ := Kd.at_int HG3.out (ji11) p121 q121
                          obtain rfl : (⟨3, 0, none⟩ : Addr) = ad121 := (by injection e121)
                          (first | simp only [add_plain] at hx121_0 | simp only [add_at] at hx121_0 | simp only [Addr.add, Nat.zero_add] at hx121_0 | skip)
                          replace hx121_0 := (HB.out.cell (World.block_lt_of_cell? _ _ hx121_0)).trans hx121_0
                          replace p121 := eq_true p121
                          replace q121 := eq_true q121
                          obtain ⟨Ao44, co44, eo44⟩ := Kd.R_slice HO_0.out
                          subst eo44
                          have p130 : 0 ≤ ((ji36) : Int) := of_decide_eq_true (by first | (with_reducible assumption) | assumption)
                          have q130 : (ji36) < (l0.length : Int) := of_decide_eq_true (by first | (with_reducible assumption) | assumption)
                          obtain ⟨ad130, e130, hx130_0⟩ := Kd.at_int (Kd.R_reads' HO_0.out).2.2 (ji36) p130 q130
                          cases e130
                          replace p130 := eq_true p130
                          replace q130 := eq_true q130
                          have p39 : 0 ≤ ((ji36) : Int) := of_decide_eq_true (by first | (with_reducible assumption) | assumption)
                          have q39 : ((ji36) : Int) < ((l0.length : Int) : Int) := of_decide_eq_true (by first | (with_reducible assumption) | assumption)
                          obtain ⟨go39, co39, eo39, gb39, gl39, cl39, HG39⟩ := Kd.R_form HO_0.out (by omega)
                          (first | cases eo39 | (injection eo39 with ea_ en_ ec_; (first | subst ea_ | (injection ea_ with ea_; subst ea_)); subst ec_; clear en_))
                          have GB39 := Aside0.mk gb39
                          have GG39 := Aside0.mk HG39
                          clear gb39 gl39 HG39
                          have HMgo39 := Aside0.mk (show (P0_ go39 ∨ w.heap.size ≤ go39) from (HO_0.out.1 _ rfl))
                          (first | simp only [add_plain] at hx130_0 | skip)
                          obtain ⟨hx39_0, hf39_0⟩ := Kd.R_celln 0 HO_0.out ((ji36) : Int) p39 q39
                          replace p39 := eq_true p39
                          replace q39 := eq_true q39
                          have HP45 := Kd.R_putg HO_0.out ((ji36) : Int) (Go.bits .and .u8 (rd l0 (ji36)) (rd gtab2 (ji8)))
                          have hgd := memory_Set.guards A42.out
                          have hgn := Aside0.mk (show l0.length = y133.length by simp only [Ny133.out, Ny131.out, List.length_set])
                          have hgL := Aside0.mk (show ((((wrap64 ((ji36) + 1))).toNat : Nat) : Int) = (wrap64 ((ji36) + 1)) from Int.toNat_of_nonneg hgd.1)
                          have hgm := Aside0.mk (show ((((wrap64 ((wrap64 ((wrap64 (Int.tdiv (wrap64 (a1 + a2)) 8)) + 1)) - 1))).toNat - ((wrap64 ((ji36) + 1))).toNat : Nat) : Int) = (wrap64 ((wrap64 ((wrap64 (Int.tdiv (wrap64 (a1 + a2)) 8)) + 1)) - 1)) - (wrap64 ((ji36) + 1)) by have := hgd.1; have := hgd.2.1; omega)
                          obtain ⟨ti_, hti_, _, hts_, _⟩ := info_parts info5
                          have hcut := cut_own (P := Tryd.prog) 22 5 Tryd.underlying22 hti_ hts_ go39 l0.length co44 ((wrap64 ((ji36) + 1))) ((wrap64 ((wrap64 ((wrap64 (Int.tdiv (wrap64 (a1 + a2)) 8)) + 1)) - 1))) hgd.1 hgd.2.1 (by have := hgd.2.2.1; rw [hgn.out]; exact this) (own_cap HO_0.out)
                          clear hgd
                          go_wp2_with (first | ((with_reducible refine gate_store (t := 5) (p := 69) rfl ?_); refine store_event (t := 5) (p := 69) (v := ?vo_w46) (w1 := (wc.setCell ⟨go39, ((ji36) : Int).toNat, none⟩ (.int .u8 (Go.bits .and .u8 (rd l0 (ji36)) (rd gtab2 (ji8)))))) ?hg ?ho ?hn ?hr ?_; (case ho => rfl); (case hg => rfl); (case hn => rfl); (case hr => first | (go_simp; done) | (go_simp; rfl)); intro w46 hw; have hg : wc.grownBy w46 (some go39) := (by rw [hw]; exact HP45.2); have hp_ : Kd.R (Kd.int .u8) 5 w46 w0.heap.size (fun k_ => (P0_ k_ ∨ w.heap.size ≤ k_)) (.slice (some ⟨go39, 0, none⟩) l0.length co44) y131 := (by rw [hw, Ny131.out]; exact HP45.1); clear HP45; have n0_ := Aside0.mk (hp_); have n1_ := Aside0.mk ((by rw [hw]; exact below_set (HB.out) GB39.out : Below w0.heap.size w0 w46)); have n2_ := Aside0.mk (Kept.of_grown (S := (fun k_ => P0_ k_)) hg (by repeat (first | (with_reducible first | exact HK.out | apply Kept.alloc | apply Kept.drewN | apply Kept.drew) | exact HK.out)) (fun k_ e_ => (HO_0.out.1 k_ e_))); clear HO_0; clear HB; clear HK; have HO_0 := n0_; have HB := n1_; have HK := n2_; clear n0_ n1_ n2_; clear hg hw hp_; have p132 : 0 ≤ ((ji36) : Int) := of_decide_eq_true (by first | (with_reducible assumption) | assumption); have q132 : (ji36) < (y131.length : Int) := (by have h_ : ((ji36) : Int) < ((l0.length : Int) : Int) := of_decide_eq_true (by first | (with_reducible assumption) | assumption); first | (have e_ := (Kd.R_reads' HO_0.out).1; omega) | simpa only [Ny131.out, List.length_set] using h_); have ql132 : (((ji36) : Int) < ((l0.length : Int) : Int)) = True := eq_true (of_decide_eq_true (by first | (with_reducible assumption) | assumption)); obtain ⟨ad132, e132, hx132_0⟩ := Kd.at_int (Kd.R_reads' HO_0.out).2.2 (ji36) p132 q132; obtain rfl : (⟨go39, 0, none⟩ : Addr) = ad132 := (by injection e132); (first | simp only [add_plain] at hx132_0 | simp only [add_at] at hx132_0 | simp only [Addr.add, Nat.zero_add] at hx132_0 | skip); replace p132 := eq_true p132; replace q132 := eq_true q132; have p40 : 0 ≤ ((ji36) : Int) := of_decide_eq_true (by first | (with_reducible assumption) | assumption); have q40 : ((ji36) : Int) < ((l0.length : Int) : Int) := of_decide_eq_true (by first | (with_reducible assumption) | assumption); obtain ⟨hx40_0, hf40_0⟩ := Kd.R_celln 0 HO_0.out ((ji36) : Int) p40 q40; replace p40 := eq_true p40; replace q40 := eq_true q40; obtain ⟨hy47_, hz47_⟩ := Kd.R_celln 0 HO_0.out ((ji36) : Int) (of_decide_eq_true (by first | (with_reducible assumption) | assumption)) (of_decide_eq_true (by first | (with_reducible assumption) | assumption)); have HP47 := Kd.R_putg HO_0.out ((ji36) : Int) (Go.bits .or .u8 (rd y131 (ji36)) (Go.bits .andNot .u8 x10_5 (rd gtab2 (ji8))))) | ((with_reducible refine gate_store (t := 5) (p := 78) rfl ?_); refine store_event (t := 5) (p := 78) (v := ?vo_w48) (w1 := (w46.setCell ⟨go39, ((ji36) : Int).toNat, none⟩ (.int .u8 (Go.bits .or .u8 (rd y131 (ji36)) (Go.bits .andNot .u8 x10_5 (rd gtab2 (ji8))))))) ?hg ?ho ?hn ?hr ?_; (case ho => rfl); (case hg => rfl); (case hn => rfl); (case hr => first | (go_simp; done) | (go_simp; rfl)); intro w48 hw; have hg : w46.grownBy w48 (some go39) := (by rw [hw]; exact HP47.2); have hp_ : Kd.R (Kd.int .u8) 5 w48 w0.heap.size (fun k_ => (P0_ k_ ∨ w.heap.size ≤ k_)) (.slice (some ⟨go39, 0, none⟩) l0.length co44) y133 := (by rw [hw, Ny133.out]; exact HP47.1); clear HP47; have n0_ := Aside0.mk (hp_); have n1_ := Aside0.mk ((by rw [hw]; exact below_set (HB.out) GB39.out : Below w0.heap.size w0 w48)); have n2_ := Aside0.mk (Kept.of_grown (S := (fun k_ => P0_ k_)) hg (by repeat (first | (with_reducible first | exact HK.out | apply Kept.alloc | apply Kept.drewN | apply Kept.drew) | exact HK.out)) (fun k_ e_ => (HO_0.out.1 k_ e_))); clear HO_0; clear HB; clear HK; have HO_0 := n0_; have HB := n1_; have HK := n2_; clear n0_ n1_ n2_; clear hg hw hp_) | ((with_reducible refine gate_callee (f := 25) rfl ?_); refine goesL_ (some 90) rfl rfl Tryd.func25 (by kernel_rfl) rfl #[.slice (some ⟨go39, ((wrap64 ((ji36) + 1))).toNat, none⟩) (((wrap64 ((wrap64 ((wrap64 (Int.tdiv (wrap64 (a1 + a2)) 8)) + 1)) - 1))).toNat - ((wrap64 ((ji36) + 1))).toNat) (co44 - ((wrap64 ((ji36) + 1))).toNat), .int .u8 x10_5] rfl (by (try simp only [List.map_toArray, List.map_cons, List.map_nil]); first | done | (simp only [hji36]; rfl) | rfl | (simp only [List.length_drop, List.length_take]; rfl)) ?_; (with_reducible refine (memory_Set.calls kj5 (fun k_ => some k_ = (.slice (some ⟨go39, 0, none⟩) l0.length co44 : Value).ownBlock) go39 co44 _ _ _ l0.length y133 x10_5 (wrap64 ((ji36) + 1)) (wrap64 ((wrap64 ((wrap64 (Int.tdiv (wrap64 (a1 + a2)) 8)) + 1)) - 1)) t134 w0 _ hgL.out hgm.out hgn.out ?side1 ?side2 A42.out).mono ?_); (case side1 => repeat (first | (with_reducible first | exact HB.out | apply below_alloc | apply pw_below_drewN | apply below_drew1) | exact HB.out)); (case side2 => exact Kd.R_tight rfl HO_0.out); rintro e w49 ⟨rfl, hy0, hb, hkp⟩; refine ⟨_, rfl, ?_⟩; have n0_ := Aside0.mk (Kd.R_reok rfl hy0 (fun k_ e_ => HO_0.out.1 k_ e_)); have n1_ := Aside0.mk (Kept.then_ (S := (fun k_ => P0_ k_)) (by repeat (first | (with_reducible first | exact HK.out | apply Kept.alloc | apply Kept.drewN | apply Kept.drew) | exact HK.out)) hkp (fun k_ hs_ => (fun e_ => (HO_0.out.1 k_ e_.symm)) hs_)); have n2_ := Aside0.mk (hb); clear HO_0; clear HK; clear HB; have HO_0 := n0_; have HK := n1_; have HB := n2_; clear n0_ n1_ n2_; (try clear hb); (try clear hkp); (try clear hy0)))
                          first | go_end0 | ((try simp only [Exit.inBlock, Exit.then]); refine bodyPost_ret (results_none rfl _ _ _) rfl ?_)
                          exact ⟨by first | rfl | (simp [errW_none, errW_some] <;> rfl) | (simp only [← hji8, ← hji11, ← hji36]; first | rfl | (simp [errW_none, errW_some] <;> rfl)) | (simp [*, errW_none, errW_some] <;> rfl), by (with_reducible repeat (first | apply Kd.R_alloc | apply Kd.R_drewN | apply Kd.R_drew)); exact HO_0.out, by repeat (first | (with_reducible first | exact HB.out | apply below_alloc | apply pw_below_drewN | apply below_drew1) | exact HB.out), by repeat (first | (with_reducible first | exact HK.out | apply Kept.alloc | apply Kept.drewN | apply Kept.drew) | exact HK.out)⟩
                        · rw [if_neg c43] at H
                          have c43b0 : ((ji11) == 0) = false := beq_eq_false_iff_ne.mpr c43
                          have c43b1 : ((ji11) != 0) = true := bne_iff_ne.mpr c43
                          obtain ⟨ji50, hji50⟩ : ∃ j_ : Int, (wrap64 ((wrap64 ((wrap64 (Int.tdiv (wrap64 (a1 + a2)) 8)) + 1)) - 1)) = j_ := ⟨_, rfl⟩
                          replace H : (if 0 ≤ (ji50) then (if (ji50) < (l0.length : Int) then ((some (t134.set ((ji50) : Int).toNat (Go.bits .and .u8 (rd t134 (ji50)) (rd gtab3 (ji11))) : List Int)).bind fun y136 => (some (y136.set ((ji50) : Int).toNat (Go.bits .or .u8 (rd y136 (ji50)) (Go.bits .andNot .u8 x10_5 (rd gtab3 (ji11))))))) else (none)) else (none)) = some r := by first | (rw [hji50] at H; exact H) | (simp only [hji50] at H ⊢; exact H)
                          (try rw [hji50] at A42)
                          have hji50w : (IntKind.i64.wrap ((wrap64 ((wrap64 (Int.tdiv (wrap64 (a1 + a2)) 8)) + 1)) - 1)) = ji50 := (i64_w _).trans hji50
                          by_cases c51 : 0 ≤ (ji50)
                          · rw [if_pos c51] at H
                            have c51b0 : decide (0 ≤ (ji50)) = true := decide_eq_true c51
                            clear c51
                            by_cases c52 : (ji50) < (l0.length : Int)
                            · rw [if_pos c52] at H
                              have c52b0 : decide ((ji50) < (l0.length : Int)) = true := decide_eq_true c52
                              clear c52
                              obtain ⟨y136, hy136⟩ : ∃ y_ : List Int, y_ = (t134.set ((ji50) : Int).toNat (Go.bits .and .u8 (rd t134 (ji50)) (rd gtab3 (ji11)))) := ⟨_, rfl⟩
                              replace H : (some (y136.set ((ji50) : Int).toNat (Go.bits .or .u8 (rd y136 (ji50)) (Go.bits .andNot .u8 x10_5 (rd gtab3 (ji11)))))) = some r := by first | (rw [hy136]; with_reducible exact H) | (have H2_ := (Option.bind_some _ _).symm.trans H; rw [hy136]; with_reducible exact H2_) | (have H2_ := (Option.bind_some _ _).symm.trans H; with_reducible exact H2_) | with_reducible exact H | (rw [hy136]; exact H) | exact H
                              have Ny136 := Aside0.mk hy136
                              clear hy136
                              obtain ⟨y138, hy138⟩ : ∃ y_ : List Int, y_ = (y136.set ((ji50) : Int).toNat (Go.bits .or .u8 (rd y136 (ji50)) (Go.bits .andNot .u8 x10_5 (rd gtab3 (ji11))))) := ⟨_, rfl⟩
                              replace H : (some y138) = some r := by first | (rw [hy138]; with_reducible exact H) | (have H2_ := (Option.bind_some _ _).symm.trans H; rw [hy138]; with_reducible exact H2_) | (have H2_ := (Option.bind_some _ _).symm.trans H; with_reducible exact H2_) | with_reducible exact H | (rw [hy138]; exact H) | exact H
                              have Ny138 := Aside0.mk hy138
                              clear hy138
                              obtain rfl := Option.some.inj H
                              have p120 : 0 ≤ ((ji8) : Int) := of_decide_eq_true (by first | (with_reducible assumption) | assumption)
                              have q120 : (ji8) < (gtab2.length : Int) := (by have h_ : ((ji8) : Int) < (8 : Int) := (of_decide_eq_true (by first | (with_reducible assumption) | assumption)); have e_ : gtab2.length = 8 := rfl; omega)
                              have qg120 : (((ji8) : Int) < 8) = True := eq_true (by have e_ : gtab2.length = 8 := rfl; omega)
                              obtain ⟨ad120, e120, hx120_0⟩ := Kd.at_int HG2.out (ji8) p120 q120
                              obtain rfl : (⟨2, 0, none⟩ : Addr) = ad120 := (by injection e120)
                              (first | simp only [add_plain] at hx120_0 | simp only [add_at] at hx120_0 | simp only [Addr.add, Nat.zero_add] at hx120_0 | skip)
                              replace hx120_0 := (HB.out.cell (World.block_lt_of_cell? _ _ hx120_0)).trans hx120_0
                              replace p120 := eq_true p120
                              replace q120 := eq_true q120
                              have p121 : 0 ≤ ((ji11) : Int) := of_decide_eq_true (by first | (with_reducible assumption) | assumption)
                              have q121 : (ji11) < (gtab3.length : Int) := (by have h_ : ((ji11) : Int) < (8 : Int) := (of_decide_eq_true (by first | (with_reducible assumption) | assumption)); have e_ : gtab3.length = 8 := rfl; omega)
                              have qg121 : (((ji11) : Int) < 8) = True := eq_true (by have e_ : gtab3.length = 8 := rfl; omega)
                              obtain ⟨ad121, e121, hx121_0⟩ := Kd.at_int HG3.out (ji11) p121 q121
                              obtain rfl : (⟨3, 0, none⟩ : Addr) = ad121 := (by injection e121)
                              (first | simp only [add_plain] at hx121_0 | simp only [add_at] at hx121_0 | simp only [Addr.add, Nat.zero_add] at hx121_0 | skip)
                              replace hx121_0 := (HB.out.cell (World.block_lt_of_cell? _ _ hx121_0)).trans hx121_0
                              replace p121 := eq_true p121
                              replace q121 := eq_true q121
                              obtain ⟨Ao55, co55, eo55⟩ := Kd.R_slice HO_0.out
                              subst eo55
                              have p130 : 0 ≤ ((ji36) : Int) := of_decide_eq_true (by first | (with_reducible assumption) | assumption)
                              have q130 : (ji36) < (l0.length : Int) := of_decide_eq_true (by first | (with_reducible assumption) | assumption)
                              obtain ⟨ad130, e130, hx130_0⟩ := Kd.at_int (Kd.R_reads' HO_0.out).2.2 (ji36) p130 q130
                              cases e130
                              replace p130 := eq_true p130
                              replace q130 := eq_true q130
                              have p39 : 0 ≤ ((ji36) : Int) := of_decide_eq_true (by first | (with_reducible assumption) | assumption)
                              have q39 : ((ji36) : Int) < ((l0.length : Int) : Int) := of_decide_eq_true (by first | (with_reducible assumption) | assumption)
                              obtain ⟨go39, co39, eo39, gb39, gl39, cl39, HG39⟩ := Kd.R_form HO_0.out (by omega)
                              (first | cases eo39 | (injection eo39 with ea_ en_ ec_; (first | subst ea_ | (injection ea_ with ea_; subst ea_)); subst ec_; clear en_))
                              have GB39 := Aside0.mk gb39
                              have GG39 := Aside0.mk HG39
                              clear gb39 gl39 HG39
                              have HMgo39 := Aside0.mk (show (P0_ go39 ∨ w.heap.size ≤ go39) from (HO_0.out.1 _ rfl))
                              (first | simp only [add_plain] at hx130_0 | skip)
                              obtain ⟨hx39_0, hf39_0⟩ := Kd.R_celln 0 HO_0.out ((ji36) : Int) p39 q39
                              replace p39 := eq_true p39
                              replace q39 := eq_true q39
                              have HP56 := Kd.R_putg HO_0.out ((ji36) : Int) (Go.bits .and .u8 (rd l0 (ji36)) (rd gtab2 (ji8)))
                              have hgd := memory_Set.guards A42.out
                              have hgn := Aside0.mk (show l0.length = y133.length by simp only [Ny138.out, Ny136.out, Ny133.out, Ny131.out, List.length_set])
                              have hgL := Aside0.mk (show ((((wrap64 ((ji36) + 1))).toNat : Nat) : Int) = (wrap64 ((ji36) + 1)) from Int.toNat_of_nonneg hgd.1)
                              have hgm := Aside0.mk (show (((ji50).toNat - ((wrap64 ((ji36) + 1))).toNat : Nat) : Int) = ji50 - (wrap64 ((ji36) + 1)) by have := hgd.1; have := hgd.2.1; omega)
                              obtain ⟨ti_, hti_, _, hts_, _⟩ := info_parts info5
                              have hcut := cut_own (P := Tryd.prog) 22 5 Tryd.underlying22 hti_ hts_ go39 l0.length co55 ((wrap64 ((ji36) + 1))) (ji50) hgd.1 hgd.2.1 (by have := hgd.2.2.1; rw [hgn.out]; exact this) (own_cap HO_0.out)
                              clear hgd
                              go_wp2_with (first | ((with_reducible refine gate_store (t := 5) (p := 69) rfl ?_); refine store_event (t := 5) (p := 69) (v := ?vo_w57) (w1 := (wc.setCell ⟨go39, ((ji36) : Int).toNat, none⟩ (.int .u8 (Go.bits .and .u8 (rd l0 (ji36)) (rd gtab2 (ji8)))))) ?hg ?ho ?hn ?hr ?_; (case ho => rfl); (case hg => rfl); (case hn => rfl); (case hr => first | (go_simp; done) | (go_simp; rfl)); intro w57 hw; have hg : wc.grownBy w57 (some go39) := (by rw [hw]; exact HP56.2); have hp_ : Kd.R (Kd.int .u8) 5 w57 w0.heap.size (fun k_ => (P0_ k_ ∨ w.heap.size ≤ k_)) (.slice (some ⟨go39, 0, none⟩) l0.length co55) y131 := (by rw [hw, Ny131.out]; exact HP56.1); clear HP56; have n0_ := Aside0.mk (hp_); have n1_ := Aside0.mk ((by rw [hw]; exact below_set (HB.out) GB39.out : Below w0.heap.size w0 w57)); have n2_ := Aside0.mk (Kept.of_grown (S := (fun k_ => P0_ k_)) hg (by repeat (first | (with_reducible first | exact HK.out | apply Kept.alloc | apply Kept.drewN | apply Kept.drew) | exact HK.out)) (fun k_ e_ => (HO_0.out.1 k_ e_))); clear HO_0; clear HB; clear HK; have HO_0 := n0_; have HB := n1_; have HK := n2_; clear n0_ n1_ n2_; clear hg hw hp_; have p132 : 0 ≤ ((ji36) : Int) := of_decide_eq_true (by first | (with_reducible assumption) | assumption); have q132 : (ji36) < (y131.length : Int) := (by have h_ : ((ji36) : Int) < ((l0.length : Int) : Int) := of_decide_eq_true (by first | (with_reducible assumption) | assumption); first | (have e_ := (Kd.R_reads' HO_0.out).1; omega) | simpa only [Ny131.out, List.length_set] using h_); have ql132 : (((ji36) : Int) < ((l0.length : Int) : Int)) = True := eq_true (of_decide_eq_true (by first | (with_reducible assumption) | assumption)); obtain ⟨ad132, e132, hx132_0⟩ := Kd.at_int (Kd.R_reads' HO_0.out).2.2 (ji36) p132 q132; obtain rfl : (⟨go39, 0, none⟩ : Addr) = ad132 := (by injection e132); (first | simp only [add_plain] at hx132_0 | simp only [add_at] at hx132_0 | simp only [Addr.add, Nat.zero_add] at hx132_0 | skip); replace p132 := eq_true p132; replace q132 := eq_true q132; have p40 : 0 ≤ ((ji36) : Int) := of_decide_eq_true (by first | (with_reducible assumption) | assumption); have q40 : ((ji36) : Int) < ((l0.length : Int) : Int) := of_decide_eq_true (by first | (with_reducible assumption) | assumption); obtain ⟨hx40_0, hf40_0⟩ := Kd.R_celln 0 HO_0.out ((ji36) : Int) p40 q40; replace p40 := eq_true p40; replace q40 := eq_true q40; obtain ⟨hy58_, hz58_⟩ := Kd.R_celln 0 HO_0.out ((ji36) : Int) (of_decide_eq_true (by first | (with_reducible assumption) | assumption)) (of_decide_eq_true (by first | (with_reducible assumption) | assumption)); have HP58 := Kd.R_putg HO_0.out ((ji36) : Int) (Go.bits .or .u8 (rd y131 (ji36)) (Go.bits .andNot .u8 x10_5 (rd gtab2 (ji8))))) | ((with_reducible refine gate_store (t := 5) (p := 78) rfl ?_); refine store_event (t := 5) (p := 78) (v := ?vo_w59) (w1 := (w57.setCell ⟨go39, ((ji36) : Int).toNat, none⟩ (.int .u8 (Go.bits .or .u8 (rd y131 (ji36)) (Go.bits .andNot .u8 x10_5 (rd gtab2 (ji8))))))) ?hg ?ho ?hn ?hr ?_; (case ho => rfl); (case hg => rfl); (case hn => rfl); (case hr => first | (go_simp; done) | (go_simp; rfl)); intro w59 hw; have hg : w57.grownBy w59 (some go39) := (by rw [hw]; exact HP58.2); have hp_ : Kd.R (Kd.int .u8) 5 w59 w0.heap.size (fun k_ => (P0_ k_ ∨ w.heap.size ≤ k_)) (.slice (some ⟨go39, 0, none⟩) l0.length co55) y133 := (by rw [hw, Ny133.out]; exact HP58.1); clear HP58; have n0_ := Aside0.mk (hp_); have n1_ := Aside0.mk ((by rw [hw]; exact below_set (HB.out) GB39.out : Below w0.heap.size w0 w59)); have n2_ := Aside0.mk (Kept.of_grown (S := (fun k_ => P0_ k_)) hg (by repeat (first | (with_reducible first | exact HK.out | apply Kept.alloc | apply Kept.drewN | apply Kept.drew) | exact HK.out)) (fun k_ e_ => (HO_0.out.1 k_ e_))); clear HO_0; clear HB; clear HK; have HO_0 := n0_; have HB := n1_; have HK := n2_; clear n0_ n1_ n2_; clear hg hw hp_) | ((with_reducible refine gate_callee (f := 25) rfl ?_); refine goesL_ (some 90) rfl rfl Tryd.func25 (by kernel_rfl) rfl #[.slice (some ⟨go39, ((wrap64 ((ji36) + 1))).toNat, none⟩) ((ji50).toNat - ((wrap64 ((ji36) + 1))).toNat) (co55 - ((wrap64 ((ji36) + 1))).toNat), .int .u8 x10_5] rfl (by (try simp only [List.map_toArray, List.map_cons, List.map_nil]); first | done | (simp only [hji36, hji50]; rfl) | rfl | (simp only [List.length_drop, List.length_take]; rfl)) ?_; (with_reducible refine (memory_Set.calls kj5 (fun k_ => some k_ = (.slice (some ⟨go39, 0, none⟩) l0.length co55 : Value).ownBlock) go39 co55 _ _ _ l0.length y133 x10_5 (wrap64 ((ji36) + 1)) ji50 t134 w0 _ hgL.out hgm.out hgn.out ?side1 ?side2 A42.out).mono ?_); (case side1 => repeat (first | (with_reducible first | exact HB.out | apply below_alloc | apply pw_below_drewN | apply below_drew1) | exact HB.out)); (case side2 => exact Kd.R_tight rfl HO_0.out); rintro e w60 ⟨rfl, hy0, hb, hkp⟩; refine ⟨_, rfl, ?_⟩; have n0_ := Aside0.mk (Kd.R_reok rfl hy0 (fun k_ e_ => HO_0.out.1 k_ e_)); have n1_ := Aside0.mk (Kept.then_ (S := (fun k_ => P0_ k_)) (by repeat (first | (with_reducible first | exact HK.out | apply Kept.alloc | apply Kept.drewN | apply Kept.drew) | exact HK.out)) hkp (fun k_ hs_ => (fun e_ => (HO_0.out.1 k_ e_.symm)) hs_)); have n2_ := Aside0.mk (hb); clear HO_0; clear HK; clear HB; have HO_0 := n0_; have HK := n1_; have HB := n2_; clear n0_ n1_ n2_; (try clear hb); (try clear hkp); (try clear hy0); have p135 : 0 ≤ ((ji50) : Int) := of_decide_eq_true (by first | (with_reducible assumption) | assumption); have q135 : (ji50) < (t134.length : Int) := (by have h_ : ((ji50) : Int) < ((l0.length : Int) : Int) := of_decide_eq_true (by first | (with_reducible assumption) | assumption); have e_ := (Kd.R_reads' HO_0.out).1; omega); have ql135 : (((ji50) : Int) < ((l0.length : Int) : Int)) = True := eq_true (of_decide_eq_true (by first | (with_reducible assumption) | assumption)); obtain ⟨ad135, e135, hx135_0⟩ := Kd.at_int (Kd.R_reads' HO_0.out).2.2 (ji50) p135 q135; obtain rfl : (⟨go39, 0, none⟩ : Addr) = ad135 := (by injection e135); (first | simp only [add_plain] at hx135_0 | simp only [add_at] at hx135_0 | simp only [Addr.add, Nat.zero_add] at hx135_0 | skip); replace p135 := eq_true p135; replace q135 := eq_true q135; have p53 : 0 ≤ ((ji50) : Int) := of_decide_eq_true (by first | (with_reducible assumption) | assumption); have q53 : ((ji50) : Int) < ((l0.length : Int) : Int) := of_decide_eq_true (by first | (with_reducible assumption) | assumption); obtain ⟨hx53_0, hf53_0⟩ := Kd.R_celln 0 HO_0.out ((ji50) : Int) p53 q53; replace p53 := eq_true p53; replace q53 := eq_true q53; obtain ⟨hy61_, hz61_⟩ := Kd.R_celln 0 HO_0.out ((ji50) : Int) (of_decide_eq_true (by first | (with_reducible assumption) | assumption)) (of_decide_eq_true (by first | (with_reducible assumption) | assumption)); have HP61 := Kd.R_putg HO_0.out ((ji50) : Int) (Go.bits .and .u8 (rd t134 (ji50)) (rd gtab3 (ji11)))) | ((with_reducible refine gate_store (t := 5) (p := 101) rfl ?_); refine store_event (t := 5) (p := 101) (v := ?vo_w62) (w1 := (w60.setCell ⟨go39, ((ji50) : Int).toNat, none⟩ (.int .u8 (Go.bits .and .u8 (rd t134 (ji50)) (rd gtab3 (ji11)))))) ?hg ?ho ?hn ?hr ?_; (case ho => rfl); (case hg => rfl); (case hn => rfl); (case hr => first | (go_simp; done) | (go_simp; rfl)); intro w62 hw; have hg : w60.grownBy w62 (some go39) := (by rw [hw]; exact HP61.2); have hp_ : Kd.R (Kd.int .u8) 5 w62 w0.heap.size (fun k_ => (P0_ k_ ∨ w.heap.size ≤ k_)) (.slice (some ⟨go39, 0, none⟩) l0.length co55) y136 := (by rw [hw, Ny136.out]; exact HP61.1); clear HP61; have n0_ := Aside0.mk (hp_); have n1_ := Aside0.mk ((by rw [hw]; exact below_set (HB.out) GB39.out : Below w0.heap.size w0 w62)); have n2_ := Aside0.mk (Kept.of_grown (S := (fun k_ => P0_ k_)) hg (by repeat (first | (with_reducible first | exact HK.out | apply Kept.alloc | apply Kept.drewN | apply Kept.drew) | exact HK.out)) (fun k_ e_ => (HO_0.out.1 k_ e_))); clear HO_0; clear HB; clear HK; have HO_0 := n0_; have HB := n1_; have HK := n2_; clear n0_ n1_ n2_; clear hg hw hp_; have p137 : 0 ≤ ((ji50) : Int) := of_decide_eq_true (by first | (with_reducible assumption) | assumption); have q137 : (ji50) < (y136.length : Int) := (by have h_ : ((ji50) : Int) < ((l0.length : Int) : Int) := of_decide_eq_true (by first | (with_reducible assumption) | assumption); first | (have e_ := (Kd.R_reads' HO_0.out).1; omega) | simpa only [Ny136.out, List.length_set] using h_); have ql137 : (((ji50) : Int) < ((l0.length : Int) : Int)) = True := eq_true (of_decide_eq_true (by first | (with_reducible assumption) | assumption)); obtain ⟨ad137, e137, hx137_0⟩ := Kd.at_int (Kd.R_reads' HO_0.out).2.2 (ji50) p137 q137; obtain rfl : (⟨go39, 0, none⟩ : Addr) = ad137 := (by injection e137); (first | simp only [add_plain] at hx137_0 | simp only [add_at] at hx137_0 | simp only [Addr.add, Nat.zero_add] at hx137_0 | skip); replace p137 := eq_true p137; replace q137 := eq_true q137; have p54 : 0 ≤ ((ji50) : Int) := of_decide_eq_true (by first | (with_reducible assumption) | assumption); have q54 : ((ji50) : Int) < ((l0.length : Int) : Int) := of_decide_eq_true (by first | (with_reducible assumption) | assumption); obtain ⟨hx54_0, hf54_0⟩ := Kd.R_celln 0 HO_0.out ((ji50) : Int) p54 q54; replace p54 := eq_true p54; replace q54 := eq_true q54; obtain ⟨hy63_, hz63_⟩ := Kd.R_celln 0 HO_0.out ((ji50) : Int) (of_decide_eq_true (by first | (with_reducible assumption) | assumption)) (of_decide_eq_true (by first | (with_reducible assumption) | assumption)); have HP63 := Kd.R_putg HO_0.out ((ji50) : Int) (Go.bits .or .u8 (rd y136 (ji50)) (Go.bits .andNot .u8 x10_5 (rd gtab3 (ji11))))) | ((with_reducible refine gate_store (t := 5) (p := 111) rfl ?_); refine store_event (t := 5) (p := 111) (v := ?vo_w64) (w1 := (w62.setCell ⟨go39, ((ji50) : Int).toNat, none⟩ (.int .u8 (Go.bits .or .u8 (rd y136 (ji50)) (Go.bits .andNot .u8 x10_5 (rd gtab3 (ji11))))))) ?hg ?ho ?hn ?hr ?_; (case ho => rfl); (case hg => rfl); (case hn => rfl); (case hr => first | (go_simp; done) | (go_simp; rfl)); intro w64 hw; have hg : w62.grownBy w64 (some go39) := (by rw [hw]; exact HP63.2); have hp_ : Kd.R (Kd.int .u8) 5 w64 w0.heap.size (fun k_ => (P0_ k_ ∨ w.heap.size ≤ k_)) (.slice (some ⟨go39, 0, none⟩) l0.length co55) y138 := (by rw [hw, Ny138.out]; exact HP63.1); clear HP63; have n0_ := Aside0.mk (hp_); have n1_ := Aside0.mk ((by rw [hw]; exact below_set (HB.out) GB39.out : Below w0.heap.size w0 w64)); have n2_ := Aside0.mk (Kept.of_grown (S := (fun k_ => P0_ k_)) hg (by repeat (first | (with_reducible first | exact HK.out | apply Kept.alloc | apply Kept.drewN | apply Kept.drew) | exact HK.out)) (fun k_ e_ => (HO_0.out.1 k_ e_))); clear HO_0; clear HB; clear HK; have HO_0 := n0_; have HB := n1_; have HK := n2_; clear n0_ n1_ n2_; clear hg hw hp_))
                              first | go_end0 | ((try simp only [Exit.inBlock, Exit.then]); refine bodyPost_ret (results_none rfl _ _ _) rfl ?_)
                              exact ⟨by first | rfl | (simp [errW_none, errW_some] <;> rfl) | (simp only [← hji8, ← hji11, ← hji36, ← hji50]; first | rfl | (simp [errW_none, errW_some] <;> rfl)) | (simp [*, errW_none, errW_some] <;> rfl), by (with_reducible repeat (first | apply Kd.R_alloc | apply Kd.R_drewN | apply Kd.R_drew)); exact HO_0.out, by repeat (first | (with_reducible first | exact HB.out | apply below_alloc | apply pw_below_drewN | apply below_drew1) | exact HB.out), by repeat (first | (with_reducible first | exact HK.out | apply Kept.alloc | apply Kept.drewN | apply Kept.drew) | exact HK.out)⟩
                            · rw [if_neg c52] at H
                              exact absurd H (by simp)
                          · rw [if_neg c51] at H
                            exact absurd H (by simp)
                      · rw [if_neg c41] at H
                        have c41b0 : decide (2 < (wrap64 ((wrap64 ((wrap64 (Int.tdiv (wrap64 (a1 + a2)) 8)) + 1)) - (ji36)))) = false := decide_eq_false c41
                        clear c41
                        by_cases c65 : (ji11) = 0
                        · rw [if_pos c65] at H
                          have c65b0 : ((ji11) == 0) = true := beq_iff_eq.mpr c65
                          have c65b1 : ((ji11) != 0) = false := bne_eq_false_iff_eq.mpr c65
                          clear c65
                          obtain rfl := Option.some.inj H
                          have p120 : 0 ≤ ((ji8) : Int) := of_decide_eq_true (by first | (with_reducible assumption) | assumption)
                          have q120 : (ji8) < (gtab2.length : Int) := (by have h_ : ((ji8) : Int) < (8 : Int) := (of_decide_eq_true (by first | (with_reducible assumption) | assumption)); have e_ : gtab2.length = 8 := rfl; omega)
                          have qg120 : (((ji8) : Int) < 8) = True := eq_true (by have e_ : gtab2.length = 8 := rfl; omega)
                          obtain ⟨ad120, e120, hx120_0⟩ := Kd.at_int HG2.out (ji8) p120 q120
                          obtain rfl : (⟨2, 0, none⟩ : Addr) = ad120 := (by injection e120)
                          (first | simp only [add_plain] at hx120_0 | simp only [add_at] at hx120_0 | simp only [Addr.add, Nat.zero_add] at hx120_0 | skip)
                          replace hx120_0 := (HB.out.cell (World.block_lt_of_cell? _ _ hx120_0)).trans hx120_0
                          replace p120 := eq_true p120
                          replace q120 := eq_true q120
                          have p121 : 0 ≤ ((ji11) : Int) := of_decide_eq_true (by first | (with_reducible assumption) | assumption)
                          have q121 : (ji11) < (gtab3.length : Int) := (by have h_ : ((ji11) : Int) < (8 : Int) := (of_decide_eq_true (by first | (with_reducible assumption) | assumption)); have e_ : gtab3.length = 8 := rfl; omega)
                          have qg121 : (((ji11) : Int) < 8) = True := eq_true (by have e_ : gtab3.length = 8 := rfl; omega)
                          obtain ⟨ad121, e121, hx121_0⟩ := Kd.at_int HG3.out (ji11) p121 q121
                          obtain rfl : (⟨3, 0, none⟩ : Addr) = ad121 := (by injection e121)
                          (first | simp only [add_plain] at hx121_0 | simp only [add_at] at hx121_0 | simp only [Addr.add, Nat.zero_add] at hx121_0 | skip)
                          replace hx121_0 := (HB.out.cell (World.block_lt_of_cell? _ _ hx121_0)).trans hx121_0
                          replace p121 := eq_true p121
                          replace q121 := eq_true q121
                          obtain ⟨Ao66, co66, eo66⟩ := Kd.R_slice HO_0.out
                          subst eo66
                          have p130 : 0 ≤ ((ji36) : Int) := of_decide_eq_true (by first | (with_reducible assumption) | assumption)
                          have q130 : (ji36) < (l0.length : Int) := of_decide_eq_true (by first | (with_reducible assumption) | assumption)
                          obtain ⟨ad130, e130, hx130_0⟩ := Kd.at_int (Kd.R_reads' HO_0.out).2.2 (ji36) p130 q130
                          cases e130
                          replace p130 := eq_true p130
                          replace q130 := eq_true q130
                          have p39 : 0 ≤ ((ji36) : Int) := of_decide_eq_true (by first | (with_reducible assumption) | assumption)
                          have q39 : ((ji36) : Int) < ((l0.length : Int) : Int) := of_decide_eq_true (by first | (with_reducible assumption) | assumption)
                          obtain ⟨go39, co39, eo39, gb39, gl39, cl39, HG39⟩ := Kd.R_form HO_0.out (by omega)
                          (first | cases eo39 | (injection eo39 with ea_ en_ ec_; (first | subst ea_ | (injection ea_ with ea_; subst ea_)); subst ec_; clear en_))
                          have GB39 := Aside0.mk gb39
                          have GG39 := Aside0.mk HG39
                          clear gb39 gl39 HG39
                          have HMgo39 := Aside0.mk (show (P0_ go39 ∨ w.heap.size ≤ go39) from (HO_0.out.1 _ rfl))
                          (first | simp only [add_plain] at hx130_0 | skip)
                          obtain ⟨hx39_0, hf39_0⟩ := Kd.R_celln 0 HO_0.out ((ji36) : Int) p39 q39
                          replace p39 := eq_true p39
                          replace q39 := eq_true q39
                          have HP67 := Kd.R_putg HO_0.out ((ji36) : Int) (Go.bits .and .u8 (rd l0 (ji36)) (rd gtab2 (ji8)))
                          go_wp2_with (first | ((with_reducible refine gate_store (t := 5) (p := 69) rfl ?_); refine store_event (t := 5) (p := 69) (v := ?vo_w68) (w1 := (wc.setCell ⟨go39, ((ji36) : Int).toNat, none⟩ (.int .u8 (Go.bits .and .u8 (rd l0 (ji36)) (rd gtab2 (ji8)))))) ?hg ?ho ?hn ?hr ?_; (case ho => rfl); (case hg => rfl); (case hn => rfl); (case hr => first | (go_simp; done) | (go_simp; rfl)); intro w68 hw; have hg : wc.grownBy w68 (some go39) := (by rw [hw]; exact HP67.2); have hp_ : Kd.R (Kd.int .u8) 5 w68 w0.heap.size (fun k_ => (P0_ k_ ∨ w.heap.size ≤ k_)) (.slice (some ⟨go39, 0, none⟩) l0.length co66) y131 := (by rw [hw, Ny131.out]; exact HP67.1); clear HP67; have n0_ := Aside0.mk (hp_); have n1_ := Aside0.mk ((by rw [hw]; exact below_set (HB.out) GB39.out : Below w0.heap.size w0 w68)); have n2_ := Aside0.mk (Kept.of_grown (S := (fun k_ => P0_ k_)) hg (by repeat (first | (with_reducible first | exact HK.out | apply Kept.alloc | apply Kept.drewN | apply Kept.drew) | exact HK.out)) (fun k_ e_ => (HO_0.out.1 k_ e_))); clear HO_0; clear HB; clear HK; have HO_0 := n0_; have HB := n1_; have HK := n2_; clear n0_ n1_ n2_; clear hg hw hp_; have p132 : 0 ≤ ((ji36) : Int) := of_decide_eq_true (by first | (with_reducible assumption) | assumption); have q132 : (ji36) < (y131.length : Int) := (by have h_ : ((ji36) : Int) < ((l0.length : Int) : Int) := of_decide_eq_true (by first | (with_reducible assumption) | assumption); first | (have e_ := (Kd.R_reads' HO_0.out).1; omega) | simpa only [Ny131.out, List.length_set] using h_); have ql132 : (((ji36) : Int) < ((l0.length : Int) : Int)) = True := eq_true (of_decide_eq_true (by first | (with_reducible assumption) | assumption)); obtain ⟨ad132, e132, hx132_0⟩ := Kd.at_int (Kd.R_reads' HO_0.out).2.2 (ji36) p132 q132; obtain rfl : (⟨go39, 0, none⟩ : Addr) = ad132 := (by injection e132); (first | simp only [add_plain] at hx132_0 | simp only [add_at] at hx132_0 | simp only [Addr.add, Nat.zero_add] at hx132_0 | skip); replace p132 := eq_true p132; replace q132 := eq_true q132; have p40 : 0 ≤ ((ji36) : Int) := of_decide_eq_true (by first | (with_reducible assumption) | assumption); have q40 : ((ji36) : Int) < ((l0.length : Int) : Int) := of_decide_eq_true (by first | (with_reducible assumption) | assumption); obtain ⟨hx40_0, hf40_0⟩ := Kd.R_celln 0 HO_0.out ((ji36) : Int) p40 q40; replace p40 := eq_true p40; replace q40 := eq_true q40; obtain ⟨hy69_, hz69_⟩ := Kd.R_celln 0 HO_0.out ((ji36) : Int) (of_decide_eq_true (by first | (with_reducible assumption) | assumption)) (of_decide_eq_true (by first | (with_reducible assumption) | assumption)); have HP69 := Kd.R_putg HO_0.out ((ji36) : Int) (Go.bits .or .u8 (rd y131 (ji36)) (Go.bits .andNot .u8 x10_5 (rd gtab2 (ji8))))) | ((with_reducible refine gate_store (t := 5) (p := 78) rfl ?_); refine store_event (t := 5) (p := 78) (v := ?vo_w70) (w1 := (w68.setCell ⟨go39, ((ji36) : Int).toNat, none⟩ (.int .u8 (Go.bits .or .u8 (rd y131 (ji36)) (Go.bits .andNot .u8 x10_5 (rd gtab2 (ji8))))))) ?hg ?ho ?hn ?hr ?_; (case ho => rfl); (case hg => rfl); (case hn => rfl); (case hr => first | (go_simp; done) | (go_simp; rfl)); intro w70 hw; have hg : w68.grownBy w70 (some go39) := (by rw [hw]; exact HP69.2); have hp_ : Kd.R (Kd.int .u8) 5 w70 w0.heap.size (fun k_ => (P0_ k_ ∨ w.heap.size ≤ k_)) (.slice (some ⟨go39, 0, none⟩) l0.length co66) y133 := (by rw [hw, Ny133.out]; exact HP69.1); clear HP69; have n0_ := Aside0.mk (hp_); have n1_ := Aside0.mk ((by rw [hw]; exact below_set (HB.out) GB39.out : Below w0.heap.size w0 w70)); have n2_ := Aside0.mk (Kept.of_grown (S := (fun k_ => P0_ k_)) hg (by repeat (first | (with_reducible first | exact HK.out | apply Kept.alloc | apply Kept.drewN | apply Kept.drew) | exact HK.out)) (fun k_ e_ => (HO_0.out.1 k_ e_))); clear HO_0; clear HB; clear HK; have HO_0 := n0_; have HB := n1_; have HK := n2_; clear n0_ n1_ n2_; clear hg hw hp_))
                          first | go_end0 | ((try simp only [Exit.inBlock, Exit.then]); refine bodyPost_ret (results_none rfl _ _ _) rfl ?_)
                          exact ⟨by first | rfl | (simp [errW_none, errW_some] <;> rfl) | (simp only [← hji8, ← hji11, ← hji36]; first | rfl | (simp [errW_none, errW_some] <;> rfl)) | (simp [*, errW_none, errW_some] <;> rfl), by (with_reducible repeat (first | apply Kd.R_alloc | apply Kd.R_drewN | apply Kd.R_drew)); exact HO_0.out, by repeat (first | (with_reducible first | exact HB.out | apply below_alloc | apply pw_below_drewN | apply below_drew1) | exact HB.out), by repeat (first | (with_reducible first | exact HK.out | apply Kept.alloc | apply Kept.drewN | apply Kept.drew) | exact HK.out)⟩
                        · rw [if_neg c65] at H
                          have c65b0 : ((ji11) == 0) = false := beq_eq_false_iff_ne.mpr c65
                          have c65b1 : ((ji11) != 0) = true := bne_iff_ne.mpr c65
                          obtain ⟨ji71, hji71⟩ : ∃ j_ : Int, (wrap64 ((wrap64 ((wrap64 (Int.tdiv (wrap64 (a1 + a2)) 8)) + 1)) - 1)) = j_ := ⟨_, rfl⟩
                          replace H : (if 0 ≤ (ji71) then (if (ji71) < (l0.length : Int) then ((some (y133.set ((ji71) : Int).toNat (Go.bits .and .u8 (rd y133 (ji71)) (rd gtab3 (ji11))) : List Int)).bind fun y140 => (some (y140.set ((ji71) : Int).toNat (Go.bits .or .u8 (rd y140 (ji71)) (Go.bits .andNot .u8 x10_5 (rd gtab3 (ji11))))))) else (none)) else (none)) = some r := by first | (rw [hji71] at H; exact H) | (simp only [hji71] at H ⊢; exact H)
                          have hji71w : (IntKind.i64.wrap ((wrap64 ((wrap64 (Int.tdiv (wrap64 (a1 + a2)) 8)) + 1)) - 1)) = ji71 := (i64_w _).trans hji71
                          by_cases c72 : 0 ≤ (ji71)
                          · rw [if_pos c72] at H
                            have c72b0 : decide (0 ≤ (ji71)) = true := decide_eq_true c72
                            clear c72
                            by_cases c73 : (ji71) < (l0.length : Int)
                            · rw [if_pos c73] at H
                              have c73b0 : decide ((ji71) < (l0.length : Int)) = true := decide_eq_true c73
                              clear c73
                              obtain ⟨y140, hy140⟩ : ∃ y_ : List Int, y_ = (y133.set ((ji71) : Int).toNat (Go.bits .and .u8 (rd y133 (ji71)) (rd gtab3 (ji11)))) := ⟨_, rfl⟩
                              replace H : (some (y140.set ((ji71) : Int).toNat (Go.bits .or .u8 (rd y140 (ji71)) (Go.bits .andNot .u8 x10_5 (rd gtab3 (ji11)))))) = some r := by first | (rw [hy140]; with_reducible exact H) | (have H2_ := (Option.bind_some _ _).symm.trans H; rw [hy140]; with_reducible exact H2_) | (have H2_ := (Option.bind_some _ _).symm.trans H; with_reducible exact H2_) | with_reducible exact H | (rw [hy140]; exact H) | exact H
                              have Ny140 := Aside0.mk hy140
                              clear hy140
                              obtain ⟨y142, hy142⟩ : ∃ y_ : List Int, y_ = (y140.set ((ji71) : Int).toNat (Go.bits .or .u8 (rd y140 (ji71)) (Go.bits .andNot .u8 x10_5 (rd gtab3 (ji11))))) := ⟨_, rfl⟩
                              replace H : (some y142) = some r := by first | (rw [hy142]; with_reducible exact H) | (have H2_ := (Option.bind_some _ _).symm.trans H; rw [hy142]; with_reducible exact H2_) | (have H2_ := (Option.bind_some _ _).symm.trans H; with_reducible exact H2_) | with_reducible exact H | (rw [hy142]; exact H) | exact H
                              have Ny142 := Aside0.mk hy142
                              clear hy142
                              obtain rfl := Option.some.inj H
                              have p120 : 0 ≤ ((ji8) : Int) := of_decide_eq_true (by first | (with_reducible assumption) | assumption)
                              have q120 : (ji8) < (gtab2.length : Int) := (by have h_ : ((ji8) : Int) < (8 : Int) := (of_decide_eq_true (by first | (with_reducible assumption) | assumption)); have e_ : gtab2.length = 8 := rfl; omega)
                              have qg120 : (((ji8) : Int) < 8) = True := eq_true (by have e_ : gtab2.length = 8 := rfl; omega)
                              obtain ⟨ad120, e120, hx120_0⟩ := Kd.at_int HG2.out (ji8) p120 q120
                              obtain rfl : (⟨2, 0, none⟩ : Addr) = ad120 := (by injection e120)
                              (first | simp only [add_plain] at hx120_0 | simp only [add_at] at hx120_0 | simp only [Addr.add, Nat.zero_add] at hx120_0 | skip)
                              replace hx120_0 := (HB.out.cell (World.block_lt_of_cell? _ _ hx120_0)).trans hx120_0
                              replace p120 := eq_true p120
                              replace q120 := eq_true q120
                              have p121 : 0 ≤ ((ji11) : Int) := of_decide_eq_true (by first | (with_reducible assumption) | assumption)
                              have q121 : (ji11) < (gtab3.length : Int) := (by have h_ : ((ji11) : Int) < (8 : Int) := (of_decide_eq_true (by first | (with_reducible assumption) | assumption)); have e_ : gtab3.length = 8 := rfl; omega)
                              have qg121 : (((ji11) : Int) < 8) = True := eq_true (by have e_ : gtab3.length = 8 := rfl; omega)
                              obtain ⟨ad121, e121, hx121_0⟩ := Kd.at_int HG3.out (ji11) p121 q121
                              obtain rfl : (⟨3, 0, none⟩ : Addr) = ad121 := (by injection e121)
                              (first | simp only [add_plain] at hx121_0 | simp only [add_at] at hx121_0 | simp only [Addr.add, Nat.zero_add] at hx121_0 | skip)
                              replace hx121_0 := (HB.out.cell (World.block_lt_of_cell? _ _ hx121_0)).trans hx121_0
                              replace p121 := eq_true p121
                              replace q121 := eq_true q121
                              obtain ⟨Ao76, co76, eo76⟩ := Kd.R_slice HO_0.out
                              subst eo76
                              have p130 : 0 ≤ ((ji36) : Int) := of_decide_eq_true (by first | (with_reducible assumption) | assumption)
                              have q130 : (ji36) < (l0.length : Int) := of_decide_eq_true (by first | (with_reducible assumption) | assumption)
                              obtain ⟨ad130, e130, hx130_0⟩ := Kd.at_int (Kd.R_reads' HO_0.out).2.2 (ji36) p130 q130
                              cases e130
                              replace p130 := eq_true p130
                              replace q130 := eq_true q130
                              have p39 : 0 ≤ ((ji36) : Int) := of_decide_eq_true (by first | (with_reducible assumption) | assumption)
                              have q39 : ((ji36) : Int) < ((l0.length : Int) : Int) := of_decide_eq_true (by first | (with_reducible assumption) | assumption)
                              obtain ⟨go39, co39, eo39, gb39, gl39, cl39, HG39⟩ := Kd.R_form HO_0.out (by omega)
                              (first | cases eo39 | (injection eo39 with ea_ en_ ec_; (first | subst ea_ | (injection ea_ with ea_; subst ea_)); subst ec_; clear en_))
                              have GB39 := Aside0.mk gb39
                              have GG39 := Aside0.mk HG39
                              clear gb39 gl39 HG39
                              have HMgo39 := Aside0.mk (show (P0_ go39 ∨ w.heap.size ≤ go39) from (HO_0.out.1 _ rfl))
                              (first | simp only [add_plain] at hx130_0 | skip)
                              obtain ⟨hx39_0, hf39_0⟩ := Kd.R_celln 0 HO_0.out ((ji36) : Int) p39 q39
                              replace p39 := eq_true p39
                              replace q39 := eq_true q39
                              have HP77 := Kd.R_putg HO_0.out ((ji36) : Int) (Go.bits .and .u8 (rd l0 (ji36)) (rd gtab2 (ji8)))
                              go_wp2_with (first | ((with_reducible refine gate_store (t := 5) (p := 69) rfl ?_); refine store_event (t := 5) (p := 69) (v := ?vo_w78) (w1 := (wc.setCell ⟨go39, ((ji36) : Int).toNat, none⟩ (.int .u8 (Go.bits .and .u8 (rd l0 (ji36)) (rd gtab2 (ji8)))))) ?hg ?ho ?hn ?hr ?_; (case ho => rfl); (case hg => rfl); (case hn => rfl); (case hr => first | (go_simp; done) | (go_simp; rfl)); intro w78 hw; have hg : wc.grownBy w78 (some go39) := (by rw [hw]; exact HP77.2); have hp_ : Kd.R (Kd.int .u8) 5 w78 w0.heap.size (fun k_ => (P0_ k_ ∨ w.heap.size ≤ k_)) (.slice (some ⟨go39, 0, none⟩) l0.length co76) y131 := (by rw [hw, Ny131.out]; exact HP77.1); clear HP77; have n0_ := Aside0.mk (hp_); have n1_ := Aside0.mk ((by rw [hw]; exact below_set (HB.out) GB39.out : Below w0.heap.size w0 w78)); have n2_ := Aside0.mk (Kept.of_grown (S := (fun k_ => P0_ k_)) hg (by repeat (first | (with_reducible first | exact HK.out | apply Kept.alloc | apply Kept.drewN | apply Kept.drew) | exact HK.out)) (fun k_ e_ => (HO_0.out.1 k_ e_))); clear HO_0; clear HB; clear HK; have HO_0 := n0_; have HB := n1_; have HK := n2_; clear n0_ n1_ n2_; clear hg hw hp_; have p132 : 0 ≤ ((ji36) : Int) := of_decide_eq_true (by first | (with_reducible assumption) | assumption); have q132 : (ji36) < (y131.length : Int) := (by have h_ : ((ji36) : Int) < ((l0.length : Int) : Int) := of_decide_eq_true (by first | (with_reducible assumption) | assumption); first | (have e_ := (Kd.R_reads' HO_0.out).1; omega) | simpa only [Ny131.out, List.length_set] using h_); have ql132 : (((ji36) : Int) < ((l0.length : Int) : Int)) = True := eq_true (of_decide_eq_true (by first | (with_reducible assumption) | assumption)); obtain ⟨ad132, e132, hx132_0⟩ := Kd.at_int (Kd.R_reads' HO_0.out).2.2 (ji36) p132 q132; obtain rfl : (⟨go39, 0, none⟩ : Addr) = ad132 := (by injection e132); (first | simp only [add_plain] at hx132_0 | simp only [add_at] at hx132_0 | simp only [Addr.add, Nat.zero_add] at hx132_0 | skip); replace p132 := eq_true p132; replace q132 := eq_true q132; have p40 : 0 ≤ ((ji36) : Int) := of_decide_eq_true (by first | (with_reducible assumption) | assumption); have q40 : ((ji36) : Int) < ((l0.length : Int) : Int) := of_decide_eq_true (by first | (with_reducible assumption) | assumption); obtain ⟨hx40_0, hf40_0⟩ := Kd.R_celln 0 HO_0.out ((ji36) : Int) p40 q40; replace p40 := eq_true p40; replace q40 := eq_true q40; obtain ⟨hy79_, hz79_⟩ := Kd.R_celln 0 HO_0.out ((ji36) : Int) (of_decide_eq_true (by first | (with_reducible assumption) | assumption)) (of_decide_eq_true (by first | (with_reducible assumption) | assumption)); have HP79 := Kd.R_putg HO_0.out ((ji36) : Int) (Go.bits .or .u8 (rd y131 (ji36)) (Go.bits .andNot .u8 x10_5 (rd gtab2 (ji8))))) | ((with_reducible refine gate_store (t := 5) (p := 78) rfl ?_); refine store_event (t := 5) (p := 78) (v := ?vo_w80) (w1 := (w78.setCell ⟨go39, ((ji36) : Int).toNat, none⟩ (.int .u8 (Go.bits .or .u8 (rd y131 (ji36)) (Go.bits .andNot .u8 x10_5 (rd gtab2 (ji8))))))) ?hg ?ho ?hn ?hr ?_; (case ho => rfl); (case hg => rfl); (case hn => rfl); (case hr => first | (go_simp; done) | (go_simp; rfl)); intro w80 hw; have hg : w78.grownBy w80 (some go39) := (by rw [hw]; exact HP79.2); have hp_ : Kd.R (Kd.int .u8) 5 w80 w0.heap.size (fun k_ => (P0_ k_ ∨ w.heap.size ≤ k_)) (.slice (some ⟨go39, 0, none⟩) l0.length co76) y133 := (by rw [hw, Ny133.out]; exact HP79.1); clear HP79; have n0_ := Aside0.mk (hp_); have n1_ := Aside0.mk ((by rw [hw]; exact below_set (HB.out) GB39.out : Below w0.heap.size w0 w80)); have n2_ := Aside0.mk (Kept.of_grown (S := (fun k_ => P0_ k_)) hg (by repeat (first | (with_reducible first | exact HK.out | apply Kept.alloc | apply Kept.drewN | apply Kept.drew) | exact HK.out)) (fun k_ e_ => (HO_0.out.1 k_ e_))); clear HO_0; clear HB; clear HK; have HO_0 := n0_; have HB := n1_; have HK := n2_; clear n0_ n1_ n2_; clear hg hw hp_; have p139 : 0 ≤ ((ji71) : Int) := of_decide_eq_true (by first | (with_reducible assumption) | assumption); have q139 : (ji71) < (y133.length : Int) := (by have h_ : ((ji71) : Int) < ((l0.length : Int) : Int) := of_decide_eq_true (by first | (with_reducible assumption) | assumption); first | (have e_ := (Kd.R_reads' HO_0.out).1; omega) | simpa only [Ny131.out, Ny133.out, List.length_set] using h_); have ql139 : (((ji71) : Int) < ((l0.length : Int) : Int)) = True := eq_true (of_decide_eq_true (by first | (with_reducible assumption) | assumption)); obtain ⟨ad139, e139, hx139_0⟩ := Kd.at_int (Kd.R_reads' HO_0.out).2.2 (ji71) p139 q139; obtain rfl : (⟨go39, 0, none⟩ : Addr) = ad139 := (by injection e139); (first | simp only [add_plain] at hx139_0 | simp only [add_at] at hx139_0 | simp only [Addr.add, Nat.zero_add] at hx139_0 | skip); replace p139 := eq_true p139; replace q139 := eq_true q139; have p74 : 0 ≤ ((ji71) : Int) := of_decide_eq_true (by first | (with_reducible assumption) | assumption); have q74 : ((ji71) : Int) < ((l0.length : Int) : Int) := of_decide_eq_true (by first | (with_reducible assumption) | assumption); obtain ⟨hx74_0, hf74_0⟩ := Kd.R_celln 0 HO_0.out ((ji71) : Int) p74 q74; replace p74 := eq_true p74; replace q74 := eq_true q74; obtain ⟨hy81_, hz81_⟩ := Kd.R_celln 0 HO_0.out ((ji71) : Int) (of_decide_eq_true (by first | (with_reducible assumption) | assumption)) (of_decide_eq_true (by first | (with_reducible assumption) | assumption)); have HP81 := Kd.R_putg HO_0.out ((ji71) : Int) (Go.bits .and .u8 (rd y133 (ji71)) (rd gtab3 (ji11)))) | ((with_reducible refine gate_store (t := 5) (p := 101) rfl ?_); refine store_event (t := 5) (p := 101) (v := ?vo_w82) (w1 := (w80.setCell ⟨go39, ((ji71) : Int).toNat, none⟩ (.int .u8 (Go.bits .and .u8 (rd y133 (ji71)) (rd gtab3 (ji11)))))) ?hg ?ho ?hn ?hr ?_; (case ho => rfl); (case hg => rfl); (case hn => rfl); (case hr => first | (go_simp; done) | (go_simp; rfl)); intro w82 hw; have hg : w80.grownBy w82 (some go39) := (by rw [hw]; exact HP81.2); have hp_ : Kd.R (Kd.int .u8) 5 w82 w0.heap.size (fun k_ => (P0_ k_ ∨ w.heap.size ≤ k_)) (.slice (some ⟨go39, 0, none⟩) l0.length co76) y140 := (by rw [hw, Ny140.out]; exact HP81.1); clear HP81; have n0_ := Aside0.mk (hp_); have n1_ := Aside0.mk ((by rw [hw]; exact below_set (HB.out) GB39.out : Below w0.heap.size w0 w82)); have n2_ := Aside0.mk (Kept.of_grown (S := (fun k_ => P0_ k_)) hg (by repeat (first | (with_reducible first | exact HK.out | apply Kept.alloc | apply Kept.drewN | apply Kept.drew) | exact HK.out)) (fun k_ e_ => (HO_0.out.1 k_ e_))); clear HO_0; clear HB; clear HK; have HO_0 := n0_; have HB := n1_; have HK := n2_; clear n0_ n1_ n2_; clear hg hw hp_; have p141 : 0 ≤ ((ji71) : Int) := of_decide_eq_true (by first | (with_reducible assumption) | assumption); have q141 : (ji71) < (y140.length : Int) := (by have h_ : ((ji71) : Int) < ((l0.length : Int) : Int) := of_decide_eq_true (by first | (with_reducible assumption) | assumption); first | (have e_ := (Kd.R_reads' HO_0.out).1; omega) | simpa only [Ny131.out, Ny133.out, Ny140.out, List.length_set] using h_); have ql141 : (((ji71) : Int) < ((l0.length : Int) : Int)) = True := eq_true (of_decide_eq_true (by first | (with_reducible assumption) | assumption)); obtain ⟨ad141, e141, hx141_0⟩ := Kd.at_int (Kd.R_reads' HO_0.out).2.2 (ji71) p141 q141; obtain rfl : (⟨go39, 0, none⟩ : Addr) = ad141 := (by injection e141); (first | simp only [add_plain] at hx141_0 | simp only [add_at] at hx141_0 | simp only [Addr.add, Nat.zero_add] at hx141_0 | skip); replace p141 := eq_true p141; replace q141 := eq_true q141; have p75 : 0 ≤ ((ji71) : Int) := of_decide_eq_true (by first | (with_reducible assumption) | assumption); have q75 : ((ji71) : Int) < ((l0.length : Int) : Int) := of_decide_eq_true (by first | (with_reducible assumption) | assumption); obtain ⟨hx75_0, hf75_0⟩ := Kd.R_celln 0 HO_0.out ((ji71) : Int) p75 q75; replace p75 := eq_true p75; replace q75 := eq_true q75; obtain ⟨hy83_, hz83_⟩ := Kd.R_celln 0 HO_0.out ((ji71) : Int) (of_decide_eq_true (by first | (with_reducible assumption) | assumption)) (of_decide_eq_true (by first | (with_reducible assumption) | assumption)); have HP83 := Kd.R_putg HO_0.out ((ji71) : Int) (Go.bits .or .u8 (rd y140 (ji71)) (Go.bits .andNot .u8 x10_5 (rd gtab3 (ji11))))) | ((with_reducible refine gate_store (t := 5) (p := 111) rfl ?_); refine store_event (t := 5) (p := 111) (v := ?vo_w84) (w1 := (w82.setCell ⟨go39, ((ji71) : Int).toNat, none⟩ (.int .u8 (Go.bits .or .u8 (rd y140 (ji71)) (Go.bits .andNot .u8 x10_5 (rd gtab3 (ji11))))))) ?hg ?ho ?hn ?hr ?_; (case ho => rfl); (case hg => rfl); (case hn => rfl); (case hr => first | (go_simp; done) | (go_simp; rfl)); intro w84 hw; have hg : w82.grownBy w84 (some go39) := (by rw [hw]; exact HP83.2); have hp_ : Kd.R (Kd.int .u8) 5 w84 w0.heap.size (fun k_ => (P0_ k_ ∨ w.heap.size ≤ k_)) (.slice (some ⟨go39, 0, none⟩) l0.length co76) y142 := (by rw [hw, Ny142.out]; exact HP83.1); clear HP83; have n0_ := Aside0.mk (hp_); have n1_ := Aside0.mk ((by rw [hw]; exact below_set (HB.out) GB39.out : Below w0.heap.size w0 w84)); have n2_ := Aside0.mk (Kept.of_grown (S := (fun k_ => P0_ k_)) hg (by repeat (first | (with_reducible first | exact HK.out | apply Kept.alloc | apply Kept.drewN | apply Kept.drew) | exact HK.out)) (fun k_ e_ => (HO_0.out.1 k_ e_))); clear HO_0; clear HB; clear HK; have HO_0 := n0_; have HB := n1_; have HK := n2_; clear n0_ n1_ n2_; clear hg hw hp_))
                              first | go_end0 | ((try simp only [Exit.inBlock, Exit.then]); refine bodyPost_ret (results_none rfl _ _ _) rfl ?_)
                              exact ⟨by first | rfl | (simp [errW_none, errW_some] <;> rfl) | (simp only [← hji8, ← hji11, ← hji36, ← hji71]; first | rfl | (simp [errW_none, errW_some] <;> rfl)) | (simp [*, errW_none, errW_some] <;> rfl), by (with_reducible repeat (first | apply Kd.R_alloc | apply Kd.R_drewN | apply Kd.R_drew)); exact HO_0.out, by repeat (first | (with_reducible first | exact HB.out | apply below_alloc | apply pw_below_drewN | apply below_drew1) | exact HB.out), by repeat (first | (with_reducible first | exact HK.out | apply Kept.alloc | apply Kept.drewN | apply Kept.drew) | exact HK.out)⟩
                            · rw [if_neg c73] at H
                              exact absurd H (by simp)
                          · rw [if_neg c72] at H
                            exact absurd H (by simp)
                    · rw [if_neg c38] at H
                      exact absurd H (by simp)
                  · rw [if_neg c37] at H
                    exact absurd H (by simp)
              · rw [if_neg c13] at H
                exact absurd H (by simp)
            · rw [if_neg c12] at H
              exact absurd H (by simp)
          · rw [if_neg c10] at H
            exact absurd H (by simp)
        · rw [if_neg c9] at H
          exact absurd H (by simp)

/-! ### impl_SetRange: function 12 -/
def impl_SetRange.f (k : Nat) (l0 : List Int) (a1 : Int) (a2 : Int) (a3 : Bool) : Option (List Int) := (impl_copied.f l0).bind fun t144 => ((bitutil_SetBitsTo.f k t144 a1 a2 a3).bind fun t147 => (some t147))
theorem impl_SetRange.mono : ∀ a0 a1 a2 a3 k, LeO (impl_SetRange.f k a0 a1 a2 a3) (impl_SetRange.f (k + 1) a0 a1 a2 a3) := by
  intro a0 a1 a2 a3 k
  unfold impl_SetRange.f
  repeat' first
      | (with_reducible exact bitutil_SetBitsTo.mono _ _ _ _ _)
      | (with_reducible exact LeO.refl _)
      | (with_reducible exact LeO.none _)
      | (with_reducible refine LeO.ite ?_ ?_)
      | (with_reducible refine LeO.bind ?_ (fun _ => ?_))
      | exact bitutil_SetBitsTo.mono _ _ _ _ _
      | exact LeO.none _
      | refine LeO.ite ?_ ?_
      | refine LeO.bind ?_ (fun _ => ?_)
set_option maxHeartbeats 8000000 in
set_option maxRecDepth 100000 in
theorem impl_SetRange.calls (k : Nat) (A0 : Option Addr) (c0 : Nat) (l0 : List Int) (a1 : Int) (a2 : Int) (a3 : Bool) (r : List Int) (w : World) (hr0 : Kd.C (Kd.int .u8) w A0 l0.length l0) (hc0 : l0.length ≤ c0) (hg2 : Kd.C (Kd.int .u8) w (some ⟨2, 0, none⟩) gtab2.length gtab2) (hg3 : Kd.C (Kd.int .u8) w (some ⟨3, 0, none⟩) gtab3.length gtab3) (h : impl_SetRange.f k l0 a1 a2 a3 = some r) :
    Calls Tryd.prog 12 #[.slice A0 l0.length c0, .int .i64 a1, .int .i64 a2, .bool a3] w fun e w' => ∃ v0_ : Value, e = .returned (v0_) ∧ Kd.R (Kd.int .u8) 5 w' w.heap.size (fun _ => True) v0_ r ∧ Below w.heap.size w w' := by
  have HR0 := Aside0.mk hr0
  have HC0 := Aside0.mk hc0
  clear hr0 hc0
  have HG2 := Aside0.mk hg2
  clear hg2
  have HG3 := Aside0.mk hg3
  clear hg3
  have HB := Aside0.mk (Below.refl w.heap.size w)
  have H : ((impl_copied.f l0).bind fun t144 => ((bitutil_SetBitsTo.f k t144 a1 a2 a3).bind fun t147 => (some t147))) = some r := h
  clear h
  replace H := Option.bind_eq_some_iff.mp H
  obtain ⟨t144, A50, H⟩ := H
  replace H : ((bitutil_SetBitsTo.f k t144 a1 a2 a3).bind fun t147 => (some t147)) = some r := H
  have A5 := Aside0.mk A50
  clear A50
  replace H := Option.bind_eq_some_iff.mp H
  obtain ⟨t147, A60, H⟩ := H
  replace H : (some t147) = some r := H
  have A6 := Aside0.mk A60
  clear A60
  obtain rfl := Option.some.inj H
  have hmf_ : ∀ (fn : Fn) (first cap : Array Value) (w : World), (Instr.makeFunc fn first cap).run Tryd.prog w = .ok (.func fn first cap) w := fun _ _ _ _ => rfl
  go_enter_defers Tryd.func12, Tryd.ntmps12
  refine Code.wp_mono (Aid.noPanic_le _) ?_
  go_wp2_with (first | ((with_reducible refine gate_dst (N := 8) rfl ?_); refine box_event ?hg (N := 8) ?hd (cs := #[.slice none 0 0]) (t := 22) ?hr ?_; (case hd => rfl); (case hg => rfl); (case hr => first | (go_simp; done) | (go_simp; rfl)); intro gb143 hg w7 hbox hb; have n0_ := Aside0.mk (below_step (by repeat (first | (with_reducible first | exact HB.out | apply below_alloc | apply pw_below_drewN | apply below_drew1) | exact HB.out)) hb); have n1_ := Aside0.mk (hbox); have n2_ := Aside0.mk ((by rw [hg]; exact (below_size (by repeat (first | (with_reducible first | exact HB.out | apply below_alloc | apply pw_below_drewN | apply below_drew1) | exact HB.out))) : w.heap.size ≤ gb143)); have n3_ := Aside0.mk ((by rw [hg]; exact (below_size (by repeat (first | (with_reducible first | exact HB.out | apply below_alloc | apply pw_below_drewN | apply below_drew1) | exact HB.out))) : w.heap.size ≤ gb143)); clear HB; have HB := n0_; have BK143 := n1_; have GW143 := n2_; have GE143 := n3_; clear n0_ n1_ n2_ n3_; clear hb hbox hg) | ((with_reducible refine gate_callee (f := 14) rfl ?_); refine goesL_ (some 12) rfl rfl Tryd.func14 (by kernel_rfl) rfl #[.slice A0 l0.length c0] rfl (by (try simp only [List.map_toArray, List.map_cons, List.map_nil]); first | done | rfl | (simp only [List.length_drop, List.length_take]; rfl)) ?_; (with_reducible refine (impl_copied.calls _ _ l0 t144 _ ?side1 ?side2 A5.out).mono ?_); (case side1 => repeat (first | exact (Kd.C_below HR0.out HB.out) | (with_reducible refine Kd.C_alloc ?_ _) | (with_reducible refine Kd.C_drewN ?_ _) | (with_reducible refine Kd.C_drew ?_))); (case side2 => exact HC0.out); rintro e w8 ⟨v145, rfl, ho0, hb⟩; refine ⟨_, rfl, ?_⟩; have n0_ := Aside0.mk (Kd.R_lower ho0 (below_size (by repeat (first | (with_reducible first | exact HB.out | apply below_alloc | apply pw_below_drewN | apply below_drew1 | refine below_set ?_ GE143.out) | exact HB.out)))); have n1_ := Aside0.mk (blk_below (g := gb143) (o := .cells #[.slice none 0 0] 22 (0, 0)) (by (with_reducible repeat (first | refine blk_drewN ?_ _ | refine blk_drew ?_ | refine blk_alloc ?_ _)); exact BK143.out) hb); have n2_ := Aside0.mk (below_step (by repeat (first | (with_reducible first | exact HB.out | apply below_alloc | apply pw_below_drewN | apply below_drew1 | refine below_set ?_ GE143.out) | exact HB.out)) hb); clear BK143; clear HB; have HO146 := n0_; have BK143 := n1_; have HB := n2_; clear n0_ n1_ n2_; (try clear hb); (try clear hb2); (try clear hk); (try clear hi); (try clear ho0); obtain ⟨Ao9, co9, eo9⟩ := Kd.R_slice HO146.out; subst eo9) | ((with_reducible refine gate_callee (f := 24) rfl ?_); refine goesL_ (some 17) rfl rfl Tryd.func24 (by kernel_rfl) rfl #[.slice Ao9 t144.length co9, .int .i64 a1, .int .i64 a2, .bool a3] rfl (by (try simp only [List.map_toArray, List.map_cons, List.map_nil]); first | done | rfl | (simp only [List.length_drop, List.length_take]; rfl)) ?_; (with_reducible refine (bitutil_SetBitsTo.calls k (fun k_ => some k_ = (.slice Ao9 t144.length co9 : Value).ownBlock) (.slice Ao9 t144.length co9) t144 a1 a2 a3 t147 w _ ?side1 ?side2 ?side3 ?side4 A6.out).mono ?_); (case side1 => repeat (first | (with_reducible first | exact HB.out | apply below_alloc | apply pw_below_drewN | apply below_drew1 | refine below_set ?_ GE143.out) | exact HB.out)); (case side2 => exact Kd.R_tight rfl HO146.out); (case side3 => first | exact HG2.out | exact Kd.C_below HG2.out (by repeat (first | (with_reducible first | exact HB.out | apply below_alloc | apply pw_below_drewN | apply below_drew1 | refine below_set ?_ GE143.out) | exact HB.out))); (case side4 => first | exact HG3.out | exact Kd.C_below HG3.out (by repeat (first | (with_reducible first | exact HB.out | apply below_alloc | apply pw_below_drewN | apply below_drew1 | refine below_set ?_ GE143.out) | exact HB.out))); rintro e w10 ⟨rfl, hy0, hb, hkp⟩; refine ⟨_, rfl, ?_⟩; have n0_ := Aside0.mk (blk_kept (by (with_reducible repeat (first | refine blk_drewN ?_ _ | refine blk_drew ?_ | refine blk_alloc ?_ _)); exact BK143.out) hkp (fun hs_ => (fun e_ => (Kd.R_ne HO146.out BK143.out (by decide)) e_) hs_)); have n1_ := Aside0.mk (Kd.R_reok rfl hy0 (fun k_ e_ => HO146.out.1 k_ e_)); have n2_ := Aside0.mk (hb); clear BK143; clear HO146; clear HB; have BK143 := n0_; have HO146 := n1_; have HB := n2_; clear n0_ n1_ n2_; (try clear hb); (try clear hkp); (try clear hy0); have hcz11_0 : w10.cell? ⟨gb143, 0, none⟩ = some (.slice none 0 0) := (blk_cell BK143.out 0).trans rfl; have hfz11_0 := blk_frozen BK143.out 0))
  (try simp only [Exit.inBlock, Exit.then])
  refine Aid.door_ (G := 23) (by simp [go_sem]) (idle23 (.pointer (some ⟨gb143, 0, none⟩))) (Aid.resultsB_single rfl (.one gb143 22 (.slice Ao9 t144.length co9) _ rfl (by (with_reducible repeat (first | refine blk_drewN ?_ _ | refine blk_drew ?_ | refine blk_alloc ?_ _)); refine blk_put (cs := #[.slice none 0 0]) ?_ 0 _ rfl; (with_reducible repeat (first | refine blk_drewN ?_ _ | refine blk_drew ?_ | refine blk_alloc ?_ _)); exact BK143.out) Tryd.underlying22 rfl .nil)) ?_
  exact ⟨_, by first | rfl | (simp [errW_none, errW_some] <;> rfl) | (simp [*, errW_none, errW_some] <;> rfl), by (with_reducible repeat (first | apply Kd.R_alloc | apply Kd.R_drewN | apply Kd.R_drew)); exact Kd.R_mono (Kd.R_far (p := ⟨gb143, 0, none⟩) (Kd.R_types HO146.out BK143.out (by decide)) (fun _ hk => hk.2) (.slice Ao9 t144.length co9)) (fun _ hk => trivial), by repeat (first | (with_reducible first | exact HB.out | apply below_alloc | apply pw_below_drewN | apply below_drew1 | refine below_set ?_ GE143.out) | exact HB.out)⟩

/-! ### laws_FnSetRange: function 4 -/
def laws_FnSetRange.l0 : Nat → List Int → Int → Int → Bool → List Bool → Int → Int → Option (Bool)
  | 0, _, _, _, _, _, _, _ => none
  | k + 1, x0, x1, x2, x3, x9, x22, x23 => if x23 < x22 then (if 0 ≤ x23 then (if x23 < (x9.length : Int) then (laws_FnSetRange.l0 k x0 x1 x2 x3 (x9.set (x23 : Int).toNat x3) x22 (wrap64 (x23 + 1))) else (none)) else (none)) else ((impl_SetRange.f k x0 x1 x2 x3).bind fun t153 => ((laws_changed.f k x0 x1 x9).bind fun t156 => ((laws_same.f t153 t156).bind fun t159 => (some t159))))
def laws_FnSetRange.f (k : Nat) (l0 : List Int) (a1 : Int) (a2 : Int) (a3 : Bool) : Option (Bool) := if (l0.length : Int) > 2147483647 then (some true) else ((laws_within.f l0 a1 a2).bind fun t148 => (if t148 = true then (if 0 ≤ a2 then (if (a2 : Int).toNat ≤ 281474976710656 then ((some (List.replicate (a2 : Int).toNat false : List Bool)).bind fun y149 => (laws_FnSetRange.l0 k l0 a1 a2 a3 y149 (y149.length : Int) 0)) else (none)) else (none)) else (some true)))
theorem laws_FnSetRange.mono_l : ∀ k, (∀ y0 y1 y2 y3 y4 y5 y6, LeO (laws_FnSetRange.l0 k y0 y1 y2 y3 y4 y5 y6) (laws_FnSetRange.l0 (k + 1) y0 y1 y2 y3 y4 y5 y6))
  | 0 => fun _ _ _ _ _ _ _ r h => by simp [laws_FnSetRange.l0] at h
  | k + 1 => by
    have ih0 := laws_FnSetRange.mono_l k
    · intro y0 y1 y2 y3 y4 y5 y6
      unfold laws_FnSetRange.l0
      repeat' first
      | (with_reducible exact ih0 _ _ _ _ _ _ _)
      | (with_reducible exact impl_SetRange.mono _ _ _ _ _)
      | (with_reducible exact laws_changed.mono _ _ _ _)
      | (with_reducible exact LeO.refl _)
      | (with_reducible exact LeO.none _)
      | (with_reducible refine LeO.ite ?_ ?_)
      | (with_reducible refine LeO.bind ?_ (fun _ => ?_))
      | exact ih0 _ _ _ _ _ _ _
      | exact impl_SetRange.mono _ _ _ _ _
      | exact laws_changed.mono _ _ _ _
      | exact LeO.none _
      | refine LeO.ite ?_ ?_
      | refine LeO.bind ?_ (fun _ => ?_)
theorem laws_FnSetRange.mono : ∀ a0 a1 a2 a3 k, LeO (laws_FnSetRange.f k a0 a1 a2 a3) (laws_FnSetRange.f (k + 1) a0 a1 a2 a3) := by
  intro a0 a1 a2 a3 k
  have ih0 := laws_FnSetRange.mono_l k
  unfold laws_FnSetRange.f
  repeat' first
      | (with_reducible exact ih0 _ _ _ _ _ _ _)
      | (with_reducible exact impl_SetRange.mono _ _ _ _ _)
      | (with_reducible exact laws_changed.mono _ _ _ _)
      | (with_reducible exact LeO.refl _)
      | (with_reducible exact LeO.none _)
      | (with_reducible refine LeO.ite ?_ ?_)
      | (with_reducible refine LeO.bind ?_ (fun _ => ?_))
      | exact ih0 _ _ _ _ _ _ _
      | exact impl_SetRange.mono _ _ _ _ _
      | exact laws_changed.mono _ _ _ _
      | exact LeO.none _
      | refine LeO.ite ?_ ?_
      | refine LeO.bind ?_ (fun _ => ?_)
set_option maxHeartbeats 8000000 in
set_option maxRecDepth 100000 in
theorem laws_FnSetRange.calls (k : Nat) (A0 : Option Addr) (c0 : Nat) (l0 : List Int) (a1 : Int) (a2 : Int) (a3 : Bool) (r : Bool) (w : World) (hr0 : Kd.C (Kd.int .u8) w A0 l0.length l0) (hc0 : l0.length ≤ c0) (hg2 : Kd.C (Kd.int .u8) w (some ⟨2, 0, none⟩) gtab2.length gtab2) (hg3 : Kd.C (Kd.int .u8) w (some ⟨3, 0, none⟩) gtab3.length gtab3) (h : laws_FnSetRange.f k l0 a1 a2 a3 = some r) :
    Calls Tryd.prog 4 #[.slice A0 l0.length c0, .int .i64 a1, .int .i64 a2, .bool a3] w fun e w' => e = .returned (.bool r) ∧ Below w.heap.size w w' := by
  have HR0 := Aside0.mk hr0
  have HC0 := Aside0.mk hc0
  clear hr0 hc0
  have HG2 := Aside0.mk hg2
  clear hg2
  have HG3 := Aside0.mk hg3
  clear hg3
  have HB := Aside0.mk (Below.refl w.heap.size w)
  have H : (if (l0.length : Int) > 2147483647 then (some true) else ((laws_within.f l0 a1 a2).bind fun t148 => (if t148 = true then (if 0 ≤ a2 then (if (a2 : Int).toNat ≤ 281474976710656 then ((some (List.replicate (a2 : Int).toNat false : List Bool)).bind fun y149 => (laws_FnSetRange.l0 k l0 a1 a2 a3 y149 (y149.length : Int) 0)) else (none)) else (none)) else (some true)))) = some r := h
  clear h
  by_cases c5 : (l0.length : Int) > 2147483647
  · rw [if_pos c5] at H
    have c5b0 : decide (2147483647 < (l0.length : Int)) = true := decide_eq_true c5
    have c5b1 : decide (2147483647 < l0.length) = true := decide_eq_true (by omega)
    clear c5
    obtain rfl := Option.some.inj H
    go_enter Tryd.func4, Tryd.ntmps4
    go_wp2
    go_ret
    exact ⟨by first | rfl | (simp [errW_none, errW_some] <;> rfl) | (simp [*, errW_none, errW_some] <;> rfl), by repeat (first | (with_reducible first | exact HB.out | apply below_alloc | apply pw_below_drewN | apply below_drew1) | exact HB.out)⟩
  · rw [if_neg c5] at H
    have c5b0 : decide (2147483647 < (l0.length : Int)) = false := decide_eq_false c5
    have c5b1 : decide (2147483647 < l0.length) = false := decide_eq_false (by omega)
    clear c5
    replace H := Option.bind_eq_some_iff.mp H
    obtain ⟨t148, A60, H⟩ := H
    replace H : (if t148 = true then (if 0 ≤ a2 then (if (a2 : Int).toNat ≤ 281474976710656 then ((some (List.replicate (a2 : Int).toNat false : List Bool)).bind fun y149 => (laws_FnSetRange.l0 k l0 a1 a2 a3 y149 (y149.length : Int) 0)) else (none)) else (none)) else (some true)) = some r := H
    have A6 := Aside0.mk A60
    clear A60
    by_cases c7 : t148 = true
    · subst c7
      have H1 : (if 0 ≤ a2 then (if (a2 : Int).toNat ≤ 281474976710656 then ((some (List.replicate (a2 : Int).toNat false : List Bool)).bind fun y149 => (laws_FnSetRange.l0 k l0 a1 a2 a3 y149 (y149.length : Int) 0)) else (none)) else (none)) = some r := by rw [if_pos rfl] at H; exact H
      clear H
      have H := H1
      clear H1
      by_cases c8 : 0 ≤ a2
      · rw [if_pos c8] at H
        have c8b0 := eq_true c8
        have c8b1 : decide (0 ≤ a2) = true := decide_eq_true c8
        clear c8
        by_cases c9 : (a2 : Int).toNat ≤ 281474976710656
        · rw [if_pos c9] at H
          have c9b0 := eq_true c9
          have c9b1 : decide ((a2 : Int).toNat ≤ 281474976710656) = true := decide_eq_true c9
          clear c9
          obtain ⟨y149, hy149⟩ : ∃ y_ : List Bool, y_ = (List.replicate (a2 : Int).toNat false) := ⟨_, rfl⟩
          replace H : (laws_FnSetRange.l0 k l0 a1 a2 a3 y149 (y149.length : Int) 0) = some r := by first | (rw [hy149]; with_reducible exact H) | (have H2_ := (Option.bind_some _ _).symm.trans H; rw [hy149]; with_reducible exact H2_) | (have H2_ := (Option.bind_some _ _).symm.trans H; with_reducible exact H2_) | with_reducible exact H | (rw [hy149]; exact H) | exact H
          have Ny149 := Aside0.mk hy149
          clear hy149
          have H' := Aside0.mk H
          clear H
          go_enter Tryd.func4, Tryd.ntmps4
          go_wp2_with (first | ((with_reducible refine gate_callee (f := 5) rfl ?_); refine goesL_ (some 17) rfl rfl Tryd.func5 (by kernel_rfl) rfl #[.slice A0 l0.length c0, .int .i64 a1, .int .i64 a2] rfl (by (try simp only [List.map_toArray, List.map_cons, List.map_nil]); first | done | rfl | (simp only [List.length_drop, List.length_take]; rfl)) ?_; (with_reducible refine (laws_within.calls _ _ l0 a1 a2 true _ ?side1 ?side2 A6.out).mono ?_); (case side1 => repeat (first | exact HR0.out | (with_reducible refine Kd.C_alloc ?_ _) | (with_reducible refine Kd.C_drewN ?_ _) | (with_reducible refine Kd.C_drew ?_))); (case side2 => exact HC0.out); rintro e w' ⟨rfl, ⟨nd, rfl⟩⟩; refine ⟨_, rfl, ?_⟩) | ((with_reducible refine gate_dst (N := 20) rfl ?_); refine Kd.R_make Kd.bool _ 4 rfl (N := 20) rfl 29 _ _ rfl a2 rfl rfl Tryd.underlying29 (.bool false) 1 info4 rfl (by decide) (by omega) false (ok := fun _ => True) (okp := fun _ => True) rfl (fun _ hk => hk) trivial (of_decide_eq_true (by first | (with_reducible assumption) | assumption)) (Nat.le_trans (Nat.mul_le_mul_right _ (of_decide_eq_true (by first | (with_reducible assumption) | assumption) : a2.toNat ≤ 281474976710656)) (by omega)) (Below.refl _ _) (Nat.le_refl _) ?_; intro v150 w10 ho11 hb hg_ hnew_; clear hg_ hnew_; (first | rw [← Ny149.out] at ho11 | (simp only [Int.reduceToNat] at ho11; rw [← Ny149.out] at ho11)); have n0_ := Aside0.mk (Kd.R_lower ho11 (below_size (by repeat (first | (with_reducible first | exact HB.out | apply below_alloc | apply pw_below_drewN | apply below_drew1) | exact HB.out)))); have n1_ := Aside0.mk (below_step (by repeat (first | (with_reducible first | exact HB.out | apply below_alloc | apply pw_below_drewN | apply below_drew1) | exact HB.out)) hb); clear HB; have HO151 := n0_; have HB := n1_; clear n0_ n1_; clear hb ho11; obtain ⟨Ao12, co12, eo12⟩ := Kd.R_slice HO151.out; subst eo12))
          go_loopg [23] k (fun kq v23 w' => ∃ (x9_1 : List Bool) (x23_1 : Int), v23 = .int .i64 x23_1 ∧ Aside0 (laws_FnSetRange.l0 kq l0 a1 a2 a3 x9_1 (y149.length : Int) x23_1 = some r) ∧ Aside0 (kq ≤ k) ∧ Aside0 (Kd.R Kd.bool 4 w' w.heap.size (fun _ => True) (.slice Ao12 y149.length co12) x9_1) ∧ Aside0 (Below w.heap.size w w'))
          case atStart => exact ⟨(y149), (0), (by first | rfl | (simp; done) | (simp [*]; done)), H', ⟨Nat.le_refl _⟩, ⟨by (with_reducible repeat (first | apply Kd.R_alloc | apply Kd.R_drewN | apply Kd.R_drew)); exact HO151.out⟩, ⟨by repeat (first | (with_reducible first | exact HB.out | apply below_alloc | apply pw_below_drewN | apply below_drew1) | exact HB.out)⟩⟩
          case round =>
            clear H'
            try clear p2
            try clear c4
            try clear c5
            try clear c5b0
            try clear c5b1
            try clear c7
            try clear c8
            try clear c8b0
            try clear c8b1
            try clear c9
            try clear c9b0
            try clear c9b1
            obtain ⟨x9_1, x23_1, rfl, HA, HK1, HO_9, HB⟩ := hrel
            have hl9_1 := (Kd.R_reads' HO_9.out).1
            rw [hl9_1] at HO_9
            (try simp only [hl9_1])
            cases gk with
            | zero => exact absurd HA.out (by simp [laws_FnSetRange.l0])
            | succ k1 =>
              have H := HA.out
              clear HA
              simp only [laws_FnSetRange.l0] at H
              by_cases c13 : x23_1 < (y149.length : Int)
              · rw [if_pos c13] at H
                have c13b0 : decide (x23_1 < (y149.length : Int)) = true := decide_eq_true c13
                clear c13
                by_cases c14 : 0 ≤ x23_1
                · rw [if_pos c14] at H
                  have c14b0 : decide (0 ≤ x23_1) = true := decide_eq_true c14
                  clear c14
                  by_cases c15 : x23_1 < (x9_1.length : Int)
                  · rw [if_pos c15] at H
                    have c15b0 : decide (x23_1 < (x9_1.length : Int)) = true := decide_eq_true c15
                    clear c15
                    obtain ⟨y152, hy152⟩ : ∃ y_ : List Bool, y_ = (x9_1.set (x23_1 : Int).toNat a3) := ⟨_, rfl⟩
                    replace H : (laws_FnSetRange.l0 k1 l0 a1 a2 a3 y152 (y149.length : Int) (wrap64 (x23_1 + 1))) = some r := by first | (rw [hy152]; with_reducible exact H) | (have H2_ := (Option.bind_some _ _).symm.trans H; rw [hy152]; with_reducible exact H2_) | (have H2_ := (Option.bind_some _ _).symm.trans H; with_reducible exact H2_) | with_reducible exact H | (rw [hy152]; exact H) | exact H
                    have Ny152 := Aside0.mk hy152
                    clear hy152
                    have H' := Aside0.mk H
                    clear H
                    have p16 : 0 ≤ (x23_1 : Int) := of_decide_eq_true (by first | (with_reducible assumption) | assumption)
                    have q16 : (x23_1 : Int) < ((x9_1.length : Int) : Int) := of_decide_eq_true (by first | (with_reducible assumption) | assumption)
                    obtain ⟨go16, co16, eo16, gb16, gl16, cl16, HG16⟩ := Kd.R_form HO_9.out (by omega)
                    (first | cases eo16 | (injection eo16 with ea_ en_ ec_; (first | subst ea_ | (injection ea_ with ea_; subst ea_)); subst ec_; clear en_))
                    have GB16 := Aside0.mk gb16
                    have GG16 := Aside0.mk HG16
                    clear gb16 gl16 HG16
                    obtain ⟨hx16_0, hf16_0⟩ := Kd.R_celln false HO_9.out (x23_1 : Int) p16 q16
                    replace p16 := eq_true p16
                    replace q16 := eq_true q16
                    have HP17 := Kd.R_putg HO_9.out (x23_1 : Int) a3
                    go_wp2_with (first | ((with_reducible refine gate_store (t := 4) (p := 29) rfl ?_); refine store_event (t := 4) (p := 29) (v := ?vo_w18) (w1 := (wr.setCell ⟨go16, (x23_1 : Int).toNat, none⟩ (.bool a3))) ?hg ?ho ?hn ?hr ?_; (case ho => rfl); (case hg => rfl); (case hn => rfl); (case hr => first | (go_simp; done) | (go_simp; rfl)); intro w18 hw; have hg : wr.grownBy w18 (some go16) := (by rw [hw]; exact HP17.2); have hp_ : Kd.R Kd.bool 4 w18 w.heap.size (fun _ => True) (.slice (some ⟨go16, 0, none⟩) x9_1.length co12) y152 := (by rw [hw, Ny152.out]; exact HP17.1); clear HP17; have n0_ := Aside0.mk (hp_); have n1_ := Aside0.mk ((by rw [hw]; exact below_set (HB.out) GB16.out : Below w.heap.size w w18)); clear HO_9; clear HB; have HO_9 := n0_; have HB := n1_; clear n0_ n1_; clear hg hw hp_))
                    (try simp only [← hl9_1])
                    go_roundg k1
                    case measure => have := HK1.out; omega
                    case rel => exact ⟨(y152), (wrap64 (x23_1 + 1)), (by first | rfl | (simp; done) | (simp [*]; done)), H', ⟨by have := HK1.out; omega⟩, ⟨by (try simp only [hl9_1]); (with_reducible repeat (first | apply Kd.R_alloc | apply Kd.R_drewN | apply Kd.R_drew)); exact HO_9.out⟩, ⟨by repeat (first | (with_reducible first | exact HB.out | apply below_alloc | apply pw_below_drewN | apply below_drew1) | exact HB.out)⟩⟩
                  · rw [if_neg c15] at H
                    exact absurd H (by simp)
                · rw [if_neg c14] at H
                  exact absurd H (by simp)
              · rw [if_neg c13] at H
                have c13b0 : decide (x23_1 < (y149.length : Int)) = false := decide_eq_false c13
                have c13b9 : decide (x23_1 < (x9_1.length : Int)) = false := by first | (rw [hl9_1] at c13b0; exact c13b0) | (rw [← hl9_1] at c13b0; exact c13b0)
                clear c13
                replace H := Option.bind_eq_some_iff.mp H
                obtain ⟨t153, A190, H⟩ := H
                replace H : ((laws_changed.f k1 l0 a1 x9_1).bind fun t156 => ((laws_same.f t153 t156).bind fun t159 => (some t159))) = some r := H
                have A19 := Aside0.mk A190
                clear A190
                replace H := Option.bind_eq_some_iff.mp H
                obtain ⟨t156, A200, H⟩ := H
                replace H : ((laws_same.f t153 t156).bind fun t159 => (some t159)) = some r := H
                have A20 := Aside0.mk A200
                clear A200
                replace H := Option.bind_eq_some_iff.mp H
                obtain ⟨t159, A210, H⟩ := H
                replace H : (some t159) = some r := H
                have A21 := Aside0.mk A210
                clear A210
                obtain rfl := Option.some.inj H
                go_wp2_with (first | ((with_reducible refine gate_callee (f := 12) rfl ?_); refine goesL_ (some 35) rfl rfl Tryd.func12 (by kernel_rfl) rfl #[.slice A0 l0.length c0, .int .i64 a1, .int .i64 a2, .bool a3] rfl (by (try simp only [List.map_toArray, List.map_cons, List.map_nil]); first | done | rfl | (simp only [List.length_drop, List.length_take]; rfl)) ?_; (with_reducible refine (impl_SetRange.calls k1 _ _ l0 a1 a2 a3 t153 _ ?side1 ?side2 ?side3 ?side4 A19.out).mono ?_); (case side1 => repeat (first | exact (Kd.C_below HR0.out HB.out) | (with_reducible refine Kd.C_alloc ?_ _) | (with_reducible refine Kd.C_drewN ?_ _) | (with_reducible refine Kd.C_drew ?_))); (case side2 => exact HC0.out); (case side3 => first | exact HG2.out | exact Kd.C_below HG2.out (by repeat (first | (with_reducible first | exact HB.out | apply below_alloc | apply pw_below_drewN | apply below_drew1) | exact HB.out))); (case side4 => first | exact HG3.out | exact Kd.C_below HG3.out (by repeat (first | (with_reducible first | exact HB.out | apply below_alloc | apply pw_below_drewN | apply below_drew1) | exact HB.out))); rintro e w22 ⟨v154, rfl, ho0, hb⟩; refine ⟨_, rfl, ?_⟩; have n0_ := Aside0.mk (Kd.R_below (by (with_reducible repeat (first | apply Kd.R_alloc | apply Kd.R_drewN | apply Kd.R_drew)); exact HO_9.out) hb); have n1_ := Aside0.mk (Kd.R_lower ho0 (below_size (by repeat (first | (with_reducible first | exact HB.out | apply below_alloc | apply pw_below_drewN | apply below_drew1) | exact HB.out)))); have n2_ := Aside0.mk (below_step (by repeat (first | (with_reducible first | exact HB.out | apply below_alloc | apply pw_below_drewN | apply below_drew1) | exact HB.out)) hb); clear HO_9; clear HB; have HO_9 := n0_; have HO155 := n1_; have HB := n2_; clear n0_ n1_ n2_; (try clear hb); (try clear hb2); (try clear hk); (try clear hi); (try clear ho0)) | ((with_reducible refine gate_callee (f := 9) rfl ?_); refine goesL_ (some 39) rfl rfl Tryd.func9 (by kernel_rfl) rfl #[.slice A0 l0.length c0, .int .i64 a1, .slice Ao12 x9_1.length co12] rfl (by (try simp only [List.map_toArray, List.map_cons, List.map_nil]); first | done | rfl | (simp only [List.length_drop, List.length_take]; rfl)) ?_; (with_reducible refine (laws_changed.calls k1 _ _ l0 a1 _ _ x9_1 t156 _ ?side1 ?side2 ?side3 ?side4 A20.out).mono ?_); (case side1 => repeat (first | exact (Kd.C_below HR0.out HB.out) | (with_reducible refine Kd.C_alloc ?_ _) | (with_reducible refine Kd.C_drewN ?_ _) | (with_reducible refine Kd.C_drew ?_))); (case side2 => exact HC0.out); (case side3 => repeat (first | exact (Kd.R_reads' HO_9.out).2.2 | (with_reducible refine Kd.C_alloc ?_ _) | (with_reducible refine Kd.C_drewN ?_ _) | (with_reducible refine Kd.C_drew ?_))); (case side4 => exact (Kd.R_reads' HO_9.out).2.1); rintro e w23 ⟨v157, rfl, ho0, hb⟩; refine ⟨_, rfl, ?_⟩; have n0_ := Aside0.mk (Kd.R_below (by (with_reducible repeat (first | apply Kd.R_alloc | apply Kd.R_drewN | apply Kd.R_drew)); exact HO_9.out) hb); have n1_ := Aside0.mk (Kd.R_elder' (by (with_reducible repeat (first | apply Kd.R_alloc | apply Kd.R_drewN | apply Kd.R_drew)); exact HO155.out) (Kd.R_base ho0) hb); have n2_ := Aside0.mk (Kd.R_lower (Kd.R_new' ho0 (Kd.R_lt (by (with_reducible repeat (first | apply Kd.R_alloc | apply Kd.R_drewN | apply Kd.R_drew)); exact HO155.out))) (below_size (by repeat (first | (with_reducible first | exact HB.out | apply below_alloc | apply pw_below_drewN | apply below_drew1) | exact HB.out)))); have n3_ := Aside0.mk (below_step (by repeat (first | (with_reducible first | exact HB.out | apply below_alloc | apply pw_below_drewN | apply below_drew1) | exact HB.out)) hb); clear HO_9; clear HO155; clear HB; have HO_9 := n0_; have HO155 := n1_; have HO158 := n2_; have HB := n3_; clear n0_ n1_ n2_ n3_; (try clear hb); (try clear hb2); (try clear hk); (try clear hi); (try clear ho0); obtain ⟨Ao24, co24, eo24⟩ := Kd.R_slice HO155.out; subst eo24; obtain ⟨Ao25, co25, eo25⟩ := Kd.R_slice HO158.out; subst eo25) | ((with_reducible refine gate_callee (f := 8) rfl ?_); refine goesL_ (some 40) rfl rfl Tryd.func8 (by kernel_rfl) rfl #[.slice Ao24 t153.length co24, .slice Ao25 t156.length co25] rfl (by (try simp only [List.map_toArray, List.map_cons, List.map_nil]); first | done | rfl | (simp only [List.length_drop, List.length_take]; rfl)) ?_; (with_reducible refine (laws_same.calls _ _ t153 _ _ t156 t159 _ ?side1 ?side2 ?side3 ?side4 A21.out).mono ?_); (case side1 => repeat (first | exact (Kd.R_reads' HO155.out).2.2 | (with_reducible refine Kd.C_alloc ?_ _) | (with_reducible refine Kd.C_drewN ?_ _) | (with_reducible refine Kd.C_drew ?_))); (case side2 => exact (Kd.R_reads' HO155.out).2.1); (case side3 => repeat (first | exact (Kd.R_reads' HO158.out).2.2 | (with_reducible refine Kd.C_alloc ?_ _) | (with_reducible refine Kd.C_drewN ?_ _) | (with_reducible refine Kd.C_drew ?_))); (case side4 => exact (Kd.R_reads' HO158.out).2.1); rintro e w' ⟨rfl, ⟨nd, rfl⟩⟩; refine ⟨_, rfl, ?_⟩))
                go_ret
                exact ⟨by first | rfl | (simp [errW_none, errW_some] <;> rfl) | (simp [*, errW_none, errW_some] <;> rfl), by repeat (first | (with_reducible first | exact HB.out | apply below_alloc | apply pw_below_drewN | apply below_drew1) | exact HB.out)⟩
        · rw [if_neg c9] at H
          exact absurd H (by simp)
      · rw [if_neg c8] at H
        exact absurd H (by simp)
    · replace c7 := Bool.eq_false_iff.mpr c7
      subst c7
      have H1 : (some true) = some r := by rw [if_neg (show ¬ (false = true) by decide)] at H; exact H
      clear H
      have H := H1
      clear H1
      obtain rfl := Option.some.inj H
      go_enter Tryd.func4, Tryd.ntmps4
      go_wp2_with (first | ((with_reducible refine gate_callee (f := 5) rfl ?_); refine goesL_ (some 17) rfl rfl Tryd.func5 (by kernel_rfl) rfl #[.slice A0 l0.length c0, .int .i64 a1, .int .i64 a2] rfl (by (try simp only [List.map_toArray, List.map_cons, List.map_nil]); first | done | rfl | (simp only [List.length_drop, List.length_take]; rfl)) ?_; (with_reducible refine (laws_within.calls _ _ l0 a1 a2 false _ ?side1 ?side2 A6.out).mono ?_); (case side1 => repeat (first | exact HR0.out | (with_reducible refine Kd.C_alloc ?_ _) | (with_reducible refine Kd.C_drewN ?_ _) | (with_reducible refine Kd.C_drew ?_))); (case side2 => exact HC0.out); rintro e w' ⟨rfl, ⟨nd, rfl⟩⟩; refine ⟨_, rfl, ?_⟩))
      go_ret
      exact ⟨by first | rfl | (simp [errW_none, errW_some] <;> rfl) | (simp [*, errW_none, errW_some] <;> rfl), by repeat (first | (with_reducible first | exact HB.out | apply below_alloc | apply pw_below_drewN | apply below_drew1) | exact HB.out)⟩

/-- THE ONE PURE STATEMENT of laws_FnSetRange: yours. -/
def laws_FnSetRange.Pure : Prop := ∀ (l0 : List Int) (a1 : Int) (a2 : Int) (a3 : Bool), l0.length ≤ maxLen → l0.length * 1 ≤ 140737488351232 → (∀ x ∈ l0, (Lit.int .u8 x).wf = true) → (Lit.int .i64 a1).wf = true → (Lit.int .i64 a2).wf = true → ∃ k, laws_FnSetRange.f k l0 a1 a2 a3 = some true
theorem laws_FnSetRange.walk (P : laws_FnSetRange.Pure) (a0 : Option Addr) (len0 cap0 : Nat) (z0 : List Int) (a1 : Int) (a2 : Int) (a3 : Bool) (w : World) (w0 : (a0 = none ∧ len0 = 0 ∧ cap0 = 0 ∧ z0 = []) ∨ ∃ x, a0 = some x ∧ len0 ≤ cap0 ∧ cap0 ≤ maxLen ∧ z0.length = cap0 ∧ (∀ i, i < z0.length → w.cell? (x.add i) = some (.int .u8 (z0.getD i 0))) ∧ ∀ n ∈ z0, (Lit.int .u8 n).wf = true) (y0 : len0 * 1 ≤ 140737488351232) (w1 : (Lit.int .i64 a1).wf = true) (w2 : (Lit.int .i64 a2).wf = true) (hg2 : Kd.C (Kd.int .u8) w (some ⟨2, 0, none⟩) gtab2.length gtab2) (hg3 : Kd.C (Kd.int .u8) w (some ⟨3, 0, none⟩) gtab3.length gtab3) :
    Calls Tryd.prog 4 #[.slice a0 len0 cap0, .int .i64 a1, .int .i64 a2, .bool a3] w fun e w' => e = .returned (.bool true) ∧ Below w.heap.size w w' := by
  obtain ⟨l0, rfl, hr0, hm0, hw0, hc0⟩ := ReadsInt.ofRowC w0
  obtain ⟨k, h⟩ := P l0 a1 a2 a3 hm0 y0 hw0 w1 w2
  refine (laws_FnSetRange.calls k _ _ l0 a1 a2 a3 true w (Kd.C_of_reads (d := (0 : Int)) (h1 := fun _ => rfl) hr0) hc0 hg2 hg3 h).mono ?_
  rintro e w' ⟨rfl, hd⟩
  exact ⟨rfl, hd⟩

end Go.Proofs.YticieelobdfloaaDoor.QSetRange
