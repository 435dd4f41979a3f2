/- Written by a program of mine over the kit's print program, turned at a few places (variables of one cell in memory; deferred closures): each Go function as a Lean function, with the proof of its call. -/
import Derived.Test.YticieelobdfloaaDoorQTouchedx0
namespace Go.Proofs.YticieelobdfloaaDoor.QTouched
open Go.RowKit Go.Proofs.YticieelobdfloaaDoorW.PrintWords Go.Proofs.YticieelobdfloaaDoorW.PrintLast Go.Proofs.YticieelobdfloaaDoorW.PrintMore
attribute [local go_sem] max2_int min2_int max_two min_two max_three min_three max_four min_four   -- for this text's walks alone
set_option linter.unusedVariables false
set_option linter.unusedSimpArgs false

/-! ### laws_changed: function 9 -/
def laws_changed.l0 : Nat → Int → List Int → List Bool → Int → Int → Option (List Int)
  | 0, _, _, _, _, _ => none
  | k + 1, x1, x7, x14, x15, x16 => if x16 < x15 then (if 0 ≤ x16 then (if x16 < (x14.length : Int) then (if 0 ≤ (wrap64 (Int.tdiv (wrap64 (x1 + x16)) 8)) then (if (wrap64 (Int.tdiv (wrap64 (x1 + x16)) 8)) < (x7.length : Int) then (if 0 ≤ (Int.tmod (wrap64 (x1 + x16)) 8) then ((some (x7.set ((wrap64 (Int.tdiv (wrap64 (x1 + x16)) 8)) : Int).toNat (Go.bits .andNot .u8 (rd x7 (wrap64 (Int.tdiv (wrap64 (x1 + x16)) 8))) (shl .u8 1 (Int.tmod (wrap64 (x1 + x16)) 8))) : List Int)).bind fun y144 => (if rdOf false x14 x16 = true then (laws_changed.l0 k x1 (y144.set ((wrap64 (Int.tdiv (wrap64 (x1 + x16)) 8)) : Int).toNat (Go.bits .or .u8 (rd y144 (wrap64 (Int.tdiv (wrap64 (x1 + x16)) 8))) (shl .u8 1 (Int.tmod (wrap64 (x1 + x16)) 8)))) x14 x15 (wrap64 (x16 + 1))) else (laws_changed.l0 k x1 y144 x14 x15 (wrap64 (x16 + 1))))) else (none)) else (none)) else (none)) else (none)) else (none)) else (some x7)
def laws_changed.f (k : Nat) (l0 : List Int) (a1 : Int) (l2 : List Bool) : Option (List Int) := (some (([] : List Int) : List Int)).bind fun y136 => (if y136.length + l0.length < 140737488355328 then (laws_changed.l0 k a1 (y136 ++ l0) l2 (l2.length : Int) 0) else (none))
theorem laws_changed.mono_l : ∀ k, (∀ y0 y1 y2 y3 y4, LeO (laws_changed.l0 k y0 y1 y2 y3 y4) (laws_changed.l0 (k + 1) y0 y1 y2 y3 y4))
  | 0 => fun _ _ _ _ _ r h => by simp [laws_changed.l0] at h
  | k + 1 => by
    have ih0 := laws_changed.mono_l k
    · intro y0 y1 y2 y3 y4
      unfold laws_changed.l0
      repeat' first
      | (with_reducible exact ih0 _ _ _ _ _)
      | (with_reducible exact LeO.refl _)
      | (with_reducible exact LeO.none _)
      | (with_reducible refine LeO.ite ?_ ?_)
      | (with_reducible refine LeO.bind ?_ (fun _ => ?_))
      | exact ih0 _ _ _ _ _
      | exact LeO.none _
      | refine LeO.ite ?_ ?_
      | refine LeO.bind ?_ (fun _ => ?_)
theorem laws_changed.mono : ∀ a0 a1 a2 k, LeO (laws_changed.f k a0 a1 a2) (laws_changed.f (k + 1) a0 a1 a2) := by
  intro a0 a1 a2 k
  have ih0 := laws_changed.mono_l k
  unfold laws_changed.f
  repeat' first
      | (with_reducible exact ih0 _ _ _ _ _)
      | (with_reducible exact LeO.refl _)
      | (with_reducible exact LeO.none _)
      | (with_reducible refine LeO.ite ?_ ?_)
      | (with_reducible refine LeO.bind ?_ (fun _ => ?_))
      | exact ih0 _ _ _ _ _
      | exact LeO.none _
      | refine LeO.ite ?_ ?_
      | refine LeO.bind ?_ (fun _ => ?_)
def laws_changed.T6 : Bool × List (List Nat × List Nat) := (true, [([], []), ([], []), ([1], [1]), ([0, 2], [0, 2]), ([3], [3]), ([], []), ([5], [5]), ([6], [6]), ([4, 7], [4, 7]), ([0, 2, 0, 1, 2, 3, 4, 5, 6, 7, 8], [0, 2]), ([9, 8, 0, 1, 2, 3, 4, 5, 6, 7, 8], [8, 9])])
def laws_changed.B6 : List Nat := [0, 0, 2, 7, 15, 0, 32, 96, 255, 511, 1023]
theorem laws_changed.tab6 : rtab .any (opsOf Tryd.f9 6) = laws_changed.T6 := by kernel_rfl
theorem laws_changed.bits6 : waitsOk laws_changed.T6.2 laws_changed.B6 = true := by kernel_rfl
def laws_changed.T8 : Bool × List (List Nat × List Nat) := (true, [([], []), ([], []), ([1], [1]), ([0, 2], [0, 2]), ([3], [3]), ([], []), ([5], [5]), ([6], [6]), ([4, 7], [4, 7]), ([0, 2, 0, 1, 2, 3, 4, 5, 6, 7, 8], [0, 2]), ([9, 8, 0, 1, 2, 3, 4, 5, 6, 7, 8], [8, 9])])
def laws_changed.B8 : List Nat := [0, 0, 2, 7, 15, 0, 32, 96, 255, 511, 1023]
theorem laws_changed.tab8 : rtab .any (opsOf Tryd.f9 8) = laws_changed.T8 := by kernel_rfl
theorem laws_changed.bits8 : waitsOk laws_changed.T8.2 laws_changed.B8 = true := by kernel_rfl
set_option maxHeartbeats 8000000 in
set_option maxRecDepth 100000 in
theorem laws_changed.calls (k : Nat) (A0 : Option Addr) (c0 : Nat) (l0 : List Int) (a1 : Int) (A2 : Option Addr) (c2 : Nat) (l2 : List Bool) (r : List Int) (w : World) (hr0 : Kd.C (Kd.int .u8) w A0 l0.length l0) (hc0 : l0.length ≤ c0) (hr2 : Kd.C Kd.bool w A2 l2.length l2) (hc2 : l2.length ≤ c2) (h : laws_changed.f k l0 a1 l2 = some r) :
    Calls Tryd.prog 9 #[.slice A0 l0.length c0, .int .i64 a1, .slice A2 l2.length c2] w fun e w' => ∃ v0_ : Value, e = .returned (v0_) ∧ Kd.R (Kd.int .u8) 5 w' w.heap.size (fun _ => True) v0_ r ∧ Below w.heap.size w w' := by
  have HR0 := Aside0.mk hr0
  have HC0 := Aside0.mk hc0
  clear hr0 hc0
  have HR2 := Aside0.mk hr2
  have HC2 := Aside0.mk hc2
  clear hr2 hc2
  have HB := Aside0.mk (Below.refl w.heap.size w)
  have H : ((some (([] : List Int) : List Int)).bind fun y136 => (if y136.length + l0.length < 140737488355328 then (laws_changed.l0 k a1 (y136 ++ l0) l2 (l2.length : Int) 0) else (none))) = some r := h
  clear h
  obtain ⟨y136, hy136⟩ : ∃ y_ : List Int, y_ = (([] : List Int)) := ⟨_, rfl⟩
  replace H : (if y136.length + l0.length < 140737488355328 then (laws_changed.l0 k a1 (y136 ++ l0) l2 (l2.length : Int) 0) else (none)) = some r := by first | (rw [hy136]; with_reducible exact H) | (have H2_ := (Option.bind_some _ _).symm.trans H; rw [hy136]; with_reducible exact H2_) | (have H2_ := (Option.bind_some _ _).symm.trans H; with_reducible exact H2_) | with_reducible exact H | (rw [hy136]; exact H) | exact H
  have Ny136 := Aside0.mk hy136
  clear hy136
  by_cases c4 : y136.length + l0.length < 140737488355328
  · rw [if_pos c4] at H
    have LMc4 := Aside0.mk c4
    clear c4
    obtain ⟨y139, hy139⟩ : ∃ y_ : List Int, y_ = (y136 ++ l0) := ⟨_, rfl⟩
    replace H : (laws_changed.l0 k a1 y139 l2 (l2.length : Int) 0) = some r := by first | (rw [hy139]; with_reducible exact H) | (have H2_ := (Option.bind_some _ _).symm.trans H; rw [hy139]; with_reducible exact H2_) | (have H2_ := (Option.bind_some _ _).symm.trans H; with_reducible exact H2_) | with_reducible exact H | (rw [hy139]; exact H) | exact H
    have Ny139 := Aside0.mk hy139
    clear hy139
    have H' := Aside0.mk H
    clear H
    go_enter Tryd.func9, Tryd.ntmps9
    go_wp2_with (first | ((with_reducible refine gate_dst (N := 11) rfl ?_); refine Kd.R_lit (Kd.int .u8) _ 5 ?hg (N := 11) ?hd (xs := ([] : List Int)) (inner := []) (ok := fun _ => True) (okp := fun _ => True) ?hr ?hp (fun _ hk => hk) trivial (Below.refl _ _) (Nat.le_refl _) (by simp) ?_; (case hd => rfl); (case hg => rfl); (case hr => first | (go_simp; done) | (go_simp; rfl)); (case hp => exact (Reps.none _ _)); intro v137 w5 ho6 hb hg_ hnew_; clear hg_ hnew_; (first | rw [← Ny136.out] at ho6 | (simp only [Int.reduceToNat] at ho6; rw [← Ny136.out] at ho6)); have n0_ := Aside0.mk (Kd.R_lower ho6 (below_size (by repeat (first | (with_reducible first | exact HB.out | apply below_alloc | apply pw_below_drewN | apply below_drew1) | exact HB.out)))); have n1_ := Aside0.mk (below_step (by repeat (first | (with_reducible first | exact HB.out | apply below_alloc | apply pw_below_drewN | apply below_drew1) | exact HB.out)) hb); clear HB; have HO138 := n0_; have HB := n1_; clear n0_ n1_; clear hb ho6) | ((with_reducible refine gate_builtin (b := .append) (xs := #[.tmp 11, .tmp 12]) rfl ?_); at_builtin; refine Kd.R_append_rows (Kd.int .u8) (w0 := w) w.heap.size rfl (.tmp 11) (.tmp 12) 22 5 (.int .u8 0) 1 rfl Tryd.underlying22 info5 rfl (by decide) (by omega) v137 y136 l0 _ _ _ (fun _ => True) (fun _ => False) rfl rfl ?aO ?aR (fun _ _ h => h) (fun _ h => h.elim) ?aF ?aB ?aS ?aL ?_; (case aR => repeat (first | exact (Kd.C_below HR0.out HB.out) | (with_reducible refine Kd.C_alloc ?_ _) | (with_reducible refine Kd.C_drewN ?_ _) | (with_reducible refine Kd.C_drew ?_))); (case aB => exact (by repeat (first | (with_reducible first | exact HB.out | apply below_alloc | apply pw_below_drewN | apply below_drew1) | exact HB.out))); (case aF => exact (fun _ _ => trivial)); (case aO => exact (by (with_reducible repeat (first | apply Kd.R_alloc | apply Kd.R_drewN | apply Kd.R_drew)); exact HO138.out)); (case aS => exact (below_size (by repeat (first | (with_reducible first | exact HB.out | apply below_alloc | apply pw_below_drewN | apply below_drew1) | exact HB.out)))); (case aL => have := LMc4.out; omega); intro v140 w7 ho hb hg hat; rw [← Ny139.out] at ho; have n0_ := Aside0.mk (hb); have n1_ := Aside0.mk (ho); clear HB; clear HO138; have HB := n0_; have HO141 := n1_; clear n0_ n1_; clear ho hb hg hat))
    go_loopg [16] k (fun kq v16 w' => ∃ (x7_1 : List Int) (x16_1 : Int), v16 = .int .i64 x16_1 ∧ Aside0 (laws_changed.l0 kq a1 x7_1 l2 (l2.length : Int) x16_1 = some r) ∧ Aside0 (kq ≤ k) ∧ Aside0 (Kd.R (Kd.int .u8) 5 w' w.heap.size (fun _ => True) v140 x7_1) ∧ Aside0 (Below w.heap.size w w'))
    case atStart => exact ⟨(y139), (0), (by first | rfl | (simp; done) | (simp [*]; done)), H', ⟨Nat.le_refl _⟩, ⟨by (with_reducible repeat (first | apply Kd.R_alloc | apply Kd.R_drewN | apply Kd.R_drew)); exact HO141.out⟩, ⟨by repeat (first | (with_reducible first | exact HB.out | apply below_alloc | apply pw_below_drewN | apply below_drew1) | exact HB.out)⟩⟩
    case round =>
      clear H'
      try clear c2
      try clear p2
      try clear c4
      obtain ⟨x7_1, x16_1, rfl, HA, HK1, HO_7, HB⟩ := hrel
      cases gk with
      | zero => exact absurd HA.out (by simp [laws_changed.l0])
      | succ k1 =>
        have H := HA.out
        clear HA
        simp only [laws_changed.l0] at H
        by_cases c8 : x16_1 < (l2.length : Int)
        · rw [if_pos c8] at H
          have c8b0 : decide (x16_1 < (l2.length : Int)) = true := decide_eq_true c8
          clear c8
          by_cases c9 : 0 ≤ x16_1
          · rw [if_pos c9] at H
            have c9b0 : decide (0 ≤ x16_1) = true := decide_eq_true c9
            clear c9
            by_cases c10 : x16_1 < (l2.length : Int)
            · rw [if_pos c10] at H
              have c10b0 : decide (x16_1 < (l2.length : Int)) = true := decide_eq_true c10
              clear c10
              obtain ⟨ji11, hji11⟩ : ∃ j_ : Int, (wrap64 (Int.tdiv (wrap64 (a1 + x16_1)) 8)) = j_ := ⟨_, rfl⟩
              replace H : (if 0 ≤ (ji11) then (if (ji11) < (x7_1.length : Int) then (if 0 ≤ (Int.tmod (wrap64 (a1 + x16_1)) 8) then ((some (x7_1.set ((ji11) : Int).toNat (Go.bits .andNot .u8 (rd x7_1 (ji11)) (shl .u8 1 (Int.tmod (wrap64 (a1 + x16_1)) 8))) : List Int)).bind fun y144 => (if rdOf false l2 x16_1 = true then (laws_changed.l0 k1 a1 (y144.set ((ji11) : Int).toNat (Go.bits .or .u8 (rd y144 (ji11)) (shl .u8 1 (Int.tmod (wrap64 (a1 + x16_1)) 8)))) l2 (l2.length : Int) (wrap64 (x16_1 + 1))) else (laws_changed.l0 k1 a1 y144 l2 (l2.length : Int) (wrap64 (x16_1 + 1))))) else (none)) else (none)) else (none)) = some r := by first | (rw [hji11] at H; exact H) | (simp only [hji11] at H ⊢; exact H)
              have hji11w : (IntKind.i64.wrap (Int.tdiv (wrap64 (a1 + x16_1)) 8)) = ji11 := (i64_w _).trans hji11
              by_cases c12 : 0 ≤ (ji11)
              · rw [if_pos c12] at H
                have c12b0 : decide (0 ≤ (ji11)) = true := decide_eq_true c12
                clear c12
                by_cases c13 : (ji11) < (x7_1.length : Int)
                · rw [if_pos c13] at H
                  have c13b0 : decide ((ji11) < (x7_1.length : Int)) = true := decide_eq_true c13
                  clear c13
                  obtain ⟨ji14, hji14⟩ : ∃ j_ : Int, (Int.tmod (wrap64 (a1 + x16_1)) 8) = j_ := ⟨_, rfl⟩
                  replace H : (if 0 ≤ (ji14) then ((some (x7_1.set ((ji11) : Int).toNat (Go.bits .andNot .u8 (rd x7_1 (ji11)) (shl .u8 1 (ji14))) : List Int)).bind fun y144 => (if rdOf false l2 x16_1 = true then (laws_changed.l0 k1 a1 (y144.set ((ji11) : Int).toNat (Go.bits .or .u8 (rd y144 (ji11)) (shl .u8 1 (ji14)))) l2 (l2.length : Int) (wrap64 (x16_1 + 1))) else (laws_changed.l0 k1 a1 y144 l2 (l2.length : Int) (wrap64 (x16_1 + 1))))) else (none)) = some r := by first | (rw [hji14] at H; exact H) | (simp only [hji14] at H ⊢; exact H)
                  by_cases c15 : 0 ≤ (ji14)
                  · rw [if_pos c15] at H
                    have c15b0 := eq_true c15
                    have c15b1 : decide (0 ≤ (ji14)) = true := decide_eq_true c15
                    clear c15
                    obtain ⟨ji16, hji16⟩ : ∃ j_ : Int, (shl .u8 1 (ji14)) = j_ := ⟨_, rfl⟩
                    replace H : ((some (x7_1.set ((ji11) : Int).toNat (Go.bits .andNot .u8 (rd x7_1 (ji11)) (ji16)) : List Int)).bind fun y144 => (if rdOf false l2 x16_1 = true then (laws_changed.l0 k1 a1 (y144.set ((ji11) : Int).toNat (Go.bits .or .u8 (rd y144 (ji11)) (ji16))) l2 (l2.length : Int) (wrap64 (x16_1 + 1))) else (laws_changed.l0 k1 a1 y144 l2 (l2.length : Int) (wrap64 (x16_1 + 1))))) = some r := by first | (rw [hji16] at H; exact H) | (simp only [hji16] at H ⊢; exact H)
                    have hji16_ : (IntKind.u8.wrap (1 * 2 ^ min (ji14).toNat 8)) = ji16 := hji16
                    have hji16z : (ji14) ≤ 8 → (IntKind.u8.wrap (1 * 2 ^ (ji14).toNat)) = ji16 := shl_small hji16
                    have hji16u : (IntKind.u8.wrap (2 ^ min (ji14).toNat 8)) = ji16 := by have h_ := hji16_; rw [Int.one_mul] at h_; exact h_
                    have hji16v : (ji14) ≤ 8 → (IntKind.u8.wrap (2 ^ (ji14).toNat)) = ji16 := fun hle_ => by have h_ := hji16z hle_; rw [Int.one_mul] at h_; exact h_
                    obtain ⟨y144, hy144⟩ : ∃ y_ : List Int, y_ = (x7_1.set ((ji11) : Int).toNat (Go.bits .andNot .u8 (rd x7_1 (ji11)) (ji16))) := ⟨_, rfl⟩
                    replace H : (if rdOf false l2 x16_1 = true then (laws_changed.l0 k1 a1 (y144.set ((ji11) : Int).toNat (Go.bits .or .u8 (rd y144 (ji11)) (ji16))) l2 (l2.length : Int) (wrap64 (x16_1 + 1))) else (laws_changed.l0 k1 a1 y144 l2 (l2.length : Int) (wrap64 (x16_1 + 1)))) = some r := by first | (rw [hy144]; with_reducible exact H) | (have H2_ := (Option.bind_some _ _).symm.trans H; rw [hy144]; with_reducible exact H2_) | (have H2_ := (Option.bind_some _ _).symm.trans H; with_reducible exact H2_) | with_reducible exact H | (rw [hy144]; exact H) | exact H
                    have Ny144 := Aside0.mk hy144
                    clear hy144
                    obtain ⟨bq18, hbq18⟩ : ∃ b_ : Bool, b_ = (rdOf false l2 x16_1) := ⟨_, rfl⟩
                    replace H : (if bq18 = true then (laws_changed.l0 k1 a1 (y144.set ((ji11) : Int).toNat (Go.bits .or .u8 (rd y144 (ji11)) (ji16))) l2 (l2.length : Int) (wrap64 (x16_1 + 1))) else (laws_changed.l0 k1 a1 y144 l2 (l2.length : Int) (wrap64 (x16_1 + 1)))) = some r := by rw [← hbq18] at H; exact H
                    have Nbq18 := Aside0.mk hbq18
                    clear hbq18
                    by_cases c19 : bq18 = true
                    · subst c19
                      have H1 : (laws_changed.l0 k1 a1 (y144.set ((ji11) : Int).toNat (Go.bits .or .u8 (rd y144 (ji11)) (ji16))) l2 (l2.length : Int) (wrap64 (x16_1 + 1))) = some r := by rw [if_pos rfl] at H; exact H
                      clear H
                      have H := H1
                      clear H1
                      have c20b0 := eq_true (of_decide_eq_true (by first | (with_reducible assumption) | assumption) : 0 ≤ (ji14))
                      obtain ⟨y146, hy146⟩ : ∃ y_ : List Int, y_ = (y144.set ((ji11) : Int).toNat (Go.bits .or .u8 (rd y144 (ji11)) (ji16))) := ⟨_, rfl⟩
                      replace H : (laws_changed.l0 k1 a1 y146 l2 (l2.length : Int) (wrap64 (x16_1 + 1))) = some r := by first | (rw [hy146]; with_reducible exact H) | (have H2_ := (Option.bind_some _ _).symm.trans H; rw [hy146]; with_reducible exact H2_) | (have H2_ := (Option.bind_some _ _).symm.trans H; with_reducible exact H2_) | with_reducible exact H | (rw [hy146]; exact H) | exact H
                      have Ny146 := Aside0.mk hy146
                      clear hy146
                      have H' := Aside0.mk H
                      clear H
                      have p142 : 0 ≤ (x16_1 : Int) := of_decide_eq_true (by first | (with_reducible assumption) | assumption)
                      have q142 : x16_1 < (l2.length : Int) := of_decide_eq_true (by first | (with_reducible assumption) | assumption)
                      obtain ⟨ad142, e142, hx142_0⟩ := Kd.at_bool HR2.out x16_1 p142 q142
                      (try rw [← Nbq18.out] at hx142_0)
                      cases e142
                      replace hx142_0 := (HB.out.cell (World.block_lt_of_cell? w _ hx142_0)).trans hx142_0
                      replace p142 := eq_true p142
                      replace q142 := eq_true q142
                      try go_wp2
                      have n0_ := Aside0.mk (Kd.R_drew HO_7.out)
                      have n1_ := Aside0.mk (below_drew1 HB.out)
                      clear HO_7
                      clear HB
                      have HO_7 := n0_
                      have HB := n1_
                      clear n0_ n1_
                      obtain ⟨Ao23, co23, eo23⟩ := Kd.R_slice HO_7.out
                      (first | subst eo23 | (injection eo23 with f1_ f2_ f3_; have f4_ := f1_.symm; have f5_ := f3_.symm; clear f1_ f2_ f3_; subst f4_; subst f5_))
                      have p143 : 0 ≤ ((ji11) : Int) := of_decide_eq_true (by first | (with_reducible assumption) | assumption)
                      have q143 : (ji11) < (x7_1.length : Int) := of_decide_eq_true (by first | (with_reducible assumption) | assumption)
                      obtain ⟨ad143, e143, hx143_0⟩ := Kd.at_int (Kd.R_reads' HO_7.out).2.2 (ji11) p143 q143
                      cases e143
                      replace p143 := eq_true p143
                      replace q143 := eq_true q143
                      have p17 : 0 ≤ ((ji11) : Int) := of_decide_eq_true (by first | (with_reducible assumption) | assumption)
                      have q17 : ((ji11) : Int) < ((x7_1.length : Int) : Int) := of_decide_eq_true (by first | (with_reducible assumption) | assumption)
                      obtain ⟨go17, co17, eo17, gb17, gl17, cl17, HG17⟩ := Kd.R_form HO_7.out (by omega)
                      (first | cases eo17 | (injection eo17 with ea_ en_ ec_; (first | subst ea_ | (injection ea_ with ea_; subst ea_)); subst ec_; clear en_))
                      have GB17 := Aside0.mk gb17
                      have GG17 := Aside0.mk HG17
                      clear gb17 gl17 HG17
                      (first | simp only [add_plain] at hx143_0 | skip)
                      obtain ⟨hx17_0, hf17_0⟩ := Kd.R_celln 0 HO_7.out ((ji11) : Int) p17 q17
                      replace p17 := eq_true p17
                      replace q17 := eq_true q17
                      have HP24 := Kd.R_putn HO_7.out ((ji11) : Int) (Go.bits .andNot .u8 (rd x7_1 (ji11)) (ji16))
                      rw [← Ny144.out] at HP24
                      have HQ24 := Aside0.mk HP24
                      clear HP24
                      refine start_ (n := 11) (S := fun w' => w'.cell? ⟨go17, ((ji11)).toNat, none⟩ = some (.int .u8 (rd x7_1 (ji11)))) (ds := [10]) #[false, false, false, false, false, false, false, false, false, false, false] (by kernel_rfl) rfl rfl (hx143_0) (fun hHeld => ?_); refine with_tabW laws_changed.tab6 laws_changed.bits6 (fun HT_ HW_ => ?_)
                      generalize wr.drew = w22 at HO_7 HB GG17 HQ24 hf17_0 hx143_0 hx17_0 hHeld ⊢
                      refine pure_ (i := 0) (N := some 24) (v := ?_) (a' := ?_) #[true, false, false, false, false, false, false, false, false, false, false] rfl rfl (any_of HT_.out (by kernel_rfl)) (fun _ _ _ h => h) (Or.inl ⟨by rfl, ?_⟩) ?_ ?_
                      rotate_left
                      · intro w'
                        go_simp
                        with_reducible rfl
                      rotate_left
                      · simp only [Act.put, List.setIfInBounds_toArray, List.set_cons_zero, List.set_cons_succ, i64_w, i32_w]
                        rfl
                      refine pure_ (i := 1) (N := some 25) (v := ?_) (a' := ?_) #[true, true, false, false, false, false, false, false, false, false, false] rfl rfl (any_of HT_.out (by kernel_rfl)) (fun _ _ _ h => h) (Or.inl ⟨by rfl, ?_⟩) ?_ ?_
                      rotate_left
                      · intro w'
                        go_simp
                        with_reducible rfl
                      rotate_left
                      · simp only [Act.put, List.setIfInBounds_toArray, List.set_cons_zero, List.set_cons_succ, i64_w, i32_w]
                        rfl
                      refine pure_ (i := 2) (N := some 26) (v := ?_) (a' := ?_) #[true, true, true, false, false, false, false, false, false, false, false] rfl rfl (any_of HT_.out (by kernel_rfl)) (fun _ _ _ h => h) (Or.inl ⟨by rfl, ?_⟩) ?_ ?_
                      rotate_left
                      · intro w'
                        go_simp
                        with_reducible rfl
                      rotate_left
                      · simp only [Act.put, List.setIfInBounds_toArray, List.set_cons_zero, List.set_cons_succ, i64_w, i32_w]
                        rfl
                      refine pure_ (i := 3) (N := some 27) (v := ?_) (a' := ?_) #[true, true, true, true, false, false, false, false, false, false, false] rfl rfl (any_of HT_.out (by kernel_rfl)) (fun _ _ _ h => h) (Or.inl ⟨by rfl, ?_⟩) ?_ ?_
                      rotate_left
                      · intro w'
                        go_simp
                        with_reducible rfl
                      rotate_left
                      · simp only [Act.put, List.setIfInBounds_toArray, List.set_cons_zero, List.set_cons_succ, i64_w, i32_w]
                        rfl
                      refine pure_ (i := 5) (N := some 29) (v := ?_) (a' := ?_) #[true, true, true, true, false, true, false, false, false, false, false] rfl rfl (any_of HT_.out (by kernel_rfl)) (fun _ _ _ h => h) (Or.inl ⟨by rfl, ?_⟩) ?_ ?_
                      rotate_left
                      · intro w'
                        go_simp
                        with_reducible rfl
                      rotate_left
                      · simp only [Act.put, List.setIfInBounds_toArray, List.set_cons_zero, List.set_cons_succ, i64_w, i32_w]
                        rfl
                      refine pure_ (i := 6) (N := some 30) (v := ?_) (a' := ?_) #[true, true, true, true, false, true, true, false, false, false, false] rfl rfl (any_of HT_.out (by kernel_rfl)) (fun _ _ _ h => h) (Or.inl ⟨by rfl, ?_⟩) ?_ ?_
                      rotate_left
                      · intro w'
                        go_simp
                        with_reducible rfl
                      rotate_left
                      · simp only [Act.put, List.setIfInBounds_toArray, List.set_cons_zero, List.set_cons_succ, i64_w, i32_w]
                        rfl
                      refine pure_ (i := 7) (N := some 31) (v := ?_) (a' := ?_) #[true, true, true, true, false, true, true, true, false, false, false] rfl rfl (any_of HT_.out (by kernel_rfl)) (fun _ _ _ h => h) (Or.inl ⟨by rfl, ?_⟩) ?_ ?_
                      rotate_left
                      · intro w'
                        go_simp
                        with_reducible rfl
                      rotate_left
                      · simp only [Act.put, List.setIfInBounds_toArray, List.set_cons_zero, List.set_cons_succ, i64_w, i32_w]
                        rfl
                      refine take_ (i := 4) (N := some 28) (v := ?_) (a' := ?_) #[true, true, true, true, true, true, true, true, false, false, false] rfl rfl (take_ofW HT_.out HW_.out (by kernel_rfl)) (fun _ _ _ h => h) (Or.inl ⟨by rfl, ?_⟩) hHeld ?_ ?_
                      rotate_left
                      · intro w' s0
                        go_simp
                        with_reducible rfl
                      rotate_left
                      · simp only [Act.put, List.setIfInBounds_toArray, List.set_cons_zero, List.set_cons_succ, i64_w, i32_w]
                        rfl
                      refine pure_ (i := 8) (N := some 32) (v := ?_) (a' := ?_) #[true, true, true, true, true, true, true, true, true, false, false] rfl rfl (any_of HT_.out (by kernel_rfl)) (fun _ _ _ h => h) (Or.inl ⟨by rfl, ?_⟩) ?_ ?_
                      rotate_left
                      · intro w'
                        go_simp
                        with_reducible rfl
                      rotate_left
                      · simp only [Act.put, List.setIfInBounds_toArray, List.set_cons_zero, List.set_cons_succ, i64_w, i32_w]
                        rfl
                      refine pure_ (i := 9) (N := some 33) (v := ?_) (a' := ?_) #[true, true, true, true, true, true, true, true, true, true, false] rfl rfl (any_of HT_.out (by kernel_rfl)) (fun _ _ _ h => h) (Or.inl ⟨by rfl, ?_⟩) ?_ ?_
                      rotate_left
                      · intro w'
                        go_simp
                        with_reducible rfl
                      rotate_left
                      · simp only [Act.put, List.setIfInBounds_toArray, List.set_cons_zero, List.set_cons_succ, i64_w, i32_w]
                        rfl
                      refine last_ (i := 10) (N := none) #[true, true, true, true, true, true, true, true, true, true, true] rfl rfl (one_of HT_.out (by kernel_rfl)) (by decide) (fun K hK => ?_)
                      refine skip_ (w1 := ?_) (by rfl) rfl ?_ ?_
                      rotate_left
                      · go_simp
                        rfl
                      refine hK.out _ _ ?_
                      clear hK K
                      refine done_ (done_of HT_.out (by kernel_rfl)) ?_
                      try go_wp2
                      have n0_ : Aside0 (Kd.R (Kd.int .u8) 5 (w22.setCell ⟨go17, ((ji11) : Int).toNat, none⟩ (.int .u8 (Go.bits .andNot .u8 (rd x7_1 (ji11)) (ji16)))) w.heap.size (fun _ => True) (.slice (some ⟨go17, 0, none⟩) x7_1.length co23) y144) := ⟨by (with_reducible repeat (first | apply Kd.R_alloc | apply Kd.R_drewN | apply Kd.R_drew)); exact HQ24.out⟩
                      have n1_ : Aside0 (Below w.heap.size w (w22.setCell ⟨go17, ((ji11) : Int).toNat, none⟩ (.int .u8 (Go.bits .andNot .u8 (rd x7_1 (ji11)) (ji16))))) := ⟨by repeat (first | (with_reducible first | exact HB.out | apply below_alloc | apply pw_below_drewN | apply below_drew1 | refine below_set ?_ GB17.out) | exact HB.out)⟩
                      (try clear HO_7)
                      (try clear HB)
                      generalize (w22.setCell ⟨go17, ((ji11) : Int).toNat, none⟩ (.int .u8 (Go.bits .andNot .u8 (rd x7_1 (ji11)) (ji16)))) = w25 at n0_ n1_ ⊢
                      have HO_7 := n0_
                      have HB := n1_
                      clear n0_ n1_
                      have n0_ := Aside0.mk (Kd.R_drew HO_7.out)
                      have n1_ := Aside0.mk (below_drew1 HB.out)
                      clear HO_7
                      clear HB
                      have HO_7 := n0_
                      have HB := n1_
                      clear n0_ n1_
                      have p145 : 0 ≤ ((ji11) : Int) := of_decide_eq_true (by first | (with_reducible assumption) | assumption)
                      have q145 : (ji11) < (y144.length : Int) := (by have h_ : ((ji11) : Int) < ((x7_1.length : Int) : Int) := of_decide_eq_true (by first | (with_reducible assumption) | assumption); first | (have e_ := (Kd.R_reads' HO_7.out).1; omega) | simpa only [Ny144.out, List.length_set] using h_)
                      have ql145 : (((ji11) : Int) < ((x7_1.length : Int) : Int)) = True := eq_true (of_decide_eq_true (by first | (with_reducible assumption) | assumption))
                      obtain ⟨ad145, e145, hx145_0⟩ := Kd.at_int (Kd.R_reads' HO_7.out).2.2 (ji11) p145 q145
                      obtain rfl : (⟨go17, 0, none⟩ : Addr) = ad145 := (by injection e145)
                      (first | simp only [add_plain] at hx145_0 | simp only [add_at] at hx145_0 | simp only [Addr.add, Nat.zero_add] at hx145_0 | skip)
                      replace p145 := eq_true p145
                      replace q145 := eq_true q145
                      have p21 : 0 ≤ ((ji11) : Int) := of_decide_eq_true (by first | (with_reducible assumption) | assumption)
                      have q21 : ((ji11) : Int) < ((x7_1.length : Int) : Int) := of_decide_eq_true (by first | (with_reducible assumption) | assumption)
                      obtain ⟨hx21_0, hf21_0⟩ := Kd.R_celln 0 HO_7.out ((ji11) : Int) p21 q21
                      replace p21 := eq_true p21
                      replace q21 := eq_true q21
                      have HP27 := Kd.R_putn HO_7.out ((ji11) : Int) (Go.bits .or .u8 (rd y144 (ji11)) (ji16))
                      rw [← Ny146.out] at HP27
                      have HQ27 := Aside0.mk HP27
                      clear HP27
                      refine start_ (n := 11) (S := fun w' => w'.cell? ⟨go17, ((ji11)).toNat, none⟩ = some (.int .u8 (rd y144 (ji11)))) (ds := [10]) #[false, false, false, false, false, false, false, false, false, false, false] (by kernel_rfl) rfl rfl (hx145_0) (fun hHeld => ?_); refine with_tabW laws_changed.tab8 laws_changed.bits8 (fun HT_ HW_ => ?_)
                      generalize w25.drew = w26 at HO_7 HB HQ24 HQ27 hf21_0 hx145_0 hx21_0 hHeld ⊢
                      refine pure_ (i := 0) (N := some 35) (v := ?_) (a' := ?_) #[true, false, false, false, false, false, false, false, false, false, false] rfl rfl (any_of HT_.out (by kernel_rfl)) (fun _ _ _ h => h) (Or.inl ⟨by rfl, ?_⟩) ?_ ?_
                      rotate_left
                      · intro w'
                        go_simp
                        with_reducible rfl
                      rotate_left
                      · simp only [Act.put, List.setIfInBounds_toArray, List.set_cons_zero, List.set_cons_succ, i64_w, i32_w]
                        rfl
                      refine pure_ (i := 1) (N := some 36) (v := ?_) (a' := ?_) #[true, true, false, false, false, false, false, false, false, false, false] rfl rfl (any_of HT_.out (by kernel_rfl)) (fun _ _ _ h => h) (Or.inl ⟨by rfl, ?_⟩) ?_ ?_
                      rotate_left
                      · intro w'
                        go_simp
                        with_reducible rfl
                      rotate_left
                      · simp only [Act.put, List.setIfInBounds_toArray, List.set_cons_zero, List.set_cons_succ, i64_w, i32_w]
                        rfl
                      refine pure_ (i := 2) (N := some 37) (v := ?_) (a' := ?_) #[true, true, true, false, false, false, false, false, false, false, false] rfl rfl (any_of HT_.out (by kernel_rfl)) (fun _ _ _ h => h) (Or.inl ⟨by rfl, ?_⟩) ?_ ?_
                      rotate_left
                      · intro w'
                        go_simp
                        with_reducible rfl
                      rotate_left
                      · simp only [Act.put, List.setIfInBounds_toArray, List.set_cons_zero, List.set_cons_succ, i64_w, i32_w]
                        rfl
                      refine pure_ (i := 3) (N := some 38) (v := ?_) (a' := ?_) #[true, true, true, true, false, false, false, false, false, false, false] rfl rfl (any_of HT_.out (by kernel_rfl)) (fun _ _ _ h => h) (Or.inl ⟨by rfl, ?_⟩) ?_ ?_
                      rotate_left
                      · intro w'
                        go_simp
                        with_reducible rfl
                      rotate_left
                      · simp only [Act.put, List.setIfInBounds_toArray, List.set_cons_zero, List.set_cons_succ, i64_w, i32_w]
                        rfl
                      refine pure_ (i := 5) (N := some 40) (v := ?_) (a' := ?_) #[true, true, true, true, false, true, false, false, false, false, false] rfl rfl (any_of HT_.out (by kernel_rfl)) (fun _ _ _ h => h) (Or.inl ⟨by rfl, ?_⟩) ?_ ?_
                      rotate_left
                      · intro w'
                        go_simp
                        with_reducible rfl
                      rotate_left
                      · simp only [Act.put, List.setIfInBounds_toArray, List.set_cons_zero, List.set_cons_succ, i64_w, i32_w]
                        rfl
                      refine pure_ (i := 6) (N := some 41) (v := ?_) (a' := ?_) #[true, true, true, true, false, true, true, false, false, false, false] rfl rfl (any_of HT_.out (by kernel_rfl)) (fun _ _ _ h => h) (Or.inl ⟨by rfl, ?_⟩) ?_ ?_
                      rotate_left
                      · intro w'
                        go_simp
                        with_reducible rfl
                      rotate_left
                      · simp only [Act.put, List.setIfInBounds_toArray, List.set_cons_zero, List.set_cons_succ, i64_w, i32_w]
                        rfl
                      refine pure_ (i := 7) (N := some 42) (v := ?_) (a' := ?_) #[true, true, true, true, false, true, true, true, false, false, false] rfl rfl (any_of HT_.out (by kernel_rfl)) (fun _ _ _ h => h) (Or.inl ⟨by rfl, ?_⟩) ?_ ?_
                      rotate_left
                      · intro w'
                        go_simp
                        with_reducible rfl
                      rotate_left
                      · simp only [Act.put, List.setIfInBounds_toArray, List.set_cons_zero, List.set_cons_succ, i64_w, i32_w]
                        rfl
                      refine take_ (i := 4) (N := some 39) (v := ?_) (a' := ?_) #[true, true, true, true, true, true, true, true, false, false, false] rfl rfl (take_ofW HT_.out HW_.out (by kernel_rfl)) (fun _ _ _ h => h) (Or.inl ⟨by rfl, ?_⟩) hHeld ?_ ?_
                      rotate_left
                      · intro w' s0
                        go_simp
                        with_reducible rfl
                      rotate_left
                      · simp only [Act.put, List.setIfInBounds_toArray, List.set_cons_zero, List.set_cons_succ, i64_w, i32_w]
                        rfl
                      refine pure_ (i := 8) (N := some 43) (v := ?_) (a' := ?_) #[true, true, true, true, true, true, true, true, true, false, false] rfl rfl (any_of HT_.out (by kernel_rfl)) (fun _ _ _ h => h) (Or.inl ⟨by rfl, ?_⟩) ?_ ?_
                      rotate_left
                      · intro w'
                        go_simp
                        with_reducible rfl
                      rotate_left
                      · simp only [Act.put, List.setIfInBounds_toArray, List.set_cons_zero, List.set_cons_succ, i64_w, i32_w]
                        rfl
                      refine pure_ (i := 9) (N := some 44) (v := ?_) (a' := ?_) #[true, true, true, true, true, true, true, true, true, true, false] rfl rfl (any_of HT_.out (by kernel_rfl)) (fun _ _ _ h => h) (Or.inl ⟨by rfl, ?_⟩) ?_ ?_
                      rotate_left
                      · intro w'
                        go_simp
                        with_reducible rfl
                      rotate_left
                      · simp only [Act.put, List.setIfInBounds_toArray, List.set_cons_zero, List.set_cons_succ, i64_w, i32_w]
                        rfl
                      refine last_ (i := 10) (N := none) #[true, true, true, true, true, true, true, true, true, true, true] rfl rfl (one_of HT_.out (by kernel_rfl)) (by decide) (fun K hK => ?_)
                      refine skip_ (w1 := ?_) (by rfl) rfl ?_ ?_
                      rotate_left
                      · go_simp
                        rfl
                      refine hK.out _ _ ?_
                      clear hK K
                      refine done_ (done_of HT_.out (by kernel_rfl)) ?_
                      try go_wp2
                      go_roundg k1
                      case measure => have := HK1.out; omega
                      case rel => exact ⟨(y146), (wrap64 (x16_1 + 1)), (by first | rfl | (simp; done) | (simp [*]; done)), H', ⟨by have := HK1.out; omega⟩, ⟨by (with_reducible repeat (first | apply Kd.R_alloc | apply Kd.R_drewN | apply Kd.R_drew)); exact HQ27.out⟩, ⟨by repeat (first | (with_reducible first | exact HB.out | apply below_alloc | apply pw_below_drewN | apply below_drew1 | refine below_set ?_ GB17.out) | exact HB.out)⟩⟩
                    · replace c19 := Bool.eq_false_iff.mpr c19
                      subst c19
                      have H1 : (laws_changed.l0 k1 a1 y144 l2 (l2.length : Int) (wrap64 (x16_1 + 1))) = some r := by rw [if_neg (show ¬ (false = true) by decide)] at H; exact H
                      clear H
                      have H := H1
                      clear H1
                      have H' := Aside0.mk H
                      clear H
                      have p142 : 0 ≤ (x16_1 : Int) := of_decide_eq_true (by first | (with_reducible assumption) | assumption)
                      have q142 : x16_1 < (l2.length : Int) := of_decide_eq_true (by first | (with_reducible assumption) | assumption)
                      obtain ⟨ad142, e142, hx142_0⟩ := Kd.at_bool HR2.out x16_1 p142 q142
                      (try rw [← Nbq18.out] at hx142_0)
                      cases e142
                      replace hx142_0 := (HB.out.cell (World.block_lt_of_cell? w _ hx142_0)).trans hx142_0
                      replace p142 := eq_true p142
                      replace q142 := eq_true q142
                      try go_wp2
                      have n0_ := Aside0.mk (Kd.R_drew HO_7.out)
                      have n1_ := Aside0.mk (below_drew1 HB.out)
                      clear HO_7
                      clear HB
                      have HO_7 := n0_
                      have HB := n1_
                      clear n0_ n1_
                      obtain ⟨Ao29, co29, eo29⟩ := Kd.R_slice HO_7.out
                      (first | subst eo29 | (injection eo29 with f1_ f2_ f3_; have f4_ := f1_.symm; have f5_ := f3_.symm; clear f1_ f2_ f3_; subst f4_; subst f5_))
                      have p143 : 0 ≤ ((ji11) : Int) := of_decide_eq_true (by first | (with_reducible assumption) | assumption)
                      have q143 : (ji11) < (x7_1.length : Int) := of_decide_eq_true (by first | (with_reducible assumption) | assumption)
                      obtain ⟨ad143, e143, hx143_0⟩ := Kd.at_int (Kd.R_reads' HO_7.out).2.2 (ji11) p143 q143
                      cases e143
                      replace p143 := eq_true p143
                      replace q143 := eq_true q143
                      have p17 : 0 ≤ ((ji11) : Int) := of_decide_eq_true (by first | (with_reducible assumption) | assumption)
                      have q17 : ((ji11) : Int) < ((x7_1.length : Int) : Int) := of_decide_eq_true (by first | (with_reducible assumption) | assumption)
                      obtain ⟨go17, co17, eo17, gb17, gl17, cl17, HG17⟩ := Kd.R_form HO_7.out (by omega)
                      (first | cases eo17 | (injection eo17 with ea_ en_ ec_; (first | subst ea_ | (injection ea_ with ea_; subst ea_)); subst ec_; clear en_))
                      have GB17 := Aside0.mk gb17
                      have GG17 := Aside0.mk HG17
                      clear gb17 gl17 HG17
                      (first | simp only [add_plain] at hx143_0 | skip)
                      obtain ⟨hx17_0, hf17_0⟩ := Kd.R_celln 0 HO_7.out ((ji11) : Int) p17 q17
                      replace p17 := eq_true p17
                      replace q17 := eq_true q17
                      have HP30 := Kd.R_putn HO_7.out ((ji11) : Int) (Go.bits .andNot .u8 (rd x7_1 (ji11)) (ji16))
                      rw [← Ny144.out] at HP30
                      have HQ30 := Aside0.mk HP30
                      clear HP30
                      refine start_ (n := 11) (S := fun w' => w'.cell? ⟨go17, ((ji11)).toNat, none⟩ = some (.int .u8 (rd x7_1 (ji11)))) (ds := [10]) #[false, false, false, false, false, false, false, false, false, false, false] (by kernel_rfl) rfl rfl (hx143_0) (fun hHeld => ?_); refine with_tabW laws_changed.tab6 laws_changed.bits6 (fun HT_ HW_ => ?_)
                      generalize wr.drew = w28 at HO_7 HB GG17 HQ30 hf17_0 hx143_0 hx17_0 hHeld ⊢
                      refine pure_ (i := 0) (N := some 24) (v := ?_) (a' := ?_) #[true, false, false, false, false, false, false, false, false, false, false] rfl rfl (any_of HT_.out (by kernel_rfl)) (fun _ _ _ h => h) (Or.inl ⟨by rfl, ?_⟩) ?_ ?_
                      rotate_left
                      · intro w'
                        go_simp
                        with_reducible rfl
                      rotate_left
                      · simp only [Act.put, List.setIfInBounds_toArray, List.set_cons_zero, List.set_cons_succ, i64_w, i32_w]
                        rfl
                      refine pure_ (i := 1) (N := some 25) (v := ?_) (a' := ?_) #[true, true, false, false, false, false, false, false, false, false, false] rfl rfl (any_of HT_.out (by kernel_rfl)) (fun _ _ _ h => h) (Or.inl ⟨by rfl, ?_⟩) ?_ ?_
                      rotate_left
                      · intro w'
                        go_simp
                        with_reducible rfl
                      rotate_left
                      · simp only [Act.put, List.setIfInBounds_toArray, List.set_cons_zero, List.set_cons_succ, i64_w, i32_w]
                        rfl
                      refine pure_ (i := 2) (N := some 26) (v := ?_) (a' := ?_) #[true, true, true, false, false, false, false, false, false, false, false] rfl rfl (any_of HT_.out (by kernel_rfl)) (fun _ _ _ h => h) (Or.inl ⟨by rfl, ?_⟩) ?_ ?_
                      rotate_left
                      · intro w'
                        go_simp
                        with_reducible rfl
                      rotate_left
                      · simp only [Act.put, List.setIfInBounds_toArray, List.set_cons_zero, List.set_cons_succ, i64_w, i32_w]
                        rfl
                      refine pure_ (i := 3) (N := some 27) (v := ?_) (a' := ?_) #[true, true, true, true, false, false, false, false, false, false, false] rfl rfl (any_of HT_.out (by kernel_rfl)) (fun _ _ _ h => h) (Or.inl ⟨by rfl, ?_⟩) ?_ ?_
                      rotate_left
                      · intro w'
                        go_simp
                        with_reducible rfl
                      rotate_left
                      · simp only [Act.put, List.setIfInBounds_toArray, List.set_cons_zero, List.set_cons_succ, i64_w, i32_w]
                        rfl
                      refine pure_ (i := 5) (N := some 29) (v := ?_) (a' := ?_) #[true, true, true, true, false, true, false, false, false, false, false] rfl rfl (any_of HT_.out (by kernel_rfl)) (fun _ _ _ h => h) (Or.inl ⟨by rfl, ?_⟩) ?_ ?_
                      rotate_left
                      · intro w'
                        go_simp
                        with_reducible rfl
                      rotate_left
                      · simp only [Act.put, List.setIfInBounds_toArray, List.set_cons_zero, List.set_cons_succ, i64_w, i32_w]
                        rfl
                      refine pure_ (i := 6) (N := some 30) (v := ?_) (a' := ?_) #[true, true, true, true, false, true, true, false, false, false, false] rfl rfl (any_of HT_.out (by kernel_rfl)) (fun _ _ _ h => h) (Or.inl ⟨by rfl, ?_⟩) ?_ ?_
                      rotate_left
                      · intro w'
                        go_simp
                        with_reducible rfl
                      rotate_left
                      · simp only [Act.put, List.setIfInBounds_toArray, List.set_cons_zero, List.set_cons_succ, i64_w, i32_w]
                        rfl
                      refine pure_ (i := 7) (N := some 31) (v := ?_) (a' := ?_) #[true, true, true, true, false, true, true, true, false, false, false] rfl rfl (any_of HT_.out (by kernel_rfl)) (fun _ _ _ h => h) (Or.inl ⟨by rfl, ?_⟩) ?_ ?_
                      rotate_left
                      · intro w'
                        go_simp
                        with_reducible rfl
                      rotate_left
                      · simp only [Act.put, List.setIfInBounds_toArray, List.set_cons_zero, List.set_cons_succ, i64_w, i32_w]
                        rfl
                      refine take_ (i := 4) (N := some 28) (v := ?_) (a' := ?_) #[true, true, true, true, true, true, true, true, false, false, false] rfl rfl (take_ofW HT_.out HW_.out (by kernel_rfl)) (fun _ _ _ h => h) (Or.inl ⟨by rfl, ?_⟩) hHeld ?_ ?_
                      rotate_left
                      · intro w' s0
                        go_simp
                        with_reducible rfl
                      rotate_left
                      · simp only [Act.put, List.setIfInBounds_toArray, List.set_cons_zero, List.set_cons_succ, i64_w, i32_w]
                        rfl
                      refine pure_ (i := 8) (N := some 32) (v := ?_) (a' := ?_) #[true, true, true, true, true, true, true, true, true, false, false] rfl rfl (any_of HT_.out (by kernel_rfl)) (fun _ _ _ h => h) (Or.inl ⟨by rfl, ?_⟩) ?_ ?_
                      rotate_left
                      · intro w'
                        go_simp
                        with_reducible rfl
                      rotate_left
                      · simp only [Act.put, List.setIfInBounds_toArray, List.set_cons_zero, List.set_cons_succ, i64_w, i32_w]
                        rfl
                      refine pure_ (i := 9) (N := some 33) (v := ?_) (a' := ?_) #[true, true, true, true, true, true, true, true, true, true, false] rfl rfl (any_of HT_.out (by kernel_rfl)) (fun _ _ _ h => h) (Or.inl ⟨by rfl, ?_⟩) ?_ ?_
                      rotate_left
                      · intro w'
                        go_simp
                        with_reducible rfl
                      rotate_left
                      · simp only [Act.put, List.setIfInBounds_toArray, List.set_cons_zero, List.set_cons_succ, i64_w, i32_w]
                        rfl
                      refine last_ (i := 10) (N := none) #[true, true, true, true, true, true, true, true, true, true, true] rfl rfl (one_of HT_.out (by kernel_rfl)) (by decide) (fun K hK => ?_)
                      refine skip_ (w1 := ?_) (by rfl) rfl ?_ ?_
                      rotate_left
                      · go_simp
                        rfl
                      refine hK.out _ _ ?_
                      clear hK K
                      refine done_ (done_of HT_.out (by kernel_rfl)) ?_
                      try go_wp2
                      go_roundg k1
                      case measure => have := HK1.out; omega
                      case rel => exact ⟨(y144), (wrap64 (x16_1 + 1)), (by first | rfl | (simp; done) | (simp [*]; done)), H', ⟨by have := HK1.out; omega⟩, ⟨by (with_reducible repeat (first | apply Kd.R_alloc | apply Kd.R_drewN | apply Kd.R_drew)); exact HQ30.out⟩, ⟨by repeat (first | (with_reducible first | exact HB.out | apply below_alloc | apply pw_below_drewN | apply below_drew1 | refine below_set ?_ GB17.out) | exact HB.out)⟩⟩
                  · rw [if_neg c15] at H
                    exact absurd H (by simp)
                · rw [if_neg c13] at H
                  exact absurd H (by simp)
              · rw [if_neg c12] at H
                exact absurd H (by simp)
            · rw [if_neg c10] at H
              exact absurd H (by simp)
          · rw [if_neg c9] at H
            exact absurd H (by simp)
        · rw [if_neg c8] at H
          have c8b0 : decide (x16_1 < (l2.length : Int)) = false := decide_eq_false c8
          clear c8
          obtain rfl := Option.some.inj H
          go_wp2
          go_ret
          exact ⟨_, by first | rfl | (simp [errW_none, errW_some] <;> rfl) | (simp [*, errW_none, errW_some] <;> rfl), by (with_reducible repeat (first | apply Kd.R_alloc | apply Kd.R_drewN | apply Kd.R_drew)); exact HO_7.out, by repeat (first | (with_reducible first | exact HB.out | apply below_alloc | apply pw_below_drewN | apply below_drew1) | exact HB.out)⟩
  · rw [if_neg c4] at H
    exact absurd H (by simp)

-- NOT PRINTED: function 20 (impl_caught)

/-! ### bitutil_BitIsSet: function 21 -/
def bitutil_BitIsSet.f (l0 : List Int) (a1 : Int) : Option (Bool) := if 0 ≤ (IntKind.u64.wrap (Int.tdiv (IntKind.u64.wrap (a1)) 8)) then (if (IntKind.u64.wrap (Int.tdiv (IntKind.u64.wrap (a1)) 8)) < (l0.length : Int) then (if 0 ≤ (((a1) % 256) % 8) then (if (((a1) % 256) % 8) < 8 then (some ((Go.bits .and .u8 (rd l0 (IntKind.u64.wrap (Int.tdiv (IntKind.u64.wrap (a1)) 8))) (rd gtab0 (((a1) % 256) % 8))) != 0)) else (none)) else (none)) else (none)) else (none)
set_option maxHeartbeats 8000000 in
set_option maxRecDepth 100000 in
theorem bitutil_BitIsSet.calls (A0 : Option Addr) (c0 : Nat) (l0 : List Int) (a1 : Int) (r : Bool) (w : World) (hr0 : Kd.C (Kd.int .u8) w A0 l0.length l0) (hc0 : l0.length ≤ c0) (hg0 : Kd.C (Kd.int .u8) w (some ⟨0, 0, none⟩) gtab0.length gtab0) (h : bitutil_BitIsSet.f l0 a1 = some r) :
    Calls Tryd.prog 21 #[.slice A0 l0.length c0, .int .i64 a1] w fun e w' => e = .returned (.bool r) ∧ Drawn0 w w' := by
  have HR0 := Aside0.mk hr0
  have HC0 := Aside0.mk hc0
  clear hr0 hc0
  have HG0 := Aside0.mk hg0
  clear hg0
  have H : (if 0 ≤ (IntKind.u64.wrap (Int.tdiv (IntKind.u64.wrap (a1)) 8)) then (if (IntKind.u64.wrap (Int.tdiv (IntKind.u64.wrap (a1)) 8)) < (l0.length : Int) then (if 0 ≤ (((a1) % 256) % 8) then (if (((a1) % 256) % 8) < 8 then (some ((Go.bits .and .u8 (rd l0 (IntKind.u64.wrap (Int.tdiv (IntKind.u64.wrap (a1)) 8))) (rd gtab0 (((a1) % 256) % 8))) != 0)) else (none)) else (none)) else (none)) else (none)) = some r := h
  clear h
  obtain ⟨ji3, hji3⟩ : ∃ j_ : Int, (IntKind.u64.wrap (Int.tdiv (IntKind.u64.wrap (a1)) 8)) = j_ := ⟨_, rfl⟩
  replace H : (if 0 ≤ (ji3) then (if (ji3) < (l0.length : Int) then (if 0 ≤ (((a1) % 256) % 8) then (if (((a1) % 256) % 8) < 8 then (some ((Go.bits .and .u8 (rd l0 (ji3)) (rd gtab0 (((a1) % 256) % 8))) != 0)) else (none)) else (none)) else (none)) else (none)) = some r := by first | (rw [hji3] at H; exact H) | (simp only [hji3] at H ⊢; exact H)
  by_cases c4 : 0 ≤ (ji3)
  · rw [if_pos c4] at H
    have c4b0 : decide (0 ≤ (ji3)) = true := decide_eq_true c4
    clear c4
    by_cases c5 : (ji3) < (l0.length : Int)
    · rw [if_pos c5] at H
      have c5b0 : decide ((ji3) < (l0.length : Int)) = true := decide_eq_true c5
      clear c5
      obtain ⟨ji6, hji6⟩ : ∃ j_ : Int, (((a1) % 256) % 8) = j_ := ⟨_, rfl⟩
      replace H : (if 0 ≤ (ji6) then (if (ji6) < 8 then (some ((Go.bits .and .u8 (rd l0 (ji3)) (rd gtab0 (ji6))) != 0)) else (none)) else (none)) = some r := by first | (rw [hji6] at H; exact H) | (simp only [hji6] at H ⊢; exact H)
      have hji6k : (IntKind.u8.wrap a1).tmod 8 = ji6 := (Aid.u8_mod _ (by decide)).trans hji6
      by_cases c7 : 0 ≤ (ji6)
      · rw [if_pos c7] at H
        have c7b0 : decide (0 ≤ (ji6)) = true := decide_eq_true c7
        clear c7
        by_cases c8 : (ji6) < 8
        · rw [if_pos c8] at H
          have c8b0 : decide ((ji6) < 8) = true := decide_eq_true c8
          clear c8
          obtain rfl := Option.some.inj H
          have p147 : 0 ≤ ((ji3) : Int) := of_decide_eq_true (by first | (with_reducible assumption) | assumption)
          have q147 : (ji3) < (l0.length : Int) := of_decide_eq_true (by first | (with_reducible assumption) | assumption)
          obtain ⟨ad147, e147, hx147_0⟩ := Kd.at_int HR0.out (ji3) p147 q147
          cases e147
          replace p147 := eq_true p147
          replace q147 := eq_true q147
          have p148 : 0 ≤ ((ji6) : Int) := of_decide_eq_true (by first | (with_reducible assumption) | assumption)
          have q148 : (ji6) < (gtab0.length : Int) := (by have h_ : ((ji6) : Int) < (8 : Int) := (of_decide_eq_true (by first | (with_reducible assumption) | assumption)); have e_ : gtab0.length = 8 := rfl; omega)
          have qg148 : (((ji6) : Int) < 8) = True := eq_true (by have e_ : gtab0.length = 8 := rfl; omega)
          obtain ⟨ad148, e148, hx148_0⟩ := Kd.at_int HG0.out (ji6) p148 q148
          obtain rfl : (⟨0, 0, none⟩ : Addr) = ad148 := (by injection e148)
          (first | simp only [add_plain] at hx148_0 | simp only [add_at] at hx148_0 | simp only [Addr.add, Nat.zero_add] at hx148_0 | skip)
          replace p148 := eq_true p148
          replace q148 := eq_true q148
          go_enter Tryd.func21, Tryd.ntmps21
          go_wp2
          repeat (go_quiet (fail); try go_wp2)
          go_ret
          exact ⟨by first | rfl | (simp; done) | (simp only [← hji3, ← hji6] <;> (first | rfl | simp)) | (simp [*]; done), by repeat (first | exact Drawn0.refl _ | apply Drawn0.step)⟩
        · rw [if_neg c8] at H
          exact absurd H (by simp)
      · rw [if_neg c7] at H
        exact absurd H (by simp)
    · rw [if_neg c5] at H
      exact absurd H (by simp)
  · rw [if_neg c4] at H
    exact absurd H (by simp)

/-! ### impl_IsSet: function 10 -/
def impl_IsSet.f (l0 : List Int) (a1 : Int) : Option (Bool) := (bitutil_BitIsSet.f l0 a1).bind fun t150 => (some t150)
set_option maxHeartbeats 8000000 in
set_option maxRecDepth 100000 in
theorem impl_IsSet.calls (A0 : Option Addr) (c0 : Nat) (l0 : List Int) (a1 : Int) (r : Bool) (w : World) (hr0 : Kd.C (Kd.int .u8) w A0 l0.length l0) (hc0 : l0.length ≤ c0) (hg0 : Kd.C (Kd.int .u8) w (some ⟨0, 0, none⟩) gtab0.length gtab0) (h : impl_IsSet.f l0 a1 = some r) :
    Calls Tryd.prog 10 #[.slice A0 l0.length c0, .int .i64 a1] w fun e w' => e = .returned (.bool r) ∧ Below w.heap.size w w' := by
  have HR0 := Aside0.mk hr0
  have HC0 := Aside0.mk hc0
  clear hr0 hc0
  have HG0 := Aside0.mk hg0
  clear hg0
  have HB := Aside0.mk (Below.refl w.heap.size w)
  have H : ((bitutil_BitIsSet.f l0 a1).bind fun t150 => (some t150)) = some r := h
  clear h
  replace H := Option.bind_eq_some_iff.mp H
  obtain ⟨t150, A30, H⟩ := H
  replace H : (some t150) = some r := H
  have A3 := Aside0.mk A30
  clear A30
  obtain rfl := Option.some.inj H
  have hmf_ : ∀ (fn : Fn) (first cap : Array Value) (w : World), (Instr.makeFunc fn first cap).run Tryd.prog w = .ok (.func fn first cap) w := fun _ _ _ _ => rfl
  go_enter_defers Tryd.func10, Tryd.ntmps10
  refine Code.wp_mono (Aid.noPanic_le _) ?_
  go_wp2_with (first | ((with_reducible refine gate_dst (N := 4) rfl ?_); refine box_event ?hg (N := 4) ?hd (cs := #[.bool false]) (t := 4) ?hr ?_; (case hd => rfl); (case hg => rfl); (case hr => first | (go_simp; done) | (go_simp; rfl)); intro gb149 hg w4 hbox hb; have n0_ := Aside0.mk (below_step (by repeat (first | (with_reducible first | exact HB.out | apply below_alloc | apply pw_below_drewN | apply below_drew1) | exact HB.out)) hb); have n1_ := Aside0.mk (hbox); have n2_ := Aside0.mk ((by rw [hg]; exact (below_size (by repeat (first | (with_reducible first | exact HB.out | apply below_alloc | apply pw_below_drewN | apply below_drew1) | exact HB.out))) : w.heap.size ≤ gb149)); have n3_ := Aside0.mk ((by rw [hg]; exact (below_size (by repeat (first | (with_reducible first | exact HB.out | apply below_alloc | apply pw_below_drewN | apply below_drew1) | exact HB.out))) : w.heap.size ≤ gb149)); clear HB; have HB := n0_; have BK149 := n1_; have GW149 := n2_; have GE149 := n3_; clear n0_ n1_ n2_ n3_; clear hb hbox hg) | ((with_reducible refine gate_callee (f := 21) rfl ?_); refine goesL_ (some 7) rfl rfl Tryd.func21 (by kernel_rfl) rfl #[.slice A0 l0.length c0, .int .i64 a1] rfl (by (try simp only [List.map_toArray, List.map_cons, List.map_nil]); first | done | rfl | (simp only [List.length_drop, List.length_take]; rfl)) ?_; (with_reducible refine (bitutil_BitIsSet.calls _ _ l0 a1 t150 _ ?side1 ?side2 ?side3 A3.out).mono ?_); (case side1 => repeat (first | exact (Kd.C_below HR0.out HB.out) | (with_reducible refine Kd.C_alloc ?_ _) | (with_reducible refine Kd.C_drewN ?_ _) | (with_reducible refine Kd.C_drew ?_))); (case side2 => exact HC0.out); (case side3 => first | exact HG0.out | exact Kd.C_below HG0.out (by repeat (first | (with_reducible first | exact HB.out | apply below_alloc | apply pw_below_drewN | apply below_drew1 | refine below_set ?_ GE149.out) | exact HB.out))); rintro e w' ⟨rfl, ⟨nd, rfl⟩⟩; refine ⟨_, rfl, ?_⟩; (try (rw [drewN_self w4]; generalize hq_ : World.drewN w4 _ = w4; have n0_ : Aside0 (w4.heap[gb149]? = some (.cells #[.bool false] 4 (0, 0))) := ⟨by rw [← hq_]; exact (by (with_reducible repeat (first | refine blk_drewN ?_ _ | refine blk_drew ?_ | refine blk_alloc ?_ _)); exact BK149.out)⟩; have n1_ : Aside0 (Below w.heap.size w w4) := ⟨by rw [← hq_]; exact (by repeat (first | (with_reducible first | exact HB.out | apply below_alloc | apply pw_below_drewN | apply below_drew1 | refine below_set ?_ GE149.out) | exact HB.out))⟩; clear BK149 HB hq_; have BK149 := n0_; have HB := n1_; clear n0_ n1_)); have hcz5_0 : w4.cell? ⟨gb149, 0, none⟩ = some (.bool false) := (blk_cell BK149.out 0).trans rfl; have hfz5_0 := blk_frozen BK149.out 0))
  (try simp only [Exit.inBlock, Exit.then])
  refine Aid.door_ (G := 20) (by simp [go_sem]) (idle20 (.pointer (some ⟨gb149, 0, none⟩))) (Aid.resultsB_single rfl (.one gb149 4 (.bool t150) _ rfl (by (with_reducible repeat (first | refine blk_drewN ?_ _ | refine blk_drew ?_ | refine blk_alloc ?_ _)); refine blk_put (cs := #[.bool false]) ?_ 0 _ rfl; (with_reducible repeat (first | refine blk_drewN ?_ _ | refine blk_drew ?_ | refine blk_alloc ?_ _)); exact BK149.out) Tryd.underlying4 rfl .nil)) ?_
  exact ⟨by first | rfl | (simp [errW_none, errW_some] <;> rfl) | (simp [*, errW_none, errW_some] <;> rfl), by repeat (first | (with_reducible first | exact HB.out | apply below_alloc | apply pw_below_drewN | apply below_drew1 | refine below_set ?_ GE149.out) | exact HB.out)⟩

/-! ### bitutil_BitIsNotSet: function 22 -/
def bitutil_BitIsNotSet.f (l0 : List Int) (a1 : Int) : Option (Bool) := if 0 ≤ (IntKind.u64.wrap (Int.tdiv (IntKind.u64.wrap (a1)) 8)) then (if (IntKind.u64.wrap (Int.tdiv (IntKind.u64.wrap (a1)) 8)) < (l0.length : Int) then (if 0 ≤ (((a1) % 256) % 8) then (if (((a1) % 256) % 8) < 8 then (some ((Go.bits .and .u8 (rd l0 (IntKind.u64.wrap (Int.tdiv (IntKind.u64.wrap (a1)) 8))) (rd gtab0 (((a1) % 256) % 8))) == 0)) else (none)) else (none)) else (none)) else (none)
set_option maxHeartbeats 8000000 in
set_option maxRecDepth 100000 in
theorem bitutil_BitIsNotSet.calls (A0 : Option Addr) (c0 : Nat) (l0 : List Int) (a1 : Int) (r : Bool) (w : World) (hr0 : Kd.C (Kd.int .u8) w A0 l0.length l0) (hc0 : l0.length ≤ c0) (hg0 : Kd.C (Kd.int .u8) w (some ⟨0, 0, none⟩) gtab0.length gtab0) (h : bitutil_BitIsNotSet.f l0 a1 = some r) :
    Calls Tryd.prog 22 #[.slice A0 l0.length c0, .int .i64 a1] w fun e w' => e = .returned (.bool r) ∧ Drawn0 w w' := by
  have HR0 := Aside0.mk hr0
  have HC0 := Aside0.mk hc0
  clear hr0 hc0
  have HG0 := Aside0.mk hg0
  clear hg0
  have H : (if 0 ≤ (IntKind.u64.wrap (Int.tdiv (IntKind.u64.wrap (a1)) 8)) then (if (IntKind.u64.wrap (Int.tdiv (IntKind.u64.wrap (a1)) 8)) < (l0.length : Int) then (if 0 ≤ (((a1) % 256) % 8) then (if (((a1) % 256) % 8) < 8 then (some ((Go.bits .and .u8 (rd l0 (IntKind.u64.wrap (Int.tdiv (IntKind.u64.wrap (a1)) 8))) (rd gtab0 (((a1) % 256) % 8))) == 0)) else (none)) else (none)) else (none)) else (none)) = some r := h
  clear h
  obtain ⟨ji3, hji3⟩ : ∃ j_ : Int, (IntKind.u64.wrap (Int.tdiv (IntKind.u64.wrap (a1)) 8)) = j_ := ⟨_, rfl⟩
  replace H : (if 0 ≤ (ji3) then (if (ji3) < (l0.length : Int) then (if 0 ≤ (((a1) % 256) % 8) then (if (((a1) % 256) % 8) < 8 then (some ((Go.bits .and .u8 (rd l0 (ji3)) (rd gtab0 (((a1) % 256) % 8))) == 0)) else (none)) else (none)) else (none)) else (none)) = some r := by first | (rw [hji3] at H; exact H) | (simp only [hji3] at H ⊢; exact H)
  by_cases c4 : 0 ≤ (ji3)
  · rw [if_pos c4] at H
    have c4b0 : decide (0 ≤ (ji3)) = true := decide_eq_true c4
    clear c4
    by_cases c5 : (ji3) < (l0.length : Int)
    · rw [if_pos c5] at H
      have c5b0 : decide ((ji3) < (l0.length : Int)) = true := decide_eq_true c5
      clear c5
      obtain ⟨ji6, hji6⟩ : ∃ j_ : Int, (((a1) % 256) % 8) = j_ := ⟨_, rfl⟩
      replace H : (if 0 ≤ (ji6) then (if (ji6) < 8 then (some ((Go.bits .and .u8 (rd l0 (ji3)) (rd gtab0 (ji6))) == 0)) else (none)) else (none)) = some r := by first | (rw [hji6] at H; exact H) | (simp only [hji6] at H ⊢; exact H)
      have hji6k : (IntKind.u8.wrap a1).tmod 8 = ji6 := (Aid.u8_mod _ (by decide)).trans hji6
      by_cases c7 : 0 ≤ (ji6)
      · rw [if_pos c7] at H
        have c7b0 : decide (0 ≤ (ji6)) = true := decide_eq_true c7
        clear c7
        by_cases c8 : (ji6) < 8
        · rw [if_pos c8] at H
          have c8b0 : decide ((ji6) < 8) = true := decide_eq_true c8
          clear c8
          obtain rfl := Option.some.inj H
          have p151 : 0 ≤ ((ji3) : Int) := of_decide_eq_true (by first | (with_reducible assumption) | assumption)
          have q151 : (ji3) < (l0.length : Int) := of_decide_eq_true (by first | (with_reducible assumption) | assumption)
          obtain ⟨ad151, e151, hx151_0⟩ := Kd.at_int HR0.out (ji3) p151 q151
          cases e151
          replace p151 := eq_true p151
          replace q151 := eq_true q151
          have p152 : 0 ≤ ((ji6) : Int) := of_decide_eq_true (by first | (with_reducible assumption) | assumption)
          have q152 : (ji6) < (gtab0.length : Int) := (by have h_ : ((ji6) : Int) < (8 : Int) := (of_decide_eq_true (by first | (with_reducible assumption) | assumption)); have e_ : gtab0.length = 8 := rfl; omega)
          have qg152 : (((ji6) : Int) < 8) = True := eq_true (by have e_ : gtab0.length = 8 := rfl; omega)
          obtain ⟨ad152, e152, hx152_0⟩ := Kd.at_int HG0.out (ji6) p152 q152
          obtain rfl : (⟨0, 0, none⟩ : Addr) = ad152 := (by injection e152)
          (first | simp only [add_plain] at hx152_0 | simp only [add_at] at hx152_0 | simp only [Addr.add, Nat.zero_add] at hx152_0 | skip)
          replace p152 := eq_true p152
          replace q152 := eq_true q152
          go_enter Tryd.func22, Tryd.ntmps22
          go_wp2
          repeat (go_quiet (fail); try go_wp2)
          go_ret
          exact ⟨by first | rfl | (simp; done) | (simp only [← hji3, ← hji6] <;> (first | rfl | simp)) | (simp [*]; done), by repeat (first | exact Drawn0.refl _ | apply Drawn0.step)⟩
        · rw [if_neg c8] at H
          exact absurd H (by simp)
      · rw [if_neg c7] at H
        exact absurd H (by simp)
    · rw [if_neg c5] at H
      exact absurd H (by simp)
  · rw [if_neg c4] at H
    exact absurd H (by simp)

/-! ### impl_IsNotSet: function 11 -/
def impl_IsNotSet.f (l0 : List Int) (a1 : Int) : Option (Bool) := (bitutil_BitIsNotSet.f l0 a1).bind fun t154 => (some t154)
set_option maxHeartbeats 8000000 in
set_option maxRecDepth 100000 in
theorem impl_IsNotSet.calls (A0 : Option Addr) (c0 : Nat) (l0 : List Int) (a1 : Int) (r : Bool) (w : World) (hr0 : Kd.C (Kd.int .u8) w A0 l0.length l0) (hc0 : l0.length ≤ c0) (hg0 : Kd.C (Kd.int .u8) w (some ⟨0, 0, none⟩) gtab0.length gtab0) (h : impl_IsNotSet.f l0 a1 = some r) :
    Calls Tryd.prog 11 #[.slice A0 l0.length c0, .int .i64 a1] w fun e w' => e = .returned (.bool r) ∧ Below w.heap.size w w' := by
  have HR0 := Aside0.mk hr0
  have HC0 := Aside0.mk hc0
  clear hr0 hc0
  have HG0 := Aside0.mk hg0
  clear hg0
  have HB := Aside0.mk (Below.refl w.heap.size w)
  have H : ((bitutil_BitIsNotSet.f l0 a1).bind fun t154 => (some t154)) = some r := h
  clear h
  replace H := Option.bind_eq_some_iff.mp H
  obtain ⟨t154, A30, H⟩ := H
  replace H : (some t154) = some r := H
  have A3 := Aside0.mk A30
  clear A30
  obtain rfl := Option.some.inj H
  have hmf_ : ∀ (fn : Fn) (first cap : Array Value) (w : World), (Instr.makeFunc fn first cap).run Tryd.prog w = .ok (.func fn first cap) w := fun _ _ _ _ => rfl
  go_enter_defers Tryd.func11, Tryd.ntmps11
  refine Code.wp_mono (Aid.noPanic_le _) ?_
  go_wp2_with (first | ((with_reducible refine gate_dst (N := 4) rfl ?_); refine box_event ?hg (N := 4) ?hd (cs := #[.bool false]) (t := 4) ?hr ?_; (case hd => rfl); (case hg => rfl); (case hr => first | (go_simp; done) | (go_simp; rfl)); intro gb153 hg w4 hbox hb; have n0_ := Aside0.mk (below_step (by repeat (first | (with_reducible first | exact HB.out | apply below_alloc | apply pw_below_drewN | apply below_drew1) | exact HB.out)) hb); have n1_ := Aside0.mk (hbox); have n2_ := Aside0.mk ((by rw [hg]; exact (below_size (by repeat (first | (with_reducible first | exact HB.out | apply below_alloc | apply pw_below_drewN | apply below_drew1) | exact HB.out))) : w.heap.size ≤ gb153)); have n3_ := Aside0.mk ((by rw [hg]; exact (below_size (by repeat (first | (with_reducible first | exact HB.out | apply below_alloc | apply pw_below_drewN | apply below_drew1) | exact HB.out))) : w.heap.size ≤ gb153)); clear HB; have HB := n0_; have BK153 := n1_; have GW153 := n2_; have GE153 := n3_; clear n0_ n1_ n2_ n3_; clear hb hbox hg) | ((with_reducible refine gate_callee (f := 22) rfl ?_); refine goesL_ (some 7) rfl rfl Tryd.func22 (by kernel_rfl) rfl #[.slice A0 l0.length c0, .int .i64 a1] rfl (by (try simp only [List.map_toArray, List.map_cons, List.map_nil]); first | done | rfl | (simp only [List.length_drop, List.length_take]; rfl)) ?_; (with_reducible refine (bitutil_BitIsNotSet.calls _ _ l0 a1 t154 _ ?side1 ?side2 ?side3 A3.out).mono ?_); (case side1 => repeat (first | exact (Kd.C_below HR0.out HB.out) | (with_reducible refine Kd.C_alloc ?_ _) | (with_reducible refine Kd.C_drewN ?_ _) | (with_reducible refine Kd.C_drew ?_))); (case side2 => exact HC0.out); (case side3 => first | exact HG0.out | exact Kd.C_below HG0.out (by repeat (first | (with_reducible first | exact HB.out | apply below_alloc | apply pw_below_drewN | apply below_drew1 | refine below_set ?_ GE153.out) | exact HB.out))); rintro e w' ⟨rfl, ⟨nd, rfl⟩⟩; refine ⟨_, rfl, ?_⟩; (try (rw [drewN_self w4]; generalize hq_ : World.drewN w4 _ = w4; have n0_ : Aside0 (w4.heap[gb153]? = some (.cells #[.bool false] 4 (0, 0))) := ⟨by rw [← hq_]; exact (by (with_reducible repeat (first | refine blk_drewN ?_ _ | refine blk_drew ?_ | refine blk_alloc ?_ _)); exact BK153.out)⟩; have n1_ : Aside0 (Below w.heap.size w w4) := ⟨by rw [← hq_]; exact (by repeat (first | (with_reducible first | exact HB.out | apply below_alloc | apply pw_below_drewN | apply below_drew1 | refine below_set ?_ GE153.out) | exact HB.out))⟩; clear BK153 HB hq_; have BK153 := n0_; have HB := n1_; clear n0_ n1_)); have hcz5_0 : w4.cell? ⟨gb153, 0, none⟩ = some (.bool false) := (blk_cell BK153.out 0).trans rfl; have hfz5_0 := blk_frozen BK153.out 0))
  (try simp only [Exit.inBlock, Exit.then])
  refine Aid.door_ (G := 20) (by simp [go_sem]) (idle20 (.pointer (some ⟨gb153, 0, none⟩))) (Aid.resultsB_single rfl (.one gb153 4 (.bool t154) _ rfl (by (with_reducible repeat (first | refine blk_drewN ?_ _ | refine blk_drew ?_ | refine blk_alloc ?_ _)); refine blk_put (cs := #[.bool false]) ?_ 0 _ rfl; (with_reducible repeat (first | refine blk_drewN ?_ _ | refine blk_drew ?_ | refine blk_alloc ?_ _)); exact BK153.out) Tryd.underlying4 rfl .nil)) ?_
  exact ⟨by first | rfl | (simp [errW_none, errW_some] <;> rfl) | (simp [*, errW_none, errW_some] <;> rfl), by repeat (first | (with_reducible first | exact HB.out | apply below_alloc | apply pw_below_drewN | apply below_drew1 | refine below_set ?_ GE153.out) | exact HB.out)⟩

end Go.Proofs.YticieelobdfloaaDoor.QTouched
