/- Written by a program of mine over the kit's print program, turned at a few places (variables of one cell in memory; deferred closures): each Go function as a Lean function, with the proof of its call. -/
import Derived.Test.YticieelobdfloaaQMetax0
import Derived.Test.YticieelobdfloaaQMetax1
namespace Go.Proofs.Yticieelobdfloaa.QMeta
open Go.RowKit Go.Proofs.YticieelobdfloaaW.PrintWords Go.Proofs.YticieelobdfloaaW.PrintLast Go.Proofs.YticieelobdfloaaW.PrintMore
attribute [local go_sem] max2_int min2_int max_two min_two max_three min_three max_four min_four   -- for this text's walks alone
set_option linter.unusedVariables false
set_option linter.unusedSimpArgs false

/-! ### impl_arrowMeta: function 19 -/
def impl_arrowMeta.l0 : Nat → List ByteArray → List ByteArray → List (S30) → Int → Int → Option (List ByteArray × List ByteArray)
  | 0, _, _, _, _, _ => none
  | k + 1, x3, x4, x7, x8, x9 => if x9 < x8 then (if 0 ≤ x9 then (if x9 < (x7.length : Int) then ((some (([(rd_T30 x7 x9).f0] : List ByteArray) : List ByteArray)).bind fun y121 => (if x3.length + y121.length < 8796093022208 then ((some (([(rd_T30 x7 x9).f1] : List ByteArray) : List ByteArray)).bind fun y127 => (if x4.length + y127.length < 8796093022208 then (impl_arrowMeta.l0 k (x3 ++ y121) (x4 ++ y127) x7 x8 (wrap64 (x9 + 1))) else (none))) else (none))) else (none)) else (none)) else ((arrow_NewMetadata.f x3 x4).bind fun bt133 => (some (bt133.1, bt133.2)))
def impl_arrowMeta.f (k : Nat) (l0 : List (S30)) : Option (List ByteArray × List ByteArray) := impl_arrowMeta.l0 k ([] : List ByteArray) ([] : List ByteArray) l0 (l0.length : Int) 0
theorem impl_arrowMeta.mono_l : ∀ k, (∀ y0 y1 y2 y3 y4, LeO (impl_arrowMeta.l0 k y0 y1 y2 y3 y4) (impl_arrowMeta.l0 (k + 1) y0 y1 y2 y3 y4))
  | 0 => fun _ _ _ _ _ r h => by simp [impl_arrowMeta.l0] at h
  | k + 1 => by
    have ih0 := impl_arrowMeta.mono_l k
    · intro y0 y1 y2 y3 y4
      unfold impl_arrowMeta.l0
      repeat' first
      | (with_reducible exact ih0 _ _ _ _ _)
      | (with_reducible exact LeO.refl _)
      | (with_reducible exact LeO.none _)
      | (with_reducible refine LeO.ite ?_ ?_)
      | (with_reducible refine LeO.bind ?_ (fun _ => ?_))
      | exact ih0 _ _ _ _ _
      | exact LeO.none _
      | refine LeO.ite ?_ ?_
      | refine LeO.bind ?_ (fun _ => ?_)
theorem impl_arrowMeta.mono : ∀ a0 k, LeO (impl_arrowMeta.f k a0) (impl_arrowMeta.f (k + 1) a0) := by
  intro a0 k
  have ih0 := impl_arrowMeta.mono_l k
  unfold impl_arrowMeta.f
  repeat' first
      | (with_reducible exact ih0 _ _ _ _ _)
      | (with_reducible exact LeO.refl _)
      | (with_reducible exact LeO.none _)
      | (with_reducible refine LeO.ite ?_ ?_)
      | (with_reducible refine LeO.bind ?_ (fun _ => ?_))
      | exact ih0 _ _ _ _ _
      | exact LeO.none _
      | refine LeO.ite ?_ ?_
      | refine LeO.bind ?_ (fun _ => ?_)
def impl_arrowMeta.T5 : Bool × List (List Nat × List Nat) := (true, [([], []), ([], []), ([1], [1]), ([2], [2]), ([0, 3], [0, 3]), ([], []), ([], []), ([6], [6]), ([7], [7]), ([5, 8, 4], [5, 8]), ([4, 9, 0, 1, 2, 3, 4], [0, 4]), ([9, 10, 0, 1, 2, 3, 4, 5, 6, 7, 8, 9, 10], [5, 9])])
def impl_arrowMeta.B5 : List Nat := [0, 0, 2, 6, 15, 0, 0, 64, 192, 511, 1023, 2047]
theorem impl_arrowMeta.tab5 : rtab .any (opsOf Try.f19 5) = impl_arrowMeta.T5 := by kernel_rfl
theorem impl_arrowMeta.bits5 : waitsOk impl_arrowMeta.T5.2 impl_arrowMeta.B5 = true := by kernel_rfl
set_option maxHeartbeats 8000000 in
set_option maxRecDepth 100000 in
theorem impl_arrowMeta.calls (k : Nat) (A0 : Option Addr) (c0 : Nat) (l0 : List (S30)) (r1 : List ByteArray) (r2 : List ByteArray) (w : World) (hr0 : Kd.C k30 w A0 l0.length l0) (hc0 : l0.length ≤ c0) (h : impl_arrowMeta.f k l0 = some (r1, r2)) :
    Calls Try.prog 19 #[.slice A0 l0.length c0] w fun e w' => ∃ v0_ v1_ : Value, e = .returned (.agg #[v0_, v1_]) ∧ Kd.R Kd.string 9 w' w.heap.size (fun k_ => some k_ ≠ (v1_ : Value).ownBlock) v0_ r1 ∧ Kd.R Kd.string 9 w' w.heap.size (fun k_ => some k_ ≠ (v0_ : Value).ownBlock) v1_ r2 ∧ Below w.heap.size w w' := by
  have hu38 := Try.underlying38
  have hu30 := Try.underlying30
  have HR0 := Aside0.mk hr0
  have HC0 := Aside0.mk hc0
  clear hr0 hc0
  have HB := Aside0.mk (Below.refl w.heap.size w)
  have H : (impl_arrowMeta.l0 k ([] : List ByteArray) ([] : List ByteArray) l0 (l0.length : Int) 0) = some (r1, r2) := h
  clear h
  have H' := Aside0.mk H
  clear H
  go_enter Try.func19, Try.ntmps19
  go_wp2_with (first | ((with_reducible refine gate_dst (N := 2) rfl ?_); refine box_event ?hg (N := 2) ?hd (cs := #[.slice none 0 0, .slice none 0 0]) (t := 38) ?hr ?_; (case hd => rfl); (case hg => rfl); (case hr => first | (go_simp; done) | (go_simp; rfl)); intro gb118 hg w2 hbox hb; have n0_ := Aside0.mk (below_step (by repeat (first | (with_reducible first | exact HB.out | apply below_alloc | apply pw_below_drewN | apply below_drew1) | exact HB.out)) hb); have n1_ := Aside0.mk (hbox); have n2_ := Aside0.mk ((by rw [hg]; exact (below_size (by repeat (first | (with_reducible first | exact HB.out | apply below_alloc | apply pw_below_drewN | apply below_drew1) | exact HB.out))) : w.heap.size ≤ gb118)); have n3_ := Aside0.mk ((by rw [hg]; exact (below_size (by repeat (first | (with_reducible first | exact HB.out | apply below_alloc | apply pw_below_drewN | apply below_drew1) | exact HB.out))) : w.heap.size ≤ gb118)); clear HB; have HB := n0_; have BK118 := n1_; have GW118 := n2_; have GE118 := n3_; clear n0_ n1_ n2_ n3_; clear hb hbox hg))
  go_loopg [3, 4, 9] k (fun kq v3 v4 v9 w' => ∃ (x3_1 : List ByteArray) (x4_1 : List ByteArray) (x9_1 : Int), v9 = .int .i64 x9_1 ∧ Aside0 (impl_arrowMeta.l0 kq x3_1 x4_1 l0 (l0.length : Int) x9_1 = some (r1, r2)) ∧ Aside0 (kq ≤ k) ∧ Aside0 (Kd.R Kd.string 9 w' w.heap.size (fun k_ => some k_ ≠ (v4 : Value).ownBlock) v3 x3_1) ∧ Aside0 (Kd.R Kd.string 9 w' w.heap.size (fun k_ => some k_ ≠ (v3 : Value).ownBlock) v4 x4_1) ∧ Aside0 (w'.heap[gb118]? = some (.cells #[(.slice none 0 0), (.slice none 0 0)] 38 (0, 0))) ∧ Aside0 (Below w.heap.size w w'))
  case atStart => exact ⟨(([] : List ByteArray)), (([] : List ByteArray)), (0), (by first | rfl | (simp; done) | (simp [*]; done)), H', ⟨Nat.le_refl _⟩, ⟨by first | exact Kd.R_nil _ _ _ _ _ | exact Kd.N_nil _ _ _ _ _ | exact Kd.V_nil _ _ _ _ _ | exact Kd.Q_nil _ _ _ _ _ | exact Kd.S_nil _ _ _ _ _⟩, ⟨by first | exact Kd.R_nil _ _ _ _ _ | exact Kd.N_nil _ _ _ _ _ | exact Kd.V_nil _ _ _ _ _ | exact Kd.Q_nil _ _ _ _ _ | exact Kd.S_nil _ _ _ _ _⟩, ⟨by (with_reducible repeat (first | refine blk_drewN ?_ _ | refine blk_drew ?_ | refine blk_alloc ?_ _)); exact BK118.out⟩, ⟨by repeat (first | (with_reducible first | exact HB.out | apply below_alloc | apply pw_below_drewN | apply below_drew1 | refine below_set ?_ GE118.out) | exact HB.out)⟩⟩
  case round =>
    clear H'
    try clear c1
    try clear p2
    obtain ⟨x3_1, x4_1, x9_1, rfl, HA, HK1, HO_3, HO_4, BK118, HB⟩ := hrel
    cases gk with
    | zero => exact absurd HA.out (by simp [impl_arrowMeta.l0])
    | succ k1 =>
      have H := HA.out
      clear HA
      simp only [impl_arrowMeta.l0] at H
      by_cases c3 : x9_1 < (l0.length : Int)
      · rw [if_pos c3] at H
        have c3b0 : decide (x9_1 < (l0.length : Int)) = true := decide_eq_true c3
        clear c3
        by_cases c4 : 0 ≤ x9_1
        · rw [if_pos c4] at H
          have c4b0 : decide (0 ≤ x9_1) = true := decide_eq_true c4
          clear c4
          by_cases c5 : x9_1 < (l0.length : Int)
          · rw [if_pos c5] at H
            have c5b0 : decide (x9_1 < (l0.length : Int)) = true := decide_eq_true c5
            clear c5
            obtain ⟨y121, hy121⟩ : ∃ y_ : List ByteArray, y_ = (([(rd_T30 l0 x9_1).f0] : List ByteArray)) := ⟨_, rfl⟩
            replace H : (if x3_1.length + y121.length < 8796093022208 then ((some (([(rd_T30 l0 x9_1).f1] : List ByteArray) : List ByteArray)).bind fun y127 => (if x4_1.length + y127.length < 8796093022208 then (impl_arrowMeta.l0 k1 (x3_1 ++ y121) (x4_1 ++ y127) l0 (l0.length : Int) (wrap64 (x9_1 + 1))) else (none))) else (none)) = some (r1, r2) := by first | (rw [hy121]; with_reducible exact H) | (have H2_ := (Option.bind_some _ _).symm.trans H; rw [hy121]; with_reducible exact H2_) | (have H2_ := (Option.bind_some _ _).symm.trans H; with_reducible exact H2_) | with_reducible exact H | (rw [hy121]; exact H) | exact H
            have Ny121 := Aside0.mk hy121
            clear hy121
            by_cases c6 : x3_1.length + y121.length < 8796093022208
            · rw [if_pos c6] at H
              have LMc6 := Aside0.mk c6
              clear c6
              obtain ⟨y124, hy124⟩ : ∃ y_ : List ByteArray, y_ = (x3_1 ++ y121) := ⟨_, rfl⟩
              replace H : ((some (([(rd_T30 l0 x9_1).f1] : List ByteArray) : List ByteArray)).bind fun y127 => (if x4_1.length + y127.length < 8796093022208 then (impl_arrowMeta.l0 k1 y124 (x4_1 ++ y127) l0 (l0.length : Int) (wrap64 (x9_1 + 1))) else (none))) = some (r1, r2) := by first | (rw [hy124]; with_reducible exact H) | (have H2_ := (Option.bind_some _ _).symm.trans H; rw [hy124]; with_reducible exact H2_) | (have H2_ := (Option.bind_some _ _).symm.trans H; with_reducible exact H2_) | with_reducible exact H | (rw [hy124]; exact H) | exact H
              have Ny124 := Aside0.mk hy124
              clear hy124
              obtain ⟨y127, hy127⟩ : ∃ y_ : List ByteArray, y_ = (([(rd_T30 l0 x9_1).f1] : List ByteArray)) := ⟨_, rfl⟩
              replace H : (if x4_1.length + y127.length < 8796093022208 then (impl_arrowMeta.l0 k1 y124 (x4_1 ++ y127) l0 (l0.length : Int) (wrap64 (x9_1 + 1))) else (none)) = some (r1, r2) := by first | (rw [hy127]; with_reducible exact H) | (have H2_ := (Option.bind_some _ _).symm.trans H; rw [hy127]; with_reducible exact H2_) | (have H2_ := (Option.bind_some _ _).symm.trans H; with_reducible exact H2_) | with_reducible exact H | (rw [hy127]; exact H) | exact H
              have Ny127 := Aside0.mk hy127
              clear hy127
              by_cases c7 : x4_1.length + y127.length < 8796093022208
              · rw [if_pos c7] at H
                have LMc7 := Aside0.mk c7
                clear c7
                obtain ⟨y130, hy130⟩ : ∃ y_ : List ByteArray, y_ = (x4_1 ++ y127) := ⟨_, rfl⟩
                replace H : (impl_arrowMeta.l0 k1 y124 y130 l0 (l0.length : Int) (wrap64 (x9_1 + 1))) = some (r1, r2) := by first | (rw [hy130]; with_reducible exact H) | (have H2_ := (Option.bind_some _ _).symm.trans H; rw [hy130]; with_reducible exact H2_) | (have H2_ := (Option.bind_some _ _).symm.trans H; with_reducible exact H2_) | with_reducible exact H | (rw [hy130]; exact H) | exact H
                have Ny130 := Aside0.mk hy130
                clear hy130
                have H' := Aside0.mk H
                clear H
                have p119 : 0 ≤ (x9_1 : Int) := of_decide_eq_true (by first | (with_reducible assumption) | assumption)
                have q119 : x9_1 < (l0.length : Int) := of_decide_eq_true (by first | (with_reducible assumption) | assumption)
                obtain ⟨ad119, e119, hx119_0, hx119_1⟩ := at_T30 HR0.out x9_1 p119 q119
                cases e119
                replace hx119_0 := (HB.out.cell (World.block_lt_of_cell? w _ hx119_0)).trans hx119_0
                replace hx119_1 := (HB.out.cell (World.block_lt_of_cell? w _ hx119_1)).trans hx119_1
                replace p119 := eq_true p119
                replace q119 := eq_true q119
                try go_wp2_with (first | ((with_reducible refine gate_dst (N := 6) rfl ?_); refine box_event ?hg (N := 6) ?hd (cs := #[.string (⟨#[]⟩ : ByteArray), .string (⟨#[]⟩ : ByteArray)]) (t := 30) ?hr ?_; (case hd => rfl); (case hg => rfl); (case hr => first | (go_simp; done) | (go_simp; rfl)); intro gb120 hg w8 hbox hb; have n0_ := Aside0.mk (Kd.R_below (by (with_reducible repeat (first | apply Kd.R_alloc | apply Kd.R_drewN | apply Kd.R_drew)); exact HO_3.out) hb); have n1_ := Aside0.mk (Kd.R_below (by (with_reducible repeat (first | apply Kd.R_alloc | apply Kd.R_drewN | apply Kd.R_drew)); exact HO_4.out) hb); have n2_ := Aside0.mk (blk_below (g := gb118) (o := .cells #[.slice none 0 0, .slice none 0 0] 38 (0, 0)) (by (with_reducible repeat (first | refine blk_drewN ?_ _ | refine blk_drew ?_ | refine blk_alloc ?_ _)); exact BK118.out) hb); have n3_ := Aside0.mk (below_step (by repeat (first | (with_reducible first | exact HB.out | apply below_alloc | apply pw_below_drewN | apply below_drew1 | refine below_set ?_ GE118.out) | exact HB.out)) hb); have n4_ := Aside0.mk (hbox); have n5_ := Aside0.mk ((by rw [hg]; exact (below_size (by repeat (first | (with_reducible first | exact HB.out | apply below_alloc | apply pw_below_drewN | apply below_drew1 | refine below_set ?_ GE118.out) | exact HB.out))) : w.heap.size ≤ gb120)); have n6_ := Aside0.mk ((by rw [hg]; exact (below_size (by repeat (first | (with_reducible first | exact HB.out | apply below_alloc | apply pw_below_drewN | apply below_drew1 | refine below_set ?_ GE118.out) | exact HB.out))) : w.heap.size ≤ gb120)); have n7_ := Aside0.mk ((by rw [hg]; exact Nat.ne_of_lt (blk_lt (g := gb118) (o := .cells #[.slice none 0 0, .slice none 0 0] 38 (0, 0)) (by (with_reducible repeat (first | refine blk_drewN ?_ _ | refine blk_drew ?_ | refine blk_alloc ?_ _)); exact BK118.out)) : gb118 ≠ gb120)); have n8_ := Aside0.mk ((by rw [hg]; exact Nat.ne_of_gt (blk_lt (g := gb118) (o := .cells #[.slice none 0 0, .slice none 0 0] 38 (0, 0)) (by (with_reducible repeat (first | refine blk_drewN ?_ _ | refine blk_drew ?_ | refine blk_alloc ?_ _)); exact BK118.out)) : gb120 ≠ gb118)); clear HO_3; clear HO_4; clear BK118; clear HB; have HO_3 := n0_; have HO_4 := n1_; have BK118 := n2_; have HB := n3_; have BK120 := n4_; have GW120 := n5_; have GE120 := n6_; have NB118_120 := n7_; have NB120_118 := n8_; clear n0_ n1_ n2_ n3_ n4_ n5_ n6_ n7_ n8_; clear hb hbox hg; have hnb9 := NB120_118.out; have hnc9 := NB118_120.out; have hcz10_0 : w8.cell? ⟨gb120, 0, none⟩ = some (.string (⟨#[]⟩ : ByteArray)) := (blk_cell BK120.out 0).trans rfl; have hcz10_1 : w8.cell? ⟨gb120, 1, none⟩ = some (.string (⟨#[]⟩ : ByteArray)) := (blk_cell BK120.out 1).trans rfl; have hfz10_0 := blk_frozen BK120.out 0; have hfz10_1 := blk_frozen BK120.out 1; obtain ⟨Ao11, co11, eo11⟩ := Kd.R_slice HO_3.out; subst eo11; obtain ⟨Ao12, co12, eo12⟩ := Kd.R_slice HO_4.out; subst eo12))
                have n0_ : Aside0 (Kd.R Kd.string 9 ((w8.setCell ⟨gb120, 0, none⟩ (.string ((rd_T30 l0 x9_1).f0))).setCell ⟨gb120, 1, none⟩ (.string ((rd_T30 l0 x9_1).f1))) w.heap.size (fun k_ => some k_ ≠ (.slice Ao12 x4_1.length co12 : Value).ownBlock) (.slice Ao11 x3_1.length co11) x3_1) := ⟨by (with_reducible repeat (first | apply Kd.R_alloc | apply Kd.R_drewN | apply Kd.R_drew)); exact Kd.R_mono (Kd.R_far (p := ⟨gb120, 1, none⟩) (Kd.R_far (p := ⟨gb120, 0, none⟩) (Kd.R_types HO_3.out BK120.out (by decide)) (fun _ hk => hk.2) (.string ((rd_T30 l0 x9_1).f0))) (fun _ hk => hk.2) (.string ((rd_T30 l0 x9_1).f1))) (fun _ hk => hk.1)⟩
                have n1_ : Aside0 (Kd.R Kd.string 9 ((w8.setCell ⟨gb120, 0, none⟩ (.string ((rd_T30 l0 x9_1).f0))).setCell ⟨gb120, 1, none⟩ (.string ((rd_T30 l0 x9_1).f1))) w.heap.size (fun k_ => some k_ ≠ (.slice Ao11 x3_1.length co11 : Value).ownBlock) (.slice Ao12 x4_1.length co12) x4_1) := ⟨by (with_reducible repeat (first | apply Kd.R_alloc | apply Kd.R_drewN | apply Kd.R_drew)); exact Kd.R_mono (Kd.R_far (p := ⟨gb120, 1, none⟩) (Kd.R_far (p := ⟨gb120, 0, none⟩) (Kd.R_types HO_4.out BK120.out (by decide)) (fun _ hk => hk.2) (.string ((rd_T30 l0 x9_1).f0))) (fun _ hk => hk.2) (.string ((rd_T30 l0 x9_1).f1))) (fun _ hk => hk.1)⟩
                have n2_ : Aside0 (((w8.setCell ⟨gb120, 0, none⟩ (.string ((rd_T30 l0 x9_1).f0))).setCell ⟨gb120, 1, none⟩ (.string ((rd_T30 l0 x9_1).f1))).heap[gb118]? = some (.cells #[.slice none 0 0, .slice none 0 0] 38 (0, 0))) := ⟨by (with_reducible repeat (first | refine blk_drewN ?_ _ | refine blk_drew ?_ | refine blk_alloc ?_ _)); refine blk_far ?_ NB118_120.out _; (with_reducible repeat (first | refine blk_drewN ?_ _ | refine blk_drew ?_ | refine blk_alloc ?_ _)); refine blk_far ?_ NB118_120.out _; (with_reducible repeat (first | refine blk_drewN ?_ _ | refine blk_drew ?_ | refine blk_alloc ?_ _)); exact BK118.out⟩
                have n3_ : Aside0 (((w8.setCell ⟨gb120, 0, none⟩ (.string ((rd_T30 l0 x9_1).f0))).setCell ⟨gb120, 1, none⟩ (.string ((rd_T30 l0 x9_1).f1))).heap[gb120]? = some (.cells #[.string ((rd_T30 l0 x9_1).f0), .string ((rd_T30 l0 x9_1).f1)] 30 (0, 0))) := ⟨by (with_reducible repeat (first | refine blk_drewN ?_ _ | refine blk_drew ?_ | refine blk_alloc ?_ _)); refine blk_put (cs := #[.string ((rd_T30 l0 x9_1).f0), .string (⟨#[]⟩ : ByteArray)]) ?_ 1 _ rfl; (with_reducible repeat (first | refine blk_drewN ?_ _ | refine blk_drew ?_ | refine blk_alloc ?_ _)); refine blk_put (cs := #[.string (⟨#[]⟩ : ByteArray), .string (⟨#[]⟩ : ByteArray)]) ?_ 0 _ rfl; (with_reducible repeat (first | refine blk_drewN ?_ _ | refine blk_drew ?_ | refine blk_alloc ?_ _)); exact BK120.out⟩
                have n4_ : Aside0 (Below w.heap.size w ((w8.setCell ⟨gb120, 0, none⟩ (.string ((rd_T30 l0 x9_1).f0))).setCell ⟨gb120, 1, none⟩ (.string ((rd_T30 l0 x9_1).f1)))) := ⟨by repeat (first | (with_reducible first | exact HB.out | apply below_alloc | apply pw_below_drewN | apply below_drew1 | refine below_set ?_ GE118.out | refine below_set ?_ GE120.out) | exact HB.out)⟩
                (try clear HO_3)
                (try clear HO_4)
                (try clear BK118)
                (try clear BK120)
                (try clear HB)
                generalize ((w8.setCell ⟨gb120, 0, none⟩ (.string ((rd_T30 l0 x9_1).f0))).setCell ⟨gb120, 1, none⟩ (.string ((rd_T30 l0 x9_1).f1))) = w13 at n0_ n1_ n2_ n3_ n4_ ⊢
                have HO_3 := n0_
                have HO_4 := n1_
                have BK118 := n2_
                have BK120 := n3_
                have HB := n4_
                clear n0_ n1_ n2_ n3_ n4_
                have n0_ := Aside0.mk (Kd.R_drew HO_3.out)
                have n1_ := Aside0.mk (Kd.R_drew HO_4.out)
                have n2_ := Aside0.mk (blk_drew BK118.out)
                have n3_ := Aside0.mk (blk_drew BK120.out)
                have n4_ := Aside0.mk (below_drew1 HB.out)
                clear HO_3
                clear HO_4
                clear BK118
                clear BK120
                clear HB
                have HO_3 := n0_
                have HO_4 := n1_
                have BK118 := n2_
                have BK120 := n3_
                have HB := n4_
                clear n0_ n1_ n2_ n3_ n4_
                refine start_ (n := 12) (S := fun w' => w'.cell? ⟨gb120, 0, none⟩ = some (.string ((rd_T30 l0 x9_1).f0)) ∧ w'.cell? ⟨gb120, 1, none⟩ = some (.string ((rd_T30 l0 x9_1).f1))) (ds := []) #[false, false, false, false, false, false, false, false, false, false, false, false] (by kernel_rfl) rfl rfl ⟨(blk_cell BK120.out 0).trans rfl, (blk_cell BK120.out 1).trans rfl⟩ (fun hHeld => ?_); refine with_tabW impl_arrowMeta.tab5 impl_arrowMeta.bits5 (fun HT_ HW_ => ?_)
                generalize w13.drew = w14 at HO_3 HO_4 BK118 BK120 HB hHeld ⊢
                refine pure_ (i := 0) (N := some 13) (v := ?_) (a' := ?_) #[true, false, false, false, false, false, false, false, false, false, false, false] rfl rfl (any_of HT_.out (by kernel_rfl)) (fun _ _ _ h => h) (Or.inl ⟨by rfl, ?_⟩) ?_ ?_
                rotate_left
                · intro w'
                  go_simp
                  with_reducible rfl
                rotate_left
                · simp only [Act.put, List.setIfInBounds_toArray, List.set_cons_zero, List.set_cons_succ, i64_w, i32_w]
                  rfl
                refine pure_ (i := 1) (N := some 14) (v := ?_) (a' := ?_) #[true, true, false, false, false, false, false, false, false, false, false, false] rfl rfl (any_of HT_.out (by kernel_rfl)) (fun _ _ _ h => h) (Or.inl ⟨by rfl, ?_⟩) ?_ ?_
                rotate_left
                · intro w'
                  go_simp
                  with_reducible rfl
                rotate_left
                · simp only [Act.put, List.setIfInBounds_toArray, List.set_cons_zero, List.set_cons_succ, i64_w, i32_w]
                  rfl
                refine pure_ (i := 5) (N := some 18) (v := ?_) (a' := ?_) #[true, true, false, false, false, true, false, false, false, false, false, false] rfl rfl (any_of HT_.out (by kernel_rfl)) (fun _ _ _ h => h) (Or.inl ⟨by rfl, ?_⟩) ?_ ?_
                rotate_left
                · intro w'
                  go_simp
                  with_reducible rfl
                rotate_left
                · simp only [Act.put, List.setIfInBounds_toArray, List.set_cons_zero, List.set_cons_succ, i64_w, i32_w]
                  rfl
                refine pure_ (i := 6) (N := some 19) (v := ?_) (a' := ?_) #[true, true, false, false, false, true, true, false, false, false, false, false] rfl rfl (any_of HT_.out (by kernel_rfl)) (fun _ _ _ h => h) (Or.inl ⟨by rfl, ?_⟩) ?_ ?_
                rotate_left
                · intro w'
                  go_simp
                  with_reducible rfl
                rotate_left
                · simp only [Act.put, List.setIfInBounds_toArray, List.set_cons_zero, List.set_cons_succ, i64_w, i32_w]
                  rfl
                refine take_ (i := 2) (N := some 15) (v := ?_) (a' := ?_) #[true, true, true, false, false, true, true, false, false, false, false, false] rfl rfl (take_ofW HT_.out HW_.out (by kernel_rfl)) (fun _ _ _ h => h) (Or.inl ⟨by rfl, ?_⟩) hHeld ?_ ?_
                rotate_left
                · rintro w' ⟨s0, s1⟩
                  go_simp
                  with_reducible rfl
                rotate_left
                · simp only [Act.put, List.setIfInBounds_toArray, List.set_cons_zero, List.set_cons_succ, i64_w, i32_w]
                  rfl
                refine take_ (i := 7) (N := some 20) (v := ?_) (a' := ?_) #[true, true, true, false, false, true, true, true, false, false, false, false] rfl rfl (take_ofW HT_.out HW_.out (by kernel_rfl)) (fun _ _ _ h => h) (Or.inl ⟨by rfl, ?_⟩) hHeld ?_ ?_
                rotate_left
                · rintro w' ⟨s0, s1⟩
                  go_simp
                  with_reducible rfl
                rotate_left
                · simp only [Act.put, List.setIfInBounds_toArray, List.set_cons_zero, List.set_cons_succ, i64_w, i32_w]
                  rfl
                refine join_ (σ := Value × Value × Value) 3 #[true, true, true, true, true, true, true, true, true, false, false, false] (fun s_ => [(16, s_.1), (17, s_.2.1), (21, s_.2.2)]) (fun s_ w' => (w'.cell? ⟨gb120, 0, none⟩ = some (.string ((rd_T30 l0 x9_1).f0)) ∧ w'.cell? ⟨gb120, 1, none⟩ = some (.string ((rd_T30 l0 x9_1).f1))) ∧ (Kd.R Kd.string 9 w' w.heap.size (fun k_ => some k_ ≠ (s_.2.1 : Value).ownBlock ∧ some k_ ≠ (s_.2.2 : Value).ownBlock ∧ some k_ ≠ (.slice Ao12 x4_1.length co12 : Value).ownBlock) s_.1 y121) ∧ (Kd.R Kd.string 9 w' w.heap.size (fun k_ => some k_ ≠ (s_.1 : Value).ownBlock ∧ some k_ ≠ (s_.2.2 : Value).ownBlock ∧ some k_ ≠ (.slice Ao12 x4_1.length co12 : Value).ownBlock) s_.2.1 y124) ∧ (Kd.R Kd.string 9 w' w.heap.size (fun k_ => some k_ ≠ (s_.1 : Value).ownBlock ∧ some k_ ≠ (s_.2.1 : Value).ownBlock ∧ some k_ ≠ (.slice Ao12 x4_1.length co12 : Value).ownBlock) s_.2.2 y127) ∧ (Kd.R Kd.string 9 w' w.heap.size (fun k_ => some k_ ≠ (s_.1 : Value).ownBlock ∧ some k_ ≠ (s_.2.1 : Value).ownBlock ∧ some k_ ≠ (s_.2.2 : Value).ownBlock) (.slice Ao12 x4_1.length co12) x4_1) ∧ (w'.heap[gb118]? = some (.cells #[.slice none 0 0, .slice none 0 0] 38 (0, 0))) ∧ (w'.heap[gb120]? = some (.cells #[.string ((rd_T30 l0 x9_1).f0), .string ((rd_T30 l0 x9_1).f1)] 30 (0, 0))) ∧ (Below w.heap.size w w')) ?_ ?_
                rotate_left
                · intro hCont
                  refine two_ (i := 3) (j := 8) (Ni := some 16) (Nj := some 21) #[true, true, true, true, false, true, true, true, false, false, false, false] #[true, true, true, false, false, true, true, true, true, false, false, false] rfl rfl rfl rfl (two_of HT_.out (by kernel_rfl)) (by decide) (by decide) (fun K hK => ?_) (fun K hK => ?_)
                  · skip
                    refine Kd.R_lit_step Kd.string _ 9 ?hg (N := 16) ?hd (xs := ([(rd_T30 l0 x9_1).f0] : List ByteArray)) (inner := [.string ((rd_T30 l0 x9_1).f0)]) (ok := fun _ => True) (okp := fun _ => True) ?hr ?hp (fun _ hk => hk) trivial (Below.refl _ _) (Nat.le_refl _) (by simp) ?_; (case hd => rfl); (case hg => rfl); (case hr => first | (go_simp; done) | (go_simp; rfl)); (case hp => exact (Reps.one (show Kd.M Kd.string _ _ _ ((rd_T30 l0 x9_1).f0) [.string ((rd_T30 l0 x9_1).f0)] from rfl) (Reps.none _ _)))
                    intro v122 w15 ho16 hb hg_ hnew_
                    clear hg_ hnew_
                    (first | rw [← Ny121.out] at ho16 | (simp only [Int.reduceToNat] at ho16; rw [← Ny121.out] at ho16))
                    have n0_ := Aside0.mk (Kd.R_elder' (by (with_reducible repeat (first | apply Kd.R_alloc | apply Kd.R_drewN | apply Kd.R_drew)); exact HO_3.out) (Kd.R_base ho16) hb)
                    have n1_ := Aside0.mk (Kd.R_elder' (by (with_reducible repeat (first | apply Kd.R_alloc | apply Kd.R_drewN | apply Kd.R_drew)); exact HO_4.out) (Kd.R_base ho16) hb)
                    have n2_ := Aside0.mk (Kd.R_lower (Kd.R_new' (Kd.R_new' ho16 (Kd.R_lt (by (with_reducible repeat (first | apply Kd.R_alloc | apply Kd.R_drewN | apply Kd.R_drew)); exact HO_3.out))) (Kd.R_lt (by (with_reducible repeat (first | apply Kd.R_alloc | apply Kd.R_drewN | apply Kd.R_drew)); exact HO_4.out))) (below_size (by repeat (first | (with_reducible first | exact HB.out | apply below_alloc | apply pw_below_drewN | apply below_drew1 | refine below_set ?_ GE118.out | refine below_set ?_ GE120.out) | exact HB.out))))
                    have n3_ := Aside0.mk (blk_below (g := gb118) (o := .cells #[.slice none 0 0, .slice none 0 0] 38 (0, 0)) (by (with_reducible repeat (first | refine blk_drewN ?_ _ | refine blk_drew ?_ | refine blk_alloc ?_ _)); exact BK118.out) hb)
                    have n4_ := Aside0.mk (blk_below (g := gb120) (o := .cells #[.string ((rd_T30 l0 x9_1).f0), .string ((rd_T30 l0 x9_1).f1)] 30 (0, 0)) (by (with_reducible repeat (first | refine blk_drewN ?_ _ | refine blk_drew ?_ | refine blk_alloc ?_ _)); exact BK120.out) hb)
                    have n5_ := Aside0.mk (below_step (by repeat (first | (with_reducible first | exact HB.out | apply below_alloc | apply pw_below_drewN | apply below_drew1 | refine below_set ?_ GE118.out | refine below_set ?_ GE120.out) | exact HB.out)) hb)
                    clear HO_3
                    clear HO_4
                    clear BK118
                    clear BK120
                    clear HB
                    have HO_3 := n0_
                    have HO_4 := n1_
                    have HO123 := n2_
                    have BK118 := n3_
                    have BK120 := n4_
                    have HB := n5_
                    clear n0_ n1_ n2_ n3_ n4_ n5_
                    clear hb ho16
                    obtain ⟨Ao18, co18, eo18⟩ := Kd.R_slice HO123.out
                    (first | subst eo18 | (injection eo18 with f1_ f2_ f3_; have f4_ := f1_.symm; have f5_ := f3_.symm; clear f1_ f2_ f3_; subst f4_; subst f5_))
                    refine hK.out _ _ ⟨(blk_cell BK120.out 0).trans rfl, (blk_cell BK120.out 1).trans rfl⟩ (fun hHeld => ?_)
                    clear hK K
                    refine norm_ (a' := ?_) ?_ ?_
                    rotate_left
                    · show Act.put _ (some 16) _ = _
                      simp only [Act.put, List.setIfInBounds_toArray, List.set_cons_zero, List.set_cons_succ, i64_w, i32_w]
                      rfl
                    refine two_ (i := 4) (j := 8) (Ni := some 17) (Nj := some 21) #[true, true, true, true, true, true, true, true, false, false, false, false] #[true, true, true, true, false, true, true, true, true, false, false, false] rfl rfl rfl rfl (two_of HT_.out (by kernel_rfl)) (by decide) (by decide) (fun K hK => ?_) (fun K hK => ?_)
                    · skip
                      refine Kd.R_append_rows_step Kd.string (w0 := w) w.heap.size (by rfl) (.tmp 13) (.tmp 16) 36 9 (.string ⟨#[]⟩) 16 rfl Try.underlying36 info9 rfl (by decide) (by omega) (.slice Ao11 x3_1.length co11) x3_1 y121 _ _ _ (fun k_ => some k_ ≠ (.slice Ao12 x4_1.length co12 : Value).ownBlock ∧ some k_ ≠ (.slice Ao18 y121.length co18 : Value).ownBlock) (fun _ => False) rfl rfl ?aO ?aR (fun _ _ h => h) (fun _ h => h.elim) ?aF ?aB ?aS ?aL ?_
                      (case aR => repeat (first | exact (Kd.R_reads' HO123.out).2.2 | (with_reducible refine Kd.C_alloc ?_ _) | (with_reducible refine Kd.C_drewN ?_ _) | (with_reducible refine Kd.C_drew ?_)))
                      (case aB => exact (by repeat (first | (with_reducible first | exact HB.out | apply below_alloc | apply pw_below_drewN | apply below_drew1 | refine below_set ?_ GE118.out | refine below_set ?_ GE120.out) | exact HB.out)))
                      (case aF => exact (fun k_ hk => ⟨Kd.fresh' (Kd.R_lt (by (with_reducible repeat (first | apply Kd.R_alloc | apply Kd.R_drewN | apply Kd.R_drew)); exact HO_4.out)) k_ hk, Kd.fresh' (Kd.R_lt (by (with_reducible repeat (first | apply Kd.R_alloc | apply Kd.R_drewN | apply Kd.R_drew)); exact HO123.out)) k_ hk⟩))
                      (case aO => exact (by (with_reducible repeat (first | apply Kd.R_alloc | apply Kd.R_drewN | apply Kd.R_drew)); exact HO_3.out))
                      (case aS => exact (below_size (by repeat (first | (with_reducible first | exact HB.out | apply below_alloc | apply pw_below_drewN | apply below_drew1 | refine below_set ?_ GE118.out | refine below_set ?_ GE120.out) | exact HB.out))))
                      (case aL => have := LMc6.out; omega)
                      intro v125 w17 ho hb hg hat
                      rw [← Ny124.out] at ho
                      have n0_ := Aside0.mk (Kd.R_after (ok := (fun k_ => some k_ ≠ (.slice Ao18 y121.length co18 : Value).ownBlock)) (by (with_reducible repeat (first | apply Kd.R_alloc | apply Kd.R_drewN | apply Kd.R_drew)); exact Kd.R_mono HO_4.out (fun _ hk => ⟨hk.2, hk.1⟩)) hg hat)
                      have n1_ := Aside0.mk (blk_grown (g := gb118) (o := .cells #[.slice none 0 0, .slice none 0 0] 38 (0, 0)) (by (with_reducible repeat (first | refine blk_drewN ?_ _ | refine blk_drew ?_ | refine blk_alloc ?_ _)); exact BK118.out) hg (Kd.R_ne HO_3.out BK118.out (by decide)))
                      have n2_ := Aside0.mk (blk_grown (g := gb120) (o := .cells #[.string ((rd_T30 l0 x9_1).f0), .string ((rd_T30 l0 x9_1).f1)] 30 (0, 0)) (by (with_reducible repeat (first | refine blk_drewN ?_ _ | refine blk_drew ?_ | refine blk_alloc ?_ _)); exact BK120.out) hg (Kd.R_ne HO_3.out BK120.out (by decide)))
                      have n3_ := Aside0.mk (Kd.R_after (ok := (fun k_ => some k_ ≠ (.slice Ao12 x4_1.length co12 : Value).ownBlock)) (by (with_reducible repeat (first | apply Kd.R_alloc | apply Kd.R_drewN | apply Kd.R_drew)); exact Kd.R_mono HO123.out (fun _ hk => ⟨hk.2, hk.1.2⟩)) hg hat)
                      have n4_ := Aside0.mk (hb)
                      have n5_ := Aside0.mk (ho)
                      clear HO_4
                      clear BK118
                      clear BK120
                      clear HO123
                      clear HB
                      clear HO_3
                      have HO_4 := n0_
                      have BK118 := n1_
                      have BK120 := n2_
                      have HO123 := n3_
                      have HB := n4_
                      have HO126 := n5_
                      clear n0_ n1_ n2_ n3_ n4_ n5_
                      clear ho hb hg hat
                      refine hK.out _ _ ⟨(blk_cell BK120.out 0).trans rfl, (blk_cell BK120.out 1).trans rfl⟩ (fun hHeld => ?_)
                      clear hK K
                      refine norm_ (a' := ?_) ?_ ?_
                      rotate_left
                      · show Act.put _ (some 17) _ = _
                        simp only [Act.put, List.setIfInBounds_toArray, List.set_cons_zero, List.set_cons_succ, i64_w, i32_w]
                        rfl
                      refine one_ (i := 8) (N := some 21) #[true, true, true, true, true, true, true, true, true, false, false, false] rfl rfl (one_of HT_.out (by kernel_rfl)) (by decide) (fun K hK => ?_)
                      refine Kd.R_lit_step Kd.string _ 9 ?hg (N := 21) ?hd (xs := ([(rd_T30 l0 x9_1).f1] : List ByteArray)) (inner := [.string ((rd_T30 l0 x9_1).f1)]) (ok := fun _ => True) (okp := fun _ => True) ?hr ?hp (fun _ hk => hk) trivial (Below.refl _ _) (Nat.le_refl _) (by simp) ?_; (case hd => rfl); (case hg => rfl); (case hr => first | (go_simp; done) | (go_simp; rfl)); (case hp => exact (Reps.one (show Kd.M Kd.string _ _ _ ((rd_T30 l0 x9_1).f1) [.string ((rd_T30 l0 x9_1).f1)] from rfl) (Reps.none _ _)))
                      intro v128 w19 ho20 hb hg_ hnew_
                      clear hg_ hnew_
                      (first | rw [← Ny127.out] at ho20 | (simp only [Int.reduceToNat] at ho20; rw [← Ny127.out] at ho20))
                      have n0_ := Aside0.mk (Kd.R_elder' (by (with_reducible repeat (first | apply Kd.R_alloc | apply Kd.R_drewN | apply Kd.R_drew)); exact HO_4.out) (Kd.R_base ho20) hb)
                      have n1_ := Aside0.mk (Kd.R_elder' (by (with_reducible repeat (first | apply Kd.R_alloc | apply Kd.R_drewN | apply Kd.R_drew)); exact HO123.out) (Kd.R_base ho20) hb)
                      have n2_ := Aside0.mk (Kd.R_elder' (by (with_reducible repeat (first | apply Kd.R_alloc | apply Kd.R_drewN | apply Kd.R_drew)); exact HO126.out) (Kd.R_base ho20) hb)
                      have n3_ := Aside0.mk (Kd.R_lower (Kd.R_new' (Kd.R_new' (Kd.R_new' ho20 (Kd.R_lt (by (with_reducible repeat (first | apply Kd.R_alloc | apply Kd.R_drewN | apply Kd.R_drew)); exact HO_4.out))) (Kd.R_lt (by (with_reducible repeat (first | apply Kd.R_alloc | apply Kd.R_drewN | apply Kd.R_drew)); exact HO123.out))) (Kd.R_lt (by (with_reducible repeat (first | apply Kd.R_alloc | apply Kd.R_drewN | apply Kd.R_drew)); exact HO126.out))) (below_size (by repeat (first | (with_reducible first | exact HB.out | apply below_alloc | apply pw_below_drewN | apply below_drew1 | refine below_set ?_ GE118.out | refine below_set ?_ GE120.out) | exact HB.out))))
                      have n4_ := Aside0.mk (blk_below (g := gb118) (o := .cells #[.slice none 0 0, .slice none 0 0] 38 (0, 0)) (by (with_reducible repeat (first | refine blk_drewN ?_ _ | refine blk_drew ?_ | refine blk_alloc ?_ _)); exact BK118.out) hb)
                      have n5_ := Aside0.mk (blk_below (g := gb120) (o := .cells #[.string ((rd_T30 l0 x9_1).f0), .string ((rd_T30 l0 x9_1).f1)] 30 (0, 0)) (by (with_reducible repeat (first | refine blk_drewN ?_ _ | refine blk_drew ?_ | refine blk_alloc ?_ _)); exact BK120.out) hb)
                      have n6_ := Aside0.mk (below_step (by repeat (first | (with_reducible first | exact HB.out | apply below_alloc | apply pw_below_drewN | apply below_drew1 | refine below_set ?_ GE118.out | refine below_set ?_ GE120.out) | exact HB.out)) hb)
                      clear HO_4
                      clear HO123
                      clear HO126
                      clear BK118
                      clear BK120
                      clear HB
                      have HO_4 := n0_
                      have HO123 := n1_
                      have HO126 := n2_
                      have HO129 := n3_
                      have BK118 := n4_
                      have BK120 := n5_
                      have HB := n6_
                      clear n0_ n1_ n2_ n3_ n4_ n5_ n6_
                      clear hb ho20
                      refine hK.out _ _ ⟨(blk_cell BK120.out 0).trans rfl, (blk_cell BK120.out 1).trans rfl⟩ (fun hHeld => ?_)
                      clear hK K
                      refine norm_ (a' := ?_) ?_ ?_
                      rotate_left
                      · show Act.put _ (some 21) _ = _
                        simp only [Act.put, List.setIfInBounds_toArray, List.set_cons_zero, List.set_cons_succ, i64_w, i32_w]
                        rfl
                      exact norm_ (by simp only [putAll, Act.put, List.setIfInBounds_toArray, List.set_cons_zero, List.set_cons_succ]) (hCont (.slice Ao18 y121.length co18, v125, v128) _ ⟨hHeld, (by (with_reducible repeat (first | apply Kd.R_alloc | apply Kd.R_drewN | apply Kd.R_drew)); exact Kd.R_mono HO123.out (fun _ hk => ⟨hk.1.2, ⟨hk.2, hk.1.1⟩⟩)), (by (with_reducible repeat (first | apply Kd.R_alloc | apply Kd.R_drewN | apply Kd.R_drew)); exact Kd.R_mono HO126.out (fun _ hk => ⟨hk.1.2, ⟨hk.2, hk.1.1⟩⟩)), (by (with_reducible repeat (first | apply Kd.R_alloc | apply Kd.R_drewN | apply Kd.R_drew)); exact Kd.R_mono HO129.out (fun _ hk => ⟨hk.1.2, ⟨hk.2, hk.1.1.2⟩⟩)), (by (with_reducible repeat (first | apply Kd.R_alloc | apply Kd.R_drewN | apply Kd.R_drew)); exact Kd.R_mono HO_4.out (fun _ hk => ⟨hk.1.1, ⟨hk.1.2, hk.2⟩⟩)), (by (with_reducible repeat (first | refine blk_drewN ?_ _ | refine blk_drew ?_ | refine blk_alloc ?_ _)); exact BK118.out), (by (with_reducible repeat (first | refine blk_drewN ?_ _ | refine blk_drew ?_ | refine blk_alloc ?_ _)); exact BK120.out), (by repeat (first | (with_reducible first | exact HB.out | apply below_alloc | apply pw_below_drewN | apply below_drew1 | refine below_set ?_ GE118.out | refine below_set ?_ GE120.out) | exact HB.out))⟩)
                    · skip
                      refine Kd.R_lit_step Kd.string _ 9 ?hg (N := 21) ?hd (xs := ([(rd_T30 l0 x9_1).f1] : List ByteArray)) (inner := [.string ((rd_T30 l0 x9_1).f1)]) (ok := fun _ => True) (okp := fun _ => True) ?hr ?hp (fun _ hk => hk) trivial (Below.refl _ _) (Nat.le_refl _) (by simp) ?_; (case hd => rfl); (case hg => rfl); (case hr => first | (go_simp; done) | (go_simp; rfl)); (case hp => exact (Reps.one (show Kd.M Kd.string _ _ _ ((rd_T30 l0 x9_1).f1) [.string ((rd_T30 l0 x9_1).f1)] from rfl) (Reps.none _ _)))
                      intro v128 w17 ho18 hb hg_ hnew_
                      clear hg_ hnew_
                      (first | rw [← Ny127.out] at ho18 | (simp only [Int.reduceToNat] at ho18; rw [← Ny127.out] at ho18))
                      have n0_ := Aside0.mk (Kd.R_elder' (by (with_reducible repeat (first | apply Kd.R_alloc | apply Kd.R_drewN | apply Kd.R_drew)); exact HO_3.out) (Kd.R_base ho18) hb)
                      have n1_ := Aside0.mk (Kd.R_elder' (by (with_reducible repeat (first | apply Kd.R_alloc | apply Kd.R_drewN | apply Kd.R_drew)); exact HO_4.out) (Kd.R_base ho18) hb)
                      have n2_ := Aside0.mk (Kd.R_elder' (by (with_reducible repeat (first | apply Kd.R_alloc | apply Kd.R_drewN | apply Kd.R_drew)); exact HO123.out) (Kd.R_base ho18) hb)
                      have n3_ := Aside0.mk (Kd.R_lower (Kd.R_new' (Kd.R_new' (Kd.R_new' ho18 (Kd.R_lt (by (with_reducible repeat (first | apply Kd.R_alloc | apply Kd.R_drewN | apply Kd.R_drew)); exact HO_3.out))) (Kd.R_lt (by (with_reducible repeat (first | apply Kd.R_alloc | apply Kd.R_drewN | apply Kd.R_drew)); exact HO_4.out))) (Kd.R_lt (by (with_reducible repeat (first | apply Kd.R_alloc | apply Kd.R_drewN | apply Kd.R_drew)); exact HO123.out))) (below_size (by repeat (first | (with_reducible first | exact HB.out | apply below_alloc | apply pw_below_drewN | apply below_drew1 | refine below_set ?_ GE118.out | refine below_set ?_ GE120.out) | exact HB.out))))
                      have n4_ := Aside0.mk (blk_below (g := gb118) (o := .cells #[.slice none 0 0, .slice none 0 0] 38 (0, 0)) (by (with_reducible repeat (first | refine blk_drewN ?_ _ | refine blk_drew ?_ | refine blk_alloc ?_ _)); exact BK118.out) hb)
                      have n5_ := Aside0.mk (blk_below (g := gb120) (o := .cells #[.string ((rd_T30 l0 x9_1).f0), .string ((rd_T30 l0 x9_1).f1)] 30 (0, 0)) (by (with_reducible repeat (first | refine blk_drewN ?_ _ | refine blk_drew ?_ | refine blk_alloc ?_ _)); exact BK120.out) hb)
                      have n6_ := Aside0.mk (below_step (by repeat (first | (with_reducible first | exact HB.out | apply below_alloc | apply pw_below_drewN | apply below_drew1 | refine below_set ?_ GE118.out | refine below_set ?_ GE120.out) | exact HB.out)) hb)
                      clear HO_3
                      clear HO_4
                      clear HO123
                      clear BK118
                      clear BK120
                      clear HB
                      have HO_3 := n0_
                      have HO_4 := n1_
                      have HO123 := n2_
                      have HO129 := n3_
                      have BK118 := n4_
                      have BK120 := n5_
                      have HB := n6_
                      clear n0_ n1_ n2_ n3_ n4_ n5_ n6_
                      clear hb ho18
                      obtain ⟨Ao20, co20, eo20⟩ := Kd.R_slice HO123.out
                      (first | subst eo20 | (injection eo20 with f1_ f2_ f3_; have f4_ := f1_.symm; have f5_ := f3_.symm; clear f1_ f2_ f3_; subst f4_; subst f5_))
                      refine hK.out _ _ ⟨(blk_cell BK120.out 0).trans rfl, (blk_cell BK120.out 1).trans rfl⟩ (fun hHeld => ?_)
                      clear hK K
                      refine norm_ (a' := ?_) ?_ ?_
                      rotate_left
                      · show Act.put _ (some 21) _ = _
                        simp only [Act.put, List.setIfInBounds_toArray, List.set_cons_zero, List.set_cons_succ, i64_w, i32_w]
                        rfl
                      refine one_ (i := 4) (N := some 17) #[true, true, true, true, true, true, true, true, true, false, false, false] rfl rfl (one_of HT_.out (by kernel_rfl)) (by decide) (fun K hK => ?_)
                      refine Kd.R_append_rows_step Kd.string (w0 := w) w.heap.size (by rfl) (.tmp 13) (.tmp 16) 36 9 (.string ⟨#[]⟩) 16 rfl Try.underlying36 info9 rfl (by decide) (by omega) (.slice Ao11 x3_1.length co11) x3_1 y121 _ _ _ (fun k_ => some k_ ≠ (.slice Ao12 x4_1.length co12 : Value).ownBlock ∧ some k_ ≠ (.slice Ao20 y121.length co20 : Value).ownBlock ∧ some k_ ≠ (v128 : Value).ownBlock) (fun _ => False) rfl rfl ?aO ?aR (fun _ _ h => h) (fun _ h => h.elim) ?aF ?aB ?aS ?aL ?_
                      (case aR => repeat (first | exact (Kd.R_reads' HO123.out).2.2 | (with_reducible refine Kd.C_alloc ?_ _) | (with_reducible refine Kd.C_drewN ?_ _) | (with_reducible refine Kd.C_drew ?_)))
                      (case aB => exact (by repeat (first | (with_reducible first | exact HB.out | apply below_alloc | apply pw_below_drewN | apply below_drew1 | refine below_set ?_ GE118.out | refine below_set ?_ GE120.out) | exact HB.out)))
                      (case aF => exact (fun k_ hk => ⟨Kd.fresh' (Kd.R_lt (by (with_reducible repeat (first | apply Kd.R_alloc | apply Kd.R_drewN | apply Kd.R_drew)); exact HO_4.out)) k_ hk, Kd.fresh' (Kd.R_lt (by (with_reducible repeat (first | apply Kd.R_alloc | apply Kd.R_drewN | apply Kd.R_drew)); exact HO123.out)) k_ hk, Kd.fresh' (Kd.R_lt (by (with_reducible repeat (first | apply Kd.R_alloc | apply Kd.R_drewN | apply Kd.R_drew)); exact HO129.out)) k_ hk⟩))
                      (case aO => exact (by (with_reducible repeat (first | apply Kd.R_alloc | apply Kd.R_drewN | apply Kd.R_drew)); exact Kd.R_mono HO_3.out (fun _ hk => ⟨hk.1.1, ⟨hk.1.2, hk.2⟩⟩)))
                      (case aS => exact (below_size (by repeat (first | (with_reducible first | exact HB.out | apply below_alloc | apply pw_below_drewN | apply below_drew1 | refine below_set ?_ GE118.out | refine below_set ?_ GE120.out) | exact HB.out))))
                      (case aL => have := LMc6.out; omega)
                      intro v125 w19 ho hb hg hat
                      rw [← Ny124.out] at ho
                      have n0_ := Aside0.mk (Kd.R_after (ok := (fun k_ => some k_ ≠ (.slice Ao20 y121.length co20 : Value).ownBlock ∧ some k_ ≠ (v128 : Value).ownBlock)) (by (with_reducible repeat (first | apply Kd.R_alloc | apply Kd.R_drewN | apply Kd.R_drew)); exact Kd.R_mono HO_4.out (fun _ hk => ⟨⟨hk.1.2, hk.2⟩, hk.1.1⟩)) hg hat)
                      have n1_ := Aside0.mk (blk_grown (g := gb118) (o := .cells #[.slice none 0 0, .slice none 0 0] 38 (0, 0)) (by (with_reducible repeat (first | refine blk_drewN ?_ _ | refine blk_drew ?_ | refine blk_alloc ?_ _)); exact BK118.out) hg (Kd.R_ne HO_3.out BK118.out (by decide)))
                      have n2_ := Aside0.mk (blk_grown (g := gb120) (o := .cells #[.string ((rd_T30 l0 x9_1).f0), .string ((rd_T30 l0 x9_1).f1)] 30 (0, 0)) (by (with_reducible repeat (first | refine blk_drewN ?_ _ | refine blk_drew ?_ | refine blk_alloc ?_ _)); exact BK120.out) hg (Kd.R_ne HO_3.out BK120.out (by decide)))
                      have n3_ := Aside0.mk (Kd.R_after (ok := (fun k_ => some k_ ≠ (.slice Ao12 x4_1.length co12 : Value).ownBlock ∧ some k_ ≠ (v128 : Value).ownBlock)) (by (with_reducible repeat (first | apply Kd.R_alloc | apply Kd.R_drewN | apply Kd.R_drew)); exact Kd.R_mono HO123.out (fun _ hk => ⟨⟨hk.1.2, hk.2⟩, hk.1.1.2⟩)) hg hat)
                      have n4_ := Aside0.mk (Kd.R_after (ok := (fun k_ => some k_ ≠ (.slice Ao12 x4_1.length co12 : Value).ownBlock ∧ some k_ ≠ (.slice Ao20 y121.length co20 : Value).ownBlock)) (by (with_reducible repeat (first | apply Kd.R_alloc | apply Kd.R_drewN | apply Kd.R_drew)); exact Kd.R_mono HO129.out (fun _ hk => ⟨⟨hk.1.2, hk.2⟩, hk.1.1.2⟩)) hg hat)
                      have n5_ := Aside0.mk (hb)
                      have n6_ := Aside0.mk (ho)
                      clear HO_4
                      clear BK118
                      clear BK120
                      clear HO123
                      clear HO129
                      clear HB
                      clear HO_3
                      have HO_4 := n0_
                      have BK118 := n1_
                      have BK120 := n2_
                      have HO123 := n3_
                      have HO129 := n4_
                      have HB := n5_
                      have HO126 := n6_
                      clear n0_ n1_ n2_ n3_ n4_ n5_ n6_
                      clear ho hb hg hat
                      refine hK.out _ _ ⟨(blk_cell BK120.out 0).trans rfl, (blk_cell BK120.out 1).trans rfl⟩ (fun hHeld => ?_)
                      clear hK K
                      refine norm_ (a' := ?_) ?_ ?_
                      rotate_left
                      · show Act.put _ (some 17) _ = _
                        simp only [Act.put, List.setIfInBounds_toArray, List.set_cons_zero, List.set_cons_succ, i64_w, i32_w]
                        rfl
                      exact norm_ (by simp only [putAll, Act.put, List.setIfInBounds_toArray, List.set_cons_zero, List.set_cons_succ]) (hCont (.slice Ao20 y121.length co20, v125, v128) _ ⟨hHeld, (by (with_reducible repeat (first | apply Kd.R_alloc | apply Kd.R_drewN | apply Kd.R_drew)); exact Kd.R_mono HO123.out (fun _ hk => ⟨hk.2, ⟨hk.1.2, hk.1.1⟩⟩)), (by (with_reducible repeat (first | apply Kd.R_alloc | apply Kd.R_drewN | apply Kd.R_drew)); exact Kd.R_mono HO126.out (fun _ hk => ⟨hk.2.1, ⟨hk.2.2, hk.1⟩⟩)), (by (with_reducible repeat (first | apply Kd.R_alloc | apply Kd.R_drewN | apply Kd.R_drew)); exact Kd.R_mono HO129.out (fun _ hk => ⟨hk.1.2, ⟨hk.2, hk.1.1⟩⟩)), (by (with_reducible repeat (first | apply Kd.R_alloc | apply Kd.R_drewN | apply Kd.R_drew)); exact Kd.R_mono HO_4.out (fun _ hk => ⟨hk.1.1, ⟨hk.2, hk.1.2⟩⟩)), (by (with_reducible repeat (first | refine blk_drewN ?_ _ | refine blk_drew ?_ | refine blk_alloc ?_ _)); exact BK118.out), (by (with_reducible repeat (first | refine blk_drewN ?_ _ | refine blk_drew ?_ | refine blk_alloc ?_ _)); exact BK120.out), (by repeat (first | (with_reducible first | exact HB.out | apply below_alloc | apply pw_below_drewN | apply below_drew1 | refine below_set ?_ GE118.out | refine below_set ?_ GE120.out) | exact HB.out))⟩)
                  · skip
                    refine Kd.R_lit_step Kd.string _ 9 ?hg (N := 21) ?hd (xs := ([(rd_T30 l0 x9_1).f1] : List ByteArray)) (inner := [.string ((rd_T30 l0 x9_1).f1)]) (ok := fun _ => True) (okp := fun _ => True) ?hr ?hp (fun _ hk => hk) trivial (Below.refl _ _) (Nat.le_refl _) (by simp) ?_; (case hd => rfl); (case hg => rfl); (case hr => first | (go_simp; done) | (go_simp; rfl)); (case hp => exact (Reps.one (show Kd.M Kd.string _ _ _ ((rd_T30 l0 x9_1).f1) [.string ((rd_T30 l0 x9_1).f1)] from rfl) (Reps.none _ _)))
                    intro v128 w15 ho16 hb hg_ hnew_
                    clear hg_ hnew_
                    (first | rw [← Ny127.out] at ho16 | (simp only [Int.reduceToNat] at ho16; rw [← Ny127.out] at ho16))
                    have n0_ := Aside0.mk (Kd.R_elder' (by (with_reducible repeat (first | apply Kd.R_alloc | apply Kd.R_drewN | apply Kd.R_drew)); exact HO_3.out) (Kd.R_base ho16) hb)
                    have n1_ := Aside0.mk (Kd.R_elder' (by (with_reducible repeat (first | apply Kd.R_alloc | apply Kd.R_drewN | apply Kd.R_drew)); exact HO_4.out) (Kd.R_base ho16) hb)
                    have n2_ := Aside0.mk (Kd.R_lower (Kd.R_new' (Kd.R_new' ho16 (Kd.R_lt (by (with_reducible repeat (first | apply Kd.R_alloc | apply Kd.R_drewN | apply Kd.R_drew)); exact HO_3.out))) (Kd.R_lt (by (with_reducible repeat (first | apply Kd.R_alloc | apply Kd.R_drewN | apply Kd.R_drew)); exact HO_4.out))) (below_size (by repeat (first | (with_reducible first | exact HB.out | apply below_alloc | apply pw_below_drewN | apply below_drew1 | refine below_set ?_ GE118.out | refine below_set ?_ GE120.out) | exact HB.out))))
                    have n3_ := Aside0.mk (blk_below (g := gb118) (o := .cells #[.slice none 0 0, .slice none 0 0] 38 (0, 0)) (by (with_reducible repeat (first | refine blk_drewN ?_ _ | refine blk_drew ?_ | refine blk_alloc ?_ _)); exact BK118.out) hb)
                    have n4_ := Aside0.mk (blk_below (g := gb120) (o := .cells #[.string ((rd_T30 l0 x9_1).f0), .string ((rd_T30 l0 x9_1).f1)] 30 (0, 0)) (by (with_reducible repeat (first | refine blk_drewN ?_ _ | refine blk_drew ?_ | refine blk_alloc ?_ _)); exact BK120.out) hb)
                    have n5_ := Aside0.mk (below_step (by repeat (first | (with_reducible first | exact HB.out | apply below_alloc | apply pw_below_drewN | apply below_drew1 | refine below_set ?_ GE118.out | refine below_set ?_ GE120.out) | exact HB.out)) hb)
                    clear HO_3
                    clear HO_4
                    clear BK118
                    clear BK120
                    clear HB
                    have HO_3 := n0_
                    have HO_4 := n1_
                    have HO129 := n2_
                    have BK118 := n3_
                    have BK120 := n4_
                    have HB := n5_
                    clear n0_ n1_ n2_ n3_ n4_ n5_
                    clear hb ho16
                    refine hK.out _ _ ⟨(blk_cell BK120.out 0).trans rfl, (blk_cell BK120.out 1).trans rfl⟩ (fun hHeld => ?_)
                    clear hK K
                    refine norm_ (a' := ?_) ?_ ?_
                    rotate_left
                    · show Act.put _ (some 21) _ = _
                      simp only [Act.put, List.setIfInBounds_toArray, List.set_cons_zero, List.set_cons_succ, i64_w, i32_w]
                      rfl
                    refine one_ (i := 3) (N := some 16) #[true, true, true, true, false, true, true, true, true, false, false, false] rfl rfl (one_of HT_.out (by kernel_rfl)) (by decide) (fun K hK => ?_)
                    refine Kd.R_lit_step Kd.string _ 9 ?hg (N := 16) ?hd (xs := ([(rd_T30 l0 x9_1).f0] : List ByteArray)) (inner := [.string ((rd_T30 l0 x9_1).f0)]) (ok := fun _ => True) (okp := fun _ => True) ?hr ?hp (fun _ hk => hk) trivial (Below.refl _ _) (Nat.le_refl _) (by simp) ?_; (case hd => rfl); (case hg => rfl); (case hr => first | (go_simp; done) | (go_simp; rfl)); (case hp => exact (Reps.one (show Kd.M Kd.string _ _ _ ((rd_T30 l0 x9_1).f0) [.string ((rd_T30 l0 x9_1).f0)] from rfl) (Reps.none _ _)))
                    intro v122 w17 ho18 hb hg_ hnew_
                    clear hg_ hnew_
                    (first | rw [← Ny121.out] at ho18 | (simp only [Int.reduceToNat] at ho18; rw [← Ny121.out] at ho18))
                    have n0_ := Aside0.mk (Kd.R_elder' (by (with_reducible repeat (first | apply Kd.R_alloc | apply Kd.R_drewN | apply Kd.R_drew)); exact HO_3.out) (Kd.R_base ho18) hb)
                    have n1_ := Aside0.mk (Kd.R_elder' (by (with_reducible repeat (first | apply Kd.R_alloc | apply Kd.R_drewN | apply Kd.R_drew)); exact HO_4.out) (Kd.R_base ho18) hb)
                    have n2_ := Aside0.mk (Kd.R_elder' (by (with_reducible repeat (first | apply Kd.R_alloc | apply Kd.R_drewN | apply Kd.R_drew)); exact HO129.out) (Kd.R_base ho18) hb)
                    have n3_ := Aside0.mk (Kd.R_lower (Kd.R_new' (Kd.R_new' (Kd.R_new' ho18 (Kd.R_lt (by (with_reducible repeat (first | apply Kd.R_alloc | apply Kd.R_drewN | apply Kd.R_drew)); exact HO_3.out))) (Kd.R_lt (by (with_reducible repeat (first | apply Kd.R_alloc | apply Kd.R_drewN | apply Kd.R_drew)); exact HO_4.out))) (Kd.R_lt (by (with_reducible repeat (first | apply Kd.R_alloc | apply Kd.R_drewN | apply Kd.R_drew)); exact HO129.out))) (below_size (by repeat (first | (with_reducible first | exact HB.out | apply below_alloc | apply pw_below_drewN | apply below_drew1 | refine below_set ?_ GE118.out | refine below_set ?_ GE120.out) | exact HB.out))))
                    have n4_ := Aside0.mk (blk_below (g := gb118) (o := .cells #[.slice none 0 0, .slice none 0 0] 38 (0, 0)) (by (with_reducible repeat (first | refine blk_drewN ?_ _ | refine blk_drew ?_ | refine blk_alloc ?_ _)); exact BK118.out) hb)
                    have n5_ := Aside0.mk (blk_below (g := gb120) (o := .cells #[.string ((rd_T30 l0 x9_1).f0), .string ((rd_T30 l0 x9_1).f1)] 30 (0, 0)) (by (with_reducible repeat (first | refine blk_drewN ?_ _ | refine blk_drew ?_ | refine blk_alloc ?_ _)); exact BK120.out) hb)
                    have n6_ := Aside0.mk (below_step (by repeat (first | (with_reducible first | exact HB.out | apply below_alloc | apply pw_below_drewN | apply below_drew1 | refine below_set ?_ GE118.out | refine below_set ?_ GE120.out) | exact HB.out)) hb)
                    clear HO_3
                    clear HO_4
                    clear HO129
                    clear BK118
                    clear BK120
                    clear HB
                    have HO_3 := n0_
                    have HO_4 := n1_
                    have HO129 := n2_
                    have HO123 := n3_
                    have BK118 := n4_
                    have BK120 := n5_
                    have HB := n6_
                    clear n0_ n1_ n2_ n3_ n4_ n5_ n6_
                    clear hb ho18
                    obtain ⟨Ao20, co20, eo20⟩ := Kd.R_slice HO123.out
                    (first | subst eo20 | (injection eo20 with f1_ f2_ f3_; have f4_ := f1_.symm; have f5_ := f3_.symm; clear f1_ f2_ f3_; subst f4_; subst f5_))
                    refine hK.out _ _ ⟨(blk_cell BK120.out 0).trans rfl, (blk_cell BK120.out 1).trans rfl⟩ (fun hHeld => ?_)
                    clear hK K
                    refine norm_ (a' := ?_) ?_ ?_
                    rotate_left
                    · show Act.put _ (some 16) _ = _
                      simp only [Act.put, List.setIfInBounds_toArray, List.set_cons_zero, List.set_cons_succ, i64_w, i32_w]
                      rfl
                    refine one_ (i := 4) (N := some 17) #[true, true, true, true, true, true, true, true, true, false, false, false] rfl rfl (one_of HT_.out (by kernel_rfl)) (by decide) (fun K hK => ?_)
                    refine Kd.R_append_rows_step Kd.string (w0 := w) w.heap.size (by rfl) (.tmp 13) (.tmp 16) 36 9 (.string ⟨#[]⟩) 16 rfl Try.underlying36 info9 rfl (by decide) (by omega) (.slice Ao11 x3_1.length co11) x3_1 y121 _ _ _ (fun k_ => some k_ ≠ (.slice Ao12 x4_1.length co12 : Value).ownBlock ∧ some k_ ≠ (v128 : Value).ownBlock ∧ some k_ ≠ (.slice Ao20 y121.length co20 : Value).ownBlock) (fun _ => False) rfl rfl ?aO ?aR (fun _ _ h => h) (fun _ h => h.elim) ?aF ?aB ?aS ?aL ?_
                    (case aR => repeat (first | exact (Kd.R_reads' HO123.out).2.2 | (with_reducible refine Kd.C_alloc ?_ _) | (with_reducible refine Kd.C_drewN ?_ _) | (with_reducible refine Kd.C_drew ?_)))
                    (case aB => exact (by repeat (first | (with_reducible first | exact HB.out | apply below_alloc | apply pw_below_drewN | apply below_drew1 | refine below_set ?_ GE118.out | refine below_set ?_ GE120.out) | exact HB.out)))
                    (case aF => exact (fun k_ hk => ⟨Kd.fresh' (Kd.R_lt (by (with_reducible repeat (first | apply Kd.R_alloc | apply Kd.R_drewN | apply Kd.R_drew)); exact HO_4.out)) k_ hk, Kd.fresh' (Kd.R_lt (by (with_reducible repeat (first | apply Kd.R_alloc | apply Kd.R_drewN | apply Kd.R_drew)); exact HO129.out)) k_ hk, Kd.fresh' (Kd.R_lt (by (with_reducible repeat (first | apply Kd.R_alloc | apply Kd.R_drewN | apply Kd.R_drew)); exact HO123.out)) k_ hk⟩))
                    (case aO => exact (by (with_reducible repeat (first | apply Kd.R_alloc | apply Kd.R_drewN | apply Kd.R_drew)); exact Kd.R_mono HO_3.out (fun _ hk => ⟨hk.1.1, ⟨hk.1.2, hk.2⟩⟩)))
                    (case aS => exact (below_size (by repeat (first | (with_reducible first | exact HB.out | apply below_alloc | apply pw_below_drewN | apply below_drew1 | refine below_set ?_ GE118.out | refine below_set ?_ GE120.out) | exact HB.out))))
                    (case aL => have := LMc6.out; omega)
                    intro v125 w19 ho hb hg hat
                    rw [← Ny124.out] at ho
                    have n0_ := Aside0.mk (Kd.R_after (ok := (fun k_ => some k_ ≠ (v128 : Value).ownBlock ∧ some k_ ≠ (.slice Ao20 y121.length co20 : Value).ownBlock)) (by (with_reducible repeat (first | apply Kd.R_alloc | apply Kd.R_drewN | apply Kd.R_drew)); exact Kd.R_mono HO_4.out (fun _ hk => ⟨⟨hk.1.2, hk.2⟩, hk.1.1⟩)) hg hat)
                    have n1_ := Aside0.mk (blk_grown (g := gb118) (o := .cells #[.slice none 0 0, .slice none 0 0] 38 (0, 0)) (by (with_reducible repeat (first | refine blk_drewN ?_ _ | refine blk_drew ?_ | refine blk_alloc ?_ _)); exact BK118.out) hg (Kd.R_ne HO_3.out BK118.out (by decide)))
                    have n2_ := Aside0.mk (blk_grown (g := gb120) (o := .cells #[.string ((rd_T30 l0 x9_1).f0), .string ((rd_T30 l0 x9_1).f1)] 30 (0, 0)) (by (with_reducible repeat (first | refine blk_drewN ?_ _ | refine blk_drew ?_ | refine blk_alloc ?_ _)); exact BK120.out) hg (Kd.R_ne HO_3.out BK120.out (by decide)))
                    have n3_ := Aside0.mk (Kd.R_after (ok := (fun k_ => some k_ ≠ (.slice Ao12 x4_1.length co12 : Value).ownBlock ∧ some k_ ≠ (.slice Ao20 y121.length co20 : Value).ownBlock)) (by (with_reducible repeat (first | apply Kd.R_alloc | apply Kd.R_drewN | apply Kd.R_drew)); exact Kd.R_mono HO129.out (fun _ hk => ⟨⟨hk.1.2, hk.2⟩, hk.1.1.2⟩)) hg hat)
                    have n4_ := Aside0.mk (Kd.R_after (ok := (fun k_ => some k_ ≠ (.slice Ao12 x4_1.length co12 : Value).ownBlock ∧ some k_ ≠ (v128 : Value).ownBlock)) (by (with_reducible repeat (first | apply Kd.R_alloc | apply Kd.R_drewN | apply Kd.R_drew)); exact Kd.R_mono HO123.out (fun _ hk => ⟨⟨hk.1.2, hk.2⟩, hk.1.1.2⟩)) hg hat)
                    have n5_ := Aside0.mk (hb)
                    have n6_ := Aside0.mk (ho)
                    clear HO_4
                    clear BK118
                    clear BK120
                    clear HO129
                    clear HO123
                    clear HB
                    clear HO_3
                    have HO_4 := n0_
                    have BK118 := n1_
                    have BK120 := n2_
                    have HO129 := n3_
                    have HO123 := n4_
                    have HB := n5_
                    have HO126 := n6_
                    clear n0_ n1_ n2_ n3_ n4_ n5_ n6_
                    clear ho hb hg hat
                    refine hK.out _ _ ⟨(blk_cell BK120.out 0).trans rfl, (blk_cell BK120.out 1).trans rfl⟩ (fun hHeld => ?_)
                    clear hK K
                    refine norm_ (a' := ?_) ?_ ?_
                    rotate_left
                    · show Act.put _ (some 17) _ = _
                      simp only [Act.put, List.setIfInBounds_toArray, List.set_cons_zero, List.set_cons_succ, i64_w, i32_w]
                      rfl
                    exact norm_ (by simp only [putAll, Act.put, List.setIfInBounds_toArray, List.set_cons_zero, List.set_cons_succ]) (hCont (.slice Ao20 y121.length co20, v125, v128) _ ⟨hHeld, (by (with_reducible repeat (first | apply Kd.R_alloc | apply Kd.R_drewN | apply Kd.R_drew)); exact Kd.R_mono HO123.out (fun _ hk => ⟨hk.2, ⟨hk.1.2, hk.1.1⟩⟩)), (by (with_reducible repeat (first | apply Kd.R_alloc | apply Kd.R_drewN | apply Kd.R_drew)); exact Kd.R_mono HO126.out (fun _ hk => ⟨hk.2.2, ⟨hk.2.1, hk.1⟩⟩)), (by (with_reducible repeat (first | apply Kd.R_alloc | apply Kd.R_drewN | apply Kd.R_drew)); exact Kd.R_mono HO129.out (fun _ hk => ⟨hk.1.2, ⟨hk.2, hk.1.1⟩⟩)), (by (with_reducible repeat (first | apply Kd.R_alloc | apply Kd.R_drewN | apply Kd.R_drew)); exact Kd.R_mono HO_4.out (fun _ hk => ⟨hk.1.2, ⟨hk.2, hk.1.1⟩⟩)), (by (with_reducible repeat (first | refine blk_drewN ?_ _ | refine blk_drew ?_ | refine blk_alloc ?_ _)); exact BK118.out), (by (with_reducible repeat (first | refine blk_drewN ?_ _ | refine blk_drew ?_ | refine blk_alloc ?_ _)); exact BK120.out), (by repeat (first | (with_reducible first | exact HB.out | apply below_alloc | apply pw_below_drewN | apply below_drew1 | refine below_set ?_ GE118.out | refine below_set ?_ GE120.out) | exact HB.out))⟩)
                rintro ⟨v122, v125, v128⟩ w21 ⟨hS_, h0_, h1_, h2_, h3_, h4_, h5_, h6_⟩
                have n0_ : Aside0 (Kd.R Kd.string 9 w21 w.heap.size (fun k_ => some k_ ≠ (v125 : Value).ownBlock ∧ some k_ ≠ (v128 : Value).ownBlock ∧ some k_ ≠ (.slice Ao12 x4_1.length co12 : Value).ownBlock) v122 y121) := ⟨h0_⟩
                have n1_ : Aside0 (Kd.R Kd.string 9 w21 w.heap.size (fun k_ => some k_ ≠ (v122 : Value).ownBlock ∧ some k_ ≠ (v128 : Value).ownBlock ∧ some k_ ≠ (.slice Ao12 x4_1.length co12 : Value).ownBlock) v125 y124) := ⟨h1_⟩
                have n2_ : Aside0 (Kd.R Kd.string 9 w21 w.heap.size (fun k_ => some k_ ≠ (v122 : Value).ownBlock ∧ some k_ ≠ (v125 : Value).ownBlock ∧ some k_ ≠ (.slice Ao12 x4_1.length co12 : Value).ownBlock) v128 y127) := ⟨h2_⟩
                have n3_ : Aside0 (Kd.R Kd.string 9 w21 w.heap.size (fun k_ => some k_ ≠ (v122 : Value).ownBlock ∧ some k_ ≠ (v125 : Value).ownBlock ∧ some k_ ≠ (v128 : Value).ownBlock) (.slice Ao12 x4_1.length co12) x4_1) := ⟨h3_⟩
                have n4_ : Aside0 (w21.heap[gb118]? = some (.cells #[.slice none 0 0, .slice none 0 0] 38 (0, 0))) := ⟨h4_⟩
                have n5_ : Aside0 (w21.heap[gb120]? = some (.cells #[.string ((rd_T30 l0 x9_1).f0), .string ((rd_T30 l0 x9_1).f1)] 30 (0, 0))) := ⟨h5_⟩
                have n6_ : Aside0 (Below w.heap.size w w21) := ⟨h6_⟩
                clear HO_3
                clear HO_4
                clear BK118
                clear BK120
                clear HB
                clear h0_ h1_ h2_ h3_ h4_ h5_ h6_
                have HO123 := n0_
                have HO126 := n1_
                have HO129 := n2_
                have HO_4 := n3_
                have BK118 := n4_
                have BK120 := n5_
                have HB := n6_
                clear n0_ n1_ n2_ n3_ n4_ n5_ n6_
                have hHeld : w21.cell? ⟨gb120, 0, none⟩ = some (.string ((rd_T30 l0 x9_1).f0)) ∧ w21.cell? ⟨gb120, 1, none⟩ = some (.string ((rd_T30 l0 x9_1).f1)) := hS_
                obtain ⟨Ao23, co23, eo23⟩ := Kd.R_slice HO129.out
                (first | subst eo23 | (injection eo23 with f1_ f2_ f3_; have f4_ := f1_.symm; have f5_ := f3_.symm; clear f1_ f2_ f3_; subst f4_; subst f5_))
                refine norm_ (a' := ?_) ?_ ?_
                rotate_left
                · simp only [putAll, Act.put, List.setIfInBounds_toArray, List.set_cons_zero, List.set_cons_succ]
                  rfl
                refine one_ (i := 9) (N := some 22) #[true, true, true, true, true, true, true, true, true, true, false, false] rfl rfl (one_of HT_.out (by kernel_rfl)) (by decide) (fun K hK => ?_)
                refine Kd.R_append_rows_step Kd.string (w0 := w) w.heap.size (by rfl) (.tmp 18) (.tmp 21) 36 9 (.string ⟨#[]⟩) 16 rfl Try.underlying36 info9 rfl (by decide) (by omega) (.slice Ao12 x4_1.length co12) x4_1 y127 _ _ _ (fun k_ => some k_ ≠ (v122 : Value).ownBlock ∧ some k_ ≠ (v125 : Value).ownBlock ∧ some k_ ≠ (.slice Ao23 y127.length co23 : Value).ownBlock) (fun _ => False) rfl rfl ?aO ?aR (fun _ _ h => h) (fun _ h => h.elim) ?aF ?aB ?aS ?aL ?_
                (case aR => repeat (first | exact (Kd.R_reads' HO129.out).2.2 | (with_reducible refine Kd.C_alloc ?_ _) | (with_reducible refine Kd.C_drewN ?_ _) | (with_reducible refine Kd.C_drew ?_)))
                (case aB => exact (by repeat (first | (with_reducible first | exact HB.out | apply below_alloc | apply pw_below_drewN | apply below_drew1 | refine below_set ?_ GE118.out | refine below_set ?_ GE120.out) | exact HB.out)))
                (case aF => exact (fun k_ hk => ⟨Kd.fresh' (Kd.R_lt (by (with_reducible repeat (first | apply Kd.R_alloc | apply Kd.R_drewN | apply Kd.R_drew)); exact HO123.out)) k_ hk, Kd.fresh' (Kd.R_lt (by (with_reducible repeat (first | apply Kd.R_alloc | apply Kd.R_drewN | apply Kd.R_drew)); exact HO126.out)) k_ hk, Kd.fresh' (Kd.R_lt (by (with_reducible repeat (first | apply Kd.R_alloc | apply Kd.R_drewN | apply Kd.R_drew)); exact HO129.out)) k_ hk⟩))
                (case aO => exact (by (with_reducible repeat (first | apply Kd.R_alloc | apply Kd.R_drewN | apply Kd.R_drew)); exact HO_4.out))
                (case aS => exact (below_size (by repeat (first | (with_reducible first | exact HB.out | apply below_alloc | apply pw_below_drewN | apply below_drew1 | refine below_set ?_ GE118.out | refine below_set ?_ GE120.out) | exact HB.out))))
                (case aL => have := LMc7.out; omega)
                intro v131 w22 ho hb hg hat
                rw [← Ny130.out] at ho
                have n0_ := Aside0.mk (blk_grown (g := gb118) (o := .cells #[.slice none 0 0, .slice none 0 0] 38 (0, 0)) (by (with_reducible repeat (first | refine blk_drewN ?_ _ | refine blk_drew ?_ | refine blk_alloc ?_ _)); exact BK118.out) hg (Kd.R_ne HO_4.out BK118.out (by decide)))
                have n1_ := Aside0.mk (blk_grown (g := gb120) (o := .cells #[.string ((rd_T30 l0 x9_1).f0), .string ((rd_T30 l0 x9_1).f1)] 30 (0, 0)) (by (with_reducible repeat (first | refine blk_drewN ?_ _ | refine blk_drew ?_ | refine blk_alloc ?_ _)); exact BK120.out) hg (Kd.R_ne HO_4.out BK120.out (by decide)))
                have n2_ := Aside0.mk (Kd.R_after (ok := (fun k_ => some k_ ≠ (v125 : Value).ownBlock ∧ some k_ ≠ (.slice Ao23 y127.length co23 : Value).ownBlock)) (by (with_reducible repeat (first | apply Kd.R_alloc | apply Kd.R_drewN | apply Kd.R_drew)); exact Kd.R_mono HO123.out (fun _ hk => ⟨⟨hk.1, hk.2.1⟩, hk.2.2⟩)) hg hat)
                have n3_ := Aside0.mk (Kd.R_after (ok := (fun k_ => some k_ ≠ (v122 : Value).ownBlock ∧ some k_ ≠ (.slice Ao23 y127.length co23 : Value).ownBlock)) (by (with_reducible repeat (first | apply Kd.R_alloc | apply Kd.R_drewN | apply Kd.R_drew)); exact Kd.R_mono HO126.out (fun _ hk => ⟨⟨hk.1, hk.2.1⟩, hk.2.2⟩)) hg hat)
                have n4_ := Aside0.mk (Kd.R_after (ok := (fun k_ => some k_ ≠ (v122 : Value).ownBlock ∧ some k_ ≠ (v125 : Value).ownBlock)) (by (with_reducible repeat (first | apply Kd.R_alloc | apply Kd.R_drewN | apply Kd.R_drew)); exact Kd.R_mono HO129.out (fun _ hk => ⟨⟨hk.1, hk.2.1⟩, hk.2.2⟩)) hg hat)
                have n5_ := Aside0.mk (hb)
                have n6_ := Aside0.mk (ho)
                clear BK118
                clear BK120
                clear HO123
                clear HO126
                clear HO129
                clear HB
                clear HO_4
                have BK118 := n0_
                have BK120 := n1_
                have HO123 := n2_
                have HO126 := n3_
                have HO129 := n4_
                have HB := n5_
                have HO132 := n6_
                clear n0_ n1_ n2_ n3_ n4_ n5_ n6_
                clear ho hb hg hat
                refine hK.out _ _ ⟨(blk_cell BK120.out 0).trans rfl, (blk_cell BK120.out 1).trans rfl⟩ (fun hHeld => ?_)
                clear hK K
                refine norm_ (a' := ?_) ?_ ?_
                rotate_left
                · show Act.put _ (some 22) _ = _
                  simp only [Act.put, List.setIfInBounds_toArray, List.set_cons_zero, List.set_cons_succ, i64_w, i32_w]
                  rfl
                refine pure_ (i := 10) (N := some 3) (v := ?_) (a' := ?_) #[true, true, true, true, true, true, true, true, true, true, true, false] rfl rfl (any_of HT_.out (by kernel_rfl)) (fun _ _ _ h => h) (Or.inl ⟨by rfl, ?_⟩) ?_ ?_
                rotate_left
                · intro w'
                  go_simp
                  with_reducible rfl
                rotate_left
                · simp only [Act.put, List.setIfInBounds_toArray, List.set_cons_zero, List.set_cons_succ, i64_w, i32_w]
                  rfl
                refine pure_ (i := 11) (N := some 4) (v := ?_) (a' := ?_) #[true, true, true, true, true, true, true, true, true, true, true, true] rfl rfl (any_of HT_.out (by kernel_rfl)) (fun _ _ _ h => h) (Or.inl ⟨by rfl, ?_⟩) ?_ ?_
                rotate_left
                · intro w'
                  go_simp
                  with_reducible rfl
                rotate_left
                · simp only [Act.put, List.setIfInBounds_toArray, List.set_cons_zero, List.set_cons_succ, i64_w, i32_w]
                  rfl
                refine done_ (done_of HT_.out (by kernel_rfl)) ?_
                try go_wp2
                go_roundg k1
                case measure => have := HK1.out; omega
                case rel => exact ⟨(y124), (y130), (wrap64 (x9_1 + 1)), (by first | rfl | (simp; done) | (simp [*]; done)), H', ⟨by have := HK1.out; omega⟩, ⟨by (with_reducible repeat (first | apply Kd.R_alloc | apply Kd.R_drewN | apply Kd.R_drew)); exact Kd.R_mono HO126.out (fun _ hk => hk.2)⟩, ⟨by (with_reducible repeat (first | apply Kd.R_alloc | apply Kd.R_drewN | apply Kd.R_drew)); exact Kd.R_mono HO132.out (fun _ hk => hk.2.1)⟩, ⟨by (with_reducible repeat (first | refine blk_drewN ?_ _ | refine blk_drew ?_ | refine blk_alloc ?_ _)); exact BK118.out⟩, ⟨by repeat (first | (with_reducible first | exact HB.out | apply below_alloc | apply pw_below_drewN | apply below_drew1 | refine below_set ?_ GE118.out | refine below_set ?_ GE120.out) | exact HB.out)⟩⟩
              · rw [if_neg c7] at H
                exact absurd H (by simp)
            · rw [if_neg c6] at H
              exact absurd H (by simp)
          · rw [if_neg c5] at H
            exact absurd H (by simp)
        · rw [if_neg c4] at H
          exact absurd H (by simp)
      · rw [if_neg c3] at H
        have c3b0 : decide (x9_1 < (l0.length : Int)) = false := decide_eq_false c3
        clear c3
        replace H := Option.bind_eq_some_iff.mp H
        obtain ⟨⟨t133, t136⟩, A240, H⟩ := H
        replace H : (some (t133, t136)) = some (r1, r2) := H
        have A24 := Aside0.mk A240
        clear A240
        simp only [Option.some.injEq, Prod.mk.injEq] at H
        obtain ⟨rfl, rfl⟩ := H
        obtain ⟨Ao25, co25, eo25⟩ := Kd.R_slice HO_3.out
        subst eo25
        obtain ⟨Ao26, co26, eo26⟩ := Kd.R_slice HO_4.out
        subst eo26
        go_wp2_with (first | ((with_reducible refine gate_callee (f := 23) rfl ?_); refine goesL_ (some 26) rfl rfl Try.func23 (by kernel_rfl) rfl #[.slice Ao25 x3_1.length co25, .slice Ao26 x4_1.length co26] rfl (by (try simp only [List.map_toArray, List.map_cons, List.map_nil]); first | done | rfl | (simp only [List.length_drop, List.length_take]; rfl)) ?_; (with_reducible refine (arrow_NewMetadata.calls _ _ x3_1 _ _ x4_1 t133 t136 _ ?side1 ?side2 ?side3 ?side4 A24.out).mono ?_); (case side1 => repeat (first | exact (Kd.R_reads' HO_3.out).2.2 | (with_reducible refine Kd.C_alloc ?_ _) | (with_reducible refine Kd.C_drewN ?_ _) | (with_reducible refine Kd.C_drew ?_))); (case side2 => exact (Kd.R_reads' HO_3.out).2.1); (case side3 => repeat (first | exact (Kd.R_reads' HO_4.out).2.2 | (with_reducible refine Kd.C_alloc ?_ _) | (with_reducible refine Kd.C_drewN ?_ _) | (with_reducible refine Kd.C_drew ?_))); (case side4 => exact (Kd.R_reads' HO_4.out).2.1); rintro e w27 ⟨v134, v137, rfl, ho0, ho1, hb⟩; refine ⟨_, rfl, ?_⟩; have n0_ := Aside0.mk (Kd.R_mono (Kd.R_told (Kd.R_told (Kd.R_old (by (with_reducible repeat (first | apply Kd.R_alloc | apply Kd.R_drewN | apply Kd.R_drew)); exact HO_3.out) hb) (Kd.R_base ho0)) (Kd.R_base ho1)) (fun _ h_ => h_.1)); have n1_ := Aside0.mk (Kd.R_mono (Kd.R_told (Kd.R_told (Kd.R_old (by (with_reducible repeat (first | apply Kd.R_alloc | apply Kd.R_drewN | apply Kd.R_drew)); exact HO_4.out) hb) (Kd.R_base ho0)) (Kd.R_base ho1)) (fun _ h_ => h_.1)); have n2_ := Aside0.mk (Kd.R_lower (Kd.R_new' (Kd.R_new' ho0 (Kd.R_lt (by (with_reducible repeat (first | apply Kd.R_alloc | apply Kd.R_drewN | apply Kd.R_drew)); exact HO_3.out))) (Kd.R_lt (by (with_reducible repeat (first | apply Kd.R_alloc | apply Kd.R_drewN | apply Kd.R_drew)); exact HO_4.out))) (below_size (by repeat (first | (with_reducible first | exact HB.out | apply below_alloc | apply pw_below_drewN | apply below_drew1 | refine below_set ?_ GE118.out) | exact HB.out)))); have n3_ := Aside0.mk (Kd.R_lower (Kd.R_new' (Kd.R_new' ho1 (Kd.R_lt (by (with_reducible repeat (first | apply Kd.R_alloc | apply Kd.R_drewN | apply Kd.R_drew)); exact HO_3.out))) (Kd.R_lt (by (with_reducible repeat (first | apply Kd.R_alloc | apply Kd.R_drewN | apply Kd.R_drew)); exact HO_4.out))) (below_size (by repeat (first | (with_reducible first | exact HB.out | apply below_alloc | apply pw_below_drewN | apply below_drew1 | refine below_set ?_ GE118.out) | exact HB.out)))); have n4_ := Aside0.mk (blk_below (g := gb118) (o := .cells #[.slice none 0 0, .slice none 0 0] 38 (0, 0)) (by (with_reducible repeat (first | refine blk_drewN ?_ _ | refine blk_drew ?_ | refine blk_alloc ?_ _)); exact BK118.out) hb); have n5_ := Aside0.mk (below_step (by repeat (first | (with_reducible first | exact HB.out | apply below_alloc | apply pw_below_drewN | apply below_drew1 | refine below_set ?_ GE118.out) | exact HB.out)) hb); clear HO_3; clear HO_4; clear BK118; clear HB; have HO_3 := n0_; have HO_4 := n1_; have HO135 := n2_; have HO138 := n3_; have BK118 := n4_; have HB := n5_; clear n0_ n1_ n2_ n3_ n4_ n5_; (try clear hb); (try clear hb2); (try clear hk); (try clear hi); (try clear ho0); (try clear ho1); obtain ⟨Ao28, co28, eo28⟩ := Kd.R_slice HO135.out; subst eo28; have hcz29_0 : w27.cell? ⟨gb118, 0, none⟩ = some (.slice none 0 0) := (blk_cell BK118.out 0).trans rfl; have hcz29_1 : w27.cell? ⟨gb118, 1, none⟩ = some (.slice none 0 0) := (blk_cell BK118.out 1).trans rfl; have hfz29_0 := blk_frozen BK118.out 0; have hfz29_1 := blk_frozen BK118.out 1; obtain ⟨Ao30, co30, eo30⟩ := Kd.R_slice HO138.out; subst eo30))
        refine bodyPost_ret (results_cell_row rfl _ _ gb118 38 #[.slice Ao28 t133.length co28, .slice Ao30 t136.length co30] (0, 0) _ rfl (by (with_reducible repeat (first | refine blk_drewN ?_ _ | refine blk_drew ?_ | refine blk_alloc ?_ _)); refine blk_put (cs := #[.slice Ao28 t133.length co28, .slice none 0 0]) ?_ 1 _ rfl; (with_reducible repeat (first | refine blk_drewN ?_ _ | refine blk_drew ?_ | refine blk_alloc ?_ _)); refine blk_put (cs := #[.slice none 0 0, .slice none 0 0]) ?_ 0 _ rfl; (with_reducible repeat (first | refine blk_drewN ?_ _ | refine blk_drew ?_ | refine blk_alloc ?_ _)); exact BK118.out) Try.underlying38 rfl (by kernel_rfl)) rfl ?_
        exact ⟨_, _, by first | rfl | (simp [errW_none, errW_some] <;> rfl) | (simp [*, errW_none, errW_some] <;> rfl), by (with_reducible repeat (first | apply Kd.R_alloc | apply Kd.R_drewN | apply Kd.R_drew)); exact Kd.R_mono (Kd.R_far (p := ⟨gb118, 1, none⟩) (Kd.R_far (p := ⟨gb118, 0, none⟩) (Kd.R_types HO135.out BK118.out (by decide)) (fun _ hk => hk.2) (.slice Ao28 t133.length co28)) (fun _ hk => hk.2) (.slice Ao30 t136.length co30)) (fun _ hk => hk.1.1.1), by (with_reducible repeat (first | apply Kd.R_alloc | apply Kd.R_drewN | apply Kd.R_drew)); exact Kd.R_mono (Kd.R_far (p := ⟨gb118, 1, none⟩) (Kd.R_far (p := ⟨gb118, 0, none⟩) (Kd.R_types HO138.out BK118.out (by decide)) (fun _ hk => hk.2) (.slice Ao28 t133.length co28)) (fun _ hk => hk.2) (.slice Ao30 t136.length co30)) (fun _ hk => hk.1.1.1), by repeat (first | (with_reducible first | exact HB.out | apply below_alloc | apply pw_below_drewN | apply below_drew1 | refine below_set ?_ GE118.out) | exact HB.out)⟩

/-! ### arrow_Metadata_FindKey: function 21 -/
def arrow_Metadata_FindKey.l0 : Nat → ByteArray → List ByteArray → Int → Int → Option (Int)
  | 0, _, _, _, _ => none
  | k + 1, x1, x8, x9, x10 => if x10 < x9 then (if 0 ≤ x10 then (if x10 < (x8.length : Int) then (if (rdOf ByteArray.empty x8 x10).toList = x1.toList then (some x10) else (arrow_Metadata_FindKey.l0 k x1 x8 x9 (wrap64 (x10 + 1)))) else (none)) else (none)) else (some (-1))
def arrow_Metadata_FindKey.f (k : Nat) (l0_0 : List ByteArray) (l0_1 : List ByteArray) (a1 : ByteArray) : Option (Int) := arrow_Metadata_FindKey.l0 k a1 l0_0 (l0_0.length : Int) 0
theorem arrow_Metadata_FindKey.mono_l : ∀ k, (∀ y0 y1 y2 y3, LeO (arrow_Metadata_FindKey.l0 k y0 y1 y2 y3) (arrow_Metadata_FindKey.l0 (k + 1) y0 y1 y2 y3))
  | 0 => fun _ _ _ _ r h => by simp [arrow_Metadata_FindKey.l0] at h
  | k + 1 => by
    have ih0 := arrow_Metadata_FindKey.mono_l k
    · intro y0 y1 y2 y3
      unfold arrow_Metadata_FindKey.l0
      repeat' first
      | (with_reducible exact ih0 _ _ _ _)
      | (with_reducible exact LeO.refl _)
      | (with_reducible exact LeO.none _)
      | (with_reducible refine LeO.ite ?_ ?_)
      | (with_reducible refine LeO.bind ?_ (fun _ => ?_))
      | exact ih0 _ _ _ _
      | exact LeO.none _
      | refine LeO.ite ?_ ?_
      | refine LeO.bind ?_ (fun _ => ?_)
theorem arrow_Metadata_FindKey.mono : ∀ a0 a1 a2 k, LeO (arrow_Metadata_FindKey.f k a0 a1 a2) (arrow_Metadata_FindKey.f (k + 1) a0 a1 a2) := by
  intro a0 a1 a2 k
  have ih0 := arrow_Metadata_FindKey.mono_l k
  unfold arrow_Metadata_FindKey.f
  repeat' first
      | (with_reducible exact ih0 _ _ _ _)
      | (with_reducible exact LeO.refl _)
      | (with_reducible exact LeO.none _)
      | (with_reducible refine LeO.ite ?_ ?_)
      | (with_reducible refine LeO.bind ?_ (fun _ => ?_))
      | exact ih0 _ _ _ _
      | exact LeO.none _
      | refine LeO.ite ?_ ?_
      | refine LeO.bind ?_ (fun _ => ?_)
set_option maxHeartbeats 8000000 in
set_option maxRecDepth 100000 in
theorem arrow_Metadata_FindKey.calls (k : Nat) (A0_0 : Option Addr) (c0_0 : Nat) (l0_0 : List ByteArray) (A0_1 : Option Addr) (c0_1 : Nat) (l0_1 : List ByteArray) (a1 : ByteArray) (r : Int) (w : World) (hr0_0 : Kd.C Kd.string w A0_0 l0_0.length l0_0) (hc0_0 : l0_0.length ≤ c0_0) (hr0_1 : Kd.C Kd.string w A0_1 l0_1.length l0_1) (hc0_1 : l0_1.length ≤ c0_1) (h : arrow_Metadata_FindKey.f k l0_0 l0_1 a1 = some r) :
    Calls Try.prog 21 #[.agg #[.slice A0_0 l0_0.length c0_0, .slice A0_1 l0_1.length c0_1], .string a1] w fun e w' => e = .returned (.int .i64 r) ∧ Below w.heap.size w w' := by
  have hu38 := Try.underlying38
  have HR0_0 := Aside0.mk hr0_0
  have HC0_0 := Aside0.mk hc0_0
  clear hr0_0 hc0_0
  have HR0_1 := Aside0.mk hr0_1
  have HC0_1 := Aside0.mk hc0_1
  clear hr0_1 hc0_1
  have HB := Aside0.mk (Below.refl w.heap.size w)
  have H : (arrow_Metadata_FindKey.l0 k a1 l0_0 (l0_0.length : Int) 0) = some r := h
  clear h
  have H' := Aside0.mk H
  clear H
  go_enter Try.func21, Try.ntmps21
  go_wp2_with (first | ((with_reducible refine gate_dst (N := 2) rfl ?_); refine box_event ?hg (N := 2) ?hd (cs := #[.slice A0_0 l0_0.length c0_0, .slice A0_1 l0_1.length c0_1]) (t := 38) ?hr ?_; (case hd => rfl); (case hg => rfl); (case hr => first | (go_simp; done) | (go_simp; rfl)); intro gb139 hg w3 hbox hb; have n0_ := Aside0.mk (below_step (by repeat (first | (with_reducible first | exact HB.out | apply below_alloc | apply pw_below_drewN | apply below_drew1) | exact HB.out)) hb); have n1_ := Aside0.mk (hbox); have n2_ := Aside0.mk ((by rw [hg]; exact (below_size (by repeat (first | (with_reducible first | exact HB.out | apply below_alloc | apply pw_below_drewN | apply below_drew1) | exact HB.out))) : w.heap.size ≤ gb139)); have n3_ := Aside0.mk ((by rw [hg]; exact (below_size (by repeat (first | (with_reducible first | exact HB.out | apply below_alloc | apply pw_below_drewN | apply below_drew1) | exact HB.out))) : w.heap.size ≤ gb139)); clear HB; have HB := n0_; have BK139 := n1_; have GW139 := n2_; have GE139 := n3_; clear n0_ n1_ n2_ n3_; clear hb hbox hg; have hcz4_0 : w3.cell? ⟨gb139, 0, none⟩ = some (.slice A0_0 l0_0.length c0_0) := (blk_cell BK139.out 0).trans rfl; have hcz4_1 : w3.cell? ⟨gb139, 1, none⟩ = some (.slice A0_1 l0_1.length c0_1) := (blk_cell BK139.out 1).trans rfl; have hfz4_0 := blk_frozen BK139.out 0; have hfz4_1 := blk_frozen BK139.out 1))
  go_loopg [10] k (fun kq v10 w' => ∃ (x10_1 : Int), v10 = .int .i64 x10_1 ∧ Aside0 (arrow_Metadata_FindKey.l0 kq a1 l0_0 (l0_0.length : Int) x10_1 = some r) ∧ Aside0 (kq ≤ k) ∧ Aside0 (w'.heap[gb139]? = some (.cells #[(.slice A0_0 l0_0.length c0_0), (.slice A0_1 l0_1.length c0_1)] 38 (0, 0))) ∧ Aside0 (Below w.heap.size w w'))
  case atStart => exact ⟨(0), (by first | rfl | (simp; done) | (simp [*]; done)), H', ⟨Nat.le_refl _⟩, ⟨by (with_reducible repeat (first | refine blk_drewN ?_ _ | refine blk_drew ?_ | refine blk_alloc ?_ _)); exact BK139.out⟩, ⟨by repeat (first | (with_reducible first | exact HB.out | apply below_alloc | apply pw_below_drewN | apply below_drew1 | refine below_set ?_ GE139.out) | exact HB.out)⟩⟩
  case round =>
    clear H'
    try clear c2
    try clear p2
    try clear hcz4_0
    try clear hcz4_1
    try clear hfz4_0
    try clear hfz4_1
    obtain ⟨x10_1, rfl, HA, HK1, BK139, HB⟩ := hrel
    cases gk with
    | zero => exact absurd HA.out (by simp [arrow_Metadata_FindKey.l0])
    | succ k1 =>
      have H := HA.out
      clear HA
      simp only [arrow_Metadata_FindKey.l0] at H
      by_cases c5 : x10_1 < (l0_0.length : Int)
      · rw [if_pos c5] at H
        have c5b0 : decide (x10_1 < (l0_0.length : Int)) = true := decide_eq_true c5
        clear c5
        by_cases c6 : 0 ≤ x10_1
        · rw [if_pos c6] at H
          have c6b0 : decide (0 ≤ x10_1) = true := decide_eq_true c6
          clear c6
          by_cases c7 : x10_1 < (l0_0.length : Int)
          · rw [if_pos c7] at H
            have c7b0 : decide (x10_1 < (l0_0.length : Int)) = true := decide_eq_true c7
            clear c7
            by_cases c8 : (rdOf ByteArray.empty l0_0 x10_1).toList = a1.toList
            · rw [if_pos c8] at H
              have c8b0 : ((rdOf ByteArray.empty l0_0 x10_1).toList == a1.toList) = true := beq_iff_eq.mpr c8
              have c8b1 : ((rdOf ByteArray.empty l0_0 x10_1).toList != a1.toList) = false := bne_eq_false_iff_eq.mpr c8
              clear c8
              obtain rfl := Option.some.inj H
              have p140 : 0 ≤ (x10_1 : Int) := of_decide_eq_true (by first | (with_reducible assumption) | assumption)
              have q140 : x10_1 < (l0_0.length : Int) := of_decide_eq_true (by first | (with_reducible assumption) | assumption)
              obtain ⟨ad140, e140, hx140_0⟩ := Kd.at_string HR0_0.out x10_1 p140 q140
              cases e140
              replace hx140_0 := (HB.out.cell (World.block_lt_of_cell? w _ hx140_0)).trans hx140_0
              replace p140 := eq_true p140
              replace q140 := eq_true q140
              go_wp2
              go_ret
              exact ⟨by first | rfl | (simp [errW_none, errW_some] <;> rfl) | (simp [*, errW_none, errW_some] <;> rfl), by repeat (first | (with_reducible first | exact HB.out | apply below_alloc | apply pw_below_drewN | apply below_drew1 | refine below_set ?_ GE139.out) | exact HB.out)⟩
            · rw [if_neg c8] at H
              have c8b0 : ((rdOf ByteArray.empty l0_0 x10_1).toList == a1.toList) = false := beq_eq_false_iff_ne.mpr c8
              have c8b1 : ((rdOf ByteArray.empty l0_0 x10_1).toList != a1.toList) = true := bne_iff_ne.mpr c8
              have H' := Aside0.mk H
              clear H
              have p140 : 0 ≤ (x10_1 : Int) := of_decide_eq_true (by first | (with_reducible assumption) | assumption)
              have q140 : x10_1 < (l0_0.length : Int) := of_decide_eq_true (by first | (with_reducible assumption) | assumption)
              obtain ⟨ad140, e140, hx140_0⟩ := Kd.at_string HR0_0.out x10_1 p140 q140
              cases e140
              replace hx140_0 := (HB.out.cell (World.block_lt_of_cell? w _ hx140_0)).trans hx140_0
              replace p140 := eq_true p140
              replace q140 := eq_true q140
              go_wp2
              go_roundg k1
              case measure => have := HK1.out; omega
              case rel => exact ⟨(wrap64 (x10_1 + 1)), (by first | rfl | (simp; done) | (simp [*]; done)), H', ⟨by have := HK1.out; omega⟩, ⟨by (with_reducible repeat (first | refine blk_drewN ?_ _ | refine blk_drew ?_ | refine blk_alloc ?_ _)); exact BK139.out⟩, ⟨by repeat (first | (with_reducible first | exact HB.out | apply below_alloc | apply pw_below_drewN | apply below_drew1 | refine below_set ?_ GE139.out) | exact HB.out)⟩⟩
          · rw [if_neg c7] at H
            exact absurd H (by simp)
        · rw [if_neg c6] at H
          exact absurd H (by simp)
      · rw [if_neg c5] at H
        have c5b0 : decide (x10_1 < (l0_0.length : Int)) = false := decide_eq_false c5
        clear c5
        obtain rfl := Option.some.inj H
        go_wp2
        go_ret
        exact ⟨by first | rfl | (simp [errW_none, errW_some] <;> rfl) | (simp [*, errW_none, errW_some] <;> rfl), by repeat (first | (with_reducible first | exact HB.out | apply below_alloc | apply pw_below_drewN | apply below_drew1 | refine below_set ?_ GE139.out) | exact HB.out)⟩

/-! ### arrow_Metadata_GetValue: function 20 -/
def arrow_Metadata_GetValue.f (k : Nat) (l0_0 : List ByteArray) (l0_1 : List ByteArray) (a1 : ByteArray) : Option (ByteArray × Bool) := (arrow_Metadata_FindKey.f k l0_0 l0_1 a1).bind fun t142 => (if t142 < 0 then (some ((⟨#[]⟩ : ByteArray), false)) else (if 0 ≤ t142 then (if t142 < (l0_1.length : Int) then (some (rdOf ByteArray.empty l0_1 t142, true)) else (none)) else (none)))
theorem arrow_Metadata_GetValue.mono : ∀ a0 a1 a2 k, LeO (arrow_Metadata_GetValue.f k a0 a1 a2) (arrow_Metadata_GetValue.f (k + 1) a0 a1 a2) := by
  intro a0 a1 a2 k
  unfold arrow_Metadata_GetValue.f
  repeat' first
      | (with_reducible exact arrow_Metadata_FindKey.mono _ _ _ _)
      | (with_reducible exact LeO.refl _)
      | (with_reducible exact LeO.none _)
      | (with_reducible refine LeO.ite ?_ ?_)
      | (with_reducible refine LeO.bind ?_ (fun _ => ?_))
      | exact arrow_Metadata_FindKey.mono _ _ _ _
      | exact LeO.none _
      | refine LeO.ite ?_ ?_
      | refine LeO.bind ?_ (fun _ => ?_)
set_option maxHeartbeats 8000000 in
set_option maxRecDepth 100000 in
theorem arrow_Metadata_GetValue.calls (k : Nat) (A0_0 : Option Addr) (c0_0 : Nat) (l0_0 : List ByteArray) (A0_1 : Option Addr) (c0_1 : Nat) (l0_1 : List ByteArray) (a1 : ByteArray) (r1 : ByteArray) (r2 : Bool) (w : World) (hr0_0 : Kd.C Kd.string w A0_0 l0_0.length l0_0) (hc0_0 : l0_0.length ≤ c0_0) (hr0_1 : Kd.C Kd.string w A0_1 l0_1.length l0_1) (hc0_1 : l0_1.length ≤ c0_1) (h : arrow_Metadata_GetValue.f k l0_0 l0_1 a1 = some (r1, r2)) :
    Calls Try.prog 20 #[.agg #[.slice A0_0 l0_0.length c0_0, .slice A0_1 l0_1.length c0_1], .string a1] w fun e w' => e = .returned (.tuple #[.string r1, .bool r2]) ∧ Below w.heap.size w w' := by
  have hu38 := Try.underlying38
  have HR0_0 := Aside0.mk hr0_0
  have HC0_0 := Aside0.mk hc0_0
  clear hr0_0 hc0_0
  have HR0_1 := Aside0.mk hr0_1
  have HC0_1 := Aside0.mk hc0_1
  clear hr0_1 hc0_1
  have HB := Aside0.mk (Below.refl w.heap.size w)
  have H : ((arrow_Metadata_FindKey.f k l0_0 l0_1 a1).bind fun t142 => (if t142 < 0 then (some ((⟨#[]⟩ : ByteArray), false)) else (if 0 ≤ t142 then (if t142 < (l0_1.length : Int) then (some (rdOf ByteArray.empty l0_1 t142, true)) else (none)) else (none)))) = some (r1, r2) := h
  clear h
  replace H := Option.bind_eq_some_iff.mp H
  obtain ⟨t142, A30, H⟩ := H
  replace H : (if t142 < 0 then (some ((⟨#[]⟩ : ByteArray), false)) else (if 0 ≤ t142 then (if t142 < (l0_1.length : Int) then (some (rdOf ByteArray.empty l0_1 t142, true)) else (none)) else (none))) = some (r1, r2) := H
  have A3 := Aside0.mk A30
  clear A30
  by_cases c4 : t142 < 0
  · rw [if_pos c4] at H
    have c4b0 : decide (t142 < 0) = true := decide_eq_true c4
    clear c4
    simp only [Option.some.injEq, Prod.mk.injEq] at H
    obtain ⟨rfl, rfl⟩ := H
    go_enter Try.func20, Try.ntmps20
    go_wp2_with (first | ((with_reducible refine gate_dst (N := 2) rfl ?_); refine box_event ?hg (N := 2) ?hd (cs := #[.slice A0_0 l0_0.length c0_0, .slice A0_1 l0_1.length c0_1]) (t := 38) ?hr ?_; (case hd => rfl); (case hg => rfl); (case hr => first | (go_simp; done) | (go_simp; rfl)); intro gb141 hg w5 hbox hb; have n0_ := Aside0.mk (below_step (by repeat (first | (with_reducible first | exact HB.out | apply below_alloc | apply pw_below_drewN | apply below_drew1) | exact HB.out)) hb); have n1_ := Aside0.mk (hbox); have n2_ := Aside0.mk ((by rw [hg]; exact (below_size (by repeat (first | (with_reducible first | exact HB.out | apply below_alloc | apply pw_below_drewN | apply below_drew1) | exact HB.out))) : w.heap.size ≤ gb141)); have n3_ := Aside0.mk ((by rw [hg]; exact (below_size (by repeat (first | (with_reducible first | exact HB.out | apply below_alloc | apply pw_below_drewN | apply below_drew1) | exact HB.out))) : w.heap.size ≤ gb141)); clear HB; have HB := n0_; have BK141 := n1_; have GW141 := n2_; have GE141 := n3_; clear n0_ n1_ n2_ n3_; clear hb hbox hg; have hcz6_0 : w5.cell? ⟨gb141, 0, none⟩ = some (.slice A0_0 l0_0.length c0_0) := (blk_cell BK141.out 0).trans rfl; have hcz6_1 : w5.cell? ⟨gb141, 1, none⟩ = some (.slice A0_1 l0_1.length c0_1) := (blk_cell BK141.out 1).trans rfl; have hfz6_0 := blk_frozen BK141.out 0; have hfz6_1 := blk_frozen BK141.out 1) | ((with_reducible refine gate_callee (f := 21) rfl ?_); refine goesL_ (some 9) rfl rfl Try.func21 (by kernel_rfl) rfl #[.agg #[.slice A0_0 l0_0.length c0_0, .slice A0_1 l0_1.length c0_1], .string a1] rfl (by (try simp only [List.map_toArray, List.map_cons, List.map_nil]); first | done | rfl | (simp only [List.length_drop, List.length_take]; rfl)) ?_; (with_reducible refine (arrow_Metadata_FindKey.calls k _ _ l0_0 _ _ l0_1 a1 t142 _ ?side1 ?side2 ?side3 ?side4 A3.out).mono ?_); (case side1 => repeat (first | exact (Kd.C_below HR0_0.out HB.out) | (with_reducible refine Kd.C_alloc ?_ _) | (with_reducible refine Kd.C_drewN ?_ _) | (with_reducible refine Kd.C_drew ?_))); (case side2 => exact HC0_0.out); (case side3 => repeat (first | exact (Kd.C_below HR0_1.out HB.out) | (with_reducible refine Kd.C_alloc ?_ _) | (with_reducible refine Kd.C_drewN ?_ _) | (with_reducible refine Kd.C_drew ?_))); (case side4 => exact HC0_1.out); rintro e w7 ⟨rfl, hb⟩; refine ⟨_, rfl, ?_⟩; have n0_ := Aside0.mk (blk_below (g := gb141) (o := .cells #[.slice A0_0 l0_0.length c0_0, .slice A0_1 l0_1.length c0_1] 38 (0, 0)) (by (with_reducible repeat (first | refine blk_drewN ?_ _ | refine blk_drew ?_ | refine blk_alloc ?_ _)); exact BK141.out) hb); have n1_ := Aside0.mk (below_step (by repeat (first | (with_reducible first | exact HB.out | apply below_alloc | apply pw_below_drewN | apply below_drew1 | refine below_set ?_ GE141.out) | exact HB.out)) hb); clear BK141; clear HB; have BK141 := n0_; have HB := n1_; clear n0_ n1_; (try clear hb); (try clear hb2); (try clear hk); (try clear hi)))
    go_ret2
    exact ⟨by first | rfl | (simp [errW_none, errW_some] <;> rfl) | (simp [*, errW_none, errW_some] <;> rfl), by repeat (first | (with_reducible first | exact HB.out | apply below_alloc | apply pw_below_drewN | apply below_drew1 | refine below_set ?_ GE141.out) | exact HB.out)⟩
  · rw [if_neg c4] at H
    have c4b0 : decide (t142 < 0) = false := decide_eq_false c4
    clear c4
    by_cases c8 : 0 ≤ t142
    · rw [if_pos c8] at H
      have c8b0 : decide (0 ≤ t142) = true := decide_eq_true c8
      clear c8
      by_cases c9 : t142 < (l0_1.length : Int)
      · rw [if_pos c9] at H
        have c9b0 : decide (t142 < (l0_1.length : Int)) = true := decide_eq_true c9
        clear c9
        simp only [Option.some.injEq, Prod.mk.injEq] at H
        obtain ⟨rfl, rfl⟩ := H
        go_enter Try.func20, Try.ntmps20
        go_wp2_with (first | ((with_reducible refine gate_dst (N := 2) rfl ?_); refine box_event ?hg (N := 2) ?hd (cs := #[.slice A0_0 l0_0.length c0_0, .slice A0_1 l0_1.length c0_1]) (t := 38) ?hr ?_; (case hd => rfl); (case hg => rfl); (case hr => first | (go_simp; done) | (go_simp; rfl)); intro gb141 hg w10 hbox hb; have n0_ := Aside0.mk (below_step (by repeat (first | (with_reducible first | exact HB.out | apply below_alloc | apply pw_below_drewN | apply below_drew1) | exact HB.out)) hb); have n1_ := Aside0.mk (hbox); have n2_ := Aside0.mk ((by rw [hg]; exact (below_size (by repeat (first | (with_reducible first | exact HB.out | apply below_alloc | apply pw_below_drewN | apply below_drew1) | exact HB.out))) : w.heap.size ≤ gb141)); have n3_ := Aside0.mk ((by rw [hg]; exact (below_size (by repeat (first | (with_reducible first | exact HB.out | apply below_alloc | apply pw_below_drewN | apply below_drew1) | exact HB.out))) : w.heap.size ≤ gb141)); clear HB; have HB := n0_; have BK141 := n1_; have GW141 := n2_; have GE141 := n3_; clear n0_ n1_ n2_ n3_; clear hb hbox hg; have hcz11_0 : w10.cell? ⟨gb141, 0, none⟩ = some (.slice A0_0 l0_0.length c0_0) := (blk_cell BK141.out 0).trans rfl; have hcz11_1 : w10.cell? ⟨gb141, 1, none⟩ = some (.slice A0_1 l0_1.length c0_1) := (blk_cell BK141.out 1).trans rfl; have hfz11_0 := blk_frozen BK141.out 0; have hfz11_1 := blk_frozen BK141.out 1) | ((with_reducible refine gate_callee (f := 21) rfl ?_); refine goesL_ (some 9) rfl rfl Try.func21 (by kernel_rfl) rfl #[.agg #[.slice A0_0 l0_0.length c0_0, .slice A0_1 l0_1.length c0_1], .string a1] rfl (by (try simp only [List.map_toArray, List.map_cons, List.map_nil]); first | done | rfl | (simp only [List.length_drop, List.length_take]; rfl)) ?_; (with_reducible refine (arrow_Metadata_FindKey.calls k _ _ l0_0 _ _ l0_1 a1 t142 _ ?side1 ?side2 ?side3 ?side4 A3.out).mono ?_); (case side1 => repeat (first | exact (Kd.C_below HR0_0.out HB.out) | (with_reducible refine Kd.C_alloc ?_ _) | (with_reducible refine Kd.C_drewN ?_ _) | (with_reducible refine Kd.C_drew ?_))); (case side2 => exact HC0_0.out); (case side3 => repeat (first | exact (Kd.C_below HR0_1.out HB.out) | (with_reducible refine Kd.C_alloc ?_ _) | (with_reducible refine Kd.C_drewN ?_ _) | (with_reducible refine Kd.C_drew ?_))); (case side4 => exact HC0_1.out); rintro e w12 ⟨rfl, hb⟩; refine ⟨_, rfl, ?_⟩; have n0_ := Aside0.mk (blk_below (g := gb141) (o := .cells #[.slice A0_0 l0_0.length c0_0, .slice A0_1 l0_1.length c0_1] 38 (0, 0)) (by (with_reducible repeat (first | refine blk_drewN ?_ _ | refine blk_drew ?_ | refine blk_alloc ?_ _)); exact BK141.out) hb); have n1_ := Aside0.mk (below_step (by repeat (first | (with_reducible first | exact HB.out | apply below_alloc | apply pw_below_drewN | apply below_drew1 | refine below_set ?_ GE141.out) | exact HB.out)) hb); clear BK141; clear HB; have BK141 := n0_; have HB := n1_; clear n0_ n1_; (try clear hb); (try clear hb2); (try clear hk); (try clear hi); have hcz13_0 : w12.cell? ⟨gb141, 0, none⟩ = some (.slice A0_0 l0_0.length c0_0) := (blk_cell BK141.out 0).trans rfl; have hcz13_1 : w12.cell? ⟨gb141, 1, none⟩ = some (.slice A0_1 l0_1.length c0_1) := (blk_cell BK141.out 1).trans rfl; have hfz13_0 := blk_frozen BK141.out 0; have hfz13_1 := blk_frozen BK141.out 1; have p143 : 0 ≤ (t142 : Int) := of_decide_eq_true (by first | (with_reducible assumption) | assumption); have q143 : t142 < (l0_1.length : Int) := of_decide_eq_true (by first | (with_reducible assumption) | assumption); obtain ⟨ad143, e143, hx143_0⟩ := Kd.at_string HR0_1.out t142 p143 q143; cases e143; replace hx143_0 := (HB.out.cell (World.block_lt_of_cell? w _ hx143_0)).trans hx143_0; replace p143 := eq_true p143; replace q143 := eq_true q143))
        go_ret2
        exact ⟨by first | rfl | (simp [errW_none, errW_some] <;> rfl) | (simp [*, errW_none, errW_some] <;> rfl), by repeat (first | (with_reducible first | exact HB.out | apply below_alloc | apply pw_below_drewN | apply below_drew1 | refine below_set ?_ GE141.out) | exact HB.out)⟩
      · rw [if_neg c9] at H
        exact absurd H (by simp)
    · rw [if_neg c8] at H
      exact absurd H (by simp)

end Go.Proofs.Yticieelobdfloaa.QMeta
