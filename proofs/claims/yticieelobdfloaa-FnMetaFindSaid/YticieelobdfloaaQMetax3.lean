/- Written by a program of mine over the kit's print program, turned at a few places (variables of one cell in memory; deferred closures): each Go function as a Lean function, with the proof of its call. -/
import Derived.Test.YticieelobdfloaaQMetax0
import Derived.Test.YticieelobdfloaaQMetax1
import Derived.Test.YticieelobdfloaaQMetax2
namespace Go.Proofs.Yticieelobdfloaa.QMeta
open Go.RowKit Go.Proofs.YticieelobdfloaaW.PrintWords Go.Proofs.YticieelobdfloaaW.PrintLast Go.Proofs.YticieelobdfloaaW.PrintMore
attribute [local go_sem] max2_int min2_int max_two min_two max_three min_three max_four min_four   -- for this text's walks alone
set_option linter.unusedVariables false
set_option linter.unusedSimpArgs false

/-! ### impl_MetaFind: function 9 -/
def impl_MetaFind.f (k : Nat) (l0 : List (S30)) (a1 : ByteArray) : Option (Int × ByteArray × Bool × Bool) := (impl_arrowMeta.f k l0).bind fun bt148 => ((arrow_Metadata_GetValue.f k bt148.1 bt148.2 a1).bind fun bt155 => ((arrow_Metadata_FindKey.f k bt148.1 bt148.2 a1).bind fun t157 => (some (t157, bt155.1, bt155.2, true))))
theorem impl_MetaFind.mono : ∀ a0 a1 k, LeO (impl_MetaFind.f k a0 a1) (impl_MetaFind.f (k + 1) a0 a1) := by
  intro a0 a1 k
  unfold impl_MetaFind.f
  repeat' first
      | (with_reducible exact arrow_Metadata_FindKey.mono _ _ _ _)
      | (with_reducible exact arrow_Metadata_GetValue.mono _ _ _ _)
      | (with_reducible exact impl_arrowMeta.mono _ _)
      | (with_reducible exact LeO.refl _)
      | (with_reducible exact LeO.none _)
      | (with_reducible refine LeO.ite ?_ ?_)
      | (with_reducible refine LeO.bind ?_ (fun _ => ?_))
      | exact arrow_Metadata_FindKey.mono _ _ _ _
      | exact arrow_Metadata_GetValue.mono _ _ _ _
      | exact impl_arrowMeta.mono _ _
      | exact LeO.none _
      | refine LeO.ite ?_ ?_
      | refine LeO.bind ?_ (fun _ => ?_)
def impl_MetaFind.T4 : Bool × List (List Nat × List Nat) := (true, [([], []), ([], []), ([0, 1], [0, 1]), ([], []), ([], []), ([2, 2, 0, 1, 2], [2]), ([3, 5, 0, 1, 2, 3, 5], [3]), ([4, 6, 0, 1, 2, 3, 4, 5, 6], [4]), ([7, 0, 1, 2, 3, 4, 5, 6, 7], [])])
def impl_MetaFind.B4 : List Nat := [0, 0, 3, 0, 0, 7, 47, 127, 255]
theorem impl_MetaFind.tab4 : rtab .any (opsOf Try.f9 4) = impl_MetaFind.T4 := by kernel_rfl
theorem impl_MetaFind.bits4 : waitsOk impl_MetaFind.T4.2 impl_MetaFind.B4 = true := by kernel_rfl
set_option maxHeartbeats 8000000 in
set_option maxRecDepth 100000 in
theorem impl_MetaFind.calls (k : Nat) (A0 : Option Addr) (c0 : Nat) (l0 : List (S30)) (a1 : ByteArray) (r1 : Int) (r2 : ByteArray) (r3 : Bool) (r4 : Bool) (w : World) (hr0 : Kd.C k30 w A0 l0.length l0) (hc0 : l0.length ≤ c0) (h : impl_MetaFind.f k l0 a1 = some (r1, r2, r3, r4)) :
    Calls Try.prog 9 #[.slice A0 l0.length c0, .string a1] w fun e w' => e = .returned (.tuple #[.int .i64 r1, .string r2, .bool r3, .bool r4]) ∧ Below w.heap.size w w' := by
  have hu38 := Try.underlying38
  have HR0 := Aside0.mk hr0
  have HC0 := Aside0.mk hc0
  clear hr0 hc0
  have HB := Aside0.mk (Below.refl w.heap.size w)
  have H : ((impl_arrowMeta.f k l0).bind fun bt148 => ((arrow_Metadata_GetValue.f k bt148.1 bt148.2 a1).bind fun bt155 => ((arrow_Metadata_FindKey.f k bt148.1 bt148.2 a1).bind fun t157 => (some (t157, bt155.1, bt155.2, true))))) = some (r1, r2, r3, r4) := h
  clear h
  replace H := Option.bind_eq_some_iff.mp H
  obtain ⟨⟨t148, t151⟩, A30, H⟩ := H
  replace H : ((arrow_Metadata_GetValue.f k t148 t151 a1).bind fun bt155 => ((arrow_Metadata_FindKey.f k t148 t151 a1).bind fun t157 => (some (t157, bt155.1, bt155.2, true)))) = some (r1, r2, r3, r4) := H
  have A3 := Aside0.mk A30
  clear A30
  replace H := Option.bind_eq_some_iff.mp H
  obtain ⟨⟨t155, t156⟩, A40, H⟩ := H
  replace H : ((arrow_Metadata_FindKey.f k t148 t151 a1).bind fun t157 => (some (t157, t155, t156, true))) = some (r1, r2, r3, r4) := H
  have A4 := Aside0.mk A40
  clear A40
  replace H := Option.bind_eq_some_iff.mp H
  obtain ⟨t157, A50, H⟩ := H
  replace H : (some (t157, t155, t156, true)) = some (r1, r2, r3, r4) := H
  have A5 := Aside0.mk A50
  clear A50
  simp only [Option.some.injEq, Prod.mk.injEq] at H
  obtain ⟨rfl, rfl, rfl, rfl⟩ := H
  have hmf_ : ∀ (fn : Fn) (first cap : Array Value) (w : World), (Instr.makeFunc fn first cap).run Try.prog w = .ok (.func fn first cap) w := fun _ _ _ _ => rfl
  go_enter_defers Try.func9, Try.ntmps9
  refine Code.wp_mono (Aid.noPanic_le _) ?_
  try go_wp2_with (first | ((with_reducible refine gate_dst (N := 4) rfl ?_); refine box_event ?hg (N := 4) ?hd (cs := #[.int .i64 0]) (t := 3) ?hr ?_; (case hd => rfl); (case hg => rfl); (case hr => first | (go_simp; done) | (go_simp; rfl)); intro gb144 hg w6 hbox hb; have n0_ := Aside0.mk (below_step (by repeat (first | (with_reducible first | exact HB.out | apply below_alloc | apply pw_below_drewN | apply below_drew1) | exact HB.out)) hb); have n1_ := Aside0.mk (hbox); have n2_ := Aside0.mk ((by rw [hg]; exact (below_size (by repeat (first | (with_reducible first | exact HB.out | apply below_alloc | apply pw_below_drewN | apply below_drew1) | exact HB.out))) : w.heap.size ≤ gb144)); have n3_ := Aside0.mk ((by rw [hg]; exact (below_size (by repeat (first | (with_reducible first | exact HB.out | apply below_alloc | apply pw_below_drewN | apply below_drew1) | exact HB.out))) : w.heap.size ≤ gb144)); clear HB; have HB := n0_; have BK144 := n1_; have GW144 := n2_; have GE144 := n3_; clear n0_ n1_ n2_ n3_; clear hb hbox hg) | ((with_reducible refine gate_dst (N := 5) rfl ?_); refine box_event ?hg (N := 5) ?hd (cs := #[.string (⟨#[]⟩ : ByteArray)]) (t := 9) ?hr ?_; (case hd => rfl); (case hg => rfl); (case hr => first | (go_simp; done) | (go_simp; rfl)); intro gb145 hg w7 hbox hb; have n0_ := Aside0.mk (blk_below (g := gb144) (o := .cells #[.int .i64 0] 3 (0, 0)) (by (with_reducible repeat (first | refine blk_drewN ?_ _ | refine blk_drew ?_ | refine blk_alloc ?_ _)); exact BK144.out) hb); have n1_ := Aside0.mk (below_step (by repeat (first | (with_reducible first | exact HB.out | apply below_alloc | apply pw_below_drewN | apply below_drew1 | refine below_set ?_ GE144.out) | exact HB.out)) hb); have n2_ := Aside0.mk (hbox); have n3_ := Aside0.mk ((by rw [hg]; exact (below_size (by repeat (first | (with_reducible first | exact HB.out | apply below_alloc | apply pw_below_drewN | apply below_drew1 | refine below_set ?_ GE144.out) | exact HB.out))) : w.heap.size ≤ gb145)); have n4_ := Aside0.mk ((by rw [hg]; exact (below_size (by repeat (first | (with_reducible first | exact HB.out | apply below_alloc | apply pw_below_drewN | apply below_drew1 | refine below_set ?_ GE144.out) | exact HB.out))) : w.heap.size ≤ gb145)); have n5_ := Aside0.mk ((by rw [hg]; exact Nat.ne_of_lt (blk_lt (g := gb144) (o := .cells #[.int .i64 0] 3 (0, 0)) (by (with_reducible repeat (first | refine blk_drewN ?_ _ | refine blk_drew ?_ | refine blk_alloc ?_ _)); exact BK144.out)) : gb144 ≠ gb145)); have n6_ := Aside0.mk ((by rw [hg]; exact Nat.ne_of_gt (blk_lt (g := gb144) (o := .cells #[.int .i64 0] 3 (0, 0)) (by (with_reducible repeat (first | refine blk_drewN ?_ _ | refine blk_drew ?_ | refine blk_alloc ?_ _)); exact BK144.out)) : gb145 ≠ gb144)); clear BK144; clear HB; have BK144 := n0_; have HB := n1_; have BK145 := n2_; have GW145 := n3_; have GE145 := n4_; have NB144_145 := n5_; have NB145_144 := n6_; clear n0_ n1_ n2_ n3_ n4_ n5_ n6_; clear hb hbox hg) | ((with_reducible refine gate_dst (N := 6) rfl ?_); refine box_event ?hg (N := 6) ?hd (cs := #[.bool false]) (t := 4) ?hr ?_; (case hd => rfl); (case hg => rfl); (case hr => first | (go_simp; done) | (go_simp; rfl)); intro gb146 hg w8 hbox hb; have n0_ := Aside0.mk (blk_below (g := gb144) (o := .cells #[.int .i64 0] 3 (0, 0)) (by (with_reducible repeat (first | refine blk_drewN ?_ _ | refine blk_drew ?_ | refine blk_alloc ?_ _)); exact BK144.out) hb); have n1_ := Aside0.mk (blk_below (g := gb145) (o := .cells #[.string (⟨#[]⟩ : ByteArray)] 9 (0, 0)) (by (with_reducible repeat (first | refine blk_drewN ?_ _ | refine blk_drew ?_ | refine blk_alloc ?_ _)); exact BK145.out) hb); have n2_ := Aside0.mk (below_step (by repeat (first | (with_reducible first | exact HB.out | apply below_alloc | apply pw_below_drewN | apply below_drew1 | refine below_set ?_ GE144.out | refine below_set ?_ GE145.out) | exact HB.out)) hb); have n3_ := Aside0.mk (hbox); have n4_ := Aside0.mk ((by rw [hg]; exact (below_size (by repeat (first | (with_reducible first | exact HB.out | apply below_alloc | apply pw_below_drewN | apply below_drew1 | refine below_set ?_ GE144.out | refine below_set ?_ GE145.out) | exact HB.out))) : w.heap.size ≤ gb146)); have n5_ := Aside0.mk ((by rw [hg]; exact (below_size (by repeat (first | (with_reducible first | exact HB.out | apply below_alloc | apply pw_below_drewN | apply below_drew1 | refine below_set ?_ GE144.out | refine below_set ?_ GE145.out) | exact HB.out))) : w.heap.size ≤ gb146)); have n6_ := Aside0.mk ((by rw [hg]; exact Nat.ne_of_lt (blk_lt (g := gb144) (o := .cells #[.int .i64 0] 3 (0, 0)) (by (with_reducible repeat (first | refine blk_drewN ?_ _ | refine blk_drew ?_ | refine blk_alloc ?_ _)); exact BK144.out)) : gb144 ≠ gb146)); have n7_ := Aside0.mk ((by rw [hg]; exact Nat.ne_of_gt (blk_lt (g := gb144) (o := .cells #[.int .i64 0] 3 (0, 0)) (by (with_reducible repeat (first | refine blk_drewN ?_ _ | refine blk_drew ?_ | refine blk_alloc ?_ _)); exact BK144.out)) : gb146 ≠ gb144)); have n8_ := Aside0.mk ((by rw [hg]; exact Nat.ne_of_lt (blk_lt (g := gb145) (o := .cells #[.string (⟨#[]⟩ : ByteArray)] 9 (0, 0)) (by (with_reducible repeat (first | refine blk_drewN ?_ _ | refine blk_drew ?_ | refine blk_alloc ?_ _)); exact BK145.out)) : gb145 ≠ gb146)); have n9_ := Aside0.mk ((by rw [hg]; exact Nat.ne_of_gt (blk_lt (g := gb145) (o := .cells #[.string (⟨#[]⟩ : ByteArray)] 9 (0, 0)) (by (with_reducible repeat (first | refine blk_drewN ?_ _ | refine blk_drew ?_ | refine blk_alloc ?_ _)); exact BK145.out)) : gb146 ≠ gb145)); clear BK144; clear BK145; clear HB; have BK144 := n0_; have BK145 := n1_; have HB := n2_; have BK146 := n3_; have GW146 := n4_; have GE146 := n5_; have NB144_146 := n6_; have NB146_144 := n7_; have NB145_146 := n8_; have NB146_145 := n9_; clear n0_ n1_ n2_ n3_ n4_ n5_ n6_ n7_ n8_ n9_; clear hb hbox hg) | ((with_reducible refine gate_dst (N := 7) rfl ?_); refine box_event ?hg (N := 7) ?hd (cs := #[.bool false]) (t := 4) ?hr ?_; (case hd => rfl); (case hg => rfl); (case hr => first | (go_simp; done) | (go_simp; rfl)); intro gb147 hg w9 hbox hb; have n0_ := Aside0.mk (blk_below (g := gb144) (o := .cells #[.int .i64 0] 3 (0, 0)) (by (with_reducible repeat (first | refine blk_drewN ?_ _ | refine blk_drew ?_ | refine blk_alloc ?_ _)); exact BK144.out) hb); have n1_ := Aside0.mk (blk_below (g := gb145) (o := .cells #[.string (⟨#[]⟩ : ByteArray)] 9 (0, 0)) (by (with_reducible repeat (first | refine blk_drewN ?_ _ | refine blk_drew ?_ | refine blk_alloc ?_ _)); exact BK145.out) hb); have n2_ := Aside0.mk (blk_below (g := gb146) (o := .cells #[.bool false] 4 (0, 0)) (by (with_reducible repeat (first | refine blk_drewN ?_ _ | refine blk_drew ?_ | refine blk_alloc ?_ _)); exact BK146.out) hb); have n3_ := Aside0.mk (below_step (by repeat (first | (with_reducible first | exact HB.out | apply below_alloc | apply pw_below_drewN | apply below_drew1 | refine below_set ?_ GE144.out | refine below_set ?_ GE145.out | refine below_set ?_ GE146.out) | exact HB.out)) hb); have n4_ := Aside0.mk (hbox); have n5_ := Aside0.mk ((by rw [hg]; exact (below_size (by repeat (first | (with_reducible first | exact HB.out | apply below_alloc | apply pw_below_drewN | apply below_drew1 | refine below_set ?_ GE144.out | refine below_set ?_ GE145.out | refine below_set ?_ GE146.out) | exact HB.out))) : w.heap.size ≤ gb147)); have n6_ := Aside0.mk ((by rw [hg]; exact (below_size (by repeat (first | (with_reducible first | exact HB.out | apply below_alloc | apply pw_below_drewN | apply below_drew1 | refine below_set ?_ GE144.out | refine below_set ?_ GE145.out | refine below_set ?_ GE146.out) | exact HB.out))) : w.heap.size ≤ gb147)); have n7_ := Aside0.mk ((by rw [hg]; exact Nat.ne_of_lt (blk_lt (g := gb144) (o := .cells #[.int .i64 0] 3 (0, 0)) (by (with_reducible repeat (first | refine blk_drewN ?_ _ | refine blk_drew ?_ | refine blk_alloc ?_ _)); exact BK144.out)) : gb144 ≠ gb147)); have n8_ := Aside0.mk ((by rw [hg]; exact Nat.ne_of_gt (blk_lt (g := gb144) (o := .cells #[.int .i64 0] 3 (0, 0)) (by (with_reducible repeat (first | refine blk_drewN ?_ _ | refine blk_drew ?_ | refine blk_alloc ?_ _)); exact BK144.out)) : gb147 ≠ gb144)); have n9_ := Aside0.mk ((by rw [hg]; exact Nat.ne_of_lt (blk_lt (g := gb145) (o := .cells #[.string (⟨#[]⟩ : ByteArray)] 9 (0, 0)) (by (with_reducible repeat (first | refine blk_drewN ?_ _ | refine blk_drew ?_ | refine blk_alloc ?_ _)); exact BK145.out)) : gb145 ≠ gb147)); have n10_ := Aside0.mk ((by rw [hg]; exact Nat.ne_of_gt (blk_lt (g := gb145) (o := .cells #[.string (⟨#[]⟩ : ByteArray)] 9 (0, 0)) (by (with_reducible repeat (first | refine blk_drewN ?_ _ | refine blk_drew ?_ | refine blk_alloc ?_ _)); exact BK145.out)) : gb147 ≠ gb145)); have n11_ := Aside0.mk ((by rw [hg]; exact Nat.ne_of_lt (blk_lt (g := gb146) (o := .cells #[.bool false] 4 (0, 0)) (by (with_reducible repeat (first | refine blk_drewN ?_ _ | refine blk_drew ?_ | refine blk_alloc ?_ _)); exact BK146.out)) : gb146 ≠ gb147)); have n12_ := Aside0.mk ((by rw [hg]; exact Nat.ne_of_gt (blk_lt (g := gb146) (o := .cells #[.bool false] 4 (0, 0)) (by (with_reducible repeat (first | refine blk_drewN ?_ _ | refine blk_drew ?_ | refine blk_alloc ?_ _)); exact BK146.out)) : gb147 ≠ gb146)); clear BK144; clear BK145; clear BK146; clear HB; have BK144 := n0_; have BK145 := n1_; have BK146 := n2_; have HB := n3_; have BK147 := n4_; have GW147 := n5_; have GE147 := n6_; have NB144_147 := n7_; have NB147_144 := n8_; have NB145_147 := n9_; have NB147_145 := n10_; have NB146_147 := n11_; have NB147_146 := n12_; clear n0_ n1_ n2_ n3_ n4_ n5_ n6_ n7_ n8_ n9_ n10_ n11_ n12_; clear hb hbox hg) | ((with_reducible refine gate_callee (f := 19) rfl ?_); refine goesL_ (some 11) rfl rfl Try.func19 (by kernel_rfl) rfl #[.slice A0 l0.length c0] rfl (by (try simp only [List.map_toArray, List.map_cons, List.map_nil]); first | done | rfl | (simp only [List.length_drop, List.length_take]; rfl)) ?_; (with_reducible refine (impl_arrowMeta.calls k _ _ l0 t148 t151 _ ?side1 ?side2 A3.out).mono ?_); (case side1 => repeat (first | exact (Kd.C_below HR0.out HB.out) | (with_reducible refine Kd.C_alloc ?_ _) | (with_reducible refine Kd.C_drewN ?_ _) | (with_reducible refine Kd.C_drew ?_))); (case side2 => exact HC0.out); rintro e w10 ⟨v149, v152, rfl, ho0, ho1, hb⟩; refine ⟨_, rfl, ?_⟩; have n0_ := Aside0.mk (Kd.R_lower (Kd.R_newB ho0 (g := gb145) (o := .cells #[.string (⟨#[]⟩ : ByteArray)] 9 (0, 0)) (by (with_reducible repeat (first | refine blk_drewN ?_ _ | refine blk_drew ?_ | refine blk_alloc ?_ _)); exact BK145.out)) (below_size (by repeat (first | (with_reducible first | exact HB.out | apply below_alloc | apply pw_below_drewN | apply below_drew1 | refine below_set ?_ GE144.out | refine below_set ?_ GE145.out | refine below_set ?_ GE146.out | refine below_set ?_ GE147.out) | exact HB.out)))); have n1_ := Aside0.mk (Kd.R_lower (Kd.R_newB ho1 (g := gb145) (o := .cells #[.string (⟨#[]⟩ : ByteArray)] 9 (0, 0)) (by (with_reducible repeat (first | refine blk_drewN ?_ _ | refine blk_drew ?_ | refine blk_alloc ?_ _)); exact BK145.out)) (below_size (by repeat (first | (with_reducible first | exact HB.out | apply below_alloc | apply pw_below_drewN | apply below_drew1 | refine below_set ?_ GE144.out | refine below_set ?_ GE145.out | refine below_set ?_ GE146.out | refine below_set ?_ GE147.out) | exact HB.out)))); have n2_ := Aside0.mk (blk_below (g := gb144) (o := .cells #[.int .i64 0] 3 (0, 0)) (by (with_reducible repeat (first | refine blk_drewN ?_ _ | refine blk_drew ?_ | refine blk_alloc ?_ _)); exact BK144.out) hb); have n3_ := Aside0.mk (blk_below (g := gb145) (o := .cells #[.string (⟨#[]⟩ : ByteArray)] 9 (0, 0)) (by (with_reducible repeat (first | refine blk_drewN ?_ _ | refine blk_drew ?_ | refine blk_alloc ?_ _)); exact BK145.out) hb); have n4_ := Aside0.mk (blk_below (g := gb146) (o := .cells #[.bool false] 4 (0, 0)) (by (with_reducible repeat (first | refine blk_drewN ?_ _ | refine blk_drew ?_ | refine blk_alloc ?_ _)); exact BK146.out) hb); have n5_ := Aside0.mk (blk_below (g := gb147) (o := .cells #[.bool false] 4 (0, 0)) (by (with_reducible repeat (first | refine blk_drewN ?_ _ | refine blk_drew ?_ | refine blk_alloc ?_ _)); exact BK147.out) hb); have n6_ := Aside0.mk (below_step (by repeat (first | (with_reducible first | exact HB.out | apply below_alloc | apply pw_below_drewN | apply below_drew1 | refine below_set ?_ GE144.out | refine below_set ?_ GE145.out | refine below_set ?_ GE146.out | refine below_set ?_ GE147.out) | exact HB.out)) hb); clear BK144; clear BK145; clear BK146; clear BK147; clear HB; have HO150 := n0_; have HO153 := n1_; have BK144 := n2_; have BK145 := n3_; have BK146 := n4_; have BK147 := n5_; have HB := n6_; clear n0_ n1_ n2_ n3_ n4_ n5_ n6_; (try clear hb); (try clear hb2); (try clear hk); (try clear hi); (try clear ho0); (try clear ho1)) | ((with_reducible refine gate_dst (N := 8) rfl ?_); refine box_event ?hg (N := 8) ?hd (cs := #[.slice none 0 0, .slice none 0 0]) (t := 38) ?hr ?_; (case hd => rfl); (case hg => rfl); (case hr => first | (go_simp; done) | (go_simp; rfl)); intro gb154 hg w11 hbox hb; have n0_ := Aside0.mk (Kd.R_below (by (with_reducible repeat (first | apply Kd.R_alloc | apply Kd.R_drewN | apply Kd.R_drew)); exact HO150.out) hb); have n1_ := Aside0.mk (Kd.R_below (by (with_reducible repeat (first | apply Kd.R_alloc | apply Kd.R_drewN | apply Kd.R_drew)); exact HO153.out) hb); have n2_ := Aside0.mk (blk_below (g := gb144) (o := .cells #[.int .i64 0] 3 (0, 0)) (by (with_reducible repeat (first | refine blk_drewN ?_ _ | refine blk_drew ?_ | refine blk_alloc ?_ _)); exact BK144.out) hb); have n3_ := Aside0.mk (blk_below (g := gb145) (o := .cells #[.string (⟨#[]⟩ : ByteArray)] 9 (0, 0)) (by (with_reducible repeat (first | refine blk_drewN ?_ _ | refine blk_drew ?_ | refine blk_alloc ?_ _)); exact BK145.out) hb); have n4_ := Aside0.mk (blk_below (g := gb146) (o := .cells #[.bool false] 4 (0, 0)) (by (with_reducible repeat (first | refine blk_drewN ?_ _ | refine blk_drew ?_ | refine blk_alloc ?_ _)); exact BK146.out) hb); have n5_ := Aside0.mk (blk_below (g := gb147) (o := .cells #[.bool false] 4 (0, 0)) (by (with_reducible repeat (first | refine blk_drewN ?_ _ | refine blk_drew ?_ | refine blk_alloc ?_ _)); exact BK147.out) hb); have n6_ := Aside0.mk (below_step (by repeat (first | (with_reducible first | exact HB.out | apply below_alloc | apply pw_below_drewN | apply below_drew1 | refine below_set ?_ GE144.out | refine below_set ?_ GE145.out | refine below_set ?_ GE146.out | refine below_set ?_ GE147.out) | exact HB.out)) hb); have n7_ := Aside0.mk (hbox); have n8_ := Aside0.mk ((by rw [hg]; exact (below_size (by repeat (first | (with_reducible first | exact HB.out | apply below_alloc | apply pw_below_drewN | apply below_drew1 | refine below_set ?_ GE144.out | refine below_set ?_ GE145.out | refine below_set ?_ GE146.out | refine below_set ?_ GE147.out) | exact HB.out))) : w.heap.size ≤ gb154)); have n9_ := Aside0.mk ((by rw [hg]; exact (below_size (by repeat (first | (with_reducible first | exact HB.out | apply below_alloc | apply pw_below_drewN | apply below_drew1 | refine below_set ?_ GE144.out | refine below_set ?_ GE145.out | refine below_set ?_ GE146.out | refine below_set ?_ GE147.out) | exact HB.out))) : w.heap.size ≤ gb154)); have n10_ := Aside0.mk ((by rw [hg]; exact Nat.ne_of_lt (blk_lt (g := gb144) (o := .cells #[.int .i64 0] 3 (0, 0)) (by (with_reducible repeat (first | refine blk_drewN ?_ _ | refine blk_drew ?_ | refine blk_alloc ?_ _)); exact BK144.out)) : gb144 ≠ gb154)); have n11_ := Aside0.mk ((by rw [hg]; exact Nat.ne_of_gt (blk_lt (g := gb144) (o := .cells #[.int .i64 0] 3 (0, 0)) (by (with_reducible repeat (first | refine blk_drewN ?_ _ | refine blk_drew ?_ | refine blk_alloc ?_ _)); exact BK144.out)) : gb154 ≠ gb144)); have n12_ := Aside0.mk ((by rw [hg]; exact Nat.ne_of_lt (blk_lt (g := gb145) (o := .cells #[.string (⟨#[]⟩ : ByteArray)] 9 (0, 0)) (by (with_reducible repeat (first | refine blk_drewN ?_ _ | refine blk_drew ?_ | refine blk_alloc ?_ _)); exact BK145.out)) : gb145 ≠ gb154)); have n13_ := Aside0.mk ((by rw [hg]; exact Nat.ne_of_gt (blk_lt (g := gb145) (o := .cells #[.string (⟨#[]⟩ : ByteArray)] 9 (0, 0)) (by (with_reducible repeat (first | refine blk_drewN ?_ _ | refine blk_drew ?_ | refine blk_alloc ?_ _)); exact BK145.out)) : gb154 ≠ gb145)); have n14_ := Aside0.mk ((by rw [hg]; exact Nat.ne_of_lt (blk_lt (g := gb146) (o := .cells #[.bool false] 4 (0, 0)) (by (with_reducible repeat (first | refine blk_drewN ?_ _ | refine blk_drew ?_ | refine blk_alloc ?_ _)); exact BK146.out)) : gb146 ≠ gb154)); have n15_ := Aside0.mk ((by rw [hg]; exact Nat.ne_of_gt (blk_lt (g := gb146) (o := .cells #[.bool false] 4 (0, 0)) (by (with_reducible repeat (first | refine blk_drewN ?_ _ | refine blk_drew ?_ | refine blk_alloc ?_ _)); exact BK146.out)) : gb154 ≠ gb146)); have n16_ := Aside0.mk ((by rw [hg]; exact Nat.ne_of_lt (blk_lt (g := gb147) (o := .cells #[.bool false] 4 (0, 0)) (by (with_reducible repeat (first | refine blk_drewN ?_ _ | refine blk_drew ?_ | refine blk_alloc ?_ _)); exact BK147.out)) : gb147 ≠ gb154)); have n17_ := Aside0.mk ((by rw [hg]; exact Nat.ne_of_gt (blk_lt (g := gb147) (o := .cells #[.bool false] 4 (0, 0)) (by (with_reducible repeat (first | refine blk_drewN ?_ _ | refine blk_drew ?_ | refine blk_alloc ?_ _)); exact BK147.out)) : gb154 ≠ gb147)); clear HO150; clear HO153; clear BK144; clear BK145; clear BK146; clear BK147; clear HB; have HO150 := n0_; have HO153 := n1_; have BK144 := n2_; have BK145 := n3_; have BK146 := n4_; have BK147 := n5_; have HB := n6_; have BK154 := n7_; have GW154 := n8_; have GE154 := n9_; have NB144_154 := n10_; have NB154_144 := n11_; have NB145_154 := n12_; have NB154_145 := n13_; have NB146_154 := n14_; have NB154_146 := n15_; have NB147_154 := n16_; have NB154_147 := n17_; clear n0_ n1_ n2_ n3_ n4_ n5_ n6_ n7_ n8_ n9_ n10_ n11_ n12_ n13_ n14_ n15_ n16_ n17_; clear hb hbox hg; obtain ⟨Ao12, co12, eo12⟩ := Kd.R_slice HO150.out; subst eo12; have hnb13 := NB154_144.out; have hnc13 := NB144_154.out; have hnb14 := NB154_145.out; have hnc14 := NB145_154.out; have hnb15 := NB154_146.out; have hnc15 := NB146_154.out; have hnb16 := NB154_147.out; have hnc16 := NB147_154.out; have hcz17_0 : w11.cell? ⟨gb154, 0, none⟩ = some (.slice none 0 0) := (blk_cell BK154.out 0).trans rfl; have hcz17_1 : w11.cell? ⟨gb154, 1, none⟩ = some (.slice none 0 0) := (blk_cell BK154.out 1).trans rfl; have hfz17_0 := blk_frozen BK154.out 0; have hfz17_1 := blk_frozen BK154.out 1; obtain ⟨Ao18, co18, eo18⟩ := Kd.R_slice HO153.out; subst eo18) | ((with_reducible refine gate_callee (f := 20) rfl ?_); refine goesL_ (some 15) rfl rfl Try.func20 (by kernel_rfl) rfl #[.agg #[.slice Ao12 t148.length co12, .slice Ao18 t151.length co18], .string a1] rfl (by (try simp only [List.map_toArray, List.map_cons, List.map_nil]); first | done | rfl | (simp only [List.length_drop, List.length_take]; rfl)) ?_; (with_reducible refine (arrow_Metadata_GetValue.calls k _ _ t148 _ _ t151 a1 t155 t156 _ ?side1 ?side2 ?side3 ?side4 A4.out).mono ?_); (case side1 => refine (Kd.R_reads' (e := 9) (base := w.heap.size) (ok := fun k_ => (some k_ ≠ (.slice Ao18 t151.length co18 : Value).ownBlock ∧ k_ ≠ gb145)) (n := t148.length) (c := co12) ?_).2.2; exact (by (with_reducible repeat (first | apply Kd.R_alloc | apply Kd.R_drewN | apply Kd.R_drew)); exact (Kd.R_mono (Kd.R_far (p := ⟨gb154, 1, none⟩) (Kd.R_far (p := ⟨gb154, 0, none⟩) (Kd.R_types HO150.out BK154.out (by decide)) (fun _ hk => hk.2) (.slice Ao12 t148.length co12)) (fun _ hk => hk.2) (.slice Ao18 t151.length co18)) (fun _ h_ => h_.1)))); (case side2 => exact (Kd.R_reads' HO150.out).2.1); (case side3 => refine (Kd.R_reads' (e := 9) (base := w.heap.size) (ok := fun k_ => (some k_ ≠ (.slice Ao12 t148.length co12 : Value).ownBlock ∧ k_ ≠ gb145)) (n := t151.length) (c := co18) ?_).2.2; exact (by (with_reducible repeat (first | apply Kd.R_alloc | apply Kd.R_drewN | apply Kd.R_drew)); exact (Kd.R_mono (Kd.R_far (p := ⟨gb154, 1, none⟩) (Kd.R_far (p := ⟨gb154, 0, none⟩) (Kd.R_types HO153.out BK154.out (by decide)) (fun _ hk => hk.2) (.slice Ao12 t148.length co12)) (fun _ hk => hk.2) (.slice Ao18 t151.length co18)) (fun _ h_ => h_.1)))); (case side4 => exact (Kd.R_reads' HO153.out).2.1); rintro e w19 ⟨rfl, hb⟩; refine ⟨_, rfl, ?_⟩; have n0_ := Aside0.mk (Kd.R_below (by (with_reducible repeat (first | apply Kd.R_alloc | apply Kd.R_drewN | apply Kd.R_drew)); exact (Kd.R_mono (Kd.R_far (p := ⟨gb154, 1, none⟩) (Kd.R_far (p := ⟨gb154, 0, none⟩) (Kd.R_types HO150.out BK154.out (by decide)) (fun _ hk => hk.2) (.slice Ao12 t148.length co12)) (fun _ hk => hk.2) (.slice Ao18 t151.length co18)) (fun _ h_ => h_.1))) hb); have n1_ := Aside0.mk (Kd.R_below (by (with_reducible repeat (first | apply Kd.R_alloc | apply Kd.R_drewN | apply Kd.R_drew)); exact (Kd.R_mono (Kd.R_far (p := ⟨gb154, 1, none⟩) (Kd.R_far (p := ⟨gb154, 0, none⟩) (Kd.R_types HO153.out BK154.out (by decide)) (fun _ hk => hk.2) (.slice Ao12 t148.length co12)) (fun _ hk => hk.2) (.slice Ao18 t151.length co18)) (fun _ h_ => h_.1))) hb); have n2_ := Aside0.mk (blk_below (g := gb144) (o := .cells #[.int .i64 0] 3 (0, 0)) (by (with_reducible repeat (first | refine blk_drewN ?_ _ | refine blk_drew ?_ | refine blk_alloc ?_ _)); refine blk_far ?_ NB144_154.out _; (with_reducible repeat (first | refine blk_drewN ?_ _ | refine blk_drew ?_ | refine blk_alloc ?_ _)); refine blk_far ?_ NB144_154.out _; (with_reducible repeat (first | refine blk_drewN ?_ _ | refine blk_drew ?_ | refine blk_alloc ?_ _)); exact BK144.out) hb); have n3_ := Aside0.mk (blk_below (g := gb145) (o := .cells #[.string (⟨#[]⟩ : ByteArray)] 9 (0, 0)) (by (with_reducible repeat (first | refine blk_drewN ?_ _ | refine blk_drew ?_ | refine blk_alloc ?_ _)); refine blk_far ?_ NB145_154.out _; (with_reducible repeat (first | refine blk_drewN ?_ _ | refine blk_drew ?_ | refine blk_alloc ?_ _)); refine blk_far ?_ NB145_154.out _; (with_reducible repeat (first | refine blk_drewN ?_ _ | refine blk_drew ?_ | refine blk_alloc ?_ _)); exact BK145.out) hb); have n4_ := Aside0.mk (blk_below (g := gb146) (o := .cells #[.bool false] 4 (0, 0)) (by (with_reducible repeat (first | refine blk_drewN ?_ _ | refine blk_drew ?_ | refine blk_alloc ?_ _)); refine blk_far ?_ NB146_154.out _; (with_reducible repeat (first | refine blk_drewN ?_ _ | refine blk_drew ?_ | refine blk_alloc ?_ _)); refine blk_far ?_ NB146_154.out _; (with_reducible repeat (first | refine blk_drewN ?_ _ | refine blk_drew ?_ | refine blk_alloc ?_ _)); exact BK146.out) hb); have n5_ := Aside0.mk (blk_below (g := gb147) (o := .cells #[.bool false] 4 (0, 0)) (by (with_reducible repeat (first | refine blk_drewN ?_ _ | refine blk_drew ?_ | refine blk_alloc ?_ _)); refine blk_far ?_ NB147_154.out _; (with_reducible repeat (first | refine blk_drewN ?_ _ | refine blk_drew ?_ | refine blk_alloc ?_ _)); refine blk_far ?_ NB147_154.out _; (with_reducible repeat (first | refine blk_drewN ?_ _ | refine blk_drew ?_ | refine blk_alloc ?_ _)); exact BK147.out) hb); have n6_ := Aside0.mk (blk_below (g := gb154) (o := .cells #[.slice Ao12 t148.length co12, .slice Ao18 t151.length co18] 38 (0, 0)) (by (with_reducible repeat (first | refine blk_drewN ?_ _ | refine blk_drew ?_ | refine blk_alloc ?_ _)); refine blk_put (cs := #[.slice Ao12 t148.length co12, .slice none 0 0]) ?_ 1 _ rfl; (with_reducible repeat (first | refine blk_drewN ?_ _ | refine blk_drew ?_ | refine blk_alloc ?_ _)); refine blk_put (cs := #[.slice none 0 0, .slice none 0 0]) ?_ 0 _ rfl; (with_reducible repeat (first | refine blk_drewN ?_ _ | refine blk_drew ?_ | refine blk_alloc ?_ _)); exact BK154.out) hb); have n7_ := Aside0.mk (below_step (by repeat (first | (with_reducible first | exact HB.out | apply below_alloc | apply pw_below_drewN | apply below_drew1 | refine below_set ?_ GE144.out | refine below_set ?_ GE145.out | refine below_set ?_ GE146.out | refine below_set ?_ GE147.out | refine below_set ?_ GE154.out) | exact HB.out)) hb); clear HO150; clear HO153; clear BK144; clear BK145; clear BK146; clear BK147; clear BK154; clear HB; have HO150 := n0_; have HO153 := n1_; have BK144 := n2_; have BK145 := n3_; have BK146 := n4_; have BK147 := n5_; have BK154 := n6_; have HB := n7_; clear n0_ n1_ n2_ n3_ n4_ n5_ n6_ n7_; (try clear hb); (try clear hb2); (try clear hk); (try clear hi); have hnb20 := NB145_144.out; have hnc20 := NB144_145.out; have hnb21 := NB145_146.out; have hnc21 := NB146_145.out; have hnb22 := NB145_147.out; have hnc22 := NB147_145.out; have hcz23_0 : w19.cell? ⟨gb145, 0, none⟩ = some (.string (⟨#[]⟩ : ByteArray)) := (blk_cell BK145.out 0).trans rfl; have hfz23_0 := blk_frozen BK145.out 0; have hnb24 := NB146_144.out; have hnc24 := NB144_146.out; have hnb25 := NB146_147.out; have hnc25 := NB147_146.out; have hcz26_0 : w19.cell? ⟨gb146, 0, none⟩ = some (.bool false) := (blk_cell BK146.out 0).trans rfl; have hfz26_0 := blk_frozen BK146.out 0))
  have n0_ : Aside0 (Kd.R Kd.string 9 ((w19.setCell ⟨gb145, 0, none⟩ (.string t155)).setCell ⟨gb146, 0, none⟩ (.bool t156)) w.heap.size (fun k_ => some k_ ≠ (.slice Ao18 t151.length co18 : Value).ownBlock ∧ k_ ≠ gb145) (.slice Ao12 t148.length co12) t148) := ⟨by (with_reducible repeat (first | apply Kd.R_alloc | apply Kd.R_drewN | apply Kd.R_drew)); exact Kd.R_mono (Kd.R_far (p := ⟨gb146, 0, none⟩) (Kd.R_far (p := ⟨gb145, 0, none⟩) (Kd.R_types (Kd.R_mono HO150.out (fun k_ hk => (⟨hk, hk.2⟩ : _ ∧ k_ ≠ gb145))) BK146.out (by decide)) (fun _ hk => hk.1.2) (.string t155)) (fun _ hk => hk.2) (.bool t156)) (fun _ hk => ⟨hk.1.1.1, hk.1.1.2⟩)⟩
  have n1_ : Aside0 (Kd.R Kd.string 9 ((w19.setCell ⟨gb145, 0, none⟩ (.string t155)).setCell ⟨gb146, 0, none⟩ (.bool t156)) w.heap.size (fun k_ => some k_ ≠ (.slice Ao12 t148.length co12 : Value).ownBlock ∧ k_ ≠ gb145) (.slice Ao18 t151.length co18) t151) := ⟨by (with_reducible repeat (first | apply Kd.R_alloc | apply Kd.R_drewN | apply Kd.R_drew)); exact Kd.R_mono (Kd.R_far (p := ⟨gb146, 0, none⟩) (Kd.R_far (p := ⟨gb145, 0, none⟩) (Kd.R_types (Kd.R_mono HO153.out (fun k_ hk => (⟨hk, hk.2⟩ : _ ∧ k_ ≠ gb145))) BK146.out (by decide)) (fun _ hk => hk.1.2) (.string t155)) (fun _ hk => hk.2) (.bool t156)) (fun _ hk => ⟨hk.1.1.1, hk.1.1.2⟩)⟩
  have n2_ : Aside0 (((w19.setCell ⟨gb145, 0, none⟩ (.string t155)).setCell ⟨gb146, 0, none⟩ (.bool t156)).heap[gb144]? = some (.cells #[.int .i64 0] 3 (0, 0))) := ⟨by (with_reducible repeat (first | refine blk_drewN ?_ _ | refine blk_drew ?_ | refine blk_alloc ?_ _)); refine blk_far ?_ NB144_146.out _; (with_reducible repeat (first | refine blk_drewN ?_ _ | refine blk_drew ?_ | refine blk_alloc ?_ _)); refine blk_far ?_ NB144_145.out _; (with_reducible repeat (first | refine blk_drewN ?_ _ | refine blk_drew ?_ | refine blk_alloc ?_ _)); exact BK144.out⟩
  have n3_ : Aside0 (((w19.setCell ⟨gb145, 0, none⟩ (.string t155)).setCell ⟨gb146, 0, none⟩ (.bool t156)).heap[gb145]? = some (.cells #[.string t155] 9 (0, 0))) := ⟨by (with_reducible repeat (first | refine blk_drewN ?_ _ | refine blk_drew ?_ | refine blk_alloc ?_ _)); refine blk_far ?_ NB145_146.out _; (with_reducible repeat (first | refine blk_drewN ?_ _ | refine blk_drew ?_ | refine blk_alloc ?_ _)); refine blk_put (cs := #[.string (⟨#[]⟩ : ByteArray)]) ?_ 0 _ rfl; (with_reducible repeat (first | refine blk_drewN ?_ _ | refine blk_drew ?_ | refine blk_alloc ?_ _)); exact BK145.out⟩
  have n4_ : Aside0 (((w19.setCell ⟨gb145, 0, none⟩ (.string t155)).setCell ⟨gb146, 0, none⟩ (.bool t156)).heap[gb146]? = some (.cells #[.bool t156] 4 (0, 0))) := ⟨by (with_reducible repeat (first | refine blk_drewN ?_ _ | refine blk_drew ?_ | refine blk_alloc ?_ _)); refine blk_put (cs := #[.bool false]) ?_ 0 _ rfl; (with_reducible repeat (first | refine blk_drewN ?_ _ | refine blk_drew ?_ | refine blk_alloc ?_ _)); refine blk_far ?_ NB146_145.out _; (with_reducible repeat (first | refine blk_drewN ?_ _ | refine blk_drew ?_ | refine blk_alloc ?_ _)); exact BK146.out⟩
  have n5_ : Aside0 (((w19.setCell ⟨gb145, 0, none⟩ (.string t155)).setCell ⟨gb146, 0, none⟩ (.bool t156)).heap[gb147]? = some (.cells #[.bool false] 4 (0, 0))) := ⟨by (with_reducible repeat (first | refine blk_drewN ?_ _ | refine blk_drew ?_ | refine blk_alloc ?_ _)); refine blk_far ?_ NB147_146.out _; (with_reducible repeat (first | refine blk_drewN ?_ _ | refine blk_drew ?_ | refine blk_alloc ?_ _)); refine blk_far ?_ NB147_145.out _; (with_reducible repeat (first | refine blk_drewN ?_ _ | refine blk_drew ?_ | refine blk_alloc ?_ _)); exact BK147.out⟩
  have n6_ : Aside0 (((w19.setCell ⟨gb145, 0, none⟩ (.string t155)).setCell ⟨gb146, 0, none⟩ (.bool t156)).heap[gb154]? = some (.cells #[.slice Ao12 t148.length co12, .slice Ao18 t151.length co18] 38 (0, 0))) := ⟨by (with_reducible repeat (first | refine blk_drewN ?_ _ | refine blk_drew ?_ | refine blk_alloc ?_ _)); refine blk_far ?_ NB154_146.out _; (with_reducible repeat (first | refine blk_drewN ?_ _ | refine blk_drew ?_ | refine blk_alloc ?_ _)); refine blk_far ?_ NB154_145.out _; (with_reducible repeat (first | refine blk_drewN ?_ _ | refine blk_drew ?_ | refine blk_alloc ?_ _)); exact BK154.out⟩
  have n7_ : Aside0 (Below w.heap.size w ((w19.setCell ⟨gb145, 0, none⟩ (.string t155)).setCell ⟨gb146, 0, none⟩ (.bool t156))) := ⟨by repeat (first | (with_reducible first | exact HB.out | apply below_alloc | apply pw_below_drewN | apply below_drew1 | refine below_set ?_ GE144.out | refine below_set ?_ GE145.out | refine below_set ?_ GE146.out | refine below_set ?_ GE147.out | refine below_set ?_ GE154.out) | exact HB.out)⟩
  (try clear HO150)
  (try clear HO153)
  (try clear BK144)
  (try clear BK145)
  (try clear BK146)
  (try clear BK147)
  (try clear BK154)
  (try clear HB)
  generalize ((w19.setCell ⟨gb145, 0, none⟩ (.string t155)).setCell ⟨gb146, 0, none⟩ (.bool t156)) = w27 at n0_ n1_ n2_ n3_ n4_ n5_ n6_ n7_ ⊢
  have HO150 := n0_
  have HO153 := n1_
  have BK144 := n2_
  have BK145 := n3_
  have BK146 := n4_
  have BK147 := n5_
  have BK154 := n6_
  have HB := n7_
  clear n0_ n1_ n2_ n3_ n4_ n5_ n6_ n7_
  have n0_ := Aside0.mk (Kd.R_drew HO150.out)
  have n1_ := Aside0.mk (Kd.R_drew HO153.out)
  have n2_ := Aside0.mk (blk_drew BK144.out)
  have n3_ := Aside0.mk (blk_drew BK145.out)
  have n4_ := Aside0.mk (blk_drew BK146.out)
  have n5_ := Aside0.mk (blk_drew BK147.out)
  have n6_ := Aside0.mk (blk_drew BK154.out)
  have n7_ := Aside0.mk (below_drew1 HB.out)
  clear HO150
  clear HO153
  clear BK144
  clear BK145
  clear BK146
  clear BK147
  clear BK154
  clear HB
  have HO150 := n0_
  have HO153 := n1_
  have BK144 := n2_
  have BK145 := n3_
  have BK146 := n4_
  have BK147 := n5_
  have BK154 := n6_
  have HB := n7_
  clear n0_ n1_ n2_ n3_ n4_ n5_ n6_ n7_
  refine start_ (n := 9) (S := fun w' => w'.cell? ⟨gb154, 0, none⟩ = some (.slice Ao12 t148.length co12) ∧ w'.cell? ⟨gb154, 1, none⟩ = some (.slice Ao18 t151.length co18) ∧ w'.cell? ⟨gb145, 0, none⟩ = some (.string t155) ∧ w'.cell? ⟨gb146, 0, none⟩ = some (.bool t156)) (ds := []) #[false, false, false, false, false, false, false, false, false] (by kernel_rfl) rfl rfl ⟨(blk_cell BK154.out 0).trans rfl, (blk_cell BK154.out 1).trans rfl, (blk_cell BK145.out 0).trans rfl, (blk_cell BK146.out 0).trans rfl⟩ (fun hHeld => ?_); refine with_tabW impl_MetaFind.tab4 impl_MetaFind.bits4 (fun HT_ HW_ => ?_)
  generalize w27.drew = w28 at HO150 HO153 BK144 BK145 BK146 BK147 BK154 HB hHeld ⊢
  refine pure_ (i := 1) (N := some 19) (v := ?_) (a' := ?_) #[false, true, false, false, false, false, false, false, false] rfl rfl (any_of HT_.out (by kernel_rfl)) (fun _ _ _ h => h) (Or.inl ⟨by rfl, ?_⟩) ?_ ?_
  rotate_left
  · intro w'
    go_simp
    with_reducible rfl
  rotate_left
  · simp only [Act.put, List.setIfInBounds_toArray, List.set_cons_zero, List.set_cons_succ, i64_w, i32_w]
    rfl
  refine take_ (i := 0) (N := some 18) (v := ?_) (a' := ?_) #[true, true, false, false, false, false, false, false, false] rfl rfl (take_ofW HT_.out HW_.out (by kernel_rfl)) (fun _ _ _ h => h) (Or.inl ⟨by rfl, ?_⟩) hHeld ?_ ?_
  rotate_left
  · rintro w' ⟨s0, s1, s2, s3⟩
    go_simp
    with_reducible rfl
  rotate_left
  · simp only [Act.put, List.setIfInBounds_toArray, List.set_cons_zero, List.set_cons_succ, i64_w, i32_w]
    rfl
  refine take_ (i := 3) (N := some 21) (v := ?_) (a' := ?_) #[true, true, false, true, false, false, false, false, false] rfl rfl (take_ofW HT_.out HW_.out (by kernel_rfl)) (fun _ _ _ h => h) (Or.inl ⟨by rfl, ?_⟩) hHeld ?_ ?_
  rotate_left
  · rintro w' ⟨s0, s1, s2, s3⟩
    go_simp
    with_reducible rfl
  rotate_left
  · simp only [Act.put, List.setIfInBounds_toArray, List.set_cons_zero, List.set_cons_succ, i64_w, i32_w]
    rfl
  refine take_ (i := 4) (N := some 22) (v := ?_) (a' := ?_) #[true, true, false, true, true, false, false, false, false] rfl rfl (take_ofW HT_.out HW_.out (by kernel_rfl)) (fun _ _ _ h => h) (Or.inl ⟨by rfl, ?_⟩) hHeld ?_ ?_
  rotate_left
  · rintro w' ⟨s0, s1, s2, s3⟩
    go_simp
    with_reducible rfl
  rotate_left
  · simp only [Act.put, List.setIfInBounds_toArray, List.set_cons_zero, List.set_cons_succ, i64_w, i32_w]
    rfl
  refine one_ (i := 2) (N := some 20) #[true, true, true, true, true, false, false, false, false] rfl rfl (one_of HT_.out (by kernel_rfl)) (by decide) (fun K hK => ?_)
  refine goes_ Try.func21 (by kernel_rfl) rfl #[.agg #[.slice Ao12 t148.length co12, .slice Ao18 t151.length co18], .string a1] (by rfl) rfl rfl (by (try simp only [List.map_toArray, List.map_cons, List.map_nil]); first | done | rfl | (simp only [List.length_drop, List.length_take]; rfl)) ?_
  with_reducible refine (arrow_Metadata_FindKey.calls k _ _ t148 _ _ t151 a1 t157 _ ?side1 ?side2 ?side3 ?side4 A5.out).mono ?_
  (case side1 => repeat (first | exact (Kd.R_reads' HO150.out).2.2 | (with_reducible refine Kd.C_alloc ?_ _) | (with_reducible refine Kd.C_drewN ?_ _) | (with_reducible refine Kd.C_drew ?_)))
  (case side2 => exact (Kd.R_reads' HO150.out).2.1)
  (case side3 => repeat (first | exact (Kd.R_reads' HO153.out).2.2 | (with_reducible refine Kd.C_alloc ?_ _) | (with_reducible refine Kd.C_drewN ?_ _) | (with_reducible refine Kd.C_drew ?_)))
  (case side4 => exact (Kd.R_reads' HO153.out).2.1)
  rintro e w29 ⟨rfl, hb⟩
  refine ⟨_, rfl, ?_⟩
  have n0_ := Aside0.mk (Kd.R_below (by (with_reducible repeat (first | apply Kd.R_alloc | apply Kd.R_drewN | apply Kd.R_drew)); exact HO150.out) hb)
  have n1_ := Aside0.mk (Kd.R_below (by (with_reducible repeat (first | apply Kd.R_alloc | apply Kd.R_drewN | apply Kd.R_drew)); exact HO153.out) hb)
  have n2_ := Aside0.mk (blk_below (g := gb144) (o := .cells #[.int .i64 0] 3 (0, 0)) (by (with_reducible repeat (first | refine blk_drewN ?_ _ | refine blk_drew ?_ | refine blk_alloc ?_ _)); exact BK144.out) hb)
  have n3_ := Aside0.mk (blk_below (g := gb145) (o := .cells #[.string t155] 9 (0, 0)) (by (with_reducible repeat (first | refine blk_drewN ?_ _ | refine blk_drew ?_ | refine blk_alloc ?_ _)); exact BK145.out) hb)
  have n4_ := Aside0.mk (blk_below (g := gb146) (o := .cells #[.bool t156] 4 (0, 0)) (by (with_reducible repeat (first | refine blk_drewN ?_ _ | refine blk_drew ?_ | refine blk_alloc ?_ _)); exact BK146.out) hb)
  have n5_ := Aside0.mk (blk_below (g := gb147) (o := .cells #[.bool false] 4 (0, 0)) (by (with_reducible repeat (first | refine blk_drewN ?_ _ | refine blk_drew ?_ | refine blk_alloc ?_ _)); exact BK147.out) hb)
  have n6_ := Aside0.mk (blk_below (g := gb154) (o := .cells #[.slice Ao12 t148.length co12, .slice Ao18 t151.length co18] 38 (0, 0)) (by (with_reducible repeat (first | refine blk_drewN ?_ _ | refine blk_drew ?_ | refine blk_alloc ?_ _)); exact BK154.out) hb)
  have n7_ := Aside0.mk (below_step (by repeat (first | (with_reducible first | exact HB.out | apply below_alloc | apply pw_below_drewN | apply below_drew1 | refine below_set ?_ GE144.out | refine below_set ?_ GE145.out | refine below_set ?_ GE146.out | refine below_set ?_ GE147.out | refine below_set ?_ GE154.out) | exact HB.out)) hb)
  clear HO150
  clear HO153
  clear BK144
  clear BK145
  clear BK146
  clear BK147
  clear BK154
  clear HB
  have HO150 := n0_
  have HO153 := n1_
  have BK144 := n2_
  have BK145 := n3_
  have BK146 := n4_
  have BK147 := n5_
  have BK154 := n6_
  have HB := n7_
  clear n0_ n1_ n2_ n3_ n4_ n5_ n6_ n7_
  (try clear hb)
  (try clear hb2)
  (try clear hk)
  (try clear hi)
  refine hK.out _ _ ⟨(blk_cell BK154.out 0).trans rfl, (blk_cell BK154.out 1).trans rfl, (blk_cell BK145.out 0).trans rfl, (blk_cell BK146.out 0).trans rfl⟩ (fun hHeld => ?_)
  clear hK K
  refine norm_ (a' := ?_) ?_ ?_
  rotate_left
  · show Act.put _ (some 20) _ = _
    simp only [Act.put, List.setIfInBounds_toArray, List.set_cons_zero, List.set_cons_succ, i64_w, i32_w]
    rfl
  refine one_ (i := 5) (N := none) #[true, true, true, true, true, true, false, false, false] rfl rfl (one_of HT_.out (by kernel_rfl)) (by decide) (fun K hK => ?_)
  have hs30 : w29.cell? ⟨gb144, 0, none⟩ = some (.int .i64 0) := (blk_cell BK144.out 0).trans rfl
  have hfs30 := blk_frozen BK144.out 0
  have hns30_1 := NB145_144.out
  have hns30_2 := NB146_144.out
  have hns30_3 := NB147_144.out
  have hns30_4 := NB154_144.out
  have hms30_1 := NB144_145.out
  have hms30_2 := NB144_146.out
  have hms30_3 := NB144_147.out
  have hms30_4 := NB144_154.out
  refine skip_ (w1 := ?_) (by rfl) rfl ?_ ?_
  rotate_left
  · go_simp
    rfl
  refine hK.out _ _ ⟨((cell_far (p := ⟨gb144, _, none⟩) NB154_144.out _).trans (hHeld.1)), ((cell_far (p := ⟨gb144, _, none⟩) NB154_144.out _).trans (hHeld.2.1)), ((cell_far (p := ⟨gb144, _, none⟩) NB145_144.out _).trans (hHeld.2.2.1)), ((cell_far (p := ⟨gb144, _, none⟩) NB146_144.out _).trans (hHeld.2.2.2))⟩ (fun hHeld => ?_)
  clear hK K
  refine one_ (i := 6) (N := none) #[true, true, true, true, true, true, true, false, false] rfl rfl (one_of HT_.out (by kernel_rfl)) (by decide) (fun K hK => ?_)
  have hs31 : w29.cell? ⟨gb145, 0, none⟩ = some (.string t155) := (blk_cell BK145.out 0).trans rfl
  have hfs31 := blk_frozen BK145.out 0
  have hns31_0 := NB144_145.out
  have hns31_2 := NB146_145.out
  have hns31_3 := NB147_145.out
  have hns31_4 := NB154_145.out
  have hms31_0 := NB145_144.out
  have hms31_2 := NB145_146.out
  have hms31_3 := NB145_147.out
  have hms31_4 := NB145_154.out
  refine skip_ (w1 := ?_) (by rfl) rfl ?_ ?_
  rotate_left
  · go_simp
    rfl
  refine hK.out _ _ ⟨((cell_far (p := ⟨gb145, _, none⟩) NB154_145.out _).trans (hHeld.1)), ((cell_far (p := ⟨gb145, _, none⟩) NB154_145.out _).trans (hHeld.2.1)), (Aid.cell_same (hHeld.2.2.1)), ((cell_far (p := ⟨gb145, _, none⟩) NB146_145.out _).trans (hHeld.2.2.2))⟩ (fun hHeld => ?_)
  clear hK K
  refine one_ (i := 7) (N := none) #[true, true, true, true, true, true, true, true, false] rfl rfl (one_of HT_.out (by kernel_rfl)) (by decide) (fun K hK => ?_)
  have hs32 : w29.cell? ⟨gb146, 0, none⟩ = some (.bool t156) := (blk_cell BK146.out 0).trans rfl
  have hfs32 := blk_frozen BK146.out 0
  have hns32_0 := NB144_146.out
  have hns32_1 := NB145_146.out
  have hns32_3 := NB147_146.out
  have hns32_4 := NB154_146.out
  have hms32_0 := NB146_144.out
  have hms32_1 := NB146_145.out
  have hms32_3 := NB146_147.out
  have hms32_4 := NB146_154.out
  refine skip_ (w1 := ?_) (by rfl) rfl ?_ ?_
  rotate_left
  · go_simp
    rfl
  refine hK.out _ _ ⟨((cell_far (p := ⟨gb146, _, none⟩) NB154_146.out _).trans (hHeld.1)), ((cell_far (p := ⟨gb146, _, none⟩) NB154_146.out _).trans (hHeld.2.1)), ((cell_far (p := ⟨gb146, _, none⟩) NB145_146.out _).trans (hHeld.2.2.1)), (Aid.cell_same (hHeld.2.2.2))⟩ (fun hHeld => ?_)
  clear hK K
  refine one_ (i := 8) (N := none) #[true, true, true, true, true, true, true, true, true] rfl rfl (one_of HT_.out (by kernel_rfl)) (by decide) (fun K hK => ?_)
  have hs33 : w29.cell? ⟨gb147, 0, none⟩ = some (.bool false) := (blk_cell BK147.out 0).trans rfl
  have hfs33 := blk_frozen BK147.out 0
  have hns33_0 := NB144_147.out
  have hns33_1 := NB145_147.out
  have hns33_2 := NB146_147.out
  have hns33_4 := NB154_147.out
  have hms33_0 := NB147_144.out
  have hms33_1 := NB147_145.out
  have hms33_2 := NB147_146.out
  have hms33_4 := NB147_154.out
  refine skip_ (w1 := ?_) (by rfl) rfl ?_ ?_
  rotate_left
  · go_simp
    rfl
  refine hK.out _ _ ⟨((cell_far (p := ⟨gb147, _, none⟩) NB154_147.out _).trans (hHeld.1)), ((cell_far (p := ⟨gb147, _, none⟩) NB154_147.out _).trans (hHeld.2.1)), ((cell_far (p := ⟨gb147, _, none⟩) NB145_147.out _).trans (hHeld.2.2.1)), ((cell_far (p := ⟨gb147, _, none⟩) NB146_147.out _).trans (hHeld.2.2.2))⟩ (fun hHeld => ?_)
  clear hK K
  refine done_ (done_of HT_.out (by kernel_rfl)) ?_
  try go_wp2
  (try simp only [Exit.inBlock, Exit.then])
  refine Aid.door_ (G := 18) (by simp [go_sem]) (idle18 (.pointer (some ⟨gb144, 0, none⟩)) (.pointer (some ⟨gb145, 0, none⟩)) (.pointer (some ⟨gb146, 0, none⟩)) (.pointer (some ⟨gb147, 0, none⟩))) (Aid.resultsB_list (rs := [.cell 4 3, .cell 5 9, .cell 6 4, .cell 7 4]) rfl (by simp) (.one gb144 3 (.int .i64 t157) _ rfl (by (with_reducible repeat (first | refine blk_drewN ?_ _ | refine blk_drew ?_ | refine blk_alloc ?_ _)); refine blk_far ?_ NB144_147.out _; (with_reducible repeat (first | refine blk_drewN ?_ _ | refine blk_drew ?_ | refine blk_alloc ?_ _)); refine blk_far ?_ NB144_146.out _; (with_reducible repeat (first | refine blk_drewN ?_ _ | refine blk_drew ?_ | refine blk_alloc ?_ _)); refine blk_far ?_ NB144_145.out _; (with_reducible repeat (first | refine blk_drewN ?_ _ | refine blk_drew ?_ | refine blk_alloc ?_ _)); refine blk_put (cs := #[.int .i64 0]) ?_ 0 _ rfl; (with_reducible repeat (first | refine blk_drewN ?_ _ | refine blk_drew ?_ | refine blk_alloc ?_ _)); exact BK144.out) Try.underlying3 rfl (.one gb145 9 (.string t155) _ rfl (by (with_reducible repeat (first | refine blk_drewN ?_ _ | refine blk_drew ?_ | refine blk_alloc ?_ _)); refine blk_far ?_ NB145_147.out _; (with_reducible repeat (first | refine blk_drewN ?_ _ | refine blk_drew ?_ | refine blk_alloc ?_ _)); refine blk_far ?_ NB145_146.out _; (with_reducible repeat (first | refine blk_drewN ?_ _ | refine blk_drew ?_ | refine blk_alloc ?_ _)); refine blk_put (cs := #[.string t155]) ?_ 0 _ rfl; (with_reducible repeat (first | refine blk_drewN ?_ _ | refine blk_drew ?_ | refine blk_alloc ?_ _)); refine blk_far ?_ NB145_144.out _; (with_reducible repeat (first | refine blk_drewN ?_ _ | refine blk_drew ?_ | refine blk_alloc ?_ _)); exact BK145.out) Try.underlying9 rfl (.one gb146 4 (.bool t156) _ rfl (by (with_reducible repeat (first | refine blk_drewN ?_ _ | refine blk_drew ?_ | refine blk_alloc ?_ _)); refine blk_far ?_ NB146_147.out _; (with_reducible repeat (first | refine blk_drewN ?_ _ | refine blk_drew ?_ | refine blk_alloc ?_ _)); refine blk_put (cs := #[.bool t156]) ?_ 0 _ rfl; (with_reducible repeat (first | refine blk_drewN ?_ _ | refine blk_drew ?_ | refine blk_alloc ?_ _)); refine blk_far ?_ NB146_145.out _; (with_reducible repeat (first | refine blk_drewN ?_ _ | refine blk_drew ?_ | refine blk_alloc ?_ _)); refine blk_far ?_ NB146_144.out _; (with_reducible repeat (first | refine blk_drewN ?_ _ | refine blk_drew ?_ | refine blk_alloc ?_ _)); exact BK146.out) Try.underlying4 rfl (.one gb147 4 (.bool true) _ rfl (by (with_reducible repeat (first | refine blk_drewN ?_ _ | refine blk_drew ?_ | refine blk_alloc ?_ _)); refine blk_put (cs := #[.bool false]) ?_ 0 _ rfl; (with_reducible repeat (first | refine blk_drewN ?_ _ | refine blk_drew ?_ | refine blk_alloc ?_ _)); refine blk_far ?_ NB147_146.out _; (with_reducible repeat (first | refine blk_drewN ?_ _ | refine blk_drew ?_ | refine blk_alloc ?_ _)); refine blk_far ?_ NB147_145.out _; (with_reducible repeat (first | refine blk_drewN ?_ _ | refine blk_drew ?_ | refine blk_alloc ?_ _)); refine blk_far ?_ NB147_144.out _; (with_reducible repeat (first | refine blk_drewN ?_ _ | refine blk_drew ?_ | refine blk_alloc ?_ _)); exact BK147.out) Try.underlying4 rfl .nil))))) ?_
  exact ⟨by first | rfl | (simp [errW_none, errW_some] <;> rfl) | (simp [*, errW_none, errW_some] <;> rfl), by repeat (first | (with_reducible first | exact HB.out | apply below_alloc | apply pw_below_drewN | apply below_drew1 | refine below_set ?_ GE144.out | refine below_set ?_ GE145.out | refine below_set ?_ GE146.out | refine below_set ?_ GE147.out | refine below_set ?_ GE154.out) | exact HB.out)⟩

/-! ### laws_FnMetaFind: function 5 -/
mutual
def laws_FnMetaFind.j0 : Nat → List (S30) → ByteArray → Bool → Option (Bool)
  | 0, _, _, _ => none
  | k + 1, x0, x1, x21 => if x21 = true then (some true) else ((impl_MetaFind.f k (([(⟨(⟨#[97]⟩ : ByteArray), (⟨#[98]⟩ : ByteArray)⟩ : S30)] : List (S30))) (⟨#[97]⟩ : ByteArray)).bind fun bt162 => (if bt162.2.2.2 = true then (if bt162.2.2.1 = true then (laws_FnMetaFind.j1 k x0 x1 (bt162.1 == 0)) else (laws_FnMetaFind.j1 k x0 x1 false)) else (laws_FnMetaFind.j1 k x0 x1 false)))
def laws_FnMetaFind.j1 : Nat → List (S30) → ByteArray → Bool → Option (Bool)
  | 0, _, _, _ => none
  | k + 1, x0, x1, x9 => if (x0.length : Int) > 100 then (some x9) else ((impl_MetaFind.f k x0 x1).bind fun bt166 => (laws_FnMetaFind.l0 k x1 bt166.2.2.1 bt166.2.2.2 x9 bt166.1 bt166.2.1 x0 (x0.length : Int) 0))
def laws_FnMetaFind.l0 : Nat → ByteArray → Bool → Bool → Bool → Int → ByteArray → List (S30) → Int → Int → Option (Bool)
  | 0, _, _, _, _, _, _, _, _, _ => none
  | k + 1, x1, x7, x8, x9, x10, x11, x50, x51, x52 => if x52 < x51 then (if 0 ≤ x52 then (if x52 < (x50.length : Int) then (if ((rd_T30 x50 x52).f0).toList = x1.toList then (if x8 = true then (if x7 = true then (if x10 = x52 then (if x11.toList = ((rd_T30 x50 x52).f1).toList then (some x9) else (some false)) else (some false)) else (some false)) else (some false)) else (laws_FnMetaFind.l0 k x1 x7 x8 x9 x10 x11 x50 x51 (wrap64 (x52 + 1)))) else (none)) else (none)) else (if x8 = true then (if x7 = true then (some false) else (if x10 = (-1) then (some x9) else (some false))) else (some false))
end
def laws_FnMetaFind.f (k : Nat) (l0 : List (S30)) (a1 : ByteArray) : Option (Bool) := (laws_zzFits4.f k l0).bind fun t158 => (if t158 = true then (laws_FnMetaFind.j0 k l0 a1 (decide ((a1.size : Int) > 2147483647))) else (laws_FnMetaFind.j0 k l0 a1 true))
theorem laws_FnMetaFind.mono_l : ∀ k, (∀ y0 y1 y2, LeO (laws_FnMetaFind.j0 k y0 y1 y2) (laws_FnMetaFind.j0 (k + 1) y0 y1 y2)) ∧ (∀ y0 y1 y2, LeO (laws_FnMetaFind.j1 k y0 y1 y2) (laws_FnMetaFind.j1 (k + 1) y0 y1 y2)) ∧ (∀ y0 y1 y2 y3 y4 y5 y6 y7 y8, LeO (laws_FnMetaFind.l0 k y0 y1 y2 y3 y4 y5 y6 y7 y8) (laws_FnMetaFind.l0 (k + 1) y0 y1 y2 y3 y4 y5 y6 y7 y8))
  | 0 => ⟨fun _ _ _ r h => by simp [laws_FnMetaFind.j0] at h, fun _ _ _ r h => by simp [laws_FnMetaFind.j1] at h, fun _ _ _ _ _ _ _ _ _ r h => by simp [laws_FnMetaFind.l0] at h⟩
  | k + 1 => by
    obtain ⟨ih0, ih1, ih2⟩ := laws_FnMetaFind.mono_l k
    refine ⟨?_, ?_, ?_⟩
    · intro y0 y1 y2
      unfold laws_FnMetaFind.j0
      repeat' first
      | (with_reducible exact ih0 _ _ _)
      | (with_reducible exact ih1 _ _ _)
      | (with_reducible exact ih2 _ _ _ _ _ _ _ _ _)
      | (with_reducible exact impl_MetaFind.mono _ _ _)
      | (with_reducible exact laws_zzFits4.mono _ _)
      | (with_reducible exact LeO.refl _)
      | (with_reducible exact LeO.none _)
      | (with_reducible refine LeO.ite ?_ ?_)
      | (with_reducible refine LeO.bind ?_ (fun _ => ?_))
      | exact ih0 _ _ _
      | exact ih1 _ _ _
      | exact ih2 _ _ _ _ _ _ _ _ _
      | exact impl_MetaFind.mono _ _ _
      | exact laws_zzFits4.mono _ _
      | exact LeO.none _
      | refine LeO.ite ?_ ?_
      | refine LeO.bind ?_ (fun _ => ?_)
    · intro y0 y1 y2
      unfold laws_FnMetaFind.j1
      repeat' first
      | (with_reducible exact ih0 _ _ _)
      | (with_reducible exact ih1 _ _ _)
      | (with_reducible exact ih2 _ _ _ _ _ _ _ _ _)
      | (with_reducible exact impl_MetaFind.mono _ _ _)
      | (with_reducible exact laws_zzFits4.mono _ _)
      | (with_reducible exact LeO.refl _)
      | (with_reducible exact LeO.none _)
      | (with_reducible refine LeO.ite ?_ ?_)
      | (with_reducible refine LeO.bind ?_ (fun _ => ?_))
      | exact ih0 _ _ _
      | exact ih1 _ _ _
      | exact ih2 _ _ _ _ _ _ _ _ _
      | exact impl_MetaFind.mono _ _ _
      | exact laws_zzFits4.mono _ _
      | exact LeO.none _
      | refine LeO.ite ?_ ?_
      | refine LeO.bind ?_ (fun _ => ?_)
    · intro y0 y1 y2 y3 y4 y5 y6 y7 y8
      unfold laws_FnMetaFind.l0
      repeat' first
      | (with_reducible exact ih0 _ _ _)
      | (with_reducible exact ih1 _ _ _)
      | (with_reducible exact ih2 _ _ _ _ _ _ _ _ _)
      | (with_reducible exact impl_MetaFind.mono _ _ _)
      | (with_reducible exact laws_zzFits4.mono _ _)
      | (with_reducible exact LeO.refl _)
      | (with_reducible exact LeO.none _)
      | (with_reducible refine LeO.ite ?_ ?_)
      | (with_reducible refine LeO.bind ?_ (fun _ => ?_))
      | exact ih0 _ _ _
      | exact ih1 _ _ _
      | exact ih2 _ _ _ _ _ _ _ _ _
      | exact impl_MetaFind.mono _ _ _
      | exact laws_zzFits4.mono _ _
      | exact LeO.none _
      | refine LeO.ite ?_ ?_
      | refine LeO.bind ?_ (fun _ => ?_)
theorem laws_FnMetaFind.mono : ∀ a0 a1 k, LeO (laws_FnMetaFind.f k a0 a1) (laws_FnMetaFind.f (k + 1) a0 a1) := by
  intro a0 a1 k
  obtain ⟨ih0, ih1, ih2⟩ := laws_FnMetaFind.mono_l k
  unfold laws_FnMetaFind.f
  repeat' first
      | (with_reducible exact ih0 _ _ _)
      | (with_reducible exact ih1 _ _ _)
      | (with_reducible exact ih2 _ _ _ _ _ _ _ _ _)
      | (with_reducible exact impl_MetaFind.mono _ _ _)
      | (with_reducible exact laws_zzFits4.mono _ _)
      | (with_reducible exact LeO.refl _)
      | (with_reducible exact LeO.none _)
      | (with_reducible refine LeO.ite ?_ ?_)
      | (with_reducible refine LeO.bind ?_ (fun _ => ?_))
      | exact ih0 _ _ _
      | exact ih1 _ _ _
      | exact ih2 _ _ _ _ _ _ _ _ _
      | exact impl_MetaFind.mono _ _ _
      | exact laws_zzFits4.mono _ _
      | exact LeO.none _
      | refine LeO.ite ?_ ?_
      | refine LeO.bind ?_ (fun _ => ?_)
set_option maxHeartbeats 8000000 in
set_option maxRecDepth 100000 in
theorem laws_FnMetaFind.calls (k : Nat) (A0 : Option Addr) (c0 : Nat) (l0 : List (S30)) (a1 : ByteArray) (r : Bool) (w : World) (hr0 : Kd.C k30 w A0 l0.length l0) (hc0 : l0.length ≤ c0) (h : laws_FnMetaFind.f k l0 a1 = some r) :
    Calls Try.prog 5 #[.slice A0 l0.length c0, .string a1] w fun e w' => e = .returned (.bool r) ∧ Below w.heap.size w w' := by
  have hu30 := Try.underlying30
  have HR0 := Aside0.mk hr0
  have HC0 := Aside0.mk hc0
  clear hr0 hc0
  have HB := Aside0.mk (Below.refl w.heap.size w)
  have H : ((laws_zzFits4.f k l0).bind fun t158 => (if t158 = true then (laws_FnMetaFind.j0 k l0 a1 (decide ((a1.size : Int) > 2147483647))) else (laws_FnMetaFind.j0 k l0 a1 true))) = some r := h
  clear h
  have HC3 := Aside0.mk H
  clear H
  go_enter Try.func5, Try.ntmps5
  go_upto_region 1 with (fail)
  go_cut [21] (fun v21 wc => ∃ (kq : Nat) (x21_2 : Bool), v21 = .bool x21_2 ∧ Aside0 (laws_FnMetaFind.j0 kq l0 a1 x21_2 = some r) ∧ Aside0 (kq ≤ k) ∧ Aside0 (Below w.heap.size w wc))
  case first =>
    have H := HC3.out
    clear HC3
    replace H := Option.bind_eq_some_iff.mp H
    obtain ⟨t158, A40, H⟩ := H
    replace H : (if t158 = true then (laws_FnMetaFind.j0 k l0 a1 (decide ((a1.size : Int) > 2147483647))) else (laws_FnMetaFind.j0 k l0 a1 true)) = some r := H
    have A4 := Aside0.mk A40
    clear A40
    by_cases c5 : t158 = true
    · subst c5
      have H1 : (laws_FnMetaFind.j0 k l0 a1 (decide ((a1.size : Int) > 2147483647))) = some r := by rw [if_pos rfl] at H; exact H
      clear H
      have H := H1
      clear H1
      have H' := Aside0.mk H
      clear H
      go_wp2_with (first | ((with_reducible refine gate_callee (f := 8) rfl ?_); refine goesL_ (some 15) rfl rfl Try.func8 (by kernel_rfl) rfl #[.slice A0 l0.length c0] rfl (by (try simp only [List.map_toArray, List.map_cons, List.map_nil]); first | done | rfl | (simp only [List.length_drop, List.length_take]; rfl)) ?_; (with_reducible refine (laws_zzFits4.calls k _ _ l0 true _ ?side1 ?side2 A4.out).mono ?_); (case side1 => repeat (first | exact (Kd.C_below HR0.out HB.out) | (with_reducible refine Kd.C_alloc ?_ _) | (with_reducible refine Kd.C_drewN ?_ _) | (with_reducible refine Kd.C_drew ?_))); (case side2 => exact HC0.out); rintro e w6 ⟨rfl, hb⟩; refine ⟨_, rfl, ?_⟩; have n0_ := Aside0.mk (below_step (by repeat (first | (with_reducible first | exact HB.out | apply below_alloc | apply pw_below_drewN | apply below_drew1) | exact HB.out)) hb); clear HB; have HB := n0_; clear n0_; (try clear hb); (try clear hb2); (try clear hk); (try clear hi)))
      go_meet
      case rel => exact ⟨_, (decide ((a1.size : Int) > 2147483647)), (by first | rfl | (simp; done) | (simp [*]; done)), H', ⟨by first | omega | exact Nat.le_refl _⟩, ⟨by repeat (first | (with_reducible first | exact HB.out | apply below_alloc | apply pw_below_drewN | apply below_drew1) | exact HB.out)⟩⟩
    · replace c5 := Bool.eq_false_iff.mpr c5
      subst c5
      have H1 : (laws_FnMetaFind.j0 k l0 a1 true) = some r := by rw [if_neg (show ¬ (false = true) by decide)] at H; exact H
      clear H
      have H := H1
      clear H1
      have H' := Aside0.mk H
      clear H
      go_wp2_with (first | ((with_reducible refine gate_callee (f := 8) rfl ?_); refine goesL_ (some 15) rfl rfl Try.func8 (by kernel_rfl) rfl #[.slice A0 l0.length c0] rfl (by (try simp only [List.map_toArray, List.map_cons, List.map_nil]); first | done | rfl | (simp only [List.length_drop, List.length_take]; rfl)) ?_; (with_reducible refine (laws_zzFits4.calls k _ _ l0 false _ ?side1 ?side2 A4.out).mono ?_); (case side1 => repeat (first | exact (Kd.C_below HR0.out HB.out) | (with_reducible refine Kd.C_alloc ?_ _) | (with_reducible refine Kd.C_drewN ?_ _) | (with_reducible refine Kd.C_drew ?_))); (case side2 => exact HC0.out); rintro e w7 ⟨rfl, hb⟩; refine ⟨_, rfl, ?_⟩; have n0_ := Aside0.mk (below_step (by repeat (first | (with_reducible first | exact HB.out | apply below_alloc | apply pw_below_drewN | apply below_drew1) | exact HB.out)) hb); clear HB; have HB := n0_; clear n0_; (try clear hb); (try clear hb2); (try clear hk); (try clear hi)))
      go_meet
      case rel => exact ⟨_, (true), (by first | rfl | (simp; done) | (simp [*]; done)), H', ⟨by first | omega | exact Nat.le_refl _⟩, ⟨by repeat (first | (with_reducible first | exact HB.out | apply below_alloc | apply pw_below_drewN | apply below_drew1) | exact HB.out)⟩⟩
  case rest =>
    clear HC3
    try clear p2
    try clear c5
    obtain ⟨kq, x21_2, rfl, HA, HJ2, HB⟩ := hcut
    cases kq with
    | zero => exact absurd HA.out (by simp [laws_FnMetaFind.j0])
    | succ kj2 =>
      have H := HA.out
      clear HA
      simp only [laws_FnMetaFind.j0] at H
      by_cases c8 : x21_2 = true
      · subst c8
        have H1 : (some true) = some r := by rw [if_pos rfl] at H; exact H
        clear H
        have H := H1
        clear H1
        obtain rfl := Option.some.inj H
        go_wp2
        go_ret
        exact ⟨by first | rfl | (simp [errW_none, errW_some] <;> rfl) | (simp [*, errW_none, errW_some] <;> rfl), by repeat (first | (with_reducible first | exact HB.out | apply below_alloc | apply pw_below_drewN | apply below_drew1) | exact HB.out)⟩
      · replace c8 := Bool.eq_false_iff.mpr c8
        subst c8
        have H1 : ((impl_MetaFind.f kj2 (([(⟨(⟨#[97]⟩ : ByteArray), (⟨#[98]⟩ : ByteArray)⟩ : S30)] : List (S30))) (⟨#[97]⟩ : ByteArray)).bind fun bt162 => (if bt162.2.2.2 = true then (if bt162.2.2.1 = true then (laws_FnMetaFind.j1 kj2 l0 a1 (bt162.1 == 0)) else (laws_FnMetaFind.j1 kj2 l0 a1 false)) else (laws_FnMetaFind.j1 kj2 l0 a1 false))) = some r := by rw [if_neg (show ¬ (false = true) by decide)] at H; exact H
        clear H
        have H := H1
        clear H1
        obtain ⟨y159, hy159⟩ : ∃ y_ : List (S30), y_ = (([(⟨(⟨#[97]⟩ : ByteArray), (⟨#[98]⟩ : ByteArray)⟩ : S30)] : List (S30))) := ⟨_, rfl⟩
        replace H : ((impl_MetaFind.f kj2 y159 (⟨#[97]⟩ : ByteArray)).bind fun bt162 => (if bt162.2.2.2 = true then (if bt162.2.2.1 = true then (laws_FnMetaFind.j1 kj2 l0 a1 (bt162.1 == 0)) else (laws_FnMetaFind.j1 kj2 l0 a1 false)) else (laws_FnMetaFind.j1 kj2 l0 a1 false))) = some r := by first | (rw [hy159]; with_reducible exact H) | (have H2_ := (Option.bind_some _ _).symm.trans H; rw [hy159]; with_reducible exact H2_) | (have H2_ := (Option.bind_some _ _).symm.trans H; with_reducible exact H2_) | with_reducible exact H | (rw [hy159]; exact H) | exact H
        have Ny159 := Aside0.mk hy159
        clear hy159
        replace H := Option.bind_eq_some_iff.mp H
        obtain ⟨⟨t162, t163, t164, t165⟩, A90, H⟩ := H
        replace H : (if t165 = true then (if t164 = true then (laws_FnMetaFind.j1 kj2 l0 a1 (t162 == 0)) else (laws_FnMetaFind.j1 kj2 l0 a1 false)) else (laws_FnMetaFind.j1 kj2 l0 a1 false)) = some r := H
        have A9 := Aside0.mk A90
        clear A90
        have HC10 := Aside0.mk H
        clear H
        go_upto_region 4 with (first | ((with_reducible refine gate_dst (N := 24) rfl ?_); (try (refine gate_guard (by rfl) ?_; dsimp only)); refine Kd.R_lit k30 _ 30 ?hg (N := 24) ?hd (xs := ([(⟨(⟨#[97]⟩ : ByteArray), (⟨#[98]⟩ : ByteArray)⟩ : S30)] : List (S30))) (inner := [.string (⟨#[97]⟩ : ByteArray), .string (⟨#[98]⟩ : ByteArray)]) (ok := fun _ => True) (okp := fun _ => True) ?hr ?hp (fun _ hk => hk) trivial (Below.refl _ _) (Nat.le_refl _) (by simp) ?_; (case hd => rfl); (case hg => rfl); (case hr => first | (go_simp; done) | (go_simp; rfl)); (case hp => exact (Reps.c2 (show Kd.M k30 _ _ _ (⟨(⟨#[97]⟩ : ByteArray), (⟨#[98]⟩ : ByteArray)⟩ : S30) [.string (⟨#[97]⟩ : ByteArray), .string (⟨#[98]⟩ : ByteArray)] from (k30_mkM _ _ _ (⟨(⟨#[97]⟩ : ByteArray), (⟨#[98]⟩ : ByteArray)⟩ : S30) )) (Reps.none _ _))); intro v160 w11 ho12 hb hg_ hnew_; clear hg_ hnew_; (first | rw [← Ny159.out] at ho12 | (simp only [Int.reduceToNat] at ho12; rw [← Ny159.out] at ho12)); have n0_ := Aside0.mk (Kd.R_lower ho12 (below_size (by repeat (first | (with_reducible first | exact HB.out | apply below_alloc | apply pw_below_drewN | apply below_drew1) | exact HB.out)))); have n1_ := Aside0.mk (below_step (by repeat (first | (with_reducible first | exact HB.out | apply below_alloc | apply pw_below_drewN | apply below_drew1) | exact HB.out)) hb); clear HB; have HO161 := n0_; have HB := n1_; clear n0_ n1_; clear hb ho12; obtain ⟨Ao13, co13, eo13⟩ := Kd.R_slice HO161.out; subst eo13) | ((with_reducible refine gate_callee (f := 9) rfl ?_); refine goesL_ (some 25) rfl rfl Try.func9 (by kernel_rfl) rfl #[.slice Ao13 y159.length co13, .string (⟨#[97]⟩ : ByteArray)] rfl (by (try simp only [List.map_toArray, List.map_cons, List.map_nil]); first | done | rfl | (simp only [List.length_drop, List.length_take]; rfl)) ?_; (with_reducible refine (impl_MetaFind.calls kj2 _ _ y159 (⟨#[97]⟩ : ByteArray) t162 t163 t164 t165 _ ?side1 ?side2 A9.out).mono ?_); (case side1 => repeat (first | exact (Kd.R_reads' HO161.out).2.2 | (with_reducible refine Kd.C_alloc ?_ _) | (with_reducible refine Kd.C_drewN ?_ _) | (with_reducible refine Kd.C_drew ?_))); (case side2 => exact (Kd.R_reads' HO161.out).2.1); rintro e w14 ⟨rfl, hb⟩; refine ⟨_, rfl, ?_⟩; have n0_ := Aside0.mk (Kd.R_below (by (with_reducible repeat (first | apply Kd.R_alloc | apply Kd.R_drewN | apply Kd.R_drew)); exact HO161.out) hb); have n1_ := Aside0.mk (below_step (by repeat (first | (with_reducible first | exact HB.out | apply below_alloc | apply pw_below_drewN | apply below_drew1) | exact HB.out)) hb); clear HO161; clear HB; have HO161 := n0_; have HB := n1_; clear n0_ n1_; (try clear hb); (try clear hb2); (try clear hk); (try clear hi)))
        (try simp only [Act.put, List.setIfInBounds_toArray, List.set_cons_zero, List.set_cons_succ])
        go_cut [9] (fun v9 wc => ∃ (kq : Nat) (x9_9 : Bool), v9 = .bool x9_9 ∧ Aside0 (laws_FnMetaFind.j1 kq l0 a1 x9_9 = some r) ∧ Aside0 (kq ≤ kj2) ∧ Aside0 (Below w.heap.size w wc))
        case first =>
          have H := HC10.out
          clear HC10
          by_cases c15 : t165 = true
          · subst c15
            have H1 : (if t164 = true then (laws_FnMetaFind.j1 kj2 l0 a1 (t162 == 0)) else (laws_FnMetaFind.j1 kj2 l0 a1 false)) = some r := by rw [if_pos rfl] at H; exact H
            clear H
            have H := H1
            clear H1
            by_cases c16 : t164 = true
            · subst c16
              have H1 : (laws_FnMetaFind.j1 kj2 l0 a1 (t162 == 0)) = some r := by rw [if_pos rfl] at H; exact H
              clear H
              have H := H1
              clear H1
              have H' := Aside0.mk H
              clear H
              go_wp2
              go_meet
              case rel => exact ⟨_, ((t162 == 0)), (by first | rfl | (simp; done) | (simp [*]; done)), H', ⟨by have := HJ2.out; first | omega | exact Nat.le_refl _⟩, ⟨by repeat (first | (with_reducible first | exact HB.out | apply below_alloc | apply pw_below_drewN | apply below_drew1) | exact HB.out)⟩⟩
            · replace c16 := Bool.eq_false_iff.mpr c16
              subst c16
              have H1 : (laws_FnMetaFind.j1 kj2 l0 a1 false) = some r := by rw [if_neg (show ¬ (false = true) by decide)] at H; exact H
              clear H
              have H := H1
              clear H1
              have H' := Aside0.mk H
              clear H
              go_wp2
              go_meet
              case rel => exact ⟨_, (false), (by first | rfl | (simp; done) | (simp [*]; done)), H', ⟨by have := HJ2.out; first | omega | exact Nat.le_refl _⟩, ⟨by repeat (first | (with_reducible first | exact HB.out | apply below_alloc | apply pw_below_drewN | apply below_drew1) | exact HB.out)⟩⟩
          · replace c15 := Bool.eq_false_iff.mpr c15
            subst c15
            have H1 : (laws_FnMetaFind.j1 kj2 l0 a1 false) = some r := by rw [if_neg (show ¬ (false = true) by decide)] at H; exact H
            clear H
            have H := H1
            clear H1
            have H' := Aside0.mk H
            clear H
            go_wp2
            go_meet
            case rel => exact ⟨_, (false), (by first | rfl | (simp; done) | (simp [*]; done)), H', ⟨by have := HJ2.out; first | omega | exact Nat.le_refl _⟩, ⟨by repeat (first | (with_reducible first | exact HB.out | apply below_alloc | apply pw_below_drewN | apply below_drew1) | exact HB.out)⟩⟩
        case rest =>
          clear HC10
          try clear c1
          try clear c2
          try clear p2
          try clear c5
          try clear c8
          try clear c9
          try clear c15
          try clear c16
          try clear p2
          obtain ⟨kq, x9_9, rfl, HA, HJ9, HB⟩ := hcut
          cases kq with
          | zero => exact absurd HA.out (by simp [laws_FnMetaFind.j1])
          | succ kj9 =>
            have H := HA.out
            clear HA
            simp only [laws_FnMetaFind.j1] at H
            by_cases c17 : (l0.length : Int) > 100
            · rw [if_pos c17] at H
              have c17b0 : decide (100 < (l0.length : Int)) = true := decide_eq_true c17
              have c17b1 : decide (100 < l0.length) = true := decide_eq_true (by omega)
              clear c17
              obtain rfl := Option.some.inj H
              go_wp2
              go_ret
              exact ⟨by first | rfl | (simp [errW_none, errW_some] <;> rfl) | (simp [*, errW_none, errW_some] <;> rfl), by repeat (first | (with_reducible first | exact HB.out | apply below_alloc | apply pw_below_drewN | apply below_drew1) | exact HB.out)⟩
            · rw [if_neg c17] at H
              have c17b0 : decide (100 < (l0.length : Int)) = false := decide_eq_false c17
              have c17b1 : decide (100 < l0.length) = false := decide_eq_false (by omega)
              clear c17
              replace H := Option.bind_eq_some_iff.mp H
              obtain ⟨⟨t166, t167, t168, t169⟩, A180, H⟩ := H
              replace H : (laws_FnMetaFind.l0 kj9 a1 t168 t169 x9_9 t166 t167 l0 (l0.length : Int) 0) = some r := H
              have A18 := Aside0.mk A180
              clear A180
              have H' := Aside0.mk H
              clear H
              go_wp2_with (first | ((with_reducible refine gate_callee (f := 9) rfl ?_); refine goesL_ (some 45) rfl rfl Try.func9 (by kernel_rfl) rfl #[.slice A0 l0.length c0, .string a1] rfl (by (try simp only [List.map_toArray, List.map_cons, List.map_nil]); first | done | rfl | (simp only [List.length_drop, List.length_take]; rfl)) ?_; (with_reducible refine (impl_MetaFind.calls kj9 _ _ l0 a1 t166 t167 t168 t169 _ ?side1 ?side2 A18.out).mono ?_); (case side1 => repeat (first | exact (Kd.C_below HR0.out HB.out) | (with_reducible refine Kd.C_alloc ?_ _) | (with_reducible refine Kd.C_drewN ?_ _) | (with_reducible refine Kd.C_drew ?_))); (case side2 => exact HC0.out); rintro e w19 ⟨rfl, hb⟩; refine ⟨_, rfl, ?_⟩; have n0_ := Aside0.mk (below_step (by repeat (first | (with_reducible first | exact HB.out | apply below_alloc | apply pw_below_drewN | apply below_drew1) | exact HB.out)) hb); clear HB; have HB := n0_; clear n0_; (try clear hb); (try clear hb2); (try clear hk); (try clear hi)))
              go_loopg [52] kj9 (fun kq v52 w' => ∃ (x52_3 : Int), v52 = .int .i64 x52_3 ∧ Aside0 (laws_FnMetaFind.l0 kq a1 t168 t169 x9_9 t166 t167 l0 (l0.length : Int) x52_3 = some r) ∧ Aside0 (kq ≤ kj9) ∧ Aside0 (Below w.heap.size w w'))
              case atStart => exact ⟨(0), (by first | rfl | (simp; done) | (simp [*]; done)), H', ⟨Nat.le_refl _⟩, ⟨by repeat (first | (with_reducible first | exact HB.out | apply below_alloc | apply pw_below_drewN | apply below_drew1) | exact HB.out)⟩⟩
              case round =>
                clear H'
                try clear c1
                try clear c2
                try clear p2
                try clear c5
                try clear c8
                try clear c9
                try clear c15
                try clear c16
                try clear c17
                try clear c17b0
                try clear c17b1
                try clear p2
                obtain ⟨x52_3, rfl, HA, HK3, HB⟩ := hrel
                cases gk with
                | zero => exact absurd HA.out (by simp [laws_FnMetaFind.l0])
                | succ k3 =>
                  have H := HA.out
                  clear HA
                  simp only [laws_FnMetaFind.l0] at H
                  by_cases c20 : x52_3 < (l0.length : Int)
                  · rw [if_pos c20] at H
                    have c20b0 : decide (x52_3 < (l0.length : Int)) = true := decide_eq_true c20
                    clear c20
                    by_cases c21 : 0 ≤ x52_3
                    · rw [if_pos c21] at H
                      have c21b0 : decide (0 ≤ x52_3) = true := decide_eq_true c21
                      clear c21
                      by_cases c22 : x52_3 < (l0.length : Int)
                      · rw [if_pos c22] at H
                        have c22b0 : decide (x52_3 < (l0.length : Int)) = true := decide_eq_true c22
                        clear c22
                        by_cases c23 : ((rd_T30 l0 x52_3).f0).toList = a1.toList
                        · rw [if_pos c23] at H
                          have c23b0 : (((rd_T30 l0 x52_3).f0).toList == a1.toList) = true := beq_iff_eq.mpr c23
                          have c23b1 : (((rd_T30 l0 x52_3).f0).toList != a1.toList) = false := bne_eq_false_iff_eq.mpr c23
                          clear c23
                          by_cases c24 : t169 = true
                          · subst c24
                            have H1 : (if t168 = true then (if t166 = x52_3 then (if t167.toList = ((rd_T30 l0 x52_3).f1).toList then (some x9_9) else (some false)) else (some false)) else (some false)) = some r := by rw [if_pos rfl] at H; exact H
                            clear H
                            have H := H1
                            clear H1
                            by_cases c25 : t168 = true
                            · subst c25
                              have H1 : (if t166 = x52_3 then (if t167.toList = ((rd_T30 l0 x52_3).f1).toList then (some x9_9) else (some false)) else (some false)) = some r := by rw [if_pos rfl] at H; exact H
                              clear H
                              have H := H1
                              clear H1
                              by_cases c26 : t166 = x52_3
                              · rw [if_pos c26] at H
                                have c26b0 : (t166 == x52_3) = true := beq_iff_eq.mpr c26
                                have c26b1 : (t166 != x52_3) = false := bne_eq_false_iff_eq.mpr c26
                                clear c26
                                by_cases c27 : t167.toList = ((rd_T30 l0 x52_3).f1).toList
                                · rw [if_pos c27] at H
                                  have c27b0 : (t167.toList == ((rd_T30 l0 x52_3).f1).toList) = true := beq_iff_eq.mpr c27
                                  have c27b1 : (t167.toList != ((rd_T30 l0 x52_3).f1).toList) = false := bne_eq_false_iff_eq.mpr c27
                                  clear c27
                                  obtain rfl := Option.some.inj H
                                  have p170 : 0 ≤ (x52_3 : Int) := of_decide_eq_true (by first | (with_reducible assumption) | assumption)
                                  have q170 : x52_3 < (l0.length : Int) := of_decide_eq_true (by first | (with_reducible assumption) | assumption)
                                  obtain ⟨ad170, e170, hx170_0, hx170_1⟩ := at_T30 HR0.out x52_3 p170 q170
                                  cases e170
                                  replace hx170_0 := (HB.out.cell (World.block_lt_of_cell? w _ hx170_0)).trans hx170_0
                                  replace hx170_1 := (HB.out.cell (World.block_lt_of_cell? w _ hx170_1)).trans hx170_1
                                  replace p170 := eq_true p170
                                  replace q170 := eq_true q170
                                  go_wp2_with (first | ((with_reducible refine gate_dst (N := 13) rfl ?_); (try (refine gate_guard (by rfl) ?_; dsimp only)); refine box_event ?hg (N := 13) ?hd (cs := #[.string (⟨#[]⟩ : ByteArray), .string (⟨#[]⟩ : ByteArray)]) (t := 30) ?hr ?_; (case hd => rfl); (case hg => rfl); (case hr => first | (go_simp; done) | (go_simp; rfl)); intro gb171 hg w28 hbox hb; have n0_ := Aside0.mk (below_step (by repeat (first | (with_reducible first | exact HB.out | apply below_alloc | apply pw_below_drewN | apply below_drew1) | exact HB.out)) hb); have n1_ := Aside0.mk (hbox); have n2_ := Aside0.mk ((by rw [hg]; exact (below_size (by repeat (first | (with_reducible first | exact HB.out | apply below_alloc | apply pw_below_drewN | apply below_drew1) | exact HB.out))) : w.heap.size ≤ gb171)); have n3_ := Aside0.mk ((by rw [hg]; exact (below_size (by repeat (first | (with_reducible first | exact HB.out | apply below_alloc | apply pw_below_drewN | apply below_drew1) | exact HB.out))) : w.heap.size ≤ gb171)); clear HB; have HB := n0_; have BK171 := n1_; have GW171 := n2_; have GE171 := n3_; clear n0_ n1_ n2_ n3_; clear hb hbox hg; have hcz29_0 : w28.cell? ⟨gb171, 0, none⟩ = some (.string (⟨#[]⟩ : ByteArray)) := (blk_cell BK171.out 0).trans rfl; have hcz29_1 : w28.cell? ⟨gb171, 1, none⟩ = some (.string (⟨#[]⟩ : ByteArray)) := (blk_cell BK171.out 1).trans rfl; have hfz29_0 := blk_frozen BK171.out 0; have hfz29_1 := blk_frozen BK171.out 1))
                                  go_ret
                                  exact ⟨by first | rfl | (simp [errW_none, errW_some] <;> rfl) | (simp [*, errW_none, errW_some] <;> rfl), by repeat (first | (with_reducible first | exact HB.out | apply below_alloc | apply pw_below_drewN | apply below_drew1 | refine below_set ?_ GE171.out) | exact HB.out)⟩
                                · rw [if_neg c27] at H
                                  have c27b0 : (t167.toList == ((rd_T30 l0 x52_3).f1).toList) = false := beq_eq_false_iff_ne.mpr c27
                                  have c27b1 : (t167.toList != ((rd_T30 l0 x52_3).f1).toList) = true := bne_iff_ne.mpr c27
                                  obtain rfl := Option.some.inj H
                                  have p170 : 0 ≤ (x52_3 : Int) := of_decide_eq_true (by first | (with_reducible assumption) | assumption)
                                  have q170 : x52_3 < (l0.length : Int) := of_decide_eq_true (by first | (with_reducible assumption) | assumption)
                                  obtain ⟨ad170, e170, hx170_0, hx170_1⟩ := at_T30 HR0.out x52_3 p170 q170
                                  cases e170
                                  replace hx170_0 := (HB.out.cell (World.block_lt_of_cell? w _ hx170_0)).trans hx170_0
                                  replace hx170_1 := (HB.out.cell (World.block_lt_of_cell? w _ hx170_1)).trans hx170_1
                                  replace p170 := eq_true p170
                                  replace q170 := eq_true q170
                                  go_wp2_with (first | ((with_reducible refine gate_dst (N := 13) rfl ?_); (try (refine gate_guard (by rfl) ?_; dsimp only)); refine box_event ?hg (N := 13) ?hd (cs := #[.string (⟨#[]⟩ : ByteArray), .string (⟨#[]⟩ : ByteArray)]) (t := 30) ?hr ?_; (case hd => rfl); (case hg => rfl); (case hr => first | (go_simp; done) | (go_simp; rfl)); intro gb171 hg w30 hbox hb; have n0_ := Aside0.mk (below_step (by repeat (first | (with_reducible first | exact HB.out | apply below_alloc | apply pw_below_drewN | apply below_drew1) | exact HB.out)) hb); have n1_ := Aside0.mk (hbox); have n2_ := Aside0.mk ((by rw [hg]; exact (below_size (by repeat (first | (with_reducible first | exact HB.out | apply below_alloc | apply pw_below_drewN | apply below_drew1) | exact HB.out))) : w.heap.size ≤ gb171)); have n3_ := Aside0.mk ((by rw [hg]; exact (below_size (by repeat (first | (with_reducible first | exact HB.out | apply below_alloc | apply pw_below_drewN | apply below_drew1) | exact HB.out))) : w.heap.size ≤ gb171)); clear HB; have HB := n0_; have BK171 := n1_; have GW171 := n2_; have GE171 := n3_; clear n0_ n1_ n2_ n3_; clear hb hbox hg; have hcz31_0 : w30.cell? ⟨gb171, 0, none⟩ = some (.string (⟨#[]⟩ : ByteArray)) := (blk_cell BK171.out 0).trans rfl; have hcz31_1 : w30.cell? ⟨gb171, 1, none⟩ = some (.string (⟨#[]⟩ : ByteArray)) := (blk_cell BK171.out 1).trans rfl; have hfz31_0 := blk_frozen BK171.out 0; have hfz31_1 := blk_frozen BK171.out 1))
                                  go_ret
                                  exact ⟨by first | rfl | (simp [errW_none, errW_some] <;> rfl) | (simp [*, errW_none, errW_some] <;> rfl), by repeat (first | (with_reducible first | exact HB.out | apply below_alloc | apply pw_below_drewN | apply below_drew1 | refine below_set ?_ GE171.out) | exact HB.out)⟩
                              · rw [if_neg c26] at H
                                have c26b0 : (t166 == x52_3) = false := beq_eq_false_iff_ne.mpr c26
                                have c26b1 : (t166 != x52_3) = true := bne_iff_ne.mpr c26
                                obtain rfl := Option.some.inj H
                                have p170 : 0 ≤ (x52_3 : Int) := of_decide_eq_true (by first | (with_reducible assumption) | assumption)
                                have q170 : x52_3 < (l0.length : Int) := of_decide_eq_true (by first | (with_reducible assumption) | assumption)
                                obtain ⟨ad170, e170, hx170_0, hx170_1⟩ := at_T30 HR0.out x52_3 p170 q170
                                cases e170
                                replace hx170_0 := (HB.out.cell (World.block_lt_of_cell? w _ hx170_0)).trans hx170_0
                                replace hx170_1 := (HB.out.cell (World.block_lt_of_cell? w _ hx170_1)).trans hx170_1
                                replace p170 := eq_true p170
                                replace q170 := eq_true q170
                                go_wp2_with (first | ((with_reducible refine gate_dst (N := 13) rfl ?_); (try (refine gate_guard (by rfl) ?_; dsimp only)); refine box_event ?hg (N := 13) ?hd (cs := #[.string (⟨#[]⟩ : ByteArray), .string (⟨#[]⟩ : ByteArray)]) (t := 30) ?hr ?_; (case hd => rfl); (case hg => rfl); (case hr => first | (go_simp; done) | (go_simp; rfl)); intro gb171 hg w32 hbox hb; have n0_ := Aside0.mk (below_step (by repeat (first | (with_reducible first | exact HB.out | apply below_alloc | apply pw_below_drewN | apply below_drew1) | exact HB.out)) hb); have n1_ := Aside0.mk (hbox); have n2_ := Aside0.mk ((by rw [hg]; exact (below_size (by repeat (first | (with_reducible first | exact HB.out | apply below_alloc | apply pw_below_drewN | apply below_drew1) | exact HB.out))) : w.heap.size ≤ gb171)); have n3_ := Aside0.mk ((by rw [hg]; exact (below_size (by repeat (first | (with_reducible first | exact HB.out | apply below_alloc | apply pw_below_drewN | apply below_drew1) | exact HB.out))) : w.heap.size ≤ gb171)); clear HB; have HB := n0_; have BK171 := n1_; have GW171 := n2_; have GE171 := n3_; clear n0_ n1_ n2_ n3_; clear hb hbox hg; have hcz33_0 : w32.cell? ⟨gb171, 0, none⟩ = some (.string (⟨#[]⟩ : ByteArray)) := (blk_cell BK171.out 0).trans rfl; have hcz33_1 : w32.cell? ⟨gb171, 1, none⟩ = some (.string (⟨#[]⟩ : ByteArray)) := (blk_cell BK171.out 1).trans rfl; have hfz33_0 := blk_frozen BK171.out 0; have hfz33_1 := blk_frozen BK171.out 1))
                                go_ret
                                exact ⟨by first | rfl | (simp [errW_none, errW_some] <;> rfl) | (simp [*, errW_none, errW_some] <;> rfl), by repeat (first | (with_reducible first | exact HB.out | apply below_alloc | apply pw_below_drewN | apply below_drew1 | refine below_set ?_ GE171.out) | exact HB.out)⟩
                            · replace c25 := Bool.eq_false_iff.mpr c25
                              subst c25
                              have H1 : (some false) = some r := by rw [if_neg (show ¬ (false = true) by decide)] at H; exact H
                              clear H
                              have H := H1
                              clear H1
                              obtain rfl := Option.some.inj H
                              have p170 : 0 ≤ (x52_3 : Int) := of_decide_eq_true (by first | (with_reducible assumption) | assumption)
                              have q170 : x52_3 < (l0.length : Int) := of_decide_eq_true (by first | (with_reducible assumption) | assumption)
                              obtain ⟨ad170, e170, hx170_0, hx170_1⟩ := at_T30 HR0.out x52_3 p170 q170
                              cases e170
                              replace hx170_0 := (HB.out.cell (World.block_lt_of_cell? w _ hx170_0)).trans hx170_0
                              replace hx170_1 := (HB.out.cell (World.block_lt_of_cell? w _ hx170_1)).trans hx170_1
                              replace p170 := eq_true p170
                              replace q170 := eq_true q170
                              go_wp2_with (first | ((with_reducible refine gate_dst (N := 13) rfl ?_); (try (refine gate_guard (by rfl) ?_; dsimp only)); refine box_event ?hg (N := 13) ?hd (cs := #[.string (⟨#[]⟩ : ByteArray), .string (⟨#[]⟩ : ByteArray)]) (t := 30) ?hr ?_; (case hd => rfl); (case hg => rfl); (case hr => first | (go_simp; done) | (go_simp; rfl)); intro gb171 hg w34 hbox hb; have n0_ := Aside0.mk (below_step (by repeat (first | (with_reducible first | exact HB.out | apply below_alloc | apply pw_below_drewN | apply below_drew1) | exact HB.out)) hb); have n1_ := Aside0.mk (hbox); have n2_ := Aside0.mk ((by rw [hg]; exact (below_size (by repeat (first | (with_reducible first | exact HB.out | apply below_alloc | apply pw_below_drewN | apply below_drew1) | exact HB.out))) : w.heap.size ≤ gb171)); have n3_ := Aside0.mk ((by rw [hg]; exact (below_size (by repeat (first | (with_reducible first | exact HB.out | apply below_alloc | apply pw_below_drewN | apply below_drew1) | exact HB.out))) : w.heap.size ≤ gb171)); clear HB; have HB := n0_; have BK171 := n1_; have GW171 := n2_; have GE171 := n3_; clear n0_ n1_ n2_ n3_; clear hb hbox hg; have hcz35_0 : w34.cell? ⟨gb171, 0, none⟩ = some (.string (⟨#[]⟩ : ByteArray)) := (blk_cell BK171.out 0).trans rfl; have hcz35_1 : w34.cell? ⟨gb171, 1, none⟩ = some (.string (⟨#[]⟩ : ByteArray)) := (blk_cell BK171.out 1).trans rfl; have hfz35_0 := blk_frozen BK171.out 0; have hfz35_1 := blk_frozen BK171.out 1))
                              go_ret
                              exact ⟨by first | rfl | (simp [errW_none, errW_some] <;> rfl) | (simp [*, errW_none, errW_some] <;> rfl), by repeat (first | (with_reducible first | exact HB.out | apply below_alloc | apply pw_below_drewN | apply below_drew1 | refine below_set ?_ GE171.out) | exact HB.out)⟩
                          · replace c24 := Bool.eq_false_iff.mpr c24
                            subst c24
                            have H1 : (some false) = some r := by rw [if_neg (show ¬ (false = true) by decide)] at H; exact H
                            clear H
                            have H := H1
                            clear H1
                            obtain rfl := Option.some.inj H
                            have p170 : 0 ≤ (x52_3 : Int) := of_decide_eq_true (by first | (with_reducible assumption) | assumption)
                            have q170 : x52_3 < (l0.length : Int) := of_decide_eq_true (by first | (with_reducible assumption) | assumption)
                            obtain ⟨ad170, e170, hx170_0, hx170_1⟩ := at_T30 HR0.out x52_3 p170 q170
                            cases e170
                            replace hx170_0 := (HB.out.cell (World.block_lt_of_cell? w _ hx170_0)).trans hx170_0
                            replace hx170_1 := (HB.out.cell (World.block_lt_of_cell? w _ hx170_1)).trans hx170_1
                            replace p170 := eq_true p170
                            replace q170 := eq_true q170
                            go_wp2_with (first | ((with_reducible refine gate_dst (N := 13) rfl ?_); (try (refine gate_guard (by rfl) ?_; dsimp only)); refine box_event ?hg (N := 13) ?hd (cs := #[.string (⟨#[]⟩ : ByteArray), .string (⟨#[]⟩ : ByteArray)]) (t := 30) ?hr ?_; (case hd => rfl); (case hg => rfl); (case hr => first | (go_simp; done) | (go_simp; rfl)); intro gb171 hg w36 hbox hb; have n0_ := Aside0.mk (below_step (by repeat (first | (with_reducible first | exact HB.out | apply below_alloc | apply pw_below_drewN | apply below_drew1) | exact HB.out)) hb); have n1_ := Aside0.mk (hbox); have n2_ := Aside0.mk ((by rw [hg]; exact (below_size (by repeat (first | (with_reducible first | exact HB.out | apply below_alloc | apply pw_below_drewN | apply below_drew1) | exact HB.out))) : w.heap.size ≤ gb171)); have n3_ := Aside0.mk ((by rw [hg]; exact (below_size (by repeat (first | (with_reducible first | exact HB.out | apply below_alloc | apply pw_below_drewN | apply below_drew1) | exact HB.out))) : w.heap.size ≤ gb171)); clear HB; have HB := n0_; have BK171 := n1_; have GW171 := n2_; have GE171 := n3_; clear n0_ n1_ n2_ n3_; clear hb hbox hg; have hcz37_0 : w36.cell? ⟨gb171, 0, none⟩ = some (.string (⟨#[]⟩ : ByteArray)) := (blk_cell BK171.out 0).trans rfl; have hcz37_1 : w36.cell? ⟨gb171, 1, none⟩ = some (.string (⟨#[]⟩ : ByteArray)) := (blk_cell BK171.out 1).trans rfl; have hfz37_0 := blk_frozen BK171.out 0; have hfz37_1 := blk_frozen BK171.out 1))
                            go_ret
                            exact ⟨by first | rfl | (simp [errW_none, errW_some] <;> rfl) | (simp [*, errW_none, errW_some] <;> rfl), by repeat (first | (with_reducible first | exact HB.out | apply below_alloc | apply pw_below_drewN | apply below_drew1 | refine below_set ?_ GE171.out) | exact HB.out)⟩
                        · rw [if_neg c23] at H
                          have c23b0 : (((rd_T30 l0 x52_3).f0).toList == a1.toList) = false := beq_eq_false_iff_ne.mpr c23
                          have c23b1 : (((rd_T30 l0 x52_3).f0).toList != a1.toList) = true := bne_iff_ne.mpr c23
                          have H' := Aside0.mk H
                          clear H
                          have p170 : 0 ≤ (x52_3 : Int) := of_decide_eq_true (by first | (with_reducible assumption) | assumption)
                          have q170 : x52_3 < (l0.length : Int) := of_decide_eq_true (by first | (with_reducible assumption) | assumption)
                          obtain ⟨ad170, e170, hx170_0, hx170_1⟩ := at_T30 HR0.out x52_3 p170 q170
                          cases e170
                          replace hx170_0 := (HB.out.cell (World.block_lt_of_cell? w _ hx170_0)).trans hx170_0
                          replace hx170_1 := (HB.out.cell (World.block_lt_of_cell? w _ hx170_1)).trans hx170_1
                          replace p170 := eq_true p170
                          replace q170 := eq_true q170
                          go_wp2_with (first | ((with_reducible refine gate_dst (N := 13) rfl ?_); (try (refine gate_guard (by rfl) ?_; dsimp only)); refine box_event ?hg (N := 13) ?hd (cs := #[.string (⟨#[]⟩ : ByteArray), .string (⟨#[]⟩ : ByteArray)]) (t := 30) ?hr ?_; (case hd => rfl); (case hg => rfl); (case hr => first | (go_simp; done) | (go_simp; rfl)); intro gb171 hg w38 hbox hb; have n0_ := Aside0.mk (below_step (by repeat (first | (with_reducible first | exact HB.out | apply below_alloc | apply pw_below_drewN | apply below_drew1) | exact HB.out)) hb); have n1_ := Aside0.mk (hbox); have n2_ := Aside0.mk ((by rw [hg]; exact (below_size (by repeat (first | (with_reducible first | exact HB.out | apply below_alloc | apply pw_below_drewN | apply below_drew1) | exact HB.out))) : w.heap.size ≤ gb171)); have n3_ := Aside0.mk ((by rw [hg]; exact (below_size (by repeat (first | (with_reducible first | exact HB.out | apply below_alloc | apply pw_below_drewN | apply below_drew1) | exact HB.out))) : w.heap.size ≤ gb171)); clear HB; have HB := n0_; have BK171 := n1_; have GW171 := n2_; have GE171 := n3_; clear n0_ n1_ n2_ n3_; clear hb hbox hg; have hcz39_0 : w38.cell? ⟨gb171, 0, none⟩ = some (.string (⟨#[]⟩ : ByteArray)) := (blk_cell BK171.out 0).trans rfl; have hcz39_1 : w38.cell? ⟨gb171, 1, none⟩ = some (.string (⟨#[]⟩ : ByteArray)) := (blk_cell BK171.out 1).trans rfl; have hfz39_0 := blk_frozen BK171.out 0; have hfz39_1 := blk_frozen BK171.out 1))
                          go_roundg k3
                          case measure => have := HJ2.out; have := HJ9.out; have := HK3.out; omega
                          case rel => exact ⟨(wrap64 (x52_3 + 1)), (by first | rfl | (simp; done) | (simp [*]; done)), H', ⟨by have := HJ2.out; have := HJ9.out; have := HK3.out; omega⟩, ⟨by repeat (first | (with_reducible first | exact HB.out | apply below_alloc | apply pw_below_drewN | apply below_drew1 | refine below_set ?_ GE171.out) | exact HB.out)⟩⟩
                      · rw [if_neg c22] at H
                        exact absurd H (by simp)
                    · rw [if_neg c21] at H
                      exact absurd H (by simp)
                  · rw [if_neg c20] at H
                    have c20b0 : decide (x52_3 < (l0.length : Int)) = false := decide_eq_false c20
                    clear c20
                    by_cases c40 : t169 = true
                    · subst c40
                      have H1 : (if t168 = true then (some false) else (if t166 = (-1) then (some x9_9) else (some false))) = some r := by rw [if_pos rfl] at H; exact H
                      clear H
                      have H := H1
                      clear H1
                      by_cases c41 : t168 = true
                      · subst c41
                        have H1 : (some false) = some r := by rw [if_pos rfl] at H; exact H
                        clear H
                        have H := H1
                        clear H1
                        obtain rfl := Option.some.inj H
                        go_wp2
                        go_ret
                        exact ⟨by first | rfl | (simp [errW_none, errW_some] <;> rfl) | (simp [*, errW_none, errW_some] <;> rfl), by repeat (first | (with_reducible first | exact HB.out | apply below_alloc | apply pw_below_drewN | apply below_drew1) | exact HB.out)⟩
                      · replace c41 := Bool.eq_false_iff.mpr c41
                        subst c41
                        have H1 : (if t166 = (-1) then (some x9_9) else (some false)) = some r := by rw [if_neg (show ¬ (false = true) by decide)] at H; exact H
                        clear H
                        have H := H1
                        clear H1
                        by_cases c42 : t166 = (-1)
                        · rw [if_pos c42] at H
                          have c42b0 : (t166 == (-1)) = true := beq_iff_eq.mpr c42
                          have c42b1 : (t166 != (-1)) = false := bne_eq_false_iff_eq.mpr c42
                          clear c42
                          obtain rfl := Option.some.inj H
                          go_wp2
                          go_ret
                          exact ⟨by first | rfl | (simp [errW_none, errW_some] <;> rfl) | (simp [*, errW_none, errW_some] <;> rfl), by repeat (first | (with_reducible first | exact HB.out | apply below_alloc | apply pw_below_drewN | apply below_drew1) | exact HB.out)⟩
                        · rw [if_neg c42] at H
                          have c42b0 : (t166 == (-1)) = false := beq_eq_false_iff_ne.mpr c42
                          have c42b1 : (t166 != (-1)) = true := bne_iff_ne.mpr c42
                          obtain rfl := Option.some.inj H
                          go_wp2
                          go_ret
                          exact ⟨by first | rfl | (simp [errW_none, errW_some] <;> rfl) | (simp [*, errW_none, errW_some] <;> rfl), by repeat (first | (with_reducible first | exact HB.out | apply below_alloc | apply pw_below_drewN | apply below_drew1) | exact HB.out)⟩
                    · replace c40 := Bool.eq_false_iff.mpr c40
                      subst c40
                      have H1 : (some false) = some r := by rw [if_neg (show ¬ (false = true) by decide)] at H; exact H
                      clear H
                      have H := H1
                      clear H1
                      obtain rfl := Option.some.inj H
                      go_wp2
                      go_ret
                      exact ⟨by first | rfl | (simp [errW_none, errW_some] <;> rfl) | (simp [*, errW_none, errW_some] <;> rfl), by repeat (first | (with_reducible first | exact HB.out | apply below_alloc | apply pw_below_drewN | apply below_drew1) | exact HB.out)⟩

end Go.Proofs.Yticieelobdfloaa.QMeta
