/- NewMetadata: the machine side: two rows of keys and values that came in, as long as each other, are handed back as rows of the call's own. -/
import Derived.Test.YticieelobdfloaaQMetax0
import Derived.Test.YticieelobdfloaaCopy
namespace Go.Proofs.Yticieelobdfloaa.QMeta
open Go.RowKit Go.Proofs.YticieelobdfloaaW.PrintWords Go.Proofs.YticieelobdfloaaW.PrintLast Go.Proofs.YticieelobdfloaaW.PrintMore
attribute [local go_sem] max2_int min2_int max_two min_two max_three min_three max_four min_four   -- for this text's walks alone
set_option linter.unusedVariables false
set_option linter.unusedSimpArgs false

set_option maxHeartbeats 8000000 in
set_option maxRecDepth 100000 in
theorem newMeta_any (A0 : Option Addr) (c0 : Nat) (l0 : List ByteArray) (A1 : Option Addr) (c1 : Nat) (l1 : List ByteArray) (w : World) (hr0 : Kd.C Kd.string w A0 l0.length l0) (hc0 : l0.length ≤ c0) (hr1 : Kd.C Kd.string w A1 l1.length l1) (hc1 : l1.length ≤ c1) (c3 : (l0.length : Int) = (l1.length : Int)) (c8 : ((l0.length : Int) : Int).toNat ≤ 17592186044416) :
    Calls Try.prog 23 #[.slice A0 l0.length c0, .slice A1 l1.length c1] w fun e w' => ∃ v0_ v1_ : Value, e = .returned (.agg #[v0_, v1_]) ∧ Kd.R Kd.string 9 w' w.heap.size (fun k_ => some k_ ≠ (v1_ : Value).ownBlock) v0_ l0 ∧ Kd.R Kd.string 9 w' w.heap.size (fun k_ => some k_ ≠ (v0_ : Value).ownBlock) v1_ l1 ∧ Below w.heap.size w w' := by
  have hu38 := Try.underlying38
  have HR0 := Aside0.mk hr0
  have HC0 := Aside0.mk hc0
  clear hr0 hc0
  have HR1 := Aside0.mk hr1
  have HC1 := Aside0.mk hc1
  clear hr1 hc1
  have HB := Aside0.mk (Below.refl w.heap.size w)
  have HE := Aside0.mk c3
  have c3b0 : ((l0.length : Int) == (l1.length : Int)) = true := beq_iff_eq.mpr c3
  have c3b1 : ((l0.length : Int) != (l1.length : Int)) = false := bne_eq_false_iff_eq.mpr c3
  have c3b2 : (l0.length == l1.length) = true := by first | simpa using c3 | (simp at c3 ⊢; omega)
  clear c3
  by_cases c4 : (l0.length : Int) = 0
  · have hz0 := Aside0.mk (show l0 = [] from List.eq_nil_of_length_eq_zero (by omega))
    have hz1 := Aside0.mk (show l1 = [] from List.eq_nil_of_length_eq_zero (by have := HE.out; omega))
    have c4b0 : ((l0.length : Int) == 0) = true := beq_iff_eq.mpr c4
    have c4b1 : ((l0.length : Int) != 0) = false := bne_eq_false_iff_eq.mpr c4
    clear c4
    go_enter Try.func23, Try.ntmps23
    go_wp2_with (first | ((with_reducible refine gate_dst (N := 4) rfl ?_); refine box_event ?hg (N := 4) ?hd (cs := #[.slice none 0 0, .slice none 0 0]) (t := 38) ?hr ?_; (case hd => rfl); (case hg => rfl); (case hr => first | (go_simp; done) | (go_simp; rfl)); intro gb105 hg w5 hbox hb; have n0_ := Aside0.mk (below_step (by repeat (first | (with_reducible first | exact HB.out | apply below_alloc | apply pw_below_drewN | apply below_drew1) | exact HB.out)) hb); have n1_ := Aside0.mk (hbox); have n2_ := Aside0.mk ((by rw [hg]; exact (below_size (by repeat (first | (with_reducible first | exact HB.out | apply below_alloc | apply pw_below_drewN | apply below_drew1) | exact HB.out))) : w.heap.size ≤ gb105)); have n3_ := Aside0.mk ((by rw [hg]; exact (below_size (by repeat (first | (with_reducible first | exact HB.out | apply below_alloc | apply pw_below_drewN | apply below_drew1) | exact HB.out))) : w.heap.size ≤ gb105)); clear HB; have HB := n0_; have BK105 := n1_; have GW105 := n2_; have GE105 := n3_; clear n0_ n1_ n2_ n3_; clear hb hbox hg; have hcz6_0 : w5.cell? ⟨gb105, 0, none⟩ = some (.slice none 0 0) := (blk_cell BK105.out 0).trans rfl; have hcz6_1 : w5.cell? ⟨gb105, 1, none⟩ = some (.slice none 0 0) := (blk_cell BK105.out 1).trans rfl; have hfz6_0 := blk_frozen BK105.out 0; have hfz6_1 := blk_frozen BK105.out 1))
    refine bodyPost_ret (results_cell_row rfl _ _ gb105 38 #[.slice none 0 0, .slice none 0 0] (0, 0) _ rfl (by (with_reducible repeat (first | refine blk_drewN ?_ _ | refine blk_drew ?_ | refine blk_alloc ?_ _)); refine blk_put (cs := #[.slice none 0 0, .slice none 0 0]) ?_ 1 _ rfl; (with_reducible repeat (first | refine blk_drewN ?_ _ | refine blk_drew ?_ | refine blk_alloc ?_ _)); refine blk_put (cs := #[.slice none 0 0, .slice none 0 0]) ?_ 0 _ rfl; (with_reducible repeat (first | refine blk_drewN ?_ _ | refine blk_drew ?_ | refine blk_alloc ?_ _)); exact BK105.out) Try.underlying38 rfl (by kernel_rfl)) rfl ?_
    exact ⟨_, _, rfl, by rw [hz0.out]; exact Kd.R_nil _ _ _ _ _, by rw [hz1.out]; exact Kd.R_nil _ _ _ _ _, by repeat (first | (with_reducible first | exact HB.out | apply below_alloc | apply pw_below_drewN | apply below_drew1 | refine below_set ?_ GE105.out) | exact HB.out)⟩
  · have c7 : 0 ≤ (l0.length : Int) := by omega
    have c4b0 : ((l0.length : Int) == 0) = false := beq_eq_false_iff_ne.mpr c4
    have c4b1 : ((l0.length : Int) != 0) = true := bne_iff_ne.mpr c4
    have c4b2 : ¬ (l0 = []) := fun h_ => c4 (by rw [h_]; rfl)
    have c7b0 := eq_true c7
    have c7b1 : decide (0 ≤ (l0.length : Int)) = true := decide_eq_true c7
    clear c7
    have c8b0 := eq_true c8
    have c8b1 : decide (((l0.length : Int) : Int).toNat ≤ 17592186044416) = true := decide_eq_true c8
    clear c8
    obtain ⟨y106, hy106⟩ : ∃ y_ : List ByteArray, y_ = (List.replicate ((l0.length : Int) : Int).toNat (⟨#[]⟩ : ByteArray)) := ⟨_, rfl⟩
    have Ny106 := Aside0.mk hy106
    clear hy106
    obtain ⟨y109, hy109⟩ : ∃ y_ : List ByteArray, y_ = (List.replicate ((l0.length : Int) : Int).toNat (⟨#[]⟩ : ByteArray)) := ⟨_, rfl⟩
    have Ny109 := Aside0.mk hy109
    clear hy109
    go_enter Try.func23, Try.ntmps23
    try go_wp2_with (first | ((with_reducible refine gate_dst (N := 4) rfl ?_); refine box_event ?hg (N := 4) ?hd (cs := #[.slice none 0 0, .slice none 0 0]) (t := 38) ?hr ?_; (case hd => rfl); (case hg => rfl); (case hr => first | (go_simp; done) | (go_simp; rfl)); intro gb105 hg w9 hbox hb; have n0_ := Aside0.mk (below_step (by repeat (first | (with_reducible first | exact HB.out | apply below_alloc | apply pw_below_drewN | apply below_drew1) | exact HB.out)) hb); have n1_ := Aside0.mk (hbox); have n2_ := Aside0.mk ((by rw [hg]; exact (below_size (by repeat (first | (with_reducible first | exact HB.out | apply below_alloc | apply pw_below_drewN | apply below_drew1) | exact HB.out))) : w.heap.size ≤ gb105)); have n3_ := Aside0.mk ((by rw [hg]; exact (below_size (by repeat (first | (with_reducible first | exact HB.out | apply below_alloc | apply pw_below_drewN | apply below_drew1) | exact HB.out))) : w.heap.size ≤ gb105)); clear HB; have HB := n0_; have BK105 := n1_; have GW105 := n2_; have GE105 := n3_; clear n0_ n1_ n2_ n3_; clear hb hbox hg))
    have n0_ := Aside0.mk (blk_drew BK105.out)
    have n1_ := Aside0.mk (below_drew1 HB.out)
    clear BK105
    clear HB
    have BK105 := n0_
    have HB := n1_
    clear n0_ n1_
    refine start_ (n := 7) (S := fun w' => True) (ds := []) #[false, false, false, false, false, false, false] (by kernel_rfl) rfl rfl trivial (fun hHeld => ?_)
    generalize w9.drew = w10 at BK105 HB hHeld ⊢
    refine pure_ (i := 0) (N := some 18) (v := ?_) (a' := ?_) #[true, false, false, false, false, false, false] rfl rfl (by kernel_rfl) (fun _ _ _ h => h) (Or.inl ⟨by rfl, ?_⟩) ?_ ?_
    rotate_left
    · intro w'
      go_simp
      with_reducible rfl
    rotate_left
    · simp only [Act.put, List.setIfInBounds_toArray, List.set_cons_zero, List.set_cons_succ, i64_w, i32_w]
      rfl
    refine pure_ (i := 2) (N := some 20) (v := ?_) (a' := ?_) #[true, false, true, false, false, false, false] rfl rfl (by kernel_rfl) (fun _ _ _ h => h) (Or.inl ⟨by rfl, ?_⟩) ?_ ?_
    rotate_left
    · intro w'
      go_simp
      with_reducible rfl
    rotate_left
    · simp only [Act.put, List.setIfInBounds_toArray, List.set_cons_zero, List.set_cons_succ, i64_w, i32_w]
      rfl
    refine join_ (σ := Value × Value × Nat) 1 #[true, true, true, true, true, true, false] (fun s_ => [(19, s_.1), (21, s_.2.1), (6, .pointer (some ⟨s_.2.2, 0, none⟩)), (22, .agg #[s_.1, s_.2.1])]) (fun s_ w' => (Kd.R Kd.string 9 w' w.heap.size (fun k_ => some k_ ≠ (s_.2.1 : Value).ownBlock) s_.1 y106) ∧ (Kd.R Kd.string 9 w' w.heap.size (fun k_ => some k_ ≠ (s_.1 : Value).ownBlock) s_.2.1 y109) ∧ (w'.heap[gb105]? = some (.cells #[.slice none 0 0, .slice none 0 0] 38 (0, 0))) ∧ (w'.heap[s_.2.2]? = some (.cells #[.slice none 0 0, .slice none 0 0] 38 (0, 0))) ∧ (w.heap.size ≤ s_.2.2) ∧ (w.heap.size ≤ s_.2.2) ∧ (gb105 ≠ s_.2.2) ∧ (s_.2.2 ≠ gb105) ∧ (Below w.heap.size w w')) ?_ ?_
    rotate_left
    · intro hJ1_3_5
      refine join_ (σ := Value × Value) 2 #[true, true, true, true, true, false, false] (fun s_ => [(19, s_.1), (21, s_.2), (22, .agg #[s_.1, s_.2])]) (fun s_ w' => (Kd.R Kd.string 9 w' w.heap.size (fun k_ => some k_ ≠ (s_.2 : Value).ownBlock) s_.1 y106) ∧ (Kd.R Kd.string 9 w' w.heap.size (fun k_ => some k_ ≠ (s_.1 : Value).ownBlock) s_.2 y109) ∧ (w'.heap[gb105]? = some (.cells #[.slice none 0 0, .slice none 0 0] 38 (0, 0))) ∧ (Below w.heap.size w w')) ?_ ?_
      rotate_left
      · intro hJ1_3
        refine join_ (σ := Value × Nat) 3 #[true, true, true, false, false, true, false] (fun s_ => [(19, s_.1), (6, .pointer (some ⟨s_.2, 0, none⟩))]) (fun s_ w' => (Kd.R Kd.string 9 w' w.heap.size (fun _ => True) s_.1 y106) ∧ (w'.heap[gb105]? = some (.cells #[.slice none 0 0, .slice none 0 0] 38 (0, 0))) ∧ (w'.heap[s_.2]? = some (.cells #[.slice none 0 0, .slice none 0 0] 38 (0, 0))) ∧ (w.heap.size ≤ s_.2) ∧ (w.heap.size ≤ s_.2) ∧ (gb105 ≠ s_.2) ∧ (s_.2 ≠ gb105) ∧ (Below w.heap.size w w')) ?_ ?_
        rotate_left
        · intro hJ1_5
          refine join_ (σ := Value × Nat) 3 #[true, false, true, true, false, true, false] (fun s_ => [(21, s_.1), (6, .pointer (some ⟨s_.2, 0, none⟩))]) (fun s_ w' => (Kd.R Kd.string 9 w' w.heap.size (fun _ => True) s_.1 y109) ∧ (w'.heap[gb105]? = some (.cells #[.slice none 0 0, .slice none 0 0] 38 (0, 0))) ∧ (w'.heap[s_.2]? = some (.cells #[.slice none 0 0, .slice none 0 0] 38 (0, 0))) ∧ (w.heap.size ≤ s_.2) ∧ (w.heap.size ≤ s_.2) ∧ (gb105 ≠ s_.2) ∧ (s_.2 ≠ gb105) ∧ (Below w.heap.size w w')) ?_ ?_
          rotate_left
          · intro hJ3_5
            refine join_ (σ := Value) 4 #[true, true, true, false, false, false, false] (fun s_ => [(19, s_)]) (fun s_ w' => (Kd.R Kd.string 9 w' w.heap.size (fun _ => True) s_ y106) ∧ (w'.heap[gb105]? = some (.cells #[.slice none 0 0, .slice none 0 0] 38 (0, 0))) ∧ (Below w.heap.size w w')) ?_ ?_
            rotate_left
            · intro hJ1
              refine join_ (σ := Value) 4 #[true, false, true, true, false, false, false] (fun s_ => [(21, s_)]) (fun s_ w' => (Kd.R Kd.string 9 w' w.heap.size (fun _ => True) s_ y109) ∧ (w'.heap[gb105]? = some (.cells #[.slice none 0 0, .slice none 0 0] 38 (0, 0))) ∧ (Below w.heap.size w w')) ?_ ?_
              rotate_left
              · intro hJ3
                refine join_ (σ := Nat) 4 #[true, false, true, false, false, true, false] (fun s_ => [(6, .pointer (some ⟨s_, 0, none⟩))]) (fun s_ w' => (w'.heap[gb105]? = some (.cells #[.slice none 0 0, .slice none 0 0] 38 (0, 0))) ∧ (w'.heap[s_]? = some (.cells #[.slice none 0 0, .slice none 0 0] 38 (0, 0))) ∧ (w.heap.size ≤ s_) ∧ (w.heap.size ≤ s_) ∧ (gb105 ≠ s_) ∧ (s_ ≠ gb105) ∧ (Below w.heap.size w w')) ?_ ?_
                rotate_left
                · intro hJ5
                  refine three_ (i := 1) (j := 3) (k := 5) (Ni := some 19) (Nj := some 21) (Nk := some 6) #[true, true, true, false, false, false, false] #[true, false, true, true, false, false, false] #[true, false, true, false, false, true, false] rfl rfl rfl rfl rfl rfl (by kernel_rfl) (by decide) (by decide) (by decide) (fun K hK => ?_) (fun K hK => ?_) (fun K hK => ?_)
                  · skip
                    refine Kd.R_make_step Kd.string _ 9 (by rfl) (N := 19) rfl 36 _ _ rfl (l0.length : Int) rfl rfl Try.underlying36 (.string ⟨#[]⟩) 16 info9 rfl (by decide) (by omega) (⟨#[]⟩ : ByteArray) (ok := fun _ => True) (okp := fun _ => True) rfl (fun _ hk => hk) trivial (of_decide_eq_true (by first | (with_reducible assumption) | assumption)) (Nat.le_trans (Nat.mul_le_mul_right _ (of_decide_eq_true (by first | (with_reducible assumption) | assumption) : (l0.length : Int).toNat ≤ 17592186044416)) (by omega)) (Below.refl _ _) (Nat.le_refl _) ?_
                    intro v107 w11 ho12 hb hg_ hnew_
                    clear hg_ hnew_
                    (first | rw [← Ny106.out] at ho12 | (simp only [Int.reduceToNat] at ho12; rw [← Ny106.out] at ho12))
                    have n0_ := Aside0.mk (Kd.R_lower ho12 (below_size (by repeat (first | (with_reducible first | exact HB.out | apply below_alloc | apply pw_below_drewN | apply below_drew1 | refine below_set ?_ GE105.out) | exact HB.out))))
                    have n1_ := Aside0.mk (blk_below (g := gb105) (o := .cells #[.slice none 0 0, .slice none 0 0] 38 (0, 0)) (by (with_reducible repeat (first | refine blk_drewN ?_ _ | refine blk_drew ?_ | refine blk_alloc ?_ _)); exact BK105.out) hb)
                    have n2_ := Aside0.mk (below_step (by repeat (first | (with_reducible first | exact HB.out | apply below_alloc | apply pw_below_drewN | apply below_drew1 | refine below_set ?_ GE105.out) | exact HB.out)) hb)
                    clear BK105
                    clear HB
                    have HO108 := n0_
                    have BK105 := n1_
                    have HB := n2_
                    clear n0_ n1_ n2_
                    clear hb ho12
                    refine hK.out _ _ trivial (fun hHeld => ?_)
                    clear hK K
                    refine norm_ (a' := ?_) ?_ ?_
                    rotate_left
                    · show Act.put _ (some 19) _ = _
                      simp only [Act.put, List.setIfInBounds_toArray, List.set_cons_zero, List.set_cons_succ, i64_w, i32_w]
                      rfl
                    exact norm_ (by first | (simp only [putAll, Act.put, List.setIfInBounds_toArray, List.set_cons_zero, List.set_cons_succ]; done) | (simp only [putAll, Act.put, List.setIfInBounds_toArray, List.set_cons_zero, List.set_cons_succ]; rfl)) (hJ1 (v107) _ ⟨(by (with_reducible repeat (first | apply Kd.R_alloc | apply Kd.R_drewN | apply Kd.R_drew)); exact HO108.out), (by (with_reducible repeat (first | refine blk_drewN ?_ _ | refine blk_drew ?_ | refine blk_alloc ?_ _)); exact BK105.out), (by repeat (first | (with_reducible first | exact HB.out | apply below_alloc | apply pw_below_drewN | apply below_drew1 | refine below_set ?_ GE105.out) | exact HB.out))⟩)
                  · skip
                    refine Kd.R_make_step Kd.string _ 9 (by rfl) (N := 21) rfl 36 _ _ rfl (l0.length : Int) rfl rfl Try.underlying36 (.string ⟨#[]⟩) 16 info9 rfl (by decide) (by omega) (⟨#[]⟩ : ByteArray) (ok := fun _ => True) (okp := fun _ => True) rfl (fun _ hk => hk) trivial (of_decide_eq_true (by first | (with_reducible assumption) | assumption)) (Nat.le_trans (Nat.mul_le_mul_right _ (of_decide_eq_true (by first | (with_reducible assumption) | assumption) : (l0.length : Int).toNat ≤ 17592186044416)) (by omega)) (Below.refl _ _) (Nat.le_refl _) ?_
                    intro v110 w11 ho12 hb hg_ hnew_
                    clear hg_ hnew_
                    (first | rw [← Ny109.out] at ho12 | (simp only [Int.reduceToNat] at ho12; rw [← Ny109.out] at ho12))
                    have n0_ := Aside0.mk (Kd.R_lower ho12 (below_size (by repeat (first | (with_reducible first | exact HB.out | apply below_alloc | apply pw_below_drewN | apply below_drew1 | refine below_set ?_ GE105.out) | exact HB.out))))
                    have n1_ := Aside0.mk (blk_below (g := gb105) (o := .cells #[.slice none 0 0, .slice none 0 0] 38 (0, 0)) (by (with_reducible repeat (first | refine blk_drewN ?_ _ | refine blk_drew ?_ | refine blk_alloc ?_ _)); exact BK105.out) hb)
                    have n2_ := Aside0.mk (below_step (by repeat (first | (with_reducible first | exact HB.out | apply below_alloc | apply pw_below_drewN | apply below_drew1 | refine below_set ?_ GE105.out) | exact HB.out)) hb)
                    clear BK105
                    clear HB
                    have HO111 := n0_
                    have BK105 := n1_
                    have HB := n2_
                    clear n0_ n1_ n2_
                    clear hb ho12
                    refine hK.out _ _ trivial (fun hHeld => ?_)
                    clear hK K
                    refine norm_ (a' := ?_) ?_ ?_
                    rotate_left
                    · show Act.put _ (some 21) _ = _
                      simp only [Act.put, List.setIfInBounds_toArray, List.set_cons_zero, List.set_cons_succ, i64_w, i32_w]
                      rfl
                    exact norm_ (by first | (simp only [putAll, Act.put, List.setIfInBounds_toArray, List.set_cons_zero, List.set_cons_succ]; done) | (simp only [putAll, Act.put, List.setIfInBounds_toArray, List.set_cons_zero, List.set_cons_succ]; rfl)) (hJ3 (v110) _ ⟨(by (with_reducible repeat (first | apply Kd.R_alloc | apply Kd.R_drewN | apply Kd.R_drew)); exact HO111.out), (by (with_reducible repeat (first | refine blk_drewN ?_ _ | refine blk_drew ?_ | refine blk_alloc ?_ _)); exact BK105.out), (by repeat (first | (with_reducible first | exact HB.out | apply below_alloc | apply pw_below_drewN | apply below_drew1 | refine below_set ?_ GE105.out) | exact HB.out))⟩)
                  · skip
                    refine box_step ?hg (N := 6) ?hd (cs := #[.slice none 0 0, .slice none 0 0]) (t := 38) ?hr ?_; (case hd => rfl); (case hg => rfl); (case hr => first | (go_simp; done) | (go_simp; rfl))
                    intro gb112 hg w11 hbox hb
                    have n0_ := Aside0.mk (blk_below (g := gb105) (o := .cells #[.slice none 0 0, .slice none 0 0] 38 (0, 0)) (by (with_reducible repeat (first | refine blk_drewN ?_ _ | refine blk_drew ?_ | refine blk_alloc ?_ _)); exact BK105.out) hb)
                    have n1_ := Aside0.mk (below_step (by repeat (first | (with_reducible first | exact HB.out | apply below_alloc | apply pw_below_drewN | apply below_drew1 | refine below_set ?_ GE105.out) | exact HB.out)) hb)
                    have n2_ := Aside0.mk (hbox)
                    have n3_ := Aside0.mk ((by rw [hg]; exact (below_size (by repeat (first | (with_reducible first | exact HB.out | apply below_alloc | apply pw_below_drewN | apply below_drew1 | refine below_set ?_ GE105.out) | exact HB.out))) : w.heap.size ≤ gb112))
                    have n4_ := Aside0.mk ((by rw [hg]; exact (below_size (by repeat (first | (with_reducible first | exact HB.out | apply below_alloc | apply pw_below_drewN | apply below_drew1 | refine below_set ?_ GE105.out) | exact HB.out))) : w.heap.size ≤ gb112))
                    have n5_ := Aside0.mk ((by rw [hg]; exact Nat.ne_of_lt (blk_lt (g := gb105) (o := .cells #[.slice none 0 0, .slice none 0 0] 38 (0, 0)) (by (with_reducible repeat (first | refine blk_drewN ?_ _ | refine blk_drew ?_ | refine blk_alloc ?_ _)); exact BK105.out)) : gb105 ≠ gb112))
                    have n6_ := Aside0.mk ((by rw [hg]; exact Nat.ne_of_gt (blk_lt (g := gb105) (o := .cells #[.slice none 0 0, .slice none 0 0] 38 (0, 0)) (by (with_reducible repeat (first | refine blk_drewN ?_ _ | refine blk_drew ?_ | refine blk_alloc ?_ _)); exact BK105.out)) : gb112 ≠ gb105))
                    clear BK105
                    clear HB
                    have BK105 := n0_
                    have HB := n1_
                    have BK112 := n2_
                    have GW112 := n3_
                    have GE112 := n4_
                    have NB105_112 := n5_
                    have NB112_105 := n6_
                    clear n0_ n1_ n2_ n3_ n4_ n5_ n6_
                    clear hb hbox hg
                    refine hK.out _ _ trivial (fun hHeld => ?_)
                    clear hK K
                    refine norm_ (a' := ?_) ?_ ?_
                    rotate_left
                    · show Act.put _ (some 6) _ = _
                      simp only [Act.put, List.setIfInBounds_toArray, List.set_cons_zero, List.set_cons_succ, i64_w, i32_w]
                      rfl
                    exact norm_ (by first | (simp only [putAll, Act.put, List.setIfInBounds_toArray, List.set_cons_zero, List.set_cons_succ]; done) | (simp only [putAll, Act.put, List.setIfInBounds_toArray, List.set_cons_zero, List.set_cons_succ]; rfl)) (hJ5 (gb112) _ ⟨(by (with_reducible repeat (first | refine blk_drewN ?_ _ | refine blk_drew ?_ | refine blk_alloc ?_ _)); exact BK105.out), (by (with_reducible repeat (first | refine blk_drewN ?_ _ | refine blk_drew ?_ | refine blk_alloc ?_ _)); exact BK112.out), GW112.out, GE112.out, NB105_112.out, NB112_105.out, (by repeat (first | (with_reducible first | exact HB.out | apply below_alloc | apply pw_below_drewN | apply below_drew1 | refine below_set ?_ GE105.out | refine below_set ?_ GE112.out) | exact HB.out))⟩)
                · skip
                  rintro gb112 w12 ⟨h0_, h1_, h2_, h3_, h4_, h5_, h6_⟩
                  have n0_ : Aside0 (w12.heap[gb105]? = some (.cells #[.slice none 0 0, .slice none 0 0] 38 (0, 0))) := ⟨h0_⟩
                  have n1_ : Aside0 (w12.heap[gb112]? = some (.cells #[.slice none 0 0, .slice none 0 0] 38 (0, 0))) := ⟨h1_⟩
                  have n2_ : Aside0 (w.heap.size ≤ gb112) := ⟨h2_⟩
                  have n3_ : Aside0 (w.heap.size ≤ gb112) := ⟨h3_⟩
                  have n4_ : Aside0 (gb105 ≠ gb112) := ⟨h4_⟩
                  have n5_ : Aside0 (gb112 ≠ gb105) := ⟨h5_⟩
                  have n6_ : Aside0 (Below w.heap.size w w12) := ⟨h6_⟩
                  clear BK105
                  clear HB
                  clear h0_ h1_ h2_ h3_ h4_ h5_ h6_
                  have BK105 := n0_
                  have BK112 := n1_
                  have GW112 := n2_
                  have GE112 := n3_
                  have NB105_112 := n4_
                  have NB112_105 := n5_
                  have HB := n6_
                  clear n0_ n1_ n2_ n3_ n4_ n5_ n6_
                  have hHeld := trivial
                  refine norm_ (a' := ?_) ?_ ?_
                  rotate_left
                  · simp only [putAll, Act.put, List.setIfInBounds_toArray, List.set_cons_zero, List.set_cons_succ]
                    rfl
                  refine two_ (i := 1) (j := 3) (Ni := some 19) (Nj := some 21) #[true, true, true, false, false, true, false] #[true, false, true, true, false, true, false] rfl rfl rfl rfl (by kernel_rfl) (by decide) (by decide) (fun K hK => ?_) (fun K hK => ?_)
                  · skip
                    refine Kd.R_make_step Kd.string _ 9 (by rfl) (N := 19) rfl 36 _ _ rfl (l0.length : Int) rfl rfl Try.underlying36 (.string ⟨#[]⟩) 16 info9 rfl (by decide) (by omega) (⟨#[]⟩ : ByteArray) (ok := fun _ => True) (okp := fun _ => True) rfl (fun _ hk => hk) trivial (of_decide_eq_true (by first | (with_reducible assumption) | assumption)) (Nat.le_trans (Nat.mul_le_mul_right _ (of_decide_eq_true (by first | (with_reducible assumption) | assumption) : (l0.length : Int).toNat ≤ 17592186044416)) (by omega)) (Below.refl _ _) (Nat.le_refl _) ?_
                    intro v107 w13 ho14 hb hg_ hnew_
                    clear hg_ hnew_
                    (first | rw [← Ny106.out] at ho14 | (simp only [Int.reduceToNat] at ho14; rw [← Ny106.out] at ho14))
                    have n0_ := Aside0.mk (Kd.R_lower ho14 (below_size (by repeat (first | (with_reducible first | exact HB.out | apply below_alloc | apply pw_below_drewN | apply below_drew1 | refine below_set ?_ GE105.out | refine below_set ?_ GE112.out) | exact HB.out))))
                    have n1_ := Aside0.mk (blk_below (g := gb105) (o := .cells #[.slice none 0 0, .slice none 0 0] 38 (0, 0)) (by (with_reducible repeat (first | refine blk_drewN ?_ _ | refine blk_drew ?_ | refine blk_alloc ?_ _)); exact BK105.out) hb)
                    have n2_ := Aside0.mk (blk_below (g := gb112) (o := .cells #[.slice none 0 0, .slice none 0 0] 38 (0, 0)) (by (with_reducible repeat (first | refine blk_drewN ?_ _ | refine blk_drew ?_ | refine blk_alloc ?_ _)); exact BK112.out) hb)
                    have n3_ := Aside0.mk (below_step (by repeat (first | (with_reducible first | exact HB.out | apply below_alloc | apply pw_below_drewN | apply below_drew1 | refine below_set ?_ GE105.out | refine below_set ?_ GE112.out) | exact HB.out)) hb)
                    clear BK105
                    clear BK112
                    clear HB
                    have HO108 := n0_
                    have BK105 := n1_
                    have BK112 := n2_
                    have HB := n3_
                    clear n0_ n1_ n2_ n3_
                    clear hb ho14
                    refine hK.out _ _ trivial (fun hHeld => ?_)
                    clear hK K
                    refine norm_ (a' := ?_) ?_ ?_
                    rotate_left
                    · show Act.put _ (some 19) _ = _
                      simp only [Act.put, List.setIfInBounds_toArray, List.set_cons_zero, List.set_cons_succ, i64_w, i32_w]
                      rfl
                    exact norm_ (by first | (simp only [putAll, Act.put, List.setIfInBounds_toArray, List.set_cons_zero, List.set_cons_succ]; done) | (simp only [putAll, Act.put, List.setIfInBounds_toArray, List.set_cons_zero, List.set_cons_succ]; rfl)) (hJ1_5 (v107, gb112) _ ⟨(by (with_reducible repeat (first | apply Kd.R_alloc | apply Kd.R_drewN | apply Kd.R_drew)); exact HO108.out), (by (with_reducible repeat (first | refine blk_drewN ?_ _ | refine blk_drew ?_ | refine blk_alloc ?_ _)); exact BK105.out), (by (with_reducible repeat (first | refine blk_drewN ?_ _ | refine blk_drew ?_ | refine blk_alloc ?_ _)); exact BK112.out), GW112.out, GE112.out, NB105_112.out, NB112_105.out, (by repeat (first | (with_reducible first | exact HB.out | apply below_alloc | apply pw_below_drewN | apply below_drew1 | refine below_set ?_ GE105.out | refine below_set ?_ GE112.out) | exact HB.out))⟩)
                  · skip
                    refine Kd.R_make_step Kd.string _ 9 (by rfl) (N := 21) rfl 36 _ _ rfl (l0.length : Int) rfl rfl Try.underlying36 (.string ⟨#[]⟩) 16 info9 rfl (by decide) (by omega) (⟨#[]⟩ : ByteArray) (ok := fun _ => True) (okp := fun _ => True) rfl (fun _ hk => hk) trivial (of_decide_eq_true (by first | (with_reducible assumption) | assumption)) (Nat.le_trans (Nat.mul_le_mul_right _ (of_decide_eq_true (by first | (with_reducible assumption) | assumption) : (l0.length : Int).toNat ≤ 17592186044416)) (by omega)) (Below.refl _ _) (Nat.le_refl _) ?_
                    intro v110 w13 ho14 hb hg_ hnew_
                    clear hg_ hnew_
                    (first | rw [← Ny109.out] at ho14 | (simp only [Int.reduceToNat] at ho14; rw [← Ny109.out] at ho14))
                    have n0_ := Aside0.mk (Kd.R_lower ho14 (below_size (by repeat (first | (with_reducible first | exact HB.out | apply below_alloc | apply pw_below_drewN | apply below_drew1 | refine below_set ?_ GE105.out | refine below_set ?_ GE112.out) | exact HB.out))))
                    have n1_ := Aside0.mk (blk_below (g := gb105) (o := .cells #[.slice none 0 0, .slice none 0 0] 38 (0, 0)) (by (with_reducible repeat (first | refine blk_drewN ?_ _ | refine blk_drew ?_ | refine blk_alloc ?_ _)); exact BK105.out) hb)
                    have n2_ := Aside0.mk (blk_below (g := gb112) (o := .cells #[.slice none 0 0, .slice none 0 0] 38 (0, 0)) (by (with_reducible repeat (first | refine blk_drewN ?_ _ | refine blk_drew ?_ | refine blk_alloc ?_ _)); exact BK112.out) hb)
                    have n3_ := Aside0.mk (below_step (by repeat (first | (with_reducible first | exact HB.out | apply below_alloc | apply pw_below_drewN | apply below_drew1 | refine below_set ?_ GE105.out | refine below_set ?_ GE112.out) | exact HB.out)) hb)
                    clear BK105
                    clear BK112
                    clear HB
                    have HO111 := n0_
                    have BK105 := n1_
                    have BK112 := n2_
                    have HB := n3_
                    clear n0_ n1_ n2_ n3_
                    clear hb ho14
                    refine hK.out _ _ trivial (fun hHeld => ?_)
                    clear hK K
                    refine norm_ (a' := ?_) ?_ ?_
                    rotate_left
                    · show Act.put _ (some 21) _ = _
                      simp only [Act.put, List.setIfInBounds_toArray, List.set_cons_zero, List.set_cons_succ, i64_w, i32_w]
                      rfl
                    exact norm_ (by first | (simp only [putAll, Act.put, List.setIfInBounds_toArray, List.set_cons_zero, List.set_cons_succ]; done) | (simp only [putAll, Act.put, List.setIfInBounds_toArray, List.set_cons_zero, List.set_cons_succ]; rfl)) (hJ3_5 (v110, gb112) _ ⟨(by (with_reducible repeat (first | apply Kd.R_alloc | apply Kd.R_drewN | apply Kd.R_drew)); exact HO111.out), (by (with_reducible repeat (first | refine blk_drewN ?_ _ | refine blk_drew ?_ | refine blk_alloc ?_ _)); exact BK105.out), (by (with_reducible repeat (first | refine blk_drewN ?_ _ | refine blk_drew ?_ | refine blk_alloc ?_ _)); exact BK112.out), GW112.out, GE112.out, NB105_112.out, NB112_105.out, (by repeat (first | (with_reducible first | exact HB.out | apply below_alloc | apply pw_below_drewN | apply below_drew1 | refine below_set ?_ GE105.out | refine below_set ?_ GE112.out) | exact HB.out))⟩)
              · skip
                rintro v110 w13 ⟨h0_, h1_, h2_⟩
                have n0_ : Aside0 (Kd.R Kd.string 9 w13 w.heap.size (fun _ => True) v110 y109) := ⟨h0_⟩
                have n1_ : Aside0 (w13.heap[gb105]? = some (.cells #[.slice none 0 0, .slice none 0 0] 38 (0, 0))) := ⟨h1_⟩
                have n2_ : Aside0 (Below w.heap.size w w13) := ⟨h2_⟩
                clear BK105
                clear HB
                clear h0_ h1_ h2_
                have HO111 := n0_
                have BK105 := n1_
                have HB := n2_
                clear n0_ n1_ n2_
                have hHeld := trivial
                refine norm_ (a' := ?_) ?_ ?_
                rotate_left
                · simp only [putAll, Act.put, List.setIfInBounds_toArray, List.set_cons_zero, List.set_cons_succ]
                  rfl
                refine two_ (i := 1) (j := 5) (Ni := some 19) (Nj := some 6) #[true, true, true, true, false, false, false] #[true, false, true, true, false, true, false] rfl rfl rfl rfl (by kernel_rfl) (by decide) (by decide) (fun K hK => ?_) (fun K hK => ?_)
                · skip
                  refine Kd.R_make_step Kd.string _ 9 (by rfl) (N := 19) rfl 36 _ _ rfl (l0.length : Int) rfl rfl Try.underlying36 (.string ⟨#[]⟩) 16 info9 rfl (by decide) (by omega) (⟨#[]⟩ : ByteArray) (ok := fun _ => True) (okp := fun _ => True) rfl (fun _ hk => hk) trivial (of_decide_eq_true (by first | (with_reducible assumption) | assumption)) (Nat.le_trans (Nat.mul_le_mul_right _ (of_decide_eq_true (by first | (with_reducible assumption) | assumption) : (l0.length : Int).toNat ≤ 17592186044416)) (by omega)) (Below.refl _ _) (Nat.le_refl _) ?_
                  intro v107 w14 ho15 hb hg_ hnew_
                  clear hg_ hnew_
                  (first | rw [← Ny106.out] at ho15 | (simp only [Int.reduceToNat] at ho15; rw [← Ny106.out] at ho15))
                  have n0_ := Aside0.mk (Kd.R_elder' (by (with_reducible repeat (first | apply Kd.R_alloc | apply Kd.R_drewN | apply Kd.R_drew)); exact HO111.out) (Kd.R_base ho15) hb)
                  have n1_ := Aside0.mk (Kd.R_lower (Kd.R_new' ho15 (Kd.R_lt (by (with_reducible repeat (first | apply Kd.R_alloc | apply Kd.R_drewN | apply Kd.R_drew)); exact HO111.out))) (below_size (by repeat (first | (with_reducible first | exact HB.out | apply below_alloc | apply pw_below_drewN | apply below_drew1 | refine below_set ?_ GE105.out) | exact HB.out))))
                  have n2_ := Aside0.mk (blk_below (g := gb105) (o := .cells #[.slice none 0 0, .slice none 0 0] 38 (0, 0)) (by (with_reducible repeat (first | refine blk_drewN ?_ _ | refine blk_drew ?_ | refine blk_alloc ?_ _)); exact BK105.out) hb)
                  have n3_ := Aside0.mk (below_step (by repeat (first | (with_reducible first | exact HB.out | apply below_alloc | apply pw_below_drewN | apply below_drew1 | refine below_set ?_ GE105.out) | exact HB.out)) hb)
                  clear HO111
                  clear BK105
                  clear HB
                  have HO111 := n0_
                  have HO108 := n1_
                  have BK105 := n2_
                  have HB := n3_
                  clear n0_ n1_ n2_ n3_
                  clear hb ho15
                  obtain ⟨Ao16, co16, eo16⟩ := Kd.R_slice HO111.out
                  (first | subst eo16 | (injection eo16 with f1_ f2_ f3_; have f4_ := f1_.symm; have f5_ := f3_.symm; clear f1_ f2_ f3_; subst f4_; subst f5_))
                  obtain ⟨Ao17, co17, eo17⟩ := Kd.R_slice HO108.out
                  (first | subst eo17 | (injection eo17 with f1_ f2_ f3_; have f4_ := f1_.symm; have f5_ := f3_.symm; clear f1_ f2_ f3_; subst f4_; subst f5_))
                  refine hK.out _ _ trivial (fun hHeld => ?_)
                  clear hK K
                  refine norm_ (a' := ?_) ?_ ?_
                  rotate_left
                  · show Act.put _ (some 19) _ = _
                    simp only [Act.put, List.setIfInBounds_toArray, List.set_cons_zero, List.set_cons_succ, i64_w, i32_w]
                    rfl
                  refine pure_ (i := 4) (N := some 22) (v := ?_) (a' := ?_) #[true, true, true, true, true, false, false] rfl rfl (by kernel_rfl) (fun _ _ _ h => h) (Or.inl ⟨by rfl, ?_⟩) ?_ ?_
                  rotate_left
                  · intro w'
                    go_simp
                    with_reducible rfl
                  rotate_left
                  · simp only [Act.put, List.setIfInBounds_toArray, List.set_cons_zero, List.set_cons_succ, i64_w, i32_w]
                    rfl
                  exact norm_ (by first | (simp only [putAll, Act.put, List.setIfInBounds_toArray, List.set_cons_zero, List.set_cons_succ]; done) | (simp only [putAll, Act.put, List.setIfInBounds_toArray, List.set_cons_zero, List.set_cons_succ]; rfl)) (hJ1_3 (.slice Ao17 y106.length co17, .slice Ao16 y109.length co16) _ ⟨(by (with_reducible repeat (first | apply Kd.R_alloc | apply Kd.R_drewN | apply Kd.R_drew)); exact Kd.R_mono HO108.out (fun _ hk => hk.2)), (by (with_reducible repeat (first | apply Kd.R_alloc | apply Kd.R_drewN | apply Kd.R_drew)); exact Kd.R_mono HO111.out (fun _ hk => hk.2)), (by (with_reducible repeat (first | refine blk_drewN ?_ _ | refine blk_drew ?_ | refine blk_alloc ?_ _)); exact BK105.out), (by repeat (first | (with_reducible first | exact HB.out | apply below_alloc | apply pw_below_drewN | apply below_drew1 | refine below_set ?_ GE105.out) | exact HB.out))⟩)
                · skip
                  refine box_step ?hg (N := 6) ?hd (cs := #[.slice none 0 0, .slice none 0 0]) (t := 38) ?hr ?_; (case hd => rfl); (case hg => rfl); (case hr => first | (go_simp; done) | (go_simp; rfl))
                  intro gb112 hg w14 hbox hb
                  have n0_ := Aside0.mk (Kd.R_below (by (with_reducible repeat (first | apply Kd.R_alloc | apply Kd.R_drewN | apply Kd.R_drew)); exact HO111.out) hb)
                  have n1_ := Aside0.mk (blk_below (g := gb105) (o := .cells #[.slice none 0 0, .slice none 0 0] 38 (0, 0)) (by (with_reducible repeat (first | refine blk_drewN ?_ _ | refine blk_drew ?_ | refine blk_alloc ?_ _)); exact BK105.out) hb)
                  have n2_ := Aside0.mk (below_step (by repeat (first | (with_reducible first | exact HB.out | apply below_alloc | apply pw_below_drewN | apply below_drew1 | refine below_set ?_ GE105.out) | exact HB.out)) hb)
                  have n3_ := Aside0.mk (hbox)
                  have n4_ := Aside0.mk ((by rw [hg]; exact (below_size (by repeat (first | (with_reducible first | exact HB.out | apply below_alloc | apply pw_below_drewN | apply below_drew1 | refine below_set ?_ GE105.out) | exact HB.out))) : w.heap.size ≤ gb112))
                  have n5_ := Aside0.mk ((by rw [hg]; exact (below_size (by repeat (first | (with_reducible first | exact HB.out | apply below_alloc | apply pw_below_drewN | apply below_drew1 | refine below_set ?_ GE105.out) | exact HB.out))) : w.heap.size ≤ gb112))
                  have n6_ := Aside0.mk ((by rw [hg]; exact Nat.ne_of_lt (blk_lt (g := gb105) (o := .cells #[.slice none 0 0, .slice none 0 0] 38 (0, 0)) (by (with_reducible repeat (first | refine blk_drewN ?_ _ | refine blk_drew ?_ | refine blk_alloc ?_ _)); exact BK105.out)) : gb105 ≠ gb112))
                  have n7_ := Aside0.mk ((by rw [hg]; exact Nat.ne_of_gt (blk_lt (g := gb105) (o := .cells #[.slice none 0 0, .slice none 0 0] 38 (0, 0)) (by (with_reducible repeat (first | refine blk_drewN ?_ _ | refine blk_drew ?_ | refine blk_alloc ?_ _)); exact BK105.out)) : gb112 ≠ gb105))
                  clear HO111
                  clear BK105
                  clear HB
                  have HO111 := n0_
                  have BK105 := n1_
                  have HB := n2_
                  have BK112 := n3_
                  have GW112 := n4_
                  have GE112 := n5_
                  have NB105_112 := n6_
                  have NB112_105 := n7_
                  clear n0_ n1_ n2_ n3_ n4_ n5_ n6_ n7_
                  clear hb hbox hg
                  refine hK.out _ _ trivial (fun hHeld => ?_)
                  clear hK K
                  refine norm_ (a' := ?_) ?_ ?_
                  rotate_left
                  · show Act.put _ (some 6) _ = _
                    simp only [Act.put, List.setIfInBounds_toArray, List.set_cons_zero, List.set_cons_succ, i64_w, i32_w]
                    rfl
                  exact norm_ (by first | (simp only [putAll, Act.put, List.setIfInBounds_toArray, List.set_cons_zero, List.set_cons_succ]; done) | (simp only [putAll, Act.put, List.setIfInBounds_toArray, List.set_cons_zero, List.set_cons_succ]; rfl)) (hJ3_5 (v110, gb112) _ ⟨(by (with_reducible repeat (first | apply Kd.R_alloc | apply Kd.R_drewN | apply Kd.R_drew)); exact HO111.out), (by (with_reducible repeat (first | refine blk_drewN ?_ _ | refine blk_drew ?_ | refine blk_alloc ?_ _)); exact BK105.out), (by (with_reducible repeat (first | refine blk_drewN ?_ _ | refine blk_drew ?_ | refine blk_alloc ?_ _)); exact BK112.out), GW112.out, GE112.out, NB105_112.out, NB112_105.out, (by repeat (first | (with_reducible first | exact HB.out | apply below_alloc | apply pw_below_drewN | apply below_drew1 | refine below_set ?_ GE105.out | refine below_set ?_ GE112.out) | exact HB.out))⟩)
            · skip
              rintro v107 w13 ⟨h0_, h1_, h2_⟩
              have n0_ : Aside0 (Kd.R Kd.string 9 w13 w.heap.size (fun _ => True) v107 y106) := ⟨h0_⟩
              have n1_ : Aside0 (w13.heap[gb105]? = some (.cells #[.slice none 0 0, .slice none 0 0] 38 (0, 0))) := ⟨h1_⟩
              have n2_ : Aside0 (Below w.heap.size w w13) := ⟨h2_⟩
              clear BK105
              clear HB
              clear h0_ h1_ h2_
              have HO108 := n0_
              have BK105 := n1_
              have HB := n2_
              clear n0_ n1_ n2_
              have hHeld := trivial
              refine norm_ (a' := ?_) ?_ ?_
              rotate_left
              · simp only [putAll, Act.put, List.setIfInBounds_toArray, List.set_cons_zero, List.set_cons_succ]
                rfl
              refine two_ (i := 3) (j := 5) (Ni := some 21) (Nj := some 6) #[true, true, true, true, false, false, false] #[true, true, true, false, false, true, false] rfl rfl rfl rfl (by kernel_rfl) (by decide) (by decide) (fun K hK => ?_) (fun K hK => ?_)
              · skip
                refine Kd.R_make_step Kd.string _ 9 (by rfl) (N := 21) rfl 36 _ _ rfl (l0.length : Int) rfl rfl Try.underlying36 (.string ⟨#[]⟩) 16 info9 rfl (by decide) (by omega) (⟨#[]⟩ : ByteArray) (ok := fun _ => True) (okp := fun _ => True) rfl (fun _ hk => hk) trivial (of_decide_eq_true (by first | (with_reducible assumption) | assumption)) (Nat.le_trans (Nat.mul_le_mul_right _ (of_decide_eq_true (by first | (with_reducible assumption) | assumption) : (l0.length : Int).toNat ≤ 17592186044416)) (by omega)) (Below.refl _ _) (Nat.le_refl _) ?_
                intro v110 w14 ho15 hb hg_ hnew_
                clear hg_ hnew_
                (first | rw [← Ny109.out] at ho15 | (simp only [Int.reduceToNat] at ho15; rw [← Ny109.out] at ho15))
                have n0_ := Aside0.mk (Kd.R_elder' (by (with_reducible repeat (first | apply Kd.R_alloc | apply Kd.R_drewN | apply Kd.R_drew)); exact HO108.out) (Kd.R_base ho15) hb)
                have n1_ := Aside0.mk (Kd.R_lower (Kd.R_new' ho15 (Kd.R_lt (by (with_reducible repeat (first | apply Kd.R_alloc | apply Kd.R_drewN | apply Kd.R_drew)); exact HO108.out))) (below_size (by repeat (first | (with_reducible first | exact HB.out | apply below_alloc | apply pw_below_drewN | apply below_drew1 | refine below_set ?_ GE105.out) | exact HB.out))))
                have n2_ := Aside0.mk (blk_below (g := gb105) (o := .cells #[.slice none 0 0, .slice none 0 0] 38 (0, 0)) (by (with_reducible repeat (first | refine blk_drewN ?_ _ | refine blk_drew ?_ | refine blk_alloc ?_ _)); exact BK105.out) hb)
                have n3_ := Aside0.mk (below_step (by repeat (first | (with_reducible first | exact HB.out | apply below_alloc | apply pw_below_drewN | apply below_drew1 | refine below_set ?_ GE105.out) | exact HB.out)) hb)
                clear HO108
                clear BK105
                clear HB
                have HO108 := n0_
                have HO111 := n1_
                have BK105 := n2_
                have HB := n3_
                clear n0_ n1_ n2_ n3_
                clear hb ho15
                obtain ⟨Ao16, co16, eo16⟩ := Kd.R_slice HO111.out
                (first | subst eo16 | (injection eo16 with f1_ f2_ f3_; have f4_ := f1_.symm; have f5_ := f3_.symm; clear f1_ f2_ f3_; subst f4_; subst f5_))
                obtain ⟨Ao17, co17, eo17⟩ := Kd.R_slice HO108.out
                (first | subst eo17 | (injection eo17 with f1_ f2_ f3_; have f4_ := f1_.symm; have f5_ := f3_.symm; clear f1_ f2_ f3_; subst f4_; subst f5_))
                refine hK.out _ _ trivial (fun hHeld => ?_)
                clear hK K
                refine norm_ (a' := ?_) ?_ ?_
                rotate_left
                · show Act.put _ (some 21) _ = _
                  simp only [Act.put, List.setIfInBounds_toArray, List.set_cons_zero, List.set_cons_succ, i64_w, i32_w]
                  rfl
                refine pure_ (i := 4) (N := some 22) (v := ?_) (a' := ?_) #[true, true, true, true, true, false, false] rfl rfl (by kernel_rfl) (fun _ _ _ h => h) (Or.inl ⟨by rfl, ?_⟩) ?_ ?_
                rotate_left
                · intro w'
                  go_simp
                  with_reducible rfl
                rotate_left
                · simp only [Act.put, List.setIfInBounds_toArray, List.set_cons_zero, List.set_cons_succ, i64_w, i32_w]
                  rfl
                exact norm_ (by first | (simp only [putAll, Act.put, List.setIfInBounds_toArray, List.set_cons_zero, List.set_cons_succ]; done) | (simp only [putAll, Act.put, List.setIfInBounds_toArray, List.set_cons_zero, List.set_cons_succ]; rfl)) (hJ1_3 (.slice Ao17 y106.length co17, .slice Ao16 y109.length co16) _ ⟨(by (with_reducible repeat (first | apply Kd.R_alloc | apply Kd.R_drewN | apply Kd.R_drew)); exact Kd.R_mono HO108.out (fun _ hk => hk.2)), (by (with_reducible repeat (first | apply Kd.R_alloc | apply Kd.R_drewN | apply Kd.R_drew)); exact Kd.R_mono HO111.out (fun _ hk => hk.2)), (by (with_reducible repeat (first | refine blk_drewN ?_ _ | refine blk_drew ?_ | refine blk_alloc ?_ _)); exact BK105.out), (by repeat (first | (with_reducible first | exact HB.out | apply below_alloc | apply pw_below_drewN | apply below_drew1 | refine below_set ?_ GE105.out) | exact HB.out))⟩)
              · skip
                refine box_step ?hg (N := 6) ?hd (cs := #[.slice none 0 0, .slice none 0 0]) (t := 38) ?hr ?_; (case hd => rfl); (case hg => rfl); (case hr => first | (go_simp; done) | (go_simp; rfl))
                intro gb112 hg w14 hbox hb
                have n0_ := Aside0.mk (Kd.R_below (by (with_reducible repeat (first | apply Kd.R_alloc | apply Kd.R_drewN | apply Kd.R_drew)); exact HO108.out) hb)
                have n1_ := Aside0.mk (blk_below (g := gb105) (o := .cells #[.slice none 0 0, .slice none 0 0] 38 (0, 0)) (by (with_reducible repeat (first | refine blk_drewN ?_ _ | refine blk_drew ?_ | refine blk_alloc ?_ _)); exact BK105.out) hb)
                have n2_ := Aside0.mk (below_step (by repeat (first | (with_reducible first | exact HB.out | apply below_alloc | apply pw_below_drewN | apply below_drew1 | refine below_set ?_ GE105.out) | exact HB.out)) hb)
                have n3_ := Aside0.mk (hbox)
                have n4_ := Aside0.mk ((by rw [hg]; exact (below_size (by repeat (first | (with_reducible first | exact HB.out | apply below_alloc | apply pw_below_drewN | apply below_drew1 | refine below_set ?_ GE105.out) | exact HB.out))) : w.heap.size ≤ gb112))
                have n5_ := Aside0.mk ((by rw [hg]; exact (below_size (by repeat (first | (with_reducible first | exact HB.out | apply below_alloc | apply pw_below_drewN | apply below_drew1 | refine below_set ?_ GE105.out) | exact HB.out))) : w.heap.size ≤ gb112))
                have n6_ := Aside0.mk ((by rw [hg]; exact Nat.ne_of_lt (blk_lt (g := gb105) (o := .cells #[.slice none 0 0, .slice none 0 0] 38 (0, 0)) (by (with_reducible repeat (first | refine blk_drewN ?_ _ | refine blk_drew ?_ | refine blk_alloc ?_ _)); exact BK105.out)) : gb105 ≠ gb112))
                have n7_ := Aside0.mk ((by rw [hg]; exact Nat.ne_of_gt (blk_lt (g := gb105) (o := .cells #[.slice none 0 0, .slice none 0 0] 38 (0, 0)) (by (with_reducible repeat (first | refine blk_drewN ?_ _ | refine blk_drew ?_ | refine blk_alloc ?_ _)); exact BK105.out)) : gb112 ≠ gb105))
                clear HO108
                clear BK105
                clear HB
                have HO108 := n0_
                have BK105 := n1_
                have HB := n2_
                have BK112 := n3_
                have GW112 := n4_
                have GE112 := n5_
                have NB105_112 := n6_
                have NB112_105 := n7_
                clear n0_ n1_ n2_ n3_ n4_ n5_ n6_ n7_
                clear hb hbox hg
                refine hK.out _ _ trivial (fun hHeld => ?_)
                clear hK K
                refine norm_ (a' := ?_) ?_ ?_
                rotate_left
                · show Act.put _ (some 6) _ = _
                  simp only [Act.put, List.setIfInBounds_toArray, List.set_cons_zero, List.set_cons_succ, i64_w, i32_w]
                  rfl
                exact norm_ (by first | (simp only [putAll, Act.put, List.setIfInBounds_toArray, List.set_cons_zero, List.set_cons_succ]; done) | (simp only [putAll, Act.put, List.setIfInBounds_toArray, List.set_cons_zero, List.set_cons_succ]; rfl)) (hJ1_5 (v107, gb112) _ ⟨(by (with_reducible repeat (first | apply Kd.R_alloc | apply Kd.R_drewN | apply Kd.R_drew)); exact HO108.out), (by (with_reducible repeat (first | refine blk_drewN ?_ _ | refine blk_drew ?_ | refine blk_alloc ?_ _)); exact BK105.out), (by (with_reducible repeat (first | refine blk_drewN ?_ _ | refine blk_drew ?_ | refine blk_alloc ?_ _)); exact BK112.out), GW112.out, GE112.out, NB105_112.out, NB112_105.out, (by repeat (first | (with_reducible first | exact HB.out | apply below_alloc | apply pw_below_drewN | apply below_drew1 | refine below_set ?_ GE105.out | refine below_set ?_ GE112.out) | exact HB.out))⟩)
          · skip
            rintro ⟨v110, gb112⟩ w14 ⟨h0_, h1_, h2_, h3_, h4_, h5_, h6_, h7_⟩
            have n0_ : Aside0 (Kd.R Kd.string 9 w14 w.heap.size (fun _ => True) v110 y109) := ⟨h0_⟩
            have n1_ : Aside0 (w14.heap[gb105]? = some (.cells #[.slice none 0 0, .slice none 0 0] 38 (0, 0))) := ⟨h1_⟩
            have n2_ : Aside0 (w14.heap[gb112]? = some (.cells #[.slice none 0 0, .slice none 0 0] 38 (0, 0))) := ⟨h2_⟩
            have n3_ : Aside0 (w.heap.size ≤ gb112) := ⟨h3_⟩
            have n4_ : Aside0 (w.heap.size ≤ gb112) := ⟨h4_⟩
            have n5_ : Aside0 (gb105 ≠ gb112) := ⟨h5_⟩
            have n6_ : Aside0 (gb112 ≠ gb105) := ⟨h6_⟩
            have n7_ : Aside0 (Below w.heap.size w w14) := ⟨h7_⟩
            clear BK105
            clear HB
            clear h0_ h1_ h2_ h3_ h4_ h5_ h6_ h7_
            have HO111 := n0_
            have BK105 := n1_
            have BK112 := n2_
            have GW112 := n3_
            have GE112 := n4_
            have NB105_112 := n5_
            have NB112_105 := n6_
            have HB := n7_
            clear n0_ n1_ n2_ n3_ n4_ n5_ n6_ n7_
            have hHeld := trivial
            refine norm_ (a' := ?_) ?_ ?_
            rotate_left
            · simp only [putAll, Act.put, List.setIfInBounds_toArray, List.set_cons_zero, List.set_cons_succ]
              rfl
            refine one_ (i := 1) (N := some 19) #[true, true, true, true, false, true, false] rfl rfl (by kernel_rfl) (by decide) (fun K hK => ?_)
            refine Kd.R_make_step Kd.string _ 9 (by rfl) (N := 19) rfl 36 _ _ rfl (l0.length : Int) rfl rfl Try.underlying36 (.string ⟨#[]⟩) 16 info9 rfl (by decide) (by omega) (⟨#[]⟩ : ByteArray) (ok := fun _ => True) (okp := fun _ => True) rfl (fun _ hk => hk) trivial (of_decide_eq_true (by first | (with_reducible assumption) | assumption)) (Nat.le_trans (Nat.mul_le_mul_right _ (of_decide_eq_true (by first | (with_reducible assumption) | assumption) : (l0.length : Int).toNat ≤ 17592186044416)) (by omega)) (Below.refl _ _) (Nat.le_refl _) ?_
            intro v107 w15 ho16 hb hg_ hnew_
            clear hg_ hnew_
            (first | rw [← Ny106.out] at ho16 | (simp only [Int.reduceToNat] at ho16; rw [← Ny106.out] at ho16))
            have n0_ := Aside0.mk (Kd.R_elder' (by (with_reducible repeat (first | apply Kd.R_alloc | apply Kd.R_drewN | apply Kd.R_drew)); exact HO111.out) (Kd.R_base ho16) hb)
            have n1_ := Aside0.mk (Kd.R_lower (Kd.R_new' ho16 (Kd.R_lt (by (with_reducible repeat (first | apply Kd.R_alloc | apply Kd.R_drewN | apply Kd.R_drew)); exact HO111.out))) (below_size (by repeat (first | (with_reducible first | exact HB.out | apply below_alloc | apply pw_below_drewN | apply below_drew1 | refine below_set ?_ GE105.out | refine below_set ?_ GE112.out) | exact HB.out))))
            have n2_ := Aside0.mk (blk_below (g := gb105) (o := .cells #[.slice none 0 0, .slice none 0 0] 38 (0, 0)) (by (with_reducible repeat (first | refine blk_drewN ?_ _ | refine blk_drew ?_ | refine blk_alloc ?_ _)); exact BK105.out) hb)
            have n3_ := Aside0.mk (blk_below (g := gb112) (o := .cells #[.slice none 0 0, .slice none 0 0] 38 (0, 0)) (by (with_reducible repeat (first | refine blk_drewN ?_ _ | refine blk_drew ?_ | refine blk_alloc ?_ _)); exact BK112.out) hb)
            have n4_ := Aside0.mk (below_step (by repeat (first | (with_reducible first | exact HB.out | apply below_alloc | apply pw_below_drewN | apply below_drew1 | refine below_set ?_ GE105.out | refine below_set ?_ GE112.out) | exact HB.out)) hb)
            clear HO111
            clear BK105
            clear BK112
            clear HB
            have HO111 := n0_
            have HO108 := n1_
            have BK105 := n2_
            have BK112 := n3_
            have HB := n4_
            clear n0_ n1_ n2_ n3_ n4_
            clear hb ho16
            obtain ⟨Ao17, co17, eo17⟩ := Kd.R_slice HO111.out
            (first | subst eo17 | (injection eo17 with f1_ f2_ f3_; have f4_ := f1_.symm; have f5_ := f3_.symm; clear f1_ f2_ f3_; subst f4_; subst f5_))
            obtain ⟨Ao18, co18, eo18⟩ := Kd.R_slice HO108.out
            (first | subst eo18 | (injection eo18 with f1_ f2_ f3_; have f4_ := f1_.symm; have f5_ := f3_.symm; clear f1_ f2_ f3_; subst f4_; subst f5_))
            refine hK.out _ _ trivial (fun hHeld => ?_)
            clear hK K
            refine norm_ (a' := ?_) ?_ ?_
            rotate_left
            · show Act.put _ (some 19) _ = _
              simp only [Act.put, List.setIfInBounds_toArray, List.set_cons_zero, List.set_cons_succ, i64_w, i32_w]
              rfl
            refine pure_ (i := 4) (N := some 22) (v := ?_) (a' := ?_) #[true, true, true, true, true, true, false] rfl rfl (by kernel_rfl) (fun _ _ _ h => h) (Or.inl ⟨by rfl, ?_⟩) ?_ ?_
            rotate_left
            · intro w'
              go_simp
              with_reducible rfl
            rotate_left
            · simp only [Act.put, List.setIfInBounds_toArray, List.set_cons_zero, List.set_cons_succ, i64_w, i32_w]
              rfl
            exact norm_ (by first | (simp only [putAll, Act.put, List.setIfInBounds_toArray, List.set_cons_zero, List.set_cons_succ]; done) | (simp only [putAll, Act.put, List.setIfInBounds_toArray, List.set_cons_zero, List.set_cons_succ]; rfl)) (hJ1_3_5 (.slice Ao18 y106.length co18, .slice Ao17 y109.length co17, gb112) _ ⟨(by (with_reducible repeat (first | apply Kd.R_alloc | apply Kd.R_drewN | apply Kd.R_drew)); exact Kd.R_mono HO108.out (fun _ hk => hk.2)), (by (with_reducible repeat (first | apply Kd.R_alloc | apply Kd.R_drewN | apply Kd.R_drew)); exact Kd.R_mono HO111.out (fun _ hk => hk.2)), (by (with_reducible repeat (first | refine blk_drewN ?_ _ | refine blk_drew ?_ | refine blk_alloc ?_ _)); exact BK105.out), (by (with_reducible repeat (first | refine blk_drewN ?_ _ | refine blk_drew ?_ | refine blk_alloc ?_ _)); exact BK112.out), GW112.out, GE112.out, NB105_112.out, NB112_105.out, (by repeat (first | (with_reducible first | exact HB.out | apply below_alloc | apply pw_below_drewN | apply below_drew1 | refine below_set ?_ GE105.out | refine below_set ?_ GE112.out) | exact HB.out))⟩)
        · skip
          rintro ⟨v107, gb112⟩ w14 ⟨h0_, h1_, h2_, h3_, h4_, h5_, h6_, h7_⟩
          have n0_ : Aside0 (Kd.R Kd.string 9 w14 w.heap.size (fun _ => True) v107 y106) := ⟨h0_⟩
          have n1_ : Aside0 (w14.heap[gb105]? = some (.cells #[.slice none 0 0, .slice none 0 0] 38 (0, 0))) := ⟨h1_⟩
          have n2_ : Aside0 (w14.heap[gb112]? = some (.cells #[.slice none 0 0, .slice none 0 0] 38 (0, 0))) := ⟨h2_⟩
          have n3_ : Aside0 (w.heap.size ≤ gb112) := ⟨h3_⟩
          have n4_ : Aside0 (w.heap.size ≤ gb112) := ⟨h4_⟩
          have n5_ : Aside0 (gb105 ≠ gb112) := ⟨h5_⟩
          have n6_ : Aside0 (gb112 ≠ gb105) := ⟨h6_⟩
          have n7_ : Aside0 (Below w.heap.size w w14) := ⟨h7_⟩
          clear BK105
          clear HB
          clear h0_ h1_ h2_ h3_ h4_ h5_ h6_ h7_
          have HO108 := n0_
          have BK105 := n1_
          have BK112 := n2_
          have GW112 := n3_
          have GE112 := n4_
          have NB105_112 := n5_
          have NB112_105 := n6_
          have HB := n7_
          clear n0_ n1_ n2_ n3_ n4_ n5_ n6_ n7_
          have hHeld := trivial
          refine norm_ (a' := ?_) ?_ ?_
          rotate_left
          · simp only [putAll, Act.put, List.setIfInBounds_toArray, List.set_cons_zero, List.set_cons_succ]
            rfl
          refine one_ (i := 3) (N := some 21) #[true, true, true, true, false, true, false] rfl rfl (by kernel_rfl) (by decide) (fun K hK => ?_)
          refine Kd.R_make_step Kd.string _ 9 (by rfl) (N := 21) rfl 36 _ _ rfl (l0.length : Int) rfl rfl Try.underlying36 (.string ⟨#[]⟩) 16 info9 rfl (by decide) (by omega) (⟨#[]⟩ : ByteArray) (ok := fun _ => True) (okp := fun _ => True) rfl (fun _ hk => hk) trivial (of_decide_eq_true (by first | (with_reducible assumption) | assumption)) (Nat.le_trans (Nat.mul_le_mul_right _ (of_decide_eq_true (by first | (with_reducible assumption) | assumption) : (l0.length : Int).toNat ≤ 17592186044416)) (by omega)) (Below.refl _ _) (Nat.le_refl _) ?_
          intro v110 w15 ho16 hb hg_ hnew_
          clear hg_ hnew_
          (first | rw [← Ny109.out] at ho16 | (simp only [Int.reduceToNat] at ho16; rw [← Ny109.out] at ho16))
          have n0_ := Aside0.mk (Kd.R_elder' (by (with_reducible repeat (first | apply Kd.R_alloc | apply Kd.R_drewN | apply Kd.R_drew)); exact HO108.out) (Kd.R_base ho16) hb)
          have n1_ := Aside0.mk (Kd.R_lower (Kd.R_new' ho16 (Kd.R_lt (by (with_reducible repeat (first | apply Kd.R_alloc | apply Kd.R_drewN | apply Kd.R_drew)); exact HO108.out))) (below_size (by repeat (first | (with_reducible first | exact HB.out | apply below_alloc | apply pw_below_drewN | apply below_drew1 | refine below_set ?_ GE105.out | refine below_set ?_ GE112.out) | exact HB.out))))
          have n2_ := Aside0.mk (blk_below (g := gb105) (o := .cells #[.slice none 0 0, .slice none 0 0] 38 (0, 0)) (by (with_reducible repeat (first | refine blk_drewN ?_ _ | refine blk_drew ?_ | refine blk_alloc ?_ _)); exact BK105.out) hb)
          have n3_ := Aside0.mk (blk_below (g := gb112) (o := .cells #[.slice none 0 0, .slice none 0 0] 38 (0, 0)) (by (with_reducible repeat (first | refine blk_drewN ?_ _ | refine blk_drew ?_ | refine blk_alloc ?_ _)); exact BK112.out) hb)
          have n4_ := Aside0.mk (below_step (by repeat (first | (with_reducible first | exact HB.out | apply below_alloc | apply pw_below_drewN | apply below_drew1 | refine below_set ?_ GE105.out | refine below_set ?_ GE112.out) | exact HB.out)) hb)
          clear HO108
          clear BK105
          clear BK112
          clear HB
          have HO108 := n0_
          have HO111 := n1_
          have BK105 := n2_
          have BK112 := n3_
          have HB := n4_
          clear n0_ n1_ n2_ n3_ n4_
          clear hb ho16
          obtain ⟨Ao17, co17, eo17⟩ := Kd.R_slice HO111.out
          (first | subst eo17 | (injection eo17 with f1_ f2_ f3_; have f4_ := f1_.symm; have f5_ := f3_.symm; clear f1_ f2_ f3_; subst f4_; subst f5_))
          obtain ⟨Ao18, co18, eo18⟩ := Kd.R_slice HO108.out
          (first | subst eo18 | (injection eo18 with f1_ f2_ f3_; have f4_ := f1_.symm; have f5_ := f3_.symm; clear f1_ f2_ f3_; subst f4_; subst f5_))
          refine hK.out _ _ trivial (fun hHeld => ?_)
          clear hK K
          refine norm_ (a' := ?_) ?_ ?_
          rotate_left
          · show Act.put _ (some 21) _ = _
            simp only [Act.put, List.setIfInBounds_toArray, List.set_cons_zero, List.set_cons_succ, i64_w, i32_w]
            rfl
          refine pure_ (i := 4) (N := some 22) (v := ?_) (a' := ?_) #[true, true, true, true, true, true, false] rfl rfl (by kernel_rfl) (fun _ _ _ h => h) (Or.inl ⟨by rfl, ?_⟩) ?_ ?_
          rotate_left
          · intro w'
            go_simp
            with_reducible rfl
          rotate_left
          · simp only [Act.put, List.setIfInBounds_toArray, List.set_cons_zero, List.set_cons_succ, i64_w, i32_w]
            rfl
          exact norm_ (by first | (simp only [putAll, Act.put, List.setIfInBounds_toArray, List.set_cons_zero, List.set_cons_succ]; done) | (simp only [putAll, Act.put, List.setIfInBounds_toArray, List.set_cons_zero, List.set_cons_succ]; rfl)) (hJ1_3_5 (.slice Ao18 y106.length co18, .slice Ao17 y109.length co17, gb112) _ ⟨(by (with_reducible repeat (first | apply Kd.R_alloc | apply Kd.R_drewN | apply Kd.R_drew)); exact Kd.R_mono HO108.out (fun _ hk => hk.2)), (by (with_reducible repeat (first | apply Kd.R_alloc | apply Kd.R_drewN | apply Kd.R_drew)); exact Kd.R_mono HO111.out (fun _ hk => hk.2)), (by (with_reducible repeat (first | refine blk_drewN ?_ _ | refine blk_drew ?_ | refine blk_alloc ?_ _)); exact BK105.out), (by (with_reducible repeat (first | refine blk_drewN ?_ _ | refine blk_drew ?_ | refine blk_alloc ?_ _)); exact BK112.out), GW112.out, GE112.out, NB105_112.out, NB112_105.out, (by repeat (first | (with_reducible first | exact HB.out | apply below_alloc | apply pw_below_drewN | apply below_drew1 | refine below_set ?_ GE105.out | refine below_set ?_ GE112.out) | exact HB.out))⟩)
      · skip
        rintro ⟨v107, v110⟩ w17 ⟨h0_, h1_, h2_, h3_⟩
        have n0_ : Aside0 (Kd.R Kd.string 9 w17 w.heap.size (fun k_ => some k_ ≠ (v110 : Value).ownBlock) v107 y106) := ⟨h0_⟩
        have n1_ : Aside0 (Kd.R Kd.string 9 w17 w.heap.size (fun k_ => some k_ ≠ (v107 : Value).ownBlock) v110 y109) := ⟨h1_⟩
        have n2_ : Aside0 (w17.heap[gb105]? = some (.cells #[.slice none 0 0, .slice none 0 0] 38 (0, 0))) := ⟨h2_⟩
        have n3_ : Aside0 (Below w.heap.size w w17) := ⟨h3_⟩
        clear BK105
        clear HB
        clear h0_ h1_ h2_ h3_
        have HO108 := n0_
        have HO111 := n1_
        have BK105 := n2_
        have HB := n3_
        clear n0_ n1_ n2_ n3_
        have hHeld := trivial
        obtain ⟨Ao18, co18, eo18⟩ := Kd.R_slice HO111.out
        (first | subst eo18 | (injection eo18 with f1_ f2_ f3_; have f4_ := f1_.symm; have f5_ := f3_.symm; clear f1_ f2_ f3_; subst f4_; subst f5_))
        obtain ⟨Ao19, co19, eo19⟩ := Kd.R_slice HO108.out
        (first | subst eo19 | (injection eo19 with f1_ f2_ f3_; have f4_ := f1_.symm; have f5_ := f3_.symm; clear f1_ f2_ f3_; subst f4_; subst f5_))
        refine norm_ (a' := ?_) ?_ ?_
        rotate_left
        · simp only [putAll, Act.put, List.setIfInBounds_toArray, List.set_cons_zero, List.set_cons_succ]
          rfl
        refine one_ (i := 5) (N := some 6) #[true, true, true, true, true, true, false] rfl rfl (by kernel_rfl) (by decide) (fun K hK => ?_)
        refine box_step ?hg (N := 6) ?hd (cs := #[.slice none 0 0, .slice none 0 0]) (t := 38) ?hr ?_; (case hd => rfl); (case hg => rfl); (case hr => first | (go_simp; done) | (go_simp; rfl))
        intro gb112 hg w20 hbox hb
        have n0_ := Aside0.mk (Kd.R_below (by (with_reducible repeat (first | apply Kd.R_alloc | apply Kd.R_drewN | apply Kd.R_drew)); exact HO108.out) hb)
        have n1_ := Aside0.mk (Kd.R_below (by (with_reducible repeat (first | apply Kd.R_alloc | apply Kd.R_drewN | apply Kd.R_drew)); exact HO111.out) hb)
        have n2_ := Aside0.mk (blk_below (g := gb105) (o := .cells #[.slice none 0 0, .slice none 0 0] 38 (0, 0)) (by (with_reducible repeat (first | refine blk_drewN ?_ _ | refine blk_drew ?_ | refine blk_alloc ?_ _)); exact BK105.out) hb)
        have n3_ := Aside0.mk (below_step (by repeat (first | (with_reducible first | exact HB.out | apply below_alloc | apply pw_below_drewN | apply below_drew1 | refine below_set ?_ GE105.out) | exact HB.out)) hb)
        have n4_ := Aside0.mk (hbox)
        have n5_ := Aside0.mk ((by rw [hg]; exact (below_size (by repeat (first | (with_reducible first | exact HB.out | apply below_alloc | apply pw_below_drewN | apply below_drew1 | refine below_set ?_ GE105.out) | exact HB.out))) : w.heap.size ≤ gb112))
        have n6_ := Aside0.mk ((by rw [hg]; exact (below_size (by repeat (first | (with_reducible first | exact HB.out | apply below_alloc | apply pw_below_drewN | apply below_drew1 | refine below_set ?_ GE105.out) | exact HB.out))) : w.heap.size ≤ gb112))
        have n7_ := Aside0.mk ((by rw [hg]; exact Nat.ne_of_lt (blk_lt (g := gb105) (o := .cells #[.slice none 0 0, .slice none 0 0] 38 (0, 0)) (by (with_reducible repeat (first | refine blk_drewN ?_ _ | refine blk_drew ?_ | refine blk_alloc ?_ _)); exact BK105.out)) : gb105 ≠ gb112))
        have n8_ := Aside0.mk ((by rw [hg]; exact Nat.ne_of_gt (blk_lt (g := gb105) (o := .cells #[.slice none 0 0, .slice none 0 0] 38 (0, 0)) (by (with_reducible repeat (first | refine blk_drewN ?_ _ | refine blk_drew ?_ | refine blk_alloc ?_ _)); exact BK105.out)) : gb112 ≠ gb105))
        clear HO108
        clear HO111
        clear BK105
        clear HB
        have HO108 := n0_
        have HO111 := n1_
        have BK105 := n2_
        have HB := n3_
        have BK112 := n4_
        have GW112 := n5_
        have GE112 := n6_
        have NB105_112 := n7_
        have NB112_105 := n8_
        clear n0_ n1_ n2_ n3_ n4_ n5_ n6_ n7_ n8_
        clear hb hbox hg
        refine hK.out _ _ trivial (fun hHeld => ?_)
        clear hK K
        refine norm_ (a' := ?_) ?_ ?_
        rotate_left
        · show Act.put _ (some 6) _ = _
          simp only [Act.put, List.setIfInBounds_toArray, List.set_cons_zero, List.set_cons_succ, i64_w, i32_w]
          rfl
        exact norm_ (by first | (simp only [putAll, Act.put, List.setIfInBounds_toArray, List.set_cons_zero, List.set_cons_succ]; done) | (simp only [putAll, Act.put, List.setIfInBounds_toArray, List.set_cons_zero, List.set_cons_succ]; rfl)) (hJ1_3_5 (.slice Ao19 y106.length co19, .slice Ao18 y109.length co18, gb112) _ ⟨(by (with_reducible repeat (first | apply Kd.R_alloc | apply Kd.R_drewN | apply Kd.R_drew)); exact HO108.out), (by (with_reducible repeat (first | apply Kd.R_alloc | apply Kd.R_drewN | apply Kd.R_drew)); exact HO111.out), (by (with_reducible repeat (first | refine blk_drewN ?_ _ | refine blk_drew ?_ | refine blk_alloc ?_ _)); exact BK105.out), (by (with_reducible repeat (first | refine blk_drewN ?_ _ | refine blk_drew ?_ | refine blk_alloc ?_ _)); exact BK112.out), GW112.out, GE112.out, NB105_112.out, NB112_105.out, (by repeat (first | (with_reducible first | exact HB.out | apply below_alloc | apply pw_below_drewN | apply below_drew1 | refine below_set ?_ GE105.out | refine below_set ?_ GE112.out) | exact HB.out))⟩)
    rintro ⟨v107, v110, gb112⟩ w18 ⟨h0_, h1_, h2_, h3_, h4_, h5_, h6_, h7_, h8_⟩
    have n0_ : Aside0 (Kd.R Kd.string 9 w18 w.heap.size (fun k_ => some k_ ≠ (v110 : Value).ownBlock) v107 y106) := ⟨h0_⟩
    have n1_ : Aside0 (Kd.R Kd.string 9 w18 w.heap.size (fun k_ => some k_ ≠ (v107 : Value).ownBlock) v110 y109) := ⟨h1_⟩
    have n2_ : Aside0 (w18.heap[gb105]? = some (.cells #[.slice none 0 0, .slice none 0 0] 38 (0, 0))) := ⟨h2_⟩
    have n3_ : Aside0 (w18.heap[gb112]? = some (.cells #[.slice none 0 0, .slice none 0 0] 38 (0, 0))) := ⟨h3_⟩
    have n4_ : Aside0 (w.heap.size ≤ gb112) := ⟨h4_⟩
    have n5_ : Aside0 (w.heap.size ≤ gb112) := ⟨h5_⟩
    have n6_ : Aside0 (gb105 ≠ gb112) := ⟨h6_⟩
    have n7_ : Aside0 (gb112 ≠ gb105) := ⟨h7_⟩
    have n8_ : Aside0 (Below w.heap.size w w18) := ⟨h8_⟩
    clear BK105
    clear HB
    clear h0_ h1_ h2_ h3_ h4_ h5_ h6_ h7_ h8_
    have HO108 := n0_
    have HO111 := n1_
    have BK105 := n2_
    have BK112 := n3_
    have GW112 := n4_
    have GE112 := n5_
    have NB105_112 := n6_
    have NB112_105 := n7_
    have HB := n8_
    clear n0_ n1_ n2_ n3_ n4_ n5_ n6_ n7_ n8_
    have hHeld := trivial
    obtain ⟨Ao19, co19, eo19⟩ := Kd.R_slice HO111.out
    (first | subst eo19 | (injection eo19 with f1_ f2_ f3_; have f4_ := f1_.symm; have f5_ := f3_.symm; clear f1_ f2_ f3_; subst f4_; subst f5_))
    obtain ⟨Ao20, co20, eo20⟩ := Kd.R_slice HO108.out
    (first | subst eo20 | (injection eo20 with f1_ f2_ f3_; have f4_ := f1_.symm; have f5_ := f3_.symm; clear f1_ f2_ f3_; subst f4_; subst f5_))
    refine norm_ (a' := ?_) ?_ ?_
    rotate_left
    · simp only [putAll, Act.put, List.setIfInBounds_toArray, List.set_cons_zero, List.set_cons_succ]
      rfl
    refine one_ (i := 6) (N := none) #[true, true, true, true, true, true, true] rfl rfl (by kernel_rfl) (by decide) (fun K hK => ?_)
    have hs21 : w18.cell? ⟨gb112, 0, none⟩ = some (.slice none 0 0) := (blk_cell BK112.out 0).trans rfl
    have hfs21 := blk_frozen BK112.out 0
    have hns21_0 := NB105_112.out
    have hms21_0 := NB112_105.out
    have hs22 : w18.cell? ⟨gb112, 1, none⟩ = some (.slice none 0 0) := (blk_cell BK112.out 1).trans rfl
    have hfs22 := blk_frozen BK112.out 1
    have hns22_0 := NB105_112.out
    have hms22_0 := NB112_105.out
    refine skip_ (w1 := ?_) (by rfl) rfl ?_ ?_
    rotate_left
    · go_simp
      rfl
    refine hK.out _ _ trivial (fun hHeld => ?_)
    clear hK K
    refine done_ (by kernel_rfl) ?_
    have hlen0 := Aside0.mk (show y106.length = l0.length from by rw [Ny106.out]; simp)
    have hlen1 := Aside0.mk (show y109.length = l1.length from by rw [Ny109.out]; have := HE.out; simp; omega)
    have ha := Aside0.mk (Kd.R_far (p := ⟨gb112, 1, none⟩) (Kd.R_far (p := ⟨gb112, 0, none⟩) (Kd.R_types (Kd.R_types HO108.out BK112.out (by decide)) BK105.out (by decide)) (fun _ hk => hk.1.2) (.slice Ao20 y106.length co20)) (fun _ hk => hk.1.2) (.slice Ao19 y109.length co19))
    have hb := Aside0.mk (Kd.R_far (p := ⟨gb112, 1, none⟩) (Kd.R_far (p := ⟨gb112, 0, none⟩) (Kd.R_types (Kd.R_types HO111.out BK112.out (by decide)) BK105.out (by decide)) (fun _ hk => hk.1.2) (.slice Ao20 y106.length co20)) (fun _ hk => hk.1.2) (.slice Ao19 y109.length co19))
    have h12 := Aside0.mk (blk_put (cs' := #[.slice Ao20 y106.length co20, .slice Ao19 y109.length co19]) (blk_put (cs' := #[.slice Ao20 y106.length co20, .slice none 0 0]) BK112.out 0 (.slice Ao20 y106.length co20) rfl) 1 (.slice Ao19 y109.length co19) rfl)
    have h05 := Aside0.mk (blk_far (p := ⟨gb112, 1, none⟩) (blk_far (p := ⟨gb112, 0, none⟩) BK105.out NB105_112.out (.slice Ao20 y106.length co20)) NB105_112.out (.slice Ao19 y109.length co19))
    have hB := Aside0.mk (below_set (j := 1) (v := .slice Ao19 y109.length co19) (below_set (j := 0) (v := .slice Ao20 y106.length co20) HB.out GE112.out) GE112.out)
    clear HO108 HO111 BK112 BK105 HB hs21 hfs21 hs22 hfs22 hHeld
    generalize (w18.setCell ⟨gb112, 0, none⟩ (.slice Ao20 y106.length co20)).setCell ⟨gb112, 1, none⟩ (.slice Ao19 y109.length co19) = W at ha hb h12 h05 hB ⊢
    have hne0 : Aside0 (some gb112 ≠ (Value.slice Ao20 y106.length co20).ownBlock) := ⟨fun e => (ha.out.1 _ e.symm).1.2 rfl⟩
    have hne1 : Aside0 (some gb112 ≠ (Value.slice Ao19 y109.length co19).ownBlock) := ⟨fun e => (hb.out.1 _ e.symm).1.2 rfl⟩
    have hnf0 : Aside0 (some gb105 ≠ (Value.slice Ao20 y106.length co20).ownBlock) := ⟨fun e => (ha.out.1 _ e.symm).2 rfl⟩
    have hnf1 : Aside0 (some gb105 ≠ (Value.slice Ao19 y109.length co19).ownBlock) := ⟨fun e => (hb.out.1 _ e.symm).2 rfl⟩
    have hba : Aside0 (∀ k, (Value.slice Ao20 y106.length co20).ownBlock = some k → w.heap.size ≤ k) := ⟨fun k hk => ((Kd.own_of_R ha.out).lt k hk).1⟩
    have hbb : Aside0 (∀ k, (Value.slice Ao19 y109.length co19).ownBlock = some k → w.heap.size ≤ k) := ⟨fun k hk => ((Kd.own_of_R hb.out).lt k hk).1⟩
    have hcz0 : W.cell? ⟨gb112, 0, none⟩ = some (.slice Ao20 y106.length co20) := (blk_cell h12.out 0).trans rfl
    go_wp2_with (first
      | ((with_reducible refine gate_dst (N := 26) rfl ?_); refine Aid.wpList_copy_whole Value.string ByteArray.empty rfl (.tmp 24) (.tmp 25) 36 36 rfl Try.underlying36 (by kernel_rfl) rfl rfl ha.out (Kd.C_below HR0.out hB.out) hlen0.out.symm hlen0.out.symm ?_; intro w1 ha1 hg1; have n0_ := Aside0.mk ha1; have n1_ := Aside0.mk (Kd.R_grown hb.out hg1 (fun k hk => hk.1.1)); have n2_ := Aside0.mk (blk_grown h12.out hg1 hne0.out); have n3_ := Aside0.mk (blk_grown (g := gb105) h05.out hg1 hnf0.out); have n4_ := Aside0.mk (hB.out.grown hg1 hB.out.size hba.out); clear ha1 hg1 hcz0; have hcz1 : w1.cell? ⟨gb112, 1, none⟩ = some (.slice Ao19 y109.length co19) := (blk_cell n2_.out 1).trans rfl)
      | ((with_reducible refine gate_dst (N := 30) rfl ?_); refine Aid.wpList_copy_whole Value.string ByteArray.empty rfl (.tmp 28) (.tmp 29) 36 36 rfl Try.underlying36 (by kernel_rfl) rfl rfl n1_.out (Kd.C_below HR1.out n4_.out) hlen1.out.symm hlen1.out.symm ?_; intro w2 ha1 hg1; have m0_ := Aside0.mk ha1; have m1_ := Aside0.mk (Kd.R_grown n0_.out hg1 (fun k hk => hk.1.1)); have m2_ := Aside0.mk (blk_grown n2_.out hg1 hne1.out); have m3_ := Aside0.mk (blk_grown (g := gb105) n3_.out hg1 hnf1.out); have m4_ := Aside0.mk (n4_.out.grown hg1 n4_.out.size hbb.out); clear ha1 hg1 hcz1; have hcz2 : w2.cell? ⟨gb112, 0, none⟩ = some (.slice Ao20 y106.length co20) := (blk_cell m2_.out 0).trans rfl; have hcz3 : w2.cell? ⟨gb112, 1, none⟩ = some (.slice Ao19 y109.length co19) := (blk_cell m2_.out 1).trans rfl; have hcz4 : w2.cell? ⟨gb105, 0, none⟩ = some (.slice none 0 0) := (blk_cell m3_.out 0).trans rfl; have hcz5 : w2.cell? ⟨gb105, 1, none⟩ = some (.slice none 0 0) := (blk_cell m3_.out 1).trans rfl; have hfz4 := blk_frozen m3_.out 0; have hfz5 := blk_frozen m3_.out 1))
    refine bodyPost_ret (results_cell_row rfl _ _ gb105 38 #[.slice Ao20 y106.length co20, .slice Ao19 y109.length co19] (0, 0) _ rfl (by (with_reducible repeat (first | refine blk_drewN ?_ _ | refine blk_drew ?_ | refine blk_alloc ?_ _)); refine blk_put (cs := #[.slice Ao20 y106.length co20, .slice none 0 0]) ?_ 1 _ rfl; (with_reducible repeat (first | refine blk_drewN ?_ _ | refine blk_drew ?_ | refine blk_alloc ?_ _)); refine blk_put (cs := #[.slice none 0 0, .slice none 0 0]) ?_ 0 _ rfl; (with_reducible repeat (first | refine blk_drewN ?_ _ | refine blk_drew ?_ | refine blk_alloc ?_ _)); exact m3_.out) Try.underlying38 rfl (by kernel_rfl)) rfl ?_
    refine ⟨_, _, rfl, Kd.R_mono (Kd.R_far (p := ⟨gb105, 1, none⟩) (Kd.R_far (p := ⟨gb105, 0, none⟩) m1_.out (fun _ hk => hk.2) _) (fun _ hk => hk.2) _) (fun _ hk => hk.1.1), Kd.R_mono (Kd.R_far (p := ⟨gb105, 1, none⟩) (Kd.R_far (p := ⟨gb105, 0, none⟩) m0_.out (fun _ hk => hk.2) _) (fun _ hk => hk.2) _) (fun _ hk => hk.1.1), below_set (below_set m4_.out GE105.out) GE105.out⟩

end Go.Proofs.Yticieelobdfloaa.QMeta
