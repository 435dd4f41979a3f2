/- Walks of the program's functions, printed by a program of mine (walk.py) over the words of Stride: each function's contract. -/
import Derived.Test.YtmendapdibnbdaaGreatDoorPwF
namespace Go.Proofs.YtmendapdibnbdaaGreatDoor.Stride
open Go Go.RowKit Go.Proofs.YtmendapdibnbdaaGreatDoor.Mag
set_option linter.unusedVariables false
set_option linter.unusedSimpArgs false
set_option maxHeartbeats 4000000
set_option maxRecDepth 100000
theorem pow128_spec {C : Nat → Prop} {w : World} {l m : Nat} {hi hj : Int} (hl : l < 18446744073709551616) (h1 : -9223372036854775808 ≤ hi) (h2 : hi ≤ 9223372036854775807) (hl' : m < 18446744073709551616) (h1' : -9223372036854775808 ≤ hj) (h2' : hj ≤ 9223372036854775807) (hk1 : Sl .i64 18446744073709551616 C w (some ⟨1, 0, none⟩) 1 [12]) (hk2 : Sl .i64 18446744073709551616 C w (some ⟨2, 0, none⟩) 1 [80]) (hk3 : Sl .i64 18446744073709551616 C w (some ⟨3, 0, none⟩) 1 [40]) (hy0 : 0 ≤ ((m : Int) + 18446744073709551616 * hj)) (hy20 : ((m : Int) + 18446744073709551616 * hj) ≤ 20) (hpb : Int.natAbs ((l : Int) + 18446744073709551616 * hi) ^ Int.natAbs ((m : Int) + 18446744073709551616 * hj) < 2 ^ 127) :
    Calls P 28 #[.agg #[.int .u64 (l : Int), .int .i64 hi], .agg #[.int .u64 (m : Int), .int .i64 hj]] w fun ex w' => ∃ (l2 : Nat) (hi2 : Int), ex = .returned (.agg #[.int .u64 (l2 : Int), .int .i64 hi2]) ∧ KS w w' ∧ (l2 < 18446744073709551616 ∧ -9223372036854775808 ≤ hi2 ∧ hi2 ≤ 9223372036854775807) ∧ (l2 : Int) + 18446744073709551616 * hi2 = ((l : Int) + 18446744073709551616 * hi) ^ Int.natAbs ((m : Int) + 18446744073709551616 * hj) := by
 refine dN (C := C) [.v (.agg #[.int .u64 (l : Int), .int .i64 hi]), .v (.agg #[.int .u64 (m : Int), .int .i64 hj])] 14 2 Tryz.func28 fun a_ hI hR hB => ?_
 replace hI : Is 14 [] e0 [(0, .v (.agg #[.int .u64 (l : Int), .int .i64 hi])), (1, .v (.agg #[.int .u64 (m : Int), .int .i64 hj]))] a_ := hI
 refine rK tab 0 [] [] [(4, .p 2 0), (3, .p 1 0), (2, .p 0 0)] [] [⟨2, 47, [.v (.int .u64 0), .v (.int .i64 0)]⟩, ⟨1, 47, [vU m, .v (.int .i64 hj)]⟩, ⟨0, 47, [vU l, .v (.int .i64 hi)]⟩] [] [] [] 3 hR hI .nil fun e1 a1 w1 hag hR hI => ?_
 refine wp_seq (reg (is := [0, 1, 2]) (by kernel_rfl) ?_)
 refine pK tab [0] [1, 2] 3 [] [] [(6, .agg [vU l, .v (.int .i64 hi)])] [4, 3] [] [2, 1] [] [] 3 hR hI .nil fun e2 a2 w2 hag hR hI => ?_
 refine cO [.agg [vU l, .v (.int .i64 hi)]] hI Tryz.func35 ?_
 refine (bigInt128_spec (C := Now hB) hl h1 h2).mono ?_
 rintro ex w3 ⟨bx, gx, mx, nx, zx, rfl, hk, hbx, hgx, hbgx, hwbx, hwgx, hzxl, hzxd, hmx, htx, hnx, hvx⟩
 replace hk := keepBut0 hk
 have hkF_ := hR.keepN hk all_no
 have hR_ : Rel (Grow _ _ w3) w3 e2 [⟨2, 47, [.v (.int .u64 0), .v (.int .i64 0)]⟩, ⟨1, 47, [vU m, .v (.int .i64 hj)]⟩] [] w3 := hR.turnedN hk all_no (all_cons ⟨⟨_, m0, rfl⟩, .inl ⟨m0, (fun hm_ => by cases hm_)⟩⟩ (all_cons ⟨⟨_, m1, rfl⟩, .inl ⟨m1, (fun hm_ => by cases hm_)⟩⟩ all_no)) all_no
 have hM_ : ∀ b_ ∈ ([bx, gx] : List Nat), _ ≤ b_ := (all_cons hbx (all_cons hgx all_no))
 replace hk1 := hk1.nextN hB hR hkF_ hM_
 replace hk2 := hk2.nextN hB hR hkF_ hM_
 replace hk3 := hk3.nextN hB hR hkF_ hM_
 have hB_ := hB.nextN hR hkF_ hM_; have hR1_ := hR_.shrinkN (M := [bx, gx])
 obtain ⟨hfr1_, hfr2_⟩ := hR.fresh (H' := [⟨2, 47, [.v (.int .u64 0), .v (.int .i64 0)]⟩, ⟨1, 47, [vU m, .v (.int .i64 hj)]⟩]) (G' := []) (all_cons ⟨_, m0, rfl⟩ (all_cons ⟨_, m1, rfl⟩ all_no)) all_no hbx
 obtain ⟨hag_, hR2_⟩ := hR1_.gotBlk (L := []) (k := 3) (b := bx) (t := 84) (cs := [vB nx, vS (some ⟨gx, 0, none⟩) mx 2]) (by kernel_rfl) (by kernel_rfl) hwbx (fun hf_ => hf_.2.1 m0) hfr1_ hfr2_
 replace hI := hI.agreeB (H := []) (G := []) (by kernel_rfl) hag_
 have hbk3 : (e2.addB 3 bx).b 3 = bx := addB_b _ _ _
 replace hR1_ := hR2_; clear hR2_
 obtain ⟨hfr1_, hfr2_⟩ := hR.fresh (H' := [⟨2, 47, [.v (.int .u64 0), .v (.int .i64 0)]⟩, ⟨1, 47, [vU m, .v (.int .i64 hj)]⟩]) (G' := []) (all_cons ⟨_, m0, rfl⟩ (all_cons ⟨_, m1, rfl⟩ all_no)) all_no hgx
 replace hfr1_ : ∀ x ∈ ([⟨3, 84, [vB nx, vS (some ⟨gx, 0, none⟩) mx 2]⟩, ⟨2, 47, [.v (.int .u64 0), .v (.int .i64 0)]⟩, ⟨1, 47, [vU m, .v (.int .i64 hj)]⟩] : List Blk), ((e2.addB 3 bx)).b x.n ≠ gx := fun x hx_ => (List.mem_cons.1 hx_).elim (fun he_ => by rw [he_]; dsimp only; rw [addB_b]; exact hbgx) (fun hm_ => by rw [(hag_ x.n (by simp only [List.mem_cons, List.not_mem_nil, or_false] at hm_ <;> (first | (rcases hm_ with rfl | rfl | rfl | rfl) <;> (dsimp only; decide) | (rcases hm_ with rfl | rfl | rfl) <;> (dsimp only; decide) | (rcases hm_ with rfl | rfl) <;> (dsimp only; decide) | (subst hm_; dsimp only; decide)))).1]; exact hfr1_ x hm_)
 replace hfr2_ : ∀ y ∈ ([] : List Row), (((e2.addB 3 bx)).r y.n).ownBlock ≠ some gx := fun y hy_ => by rw [(hag_ y.n (by simp only [List.mem_cons, List.not_mem_nil, or_false] at hy_ <;> (first | (rcases hy_ with rfl | rfl | rfl | rfl) <;> (dsimp only; decide) | (rcases hy_ with rfl | rfl | rfl) <;> (dsimp only; decide) | (rcases hy_ with rfl | rfl) <;> (dsimp only; decide) | (subst hy_; dsimp only; decide)))).2]; exact hfr2_ y hy_
 obtain ⟨hag_, hR2_⟩ := hR1_.gotRow (L := []) (k := 4) (g := gx) (n := 2) (t := 102) (xs := (ints .u64 zx)) (by kernel_rfl) hwgx (by rw [ints_length]; exact hzxl) (by decide) (fun hf_ => hf_.2.1 m1) hfr1_ hfr2_
 replace hI := hI.agreeB (H := []) (G := []) (by kernel_rfl) hag_
 replace hbk3 := tb hag_ hbk3
 have hf4 : Full ((e2.addB 3 bx).addR 4 (.slice (some ⟨gx, 0, none⟩) 2 2)) 4 2 := full_addR _ _ _ _; have hnew4 : headOf (((e2.addB 3 bx).addR 4 (.slice (some ⟨gx, 0, none⟩) 2 2)).r 4) = gx := head_addR _ _ _ _
 replace hR := hR2_; clear hR2_ hR_ hR1_
 replace hB := hB_; clear hB_ hk hkF_ 
 replace hR := hR.reblk (b := ⟨3, 84, [vB nx, vS (some ⟨gx, 0, none⟩) mx 2]⟩) (by simp) [vB nx, .rsl 4 0 mx 2] [⟨2, 47, [.v (.int .u64 0), .v (.int .i64 0)]⟩, ⟨1, 47, [vU m, .v (.int .i64 hj)]⟩] (by simp) (by simp only [dens, den, hnew4])
 dsimp only at hR
 refine ⟨_, rfl, ?_⟩
 replace hI := hI.pt 7 (.p 3 0) [7, 6, 4, 3]
 refine pZ tab [2] [] 5 [(5, .p 3 0)] [4, 3] hR hI fun e4 a4 w4 hag hR hI => ?_
 have hA := hag
 refine ops_nil (then_n ?_)
 refine wp_seq (reg (is := [0, 1, 2, 3, 4, 5, 6]) (by kernel_rfl) ?_)
 refine pK tab [0, 1, 2] [3, 4, 5, 6] 5 [] [] [(10, .agg [vU m, .v (.int .i64 hj)]), (9, .p 3 0), (8, .p 3 0)] [4] [] [3, 2] [] [4] 5 hR hI .nil fun e5 a5 w5 hag hR hI => ?_
 replace hA := hA.trans hag (by decide)
 refine cO [.agg [vU m, .v (.int .i64 hj)]] hI Tryz.func35 ?_
 refine (bigInt128_spec (C := Now hB) hl' h1' h2').mono ?_
 rintro ex w6 ⟨b_y, gy, my, ny, zy, rfl, hk, hby, hgy, hbgy, hwby, hwgy, hzyl, hzyd, hmy, hty, hny, hvy⟩
 have hy := (((sl_lit (c := 2) hwgy hzyd (by omega) (by decide)).take (by omega : my ≤ zy.length)).cls2 rfl hgy hbgy).upN (C := Now hB)
 replace hk := keepBut0 hk
 have hkF_ := hR.keepN hk all_no
 replace hbk3 := tb hA hbk3
 replace hf4 := tf hA hf4
 replace hnew4 := tg hA hnew4
 have hR_ : Rel (Grow _ _ w6) w6 e5 [⟨3, 84, [vB nx, .rsl 4 0 mx 2]⟩, ⟨2, 47, [.v (.int .u64 0), .v (.int .i64 0)]⟩] [⟨4, 102, 1, 2, (ints .u64 zx)⟩] w6 := hR.turnedN hk all_no (all_cons ⟨⟨_, m0, rfl⟩, .inl ⟨m0, (fun hm_ => by cases hm_)⟩⟩ (all_cons ⟨⟨_, m1, rfl⟩, .inl ⟨m1, (fun hm_ => by cases hm_)⟩⟩ all_no)) (all_cons ⟨⟨_, m0, rfl⟩, .inl ⟨m0, fun g_ he_ => own_ne hf4 (fun hm_ => by cases hm_) he_⟩⟩ all_no)
 have hM_ : ∀ b_ ∈ ([b_y] : List Nat), _ ≤ b_ := (all_cons hby all_no)
 replace hk1 := hk1.nextN hB hR hkF_ hM_
 replace hk2 := hk2.nextN hB hR hkF_ hM_
 replace hk3 := hk3.nextN hB hR hkF_ hM_
 have hB_ := hB.nextN hR hkF_ hM_; have hR1_ := hR_.shrinkN (M := [b_y])
 obtain ⟨hfr1_, hfr2_⟩ := hR.fresh (H' := [⟨3, 84, [vB nx, .rsl 4 0 mx 2]⟩, ⟨2, 47, [.v (.int .u64 0), .v (.int .i64 0)]⟩]) (G' := [⟨4, 102, 1, 2, (ints .u64 zx)⟩]) (all_cons ⟨_, m0, rfl⟩ (all_cons ⟨_, m1, rfl⟩ all_no)) (all_cons ⟨_, m0, rfl⟩ all_no) hby
 obtain ⟨hag_, hR2_⟩ := hR1_.gotBlk (L := []) (k := 5) (b := b_y) (t := 84) (cs := [vB ny, vS (some ⟨gy, 0, none⟩) my 2]) (by kernel_rfl) (by kernel_rfl) hwby (fun hf_ => hf_.2.1 m0) hfr1_ hfr2_
 replace hI := hI.agreeB (H := []) (G := []) (by kernel_rfl) hag_
 replace hf4 := tf hag_ hf4
 replace hnew4 := tg hag_ hnew4
 replace hbk3 := tb hag_ hbk3
 have hbk5 : (e5.addB 5 b_y).b 5 = b_y := addB_b _ _ _
 replace hR1_ := hR2_; clear hR2_
 replace hR := hR1_; clear hR_ hR1_
 replace hB := hB_; clear hB_ hk hkF_ 
 have hnyf : ny = false := by rw [hny]; exact decide_eq_false (by omega)
 subst hnyf
 refine ⟨_, rfl, ?_⟩
 replace hI := hI.pt 11 (.p 5 0) [11, 10, 9, 8, 4]
 refine cO [.p 3 0, .p 3 0, .p 5 0, .v (.pointer none)] hI Tryz.func48 ?_
 have hseg0 : seg zx 0 mx = zx.take mx := by simp [seg]
 have hyl : (zy.take my).length = my := by rw [List.length_take]; omega
 have hpw_ : nval (seg zx 0 mx) ^ nval (zy.take my) < pn 4 := by rw [hseg0, hvx, hvy]; exact lt_pn4 hpb (by decide)
 have hq3_ := hR.blk ⟨3, 84, [vB nx, .rsl 4 0 mx 2]⟩ m1
 have hq5_ := hR.blk ⟨5, 84, [vB false, vS (some ⟨gy, 0, none⟩) my 2]⟩ m0
 have hq4_ := hR.rowCells (y := ⟨4, 102, 1, 2, (ints .u64 zx)⟩) m0 hf4 rfl
 refine (iexp2_spec (C := Now hB) (zs := zx) hq3_.1 hq5_.1 hq4_.1 hzxl (by decide) (hR.hh _ m1 _ m0 (by dsimp only; decide)) (hR.hgN m1 m0 hf4) (hR.hgN m0 m0 hf4) (fun h_ => hq3_.2 h_.2) (fun h_ => hq5_.2 h_.2) (fun h_ => hq4_.2 h_.2) (hk1.now hB hR) (hk2.now hB hR) (hk3.now hB hR) (hy.now hB hR) hyl hzxd hmx hmx (by decide) (by decide) (by omega) (by rw [hseg0]; exact htx) hty (by rw [hvy]; omega) hpw_).mono ?_
 rintro ex w7 ⟨ad2, l5, c2, rs, nq, rfl, hrl, hk, hrs, htr, hvr, hw3, hw5, hw4, hnq⟩
 have hkF_ := hR.keepN hk (all_cons hq3_.2 (all_cons hq5_.2 (all_cons hq4_.2 all_no)))
 have hR_ : Rel (Grow _ _ w7) w7 (e5.addB 5 b_y) [⟨5, 84, [vB false, vS (some ⟨gy, 0, none⟩) my 2]⟩, ⟨3, 84, [vB nq, vS ad2 l5 c2]⟩, ⟨2, 47, [.v (.int .u64 0), .v (.int .i64 0)]⟩] [⟨4, 102, 1, 2, (ints .u64 zx)⟩] w7 := hR.turnedN hk (all_cons hq3_.2 (all_cons hq5_.2 (all_cons hq4_.2 all_no))) (all_cons ⟨⟨_, m0, rfl⟩, .inr hw5⟩ (all_cons ⟨⟨_, m1, rfl⟩, .inr hw3⟩ (all_cons ⟨⟨_, m2, rfl⟩, .inl ⟨m2, (notin2 (hR.hh _ m2 _ m1 (by dsimp only; decide)) (notin2 (hR.hh _ m2 _ m0 (by dsimp only; decide)) (notin2 (hR.hgN m2 m0 hf4) (fun hm_ => by cases hm_))))⟩⟩ all_no))) (all_cons ⟨⟨_, m0, rfl⟩, .inr (by have hl_ := hR.rowLen (y := ⟨4, 102, 1, 2, (ints .u64 zx)⟩) m0; dsimp only at hl_; rw [show (e5.addB 5 b_y).r 4 = _ from hf4]; exact ownsRow_fullN hw4 (by rw [ints_length]; exact hzxl) (by decide))⟩ all_no)
 replace hk1 := hk1.nextF hB hR hkF_
 replace hk2 := hk2.nextF hB hR hkF_
 replace hk3 := hk3.nextF hB hR hkF_
 replace hy := hy.nextF hB hR hkF_
 have hB_ := hB.nextF hR hkF_
 replace hR := hR_; clear hR_
 replace hB := hB_; clear hB_ hk hkF_ hq3_ hw3 hq5_ hw5 hq4_ hw4
 rw [hseg0, hvx, hvy] at hvr
 rw [hvy] at hnq
 have hrl4 : rs.length ≤ 4 := trim_len htr (by rw [hvr]; exact lt_pn4 hpb (by decide))
 refine ⟨_, rfl, ?_⟩
 replace hI := hI.pt 12 (.p 3 0) [12, 11, 10, 9, 8, 4]
 refine cO [.p 3 0] hI Tryz.func37 ?_
 have hq3_ := hR.blk ⟨3, 84, [vB nq, vS ad2 l5 c2]⟩ m1
 refine (fromBig128_spec (C := Now hB) hq3_.1 (fun h_ => hq3_.2 h_.2) (hrs.now hB hR) hrl htr (by omega) (by rw [hvr]; exact hpb)).mono ?_
 rintro ex w8 ⟨l2, hi2, rfl, hk, hw3, hl2, h12, h22, hqv⟩
 have hkF_ := hR.keepN hk (all_cons hq3_.2 all_no)
 have hR_ : Rel (Grow _ _ w8) w8 (e5.addB 5 b_y) [⟨5, 84, [vB false, vS (some ⟨gy, 0, none⟩) my 2]⟩, ⟨3, 84, [vB nq, vS ad2 l5 c2]⟩, ⟨2, 47, [.v (.int .u64 0), .v (.int .i64 0)]⟩] [⟨4, 102, 1, 2, (ints .u64 zx)⟩] w8 := hR.turnedN hk (all_cons hq3_.2 all_no) (all_cons ⟨⟨_, m0, rfl⟩, .inl ⟨m0, (notin2 (hR.hh _ m0 _ m1 (by dsimp only; decide)) (fun hm_ => by cases hm_))⟩⟩ (all_cons ⟨⟨_, m1, rfl⟩, .inr hw3⟩ (all_cons ⟨⟨_, m2, rfl⟩, .inl ⟨m2, (notin2 (hR.hh _ m2 _ m1 (by dsimp only; decide)) (fun hm_ => by cases hm_))⟩⟩ all_no))) (all_cons ⟨⟨_, m0, rfl⟩, .inl ⟨m0, fun g_ he_ => own_ne hf4 (notin2 (hR.ghN m1 m0 hf4) (fun hm_ => by cases hm_)) he_⟩⟩ all_no)
 replace hk1 := hk1.nextF hB hR hkF_
 replace hk2 := hk2.nextF hB hR hkF_
 replace hk3 := hk3.nextF hB hR hkF_
 replace hrs := hrs.nextF hB hR hkF_
 replace hy := hy.nextF hB hR hkF_
 have hB_ := hB.nextF hR hkF_
 replace hR := hR_; clear hR_
 replace hB := hB_; clear hB_ hk hkF_ hq3_ hw3
 refine ⟨_, rfl, ?_⟩
 replace hI := hI.pt 13 (.v (.agg #[.int .u64 (l2 : Int), .int .i64 hi2])) [13, 12, 11, 10, 9, 8, 4]
 refine pK tab [6] [] 6 [] [] [] [4] [⟨2, 47, [vU l2, .v (.int .i64 hi2)]⟩] [] [] [] 6 hR hI .nil fun e9 a9 w9 hag hR hI => ?_
 have hA := hag
 refine ops_nil (then_n ?_)
 refine wp_ret (oN tab [.agg [vU l2, .v (.int .i64 hi2)]] hR hI ?_)
 exact ⟨l2, hi2, rfl, hB.fin hR, ⟨hl2, h12, h22⟩, by rw [hqv, hnq, hnx]; exact pow_of hvr (fun h_ => by have h2_ := of_decide_eq_false h_; exact (congrArg nval (List.eq_nil_of_length_eq_zero (by omega : rs.length = 0))).trans nval_nil)⟩

theorem pow256_spec {C : Nat → Prop} {w : World} {q0 q1 q2 q3 p0 p1 p2 p3 : Nat} (hq : q0 < 18446744073709551616 ∧ q1 < 18446744073709551616 ∧ q2 < 18446744073709551616 ∧ q3 < 18446744073709551616) (hp : p0 < 18446744073709551616 ∧ p1 < 18446744073709551616 ∧ p2 < 18446744073709551616 ∧ p3 < 18446744073709551616) (hk1 : Sl .i64 18446744073709551616 C w (some ⟨1, 0, none⟩) 1 [12]) (hk2 : Sl .i64 18446744073709551616 C w (some ⟨2, 0, none⟩) 1 [80]) (hk3 : Sl .i64 18446744073709551616 C w (some ⟨3, 0, none⟩) 1 [40]) (hy0 : 0 ≤ (swv [p0, p1, p2, p3])) (hy20 : (swv [p0, p1, p2, p3]) ≤ 20) (hpb : Int.natAbs (swv [q0, q1, q2, q3]) ^ Int.natAbs (swv [p0, p1, p2, p3]) < 2 ^ 255) :
    Calls P 29 #[.agg #[.int .u64 (q0 : Int), .int .u64 (q1 : Int), .int .u64 (q2 : Int), .int .u64 (q3 : Int)], .agg #[.int .u64 (p0 : Int), .int .u64 (p1 : Int), .int .u64 (p2 : Int), .int .u64 (p3 : Int)]] w fun ex w' => ∃ c0 c1 c2 c3 : Nat, ex = .returned (.agg #[.int .u64 (c0 : Int), .int .u64 (c1 : Int), .int .u64 (c2 : Int), .int .u64 (c3 : Int)]) ∧ KS w w' ∧ (c0 < 18446744073709551616 ∧ c1 < 18446744073709551616 ∧ c2 < 18446744073709551616 ∧ c3 < 18446744073709551616) ∧ swv [c0, c1, c2, c3] = (swv [q0, q1, q2, q3]) ^ Int.natAbs (swv [p0, p1, p2, p3]) := by
 refine dN (C := C) [.v (.agg #[.int .u64 (q0 : Int), .int .u64 (q1 : Int), .int .u64 (q2 : Int), .int .u64 (q3 : Int)]), .v (.agg #[.int .u64 (p0 : Int), .int .u64 (p1 : Int), .int .u64 (p2 : Int), .int .u64 (p3 : Int)])] 14 2 Tryz.func29 fun a_ hI hR hB => ?_
 replace hI : Is 14 [] e0 [(0, .v (.agg #[.int .u64 (q0 : Int), .int .u64 (q1 : Int), .int .u64 (q2 : Int), .int .u64 (q3 : Int)])), (1, .v (.agg #[.int .u64 (p0 : Int), .int .u64 (p1 : Int), .int .u64 (p2 : Int), .int .u64 (p3 : Int)]))] a_ := hI
 refine rK tab 0 [] [] [(4, .p 2 0), (3, .p 1 0), (2, .p 0 0)] [] [⟨2, 50, [.v (.int .u64 0), .v (.int .u64 0), .v (.int .u64 0), .v (.int .u64 0)]⟩, ⟨1, 50, [vU p0, vU p1, vU p2, vU p3]⟩, ⟨0, 50, [vU q0, vU q1, vU q2, vU q3]⟩] [] [] [] 3 hR hI .nil fun e1 a1 w1 hag hR hI => ?_
 refine wp_seq (reg (is := [0, 1, 2]) (by kernel_rfl) ?_)
 refine pK tab [0] [1, 2] 3 [] [] [(6, .agg [vU q0, vU q1, vU q2, vU q3])] [4, 3] [] [2, 1] [] [] 3 hR hI .nil fun e2 a2 w2 hag hR hI => ?_
 refine cO [.agg [vU q0, vU q1, vU q2, vU q3]] hI Tryz.func38 ?_
 refine (bigInt256_spec (C := Now hB) hq).mono ?_
 rintro ex w3 ⟨bx, gx, mx, nx, zx, rfl, hk, hbx, hgx, hbgx, hwbx, hwgx, hzxl, hzxd, hmx, htx, hnx, hvx⟩
 replace hk := keepBut0 hk
 have hkF_ := hR.keepN hk all_no
 have hR_ : Rel (Grow _ _ w3) w3 e2 [⟨2, 50, [.v (.int .u64 0), .v (.int .u64 0), .v (.int .u64 0), .v (.int .u64 0)]⟩, ⟨1, 50, [vU p0, vU p1, vU p2, vU p3]⟩] [] w3 := hR.turnedN hk all_no (all_cons ⟨⟨_, m0, rfl⟩, .inl ⟨m0, (fun hm_ => by cases hm_)⟩⟩ (all_cons ⟨⟨_, m1, rfl⟩, .inl ⟨m1, (fun hm_ => by cases hm_)⟩⟩ all_no)) all_no
 have hM_ : ∀ b_ ∈ ([bx, gx] : List Nat), _ ≤ b_ := (all_cons hbx (all_cons hgx all_no))
 replace hk1 := hk1.nextN hB hR hkF_ hM_
 replace hk2 := hk2.nextN hB hR hkF_ hM_
 replace hk3 := hk3.nextN hB hR hkF_ hM_
 have hB_ := hB.nextN hR hkF_ hM_; have hR1_ := hR_.shrinkN (M := [bx, gx])
 obtain ⟨hfr1_, hfr2_⟩ := hR.fresh (H' := [⟨2, 50, [.v (.int .u64 0), .v (.int .u64 0), .v (.int .u64 0), .v (.int .u64 0)]⟩, ⟨1, 50, [vU p0, vU p1, vU p2, vU p3]⟩]) (G' := []) (all_cons ⟨_, m0, rfl⟩ (all_cons ⟨_, m1, rfl⟩ all_no)) all_no hbx
 obtain ⟨hag_, hR2_⟩ := hR1_.gotBlk (L := []) (k := 3) (b := bx) (t := 84) (cs := [vB nx, vS (some ⟨gx, 0, none⟩) mx 4]) (by kernel_rfl) (by kernel_rfl) hwbx (fun hf_ => hf_.2.1 m0) hfr1_ hfr2_
 replace hI := hI.agreeB (H := []) (G := []) (by kernel_rfl) hag_
 have hbk3 : (e2.addB 3 bx).b 3 = bx := addB_b _ _ _
 replace hR1_ := hR2_; clear hR2_
 obtain ⟨hfr1_, hfr2_⟩ := hR.fresh (H' := [⟨2, 50, [.v (.int .u64 0), .v (.int .u64 0), .v (.int .u64 0), .v (.int .u64 0)]⟩, ⟨1, 50, [vU p0, vU p1, vU p2, vU p3]⟩]) (G' := []) (all_cons ⟨_, m0, rfl⟩ (all_cons ⟨_, m1, rfl⟩ all_no)) all_no hgx
 replace hfr1_ : ∀ x ∈ ([⟨3, 84, [vB nx, vS (some ⟨gx, 0, none⟩) mx 4]⟩, ⟨2, 50, [.v (.int .u64 0), .v (.int .u64 0), .v (.int .u64 0), .v (.int .u64 0)]⟩, ⟨1, 50, [vU p0, vU p1, vU p2, vU p3]⟩] : List Blk), ((e2.addB 3 bx)).b x.n ≠ gx := fun x hx_ => (List.mem_cons.1 hx_).elim (fun he_ => by rw [he_]; dsimp only; rw [addB_b]; exact hbgx) (fun hm_ => by rw [(hag_ x.n (by simp only [List.mem_cons, List.not_mem_nil, or_false] at hm_ <;> (first | (rcases hm_ with rfl | rfl | rfl | rfl) <;> (dsimp only; decide) | (rcases hm_ with rfl | rfl | rfl) <;> (dsimp only; decide) | (rcases hm_ with rfl | rfl) <;> (dsimp only; decide) | (subst hm_; dsimp only; decide)))).1]; exact hfr1_ x hm_)
 replace hfr2_ : ∀ y ∈ ([] : List Row), (((e2.addB 3 bx)).r y.n).ownBlock ≠ some gx := fun y hy_ => by rw [(hag_ y.n (by simp only [List.mem_cons, List.not_mem_nil, or_false] at hy_ <;> (first | (rcases hy_ with rfl | rfl | rfl | rfl) <;> (dsimp only; decide) | (rcases hy_ with rfl | rfl | rfl) <;> (dsimp only; decide) | (rcases hy_ with rfl | rfl) <;> (dsimp only; decide) | (subst hy_; dsimp only; decide)))).2]; exact hfr2_ y hy_
 obtain ⟨hag_, hR2_⟩ := hR1_.gotRow (L := []) (k := 4) (g := gx) (n := 4) (t := 102) (xs := (ints .u64 zx)) (by kernel_rfl) hwgx (by rw [ints_length]; exact hzxl) (by decide) (fun hf_ => hf_.2.1 m1) hfr1_ hfr2_
 replace hI := hI.agreeB (H := []) (G := []) (by kernel_rfl) hag_
 replace hbk3 := tb hag_ hbk3
 have hf4 : Full ((e2.addB 3 bx).addR 4 (.slice (some ⟨gx, 0, none⟩) 4 4)) 4 4 := full_addR _ _ _ _; have hnew4 : headOf (((e2.addB 3 bx).addR 4 (.slice (some ⟨gx, 0, none⟩) 4 4)).r 4) = gx := head_addR _ _ _ _
 replace hR := hR2_; clear hR2_ hR_ hR1_
 replace hB := hB_; clear hB_ hk hkF_ 
 replace hR := hR.reblk (b := ⟨3, 84, [vB nx, vS (some ⟨gx, 0, none⟩) mx 4]⟩) (by simp) [vB nx, .rsl 4 0 mx 4] [⟨2, 50, [.v (.int .u64 0), .v (.int .u64 0), .v (.int .u64 0), .v (.int .u64 0)]⟩, ⟨1, 50, [vU p0, vU p1, vU p2, vU p3]⟩] (by simp) (by simp only [dens, den, hnew4])
 dsimp only at hR
 refine ⟨_, rfl, ?_⟩
 replace hI := hI.pt 7 (.p 3 0) [7, 6, 4, 3]
 refine pZ tab [2] [] 5 [(5, .p 3 0)] [4, 3] hR hI fun e4 a4 w4 hag hR hI => ?_
 have hA := hag
 refine ops_nil (then_n ?_)
 refine wp_seq (reg (is := [0, 1, 2, 3, 4, 5, 6]) (by kernel_rfl) ?_)
 refine pK tab [0, 1, 2] [3, 4, 5, 6] 5 [] [] [(10, .agg [vU p0, vU p1, vU p2, vU p3]), (9, .p 3 0), (8, .p 3 0)] [4] [] [3, 2] [] [4] 5 hR hI .nil fun e5 a5 w5 hag hR hI => ?_
 replace hA := hA.trans hag (by decide)
 refine cO [.agg [vU p0, vU p1, vU p2, vU p3]] hI Tryz.func38 ?_
 refine (bigInt256_spec (C := Now hB) hp).mono ?_
 rintro ex w6 ⟨b_y, gy, my, ny, zy, rfl, hk, hby, hgy, hbgy, hwby, hwgy, hzyl, hzyd, hmy, hty, hny, hvy⟩
 have hy := (((sl_lit (c := 4) hwgy hzyd (by omega) (by decide)).take (by omega : my ≤ zy.length)).cls2 rfl hgy hbgy).upN (C := Now hB)
 replace hk := keepBut0 hk
 have hkF_ := hR.keepN hk all_no
 replace hbk3 := tb hA hbk3
 replace hf4 := tf hA hf4
 replace hnew4 := tg hA hnew4
 have hR_ : Rel (Grow _ _ w6) w6 e5 [⟨3, 84, [vB nx, .rsl 4 0 mx 4]⟩, ⟨2, 50, [.v (.int .u64 0), .v (.int .u64 0), .v (.int .u64 0), .v (.int .u64 0)]⟩] [⟨4, 102, 1, 4, (ints .u64 zx)⟩] w6 := hR.turnedN hk all_no (all_cons ⟨⟨_, m0, rfl⟩, .inl ⟨m0, (fun hm_ => by cases hm_)⟩⟩ (all_cons ⟨⟨_, m1, rfl⟩, .inl ⟨m1, (fun hm_ => by cases hm_)⟩⟩ all_no)) (all_cons ⟨⟨_, m0, rfl⟩, .inl ⟨m0, fun g_ he_ => own_ne hf4 (fun hm_ => by cases hm_) he_⟩⟩ all_no)
 have hM_ : ∀ b_ ∈ ([b_y] : List Nat), _ ≤ b_ := (all_cons hby all_no)
 replace hk1 := hk1.nextN hB hR hkF_ hM_
 replace hk2 := hk2.nextN hB hR hkF_ hM_
 replace hk3 := hk3.nextN hB hR hkF_ hM_
 have hB_ := hB.nextN hR hkF_ hM_; have hR1_ := hR_.shrinkN (M := [b_y])
 obtain ⟨hfr1_, hfr2_⟩ := hR.fresh (H' := [⟨3, 84, [vB nx, .rsl 4 0 mx 4]⟩, ⟨2, 50, [.v (.int .u64 0), .v (.int .u64 0), .v (.int .u64 0), .v (.int .u64 0)]⟩]) (G' := [⟨4, 102, 1, 4, (ints .u64 zx)⟩]) (all_cons ⟨_, m0, rfl⟩ (all_cons ⟨_, m1, rfl⟩ all_no)) (all_cons ⟨_, m0, rfl⟩ all_no) hby
 obtain ⟨hag_, hR2_⟩ := hR1_.gotBlk (L := []) (k := 5) (b := b_y) (t := 84) (cs := [vB ny, vS (some ⟨gy, 0, none⟩) my 4]) (by kernel_rfl) (by kernel_rfl) hwby (fun hf_ => hf_.2.1 m0) hfr1_ hfr2_
 replace hI := hI.agreeB (H := []) (G := []) (by kernel_rfl) hag_
 replace hf4 := tf hag_ hf4
 replace hnew4 := tg hag_ hnew4
 replace hbk3 := tb hag_ hbk3
 have hbk5 : (e5.addB 5 b_y).b 5 = b_y := addB_b _ _ _
 replace hR1_ := hR2_; clear hR2_
 replace hR := hR1_; clear hR_ hR1_
 replace hB := hB_; clear hB_ hk hkF_ 
 have hnyf : ny = false := by rw [hny]; exact decide_eq_false (by omega)
 subst hnyf
 refine ⟨_, rfl, ?_⟩
 replace hI := hI.pt 11 (.p 5 0) [11, 10, 9, 8, 4]
 refine cO [.p 3 0, .p 3 0, .p 5 0, .v (.pointer none)] hI Tryz.func48 ?_
 have hseg0 : seg zx 0 mx = zx.take mx := by simp [seg]
 have hyl : (zy.take my).length = my := by rw [List.length_take]; omega
 have hpw_ : nval (seg zx 0 mx) ^ nval (zy.take my) < pn 4 := by rw [hseg0, hvx, hvy]; exact lt_pn4 hpb (by decide)
 have hq3_ := hR.blk ⟨3, 84, [vB nx, .rsl 4 0 mx 4]⟩ m1
 have hq5_ := hR.blk ⟨5, 84, [vB false, vS (some ⟨gy, 0, none⟩) my 4]⟩ m0
 have hq4_ := hR.rowCells (y := ⟨4, 102, 1, 4, (ints .u64 zx)⟩) m0 hf4 rfl
 refine (iexp2_spec (C := Now hB) (zs := zx) hq3_.1 hq5_.1 hq4_.1 hzxl (by decide) (hR.hh _ m1 _ m0 (by dsimp only; decide)) (hR.hgN m1 m0 hf4) (hR.hgN m0 m0 hf4) (fun h_ => hq3_.2 h_.2) (fun h_ => hq5_.2 h_.2) (fun h_ => hq4_.2 h_.2) (hk1.now hB hR) (hk2.now hB hR) (hk3.now hB hR) (hy.now hB hR) hyl hzxd hmx hmx (by decide) (by decide) (by omega) (by rw [hseg0]; exact htx) hty (by rw [hvy]; omega) hpw_).mono ?_
 rintro ex w7 ⟨ad2, l5, c2, rs, nq, rfl, hrl, hk, hrs, htr, hvr, hw3, hw5, hw4, hnq⟩
 have hkF_ := hR.keepN hk (all_cons hq3_.2 (all_cons hq5_.2 (all_cons hq4_.2 all_no)))
 have hR_ : Rel (Grow _ _ w7) w7 (e5.addB 5 b_y) [⟨5, 84, [vB false, vS (some ⟨gy, 0, none⟩) my 4]⟩, ⟨3, 84, [vB nq, vS ad2 l5 c2]⟩, ⟨2, 50, [.v (.int .u64 0), .v (.int .u64 0), .v (.int .u64 0), .v (.int .u64 0)]⟩] [⟨4, 102, 1, 4, (ints .u64 zx)⟩] w7 := hR.turnedN hk (all_cons hq3_.2 (all_cons hq5_.2 (all_cons hq4_.2 all_no))) (all_cons ⟨⟨_, m0, rfl⟩, .inr hw5⟩ (all_cons ⟨⟨_, m1, rfl⟩, .inr hw3⟩ (all_cons ⟨⟨_, m2, rfl⟩, .inl ⟨m2, (notin2 (hR.hh _ m2 _ m1 (by dsimp only; decide)) (notin2 (hR.hh _ m2 _ m0 (by dsimp only; decide)) (notin2 (hR.hgN m2 m0 hf4) (fun hm_ => by cases hm_))))⟩⟩ all_no))) (all_cons ⟨⟨_, m0, rfl⟩, .inr (by have hl_ := hR.rowLen (y := ⟨4, 102, 1, 4, (ints .u64 zx)⟩) m0; dsimp only at hl_; rw [show (e5.addB 5 b_y).r 4 = _ from hf4]; exact ownsRow_fullN hw4 (by rw [ints_length]; exact hzxl) (by decide))⟩ all_no)
 replace hk1 := hk1.nextF hB hR hkF_
 replace hk2 := hk2.nextF hB hR hkF_
 replace hk3 := hk3.nextF hB hR hkF_
 replace hy := hy.nextF hB hR hkF_
 have hB_ := hB.nextF hR hkF_
 replace hR := hR_; clear hR_
 replace hB := hB_; clear hB_ hk hkF_ hq3_ hw3 hq5_ hw5 hq4_ hw4
 rw [hseg0, hvx, hvy] at hvr
 rw [hvy] at hnq
 have hrl4 : rs.length ≤ 4 := trim_len htr (by rw [hvr]; exact lt_pn4 hpb (by decide))
 refine ⟨_, rfl, ?_⟩
 replace hI := hI.pt 12 (.p 3 0) [12, 11, 10, 9, 8, 4]
 refine cO [.p 3 0] hI Tryz.func39 ?_
 have hq3_ := hR.blk ⟨3, 84, [vB nq, vS ad2 l5 c2]⟩ m1
 refine (fromBig256_spec (C := Now hB) hq3_.1 (fun h_ => hq3_.2 h_.2) (hrs.now hB hR) hrl htr (by omega) (by rw [hvr]; exact hpb)).mono ?_
 rintro ex w8 ⟨c0, c1, c2_, c3, rfl, hk, hw3, hcq, hqv⟩
 have hkF_ := hR.keepN hk (all_cons hq3_.2 all_no)
 have hR_ : Rel (Grow _ _ w8) w8 (e5.addB 5 b_y) [⟨5, 84, [vB false, vS (some ⟨gy, 0, none⟩) my 4]⟩, ⟨3, 84, [vB nq, vS ad2 l5 c2]⟩, ⟨2, 50, [.v (.int .u64 0), .v (.int .u64 0), .v (.int .u64 0), .v (.int .u64 0)]⟩] [⟨4, 102, 1, 4, (ints .u64 zx)⟩] w8 := hR.turnedN hk (all_cons hq3_.2 all_no) (all_cons ⟨⟨_, m0, rfl⟩, .inl ⟨m0, (notin2 (hR.hh _ m0 _ m1 (by dsimp only; decide)) (fun hm_ => by cases hm_))⟩⟩ (all_cons ⟨⟨_, m1, rfl⟩, .inr hw3⟩ (all_cons ⟨⟨_, m2, rfl⟩, .inl ⟨m2, (notin2 (hR.hh _ m2 _ m1 (by dsimp only; decide)) (fun hm_ => by cases hm_))⟩⟩ all_no))) (all_cons ⟨⟨_, m0, rfl⟩, .inl ⟨m0, fun g_ he_ => own_ne hf4 (notin2 (hR.ghN m1 m0 hf4) (fun hm_ => by cases hm_)) he_⟩⟩ all_no)
 replace hk1 := hk1.nextF hB hR hkF_
 replace hk2 := hk2.nextF hB hR hkF_
 replace hk3 := hk3.nextF hB hR hkF_
 replace hrs := hrs.nextF hB hR hkF_
 replace hy := hy.nextF hB hR hkF_
 have hB_ := hB.nextF hR hkF_
 replace hR := hR_; clear hR_
 replace hB := hB_; clear hB_ hk hkF_ hq3_ hw3
 refine ⟨_, rfl, ?_⟩
 replace hI := hI.pt 13 (.v (.agg #[.int .u64 (c0 : Int), .int .u64 (c1 : Int), .int .u64 (c2_ : Int), .int .u64 (c3 : Int)])) [13, 12, 11, 10, 9, 8, 4]
 refine pK tab [6] [] 6 [] [] [] [4] [⟨2, 50, [vU c0, vU c1, vU c2_, vU c3]⟩] [] [] [] 6 hR hI .nil fun e9 a9 w9 hag hR hI => ?_
 have hA := hag
 refine ops_nil (then_n ?_)
 refine wp_ret (oN tab [.agg [vU c0, vU c1, vU c2_, vU c3]] hR hI ?_)
 exact ⟨c0, c1, c2_, c3, rfl, hB.fin hR, hcq, by rw [hqv, hnq, hnx]; exact pow_of hvr (fun h_ => by have h2_ := of_decide_eq_false h_; exact (congrArg nval (List.eq_nil_of_length_eq_zero (by omega : rs.length = 0))).trans nval_nil)⟩

end Go.Proofs.YtmendapdibnbdaaGreatDoor.Stride
