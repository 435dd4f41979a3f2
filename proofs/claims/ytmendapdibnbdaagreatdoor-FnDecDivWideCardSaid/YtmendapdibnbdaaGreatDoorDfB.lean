/- Walks of the program's functions, printed by a program of mine (walk.py) over the words of Stride: each function's contract. -/
import Derived.Test.YtmendapdibnbdaaGreatDoorDfA
import Derived.ChangeKeysEq
namespace Go.Proofs.YtmendapdibnbdaaGreatDoor.Stride
open Go Go.RowKit Go.Proofs.YtmendapdibnbdaaGreatDoor.Mag
set_option linter.unusedVariables false
set_option linter.unusedSimpArgs false
set_option maxHeartbeats 4000000
set_option maxRecDepth 100000
theorem div128_spec {C : Nat → Prop} {w : World} {l m : Nat} {hi hj : Int} (hl : l < 18446744073709551616) (h1 : -9223372036854775808 ≤ hi) (h2 : hi ≤ 9223372036854775807) (hl' : m < 18446744073709551616) (h1' : -9223372036854775808 ≤ hj) (h2' : hj ≤ 9223372036854775807) (hgl : Sl .i64 18446744073709551616 C w (some ⟨0, 0, none⟩) 1 [40]) (hy0 : ((m : Int) + 18446744073709551616 * hj) ≠ 0) (hxl : Int.natAbs ((l : Int) + 18446744073709551616 * hi) < 2 ^ 127) (hyl_ : Int.natAbs ((m : Int) + 18446744073709551616 * hj) < 2 ^ 127) :
    Calls P 16 #[.agg #[.int .u64 (l : Int), .int .i64 hi], .agg #[.int .u64 (m : Int), .int .i64 hj]] w fun ex w' => ∃ (l2 : Nat) (hi2 : Int) (l3 : Nat) (hi3 : Int), ex = .returned (.tuple #[.agg #[.int .u64 (l2 : Int), .int .i64 hi2], .agg #[.int .u64 (l3 : Int), .int .i64 hi3]]) ∧ KS w w' ∧ (l2 < 18446744073709551616 ∧ -9223372036854775808 ≤ hi2 ∧ hi2 ≤ 9223372036854775807) ∧ (l3 < 18446744073709551616 ∧ -9223372036854775808 ≤ hi3 ∧ hi3 ≤ 9223372036854775807) ∧ (l2 : Int) + 18446744073709551616 * hi2 = Int.tdiv ((l : Int) + 18446744073709551616 * hi) ((m : Int) + 18446744073709551616 * hj) ∧ (l3 : Int) + 18446744073709551616 * hi3 = Int.tmod ((l : Int) + 18446744073709551616 * hi) ((m : Int) + 18446744073709551616 * hj) := by
 refine dN (C := C) [.v (.agg #[.int .u64 (l : Int), .int .i64 hi]), .v (.agg #[.int .u64 (m : Int), .int .i64 hj])] 25 2 Tryz.func16 fun a_ hI hR hB => ?_
 replace hI : Is 25 [] e0 [(0, .v (.agg #[.int .u64 (l : Int), .int .i64 hi])), (1, .v (.agg #[.int .u64 (m : Int), .int .i64 hj]))] a_ := hI
 refine rK tab 0 [] [] [(5, .p 3 0), (4, .p 2 0), (3, .p 1 0), (2, .p 0 0)] [] [⟨3, 47, [.v (.int .u64 0), .v (.int .i64 0)]⟩, ⟨2, 47, [.v (.int .u64 0), .v (.int .i64 0)]⟩, ⟨1, 47, [vU m, .v (.int .i64 hj)]⟩, ⟨0, 47, [vU l, .v (.int .i64 hi)]⟩] [] [] [] 4 hR hI .nil fun e1 a1 w1 hag hR hI => ?_
 refine wp_seq (reg (is := [0, 1, 2]) (by kernel_rfl) ?_)
 refine pK tab [0] [1, 2] 4 [] [] [(9, .agg [vU l, .v (.int .i64 hi)])] [5, 4, 3] [] [3, 2, 1] [] [] 4 hR hI .nil fun e2 a2 w2 hag hR hI => ?_
 refine cO [.agg [vU l, .v (.int .i64 hi)]] hI Tryz.func35 ?_
 refine (bigInt128_spec (C := Now hB) hl h1 h2).mono ?_
 rintro ex w3 ⟨bx, gx, mx, nx, zx, rfl, hk, hbx, hgx, hbgx, hwbx, hwgx, hzxl, hzxd, hmx, htx, hnx, hvx⟩
 replace hk := keepBut0 hk
 have hkF_ := hR.keepN hk all_no
 have hR_ : Rel (Grow _ _ w3) w3 e2 [⟨3, 47, [.v (.int .u64 0), .v (.int .i64 0)]⟩, ⟨2, 47, [.v (.int .u64 0), .v (.int .i64 0)]⟩, ⟨1, 47, [vU m, .v (.int .i64 hj)]⟩] [] w3 := hR.turnedN hk all_no (all_cons ⟨⟨_, m0, rfl⟩, .inl ⟨m0, (fun hm_ => by cases hm_)⟩⟩ (all_cons ⟨⟨_, m1, rfl⟩, .inl ⟨m1, (fun hm_ => by cases hm_)⟩⟩ (all_cons ⟨⟨_, m2, rfl⟩, .inl ⟨m2, (fun hm_ => by cases hm_)⟩⟩ all_no))) all_no
 have hM_ : ∀ b_ ∈ ([bx, gx] : List Nat), _ ≤ b_ := (all_cons hbx (all_cons hgx all_no))
 replace hgl := hgl.nextN hB hR hkF_ hM_
 have hB_ := hB.nextN hR hkF_ hM_; have hR1_ := hR_.shrinkN (M := [bx, gx])
 obtain ⟨hfr1_, hfr2_⟩ := hR.fresh (H' := [⟨3, 47, [.v (.int .u64 0), .v (.int .i64 0)]⟩, ⟨2, 47, [.v (.int .u64 0), .v (.int .i64 0)]⟩, ⟨1, 47, [vU m, .v (.int .i64 hj)]⟩]) (G' := []) (all_cons ⟨_, m0, rfl⟩ (all_cons ⟨_, m1, rfl⟩ (all_cons ⟨_, m2, rfl⟩ all_no))) all_no hbx
 obtain ⟨hag_, hR2_⟩ := hR1_.gotBlk (L := []) (k := 4) (b := bx) (t := 84) (cs := [vB nx, vS (some ⟨gx, 0, none⟩) mx 2]) (by kernel_rfl) (by kernel_rfl) hwbx (fun hf_ => hf_.2.1 m0) hfr1_ hfr2_
 replace hI := hI.agreeB (H := []) (G := []) (by kernel_rfl) hag_
 have hbk4 : (e2.addB 4 bx).b 4 = bx := addB_b _ _ _
 replace hR1_ := hR2_; clear hR2_
 obtain ⟨hfr1_, hfr2_⟩ := hR.fresh (H' := [⟨3, 47, [.v (.int .u64 0), .v (.int .i64 0)]⟩, ⟨2, 47, [.v (.int .u64 0), .v (.int .i64 0)]⟩, ⟨1, 47, [vU m, .v (.int .i64 hj)]⟩]) (G' := []) (all_cons ⟨_, m0, rfl⟩ (all_cons ⟨_, m1, rfl⟩ (all_cons ⟨_, m2, rfl⟩ all_no))) all_no hgx
 replace hfr1_ : ∀ x ∈ ([⟨4, 84, [vB nx, vS (some ⟨gx, 0, none⟩) mx 2]⟩, ⟨3, 47, [.v (.int .u64 0), .v (.int .i64 0)]⟩, ⟨2, 47, [.v (.int .u64 0), .v (.int .i64 0)]⟩, ⟨1, 47, [vU m, .v (.int .i64 hj)]⟩] : List Blk), ((e2.addB 4 bx)).b x.n ≠ gx := fun x hx_ => (List.mem_cons.1 hx_).elim (fun he_ => by rw [he_]; dsimp only; rw [addB_b]; exact hbgx) (fun hm_ => by rw [(hag_ x.n (by simp only [List.mem_cons, List.not_mem_nil, or_false] at hm_ <;> (first | (rcases hm_ with rfl | rfl | rfl | rfl) <;> (dsimp only; decide) | (rcases hm_ with rfl | rfl | rfl) <;> (dsimp only; decide) | (rcases hm_ with rfl | rfl) <;> (dsimp only; decide) | (subst hm_; dsimp only; decide)))).1]; exact hfr1_ x hm_)
 replace hfr2_ : ∀ y ∈ ([] : List Row), (((e2.addB 4 bx)).r y.n).ownBlock ≠ some gx := fun y hy_ => by rw [(hag_ y.n (by simp only [List.mem_cons, List.not_mem_nil, or_false] at hy_ <;> (first | (rcases hy_ with rfl | rfl | rfl | rfl) <;> (dsimp only; decide) | (rcases hy_ with rfl | rfl | rfl) <;> (dsimp only; decide) | (rcases hy_ with rfl | rfl) <;> (dsimp only; decide) | (subst hy_; dsimp only; decide)))).2]; exact hfr2_ y hy_
 obtain ⟨hag_, hR2_⟩ := hR1_.gotRow (L := []) (k := 5) (g := gx) (n := 2) (t := 102) (xs := (ints .u64 zx)) (by kernel_rfl) hwgx (by rw [ints_length]; exact hzxl) (by decide) (fun hf_ => hf_.2.1 m1) hfr1_ hfr2_
 replace hI := hI.agreeB (H := []) (G := []) (by kernel_rfl) hag_
 replace hbk4 := tb hag_ hbk4
 have hf5 : Full ((e2.addB 4 bx).addR 5 (.slice (some ⟨gx, 0, none⟩) 2 2)) 5 2 := full_addR _ _ _ _; have hnew5 : headOf (((e2.addB 4 bx).addR 5 (.slice (some ⟨gx, 0, none⟩) 2 2)).r 5) = gx := head_addR _ _ _ _
 replace hR := hR2_; clear hR2_ hR_ hR1_
 replace hB := hB_; clear hB_ hk hkF_ 
 replace hR := hR.reblk (b := ⟨4, 84, [vB nx, vS (some ⟨gx, 0, none⟩) mx 2]⟩) (by simp) [vB nx, .rsl 5 0 mx 2] [⟨3, 47, [.v (.int .u64 0), .v (.int .i64 0)]⟩, ⟨2, 47, [.v (.int .u64 0), .v (.int .i64 0)]⟩, ⟨1, 47, [vU m, .v (.int .i64 hj)]⟩] (by simp) (by simp only [dens, den, hnew5])
 dsimp only at hR
 refine ⟨_, rfl, ?_⟩
 replace hI := hI.pt 10 (.p 4 0) [10, 9, 5, 4, 3]
 refine pZ tab [2] [] 6 [(6, .p 4 0)] [5, 4, 3] hR hI fun e4 a4 w4 hag hR hI => ?_
 have hA := hag
 refine ops_nil (then_n ?_)
 refine wp_seq (reg (is := [0, 1, 2, 3, 4, 5, 6, 7, 8, 9, 10, 11]) (by kernel_rfl) ?_)
 refine pK tab [0, 1, 2] [3, 4, 5, 6, 7, 8, 9, 10, 11] 6 [] [] [(14, .agg [vU m, .v (.int .i64 hj)]), (13, .p 4 0), (12, .p 4 0)] [5, 4] [] [4, 3, 2] [] [5] 6 hR hI .nil fun e5 a5 w5 hag hR hI => ?_
 replace hA := hA.trans hag (by decide)
 refine cO [.agg [vU m, .v (.int .i64 hj)]] hI Tryz.func35 ?_
 refine (bigInt128_spec (C := Now hB) hl' h1' h2').mono ?_
 rintro ex w6 ⟨b_y, gy, my, ny, zy, rfl, hk, hby, hgy, hbgy, hwby, hwgy, hzyl, hzyd, hmy, hty, hny, hvy⟩
 have hy := (((sl_lit (c := 2) hwgy hzyd (by omega) (by decide)).take (by omega : my ≤ zy.length)).cls2 rfl hgy hbgy).upN (C := Now hB)
 replace hk := keepBut0 hk
 have hkF_ := hR.keepN hk all_no
 replace hbk4 := tb hA hbk4
 replace hf5 := tf hA hf5
 replace hnew5 := tg hA hnew5
 have hR_ : Rel (Grow _ _ w6) w6 e5 [⟨4, 84, [vB nx, .rsl 5 0 mx 2]⟩, ⟨3, 47, [.v (.int .u64 0), .v (.int .i64 0)]⟩, ⟨2, 47, [.v (.int .u64 0), .v (.int .i64 0)]⟩] [⟨5, 102, 1, 2, (ints .u64 zx)⟩] w6 := hR.turnedN hk all_no (all_cons ⟨⟨_, m0, rfl⟩, .inl ⟨m0, (fun hm_ => by cases hm_)⟩⟩ (all_cons ⟨⟨_, m1, rfl⟩, .inl ⟨m1, (fun hm_ => by cases hm_)⟩⟩ (all_cons ⟨⟨_, m2, rfl⟩, .inl ⟨m2, (fun hm_ => by cases hm_)⟩⟩ all_no))) (all_cons ⟨⟨_, m0, rfl⟩, .inl ⟨m0, fun g_ he_ => own_ne hf5 (fun hm_ => by cases hm_) he_⟩⟩ all_no)
 have hM_ : ∀ b_ ∈ ([b_y] : List Nat), _ ≤ b_ := (all_cons hby all_no)
 replace hgl := hgl.nextN hB hR hkF_ hM_
 have hB_ := hB.nextN hR hkF_ hM_; have hR1_ := hR_.shrinkN (M := [b_y])
 obtain ⟨hfr1_, hfr2_⟩ := hR.fresh (H' := [⟨4, 84, [vB nx, .rsl 5 0 mx 2]⟩, ⟨3, 47, [.v (.int .u64 0), .v (.int .i64 0)]⟩, ⟨2, 47, [.v (.int .u64 0), .v (.int .i64 0)]⟩]) (G' := [⟨5, 102, 1, 2, (ints .u64 zx)⟩]) (all_cons ⟨_, m0, rfl⟩ (all_cons ⟨_, m1, rfl⟩ (all_cons ⟨_, m2, rfl⟩ all_no))) (all_cons ⟨_, m0, rfl⟩ all_no) hby
 obtain ⟨hag_, hR2_⟩ := hR1_.gotBlk (L := []) (k := 6) (b := b_y) (t := 84) (cs := [vB ny, vS (some ⟨gy, 0, none⟩) my 2]) (by kernel_rfl) (by kernel_rfl) hwby (fun hf_ => hf_.2.1 m0) hfr1_ hfr2_
 replace hI := hI.agreeB (H := []) (G := []) (by kernel_rfl) hag_
 replace hf5 := tf hag_ hf5
 replace hnew5 := tg hag_ hnew5
 replace hbk4 := tb hag_ hbk4
 have hbk6 : (e5.addB 6 b_y).b 6 = b_y := addB_b _ _ _
 replace hR1_ := hR2_; clear hR2_
 replace hR := hR1_; clear hR_ hR1_
 replace hB := hB_; clear hB_ hk hkF_ 
 refine ⟨_, rfl, ?_⟩
 replace hI := hI.pt 15 (.p 6 0) [15, 14, 13, 12, 5, 4]
 refine pK tab [4, 5] [6, 7, 8, 9, 10, 11] 7 [] [] [(17, .p 7 0)] [15, 13, 12, 5, 4] [⟨7, 84, [vB false, vS none 0 0]⟩] [6, 4, 3, 2] [] [5] 8 hR hI .nil fun e7 a7 w7 hag hR hI => ?_
 have hA := hag
 refine cO [.p 4 0, .p 4 0, .p 6 0, .p 7 0] hI Tryz.func36 ?_
 have hseg0 : seg zx 0 mx = zx.take mx := by simp [seg]
 have hyl : (zy.take my).length = my := by rw [List.length_take]; omega
 have hyp : 0 < nval (zy.take my) := by rw [hvy]; omega
 have hq4_ := hR.blk ⟨4, 84, [vB nx, .rsl 5 0 mx 2]⟩ m2
 have hq6_ := hR.blk ⟨6, 84, [vB ny, vS (some ⟨gy, 0, none⟩) my 2]⟩ m1
 have hq7_ := hR.blk ⟨7, 84, [vB false, vS none 0 0]⟩ m0
 replace hbk4 := tb hA hbk4
 replace hbk6 := tb hA hbk6
 replace hf5 := tf hA hf5
 replace hnew5 := tg hA hnew5
 have hq5_ := hR.rowCells (y := ⟨5, 102, 1, 2, (ints .u64 zx)⟩) m0 hf5 rfl
 refine (quoRem_spec (C := Now hB) (zs := zx) hq4_.1 hq6_.1 hq7_.1 hq5_.1 hzxl (by decide) (hR.hh _ m2 _ m1 (by dsimp only; decide)) (hR.hh _ m2 _ m0 (by dsimp only; decide)) (hR.hh _ m1 _ m0 (by dsimp only; decide)) (hR.hgN m2 m0 hf5) (hR.hgN m1 m0 hf5) (hR.hgN m0 m0 hf5) (fun h_ => hq4_.2 h_.2) (fun h_ => hq6_.2 h_.2) (fun h_ => hq7_.2 h_.2) (fun h_ => hq5_.2 h_.2) (hgl.now hB hR) (hy.now hB hR) hyl hzxd hmx hmx (by decide) (by omega) (by rw [hseg0]; exact htx) hty hyp (by omega)).mono ?_
 rintro ex w8 ⟨mq, zs2, rd, rl, rc, rs, nq, nr, rfl, hrl, hk, hw5, hz2l, hz2d, hmq, htq, hvq, hrs, htr, hvr, hw4, hw6, hw7, hnq, hnr⟩
 have hkF_ := hR.keepN hk (all_cons hq4_.2 (all_cons hq6_.2 (all_cons hq7_.2 (all_cons hq5_.2 all_no))))
 have hR_ : Rel (Grow _ _ w8) w8 e7 [⟨7, 84, [vB nr, vS rd rl rc]⟩, ⟨6, 84, [vB ny, vS (some ⟨gy, 0, none⟩) my 2]⟩, ⟨4, 84, [vB nq, .rsl 5 0 mq 2]⟩, ⟨3, 47, [.v (.int .u64 0), .v (.int .i64 0)]⟩, ⟨2, 47, [.v (.int .u64 0), .v (.int .i64 0)]⟩] [⟨5, 102, 1, 2, (ints .u64 zs2)⟩] w8 := hR.turnedN hk (all_cons hq4_.2 (all_cons hq6_.2 (all_cons hq7_.2 (all_cons hq5_.2 all_no)))) (all_cons ⟨⟨_, m0, rfl⟩, .inr hw7⟩ (all_cons ⟨⟨_, m1, rfl⟩, .inr hw6⟩ (all_cons ⟨⟨_, m2, rfl⟩, .inr hw4⟩ (all_cons ⟨⟨_, m3, rfl⟩, .inl ⟨m3, (notin2 (hR.hh _ m3 _ m2 (by dsimp only; decide)) (notin2 (hR.hh _ m3 _ m1 (by dsimp only; decide)) (notin2 (hR.hh _ m3 _ m0 (by dsimp only; decide)) (notin2 (hR.hgN m3 m0 hf5) (fun hm_ => by cases hm_)))))⟩⟩ (all_cons ⟨⟨_, m4, rfl⟩, .inl ⟨m4, (notin2 (hR.hh _ m4 _ m2 (by dsimp only; decide)) (notin2 (hR.hh _ m4 _ m1 (by dsimp only; decide)) (notin2 (hR.hh _ m4 _ m0 (by dsimp only; decide)) (notin2 (hR.hgN m4 m0 hf5) (fun hm_ => by cases hm_)))))⟩⟩ all_no))))) (all_cons ⟨⟨_, m0, rfl⟩, .inr (by have hl_ := hR.rowLen (y := ⟨5, 102, 1, 2, (ints .u64 zx)⟩) m0; dsimp only at hl_; rw [show e7.r 5 = _ from hf5]; exact ownsRow_fullN hw5 (by rw [ints_length]; exact hz2l) (by decide))⟩ all_no)
 replace hgl := hgl.nextF hB hR hkF_
 replace hy := hy.nextF hB hR hkF_
 have hB_ := hB.nextF hR hkF_
 replace hR := hR_; clear hR_
 replace hB := hB_; clear hB_ hk hkF_ hq4_ hw4 hq6_ hw6 hq7_ hw7 hq5_ hw5
 rw [hseg0, hvx, hvy] at hvq hvr
 refine ⟨_, rfl, ?_⟩
 replace hI := hI.pt 18 (.tup [.p 4 0, .p 7 0]) [18, 17, 15, 13, 12, 5, 4]
 refine pK tab [7, 8, 9, 10, 11] [] 8 [] [] [(8, .p 7 0), (7, .p 4 0)] [5, 4] [] [7, 4, 3, 2] [] [5] 8 hR hI .nil fun e9 a9 w9 hag hR hI => ?_
 have hA := hag
 refine ops_nil (then_n ?_)
 refine wp_seq (reg (is := [0, 1, 2, 3, 4, 5]) (by kernel_rfl) ?_)
 refine pZ tab [0] [1, 2, 3, 4, 5] 8 [(21, .p 4 0)] [8, 5, 4] hR hI fun e10 a10 w10 hag hR hI => ?_
 replace hA := hA.trans hag (by decide)
 refine cO [.p 4 0] hI Tryz.func37 ?_
 replace hbk4 := tb hA hbk4
 replace hbk6 := tb hA hbk6
 replace hf5 := tf hA hf5
 replace hnew5 := tg hA hnew5
 have hzk := hR.rowRead (y := ⟨5, 102, 1, 2, (ints .u64 zs2)⟩) m0 hf5 rfl rfl hz2d 0 mq (by omega) (c := 2) (by omega) (by decide)
 have hql_ : ((zs2.drop 0).take mq).length = mq := by rw [List.length_take, List.length_drop]; omega
 have hqx_ : Int.natAbs ((l : Int) + 18446744073709551616 * hi) / Int.natAbs ((m : Int) + 18446744073709551616 * hj) ≤ Int.natAbs ((l : Int) + 18446744073709551616 * hi) := Nat.div_le_self _ _
 have hq4_ := hR.blk ⟨4, 84, [vB nq, .rsl 5 0 mq 2]⟩ m1
 refine (fromBig128_spec (C := fun b_ => b_ = headOf (e10.r 5)) hq4_.1 (fun h_ => hR.hgN m1 m0 hf5 h_) hzk hql_ htq (by omega) (Nat.lt_of_le_of_lt (Nat.le_of_eq hvq) (by omega))).mono ?_
 rintro ex w11 ⟨l2, hi2, rfl, hk, hw4, hl2, h12, h22, hqv⟩
 have hkF_ := hR.keepN hk (all_cons hq4_.2 all_no)
 have hR_ : Rel (Grow _ _ w11) w11 e10 [⟨7, 84, [vB nr, vS rd rl rc]⟩, ⟨4, 84, [vB nq, .rsl 5 0 mq 2]⟩, ⟨3, 47, [.v (.int .u64 0), .v (.int .i64 0)]⟩, ⟨2, 47, [.v (.int .u64 0), .v (.int .i64 0)]⟩] [⟨5, 102, 1, 2, (ints .u64 zs2)⟩] w11 := hR.turnedN hk (all_cons hq4_.2 all_no) (all_cons ⟨⟨_, m0, rfl⟩, .inl ⟨m0, (notin2 (hR.hh _ m0 _ m1 (by dsimp only; decide)) (fun hm_ => by cases hm_))⟩⟩ (all_cons ⟨⟨_, m1, rfl⟩, .inr hw4⟩ (all_cons ⟨⟨_, m2, rfl⟩, .inl ⟨m2, (notin2 (hR.hh _ m2 _ m1 (by dsimp only; decide)) (fun hm_ => by cases hm_))⟩⟩ (all_cons ⟨⟨_, m3, rfl⟩, .inl ⟨m3, (notin2 (hR.hh _ m3 _ m1 (by dsimp only; decide)) (fun hm_ => by cases hm_))⟩⟩ all_no)))) (all_cons ⟨⟨_, m0, rfl⟩, .inl ⟨m0, fun g_ he_ => own_ne hf5 (notin2 (hR.ghN m1 m0 hf5) (fun hm_ => by cases hm_)) he_⟩⟩ all_no)
 replace hgl := hgl.nextF hB hR hkF_
 replace hrs := hrs.nextF hB hR hkF_
 replace hy := hy.nextF hB hR hkF_
 have hB_ := hB.nextF hR hkF_
 replace hR := hR_; clear hR_
 replace hB := hB_; clear hB_ hk hkF_ hq4_ hw4
 rw [show ((zs2.drop 0).take mq) = seg zs2 0 mq from rfl] at hqv
 refine ⟨_, rfl, ?_⟩
 replace hI := hI.pt 22 (.v (.agg #[.int .u64 (l2 : Int), .int .i64 hi2])) [22, 21, 8, 5, 4]
 refine pK tab [2] [3, 4, 5] 8 [] [] [(23, .p 7 0)] [22, 5, 4] [] [7, 3, 2] [] [] 8 hR hI .nil fun e12 a12 w12 hag hR hI => ?_
 have hA := hag
 refine cO [.p 7 0] hI Tryz.func37 ?_
 have hry_ : nval rs < Int.natAbs ((m : Int) + 18446744073709551616 * hj) := by rw [hvr]; exact Nat.mod_lt _ (by omega)
 have hrl4 : rs.length ≤ 2 := Nat.le_trans (trim_len htr (m := my) (by have h_ := nval_lt (xs := zy.take my) (fun d hd => hzyd d (List.mem_of_mem_take hd)); rw [hyl, hvy] at h_; omega)) hmy
 have hq7_ := hR.blk ⟨7, 84, [vB nr, vS rd rl rc]⟩ m0
 refine (fromBig128_spec (C := Now hB) hq7_.1 (fun h_ => hq7_.2 h_.2) (hrs.now hB hR) hrl htr (by omega) (by omega)).mono ?_
 rintro ex w13 ⟨l3, hi3, rfl, hk, hw7, hl3, h13, h23, hrv⟩
 have hkF_ := hR.keepN hk (all_cons hq7_.2 all_no)
 have hR_ : Rel (Grow _ _ w13) w13 e12 [⟨7, 84, [vB nr, vS rd rl rc]⟩, ⟨3, 47, [.v (.int .u64 0), .v (.int .i64 0)]⟩, ⟨2, 47, [.v (.int .u64 0), .v (.int .i64 0)]⟩] [] w13 := hR.turnedN hk (all_cons hq7_.2 all_no) (all_cons ⟨⟨_, m0, rfl⟩, .inr hw7⟩ (all_cons ⟨⟨_, m1, rfl⟩, .inl ⟨m1, (notin2 (hR.hh _ m1 _ m0 (by dsimp only; decide)) (fun hm_ => by cases hm_))⟩⟩ (all_cons ⟨⟨_, m2, rfl⟩, .inl ⟨m2, (notin2 (hR.hh _ m2 _ m0 (by dsimp only; decide)) (fun hm_ => by cases hm_))⟩⟩ all_no))) all_no
 replace hgl := hgl.nextF hB hR hkF_
 replace hrs := hrs.nextF hB hR hkF_
 replace hy := hy.nextF hB hR hkF_
 have hB_ := hB.nextF hR hkF_
 replace hR := hR_; clear hR_
 replace hB := hB_; clear hB_ hk hkF_ hq7_ hw7
 refine ⟨_, rfl, ?_⟩
 replace hI := hI.pt 24 (.v (.agg #[.int .u64 (l3 : Int), .int .i64 hi3])) [24, 23, 22, 5, 4]
 refine pK tab [4, 5] [] 8 [] [] [] [5, 4] [⟨3, 47, [vU l3, .v (.int .i64 hi3)]⟩, ⟨2, 47, [vU l2, .v (.int .i64 hi2)]⟩] [] [] [] 8 hR hI .nil fun e14 a14 w14 hag hR hI => ?_
 replace hA := hA.trans hag (by decide)
 refine ops_nil (then_n ?_)
 refine wp_ret (oN tab [.agg [vU l2, .v (.int .i64 hi2)], .agg [vU l3, .v (.int .i64 hi3)]] hR hI ?_)
 exact ⟨l2, hi2, l3, hi3, rfl, hB.fin hR, ⟨hl2, h12, h22⟩, ⟨hl3, h13, h23⟩, by rw [hqv, hnq, hnx, hny]; exact tdiv_of hvq (fun h_ => by have h2_ := of_decide_eq_false h_; have h3_ : mq = 0 := (by omega); exact (congrArg nval (by rw [h3_, seg_zero] : seg zs2 0 mq = [])).trans nval_nil), by rw [hrv, hnr, hnx]; exact tmod_of hvr (fun h_ => by have h2_ := of_decide_eq_false h_; exact (congrArg nval (List.eq_nil_of_length_eq_zero (by omega : rs.length = 0))).trans nval_nil)⟩

theorem div256_spec {C : Nat → Prop} {w : World} {q0 q1 q2 q3 p0 p1 p2 p3 : Nat} (hq : q0 < 18446744073709551616 ∧ q1 < 18446744073709551616 ∧ q2 < 18446744073709551616 ∧ q3 < 18446744073709551616) (hp : p0 < 18446744073709551616 ∧ p1 < 18446744073709551616 ∧ p2 < 18446744073709551616 ∧ p3 < 18446744073709551616) (hgl : Sl .i64 18446744073709551616 C w (some ⟨0, 0, none⟩) 1 [40]) (hy0 : (swv [p0, p1, p2, p3]) ≠ 0) (hxl : Int.natAbs (swv [q0, q1, q2, q3]) < 2 ^ 255) (hyl_ : Int.natAbs (swv [p0, p1, p2, p3]) < 2 ^ 255) :
    Calls P 17 #[.agg #[.int .u64 (q0 : Int), .int .u64 (q1 : Int), .int .u64 (q2 : Int), .int .u64 (q3 : Int)], .agg #[.int .u64 (p0 : Int), .int .u64 (p1 : Int), .int .u64 (p2 : Int), .int .u64 (p3 : Int)]] w fun ex w' => ∃ c0 c1 c2 c3 d0 d1 d2 d3 : Nat, ex = .returned (.tuple #[.agg #[.int .u64 (c0 : Int), .int .u64 (c1 : Int), .int .u64 (c2 : Int), .int .u64 (c3 : Int)], .agg #[.int .u64 (d0 : Int), .int .u64 (d1 : Int), .int .u64 (d2 : Int), .int .u64 (d3 : Int)]]) ∧ KS w w' ∧ (c0 < 18446744073709551616 ∧ c1 < 18446744073709551616 ∧ c2 < 18446744073709551616 ∧ c3 < 18446744073709551616) ∧ (d0 < 18446744073709551616 ∧ d1 < 18446744073709551616 ∧ d2 < 18446744073709551616 ∧ d3 < 18446744073709551616) ∧ swv [c0, c1, c2, c3] = Int.tdiv (swv [q0, q1, q2, q3]) (swv [p0, p1, p2, p3]) ∧ swv [d0, d1, d2, d3] = Int.tmod (swv [q0, q1, q2, q3]) (swv [p0, p1, p2, p3]) := by
 refine dN (C := C) [.v (.agg #[.int .u64 (q0 : Int), .int .u64 (q1 : Int), .int .u64 (q2 : Int), .int .u64 (q3 : Int)]), .v (.agg #[.int .u64 (p0 : Int), .int .u64 (p1 : Int), .int .u64 (p2 : Int), .int .u64 (p3 : Int)])] 25 2 Tryz.func17 fun a_ hI hR hB => ?_
 replace hI : Is 25 [] e0 [(0, .v (.agg #[.int .u64 (q0 : Int), .int .u64 (q1 : Int), .int .u64 (q2 : Int), .int .u64 (q3 : Int)])), (1, .v (.agg #[.int .u64 (p0 : Int), .int .u64 (p1 : Int), .int .u64 (p2 : Int), .int .u64 (p3 : Int)]))] a_ := hI
 refine rK tab 0 [] [] [(5, .p 3 0), (4, .p 2 0), (3, .p 1 0), (2, .p 0 0)] [] [⟨3, 50, [.v (.int .u64 0), .v (.int .u64 0), .v (.int .u64 0), .v (.int .u64 0)]⟩, ⟨2, 50, [.v (.int .u64 0), .v (.int .u64 0), .v (.int .u64 0), .v (.int .u64 0)]⟩, ⟨1, 50, [vU p0, vU p1, vU p2, vU p3]⟩, ⟨0, 50, [vU q0, vU q1, vU q2, vU q3]⟩] [] [] [] 4 hR hI .nil fun e1 a1 w1 hag hR hI => ?_
 refine wp_seq (reg (is := [0, 1, 2]) (by kernel_rfl) ?_)
 refine pK tab [0] [1, 2] 4 [] [] [(9, .agg [vU q0, vU q1, vU q2, vU q3])] [5, 4, 3] [] [3, 2, 1] [] [] 4 hR hI .nil fun e2 a2 w2 hag hR hI => ?_
 refine cO [.agg [vU q0, vU q1, vU q2, vU q3]] hI Tryz.func38 ?_
 refine (bigInt256_spec (C := Now hB) hq).mono ?_
 rintro ex w3 ⟨bx, gx, mx, nx, zx, rfl, hk, hbx, hgx, hbgx, hwbx, hwgx, hzxl, hzxd, hmx, htx, hnx, hvx⟩
 replace hk := keepBut0 hk
 have hkF_ := hR.keepN hk all_no
 have hR_ : Rel (Grow _ _ w3) w3 e2 [⟨3, 50, [.v (.int .u64 0), .v (.int .u64 0), .v (.int .u64 0), .v (.int .u64 0)]⟩, ⟨2, 50, [.v (.int .u64 0), .v (.int .u64 0), .v (.int .u64 0), .v (.int .u64 0)]⟩, ⟨1, 50, [vU p0, vU p1, vU p2, vU p3]⟩] [] w3 := hR.turnedN hk all_no (all_cons ⟨⟨_, m0, rfl⟩, .inl ⟨m0, (fun hm_ => by cases hm_)⟩⟩ (all_cons ⟨⟨_, m1, rfl⟩, .inl ⟨m1, (fun hm_ => by cases hm_)⟩⟩ (all_cons ⟨⟨_, m2, rfl⟩, .inl ⟨m2, (fun hm_ => by cases hm_)⟩⟩ all_no))) all_no
 have hM_ : ∀ b_ ∈ ([bx, gx] : List Nat), _ ≤ b_ := (all_cons hbx (all_cons hgx all_no))
 replace hgl := hgl.nextN hB hR hkF_ hM_
 have hB_ := hB.nextN hR hkF_ hM_; have hR1_ := hR_.shrinkN (M := [bx, gx])
 obtain ⟨hfr1_, hfr2_⟩ := hR.fresh (H' := [⟨3, 50, [.v (.int .u64 0), .v (.int .u64 0), .v (.int .u64 0), .v (.int .u64 0)]⟩, ⟨2, 50, [.v (.int .u64 0), .v (.int .u64 0), .v (.int .u64 0), .v (.int .u64 0)]⟩, ⟨1, 50, [vU p0, vU p1, vU p2, vU p3]⟩]) (G' := []) (all_cons ⟨_, m0, rfl⟩ (all_cons ⟨_, m1, rfl⟩ (all_cons ⟨_, m2, rfl⟩ all_no))) all_no hbx
 obtain ⟨hag_, hR2_⟩ := hR1_.gotBlk (L := []) (k := 4) (b := bx) (t := 84) (cs := [vB nx, vS (some ⟨gx, 0, none⟩) mx 4]) (by kernel_rfl) (by kernel_rfl) hwbx (fun hf_ => hf_.2.1 m0) hfr1_ hfr2_
 replace hI := hI.agreeB (H := []) (G := []) (by kernel_rfl) hag_
 have hbk4 : (e2.addB 4 bx).b 4 = bx := addB_b _ _ _
 replace hR1_ := hR2_; clear hR2_
 obtain ⟨hfr1_, hfr2_⟩ := hR.fresh (H' := [⟨3, 50, [.v (.int .u64 0), .v (.int .u64 0), .v (.int .u64 0), .v (.int .u64 0)]⟩, ⟨2, 50, [.v (.int .u64 0), .v (.int .u64 0), .v (.int .u64 0), .v (.int .u64 0)]⟩, ⟨1, 50, [vU p0, vU p1, vU p2, vU p3]⟩]) (G' := []) (all_cons ⟨_, m0, rfl⟩ (all_cons ⟨_, m1, rfl⟩ (all_cons ⟨_, m2, rfl⟩ all_no))) all_no hgx
 replace hfr1_ : ∀ x ∈ ([⟨4, 84, [vB nx, vS (some ⟨gx, 0, none⟩) mx 4]⟩, ⟨3, 50, [.v (.int .u64 0), .v (.int .u64 0), .v (.int .u64 0), .v (.int .u64 0)]⟩, ⟨2, 50, [.v (.int .u64 0), .v (.int .u64 0), .v (.int .u64 0), .v (.int .u64 0)]⟩, ⟨1, 50, [vU p0, vU p1, vU p2, vU p3]⟩] : List Blk), ((e2.addB 4 bx)).b x.n ≠ gx := fun x hx_ => (List.mem_cons.1 hx_).elim (fun he_ => by rw [he_]; dsimp only; rw [addB_b]; exact hbgx) (fun hm_ => by rw [(hag_ x.n (by simp only [List.mem_cons, List.not_mem_nil, or_false] at hm_ <;> (first | (rcases hm_ with rfl | rfl | rfl | rfl) <;> (dsimp only; decide) | (rcases hm_ with rfl | rfl | rfl) <;> (dsimp only; decide) | (rcases hm_ with rfl | rfl) <;> (dsimp only; decide) | (subst hm_; dsimp only; decide)))).1]; exact hfr1_ x hm_)
 replace hfr2_ : ∀ y ∈ ([] : List Row), (((e2.addB 4 bx)).r y.n).ownBlock ≠ some gx := fun y hy_ => by rw [(hag_ y.n (by simp only [List.mem_cons, List.not_mem_nil, or_false] at hy_ <;> (first | (rcases hy_ with rfl | rfl | rfl | rfl) <;> (dsimp only; decide) | (rcases hy_ with rfl | rfl | rfl) <;> (dsimp only; decide) | (rcases hy_ with rfl | rfl) <;> (dsimp only; decide) | (subst hy_; dsimp only; decide)))).2]; exact hfr2_ y hy_
 obtain ⟨hag_, hR2_⟩ := hR1_.gotRow (L := []) (k := 5) (g := gx) (n := 4) (t := 102) (xs := (ints .u64 zx)) (by kernel_rfl) hwgx (by rw [ints_length]; exact hzxl) (by decide) (fun hf_ => hf_.2.1 m1) hfr1_ hfr2_
 replace hI := hI.agreeB (H := []) (G := []) (by kernel_rfl) hag_
 replace hbk4 := tb hag_ hbk4
 have hf5 : Full ((e2.addB 4 bx).addR 5 (.slice (some ⟨gx, 0, none⟩) 4 4)) 5 4 := full_addR _ _ _ _; have hnew5 : headOf (((e2.addB 4 bx).addR 5 (.slice (some ⟨gx, 0, none⟩) 4 4)).r 5) = gx := head_addR _ _ _ _
 replace hR := hR2_; clear hR2_ hR_ hR1_
 replace hB := hB_; clear hB_ hk hkF_ 
 replace hR := hR.reblk (b := ⟨4, 84, [vB nx, vS (some ⟨gx, 0, none⟩) mx 4]⟩) (by simp) [vB nx, .rsl 5 0 mx 4] [⟨3, 50, [.v (.int .u64 0), .v (.int .u64 0), .v (.int .u64 0), .v (.int .u64 0)]⟩, ⟨2, 50, [.v (.int .u64 0), .v (.int .u64 0), .v (.int .u64 0), .v (.int .u64 0)]⟩, ⟨1, 50, [vU p0, vU p1, vU p2, vU p3]⟩] (by simp) (by simp only [dens, den, hnew5])
 dsimp only at hR
 refine ⟨_, rfl, ?_⟩
 replace hI := hI.pt 10 (.p 4 0) [10, 9, 5, 4, 3]
 refine pZ tab [2] [] 6 [(6, .p 4 0)] [5, 4, 3] hR hI fun e4 a4 w4 hag hR hI => ?_
 have hA := hag
 refine ops_nil (then_n ?_)
 refine wp_seq (reg (is := [0, 1, 2, 3, 4, 5, 6, 7, 8, 9, 10, 11]) (by kernel_rfl) ?_)
 refine pK tab [0, 1, 2] [3, 4, 5, 6, 7, 8, 9, 10, 11] 6 [] [] [(14, .agg [vU p0, vU p1, vU p2, vU p3]), (13, .p 4 0), (12, .p 4 0)] [5, 4] [] [4, 3, 2] [] [5] 6 hR hI .nil fun e5 a5 w5 hag hR hI => ?_
 replace hA := hA.trans hag (by decide)
 refine cO [.agg [vU p0, vU p1, vU p2, vU p3]] hI Tryz.func38 ?_
 refine (bigInt256_spec (C := Now hB) hp).mono ?_
 rintro ex w6 ⟨b_y, gy, my, ny, zy, rfl, hk, hby, hgy, hbgy, hwby, hwgy, hzyl, hzyd, hmy, hty, hny, hvy⟩
 have hy := (((sl_lit (c := 4) hwgy hzyd (by omega) (by decide)).take (by omega : my ≤ zy.length)).cls2 rfl hgy hbgy).upN (C := Now hB)
 replace hk := keepBut0 hk
 have hkF_ := hR.keepN hk all_no
 replace hbk4 := tb hA hbk4
 replace hf5 := tf hA hf5
 replace hnew5 := tg hA hnew5
 have hR_ : Rel (Grow _ _ w6) w6 e5 [⟨4, 84, [vB nx, .rsl 5 0 mx 4]⟩, ⟨3, 50, [.v (.int .u64 0), .v (.int .u64 0), .v (.int .u64 0), .v (.int .u64 0)]⟩, ⟨2, 50, [.v (.int .u64 0), .v (.int .u64 0), .v (.int .u64 0), .v (.int .u64 0)]⟩] [⟨5, 102, 1, 4, (ints .u64 zx)⟩] w6 := hR.turnedN hk all_no (all_cons ⟨⟨_, m0, rfl⟩, .inl ⟨m0, (fun hm_ => by cases hm_)⟩⟩ (all_cons ⟨⟨_, m1, rfl⟩, .inl ⟨m1, (fun hm_ => by cases hm_)⟩⟩ (all_cons ⟨⟨_, m2, rfl⟩, .inl ⟨m2, (fun hm_ => by cases hm_)⟩⟩ all_no))) (all_cons ⟨⟨_, m0, rfl⟩, .inl ⟨m0, fun g_ he_ => own_ne hf5 (fun hm_ => by cases hm_) he_⟩⟩ all_no)
 have hM_ : ∀ b_ ∈ ([b_y] : List Nat), _ ≤ b_ := (all_cons hby all_no)
 replace hgl := hgl.nextN hB hR hkF_ hM_
 have hB_ := hB.nextN hR hkF_ hM_; have hR1_ := hR_.shrinkN (M := [b_y])
 obtain ⟨hfr1_, hfr2_⟩ := hR.fresh (H' := [⟨4, 84, [vB nx, .rsl 5 0 mx 4]⟩, ⟨3, 50, [.v (.int .u64 0), .v (.int .u64 0), .v (.int .u64 0), .v (.int .u64 0)]⟩, ⟨2, 50, [.v (.int .u64 0), .v (.int .u64 0), .v (.int .u64 0), .v (.int .u64 0)]⟩]) (G' := [⟨5, 102, 1, 4, (ints .u64 zx)⟩]) (all_cons ⟨_, m0, rfl⟩ (all_cons ⟨_, m1, rfl⟩ (all_cons ⟨_, m2, rfl⟩ all_no))) (all_cons ⟨_, m0, rfl⟩ all_no) hby
 obtain ⟨hag_, hR2_⟩ := hR1_.gotBlk (L := []) (k := 6) (b := b_y) (t := 84) (cs := [vB ny, vS (some ⟨gy, 0, none⟩) my 4]) (by kernel_rfl) (by kernel_rfl) hwby (fun hf_ => hf_.2.1 m0) hfr1_ hfr2_
 replace hI := hI.agreeB (H := []) (G := []) (by kernel_rfl) hag_
 replace hf5 := tf hag_ hf5
 replace hnew5 := tg hag_ hnew5
 replace hbk4 := tb hag_ hbk4
 have hbk6 : (e5.addB 6 b_y).b 6 = b_y := addB_b _ _ _
 replace hR1_ := hR2_; clear hR2_
 replace hR := hR1_; clear hR_ hR1_
 replace hB := hB_; clear hB_ hk hkF_ 
 refine ⟨_, rfl, ?_⟩
 replace hI := hI.pt 15 (.p 6 0) [15, 14, 13, 12, 5, 4]
 refine pK tab [4, 5] [6, 7, 8, 9, 10, 11] 7 [] [] [(17, .p 7 0)] [15, 13, 12, 5, 4] [⟨7, 84, [vB false, vS none 0 0]⟩] [6, 4, 3, 2] [] [5] 8 hR hI .nil fun e7 a7 w7 hag hR hI => ?_
 have hA := hag
 refine cO [.p 4 0, .p 4 0, .p 6 0, .p 7 0] hI Tryz.func36 ?_
 have hseg0 : seg zx 0 mx = zx.take mx := by simp [seg]
 have hyl : (zy.take my).length = my := by rw [List.length_take]; omega
 have hyp : 0 < nval (zy.take my) := by rw [hvy]; omega
 have hq4_ := hR.blk ⟨4, 84, [vB nx, .rsl 5 0 mx 4]⟩ m2
 have hq6_ := hR.blk ⟨6, 84, [vB ny, vS (some ⟨gy, 0, none⟩) my 4]⟩ m1
 have hq7_ := hR.blk ⟨7, 84, [vB false, vS none 0 0]⟩ m0
 replace hbk4 := tb hA hbk4
 replace hbk6 := tb hA hbk6
 replace hf5 := tf hA hf5
 replace hnew5 := tg hA hnew5
 have hq5_ := hR.rowCells (y := ⟨5, 102, 1, 4, (ints .u64 zx)⟩) m0 hf5 rfl
 refine (quoRem_spec (C := Now hB) (zs := zx) hq4_.1 hq6_.1 hq7_.1 hq5_.1 hzxl (by decide) (hR.hh _ m2 _ m1 (by dsimp only; decide)) (hR.hh _ m2 _ m0 (by dsimp only; decide)) (hR.hh _ m1 _ m0 (by dsimp only; decide)) (hR.hgN m2 m0 hf5) (hR.hgN m1 m0 hf5) (hR.hgN m0 m0 hf5) (fun h_ => hq4_.2 h_.2) (fun h_ => hq6_.2 h_.2) (fun h_ => hq7_.2 h_.2) (fun h_ => hq5_.2 h_.2) (hgl.now hB hR) (hy.now hB hR) hyl hzxd hmx hmx (by decide) (by omega) (by rw [hseg0]; exact htx) hty hyp (by omega)).mono ?_
 rintro ex w8 ⟨mq, zs2, rd, rl, rc, rs, nq, nr, rfl, hrl, hk, hw5, hz2l, hz2d, hmq, htq, hvq, hrs, htr, hvr, hw4, hw6, hw7, hnq, hnr⟩
 have hkF_ := hR.keepN hk (all_cons hq4_.2 (all_cons hq6_.2 (all_cons hq7_.2 (all_cons hq5_.2 all_no))))
 have hR_ : Rel (Grow _ _ w8) w8 e7 [⟨7, 84, [vB nr, vS rd rl rc]⟩, ⟨6, 84, [vB ny, vS (some ⟨gy, 0, none⟩) my 4]⟩, ⟨4, 84, [vB nq, .rsl 5 0 mq 4]⟩, ⟨3, 50, [.v (.int .u64 0), .v (.int .u64 0), .v (.int .u64 0), .v (.int .u64 0)]⟩, ⟨2, 50, [.v (.int .u64 0), .v (.int .u64 0), .v (.int .u64 0), .v (.int .u64 0)]⟩] [⟨5, 102, 1, 4, (ints .u64 zs2)⟩] w8 := hR.turnedN hk (all_cons hq4_.2 (all_cons hq6_.2 (all_cons hq7_.2 (all_cons hq5_.2 all_no)))) (all_cons ⟨⟨_, m0, rfl⟩, .inr hw7⟩ (all_cons ⟨⟨_, m1, rfl⟩, .inr hw6⟩ (all_cons ⟨⟨_, m2, rfl⟩, .inr hw4⟩ (all_cons ⟨⟨_, m3, rfl⟩, .inl ⟨m3, (notin2 (hR.hh _ m3 _ m2 (by dsimp only; decide)) (notin2 (hR.hh _ m3 _ m1 (by dsimp only; decide)) (notin2 (hR.hh _ m3 _ m0 (by dsimp only; decide)) (notin2 (hR.hgN m3 m0 hf5) (fun hm_ => by cases hm_)))))⟩⟩ (all_cons ⟨⟨_, m4, rfl⟩, .inl ⟨m4, (notin2 (hR.hh _ m4 _ m2 (by dsimp only; decide)) (notin2 (hR.hh _ m4 _ m1 (by dsimp only; decide)) (notin2 (hR.hh _ m4 _ m0 (by dsimp only; decide)) (notin2 (hR.hgN m4 m0 hf5) (fun hm_ => by cases hm_)))))⟩⟩ all_no))))) (all_cons ⟨⟨_, m0, rfl⟩, .inr (by have hl_ := hR.rowLen (y := ⟨5, 102, 1, 4, (ints .u64 zx)⟩) m0; dsimp only at hl_; rw [show e7.r 5 = _ from hf5]; exact ownsRow_fullN hw5 (by rw [ints_length]; exact hz2l) (by decide))⟩ all_no)
 replace hgl := hgl.nextF hB hR hkF_
 replace hy := hy.nextF hB hR hkF_
 have hB_ := hB.nextF hR hkF_
 replace hR := hR_; clear hR_
 replace hB := hB_; clear hB_ hk hkF_ hq4_ hw4 hq6_ hw6 hq7_ hw7 hq5_ hw5
 rw [hseg0, hvx, hvy] at hvq hvr
 refine ⟨_, rfl, ?_⟩
 replace hI := hI.pt 18 (.tup [.p 4 0, .p 7 0]) [18, 17, 15, 13, 12, 5, 4]
 refine pK tab [7, 8, 9, 10, 11] [] 8 [] [] [(8, .p 7 0), (7, .p 4 0)] [5, 4] [] [7, 4, 3, 2] [] [5] 8 hR hI .nil fun e9 a9 w9 hag hR hI => ?_
 have hA := hag
 refine ops_nil (then_n ?_)
 refine wp_seq (reg (is := [0, 1, 2, 3, 4, 5]) (by kernel_rfl) ?_)
 refine pZ tab [0] [1, 2, 3, 4, 5] 8 [(21, .p 4 0)] [8, 5, 4] hR hI fun e10 a10 w10 hag hR hI => ?_
 replace hA := hA.trans hag (by decide)
 refine cO [.p 4 0] hI Tryz.func39 ?_
 replace hbk4 := tb hA hbk4
 replace hbk6 := tb hA hbk6
 replace hf5 := tf hA hf5
 replace hnew5 := tg hA hnew5
 have hzk := hR.rowRead (y := ⟨5, 102, 1, 4, (ints .u64 zs2)⟩) m0 hf5 rfl rfl hz2d 0 mq (by omega) (c := 4) (by omega) (by decide)
 have hql_ : ((zs2.drop 0).take mq).length = mq := by rw [List.length_take, List.length_drop]; omega
 have hqx_ : Int.natAbs (swv [q0, q1, q2, q3]) / Int.natAbs (swv [p0, p1, p2, p3]) ≤ Int.natAbs (swv [q0, q1, q2, q3]) := Nat.div_le_self _ _
 have hq4_ := hR.blk ⟨4, 84, [vB nq, .rsl 5 0 mq 4]⟩ m1
 refine (fromBig256_spec (C := fun b_ => b_ = headOf (e10.r 5)) hq4_.1 (fun h_ => hR.hgN m1 m0 hf5 h_) hzk hql_ htq (by omega) (Nat.lt_of_le_of_lt (Nat.le_of_eq hvq) (by omega))).mono ?_
 rintro ex w11 ⟨c0, c1, c2, c3, rfl, hk, hw4, hcq, hqv⟩
 have hkF_ := hR.keepN hk (all_cons hq4_.2 all_no)
 have hR_ : Rel (Grow _ _ w11) w11 e10 [⟨7, 84, [vB nr, vS rd rl rc]⟩, ⟨4, 84, [vB nq, .rsl 5 0 mq 4]⟩, ⟨3, 50, [.v (.int .u64 0), .v (.int .u64 0), .v (.int .u64 0), .v (.int .u64 0)]⟩, ⟨2, 50, [.v (.int .u64 0), .v (.int .u64 0), .v (.int .u64 0), .v (.int .u64 0)]⟩] [⟨5, 102, 1, 4, (ints .u64 zs2)⟩] w11 := hR.turnedN hk (all_cons hq4_.2 all_no) (all_cons ⟨⟨_, m0, rfl⟩, .inl ⟨m0, (notin2 (hR.hh _ m0 _ m1 (by dsimp only; decide)) (fun hm_ => by cases hm_))⟩⟩ (all_cons ⟨⟨_, m1, rfl⟩, .inr hw4⟩ (all_cons ⟨⟨_, m2, rfl⟩, .inl ⟨m2, (notin2 (hR.hh _ m2 _ m1 (by dsimp only; decide)) (fun hm_ => by cases hm_))⟩⟩ (all_cons ⟨⟨_, m3, rfl⟩, .inl ⟨m3, (notin2 (hR.hh _ m3 _ m1 (by dsimp only; decide)) (fun hm_ => by cases hm_))⟩⟩ all_no)))) (all_cons ⟨⟨_, m0, rfl⟩, .inl ⟨m0, fun g_ he_ => own_ne hf5 (notin2 (hR.ghN m1 m0 hf5) (fun hm_ => by cases hm_)) he_⟩⟩ all_no)
 replace hgl := hgl.nextF hB hR hkF_
 replace hrs := hrs.nextF hB hR hkF_
 replace hy := hy.nextF hB hR hkF_
 have hB_ := hB.nextF hR hkF_
 replace hR := hR_; clear hR_
 replace hB := hB_; clear hB_ hk hkF_ hq4_ hw4
 rw [show ((zs2.drop 0).take mq) = seg zs2 0 mq from rfl] at hqv
 refine ⟨_, rfl, ?_⟩
 replace hI := hI.pt 22 (.v (.agg #[.int .u64 (c0 : Int), .int .u64 (c1 : Int), .int .u64 (c2 : Int), .int .u64 (c3 : Int)])) [22, 21, 8, 5, 4]
 refine pK tab [2] [3, 4, 5] 8 [] [] [(23, .p 7 0)] [22, 5, 4] [] [7, 3, 2] [] [] 8 hR hI .nil fun e12 a12 w12 hag hR hI => ?_
 have hA := hag
 refine cO [.p 7 0] hI Tryz.func39 ?_
 have hry_ : nval rs < Int.natAbs (swv [p0, p1, p2, p3]) := by rw [hvr]; exact Nat.mod_lt _ (by omega)
 have hrl4 : rs.length ≤ 4 := Nat.le_trans (trim_len htr (m := my) (by have h_ := nval_lt (xs := zy.take my) (fun d hd => hzyd d (List.mem_of_mem_take hd)); rw [hyl, hvy] at h_; omega)) hmy
 have hq7_ := hR.blk ⟨7, 84, [vB nr, vS rd rl rc]⟩ m0
 refine (fromBig256_spec (C := Now hB) hq7_.1 (fun h_ => hq7_.2 h_.2) (hrs.now hB hR) hrl htr (by omega) (by omega)).mono ?_
 rintro ex w13 ⟨d0, d1, d2, d3, rfl, hk, hw7, hdq, hrv⟩
 have hkF_ := hR.keepN hk (all_cons hq7_.2 all_no)
 have hR_ : Rel (Grow _ _ w13) w13 e12 [⟨7, 84, [vB nr, vS rd rl rc]⟩, ⟨3, 50, [.v (.int .u64 0), .v (.int .u64 0), .v (.int .u64 0), .v (.int .u64 0)]⟩, ⟨2, 50, [.v (.int .u64 0), .v (.int .u64 0), .v (.int .u64 0), .v (.int .u64 0)]⟩] [] w13 := hR.turnedN hk (all_cons hq7_.2 all_no) (all_cons ⟨⟨_, m0, rfl⟩, .inr hw7⟩ (all_cons ⟨⟨_, m1, rfl⟩, .inl ⟨m1, (notin2 (hR.hh _ m1 _ m0 (by dsimp only; decide)) (fun hm_ => by cases hm_))⟩⟩ (all_cons ⟨⟨_, m2, rfl⟩, .inl ⟨m2, (notin2 (hR.hh _ m2 _ m0 (by dsimp only; decide)) (fun hm_ => by cases hm_))⟩⟩ all_no))) all_no
 replace hgl := hgl.nextF hB hR hkF_
 replace hrs := hrs.nextF hB hR hkF_
 replace hy := hy.nextF hB hR hkF_
 have hB_ := hB.nextF hR hkF_
 replace hR := hR_; clear hR_
 replace hB := hB_; clear hB_ hk hkF_ hq7_ hw7
 refine ⟨_, rfl, ?_⟩
 replace hI := hI.pt 24 (.v (.agg #[.int .u64 (d0 : Int), .int .u64 (d1 : Int), .int .u64 (d2 : Int), .int .u64 (d3 : Int)])) [24, 23, 22, 5, 4]
 refine pK tab [4, 5] [] 8 [] [] [] [5, 4] [⟨3, 50, [vU d0, vU d1, vU d2, vU d3]⟩, ⟨2, 50, [vU c0, vU c1, vU c2, vU c3]⟩] [] [] [] 8 hR hI .nil fun e14 a14 w14 hag hR hI => ?_
 replace hA := hA.trans hag (by decide)
 refine ops_nil (then_n ?_)
 refine wp_ret (oN tab [.agg [vU c0, vU c1, vU c2, vU c3], .agg [vU d0, vU d1, vU d2, vU d3]] hR hI ?_)
 exact ⟨c0, c1, c2, c3, d0, d1, d2, d3, rfl, hB.fin hR, hcq, hdq, by rw [hqv, hnq, hnx, hny]; exact tdiv_of hvq (fun h_ => by have h2_ := of_decide_eq_false h_; have h3_ : mq = 0 := (by omega); exact (congrArg nval (by rw [h3_, seg_zero] : seg zs2 0 mq = [])).trans nval_nil), by rw [hrv, hnr, hnx]; exact tmod_of hvr (fun h_ => by have h2_ := of_decide_eq_false h_; exact (congrArg nval (List.eq_nil_of_length_eq_zero (by omega : rs.length = 0))).trans nval_nil)⟩

end Go.Proofs.YtmendapdibnbdaaGreatDoor.Stride
