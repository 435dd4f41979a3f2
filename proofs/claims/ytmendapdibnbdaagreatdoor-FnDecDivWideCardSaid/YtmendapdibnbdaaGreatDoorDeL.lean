/- Walks of the program's functions, printed by a program of mine (walk.py) over the words of Stride: each function's contract. -/
import Derived.Test.YtmendapdibnbdaaGreatDoorDeK
import Derived.LaidEqlPtr
namespace Go.Proofs.YtmendapdibnbdaaGreatDoor.Stride
open Go Go.RowKit Go.Proofs.YtmendapdibnbdaaGreatDoor.Mag
set_option linter.unusedVariables false
set_option linter.unusedSimpArgs false
set_option maxHeartbeats 4000000
set_option maxRecDepth 100000
theorem divL_spec {C : Nat → Prop} {w : World} {g N c nu vc lv : Nat} {zs vs : List Nat} {ad : Option Addr} (hvl : vs.length = lv) (hz : w.heap[g]? = some (.cells (ints .u64 zs).toArray 102 (0, 0))) (hzl : zs.length = N) (hzm : N ≤ 9223372036854775807) (hCg : ¬ C g) (hgl : Sl .i64 18446744073709551616 C w (some ⟨0, 0, none⟩) 1 [40]) (hx : Sl .u64 18446744073709551616 C w ad vc vs) (hzd : Ndig zs) (hfit : nu ≤ N) (hc : nu ≤ c) (hcm : c ≤ 9223372036854775807) (hnu : nu ≤ 60000) (htu : Ntrim (seg zs 0 nu)) (htv : Ntrim vs) (hV0 : 0 < nval vs) (hn3 : lv ≤ 4) :
  Calls P 54 #[.slice (some ⟨g, 0, none⟩) nu c, .pointer none, .slice none 0 0, .slice (some ⟨g, 0, none⟩) nu c, .slice ad lv vc] w fun ex w' => ∃ mq zs2 ad2 l2 c3 rs, ex = .returned (.tuple #[.slice (some ⟨g, 0, none⟩) mq c, .slice ad2 l2 c3]) ∧ rs.length = l2 ∧ Keep (ButN [g] w) w w' ∧ w'.heap[g]? = some (.cells (ints .u64 zs2).toArray 102 (0, 0)) ∧ zs2.length = N ∧ Ndig zs2 ∧ mq ≤ nu ∧ Ntrim (seg zs2 0 mq) ∧ nval (seg zs2 0 mq) = nval (seg zs 0 nu) / nval vs ∧ Sl .u64 18446744073709551616 (Grow C w w') w' ad2 c3 rs ∧ Ntrim rs ∧ nval rs = nval (seg zs 0 nu) % nval vs := by
 subst hvl
 exact div_spec hz hzl hzm hCg hgl hx hzd hfit hc hcm hnu htu htv hV0 hn3

theorem quoRem_spec {C : Nat → Prop} {w : World} {bx by_ br g N c nu vc lv : Nat} {zs vs : List Nat} {adv : Option Addr} {nx ny : Bool} (hbx : w.heap[bx]? = some (.cells #[.bool nx, .slice (some ⟨g, 0, none⟩) nu c] 84)) (hby : w.heap[by_]? = some (.cells #[.bool ny, .slice adv lv vc] 84)) (hbr : w.heap[br]? = some (.cells #[.bool false, .slice none 0 0] 84)) (hz : w.heap[g]? = some (.cells (ints .u64 zs).toArray 102)) (hzl : zs.length = N) (hzm : N ≤ 9223372036854775807) (hxy : bx ≠ by_) (hxr : bx ≠ br) (hyr : by_ ≠ br) (hxg : bx ≠ g) (hyg : by_ ≠ g) (hrg : br ≠ g) (hCx : ¬ C bx) (hCy : ¬ C by_) (hCr : ¬ C br) (hCg : ¬ C g) (hgl : Sl .i64 18446744073709551616 C w (some ⟨0, 0, none⟩) 1 [40]) (hx : Sl .u64 18446744073709551616 C w adv vc vs) (hvl : vs.length = lv) (hzd : Ndig zs) (hfit : nu ≤ N) (hc : nu ≤ c) (hcm : c ≤ 9223372036854775807) (hnu : nu ≤ 60000) (htu : Ntrim (seg zs 0 nu)) (htv : Ntrim vs) (hV0 : 0 < nval vs) (hn3 : lv ≤ 4) :
    Calls P 36 #[.pointer (some ⟨bx, 0, none⟩), .pointer (some ⟨bx, 0, none⟩), .pointer (some ⟨by_, 0, none⟩), .pointer (some ⟨br, 0, none⟩)] w fun ex w' => ∃ mq zs2 ad2 l2 c3 rs nq nr, ex = .returned (.tuple #[.pointer (some ⟨bx, 0, none⟩), .pointer (some ⟨br, 0, none⟩)]) ∧ rs.length = l2 ∧ Keep (ButN [bx, by_, br, g] w) w w' ∧ w'.heap[g]? = some (.cells (ints .u64 zs2).toArray 102) ∧ zs2.length = N ∧ Ndig zs2 ∧ mq ≤ nu ∧ Ntrim (seg zs2 0 mq) ∧ nval (seg zs2 0 mq) = nval (seg zs 0 nu) / nval vs ∧ Sl .u64 18446744073709551616 (Grow C w w') w' ad2 c3 rs ∧ Ntrim rs ∧ nval rs = nval (seg zs 0 nu) % nval vs ∧ w'.heap[bx]? = some (.cells #[.bool nq, .slice (some ⟨g, 0, none⟩) mq c] 84) ∧ w'.heap[by_]? = some (.cells #[.bool ny, .slice adv lv vc] 84) ∧ w'.heap[br]? = some (.cells #[.bool nr, .slice ad2 l2 c3] 84) ∧ nq = (decide (0 < mq) && (nx != ny)) ∧ nr = (decide (0 < l2) && nx) := by
 refine doorN (e := ((((e0.addB 0 bx).addB 1 by_).addB 2 br).addR 3 (.slice (some ⟨g, 0, none⟩) N N))) (vs := [.p 0 0, .p 0 0, .p 1 0, .p 2 0]) (n := 73) (m := 4) Tryz.func36 rfl rfl rfl (by decide) fun a_ hI => ?_
 replace hI : Is 73 [] ((((e0.addB 0 bx).addB 1 by_).addB 2 br).addR 3 (.slice (some ⟨g, 0, none⟩) N N)) [(0, .p 0 0), (1, .p 0 0), (2, .p 1 0), (3, .p 2 0)] a_ := hI
 have hbk0 : ((((e0.addB 0 bx).addB 1 by_).addB 2 br).addR 3 (.slice (some ⟨g, 0, none⟩) N N)).b 0 = bx := rfl
 have hbk1 : ((((e0.addB 0 bx).addB 1 by_).addB 2 br).addR 3 (.slice (some ⟨g, 0, none⟩) N N)).b 1 = by_ := rfl
 have hbk2 : ((((e0.addB 0 bx).addB 1 by_).addB 2 br).addR 3 (.slice (some ⟨g, 0, none⟩) N N)).b 2 = br := rfl
 have hf3 : Full ((((e0.addB 0 bx).addB 1 by_).addB 2 br).addR 3 (.slice (some ⟨g, 0, none⟩) N N)) 3 N := rfl; have hg3 : headOf (((((e0.addB 0 bx).addB 1 by_).addB 2 br).addR 3 (.slice (some ⟨g, 0, none⟩) N N)).r 3) = g := rfl
 have hR : Rel (ButN [bx, by_, br, g] w) w ((((e0.addB 0 bx).addB 1 by_).addB 2 br).addR 3 (.slice (some ⟨g, 0, none⟩) N N)) [⟨0, 84, [vB nx, .rsl 3 0 nu c]⟩, ⟨1, 84, [vB ny, vS adv lv vc]⟩, ⟨2, 84, [vB false, vS none 0 0]⟩] [⟨3, 102, 1, N, (ints .u64 zs)⟩] w := Rel.startN (fun k_ h_ => h_.1) (all_cons ⟨hbx, (fun hm_ => hm_.2 m0)⟩ (all_cons ⟨hby, (fun hm_ => hm_.2 m1)⟩ (all_cons ⟨hbr, (fun hm_ => hm_.2 m2)⟩ all_no))) (all_cons ⟨ownsRow_fullN hz (by first | exact hzl | (rw [ints_length]; exact hzl)) hzm, fun g_ he_ => by cases he_; exact (fun hm_ => hm_.2 m3)⟩ all_no) (all_cons (all_cons (fun hn_ => absurd rfl hn_) (all_cons (fun _ => hxy) (all_cons (fun _ => hxr) all_no))) (all_cons (all_cons (fun _ => (Ne.symm hxy)) (all_cons (fun hn_ => absurd rfl hn_) (all_cons (fun _ => hyr) all_no))) (all_cons (all_cons (fun _ => (Ne.symm hxr)) (all_cons (fun _ => (Ne.symm hyr)) (all_cons (fun hn_ => absurd rfl hn_) all_no))) all_no))) (all_cons (all_cons (fun he_ => hxg (Option.some.inj he_).symm) all_no) (all_cons (all_cons (fun he_ => hyg (Option.some.inj he_).symm) all_no) (all_cons (all_cons (fun he_ => hrg (Option.some.inj he_).symm) all_no) all_no))) (all_cons (all_cons (fun hn_ => absurd rfl hn_) all_no) all_no)
 have hB : BaseD (ButN [bx, by_, br, g] w) C w C (ButN [bx, by_, br, g] w) w := BaseD.start (fun k_ hC_ hlt_ => ⟨hlt_, notin2 (fun he_ => hCx (he_ ▸ hC_)) (notin2 (fun he_ => hCy (he_ ▸ hC_)) (notin2 (fun he_ => hCr (he_ ▸ hC_)) (notin2 (fun he_ => hCg (he_ ▸ hC_)) (fun hm_ => by cases hm_))))⟩)
 refine rZ tab 4 [] [0, 1, 2, 3] hR hI fun e1 a1 w1 hag hR hI => ?_
 have hA := hag
 refine wp_seq ?_
 refine joinM (γ := Nat × List Nat × Option Addr × Nat × Nat × List Nat) hB hI (fun (mq, zs2, rd, rl, rc, rs) => (⟨[(0, .p 0 0), (1, .p 0 0), (2, .p 1 0), (3, .p 2 0)], [⟨0, 84, [vB nx, .rsl 3 0 mq c]⟩, ⟨1, 84, [vB ny, vS adv lv vc]⟩, ⟨2, 84, [vB false, vS rd rl rc]⟩], [⟨3, 102, 1, N, (ints .u64 zs2)⟩], 4⟩ : Sy)) (fun (mq, zs2, rd, rl, rc, rs) e C F wb => ((Full e 3 N) ∧ (headOf (e.r 3) = g) ∧ (e.b 0 = bx) ∧ (e.b 1 = by_) ∧ (e.b 2 = br)) ∧ (Sl .u64 18446744073709551616 C wb rd rc rs ∧ rs.length = rl ∧ zs2.length = N ∧ Ndig zs2 ∧ mq ≤ nu ∧ Ntrim (seg zs2 0 mq) ∧ nval (seg zs2 0 mq) = nval (seg zs 0 nu) / nval vs ∧ Ntrim rs ∧ nval rs = nval (seg zs 0 nu) % nval vs)) ?_ ?_
 ·
  refine regL 24 (hR.sel [0, 1, 2] [] rfl rfl) (by kernel_rfl) (fun hS => ?_)
  replace hR := hR.drew; have hF := hR.fore
  refine lK tab [] [] [0, 2, 3, 4, 5, 6, 7, 8, 9, 10, 11, 12, 13, 14, 15, 16, 17] 11 [(28, vS adv lv vc), (24, .rsl 3 0 nu c), (20, vS none 0 0), (16, .rsl 3 0 nu c), (11, .p 0 0)] [0, 1, 2, 3] hS hI .nil fun a2 hI => ?_
  refine twoL (i := 1) (j := 18) (f' := 10) (by kernel_rfl) (by rfl) ?_ ?_
  ·
   refine quietL tab (hh := .no) (x := .p 2 0) hR hI rfl rfl rfl (by kernel_rfl) .nil (fun a3 hI => ?_)
   refine ⟨hS, ?_⟩
   replace hI := hI.sl [12, 28, 24, 20, 16, 11, 0, 1, 2, 3] rfl
   refine oneL (i := 18) (f' := 9) (by kernel_rfl) (by rfl) ?_
   refine cH [.rsl 3 0 nu c, .v (.pointer none), vS none 0 0, .rsl 3 0 nu c, vS adv lv vc] hI Tryz.func54 ?_
   replace hbk0 := tb hA hbk0
   replace hbk1 := tb hA hbk1
   replace hbk2 := tb hA hbk2
   replace hf3 := tf hA hf3
   replace hg3 := tg hA hg3
   have hq3_ := hR.rowCells (y := ⟨3, 102, 1, N, (ints .u64 zs)⟩) m0 hf3 rfl
   refine (divL_spec (C := Now hB) hvl hq3_.1 hzl hzm (fun h_ => hq3_.2 h_.2) (hgl.now hB hR) (hx.now hB hR) hzd hfit hc hcm hnu htu htv hV0 hn3).mono ?_
   rintro ex w4 ⟨mq, zs2, rd, rl, rc, rs, rfl, hrl, hk, hw3, hz2l, hz2d, hmq, htq, hvq, hrs, htr, hvr⟩
   have hkF_ := hR.keepN hk (all_cons hq3_.2 all_no)
   have hS_ := hS.heldN hk (all_cons (fun hf_ => hq3_.2 (hF.sub _ hf_)) all_no) (all_cons (notin2 (hR.hgN m0 m0 hf3) (fun hm_ => by cases hm_)) (all_cons (notin2 (hR.hgN m1 m0 hf3) (fun hm_ => by cases hm_)) (all_cons (notin2 (hR.hgN m2 m0 hf3) (fun hm_ => by cases hm_)) all_no))) all_no
   replace hF := hF.growB hR hkF_; replace hS := hS_; clear hS_
   have hR_ : Rel (Grow _ _ w4) w4 e1 [⟨0, 84, [vB nx, .rsl 3 0 nu c]⟩, ⟨1, 84, [vB ny, vS adv lv vc]⟩, ⟨2, 84, [vB false, vS none 0 0]⟩] [⟨3, 102, 1, N, (ints .u64 zs2)⟩] w4 := hR.turnedN hk (all_cons hq3_.2 all_no) (all_cons ⟨⟨_, m0, rfl⟩, .inl ⟨m0, (notin2 (hR.hgN m0 m0 hf3) (fun hm_ => by cases hm_))⟩⟩ (all_cons ⟨⟨_, m1, rfl⟩, .inl ⟨m1, (notin2 (hR.hgN m1 m0 hf3) (fun hm_ => by cases hm_))⟩⟩ (all_cons ⟨⟨_, m2, rfl⟩, .inl ⟨m2, (notin2 (hR.hgN m2 m0 hf3) (fun hm_ => by cases hm_))⟩⟩ all_no))) (all_cons ⟨⟨_, m0, rfl⟩, .inr (by have hl_ := hR.rowLen (y := ⟨3, 102, 1, N, (ints .u64 zs)⟩) m0; dsimp only at hl_; rw [show e1.r 3 = _ from hf3]; exact ownsRow_fullN hw3 (by rw [ints_length]; exact hz2l) (hzm))⟩ all_no)
   replace hgl := hgl.nextF hB hR hkF_
   replace hx := hx.nextF hB hR hkF_
   have hB_ := hB.nextF hR hkF_
   replace hR := hR_; clear hR_
   replace hB := hB_; clear hB_ hk hkF_ hq3_ hw3
   refine ⟨_, rfl, hS, ?_⟩
   replace hI := hI.pt 29 (.tup [.rsl 3 0 mq c, vS rd rl rc]) [29, 12, 28, 24, 20, 16, 11, 0, 1, 2, 3]
   refine cK tab [] [] [19, 20, 22, 23] 5 [(33, .p 0 1), (30, .rsl 3 0 mq c), (10, .tup [.rsl 3 0 mq c, vS rd rl rc])] [12, 0, 1, 2, 3] hS hI .nil fun a5 hI => ?_
   refine lastTwoL (i := 21) (j := 24) (f' := 4) (by kernel_rfl) (by rfl) (by kernel_rfl) ?_ ?_
   ·
    refine quietL tab (hh := .no) (x := vS rd rl rc) hR hI rfl rfl rfl (by kernel_rfl) .nil (fun a6 hI => ?_)
    refine ⟨hS, ?_⟩
    replace hI := hI.sl [31, 33, 30, 10, 12, 0, 1, 2, 3] rfl
    refine endL (i := 24) (f' := 3) (by kernel_rfl) (by rfl) (by kernel_rfl) ?_
    refine eK tab 4 .no (.v (undef)) [⟨0, 84, [vB nx, .rsl 3 0 mq c]⟩] [1, 2] [] [3] 4 true hR hI .nil fun e7 a7 w7 hag hR2 hI => ?_
    have hA := hag
    replace hR := hR2; clear hR2
    replace hI := hI.sl [31, 33, 30, 10, 12, 0, 1, 2, 3] rfl
    refine endL (i := 25) (f' := 2) (by kernel_rfl) (by rfl) (by kernel_rfl) ?_
    refine quietL tab (hh := .no) (x := .p 2 0) hR hI rfl rfl rfl (by kernel_rfl) .nil (fun a8 hI => ?_)
    replace hI := hI.sl [34, 31, 33, 30, 10, 12, 0, 1, 2, 3] rfl
    refine endL (i := 26) (f' := 1) (by kernel_rfl) (by rfl) (by kernel_rfl) ?_
    refine quietL tab (hh := .no) (x := .p 2 1) hR hI rfl rfl rfl (by kernel_rfl) .nil (fun a9 hI => ?_)
    replace hI := hI.sl [35, 34, 31, 33, 30, 10, 12, 0, 1, 2, 3] rfl
    refine endL (i := 27) (f' := 0) (by kernel_rfl) (by rfl) (by kernel_rfl) ?_
    refine eK tab 4 .no (.v (undef)) [⟨2, 84, [vB false, vS rd rl rc]⟩] [0, 1] [] [3] 4 true hR hI .nil fun e10 a10 w10 hag hR2 hI => ?_
    replace hA := hA.trans hag (by decide)
    replace hR := hR2; clear hR2
    replace hI := hI.sl [35, 34, 31, 33, 30, 10, 12, 0, 1, 2, 3] rfl
    refine doneL (by kernel_rfl) ?_
    replace hI := hI.sl [0, 1, 2, 3] rfl; replace hR := hR.sel [2, 0, 1] [3] rfl rfl
    refine then_n ?_
    replace hbk0 := tb hA hbk0
    replace hbk1 := tb hA hbk1
    replace hbk2 := tb hA hbk2
    replace hf3 := tf hA hf3
    replace hg3 := tg hA hg3
    exact ⟨(mq, zs2, rd, rl, rc, rs), _, _, _, _, hB, ⟨⟨hf3, hg3, hbk0, hbk1, hbk2⟩, ⟨hrs, hrl, hz2l, hz2d, hmq, htq, hvq, htr, hvr⟩⟩, hR.sel [0, 1, 2] [3] (by kernel_rfl) (by kernel_rfl), hI.sel [0, 1, 2, 3] (by kernel_rfl)⟩
   ·
    refine eK tab 4 .no (.v (undef)) [⟨0, 84, [vB nx, .rsl 3 0 mq c]⟩] [1, 2] [] [3] 4 true hR hI .nil fun e11 a11 w11 hag hR2 hI => ?_
    have hA := hag
    replace hR := hR2; clear hR2
    replace hI := hI.sl [33, 30, 10, 12, 0, 1, 2, 3] rfl
    refine endL (i := 21) (f' := 3) (by kernel_rfl) (by rfl) (by kernel_rfl) ?_
    refine quietL tab (hh := .no) (x := vS rd rl rc) hR hI rfl rfl rfl (by kernel_rfl) .nil (fun a12 hI => ?_)
    replace hI := hI.sl [31, 33, 30, 10, 12, 0, 1, 2, 3] rfl
    refine endL (i := 25) (f' := 2) (by kernel_rfl) (by rfl) (by kernel_rfl) ?_
    refine quietL tab (hh := .no) (x := .p 2 0) hR hI rfl rfl rfl (by kernel_rfl) .nil (fun a13 hI => ?_)
    replace hI := hI.sl [34, 31, 33, 30, 10, 12, 0, 1, 2, 3] rfl
    refine endL (i := 26) (f' := 1) (by kernel_rfl) (by rfl) (by kernel_rfl) ?_
    refine quietL tab (hh := .no) (x := .p 2 1) hR hI rfl rfl rfl (by kernel_rfl) .nil (fun a14 hI => ?_)
    replace hI := hI.sl [35, 34, 31, 33, 30, 10, 12, 0, 1, 2, 3] rfl
    refine endL (i := 27) (f' := 0) (by kernel_rfl) (by rfl) (by kernel_rfl) ?_
    refine eK tab 4 .no (.v (undef)) [⟨2, 84, [vB false, vS rd rl rc]⟩] [0, 1] [] [3] 4 true hR hI .nil fun e15 a15 w15 hag hR2 hI => ?_
    replace hA := hA.trans hag (by decide)
    replace hR := hR2; clear hR2
    replace hI := hI.sl [35, 34, 31, 33, 30, 10, 12, 0, 1, 2, 3] rfl
    refine doneL (by kernel_rfl) ?_
    replace hI := hI.sl [0, 1, 2, 3] rfl; replace hR := hR.sel [2, 0, 1] [3] rfl rfl
    refine then_n ?_
    replace hbk0 := tb hA hbk0
    replace hbk1 := tb hA hbk1
    replace hbk2 := tb hA hbk2
    replace hf3 := tf hA hf3
    replace hg3 := tg hA hg3
    exact ⟨(mq, zs2, rd, rl, rc, rs), _, _, _, _, hB, ⟨⟨hf3, hg3, hbk0, hbk1, hbk2⟩, ⟨hrs, hrl, hz2l, hz2d, hmq, htq, hvq, htr, hvr⟩⟩, hR.sel [0, 1, 2] [3] (by kernel_rfl) (by kernel_rfl), hI.sel [0, 1, 2, 3] (by kernel_rfl)⟩
  ·
   refine cH [.rsl 3 0 nu c, .v (.pointer none), vS none 0 0, .rsl 3 0 nu c, vS adv lv vc] hI Tryz.func54 ?_
   replace hbk0 := tb hA hbk0
   replace hbk1 := tb hA hbk1
   replace hbk2 := tb hA hbk2
   replace hf3 := tf hA hf3
   replace hg3 := tg hA hg3
   have hq3_ := hR.rowCells (y := ⟨3, 102, 1, N, (ints .u64 zs)⟩) m0 hf3 rfl
   refine (divL_spec (C := Now hB) hvl hq3_.1 hzl hzm (fun h_ => hq3_.2 h_.2) (hgl.now hB hR) (hx.now hB hR) hzd hfit hc hcm hnu htu htv hV0 hn3).mono ?_
   rintro ex w16 ⟨mq, zs2, rd, rl, rc, rs, rfl, hrl, hk, hw3, hz2l, hz2d, hmq, htq, hvq, hrs, htr, hvr⟩
   have hkF_ := hR.keepN hk (all_cons hq3_.2 all_no)
   have hS_ := hS.heldN hk (all_cons (fun hf_ => hq3_.2 (hF.sub _ hf_)) all_no) (all_cons (notin2 (hR.hgN m0 m0 hf3) (fun hm_ => by cases hm_)) (all_cons (notin2 (hR.hgN m1 m0 hf3) (fun hm_ => by cases hm_)) (all_cons (notin2 (hR.hgN m2 m0 hf3) (fun hm_ => by cases hm_)) all_no))) all_no
   replace hF := hF.growB hR hkF_; replace hS := hS_; clear hS_
   have hR_ : Rel (Grow _ _ w16) w16 e1 [⟨0, 84, [vB nx, .rsl 3 0 nu c]⟩, ⟨1, 84, [vB ny, vS adv lv vc]⟩, ⟨2, 84, [vB false, vS none 0 0]⟩] [⟨3, 102, 1, N, (ints .u64 zs2)⟩] w16 := hR.turnedN hk (all_cons hq3_.2 all_no) (all_cons ⟨⟨_, m0, rfl⟩, .inl ⟨m0, (notin2 (hR.hgN m0 m0 hf3) (fun hm_ => by cases hm_))⟩⟩ (all_cons ⟨⟨_, m1, rfl⟩, .inl ⟨m1, (notin2 (hR.hgN m1 m0 hf3) (fun hm_ => by cases hm_))⟩⟩ (all_cons ⟨⟨_, m2, rfl⟩, .inl ⟨m2, (notin2 (hR.hgN m2 m0 hf3) (fun hm_ => by cases hm_))⟩⟩ all_no))) (all_cons ⟨⟨_, m0, rfl⟩, .inr (by have hl_ := hR.rowLen (y := ⟨3, 102, 1, N, (ints .u64 zs)⟩) m0; dsimp only at hl_; rw [show e1.r 3 = _ from hf3]; exact ownsRow_fullN hw3 (by rw [ints_length]; exact hz2l) (hzm))⟩ all_no)
   replace hgl := hgl.nextF hB hR hkF_
   replace hx := hx.nextF hB hR hkF_
   have hB_ := hB.nextF hR hkF_
   replace hR := hR_; clear hR_
   replace hB := hB_; clear hB_ hk hkF_ hq3_ hw3
   refine ⟨_, rfl, hS, ?_⟩
   replace hI := hI.pt 29 (.tup [.rsl 3 0 mq c, vS rd rl rc]) [29, 28, 24, 20, 16, 11, 0, 1, 2, 3]
   refine cK tab [] [] [19, 20, 22, 23] 6 [(33, .p 0 1), (30, .rsl 3 0 mq c), (10, .tup [.rsl 3 0 mq c, vS rd rl rc])] [0, 1, 2, 3] hS hI .nil fun a17 hI => ?_
   refine lastThreeL (i := 1) (j := 21) (k := 24) (f' := 5) (by kernel_rfl) (by rfl) (by kernel_rfl) ?_ ?_ ?_
   ·
    refine quietL tab (hh := .no) (x := .p 2 0) hR hI rfl rfl rfl (by kernel_rfl) .nil (fun a18 hI => ?_)
    refine ⟨hS, ?_⟩
    replace hI := hI.sl [12, 33, 30, 10, 0, 1, 2, 3] rfl
    refine lastTwoL (i := 21) (j := 24) (f' := 4) (by kernel_rfl) (by rfl) (by kernel_rfl) ?_ ?_
    ·
     refine quietL tab (hh := .no) (x := vS rd rl rc) hR hI rfl rfl rfl (by kernel_rfl) .nil (fun a19 hI => ?_)
     refine ⟨hS, ?_⟩
     replace hI := hI.sl [31, 12, 33, 30, 10, 0, 1, 2, 3] rfl
     refine endL (i := 24) (f' := 3) (by kernel_rfl) (by rfl) (by kernel_rfl) ?_
     refine eK tab 4 .no (.v (undef)) [⟨0, 84, [vB nx, .rsl 3 0 mq c]⟩] [1, 2] [] [3] 4 true hR hI .nil fun e20 a20 w20 hag hR2 hI => ?_
     have hA := hag
     replace hR := hR2; clear hR2
     replace hI := hI.sl [31, 12, 33, 30, 10, 0, 1, 2, 3] rfl
     refine endL (i := 25) (f' := 2) (by kernel_rfl) (by rfl) (by kernel_rfl) ?_
     refine quietL tab (hh := .no) (x := .p 2 0) hR hI rfl rfl rfl (by kernel_rfl) .nil (fun a21 hI => ?_)
     replace hI := hI.sl [34, 31, 12, 33, 30, 10, 0, 1, 2, 3] rfl
     refine endL (i := 26) (f' := 1) (by kernel_rfl) (by rfl) (by kernel_rfl) ?_
     refine quietL tab (hh := .no) (x := .p 2 1) hR hI rfl rfl rfl (by kernel_rfl) .nil (fun a22 hI => ?_)
     replace hI := hI.sl [35, 34, 31, 12, 33, 30, 10, 0, 1, 2, 3] rfl
     refine endL (i := 27) (f' := 0) (by kernel_rfl) (by rfl) (by kernel_rfl) ?_
     refine eK tab 4 .no (.v (undef)) [⟨2, 84, [vB false, vS rd rl rc]⟩] [0, 1] [] [3] 4 true hR hI .nil fun e23 a23 w23 hag hR2 hI => ?_
     replace hA := hA.trans hag (by decide)
     replace hR := hR2; clear hR2
     replace hI := hI.sl [35, 34, 31, 12, 33, 30, 10, 0, 1, 2, 3] rfl
     refine doneL (by kernel_rfl) ?_
     replace hI := hI.sl [0, 1, 2, 3] rfl; replace hR := hR.sel [2, 0, 1] [3] rfl rfl
     refine then_n ?_
     replace hbk0 := tb hA hbk0
     replace hbk1 := tb hA hbk1
     replace hbk2 := tb hA hbk2
     replace hf3 := tf hA hf3
     replace hg3 := tg hA hg3
     exact ⟨(mq, zs2, rd, rl, rc, rs), _, _, _, _, hB, ⟨⟨hf3, hg3, hbk0, hbk1, hbk2⟩, ⟨hrs, hrl, hz2l, hz2d, hmq, htq, hvq, htr, hvr⟩⟩, hR.sel [0, 1, 2] [3] (by kernel_rfl) (by kernel_rfl), hI.sel [0, 1, 2, 3] (by kernel_rfl)⟩
    ·
     refine eK tab 4 .no (.v (undef)) [⟨0, 84, [vB nx, .rsl 3 0 mq c]⟩] [1, 2] [] [3] 4 true hR hI .nil fun e24 a24 w24 hag hR2 hI => ?_
     have hA := hag
     replace hR := hR2; clear hR2
     replace hI := hI.sl [12, 33, 30, 10, 0, 1, 2, 3] rfl
     refine endL (i := 21) (f' := 3) (by kernel_rfl) (by rfl) (by kernel_rfl) ?_
     refine quietL tab (hh := .no) (x := vS rd rl rc) hR hI rfl rfl rfl (by kernel_rfl) .nil (fun a25 hI => ?_)
     replace hI := hI.sl [31, 12, 33, 30, 10, 0, 1, 2, 3] rfl
     refine endL (i := 25) (f' := 2) (by kernel_rfl) (by rfl) (by kernel_rfl) ?_
     refine quietL tab (hh := .no) (x := .p 2 0) hR hI rfl rfl rfl (by kernel_rfl) .nil (fun a26 hI => ?_)
     replace hI := hI.sl [34, 31, 12, 33, 30, 10, 0, 1, 2, 3] rfl
     refine endL (i := 26) (f' := 1) (by kernel_rfl) (by rfl) (by kernel_rfl) ?_
     refine quietL tab (hh := .no) (x := .p 2 1) hR hI rfl rfl rfl (by kernel_rfl) .nil (fun a27 hI => ?_)
     replace hI := hI.sl [35, 34, 31, 12, 33, 30, 10, 0, 1, 2, 3] rfl
     refine endL (i := 27) (f' := 0) (by kernel_rfl) (by rfl) (by kernel_rfl) ?_
     refine eK tab 4 .no (.v (undef)) [⟨2, 84, [vB false, vS rd rl rc]⟩] [0, 1] [] [3] 4 true hR hI .nil fun e28 a28 w28 hag hR2 hI => ?_
     replace hA := hA.trans hag (by decide)
     replace hR := hR2; clear hR2
     replace hI := hI.sl [35, 34, 31, 12, 33, 30, 10, 0, 1, 2, 3] rfl
     refine doneL (by kernel_rfl) ?_
     replace hI := hI.sl [0, 1, 2, 3] rfl; replace hR := hR.sel [2, 0, 1] [3] rfl rfl
     refine then_n ?_
     replace hbk0 := tb hA hbk0
     replace hbk1 := tb hA hbk1
     replace hbk2 := tb hA hbk2
     replace hf3 := tf hA hf3
     replace hg3 := tg hA hg3
     exact ⟨(mq, zs2, rd, rl, rc, rs), _, _, _, _, hB, ⟨⟨hf3, hg3, hbk0, hbk1, hbk2⟩, ⟨hrs, hrl, hz2l, hz2d, hmq, htq, hvq, htr, hvr⟩⟩, hR.sel [0, 1, 2] [3] (by kernel_rfl) (by kernel_rfl), hI.sel [0, 1, 2, 3] (by kernel_rfl)⟩
   ·
    refine quietL tab (hh := .no) (x := vS rd rl rc) hR hI rfl rfl rfl (by kernel_rfl) .nil (fun a29 hI => ?_)
    refine ⟨hS, ?_⟩
    replace hI := hI.sl [31, 33, 30, 10, 0, 1, 2, 3] rfl
    refine lastTwoL (i := 1) (j := 24) (f' := 4) (by kernel_rfl) (by rfl) (by kernel_rfl) ?_ ?_
    ·
     refine quietL tab (hh := .no) (x := .p 2 0) hR hI rfl rfl rfl (by kernel_rfl) .nil (fun a30 hI => ?_)
     refine ⟨hS, ?_⟩
     replace hI := hI.sl [12, 31, 33, 30, 10, 0, 1, 2, 3] rfl
     refine endL (i := 24) (f' := 3) (by kernel_rfl) (by rfl) (by kernel_rfl) ?_
     refine eK tab 4 .no (.v (undef)) [⟨0, 84, [vB nx, .rsl 3 0 mq c]⟩] [1, 2] [] [3] 4 true hR hI .nil fun e31 a31 w31 hag hR2 hI => ?_
     have hA := hag
     replace hR := hR2; clear hR2
     replace hI := hI.sl [12, 31, 33, 30, 10, 0, 1, 2, 3] rfl
     refine endL (i := 25) (f' := 2) (by kernel_rfl) (by rfl) (by kernel_rfl) ?_
     refine quietL tab (hh := .no) (x := .p 2 0) hR hI rfl rfl rfl (by kernel_rfl) .nil (fun a32 hI => ?_)
     replace hI := hI.sl [34, 12, 31, 33, 30, 10, 0, 1, 2, 3] rfl
     refine endL (i := 26) (f' := 1) (by kernel_rfl) (by rfl) (by kernel_rfl) ?_
     refine quietL tab (hh := .no) (x := .p 2 1) hR hI rfl rfl rfl (by kernel_rfl) .nil (fun a33 hI => ?_)
     replace hI := hI.sl [35, 34, 12, 31, 33, 30, 10, 0, 1, 2, 3] rfl
     refine endL (i := 27) (f' := 0) (by kernel_rfl) (by rfl) (by kernel_rfl) ?_
     refine eK tab 4 .no (.v (undef)) [⟨2, 84, [vB false, vS rd rl rc]⟩] [0, 1] [] [3] 4 true hR hI .nil fun e34 a34 w34 hag hR2 hI => ?_
     replace hA := hA.trans hag (by decide)
     replace hR := hR2; clear hR2
     replace hI := hI.sl [35, 34, 12, 31, 33, 30, 10, 0, 1, 2, 3] rfl
     refine doneL (by kernel_rfl) ?_
     replace hI := hI.sl [0, 1, 2, 3] rfl; replace hR := hR.sel [2, 0, 1] [3] rfl rfl
     refine then_n ?_
     replace hbk0 := tb hA hbk0
     replace hbk1 := tb hA hbk1
     replace hbk2 := tb hA hbk2
     replace hf3 := tf hA hf3
     replace hg3 := tg hA hg3
     exact ⟨(mq, zs2, rd, rl, rc, rs), _, _, _, _, hB, ⟨⟨hf3, hg3, hbk0, hbk1, hbk2⟩, ⟨hrs, hrl, hz2l, hz2d, hmq, htq, hvq, htr, hvr⟩⟩, hR.sel [0, 1, 2] [3] (by kernel_rfl) (by kernel_rfl), hI.sel [0, 1, 2, 3] (by kernel_rfl)⟩
    ·
     refine eK tab 4 .no (.v (undef)) [⟨0, 84, [vB nx, .rsl 3 0 mq c]⟩] [1, 2] [] [3] 4 true hR hI .nil fun e35 a35 w35 hag hR2 hI => ?_
     have hA := hag
     replace hR := hR2; clear hR2
     replace hI := hI.sl [31, 33, 30, 10, 0, 1, 2, 3] rfl
     refine endL (i := 1) (f' := 3) (by kernel_rfl) (by rfl) (by kernel_rfl) ?_
     refine quietL tab (hh := .no) (x := .p 2 0) hR hI rfl rfl rfl (by kernel_rfl) .nil (fun a36 hI => ?_)
     replace hI := hI.sl [12, 31, 33, 30, 10, 0, 1, 2, 3] rfl
     refine endL (i := 25) (f' := 2) (by kernel_rfl) (by rfl) (by kernel_rfl) ?_
     refine quietL tab (hh := .no) (x := .p 2 0) hR hI rfl rfl rfl (by kernel_rfl) .nil (fun a37 hI => ?_)
     replace hI := hI.sl [34, 12, 31, 33, 30, 10, 0, 1, 2, 3] rfl
     refine endL (i := 26) (f' := 1) (by kernel_rfl) (by rfl) (by kernel_rfl) ?_
     refine quietL tab (hh := .no) (x := .p 2 1) hR hI rfl rfl rfl (by kernel_rfl) .nil (fun a38 hI => ?_)
     replace hI := hI.sl [35, 34, 12, 31, 33, 30, 10, 0, 1, 2, 3] rfl
     refine endL (i := 27) (f' := 0) (by kernel_rfl) (by rfl) (by kernel_rfl) ?_
     refine eK tab 4 .no (.v (undef)) [⟨2, 84, [vB false, vS rd rl rc]⟩] [0, 1] [] [3] 4 true hR hI .nil fun e39 a39 w39 hag hR2 hI => ?_
     replace hA := hA.trans hag (by decide)
     replace hR := hR2; clear hR2
     replace hI := hI.sl [35, 34, 12, 31, 33, 30, 10, 0, 1, 2, 3] rfl
     refine doneL (by kernel_rfl) ?_
     replace hI := hI.sl [0, 1, 2, 3] rfl; replace hR := hR.sel [2, 0, 1] [3] rfl rfl
     refine then_n ?_
     replace hbk0 := tb hA hbk0
     replace hbk1 := tb hA hbk1
     replace hbk2 := tb hA hbk2
     replace hf3 := tf hA hf3
     replace hg3 := tg hA hg3
     exact ⟨(mq, zs2, rd, rl, rc, rs), _, _, _, _, hB, ⟨⟨hf3, hg3, hbk0, hbk1, hbk2⟩, ⟨hrs, hrl, hz2l, hz2d, hmq, htq, hvq, htr, hvr⟩⟩, hR.sel [0, 1, 2] [3] (by kernel_rfl) (by kernel_rfl), hI.sel [0, 1, 2, 3] (by kernel_rfl)⟩
   ·
    refine eK tab 4 .no (.v (undef)) [⟨0, 84, [vB nx, .rsl 3 0 mq c]⟩] [1, 2] [] [3] 4 true hR hI .nil fun e40 a40 w40 hag hR2 hI => ?_
    have hA := hag
    replace hR := hR2; clear hR2
    replace hI := hI.sl [33, 30, 10, 0, 1, 2, 3] rfl
    refine pastTwoL (i := 1) (j := 21) (f' := 4) (by kernel_rfl) (by rfl) (by kernel_rfl) (by kernel_rfl) ?_ ?_
    ·
     refine quietL tab (hh := .no) (x := .p 2 0) hR hI rfl rfl rfl (by kernel_rfl) .nil (fun a41 hI => ?_)
     replace hI := hI.sl [12, 33, 30, 10, 0, 1, 2, 3] rfl
     refine endL (i := 21) (f' := 3) (by kernel_rfl) (by rfl) (by kernel_rfl) ?_
     refine quietL tab (hh := .no) (x := vS rd rl rc) hR hI rfl rfl rfl (by kernel_rfl) .nil (fun a42 hI => ?_)
     replace hI := hI.sl [31, 12, 33, 30, 10, 0, 1, 2, 3] rfl
     refine endL (i := 25) (f' := 2) (by kernel_rfl) (by rfl) (by kernel_rfl) ?_
     refine quietL tab (hh := .no) (x := .p 2 0) hR hI rfl rfl rfl (by kernel_rfl) .nil (fun a43 hI => ?_)
     replace hI := hI.sl [34, 31, 12, 33, 30, 10, 0, 1, 2, 3] rfl
     refine endL (i := 26) (f' := 1) (by kernel_rfl) (by rfl) (by kernel_rfl) ?_
     refine quietL tab (hh := .no) (x := .p 2 1) hR hI rfl rfl rfl (by kernel_rfl) .nil (fun a44 hI => ?_)
     replace hI := hI.sl [35, 34, 31, 12, 33, 30, 10, 0, 1, 2, 3] rfl
     refine endL (i := 27) (f' := 0) (by kernel_rfl) (by rfl) (by kernel_rfl) ?_
     refine eK tab 4 .no (.v (undef)) [⟨2, 84, [vB false, vS rd rl rc]⟩] [0, 1] [] [3] 4 true hR hI .nil fun e45 a45 w45 hag hR2 hI => ?_
     replace hA := hA.trans hag (by decide)
     replace hR := hR2; clear hR2
     replace hI := hI.sl [35, 34, 31, 12, 33, 30, 10, 0, 1, 2, 3] rfl
     refine doneL (by kernel_rfl) ?_
     replace hI := hI.sl [0, 1, 2, 3] rfl; replace hR := hR.sel [2, 0, 1] [3] rfl rfl
     refine then_n ?_
     replace hbk0 := tb hA hbk0
     replace hbk1 := tb hA hbk1
     replace hbk2 := tb hA hbk2
     replace hf3 := tf hA hf3
     replace hg3 := tg hA hg3
     exact ⟨(mq, zs2, rd, rl, rc, rs), _, _, _, _, hB, ⟨⟨hf3, hg3, hbk0, hbk1, hbk2⟩, ⟨hrs, hrl, hz2l, hz2d, hmq, htq, hvq, htr, hvr⟩⟩, hR.sel [0, 1, 2] [3] (by kernel_rfl) (by kernel_rfl), hI.sel [0, 1, 2, 3] (by kernel_rfl)⟩
    ·
     refine quietL tab (hh := .no) (x := vS rd rl rc) hR hI rfl rfl rfl (by kernel_rfl) .nil (fun a46 hI => ?_)
     replace hI := hI.sl [31, 33, 30, 10, 0, 1, 2, 3] rfl
     refine endL (i := 1) (f' := 3) (by kernel_rfl) (by rfl) (by kernel_rfl) ?_
     refine quietL tab (hh := .no) (x := .p 2 0) hR hI rfl rfl rfl (by kernel_rfl) .nil (fun a47 hI => ?_)
     replace hI := hI.sl [12, 31, 33, 30, 10, 0, 1, 2, 3] rfl
     refine endL (i := 25) (f' := 2) (by kernel_rfl) (by rfl) (by kernel_rfl) ?_
     refine quietL tab (hh := .no) (x := .p 2 0) hR hI rfl rfl rfl (by kernel_rfl) .nil (fun a48 hI => ?_)
     replace hI := hI.sl [34, 12, 31, 33, 30, 10, 0, 1, 2, 3] rfl
     refine endL (i := 26) (f' := 1) (by kernel_rfl) (by rfl) (by kernel_rfl) ?_
     refine quietL tab (hh := .no) (x := .p 2 1) hR hI rfl rfl rfl (by kernel_rfl) .nil (fun a49 hI => ?_)
     replace hI := hI.sl [35, 34, 12, 31, 33, 30, 10, 0, 1, 2, 3] rfl
     refine endL (i := 27) (f' := 0) (by kernel_rfl) (by rfl) (by kernel_rfl) ?_
     refine eK tab 4 .no (.v (undef)) [⟨2, 84, [vB false, vS rd rl rc]⟩] [0, 1] [] [3] 4 true hR hI .nil fun e50 a50 w50 hag hR2 hI => ?_
     replace hA := hA.trans hag (by decide)
     replace hR := hR2; clear hR2
     replace hI := hI.sl [35, 34, 12, 31, 33, 30, 10, 0, 1, 2, 3] rfl
     refine doneL (by kernel_rfl) ?_
     replace hI := hI.sl [0, 1, 2, 3] rfl; replace hR := hR.sel [2, 0, 1] [3] rfl rfl
     refine then_n ?_
     replace hbk0 := tb hA hbk0
     replace hbk1 := tb hA hbk1
     replace hbk2 := tb hA hbk2
     replace hf3 := tf hA hf3
     replace hg3 := tg hA hg3
     exact ⟨(mq, zs2, rd, rl, rc, rs), _, _, _, _, hB, ⟨⟨hf3, hg3, hbk0, hbk1, hbk2⟩, ⟨hrs, hrl, hz2l, hz2d, hmq, htq, hvq, htr, hvr⟩⟩, hR.sel [0, 1, 2] [3] (by kernel_rfl) (by kernel_rfl), hI.sel [0, 1, 2, 3] (by kernel_rfl)⟩
 ·
  clear hR hI hB
  rintro ⟨mq, zs2, rd, rl, rc, rs⟩ e51 C51 F51 wb51 a51 w51 hB hp hR hI
  dsimp only at hp hR hI
  replace hbk0 := tb hA hbk0
  replace hbk1 := tb hA hbk1
  replace hbk2 := tb hA hbk2
  replace hf3 := tf hA hf3
  replace hg3 := tg hA hg3
  obtain ⟨⟨hf3, hg3, hbk0, hbk1, hbk2⟩, hp⟩ := hp
  obtain ⟨hrs, hrl, hz2l, hz2d, hmq, htq, hvq, htr, hvr⟩ := hp
  refine wp_seq ?_
  refine regL 33 hR (by kernel_rfl) (fun hS => ?_)
  replace hR := hR.drew; have hF := hR.fore
  refine cK tab [(18, .sym)] [9, 10, 11, 12, 13, 14, 15, 16, 17, 26, 27, 28, 29] [0, 2, 3, 4, 5, 6, 7, 8, 9, 10, 11, 12, 13, 14, 15, 16, 17, 18, 19, 20, 21, 22, 23, 24, 25, 26, 27, 28, 29, 31, 32] 6 [(68, .p 0 0), (65, .gd 25 true (decide ((rl : Int) > (0 : Int))) (vB nx)), (61, vB (decide ((rl : Int) > (0 : Int)))), (54, vB ((decide ((mq : Int) > (0 : Int))) && (!(nx == ny))))] [0, 3] hS hI (.cons (rfl : (decide ((mq : Int) > (0 : Int))) = (decide ((mq : Int) > (0 : Int)))) (.cons (rfl : (decide ((mq : Int) > (0 : Int))) = (decide ((mq : Int) > (0 : Int)))) (.cons (rfl : (decide ((mq : Int) > (0 : Int))) = (decide ((mq : Int) > (0 : Int)))) (.cons (rfl : (decide ((mq : Int) > (0 : Int))) = (decide ((mq : Int) > (0 : Int)))) (.cons (rfl : (decide ((mq : Int) > (0 : Int))) = (decide ((mq : Int) > (0 : Int)))) (.cons (rfl : (decide ((mq : Int) > (0 : Int))) = (decide ((mq : Int) > (0 : Int)))) (.cons (rfl : (decide ((mq : Int) > (0 : Int))) = (decide ((mq : Int) > (0 : Int)))) (.cons (rfl : (decide ((mq : Int) > (0 : Int))) = (decide ((mq : Int) > (0 : Int)))) (.cons (rfl : (decide ((mq : Int) > (0 : Int))) = (decide ((mq : Int) > (0 : Int)))) (.cons (rfl : (decide ((mq : Int) > (0 : Int))) = (decide ((mq : Int) > (0 : Int)))) (.cons (rfl : (decide ((mq : Int) > (0 : Int))) = (decide ((mq : Int) > (0 : Int)))) (.cons (rfl : (decide ((mq : Int) > (0 : Int))) = (decide ((mq : Int) > (0 : Int)))) (.cons (rfl : (decide ((mq : Int) > (0 : Int))) = (decide ((mq : Int) > (0 : Int)))) (.cons (rfl : (decide ((mq : Int) > (0 : Int))) = (decide ((mq : Int) > (0 : Int)))) (.cons (rfl : (decide ((mq : Int) > (0 : Int))) = (decide ((mq : Int) > (0 : Int)))) (.cons (rfl : (decide ((mq : Int) > (0 : Int))) = (decide ((mq : Int) > (0 : Int)))) (.cons (rfl : (decide ((mq : Int) > (0 : Int))) = (decide ((mq : Int) > (0 : Int)))) (.cons (rfl : (decide ((mq : Int) > (0 : Int))) = (decide ((mq : Int) > (0 : Int)))) (.cons (rfl : (decide ((mq : Int) > (0 : Int))) = (decide ((mq : Int) > (0 : Int)))) (.cons (rfl : (decide ((mq : Int) > (0 : Int))) = (decide ((mq : Int) > (0 : Int)))) (.cons (rfl : (decide ((mq : Int) > (0 : Int))) = (decide ((mq : Int) > (0 : Int)))) (.cons (rfl : (decide ((mq : Int) > (0 : Int))) = (decide ((mq : Int) > (0 : Int)))) (.cons (rfl : (decide ((mq : Int) > (0 : Int))) = (decide ((mq : Int) > (0 : Int)))) (.cons (rfl : (decide ((mq : Int) > (0 : Int))) = (decide ((mq : Int) > (0 : Int)))) (.cons (rfl : (decide ((mq : Int) > (0 : Int))) = (decide ((mq : Int) > (0 : Int)))) (.cons (rfl : (decide ((mq : Int) > (0 : Int))) = (decide ((mq : Int) > (0 : Int)))) (.cons (rfl : (decide ((mq : Int) > (0 : Int))) = (decide ((mq : Int) > (0 : Int)))) (.cons (rfl : (decide ((mq : Int) > (0 : Int))) = (decide ((mq : Int) > (0 : Int)))) (.cons (rfl : (decide ((mq : Int) > (0 : Int))) = (decide ((mq : Int) > (0 : Int)))) (.cons (rfl : (decide ((mq : Int) > (0 : Int))) = (decide ((mq : Int) > (0 : Int)))) (.cons (rfl : (decide ((mq : Int) > (0 : Int))) = (decide ((mq : Int) > (0 : Int)))) (.cons (rfl : (decide ((mq : Int) > (0 : Int))) = (decide ((mq : Int) > (0 : Int)))) (.cons (rfl : (decide ((mq : Int) > (0 : Int))) = (decide ((mq : Int) > (0 : Int)))) (.cons (rfl : (decide ((mq : Int) > (0 : Int))) = (decide ((mq : Int) > (0 : Int)))) (.cons (rfl : (decide ((mq : Int) > (0 : Int))) = (decide ((mq : Int) > (0 : Int)))) (.cons (rfl : (decide ((mq : Int) > (0 : Int))) = (decide ((mq : Int) > (0 : Int)))) (.cons (by first | exact (by intro b_; cases b_ <;> rfl : ∀ b_ : Bool, (b_ == true) = b_) _ | exact (by intro b_; cases b_ <;> rfl : ∀ b_ : Bool, (b_ == false) = !b_) _ | exact Bool.beq_true _ | exact Bool.beq_false _ | rfl | simp_all : ((decide ((mq : Int) > (0 : Int))) == true) = (decide ((mq : Int) > (0 : Int)))) (.cons (rfl : (decide ((rl : Int) > (0 : Int))) = (decide ((rl : Int) > (0 : Int)))) (.cons (rfl : (decide ((rl : Int) > (0 : Int))) = (decide ((rl : Int) > (0 : Int)))) (.cons (rfl : (decide ((rl : Int) > (0 : Int))) = (decide ((rl : Int) > (0 : Int)))) (.cons (rfl : (decide ((rl : Int) > (0 : Int))) = (decide ((rl : Int) > (0 : Int)))) (.cons (rfl : (decide ((rl : Int) > (0 : Int))) = (decide ((rl : Int) > (0 : Int)))) (.cons (rfl : (decide ((rl : Int) > (0 : Int))) = (decide ((rl : Int) > (0 : Int)))) .nil))))))))))))))))))))))))))))))))))))))))))) fun a52 hI => ?_
  refine lastThreeL (i := 1) (j := 30) (k := 33) (f' := 5) (by kernel_rfl) (by rfl) (by kernel_rfl) ?_ ?_ ?_
  ·
   refine quietL tab (hh := .no) (x := .p 2 0) hR hI rfl rfl rfl (by kernel_rfl) .nil (fun a53 hI => ?_)
   refine ⟨hS, ?_⟩
   replace hI := hI.sl [37, 68, 65, 61, 54, 0, 3] rfl
   refine lastTwoL (i := 30) (j := 33) (f' := 4) (by kernel_rfl) (by rfl) (by kernel_rfl) ?_ ?_
   ·
    refine quietL tab (hh := .sym) (x := vB ((decide ((rl : Int) > (0 : Int))) && nx)) hR hI rfl rfl rfl (by kernel_rfl) (.cons (by first | exact (by intro b_; cases b_ <;> rfl : ∀ b_ : Bool, (b_ == true) = b_) _ | exact (by intro b_; cases b_ <;> rfl : ∀ b_ : Bool, (b_ == false) = !b_) _ | exact Bool.beq_true _ | exact Bool.beq_false _ | rfl | simp_all : ((decide ((rl : Int) > (0 : Int))) == true) = (decide ((rl : Int) > (0 : Int)))) .nil) (fun a54 hI => ?_)
    refine ⟨hS, ?_⟩
    replace hI := hI.sl [66, 37, 68, 65, 61, 54, 0, 3] rfl
    refine endL (i := 33) (f' := 3) (by kernel_rfl) (by rfl) (by kernel_rfl) ?_
    refine eK tab 4 .no (.v (undef)) [⟨0, 84, [vB ((decide ((mq : Int) > (0 : Int))) && (!(nx == ny))), .rsl 3 0 mq c]⟩] [1, 2] [] [3] 4 true hR hI .nil fun e55 a55 w55 hag hR2 hI => ?_
    have hA := hag
    replace hR := hR2; clear hR2
    replace hI := hI.sl [66, 37, 68, 65, 61, 54, 0, 3] rfl
    refine endL (i := 34) (f' := 2) (by kernel_rfl) (by rfl) (by kernel_rfl) ?_
    refine quietL tab (hh := .no) (x := .p 2 0) hR hI rfl rfl rfl (by kernel_rfl) .nil (fun a56 hI => ?_)
    replace hI := hI.sl [69, 66, 37, 68, 65, 61, 54, 0, 3] rfl
    refine endL (i := 35) (f' := 1) (by kernel_rfl) (by rfl) (by kernel_rfl) ?_
    refine quietL tab (hh := .no) (x := .p 2 0) hR hI rfl rfl rfl (by kernel_rfl) .nil (fun a57 hI => ?_)
    replace hI := hI.sl [70, 69, 66, 37, 68, 65, 61, 54, 0, 3] rfl
    refine endL (i := 36) (f' := 0) (by kernel_rfl) (by rfl) (by kernel_rfl) ?_
    refine eK tab 4 .no (.v (undef)) [⟨2, 84, [vB ((decide ((rl : Int) > (0 : Int))) && nx), vS rd rl rc]⟩] [0, 1] [] [3] 4 true hR hI .nil fun e58 a58 w58 hag hR2 hI => ?_
    replace hA := hA.trans hag (by decide)
    replace hR := hR2; clear hR2
    replace hI := hI.sl [70, 69, 66, 37, 68, 65, 61, 54, 0, 3] rfl
    refine doneL (by kernel_rfl) ?_
    refine then_n ?_
    replace hI := hI.sl [0, 3] rfl; replace hR := hR.sel [2, 0, 1] [3] rfl rfl
    refine rZ tab 4 [(9, .p 2 0), (8, .p 0 0)] [] hR hI fun e59 a59 w59 hag hR hI => ?_
    replace hA := hA.trans hag (by decide)
    refine wp_ret (oN tab [.p 0 0, .p 2 0] hR hI ?_)
    replace hbk0 := tb hA hbk0
    replace hbk1 := tb hA hbk1
    replace hbk2 := tb hA hbk2
    replace hf3 := tf hA hf3
    replace hg3 := tg hA hg3
    exact ⟨mq, zs2, rd, rl, rc, rs, _, _, by rw [← hbk0, ← hbk2]; rfl, hrl, hB.fin hR, (hR.rowFin (y := ⟨3, 102, 1, N, (ints .u64 zs2)⟩) m0 hf3 rfl hg3), hz2l, hz2d, hmq, htq, hvq, hrs.fin hB hR, htr, hvr, (by have h_ := (hR.blk (x := ⟨0, 84, [vB ((decide ((mq : Int) > (0 : Int))) && (!(nx == ny))), .rsl 3 0 mq c]⟩) m1).1; simp only [dens, den, hg3] at h_; rw [hbk0] at h_; exact h_), (by have h_ := (hR.blk ⟨1, 84, [vB ny, vS adv lv vc]⟩ m2).1; rw [hbk1] at h_; exact h_), (by have h_ := (hR.blk ⟨2, 84, [vB ((decide ((rl : Int) > (0 : Int))) && nx), vS rd rl rc]⟩ m0).1; rw [hbk2] at h_; exact h_), by simp [bne], by simp [bne]⟩
   ·
    refine eK tab 4 .no (.v (undef)) [⟨0, 84, [vB ((decide ((mq : Int) > (0 : Int))) && (!(nx == ny))), .rsl 3 0 mq c]⟩] [1, 2] [] [3] 4 true hR hI .nil fun e60 a60 w60 hag hR2 hI => ?_
    have hA := hag
    replace hR := hR2; clear hR2
    replace hI := hI.sl [37, 68, 65, 61, 54, 0, 3] rfl
    refine endL (i := 30) (f' := 3) (by kernel_rfl) (by rfl) (by kernel_rfl) ?_
    refine quietL tab (hh := .sym) (x := vB ((decide ((rl : Int) > (0 : Int))) && nx)) hR hI rfl rfl rfl (by kernel_rfl) (.cons (by first | exact (by intro b_; cases b_ <;> rfl : ∀ b_ : Bool, (b_ == true) = b_) _ | exact (by intro b_; cases b_ <;> rfl : ∀ b_ : Bool, (b_ == false) = !b_) _ | exact Bool.beq_true _ | exact Bool.beq_false _ | rfl | simp_all : ((decide ((rl : Int) > (0 : Int))) == true) = (decide ((rl : Int) > (0 : Int)))) .nil) (fun a61 hI => ?_)
    replace hI := hI.sl [66, 37, 68, 65, 61, 54, 0, 3] rfl
    refine endL (i := 34) (f' := 2) (by kernel_rfl) (by rfl) (by kernel_rfl) ?_
    refine quietL tab (hh := .no) (x := .p 2 0) hR hI rfl rfl rfl (by kernel_rfl) .nil (fun a62 hI => ?_)
    replace hI := hI.sl [69, 66, 37, 68, 65, 61, 54, 0, 3] rfl
    refine endL (i := 35) (f' := 1) (by kernel_rfl) (by rfl) (by kernel_rfl) ?_
    refine quietL tab (hh := .no) (x := .p 2 0) hR hI rfl rfl rfl (by kernel_rfl) .nil (fun a63 hI => ?_)
    replace hI := hI.sl [70, 69, 66, 37, 68, 65, 61, 54, 0, 3] rfl
    refine endL (i := 36) (f' := 0) (by kernel_rfl) (by rfl) (by kernel_rfl) ?_
    refine eK tab 4 .no (.v (undef)) [⟨2, 84, [vB ((decide ((rl : Int) > (0 : Int))) && nx), vS rd rl rc]⟩] [0, 1] [] [3] 4 true hR hI .nil fun e64 a64 w64 hag hR2 hI => ?_
    replace hA := hA.trans hag (by decide)
    replace hR := hR2; clear hR2
    replace hI := hI.sl [70, 69, 66, 37, 68, 65, 61, 54, 0, 3] rfl
    refine doneL (by kernel_rfl) ?_
    refine then_n ?_
    replace hI := hI.sl [0, 3] rfl; replace hR := hR.sel [2, 0, 1] [3] rfl rfl
    refine rZ tab 4 [(9, .p 2 0), (8, .p 0 0)] [] hR hI fun e65 a65 w65 hag hR hI => ?_
    replace hA := hA.trans hag (by decide)
    refine wp_ret (oN tab [.p 0 0, .p 2 0] hR hI ?_)
    replace hbk0 := tb hA hbk0
    replace hbk1 := tb hA hbk1
    replace hbk2 := tb hA hbk2
    replace hf3 := tf hA hf3
    replace hg3 := tg hA hg3
    exact ⟨mq, zs2, rd, rl, rc, rs, _, _, by rw [← hbk0, ← hbk2]; rfl, hrl, hB.fin hR, (hR.rowFin (y := ⟨3, 102, 1, N, (ints .u64 zs2)⟩) m0 hf3 rfl hg3), hz2l, hz2d, hmq, htq, hvq, hrs.fin hB hR, htr, hvr, (by have h_ := (hR.blk (x := ⟨0, 84, [vB ((decide ((mq : Int) > (0 : Int))) && (!(nx == ny))), .rsl 3 0 mq c]⟩) m1).1; simp only [dens, den, hg3] at h_; rw [hbk0] at h_; exact h_), (by have h_ := (hR.blk ⟨1, 84, [vB ny, vS adv lv vc]⟩ m2).1; rw [hbk1] at h_; exact h_), (by have h_ := (hR.blk ⟨2, 84, [vB ((decide ((rl : Int) > (0 : Int))) && nx), vS rd rl rc]⟩ m0).1; rw [hbk2] at h_; exact h_), by simp [bne], by simp [bne]⟩
  ·
   refine quietL tab (hh := .sym) (x := vB ((decide ((rl : Int) > (0 : Int))) && nx)) hR hI rfl rfl rfl (by kernel_rfl) (.cons (by first | exact (by intro b_; cases b_ <;> rfl : ∀ b_ : Bool, (b_ == true) = b_) _ | exact (by intro b_; cases b_ <;> rfl : ∀ b_ : Bool, (b_ == false) = !b_) _ | exact Bool.beq_true _ | exact Bool.beq_false _ | rfl | simp_all : ((decide ((rl : Int) > (0 : Int))) == true) = (decide ((rl : Int) > (0 : Int)))) .nil) (fun a66 hI => ?_)
   refine ⟨hS, ?_⟩
   replace hI := hI.sl [66, 68, 65, 61, 54, 0, 3] rfl
   refine lastTwoL (i := 1) (j := 33) (f' := 4) (by kernel_rfl) (by rfl) (by kernel_rfl) ?_ ?_
   ·
    refine quietL tab (hh := .no) (x := .p 2 0) hR hI rfl rfl rfl (by kernel_rfl) .nil (fun a67 hI => ?_)
    refine ⟨hS, ?_⟩
    replace hI := hI.sl [37, 66, 68, 65, 61, 54, 0, 3] rfl
    refine endL (i := 33) (f' := 3) (by kernel_rfl) (by rfl) (by kernel_rfl) ?_
    refine eK tab 4 .no (.v (undef)) [⟨0, 84, [vB ((decide ((mq : Int) > (0 : Int))) && (!(nx == ny))), .rsl 3 0 mq c]⟩] [1, 2] [] [3] 4 true hR hI .nil fun e68 a68 w68 hag hR2 hI => ?_
    have hA := hag
    replace hR := hR2; clear hR2
    replace hI := hI.sl [37, 66, 68, 65, 61, 54, 0, 3] rfl
    refine endL (i := 34) (f' := 2) (by kernel_rfl) (by rfl) (by kernel_rfl) ?_
    refine quietL tab (hh := .no) (x := .p 2 0) hR hI rfl rfl rfl (by kernel_rfl) .nil (fun a69 hI => ?_)
    replace hI := hI.sl [69, 37, 66, 68, 65, 61, 54, 0, 3] rfl
    refine endL (i := 35) (f' := 1) (by kernel_rfl) (by rfl) (by kernel_rfl) ?_
    refine quietL tab (hh := .no) (x := .p 2 0) hR hI rfl rfl rfl (by kernel_rfl) .nil (fun a70 hI => ?_)
    replace hI := hI.sl [70, 69, 37, 66, 68, 65, 61, 54, 0, 3] rfl
    refine endL (i := 36) (f' := 0) (by kernel_rfl) (by rfl) (by kernel_rfl) ?_
    refine eK tab 4 .no (.v (undef)) [⟨2, 84, [vB ((decide ((rl : Int) > (0 : Int))) && nx), vS rd rl rc]⟩] [0, 1] [] [3] 4 true hR hI .nil fun e71 a71 w71 hag hR2 hI => ?_
    replace hA := hA.trans hag (by decide)
    replace hR := hR2; clear hR2
    replace hI := hI.sl [70, 69, 37, 66, 68, 65, 61, 54, 0, 3] rfl
    refine doneL (by kernel_rfl) ?_
    refine then_n ?_
    replace hI := hI.sl [0, 3] rfl; replace hR := hR.sel [2, 0, 1] [3] rfl rfl
    refine rZ tab 4 [(9, .p 2 0), (8, .p 0 0)] [] hR hI fun e72 a72 w72 hag hR hI => ?_
    replace hA := hA.trans hag (by decide)
    refine wp_ret (oN tab [.p 0 0, .p 2 0] hR hI ?_)
    replace hbk0 := tb hA hbk0
    replace hbk1 := tb hA hbk1
    replace hbk2 := tb hA hbk2
    replace hf3 := tf hA hf3
    replace hg3 := tg hA hg3
    exact ⟨mq, zs2, rd, rl, rc, rs, _, _, by rw [← hbk0, ← hbk2]; rfl, hrl, hB.fin hR, (hR.rowFin (y := ⟨3, 102, 1, N, (ints .u64 zs2)⟩) m0 hf3 rfl hg3), hz2l, hz2d, hmq, htq, hvq, hrs.fin hB hR, htr, hvr, (by have h_ := (hR.blk (x := ⟨0, 84, [vB ((decide ((mq : Int) > (0 : Int))) && (!(nx == ny))), .rsl 3 0 mq c]⟩) m1).1; simp only [dens, den, hg3] at h_; rw [hbk0] at h_; exact h_), (by have h_ := (hR.blk ⟨1, 84, [vB ny, vS adv lv vc]⟩ m2).1; rw [hbk1] at h_; exact h_), (by have h_ := (hR.blk ⟨2, 84, [vB ((decide ((rl : Int) > (0 : Int))) && nx), vS rd rl rc]⟩ m0).1; rw [hbk2] at h_; exact h_), by simp [bne], by simp [bne]⟩
   ·
    refine eK tab 4 .no (.v (undef)) [⟨0, 84, [vB ((decide ((mq : Int) > (0 : Int))) && (!(nx == ny))), .rsl 3 0 mq c]⟩] [1, 2] [] [3] 4 true hR hI .nil fun e73 a73 w73 hag hR2 hI => ?_
    have hA := hag
    replace hR := hR2; clear hR2
    replace hI := hI.sl [66, 68, 65, 61, 54, 0, 3] rfl
    refine endL (i := 1) (f' := 3) (by kernel_rfl) (by rfl) (by kernel_rfl) ?_
    refine quietL tab (hh := .no) (x := .p 2 0) hR hI rfl rfl rfl (by kernel_rfl) .nil (fun a74 hI => ?_)
    replace hI := hI.sl [37, 66, 68, 65, 61, 54, 0, 3] rfl
    refine endL (i := 34) (f' := 2) (by kernel_rfl) (by rfl) (by kernel_rfl) ?_
    refine quietL tab (hh := .no) (x := .p 2 0) hR hI rfl rfl rfl (by kernel_rfl) .nil (fun a75 hI => ?_)
    replace hI := hI.sl [69, 37, 66, 68, 65, 61, 54, 0, 3] rfl
    refine endL (i := 35) (f' := 1) (by kernel_rfl) (by rfl) (by kernel_rfl) ?_
    refine quietL tab (hh := .no) (x := .p 2 0) hR hI rfl rfl rfl (by kernel_rfl) .nil (fun a76 hI => ?_)
    replace hI := hI.sl [70, 69, 37, 66, 68, 65, 61, 54, 0, 3] rfl
    refine endL (i := 36) (f' := 0) (by kernel_rfl) (by rfl) (by kernel_rfl) ?_
    refine eK tab 4 .no (.v (undef)) [⟨2, 84, [vB ((decide ((rl : Int) > (0 : Int))) && nx), vS rd rl rc]⟩] [0, 1] [] [3] 4 true hR hI .nil fun e77 a77 w77 hag hR2 hI => ?_
    replace hA := hA.trans hag (by decide)
    replace hR := hR2; clear hR2
    replace hI := hI.sl [70, 69, 37, 66, 68, 65, 61, 54, 0, 3] rfl
    refine doneL (by kernel_rfl) ?_
    refine then_n ?_
    replace hI := hI.sl [0, 3] rfl; replace hR := hR.sel [2, 0, 1] [3] rfl rfl
    refine rZ tab 4 [(9, .p 2 0), (8, .p 0 0)] [] hR hI fun e78 a78 w78 hag hR hI => ?_
    replace hA := hA.trans hag (by decide)
    refine wp_ret (oN tab [.p 0 0, .p 2 0] hR hI ?_)
    replace hbk0 := tb hA hbk0
    replace hbk1 := tb hA hbk1
    replace hbk2 := tb hA hbk2
    replace hf3 := tf hA hf3
    replace hg3 := tg hA hg3
    exact ⟨mq, zs2, rd, rl, rc, rs, _, _, by rw [← hbk0, ← hbk2]; rfl, hrl, hB.fin hR, (hR.rowFin (y := ⟨3, 102, 1, N, (ints .u64 zs2)⟩) m0 hf3 rfl hg3), hz2l, hz2d, hmq, htq, hvq, hrs.fin hB hR, htr, hvr, (by have h_ := (hR.blk (x := ⟨0, 84, [vB ((decide ((mq : Int) > (0 : Int))) && (!(nx == ny))), .rsl 3 0 mq c]⟩) m1).1; simp only [dens, den, hg3] at h_; rw [hbk0] at h_; exact h_), (by have h_ := (hR.blk ⟨1, 84, [vB ny, vS adv lv vc]⟩ m2).1; rw [hbk1] at h_; exact h_), (by have h_ := (hR.blk ⟨2, 84, [vB ((decide ((rl : Int) > (0 : Int))) && nx), vS rd rl rc]⟩ m0).1; rw [hbk2] at h_; exact h_), by simp [bne], by simp [bne]⟩
  ·
   refine eK tab 4 .no (.v (undef)) [⟨0, 84, [vB ((decide ((mq : Int) > (0 : Int))) && (!(nx == ny))), .rsl 3 0 mq c]⟩] [1, 2] [] [3] 4 true hR hI .nil fun e79 a79 w79 hag hR2 hI => ?_
   have hA := hag
   replace hR := hR2; clear hR2
   replace hI := hI.sl [68, 65, 61, 54, 0, 3] rfl
   refine pastTwoL (i := 1) (j := 30) (f' := 4) (by kernel_rfl) (by rfl) (by kernel_rfl) (by kernel_rfl) ?_ ?_
   ·
    refine quietL tab (hh := .no) (x := .p 2 0) hR hI rfl rfl rfl (by kernel_rfl) .nil (fun a80 hI => ?_)
    replace hI := hI.sl [37, 68, 65, 61, 54, 0, 3] rfl
    refine endL (i := 30) (f' := 3) (by kernel_rfl) (by rfl) (by kernel_rfl) ?_
    refine quietL tab (hh := .sym) (x := vB ((decide ((rl : Int) > (0 : Int))) && nx)) hR hI rfl rfl rfl (by kernel_rfl) (.cons (by first | exact (by intro b_; cases b_ <;> rfl : ∀ b_ : Bool, (b_ == true) = b_) _ | exact (by intro b_; cases b_ <;> rfl : ∀ b_ : Bool, (b_ == false) = !b_) _ | exact Bool.beq_true _ | exact Bool.beq_false _ | rfl | simp_all : ((decide ((rl : Int) > (0 : Int))) == true) = (decide ((rl : Int) > (0 : Int)))) .nil) (fun a81 hI => ?_)
    replace hI := hI.sl [66, 37, 68, 65, 61, 54, 0, 3] rfl
    refine endL (i := 34) (f' := 2) (by kernel_rfl) (by rfl) (by kernel_rfl) ?_
    refine quietL tab (hh := .no) (x := .p 2 0) hR hI rfl rfl rfl (by kernel_rfl) .nil (fun a82 hI => ?_)
    replace hI := hI.sl [69, 66, 37, 68, 65, 61, 54, 0, 3] rfl
    refine endL (i := 35) (f' := 1) (by kernel_rfl) (by rfl) (by kernel_rfl) ?_
    refine quietL tab (hh := .no) (x := .p 2 0) hR hI rfl rfl rfl (by kernel_rfl) .nil (fun a83 hI => ?_)
    replace hI := hI.sl [70, 69, 66, 37, 68, 65, 61, 54, 0, 3] rfl
    refine endL (i := 36) (f' := 0) (by kernel_rfl) (by rfl) (by kernel_rfl) ?_
    refine eK tab 4 .no (.v (undef)) [⟨2, 84, [vB ((decide ((rl : Int) > (0 : Int))) && nx), vS rd rl rc]⟩] [0, 1] [] [3] 4 true hR hI .nil fun e84 a84 w84 hag hR2 hI => ?_
    replace hA := hA.trans hag (by decide)
    replace hR := hR2; clear hR2
    replace hI := hI.sl [70, 69, 66, 37, 68, 65, 61, 54, 0, 3] rfl
    refine doneL (by kernel_rfl) ?_
    refine then_n ?_
    replace hI := hI.sl [0, 3] rfl; replace hR := hR.sel [2, 0, 1] [3] rfl rfl
    refine rZ tab 4 [(9, .p 2 0), (8, .p 0 0)] [] hR hI fun e85 a85 w85 hag hR hI => ?_
    replace hA := hA.trans hag (by decide)
    refine wp_ret (oN tab [.p 0 0, .p 2 0] hR hI ?_)
    replace hbk0 := tb hA hbk0
    replace hbk1 := tb hA hbk1
    replace hbk2 := tb hA hbk2
    replace hf3 := tf hA hf3
    replace hg3 := tg hA hg3
    exact ⟨mq, zs2, rd, rl, rc, rs, _, _, by rw [← hbk0, ← hbk2]; rfl, hrl, hB.fin hR, (hR.rowFin (y := ⟨3, 102, 1, N, (ints .u64 zs2)⟩) m0 hf3 rfl hg3), hz2l, hz2d, hmq, htq, hvq, hrs.fin hB hR, htr, hvr, (by have h_ := (hR.blk (x := ⟨0, 84, [vB ((decide ((mq : Int) > (0 : Int))) && (!(nx == ny))), .rsl 3 0 mq c]⟩) m1).1; simp only [dens, den, hg3] at h_; rw [hbk0] at h_; exact h_), (by have h_ := (hR.blk ⟨1, 84, [vB ny, vS adv lv vc]⟩ m2).1; rw [hbk1] at h_; exact h_), (by have h_ := (hR.blk ⟨2, 84, [vB ((decide ((rl : Int) > (0 : Int))) && nx), vS rd rl rc]⟩ m0).1; rw [hbk2] at h_; exact h_), by simp [bne], by simp [bne]⟩
   ·
    refine quietL tab (hh := .sym) (x := vB ((decide ((rl : Int) > (0 : Int))) && nx)) hR hI rfl rfl rfl (by kernel_rfl) (.cons (by first | exact (by intro b_; cases b_ <;> rfl : ∀ b_ : Bool, (b_ == true) = b_) _ | exact (by intro b_; cases b_ <;> rfl : ∀ b_ : Bool, (b_ == false) = !b_) _ | exact Bool.beq_true _ | exact Bool.beq_false _ | rfl | simp_all : ((decide ((rl : Int) > (0 : Int))) == true) = (decide ((rl : Int) > (0 : Int)))) .nil) (fun a86 hI => ?_)
    replace hI := hI.sl [66, 68, 65, 61, 54, 0, 3] rfl
    refine endL (i := 1) (f' := 3) (by kernel_rfl) (by rfl) (by kernel_rfl) ?_
    refine quietL tab (hh := .no) (x := .p 2 0) hR hI rfl rfl rfl (by kernel_rfl) .nil (fun a87 hI => ?_)
    replace hI := hI.sl [37, 66, 68, 65, 61, 54, 0, 3] rfl
    refine endL (i := 34) (f' := 2) (by kernel_rfl) (by rfl) (by kernel_rfl) ?_
    refine quietL tab (hh := .no) (x := .p 2 0) hR hI rfl rfl rfl (by kernel_rfl) .nil (fun a88 hI => ?_)
    replace hI := hI.sl [69, 37, 66, 68, 65, 61, 54, 0, 3] rfl
    refine endL (i := 35) (f' := 1) (by kernel_rfl) (by rfl) (by kernel_rfl) ?_
    refine quietL tab (hh := .no) (x := .p 2 0) hR hI rfl rfl rfl (by kernel_rfl) .nil (fun a89 hI => ?_)
    replace hI := hI.sl [70, 69, 37, 66, 68, 65, 61, 54, 0, 3] rfl
    refine endL (i := 36) (f' := 0) (by kernel_rfl) (by rfl) (by kernel_rfl) ?_
    refine eK tab 4 .no (.v (undef)) [⟨2, 84, [vB ((decide ((rl : Int) > (0 : Int))) && nx), vS rd rl rc]⟩] [0, 1] [] [3] 4 true hR hI .nil fun e90 a90 w90 hag hR2 hI => ?_
    replace hA := hA.trans hag (by decide)
    replace hR := hR2; clear hR2
    replace hI := hI.sl [70, 69, 37, 66, 68, 65, 61, 54, 0, 3] rfl
    refine doneL (by kernel_rfl) ?_
    refine then_n ?_
    replace hI := hI.sl [0, 3] rfl; replace hR := hR.sel [2, 0, 1] [3] rfl rfl
    refine rZ tab 4 [(9, .p 2 0), (8, .p 0 0)] [] hR hI fun e91 a91 w91 hag hR hI => ?_
    replace hA := hA.trans hag (by decide)
    refine wp_ret (oN tab [.p 0 0, .p 2 0] hR hI ?_)
    replace hbk0 := tb hA hbk0
    replace hbk1 := tb hA hbk1
    replace hbk2 := tb hA hbk2
    replace hf3 := tf hA hf3
    replace hg3 := tg hA hg3
    exact ⟨mq, zs2, rd, rl, rc, rs, _, _, by rw [← hbk0, ← hbk2]; rfl, hrl, hB.fin hR, (hR.rowFin (y := ⟨3, 102, 1, N, (ints .u64 zs2)⟩) m0 hf3 rfl hg3), hz2l, hz2d, hmq, htq, hvq, hrs.fin hB hR, htr, hvr, (by have h_ := (hR.blk (x := ⟨0, 84, [vB ((decide ((mq : Int) > (0 : Int))) && (!(nx == ny))), .rsl 3 0 mq c]⟩) m1).1; simp only [dens, den, hg3] at h_; rw [hbk0] at h_; exact h_), (by have h_ := (hR.blk ⟨1, 84, [vB ny, vS adv lv vc]⟩ m2).1; rw [hbk1] at h_; exact h_), (by have h_ := (hR.blk ⟨2, 84, [vB ((decide ((rl : Int) > (0 : Int))) && nx), vS rd rl rc]⟩ m0).1; rw [hbk2] at h_; exact h_), by simp [bne], by simp [bne]⟩

end Go.Proofs.YtmendapdibnbdaaGreatDoor.Stride
