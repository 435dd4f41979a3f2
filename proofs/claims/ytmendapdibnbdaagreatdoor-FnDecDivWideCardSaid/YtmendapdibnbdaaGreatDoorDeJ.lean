/- Walks of the program's functions, printed by a program of mine (walk.py) over the words of Stride: each function's contract. -/
import Derived.Test.YtmendapdibnbdaaGreatDoorDeI
import Derived.LaidEqlPtr
namespace Go.Proofs.YtmendapdibnbdaaGreatDoor.Stride
open Go Go.RowKit Go.Proofs.YtmendapdibnbdaaGreatDoor.Mag
set_option linter.unusedVariables false
set_option linter.unusedSimpArgs false
set_option maxHeartbeats 4000000
set_option maxRecDepth 100000
theorem divB_spec {C : Nat → Prop} {w : World} {g N c nu vc : Nat} {zs vs : List Nat} {ad : Option Addr} (hz : w.heap[g]? = some (.cells (ints .u64 zs).toArray 102)) (hzl : zs.length = N) (hzm : N ≤ 9223372036854775807) (hCg : ¬ C g) (hgl : Sl .i64 18446744073709551616 C w (some ⟨0, 0, none⟩) 1 [40]) (hx : Sl .u64 18446744073709551616 C w ad vc vs) (hzd : Ndig zs) (hfit : nu ≤ N) (hc : nu ≤ c) (hcm : c ≤ 9223372036854775807) (hnu : nu ≤ 60000) (htu : Ntrim (seg zs 0 nu)) (htv : Ntrim vs) (hV0 : 0 < nval vs) (hn3 : vs.length = 4) :
    Calls P 54 #[.slice (some ⟨g, 0, none⟩) nu c, .pointer none, .slice none 0 0, .slice (some ⟨g, 0, none⟩) nu c, .slice ad vs.length vc] w fun ex w' => ∃ mq zs2 ad2 l2 c3 rs, ex = .returned (.tuple #[.slice (some ⟨g, 0, none⟩) mq c, .slice ad2 l2 c3]) ∧ rs.length = l2 ∧ Keep (ButN [g] w) w w' ∧ w'.heap[g]? = some (.cells (ints .u64 zs2).toArray 102) ∧ zs2.length = N ∧ Ndig zs2 ∧ mq ≤ nu ∧ Ntrim (seg zs2 0 mq) ∧ nval (seg zs2 0 mq) = nval (seg zs 0 nu) / nval vs ∧ Sl .u64 18446744073709551616 (Grow C w w') w' ad2 c3 rs ∧ Ntrim rs ∧ nval rs = nval (seg zs 0 nu) % nval vs := by
 refine doorD (e := (e0.addR 0 (.slice (some ⟨g, 0, none⟩) N N))) (vs := [.rsl 0 0 nu c, .v (.pointer none), vS none 0 0, .rsl 0 0 nu c, vS ad vs.length vc]) (n := 54) (m := 5) Tryz.func54 rfl rfl rfl (by decide) fun a_ hI => ?_
 replace hI : Is 54 [] (e0.addR 0 (.slice (some ⟨g, 0, none⟩) N N)) [(0, .rsl 0 0 nu c), (1, .v (.pointer none)), (2, vS none 0 0), (3, .rsl 0 0 nu c), (4, vS ad vs.length vc)] a_ := hI
 have hf0 : Full (e0.addR 0 (.slice (some ⟨g, 0, none⟩) N N)) 0 N := rfl; have hg0 : headOf ((e0.addR 0 (.slice (some ⟨g, 0, none⟩) N N)).r 0) = g := rfl
 have hR : Rel (ButN [g] w) w (e0.addR 0 (.slice (some ⟨g, 0, none⟩) N N)) [] [⟨0, 102, 1, N, (ints .u64 zs)⟩] w := Rel.startN (fun k_ h_ => h_.1) all_no (all_cons ⟨ownsRow_fullN hz (by first | exact hzl | (rw [ints_length]; exact hzl)) hzm, fun g_ he_ => by cases he_; exact (fun hm_ => hm_.2 m0)⟩ all_no) all_no all_no (all_cons (all_cons (fun hn_ => absurd rfl hn_) all_no) all_no)
 have hB : BaseD (ButN [g] w) C w C (ButN [g] w) w := BaseD.start (fun k_ hC_ hlt_ => ⟨hlt_, notin2 (fun he_ => hCg (he_ ▸ hC_)) (fun hm_ => by cases hm_)⟩)
 have hrx := hx.room; have hmx := hx.max; have hxd := hx.dig
 have hul0 : (seg zs 0 nu).length = nu := seg_length (by omega)
 have hud0 : Ndig (seg zs 0 nu) := seg_dig hzd _ _
 have hn0 : 0 < vs.length := nlen_pos_of_nval hV0
 have htop : 0 < vs.getD (vs.length - 1) 0 := ntrim_top htv hn0
 refine rZ tab 1 [] [0, 1, 2, 3, 4] hR hI fun e1 a1 w1 hag hR hI => ?_
 have hA := hag
 refine wp_seq ?_
 refine rK tab 1 [(2, .eq (.bool false))] [] [(15, vB false)] [0, 1, 2, 3, 4] [] [] [] [0] 1 hR hI (.cons (congrArg Value.bool (beq_eq_false_iff_ne.2 (by omega) : ((vs.length : Int) == (0 : Int)) = false)) .nil) fun e2 a2 w2 hag hR hI => ?_
 replace hA := hA.trans hag (by decide)
 refine cnd_f hI (by kernel_rfl) ?_
 refine wp_skip ?_
 refine then_n ?_
 refine wp_seq ?_
 refine rZ tab 1 [(19, vB ((vs.length : Int) == (1 : Int)))] [0, 1, 2, 3, 4] hR hI fun e3 a3 w3 hag hR hI => ?_
 replace hA := hA.trans hag (by decide)
 refine cnd (b := ((vs.length : Int) == (1 : Int))) hI (by kernel_rfl) (fun hc4 => ?_) (fun hc4 => ?_)
 ·
  replace hI := hI.rb 19 hc4
  try simp only [tolds] at hc4
  refine rZ tab 1 [] [0, 2, 3, 4] hR hI fun e5 a5 w5 hag hR hI => ?_
  replace hA := hA.trans hag (by decide)
  refine wp_seq (reg (is := [0, 1, 2, 3, 4, 5, 6, 7, 8, 9, 10]) (by kernel_rfl) ?_)
  refine pK tab [0, 1, 2, 3, 4] [5, 6, 7, 8, 9, 10] 1 [(4, .val (vU (vs.getD 0 0)))] [] [(25, vU (vs.getD 0 0)), (22, .rsl 0 0 nu c), (21, .rsl 0 0 nu c)] [2] [] [] [] [0] 1 hR hI (.cons (by omega : (0 : Int) ≤ (0 : Int) ∧ (0 : Int) < (vs.length : Int)) (.cons (nats_some (i := 0) (hx.cells.mono hB.cls) (by omega)) (.cons (nats_load (i := 0) (m := 1) (hx.cells.mono hB.cls) (by omega)) .nil))) fun e6 a6 w6 hag hR hI => ?_
  replace hA := hA.trans hag (by decide)
  refine cO [.rsl 0 0 nu c, .rsl 0 0 nu c, vU (vs.getD 0 0)] hI Tryz.func64 ?_
  replace hf0 := tf hA hf0
  replace hg0 := tg hA hg0
  have hq0_ := hR.rowCells (y := ⟨0, 102, 1, N, (ints .u64 zs)⟩) m0 hf0 rfl
  refine (divW_spec (C := fun _ => False) (y := vs.getD 0 0) hq0_.1 hzl hzm (fun h_ => h_) hzd hfit hc hcm htu (by rw [show vs.length - 1 = 0 by omega] at htop; exact htop) (ndig_get hxd _)).mono ?_
  rintro ex w7 ⟨mq, zs2, r, rfl, hk, hw0, hz2l, hz2d, hmq, htq, hvq, hvr⟩
  have hkF_ := hR.keepN hk (all_cons hq0_.2 all_no)
  have hR_ : Rel (Grow _ _ w7) w7 e6 [] [⟨0, 102, 1, N, (ints .u64 zs2)⟩] w7 := hR.turnedN hk (all_cons hq0_.2 all_no) all_no (all_cons ⟨⟨_, m0, rfl⟩, .inr (by have hl_ := hR.rowLen (y := ⟨0, 102, 1, N, (ints .u64 zs)⟩) m0; dsimp only at hl_; rw [show e6.r 0 = _ from hf0]; exact ownsRow_fullN hw0 (by rw [ints_length]; first | exact hzl | exact hz2l) (hzm))⟩ all_no)
  replace hgl := hgl.nextF hB hR hkF_
  replace hx := hx.nextF hB hR hkF_
  have hB_ := hB.nextF hR hkF_
  replace hR := hR_; clear hR_
  replace hB := hB_; clear hB_ hk hkF_ hq0_ hw0
  have hrb : r < 18446744073709551616 := by rw [hvr]; exact Nat.lt_of_lt_of_le (Nat.mod_lt _ (by rw [show vs.length - 1 = 0 by omega] at htop; exact htop)) (Nat.le_of_lt (ndig_get hxd 0))
  refine ⟨_, rfl, ?_⟩
  replace hI := hI.pt 26 (.tup [.rsl 0 0 mq c, vU r]) [26, 25, 22, 21, 2]
  refine pZ tab [6, 7, 8, 9, 10] [] 1 [(12, vU r), (10, .rsl 0 0 mq c)] [2] hR hI fun e8 a8 w8 hag hR hI => ?_
  have hA := hag
  refine ops_nil (then_n ?_)
  refine wp_seq (reg (is := [0, 1, 2, 3]) (by kernel_rfl) ?_)
  refine pZ tab [0, 1] [2, 3] 1 [(30, vU r), (29, vS none 0 0)] [10] hR hI fun e9 a9 w9 hag hR hI => ?_
  replace hA := hA.trans hag (by decide)
  refine cO [vS none 0 0, vU r] hI Tryz.func65 ?_
  refine (setWord_spec (C := Now hB) hrb).mono ?_
  rintro ex w10 ⟨rd, rl, rc, rs, rfl, hrl, hk, hrs, htr, hvr2⟩
  replace hrs := hrs.up (C := Now hB)
  replace hgl := hgl.next hB hR hk
  replace hx := hx.next hB hR hk
  obtain ⟨hB, hR⟩ := nx hB hR hk
  refine ⟨_, rfl, ?_⟩
  replace hI := hI.pt 31 (vS rd rl rc) [31, 30, 29, 10]
  refine pZ tab [3] [] 1 [(11, vS rd rl rc)] [10] hR hI fun e11 a11 w11 hag hR hI => ?_
  replace hA := hA.trans hag (by decide)
  refine ops_nil (then_n ?_)
  refine wp_ret ?_
  refine ret_then ?_
  refine outZ tab (xs := [.rsl 0 0 mq c, vS rd rl rc]) (.inl rfl) hR hI rfl (by kernel_rfl) ?_
  replace hf0 := tf hA hf0
  replace hg0 := tg hA hg0
  have hv1 : nval vs = vs.getD 0 0 := nval_one (by omega)
  rw [← hv1] at hvq hvr
  exact ⟨mq, zs2, rd, rl, rc, rs, by rw [← hg0]; rfl, hrl, hB.fin hR, (hR.rowFin (y := ⟨0, 102, 1, N, (ints .u64 zs2)⟩) m0 hf0 rfl hg0), hz2l, hz2d, by omega, htq, hvq, hrs.fin hB hR, htr, by rw [hvr2]; exact hvr⟩
 ·
  replace hI := hI.rb 19 hc4
  try simp only [tolds] at hc4
  refine wp_skip ?_
  refine then_n ?_
  refine wp_seq ?_
  refine wp_seq (reg (is := [0, 1, 2, 3]) (by kernel_rfl) ?_)
  refine pZ tab [0, 1] [2, 3] 1 [(33, vS ad vs.length vc), (32, .rsl 0 0 nu c)] [0, 1, 2, 3, 4] hR hI fun e12 a12 w12 hag hR hI => ?_
  replace hA := hA.trans hag (by decide)
  refine cO [.rsl 0 0 nu c, vS ad vs.length vc] hI Tryz.func66 ?_
  replace hf0 := tf hA hf0
  replace hg0 := tg hA hg0
  have hzk := hR.rowRead (y := ⟨0, 102, 1, N, (ints .u64 zs)⟩) m0 hf0 rfl rfl hzd 0 nu (by omega) (c := c) (by omega) (by omega)
  refine (cmpL_spec (C := fun b => b = headOf (e12.r 0)) hul0 hzk (hx.now hB hR) htu htv).mono ?_
  rintro ex w13 ⟨rfl, hk⟩
  replace hR := hR.same hk; clear hk
  refine ⟨_, rfl, ?_⟩
  replace hI := hI.pt 34 (.v (.int .i64 (cmpN (nval (seg zs 0 nu)) (nval vs)))) [34, 33, 32, 0, 1, 2, 3, 4]
  refine pZ tab [3] [] 1 [(35, vB (decide ((cmpN (nval (seg zs 0 nu)) (nval vs)) < (0 : Int))))] [0, 1, 2, 3, 4] hR hI fun e14 a14 w14 hag hR hI => ?_
  have hA := hag
  refine ops_nil (then_n ?_)
  refine cnd (b := decide ((cmpN (nval (seg zs 0 nu)) (nval vs)) < (0 : Int))) hI (by kernel_rfl) (fun hc15 => ?_) (fun hc15 => ?_)
  ·
   replace hI := hI.rb 35 hc15
   try simp only [tolds] at hc15
   have hlt : nval (seg zs 0 nu) < nval vs := by
    rcases Nat.lt_or_ge (nval (seg zs 0 nu)) (nval vs) with h_ | h_
    · exact h_
    · exact absurd (cmpN_ge.2 h_) (by omega)
   refine rK tab 1 [] [] [(10, .rsl 0 0 0 c)] [2, 3] [] [] [] [0] 1 hR hI (.cons (by omega : (0 : Int) ≤ (0 : Int) ∧ (0 : Int) ≤ (c : Nat)) .nil) fun e16 a16 w16 hag hR hI => ?_
   replace hA := hA.trans hag (by decide)
   refine wp_seq (reg (is := [0, 1, 2, 3]) (by kernel_rfl) ?_)
   refine pZ tab [0, 1] [2, 3] 1 [(39, .rsl 0 0 nu c), (38, vS none 0 0)] [10] hR hI fun e17 a17 w17 hag hR hI => ?_
   replace hA := hA.trans hag (by decide)
   refine cO [vS none 0 0, .rsl 0 0 nu c] hI Tryz.func67 ?_
   replace hf0 := tf hA hf0
   replace hg0 := tg hA hg0
   have hzk := hR.rowRead (y := ⟨0, 102, 1, N, (ints .u64 zs)⟩) m0 hf0 rfl rfl hzd 0 nu (by omega) (c := c) (by omega) (by omega)
   refine (setAny_spec (C := fun b => b = headOf (e17.r 0)) hul0 hzk (by omega)).mono ?_
   rintro ex w18 ⟨rd, rl, rc, rs, rfl, hrl, hk, hrs, hrx_⟩
   replace hrs := hrs.up (C := Now hB)
   replace hgl := hgl.next hB hR hk
   replace hx := hx.next hB hR hk
   obtain ⟨hB, hR⟩ := nx hB hR hk
   refine ⟨_, rfl, ?_⟩
   replace hI := hI.pt 40 (vS rd rl rc) [40, 39, 38, 10]
   refine pZ tab [3] [] 1 [(11, vS rd rl rc)] [10] hR hI fun e19 a19 w19 hag hR hI => ?_
   have hA := hag
   refine ops_nil (then_n ?_)
   refine wp_ret ?_
   refine ret_then ?_
   refine outZ tab (xs := [.rsl 0 0 0 c, vS rd rl rc]) (.inl rfl) hR hI rfl (by kernel_rfl) ?_
   replace hf0 := tf hA hf0
   replace hg0 := tg hA hg0
   exact ⟨0, zs, rd, rl, rc, rs, by rw [← hg0]; rfl, hrl, hB.fin hR, (hR.rowFin (y := ⟨0, 102, 1, N, (ints .u64 zs)⟩) m0 hf0 rfl hg0), hzl, hzd, by omega, by rw [seg_zero]; exact .inl rfl, by rw [seg_zero, nval_nil, Nat.div_eq_of_lt hlt], hrs.fin hB hR, by rw [hrx_]; exact htu, by rw [hrx_, Nat.mod_eq_of_lt hlt]⟩
  ·
   replace hI := hI.rb 35 hc15
   try simp only [tolds] at hc15
   have hge : nval vs ≤ nval (seg zs 0 nu) := cmpN_ge.1 (by omega)
   have hlen : vs.length ≤ nu := by rw [← hul0]; exact nlen_le_of_nval hud0 htv hge
   refine wp_skip ?_
   refine then_n ?_
   refine wp_seq ?_
   refine rZ tab 1 [(42, vB true)] [0, 1, 2, 3, 4] hR hI fun e20 a20 w20 hag hR hI => ?_
   replace hA := hA.trans hag (by decide)
   refine cnd_t hI (by kernel_rfl) ?_
   refine wp_seq (reg (is := [0, 1]) (by kernel_rfl) ?_)
   refine cO [] hI Tryz.func68 ?_
   refine (getStack_spec (C := Now hB)).mono ?_
   rintro ex w21 ⟨b, rfl, hk, hgb, hnb⟩
   replace hk := keepBut0 hk
   have hkF_ := hR.keepN hk all_no
   replace hf0 := tf hA hf0
   replace hg0 := tg hA hg0
   have hR_ : Rel (Grow _ _ w21) w21 e20 [] [⟨0, 102, 1, N, (ints .u64 zs)⟩] w21 := hR.turnedN hk all_no all_no (all_cons ⟨⟨_, m0, rfl⟩, .inl ⟨m0, fun g_ he_ => own_ne hf0 (fun hm_ => by cases hm_) he_⟩⟩ all_no)
   have hM_ : ∀ b_ ∈ ([b] : List Nat), _ ≤ b_ := (all_cons hgb all_no)
   replace hgl := hgl.nextN hB hR hkF_ hM_
   replace hx := hx.nextN hB hR hkF_ hM_
   have hB_ := hB.nextN hR hkF_ hM_; have hR1_ := hR_.shrinkN (M := [b])
   obtain ⟨hfr1_, hfr2_⟩ := hR.fresh (H' := []) (G' := [⟨0, 102, 1, N, (ints .u64 zs)⟩]) all_no (all_cons ⟨_, m0, rfl⟩ all_no) hgb
   obtain ⟨hag_, hR2_⟩ := hR1_.gotBlk (L := []) (k := 1) (b := b) (t := 124) (cs := [.v (.pointer none)]) (by kernel_rfl) (by kernel_rfl) hnb (fun hf_ => hf_.2.1 m0) hfr1_ hfr2_
   replace hI := hI.agreeB (H := []) (G := []) (by kernel_rfl) hag_
   replace hf0 := tf hag_ hf0
   replace hg0 := tg hag_ hg0
   have hbk1 : (e20.addB 1 b).b 1 = b := addB_b _ _ _
   replace hR1_ := hR2_; clear hR2_
   replace hR := hR1_; clear hR_ hR1_
   replace hB := hB_; clear hB_ hk hkF_ 
   refine ⟨_, rfl, ?_⟩
   replace hI := hI.pt 43 (.p 1 0) [43, 42, 0, 1, 2, 3, 4]
   refine pZ tab [1] [] 2 [(1, .p 1 0)] [0, 2, 3, 4] hR hI fun e22 a22 w22 hag hR hI => ?_
   have hA := hag
   refine ops_nil (then_n ?_)
   refine reg (is := [0, 1]) (by kernel_rfl) ?_
   refine pZ tab [0] [1] 2 [(44, .p 1 0)] [1, 0, 2, 3, 4] hR hI fun e23 a23 w23 hag hR hI => ?_
   replace hA := hA.trans hag (by decide)
   refine deferOp (ys := [.p 1 0]) hI rfl rfl rfl ⟨_, rfl, rfl, rfl⟩ (by kernel_rfl) (fun a23 hI => ?_)
   replace hbk1 := tb hA hbk1
   replace hf0 := tf hA hf0
   replace hg0 := tg hA hg0
   rw [show (dens e23 [.p 1 0]).toArray = #[.pointer (some ⟨b, 0, none⟩)] from by simp [dens, den, hbk1]] at hI
   replace hI := hI.sl [44, 1, 0, 2, 3, 4] rfl
   refine ops_nil (then_n ?_)
   refine wp_seq (reg (is := [0, 1, 2, 3, 4, 5, 6, 7, 8, 9, 10]) (by kernel_rfl) ?_)
   refine pZ tab [0, 1, 2, 3, 4] [5, 6, 7, 8, 9, 10] 2 [(50, vS ad vs.length vc), (49, .rsl 0 0 nu c), (48, vS none 0 0), (47, .p 1 0), (46, .rsl 0 0 nu c)] [] hR hI fun e24 a24 w24 hag hR hI => ?_
   have hA := hag
   refine cO [.rsl 0 0 nu c, .p 1 0, vS none 0 0, .rsl 0 0 nu c, vS ad vs.length vc] hI Tryz.func70 ?_
   replace hbk1 := tb hA hbk1
   replace hf0 := tf hA hf0
   replace hg0 := tg hA hg0
   have hbz := hR.hgN m0 m0 hf0
   have hq1_ := hR.blk ⟨1, 124, [.v (.pointer none)]⟩ m0
   have hq0_ := hR.rowCells (y := ⟨0, 102, 1, N, (ints .u64 zs)⟩) m0 hf0 rfl
   refine (divLargeBN_spec (C := Now hB) (m := nu - vs.length) (by omega) hq1_.1 hq0_.1 hzl hzm (fun h_ => hq1_.2 h_.2) (fun h_ => hq0_.2 h_.2) hbz (hgl.now hB hR) (hx.now hB hR) hzd (by omega) (by omega) (by omega) (by omega) (by omega) (by omega) htop).mono ?_
   rintro ex w25 ⟨b2, gi, ci, mq, zs2, rd, rl, rc, rs, rfl, hrl, hk, hw0, hz2l, hz2d, hmq, htq, hvq, hrs, htr, hvr, hw1, hwi, hgb2, hci⟩
   replace hrs := hrs.upN (C := Now hB)
   have hkF_ := hR.keepN hk (all_cons hq1_.2 (all_cons hq0_.2 all_no))
   have hR_ : Rel (Grow _ _ w25) w25 e24 [⟨1, 124, [.v (.pointer (some ⟨b2, 0, none⟩))]⟩] [⟨0, 102, 1, N, (ints .u64 zs2)⟩] w25 := hR.turnedN hk (all_cons hq1_.2 (all_cons hq0_.2 all_no)) (all_cons ⟨⟨_, m0, rfl⟩, .inr hw1⟩ all_no) (all_cons ⟨⟨_, m0, rfl⟩, .inr (by have hl_ := hR.rowLen (y := ⟨0, 102, 1, N, (ints .u64 zs)⟩) m0; dsimp only at hl_; rw [show e24.r 0 = _ from hf0]; exact ownsRow_fullN hw0 (by rw [ints_length]; first | exact hzl | exact hz2l) (hzm))⟩ all_no)
   have hM_ : ∀ b_ ∈ ([b2] : List Nat), _ ≤ b_ := (all_cons hgb2 all_no)
   replace hgl := hgl.nextN hB hR hkF_ hM_
   replace hx := hx.nextN hB hR hkF_ hM_
   have hB_ := hB.nextN hR hkF_ hM_; have hR1_ := hR_.shrinkN (M := [b2])
   obtain ⟨hfr1_, hfr2_⟩ := hR.fresh (H' := [⟨1, 124, [.v (.pointer (some ⟨b2, 0, none⟩))]⟩]) (G' := [⟨0, 102, 1, N, (ints .u64 zs2)⟩]) (all_cons ⟨_, m0, rfl⟩ all_no) (all_cons ⟨_, m0, rfl⟩ all_no) hgb2
   obtain ⟨hag_, hR2_⟩ := hR1_.gotBlk (L := []) (k := 2) (b := b2) (t := 148) (cs := [vS (some ⟨gi, 0, none⟩) 0 ci]) (by kernel_rfl) (by kernel_rfl) hwi (fun hf_ => hf_.2.1 m0) hfr1_ hfr2_
   replace hI := hI.agreeB (H := []) (G := []) (by kernel_rfl) hag_
   replace hf0 := tf hag_ hf0
   replace hg0 := tg hag_ hg0
   replace hbk1 := tb hag_ hbk1
   have hbk2 : (e24.addB 2 b2).b 2 = b2 := addB_b _ _ _
   replace hR1_ := hR2_; clear hR2_
   replace hR := hR1_; clear hR_ hR1_
   replace hB := hB_; clear hB_ hk hkF_ hq1_ hw1 hq0_ hw0
   refine ⟨_, rfl, ?_⟩
   replace hI := hI.pt 51 (.tup [.rsl 0 0 mq c, vS rd rl rc]) [51, 50, 49, 48, 47, 46]
   refine pZ tab [6, 7, 8, 9, 10] [] 3 [(11, vS rd rl rc), (10, .rsl 0 0 mq c)] [] hR hI fun e26 a26 w26 hag hR hI => ?_
   have hA := hag
   refine ops_nil (then_n ?_)
   refine wp_ret ?_
   replace hbk1 := tb hA hbk1
   replace hbk2 := tb hA hbk2
   replace hf0 := tf hA hf0
   replace hg0 := tg hA hg0
   have hne_ := hR.hh _ m1 _ m0 (by dsimp only; decide)
   dsimp only at hne_
   rw [hbk1, hbk2] at hne_
   have hq1_ := hR.blk ⟨1, 124, [.v (.pointer (some ⟨b2, 0, none⟩))]⟩ m1
   have hq2_ := hR.blk ⟨2, 148, [vS (some ⟨gi, 0, none⟩) 0 ci]⟩ m0
   refine outC hI (.inl rfl) Tryz.func69 rfl rfl (freeP_spec (C := fun _ => False) (by rw [← hbk1]; exact hq1_.1) (by rw [← hbk2]; exact hq2_.1) hne_ (fun h_ => h_) (fun h_ => h_) hci) ?_
   rintro ex w27 ⟨rfl, hk, hw1, hw2⟩
   rw [← hbk1] at hk hw1
   rw [← hbk2] at hk hw2
   have hkF_ := hR.keepN hk (all_cons hq1_.2 (all_cons hq2_.2 all_no))
   have hR_ : Rel (Grow _ _ w27) w27 e26 [⟨2, 148, [vS (some ⟨gi, 0, none⟩) 0 ci]⟩, ⟨1, 124, [.v (.pointer (some ⟨b2, 0, none⟩))]⟩] [⟨0, 102, 1, N, (ints .u64 zs2)⟩] w27 := hR.turnedN hk (all_cons hq1_.2 (all_cons hq2_.2 all_no)) (all_cons ⟨⟨_, m0, rfl⟩, .inr hw2⟩ (all_cons ⟨⟨_, m1, rfl⟩, .inr hw1⟩ all_no)) (all_cons ⟨⟨_, m0, rfl⟩, .inl ⟨m0, fun g_ he_ => own_ne hf0 (notin2 (hR.ghN m1 m0 hf0) (notin2 (hR.ghN m0 m0 hf0) (fun hm_ => by cases hm_))) he_⟩⟩ all_no)
   replace hgl := hgl.nextF hB hR hkF_
   replace hrs := hrs.nextF hB hR hkF_
   replace hx := hx.nextF hB hR hkF_
   have hB_ := hB.nextF hR hkF_
   replace hR := hR_; clear hR_
   replace hB := hB_; clear hB_ hk hkF_ hq1_ hw1 hq2_ hw2
   refine ⟨_, rfl, _, resS_run tab (xs := [.rsl 0 0 mq c, vS rd rl rc]) hR hI rfl (by kernel_rfl), ?_⟩
   exact ⟨mq, zs2, rd, rl, rc, rs, by rw [← hg0]; rfl, hrl, hB.fin hR, (hR.rowFin (y := ⟨0, 102, 1, N, (ints .u64 zs2)⟩) m0 hf0 rfl hg0), hz2l, hz2d, by omega, htq, hvq, hrs.fin hB hR, htr, hvr⟩

theorem div_spec {C : Nat → Prop} {w : World} {g N c nu vc : Nat} {zs vs : List Nat} {ad : Option Addr} (hz : w.heap[g]? = some (.cells (ints .u64 zs).toArray 102 (0, 0))) (hzl : zs.length = N) (hzm : N ≤ 9223372036854775807) (hCg : ¬ C g) (hgl : Sl .i64 18446744073709551616 C w (some ⟨0, 0, none⟩) 1 [40]) (hx : Sl .u64 18446744073709551616 C w ad vc vs) (hzd : Ndig zs) (hfit : nu ≤ N) (hc : nu ≤ c) (hcm : c ≤ 9223372036854775807) (hnu : nu ≤ 60000) (htu : Ntrim (seg zs 0 nu)) (htv : Ntrim vs) (hV0 : 0 < nval vs) (hn3 : vs.length ≤ 4) :
  Calls P 54 #[.slice (some ⟨g, 0, none⟩) nu c, .pointer none, .slice none 0 0, .slice (some ⟨g, 0, none⟩) nu c, .slice ad vs.length vc] w fun ex w' => ∃ mq zs2 ad2 l2 c3 rs, ex = .returned (.tuple #[.slice (some ⟨g, 0, none⟩) mq c, .slice ad2 l2 c3]) ∧ rs.length = l2 ∧ Keep (ButN [g] w) w w' ∧ w'.heap[g]? = some (.cells (ints .u64 zs2).toArray 102 (0, 0)) ∧ zs2.length = N ∧ Ndig zs2 ∧ mq ≤ nu ∧ Ntrim (seg zs2 0 mq) ∧ nval (seg zs2 0 mq) = nval (seg zs 0 nu) / nval vs ∧ Sl .u64 18446744073709551616 (Grow C w w') w' ad2 c3 rs ∧ Ntrim rs ∧ nval rs = nval (seg zs 0 nu) % nval vs := by
 rcases Nat.lt_or_ge vs.length 4 with h | h
 · exact divA_spec hz hzl hzm hCg hgl hx hzd hfit hc hcm hnu htu htv hV0 (by omega)
 · exact divB_spec hz hzl hzm hCg hgl hx hzd hfit hc hcm hnu htu htv hV0 (by omega)

end Go.Proofs.YtmendapdibnbdaaGreatDoor.Stride
