/- Walks of the program's functions, printed by a program of mine (walk.py) over the words of Stride: each function's contract. -/
import Derived.Test.YtmendapdibnbdaaGreatDoorDeD
import Derived.LaidEqlPtr
namespace Go.Proofs.YtmendapdibnbdaaGreatDoor.Stride
open Go Go.RowKit Go.Proofs.YtmendapdibnbdaaGreatDoor.Mag
set_option linter.unusedVariables false
set_option linter.unusedSimpArgs false
set_option maxHeartbeats 4000000
set_option maxRecDepth 100000
theorem divBasic_spec {C : Nat → Prop} {w : World} {b gq gu NQ NU cq cu mb vc : Nat} {zq zu vs : List Nat} {ad : Option Addr} (hb : w.heap[b]? = some (.cells #[.pointer none] 124)) (hzq : w.heap[gq]? = some (.cells (ints .u64 zq).toArray 102)) (hql : zq.length = NQ) (hqm : NQ ≤ 9223372036854775807) (hzu : w.heap[gu]? = some (.cells (ints .u64 zu).toArray 102)) (hul : zu.length = NU) (hum : NU ≤ 9223372036854775807) (hCb : ¬ C b) (hCq : ¬ C gq) (hCu : ¬ C gu) (hbq : b ≠ gq) (hbu : b ≠ gu) (hqu : gq ≠ gu) (hud : Ndig zu) (hx : Sl .u64 18446744073709551616 C w ad vc vs) (hn2 : 2 ≤ vs.length) (hn3 : vs.length ≤ 3) (hmb1 : 1 ≤ mb) (hmb : mb ≤ 65536) (hfq : mb ≤ NQ) (hcq : mb ≤ cq) (hfu : vs.length + mb ≤ NU) (hcu : vs.length + mb ≤ cu) (hcum : cu ≤ 9223372036854775807) (htop : 9223372036854775808 ≤ vs.getD (vs.length - 1) 0) (htu : zu.getD (vs.length + mb - 1) 0 < vs.getD (vs.length - 1) 0) (hW : nval (zu.drop mb) < nval vs) (hV0 : 0 < nval vs) :
    Calls P 86 #[.slice (some ⟨gq, 0, none⟩) mb cq, .pointer (some ⟨b, 0, none⟩), .slice (some ⟨gu, 0, none⟩) (vs.length + mb) cu, .slice ad vs.length vc] w fun ex w' => ∃ (ds us : List Nat), ex = .returned (.tuple #[]) ∧ Keep (ButN [b, gq, gu] w) w w' ∧ w'.heap[b]? = some (.cells #[.pointer none] 124) ∧ w'.heap[gq]? = some (.cells (ints .u64 (put zq 0 ds)).toArray 102) ∧ w'.heap[gu]? = some (.cells (ints .u64 us).toArray 102) ∧ ds.length = mb ∧ Ndig ds ∧ us.length = NU ∧ Ndig us ∧ nval us < nval vs ∧ nval zu = nval ds * nval vs + nval us := by
 refine doorD (e := (((e0.addB 0 b).addR 1 (.slice (some ⟨gq, 0, none⟩) NQ NQ)).addR 2 (.slice (some ⟨gu, 0, none⟩) NU NU))) (vs := [.rsl 1 0 mb cq, .p 0 0, .rsl 2 0 (vs.length + mb) cu, vS ad vs.length vc]) (n := 201) (m := 4) Tryz.func86 rfl rfl rfl (by decide) fun a_ hI => ?_
 replace hI : Is 201 [] (((e0.addB 0 b).addR 1 (.slice (some ⟨gq, 0, none⟩) NQ NQ)).addR 2 (.slice (some ⟨gu, 0, none⟩) NU NU)) [(0, .rsl 1 0 mb cq), (1, .p 0 0), (2, .rsl 2 0 (vs.length + mb) cu), (3, vS ad vs.length vc)] a_ := hI
 have hbk0 : (((e0.addB 0 b).addR 1 (.slice (some ⟨gq, 0, none⟩) NQ NQ)).addR 2 (.slice (some ⟨gu, 0, none⟩) NU NU)).b 0 = b := rfl
 have hf1 : Full (((e0.addB 0 b).addR 1 (.slice (some ⟨gq, 0, none⟩) NQ NQ)).addR 2 (.slice (some ⟨gu, 0, none⟩) NU NU)) 1 NQ := rfl; have hg1 : headOf ((((e0.addB 0 b).addR 1 (.slice (some ⟨gq, 0, none⟩) NQ NQ)).addR 2 (.slice (some ⟨gu, 0, none⟩) NU NU)).r 1) = gq := rfl
 have hf2 : Full (((e0.addB 0 b).addR 1 (.slice (some ⟨gq, 0, none⟩) NQ NQ)).addR 2 (.slice (some ⟨gu, 0, none⟩) NU NU)) 2 NU := rfl; have hg2 : headOf ((((e0.addB 0 b).addR 1 (.slice (some ⟨gq, 0, none⟩) NQ NQ)).addR 2 (.slice (some ⟨gu, 0, none⟩) NU NU)).r 2) = gu := rfl
 have hR : Rel (ButN [b, gq, gu] w) w (((e0.addB 0 b).addR 1 (.slice (some ⟨gq, 0, none⟩) NQ NQ)).addR 2 (.slice (some ⟨gu, 0, none⟩) NU NU)) [⟨0, 124, [.v (.pointer none)]⟩] [⟨1, 102, 1, NQ, (ints .u64 zq)⟩, ⟨2, 102, 1, NU, (ints .u64 zu)⟩] w := Rel.startN (fun k_ h_ => h_.1) (all_cons ⟨hb, (fun hm_ => hm_.2 m0)⟩ all_no) (all_cons ⟨ownsRow_fullN hzq (by first | exact hql | (rw [ints_length]; exact hql)) hqm, fun g_ he_ => by cases he_; exact (fun hm_ => hm_.2 m1)⟩ (all_cons ⟨ownsRow_fullN hzu (by first | exact hul | (rw [ints_length]; exact hul)) hum, fun g_ he_ => by cases he_; exact (fun hm_ => hm_.2 m2)⟩ all_no)) (all_cons (all_cons (fun hn_ => absurd rfl hn_) all_no) all_no) (all_cons (all_cons (fun he_ => hbq (Option.some.inj he_).symm) (all_cons (fun he_ => hbu (Option.some.inj he_).symm) all_no)) all_no) (all_cons (all_cons (fun hn_ => absurd rfl hn_) (all_cons (fun _ g_ h1_ h2_ => hqu ((Option.some.inj h1_).trans (Option.some.inj h2_).symm)) all_no)) (all_cons (all_cons (fun _ g_ h1_ h2_ => (Ne.symm hqu) ((Option.some.inj h1_).trans (Option.some.inj h2_).symm)) (all_cons (fun hn_ => absurd rfl hn_) all_no)) all_no))
 have hB : BaseD (ButN [b, gq, gu] w) C w C (ButN [b, gq, gu] w) w := BaseD.start (fun k_ hC_ hlt_ => ⟨hlt_, notin2 (fun he_ => hCb (he_ ▸ hC_)) (notin2 (fun he_ => hCq (he_ ▸ hC_)) (notin2 (fun he_ => hCu (he_ ▸ hC_)) (fun hm_ => by cases hm_)))⟩)
 have hrx := hx.room; have hmx := hx.max; have hxd := hx.dig
 obtain ⟨v1, hv1⟩ : ∃ x, x = vs.getD (vs.length - 1) 0 := ⟨_, rfl⟩
 obtain ⟨v2, hv2⟩ : ∃ x, x = vs.getD (vs.length - 2) 0 := ⟨_, rfl⟩
 have hv1b : v1 < 18446744073709551616 := hv1 ▸ ndig_get hxd _
 have hv2b : v2 < 18446744073709551616 := hv2 ▸ ndig_get hxd _
 have htp := htop
 rw [← hv1] at htp
 have hWh : Held (nval (zu.drop mb) < nval vs) := held hW
 clear hW
 refine rZ tab 3 [(8, vI vs.length)] [0, 1, 2, 3] hR hI fun e1 a1 w1 hag hR hI => ?_
 have hA := hag
 refine rK tab 3 [(3, .eq (.int .i64 (mb : Int)))] [] [(9, vI mb)] [8, 0, 1, 2, 3] [] [0] [] [1, 2] 3 hR hI (.cons (wI (((vs.length + mb : Nat) : Int) - (vs.length : Int)) (mb : Int) (by omega) (by omega)) .nil) fun e2 a2 w2 hag hR hI => ?_
 replace hA := hA.trans hag (by decide)
 refine wp_seq (reg (is := [0, 1, 2, 3]) (by kernel_rfl) ?_)
 refine pZ tab [0, 1] [2, 3] 3 [(31, .p 0 0), (30, .p 0 0)] [9, 8, 0, 1, 2, 3] hR hI fun e3 a3 w3 hag hR hI => ?_
 replace hA := hA.trans hag (by decide)
 refine cO [.p 0 0] hI Tryz.func82 ?_
 have hq0_ := hR.blk ⟨0, 124, [.v (.pointer none)]⟩ m0
 refine (saveN_spec (C := Now hB) hq0_.1 (fun h_ => hq0_.2 h_.2)).mono ?_
 rintro ex w4 ⟨rfl, hk, hw0⟩
 have hkF_ := hR.keepN hk (all_cons hq0_.2 all_no)
 replace hbk0 := tb hA hbk0
 replace hf1 := tf hA hf1
 replace hg1 := tg hA hg1
 replace hf2 := tf hA hf2
 replace hg2 := tg hA hg2
 have hR_ : Rel (Grow _ _ w4) w4 e3 [⟨0, 124, [.v (.pointer none)]⟩] [⟨1, 102, 1, NQ, (ints .u64 zq)⟩, ⟨2, 102, 1, NU, (ints .u64 zu)⟩] w4 := hR.turnedN hk (all_cons hq0_.2 all_no) (all_cons ⟨⟨_, m0, rfl⟩, .inr hw0⟩ all_no) (all_cons ⟨⟨_, m0, rfl⟩, .inl ⟨m0, fun g_ he_ => own_ne hf1 (notin2 (hR.ghN m0 m0 hf1) (fun hm_ => by cases hm_)) he_⟩⟩ (all_cons ⟨⟨_, m1, rfl⟩, .inl ⟨m1, fun g_ he_ => own_ne hf2 (notin2 (hR.ghN m0 m1 hf2) (fun hm_ => by cases hm_)) he_⟩⟩ all_no))
 replace hx := hx.nextF hB hR hkF_
 have hB_ := hB.nextF hR hkF_
 replace hR := hR_; clear hR_
 replace hB := hB_; clear hB_ hk hkF_ hq0_ hw0
 refine ⟨_, rfl, ?_⟩
 replace hI := hI.pt 32 (.v (.int .i64 0)) [32, 31, 30, 9, 8, 0, 1, 2, 3]
 refine deferOp (ys := [.p 0 0, .v (.int .i64 0)]) hI rfl rfl rfl ⟨_, rfl, rfl, rfl⟩ (by kernel_rfl) (fun a4 hI => ?_)
 rw [show (dens e3 [.p 0 0, .v (.int .i64 0)]).toArray = #[.pointer (some ⟨b, 0, none⟩), .int .i64 0] from by simp [dens, den, hbk0]] at hI
 replace hI := hI.sl [32, 31, 30, 9, 8, 0, 1, 2, 3] rfl
 refine ops_nil (then_n ?_)
 refine wp_seq (reg (is := [0, 1, 2, 3, 4]) (by kernel_rfl) ?_)
 refine pK tab [0, 1, 2] [3, 4] 3 [(2, .eq (.int .i64 ((vs.length + 1 : Nat) : Int)))] [] [(35, vI (vs.length + 1)), (33, .p 0 0)] [9, 8, 0, 2, 3] [] [0] [] [1, 2] 3 hR hI (.cons (wI ((vs.length : Int) + (1 : Int)) ((vs.length + 1 : Nat) : Int) (by omega) (by omega)) .nil) fun e5 a5 w5 hag hR hI => ?_
 have hA := hag
 refine cO [.p 0 0, vI (vs.length + 1)] hI Tryz.func84 ?_
 have hq0_ := hR.blk ⟨0, 124, [.v (.pointer none)]⟩ m0
 refine (natS_spec (C := Now hB) (n := vs.length + 1) hq0_.1 (fun h_ => hq0_.2 h_.2) (by omega) (by omega)).mono ?_
 rintro ex w6 ⟨g1, c1, hz0, rfl, hk, hw0, hge, hwg, hhl, hc1, hc2, hhd⟩
 have hkF_ := hR.keepN hk (all_cons hq0_.2 all_no)
 replace hbk0 := tb hA hbk0
 replace hf1 := tf hA hf1
 replace hg1 := tg hA hg1
 replace hf2 := tf hA hf2
 replace hg2 := tg hA hg2
 have hR_ : Rel (Grow _ _ w6) w6 e5 [⟨0, 124, [.v (.pointer none)]⟩] [⟨1, 102, 1, NQ, (ints .u64 zq)⟩, ⟨2, 102, 1, NU, (ints .u64 zu)⟩] w6 := hR.turnedN hk (all_cons hq0_.2 all_no) (all_cons ⟨⟨_, m0, rfl⟩, .inr hw0⟩ all_no) (all_cons ⟨⟨_, m0, rfl⟩, .inl ⟨m0, fun g_ he_ => own_ne hf1 (notin2 (hR.ghN m0 m0 hf1) (fun hm_ => by cases hm_)) he_⟩⟩ (all_cons ⟨⟨_, m1, rfl⟩, .inl ⟨m1, fun g_ he_ => own_ne hf2 (notin2 (hR.ghN m0 m1 hf2) (fun hm_ => by cases hm_)) he_⟩⟩ all_no))
 have hM_ : ∀ b_ ∈ ([g1] : List Nat), _ ≤ b_ := (all_cons hge all_no)
 replace hx := hx.nextN hB hR hkF_ hM_
 have hB_ := hB.nextN hR hkF_ hM_; have hR1_ := hR_.shrinkN (M := [g1])
 obtain ⟨hfr1_, hfr2_⟩ := hR.fresh (H' := [⟨0, 124, [.v (.pointer none)]⟩]) (G' := [⟨1, 102, 1, NQ, (ints .u64 zq)⟩, ⟨2, 102, 1, NU, (ints .u64 zu)⟩]) (all_cons ⟨_, m0, rfl⟩ all_no) (all_cons ⟨_, m0, rfl⟩ (all_cons ⟨_, m1, rfl⟩ all_no)) hge
 obtain ⟨hag_, hR2_⟩ := hR1_.gotRow (L := []) (k := 3) (g := g1) (n := c1) (t := 102) (xs := (ints .u64 hz0)) (by kernel_rfl) hwg (by rw [ints_length]; exact hhl) (hc2) (fun hf_ => hf_.2.1 m0) hfr1_ hfr2_
 replace hI := hI.agreeB (H := []) (G := []) (by kernel_rfl) hag_
 replace hf1 := tf hag_ hf1
 replace hg1 := tg hag_ hg1
 replace hf2 := tf hag_ hf2
 replace hg2 := tg hag_ hg2
 replace hbk0 := tb hag_ hbk0
 have hf3 : Full (e5.addR 3 (.slice (some ⟨g1, 0, none⟩) c1 c1)) 3 c1 := full_addR _ _ _ _; have hnew3 : headOf ((e5.addR 3 (.slice (some ⟨g1, 0, none⟩) c1 c1)).r 3) = g1 := head_addR _ _ _ _
 replace hR := hR2_; clear hR2_ hR_ hR1_
 replace hB := hB_; clear hB_ hk hkF_ hq0_ hw0
 refine ⟨_, rfl, ?_⟩
 replace hI := hI.pt 36 (.rsl 3 0 (vs.length + 1) c1) [36, 35, 33, 9, 8, 0, 2, 3]
 refine pZ tab [4] [] 4 [(10, .rsl 3 0 (vs.length + 1) c1)] [9, 8, 0, 2, 3] hR hI fun e7 a7 w7 hag hR hI => ?_
 have hA := hag
 refine ops_nil (then_n ?_)
 refine rK tab 4 [(2, .eq (.int .i64 ((vs.length - 1 : Nat) : Int))), (4, .val (vU (vs.getD (vs.length - 1) 0)))] [] [(11, vU (vs.getD (vs.length - 1) 0))] [10, 9, 8, 0, 2, 3] [] [0] [] [3, 1, 2] 4 hR hI (.cons (wI ((vs.length : Int) - (1 : Int)) ((vs.length - 1 : Nat) : Int) (by omega) (by omega)) (.cons (by omega : (0 : Int) ≤ ((vs.length - 1 : Nat) : Int) ∧ ((vs.length - 1 : Nat) : Int) < (vs.length : Int)) (.cons (nats_some (i := vs.length - 1) (hx.cells.mono hB.cls) (by omega)) (.cons (nats_load (i := vs.length - 1) (m := 1) (hx.cells.mono hB.cls) (by omega)) .nil)))) fun e8 a8 w8 hag hR hI => ?_
 replace hA := hA.trans hag (by decide)
 replace hI := hI.re 11 (vU v1) rfl (congrArg (Value.int .u64) (by rw [← hv1]))
 refine wp_seq (reg (is := [0, 1, 2]) (by kernel_rfl) ?_)
 refine pZ tab [0] [1, 2] 4 [(42, vU v1)] [11, 10, 9, 8, 0, 2, 3] hR hI fun e9 a9 w9 hag hR hI => ?_
 replace hA := hA.trans hag (by decide)
 refine cO [vU v1] hI Tryz.func106 ?_
 refine (reciprocalWord_spec (C := C) (d := v1) (by omega) hv1b).mono ?_
 rintro ex w10 ⟨m, rfl, hk, hm, hmb2⟩
 replace hR := hR.same hk; clear hk
 refine ⟨_, rfl, ?_⟩
 replace hI := hI.pt 43 (vU m) [43, 42, 11, 10, 9, 8, 0, 2, 3]
 refine pZ tab [2] [] 4 [(12, vU m)] [11, 10, 9, 8, 0, 2, 3] hR hI fun e11 a11 w11 hag hR hI => ?_
 replace hA := hA.trans hag (by decide)
 refine ops_nil (then_n ?_)
 refine rZ tab 4 [(13, .v (.int .u64 0))] [12, 11, 10, 9, 8, 0, 2, 3] hR hI fun e12 a12 w12 hag hR hI => ?_
 replace hA := hA.trans hag (by decide)
 refine rZ tab 4 [(14, vI mb)] [13, 12, 11, 10, 9, 8, 0, 2, 3] hR hI fun e13 a13 w13 hag hR hI => ?_
 replace hA := hA.trans hag (by decide)
 refine wp_block ?_
 rw [(put_nil.symm : zq = put zq (0 + (mb + 1)) [])] at hR
 replace hI := hI.re 14 (.v (.int .i64 (((mb + 1 : Nat) : Int) - 1))) rfl (congrArg (Value.int .i64) (by omega))
 replace hbk0 := tb hA hbk0
 replace hf1 := tf hA hf1
 replace hg1 := tg hA hg1
 replace hf2 := tf hA hf2
 replace hg2 := tg hA hg2
 replace hf3 := tf hA hf3
 replace hnew3 := tg hA hnew3
 refine lpM (γ := Nat × Nat × List Nat × List Nat × List Nat) (fun (J, ujn, ds, us, hq) => (⟨[(0, .rsl 1 0 mb cq), (2, .rsl 2 0 (vs.length + mb) cu), (3, vS ad vs.length vc), (8, vI vs.length), (9, vI mb), (10, .rsl 3 0 (vs.length + 1) c1), (11, vU v1), (12, vU m), (13, vU ujn), (14, .v (.int .i64 ((J : Int) - 1)))], [⟨0, 124, [.v (.pointer none)]⟩], [⟨3, 102, 1, c1, (ints .u64 hq)⟩, ⟨1, 102, 1, NQ, (ints .u64 (put zq (0 + J) ds))⟩, ⟨2, 102, 1, NU, (ints .u64 us)⟩], 4⟩ : Sy)) (fun (J, ujn, ds, us, hq) e C F wb => ((Full e 1 NQ) ∧ (headOf (e.r 1) = gq) ∧ (Full e 2 NU) ∧ (headOf (e.r 2) = gu) ∧ (Full e 3 c1) ∧ (headOf (e.r 3) = g1) ∧ (e.b 0 = b)) ∧ (Sl .u64 18446744073709551616 C wb ad vc vs ∧ J ≤ mb + 1 ∧ ds.length = mb - J ∧ Ndig ds ∧ us.length = NU ∧ Ndig us ∧ hq.length = c1 ∧ Ndig hq ∧ ujn < 18446744073709551616 ∧ DvInv zu us ds vs J ujn mb)) (fun (J, ujn, ds, us, hq) => J) (mb + 1, 0, [], zu, hz0) hB (⟨⟨hf1, hg1, hf2, hg2, hf3, hnew3, hbk0⟩, ⟨hx, by omega, by rw [List.length_nil]; omega, (fun d h => by cases h), hul, hud, hhl, hhd, by decide, dvInv_start hxd hWh.out⟩⟩)
   (hR.sel [0] [3, 1, 2] (by kernel_rfl) (by kernel_rfl)) (hI.sel [0, 2, 3, 8, 9, 10, 11, 12, 13, 14] (by kernel_rfl)) ?_
 clear hR hI hB
 rintro ⟨J, ujn, ds, us, hq⟩ e14 C14 F14 wb14 a14 w14 hB hp hR hI
 dsimp only at hp hR hI
 obtain ⟨⟨hf1, hg1, hf2, hg2, hf3, hnew3, hbk0⟩, hp⟩ := hp
 clear hul hud hhl hhd
 obtain ⟨hx, hJ, hdl, hdd, hul, hud, hhl, hhd, hub, hInv⟩ := hp
 refine wp_seq ?_
 refine rZ tab 4 [(46, vB (decide (((J : Int) - 1) ≥ (0 : Int))))] [0, 2, 3, 8, 9, 10, 11, 12, 13, 14] hR hI fun e15 a15 w15 hag hR hI => ?_
 have hA := hag
 refine cnd (b := decide (((J : Int) - 1) ≥ (0 : Int))) hI (by kernel_rfl) (fun hc16 => ?_) (fun hc16 => ?_)
 ·
  replace hI := hI.rb 46 hc16
  try simp only [tolds] at hc16
  obtain ⟨j, hj⟩ : ∃ j, j = J - 1 := ⟨_, rfl⟩
  have hJ1 : J = j + 1 := by omega
  obtain ⟨u1, hu1⟩ : ∃ x, x = us.getD (j + vs.length - 1) 0 := ⟨_, rfl⟩
  obtain ⟨u2, hu2⟩ : ∃ x, x = us.getD (j + vs.length - 2) 0 := ⟨_, rfl⟩
  have hu1b : u1 < 18446744073709551616 := hu1 ▸ ndig_get hud _
  have hu2b : u2 < 18446744073709551616 := hu2 ▸ ndig_get hud _
  have hRd := dvRnd_of hInv hJ1 hud hxd hn2 htu hWh.out
  rw [← hu1, ← hu2, ← hv1, ← hv2] at hRd
  have hule := hRd.le hv2b
  replace hI := hI.re 14 (vI j) rfl (congrArg (Value.int .i64) (by omega))
  rw [(by rw [hJ1] : (put zq (0 + J) ds) = put zq (0 + (j + 1)) ds)] at hR
  refine wp_skip ?_
  refine then_n ?_
  refine wp_seq ?_
  refine wp_block ?_
  refine rZ tab 4 [(15, .v (.int .u64 18446744073709551615))] [14, 0, 2, 3, 8, 9, 10, 11, 12, 13] hR hI fun e17 a17 w17 hag hR hI => ?_
  replace hA := hA.trans hag (by decide)
  refine wp_seq ?_
  refine rZ tab 4 [(51, vB ((ujn : Int) != (v1 : Int)))] [15, 14, 0, 2, 3, 8, 9, 10, 11, 12, 13] hR hI fun e18 a18 w18 hag hR hI => ?_
  replace hA := hA.trans hag (by decide)
  refine join (γ := Nat) hR hI (fun qh => (⟨[(0, .rsl 1 0 mb cq), (2, .rsl 2 0 (vs.length + mb) cu), (3, vS ad vs.length vc), (8, vI vs.length), (9, vI mb), (10, .rsl 3 0 (vs.length + 1) c1), (11, vU v1), (12, vU m), (14, vI j), (15, vU qh)], [⟨0, 124, [.v (.pointer none)]⟩], [⟨3, 102, 1, c1, (ints .u64 hq)⟩, ⟨1, 102, 1, NQ, (ints .u64 (put zq (0 + (j + 1)) ds))⟩, ⟨2, 102, 1, NU, (ints .u64 us)⟩], 4⟩ : Sy)) (fun qh e => ((Full e 1 NQ) ∧ (headOf (e.r 1) = gq) ∧ (Full e 2 NU) ∧ (headOf (e.r 2) = gu) ∧ (Full e 3 c1) ∧ (headOf (e.r 3) = g1) ∧ (e.b 0 = b)) ∧ (DvEst us vs j mb qh ∧ qh < 18446744073709551616)) ?_ ?_
  ·
   refine cnd (b := ((ujn : Int) != (v1 : Int))) hI (by kernel_rfl) (fun hc19 => ?_) (fun hc19 => ?_)
   ·
    replace hI := hI.rb 51 hc19
    try simp only [tolds] at hc19
    have hult : ujn < v1 := by omega
    refine rZ tab 4 [] [14, 0, 2, 3, 8, 9, 10, 11, 12, 13] hR hI fun e20 a20 w20 hag hR hI => ?_
    replace hA := hA.trans hag (by decide)
    refine wp_seq (reg (is := [0, 1, 2, 3, 4, 5, 6, 7, 8, 9, 10, 11, 12, 13, 14, 15]) (by kernel_rfl) ?_)
    refine pK tab [0, 1, 2, 3, 4, 5, 6, 7, 8, 9] [10, 11, 12, 13, 14, 15] 4 [(4, .eq (.int .i64 ((j + vs.length : Nat) : Int))), (5, .eq (.int .i64 ((j + vs.length - 1 : Nat) : Int))), (7, .val (vU (us.getD (0 + (j + vs.length - 1)) 0)))] [] [(62, vU m), (61, vU v1), (60, vU (us.getD (0 + (j + vs.length - 1)) 0)), (53, vU ujn)] [14, 0, 2, 3, 8, 9, 10, 11, 12] [] [0] [] [3, 1, 2] 4 hR hI (.cons (wI ((j : Int) + (vs.length : Int)) ((j + vs.length : Nat) : Int) (by omega) (by omega)) (.cons (wI (((j + vs.length : Nat) : Int) - (1 : Int)) ((j + vs.length - 1 : Nat) : Int) (by omega) (by omega)) (.cons (by omega : (0 : Int) ≤ ((j + vs.length - 1 : Nat) : Int) ∧ ((j + vs.length - 1 : Nat) : Int) < ((vs.length + mb : Nat) : Int)) (.cons (ints_get (k := .u64) (xs := us) (i := 0 + (j + vs.length - 1)) (by omega)) (.cons (by omega : 0 + (j + vs.length - 1) < NU * 1) .nil))))) fun e21 a21 w21 hag hR hI => ?_
    replace hA := hA.trans hag (by decide)
    refine cO [vU ujn, vU (us.getD (0 + (j + vs.length - 1)) 0), vU v1, vU m] hI Tryz.func107 ?_
    rw [show us.getD (0 + (j + vs.length - 1)) 0 = u1 by rw [hu1, Nat.zero_add]]
    refine (divWW_spec (C := C) (x1 := ujn) (x0 := u1) hult hu1b (by omega) hv1b hm hmb2).mono ?_
    rintro ex w22 ⟨qh, r, rfl, hk, hqe, hrb, hqhb⟩
    replace hR := hR.same hk; clear hk
    refine ⟨_, rfl, ?_⟩
    replace hI := hI.pt 63 (.v (.tuple #[.int .u64 (qh : Int), .int .u64 (r : Int)])) [63, 62, 61, 60, 53, 14, 0, 2, 3, 8, 9, 10, 11, 12]
    refine pZ tab [11, 12, 13, 14, 15] [] 4 [(16, vU r), (15, vU qh)] [14, 0, 2, 3, 8, 9, 10, 11, 12] hR hI fun e23 a23 w23 hag hR hI => ?_
    replace hA := hA.trans hag (by decide)
    refine ops_nil (then_n ?_)
    refine rK tab 4 [(2, .eq (.int .i64 ((vs.length - 2 : Nat) : Int))), (4, .val (vU (vs.getD (vs.length - 2) 0)))] [] [(17, vU (vs.getD (vs.length - 2) 0))] [16, 15, 14, 0, 2, 3, 8, 9, 10, 11, 12] [] [0] [] [3, 1, 2] 4 hR hI (.cons (wI ((vs.length : Int) - (2 : Int)) ((vs.length - 2 : Nat) : Int) (by omega) (by omega)) (.cons (by omega : (0 : Int) ≤ ((vs.length - 2 : Nat) : Int) ∧ ((vs.length - 2 : Nat) : Int) < (vs.length : Int)) (.cons (nats_some (i := vs.length - 2) (hx.cells.mono hB.cls) (by omega)) (.cons (nats_load (i := vs.length - 2) (m := 1) (hx.cells.mono hB.cls) (by omega)) .nil)))) fun e24 a24 w24 hag hR hI => ?_
    replace hA := hA.trans hag (by decide)
    replace hI := hI.re 17 (vU v2) rfl (congrArg (Value.int .u64) (by rw [← hv2]))
    refine wp_seq (reg (is := [0, 1, 2, 3, 4, 5, 6, 7]) (by kernel_rfl) ?_)
    refine pZ tab [0, 1] [2, 3, 4, 5, 6, 7] 4 [(73, vU v2), (72, vU qh)] [17, 16, 15, 14, 0, 2, 3, 8, 9, 10, 11, 12] hR hI fun e25 a25 w25 hag hR hI => ?_
    replace hA := hA.trans hag (by decide)
    refine cO [vU qh, vU v2] hI Tryz.func114 ?_
    refine (mulWW_spec (C := C) (x := qh) (y := v2) hqhb hv2b).mono ?_
    rintro ex w26 ⟨x1, x2, rfl, hk, hxe, hx1b, hx2b⟩
    replace hR := hR.same hk; clear hk
    refine ⟨_, rfl, ?_⟩
    replace hI := hI.pt 74 (.v (.tuple #[.int .u64 (x1 : Int), .int .u64 (x2 : Int)])) [74, 73, 72, 17, 16, 15, 14, 0, 2, 3, 8, 9, 10, 11, 12]
    refine pZ tab [3, 4, 5, 6, 7] [] 4 [(19, vU x2), (18, vU x1)] [17, 16, 15, 14, 0, 2, 3, 8, 9, 10, 11, 12] hR hI fun e27 a27 w27 hag hR hI => ?_
    replace hA := hA.trans hag (by decide)
    refine ops_nil (then_n ?_)
    refine rK tab 4 [(3, .eq (.int .i64 ((j + vs.length : Nat) : Int))), (4, .eq (.int .i64 ((j + vs.length - 2 : Nat) : Int))), (6, .val (vU (us.getD (0 + (j + vs.length - 2)) 0)))] [] [(20, vU (us.getD (0 + (j + vs.length - 2)) 0))] [19, 18, 17, 16, 15, 14, 0, 2, 3, 8, 9, 10, 11, 12] [] [0] [] [3, 1, 2] 4 hR hI (.cons (wI ((j : Int) + (vs.length : Int)) ((j + vs.length : Nat) : Int) (by omega) (by omega)) (.cons (wI (((j + vs.length : Nat) : Int) - (2 : Int)) ((j + vs.length - 2 : Nat) : Int) (by omega) (by omega)) (.cons (by omega : (0 : Int) ≤ ((j + vs.length - 2 : Nat) : Int) ∧ ((j + vs.length - 2 : Nat) : Int) < ((vs.length + mb : Nat) : Int)) (.cons (ints_get (k := .u64) (xs := us) (i := 0 + (j + vs.length - 2)) (by omega)) (.cons (by omega : 0 + (j + vs.length - 2) < NU * 1) .nil))))) fun e28 a28 w28 hag hR hI => ?_
    replace hA := hA.trans hag (by decide)
    replace hI := hI.re 20 (vU u2) rfl (congrArg (Value.int .u64) (by rw [hu2, Nat.zero_add]))
    refine wp_block ?_
    have hRf := dvRef_first (j := j) (mb := mb) hRd (by omega) hrb hqe hxe hu2b
    replace hbk0 := tb hA hbk0
    replace hf1 := tf hA hf1
    replace hg1 := tg hA hg1
    replace hf2 := tf hA hf2
    replace hg2 := tg hA hg2
    replace hf3 := tf hA hf3
    replace hnew3 := tg hA hnew3
    refine lp (γ := Nat × Nat × Nat × Nat) (fun (qh, r, x1, x2) => (⟨[(0, .rsl 1 0 mb cq), (2, .rsl 2 0 (vs.length + mb) cu), (3, vS ad vs.length vc), (8, vI vs.length), (9, vI mb), (10, .rsl 3 0 (vs.length + 1) c1), (11, vU v1), (12, vU m), (14, vI j), (15, vU qh), (16, vU r), (17, vU v2), (18, vU x1), (19, vU x2), (20, vU u2)], [⟨0, 124, [.v (.pointer none)]⟩], [⟨3, 102, 1, c1, (ints .u64 hq)⟩, ⟨1, 102, 1, NQ, (ints .u64 (put zq (0 + (j + 1)) ds))⟩, ⟨2, 102, 1, NU, (ints .u64 us)⟩], 4⟩ : Sy)) (fun (qh, r, x1, x2) e => ((Full e 1 NQ) ∧ (headOf (e.r 1) = gq) ∧ (Full e 2 NU) ∧ (headOf (e.r 2) = gu) ∧ (Full e 3 c1) ∧ (headOf (e.r 3) = g1) ∧ (e.b 0 = b)) ∧ (r < 18446744073709551616 ∧ x1 < 18446744073709551616 ∧ x2 < 18446744073709551616 ∧ qh < 18446744073709551616 ∧ DvRef j mb ujn u1 u2 v1 v2 qh r x1 x2)) (fun (qh, r, x1, x2) => qh) (qh, r, x1, x2) (⟨⟨hf1, hg1, hf2, hg2, hf3, hnew3, hbk0⟩, ⟨by omega, hx1b, hx2b, hqhb, hRf⟩⟩)
      (hR.sel [0] [3, 1, 2] (by kernel_rfl) (by kernel_rfl)) (hI.sel [0, 2, 3, 8, 9, 10, 11, 12, 14, 15, 16, 17, 18, 19, 20] (by kernel_rfl)) ?_
    clear hR hI
    rintro ⟨qh, r, x1, x2⟩ e29 a29 w29 hp hR hI
    dsimp only at hp hR hI
    obtain ⟨⟨hf1, hg1, hf2, hg2, hf3, hnew3, hbk0⟩, hp⟩ := hp
    clear hqe hrb hqhb hxe hx1b hx2b hRf
    obtain ⟨hrb, hx1b, hx2b, hqhb, hRf⟩ := hp
    refine wp_seq ?_
    refine wp_seq (reg (is := [0, 1, 2, 3, 4]) (by kernel_rfl) ?_)
    refine pZ tab [0, 1, 2, 3] [4] 4 [(87, vU u2), (86, vU r), (85, vU x2), (84, vU x1)] [0, 2, 3, 8, 9, 10, 11, 12, 14, 15, 16, 17, 18, 19, 20] hR hI fun e30 a30 w30 hag hR hI => ?_
    have hA := hag
    refine cO [vU x1, vU x2, vU r, vU u2] hI Tryz.func115 ?_
    refine (greaterThan_spec (C := C) hx1b hx2b hrb hu2b).mono ?_
    rintro ex w31 ⟨rfl, hk⟩
    replace hR := hR.same hk; clear hk
    refine ⟨_, rfl, ?_⟩
    replace hI := hI.pt 88 (vB (decide (18446744073709551616 * r + u2 < 18446744073709551616 * x1 + x2))) [88, 87, 86, 85, 84, 0, 2, 3, 8, 9, 10, 11, 12, 14, 15, 16, 17, 18, 19, 20]
    refine ops_nil (then_n ?_)
    refine cnd (b := (decide (18446744073709551616 * r + u2 < 18446744073709551616 * x1 + x2))) hI (by kernel_rfl) (fun hc32 => ?_) (fun hc32 => ?_)
    ·
     replace hI := hI.rb 88 hc32
     try simp only [tolds] at hc32
     obtain ⟨hq1, hxv, hdn⟩ := hRf.down (by omega) hc32
     refine wp_skip ?_
     refine then_n ?_
     refine wp_block ?_
     refine rK tab 4 [(1, .eq (.int .u64 ((qh - 1 : Nat) : Int)))] [] [(15, vU (qh - 1))] [0, 2, 3, 8, 9, 10, 11, 12, 14, 16, 17, 18, 19, 20] [] [0] [] [3, 1, 2] 4 hR hI (.cons (congrArg (Value.int .u64) (by rw [wrap_inR (inR_u64 (by omega))]; omega : IntKind.u64.wrap ((qh : Int) - (1 : Int)) = ((qh - 1 : Nat) : Int))) .nil) fun e33 a33 w33 hag hR hI => ?_
     replace hA := hA.trans hag (by decide)
     refine rZ tab 4 [(16, .v (.int .u64 (IntKind.u64.wrap ((r : Int) + (v1 : Int)))))] [15, 0, 2, 3, 8, 9, 10, 11, 12, 14, 17, 18, 19, 20] hR hI fun e34 a34 w34 hag hR hI => ?_
     replace hA := hA.trans hag (by decide)
     refine wp_seq ?_
     refine rZ tab 4 [(96, vB (decide ((IntKind.u64.wrap ((r : Int) + (v1 : Int))) < (v1 : Int))))] [16, 15, 0, 2, 3, 8, 9, 10, 11, 12, 14, 17, 18, 19, 20] hR hI fun e35 a35 w35 hag hR hI => ?_
     replace hA := hA.trans hag (by decide)
     refine cnd (b := decide ((IntKind.u64.wrap ((r : Int) + (v1 : Int))) < (v1 : Int))) hI (by kernel_rfl) (fun hc36 => ?_) (fun hc36 => ?_)
     ·
      replace hI := hI.rb 96 hc36
      try simp only [tolds] at hc36
      rw [wrap_u64] at hc36
      have hov : 18446744073709551616 ≤ r + v1 := by omega
      refine wp_exit ?_
      refine exit_then ?_
      refine exit_miss (by decide) ?_
      refine exit_then ?_
      refine exit_hit ?_
      refine then_n ?_
      replace hbk0 := tb hA hbk0
      replace hf1 := tf hA hf1
      replace hg1 := tg hA hg1
      replace hf2 := tf hA hf2
      replace hg2 := tg hA hg2
      replace hf3 := tf hA hf3
      replace hnew3 := tg hA hnew3
      exact ⟨qh - 1, e35, ⟨⟨hf1, hg1, hf2, hg2, hf3, hnew3, hbk0⟩, (hdn 0 (18446744073709551616 * x1 + x2 - v2) (by omega)).out hRd (by omega) hu1b hu2b hv2b hult (by omega)⟩, hR.sel [0] [3, 1, 2] (by kernel_rfl) (by kernel_rfl), hI.sel [0, 2, 3, 8, 9, 10, 11, 12, 14, 15] (by kernel_rfl)⟩
     ·
      replace hI := hI.rb 96 hc36
      try simp only [tolds] at hc36
      rw [wrap_u64] at hc36
      have hov : r + v1 < 18446744073709551616 := by omega
      replace hI := hI.re 16 (vU (r + v1)) rfl (congrArg (Value.int .u64) (by rw [wrap_u64]; omega))
      refine wp_skip ?_
      refine then_n ?_
      refine wp_seq ?_
      refine rZ tab 4 [(99, vB (decide ((v2 : Int) > (x2 : Int))))] [16, 15, 0, 2, 3, 8, 9, 10, 11, 12, 14, 17, 18, 19, 20] hR hI fun e37 a37 w37 hag hR hI => ?_
      replace hA := hA.trans hag (by decide)
      refine cnd (b := decide ((v2 : Int) > (x2 : Int))) hI (by kernel_rfl) (fun hc38 => ?_) (fun hc38 => ?_)
      ·
       replace hI := hI.rb 99 hc38
       try simp only [tolds] at hc38
       refine aK tab 4 [(1, .eq (.int .u64 ((x1 - 1 : Nat) : Int)))] [] [(18, vU (x1 - 1))] [16, 15, 0, 2, 3, 8, 9, 10, 11, 12, 14, 17, 19, 20] [] [0] [] [3, 1, 2] 4 hR hI (.cons (congrArg (Value.int .u64) (by rw [wrap_inR (inR_u64 (by omega))]; omega : IntKind.u64.wrap ((x1 : Int) - (1 : Int)) = ((x1 - 1 : Nat) : Int))) .nil) fun e39 a39 w39 hag hR hI => ?_
       replace hA := hA.trans hag (by decide)
       refine then_n ?_
       refine aK tab 4 [(2, .eq (.int .u64 ((x2 + 18446744073709551616 - v2 : Nat) : Int)))] [] [(19, vU (x2 + 18446744073709551616 - v2))] [18, 16, 15, 0, 2, 3, 8, 9, 10, 11, 12, 14, 17, 20] [] [0] [] [3, 1, 2] 4 hR hI (.cons (congrArg (Value.int .u64) (by rw [wrap_u64]; omega : IntKind.u64.wrap ((x2 : Int) - (v2 : Int)) = ((x2 + 18446744073709551616 - v2 : Nat) : Int))) .nil) fun e40 a40 w40 hag hR hI => ?_
       replace hA := hA.trans hag (by decide)
       refine normal_block ?_
       refine then_n ?_
       have hR2 := hdn (x1 - 1) (x2 + 18446744073709551616 - v2) (by omega)
       replace hbk0 := tb hA hbk0
       replace hf1 := tf hA hf1
       replace hg1 := tg hA hg1
       replace hf2 := tf hA hf2
       replace hg2 := tg hA hg2
       replace hf3 := tf hA hf3
       replace hnew3 := tg hA hnew3
       exact ⟨(qh - 1, r + v1, x1 - 1, x2 + 18446744073709551616 - v2), e40, ⟨⟨hf1, hg1, hf2, hg2, hf3, hnew3, hbk0⟩, ⟨by omega, by omega, by omega, by omega, hR2⟩⟩, by (try dsimp only); omega, hR.sel [0] [3, 1, 2] (by kernel_rfl) (by kernel_rfl), hI.sel [0, 2, 3, 8, 9, 10, 11, 12, 14, 15, 16, 17, 18, 19, 20] (by kernel_rfl)⟩
      ·
       replace hI := hI.rb 99 hc38
       try simp only [tolds] at hc38
       refine wp_skip ?_
       refine then_n ?_
       refine aK tab 4 [(2, .eq (.int .u64 ((x2 - v2 : Nat) : Int)))] [] [(19, vU (x2 - v2))] [16, 15, 0, 2, 3, 8, 9, 10, 11, 12, 14, 17, 18, 20] [] [0] [] [3, 1, 2] 4 hR hI (.cons (congrArg (Value.int .u64) (by rw [wrap_u64]; omega : IntKind.u64.wrap ((x2 : Int) - (v2 : Int)) = ((x2 - v2 : Nat) : Int))) .nil) fun e41 a41 w41 hag hR hI => ?_
       replace hA := hA.trans hag (by decide)
       refine normal_block ?_
       refine then_n ?_
       have hR2 := hdn x1 (x2 - v2) (by omega)
       replace hbk0 := tb hA hbk0
       replace hf1 := tf hA hf1
       replace hg1 := tg hA hg1
       replace hf2 := tf hA hf2
       replace hg2 := tg hA hg2
       replace hf3 := tf hA hf3
       replace hnew3 := tg hA hnew3
       exact ⟨(qh - 1, r + v1, x1, x2 - v2), e41, ⟨⟨hf1, hg1, hf2, hg2, hf3, hnew3, hbk0⟩, ⟨by omega, by omega, by omega, by omega, hR2⟩⟩, by (try dsimp only); omega, hR.sel [0] [3, 1, 2] (by kernel_rfl) (by kernel_rfl), hI.sel [0, 2, 3, 8, 9, 10, 11, 12, 14, 15, 16, 17, 18, 19, 20] (by kernel_rfl)⟩
    ·
     replace hI := hI.rb 88 hc32
     try simp only [tolds] at hc32
     refine wp_exit ?_
     refine exit_then ?_
     refine exit_then ?_
     refine exit_hit ?_
     refine then_n ?_
     replace hbk0 := tb hA hbk0
     replace hf1 := tf hA hf1
     replace hg1 := tg hA hg1
     replace hf2 := tf hA hf2
     replace hg2 := tg hA hg2
     replace hf3 := tf hA hf3
     replace hnew3 := tg hA hnew3
     exact ⟨qh, e30, ⟨⟨hf1, hg1, hf2, hg2, hf3, hnew3, hbk0⟩, hRf.stop hRd (by omega) hu1b hu2b hult hc32⟩, hR.sel [0] [3, 1, 2] (by kernel_rfl) (by kernel_rfl), hI.sel [0, 2, 3, 8, 9, 10, 11, 12, 14, 15] (by kernel_rfl)⟩
   ·
    replace hI := hI.rb 51 hc19
    try simp only [tolds] at hc19
    refine wp_skip ?_
    refine then_n ?_
    replace hbk0 := tb hA hbk0
    replace hf1 := tf hA hf1
    replace hg1 := tg hA hg1
    replace hf2 := tf hA hf2
    replace hg2 := tg hA hg2
    replace hf3 := tf hA hf3
    replace hnew3 := tg hA hnew3
    exact ⟨18446744073709551615, e18, ⟨⟨hf1, hg1, hf2, hg2, hf3, hnew3, hbk0⟩, hRd.top htp hv2b (by omega)⟩, hR.sel [0] [3, 1, 2] (by kernel_rfl) (by kernel_rfl), hI.sel [0, 2, 3, 8, 9, 10, 11, 12, 14, 15] (by kernel_rfl)⟩
  ·
   clear hR hI
   rintro qh e42 a42 w42 hp hR hI
   dsimp only at hp hR hI
   replace hbk0 := tb hA hbk0
   replace hf1 := tf hA hf1
   replace hg1 := tg hA hg1
   replace hf2 := tf hA hf2
   replace hg2 := tg hA hg2
   replace hf3 := tf hA hf3
   replace hnew3 := tg hA hnew3
   obtain ⟨⟨hf1, hg1, hf2, hg2, hf3, hnew3, hbk0⟩, hp⟩ := hp
   obtain ⟨hEst, hqhb⟩ := hp
   refine wp_seq (reg (is := [0, 1, 2, 3, 4, 5, 6, 7, 8, 9]) (by kernel_rfl) ?_)
   refine pK tab [0, 1, 2, 3, 4, 5, 6] [7, 8, 9] 4 [] [] [(111, vU qh), (110, vS ad vs.length vc), (109, .rsl 3 0 vs.length c1), (106, vI vs.length), (105, .rsl 3 0 (vs.length + 1) c1)] [0, 2, 3, 8, 9, 10, 11, 12, 14, 15] [] [0] [] [3, 1, 2] 4 hR hI (.cons (by omega : (0 : Int) ≤ (0 : Int) ∧ (0 : Int) ≤ (vs.length : Int) ∧ (vs.length : Int) ≤ (c1 : Nat)) (.cons (by omega : ((0 : Int) : Int) < (c1 : Nat) ∨ ((0 : Int) : Int) = 0) .nil)) fun e43 a43 w43 hag hR hI => ?_
   have hA := hag
   refine cO [.rsl 3 0 vs.length c1, vS ad vs.length vc, vU qh, .v (.int .u64 0)] hI Tryz.func116 ?_
   replace hbk0 := tb hA hbk0
   replace hf1 := tf hA hf1
   replace hg1 := tg hA hg1
   replace hf2 := tf hA hf2
   replace hg2 := tg hA hg2
   replace hf3 := tf hA hf3
   replace hnew3 := tg hA hnew3
   have hq3_ := hR.rowCells (y := ⟨3, 102, 1, c1, (ints .u64 hq)⟩) m0 hf3 rfl
   refine (mulAddVWW_spec (C := Now hB) (zs := hq) hq3_.1 hhl hc2 (fun h_ => hq3_.2 h_.2) (hx.now hB hR) (by omega) hqhb (by decide)).mono ?_
   rintro ex w44 ⟨rs, co, rfl, hk, hw3, hrl, hrd, hco, hv⟩
   have hkF_ := hR.keepN hk (all_cons hq3_.2 all_no)
   have hR_ : Rel (Grow _ _ w44) w44 e43 [⟨0, 124, [.v (.pointer none)]⟩] [⟨3, 102, 1, c1, (ints .u64 (put hq 0 rs))⟩, ⟨1, 102, 1, NQ, (ints .u64 (put zq (0 + (j + 1)) ds))⟩, ⟨2, 102, 1, NU, (ints .u64 us)⟩] w44 := hR.turnedN hk (all_cons hq3_.2 all_no) (all_cons ⟨⟨_, m0, rfl⟩, .inl ⟨m0, (notin2 (hR.hgN m0 m0 hf3) (fun hm_ => by cases hm_))⟩⟩ all_no) (all_cons ⟨⟨_, m0, rfl⟩, .inr (by have hl_ := hR.rowLen (y := ⟨3, 102, 1, c1, (ints .u64 hq)⟩) m0; dsimp only at hl_; rw [show e43.r 3 = _ from hf3]; exact ownsRow_fullN hw3 (by rw [ints_length, put_length (by omega)]; omega) (hc2))⟩ (all_cons ⟨⟨_, m1, rfl⟩, .inl ⟨m1, fun g_ he_ => own_ne hf1 (notin2 (hR.ggN m1 m0 (by dsimp only; decide) hf1 hf3) (fun hm_ => by cases hm_)) he_⟩⟩ (all_cons ⟨⟨_, m2, rfl⟩, .inl ⟨m2, fun g_ he_ => by have hx_ := (hf2).own; rw [hx_] at he_; cases he_; exact (notin2 (hR.ggN m2 m0 (by dsimp only; decide) hf2 hf3) (fun hm_ => by cases hm_))⟩⟩ all_no)))
   replace hx := hx.nextF hB hR hkF_
   have hB_ := hB.nextF hR hkF_
   replace hR := hR_; clear hR_
   replace hB := hB_; clear hB_ hk hkF_ hq3_ hw3
   refine ⟨_, rfl, ?_⟩
   replace hI := hI.pt 112 (vU co) [112, 111, 110, 109, 106, 105, 0, 2, 3, 8, 9, 10, 11, 12, 14, 15]
   refine pK tab [8, 9] [] 4 [] [] [] [0, 2, 3, 8, 9, 10, 11, 12, 14, 15] [] [0] [⟨3, 102, 1, c1, ((ints .u64 (put hq 0 rs)).set (0 + vs.length) (.int .u64 (co : Int)))⟩] [1, 2] 4 hR hI (.cons (by omega : (0 : Int) ≤ (vs.length : Int) ∧ (vs.length : Int) < ((vs.length + 1 : Nat) : Int)) (.cons (by omega : 0 + vs.length < c1 * 1) .nil)) fun e45 a45 w45 hag hR hI => ?_
   have hA := hag
   rw [ints_set] at hR
   refine ops_nil (then_n ?_)
   obtain ⟨hco0, hyv⟩ := dv_prod (l := vs.length) hEst hrl hrd hv
   have hyl : (rs ++ [co]).length = vs.length + 1 := by rw [List.length_append, hrl]; rfl
   have hyd : Ndig (rs ++ [co]) := ndig_snoc hrd hco
   have hpy : (put hq 0 (rs ++ [co])).length = c1 := by rw [put_length (by omega)]; exact hhl
   have hgy : (put hq 0 (rs ++ [co])).getD (0 + vs.length) 0 = co := by
    rw [put_getD_in (by omega) (by omega) (by omega), show 0 + vs.length - 0 = rs.length by omega]
    simp [List.getD_eq_getElem?_getD]
   rw [(by rw [← hrl]; exact put_snoc (by omega) : ((put hq 0 rs).set (0 + vs.length) co) = put hq 0 (rs ++ [co]))] at hR
   refine rZ tab 4 [(21, vI (vs.length + 1))] [0, 2, 3, 8, 9, 10, 11, 12, 14, 15] hR hI fun e46 a46 w46 hag hR hI => ?_
   replace hA := hA.trans hag (by decide)
   refine wp_seq ?_
   refine rK tab 4 [(2, .eq (.int .i64 ((j + (vs.length + 1) : Nat) : Int))), (10, .val (vU ((put hq 0 (rs ++ [co])).getD (0 + vs.length) 0))), (12, .sym)] [7, 8, 9, 10, 11] [(128, vB ((decide (((j + (vs.length + 1) : Nat) : Int) > ((vs.length + mb : Nat) : Int))) && ((((put hq 0 (rs ++ [co])).getD (0 + vs.length) 0 : Nat) : Int) == (0 : Int))))] [21, 0, 2, 3, 8, 9, 10, 11, 12, 14, 15] [] [0] [] [3, 1, 2] 4 hR hI (.cons (wI ((j : Int) + ((vs.length + 1 : Nat) : Int)) ((j + (vs.length + 1) : Nat) : Int) (by omega) (by omega)) (.cons (rfl : (decide (((j + (vs.length + 1) : Nat) : Int) > ((vs.length + mb : Nat) : Int))) = (decide (((j + (vs.length + 1) : Nat) : Int) > ((vs.length + mb : Nat) : Int)))) (.cons (rfl : (decide (((j + (vs.length + 1) : Nat) : Int) > ((vs.length + mb : Nat) : Int))) = (decide (((j + (vs.length + 1) : Nat) : Int) > ((vs.length + mb : Nat) : Int)))) (.cons (rfl : (decide (((j + (vs.length + 1) : Nat) : Int) > ((vs.length + mb : Nat) : Int))) = (decide (((j + (vs.length + 1) : Nat) : Int) > ((vs.length + mb : Nat) : Int)))) (.cons (fun (hg : ((decide (((j + (vs.length + 1) : Nat) : Int) > ((vs.length + mb : Nat) : Int))) == true) = true) => have hg := gd_t hg; (by omega : (0 : Int) ≤ (vs.length : Int) ∧ (vs.length : Int) < ((vs.length + 1 : Nat) : Int))) (.cons (rfl : (decide (((j + (vs.length + 1) : Nat) : Int) > ((vs.length + mb : Nat) : Int))) = (decide (((j + (vs.length + 1) : Nat) : Int) > ((vs.length + mb : Nat) : Int)))) (.cons (rfl : (decide (((j + (vs.length + 1) : Nat) : Int) > ((vs.length + mb : Nat) : Int))) = (decide (((j + (vs.length + 1) : Nat) : Int) > ((vs.length + mb : Nat) : Int)))) (.cons (rfl : (decide (((j + (vs.length + 1) : Nat) : Int) > ((vs.length + mb : Nat) : Int))) = (decide (((j + (vs.length + 1) : Nat) : Int) > ((vs.length + mb : Nat) : Int)))) (.cons (fun (hg : ((decide (((j + (vs.length + 1) : Nat) : Int) > ((vs.length + mb : Nat) : Int))) == true) = true) => have hg := gd_t hg; (ints_get (k := .u64) (xs := (put hq 0 (rs ++ [co]))) (i := 0 + vs.length) (by omega))) (.cons (fun (hg : ((decide (((j + (vs.length + 1) : Nat) : Int) > ((vs.length + mb : Nat) : Int))) == true) = true) => have hg := gd_t hg; (by omega : 0 + vs.length < c1 * 1)) (.cons (rfl : (decide (((j + (vs.length + 1) : Nat) : Int) > ((vs.length + mb : Nat) : Int))) = (decide (((j + (vs.length + 1) : Nat) : Int) > ((vs.length + mb : Nat) : Int)))) (.cons (rfl : (decide (((j + (vs.length + 1) : Nat) : Int) > ((vs.length + mb : Nat) : Int))) = (decide (((j + (vs.length + 1) : Nat) : Int) > ((vs.length + mb : Nat) : Int)))) (.cons (rfl : (decide (((j + (vs.length + 1) : Nat) : Int) > ((vs.length + mb : Nat) : Int))) = (decide (((j + (vs.length + 1) : Nat) : Int) > ((vs.length + mb : Nat) : Int)))) (.cons (rfl : (decide (((j + (vs.length + 1) : Nat) : Int) > ((vs.length + mb : Nat) : Int))) = (decide (((j + (vs.length + 1) : Nat) : Int) > ((vs.length + mb : Nat) : Int)))) (.cons (by first | exact (by intro b_; cases b_ <;> rfl : ∀ b_ : Bool, (b_ == true) = b_) _ | exact (by intro b_; cases b_ <;> rfl : ∀ b_ : Bool, (b_ == false) = !b_) _ | exact Bool.beq_true _ | exact Bool.beq_false _ | rfl | simp_all : ((decide (((j + (vs.length + 1) : Nat) : Int) > ((vs.length + mb : Nat) : Int))) == true) = (decide (((j + (vs.length + 1) : Nat) : Int) > ((vs.length + mb : Nat) : Int)))) .nil))))))))))))))) fun e47 a47 w47 hag hR hI => ?_
   replace hA := hA.trans hag (by decide)
   refine join (γ := Nat) hR hI (fun l => (⟨[(0, .rsl 1 0 mb cq), (2, .rsl 2 0 (vs.length + mb) cu), (3, vS ad vs.length vc), (8, vI vs.length), (9, vI mb), (10, .rsl 3 0 (vs.length + 1) c1), (11, vU v1), (12, vU m), (14, vI j), (15, vU qh), (21, vI l)], [⟨0, 124, [.v (.pointer none)]⟩], [⟨3, 102, 1, c1, (ints .u64 (put hq 0 (rs ++ [co])))⟩, ⟨1, 102, 1, NQ, (ints .u64 (put zq (0 + (j + 1)) ds))⟩, ⟨2, 102, 1, NU, (ints .u64 us)⟩], 4⟩ : Sy)) (fun l e => ((Full e 1 NQ) ∧ (headOf (e.r 1) = gq) ∧ (Full e 2 NU) ∧ (headOf (e.r 2) = gu) ∧ (Full e 3 c1) ∧ (headOf (e.r 3) = g1) ∧ (e.b 0 = b)) ∧ ((l = vs.length ∧ j = mb ∨ l = vs.length + 1 ∧ j < mb))) ?_ ?_
   ·
    refine cnd (b := ((decide (((j + (vs.length + 1) : Nat) : Int) > ((vs.length + mb : Nat) : Int))) && ((((put hq 0 (rs ++ [co])).getD (0 + vs.length) 0 : Nat) : Int) == (0 : Int)))) hI (by kernel_rfl) (fun hc48 => ?_) (fun hc48 => ?_)
    ·
     replace hI := hI.rb 128 hc48
     try simp only [tolds] at hc48
     have hcz := hc48
     rw [hgy] at hcz
     refine aK tab 4 [(1, .eq (.int .i64 (vs.length : Int)))] [] [(21, vI vs.length)] [0, 2, 3, 8, 9, 10, 11, 12, 14, 15] [] [0] [] [3, 1, 2] 4 hR hI (.cons (wI (((vs.length + 1 : Nat) : Int) - (1 : Int)) (vs.length : Int) (by omega) (by omega)) .nil) fun e49 a49 w49 hag hR hI => ?_
     replace hA := hA.trans hag (by decide)
     refine then_n ?_
     replace hbk0 := tb hA hbk0
     replace hf1 := tf hA hf1
     replace hg1 := tg hA hg1
     replace hf2 := tf hA hf2
     replace hg2 := tg hA hg2
     replace hf3 := tf hA hf3
     replace hnew3 := tg hA hnew3
     exact ⟨vs.length, e49, ⟨⟨hf1, hg1, hf2, hg2, hf3, hnew3, hbk0⟩, .inl ⟨rfl, by omega⟩⟩, hR.sel [0] [3, 1, 2] (by kernel_rfl) (by kernel_rfl), hI.sel [0, 2, 3, 8, 9, 10, 11, 12, 14, 15, 21] (by kernel_rfl)⟩
    ·
     replace hI := hI.rb 128 hc48
     try simp only [tolds] at hc48
     have hcz := hc48
     rw [hgy] at hcz
     refine wp_skip ?_
     refine then_n ?_
     replace hbk0 := tb hA hbk0
     replace hf1 := tf hA hf1
     replace hg1 := tg hA hg1
     replace hf2 := tf hA hf2
     replace hg2 := tg hA hg2
     replace hf3 := tf hA hf3
     replace hnew3 := tg hA hnew3
     exact ⟨vs.length + 1, e47, ⟨⟨hf1, hg1, hf2, hg2, hf3, hnew3, hbk0⟩, .inr ⟨rfl, by omega⟩⟩, hR.sel [0] [3, 1, 2] (by kernel_rfl) (by kernel_rfl), hI.sel [0, 2, 3, 8, 9, 10, 11, 12, 14, 15, 21] (by kernel_rfl)⟩
   ·
    clear hR hI
    rintro l e50 a50 w50 hp hR hI
    dsimp only at hp hR hI
    replace hbk0 := tb hA hbk0
    replace hf1 := tf hA hf1
    replace hg1 := tg hA hg1
    replace hf2 := tf hA hf2
    replace hg2 := tg hA hg2
    replace hf3 := tf hA hf3
    replace hnew3 := tg hA hnew3
    obtain ⟨⟨hf1, hg1, hf2, hg2, hf3, hnew3, hbk0⟩, hp⟩ := hp
    have hll := hp
    have hlb : j + l ≤ vs.length + mb ∧ l ≤ vs.length + 1 ∧ vs.length ≤ l := by omega
    obtain ⟨_, hyv⟩ := dv_prod (l := l) hEst hrl hrd hv
    replace hyv := hyv hll
    refine wp_seq ?_
    refine regL 15 hR (by kernel_rfl) (fun hS => ?_)
    replace hR := hR.drew; have hF := hR.fore
    refine cK tab [(4, .eq (.int .i64 ((j + l : Nat) : Int))), (10, .eq (.int .i64 ((j + l : Nat) : Int)))] [] [0, 1, 2, 3, 4, 5, 6, 7, 8, 9, 10, 11, 12, 13, 14] 2 [(145, .rsl 3 0 l c1), (142, .rsl 2 (0 + j) ((j + l) - j) (cu - j)), (136, .rsl 2 (0 + j) ((j + l) - j) (cu - j))] [0, 2, 3, 8, 9, 10, 11, 12, 14, 15, 21] hS hI (.cons (wI ((j : Int) + (l : Int)) ((j + l : Nat) : Int) (by omega) (by omega)) (.cons (by omega : (0 : Int) ≤ (j : Int) ∧ (j : Int) ≤ ((j + l : Nat) : Int) ∧ ((j + l : Nat) : Int) ≤ (cu : Nat)) (.cons (by omega : ((j : Int) : Int) < (cu : Nat) ∨ ((j : Int) : Int) = 0) (.cons (wI ((j : Int) + (l : Int)) ((j + l : Nat) : Int) (by omega) (by omega)) (.cons (by omega : (0 : Int) ≤ (j : Int) ∧ (j : Int) ≤ ((j + l : Nat) : Int) ∧ ((j + l : Nat) : Int) ≤ (cu : Nat)) (.cons (by omega : ((j : Int) : Int) < (cu : Nat) ∨ ((j : Int) : Int) = 0) (.cons (by omega : (0 : Int) ≤ (l : Int) ∧ (l : Int) ≤ (c1 : Nat)) .nil))))))) fun a51 hI => ?_
    refine endL (i := 15) (f' := 1) (by kernel_rfl) (by rfl) (by kernel_rfl) ?_
    refine cH [.rsl 2 (0 + j) ((j + l) - j) (cu - j), .rsl 2 (0 + j) ((j + l) - j) (cu - j), .rsl 3 0 l c1] hI Tryz.func103 ?_
    rw [show j + l - j = l by omega]
    have hYl : (seg (put hq 0 (rs ++ [co])) 0 l).length = l := seg_length (by omega)
    have hYs : seg (put hq 0 (rs ++ [co])) 0 l = seg (rs ++ [co]) 0 l := seg_of_put (hq := hq) (ys := rs ++ [co]) (by omega) (by omega)
    have hYk := hR.rowRead (y := ⟨3, 102, 1, c1, (ints .u64 (put hq 0 (rs ++ [co])))⟩) m0 hf3 rfl rfl (ndig_put hhd hyd) 0 l (by omega) (c := c1) (by omega) (by omega)
    have hkn := hR.ggN m2 m0 (by dsimp only; decide) hf2 hf3
    have hul2 : us.length = NU := hul
    have hq2_ := hR.rowCells (y := ⟨2, 102, 1, NU, (ints .u64 us)⟩) m2 hf2 rfl
    refine (subVVl_spec (C := fun b => b = headOf (e50.r 3)) (oz := 0 + j) (c := cu - j) hYl hq2_.1 hul hum (fun h_ => hkn h_) hud hYk (by omega)).mono ?_
    rintro ex w52 ⟨r1, cb, rfl, hk, hw2, hr1l, hr1d, hcb, hsv⟩
    have hkF_ := hR.keepN hk (all_cons hq2_.2 all_no)
    have hR_ : Rel (Grow _ _ w52) w52 e50 [⟨0, 124, [.v (.pointer none)]⟩] [⟨3, 102, 1, c1, (ints .u64 (put hq 0 (rs ++ [co])))⟩, ⟨1, 102, 1, NQ, (ints .u64 (put zq (0 + (j + 1)) ds))⟩, ⟨2, 102, 1, NU, (ints .u64 (put us (0 + j) r1))⟩] w52 := hR.turnedN hk (all_cons hq2_.2 all_no) (all_cons ⟨⟨_, m0, rfl⟩, .inl ⟨m0, (notin2 (hR.hgN m0 m2 hf2) (fun hm_ => by cases hm_))⟩⟩ all_no) (all_cons ⟨⟨_, m0, rfl⟩, .inl ⟨m0, fun g_ he_ => by have hx_ := (hf3).own; rw [hx_] at he_; cases he_; exact (notin2 (hR.ggN m0 m2 (by dsimp only; decide) hf3 hf2) (fun hm_ => by cases hm_))⟩⟩ (all_cons ⟨⟨_, m1, rfl⟩, .inl ⟨m1, fun g_ he_ => by have hx_ := (hf1).own; rw [hx_] at he_; cases he_; exact (notin2 (hR.ggN m1 m2 (by dsimp only; decide) hf1 hf2) (fun hm_ => by cases hm_))⟩⟩ (all_cons ⟨⟨_, m2, rfl⟩, .inr (by have hl_ := hR.rowLen (y := ⟨2, 102, 1, NU, (ints .u64 us)⟩) m2; dsimp only at hl_; rw [show e50.r 2 = _ from hf2]; exact ownsRow_fullN hw2 (by rw [ints_length, put_length (by omega)]; omega) (hum))⟩ all_no)))
    replace hx := hx.nextF hB hR hkF_
    have hB_ := hB.nextF hR hkF_
    replace hR := hR_; clear hR_
    replace hB := hB_; clear hB_ hk hkF_ hq2_ hw2
    rw [hYs, Nat.zero_add] at hsv
    refine ⟨_, rfl, ?_⟩
    replace hI := hI.pt 146 (vU cb) [146, 145, 142, 136, 0, 2, 3, 8, 9, 10, 11, 12, 14, 15, 21]
    refine endL (i := 16) (f' := 0) (by kernel_rfl) (by rfl) (by kernel_rfl) ?_
    refine quietL tab (hh := .no) (x := vU cb) hR hI rfl rfl rfl (by kernel_rfl) .nil (fun a53 hI => ?_)
    replace hI := hI.sl [22, 146, 145, 142, 136, 0, 2, 3, 8, 9, 10, 11, 12, 14, 15, 21] rfl
    refine doneL (by kernel_rfl) ?_
    refine then_n ?_
    replace hI := hI.sl [22, 0, 2, 3, 8, 9, 10, 11, 12, 14, 15, 21] rfl; replace hR := hR.sel [0] [3, 1, 2] rfl rfl
    rw [(by rw [Nat.zero_add] : (put us (0 + j) r1) = put us j r1)] at hR
    have hp1 : (put us j r1).length = NU := by rw [put_length (by omega)]; exact hul
    have hp1d : Ndig (put us j r1) := ndig_put hud hr1d
    refine wp_seq ?_
    refine rZ tab 4 [(148, vB ((cb : Int) != (0 : Int)))] [0, 2, 3, 8, 9, 10, 11, 12, 14, 15, 21] hR hI fun e54 a54 w54 hag hR hI => ?_
    have hA := hag
    refine joinM (γ := Nat × List Nat) hB hI (fun (qq, rr) => (⟨[(0, .rsl 1 0 mb cq), (2, .rsl 2 0 (vs.length + mb) cu), (3, vS ad vs.length vc), (8, vI vs.length), (9, vI mb), (10, .rsl 3 0 (vs.length + 1) c1), (11, vU v1), (12, vU m), (14, vI j), (15, vU qq)], [⟨0, 124, [.v (.pointer none)]⟩], [⟨3, 102, 1, c1, (ints .u64 (put hq 0 (rs ++ [co])))⟩, ⟨1, 102, 1, NQ, (ints .u64 (put zq (0 + (j + 1)) ds))⟩, ⟨2, 102, 1, NU, (ints .u64 (put us j rr))⟩], 4⟩ : Sy)) (fun (qq, rr) e C F wb => ((Full e 1 NQ) ∧ (headOf (e.r 1) = gq) ∧ (Full e 2 NU) ∧ (headOf (e.r 2) = gu) ∧ (Full e 3 c1) ∧ (headOf (e.r 3) = g1) ∧ (e.b 0 = b)) ∧ (Sl .u64 18446744073709551616 C wb ad vc vs ∧ rr.length = l ∧ Ndig rr ∧ qq < 18446744073709551616 ∧ DvDone us vs j qq rr)) ?_ ?_
    ·
     refine cnd (b := ((cb : Int) != (0 : Int))) hI (by kernel_rfl) (fun hc55 => ?_) (fun hc55 => ?_)
     ·
      replace hI := hI.rb 148 hc55
      try simp only [tolds] at hc55
      refine wp_seq ?_
      refine regL 13 hR (by kernel_rfl) (fun hS => ?_)
      replace hR := hR.drew; have hF := hR.fore
      refine cK tab [(4, .eq (.int .i64 ((j + vs.length : Nat) : Int))), (10, .eq (.int .i64 ((j + vs.length : Nat) : Int)))] [] [0, 1, 2, 3, 4, 5, 6, 7, 8, 9, 10, 11, 12] 2 [(161, vS ad vs.length vc), (160, .rsl 2 (0 + j) ((j + vs.length) - j) (cu - j)), (154, .rsl 2 (0 + j) ((j + vs.length) - j) (cu - j))] [0, 2, 3, 8, 9, 10, 11, 12, 14, 15, 21] hS hI (.cons (wI ((j : Int) + (vs.length : Int)) ((j + vs.length : Nat) : Int) (by omega) (by omega)) (.cons (by omega : (0 : Int) ≤ (j : Int) ∧ (j : Int) ≤ ((j + vs.length : Nat) : Int) ∧ ((j + vs.length : Nat) : Int) ≤ (cu : Nat)) (.cons (by omega : ((j : Int) : Int) < (cu : Nat) ∨ ((j : Int) : Int) = 0) (.cons (wI ((j : Int) + (vs.length : Int)) ((j + vs.length : Nat) : Int) (by omega) (by omega)) (.cons (by omega : (0 : Int) ≤ (j : Int) ∧ (j : Int) ≤ ((j + vs.length : Nat) : Int) ∧ ((j + vs.length : Nat) : Int) ≤ (cu : Nat)) (.cons (by omega : ((j : Int) : Int) < (cu : Nat) ∨ ((j : Int) : Int) = 0) .nil)))))) fun a56 hI => ?_
      refine endL (i := 13) (f' := 1) (by kernel_rfl) (by rfl) (by kernel_rfl) ?_
      refine cH [.rsl 2 (0 + j) ((j + vs.length) - j) (cu - j), .rsl 2 (0 + j) ((j + vs.length) - j) (cu - j), vS ad vs.length vc] hI Tryz.func117 ?_
      rw [show j + vs.length - j = vs.length by omega]
      replace hbk0 := tb hA hbk0
      replace hf1 := tf hA hf1
      replace hg1 := tg hA hg1
      replace hf2 := tf hA hf2
      replace hg2 := tg hA hg2
      replace hf3 := tf hA hf3
      replace hnew3 := tg hA hnew3
      have hq2_ := hR.rowCells (y := ⟨2, 102, 1, NU, (ints .u64 (put us j r1))⟩) m2 hf2 rfl
      refine (addVV_spec (C := Now hB) (oz := 0 + j) (c := cu - j) hq2_.1 hp1 hum (fun h_ => hq2_.2 h_.2) hp1d (hx.now hB hR) (by omega)).mono ?_
      rintro ex w57 ⟨r2, c2, rfl, hk, hw2, hr2l, hr2d, hc2b, hav⟩
      have hkF_ := hR.keepN hk (all_cons hq2_.2 all_no)
      have hR_ : Rel (Grow _ _ w57) w57 e54 [⟨0, 124, [.v (.pointer none)]⟩] [⟨3, 102, 1, c1, (ints .u64 (put hq 0 (rs ++ [co])))⟩, ⟨1, 102, 1, NQ, (ints .u64 (put zq (0 + (j + 1)) ds))⟩, ⟨2, 102, 1, NU, (ints .u64 (put (put us j r1) (0 + j) r2))⟩] w57 := hR.turnedN hk (all_cons hq2_.2 all_no) (all_cons ⟨⟨_, m0, rfl⟩, .inl ⟨m0, (notin2 (hR.hgN m0 m2 hf2) (fun hm_ => by cases hm_))⟩⟩ all_no) (all_cons ⟨⟨_, m0, rfl⟩, .inl ⟨m0, fun g_ he_ => by have hx_ := (hf3).own; rw [hx_] at he_; cases he_; exact (notin2 (hR.ggN m0 m2 (by dsimp only; decide) hf3 hf2) (fun hm_ => by cases hm_))⟩⟩ (all_cons ⟨⟨_, m1, rfl⟩, .inl ⟨m1, fun g_ he_ => by have hx_ := (hf1).own; rw [hx_] at he_; cases he_; exact (notin2 (hR.ggN m1 m2 (by dsimp only; decide) hf1 hf2) (fun hm_ => by cases hm_))⟩⟩ (all_cons ⟨⟨_, m2, rfl⟩, .inr (by have hl_ := hR.rowLen (y := ⟨2, 102, 1, NU, (ints .u64 (put us j r1))⟩) m2; dsimp only at hl_; rw [show e54.r 2 = _ from hf2]; exact ownsRow_fullN hw2 (by rw [ints_length, put_length (by omega)]; omega) (hum))⟩ all_no)))
      replace hx := hx.nextF hB hR hkF_
      have hB_ := hB.nextF hR hkF_
      replace hR := hR_; clear hR_
      replace hB := hB_; clear hB_ hk hkF_ hq2_ hw2
      refine ⟨_, rfl, ?_⟩
      replace hI := hI.pt 162 (vU c2) [162, 161, 160, 154, 0, 2, 3, 8, 9, 10, 11, 12, 14, 15, 21]
      refine endL (i := 14) (f' := 0) (by kernel_rfl) (by rfl) (by kernel_rfl) ?_
      refine quietL tab (hh := .no) (x := vU c2) hR hI rfl rfl rfl (by kernel_rfl) .nil (fun a58 hI => ?_)
      replace hI := hI.sl [23, 162, 161, 160, 154, 0, 2, 3, 8, 9, 10, 11, 12, 14, 15, 21] rfl
      refine doneL (by kernel_rfl) ?_
      refine then_n ?_
      replace hI := hI.sl [23, 0, 2, 3, 8, 9, 10, 11, 12, 14, 15, 21] rfl; replace hR := hR.sel [0] [3, 1, 2] rfl rfl
      rw [(by rw [Nat.zero_add] : (put (put us j r1) (0 + j) r2) = put (put us j r1) j r2)] at hR
      rw [Nat.zero_add] at hav
      obtain ⟨hl1, hq1, hx0, hDn⟩ := dvDone_add hRd hEst hll hyv hr1l hr1d (by omega) hsv hcb (by omega) hr2l hr2d hav
      have hxg : (put (put us j r1) j r2).getD (0 + (j + vs.length)) 0 = r1.getD vs.length 0 := by
       rw [Nat.zero_add, put_getD_ge (by omega) (by omega), put_getD_in (by omega) (by omega) (by omega)]
       congr 1
       omega
      have hp2 : (put (put us j r1) j r2).length = NU := by rw [put_length (by omega)]; exact hp1
      refine wp_seq ?_
      refine rK tab 4 [(2, .eq (.bool true))] [] [(165, vB true)] [23, 0, 2, 3, 8, 9, 10, 11, 12, 14, 15] [] [0] [] [3, 1, 2] 4 hR hI (.cons (congrArg Value.bool (decide_eq_true (by omega) : (decide ((vs.length : Int) < (l : Int))) = true)) .nil) fun e59 a59 w59 hag hR hI => ?_
      have hA := hag
      refine cnd_t hI (by kernel_rfl) ?_
      refine aK tab 4 [(3, .eq (.int .i64 ((j + vs.length : Nat) : Int))), (5, .val (vU ((put (put us j r1) j r2).getD (0 + (j + vs.length)) 0))), (7, .eq (.int .u64 ((0 : Nat) : Int)))] [] [] [0, 2, 3, 8, 9, 10, 11, 12, 14, 15] [] [0] [⟨2, 102, 1, NU, ((ints .u64 (put (put us j r1) j r2)).set (0 + (j + vs.length)) (.int .u64 ((0 : Nat) : Int)))⟩] [3, 1] 4 hR hI (.cons (wI ((j : Int) + (vs.length : Int)) ((j + vs.length : Nat) : Int) (by omega) (by omega)) (.cons (by omega : (0 : Int) ≤ ((j + vs.length : Nat) : Int) ∧ ((j + vs.length : Nat) : Int) < ((vs.length + mb : Nat) : Int)) (.cons (ints_get (k := .u64) (xs := (put (put us j r1) j r2)) (i := 0 + (j + vs.length)) (by omega)) (.cons (by omega : 0 + (j + vs.length) < NU * 1) (.cons (congrArg (Value.int .u64) (by rw [wrap_u64, hxg]; omega : IntKind.u64.wrap ((((put (put us j r1) j r2).getD (0 + (j + vs.length)) 0 : Nat) : Int) + (c2 : Int)) = ((0 : Nat) : Int))) (.cons (by omega : (0 : Int) ≤ ((j + vs.length : Nat) : Int) ∧ ((j + vs.length : Nat) : Int) < ((vs.length + mb : Nat) : Int)) (.cons (by omega : 0 + (j + vs.length) < NU * 1) .nil))))))) fun e60 a60 w60 hag hR hI => ?_
      replace hA := hA.trans hag (by decide)
      rw [ints_set] at hR
      rw [(by rw [Nat.zero_add, ← hr2l, put_snoc (by omega), put_put (by omega) (by rw [List.length_append, hr2l, hr1l, hl1]; rfl)] : ((put (put us j r1) j r2).set (0 + (j + vs.length)) 0) = put us j (r2 ++ [0]))] at hR
      refine then_n ?_
      refine aK tab 4 [(1, .eq (.int .u64 ((qh - 1 : Nat) : Int)))] [] [(15, vU (qh - 1))] [0, 2, 3, 8, 9, 10, 11, 12, 14] [] [0] [] [2, 3, 1] 4 hR hI (.cons (congrArg (Value.int .u64) (by rw [wrap_inR (inR_u64 (by omega))]; omega : IntKind.u64.wrap ((qh : Int) - (1 : Int)) = ((qh - 1 : Nat) : Int))) .nil) fun e61 a61 w61 hag hR hI => ?_
      replace hA := hA.trans hag (by decide)
      refine then_n ?_
      replace hbk0 := tb hA hbk0
      replace hf1 := tf hA hf1
      replace hg1 := tg hA hg1
      replace hf2 := tf hA hf2
      replace hg2 := tg hA hg2
      replace hf3 := tf hA hf3
      replace hnew3 := tg hA hnew3
      exact ⟨(qh - 1, r2 ++ [0]), _, _, _, _, hB, ⟨⟨hf1, hg1, hf2, hg2, hf3, hnew3, hbk0⟩, ⟨hx, by rw [List.length_append, hr2l, hl1]; rfl, ndig_snoc hr2d (by decide), by omega, hDn⟩⟩, hR.sel [0] [3, 1, 2] (by kernel_rfl) (by kernel_rfl), hI.sel [0, 2, 3, 8, 9, 10, 11, 12, 14, 15] (by kernel_rfl)⟩
     ·
      replace hI := hI.rb 148 hc55
      try simp only [tolds] at hc55
      refine wp_skip ?_
      refine then_n ?_
      replace hbk0 := tb hA hbk0
      replace hf1 := tf hA hf1
      replace hg1 := tg hA hg1
      replace hf2 := tf hA hf2
      replace hg2 := tg hA hg2
      replace hf3 := tf hA hf3
      replace hnew3 := tg hA hnew3
      exact ⟨(qh, r1), _, _, _, _, hB, ⟨⟨hf1, hg1, hf2, hg2, hf3, hnew3, hbk0⟩, ⟨hx, hr1l, hr1d, hqhb, dvDone_sub hRd hEst hll hyv hr1l hsv (by omega)⟩⟩, hR.sel [0] [3, 1, 2] (by kernel_rfl) (by kernel_rfl), hI.sel [0, 2, 3, 8, 9, 10, 11, 12, 14, 15] (by kernel_rfl)⟩
    ·
     clear hR hI hB
     rintro ⟨qq, rr⟩ e62 C62 F62 wb62 a62 w62 hB hp hR hI
     dsimp only at hp hR hI
     replace hbk0 := tb hA hbk0
     replace hf1 := tf hA hf1
     replace hg1 := tg hA hg1
     replace hf2 := tf hA hf2
     replace hg2 := tg hA hg2
     replace hf3 := tf hA hf3
     replace hnew3 := tg hA hnew3
     obtain ⟨⟨hf1, hg1, hf2, hg2, hf3, hnew3, hbk0⟩, hp⟩ := hp
     obtain ⟨hx, hrrl, hrrd, hqqb, hDn⟩ := hp
     have hp3 : (put us j rr).length = NU := by rw [put_length (by omega)]; exact hul
     refine rK tab 4 [(3, .eq (.int .i64 ((j + vs.length : Nat) : Int))), (4, .eq (.int .i64 ((j + vs.length - 1 : Nat) : Int))), (6, .val (vU ((put us j rr).getD (0 + (j + vs.length - 1)) 0)))] [] [(13, vU ((put us j rr).getD (0 + (j + vs.length - 1)) 0))] [0, 2, 3, 8, 9, 10, 11, 12, 14, 15] [] [0] [] [3, 1, 2] 4 hR hI (.cons (wI ((j : Int) + (vs.length : Int)) ((j + vs.length : Nat) : Int) (by omega) (by omega)) (.cons (wI (((j + vs.length : Nat) : Int) - (1 : Int)) ((j + vs.length - 1 : Nat) : Int) (by omega) (by omega)) (.cons (by omega : (0 : Int) ≤ ((j + vs.length - 1 : Nat) : Int) ∧ ((j + vs.length - 1 : Nat) : Int) < ((vs.length + mb : Nat) : Int)) (.cons (ints_get (k := .u64) (xs := (put us j rr)) (i := 0 + (j + vs.length - 1)) (by omega)) (.cons (by omega : 0 + (j + vs.length - 1) < NU * 1) .nil))))) fun e63 a63 w63 hag hR hI => ?_
     have hA := hag
     refine wp_seq ?_
     refine rK tab 4 [(7, .eq (.bool true)), (8, .sym), (12, .sym)] [4, 5, 6, 7, 10, 11] [(196, vB ((((j : Int) == (mb : Int)) && true) && ((qq : Int) == (0 : Int))))] [13, 0, 2, 3, 8, 9, 10, 11, 12, 14, 15] [] [0] [] [3, 1, 2] 4 hR hI (.cons (rfl : ((j : Int) == (mb : Int)) = ((j : Int) == (mb : Int))) (.cons (rfl : ((j : Int) == (mb : Int)) = ((j : Int) == (mb : Int))) (.cons (rfl : ((j : Int) == (mb : Int)) = ((j : Int) == (mb : Int))) (.cons (rfl : ((j : Int) == (mb : Int)) = ((j : Int) == (mb : Int))) (.cons (rfl : ((j : Int) == (mb : Int)) = ((j : Int) == (mb : Int))) (.cons (rfl : ((j : Int) == (mb : Int)) = ((j : Int) == (mb : Int))) (.cons (fun (hg : (((j : Int) == (mb : Int)) == true) = true) => (congrArg Value.bool (beq_self_eq_true _ : ((mb : Int) == (mb : Int)) = true))) (.cons (by first | exact (by intro b_; cases b_ <;> rfl : ∀ b_ : Bool, (b_ == true) = b_) _ | exact (by intro b_; cases b_ <;> rfl : ∀ b_ : Bool, (b_ == false) = !b_) _ | exact Bool.beq_true _ | exact Bool.beq_false _ | rfl | simp_all : (((j : Int) == (mb : Int)) == true) = ((j : Int) == (mb : Int))) (.cons (rfl : (((j : Int) == (mb : Int)) && true) = (((j : Int) == (mb : Int)) && true)) (.cons (by first | exact (by intro b_; cases b_ <;> rfl : ∀ b_ : Bool, (b_ == true) = b_) _ | exact (by intro b_; cases b_ <;> rfl : ∀ b_ : Bool, (b_ == false) = !b_) _ | exact Bool.beq_true _ | exact Bool.beq_false _ | rfl | simp_all : ((((j : Int) == (mb : Int)) && true) == true) = (((j : Int) == (mb : Int)) && true)) .nil)))))))))) fun e64 a64 w64 hag hR hI => ?_
     replace hA := hA.trans hag (by decide)
     refine cnd (b := ((((j : Int) == (mb : Int)) && true) && ((qq : Int) == (0 : Int)))) hI (by kernel_rfl) (fun hc65 => ?_) (fun hc65 => ?_)
     ·
      replace hI := hI.rb 196 hc65
      try simp only [tolds] at hc65
      have hjm : j = mb := by have hcz := hc65; omega
      have hds : ds = [] := List.eq_nil_of_length_eq_zero (by omega)
      rw [(by rw [hds, put_nil, put_nil] : (put zq (0 + (j + 1)) ds) = put zq (0 + j) ds)] at hR
      refine wp_exit ?_
      refine exit_then ?_
      refine exit_hit ?_
      refine then_n ?_
      refine aK tab 4 [(1, .nw)] [] [(14, .v (.int .i64 ((j : Int) - (1 : Int))))] [13, 0, 2, 3, 8, 9, 10, 11, 12] [] [0] [] [3, 1, 2] 4 hR hI (.cons (inR_i64 (n := (j : Int) - (1 : Int)) (by omega)) .nil) fun e66 a66 w66 hag hR hI => ?_
      replace hA := hA.trans hag (by decide)
      refine then_n ?_
      replace hbk0 := tb hA hbk0
      replace hf1 := tf hA hf1
      replace hg1 := tg hA hg1
      replace hf2 := tf hA hf2
      replace hg2 := tg hA hg2
      replace hf3 := tf hA hf3
      replace hnew3 := tg hA hnew3
      exact ⟨(j, (put us j rr).getD (0 + (j + vs.length - 1)) 0, ds, put us j rr, put hq 0 (rs ++ [co])), _, _, _, _, hB, ⟨⟨hf1, hg1, hf2, hg2, hf3, hnew3, hbk0⟩, ⟨hx, by omega, by omega, hdd, hp3, ndig_put hud hrrd, hpy, ndig_put hhd hyd, ndig_get (ndig_put hud hrrd) _, dvInv_skip hInv hRd hJ1 hDn hV0 (by omega) hjm hds (by omega)⟩⟩, (by (try dsimp only); omega), hR.sel [0] [3, 1, 2] (by kernel_rfl) (by kernel_rfl), hI.sel [0, 2, 3, 8, 9, 10, 11, 12, 13, 14] (by kernel_rfl)⟩
     ·
      replace hI := hI.rb 196 hc65
      try simp only [tolds] at hc65
      have hjm : j < mb := by
       rcases Nat.lt_or_ge j mb with h_ | h_
       · exact h_
       ·
        have h1_ := hDn.first hRd (show j = mb by omega)
        exfalso
        have hcz := hc65
        have e1_ : (j : Int) = (mb : Int) := by omega
        have e2_ : (qq : Int) = 0 := by omega
        simp [e1_, e2_] at hcz
      refine wp_skip ?_
      refine then_n ?_
      refine aK tab 4 [] [] [] [13, 0, 2, 3, 8, 9, 10, 11, 12, 14] [] [0] [⟨1, 102, 1, NQ, ((ints .u64 (put zq (0 + (j + 1)) ds)).set (0 + j) (.int .u64 (qq : Int)))⟩] [3, 2] 4 hR hI (.cons (by omega : (0 : Int) ≤ (j : Int) ∧ (j : Int) < (mb : Int)) (.cons (by omega : 0 + j < NQ * 1) .nil)) fun e67 a67 w67 hag hR hI => ?_
      replace hA := hA.trans hag (by decide)
      rw [ints_set] at hR
      rw [(by rw [show 0 + (j + 1) = 0 + j + 1 by omega]; exact put_cons (by omega) : ((put zq (0 + (j + 1)) ds).set (0 + j) qq) = put zq (0 + j) (qq :: ds))] at hR
      refine normal_block ?_
      refine then_n ?_
      refine aK tab 4 [(1, .nw)] [] [(14, .v (.int .i64 ((j : Int) - (1 : Int))))] [13, 0, 2, 3, 8, 9, 10, 11, 12] [] [0] [] [1, 3, 2] 4 hR hI (.cons (inR_i64 (n := (j : Int) - (1 : Int)) (by omega)) .nil) fun e68 a68 w68 hag hR hI => ?_
      replace hA := hA.trans hag (by decide)
      refine then_n ?_
      replace hbk0 := tb hA hbk0
      replace hf1 := tf hA hf1
      replace hg1 := tg hA hg1
      replace hf2 := tf hA hf2
      replace hg2 := tg hA hg2
      replace hf3 := tf hA hf3
      replace hnew3 := tg hA hnew3
      exact ⟨(j, (put us j rr).getD (0 + (j + vs.length - 1)) 0, qq :: ds, put us j rr, put hq 0 (rs ++ [co])), _, _, _, _, hB, ⟨⟨hf1, hg1, hf2, hg2, hf3, hnew3, hbk0⟩, ⟨hx, by omega, by rw [List.length_cons]; omega, all_cons hqqb hdd, hp3, ndig_put hud hrrd, hpy, ndig_put hhd hyd, ndig_get (ndig_put hud hrrd) _, dvInv_next hInv hJ1 hDn hV0 (by omega) hjm⟩⟩, (by (try dsimp only); omega), hR.sel [0] [3, 1, 2] (by kernel_rfl) (by kernel_rfl), hI.sel [0, 2, 3, 8, 9, 10, 11, 12, 13, 14] (by kernel_rfl)⟩
 ·
  replace hI := hI.rb 46 hc16
  try simp only [tolds] at hc16
  have hJ0 : J = 0 := by omega
  rw [(by rw [hJ0] : (put zq (0 + J) ds) = put zq 0 ds)] at hR
  refine wp_exit ?_
  refine exit_then ?_
  refine exit_then ?_
  refine exit_hit ?_
  have hq0_ := hR.blk ⟨0, 124, [.v (.pointer none)]⟩ m0
  replace hbk0 := tb hA hbk0
  replace hf1 := tf hA hf1
  replace hg1 := tg hA hg1
  replace hf2 := tf hA hf2
  replace hg2 := tg hA hg2
  replace hf3 := tf hA hf3
  replace hnew3 := tg hA hnew3
  refine outC hI (.inr rfl) Tryz.func81 rfl rfl (restoreN_spec (C := fun _ => False) (by rw [← hbk0]; exact hq0_.1) (fun h_ => h_)) ?_
  rintro ex w69 ⟨rfl, hk, hw0⟩
  rw [← hbk0] at hk hw0
  have hkF_ := hR.keepN hk (all_cons hq0_.2 all_no)
  have hR_ : Rel (Grow _ _ w69) w69 e15 [⟨0, 124, [.v (.pointer none)]⟩] [⟨3, 102, 1, c1, (ints .u64 hq)⟩, ⟨1, 102, 1, NQ, (ints .u64 (put zq 0 ds))⟩, ⟨2, 102, 1, NU, (ints .u64 us)⟩] w69 := hR.turnedN hk (all_cons hq0_.2 all_no) (all_cons ⟨⟨_, m0, rfl⟩, .inr hw0⟩ all_no) (all_cons ⟨⟨_, m0, rfl⟩, .inl ⟨m0, fun g_ he_ => own_ne hf3 (notin2 (hR.ghN m0 m0 hf3) (fun hm_ => by cases hm_)) he_⟩⟩ (all_cons ⟨⟨_, m1, rfl⟩, .inl ⟨m1, fun g_ he_ => own_ne hf1 (notin2 (hR.ghN m0 m1 hf1) (fun hm_ => by cases hm_)) he_⟩⟩ (all_cons ⟨⟨_, m2, rfl⟩, .inl ⟨m2, fun g_ he_ => by have hx_ := (hf2).own; rw [hx_] at he_; cases he_; exact (notin2 (hR.ghN m0 m2 hf2) (fun hm_ => by cases hm_))⟩⟩ all_no)))
  replace hx := hx.nextF hB hR hkF_
  have hB_ := hB.nextF hR hkF_
  replace hR := hR_; clear hR_
  replace hB := hB_; clear hB_ hk hkF_ hq0_ hw0
  refine ⟨_, rfl, _, resS_run tab (xs := []) hR hI rfl (by kernel_rfl), ?_⟩
  rw [hJ0] at hInv hdl
  obtain ⟨_, _, hi1, hi2⟩ := hInv
  rw [List.drop_zero] at hi1
  rw [pn_zero, Nat.mul_one] at hi2
  exact ⟨ds, us, rfl, hB.fin hR, (by have h_ := (hR.blk ⟨0, 124, [.v (.pointer none)]⟩ m0).1; rw [hbk0] at h_; exact h_), (hR.rowFin (y := ⟨1, 102, 1, NQ, (ints .u64 (put zq 0 ds))⟩) m1 hf1 rfl hg1), (hR.rowFin (y := ⟨2, 102, 1, NU, (ints .u64 us)⟩) m2 hf2 rfl hg2), by omega, hdd, hul, hud, hi1, hi2⟩

theorem natBn_spec {C : Nat → Prop} {w : World} {b n : Nat} (hn : n = 5) (hb : w.heap[b]? = some (.cells #[.pointer none] 124 (0, 0))) (hCb : ¬ C b) :
  Calls P 84 #[.pointer (some ⟨b, 0, none⟩), .int .i64 ((n : Nat) : Int)] w fun ex w' => ∃ b2 g c zs, ex = .returned (.slice (some ⟨g, 0, none⟩) n n) ∧ Keep (ButN [b] w) w w' ∧ w'.heap[b]? = some (.cells #[.pointer (some ⟨b2, 0, none⟩)] 124 (0, 0)) ∧ w'.heap[b2]? = some (.cells #[.slice (some ⟨g, 0, none⟩) 8 c] 148 (0, 0)) ∧ w.heap.size ≤ b2 ∧ b2 ≠ g ∧ w.heap.size ≤ g ∧ w'.heap[g]? = some (.cells (ints .u64 zs).toArray 102 (0, 0)) ∧ zs.length = c ∧ 8 ≤ c ∧ c ≤ 9223372036854775807 ∧ Ndig zs := by
 subst hn
 exact natB_spec hb hCb

end Go.Proofs.YtmendapdibnbdaaGreatDoor.Stride
