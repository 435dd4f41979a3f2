/- Walks of the program's functions, printed by a program of mine (walk.py) over the words of Stride: each function's contract. -/
import Derived.Test.YtmendapdibnbdaaGreatDoorDeF
import Derived.LaidEqlPtr
namespace Go.Proofs.YtmendapdibnbdaaGreatDoor.Stride
open Go Go.RowKit Go.Proofs.YtmendapdibnbdaaGreatDoor.Mag
set_option linter.unusedVariables false
set_option linter.unusedSimpArgs false
set_option maxHeartbeats 4000000
set_option maxRecDepth 100000
theorem divLarge_spec {C : Nat → Prop} {w : World} {b g N c m vc : Nat} {zs vs : List Nat} {ad : Option Addr} (hb : w.heap[b]? = some (.cells #[.pointer none] 124)) (hz : w.heap[g]? = some (.cells (ints .u64 zs).toArray 102)) (hzl : zs.length = N) (hzm : N ≤ 9223372036854775807) (hCb : ¬ C b) (hCg : ¬ C g) (hbg : b ≠ g) (hgl : Sl .i64 18446744073709551616 C w (some ⟨0, 0, none⟩) 1 [40]) (hx : Sl .u64 18446744073709551616 C w ad vc vs) (hzd : Ndig zs) (hfit : vs.length + m ≤ N) (hc : vs.length + m ≤ c) (hcm : c ≤ 9223372036854775807) (hm : m ≤ 60000) (hn2 : 2 ≤ vs.length) (hn3 : vs.length ≤ 3) (ht : 0 < vs.getD (vs.length - 1) 0) :
    Calls P 70 #[.slice (some ⟨g, 0, none⟩) (vs.length + m) c, .pointer (some ⟨b, 0, none⟩), .slice none 0 0, .slice (some ⟨g, 0, none⟩) (vs.length + m) c, .slice ad vs.length vc] w fun ex w' => ∃ mq zs2 ad2 l2 c3 rs, ex = .returned (.tuple #[.slice (some ⟨g, 0, none⟩) mq c, .slice ad2 l2 c3]) ∧ rs.length = l2 ∧ Keep (ButN [b, g] w) w w' ∧ w'.heap[g]? = some (.cells (ints .u64 zs2).toArray 102) ∧ zs2.length = N ∧ Ndig zs2 ∧ mq ≤ vs.length + m ∧ Ntrim (seg zs2 0 mq) ∧ nval (seg zs2 0 mq) = nval (seg zs 0 (vs.length + m)) / nval vs ∧ Sl .u64 18446744073709551616 (fun b => w.heap.size ≤ b) w' ad2 c3 rs ∧ Ntrim rs ∧ nval rs = nval (seg zs 0 (vs.length + m)) % nval vs ∧ w'.heap[b]? = some (.cells #[.pointer none] 124) := by
 refine doorD (e := ((e0.addB 0 b).addR 1 (.slice (some ⟨g, 0, none⟩) N N))) (vs := [.rsl 1 0 (vs.length + m) c, .p 0 0, vS none 0 0, .rsl 1 0 (vs.length + m) c, vS ad vs.length vc]) (n := 101) (m := 5) Tryz.func70 rfl rfl rfl (by decide) fun a_ hI => ?_
 replace hI : Is 101 [] ((e0.addB 0 b).addR 1 (.slice (some ⟨g, 0, none⟩) N N)) [(0, .rsl 1 0 (vs.length + m) c), (1, .p 0 0), (2, vS none 0 0), (3, .rsl 1 0 (vs.length + m) c), (4, vS ad vs.length vc)] a_ := hI
 have hbk0 : ((e0.addB 0 b).addR 1 (.slice (some ⟨g, 0, none⟩) N N)).b 0 = b := rfl
 have hf1 : Full ((e0.addB 0 b).addR 1 (.slice (some ⟨g, 0, none⟩) N N)) 1 N := rfl; have hg1 : headOf (((e0.addB 0 b).addR 1 (.slice (some ⟨g, 0, none⟩) N N)).r 1) = g := rfl
 have hR : Rel (ButN [b, g] w) w ((e0.addB 0 b).addR 1 (.slice (some ⟨g, 0, none⟩) N N)) [⟨0, 124, [.v (.pointer none)]⟩] [⟨1, 102, 1, N, (ints .u64 zs)⟩] w := Rel.startN (fun k_ h_ => h_.1) (all_cons ⟨hb, (fun hm_ => hm_.2 m0)⟩ all_no) (all_cons ⟨ownsRow_fullN hz (by first | exact hzl | (rw [ints_length]; exact hzl)) hzm, fun g_ he_ => by cases he_; exact (fun hm_ => hm_.2 m1)⟩ all_no) (all_cons (all_cons (fun hn_ => absurd rfl hn_) all_no) all_no) (all_cons (all_cons (fun he_ => hbg (Option.some.inj he_).symm) all_no) all_no) (all_cons (all_cons (fun hn_ => absurd rfl hn_) all_no) all_no)
 have hB : BaseD (ButN [b, g] w) C w C (ButN [b, g] w) w := BaseD.start (fun k_ hC_ hlt_ => ⟨hlt_, notin2 (fun he_ => hCb (he_ ▸ hC_)) (notin2 (fun he_ => hCg (he_ ▸ hC_)) (fun hm_ => by cases hm_))⟩)
 have hrx := hx.room; have hmx := hx.max; have hxd := hx.dig
 have hd1 := hzd
 have hvb := ndig_get hxd (vs.length - 1)
 have hul0 : (seg zs 0 (vs.length + m)).length = vs.length + m := seg_length (by omega)
 have hud0 : Ndig (seg zs 0 (vs.length + m)) := seg_dig hzd _ _
 refine rZ tab 2 [] [0, 1, 2, 3, 4] hR hI fun e1 a1 w1 hag hR hI => ?_
 have hA := hag
 refine rZ tab 2 [(12, vI vs.length)] [0, 1, 2, 3, 4] hR hI fun e2 a2 w2 hag hR hI => ?_
 replace hA := hA.trans hag (by decide)
 refine rK tab 2 [(3, .eq (.int .i64 (m : Int)))] [] [(13, vI m)] [12, 0, 1, 2, 3, 4] [] [0] [] [1] 2 hR hI (.cons (wI (((vs.length + m : Nat) : Int) - (vs.length : Int)) (m : Int) (by omega) (by omega)) .nil) fun e3 a3 w3 hag hR hI => ?_
 replace hA := hA.trans hag (by decide)
 refine wp_seq (reg (is := [0, 1, 2, 3]) (by kernel_rfl) ?_)
 refine pZ tab [0, 1] [2, 3] 2 [(23, .p 0 0), (22, .p 0 0)] [13, 12, 0, 1, 2, 3, 4] hR hI fun e4 a4 w4 hag hR hI => ?_
 replace hA := hA.trans hag (by decide)
 refine cO [.p 0 0] hI Tryz.func82 ?_
 have hq0_ := hR.blk ⟨0, 124, [.v (.pointer none)]⟩ m0
 refine (saveN_spec (C := Now hB) hq0_.1 (fun h_ => hq0_.2 h_.2)).mono ?_
 rintro ex w5 ⟨rfl, hk, hw0⟩
 have hkF_ := hR.keepN hk (all_cons hq0_.2 all_no)
 replace hbk0 := tb hA hbk0
 replace hf1 := tf hA hf1
 replace hg1 := tg hA hg1
 have hR_ : Rel (Grow _ _ w5) w5 e4 [⟨0, 124, [.v (.pointer none)]⟩] [⟨1, 102, 1, N, (ints .u64 zs)⟩] w5 := hR.turnedN hk (all_cons hq0_.2 all_no) (all_cons ⟨⟨_, m0, rfl⟩, .inr hw0⟩ all_no) (all_cons ⟨⟨_, m0, rfl⟩, .inl ⟨m0, fun g_ he_ => own_ne hf1 (notin2 (hR.ghN m0 m0 hf1) (fun hm_ => by cases hm_)) he_⟩⟩ all_no)
 replace hgl := hgl.nextF hB hR hkF_
 replace hx := hx.nextF hB hR hkF_
 have hB_ := hB.nextF hR hkF_
 replace hR := hR_; clear hR_
 replace hB := hB_; clear hB_ hk hkF_ hq0_ hw0
 refine ⟨_, rfl, ?_⟩
 replace hI := hI.pt 24 (.v (.int .i64 0)) [24, 23, 22, 13, 12, 0, 1, 2, 3, 4]
 refine deferOp (ys := [.p 0 0, .v (.int .i64 0)]) hI rfl rfl rfl ⟨_, rfl, rfl, rfl⟩ (by kernel_rfl) (fun a5 hI => ?_)
 rw [show (dens e4 [.p 0 0, .v (.int .i64 0)]).toArray = #[.pointer (some ⟨b, 0, none⟩), .int .i64 0] from by simp [dens, den, hbk0]] at hI
 replace hI := hI.sl [24, 23, 22, 13, 12, 0, 1, 2, 3, 4] rfl
 refine ops_nil (then_n ?_)
 refine wp_seq (reg (is := [0, 1, 2, 3, 4, 5, 6]) (by kernel_rfl) ?_)
 refine pK tab [0, 1, 2, 3, 4] [5, 6] 2 [(2, .eq (.int .i64 ((vs.length - 1 : Nat) : Int))), (4, .val (vU (vs.getD (vs.length - 1) 0)))] [] [(29, vU (vs.getD (vs.length - 1) 0))] [13, 12, 0, 1, 2, 3, 4] [] [0] [] [1] 2 hR hI (.cons (wI ((vs.length : Int) - (1 : Int)) ((vs.length - 1 : Nat) : Int) (by omega) (by omega)) (.cons (by omega : (0 : Int) ≤ ((vs.length - 1 : Nat) : Int) ∧ ((vs.length - 1 : Nat) : Int) < (vs.length : Int)) (.cons (nats_some (i := vs.length - 1) (hx.cells.mono hB.cls) (by omega)) (.cons (nats_load (i := vs.length - 1) (m := 1) (hx.cells.mono hB.cls) (by omega)) .nil)))) fun e6 a6 w6 hag hR hI => ?_
 have hA := hag
 refine cO [vU (vs.getD (vs.length - 1) 0)] hI Tryz.func83 ?_
 refine (nlz_spec (C := C) (x := vs.getD (vs.length - 1) 0) hvb).mono ?_
 rintro ex w7 ⟨rfl, hk⟩
 replace hR := hR.same hk; clear hk
 refine ⟨_, rfl, ?_⟩
 replace hI := hI.pt 30 (vU (64 - lent (vs.getD (vs.length - 1) 0))) [30, 29, 13, 12, 0, 1, 2, 3, 4]
 refine pZ tab [6] [] 2 [(14, vU (64 - lent (vs.getD (vs.length - 1) 0)))] [13, 12, 0, 1, 2, 3, 4] hR hI fun e8 a8 w8 hag hR hI => ?_
 replace hA := hA.trans hag (by decide)
 refine ops_nil (then_n ?_)
 obtain ⟨sh, hsh⟩ : ∃ sh, sh = 64 - lent (vs.getD (vs.length - 1) 0) := ⟨_, rfl⟩
 have hlp := (lent_pos ht).2.2
 have hl64 := (lent_shift ht hvb).2.2
 have hsh64 : sh < 64 := by omega
 replace hI := hI.re 14 (vU sh) rfl (congrArg (Value.int .u64) (by rw [hsh]))
 refine wp_seq (reg (is := [0, 1, 2, 3]) (by kernel_rfl) ?_)
 refine pZ tab [0, 1] [2, 3] 2 [(32, vI vs.length), (31, .p 0 0)] [14, 13, 12, 0, 1, 2, 3, 4] hR hI fun e9 a9 w9 hag hR hI => ?_
 replace hA := hA.trans hag (by decide)
 refine cO [.p 0 0, vI vs.length] hI Tryz.func84 ?_
 have hq0_ := hR.blk ⟨0, 124, [.v (.pointer none)]⟩ m0
 refine (natS_spec (C := Now hB) (n := vs.length) hq0_.1 (fun h_ => hq0_.2 h_.2) (by omega) (by omega)).mono ?_
 rintro ex w10 ⟨g1, c1, hz0, rfl, hk, hw0, hge1, hwg, hhl, hc1, hc1m, hhd⟩
 have hkF_ := hR.keepN hk (all_cons hq0_.2 all_no)
 replace hbk0 := tb hA hbk0
 replace hf1 := tf hA hf1
 replace hg1 := tg hA hg1
 have hR_ : Rel (Grow _ _ w10) w10 e9 [⟨0, 124, [.v (.pointer none)]⟩] [⟨1, 102, 1, N, (ints .u64 zs)⟩] w10 := hR.turnedN hk (all_cons hq0_.2 all_no) (all_cons ⟨⟨_, m0, rfl⟩, .inr hw0⟩ all_no) (all_cons ⟨⟨_, m0, rfl⟩, .inl ⟨m0, fun g_ he_ => own_ne hf1 (notin2 (hR.ghN m0 m0 hf1) (fun hm_ => by cases hm_)) he_⟩⟩ all_no)
 have hM_ : ∀ b_ ∈ ([g1] : List Nat), _ ≤ b_ := (all_cons hge1 all_no)
 replace hgl := hgl.nextN hB hR hkF_ hM_
 replace hx := hx.nextN hB hR hkF_ hM_
 have hB_ := hB.nextN hR hkF_ hM_; have hR1_ := hR_.shrinkN (M := [g1])
 obtain ⟨hfr1_, hfr2_⟩ := hR.fresh (H' := [⟨0, 124, [.v (.pointer none)]⟩]) (G' := [⟨1, 102, 1, N, (ints .u64 zs)⟩]) (all_cons ⟨_, m0, rfl⟩ all_no) (all_cons ⟨_, m0, rfl⟩ all_no) hge1
 obtain ⟨hag_, hR2_⟩ := hR1_.gotRow (L := []) (k := 2) (g := g1) (n := c1) (t := 102) (xs := (ints .u64 hz0)) (by kernel_rfl) hwg (by rw [ints_length]; exact hhl) (hc1m) (fun hf_ => hf_.2.1 m0) hfr1_ hfr2_
 replace hI := hI.agreeB (H := []) (G := []) (by kernel_rfl) hag_
 replace hf1 := tf hag_ hf1
 replace hg1 := tg hag_ hg1
 replace hbk0 := tb hag_ hbk0
 have hf2 : Full (e9.addR 2 (.slice (some ⟨g1, 0, none⟩) c1 c1)) 2 c1 := full_addR _ _ _ _; have hnew2 : headOf ((e9.addR 2 (.slice (some ⟨g1, 0, none⟩) c1 c1)).r 2) = g1 := head_addR _ _ _ _
 replace hR := hR2_; clear hR2_ hR_ hR1_
 replace hB := hB_; clear hB_ hk hkF_ hq0_ hw0
 refine ⟨_, rfl, ?_⟩
 replace hI := hI.pt 33 (.rsl 2 0 vs.length c1) [33, 32, 31, 14, 13, 12, 0, 1, 2, 3, 4]
 refine pZ tab [3] [] 3 [(15, .rsl 2 0 vs.length c1)] [14, 13, 12, 0, 1, 2, 3, 4] hR hI fun e11 a11 w11 hag hR hI => ?_
 have hA := hag
 refine ops_nil (then_n ?_)
 refine wp_seq (reg (is := [0, 1, 2, 3, 4, 5]) (by kernel_rfl) ?_)
 refine pK tab [0, 1, 2, 3] [4, 5] 3 [(3, .eq (.int .i64 ((vs.length + (m + 1) : Nat) : Int)))] [] [(37, vI (vs.length + (m + 1))), (34, vS none 0 0)] [15, 14, 13, 12, 0, 1, 2, 3, 4] [] [0] [] [2, 1] 3 hR hI (.cons (wI (((vs.length + m : Nat) : Int) + (1 : Int)) ((vs.length + (m + 1) : Nat) : Int) (by omega) (by omega)) .nil) fun e12 a12 w12 hag hR hI => ?_
 replace hA := hA.trans hag (by decide)
 refine cO [vS none 0 0, vI (vs.length + (m + 1))] hI Tryz.func78 ?_
 have hsz_ := (hB.fin hR).size
 refine (makeNew_spec (C := Now hB) (n := vs.length + (m + 1)) (by omega) (by omega)).mono ?_
 rintro ex w13 ⟨g2, c2, rfl, hk, hge, hwg, hc2, hc2m⟩
 replace hk := keepBut0 hk
 have hkF_ := hR.keepN hk all_no
 replace hbk0 := tb hA hbk0
 replace hf1 := tf hA hf1
 replace hg1 := tg hA hg1
 replace hf2 := tf hA hf2
 replace hnew2 := tg hA hnew2
 have hR_ : Rel (Grow _ _ w13) w13 e12 [⟨0, 124, [.v (.pointer none)]⟩] [⟨2, 102, 1, c1, (ints .u64 hz0)⟩, ⟨1, 102, 1, N, (ints .u64 zs)⟩] w13 := hR.turnedN hk all_no (all_cons ⟨⟨_, m0, rfl⟩, .inl ⟨m0, (fun hm_ => by cases hm_)⟩⟩ all_no) (all_cons ⟨⟨_, m0, rfl⟩, .inl ⟨m0, fun g_ he_ => own_ne hf2 (fun hm_ => by cases hm_) he_⟩⟩ (all_cons ⟨⟨_, m1, rfl⟩, .inl ⟨m1, fun g_ he_ => own_ne hf1 (fun hm_ => by cases hm_) he_⟩⟩ all_no))
 have hM_ : ∀ b_ ∈ ([g2] : List Nat), _ ≤ b_ := (all_cons hge all_no)
 replace hgl := hgl.nextN hB hR hkF_ hM_
 replace hx := hx.nextN hB hR hkF_ hM_
 have hB_ := hB.nextN hR hkF_ hM_; have hR1_ := hR_.shrinkN (M := [g2])
 obtain ⟨hfr1_, hfr2_⟩ := hR.fresh (H' := [⟨0, 124, [.v (.pointer none)]⟩]) (G' := [⟨2, 102, 1, c1, (ints .u64 hz0)⟩, ⟨1, 102, 1, N, (ints .u64 zs)⟩]) (all_cons ⟨_, m0, rfl⟩ all_no) (all_cons ⟨_, m0, rfl⟩ (all_cons ⟨_, m1, rfl⟩ all_no)) hge
 obtain ⟨hag_, hR2_⟩ := hR1_.gotRow (L := []) (k := 3) (g := g2) (n := c2) (t := 102) (xs := (ints .u64 (List.replicate c2 0))) (by kernel_rfl) hwg (by rw [ints_length, List.length_replicate]) (by omega) (fun hf_ => hf_.2.1 m0) hfr1_ hfr2_
 replace hI := hI.agreeB (H := []) (G := []) (by kernel_rfl) hag_
 replace hf1 := tf hag_ hf1
 replace hg1 := tg hag_ hg1
 replace hf2 := tf hag_ hf2
 replace hnew2 := tg hag_ hnew2
 replace hbk0 := tb hag_ hbk0
 have hf3 : Full (e12.addR 3 (.slice (some ⟨g2, 0, none⟩) c2 c2)) 3 c2 := full_addR _ _ _ _; have hnew3 : headOf ((e12.addR 3 (.slice (some ⟨g2, 0, none⟩) c2 c2)).r 3) = g2 := head_addR _ _ _ _
 replace hR := hR2_; clear hR2_ hR_ hR1_
 replace hB := hB_; clear hB_ hk hkF_ 
 have hgw := Nat.le_trans hsz_ hge
 have hrl_ : (List.replicate c2 0).length = c2 := List.length_replicate
 refine ⟨_, rfl, ?_⟩
 replace hI := hI.pt 38 (.rsl 3 0 (vs.length + (m + 1)) c2) [38, 37, 34, 15, 14, 13, 12, 0, 1, 2, 3, 4]
 refine pZ tab [5] [] 4 [(2, .rsl 3 0 (vs.length + (m + 1)) c2)] [15, 14, 13, 12, 0, 1, 3, 4] hR hI fun e14 a14 w14 hag hR hI => ?_
 have hA := hag
 refine ops_nil (then_n ?_)
 refine wp_seq ?_
 refine rZ tab 4 [(40, vB ((sh : Int) == (0 : Int)))] [2, 15, 14, 13, 12, 0, 1, 3, 4] hR hI fun e15 a15 w15 hag hR hI => ?_
 replace hA := hA.trans hag (by decide)
 refine joinM (γ := List Nat × List Nat) hB hI (fun (vl, ul) => (⟨[(0, .rsl 1 0 (vs.length + m) c), (1, .p 0 0), (2, .rsl 3 0 (vs.length + (m + 1)) c2), (12, vI vs.length), (13, vI m), (14, vU sh), (15, .rsl 2 0 vs.length c1)], [⟨0, 124, [.v (.pointer none)]⟩], [⟨3, 102, 1, c2, (ints .u64 (put (List.replicate c2 0) 0 ul))⟩, ⟨2, 102, 1, c1, (ints .u64 (put hz0 0 vl))⟩, ⟨1, 102, 1, N, (ints .u64 zs)⟩], 4⟩ : Sy)) (fun (vl, ul) e C F wb => ((Full e 1 N) ∧ (headOf (e.r 1) = g) ∧ (Full e 2 c1) ∧ (headOf (e.r 2) = g1) ∧ (Full e 3 c2) ∧ (headOf (e.r 3) = g2) ∧ (e.b 0 = b)) ∧ (Sl .u64 18446744073709551616 C wb ad vc vs ∧ Sl .i64 18446744073709551616 C wb (some ⟨0, 0, none⟩) 1 [40] ∧ vl.length = vs.length ∧ Ndig vl ∧ ul.length = vs.length + (m + 1) ∧ Ndig ul ∧ DlSt (seg zs 0 (vs.length + m)) vs vl ul m sh)) ?_ ?_
 ·
  refine cnd (b := ((sh : Int) == (0 : Int))) hI (by kernel_rfl) (fun hc16 => ?_) (fun hc16 => ?_)
  ·
   replace hI := hI.rb 40 hc16
   try simp only [tolds] at hc16
   refine wp_seq (reg (is := [0, 1, 2]) (by kernel_rfl) ?_)
   refine pZ tab [0, 1] [2] 4 [(42, vS ad vs.length vc), (41, .rsl 2 0 vs.length c1)] [2, 15, 14, 13, 12, 0, 1, 3] hR hI fun e17 a17 w17 hag hR hI => ?_
   replace hA := hA.trans hag (by decide)
   replace hbk0 := tb hA hbk0
   replace hf1 := tf hA hf1
   replace hg1 := tg hA hg1
   replace hf2 := tf hA hf2
   replace hnew2 := tg hA hnew2
   replace hf3 := tf hA hf3
   replace hnew3 := tg hA hnew3
   refine copyOp (sv := vS ad vs.length vc) (m := 2) (off := 0) (l := vs.length) (c := c1) (sl := vs.length) (sc := vc) (cs := ints .u64 vs) (y := ⟨2, 102, 1, c1, (ints .u64 hz0)⟩) tab hR hI rfl rfl (by kernel_rfl) ⟨_, rfl, rfl, rfl, rfl⟩ rfl (by kernel_rfl) hf2 rfl (by kernel_rfl) (by kernel_rfl) rfl ((hx.now hB hR).cells) (by rw [ints_length]; exact (Nat.min_self _).symm) (by rw [ints_length]; (try dsimp only); omega) ints_one (fun a18 w18 hR hI => ?_)
   dsimp only at hR; rw [ints_put] at hR; replace hR := hR.sel [0] [2, 3, 1] rfl rfl
   replace hI := hI.sl [43, 42, 41, 2, 15, 14, 13, 12, 0, 1, 3] rfl
   refine ops_nil (then_n ?_)
   refine wp_seq (reg (is := [0, 1, 2, 3, 4, 5]) (by kernel_rfl) ?_)
   refine pK tab [0, 1, 2, 3, 4] [5] 4 [] [] [(48, .rsl 1 0 (vs.length + m) c), (47, .rsl 3 0 (vs.length + m) c2)] [2, 15, 14, 13, 12, 0, 1, 3] [] [0] [] [2, 3, 1] 4 hR hI (.cons (by omega : (0 : Int) ≤ ((vs.length + m : Nat) : Int) ∧ ((vs.length + m : Nat) : Int) ≤ (c2 : Nat)) .nil) fun e19 a19 w19 hag hR hI => ?_
   have hA := hag
   replace hbk0 := tb hA hbk0
   replace hf1 := tf hA hf1
   replace hg1 := tg hA hg1
   replace hf2 := tf hA hf2
   replace hnew2 := tg hA hnew2
   replace hf3 := tf hA hf3
   replace hnew3 := tg hA hnew3
   refine copyOp (sv := .rsl 1 0 (vs.length + m) c) (m := 3) (off := 0) (l := (vs.length + m)) (c := c2) (sl := (vs.length + m)) (sc := c) (cs := ints .u64 (seg zs 0 (vs.length + m))) (y := ⟨3, 102, 1, c2, (ints .u64 (List.replicate c2 0))⟩) tab hR hI rfl rfl (by kernel_rfl) ⟨_, rfl, rfl, rfl, rfl⟩ rfl (by kernel_rfl) hf3 rfl (by kernel_rfl) (by kernel_rfl) rfl ((hR.rowRead (y := ⟨1, 102, 1, N, (ints .u64 zs)⟩) m2 hf1 rfl rfl hd1 0 (vs.length + m) (by omega) (c := c) (by omega) (by omega)).cells) (by rw [ints_length, hul0]; exact (Nat.min_self _).symm) (by rw [ints_length, hul0]; (try dsimp only); omega) ints_one (fun a20 w20 hR hI => ?_)
   dsimp only at hR; rw [ints_put] at hR; replace hR := hR.sel [0] [3, 2, 1] rfl rfl
   replace hI := hI.sl [49, 48, 47, 2, 15, 14, 13, 12, 0, 1, 3] rfl
   refine ops_nil (then_n ?_)
   refine aK tab 4 [] [] [] [2, 15, 14, 13, 12, 0, 1] [] [0] [⟨3, 102, 1, c2, ((ints .u64 (put (List.replicate c2 0) 0 (seg zs 0 (vs.length + m)))).set (0 + (vs.length + m)) (.int .u64 0))⟩] [2, 1] 4 hR hI (.cons (by omega : (0 : Int) ≤ ((vs.length + m : Nat) : Int) ∧ ((vs.length + m : Nat) : Int) < ((vs.length + (m + 1) : Nat) : Int)) (.cons (by omega : 0 + (vs.length + m) < c2 * 1) .nil)) fun e21 a21 w21 hag hR hI => ?_
   have hA := hag
   rw [ints_setL (x := 0) (v := 0) rfl] at hR
   rw [(put_snocL hul0 (by omega) : ((put (List.replicate c2 0) 0 (seg zs 0 (vs.length + m))).set (0 + (vs.length + m)) 0) = put (List.replicate c2 0) 0 ((seg zs 0 (vs.length + m)) ++ [0]))] at hR
   refine then_n ?_
   replace hbk0 := tb hA hbk0
   replace hf1 := tf hA hf1
   replace hg1 := tg hA hg1
   replace hf2 := tf hA hf2
   replace hnew2 := tg hA hnew2
   replace hf3 := tf hA hf3
   replace hnew3 := tg hA hnew3
   exact ⟨(vs, (seg zs 0 (vs.length + m)) ++ [0]), _, _, _, _, hB, ⟨⟨hf1, hg1, hf2, hnew2, hf3, hnew3, hbk0⟩, ⟨hx, hgl, rfl, hxd, by rw [List.length_append, hul0]; rfl, ndig_snoc hud0 (by decide), by rw [show sh = 0 by omega]; exact dlSt_no hxd hul0 (by omega)⟩⟩, hR.sel [0] [3, 2, 1] (by kernel_rfl) (by kernel_rfl), hI.sel [0, 1, 2, 12, 13, 14, 15] (by kernel_rfl)⟩
  ·
   replace hI := hI.rb 40 hc16
   try simp only [tolds] at hc16
   have hsh0 : 0 < sh := by omega
   refine wp_seq (reg (is := [0, 1, 2, 3]) (by kernel_rfl) ?_)
   refine pZ tab [0, 1, 2] [3] 4 [(56, vU sh), (55, vS ad vs.length vc), (54, .rsl 2 0 vs.length c1)] [2, 15, 14, 13, 12, 0, 1, 3] hR hI fun e22 a22 w22 hag hR hI => ?_
   replace hA := hA.trans hag (by decide)
   refine cO [.rsl 2 0 vs.length c1, vS ad vs.length vc, vU sh] hI Tryz.func85 ?_
   replace hbk0 := tb hA hbk0
   replace hf1 := tf hA hf1
   replace hg1 := tg hA hg1
   replace hf2 := tf hA hf2
   replace hnew2 := tg hA hnew2
   replace hf3 := tf hA hf3
   replace hnew3 := tg hA hnew3
   have hq2_ := hR.rowCells (y := ⟨2, 102, 1, c1, (ints .u64 hz0)⟩) m1 hf2 rfl
   refine (lshVU_spec (C := Now hB) (zs := hz0) hq2_.1 hhl hc1m (fun h_ => hq2_.2 h_.2) (hx.now hB hR) (by omega) hsh0 hsh64 (by omega)).mono ?_
   rintro ex w23 ⟨vl, cv, rfl, hk, hw2, hvl, hvd, hcv, hvv⟩
   have hkF_ := hR.keepN hk (all_cons hq2_.2 all_no)
   have hR_ : Rel (Grow _ _ w23) w23 e22 [⟨0, 124, [.v (.pointer none)]⟩] [⟨3, 102, 1, c2, (ints .u64 (List.replicate c2 0))⟩, ⟨2, 102, 1, c1, (ints .u64 (put hz0 0 vl))⟩, ⟨1, 102, 1, N, (ints .u64 zs)⟩] w23 := hR.turnedN hk (all_cons hq2_.2 all_no) (all_cons ⟨⟨_, m0, rfl⟩, .inl ⟨m0, (notin2 (hR.hgN m0 m1 hf2) (fun hm_ => by cases hm_))⟩⟩ all_no) (all_cons ⟨⟨_, m0, rfl⟩, .inl ⟨m0, fun g_ he_ => own_ne hf3 (notin2 (hR.ggN m0 m1 (by dsimp only; decide) hf3 hf2) (fun hm_ => by cases hm_)) he_⟩⟩ (all_cons ⟨⟨_, m1, rfl⟩, .inr (by have hl_ := hR.rowLen (y := ⟨2, 102, 1, c1, (ints .u64 hz0)⟩) m1; dsimp only at hl_; rw [show e22.r 2 = _ from hf2]; exact ownsRow_fullN hw2 (by rw [ints_length, put_length (by omega)]; exact hhl) (hc1m))⟩ (all_cons ⟨⟨_, m2, rfl⟩, .inl ⟨m2, fun g_ he_ => by have hx_ := (hf1).own; rw [hx_] at he_; cases he_; exact (notin2 (hR.ggN m2 m1 (by dsimp only; decide) hf1 hf2) (fun hm_ => by cases hm_))⟩⟩ all_no)))
   replace hgl := hgl.nextF hB hR hkF_
   replace hx := hx.nextF hB hR hkF_
   have hB_ := hB.nextF hR hkF_
   replace hR := hR_; clear hR_
   replace hB := hB_; clear hB_ hk hkF_ hq2_ hw2
   refine ⟨_, rfl, ?_⟩
   replace hI := hI.pt 57 (vU cv) [57, 56, 55, 54, 2, 15, 14, 13, 12, 0, 1, 3]
   refine ops_nil (then_n ?_)
   refine reg (is := [0, 1, 2, 3, 4, 5, 6, 7, 8, 9, 10, 11]) (by kernel_rfl) ?_
   refine pK tab [0, 1, 2, 3, 4, 5, 6, 7, 8] [9, 10, 11] 4 [] [] [(66, vU sh), (65, .rsl 1 0 (vs.length + m) c), (64, .rsl 3 0 (vs.length + m) c2), (60, vI (vs.length + m)), (58, .rsl 3 0 (vs.length + (m + 1)) c2)] [2, 15, 14, 13, 12, 0, 1] [] [0] [] [3, 2, 1] 4 hR hI (.cons (by omega : (0 : Int) ≤ ((vs.length + m : Nat) : Int) ∧ ((vs.length + m : Nat) : Int) ≤ (c2 : Nat)) .nil) fun e24 a24 w24 hag hR hI => ?_
   have hA := hag
   refine cO [.rsl 3 0 (vs.length + m) c2, .rsl 1 0 (vs.length + m) c, vU sh] hI Tryz.func85 ?_
   replace hbk0 := tb hA hbk0
   replace hf1 := tf hA hf1
   replace hg1 := tg hA hg1
   replace hf2 := tf hA hf2
   replace hnew2 := tg hA hnew2
   replace hf3 := tf hA hf3
   replace hnew3 := tg hA hnew3
   have hzk := hR.rowRead (y := ⟨1, 102, 1, N, (ints .u64 zs)⟩) m2 hf1 rfl rfl hzd 0 (vs.length + m) (by omega) (c := c) (by omega) (by omega)
   have hkn := hR.ggN m0 m2 (by dsimp only; decide) hf3 hf1
   have hq3_ := hR.rowCells (y := ⟨3, 102, 1, c2, (ints .u64 (List.replicate c2 0))⟩) m0 hf3 rfl
   refine (lshVUl_spec (C := fun b => b = headOf (e24.r 1)) (zs := (List.replicate c2 0)) hul0 hq3_.1 hrl_ (by omega) (fun h_ => hkn h_) hzk (by omega) hsh0 hsh64 (by omega)).mono ?_
   rintro ex w25 ⟨rl, cu, rfl, hk, hw3, hrl, hrd, hcu, hrv⟩
   have hkF_ := hR.keepN hk (all_cons hq3_.2 all_no)
   have hR_ : Rel (Grow _ _ w25) w25 e24 [⟨0, 124, [.v (.pointer none)]⟩] [⟨3, 102, 1, c2, (ints .u64 (put (List.replicate c2 0) 0 rl))⟩, ⟨2, 102, 1, c1, (ints .u64 (put hz0 0 vl))⟩, ⟨1, 102, 1, N, (ints .u64 zs)⟩] w25 := hR.turnedN hk (all_cons hq3_.2 all_no) (all_cons ⟨⟨_, m0, rfl⟩, .inl ⟨m0, (notin2 (hR.hgN m0 m0 hf3) (fun hm_ => by cases hm_))⟩⟩ all_no) (all_cons ⟨⟨_, m0, rfl⟩, .inr (by have hl_ := hR.rowLen (y := ⟨3, 102, 1, c2, (ints .u64 (List.replicate c2 0))⟩) m0; dsimp only at hl_; rw [show e24.r 3 = _ from hf3]; exact ownsRow_fullN hw3 (by rw [ints_length]; first | exact hUl | exact hu2l | (rw [put_length (by omega)]; first | exact hrl_ | exact hu2l)) (by omega))⟩ (all_cons ⟨⟨_, m1, rfl⟩, .inl ⟨m1, fun g_ he_ => own_ne hf2 (notin2 (hR.ggN m1 m0 (by dsimp only; decide) hf2 hf3) (fun hm_ => by cases hm_)) he_⟩⟩ (all_cons ⟨⟨_, m2, rfl⟩, .inl ⟨m2, fun g_ he_ => by have hx_ := (hf1).own; rw [hx_] at he_; cases he_; exact (notin2 (hR.ggN m2 m0 (by dsimp only; decide) hf1 hf3) (fun hm_ => by cases hm_))⟩⟩ all_no)))
   replace hgl := hgl.nextF hB hR hkF_
   replace hx := hx.nextF hB hR hkF_
   have hB_ := hB.nextF hR hkF_
   replace hR := hR_; clear hR_
   replace hB := hB_; clear hB_ hk hkF_ hq3_ hw3
   refine ⟨_, rfl, ?_⟩
   replace hI := hI.pt 67 (vU cu) [67, 66, 65, 64, 60, 58, 2, 15, 14, 13, 12, 0, 1]
   refine pK tab [10, 11] [] 4 [] [] [] [2, 15, 14, 13, 12, 0, 1] [] [0] [⟨3, 102, 1, c2, ((ints .u64 (put (List.replicate c2 0) 0 rl)).set (0 + (vs.length + m)) (.int .u64 (cu : Int)))⟩] [2, 1] 4 hR hI (.cons (by omega : (0 : Int) ≤ ((vs.length + m : Nat) : Int) ∧ ((vs.length + m : Nat) : Int) < ((vs.length + (m + 1) : Nat) : Int)) (.cons (by omega : 0 + (vs.length + m) < c2 * 1) .nil)) fun e26 a26 w26 hag hR hI => ?_
   have hA := hag
   rw [ints_set] at hR
   refine ops_nil ?_
   rw [(by rw [← hrl]; exact put_snoc (by omega) : ((put (List.replicate c2 0) 0 rl).set (0 + (vs.length + m)) cu) = put (List.replicate c2 0) 0 (rl ++ [cu]))] at hR
   refine then_n ?_
   replace hbk0 := tb hA hbk0
   replace hf1 := tf hA hf1
   replace hg1 := tg hA hg1
   replace hf2 := tf hA hf2
   replace hnew2 := tg hA hnew2
   replace hf3 := tf hA hf3
   replace hnew3 := tg hA hnew3
   exact ⟨(vl, rl ++ [cu]), _, _, _, _, hB, ⟨⟨hf1, hg1, hf2, hnew2, hf3, hnew3, hbk0⟩, ⟨hx, hgl, hvl, hvd, by rw [List.length_append, hrl]; rfl, ndig_snoc hrd (Nat.lt_of_lt_of_le hcu (show 2 ^ sh ≤ 2 ^ 64 from Nat.pow_le_pow_right (by decide) (by omega))), dlSt_sh hxd hvd hvl (by omega) hul0 hrl ht hsh hsh64 hvv hrv hcu⟩⟩, hR.sel [0] [3, 2, 1] (by kernel_rfl) (by kernel_rfl), hI.sel [0, 1, 2, 12, 13, 14, 15] (by kernel_rfl)⟩
 ·
  clear hR hI hB
  rintro ⟨vl, ul⟩ e27 C27 F27 wb27 a27 w27 hB hp hR hI
  dsimp only at hp hR hI
  replace hbk0 := tb hA hbk0
  replace hf1 := tf hA hf1
  replace hg1 := tg hA hg1
  replace hf2 := tf hA hf2
  replace hnew2 := tg hA hnew2
  replace hf3 := tf hA hf3
  replace hnew3 := tg hA hnew3
  obtain ⟨⟨hf1, hg1, hf2, hnew2, hf3, hnew3, hbk0⟩, hp⟩ := hp
  obtain ⟨hx, hgl, hvl, hvd, hull, huld, hSt⟩ := hp
  obtain ⟨hp1, hp2, hp3, hp4⟩ := dlSt_pre hSt huld hvl hull (by omega) (by omega)
  have hUl : (put (List.replicate c2 0) 0 ul).length = c2 := by rw [put_length (by omega)]; exact hrl_
  have hUd : Ndig (put (List.replicate c2 0) 0 ul) := ndig_put (ndig_replicate _) huld
  have hVl : (put hz0 0 vl).length = c1 := by rw [put_length (by omega)]; exact hhl
  refine wp_seq ?_
  refine wp_seq (reg (is := [0, 1, 2]) (by kernel_rfl) ?_)
  refine pZ tab [0, 1] [2] 4 [(70, .rsl 3 0 (vs.length + (m + 1)) c2), (69, .rsl 1 0 (vs.length + m) c)] [0, 1, 2, 12, 13, 14, 15] hR hI fun e28 a28 w28 hag hR hI => ?_
  have hA := hag
  refine cO [.rsl 1 0 (vs.length + m) c, .rsl 3 0 (vs.length + (m + 1)) c2] hI Tryz.func74 ?_
  replace hbk0 := tb hA hbk0
  replace hf1 := tf hA hf1
  replace hg1 := tg hA hg1
  replace hf2 := tf hA hf2
  replace hnew2 := tg hA hnew2
  replace hf3 := tf hA hf3
  replace hnew3 := tg hA hnew3
  have hq1_ := hR.rowCells (y := ⟨1, 102, 1, N, (ints .u64 zs)⟩) m2 hf1 rfl
  have hq3_ := hR.rowCells (y := ⟨3, 102, 1, c2, (ints .u64 (put (List.replicate c2 0) 0 ul))⟩) m0 hf3 rfl
  refine (alias_spec (C := fun _ => False) hq1_.1 hzl hzm hq3_.1 hUl (by omega) (hR.ggN m2 m0 (by dsimp only; decide) hf1 hf3) (fun h_ => h_) (fun h_ => h_) (by omega) (by omega) (by omega) (by omega)).mono ?_
  rintro ex w29 ⟨rfl, hk, hw1, hw3⟩
  have hkF_ := hR.keepN hk (all_cons hq1_.2 (all_cons hq3_.2 all_no))
  have hR_ : Rel (Grow _ _ w29) w29 e28 [⟨0, 124, [.v (.pointer none)]⟩] [⟨3, 102, 1, c2, (ints .u64 (put (List.replicate c2 0) 0 ul))⟩, ⟨2, 102, 1, c1, (ints .u64 (put hz0 0 vl))⟩, ⟨1, 102, 1, N, (ints .u64 zs)⟩] w29 := hR.turnedN hk (all_cons hq1_.2 (all_cons hq3_.2 all_no)) (all_cons ⟨⟨_, m0, rfl⟩, .inl ⟨m0, (notin2 (hR.hgN m0 m2 hf1) (notin2 (hR.hgN m0 m0 hf3) (fun hm_ => by cases hm_)))⟩⟩ all_no) (all_cons ⟨⟨_, m0, rfl⟩, .inr (by have hl_ := hR.rowLen (y := ⟨3, 102, 1, c2, (ints .u64 (put (List.replicate c2 0) 0 ul))⟩) m0; dsimp only at hl_; rw [show e28.r 3 = _ from hf3]; exact ownsRow_fullN hw3 (by rw [ints_length]; first | exact hUl | exact hu2l | (rw [put_length (by omega)]; first | exact hrl_ | exact hu2l)) (by omega))⟩ (all_cons ⟨⟨_, m1, rfl⟩, .inl ⟨m1, fun g_ he_ => by have hx_ := (hf2).own; rw [hx_] at he_; cases he_; exact (notin2 (hR.ggN m1 m2 (by dsimp only; decide) hf2 hf1) (notin2 (hR.ggN m1 m0 (by dsimp only; decide) hf2 hf3) (fun hm_ => by cases hm_)))⟩⟩ (all_cons ⟨⟨_, m2, rfl⟩, .inr (by have hl_ := hR.rowLen (y := ⟨1, 102, 1, N, (ints .u64 zs)⟩) m2; dsimp only at hl_; rw [show e28.r 1 = _ from hf1]; exact ownsRow_fullN hw1 (by rw [ints_length]; first | exact hzl | exact (by rw [put_length (by omega)]; exact hzl)) (hzm))⟩ all_no)))
  replace hgl := hgl.nextF hB hR hkF_
  replace hx := hx.nextF hB hR hkF_
  have hB_ := hB.nextF hR hkF_
  replace hR := hR_; clear hR_
  replace hB := hB_; clear hB_ hk hkF_ hq1_ hw1 hq3_ hw3
  refine ⟨_, rfl, ?_⟩
  replace hI := hI.pt 71 (vB false) [71, 70, 69, 0, 1, 2, 12, 13, 14, 15]
  refine ops_nil (then_n ?_)
  refine cnd_f hI (by kernel_rfl) ?_
  refine wp_skip ?_
  refine then_n ?_
  refine wp_seq (reg (is := [0, 1, 2, 3, 4]) (by kernel_rfl) ?_)
  refine pK tab [0, 1, 2] [3, 4] 4 [(2, .eq (.int .i64 ((m + 1 : Nat) : Int)))] [] [(74, vI (m + 1)), (72, .rsl 1 0 (vs.length + m) c)] [1, 2, 12, 14, 15] [] [0] [] [3, 2, 1] 4 hR hI (.cons (wI ((m : Int) + (1 : Int)) ((m + 1 : Nat) : Int) (by omega) (by omega)) .nil) fun e30 a30 w30 hag hR hI => ?_
  have hA := hag
  refine cO [.rsl 1 0 (vs.length + m) c, vI (m + 1)] hI Tryz.func78 ?_
  refine (makeOld_spec (C := C) (l := vs.length + m) (n := m + 1) (by omega)).mono ?_
  rintro ex w31 ⟨rfl, hk⟩
  replace hR := hR.same hk; clear hk
  refine ⟨_, rfl, ?_⟩
  replace hI := hI.pt 75 (.rsl 1 0 (m + 1) c) [75, 74, 72, 1, 2, 12, 14, 15]
  refine pZ tab [4] [] 4 [(10, .rsl 1 0 (m + 1) c)] [1, 2, 12, 14, 15] hR hI fun e32 a32 w32 hag hR hI => ?_
  replace hA := hA.trans hag (by decide)
  refine ops_nil (then_n ?_)
  refine wp_seq ?_
  refine rK tab 4 [(1, .val (.v (.int .i64 (([40] : List Nat).getD 0 0 : Nat)))), (2, .eq (.bool true))] [] [(78, vB true)] [10, 1, 2, 14, 15] [] [0] [] [3, 2, 1] 4 hR hI (.cons (nats_load (i := 0) (m := 1) (hgl.cells.mono hB.cls) (by decide)) (.cons (congrArg Value.bool (decide_eq_true (by show _ < ((40 : Nat) : Int); omega) : (decide ((vs.length : Int) < (([40] : List Nat).getD 0 0 : Nat))) = true)) .nil)) fun e33 a33 w33 hag hR hI => ?_
  replace hA := hA.trans hag (by decide)
  refine cnd_t hI (by kernel_rfl) ?_
  refine reg (is := [0, 1, 2, 3, 4]) (by kernel_rfl) ?_
  refine pZ tab [0, 1, 2, 3] [4] 4 [(82, .rsl 2 0 vs.length c1), (81, .rsl 3 0 (vs.length + (m + 1)) c2), (80, .p 0 0), (79, .rsl 1 0 (m + 1) c)] [10, 2, 14] hR hI fun e34 a34 w34 hag hR hI => ?_
  replace hA := hA.trans hag (by decide)
  refine cO [.rsl 1 0 (m + 1) c, .p 0 0, .rsl 3 0 (vs.length + (m + 1)) c2, .rsl 2 0 vs.length c1] hI Tryz.func86 ?_
  replace hbk0 := tb hA hbk0
  replace hf1 := tf hA hf1
  replace hg1 := tg hA hg1
  replace hf2 := tf hA hf2
  replace hnew2 := tg hA hnew2
  replace hf3 := tf hA hf3
  replace hnew3 := tg hA hnew3
  have hvk := hR.rowRead (y := ⟨2, 102, 1, c1, (ints .u64 (put hz0 0 vl))⟩) m1 hf2 rfl rfl (ndig_put hhd hvd) 0 vs.length (by omega) (c := c1) (by omega) (by omega)
  have hvs : (List.drop 0 (put hz0 0 vl)).take vs.length = vl := put0_seg hvl (by omega)
  rw [hvs] at hvk
  have hn1 := hR.ggN m2 m1 (by dsimp only; decide) hf1 hf2
  have hn3_ := hR.ggN m0 m1 (by dsimp only; decide) hf3 hf2
  have hn13 := hR.ggN m2 m0 (by dsimp only; decide) hf1 hf3
  have hnb1 := hR.hgN m0 m2 hf1
  have hnb2 := hR.hgN m0 m1 hf2
  have hnb3 := hR.hgN m0 m0 hf3
  have hq0_ := hR.blk ⟨0, 124, [.v (.pointer none)]⟩ m0
  have hq1_ := hR.rowCells (y := ⟨1, 102, 1, N, (ints .u64 zs)⟩) m2 hf1 rfl
  have hq3_ := hR.rowCells (y := ⟨3, 102, 1, c2, (ints .u64 (put (List.replicate c2 0) 0 ul))⟩) m0 hf3 rfl
  refine (divBasicN_spec (C := fun b => b = headOf (e34.r 2)) (mb := m + 1) (vs := vl) hvl hq0_.1 hq1_.1 hzl hzm hq3_.1 hUl (by omega) (fun h_ => hnb2 h_) (fun h_ => hn1 h_) (fun h_ => hn3_ h_) hnb1 hnb3 hn13 hUd hvk (by omega) (by omega) (by omega) (by omega) (by omega) (by omega) (by omega) (by omega) (by omega) hp1 hp2 hp3 hp4).mono ?_
  rintro ex w35 ⟨ds, u2, rfl, hk, hw0, hw1, hw3, hdl, hdd, hu2l, hu2d, hlt, hdv⟩
  have hkF_ := hR.keepN hk (all_cons hq0_.2 (all_cons hq1_.2 (all_cons hq3_.2 all_no)))
  have hR_ : Rel (Grow _ _ w35) w35 e34 [⟨0, 124, [.v (.pointer none)]⟩] [⟨3, 102, 1, c2, (ints .u64 u2)⟩, ⟨2, 102, 1, c1, (ints .u64 (put hz0 0 vl))⟩, ⟨1, 102, 1, N, (ints .u64 (put zs 0 ds))⟩] w35 := hR.turnedN hk (all_cons hq0_.2 (all_cons hq1_.2 (all_cons hq3_.2 all_no))) (all_cons ⟨⟨_, m0, rfl⟩, .inr hw0⟩ all_no) (all_cons ⟨⟨_, m0, rfl⟩, .inr (by have hl_ := hR.rowLen (y := ⟨3, 102, 1, c2, (ints .u64 (put (List.replicate c2 0) 0 ul))⟩) m0; dsimp only at hl_; rw [show e34.r 3 = _ from hf3]; exact ownsRow_fullN hw3 (by rw [ints_length]; first | exact hUl | exact hu2l | (rw [put_length (by omega)]; first | exact hrl_ | exact hu2l)) (by omega))⟩ (all_cons ⟨⟨_, m1, rfl⟩, .inl ⟨m1, fun g_ he_ => by have hx_ := (hf2).own; rw [hx_] at he_; cases he_; exact (notin2 (hR.ghN m0 m1 hf2) (notin2 (hR.ggN m1 m2 (by dsimp only; decide) hf2 hf1) (notin2 (hR.ggN m1 m0 (by dsimp only; decide) hf2 hf3) (fun hm_ => by cases hm_))))⟩⟩ (all_cons ⟨⟨_, m2, rfl⟩, .inr (by have hl_ := hR.rowLen (y := ⟨1, 102, 1, N, (ints .u64 zs)⟩) m2; dsimp only at hl_; rw [show e34.r 1 = _ from hf1]; exact ownsRow_fullN hw1 (by rw [ints_length]; first | exact hzl | exact (by rw [put_length (by omega)]; exact hzl)) (hzm))⟩ all_no)))
  replace hgl := hgl.nextF hB hR hkF_
  replace hx := hx.nextF hB hR hkF_
  have hB_ := hB.nextF hR hkF_
  replace hR := hR_; clear hR_
  replace hB := hB_; clear hB_ hk hkF_ hq0_ hw0 hq1_ hw1 hq3_ hw3
  have hzz : (put zs 0 ds).length = N := by rw [put_length (by omega)]; exact hzl
  have hzzd : Ndig (put zs 0 ds) := ndig_put hzd hdd
  refine ⟨_, rfl, ?_⟩
  replace hI := hI.pt 83 (.v (.tuple #[])) [83, 82, 81, 80, 79, 10, 2, 14]
  refine ops_nil (then_n ?_)
  refine wp_seq (reg (is := [0, 1, 2]) (by kernel_rfl) ?_)
  refine pZ tab [0] [1, 2] 4 [(89, .rsl 1 0 (m + 1) c)] [10, 2, 14] hR hI fun e36 a36 w36 hag hR hI => ?_
  have hA := hag
  refine cO [.rsl 1 0 (m + 1) c] hI Tryz.func77 ?_
  replace hbk0 := tb hA hbk0
  replace hf1 := tf hA hf1
  replace hg1 := tg hA hg1
  replace hf2 := tf hA hf2
  replace hnew2 := tg hA hnew2
  replace hf3 := tf hA hf3
  replace hnew3 := tg hA hnew3
  have hqk := hR.rowRead (y := ⟨1, 102, 1, N, (ints .u64 (put zs 0 ds))⟩) m2 hf1 rfl rfl hzzd 0 (m + 1) (by omega) (c := c) (by omega) (by omega)
  have hqs : (List.drop 0 (put zs 0 ds)).take (m + 1) = ds := put0_seg hdl (by omega)
  rw [hqs] at hqk
  refine (normL_spec (C := fun b => b = headOf (e36.r 1)) hdl hqk).mono ?_
  rintro ex w37 ⟨mq, rfl, hk, hmq, htq, hvq⟩
  replace hR := hR.same hk; clear hk
  refine ⟨_, rfl, ?_⟩
  replace hI := hI.pt 90 (.rsl 1 0 mq c) [90, 89, 10, 2, 14]
  refine pZ tab [2] [] 4 [(10, .rsl 1 0 mq c)] [2, 14] hR hI fun e38 a38 w38 hag hR hI => ?_
  have hA := hag
  refine ops_nil (then_n ?_)
  refine wp_seq ?_
  have hV0 : 0 < nval vs := by
   rcases Nat.eq_zero_or_pos (nval vs) with h_ | h_
   · rw [hSt.1, h_, Nat.zero_mul] at hp4; omega
   · exact h_
  rw [hSt.1] at hlt
  rw [nval_pad (by omega), hSt.1, hSt.2.1] at hdv
  have hqr := dl_quot hV0 hdv hlt
  have hsu2 : nval (seg u2 0 (vs.length + (m + 1))) = nval u2 := dl_low (by omega) hxd hlt hsh64 ht hsh
  refine rZ tab 4 [(92, vB ((sh : Int) != (0 : Int)))] [10, 2, 14] hR hI fun e39 a39 w39 hag hR hI => ?_
  replace hA := hA.trans hag (by decide)
  refine joinM (γ := List Nat) hB hI (fun ws => (⟨[(2, .rsl 3 0 (vs.length + (m + 1)) c2), (10, .rsl 1 0 mq c)], [⟨0, 124, [.v (.pointer none)]⟩], [⟨3, 102, 1, c2, (ints .u64 ws)⟩, ⟨1, 102, 1, N, (ints .u64 (put zs 0 ds))⟩], 4⟩ : Sy)) (fun ws e C F wb => ((Full e 1 N) ∧ (headOf (e.r 1) = g) ∧ (Full e 3 c2) ∧ (headOf (e.r 3) = g2) ∧ (e.b 0 = b)) ∧ (ws.length = c2 ∧ Ndig ws ∧ nval (seg ws 0 (vs.length + (m + 1))) = nval (seg zs 0 (vs.length + m)) % nval vs)) ?_ ?_
  ·
   refine cnd (b := ((sh : Int) != (0 : Int))) hI (by kernel_rfl) (fun hc40 => ?_) (fun hc40 => ?_)
   ·
    replace hI := hI.rb 92 hc40
    try simp only [tolds] at hc40
    have hsh0 : 0 < sh := by omega
    refine reg (is := [0, 1, 2, 3]) (by kernel_rfl) ?_
    refine pZ tab [0, 1, 2] [3] 4 [(95, vU sh), (94, .rsl 3 0 (vs.length + (m + 1)) c2), (93, .rsl 3 0 (vs.length + (m + 1)) c2)] [10, 2] hR hI fun e41 a41 w41 hag hR hI => ?_
    replace hA := hA.trans hag (by decide)
    refine cO [.rsl 3 0 (vs.length + (m + 1)) c2, .rsl 3 0 (vs.length + (m + 1)) c2, vU sh] hI Tryz.func88 ?_
    replace hbk0 := tb hA hbk0
    replace hf1 := tf hA hf1
    replace hg1 := tg hA hg1
    replace hf2 := tf hA hf2
    replace hnew2 := tg hA hnew2
    replace hf3 := tf hA hf3
    replace hnew3 := tg hA hnew3
    have hq3_ := hR.rowCells (y := ⟨3, 102, 1, c2, (ints .u64 u2)⟩) m0 hf3 rfl
    refine (rshVU_spec (C := fun _ => False) (zs := u2) (n := vs.length + (m + 1)) hq3_.1 hu2l (by omega) (fun h_ => h_) hu2d (by omega) hsh0 hsh64 (by omega)).mono ?_
    rintro ex w42 ⟨rr, cr, rfl, hk, hw3, hrrl, hrrd, hrrv⟩
    have hkF_ := hR.keepN hk (all_cons hq3_.2 all_no)
    have hR_ : Rel (Grow _ _ w42) w42 e41 [⟨0, 124, [.v (.pointer none)]⟩] [⟨3, 102, 1, c2, (ints .u64 (put u2 0 rr))⟩, ⟨2, 102, 1, c1, (ints .u64 (put hz0 0 vl))⟩, ⟨1, 102, 1, N, (ints .u64 (put zs 0 ds))⟩] w42 := hR.turnedN hk (all_cons hq3_.2 all_no) (all_cons ⟨⟨_, m0, rfl⟩, .inl ⟨m0, (notin2 (hR.hgN m0 m0 hf3) (fun hm_ => by cases hm_))⟩⟩ all_no) (all_cons ⟨⟨_, m0, rfl⟩, .inr (by have hl_ := hR.rowLen (y := ⟨3, 102, 1, c2, (ints .u64 u2)⟩) m0; dsimp only at hl_; rw [show e41.r 3 = _ from hf3]; exact ownsRow_fullN hw3 (by rw [ints_length]; first | exact hUl | exact hu2l | (rw [put_length (by omega)]; first | exact hrl_ | exact hu2l)) (by omega))⟩ (all_cons ⟨⟨_, m1, rfl⟩, .inl ⟨m1, fun g_ he_ => own_ne hf2 (notin2 (hR.ggN m1 m0 (by dsimp only; decide) hf2 hf3) (fun hm_ => by cases hm_)) he_⟩⟩ (all_cons ⟨⟨_, m2, rfl⟩, .inl ⟨m2, fun g_ he_ => by have hx_ := (hf1).own; rw [hx_] at he_; cases he_; exact (notin2 (hR.ggN m2 m0 (by dsimp only; decide) hf1 hf3) (fun hm_ => by cases hm_))⟩⟩ all_no)))
    replace hgl := hgl.nextF hB hR hkF_
    replace hx := hx.nextF hB hR hkF_
    have hB_ := hB.nextF hR hkF_
    replace hR := hR_; clear hR_
    replace hB := hB_; clear hB_ hk hkF_ hq3_ hw3
    refine ⟨_, rfl, ?_⟩
    replace hI := hI.pt 96 (vU cr) [96, 95, 94, 93, 10, 2]
    refine ops_nil (then_n ?_)
    exact ⟨put u2 0 rr, _, _, _, _, hB, ⟨⟨hf1, hg1, hf3, hnew3, hbk0⟩, ⟨by rw [put_length (by omega)]; exact hu2l, ndig_put hu2d hrrd, by rw [put0_seg hrrl (by omega), hrrv, hsu2]; exact hqr.2⟩⟩, hR.sel [0] [3, 1] (by kernel_rfl) (by kernel_rfl), hI.sel [2, 10] (by kernel_rfl)⟩
   ·
    replace hI := hI.rb 92 hc40
    try simp only [tolds] at hc40
    refine wp_skip ?_
    refine then_n ?_
    replace hbk0 := tb hA hbk0
    replace hf1 := tf hA hf1
    replace hg1 := tg hA hg1
    replace hf2 := tf hA hf2
    replace hnew2 := tg hA hnew2
    replace hf3 := tf hA hf3
    replace hnew3 := tg hA hnew3
    exact ⟨u2, _, _, _, _, hB, ⟨⟨hf1, hg1, hf3, hnew3, hbk0⟩, ⟨hu2l, hu2d, by rw [hsu2, ← hqr.2, show sh = 0 by omega, Nat.pow_zero, Nat.div_one]⟩⟩, hR.sel [0] [3, 1] (by kernel_rfl) (by kernel_rfl), hI.sel [2, 10] (by kernel_rfl)⟩
  ·
   clear hR hI hB
   rintro ws e43 C43 F43 wb43 a43 w43 hB hp hR hI
   dsimp only at hp hR hI
   replace hbk0 := tb hA hbk0
   replace hf1 := tf hA hf1
   replace hg1 := tg hA hg1
   replace hf2 := tf hA hf2
   replace hnew2 := tg hA hnew2
   replace hf3 := tf hA hf3
   replace hnew3 := tg hA hnew3
   obtain ⟨⟨hf1, hg1, hf3, hnew3, hbk0⟩, hp⟩ := hp
   obtain ⟨hwl, hwsd, hwv⟩ := hp
   refine wp_seq (reg (is := [0, 1, 2]) (by kernel_rfl) ?_)
   refine pZ tab [0] [1, 2] 4 [(97, .rsl 3 0 (vs.length + (m + 1)) c2)] [10] hR hI fun e44 a44 w44 hag hR hI => ?_
   have hA := hag
   refine cO [.rsl 3 0 (vs.length + (m + 1)) c2] hI Tryz.func77 ?_
   replace hbk0 := tb hA hbk0
   replace hf1 := tf hA hf1
   replace hg1 := tg hA hg1
   replace hf3 := tf hA hf3
   replace hnew3 := tg hA hnew3
   have hrk := hR.rowRead (y := ⟨3, 102, 1, c2, (ints .u64 ws)⟩) m0 hf3 rfl rfl hwsd 0 (vs.length + (m + 1)) (by omega) (c := c2) (by omega) (by omega)
   have hrsl : (List.take (vs.length + (m + 1)) (List.drop 0 ws)).length = vs.length + (m + 1) := seg_length (zs := ws) (o := 0) (by omega)
   refine (normL_spec (C := fun b => b = headOf (e44.r 3)) hrsl hrk).mono ?_
   rintro ex w45 ⟨mr, rfl, hk, hmr, htr, hvr⟩
   replace hR := hR.same hk; clear hk
   refine ⟨_, rfl, ?_⟩
   replace hI := hI.pt 98 (.rsl 3 0 mr c2) [98, 97, 10]
   refine pZ tab [2] [] 4 [(11, .rsl 3 0 mr c2)] [10] hR hI fun e46 a46 w46 hag hR hI => ?_
   have hA := hag
   refine ops_nil (then_n ?_)
   refine rZ tab 4 [] [11, 10] hR hI fun e47 a47 w47 hag hR hI => ?_
   replace hA := hA.trans hag (by decide)
   refine wp_ret ?_
   have hq0_ := hR.blk ⟨0, 124, [.v (.pointer none)]⟩ m0
   replace hbk0 := tb hA hbk0
   replace hf1 := tf hA hf1
   replace hg1 := tg hA hg1
   replace hf3 := tf hA hf3
   replace hnew3 := tg hA hnew3
   refine outC hI (.inl rfl) Tryz.func81 rfl rfl (restoreN_spec (C := fun _ => False) (by rw [← hbk0]; exact hq0_.1) (fun h_ => h_)) ?_
   rintro ex w48 ⟨rfl, hk, hw0⟩
   rw [← hbk0] at hk hw0
   have hkF_ := hR.keepN hk (all_cons hq0_.2 all_no)
   have hR_ : Rel (Grow _ _ w48) w48 e47 [⟨0, 124, [.v (.pointer none)]⟩] [⟨3, 102, 1, c2, (ints .u64 ws)⟩, ⟨1, 102, 1, N, (ints .u64 (put zs 0 ds))⟩] w48 := hR.turnedN hk (all_cons hq0_.2 all_no) (all_cons ⟨⟨_, m0, rfl⟩, .inr hw0⟩ all_no) (all_cons ⟨⟨_, m0, rfl⟩, .inl ⟨m0, fun g_ he_ => own_ne hf3 (notin2 (hR.ghN m0 m0 hf3) (fun hm_ => by cases hm_)) he_⟩⟩ (all_cons ⟨⟨_, m1, rfl⟩, .inl ⟨m1, fun g_ he_ => own_ne hf1 (notin2 (hR.ghN m0 m1 hf1) (fun hm_ => by cases hm_)) he_⟩⟩ all_no))
   have hB_ := hB.nextF hR hkF_
   replace hR := hR_; clear hR_
   replace hB := hB_; clear hB_ hk hkF_ hq0_ hw0
   refine ⟨_, rfl, _, resS_run tab (xs := [.rsl 1 0 mq c, .rsl 3 0 mr c2]) hR hI rfl (by kernel_rfl), ?_⟩
   have hsl := hR.rowRead (y := ⟨3, 102, 1, c2, (ints .u64 ws)⟩) m0 hf3 rfl rfl hwsd 0 mr (by omega) (c := c2) (by omega) (by omega)
   have hso := rowOut (y := ⟨3, 102, 1, c2, (ints .u64 ws)⟩) hR m0 hf3 rfl rfl hwsd (l := mr) (c := c2) (by omega) (by omega) (by omega) hnew3 hgw
   have hsg : seg ws 0 mr = (seg ws 0 (vs.length + (m + 1))).take mr := by
    show (List.drop 0 ws).take mr = ((List.drop 0 ws).take (vs.length + (m + 1))).take mr
    rw [List.take_take, Nat.min_eq_left hmr]
   have hqg : seg (put zs 0 ds) 0 mq = ds.take mq := seg_put_take (by omega) (by omega)
   exact ⟨mq, put zs 0 ds, _, mr, c2, seg ws 0 mr, by rw [← hg1]; rfl, seg_length (by omega), hB.fin hR, (hR.rowFin (y := ⟨1, 102, 1, N, (ints .u64 (put zs 0 ds))⟩) m1 hf1 rfl hg1), hzz, hzzd, by omega, by rw [hqg]; exact htq, by rw [hqg, hvq]; exact hqr.1, hso, by rw [hsg]; exact htr, by rw [hsg]; exact hvr.trans hwv, (by have h_ := (hR.blk ⟨0, 124, [.v (.pointer none)]⟩ m0).1; rw [hbk0] at h_; exact h_)⟩

end Go.Proofs.YtmendapdibnbdaaGreatDoor.Stride
