/- Walks of the program's functions, printed by a program of mine (walk.py) over the words of Stride: each function's contract. -/
import Derived.Test.YtmendapdibnbdaaGreatDoorPwC
namespace Go.Proofs.YtmendapdibnbdaaGreatDoor.Stride
open Go Go.RowKit Go.Proofs.YtmendapdibnbdaaGreatDoor.Mag
set_option linter.unusedVariables false
set_option linter.unusedSimpArgs false
set_option maxHeartbeats 4000000
set_option maxRecDepth 100000
theorem nval_first {vs : List Nat} (h : 1 ≤ vs.length) : nval ((vs.drop 0).take 1) = vs.getD 0 0 := by
 match vs, h with
 | a :: r, _ => simp [nval]

theorem mul1O_spec {C : Nat → Prop} {w : World} {g2 g4 N2 N4 n cx cy g N l c : Nat} {us vs zs : List Nat}  {stk : Option Addr} (hz : w.heap[g]? = some (.cells (ints .u64 zs).toArray 102)) (hzl : zs.length = N) (hzm : N ≤ 9223372036854775807) (hCg : ¬ C g) (huus : w.heap[g2]? = some (.cells (ints .u64 us).toArray 102)) (hulus : us.length = N2) (humus : N2 ≤ 9223372036854775807) (hCuus : ¬ C g2) (hudus : Ndig us) (huvs : w.heap[g4]? = some (.cells (ints .u64 vs).toArray 102)) (hulvs : vs.length = N4) (humvs : N4 ≤ 9223372036854775807) (hCuvs : ¬ C g4) (hudvs : Ndig vs) (hne : g ≠ g2) (hne4 : g ≠ g4) (hn24 : g2 ≠ g4) (hzd : Ndig zs) (hn : 1 ≤ n) (hn8 : n ≤ 500) (hnu : n ≤ N2) (hnc : n ≤ cx) (hcx : cx ≤ 9223372036854775807) (hnv : 1 ≤ N4) (hncv : 1 ≤ cy) (hcy : cy ≤ 9223372036854775807) (hv1 : 0 < nval ((vs.drop 0).take 1)) (hc : (n + 1) ≤ c) (hcN : (n + 1) ≤ N) (hcm : c ≤ 9223372036854775807) :
    Calls P 102 #[.slice (some ⟨g, 0, none⟩) l c, .pointer stk, .slice (some ⟨g2, 0, none⟩) n cx, .slice (some ⟨g4, 0, none⟩) 1 cy] w fun ex w' => ∃ (m : Nat) (rs : List Nat), ex = .returned (.slice (some ⟨g, 0, none⟩) m c) ∧ Keep (ButN [g, g2, g4] w) w w' ∧ w'.heap[g]? = some (.cells (ints .u64 (put zs 0 rs)).toArray 102) ∧ w'.heap[g2]? = some (.cells (ints .u64 us).toArray 102) ∧ w'.heap[g4]? = some (.cells (ints .u64 vs).toArray 102) ∧ rs.length = (n + 1) ∧ Ndig rs ∧ m ≤ (n + 1) ∧ Ntrim (rs.take m) ∧ nval (rs.take m) = nval ((us.drop 0).take n) * nval ((vs.drop 0).take 1) := by
 refine doorN (e := (((e0.addR 0 (.slice (some ⟨g, 0, none⟩) N N)).addR 1 (.slice (some ⟨g2, 0, none⟩) N2 N2)).addR 2 (.slice (some ⟨g4, 0, none⟩) N4 N4))) (vs := [.rsl 0 0 l c, .v (.pointer stk), .rsl 1 0 n cx, .rsl 2 0 1 cy]) (n := 121) (m := 4) Tryz.func102 rfl rfl rfl (by decide) fun a_ hI => ?_
 replace hI : Is 121 [] (((e0.addR 0 (.slice (some ⟨g, 0, none⟩) N N)).addR 1 (.slice (some ⟨g2, 0, none⟩) N2 N2)).addR 2 (.slice (some ⟨g4, 0, none⟩) N4 N4)) [(0, .rsl 0 0 l c), (1, .v (.pointer stk)), (2, .rsl 1 0 n cx), (3, .rsl 2 0 1 cy)] a_ := hI
 have hf0 : Full (((e0.addR 0 (.slice (some ⟨g, 0, none⟩) N N)).addR 1 (.slice (some ⟨g2, 0, none⟩) N2 N2)).addR 2 (.slice (some ⟨g4, 0, none⟩) N4 N4)) 0 N := rfl; have hg0 : headOf ((((e0.addR 0 (.slice (some ⟨g, 0, none⟩) N N)).addR 1 (.slice (some ⟨g2, 0, none⟩) N2 N2)).addR 2 (.slice (some ⟨g4, 0, none⟩) N4 N4)).r 0) = g := rfl
 have hf1 : Full (((e0.addR 0 (.slice (some ⟨g, 0, none⟩) N N)).addR 1 (.slice (some ⟨g2, 0, none⟩) N2 N2)).addR 2 (.slice (some ⟨g4, 0, none⟩) N4 N4)) 1 N2 := rfl; have hg1 : headOf ((((e0.addR 0 (.slice (some ⟨g, 0, none⟩) N N)).addR 1 (.slice (some ⟨g2, 0, none⟩) N2 N2)).addR 2 (.slice (some ⟨g4, 0, none⟩) N4 N4)).r 1) = g2 := rfl
 have hf2 : Full (((e0.addR 0 (.slice (some ⟨g, 0, none⟩) N N)).addR 1 (.slice (some ⟨g2, 0, none⟩) N2 N2)).addR 2 (.slice (some ⟨g4, 0, none⟩) N4 N4)) 2 N4 := rfl; have hg2 : headOf ((((e0.addR 0 (.slice (some ⟨g, 0, none⟩) N N)).addR 1 (.slice (some ⟨g2, 0, none⟩) N2 N2)).addR 2 (.slice (some ⟨g4, 0, none⟩) N4 N4)).r 2) = g4 := rfl
 have hR : Rel (ButN [g, g2, g4] w) w (((e0.addR 0 (.slice (some ⟨g, 0, none⟩) N N)).addR 1 (.slice (some ⟨g2, 0, none⟩) N2 N2)).addR 2 (.slice (some ⟨g4, 0, none⟩) N4 N4)) [] [⟨0, 102, 1, N, (ints .u64 zs)⟩, ⟨1, 102, 1, N2, (ints .u64 us)⟩, ⟨2, 102, 1, N4, (ints .u64 vs)⟩] w := Rel.startN (fun k_ h_ => h_.1) all_no (all_cons ⟨ownsRow_fullN hz (by first | exact hzl | (rw [ints_length]; exact hzl)) hzm, fun g_ he_ => by cases he_; exact (fun hm_ => hm_.2 m0)⟩ (all_cons ⟨ownsRow_fullN huus (by first | exact hulus | (rw [ints_length]; exact hulus)) humus, fun g_ he_ => by cases he_; exact (fun hm_ => hm_.2 m1)⟩ (all_cons ⟨ownsRow_fullN huvs (by first | exact hulvs | (rw [ints_length]; exact hulvs)) humvs, fun g_ he_ => by cases he_; exact (fun hm_ => hm_.2 m2)⟩ all_no))) all_no all_no (all_cons (all_cons (fun hn_ => absurd rfl hn_) (all_cons (fun _ g_ h1_ h2_ => hne ((Option.some.inj h1_).trans (Option.some.inj h2_).symm)) (all_cons (fun _ g_ h1_ h2_ => hne4 ((Option.some.inj h1_).trans (Option.some.inj h2_).symm)) all_no))) (all_cons (all_cons (fun _ g_ h1_ h2_ => (Ne.symm hne) ((Option.some.inj h1_).trans (Option.some.inj h2_).symm)) (all_cons (fun hn_ => absurd rfl hn_) (all_cons (fun _ g_ h1_ h2_ => hn24 ((Option.some.inj h1_).trans (Option.some.inj h2_).symm)) all_no))) (all_cons (all_cons (fun _ g_ h1_ h2_ => (Ne.symm hne4) ((Option.some.inj h1_).trans (Option.some.inj h2_).symm)) (all_cons (fun _ g_ h1_ h2_ => (Ne.symm hn24) ((Option.some.inj h1_).trans (Option.some.inj h2_).symm)) (all_cons (fun hn_ => absurd rfl hn_) all_no))) all_no)))
 have hB : BaseD (ButN [g, g2, g4] w) C w C (ButN [g, g2, g4] w) w := BaseD.start (fun k_ hC_ hlt_ => ⟨hlt_, notin2 (fun he_ => hCg (he_ ▸ hC_)) (notin2 (fun he_ => hCuus (he_ ▸ hC_)) (notin2 (fun he_ => hCuvs (he_ ▸ hC_)) (fun hm_ => by cases hm_)))⟩)
 have hxl_ : ((us.drop 0).take n).length = n := by rw [List.length_take, List.length_drop]; omega
 have hyl_ : ((vs.drop 0).take 1).length = 1 := by rw [List.length_take, List.length_drop]; omega
 refine rZ tab 3 [] [0, 1, 2, 3] hR hI fun e1 a1 w1 hag hR hI => ?_
 have hA := hag
 refine rZ tab 3 [(9, vI n)] [0, 1, 2, 3] hR hI fun e2 a2 w2 hag hR hI => ?_
 replace hA := hA.trans hag (by decide)
 refine rZ tab 3 [(10, .v (.int .i64 1))] [9, 0, 1, 2, 3] hR hI fun e3 a3 w3 hag hR hI => ?_
 replace hA := hA.trans hag (by decide)
 refine wp_seq ?_
 refine wp_block ?_
 refine rK tab 3 [(2, .eq (.bool false))] [] [(17, vB false)] [10, 9, 0, 1, 2, 3] [] [] [] [0, 1, 2] 3 hR hI (.cons (congrArg Value.bool (decide_eq_false (by omega) : (decide ((n : Int) < (1 : Int))) = false)) .nil) fun e4 a4 w4 hag hR hI => ?_
 replace hA := hA.trans hag (by decide)
 refine cnd_f hI (by kernel_rfl) ?_
 refine rK tab 3 [(1, .eq (.bool false))] [] [(26, vB false)] [10, 9, 0, 1, 2, 3] [] [] [] [0, 1, 2] 3 hR hI (.cons (congrArg Value.bool (beq_eq_false_iff_ne.2 (by omega) : ((n : Int) == (0 : Int)) = false)) .nil) fun e5 a5 w5 hag hR hI => ?_
 replace hA := hA.trans hag (by decide)
 refine cnd_f hI (by kernel_rfl) ?_
 refine rZ tab 3 [(35, vB true)] [10, 9, 0, 1, 2, 3] hR hI fun e6 a6 w6 hag hR hI => ?_
 replace hA := hA.trans hag (by decide)
 refine cnd_t hI (by kernel_rfl) ?_
 refine wp_seq (reg (is := [0, 1, 2, 3, 4, 5, 6]) (by kernel_rfl) ?_)
 refine pK tab [0, 1, 2, 3, 4] [5, 6] 3 [(4, .val (vU (vs.getD 0 0)))] [] [(42, vU (vs.getD 0 0)), (39, .rsl 1 0 n cx), (38, .rsl 0 0 l c)] [] [] [] [] [0, 1, 2] 3 hR hI (.cons (by omega : (0 : Int) ≤ (0 : Int) ∧ (0 : Int) < ((1 : Nat) : Int)) (.cons (ints_get (k := .u64) (xs := vs) (i := 0) (by omega)) (.cons (by omega : 0 < N4 * 1) .nil))) fun e7 a7 w7 hag hR hI => ?_
 replace hA := hA.trans hag (by decide)
 refine cO [.rsl 0 0 l c, .rsl 1 0 n cx, vU (vs.getD 0 0), .v (.int .u64 0)] hI Tryz.func138 ?_
 have hv0 := nval_first (vs := vs) (by omega)
 have hy0 : 0 < vs.getD 0 0 := by omega
 replace hf0 := tf hA hf0
 replace hg0 := tg hA hg0
 replace hf1 := tf hA hf1
 replace hg1 := tg hA hg1
 replace hf2 := tf hA hf2
 replace hg2 := tg hA hg2
 have hq0_ := hR.rowCells (y := ⟨0, 102, 1, N, (ints .u64 zs)⟩) m0 hf0 rfl
 have hq1_ := hR.rowCells (y := ⟨1, 102, 1, N2, (ints .u64 us)⟩) m1 hf1 rfl
 refine (mawO_spec (C := fun _ => False) (n := n) (cx := cx) (y := vs.getD 0 0) (r := 0) hq0_.1 hzl hzm (fun h_ => h_) hq1_.1 hulus humus (fun h_ => h_) hudus (hR.ggN m0 m1 (by dsimp only; decide) hf0 hf1) hzd (by omega) (by omega) (by omega) (by omega) (by omega) (ndig_get hudvs 0) hy0 (by decide) (by omega) (by omega) (by omega)).mono ?_
 rintro ex w8 ⟨m, rs, rfl, hk, hw0, hw1, hrl, hrd, hm, htm, hvm⟩
 have hkF_ := hR.keepN hk (all_cons hq0_.2 (all_cons hq1_.2 all_no))
 have hR_ : Rel (Grow _ _ w8) w8 e7 [] [⟨0, 102, 1, N, (ints .u64 (put zs 0 rs))⟩, ⟨1, 102, 1, N2, (ints .u64 us)⟩, ⟨2, 102, 1, N4, (ints .u64 vs)⟩] w8 := hR.turnedN hk (all_cons hq0_.2 (all_cons hq1_.2 all_no)) all_no (all_cons ⟨⟨_, m0, rfl⟩, .inr (by have hl_ := hR.rowLen (y := ⟨0, 102, 1, N, (ints .u64 zs)⟩) m0; dsimp only at hl_; rw [show e7.r 0 = _ from hf0]; exact ownsRow_fullN hw0 (by rw [ints_length]; first | exact hzl | (rw [put_length (by omega)]; exact hzl)) (hzm))⟩ (all_cons ⟨⟨_, m1, rfl⟩, .inr (by have hl_ := hR.rowLen (y := ⟨1, 102, 1, N2, (ints .u64 us)⟩) m1; dsimp only at hl_; rw [show e7.r 1 = _ from hf1]; exact ownsRow_fullN hw1 (by rw [ints_length]; exact hulus) (humus))⟩ (all_cons ⟨⟨_, m2, rfl⟩, .inl ⟨m2, fun g_ he_ => by have hx_ := (hf2).own; rw [hx_] at he_; cases he_; exact (notin2 (hR.ggN m2 m0 (by dsimp only; decide) hf2 hf0) (notin2 (hR.ggN m2 m1 (by dsimp only; decide) hf2 hf1) (fun hm_ => by cases hm_)))⟩⟩ all_no)))
 have hB_ := hB.nextF hR hkF_
 replace hR := hR_; clear hR_
 replace hB := hB_; clear hB_ hk hkF_ hq0_ hw0 hq1_ hw1
 refine ⟨_, rfl, ?_⟩
 replace hI := hI.pt 43 (.rsl 0 0 m c) [43, 42, 39, 38]
 refine pZ tab [6] [] 3 [(8, .rsl 0 0 m c)] [] hR hI fun e9 a9 w9 hag hR hI => ?_
 have hA := hag
 refine ops_nil (then_n ?_)
 refine wp_ret ?_
 refine ret_block ?_
 refine ret_then ?_
 refine oN tab [.rsl 0 0 m c] hR hI ?_
 replace hf0 := tf hA hf0
 replace hg0 := tg hA hg0
 replace hf1 := tf hA hf1
 replace hg1 := tg hA hg1
 replace hf2 := tf hA hf2
 replace hg2 := tg hA hg2
 exact ⟨m, rs, by simp only [single, den, hg0], hB.fin hR, (hR.rowFin (y := ⟨0, 102, 1, N, (ints .u64 (put zs 0 rs))⟩) m0 hf0 rfl hg0), (hR.rowFin (y := ⟨1, 102, 1, N2, (ints .u64 us)⟩) m1 hf1 rfl hg1), (hR.rowFin (y := ⟨2, 102, 1, N4, (ints .u64 vs)⟩) m2 hf2 rfl hg2), by omega, hrd, by omega, htm, by rw [hvm, hv0, Nat.add_zero]⟩

theorem mul1B_spec {C : Nat → Prop} {w : World} {g2 g4 N2 N4 n cx cy zl zc : Nat} {us vs : List Nat} {za : Option Addr} {stk : Option Addr} (huus : w.heap[g2]? = some (.cells (ints .u64 us).toArray 102)) (hulus : us.length = N2) (humus : N2 ≤ 9223372036854775807) (hCuus : ¬ C g2) (hudus : Ndig us) (huvs : w.heap[g4]? = some (.cells (ints .u64 vs).toArray 102)) (hulvs : vs.length = N4) (humvs : N4 ≤ 9223372036854775807) (hCuvs : ¬ C g4) (hudvs : Ndig vs) (hn24 : g2 ≠ g4) (hn : 1 ≤ n) (hn8 : n ≤ 500) (hnu : n ≤ N2) (hnc : n ≤ cx) (hcx : cx ≤ 9223372036854775807) (hnv : 1 ≤ N4) (hncv : 1 ≤ cy) (hcy : cy ≤ 9223372036854775807) (hv1 : 0 < nval ((vs.drop 0).take 1)) (hc : zc < (n + 1)) :
    Calls P 102 #[.slice za zl zc, .pointer stk, .slice (some ⟨g2, 0, none⟩) n cx, .slice (some ⟨g4, 0, none⟩) 1 cy] w fun ex w' => ∃ (g3 c3 m : Nat) (rs : List Nat), ex = .returned (.slice (some ⟨g3, 0, none⟩) m c3) ∧ Keep (ButN [g2, g4] w) w w' ∧ w.heap.size ≤ g3 ∧ w'.heap[g3]? = some (.cells (ints .u64 (put (List.replicate c3 0) 0 rs)).toArray 102) ∧ w'.heap[g2]? = some (.cells (ints .u64 us).toArray 102) ∧ w'.heap[g4]? = some (.cells (ints .u64 vs).toArray 102) ∧ (n + 1) ≤ c3 ∧ c3 ≤ (n + 1) + 4 ∧ rs.length = (n + 1) ∧ Ndig rs ∧ m ≤ (n + 1) ∧ Ntrim (rs.take m) ∧ nval (rs.take m) = nval ((us.drop 0).take n) * nval ((vs.drop 0).take 1) := by
 refine doorN (e := ((e0.addR 0 (.slice (some ⟨g2, 0, none⟩) N2 N2)).addR 1 (.slice (some ⟨g4, 0, none⟩) N4 N4))) (vs := [vS za zl zc, .v (.pointer stk), .rsl 0 0 n cx, .rsl 1 0 1 cy]) (n := 121) (m := 4) Tryz.func102 rfl rfl rfl (by decide) fun a_ hI => ?_
 replace hI : Is 121 [] ((e0.addR 0 (.slice (some ⟨g2, 0, none⟩) N2 N2)).addR 1 (.slice (some ⟨g4, 0, none⟩) N4 N4)) [(0, vS za zl zc), (1, .v (.pointer stk)), (2, .rsl 0 0 n cx), (3, .rsl 1 0 1 cy)] a_ := hI
 have hf0 : Full ((e0.addR 0 (.slice (some ⟨g2, 0, none⟩) N2 N2)).addR 1 (.slice (some ⟨g4, 0, none⟩) N4 N4)) 0 N2 := rfl; have hg0 : headOf (((e0.addR 0 (.slice (some ⟨g2, 0, none⟩) N2 N2)).addR 1 (.slice (some ⟨g4, 0, none⟩) N4 N4)).r 0) = g2 := rfl
 have hf1 : Full ((e0.addR 0 (.slice (some ⟨g2, 0, none⟩) N2 N2)).addR 1 (.slice (some ⟨g4, 0, none⟩) N4 N4)) 1 N4 := rfl; have hg1 : headOf (((e0.addR 0 (.slice (some ⟨g2, 0, none⟩) N2 N2)).addR 1 (.slice (some ⟨g4, 0, none⟩) N4 N4)).r 1) = g4 := rfl
 have hR : Rel (ButN [g2, g4] w) w ((e0.addR 0 (.slice (some ⟨g2, 0, none⟩) N2 N2)).addR 1 (.slice (some ⟨g4, 0, none⟩) N4 N4)) [] [⟨0, 102, 1, N2, (ints .u64 us)⟩, ⟨1, 102, 1, N4, (ints .u64 vs)⟩] w := Rel.startN (fun k_ h_ => h_.1) all_no (all_cons ⟨ownsRow_fullN huus (by first | exact hulus | (rw [ints_length]; exact hulus)) humus, fun g_ he_ => by cases he_; exact (fun hm_ => hm_.2 m0)⟩ (all_cons ⟨ownsRow_fullN huvs (by first | exact hulvs | (rw [ints_length]; exact hulvs)) humvs, fun g_ he_ => by cases he_; exact (fun hm_ => hm_.2 m1)⟩ all_no)) all_no all_no (all_cons (all_cons (fun hn_ => absurd rfl hn_) (all_cons (fun _ g_ h1_ h2_ => hn24 ((Option.some.inj h1_).trans (Option.some.inj h2_).symm)) all_no)) (all_cons (all_cons (fun _ g_ h1_ h2_ => (Ne.symm hn24) ((Option.some.inj h1_).trans (Option.some.inj h2_).symm)) (all_cons (fun hn_ => absurd rfl hn_) all_no)) all_no))
 have hB : BaseD (ButN [g2, g4] w) C w C (ButN [g2, g4] w) w := BaseD.start (fun k_ hC_ hlt_ => ⟨hlt_, notin2 (fun he_ => hCuus (he_ ▸ hC_)) (notin2 (fun he_ => hCuvs (he_ ▸ hC_)) (fun hm_ => by cases hm_))⟩)
 have hxl_ : ((us.drop 0).take n).length = n := by rw [List.length_take, List.length_drop]; omega
 have hyl_ : ((vs.drop 0).take 1).length = 1 := by rw [List.length_take, List.length_drop]; omega
 refine rZ tab 2 [] [0, 1, 2, 3] hR hI fun e1 a1 w1 hag hR hI => ?_
 have hA := hag
 refine rZ tab 2 [(9, vI n)] [0, 1, 2, 3] hR hI fun e2 a2 w2 hag hR hI => ?_
 replace hA := hA.trans hag (by decide)
 refine rZ tab 2 [(10, .v (.int .i64 1))] [9, 0, 1, 2, 3] hR hI fun e3 a3 w3 hag hR hI => ?_
 replace hA := hA.trans hag (by decide)
 refine wp_seq ?_
 refine wp_block ?_
 refine rK tab 2 [(2, .eq (.bool false))] [] [(17, vB false)] [10, 9, 0, 1, 2, 3] [] [] [] [0, 1] 2 hR hI (.cons (congrArg Value.bool (decide_eq_false (by omega) : (decide ((n : Int) < (1 : Int))) = false)) .nil) fun e4 a4 w4 hag hR hI => ?_
 replace hA := hA.trans hag (by decide)
 refine cnd_f hI (by kernel_rfl) ?_
 refine rK tab 2 [(1, .eq (.bool false))] [] [(26, vB false)] [10, 9, 0, 1, 2, 3] [] [] [] [0, 1] 2 hR hI (.cons (congrArg Value.bool (beq_eq_false_iff_ne.2 (by omega) : ((n : Int) == (0 : Int)) = false)) .nil) fun e5 a5 w5 hag hR hI => ?_
 replace hA := hA.trans hag (by decide)
 refine cnd_f hI (by kernel_rfl) ?_
 refine rZ tab 2 [(35, vB true)] [10, 9, 0, 1, 2, 3] hR hI fun e6 a6 w6 hag hR hI => ?_
 replace hA := hA.trans hag (by decide)
 refine cnd_t hI (by kernel_rfl) ?_
 refine wp_seq (reg (is := [0, 1, 2, 3, 4, 5, 6]) (by kernel_rfl) ?_)
 refine pK tab [0, 1, 2, 3, 4] [5, 6] 2 [(4, .val (vU (vs.getD 0 0)))] [] [(42, vU (vs.getD 0 0)), (39, .rsl 0 0 n cx), (38, vS za zl zc)] [] [] [] [] [0, 1] 2 hR hI (.cons (by omega : (0 : Int) ≤ (0 : Int) ∧ (0 : Int) < ((1 : Nat) : Int)) (.cons (ints_get (k := .u64) (xs := vs) (i := 0) (by omega)) (.cons (by omega : 0 < N4 * 1) .nil))) fun e7 a7 w7 hag hR hI => ?_
 replace hA := hA.trans hag (by decide)
 refine cO [vS za zl zc, .rsl 0 0 n cx, vU (vs.getD 0 0), .v (.int .u64 0)] hI Tryz.func138 ?_
 have hv0 := nval_first (vs := vs) (by omega)
 have hy0 : 0 < vs.getD 0 0 := by omega
 have hsz_ := (hB.fin hR).size
 replace hf0 := tf hA hf0
 replace hg0 := tg hA hg0
 replace hf1 := tf hA hf1
 replace hg1 := tg hA hg1
 have hq0_ := hR.rowCells (y := ⟨0, 102, 1, N2, (ints .u64 us)⟩) m0 hf0 rfl
 refine (mawB_spec (C := Now hB) (n := n) (cx := cx) (y := vs.getD 0 0) (r := 0) hq0_.1 hulus humus (fun h_ => hq0_.2 h_.2) hudus (by omega) (by omega) (by omega) (by omega) (by omega) (ndig_get hudvs 0) hy0 (by decide) hc).mono ?_
 rintro ex w8 ⟨g3, c3, m, rs, rfl, hk, hge, hwg, hw0, hc1, hc2, hrl, hrd, hm, htm, hvm⟩
 have hkF_ := hR.keepN hk (all_cons hq0_.2 all_no)
 have hR_ : Rel (Grow _ _ w8) w8 e7 [] [⟨0, 102, 1, N2, (ints .u64 us)⟩, ⟨1, 102, 1, N4, (ints .u64 vs)⟩] w8 := hR.turnedN hk (all_cons hq0_.2 all_no) all_no (all_cons ⟨⟨_, m0, rfl⟩, .inr (by have hl_ := hR.rowLen (y := ⟨0, 102, 1, N2, (ints .u64 us)⟩) m0; dsimp only at hl_; rw [show e7.r 0 = _ from hf0]; exact ownsRow_fullN hw0 (by rw [ints_length]; exact hulus) (humus))⟩ (all_cons ⟨⟨_, m1, rfl⟩, .inl ⟨m1, fun g_ he_ => own_ne hf1 (notin2 (hR.ggN m1 m0 (by dsimp only; decide) hf1 hf0) (fun hm_ => by cases hm_)) he_⟩⟩ all_no))
 have hM_ : ∀ b_ ∈ ([g3] : List Nat), _ ≤ b_ := (all_cons hge all_no)
 have hB_ := hB.nextN hR hkF_ hM_; have hR1_ := hR_.shrinkN (M := [g3])
 obtain ⟨hfr1_, hfr2_⟩ := hR.fresh (H' := []) (G' := [⟨0, 102, 1, N2, (ints .u64 us)⟩, ⟨1, 102, 1, N4, (ints .u64 vs)⟩]) all_no (all_cons ⟨_, m0, rfl⟩ (all_cons ⟨_, m1, rfl⟩ all_no)) hge
 obtain ⟨hag_, hR2_⟩ := hR1_.gotRow (L := []) (k := 2) (g := g3) (n := c3) (t := 102) (xs := (ints .u64 (put (List.replicate c3 0) 0 rs))) (by kernel_rfl) hwg (by rw [ints_length, put_length (by rw [List.length_replicate]; omega), List.length_replicate]) (by omega) (fun hf_ => hf_.2.1 m0) hfr1_ hfr2_
 replace hI := hI.agreeB (H := []) (G := []) (by kernel_rfl) hag_
 replace hf0 := tf hag_ hf0
 replace hg0 := tg hag_ hg0
 replace hf1 := tf hag_ hf1
 replace hg1 := tg hag_ hg1
 have hf2 : Full (e7.addR 2 (.slice (some ⟨g3, 0, none⟩) c3 c3)) 2 c3 := full_addR _ _ _ _; have hnew2 : headOf ((e7.addR 2 (.slice (some ⟨g3, 0, none⟩) c3 c3)).r 2) = g3 := head_addR _ _ _ _
 replace hR := hR2_; clear hR2_ hR_ hR1_
 replace hB := hB_; clear hB_ hk hkF_ hq0_ hw0
 have hgw := Nat.le_trans hsz_ hge
 refine ⟨_, rfl, ?_⟩
 replace hI := hI.pt 43 (.rsl 2 0 m c3) [43, 42, 39, 38]
 refine pZ tab [6] [] 3 [(8, .rsl 2 0 m c3)] [] hR hI fun e9 a9 w9 hag hR hI => ?_
 have hA := hag
 refine ops_nil (then_n ?_)
 refine wp_ret ?_
 refine ret_block ?_
 refine ret_then ?_
 refine oN tab [.rsl 2 0 m c3] hR hI ?_
 replace hf0 := tf hA hf0
 replace hg0 := tg hA hg0
 replace hf1 := tf hA hf1
 replace hg1 := tg hA hg1
 replace hf2 := tf hA hf2
 replace hnew2 := tg hA hnew2
 exact ⟨g3, c3, m, rs, by simp only [single, den, hnew2], hB.fin hR, hgw, (hR.rowFin (y := ⟨2, 102, 1, c3, (ints .u64 (put (List.replicate c3 0) 0 rs))⟩) m0 hf2 rfl hnew2), (hR.rowFin (y := ⟨0, 102, 1, N2, (ints .u64 us)⟩) m1 hf0 rfl hg0), (hR.rowFin (y := ⟨1, 102, 1, N4, (ints .u64 vs)⟩) m2 hf1 rfl hg1), by omega, by omega, by omega, hrd, by omega, htm, by rw [hvm, hv0, Nat.add_zero]⟩

theorem mulO_spec {C : Nat → Prop} {w : World} {g2 g4 N2 N4 n ny cx cy g N l c : Nat} {us vs zs : List Nat}  {stk : Option Addr} (hz : w.heap[g]? = some (.cells (ints .u64 zs).toArray 102)) (hzl : zs.length = N) (hzm : N ≤ 9223372036854775807) (hCg : ¬ C g) (huus : w.heap[g2]? = some (.cells (ints .u64 us).toArray 102)) (hulus : us.length = N2) (humus : N2 ≤ 9223372036854775807) (hCuus : ¬ C g2) (hudus : Ndig us) (huvs : w.heap[g4]? = some (.cells (ints .u64 vs).toArray 102)) (hulvs : vs.length = N4) (humvs : N4 ≤ 9223372036854775807) (hCuvs : ¬ C g4) (hudvs : Ndig vs) (hne : g ≠ g2) (hne4 : g ≠ g4) (hn24 : g2 ≠ g4) (hzd : Ndig zs) (hk3 : Sl .i64 18446744073709551616 C w (some ⟨3, 0, none⟩) 1 [40]) (hny2 : 2 ≤ ny) (hny : ny ≤ n) (hn : 1 ≤ n) (hn8 : n ≤ 500) (hnu : n ≤ N2) (hnc : n ≤ cx) (hcx : cx ≤ 9223372036854775807) (hnv : ny ≤ N4) (hncv : ny ≤ cy) (hcy : cy ≤ 9223372036854775807) (hny8 : ny ≤ 39) (hv1 : 0 < nval ((vs.drop 0).take ny)) (hc : (n + ny) ≤ c) (hcN : (n + ny) ≤ N) (hcm : c ≤ 9223372036854775807) :
    Calls P 102 #[.slice (some ⟨g, 0, none⟩) l c, .pointer stk, .slice (some ⟨g2, 0, none⟩) n cx, .slice (some ⟨g4, 0, none⟩) ny cy] w fun ex w' => ∃ (m : Nat) (rs : List Nat), ex = .returned (.slice (some ⟨g, 0, none⟩) m c) ∧ Keep (ButN [g, g2, g4] w) w w' ∧ w'.heap[g]? = some (.cells (ints .u64 (put zs 0 rs)).toArray 102) ∧ w'.heap[g2]? = some (.cells (ints .u64 us).toArray 102) ∧ w'.heap[g4]? = some (.cells (ints .u64 vs).toArray 102) ∧ rs.length = (n + ny) ∧ Ndig rs ∧ m ≤ (n + ny) ∧ Ntrim (rs.take m) ∧ nval (rs.take m) = nval ((us.drop 0).take n) * nval ((vs.drop 0).take ny) := by
 refine doorN (e := (((e0.addR 0 (.slice (some ⟨g, 0, none⟩) N N)).addR 1 (.slice (some ⟨g2, 0, none⟩) N2 N2)).addR 2 (.slice (some ⟨g4, 0, none⟩) N4 N4))) (vs := [.rsl 0 0 l c, .v (.pointer stk), .rsl 1 0 n cx, .rsl 2 0 ny cy]) (n := 121) (m := 4) Tryz.func102 rfl rfl rfl (by decide) fun a_ hI => ?_
 replace hI : Is 121 [] (((e0.addR 0 (.slice (some ⟨g, 0, none⟩) N N)).addR 1 (.slice (some ⟨g2, 0, none⟩) N2 N2)).addR 2 (.slice (some ⟨g4, 0, none⟩) N4 N4)) [(0, .rsl 0 0 l c), (1, .v (.pointer stk)), (2, .rsl 1 0 n cx), (3, .rsl 2 0 ny cy)] a_ := hI
 have hf0 : Full (((e0.addR 0 (.slice (some ⟨g, 0, none⟩) N N)).addR 1 (.slice (some ⟨g2, 0, none⟩) N2 N2)).addR 2 (.slice (some ⟨g4, 0, none⟩) N4 N4)) 0 N := rfl; have hg0 : headOf ((((e0.addR 0 (.slice (some ⟨g, 0, none⟩) N N)).addR 1 (.slice (some ⟨g2, 0, none⟩) N2 N2)).addR 2 (.slice (some ⟨g4, 0, none⟩) N4 N4)).r 0) = g := rfl
 have hf1 : Full (((e0.addR 0 (.slice (some ⟨g, 0, none⟩) N N)).addR 1 (.slice (some ⟨g2, 0, none⟩) N2 N2)).addR 2 (.slice (some ⟨g4, 0, none⟩) N4 N4)) 1 N2 := rfl; have hg1 : headOf ((((e0.addR 0 (.slice (some ⟨g, 0, none⟩) N N)).addR 1 (.slice (some ⟨g2, 0, none⟩) N2 N2)).addR 2 (.slice (some ⟨g4, 0, none⟩) N4 N4)).r 1) = g2 := rfl
 have hf2 : Full (((e0.addR 0 (.slice (some ⟨g, 0, none⟩) N N)).addR 1 (.slice (some ⟨g2, 0, none⟩) N2 N2)).addR 2 (.slice (some ⟨g4, 0, none⟩) N4 N4)) 2 N4 := rfl; have hg2 : headOf ((((e0.addR 0 (.slice (some ⟨g, 0, none⟩) N N)).addR 1 (.slice (some ⟨g2, 0, none⟩) N2 N2)).addR 2 (.slice (some ⟨g4, 0, none⟩) N4 N4)).r 2) = g4 := rfl
 have hR : Rel (ButN [g, g2, g4] w) w (((e0.addR 0 (.slice (some ⟨g, 0, none⟩) N N)).addR 1 (.slice (some ⟨g2, 0, none⟩) N2 N2)).addR 2 (.slice (some ⟨g4, 0, none⟩) N4 N4)) [] [⟨0, 102, 1, N, (ints .u64 zs)⟩, ⟨1, 102, 1, N2, (ints .u64 us)⟩, ⟨2, 102, 1, N4, (ints .u64 vs)⟩] w := Rel.startN (fun k_ h_ => h_.1) all_no (all_cons ⟨ownsRow_fullN hz (by first | exact hzl | (rw [ints_length]; exact hzl)) hzm, fun g_ he_ => by cases he_; exact (fun hm_ => hm_.2 m0)⟩ (all_cons ⟨ownsRow_fullN huus (by first | exact hulus | (rw [ints_length]; exact hulus)) humus, fun g_ he_ => by cases he_; exact (fun hm_ => hm_.2 m1)⟩ (all_cons ⟨ownsRow_fullN huvs (by first | exact hulvs | (rw [ints_length]; exact hulvs)) humvs, fun g_ he_ => by cases he_; exact (fun hm_ => hm_.2 m2)⟩ all_no))) all_no all_no (all_cons (all_cons (fun hn_ => absurd rfl hn_) (all_cons (fun _ g_ h1_ h2_ => hne ((Option.some.inj h1_).trans (Option.some.inj h2_).symm)) (all_cons (fun _ g_ h1_ h2_ => hne4 ((Option.some.inj h1_).trans (Option.some.inj h2_).symm)) all_no))) (all_cons (all_cons (fun _ g_ h1_ h2_ => (Ne.symm hne) ((Option.some.inj h1_).trans (Option.some.inj h2_).symm)) (all_cons (fun hn_ => absurd rfl hn_) (all_cons (fun _ g_ h1_ h2_ => hn24 ((Option.some.inj h1_).trans (Option.some.inj h2_).symm)) all_no))) (all_cons (all_cons (fun _ g_ h1_ h2_ => (Ne.symm hne4) ((Option.some.inj h1_).trans (Option.some.inj h2_).symm)) (all_cons (fun _ g_ h1_ h2_ => (Ne.symm hn24) ((Option.some.inj h1_).trans (Option.some.inj h2_).symm)) (all_cons (fun hn_ => absurd rfl hn_) all_no))) all_no)))
 have hB : BaseD (ButN [g, g2, g4] w) C w C (ButN [g, g2, g4] w) w := BaseD.start (fun k_ hC_ hlt_ => ⟨hlt_, notin2 (fun he_ => hCg (he_ ▸ hC_)) (notin2 (fun he_ => hCuus (he_ ▸ hC_)) (notin2 (fun he_ => hCuvs (he_ ▸ hC_)) (fun hm_ => by cases hm_)))⟩)
 have hxl_ : ((us.drop 0).take n).length = n := by rw [List.length_take, List.length_drop]; omega
 have hyl_ : ((vs.drop 0).take ny).length = ny := by rw [List.length_take, List.length_drop]; omega
 refine rZ tab 3 [] [0, 1, 2, 3] hR hI fun e1 a1 w1 hag hR hI => ?_
 have hA := hag
 refine rZ tab 3 [(9, vI n)] [0, 1, 2, 3] hR hI fun e2 a2 w2 hag hR hI => ?_
 replace hA := hA.trans hag (by decide)
 refine rZ tab 3 [(10, vI ny)] [9, 0, 1, 2, 3] hR hI fun e3 a3 w3 hag hR hI => ?_
 replace hA := hA.trans hag (by decide)
 refine wp_seq ?_
 refine wp_block ?_
 refine rK tab 3 [(2, .eq (.bool false))] [] [(17, vB false)] [10, 9, 0, 1, 2, 3] [] [] [] [0, 1, 2] 3 hR hI (.cons (congrArg Value.bool (decide_eq_false (by omega) : (decide ((n : Int) < (ny : Int))) = false)) .nil) fun e4 a4 w4 hag hR hI => ?_
 replace hA := hA.trans hag (by decide)
 refine cnd_f hI (by kernel_rfl) ?_
 refine rK tab 3 [(1, .eq (.bool false)), (4, .eq (.bool false))] [] [(26, vB false)] [10, 9, 0, 1, 2, 3] [] [] [] [0, 1, 2] 3 hR hI (.cons (congrArg Value.bool (beq_eq_false_iff_ne.2 (by omega) : ((n : Int) == (0 : Int)) = false)) (.cons (congrArg Value.bool (beq_eq_false_iff_ne.2 (by omega) : ((ny : Int) == (0 : Int)) = false)) .nil)) fun e5 a5 w5 hag hR hI => ?_
 replace hA := hA.trans hag (by decide)
 refine cnd_f hI (by kernel_rfl) ?_
 refine rK tab 3 [(1, .eq (.bool false))] [] [(35, vB false)] [10, 9, 0, 1, 2, 3] [] [] [] [0, 1, 2] 3 hR hI (.cons (congrArg Value.bool (beq_eq_false_iff_ne.2 (by omega) : ((ny : Int) == (1 : Int)) = false)) .nil) fun e6 a6 w6 hag hR hI => ?_
 replace hA := hA.trans hag (by decide)
 refine cnd_f hI (by kernel_rfl) ?_
 refine wp_skip ?_
 refine normal_block ?_
 refine then_n ?_
 refine wp_seq ?_
 refine wp_seq (reg (is := [0, 1, 2, 3, 4, 5, 6, 7]) (by kernel_rfl) ?_)
 refine pZ tab [0, 1] [2, 3, 4, 5, 6, 7] 3 [(45, .rsl 1 0 n cx), (44, .rsl 0 0 l c)] [10, 9, 0, 1, 2, 3] hR hI fun e7 a7 w7 hag hR hI => ?_
 replace hA := hA.trans hag (by decide)
 refine cO [.rsl 0 0 l c, .rsl 1 0 n cx] hI Tryz.func74 ?_
 replace hf0 := tf hA hf0
 replace hg0 := tg hA hg0
 replace hf1 := tf hA hf1
 replace hg1 := tg hA hg1
 replace hf2 := tf hA hf2
 replace hg2 := tg hA hg2
 have hq0_ := hR.rowCells (y := ⟨0, 102, 1, N, (ints .u64 zs)⟩) m0 hf0 rfl
 have hq1_ := hR.rowCells (y := ⟨1, 102, 1, N2, (ints .u64 us)⟩) m1 hf1 rfl
 refine (alias_spec (C := fun _ => False) hq0_.1 hzl hzm hq1_.1 hulus humus (hR.ggN m0 m1 (by dsimp only; decide) hf0 hf1) (fun h_ => h_) (fun h_ => h_) (by omega) (by omega) (by omega) (by omega)).mono ?_
 rintro ex w8 ⟨rfl, hk, hw0, hw1⟩
 have hkF_ := hR.keepN hk (all_cons hq0_.2 (all_cons hq1_.2 all_no))
 have hR_ : Rel (Grow _ _ w8) w8 e7 [] [⟨0, 102, 1, N, (ints .u64 zs)⟩, ⟨1, 102, 1, N2, (ints .u64 us)⟩, ⟨2, 102, 1, N4, (ints .u64 vs)⟩] w8 := hR.turnedN hk (all_cons hq0_.2 (all_cons hq1_.2 all_no)) all_no (all_cons ⟨⟨_, m0, rfl⟩, .inr (by have hl_ := hR.rowLen (y := ⟨0, 102, 1, N, (ints .u64 zs)⟩) m0; dsimp only at hl_; rw [show e7.r 0 = _ from hf0]; exact ownsRow_fullN hw0 (by rw [ints_length]; first | exact hzl | (rw [put_length (by omega)]; exact hzl)) (hzm))⟩ (all_cons ⟨⟨_, m1, rfl⟩, .inr (by have hl_ := hR.rowLen (y := ⟨1, 102, 1, N2, (ints .u64 us)⟩) m1; dsimp only at hl_; rw [show e7.r 1 = _ from hf1]; exact ownsRow_fullN hw1 (by rw [ints_length]; exact hulus) (humus))⟩ (all_cons ⟨⟨_, m2, rfl⟩, .inl ⟨m2, fun g_ he_ => by have hx_ := (hf2).own; rw [hx_] at he_; cases he_; exact (notin2 (hR.ggN m2 m0 (by dsimp only; decide) hf2 hf0) (notin2 (hR.ggN m2 m1 (by dsimp only; decide) hf2 hf1) (fun hm_ => by cases hm_)))⟩⟩ all_no)))
 replace hk3 := hk3.nextF hB hR hkF_
 have hB_ := hB.nextF hR hkF_
 replace hR := hR_; clear hR_
 replace hB := hB_; clear hB_ hk hkF_ hq0_ hw0 hq1_ hw1
 refine ⟨_, rfl, ?_⟩
 replace hI := hI.pt 46 (vB false) [46, 45, 44, 10, 9, 0, 1, 2, 3]
 refine pZ tab [3, 4, 5] [6, 7] 3 [(49, .rsl 2 0 ny cy), (48, .rsl 0 0 l c), (47, vB false)] [10, 9, 0, 1, 2, 3] hR hI fun e9 a9 w9 hag hR hI => ?_
 have hA := hag
 refine cO [.rsl 0 0 l c, .rsl 2 0 ny cy] hI Tryz.func74 ?_
 replace hf0 := tf hA hf0
 replace hg0 := tg hA hg0
 replace hf1 := tf hA hf1
 replace hg1 := tg hA hg1
 replace hf2 := tf hA hf2
 replace hg2 := tg hA hg2
 have hq0_ := hR.rowCells (y := ⟨0, 102, 1, N, (ints .u64 zs)⟩) m0 hf0 rfl
 have hq2_ := hR.rowCells (y := ⟨2, 102, 1, N4, (ints .u64 vs)⟩) m2 hf2 rfl
 refine (alias_spec (C := fun _ => False) hq0_.1 hzl hzm hq2_.1 hulvs humvs (hR.ggN m0 m2 (by dsimp only; decide) hf0 hf2) (fun h_ => h_) (fun h_ => h_) (by omega) (by omega) (by omega) (by omega)).mono ?_
 rintro ex w10 ⟨rfl, hk, hw0, hw2⟩
 have hkF_ := hR.keepN hk (all_cons hq0_.2 (all_cons hq2_.2 all_no))
 have hR_ : Rel (Grow _ _ w10) w10 e9 [] [⟨0, 102, 1, N, (ints .u64 zs)⟩, ⟨1, 102, 1, N2, (ints .u64 us)⟩, ⟨2, 102, 1, N4, (ints .u64 vs)⟩] w10 := hR.turnedN hk (all_cons hq0_.2 (all_cons hq2_.2 all_no)) all_no (all_cons ⟨⟨_, m0, rfl⟩, .inr (by have hl_ := hR.rowLen (y := ⟨0, 102, 1, N, (ints .u64 zs)⟩) m0; dsimp only at hl_; rw [show e9.r 0 = _ from hf0]; exact ownsRow_fullN hw0 (by rw [ints_length]; first | exact hzl | (rw [put_length (by omega)]; exact hzl)) (hzm))⟩ (all_cons ⟨⟨_, m1, rfl⟩, .inl ⟨m1, fun g_ he_ => by have hx_ := (hf1).own; rw [hx_] at he_; cases he_; exact (notin2 (hR.ggN m1 m0 (by dsimp only; decide) hf1 hf0) (notin2 (hR.ggN m1 m2 (by dsimp only; decide) hf1 hf2) (fun hm_ => by cases hm_)))⟩⟩ (all_cons ⟨⟨_, m2, rfl⟩, .inr (by have hl_ := hR.rowLen (y := ⟨2, 102, 1, N4, (ints .u64 vs)⟩) m2; dsimp only at hl_; rw [show e9.r 2 = _ from hf2]; exact ownsRow_fullN hw2 (by rw [ints_length]; exact hulvs) (humvs))⟩ all_no)))
 replace hk3 := hk3.nextF hB hR hkF_
 have hB_ := hB.nextF hR hkF_
 replace hR := hR_; clear hR_
 replace hB := hB_; clear hB_ hk hkF_ hq0_ hw0 hq2_ hw2
 refine ⟨_, rfl, ?_⟩
 replace hI := hI.pt 50 (vB false) [50, 49, 48, 47, 10, 9, 0, 1, 2, 3]
 refine pZ tab [7] [] 3 [(51, vB false)] [10, 9, 0, 1, 2, 3] hR hI fun e11 a11 w11 hag hR hI => ?_
 have hA := hag
 refine ops_nil (then_n ?_)
 refine cnd_f hI (by kernel_rfl) ?_
 refine wp_skip ?_
 refine then_n ?_
 refine wp_seq (reg (is := [0, 1, 2, 3, 4, 5]) (by kernel_rfl) ?_)
 refine pK tab [0, 1, 2, 3] [4, 5] 3 [(3, .eq (.int .i64 ((n + ny : Nat) : Int)))] [] [(55, vI (n + ny)), (52, .rsl 0 0 l c)] [10, 9, 0, 1, 2, 3] [] [] [] [0, 1, 2] 3 hR hI (.cons (wI ((n : Int) + (ny : Int)) ((n + ny : Nat) : Int) (by omega) (by omega)) .nil) fun e12 a12 w12 hag hR hI => ?_
 replace hA := hA.trans hag (by decide)
 refine cO [.rsl 0 0 l c, vI (n + ny)] hI Tryz.func78 ?_
 refine (makeOld_spec (C := C) (l := l) (n := n + ny) (by omega)).mono ?_
 rintro ex w13 ⟨rfl, hk⟩
 replace hR := hR.same hk; clear hk
 refine ⟨_, rfl, ?_⟩
 replace hI := hI.pt 56 (.rsl 0 0 (n + ny) c) [56, 55, 52, 10, 9, 0, 1, 2, 3]
 refine pZ tab [5] [] 3 [(0, .rsl 0 0 (n + ny) c)] [10, 9, 1, 2, 3] hR hI fun e14 a14 w14 hag hR hI => ?_
 replace hA := hA.trans hag (by decide)
 refine ops_nil (then_n ?_)
 refine wp_seq ?_
 refine rK tab 3 [(1, .val (.v (.int .i64 (([40] : List Nat).getD 0 0 : Nat)))), (2, .eq (.bool true))] [] [(59, vB true)] [0, 10, 9, 1, 2, 3] [] [] [] [0, 1, 2] 3 hR hI (.cons (nats_load (i := 0) (m := 1) (hk3.cells.mono hB.cls) (by decide)) (.cons (congrArg Value.bool (decide_eq_true (by show _ < ((40 : Nat) : Int); omega) : (decide ((ny : Int) < (([40] : List Nat).getD 0 0 : Nat))) = true)) .nil)) fun e15 a15 w15 hag hR hI => ?_
 replace hA := hA.trans hag (by decide)
 refine cnd_t hI (by kernel_rfl) ?_
 refine wp_seq (reg (is := [0, 1, 2, 3]) (by kernel_rfl) ?_)
 refine pZ tab [0, 1, 2] [3] 3 [(62, .rsl 2 0 ny cy), (61, .rsl 1 0 n cx), (60, .rsl 0 0 (n + ny) c)] [0] hR hI fun e16 a16 w16 hag hR hI => ?_
 replace hA := hA.trans hag (by decide)
 refine cO [.rsl 0 0 (n + ny) c, .rsl 1 0 n cx, .rsl 2 0 ny cy] hI Tryz.func135 ?_
 replace hf0 := tf hA hf0
 replace hg0 := tg hA hg0
 replace hf1 := tf hA hf1
 replace hg1 := tg hA hg1
 replace hf2 := tf hA hf2
 replace hg2 := tg hA hg2
 have hxk := hR.rowRead (y := ⟨1, 102, 1, N2, (ints .u64 us)⟩) m1 hf1 rfl rfl hudus 0 n (by omega) (c := cx) (by omega) (by omega)
 have hyk := hR.rowRead (y := ⟨2, 102, 1, N4, (ints .u64 vs)⟩) m2 hf2 rfl rfl hudvs 0 ny (by omega) (c := cy) (by omega) (by omega)
 have hq0_ := hR.rowCells (y := ⟨0, 102, 1, N, (ints .u64 zs)⟩) m0 hf0 rfl
 refine (basicMull_spec (C := fun b_ => b_ = headOf (e16.r 1) ∨ b_ = headOf (e16.r 2)) hxl_ hyl_ hq0_.1 hzl hzm (fun h_ => h_.elim (hR.ggN m0 m1 (by dsimp only; decide) hf0 hf1) (hR.ggN m0 m2 (by dsimp only; decide) hf0 hf2)) hzd (hxk.cls_ fun b h_ _ => .inl h_) (hyk.cls_ fun b h_ _ => .inr h_) (by omega) (by omega) (by omega) (by omega) (by omega)).mono ?_
 rintro ex w17 ⟨rs, rfl, hk, hw0, hrl, hrd, hrv⟩
 have hkF_ := hR.keepN hk (all_cons hq0_.2 all_no)
 have hR_ : Rel (Grow _ _ w17) w17 e16 [] [⟨0, 102, 1, N, (ints .u64 (put zs 0 rs))⟩, ⟨1, 102, 1, N2, (ints .u64 us)⟩, ⟨2, 102, 1, N4, (ints .u64 vs)⟩] w17 := hR.turnedN hk (all_cons hq0_.2 all_no) all_no (all_cons ⟨⟨_, m0, rfl⟩, .inr (by have hl_ := hR.rowLen (y := ⟨0, 102, 1, N, (ints .u64 zs)⟩) m0; dsimp only at hl_; rw [show e16.r 0 = _ from hf0]; exact ownsRow_fullN hw0 (by rw [ints_length]; first | exact hzl | (rw [put_length (by omega)]; exact hzl)) (hzm))⟩ (all_cons ⟨⟨_, m1, rfl⟩, .inl ⟨m1, fun g_ he_ => own_ne hf1 (notin2 (hR.ggN m1 m0 (by dsimp only; decide) hf1 hf0) (fun hm_ => by cases hm_)) he_⟩⟩ (all_cons ⟨⟨_, m2, rfl⟩, .inl ⟨m2, fun g_ he_ => by have hx_ := (hf2).own; rw [hx_] at he_; cases he_; exact (notin2 (hR.ggN m2 m0 (by dsimp only; decide) hf2 hf0) (fun hm_ => by cases hm_))⟩⟩ all_no)))
 replace hk3 := hk3.nextF hB hR hkF_
 have hB_ := hB.nextF hR hkF_
 replace hR := hR_; clear hR_
 replace hB := hB_; clear hB_ hk hkF_ hq0_ hw0
 refine ⟨_, rfl, ?_⟩
 replace hI := hI.pt 63 (.v (.tuple #[])) [63, 62, 61, 60, 0]
 refine ops_nil (then_n ?_)
 refine wp_seq (reg (is := [0, 1, 2]) (by kernel_rfl) ?_)
 refine pZ tab [0] [1, 2] 3 [(64, .rsl 0 0 (n + ny) c)] [] hR hI fun e18 a18 w18 hag hR hI => ?_
 have hA := hag
 refine cO [.rsl 0 0 (n + ny) c] hI Tryz.func77 ?_
 replace hf0 := tf hA hf0
 replace hg0 := tg hA hg0
 replace hf1 := tf hA hf1
 replace hg1 := tg hA hg1
 replace hf2 := tf hA hf2
 replace hg2 := tg hA hg2
 have hpl : (put zs 0 rs).length = N := by rw [put_length (by omega)]; exact hzl
 have hzk := hR.rowRead (y := ⟨0, 102, 1, N, (ints .u64 (put zs 0 rs))⟩) m0 hf0 rfl rfl (put_dig hzd hrd) 0 (n + ny) (by omega) (c := c) (by omega) (by omega)
 rw [show ((put zs 0 rs).drop 0).take (n + ny) = rs from put_take (by omega)] at hzk
 refine (normL_spec (C := fun b_ => b_ = headOf (e18.r 0)) (l := (n + ny)) (by omega) hzk).mono ?_
 rintro ex w19 ⟨m, rfl, hk, hm, htm, hvm⟩
 replace hR := hR.same hk; clear hk
 refine ⟨_, rfl, ?_⟩
 replace hI := hI.pt 65 (.rsl 0 0 m c) [65, 64]
 refine pZ tab [2] [] 3 [(8, .rsl 0 0 m c)] [] hR hI fun e20 a20 w20 hag hR hI => ?_
 have hA := hag
 refine ops_nil (then_n ?_)
 refine wp_ret ?_
 refine ret_then ?_
 refine oN tab [.rsl 0 0 m c] hR hI ?_
 replace hf0 := tf hA hf0
 replace hg0 := tg hA hg0
 replace hf1 := tf hA hf1
 replace hg1 := tg hA hg1
 replace hf2 := tf hA hf2
 replace hg2 := tg hA hg2
 exact ⟨m, rs, by simp only [single, den, hg0], hB.fin hR, (hR.rowFin (y := ⟨0, 102, 1, N, (ints .u64 (put zs 0 rs))⟩) m0 hf0 rfl hg0), (hR.rowFin (y := ⟨1, 102, 1, N2, (ints .u64 us)⟩) m1 hf1 rfl hg1), (hR.rowFin (y := ⟨2, 102, 1, N4, (ints .u64 vs)⟩) m2 hf2 rfl hg2), by omega, hrd, by omega, htm, by rw [hvm, hrv]⟩

theorem mulR_spec {C : Nat → Prop} {w : World} {g2 g4 N2 N4 n ny cx cy g N l c : Nat} {us vs zs : List Nat}  {stk : Option Addr} (hz : w.heap[g]? = some (.cells (ints .u64 zs).toArray 102)) (hzl : zs.length = N) (hzm : N ≤ 9223372036854775807) (hCg : ¬ C g) (huus : w.heap[g2]? = some (.cells (ints .u64 us).toArray 102)) (hulus : us.length = N2) (humus : N2 ≤ 9223372036854775807) (hCuus : ¬ C g2) (hudus : Ndig us) (huvs : w.heap[g4]? = some (.cells (ints .u64 vs).toArray 102)) (hulvs : vs.length = N4) (humvs : N4 ≤ 9223372036854775807) (hCuvs : ¬ C g4) (hudvs : Ndig vs) (hne : g ≠ g2) (hne4 : g ≠ g4) (hn24 : g2 ≠ g4) (hzd : Ndig zs) (hk3 : Sl .i64 18446744073709551616 C w (some ⟨3, 0, none⟩) 1 [40]) (hny2 : 2 ≤ ny) (hny : ny ≤ n) (hn : 1 ≤ n) (hn8 : n ≤ 500) (hnu : n ≤ N2) (hnc : n ≤ cx) (hcx : cx ≤ 9223372036854775807) (hnv : ny ≤ N4) (hncv : ny ≤ cy) (hcy : cy ≤ 9223372036854775807) (hny8 : ny ≤ 39) (hv1 : 0 < nval ((vs.drop 0).take ny)) (hc : c < (n + ny)) (hc0 : 0 < c) (hcm : c ≤ 9223372036854775807) :
    Calls P 102 #[.slice (some ⟨g, 0, none⟩) l c, .pointer stk, .slice (some ⟨g2, 0, none⟩) n cx, .slice (some ⟨g4, 0, none⟩) ny cy] w fun ex w' => ∃ (g3 c3 m : Nat) (rs : List Nat), ex = .returned (.slice (some ⟨g3, 0, none⟩) m c3) ∧ Keep (ButN [g, g2, g4] w) w w' ∧ w.heap.size ≤ g3 ∧ w'.heap[g3]? = some (.cells (ints .u64 (put (List.replicate c3 0) 0 rs)).toArray 102) ∧ w'.heap[g2]? = some (.cells (ints .u64 us).toArray 102) ∧ w'.heap[g4]? = some (.cells (ints .u64 vs).toArray 102) ∧ w'.heap[g]? = some (.cells (ints .u64 zs).toArray 102) ∧ (n + ny) ≤ c3 ∧ c3 ≤ (n + ny) + 4 ∧ rs.length = (n + ny) ∧ Ndig rs ∧ m ≤ (n + ny) ∧ Ntrim (rs.take m) ∧ nval (rs.take m) = nval ((us.drop 0).take n) * nval ((vs.drop 0).take ny) := by
 refine doorN (e := (((e0.addR 0 (.slice (some ⟨g, 0, none⟩) N N)).addR 1 (.slice (some ⟨g2, 0, none⟩) N2 N2)).addR 2 (.slice (some ⟨g4, 0, none⟩) N4 N4))) (vs := [.rsl 0 0 l c, .v (.pointer stk), .rsl 1 0 n cx, .rsl 2 0 ny cy]) (n := 121) (m := 4) Tryz.func102 rfl rfl rfl (by decide) fun a_ hI => ?_
 replace hI : Is 121 [] (((e0.addR 0 (.slice (some ⟨g, 0, none⟩) N N)).addR 1 (.slice (some ⟨g2, 0, none⟩) N2 N2)).addR 2 (.slice (some ⟨g4, 0, none⟩) N4 N4)) [(0, .rsl 0 0 l c), (1, .v (.pointer stk)), (2, .rsl 1 0 n cx), (3, .rsl 2 0 ny cy)] a_ := hI
 have hf0 : Full (((e0.addR 0 (.slice (some ⟨g, 0, none⟩) N N)).addR 1 (.slice (some ⟨g2, 0, none⟩) N2 N2)).addR 2 (.slice (some ⟨g4, 0, none⟩) N4 N4)) 0 N := rfl; have hg0 : headOf ((((e0.addR 0 (.slice (some ⟨g, 0, none⟩) N N)).addR 1 (.slice (some ⟨g2, 0, none⟩) N2 N2)).addR 2 (.slice (some ⟨g4, 0, none⟩) N4 N4)).r 0) = g := rfl
 have hf1 : Full (((e0.addR 0 (.slice (some ⟨g, 0, none⟩) N N)).addR 1 (.slice (some ⟨g2, 0, none⟩) N2 N2)).addR 2 (.slice (some ⟨g4, 0, none⟩) N4 N4)) 1 N2 := rfl; have hg1 : headOf ((((e0.addR 0 (.slice (some ⟨g, 0, none⟩) N N)).addR 1 (.slice (some ⟨g2, 0, none⟩) N2 N2)).addR 2 (.slice (some ⟨g4, 0, none⟩) N4 N4)).r 1) = g2 := rfl
 have hf2 : Full (((e0.addR 0 (.slice (some ⟨g, 0, none⟩) N N)).addR 1 (.slice (some ⟨g2, 0, none⟩) N2 N2)).addR 2 (.slice (some ⟨g4, 0, none⟩) N4 N4)) 2 N4 := rfl; have hg2 : headOf ((((e0.addR 0 (.slice (some ⟨g, 0, none⟩) N N)).addR 1 (.slice (some ⟨g2, 0, none⟩) N2 N2)).addR 2 (.slice (some ⟨g4, 0, none⟩) N4 N4)).r 2) = g4 := rfl
 have hR : Rel (ButN [g, g2, g4] w) w (((e0.addR 0 (.slice (some ⟨g, 0, none⟩) N N)).addR 1 (.slice (some ⟨g2, 0, none⟩) N2 N2)).addR 2 (.slice (some ⟨g4, 0, none⟩) N4 N4)) [] [⟨0, 102, 1, N, (ints .u64 zs)⟩, ⟨1, 102, 1, N2, (ints .u64 us)⟩, ⟨2, 102, 1, N4, (ints .u64 vs)⟩] w := Rel.startN (fun k_ h_ => h_.1) all_no (all_cons ⟨ownsRow_fullN hz (by first | exact hzl | (rw [ints_length]; exact hzl)) hzm, fun g_ he_ => by cases he_; exact (fun hm_ => hm_.2 m0)⟩ (all_cons ⟨ownsRow_fullN huus (by first | exact hulus | (rw [ints_length]; exact hulus)) humus, fun g_ he_ => by cases he_; exact (fun hm_ => hm_.2 m1)⟩ (all_cons ⟨ownsRow_fullN huvs (by first | exact hulvs | (rw [ints_length]; exact hulvs)) humvs, fun g_ he_ => by cases he_; exact (fun hm_ => hm_.2 m2)⟩ all_no))) all_no all_no (all_cons (all_cons (fun hn_ => absurd rfl hn_) (all_cons (fun _ g_ h1_ h2_ => hne ((Option.some.inj h1_).trans (Option.some.inj h2_).symm)) (all_cons (fun _ g_ h1_ h2_ => hne4 ((Option.some.inj h1_).trans (Option.some.inj h2_).symm)) all_no))) (all_cons (all_cons (fun _ g_ h1_ h2_ => (Ne.symm hne) ((Option.some.inj h1_).trans (Option.some.inj h2_).symm)) (all_cons (fun hn_ => absurd rfl hn_) (all_cons (fun _ g_ h1_ h2_ => hn24 ((Option.some.inj h1_).trans (Option.some.inj h2_).symm)) all_no))) (all_cons (all_cons (fun _ g_ h1_ h2_ => (Ne.symm hne4) ((Option.some.inj h1_).trans (Option.some.inj h2_).symm)) (all_cons (fun _ g_ h1_ h2_ => (Ne.symm hn24) ((Option.some.inj h1_).trans (Option.some.inj h2_).symm)) (all_cons (fun hn_ => absurd rfl hn_) all_no))) all_no)))
 have hB : BaseD (ButN [g, g2, g4] w) C w C (ButN [g, g2, g4] w) w := BaseD.start (fun k_ hC_ hlt_ => ⟨hlt_, notin2 (fun he_ => hCg (he_ ▸ hC_)) (notin2 (fun he_ => hCuus (he_ ▸ hC_)) (notin2 (fun he_ => hCuvs (he_ ▸ hC_)) (fun hm_ => by cases hm_)))⟩)
 have hxl_ : ((us.drop 0).take n).length = n := by rw [List.length_take, List.length_drop]; omega
 have hyl_ : ((vs.drop 0).take ny).length = ny := by rw [List.length_take, List.length_drop]; omega
 refine rZ tab 3 [] [0, 1, 2, 3] hR hI fun e1 a1 w1 hag hR hI => ?_
 have hA := hag
 refine rZ tab 3 [(9, vI n)] [0, 1, 2, 3] hR hI fun e2 a2 w2 hag hR hI => ?_
 replace hA := hA.trans hag (by decide)
 refine rZ tab 3 [(10, vI ny)] [9, 0, 1, 2, 3] hR hI fun e3 a3 w3 hag hR hI => ?_
 replace hA := hA.trans hag (by decide)
 refine wp_seq ?_
 refine wp_block ?_
 refine rK tab 3 [(2, .eq (.bool false))] [] [(17, vB false)] [10, 9, 0, 1, 2, 3] [] [] [] [0, 1, 2] 3 hR hI (.cons (congrArg Value.bool (decide_eq_false (by omega) : (decide ((n : Int) < (ny : Int))) = false)) .nil) fun e4 a4 w4 hag hR hI => ?_
 replace hA := hA.trans hag (by decide)
 refine cnd_f hI (by kernel_rfl) ?_
 refine rK tab 3 [(1, .eq (.bool false)), (4, .eq (.bool false))] [] [(26, vB false)] [10, 9, 0, 1, 2, 3] [] [] [] [0, 1, 2] 3 hR hI (.cons (congrArg Value.bool (beq_eq_false_iff_ne.2 (by omega) : ((n : Int) == (0 : Int)) = false)) (.cons (congrArg Value.bool (beq_eq_false_iff_ne.2 (by omega) : ((ny : Int) == (0 : Int)) = false)) .nil)) fun e5 a5 w5 hag hR hI => ?_
 replace hA := hA.trans hag (by decide)
 refine cnd_f hI (by kernel_rfl) ?_
 refine rK tab 3 [(1, .eq (.bool false))] [] [(35, vB false)] [10, 9, 0, 1, 2, 3] [] [] [] [0, 1, 2] 3 hR hI (.cons (congrArg Value.bool (beq_eq_false_iff_ne.2 (by omega) : ((ny : Int) == (1 : Int)) = false)) .nil) fun e6 a6 w6 hag hR hI => ?_
 replace hA := hA.trans hag (by decide)
 refine cnd_f hI (by kernel_rfl) ?_
 refine wp_skip ?_
 refine normal_block ?_
 refine then_n ?_
 refine wp_seq ?_
 refine wp_seq (reg (is := [0, 1, 2, 3, 4, 5, 6, 7]) (by kernel_rfl) ?_)
 refine pZ tab [0, 1] [2, 3, 4, 5, 6, 7] 3 [(45, .rsl 1 0 n cx), (44, .rsl 0 0 l c)] [10, 9, 0, 1, 2, 3] hR hI fun e7 a7 w7 hag hR hI => ?_
 replace hA := hA.trans hag (by decide)
 refine cO [.rsl 0 0 l c, .rsl 1 0 n cx] hI Tryz.func74 ?_
 replace hf0 := tf hA hf0
 replace hg0 := tg hA hg0
 replace hf1 := tf hA hf1
 replace hg1 := tg hA hg1
 replace hf2 := tf hA hf2
 replace hg2 := tg hA hg2
 have hq0_ := hR.rowCells (y := ⟨0, 102, 1, N, (ints .u64 zs)⟩) m0 hf0 rfl
 have hq1_ := hR.rowCells (y := ⟨1, 102, 1, N2, (ints .u64 us)⟩) m1 hf1 rfl
 refine (alias_spec (C := fun _ => False) hq0_.1 hzl hzm hq1_.1 hulus humus (hR.ggN m0 m1 (by dsimp only; decide) hf0 hf1) (fun h_ => h_) (fun h_ => h_) (by omega) (by omega) (by omega) (by omega)).mono ?_
 rintro ex w8 ⟨rfl, hk, hw0, hw1⟩
 have hkF_ := hR.keepN hk (all_cons hq0_.2 (all_cons hq1_.2 all_no))
 have hR_ : Rel (Grow _ _ w8) w8 e7 [] [⟨0, 102, 1, N, (ints .u64 zs)⟩, ⟨1, 102, 1, N2, (ints .u64 us)⟩, ⟨2, 102, 1, N4, (ints .u64 vs)⟩] w8 := hR.turnedN hk (all_cons hq0_.2 (all_cons hq1_.2 all_no)) all_no (all_cons ⟨⟨_, m0, rfl⟩, .inr (by have hl_ := hR.rowLen (y := ⟨0, 102, 1, N, (ints .u64 zs)⟩) m0; dsimp only at hl_; rw [show e7.r 0 = _ from hf0]; exact ownsRow_fullN hw0 (by rw [ints_length]; first | exact hzl | (rw [put_length (by omega)]; exact hzl)) (hzm))⟩ (all_cons ⟨⟨_, m1, rfl⟩, .inr (by have hl_ := hR.rowLen (y := ⟨1, 102, 1, N2, (ints .u64 us)⟩) m1; dsimp only at hl_; rw [show e7.r 1 = _ from hf1]; exact ownsRow_fullN hw1 (by rw [ints_length]; exact hulus) (humus))⟩ (all_cons ⟨⟨_, m2, rfl⟩, .inl ⟨m2, fun g_ he_ => by have hx_ := (hf2).own; rw [hx_] at he_; cases he_; exact (notin2 (hR.ggN m2 m0 (by dsimp only; decide) hf2 hf0) (notin2 (hR.ggN m2 m1 (by dsimp only; decide) hf2 hf1) (fun hm_ => by cases hm_)))⟩⟩ all_no)))
 replace hk3 := hk3.nextF hB hR hkF_
 have hB_ := hB.nextF hR hkF_
 replace hR := hR_; clear hR_
 replace hB := hB_; clear hB_ hk hkF_ hq0_ hw0 hq1_ hw1
 refine ⟨_, rfl, ?_⟩
 replace hI := hI.pt 46 (vB false) [46, 45, 44, 10, 9, 0, 1, 2, 3]
 refine pZ tab [3, 4, 5] [6, 7] 3 [(49, .rsl 2 0 ny cy), (48, .rsl 0 0 l c), (47, vB false)] [10, 9, 0, 1, 2, 3] hR hI fun e9 a9 w9 hag hR hI => ?_
 have hA := hag
 refine cO [.rsl 0 0 l c, .rsl 2 0 ny cy] hI Tryz.func74 ?_
 replace hf0 := tf hA hf0
 replace hg0 := tg hA hg0
 replace hf1 := tf hA hf1
 replace hg1 := tg hA hg1
 replace hf2 := tf hA hf2
 replace hg2 := tg hA hg2
 have hq0_ := hR.rowCells (y := ⟨0, 102, 1, N, (ints .u64 zs)⟩) m0 hf0 rfl
 have hq2_ := hR.rowCells (y := ⟨2, 102, 1, N4, (ints .u64 vs)⟩) m2 hf2 rfl
 refine (alias_spec (C := fun _ => False) hq0_.1 hzl hzm hq2_.1 hulvs humvs (hR.ggN m0 m2 (by dsimp only; decide) hf0 hf2) (fun h_ => h_) (fun h_ => h_) (by omega) (by omega) (by omega) (by omega)).mono ?_
 rintro ex w10 ⟨rfl, hk, hw0, hw2⟩
 have hkF_ := hR.keepN hk (all_cons hq0_.2 (all_cons hq2_.2 all_no))
 have hR_ : Rel (Grow _ _ w10) w10 e9 [] [⟨0, 102, 1, N, (ints .u64 zs)⟩, ⟨1, 102, 1, N2, (ints .u64 us)⟩, ⟨2, 102, 1, N4, (ints .u64 vs)⟩] w10 := hR.turnedN hk (all_cons hq0_.2 (all_cons hq2_.2 all_no)) all_no (all_cons ⟨⟨_, m0, rfl⟩, .inr (by have hl_ := hR.rowLen (y := ⟨0, 102, 1, N, (ints .u64 zs)⟩) m0; dsimp only at hl_; rw [show e9.r 0 = _ from hf0]; exact ownsRow_fullN hw0 (by rw [ints_length]; first | exact hzl | (rw [put_length (by omega)]; exact hzl)) (hzm))⟩ (all_cons ⟨⟨_, m1, rfl⟩, .inl ⟨m1, fun g_ he_ => by have hx_ := (hf1).own; rw [hx_] at he_; cases he_; exact (notin2 (hR.ggN m1 m0 (by dsimp only; decide) hf1 hf0) (notin2 (hR.ggN m1 m2 (by dsimp only; decide) hf1 hf2) (fun hm_ => by cases hm_)))⟩⟩ (all_cons ⟨⟨_, m2, rfl⟩, .inr (by have hl_ := hR.rowLen (y := ⟨2, 102, 1, N4, (ints .u64 vs)⟩) m2; dsimp only at hl_; rw [show e9.r 2 = _ from hf2]; exact ownsRow_fullN hw2 (by rw [ints_length]; exact hulvs) (humvs))⟩ all_no)))
 replace hk3 := hk3.nextF hB hR hkF_
 have hB_ := hB.nextF hR hkF_
 replace hR := hR_; clear hR_
 replace hB := hB_; clear hB_ hk hkF_ hq0_ hw0 hq2_ hw2
 refine ⟨_, rfl, ?_⟩
 replace hI := hI.pt 50 (vB false) [50, 49, 48, 47, 10, 9, 0, 1, 2, 3]
 refine pZ tab [7] [] 3 [(51, vB false)] [10, 9, 0, 1, 2, 3] hR hI fun e11 a11 w11 hag hR hI => ?_
 have hA := hag
 refine ops_nil (then_n ?_)
 refine cnd_f hI (by kernel_rfl) ?_
 refine wp_skip ?_
 refine then_n ?_
 refine wp_seq (reg (is := [0, 1, 2, 3, 4, 5]) (by kernel_rfl) ?_)
 refine pK tab [0, 1, 2, 3] [4, 5] 3 [(3, .eq (.int .i64 ((n + ny : Nat) : Int)))] [] [(55, vI (n + ny)), (52, .rsl 0 0 l c)] [10, 9, 0, 1, 2, 3] [] [] [] [0, 1, 2] 3 hR hI (.cons (wI ((n : Int) + (ny : Int)) ((n + ny : Nat) : Int) (by omega) (by omega)) .nil) fun e12 a12 w12 hag hR hI => ?_
 replace hA := hA.trans hag (by decide)
 refine cO [.rsl 0 0 l c, vI (n + ny)] hI Tryz.func78 ?_
 have hsz_ := (hB.fin hR).size
 refine (makeBig_spec (C := Now hB) (k := c) (n := n + ny) (by omega) (by omega)).mono ?_
 rintro ex w13 ⟨g3, c3, rfl, hk, hge, hwg, hc1, hc2⟩
 replace hk := keepBut0 hk
 have hkF_ := hR.keepN hk all_no
 replace hf0 := tf hA hf0
 replace hg0 := tg hA hg0
 replace hf1 := tf hA hf1
 replace hg1 := tg hA hg1
 replace hf2 := tf hA hf2
 replace hg2 := tg hA hg2
 have hR_ : Rel (Grow _ _ w13) w13 e12 [] [⟨0, 102, 1, N, (ints .u64 zs)⟩, ⟨1, 102, 1, N2, (ints .u64 us)⟩, ⟨2, 102, 1, N4, (ints .u64 vs)⟩] w13 := hR.turnedN hk all_no all_no (all_cons ⟨⟨_, m0, rfl⟩, .inl ⟨m0, fun g_ he_ => own_ne hf0 (fun hm_ => by cases hm_) he_⟩⟩ (all_cons ⟨⟨_, m1, rfl⟩, .inl ⟨m1, fun g_ he_ => own_ne hf1 (fun hm_ => by cases hm_) he_⟩⟩ (all_cons ⟨⟨_, m2, rfl⟩, .inl ⟨m2, fun g_ he_ => own_ne hf2 (fun hm_ => by cases hm_) he_⟩⟩ all_no)))
 have hM_ : ∀ b_ ∈ ([g3] : List Nat), _ ≤ b_ := (all_cons hge all_no)
 replace hk3 := hk3.nextN hB hR hkF_ hM_
 have hB_ := hB.nextN hR hkF_ hM_; have hR1_ := hR_.shrinkN (M := [g3])
 obtain ⟨hfr1_, hfr2_⟩ := hR.fresh (H' := []) (G' := [⟨0, 102, 1, N, (ints .u64 zs)⟩, ⟨1, 102, 1, N2, (ints .u64 us)⟩, ⟨2, 102, 1, N4, (ints .u64 vs)⟩]) all_no (all_cons ⟨_, m0, rfl⟩ (all_cons ⟨_, m1, rfl⟩ (all_cons ⟨_, m2, rfl⟩ all_no))) hge
 obtain ⟨hag_, hR2_⟩ := hR1_.gotRow (L := []) (k := 3) (g := g3) (n := c3) (t := 102) (xs := (ints .u64 (List.replicate c3 0))) (by kernel_rfl) hwg (by rw [ints_length, List.length_replicate]) (by omega) (fun hf_ => hf_.2.1 m0) hfr1_ hfr2_
 replace hI := hI.agreeB (H := []) (G := []) (by kernel_rfl) hag_
 replace hf0 := tf hag_ hf0
 replace hg0 := tg hag_ hg0
 replace hf1 := tf hag_ hf1
 replace hg1 := tg hag_ hg1
 replace hf2 := tf hag_ hf2
 replace hg2 := tg hag_ hg2
 have hf3 : Full (e12.addR 3 (.slice (some ⟨g3, 0, none⟩) c3 c3)) 3 c3 := full_addR _ _ _ _; have hnew3 : headOf ((e12.addR 3 (.slice (some ⟨g3, 0, none⟩) c3 c3)).r 3) = g3 := head_addR _ _ _ _
 replace hR := hR2_; clear hR2_ hR_ hR1_
 replace hB := hB_; clear hB_ hk hkF_ 
 have hgw := Nat.le_trans hsz_ hge
 have hrl_ : (List.replicate c3 0).length = c3 := List.length_replicate
 have hrd_ : Ndig (List.replicate c3 0) := ndig_replicate _
 refine ⟨_, rfl, ?_⟩
 replace hI := hI.pt 56 (.rsl 3 0 (n + ny) c3) [56, 55, 52, 10, 9, 0, 1, 2, 3]
 refine pZ tab [5] [] 4 [(0, .rsl 3 0 (n + ny) c3)] [10, 9, 1, 2, 3] hR hI fun e14 a14 w14 hag hR hI => ?_
 have hA := hag
 refine ops_nil (then_n ?_)
 refine wp_seq ?_
 refine rK tab 4 [(1, .val (.v (.int .i64 (([40] : List Nat).getD 0 0 : Nat)))), (2, .eq (.bool true))] [] [(59, vB true)] [0, 10, 9, 1, 2, 3] [] [] [] [3, 0, 1, 2] 4 hR hI (.cons (nats_load (i := 0) (m := 1) (hk3.cells.mono hB.cls) (by decide)) (.cons (congrArg Value.bool (decide_eq_true (by show _ < ((40 : Nat) : Int); omega) : (decide ((ny : Int) < (([40] : List Nat).getD 0 0 : Nat))) = true)) .nil)) fun e15 a15 w15 hag hR hI => ?_
 replace hA := hA.trans hag (by decide)
 refine cnd_t hI (by kernel_rfl) ?_
 refine wp_seq (reg (is := [0, 1, 2, 3]) (by kernel_rfl) ?_)
 refine pZ tab [0, 1, 2] [3] 4 [(62, .rsl 2 0 ny cy), (61, .rsl 1 0 n cx), (60, .rsl 3 0 (n + ny) c3)] [0] hR hI fun e16 a16 w16 hag hR hI => ?_
 replace hA := hA.trans hag (by decide)
 refine cO [.rsl 3 0 (n + ny) c3, .rsl 1 0 n cx, .rsl 2 0 ny cy] hI Tryz.func135 ?_
 replace hf0 := tf hA hf0
 replace hg0 := tg hA hg0
 replace hf1 := tf hA hf1
 replace hg1 := tg hA hg1
 replace hf2 := tf hA hf2
 replace hg2 := tg hA hg2
 replace hf3 := tf hA hf3
 replace hnew3 := tg hA hnew3
 have hxk := hR.rowRead (y := ⟨1, 102, 1, N2, (ints .u64 us)⟩) m2 hf1 rfl rfl hudus 0 n (by omega) (c := cx) (by omega) (by omega)
 have hyk := hR.rowRead (y := ⟨2, 102, 1, N4, (ints .u64 vs)⟩) m3 hf2 rfl rfl hudvs 0 ny (by omega) (c := cy) (by omega) (by omega)
 have hq3_ := hR.rowCells (y := ⟨3, 102, 1, c3, (ints .u64 (List.replicate c3 0))⟩) m0 hf3 rfl
 refine (basicMull_spec (C := fun b_ => b_ = headOf (e16.r 1) ∨ b_ = headOf (e16.r 2)) hxl_ hyl_ hq3_.1 hrl_ (by omega) (fun h_ => h_.elim (hR.ggN m0 m2 (by dsimp only; decide) hf3 hf1) (hR.ggN m0 m3 (by dsimp only; decide) hf3 hf2)) hrd_ (hxk.cls_ fun b h_ _ => .inl h_) (hyk.cls_ fun b h_ _ => .inr h_) (by omega) (by omega) (by omega) (by omega) (by omega)).mono ?_
 rintro ex w17 ⟨rs, rfl, hk, hw3, hrl, hrd, hrv⟩
 have hkF_ := hR.keepN hk (all_cons hq3_.2 all_no)
 have hR_ : Rel (Grow _ _ w17) w17 e16 [] [⟨3, 102, 1, c3, (ints .u64 (put (List.replicate c3 0) 0 rs))⟩, ⟨0, 102, 1, N, (ints .u64 zs)⟩, ⟨1, 102, 1, N2, (ints .u64 us)⟩, ⟨2, 102, 1, N4, (ints .u64 vs)⟩] w17 := hR.turnedN hk (all_cons hq3_.2 all_no) all_no (all_cons ⟨⟨_, m0, rfl⟩, .inr (by have hl_ := hR.rowLen (y := ⟨3, 102, 1, c3, (ints .u64 (List.replicate c3 0))⟩) m0; dsimp only at hl_; rw [show e16.r 3 = _ from hf3]; exact ownsRow_fullN hw3 (by rw [ints_length]; first | exact hrl_ | (rw [put_length (by omega)]; exact hrl_)) (by omega))⟩ (all_cons ⟨⟨_, m1, rfl⟩, .inl ⟨m1, fun g_ he_ => own_ne hf0 (notin2 (hR.ggN m1 m0 (by dsimp only; decide) hf0 hf3) (fun hm_ => by cases hm_)) he_⟩⟩ (all_cons ⟨⟨_, m2, rfl⟩, .inl ⟨m2, fun g_ he_ => by have hx_ := (hf1).own; rw [hx_] at he_; cases he_; exact (notin2 (hR.ggN m2 m0 (by dsimp only; decide) hf1 hf3) (fun hm_ => by cases hm_))⟩⟩ (all_cons ⟨⟨_, m3, rfl⟩, .inl ⟨m3, fun g_ he_ => by have hx_ := (hf2).own; rw [hx_] at he_; cases he_; exact (notin2 (hR.ggN m3 m0 (by dsimp only; decide) hf2 hf3) (fun hm_ => by cases hm_))⟩⟩ all_no))))
 replace hk3 := hk3.nextF hB hR hkF_
 have hB_ := hB.nextF hR hkF_
 replace hR := hR_; clear hR_
 replace hB := hB_; clear hB_ hk hkF_ hq3_ hw3
 refine ⟨_, rfl, ?_⟩
 replace hI := hI.pt 63 (.v (.tuple #[])) [63, 62, 61, 60, 0]
 refine ops_nil (then_n ?_)
 refine wp_seq (reg (is := [0, 1, 2]) (by kernel_rfl) ?_)
 refine pZ tab [0] [1, 2] 4 [(64, .rsl 3 0 (n + ny) c3)] [] hR hI fun e18 a18 w18 hag hR hI => ?_
 have hA := hag
 refine cO [.rsl 3 0 (n + ny) c3] hI Tryz.func77 ?_
 replace hf0 := tf hA hf0
 replace hg0 := tg hA hg0
 replace hf1 := tf hA hf1
 replace hg1 := tg hA hg1
 replace hf2 := tf hA hf2
 replace hg2 := tg hA hg2
 replace hf3 := tf hA hf3
 replace hnew3 := tg hA hnew3
 have hpl : (put (List.replicate c3 0) 0 rs).length = c3 := by rw [put_length (by omega)]; exact hrl_
 have hzk := hR.rowRead (y := ⟨3, 102, 1, c3, (ints .u64 (put (List.replicate c3 0) 0 rs))⟩) m0 hf3 rfl rfl (put_dig hrd_ hrd) 0 (n + ny) (by omega) (c := c3) (by omega) (by omega)
 rw [show ((put (List.replicate c3 0) 0 rs).drop 0).take (n + ny) = rs from put_take (by omega)] at hzk
 refine (normL_spec (C := fun b_ => b_ = headOf (e18.r 3)) (l := (n + ny)) (by omega) hzk).mono ?_
 rintro ex w19 ⟨m, rfl, hk, hm, htm, hvm⟩
 replace hR := hR.same hk; clear hk
 refine ⟨_, rfl, ?_⟩
 replace hI := hI.pt 65 (.rsl 3 0 m c3) [65, 64]
 refine pZ tab [2] [] 4 [(8, .rsl 3 0 m c3)] [] hR hI fun e20 a20 w20 hag hR hI => ?_
 have hA := hag
 refine ops_nil (then_n ?_)
 refine wp_ret ?_
 refine ret_then ?_
 refine oN tab [.rsl 3 0 m c3] hR hI ?_
 replace hf0 := tf hA hf0
 replace hg0 := tg hA hg0
 replace hf1 := tf hA hf1
 replace hg1 := tg hA hg1
 replace hf2 := tf hA hf2
 replace hg2 := tg hA hg2
 replace hf3 := tf hA hf3
 replace hnew3 := tg hA hnew3
 exact ⟨g3, c3, m, rs, by simp only [single, den, hnew3], hB.fin hR, hgw, (hR.rowFin (y := ⟨3, 102, 1, c3, (ints .u64 (put (List.replicate c3 0) 0 rs))⟩) m0 hf3 rfl hnew3), (hR.rowFin (y := ⟨1, 102, 1, N2, (ints .u64 us)⟩) m2 hf1 rfl hg1), (hR.rowFin (y := ⟨2, 102, 1, N4, (ints .u64 vs)⟩) m3 hf2 rfl hg2), (hR.rowFin (y := ⟨0, 102, 1, N, (ints .u64 zs)⟩) m1 hf0 rfl hg0), by omega, by omega, by omega, hrd, by omega, htm, by rw [hvm, hrv]⟩

end Go.Proofs.YtmendapdibnbdaaGreatDoor.Stride
