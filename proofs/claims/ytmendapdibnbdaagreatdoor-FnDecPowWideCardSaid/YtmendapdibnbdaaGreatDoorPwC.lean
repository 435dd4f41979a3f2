/- Walks of the program's functions, printed by a program of mine (walk.py) over the words of Stride: each function's contract. -/
import Derived.Test.YtmendapdibnbdaaGreatDoorPwB
namespace Go.Proofs.YtmendapdibnbdaaGreatDoor.Stride
open Go Go.RowKit Go.Proofs.YtmendapdibnbdaaGreatDoor.Mag
set_option linter.unusedVariables false
set_option linter.unusedSimpArgs false
set_option maxHeartbeats 4000000
set_option maxRecDepth 100000
theorem mulAddVWWl_spec {C : Nat → Prop} {w : World} {g N oz c l : Nat} {zs xs : List Nat} {ad : Option Addr} {xc y r : Nat} (hxl : xs.length = l) (hz : w.heap[g]? = some (.cells (ints .u64 zs).toArray 102 (0, 0))) (hzl : zs.length = N) (hzm : N ≤ 9223372036854775807) (hCg : ¬ C g) (hx : Sl .u64 18446744073709551616 C w ad xc xs) (hfit : oz + l ≤ N) (hy : y < 18446744073709551616) (hr : r < 18446744073709551616) :
  Calls P 116 #[.slice (some ⟨g, oz, none⟩) l c, .slice ad l xc, .int .u64 ((y : Nat) : Int), .int .u64 ((r : Nat) : Int)] w fun ex w' => ∃ (rs : List Nat) (co : Nat), ex = .returned (.int .u64 ((co : Nat) : Int)) ∧ Keep (ButN [g] w) w w' ∧ w'.heap[g]? = some (.cells (ints .u64 (put zs oz rs)).toArray 102 (0, 0)) ∧ rs.length = l ∧ Ndig rs ∧ co < 18446744073709551616 ∧ nval rs + pn l * co = nval xs * y + r := by
 subst hxl
 exact mulAddVWW_spec hz hzl hzm hCg hx hfit hy hr
theorem maw_nval {rs : List Nat} {n co A : Nat} (hr : rs.length = n) (h : nval rs + pn n * co = A) : nval (rs ++ [co]) = A := by rw [nval_snoc, hr, h]

theorem mawO_spec {C : Nat → Prop} {w : World} {g g2 N N2 l c n cx y r : Nat} {zs us : List Nat} (hz : w.heap[g]? = some (.cells (ints .u64 zs).toArray 102)) (hzl : zs.length = N) (hzm : N ≤ 9223372036854775807) (hCg : ¬ C g) (hu : w.heap[g2]? = some (.cells (ints .u64 us).toArray 102)) (hul : us.length = N2) (hum : N2 ≤ 9223372036854775807) (hCu : ¬ C g2) (hud : Ndig us) (hne : g ≠ g2) (hzd : Ndig zs) (hn : 1 ≤ n) (hn8 : n ≤ 1000) (hnu : n ≤ N2) (hnc : n ≤ cx) (hcx : cx ≤ 9223372036854775807) (hy : y < 18446744073709551616) (hy0 : 0 < y) (hr : r < 18446744073709551616) (hc : n + 1 ≤ c) (hcN : n + 1 ≤ N) (hcm : c ≤ 9223372036854775807) :
    Calls P 138 #[.slice (some ⟨g, 0, none⟩) l c, .slice (some ⟨g2, 0, none⟩) n cx, .int .u64 (y : Int), .int .u64 (r : Int)] w fun ex w' => ∃ (m : Nat) (rs : List Nat), ex = .returned (.slice (some ⟨g, 0, none⟩) m c) ∧ Keep (ButN [g, g2] w) w w' ∧ w'.heap[g]? = some (.cells (ints .u64 (put zs 0 rs)).toArray 102) ∧ w'.heap[g2]? = some (.cells (ints .u64 us).toArray 102) ∧ rs.length = n + 1 ∧ Ndig rs ∧ m ≤ n + 1 ∧ Ntrim (rs.take m) ∧ nval (rs.take m) = nval ((us.drop 0).take n) * y + r := by
 refine doorN (e := ((e0.addR 0 (.slice (some ⟨g, 0, none⟩) N N)).addR 1 (.slice (some ⟨g2, 0, none⟩) N2 N2))) (vs := [.rsl 0 0 l c, .rsl 1 0 n cx, vU y, vU r]) (n := 37) (m := 4) Tryz.func138 rfl rfl rfl (by decide) fun a_ hI => ?_
 replace hI : Is 37 [] ((e0.addR 0 (.slice (some ⟨g, 0, none⟩) N N)).addR 1 (.slice (some ⟨g2, 0, none⟩) N2 N2)) [(0, .rsl 0 0 l c), (1, .rsl 1 0 n cx), (2, vU y), (3, vU r)] a_ := hI
 have hf0 : Full ((e0.addR 0 (.slice (some ⟨g, 0, none⟩) N N)).addR 1 (.slice (some ⟨g2, 0, none⟩) N2 N2)) 0 N := rfl; have hg0 : headOf (((e0.addR 0 (.slice (some ⟨g, 0, none⟩) N N)).addR 1 (.slice (some ⟨g2, 0, none⟩) N2 N2)).r 0) = g := rfl
 have hf1 : Full ((e0.addR 0 (.slice (some ⟨g, 0, none⟩) N N)).addR 1 (.slice (some ⟨g2, 0, none⟩) N2 N2)) 1 N2 := rfl; have hg1 : headOf (((e0.addR 0 (.slice (some ⟨g, 0, none⟩) N N)).addR 1 (.slice (some ⟨g2, 0, none⟩) N2 N2)).r 1) = g2 := rfl
 have hR : Rel (ButN [g, g2] w) w ((e0.addR 0 (.slice (some ⟨g, 0, none⟩) N N)).addR 1 (.slice (some ⟨g2, 0, none⟩) N2 N2)) [] [⟨0, 102, 1, N, (ints .u64 zs)⟩, ⟨1, 102, 1, N2, (ints .u64 us)⟩] w := Rel.startN (fun k_ h_ => h_.1) all_no (all_cons ⟨ownsRow_fullN hz (by first | exact hzl | (rw [ints_length]; exact hzl)) hzm, fun g_ he_ => by cases he_; exact (fun hm_ => hm_.2 m0)⟩ (all_cons ⟨ownsRow_fullN hu (by first | exact hul | (rw [ints_length]; exact hul)) hum, fun g_ he_ => by cases he_; exact (fun hm_ => hm_.2 m1)⟩ all_no)) all_no all_no (all_cons (all_cons (fun hn_ => absurd rfl hn_) (all_cons (fun _ g_ h1_ h2_ => hne ((Option.some.inj h1_).trans (Option.some.inj h2_).symm)) all_no)) (all_cons (all_cons (fun _ g_ h1_ h2_ => (Ne.symm hne) ((Option.some.inj h1_).trans (Option.some.inj h2_).symm)) (all_cons (fun hn_ => absurd rfl hn_) all_no)) all_no))
 have hB : BaseD (ButN [g, g2] w) C w C (ButN [g, g2] w) w := BaseD.start (fun k_ hC_ hlt_ => ⟨hlt_, notin2 (fun he_ => hCg (he_ ▸ hC_)) (notin2 (fun he_ => hCu (he_ ▸ hC_)) (fun hm_ => by cases hm_))⟩)
 have hxl_ : ((us.drop 0).take n).length = n := by rw [List.length_take, List.length_drop]; omega
 refine rZ tab 2 [] [0, 1, 2, 3] hR hI fun e1 a1 w1 hag hR hI => ?_
 have hA := hag
 refine rZ tab 2 [(9, vI n)] [0, 1, 2, 3] hR hI fun e2 a2 w2 hag hR hI => ?_
 replace hA := hA.trans hag (by decide)
 refine wp_seq ?_
 refine rK tab 2 [(1, .eq (.bool false)), (4, .eq (.bool false))] [] [(17, vB false)] [9, 0, 1, 2, 3] [] [] [] [0, 1] 2 hR hI (.cons (congrArg Value.bool (beq_eq_false_iff_ne.2 (by omega) : ((n : Int) == (0 : Int)) = false)) (.cons (congrArg Value.bool (beq_eq_false_iff_ne.2 (by omega) : ((y : Int) == (0 : Int)) = false)) .nil)) fun e3 a3 w3 hag hR hI => ?_
 replace hA := hA.trans hag (by decide)
 refine cnd_f hI (by kernel_rfl) ?_
 refine wp_skip ?_
 refine then_n ?_
 refine wp_seq (reg (is := [0, 1, 2, 3, 4]) (by kernel_rfl) ?_)
 refine pK tab [0, 1, 2] [3, 4] 2 [(2, .eq (.int .i64 ((n + 1 : Nat) : Int)))] [] [(23, vI (n + 1)), (21, .rsl 0 0 l c)] [9, 0, 1, 2, 3] [] [] [] [0, 1] 2 hR hI (.cons (wI ((n : Int) + (1 : Int)) ((n + 1 : Nat) : Int) (by omega) (by omega)) .nil) fun e4 a4 w4 hag hR hI => ?_
 replace hA := hA.trans hag (by decide)
 refine cO [.rsl 0 0 l c, vI (n + 1)] hI Tryz.func78 ?_
 refine (makeOld_spec (C := C) (l := l) (n := n + 1) (by omega)).mono ?_
 rintro ex w5 ⟨rfl, hk⟩
 replace hR := hR.same hk; clear hk
 refine ⟨_, rfl, ?_⟩
 replace hI := hI.pt 24 (.rsl 0 0 (n + 1) c) [24, 23, 21, 9, 0, 1, 2, 3]
 refine pZ tab [4] [] 2 [(0, .rsl 0 0 (n + 1) c)] [9, 1, 2, 3] hR hI fun e6 a6 w6 hag hR hI => ?_
 replace hA := hA.trans hag (by decide)
 refine ops_nil (then_n ?_)
 refine wp_seq (reg (is := [0, 1, 2, 3, 4, 5, 6, 7, 8, 9, 10]) (by kernel_rfl) ?_)
 refine pK tab [0, 1, 2, 3, 4, 5, 6, 7] [8, 9, 10] 2 [] [] [(32, vU r), (31, vU y), (30, .rsl 1 0 n cx), (29, .rsl 0 0 n c), (26, vI n), (25, .rsl 0 0 (n + 1) c)] [0] [] [] [] [0, 1] 2 hR hI (.cons (by omega : (0 : Int) ≤ (0 : Int) ∧ (0 : Int) ≤ (n : Int) ∧ (n : Int) ≤ (c : Nat)) (.cons (by omega : ((0 : Int) : Int) < (c : Nat) ∨ ((0 : Int) : Int) = 0) .nil)) fun e7 a7 w7 hag hR hI => ?_
 replace hA := hA.trans hag (by decide)
 refine cO [.rsl 0 0 n c, .rsl 1 0 n cx, vU y, vU r] hI Tryz.func116 ?_
 replace hf0 := tf hA hf0
 replace hg0 := tg hA hg0
 replace hf1 := tf hA hf1
 replace hg1 := tg hA hg1
 have hxk := hR.rowRead (y := ⟨1, 102, 1, N2, (ints .u64 us)⟩) m1 hf1 rfl rfl hud 0 n (by omega) (c := cx) (by omega) (by omega)
 have hq0_ := hR.rowCells (y := ⟨0, 102, 1, N, (ints .u64 zs)⟩) m0 hf0 rfl
 refine (mulAddVWWl_spec (C := fun b_ => b_ = headOf (e7.r 1)) (oz := 0) hxl_ hq0_.1 hzl hzm (fun h_ => hR.ggN m0 m1 (by dsimp only; decide) hf0 hf1 h_) hxk (by omega) hy hr).mono ?_
 rintro ex w8 ⟨rs, co, rfl, hk, hw0, hrl, hrd, hco, hrv⟩
 have hkF_ := hR.keepN hk (all_cons hq0_.2 all_no)
 have hR_ : Rel (Grow _ _ w8) w8 e7 [] [⟨0, 102, 1, N, (ints .u64 (put zs 0 rs))⟩, ⟨1, 102, 1, N2, (ints .u64 us)⟩] w8 := hR.turnedN hk (all_cons hq0_.2 all_no) all_no (all_cons ⟨⟨_, m0, rfl⟩, .inr (by have hl_ := hR.rowLen (y := ⟨0, 102, 1, N, (ints .u64 zs)⟩) m0; dsimp only at hl_; rw [show e7.r 0 = _ from hf0]; exact ownsRow_fullN hw0 (by rw [ints_length]; first | exact hzl | (rw [put_length (by omega)]; exact hzl)) (hzm))⟩ (all_cons ⟨⟨_, m1, rfl⟩, .inl ⟨m1, fun g_ he_ => own_ne hf1 (notin2 (hR.ggN m1 m0 (by dsimp only; decide) hf1 hf0) (fun hm_ => by cases hm_)) he_⟩⟩ all_no))
 have hB_ := hB.nextF hR hkF_
 replace hR := hR_; clear hR_
 replace hB := hB_; clear hB_ hk hkF_ hq0_ hw0
 refine ⟨_, rfl, ?_⟩
 replace hI := hI.pt 33 (vU co) [33, 32, 31, 30, 29, 26, 25, 0]
 refine pK tab [9, 10] [] 2 [] [] [] [0] [] [] [⟨0, 102, 1, N, ((ints .u64 (put zs 0 rs)).set (0 + n) (.int .u64 (co : Int)))⟩] [1] 2 hR hI (.cons (by omega : (0 : Int) ≤ (n : Int) ∧ (n : Int) < ((n + 1 : Nat) : Int)) (.cons (by omega : 0 + n < N * 1) .nil)) fun e9 a9 w9 hag hR hI => ?_
 have hA := hag
 rw [ints_set] at hR
 refine ops_nil (then_n ?_)
 rw [(by rw [← hrl]; first | exact put_snoc (by omega) | (have h_ := put_snoc (xs := zs) (zs := rs) (o := 0) (x := co) (by omega); simpa only [Nat.zero_add] using h_) : ((put zs 0 rs).set (0 + n) co) = put zs 0 (rs ++ [co]))] at hR
 have hrl2 : (rs ++ [co]).length = n + 1 := by rw [List.length_append, hrl]; rfl
 have hrd2 : Ndig (rs ++ [co]) := ndig_snoc hrd hco
 have hrv2 := maw_nval hrl hrv
 refine wp_seq (reg (is := [0, 1, 2]) (by kernel_rfl) ?_)
 refine pZ tab [0] [1, 2] 2 [(35, .rsl 0 0 (n + 1) c)] [] hR hI fun e10 a10 w10 hag hR hI => ?_
 replace hA := hA.trans hag (by decide)
 refine cO [.rsl 0 0 (n + 1) c] hI Tryz.func77 ?_
 replace hf0 := tf hA hf0
 replace hg0 := tg hA hg0
 replace hf1 := tf hA hf1
 replace hg1 := tg hA hg1
 have hpl : (put zs 0 (rs ++ [co])).length = N := by rw [put_length (by omega)]; exact hzl
 have hzk := hR.rowRead (y := ⟨0, 102, 1, N, (ints .u64 (put zs 0 (rs ++ [co])))⟩) m0 hf0 rfl rfl (put_dig hzd hrd2) 0 (n + 1) (by omega) (c := c) (by omega) (by omega)
 rw [show ((put zs 0 (rs ++ [co])).drop 0).take (n + 1) = (rs ++ [co]) from put_take hrl2] at hzk
 refine (normL_spec (C := fun b_ => b_ = headOf (e10.r 0)) (l := (n + 1)) hrl2 hzk).mono ?_
 rintro ex w11 ⟨m, rfl, hk, hm, htm, hvm⟩
 replace hR := hR.same hk; clear hk
 refine ⟨_, rfl, ?_⟩
 replace hI := hI.pt 36 (.rsl 0 0 m c) [36, 35]
 refine pZ tab [2] [] 2 [(8, .rsl 0 0 m c)] [] hR hI fun e12 a12 w12 hag hR hI => ?_
 have hA := hag
 refine ops_nil (then_n ?_)
 refine wp_ret (oN tab [.rsl 0 0 m c] hR hI ?_)
 replace hf0 := tf hA hf0
 replace hg0 := tg hA hg0
 replace hf1 := tf hA hf1
 replace hg1 := tg hA hg1
 exact ⟨m, rs ++ [co], by simp only [single, den, hg0], hB.fin hR, (hR.rowFin (y := ⟨0, 102, 1, N, (ints .u64 (put zs 0 (rs ++ [co])))⟩) m0 hf0 rfl hg0), (hR.rowFin (y := ⟨1, 102, 1, N2, (ints .u64 us)⟩) m1 hf1 rfl hg1), hrl2, hrd2, by omega, htm, by rw [hvm, hrv2]⟩

theorem mawB_spec {C : Nat → Prop} {w : World} {g2 N2 n cx zl zc y r : Nat} {us : List Nat} {za : Option Addr} (hu : w.heap[g2]? = some (.cells (ints .u64 us).toArray 102)) (hul : us.length = N2) (hum : N2 ≤ 9223372036854775807) (hCu : ¬ C g2) (hud : Ndig us) (hn : 1 ≤ n) (hn8 : n ≤ 1000) (hnu : n ≤ N2) (hnc : n ≤ cx) (hcx : cx ≤ 9223372036854775807) (hy : y < 18446744073709551616) (hy0 : 0 < y) (hr : r < 18446744073709551616) (hc : zc < n + 1) :
    Calls P 138 #[.slice za zl zc, .slice (some ⟨g2, 0, none⟩) n cx, .int .u64 (y : Int), .int .u64 (r : Int)] w fun ex w' => ∃ (g3 c3 m : Nat) (rs : List Nat), ex = .returned (.slice (some ⟨g3, 0, none⟩) m c3) ∧ Keep (ButN [g2] w) w w' ∧ w.heap.size ≤ g3 ∧ w'.heap[g3]? = some (.cells (ints .u64 (put (List.replicate c3 0) 0 rs)).toArray 102) ∧ w'.heap[g2]? = some (.cells (ints .u64 us).toArray 102) ∧ n + 1 ≤ c3 ∧ c3 ≤ n + 1 + 4 ∧ rs.length = n + 1 ∧ Ndig rs ∧ m ≤ n + 1 ∧ Ntrim (rs.take m) ∧ nval (rs.take m) = nval ((us.drop 0).take n) * y + r := by
 refine doorN (e := (e0.addR 0 (.slice (some ⟨g2, 0, none⟩) N2 N2))) (vs := [vS za zl zc, .rsl 0 0 n cx, vU y, vU r]) (n := 37) (m := 4) Tryz.func138 rfl rfl rfl (by decide) fun a_ hI => ?_
 replace hI : Is 37 [] (e0.addR 0 (.slice (some ⟨g2, 0, none⟩) N2 N2)) [(0, vS za zl zc), (1, .rsl 0 0 n cx), (2, vU y), (3, vU r)] a_ := hI
 have hf0 : Full (e0.addR 0 (.slice (some ⟨g2, 0, none⟩) N2 N2)) 0 N2 := rfl; have hg0 : headOf ((e0.addR 0 (.slice (some ⟨g2, 0, none⟩) N2 N2)).r 0) = g2 := rfl
 have hR : Rel (ButN [g2] w) w (e0.addR 0 (.slice (some ⟨g2, 0, none⟩) N2 N2)) [] [⟨0, 102, 1, N2, (ints .u64 us)⟩] w := Rel.startN (fun k_ h_ => h_.1) all_no (all_cons ⟨ownsRow_fullN hu (by first | exact hul | (rw [ints_length]; exact hul)) hum, fun g_ he_ => by cases he_; exact (fun hm_ => hm_.2 m0)⟩ all_no) all_no all_no (all_cons (all_cons (fun hn_ => absurd rfl hn_) all_no) all_no)
 have hB : BaseD (ButN [g2] w) C w C (ButN [g2] w) w := BaseD.start (fun k_ hC_ hlt_ => ⟨hlt_, notin2 (fun he_ => hCu (he_ ▸ hC_)) (fun hm_ => by cases hm_)⟩)
 have hxl_ : ((us.drop 0).take n).length = n := by rw [List.length_take, List.length_drop]; omega
 refine rZ tab 1 [] [0, 1, 2, 3] hR hI fun e1 a1 w1 hag hR hI => ?_
 have hA := hag
 refine rZ tab 1 [(9, vI n)] [0, 1, 2, 3] hR hI fun e2 a2 w2 hag hR hI => ?_
 replace hA := hA.trans hag (by decide)
 refine wp_seq ?_
 refine rK tab 1 [(1, .eq (.bool false)), (4, .eq (.bool false))] [] [(17, vB false)] [9, 0, 1, 2, 3] [] [] [] [0] 1 hR hI (.cons (congrArg Value.bool (beq_eq_false_iff_ne.2 (by omega) : ((n : Int) == (0 : Int)) = false)) (.cons (congrArg Value.bool (beq_eq_false_iff_ne.2 (by omega) : ((y : Int) == (0 : Int)) = false)) .nil)) fun e3 a3 w3 hag hR hI => ?_
 replace hA := hA.trans hag (by decide)
 refine cnd_f hI (by kernel_rfl) ?_
 refine wp_skip ?_
 refine then_n ?_
 refine wp_seq (reg (is := [0, 1, 2, 3, 4]) (by kernel_rfl) ?_)
 refine pK tab [0, 1, 2] [3, 4] 1 [(2, .eq (.int .i64 ((n + 1 : Nat) : Int)))] [] [(23, vI (n + 1)), (21, vS za zl zc)] [9, 0, 1, 2, 3] [] [] [] [0] 1 hR hI (.cons (wI ((n : Int) + (1 : Int)) ((n + 1 : Nat) : Int) (by omega) (by omega)) .nil) fun e4 a4 w4 hag hR hI => ?_
 replace hA := hA.trans hag (by decide)
 refine cO [vS za zl zc, vI (n + 1)] hI Tryz.func78 ?_
 have hsz_ := (hB.fin hR).size
 refine (makeBig_spec (C := Now hB) (k := zc) (n := n + 1) (by omega) (by omega)).mono ?_
 rintro ex w5 ⟨g3, c3, rfl, hk, hge, hwg, hc1, hc2⟩
 replace hk := keepBut0 hk
 have hkF_ := hR.keepN hk all_no
 replace hf0 := tf hA hf0
 replace hg0 := tg hA hg0
 have hR_ : Rel (Grow _ _ w5) w5 e4 [] [⟨0, 102, 1, N2, (ints .u64 us)⟩] w5 := hR.turnedN hk all_no all_no (all_cons ⟨⟨_, m0, rfl⟩, .inl ⟨m0, fun g_ he_ => own_ne hf0 (fun hm_ => by cases hm_) he_⟩⟩ all_no)
 have hM_ : ∀ b_ ∈ ([g3] : List Nat), _ ≤ b_ := (all_cons hge all_no)
 have hB_ := hB.nextN hR hkF_ hM_; have hR1_ := hR_.shrinkN (M := [g3])
 obtain ⟨hfr1_, hfr2_⟩ := hR.fresh (H' := []) (G' := [⟨0, 102, 1, N2, (ints .u64 us)⟩]) all_no (all_cons ⟨_, m0, rfl⟩ all_no) hge
 obtain ⟨hag_, hR2_⟩ := hR1_.gotRow (L := []) (k := 1) (g := g3) (n := c3) (t := 102) (xs := (ints .u64 (List.replicate c3 0))) (by kernel_rfl) hwg (by rw [ints_length, List.length_replicate]) (by omega) (fun hf_ => hf_.2.1 m0) hfr1_ hfr2_
 replace hI := hI.agreeB (H := []) (G := []) (by kernel_rfl) hag_
 replace hf0 := tf hag_ hf0
 replace hg0 := tg hag_ hg0
 have hf1 : Full (e4.addR 1 (.slice (some ⟨g3, 0, none⟩) c3 c3)) 1 c3 := full_addR _ _ _ _; have hnew1 : headOf ((e4.addR 1 (.slice (some ⟨g3, 0, none⟩) c3 c3)).r 1) = g3 := head_addR _ _ _ _
 replace hR := hR2_; clear hR2_ hR_ hR1_
 replace hB := hB_; clear hB_ hk hkF_ 
 have hgw := Nat.le_trans hsz_ hge
 have hrl_ : (List.replicate c3 0).length = c3 := List.length_replicate
 have hrd_ : Ndig (List.replicate c3 0) := ndig_replicate _
 refine ⟨_, rfl, ?_⟩
 replace hI := hI.pt 24 (.rsl 1 0 (n + 1) c3) [24, 23, 21, 9, 0, 1, 2, 3]
 refine pZ tab [4] [] 2 [(0, .rsl 1 0 (n + 1) c3)] [9, 1, 2, 3] hR hI fun e6 a6 w6 hag hR hI => ?_
 have hA := hag
 refine ops_nil (then_n ?_)
 refine wp_seq (reg (is := [0, 1, 2, 3, 4, 5, 6, 7, 8, 9, 10]) (by kernel_rfl) ?_)
 refine pK tab [0, 1, 2, 3, 4, 5, 6, 7] [8, 9, 10] 2 [] [] [(32, vU r), (31, vU y), (30, .rsl 0 0 n cx), (29, .rsl 1 0 n c3), (26, vI n), (25, .rsl 1 0 (n + 1) c3)] [0] [] [] [] [1, 0] 2 hR hI (.cons (by omega : (0 : Int) ≤ (0 : Int) ∧ (0 : Int) ≤ (n : Int) ∧ (n : Int) ≤ (c3 : Nat)) (.cons (by omega : ((0 : Int) : Int) < (c3 : Nat) ∨ ((0 : Int) : Int) = 0) .nil)) fun e7 a7 w7 hag hR hI => ?_
 replace hA := hA.trans hag (by decide)
 refine cO [.rsl 1 0 n c3, .rsl 0 0 n cx, vU y, vU r] hI Tryz.func116 ?_
 replace hf0 := tf hA hf0
 replace hg0 := tg hA hg0
 replace hf1 := tf hA hf1
 replace hnew1 := tg hA hnew1
 have hxk := hR.rowRead (y := ⟨0, 102, 1, N2, (ints .u64 us)⟩) m1 hf0 rfl rfl hud 0 n (by omega) (c := cx) (by omega) (by omega)
 have hq1_ := hR.rowCells (y := ⟨1, 102, 1, c3, (ints .u64 (List.replicate c3 0))⟩) m0 hf1 rfl
 refine (mulAddVWWl_spec (C := fun b_ => b_ = headOf (e7.r 0)) (oz := 0) hxl_ hq1_.1 hrl_ (by omega) (fun h_ => hR.ggN m0 m1 (by dsimp only; decide) hf1 hf0 h_) hxk (by omega) hy hr).mono ?_
 rintro ex w8 ⟨rs, co, rfl, hk, hw1, hrl, hrd, hco, hrv⟩
 have hkF_ := hR.keepN hk (all_cons hq1_.2 all_no)
 have hR_ : Rel (Grow _ _ w8) w8 e7 [] [⟨1, 102, 1, c3, (ints .u64 (put (List.replicate c3 0) 0 rs))⟩, ⟨0, 102, 1, N2, (ints .u64 us)⟩] w8 := hR.turnedN hk (all_cons hq1_.2 all_no) all_no (all_cons ⟨⟨_, m0, rfl⟩, .inr (by have hl_ := hR.rowLen (y := ⟨1, 102, 1, c3, (ints .u64 (List.replicate c3 0))⟩) m0; dsimp only at hl_; rw [show e7.r 1 = _ from hf1]; exact ownsRow_fullN hw1 (by rw [ints_length]; first | exact hrl_ | (rw [put_length (by omega)]; exact hrl_)) (by omega))⟩ (all_cons ⟨⟨_, m1, rfl⟩, .inl ⟨m1, fun g_ he_ => own_ne hf0 (notin2 (hR.ggN m1 m0 (by dsimp only; decide) hf0 hf1) (fun hm_ => by cases hm_)) he_⟩⟩ all_no))
 have hB_ := hB.nextF hR hkF_
 replace hR := hR_; clear hR_
 replace hB := hB_; clear hB_ hk hkF_ hq1_ hw1
 refine ⟨_, rfl, ?_⟩
 replace hI := hI.pt 33 (vU co) [33, 32, 31, 30, 29, 26, 25, 0]
 refine pK tab [9, 10] [] 2 [] [] [] [0] [] [] [⟨1, 102, 1, c3, ((ints .u64 (put (List.replicate c3 0) 0 rs)).set (0 + n) (.int .u64 (co : Int)))⟩] [0] 2 hR hI (.cons (by omega : (0 : Int) ≤ (n : Int) ∧ (n : Int) < ((n + 1 : Nat) : Int)) (.cons (by omega : 0 + n < c3 * 1) .nil)) fun e9 a9 w9 hag hR hI => ?_
 have hA := hag
 rw [ints_set] at hR
 refine ops_nil (then_n ?_)
 rw [(by rw [← hrl]; first | exact put_snoc (by omega) | (have h_ := put_snoc (xs := (List.replicate c3 0)) (zs := rs) (o := 0) (x := co) (by omega); simpa only [Nat.zero_add] using h_) : ((put (List.replicate c3 0) 0 rs).set (0 + n) co) = put (List.replicate c3 0) 0 (rs ++ [co]))] at hR
 have hrl2 : (rs ++ [co]).length = n + 1 := by rw [List.length_append, hrl]; rfl
 have hrd2 : Ndig (rs ++ [co]) := ndig_snoc hrd hco
 have hrv2 := maw_nval hrl hrv
 refine wp_seq (reg (is := [0, 1, 2]) (by kernel_rfl) ?_)
 refine pZ tab [0] [1, 2] 2 [(35, .rsl 1 0 (n + 1) c3)] [] hR hI fun e10 a10 w10 hag hR hI => ?_
 replace hA := hA.trans hag (by decide)
 refine cO [.rsl 1 0 (n + 1) c3] hI Tryz.func77 ?_
 replace hf0 := tf hA hf0
 replace hg0 := tg hA hg0
 replace hf1 := tf hA hf1
 replace hnew1 := tg hA hnew1
 have hpl : (put (List.replicate c3 0) 0 (rs ++ [co])).length = c3 := by rw [put_length (by omega)]; exact hrl_
 have hzk := hR.rowRead (y := ⟨1, 102, 1, c3, (ints .u64 (put (List.replicate c3 0) 0 (rs ++ [co])))⟩) m0 hf1 rfl rfl (put_dig hrd_ hrd2) 0 (n + 1) (by omega) (c := c3) (by omega) (by omega)
 rw [show ((put (List.replicate c3 0) 0 (rs ++ [co])).drop 0).take (n + 1) = (rs ++ [co]) from put_take hrl2] at hzk
 refine (normL_spec (C := fun b_ => b_ = headOf (e10.r 1)) (l := (n + 1)) hrl2 hzk).mono ?_
 rintro ex w11 ⟨m, rfl, hk, hm, htm, hvm⟩
 replace hR := hR.same hk; clear hk
 refine ⟨_, rfl, ?_⟩
 replace hI := hI.pt 36 (.rsl 1 0 m c3) [36, 35]
 refine pZ tab [2] [] 2 [(8, .rsl 1 0 m c3)] [] hR hI fun e12 a12 w12 hag hR hI => ?_
 have hA := hag
 refine ops_nil (then_n ?_)
 refine wp_ret (oN tab [.rsl 1 0 m c3] hR hI ?_)
 replace hf0 := tf hA hf0
 replace hg0 := tg hA hg0
 replace hf1 := tf hA hf1
 replace hnew1 := tg hA hnew1
 exact ⟨g3, c3, m, rs ++ [co], by simp only [single, den, hnew1], hB.fin hR, hgw, (hR.rowFin (y := ⟨1, 102, 1, c3, (ints .u64 (put (List.replicate c3 0) 0 (rs ++ [co])))⟩) m0 hf1 rfl hnew1), (hR.rowFin (y := ⟨0, 102, 1, N2, (ints .u64 us)⟩) m1 hf0 rfl hg0), by omega, by omega, hrl2, hrd2, by omega, htm, by rw [hvm, hrv2]⟩

end Go.Proofs.YtmendapdibnbdaaGreatDoor.Stride
