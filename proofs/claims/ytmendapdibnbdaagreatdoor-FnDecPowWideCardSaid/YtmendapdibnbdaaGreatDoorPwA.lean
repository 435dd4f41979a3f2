/- Walks of the program's functions, printed by a program of mine (walk.py) over the words of Stride: each function's contract. -/
import Derived.Test.YtmendapdibnbdaaGreatDoorDfD
namespace Go.Proofs.YtmendapdibnbdaaGreatDoor.Stride
open Go Go.RowKit Go.Proofs.YtmendapdibnbdaaGreatDoor.Mag
set_option linter.unusedVariables false
set_option linter.unusedSimpArgs false
set_option maxHeartbeats 4000000
set_option maxRecDepth 100000
theorem amv_step {rs ys zs : List Nat} {oz i cc m a h l z d : Nat} (hl : rs.length = i) (hv : nval rs + pn i * cc = nval (seg zs oz i) + nval (ys.take i) * m + a) (he : 18446744073709551616 * h + l = ys.getD i 0 * m + zs.getD (oz + i) 0) (hz : z + 18446744073709551616 * d = l + cc + 0) :
  nval (rs ++ [z]) + pn (i + 1) * (d + h) = nval (seg zs oz (i + 1)) + nval (ys.take (i + 1)) * m + a := by
 rw [nval_snoc, hl, seg_succ, nval_take_succ ys, pn_succ]
 generalize nval rs = A at *
 generalize nval (ys.take i) = Y at *
 generalize nval (seg zs oz i) = Z at *
 generalize ys.getD i 0 = y at *
 generalize zs.getD (oz + i) 0 = x at *
 have e1 : pn i * (z + 18446744073709551616 * (d + h)) = pn i * (y * m + x + cc) := by rw [show z + 18446744073709551616 * (d + h) = y * m + x + cc by omega]
 generalize pn i = p at *
 grind
theorem amv_top {x y c h l z d k : Nat} (hx : x < 18446744073709551616) (hy : y < 18446744073709551616) (hc : c < 18446744073709551616) (hk : k < 18446744073709551616) (he : 18446744073709551616 * h + l = x * y + c) (hz : z + 18446744073709551616 * d = l + k + 0) : d + h < 18446744073709551616 := by
 have h1 : x * y ≤ 340282366920938463426481119284349108225 := Nat.le_trans (Nat.mul_le_mul (show x ≤ 18446744073709551615 by omega) (show y ≤ 18446744073709551615 by omega)) (by decide)
 omega
theorem ints_clear (k : IntKind) (ws : List Nat) (o l : Nat) : (ints k ws).take o ++ List.replicate l (.int k 0) ++ (ints k ws).drop (o + l) = ints k (put ws o (List.replicate l 0)) := by
 unfold put ints
 simp
theorem bm_row {zs ps rs : List Nat} {i l r co : Nat} (hp : ps.length = l + i) (hr : rs.length = l) (hz : l + i + r + 1 ≤ zs.length) :
  (put (put zs 0 (ps ++ List.replicate (r + 1) 0)) i rs).set (l + i) co = put zs 0 ((ps.take i ++ rs ++ [co]) ++ List.replicate r 0) := by
 have e1 : put zs 0 (ps ++ List.replicate (r + 1) 0) = ps ++ (0 :: (List.replicate r 0 ++ zs.drop (l + i + r + 1))) := by
  unfold put
  rw [List.take_zero, List.nil_append, List.replicate_succ, List.append_assoc, List.cons_append, List.length_append, List.length_cons, List.length_replicate, hp]
  rw [show 0 + (l + i + (r + 1)) = l + i + r + 1 by omega]
 have e2 : put (ps ++ (0 :: (List.replicate r 0 ++ zs.drop (l + i + r + 1)))) i rs = (ps.take i ++ rs) ++ (0 :: (List.replicate r 0 ++ zs.drop (l + i + r + 1))) := by
  unfold put
  rw [List.take_append_of_le_length (by omega), hr, List.drop_append_of_le_length (by omega), List.drop_of_length_le (by omega), List.nil_append]
 have hl : (ps.take i ++ rs).length = l + i := by rw [List.length_append, List.length_take, hr]; omega
 rw [e1, e2, List.set_append_right _ _ (by omega), hl, Nat.sub_self, List.set_cons_zero]
 unfold put
 rw [List.take_zero, List.nil_append]
 have h3 : (ps.take i ++ rs ++ [co] ++ List.replicate r 0).length = l + i + r + 1 := by
  rw [List.length_append, List.length_append, hl]; simp; omega
 rw [h3, Nat.zero_add]
 simp
theorem pn_addP (a b : Nat) : pn (a + b) = pn a * pn b := Nat.pow_add _ _ _
theorem bm_step {xs ys ps rs : List Nat} {i l co : Nat} (hp : ps.length = l + i) (hr : rs.length = l) (hl : xs.length = l) (hv : nval ps = nval xs * nval (ys.take i)) (he : nval rs + pn l * co = nval (ps.drop i) + nval xs * ys.getD i 0 + 0) :
  nval (ps.take i ++ rs ++ [co]) = nval xs * nval (ys.take (i + 1)) := by
 have h1 := nval_cut ps i (by omega)
 have h2 : (ps.take i).length = i := by rw [List.length_take]; omega
 rw [nval_snoc, nval_app, h2, List.length_append, h2, hr, nval_take_succ, pn_addP]
 rw [hv] at h1
 generalize nval (ps.take i) = A at *
 generalize nval (ps.drop i) = D at *
 generalize nval rs = R at *
 generalize nval xs = X at *
 generalize nval (ys.take i) = Y at *
 generalize ys.getD i 0 = d at *
 have e : pn i * (R + pn l * co) = pn i * (D + X * d) := by rw [he]; rfl
 generalize pn i = p at *
 generalize pn l = q at *
 grind
theorem bm_seg {zs ps : List Nat} {i l r : Nat} (hp : ps.length = l + i) : seg (put zs 0 (ps ++ List.replicate r 0)) i l = ps.drop i := by
 unfold seg put
 rw [List.take_zero, List.nil_append, List.append_assoc, List.drop_append_of_le_length (by omega), List.take_append_of_le_length (by rw [List.length_drop]; omega), List.take_of_length_le (by rw [List.length_drop]; omega)]
theorem bm_zero {xs ys ps : List Nat} {i : Nat} (hv : nval ps = nval xs * nval (ys.take i)) (hd : ys.getD i 0 = 0) : nval (ps ++ [0]) = nval xs * nval (ys.take (i + 1)) := by
 rw [nval_snoc, nval_take_succ, hd, hv]; simp
theorem repl_snoc {ps : List Nat} (r : Nat) : ps ++ List.replicate (r + 1) 0 = (ps ++ [0]) ++ List.replicate r 0 := by rw [List.replicate_succ]; simp


theorem addMulVVWW_g_spec {C : Nat → Prop} {w : World} {g N oz c : Nat} {zs ys : List Nat} {ad : Option Addr} {yc m a : Nat} (hz : w.heap[g]? = some (.cells (ints .u64 zs).toArray 102)) (hzl : zs.length = N) (hzm : N ≤ 9223372036854775807) (hCg : ¬ C g) (hzd : Ndig zs) (hy : Sl .u64 18446744073709551616 C w ad yc ys) (hfit : oz + ys.length ≤ N) (hm : m < 18446744073709551616) (ha : a < 18446744073709551616) :
    Calls P 170 #[.slice (some ⟨g, oz, none⟩) ys.length c, .slice (some ⟨g, oz, none⟩) ys.length c, .slice ad ys.length yc, .int .u64 (m : Int), .int .u64 (a : Int)] w fun ex w' => ∃ (rs : List Nat) (co : Nat), ex = .returned (.int .u64 (co : Int)) ∧ Keep (ButN [g] w) w w' ∧ w'.heap[g]? = some (.cells (ints .u64 (put zs oz rs)).toArray 102) ∧ rs.length = ys.length ∧ Ndig rs ∧ co < 18446744073709551616 ∧ nval rs + pn ys.length * co = nval (seg zs oz ys.length) + nval ys * m + a := by
 refine doorN (e := (e0.addR 0 (.slice (some ⟨g, 0, none⟩) N N))) (vs := [.rsl 0 oz ys.length c, .rsl 0 oz ys.length c, vS ad ys.length yc, vU m, vU a]) (n := 63) (m := 5) Tryz.func170 rfl rfl rfl (by decide) fun a_ hI => ?_
 replace hI : Is 63 [] (e0.addR 0 (.slice (some ⟨g, 0, none⟩) N N)) [(0, .rsl 0 oz ys.length c), (1, .rsl 0 oz ys.length c), (2, vS ad ys.length yc), (3, vU m), (4, vU a)] a_ := hI
 have hf0 : Full (e0.addR 0 (.slice (some ⟨g, 0, none⟩) N N)) 0 N := rfl; have hg0 : headOf ((e0.addR 0 (.slice (some ⟨g, 0, none⟩) N N)).r 0) = g := rfl
 have hR : Rel (ButN [g] w) w (e0.addR 0 (.slice (some ⟨g, 0, none⟩) N N)) [] [⟨0, 102, 1, N, (ints .u64 zs)⟩] w := Rel.startN (fun k_ h_ => h_.1) all_no (all_cons ⟨ownsRow_fullN hz (by first | exact hzl | (rw [ints_length]; exact hzl)) hzm, fun g_ he_ => by cases he_; exact (fun hm_ => hm_.2 m0)⟩ all_no) all_no all_no (all_cons (all_cons (fun hn_ => absurd rfl hn_) all_no) all_no)
 have hB : BaseD (ButN [g] w) C w C (ButN [g] w) w := BaseD.start (fun k_ hC_ hlt_ => ⟨hlt_, notin2 (fun he_ => hCg (he_ ▸ hC_)) (fun hm_ => by cases hm_)⟩)
 have hry := hy.room; have hmy := hy.max
 refine rZ tab 1 [] [0, 1, 2, 3, 4] hR hI fun e1 a1 w1 hag hR hI => ?_
 have hA := hag
 refine wp_seq ?_
 refine rK tab 1 [(4, .eq (.bool false)), (10, .eq (.bool false))] [] [(27, vB false)] [0, 1, 2, 3, 4] [] [] [] [0] 1 hR hI (.cons (congrArg Value.bool (bne_self_eq_false _ : ((ys.length : Int) != (ys.length : Int)) = false)) (.cons (congrArg Value.bool (bne_self_eq_false _ : ((ys.length : Int) != (ys.length : Int)) = false)) .nil)) fun e2 a2 w2 hag hR hI => ?_
 replace hA := hA.trans hag (by decide)
 refine cnd_f hI (by kernel_rfl) ?_
 refine wp_skip ?_
 refine then_n ?_
 refine rZ tab 1 [(10, vU a)] [0, 1, 2, 3] hR hI fun e3 a3 w3 hag hR hI => ?_
 replace hA := hA.trans hag (by decide)
 refine wp_seq ?_
 refine rZ tab 1 [(32, .v (.int .i64 0)), (31, vI ys.length)] [10, 0, 1, 2, 3] hR hI fun e4 a4 w4 hag hR hI => ?_
 replace hA := hA.trans hag (by decide)
 refine wp_block ?_
 rw [(put_nil.symm : zs = put zs oz [])] at hR
 replace hf0 := tf hA hf0
 replace hg0 := tg hA hg0
 refine lp (γ := Nat × List Nat × Nat) (fun (i, rs, cc) => (⟨[(0, .rsl 0 oz ys.length c), (1, .rsl 0 oz ys.length c), (2, vS ad ys.length yc), (3, vU m), (10, vU cc), (31, vI ys.length), (32, vI i)], [], [⟨0, 102, 1, N, (ints .u64 (put zs oz rs))⟩], 1⟩ : Sy)) (fun (i, rs, cc) e => ((Full e 0 N) ∧ (headOf (e.r 0) = g)) ∧ (i ≤ ys.length ∧ rs.length = i ∧ Ndig rs ∧ cc < 18446744073709551616 ∧ nval rs + pn i * cc = nval (seg zs oz i) + nval (ys.take i) * m + a)) (fun (i, rs, cc) => ys.length - i) (0, [], a) (⟨⟨hf0, hg0⟩, ⟨by omega, rfl, (fun d h => by cases h), ha, by simp [nval, pn]⟩⟩)
   (hR.sel [] [0] (by kernel_rfl) (by kernel_rfl)) (hI.sel [0, 1, 2, 3, 10, 31, 32] (by kernel_rfl)) ?_
 clear hR hI
 rintro ⟨i, rs, cc⟩ e5 a5 w5 hp hR hI
 dsimp only at hp hR hI
 obtain ⟨⟨hf0, hg0⟩, hp⟩ := hp
 obtain ⟨hi, hrl, hrd, hcc, hv⟩ := hp
 have hpl : (put zs oz rs).length = N := by rw [put_length (by omega)]; exact hzl
 refine rZ tab 1 [(33, vB (decide ((i : Int) < (ys.length : Int))))] [0, 1, 2, 3, 10, 31, 32] hR hI fun e6 a6 w6 hag hR hI => ?_
 have hA := hag
 refine wp_seq ?_
 refine cnd (b := decide ((i : Int) < (ys.length : Int))) hI (by kernel_rfl) (fun hc7 => ?_) (fun hc7 => ?_)
 ·
  replace hI := hI.rb 33 hc7
  try simp only [tolds] at hc7
  refine wp_skip ?_
  refine then_n ?_
  refine wp_seq ?_
  refine wp_block ?_
  refine rZ tab 1 [(11, vI i)] [0, 1, 2, 3, 10, 31, 32] hR hI fun e8 a8 w8 hag hR hI => ?_
  replace hA := hA.trans hag (by decide)
  refine wp_seq ?_
  refine regL 14 hR (by kernel_rfl) (fun hS => ?_)
  replace hR := hR.drew; have hF := hR.fore
  refine lK tab [(3, .val (vU (ys.getD i 0))), (8, .val (vU ((put zs oz rs).getD (oz + i) 0)))] [] [0, 1, 2, 3, 4, 5, 6, 7, 8] 6 [(44, vU ((put zs oz rs).getD (oz + i) 0)), (40, vU m), (39, vU (ys.getD i 0))] [11, 0, 1, 2, 3, 10, 31, 32] hS hI (.cons (by omega : (0 : Int) ≤ (i : Int) ∧ (i : Int) < (ys.length : Int)) (.cons (nats_some (i := i) (hy.cells.mono hB.cls) (by omega)) (.cons (nats_load (i := i) (m := 1) (hy.cells.mono hB.cls) (by omega)) (.cons (by omega : (0 : Int) ≤ (i : Int) ∧ (i : Int) < (ys.length : Int)) (.cons (ints_get (k := .u64) (xs := (put zs oz rs)) (i := oz + i) (by omega)) (.cons (by omega : oz + i < N * 1) .nil)))))) fun a9 hI => ?_
  refine oneL (i := 9) (f' := 5) (by kernel_rfl) (by rfl) ?_
  refine cH [vU (ys.getD i 0), vU m, vU ((put zs oz rs).getD (oz + i) 0)] hI Tryz.func169 ?_
  have hxi : (put zs oz rs).getD (oz + i) 0 = zs.getD (oz + i) 0 := put_getD_ge (by omega) (by omega)
  rw [hxi]
  refine (mulAddWWW_spec (C := C) (x := ys.getD i 0) (y := m) (c := zs.getD (oz + i) 0) (ndig_get hy.dig i) hm (ndig_get hzd _)).mono ?_
  rintro ex w10 ⟨h, l, rfl, hk, he, hhb, hlb⟩
  replace hS := hS.same hk; replace hR := hR.same hk; clear hk
  refine ⟨_, rfl, hS, ?_⟩
  replace hI := hI.pt 45 (.v (.tuple #[.int .u64 (h : Int), .int .u64 (l : Int)])) [45, 44, 40, 39, 11, 0, 1, 2, 3, 10, 31, 32]
  refine lK tab [] [] [10, 11, 12, 13] 1 [(12, vU h), (47, vU l)] [11, 0, 1, 2, 3, 10, 31, 32] hS hI .nil fun a11 hI => ?_
  refine endL (i := 14) (f' := 0) (by kernel_rfl) (by rfl) (by kernel_rfl) ?_
  refine quietL tab (hh := .no) (x := vU l) hR hI rfl rfl rfl (by kernel_rfl) .nil (fun a12 hI => ?_)
  replace hI := hI.sl [13, 12, 47, 11, 0, 1, 2, 3, 10, 31, 32] rfl
  refine doneL (by kernel_rfl) ?_
  refine then_n ?_
  replace hI := hI.sl [13, 12, 11, 0, 1, 2, 3, 10, 31, 32] rfl; replace hR := hR.sel [] [0] rfl rfl
  refine wp_seq (reg (is := [0, 1, 2, 3, 4, 5, 6, 7]) (by kernel_rfl) ?_)
  refine pZ tab [0, 1] [2, 3, 4, 5, 6, 7] 1 [(50, vU cc), (49, vU l)] [12, 11, 0, 1, 2, 3, 31, 32] hR hI fun e13 a13 w13 hag hR hI => ?_
  replace hA := hA.trans hag (by decide)
  refine cO [vU l, vU cc, .v (.int .u64 0)] hI Tryz.func145 ?_
  refine (add_spec (C := C) (x := l) (y := cc) (c := 0) hlb hcc (by decide)).mono ?_
  rintro ex w14 ⟨z, d, rfl, hk, hz, hzb, hdb⟩
  replace hR := hR.same hk; clear hk
  have htop := amv_top (ndig_get hy.dig i) hm (ndig_get hzd _) hcc he hz
  refine ⟨_, rfl, ?_⟩
  replace hI := hI.pt 51 (.v (.tuple #[.int .u64 (z : Int), .int .u64 (d : Int)])) [51, 50, 49, 12, 11, 0, 1, 2, 3, 31, 32]
  refine pZ tab [3, 4, 5, 6, 7] [] 1 [(15, vU d), (14, vU z)] [12, 11, 0, 1, 2, 3, 31, 32] hR hI fun e15 a15 w15 hag hR hI => ?_
  replace hA := hA.trans hag (by decide)
  refine ops_nil (then_n ?_)
  refine rK tab 1 [] [] [(10, vU d)] [12, 0, 1, 2, 3, 31, 32] [] [] [⟨0, 102, 1, N, ((ints .u64 (put zs oz rs)).set (oz + i) (.int .u64 (z : Int)))⟩] [] 1 hR hI (.cons (by omega : (0 : Int) ≤ (i : Int) ∧ (i : Int) < (ys.length : Int)) (.cons (by omega : oz + i < N * 1) .nil)) fun e16 a16 w16 hag hR hI => ?_
  replace hA := hA.trans hag (by decide)
  rw [ints_set] at hR
  rw [(by rw [← hrl]; exact put_snoc (by omega) : ((put zs oz rs).set (oz + i) z) = put zs oz (rs ++ [z]))] at hR
  refine aK tab 1 [(2, .nw)] [] [(10, vU (d + h))] [0, 1, 2, 3, 31, 32] [] [] [] [0] 1 hR hI (.cons (inR_u64 (n := (d : Int) + (h : Int)) (by omega)) .nil) fun e17 a17 w17 hag hR hI => ?_
  replace hA := hA.trans hag (by decide)
  refine normal_block ?_
  refine then_n ?_
  refine aK tab 1 [(0, .nw)] [] [(32, vI (i + 1))] [10, 0, 1, 2, 3, 31] [] [] [] [0] 1 hR hI (.cons (inR_i64 (n := (i : Int) + (1 : Int)) (by omega)) .nil) fun e18 a18 w18 hag hR hI => ?_
  replace hA := hA.trans hag (by decide)
  refine then_n ?_
  replace hf0 := tf hA hf0
  replace hg0 := tg hA hg0
  exact ⟨(i + 1, rs ++ [z], d + h), e18, ⟨⟨hf0, hg0⟩, ⟨by omega, by rw [List.length_append, hrl]; rfl, ndig_snoc hrd hzb, htop, amv_step hrl hv he hz⟩⟩, by (try dsimp only); omega, hR.sel [] [0] (by kernel_rfl) (by kernel_rfl), hI.sel [0, 1, 2, 3, 10, 31, 32] (by kernel_rfl)⟩
 ·
  replace hI := hI.rb 33 hc7
  try simp only [tolds] at hc7
  refine wp_exit ?_
  refine exit_then ?_
  refine exit_then ?_
  refine exit_hit ?_
  refine then_n ?_
  refine wp_ret (oN tab [vU cc] hR hI ?_)
  replace hf0 := tf hA hf0
  replace hg0 := tg hA hg0
  obtain rfl : i = ys.length := by omega
  rw [List.take_length] at hv
  exact ⟨rs, cc, rfl, hB.fin hR, (hR.rowFin (y := ⟨0, 102, 1, N, (ints .u64 (put zs oz rs))⟩) m0 hf0 rfl hg0), hrl, hrd, hcc, hv⟩

theorem addMulVVWW_spec {C : Nat → Prop} {w : World} {g N oz c : Nat} {zs ys : List Nat} {ad : Option Addr} {yc m a : Nat} (hz : w.heap[g]? = some (.cells (ints .u64 zs).toArray 102)) (hzl : zs.length = N) (hzm : N ≤ 9223372036854775807) (hCg : ¬ C g) (hzd : Ndig zs) (hy : Sl .u64 18446744073709551616 C w ad yc ys) (hfit : oz + ys.length ≤ N) (hm : m < 18446744073709551616) (ha : a < 18446744073709551616) :
    Calls P 158 #[.slice (some ⟨g, oz, none⟩) ys.length c, .slice (some ⟨g, oz, none⟩) ys.length c, .slice ad ys.length yc, .int .u64 (m : Int), .int .u64 (a : Int)] w fun ex w' => ∃ (rs : List Nat) (co : Nat), ex = .returned (.int .u64 (co : Int)) ∧ Keep (ButN [g] w) w w' ∧ w'.heap[g]? = some (.cells (ints .u64 (put zs oz rs)).toArray 102) ∧ rs.length = ys.length ∧ Ndig rs ∧ co < 18446744073709551616 ∧ nval rs + pn ys.length * co = nval (seg zs oz ys.length) + nval ys * m + a := by
 refine doorN (e := (e0.addR 0 (.slice (some ⟨g, 0, none⟩) N N))) (vs := [.rsl 0 oz ys.length c, .rsl 0 oz ys.length c, vS ad ys.length yc, vU m, vU a]) (n := 17) (m := 5) Tryz.func158 rfl rfl rfl (by decide) fun a_ hI => ?_
 replace hI : Is 17 [] (e0.addR 0 (.slice (some ⟨g, 0, none⟩) N N)) [(0, .rsl 0 oz ys.length c), (1, .rsl 0 oz ys.length c), (2, vS ad ys.length yc), (3, vU m), (4, vU a)] a_ := hI
 have hf0 : Full (e0.addR 0 (.slice (some ⟨g, 0, none⟩) N N)) 0 N := rfl; have hg0 : headOf ((e0.addR 0 (.slice (some ⟨g, 0, none⟩) N N)).r 0) = g := rfl
 have hR : Rel (ButN [g] w) w (e0.addR 0 (.slice (some ⟨g, 0, none⟩) N N)) [] [⟨0, 102, 1, N, (ints .u64 zs)⟩] w := Rel.startN (fun k_ h_ => h_.1) all_no (all_cons ⟨ownsRow_fullN hz (by first | exact hzl | (rw [ints_length]; exact hzl)) hzm, fun g_ he_ => by cases he_; exact (fun hm_ => hm_.2 m0)⟩ all_no) all_no all_no (all_cons (all_cons (fun hn_ => absurd rfl hn_) all_no) all_no)
 have hB : BaseD (ButN [g] w) C w C (ButN [g] w) w := BaseD.start (fun k_ hC_ hlt_ => ⟨hlt_, notin2 (fun he_ => hCg (he_ ▸ hC_)) (fun hm_ => by cases hm_)⟩)
 refine rZ tab 1 [] [0, 1, 2, 3, 4] hR hI fun e1 a1 w1 hag hR hI => ?_
 have hA := hag
 refine wp_seq (reg (is := [0, 1, 2, 3, 4, 5, 6]) (by kernel_rfl) ?_)
 refine pZ tab [0, 1, 2, 3, 4] [5, 6] 1 [(15, vU a), (14, vU m), (13, vS ad ys.length yc), (12, .rsl 0 oz ys.length c), (11, .rsl 0 oz ys.length c)] [] hR hI fun e2 a2 w2 hag hR hI => ?_
 replace hA := hA.trans hag (by decide)
 refine cO [.rsl 0 oz ys.length c, .rsl 0 oz ys.length c, vS ad ys.length yc, vU m, vU a] hI Tryz.func170 ?_
 replace hf0 := tf hA hf0
 replace hg0 := tg hA hg0
 have hq0_ := hR.rowCells (y := ⟨0, 102, 1, N, (ints .u64 zs)⟩) m0 hf0 rfl
 refine (addMulVVWW_g_spec (C := Now hB) (oz := oz) (c := c) hq0_.1 hzl hzm (fun h_ => hq0_.2 h_.2) hzd (hy.now hB hR) hfit hm ha).mono ?_
 rintro ex w3 ⟨rs, co, rfl, hk, hw0, hrl, hrd, hco, hv⟩
 have hkF_ := hR.keepN hk (all_cons hq0_.2 all_no)
 have hR_ : Rel (Grow _ _ w3) w3 e2 [] [⟨0, 102, 1, N, (ints .u64 (put zs oz rs))⟩] w3 := hR.turnedN hk (all_cons hq0_.2 all_no) all_no (all_cons ⟨⟨_, m0, rfl⟩, .inr (by have hl_ := hR.rowLen (y := ⟨0, 102, 1, N, (ints .u64 zs)⟩) m0; dsimp only at hl_; rw [show e2.r 0 = _ from hf0]; exact ownsRow_fullN hw0 (by rw [ints_length, put_length (by omega)]; exact hzl) (hzm))⟩ all_no)
 replace hy := hy.nextF hB hR hkF_
 have hB_ := hB.nextF hR hkF_
 replace hR := hR_; clear hR_
 replace hB := hB_; clear hB_ hk hkF_ hq0_ hw0
 refine ⟨_, rfl, ?_⟩
 replace hI := hI.pt 16 (vU co) [16, 15, 14, 13, 12, 11]
 refine pZ tab [6] [] 1 [(10, vU co)] [] hR hI fun e4 a4 w4 hag hR hI => ?_
 have hA := hag
 refine ops_nil (then_n ?_)
 refine wp_ret (oN tab [vU co] hR hI ?_)
 replace hf0 := tf hA hf0
 replace hg0 := tg hA hg0
 exact ⟨rs, co, rfl, hB.fin hR, (hR.rowFin (y := ⟨0, 102, 1, N, (ints .u64 (put zs oz rs))⟩) m0 hf0 rfl hg0), hrl, hrd, hco, hv⟩

theorem addMulVVWWl_spec {C : Nat → Prop} {w : World} {g N oz c : Nat} {zs ys : List Nat} {ad : Option Addr} {yc m a l1 : Nat} (hl1 : l1 = ys.length) (hz : w.heap[g]? = some (.cells (ints .u64 zs).toArray 102 (0, 0))) (hzl : zs.length = N) (hzm : N ≤ 9223372036854775807) (hCg : ¬ C g) (hzd : Ndig zs) (hy : Sl .u64 18446744073709551616 C w ad yc ys) (hfit : oz + ys.length ≤ N) (hm : m < 18446744073709551616) (ha : a < 18446744073709551616) :
  Calls P 158 #[.slice (some ⟨g, oz, none⟩) l1 c, .slice (some ⟨g, oz, none⟩) l1 c, .slice ad ys.length yc, .int .u64 ((m : Nat) : Int), .int .u64 ((a : Nat) : Int)] w fun ex w' => ∃ (rs : List Nat) (co : Nat), ex = .returned (.int .u64 ((co : Nat) : Int)) ∧ Keep (ButN [g] w) w w' ∧ w'.heap[g]? = some (.cells (ints .u64 (put zs oz rs)).toArray 102 (0, 0)) ∧ rs.length = ys.length ∧ Ndig rs ∧ co < 18446744073709551616 ∧ nval rs + pn ys.length * co = nval (seg zs oz ys.length) + nval ys * m + a := by
 subst hl1
 exact addMulVVWW_spec hz hzl hzm hCg hzd hy hfit hm ha

theorem bmsg {zs ps : List Nat} {i l r : Nat} (hp : ps.length = l + i) : nval (seg (put zs 0 (ps ++ List.replicate r 0)) (0 + i) l) = nval (ps.drop i) := by rw [Nat.zero_add, bm_seg hp]

theorem basicMul_spec {C : Nat → Prop} {w : World} {g N nz cz : Nat} {zs xs ys : List Nat} {ad bd : Option Addr} {xc yc : Nat} (hz : w.heap[g]? = some (.cells (ints .u64 zs).toArray 102)) (hzl : zs.length = N) (hzm : N ≤ 9223372036854775807) (hCg : ¬ C g) (hzd : Ndig zs) (hx : Sl .u64 18446744073709551616 C w ad xc xs) (hy : Sl .u64 18446744073709551616 C w bd yc ys) (hpos : 0 < xs.length + ys.length) (hfit : xs.length + ys.length ≤ N) (hnz : xs.length + ys.length ≤ nz) (hcz : nz ≤ cz) (hczm : cz ≤ 9223372036854775807) :
    Calls P 135 #[.slice (some ⟨g, 0, none⟩) nz cz, .slice ad xs.length xc, .slice bd ys.length yc] w fun ex w' => ∃ rs : List Nat, ex = .returned (.tuple #[]) ∧ Keep (ButN [g] w) w w' ∧ w'.heap[g]? = some (.cells (ints .u64 (put zs 0 rs)).toArray 102) ∧ rs.length = xs.length + ys.length ∧ Ndig rs ∧ nval rs = nval xs * nval ys := by
 refine doorN (e := (e0.addR 0 (.slice (some ⟨g, 0, none⟩) N N))) (vs := [.rsl 0 0 nz cz, vS ad xs.length xc, vS bd ys.length yc]) (n := 48) (m := 3) Tryz.func135 rfl rfl rfl (by decide) fun a_ hI => ?_
 replace hI : Is 48 [] (e0.addR 0 (.slice (some ⟨g, 0, none⟩) N N)) [(0, .rsl 0 0 nz cz), (1, vS ad xs.length xc), (2, vS bd ys.length yc)] a_ := hI
 have hf0 : Full (e0.addR 0 (.slice (some ⟨g, 0, none⟩) N N)) 0 N := rfl; have hg0 : headOf ((e0.addR 0 (.slice (some ⟨g, 0, none⟩) N N)).r 0) = g := rfl
 have hR : Rel (ButN [g] w) w (e0.addR 0 (.slice (some ⟨g, 0, none⟩) N N)) [] [⟨0, 102, 1, N, (ints .u64 zs)⟩] w := Rel.startN (fun k_ h_ => h_.1) all_no (all_cons ⟨ownsRow_fullN hz (by first | exact hzl | (rw [ints_length]; exact hzl)) hzm, fun g_ he_ => by cases he_; exact (fun hm_ => hm_.2 m0)⟩ all_no) all_no all_no (all_cons (all_cons (fun hn_ => absurd rfl hn_) all_no) all_no)
 have hB : BaseD (ButN [g] w) C w C (ButN [g] w) w := BaseD.start (fun k_ hC_ hlt_ => ⟨hlt_, notin2 (fun he_ => hCg (he_ ▸ hC_)) (fun hm_ => by cases hm_)⟩)
 have hrx := hx.room; have hmx := hx.max; have hry := hy.room; have hmy := hy.max
 refine wp_seq (reg (is := [0, 1, 2, 3, 4, 5, 6, 7]) (by kernel_rfl) ?_)
 refine pK tab [0, 1, 2, 3, 4, 5, 6] [7] 1 [(5, .eq (.int .i64 ((xs.length + ys.length : Nat) : Int)))] [] [(14, .rsl 0 0 (xs.length + ys.length) cz)] [0, 1, 2] [] [] [] [0] 1 hR hI (.cons (wI ((xs.length : Int) + (ys.length : Int)) ((xs.length + ys.length : Nat) : Int) (by omega) (by omega)) (.cons (by omega : (0 : Int) ≤ (0 : Int) ∧ (0 : Int) ≤ ((xs.length + ys.length : Nat) : Int) ∧ ((xs.length + ys.length : Nat) : Int) ≤ (cz : Nat)) (.cons (by omega : ((0 : Int) : Int) < (cz : Nat) ∨ ((0 : Int) : Int) = 0) .nil))) fun e1 a1 w1 hag hR hI => ?_
 have hA := hag
 replace hf0 := tf hA hf0
 replace hg0 := tg hA hg0
 refine clearOp (m := 0) (off := 0) (l := (xs.length + ys.length)) (c := cz) (y := ⟨0, 102, 1, N, (ints .u64 zs)⟩) tab hR hI rfl rfl rfl ⟨_, rfl, rfl, rfl, rfl⟩ rfl rfl rfl (by kernel_rfl) (by kernel_rfl) hf0 rfl (by kernel_rfl) (by omega) (by dsimp only; omega) (fun a2 w2 hR hI => ?_)
 dsimp only at hR; rw [ints_clear] at hR; replace hR := hR.sel [] [0] rfl rfl
 refine ops_nil (then_n ?_)
 refine rZ tab 1 [(17, .v (.int .i64 0)), (16, vI ys.length), (15, vS bd ys.length yc)] [0, 1] hR hI fun e3 a3 w3 hag hR hI => ?_
 have hA := hag
 refine wp_block ?_
 rw [(by rw [List.replicate_append_replicate]; rfl : (put zs 0 (List.replicate (xs.length + ys.length) 0)) = put zs 0 (List.replicate xs.length 0 ++ List.replicate (ys.length - 0) 0))] at hR
 replace hf0 := tf hA hf0
 replace hg0 := tg hA hg0
 refine lpM (γ := Nat × List Nat) (fun (i, ps) => (⟨[(0, .rsl 0 0 nz cz), (1, vS ad xs.length xc), (15, vS bd ys.length yc), (16, vI ys.length), (17, vI i)], [], [⟨0, 102, 1, N, (ints .u64 (put zs 0 (ps ++ List.replicate (ys.length - i) 0)))⟩], 1⟩ : Sy)) (fun (i, ps) e C F wb => ((Full e 0 N) ∧ (headOf (e.r 0) = g)) ∧ ((Sl .u64 18446744073709551616 C wb ad xc xs ∧ Sl .u64 18446744073709551616 C wb bd yc ys) ∧ i ≤ ys.length ∧ ps.length = xs.length + i ∧ Ndig ps ∧ nval ps = nval xs * nval (ys.take i))) (fun (i, ps) => ys.length - i) (0, List.replicate xs.length 0) hB (⟨⟨hf0, hg0⟩, ⟨⟨hx, hy⟩, by omega, by simp, (fun d h => by rw [List.eq_of_mem_replicate h]; decide), by rw [nval_replicate]; simp [nval]⟩⟩)
   (hR.sel [] [0] (by kernel_rfl) (by kernel_rfl)) (hI.sel [0, 1, 15, 16, 17] (by kernel_rfl)) ?_
 clear hR hI hB
 rintro ⟨i, ps⟩ e4 C4 F4 wb4 a4 w4 hB hp hR hI
 dsimp only at hp hR hI
 obtain ⟨⟨hf0, hg0⟩, hp⟩ := hp
 obtain ⟨⟨hx, hy⟩, hi, hpl, hpd, hv⟩ := hp
 have hWl : (put zs 0 (ps ++ List.replicate (ys.length - i) 0)).length = N := by rw [put_length (by simp only [List.length_append, List.length_replicate]; omega)]; exact hzl
 refine rZ tab 1 [(18, vB (decide ((i : Int) < (ys.length : Int))))] [0, 1, 15, 16, 17] hR hI fun e5 a5 w5 hag hR hI => ?_
 have hA := hag
 refine wp_seq ?_
 refine cnd (b := decide ((i : Int) < (ys.length : Int))) hI (by kernel_rfl) (fun hc6 => ?_) (fun hc6 => ?_)
 ·
  replace hI := hI.rb 18 hc6
  try simp only [tolds] at hc6
  refine wp_skip ?_
  refine then_n ?_
  refine wp_seq ?_
  refine wp_block ?_
  refine rK tab 1 [(2, .val (vU (ys.getD i 0)))] [] [(7, vU (ys.getD i 0)), (6, vI i)] [0, 1, 15, 16, 17] [] [] [] [0] 1 hR hI (.cons (by omega : (0 : Int) ≤ (i : Int) ∧ (i : Int) < (ys.length : Int)) (.cons (nats_some (i := i) (hy.cells.mono hB.cls) (by omega)) (.cons (nats_load (i := i) (m := 1) (hy.cells.mono hB.cls) (by omega)) .nil))) fun e7 a7 w7 hag hR hI => ?_
  replace hA := hA.trans hag (by decide)
  refine rZ tab 1 [(23, vB (((ys.getD i 0 : Nat) : Int) != (0 : Int)))] [7, 6, 0, 1, 15, 16, 17] hR hI fun e8 a8 w8 hag hR hI => ?_
  replace hA := hA.trans hag (by decide)
  refine cnd (b := (((ys.getD i 0 : Nat) : Int) != (0 : Int))) hI (by kernel_rfl) (fun hc9 => ?_) (fun hc9 => ?_)
  ·
   replace hI := hI.rb 23 hc9
   try simp only [tolds] at hc9
   refine regL 23 (hR.sel [] [] rfl rfl) (by kernel_rfl) (fun hS => ?_)
   replace hR := hR.drew; have hF := hR.fore
   refine lK tab [(4, .eq (.int .i64 ((xs.length + i : Nat) : Int))), (10, .eq (.int .i64 ((i + xs.length : Nat) : Int))), (17, .eq (.int .i64 ((i + xs.length : Nat) : Int)))] [] [0, 1, 2, 3, 4, 5, 6, 7, 8, 9, 10, 11, 12, 13, 14, 15, 16, 17, 18, 19, 20] 3 [(44, vU (ys.getD i 0)), (43, vS ad xs.length xc), (42, .rsl 0 (0 + i) ((i + xs.length) - i) (cz - i)), (35, .rsl 0 (0 + i) ((i + xs.length) - i) (cz - i)), (28, vI (xs.length + i)), (24, .rsl 0 0 nz cz)] [0, 1, 15, 16, 17] hS hI (.cons (wI ((xs.length : Int) + (i : Int)) ((xs.length + i : Nat) : Int) (by omega) (by omega)) (.cons (wI ((i : Int) + (xs.length : Int)) ((i + xs.length : Nat) : Int) (by omega) (by omega)) (.cons (by omega : (0 : Int) ≤ (i : Int) ∧ (i : Int) ≤ ((i + xs.length : Nat) : Int) ∧ ((i + xs.length : Nat) : Int) ≤ (cz : Nat)) (.cons (by omega : ((i : Int) : Int) < (cz : Nat) ∨ ((i : Int) : Int) = 0) (.cons (wI ((i : Int) + (xs.length : Int)) ((i + xs.length : Nat) : Int) (by omega) (by omega)) (.cons (by omega : (0 : Int) ≤ (i : Int) ∧ (i : Int) ≤ ((i + xs.length : Nat) : Int) ∧ ((i + xs.length : Nat) : Int) ≤ (cz : Nat)) (.cons (by omega : ((i : Int) : Int) < (cz : Nat) ∨ ((i : Int) : Int) = 0) .nil))))))) fun a10 hI => ?_
   refine oneL (i := 21) (f' := 2) (by kernel_rfl) (by rfl) ?_
   refine cH [.rsl 0 (0 + i) ((i + xs.length) - i) (cz - i), .rsl 0 (0 + i) ((i + xs.length) - i) (cz - i), vS ad xs.length xc, vU (ys.getD i 0), .v (.int .u64 0)] hI Tryz.func158 ?_
   have hWd : Ndig (put zs 0 (ps ++ List.replicate (ys.length - i) 0)) := put_dig hzd (fun d hd => (List.mem_append.1 hd).elim (hpd d) (fun h_ => by rw [List.eq_of_mem_replicate h_]; decide))
   replace hf0 := tf hA hf0
   replace hg0 := tg hA hg0
   have hq0_ := hR.rowCells (y := ⟨0, 102, 1, N, (ints .u64 (put zs 0 (ps ++ List.replicate (ys.length - i) 0)))⟩) m0 hf0 rfl
   refine (addMulVVWWl_spec (C := Now hB) (ys := xs) (oz := 0 + i) (m := ys.getD i 0) (a := 0) (by omega) hq0_.1 hWl hzm (fun h_ => hq0_.2 h_.2) hWd (hx.now hB hR) (by omega) (ndig_get hy.dig i) (by decide)).mono ?_
   rintro ex w11 ⟨rs, co, rfl, hk, hw0, hrl, hrd, hco, hv2⟩
   have hkF_ := hR.keepN hk (all_cons hq0_.2 all_no)
   have hS_ := hS.heldN hk (all_cons (fun hf_ => hq0_.2 (hF.sub _ hf_)) all_no) all_no all_no
   replace hF := hF.growB hR hkF_; replace hS := hS_; clear hS_
   have hR_ : Rel (Grow _ _ w11) w11 e8 [] [⟨0, 102, 1, N, (ints .u64 (put (put zs 0 (ps ++ List.replicate (ys.length - i) 0)) (0 + i) rs))⟩] w11 := hR.turnedN hk (all_cons hq0_.2 all_no) all_no (all_cons ⟨⟨_, m0, rfl⟩, .inr (by have hl_ := hR.rowLen (y := ⟨0, 102, 1, N, (ints .u64 (put zs 0 (ps ++ List.replicate (ys.length - i) 0)))⟩) m0; dsimp only at hl_; rw [show e8.r 0 = _ from hf0]; exact ownsRow_fullN hw0 (by rw [ints_length, put_length (by omega)]; exact hWl) (hzm))⟩ all_no)
   replace hx := hx.nextF hB hR hkF_
   replace hy := hy.nextF hB hR hkF_
   have hB_ := hB.nextF hR hkF_
   replace hR := hR_; clear hR_
   replace hB := hB_; clear hB_ hk hkF_ hq0_ hw0
   refine ⟨_, rfl, hS, ?_⟩
   replace hI := hI.pt 45 (vU co) [45, 44, 43, 42, 35, 28, 24, 0, 1, 15, 16, 17]
   refine lK tab [] [] [22] 1 [(46, .pr 0 (0 + (xs.length + i)))] [45, 0, 1, 15, 16, 17] hS hI (.cons (by omega : (0 : Int) ≤ ((xs.length + i : Nat) : Int) ∧ ((xs.length + i : Nat) : Int) < (nz : Int)) .nil) fun a12 hI => ?_
   refine endL (i := 23) (f' := 0) (by kernel_rfl) (by rfl) (by kernel_rfl) ?_
   refine eK tab 1 .no (.v (undef)) [] [] [⟨0, 102, 1, N, ((ints .u64 (put (put zs 0 (ps ++ List.replicate (ys.length - i) 0)) (0 + i) rs)).set (0 + (xs.length + i)) (.int .u64 (co : Int)))⟩] [] 1 true hR hI (.cons (by omega : 0 + (xs.length + i) < N * 1) .nil) fun e13 a13 w13 hag hR2 hI => ?_
   have hA := hag
   replace hR := hR2; clear hR2
   replace hI := hI.sl [46, 45, 0, 1, 15, 16, 17] rfl
   refine doneL (by kernel_rfl) ?_
   replace hI := hI.sl [0, 1, 15, 16, 17] rfl; replace hR := hR.sel [] [0] rfl rfl
   rw [ints_set] at hR
   rw [(by rw [show ys.length - i = (ys.length - (i + 1)) + 1 by omega]; simp only [Nat.zero_add]; exact bm_row hpl hrl (by omega) : ((put (put zs 0 (ps ++ List.replicate (ys.length - i) 0)) (0 + i) rs).set (0 + (xs.length + i)) co) = put zs 0 ((ps.take i ++ rs ++ [co]) ++ List.replicate (ys.length - (i + 1)) 0))] at hR
   refine normal_block ?_
   refine then_n ?_
   refine aK tab 1 [(0, .nw)] [] [(17, vI (i + 1))] [0, 1, 15, 16] [] [] [] [0] 1 hR hI (.cons (inR_i64 (n := (i : Int) + (1 : Int)) (by omega)) .nil) fun e14 a14 w14 hag hR hI => ?_
   replace hA := hA.trans hag (by decide)
   refine then_n ?_
   replace hf0 := tf hA hf0
   replace hg0 := tg hA hg0
   exact ⟨(i + 1, ps.take i ++ rs ++ [co]), _, _, _, _, hB, ⟨⟨hf0, hg0⟩, ⟨⟨hx, hy⟩, by omega, by rw [List.length_append, List.length_append, List.length_take, hrl]; simp; omega, ndig_snoc (fun d hd => (List.mem_append.1 hd).elim (fun h_ => hpd d (List.mem_of_mem_take h_)) (hrd d)) hco, bm_step hpl hrl rfl hv (by rw [hv2, bmsg hpl])⟩⟩, (by (try dsimp only); omega), hR.sel [] [0] (by kernel_rfl) (by kernel_rfl), hI.sel [0, 1, 15, 16, 17] (by kernel_rfl)⟩
  ·
   replace hI := hI.rb 23 hc9
   try simp only [tolds] at hc9
   have hd0 := hc9
   rw [(by rw [← repl_snoc, show ys.length - (i + 1) + 1 = ys.length - i by omega] : (put zs 0 (ps ++ List.replicate (ys.length - i) 0)) = put zs 0 ((ps ++ [0]) ++ List.replicate (ys.length - (i + 1)) 0))] at hR
   refine wp_skip ?_
   refine normal_block ?_
   refine then_n ?_
   refine aK tab 1 [(0, .nw)] [] [(17, vI (i + 1))] [0, 1, 15, 16] [] [] [] [0] 1 hR hI (.cons (inR_i64 (n := (i : Int) + (1 : Int)) (by omega)) .nil) fun e15 a15 w15 hag hR hI => ?_
   replace hA := hA.trans hag (by decide)
   refine then_n ?_
   replace hf0 := tf hA hf0
   replace hg0 := tg hA hg0
   exact ⟨(i + 1, ps ++ [0]), _, _, _, _, hB, ⟨⟨hf0, hg0⟩, ⟨⟨hx, hy⟩, by omega, by rw [List.length_append, hpl]; rfl, ndig_snoc hpd (by decide), bm_zero hv (by omega)⟩⟩, (by (try dsimp only); omega), hR.sel [] [0] (by kernel_rfl) (by kernel_rfl), hI.sel [0, 1, 15, 16, 17] (by kernel_rfl)⟩
 ·
  replace hI := hI.rb 18 hc6
  try simp only [tolds] at hc6
  refine wp_exit ?_
  refine exit_then ?_
  refine exit_then ?_
  refine exit_hit ?_
  refine outE tab (xs := []) hR hI rfl (by kernel_rfl) ?_
  replace hf0 := tf hA hf0
  replace hg0 := tg hA hg0
  obtain rfl : i = ys.length := by omega
  rw [List.take_length] at hv
  rw [Nat.sub_self, List.replicate_zero, List.append_nil] at hR
  exact ⟨ps, rfl, hB.fin hR, (hR.rowFin (y := ⟨0, 102, 1, N, (ints .u64 (put zs 0 ps))⟩) m0 hf0 rfl hg0), hpl, hpd, hv⟩

end Go.Proofs.YtmendapdibnbdaaGreatDoor.Stride
