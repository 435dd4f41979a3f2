/- Walks of the program's functions, printed by a program of mine (walk.py) over the words of Stride: each function's contract. -/
import Derived.Test.YtmendapdibnbdaaGreatDoorDeA
import Derived.LaidEqlPtr
namespace Go.Proofs.YtmendapdibnbdaaGreatDoor.Stride
open Go Go.RowKit Go.Proofs.YtmendapdibnbdaaGreatDoor.Mag
set_option linter.unusedVariables false
set_option linter.unusedSimpArgs false
set_option maxHeartbeats 4000000
set_option maxRecDepth 100000
theorem mulAddVWW_g_spec {C : Nat → Prop} {w : World} {g N oz c : Nat} {zs xs : List Nat} {ad : Option Addr} {xc y r : Nat} (hz : w.heap[g]? = some (.cells (ints .u64 zs).toArray 102)) (hzl : zs.length = N) (hzm : N ≤ 9223372036854775807) (hCg : ¬ C g) (hx : Sl .u64 18446744073709551616 C w ad xc xs) (hfit : oz + xs.length ≤ N) (hy : y < 18446744073709551616) (hr : r < 18446744073709551616) :
    Calls P 147 #[.slice (some ⟨g, oz, none⟩) xs.length c, .slice ad xs.length xc, .int .u64 (y : Int), .int .u64 (r : Int)] w fun ex w' => ∃ (rs : List Nat) (co : Nat), ex = .returned (.int .u64 (co : Int)) ∧ Keep (ButN [g] w) w w' ∧ w'.heap[g]? = some (.cells (ints .u64 (put zs oz rs)).toArray 102) ∧ rs.length = xs.length ∧ Ndig rs ∧ co < 18446744073709551616 ∧ nval rs + pn xs.length * co = nval xs * y + r := by
 refine doorN (e := (e0.addR 0 (.slice (some ⟨g, 0, none⟩) N N))) (vs := [.rsl 0 oz xs.length c, vS ad xs.length xc, vU y, vU r]) (n := 36) (m := 4) Tryz.func147 rfl rfl rfl (by decide) fun a_ hI => ?_
 replace hI : Is 36 [] (e0.addR 0 (.slice (some ⟨g, 0, none⟩) N N)) [(0, .rsl 0 oz xs.length c), (1, vS ad xs.length xc), (2, vU y), (3, vU r)] a_ := hI
 have hf0 : Full (e0.addR 0 (.slice (some ⟨g, 0, none⟩) N N)) 0 N := rfl; have hg0 : headOf ((e0.addR 0 (.slice (some ⟨g, 0, none⟩) N N)).r 0) = g := rfl
 have hR : Rel (ButN [g] w) w (e0.addR 0 (.slice (some ⟨g, 0, none⟩) N N)) [] [⟨0, 102, 1, N, (ints .u64 zs)⟩] w := Rel.startN (fun k_ h_ => h_.1) all_no (all_cons ⟨ownsRow_fullN hz (by first | exact hzl | (rw [ints_length]; exact hzl)) hzm, fun g_ he_ => by cases he_; exact (fun hm_ => hm_.2 m0)⟩ all_no) all_no all_no (all_cons (all_cons (fun hn_ => absurd rfl hn_) all_no) all_no)
 have hB : BaseD (ButN [g] w) C w C (ButN [g] w) w := BaseD.start (fun k_ hC_ hlt_ => ⟨hlt_, notin2 (fun he_ => hCg (he_ ▸ hC_)) (fun hm_ => by cases hm_)⟩)
 have hrx := hx.room; have hmx := hx.max
 refine rZ tab 1 [] [0, 1, 2, 3] hR hI fun e1 a1 w1 hag hR hI => ?_
 have hA := hag
 refine wp_seq ?_
 refine rK tab 1 [(4, .eq (.bool false))] [] [(14, vB false)] [0, 1, 2, 3] [] [] [] [0] 1 hR hI (.cons (congrArg Value.bool (bne_self_eq_false _ : ((xs.length : Int) != (xs.length : Int)) = false)) .nil) fun e2 a2 w2 hag hR hI => ?_
 replace hA := hA.trans hag (by decide)
 refine cnd_f hI (by kernel_rfl) ?_
 refine wp_skip ?_
 refine then_n ?_
 refine rZ tab 1 [(8, vU r)] [0, 1, 2] hR hI fun e3 a3 w3 hag hR hI => ?_
 replace hA := hA.trans hag (by decide)
 refine wp_seq ?_
 refine rZ tab 1 [(19, .v (.int .i64 0)), (18, vI xs.length)] [8, 0, 1, 2] hR hI fun e4 a4 w4 hag hR hI => ?_
 replace hA := hA.trans hag (by decide)
 refine wp_block ?_
 rw [(put_nil.symm : zs = put zs oz [])] at hR
 replace hf0 := tf hA hf0
 replace hg0 := tg hA hg0
 refine lp (γ := Nat × List Nat × Nat) (fun (i, rs, cc) => (⟨[(0, .rsl 0 oz xs.length c), (1, vS ad xs.length xc), (2, vU y), (8, vU cc), (18, vI xs.length), (19, vI i)], [], [⟨0, 102, 1, N, (ints .u64 (put zs oz rs))⟩], 1⟩ : Sy)) (fun (i, rs, cc) e => ((Full e 0 N) ∧ (headOf (e.r 0) = g)) ∧ (i ≤ xs.length ∧ rs.length = i ∧ Ndig rs ∧ cc < 18446744073709551616 ∧ nval rs + pn i * cc = nval (xs.take i) * y + r)) (fun (i, rs, cc) => xs.length - i) (0, [], r) (⟨⟨hf0, hg0⟩, ⟨by omega, rfl, (fun d h => by cases h), hr, by simp [nval, pn]⟩⟩)
   (hR.sel [] [0] (by kernel_rfl) (by kernel_rfl)) (hI.sel [0, 1, 2, 8, 18, 19] (by kernel_rfl)) ?_
 clear hR hI
 rintro ⟨i, rs, cc⟩ e5 a5 w5 hp hR hI
 dsimp only at hp hR hI
 obtain ⟨⟨hf0, hg0⟩, hp⟩ := hp
 obtain ⟨hi, hrl, hrd, hcc, hv⟩ := hp
 have hpl : (put zs oz rs).length = N := by rw [put_length (by omega)]; exact hzl
 refine rZ tab 1 [(20, vB (decide ((i : Int) < (xs.length : Int))))] [0, 1, 2, 8, 18, 19] hR hI fun e6 a6 w6 hag hR hI => ?_
 have hA := hag
 refine wp_seq ?_
 refine cnd (b := decide ((i : Int) < (xs.length : Int))) hI (by kernel_rfl) (fun hc7 => ?_) (fun hc7 => ?_)
 ·
  replace hI := hI.rb 20 hc7
  try simp only [tolds] at hc7
  refine wp_skip ?_
  refine then_n ?_
  refine wp_seq ?_
  refine wp_block ?_
  refine rZ tab 1 [(9, vI i)] [0, 1, 2, 8, 18, 19] hR hI fun e8 a8 w8 hag hR hI => ?_
  replace hA := hA.trans hag (by decide)
  refine reg (is := [0, 1, 2, 3, 4, 5, 6, 7, 8, 9, 10, 11, 12, 13, 14]) (by kernel_rfl) ?_
  refine pK tab [0, 1, 2, 3, 4, 5, 6, 7] [8, 9, 10, 11, 12, 13, 14] 1 [(5, .val (vU (xs.getD i 0)))] [] [(30, vU cc), (29, vU y), (28, vU (xs.getD i 0)), (24, vI i), (23, .rsl 0 oz xs.length c)] [0, 1, 2, 8, 18, 19] [] [] [] [0] 1 hR hI (.cons (by omega : (0 : Int) ≤ (i : Int) ∧ (i : Int) < (xs.length : Int)) (.cons (nats_some (i := i) (hx.cells.mono hB.cls) (by omega)) (.cons (nats_load (i := i) (m := 1) (hx.cells.mono hB.cls) (by omega)) .nil))) fun e9 a9 w9 hag hR hI => ?_
  replace hA := hA.trans hag (by decide)
  refine cO [vU (xs.getD i 0), vU y, vU cc] hI Tryz.func169 ?_
  refine (mulAddWWW_spec (C := C) (x := xs.getD i 0) (y := y) (c := cc) (ndig_get hx.dig i) hy hcc).mono ?_
  rintro ex w10 ⟨h, l, rfl, hk, he, hhb, hlb⟩
  replace hR := hR.same hk; clear hk
  refine ⟨_, rfl, ?_⟩
  replace hI := hI.pt 31 (.v (.tuple #[.int .u64 (h : Int), .int .u64 (l : Int)])) [31, 30, 29, 28, 24, 23, 0, 1, 2, 8, 18, 19]
  refine pK tab [9, 10, 11, 12, 13, 14] [] 1 [] [] [(8, vU h)] [0, 1, 2, 18, 19] [] [] [⟨0, 102, 1, N, ((ints .u64 (put zs oz rs)).set (oz + i) (.int .u64 (l : Int)))⟩] [] 1 hR hI (.cons (by omega : (0 : Int) ≤ (i : Int) ∧ (i : Int) < (xs.length : Int)) (.cons (by omega : oz + i < N * 1) .nil)) fun e11 a11 w11 hag hR hI => ?_
  replace hA := hA.trans hag (by decide)
  rw [ints_set] at hR
  refine ops_nil ?_
  rw [(by rw [← hrl]; exact put_snoc (by omega) : ((put zs oz rs).set (oz + i) l) = put zs oz (rs ++ [l]))] at hR
  refine normal_block ?_
  refine then_n ?_
  refine aK tab 1 [(0, .nw)] [] [(19, vI (i + 1))] [8, 0, 1, 2, 18] [] [] [] [0] 1 hR hI (.cons (inR_i64 (n := (i : Int) + (1 : Int)) (by omega)) .nil) fun e12 a12 w12 hag hR hI => ?_
  replace hA := hA.trans hag (by decide)
  refine then_n ?_
  replace hf0 := tf hA hf0
  replace hg0 := tg hA hg0
  exact ⟨(i + 1, rs ++ [l], h), e12, ⟨⟨hf0, hg0⟩, ⟨by omega, by rw [List.length_append, hrl]; rfl, ndig_snoc hrd hlb, hhb, mav_step hrl hv he⟩⟩, by (try dsimp only); omega, hR.sel [] [0] (by kernel_rfl) (by kernel_rfl), hI.sel [0, 1, 2, 8, 18, 19] (by kernel_rfl)⟩
 ·
  replace hI := hI.rb 20 hc7
  try simp only [tolds] at hc7
  refine wp_exit ?_
  refine exit_then ?_
  refine exit_then ?_
  refine exit_hit ?_
  refine then_n ?_
  refine wp_ret (oN tab [vU cc] hR hI ?_)
  replace hf0 := tf hA hf0
  replace hg0 := tg hA hg0
  obtain rfl : i = xs.length := by omega
  exact ⟨rs, cc, rfl, hB.fin hR, (hR.rowFin (y := ⟨0, 102, 1, N, (ints .u64 (put zs oz rs))⟩) m0 hf0 rfl hg0), hrl, hrd, hcc, by rw [hv, List.take_length]⟩

theorem subVV_g_spec {C : Nat → Prop} {w : World} {g N oz c : Nat} {zs ys : List Nat} {ad : Option Addr} {yc : Nat} (hz : w.heap[g]? = some (.cells (ints .u64 zs).toArray 102)) (hzl : zs.length = N) (hzm : N ≤ 9223372036854775807) (hCg : ¬ C g) (hzd : Ndig zs) (hy : Sl .u64 18446744073709551616 C w ad yc ys) (hfit : oz + ys.length ≤ N) :
    Calls P 141 #[.slice (some ⟨g, oz, none⟩) ys.length c, .slice (some ⟨g, oz, none⟩) ys.length c, .slice ad ys.length yc] w fun ex w' => ∃ (rs : List Nat) (co : Nat), ex = .returned (.int .u64 (co : Int)) ∧ Keep (ButN [g] w) w w' ∧ w'.heap[g]? = some (.cells (ints .u64 (put zs oz rs)).toArray 102) ∧ rs.length = ys.length ∧ Ndig rs ∧ co ≤ 1 ∧ nval rs + nval ys = nval (seg zs oz ys.length) + pn ys.length * co := by
 refine doorN (e := (e0.addR 0 (.slice (some ⟨g, 0, none⟩) N N))) (vs := [.rsl 0 oz ys.length c, .rsl 0 oz ys.length c, vS ad ys.length yc]) (n := 47) (m := 3) Tryz.func141 rfl rfl rfl (by decide) fun a_ hI => ?_
 replace hI : Is 47 [] (e0.addR 0 (.slice (some ⟨g, 0, none⟩) N N)) [(0, .rsl 0 oz ys.length c), (1, .rsl 0 oz ys.length c), (2, vS ad ys.length yc)] a_ := hI
 have hf0 : Full (e0.addR 0 (.slice (some ⟨g, 0, none⟩) N N)) 0 N := rfl; have hg0 : headOf ((e0.addR 0 (.slice (some ⟨g, 0, none⟩) N N)).r 0) = g := rfl
 have hR : Rel (ButN [g] w) w (e0.addR 0 (.slice (some ⟨g, 0, none⟩) N N)) [] [⟨0, 102, 1, N, (ints .u64 zs)⟩] w := Rel.startN (fun k_ h_ => h_.1) all_no (all_cons ⟨ownsRow_fullN hz (by first | exact hzl | (rw [ints_length]; exact hzl)) hzm, fun g_ he_ => by cases he_; exact (fun hm_ => hm_.2 m0)⟩ all_no) all_no all_no (all_cons (all_cons (fun hn_ => absurd rfl hn_) all_no) all_no)
 have hB : BaseD (ButN [g] w) C w C (ButN [g] w) w := BaseD.start (fun k_ hC_ hlt_ => ⟨hlt_, notin2 (fun he_ => hCg (he_ ▸ hC_)) (fun hm_ => by cases hm_)⟩)
 have hry := hy.room; have hmy := hy.max
 refine rZ tab 1 [(6, .v (.int .u64 0))] [0, 1, 2] hR hI fun e1 a1 w1 hag hR hI => ?_
 have hA := hag
 refine wp_seq ?_
 refine rK tab 1 [(4, .eq (.bool false)), (10, .eq (.bool false))] [] [(21, vB false)] [6, 0, 1, 2] [] [] [] [0] 1 hR hI (.cons (congrArg Value.bool (bne_self_eq_false _ : ((ys.length : Int) != (ys.length : Int)) = false)) (.cons (congrArg Value.bool (bne_self_eq_false _ : ((ys.length : Int) != (ys.length : Int)) = false)) .nil)) fun e2 a2 w2 hag hR hI => ?_
 replace hA := hA.trans hag (by decide)
 refine cnd_f hI (by kernel_rfl) ?_
 refine wp_skip ?_
 refine then_n ?_
 refine wp_seq ?_
 refine rZ tab 1 [(25, .v (.int .i64 0)), (24, vI ys.length)] [6, 0, 1, 2] hR hI fun e3 a3 w3 hag hR hI => ?_
 replace hA := hA.trans hag (by decide)
 refine wp_block ?_
 rw [(put_nil.symm : zs = put zs oz [])] at hR
 replace hf0 := tf hA hf0
 replace hg0 := tg hA hg0
 refine lp (γ := Nat × List Nat × Nat) (fun (i, rs, b) => (⟨[(0, .rsl 0 oz ys.length c), (1, .rsl 0 oz ys.length c), (2, vS ad ys.length yc), (6, vU b), (24, vI ys.length), (25, vI i)], [], [⟨0, 102, 1, N, (ints .u64 (put zs oz rs))⟩], 1⟩ : Sy)) (fun (i, rs, b) e => ((Full e 0 N) ∧ (headOf (e.r 0) = g)) ∧ (i ≤ ys.length ∧ rs.length = i ∧ Ndig rs ∧ b ≤ 1 ∧ nval rs + nval (ys.take i) = nval (seg zs oz i) + pn i * b)) (fun (i, rs, b) => ys.length - i) (0, [], 0) (⟨⟨hf0, hg0⟩, ⟨by omega, rfl, (fun d h => by cases h), by omega, by simp [nval, pn]⟩⟩)
   (hR.sel [] [0] (by kernel_rfl) (by kernel_rfl)) (hI.sel [0, 1, 2, 6, 24, 25] (by kernel_rfl)) ?_
 clear hR hI
 rintro ⟨i, rs, b⟩ e4 a4 w4 hp hR hI
 dsimp only at hp hR hI
 obtain ⟨⟨hf0, hg0⟩, hp⟩ := hp
 obtain ⟨hi, hrl, hrd, hb, hv⟩ := hp
 have hpl : (put zs oz rs).length = N := by rw [put_length (by omega)]; exact hzl
 refine rZ tab 1 [(26, vB (decide ((i : Int) < (ys.length : Int))))] [0, 1, 2, 6, 24, 25] hR hI fun e5 a5 w5 hag hR hI => ?_
 have hA := hag
 refine wp_seq ?_
 refine cnd (b := decide ((i : Int) < (ys.length : Int))) hI (by kernel_rfl) (fun hc6 => ?_) (fun hc6 => ?_)
 ·
  replace hI := hI.rb 26 hc6
  try simp only [tolds] at hc6
  refine wp_skip ?_
  refine then_n ?_
  refine wp_seq ?_
  refine wp_block ?_
  refine rZ tab 1 [(7, vI i)] [0, 1, 2, 6, 24, 25] hR hI fun e7 a7 w7 hag hR hI => ?_
  replace hA := hA.trans hag (by decide)
  refine wp_seq ?_
  refine regL 14 hR (by kernel_rfl) (fun hS => ?_)
  replace hR := hR.drew; have hF := hR.fore
  refine lK tab [(3, .val (vU ((put zs oz rs).getD (oz + i) 0))), (7, .val (vU (ys.getD i 0)))] [] [0, 1, 2, 3, 4, 5, 6, 7, 8] 6 [(37, vU b), (36, vU (ys.getD i 0)), (32, vU ((put zs oz rs).getD (oz + i) 0))] [7, 0, 1, 2, 24, 25] hS hI (.cons (by omega : (0 : Int) ≤ (i : Int) ∧ (i : Int) < (ys.length : Int)) (.cons (ints_get (k := .u64) (xs := (put zs oz rs)) (i := oz + i) (by omega)) (.cons (by omega : oz + i < N * 1) (.cons (by omega : (0 : Int) ≤ (i : Int) ∧ (i : Int) < (ys.length : Int)) (.cons (nats_some (i := i) (hy.cells.mono hB.cls) (by omega)) (.cons (nats_load (i := i) (m := 1) (hy.cells.mono hB.cls) (by omega)) .nil)))))) fun a8 hI => ?_
  refine oneL (i := 9) (f' := 5) (by kernel_rfl) (by rfl) ?_
  refine cH [vU ((put zs oz rs).getD (oz + i) 0), vU (ys.getD i 0), vU b] hI Tryz.func142 ?_
  have hxi : (put zs oz rs).getD (oz + i) 0 = zs.getD (oz + i) 0 := put_getD_ge (by omega) (by omega)
  rw [hxi]
  refine (sub_spec (C := C) (x := zs.getD (oz + i) 0) (y := ys.getD i 0) (c := b) (ndig_get hzd _) (ndig_get hy.dig i) hb).mono ?_
  rintro ex w9 ⟨z, b2, rfl, hk, hs, hzb, hb2⟩
  replace hS := hS.same hk; replace hR := hR.same hk; clear hk
  refine ⟨_, rfl, hS, ?_⟩
  replace hI := hI.pt 38 (.v (.tuple #[.int .u64 (z : Int), .int .u64 (b2 : Int)])) [38, 37, 36, 32, 7, 0, 1, 2, 24, 25]
  refine lK tab [] [] [10, 11, 12, 13] 1 [(8, vU z), (40, vU b2)] [7, 0, 1, 2, 24, 25] hS hI .nil fun a10 hI => ?_
  refine endL (i := 14) (f' := 0) (by kernel_rfl) (by rfl) (by kernel_rfl) ?_
  refine quietL tab (hh := .no) (x := vU b2) hR hI rfl rfl rfl (by kernel_rfl) .nil (fun a11 hI => ?_)
  replace hI := hI.sl [9, 8, 40, 7, 0, 1, 2, 24, 25] rfl
  refine doneL (by kernel_rfl) ?_
  refine then_n ?_
  replace hI := hI.sl [9, 8, 7, 0, 1, 2, 24, 25] rfl; replace hR := hR.sel [] [0] rfl rfl
  refine rK tab 1 [] [] [] [9, 0, 1, 2, 24, 25] [] [] [⟨0, 102, 1, N, ((ints .u64 (put zs oz rs)).set (oz + i) (.int .u64 (z : Int)))⟩] [] 1 hR hI (.cons (by omega : (0 : Int) ≤ (i : Int) ∧ (i : Int) < (ys.length : Int)) (.cons (by omega : oz + i < N * 1) .nil)) fun e12 a12 w12 hag hR hI => ?_
  replace hA := hA.trans hag (by decide)
  rw [ints_set] at hR
  rw [(by rw [← hrl]; exact put_snoc (by omega) : ((put zs oz rs).set (oz + i) z) = put zs oz (rs ++ [z]))] at hR
  refine aZ tab 1 [(6, vU b2)] [0, 1, 2, 24, 25] hR hI fun e13 a13 w13 hag hR hI => ?_
  replace hA := hA.trans hag (by decide)
  refine normal_block ?_
  refine then_n ?_
  refine aK tab 1 [(0, .nw)] [] [(25, vI (i + 1))] [6, 0, 1, 2, 24] [] [] [] [0] 1 hR hI (.cons (inR_i64 (n := (i : Int) + (1 : Int)) (by omega)) .nil) fun e14 a14 w14 hag hR hI => ?_
  replace hA := hA.trans hag (by decide)
  refine then_n ?_
  replace hf0 := tf hA hf0
  replace hg0 := tg hA hg0
  exact ⟨(i + 1, rs ++ [z], b2), e14, ⟨⟨hf0, hg0⟩, ⟨by omega, by rw [List.length_append, hrl]; rfl, ndig_snoc hrd hzb, hb2, sub_vstep hrl hv hs⟩⟩, by (try dsimp only); omega, hR.sel [] [0] (by kernel_rfl) (by kernel_rfl), hI.sel [0, 1, 2, 6, 24, 25] (by kernel_rfl)⟩
 ·
  replace hI := hI.rb 26 hc6
  try simp only [tolds] at hc6
  refine wp_exit ?_
  refine exit_then ?_
  refine exit_then ?_
  refine exit_hit ?_
  refine then_n ?_
  refine wp_ret (oN tab [vU b] hR hI ?_)
  replace hf0 := tf hA hf0
  replace hg0 := tg hA hg0
  obtain rfl : i = ys.length := by omega
  rw [List.take_length] at hv
  exact ⟨rs, b, rfl, hB.fin hR, (hR.rowFin (y := ⟨0, 102, 1, N, (ints .u64 (put zs oz rs))⟩) m0 hf0 rfl hg0), hrl, hrd, hb, hv⟩

theorem addVV_g_spec {C : Nat → Prop} {w : World} {g N oz c : Nat} {zs ys : List Nat} {ad : Option Addr} {yc : Nat} (hz : w.heap[g]? = some (.cells (ints .u64 zs).toArray 102)) (hzl : zs.length = N) (hzm : N ≤ 9223372036854775807) (hCg : ¬ C g) (hzd : Ndig zs) (hy : Sl .u64 18446744073709551616 C w ad yc ys) (hfit : oz + ys.length ≤ N) :
    Calls P 148 #[.slice (some ⟨g, oz, none⟩) ys.length c, .slice (some ⟨g, oz, none⟩) ys.length c, .slice ad ys.length yc] w fun ex w' => ∃ (rs : List Nat) (co : Nat), ex = .returned (.int .u64 (co : Int)) ∧ Keep (ButN [g] w) w w' ∧ w'.heap[g]? = some (.cells (ints .u64 (put zs oz rs)).toArray 102) ∧ rs.length = ys.length ∧ Ndig rs ∧ co ≤ 1 ∧ nval rs + pn ys.length * co = nval (seg zs oz ys.length) + nval ys := by
 refine doorN (e := (e0.addR 0 (.slice (some ⟨g, 0, none⟩) N N))) (vs := [.rsl 0 oz ys.length c, .rsl 0 oz ys.length c, vS ad ys.length yc]) (n := 47) (m := 3) Tryz.func148 rfl rfl rfl (by decide) fun a_ hI => ?_
 replace hI : Is 47 [] (e0.addR 0 (.slice (some ⟨g, 0, none⟩) N N)) [(0, .rsl 0 oz ys.length c), (1, .rsl 0 oz ys.length c), (2, vS ad ys.length yc)] a_ := hI
 have hf0 : Full (e0.addR 0 (.slice (some ⟨g, 0, none⟩) N N)) 0 N := rfl; have hg0 : headOf ((e0.addR 0 (.slice (some ⟨g, 0, none⟩) N N)).r 0) = g := rfl
 have hR : Rel (ButN [g] w) w (e0.addR 0 (.slice (some ⟨g, 0, none⟩) N N)) [] [⟨0, 102, 1, N, (ints .u64 zs)⟩] w := Rel.startN (fun k_ h_ => h_.1) all_no (all_cons ⟨ownsRow_fullN hz (by first | exact hzl | (rw [ints_length]; exact hzl)) hzm, fun g_ he_ => by cases he_; exact (fun hm_ => hm_.2 m0)⟩ all_no) all_no all_no (all_cons (all_cons (fun hn_ => absurd rfl hn_) all_no) all_no)
 have hB : BaseD (ButN [g] w) C w C (ButN [g] w) w := BaseD.start (fun k_ hC_ hlt_ => ⟨hlt_, notin2 (fun he_ => hCg (he_ ▸ hC_)) (fun hm_ => by cases hm_)⟩)
 have hry := hy.room; have hmy := hy.max
 refine rZ tab 1 [(6, .v (.int .u64 0))] [0, 1, 2] hR hI fun e1 a1 w1 hag hR hI => ?_
 have hA := hag
 refine wp_seq ?_
 refine rK tab 1 [(4, .eq (.bool false)), (10, .eq (.bool false))] [] [(21, vB false)] [6, 0, 1, 2] [] [] [] [0] 1 hR hI (.cons (congrArg Value.bool (bne_self_eq_false _ : ((ys.length : Int) != (ys.length : Int)) = false)) (.cons (congrArg Value.bool (bne_self_eq_false _ : ((ys.length : Int) != (ys.length : Int)) = false)) .nil)) fun e2 a2 w2 hag hR hI => ?_
 replace hA := hA.trans hag (by decide)
 refine cnd_f hI (by kernel_rfl) ?_
 refine wp_skip ?_
 refine then_n ?_
 refine wp_seq ?_
 refine rZ tab 1 [(25, .v (.int .i64 0)), (24, vI ys.length)] [6, 0, 1, 2] hR hI fun e3 a3 w3 hag hR hI => ?_
 replace hA := hA.trans hag (by decide)
 refine wp_block ?_
 rw [(put_nil.symm : zs = put zs oz [])] at hR
 replace hf0 := tf hA hf0
 replace hg0 := tg hA hg0
 refine lp (γ := Nat × List Nat × Nat) (fun (i, rs, b) => (⟨[(0, .rsl 0 oz ys.length c), (1, .rsl 0 oz ys.length c), (2, vS ad ys.length yc), (6, vU b), (24, vI ys.length), (25, vI i)], [], [⟨0, 102, 1, N, (ints .u64 (put zs oz rs))⟩], 1⟩ : Sy)) (fun (i, rs, b) e => ((Full e 0 N) ∧ (headOf (e.r 0) = g)) ∧ (i ≤ ys.length ∧ rs.length = i ∧ Ndig rs ∧ b ≤ 1 ∧ nval rs + pn i * b = nval (seg zs oz i) + nval (ys.take i))) (fun (i, rs, b) => ys.length - i) (0, [], 0) (⟨⟨hf0, hg0⟩, ⟨by omega, rfl, (fun d h => by cases h), by omega, by simp [nval, pn]⟩⟩)
   (hR.sel [] [0] (by kernel_rfl) (by kernel_rfl)) (hI.sel [0, 1, 2, 6, 24, 25] (by kernel_rfl)) ?_
 clear hR hI
 rintro ⟨i, rs, b⟩ e4 a4 w4 hp hR hI
 dsimp only at hp hR hI
 obtain ⟨⟨hf0, hg0⟩, hp⟩ := hp
 obtain ⟨hi, hrl, hrd, hb, hv⟩ := hp
 have hpl : (put zs oz rs).length = N := by rw [put_length (by omega)]; exact hzl
 refine rZ tab 1 [(26, vB (decide ((i : Int) < (ys.length : Int))))] [0, 1, 2, 6, 24, 25] hR hI fun e5 a5 w5 hag hR hI => ?_
 have hA := hag
 refine wp_seq ?_
 refine cnd (b := decide ((i : Int) < (ys.length : Int))) hI (by kernel_rfl) (fun hc6 => ?_) (fun hc6 => ?_)
 ·
  replace hI := hI.rb 26 hc6
  try simp only [tolds] at hc6
  refine wp_skip ?_
  refine then_n ?_
  refine wp_seq ?_
  refine wp_block ?_
  refine rZ tab 1 [(7, vI i)] [0, 1, 2, 6, 24, 25] hR hI fun e7 a7 w7 hag hR hI => ?_
  replace hA := hA.trans hag (by decide)
  refine wp_seq ?_
  refine regL 14 hR (by kernel_rfl) (fun hS => ?_)
  replace hR := hR.drew; have hF := hR.fore
  refine lK tab [(3, .val (vU ((put zs oz rs).getD (oz + i) 0))), (7, .val (vU (ys.getD i 0)))] [] [0, 1, 2, 3, 4, 5, 6, 7, 8] 6 [(37, vU b), (36, vU (ys.getD i 0)), (32, vU ((put zs oz rs).getD (oz + i) 0))] [7, 0, 1, 2, 24, 25] hS hI (.cons (by omega : (0 : Int) ≤ (i : Int) ∧ (i : Int) < (ys.length : Int)) (.cons (ints_get (k := .u64) (xs := (put zs oz rs)) (i := oz + i) (by omega)) (.cons (by omega : oz + i < N * 1) (.cons (by omega : (0 : Int) ≤ (i : Int) ∧ (i : Int) < (ys.length : Int)) (.cons (nats_some (i := i) (hy.cells.mono hB.cls) (by omega)) (.cons (nats_load (i := i) (m := 1) (hy.cells.mono hB.cls) (by omega)) .nil)))))) fun a8 hI => ?_
  refine oneL (i := 9) (f' := 5) (by kernel_rfl) (by rfl) ?_
  refine cH [vU ((put zs oz rs).getD (oz + i) 0), vU (ys.getD i 0), vU b] hI Tryz.func145 ?_
  have hxi : (put zs oz rs).getD (oz + i) 0 = zs.getD (oz + i) 0 := put_getD_ge (by omega) (by omega)
  rw [hxi]
  refine (add_spec (C := C) (x := zs.getD (oz + i) 0) (y := ys.getD i 0) (c := b) (ndig_get hzd _) (ndig_get hy.dig i) hb).mono ?_
  rintro ex w9 ⟨z, b2, rfl, hk, hs, hzb, hb2⟩
  replace hS := hS.same hk; replace hR := hR.same hk; clear hk
  refine ⟨_, rfl, hS, ?_⟩
  replace hI := hI.pt 38 (.v (.tuple #[.int .u64 (z : Int), .int .u64 (b2 : Int)])) [38, 37, 36, 32, 7, 0, 1, 2, 24, 25]
  refine lK tab [] [] [10, 11, 12, 13] 1 [(8, vU z), (40, vU b2)] [7, 0, 1, 2, 24, 25] hS hI .nil fun a10 hI => ?_
  refine endL (i := 14) (f' := 0) (by kernel_rfl) (by rfl) (by kernel_rfl) ?_
  refine quietL tab (hh := .no) (x := vU b2) hR hI rfl rfl rfl (by kernel_rfl) .nil (fun a11 hI => ?_)
  replace hI := hI.sl [9, 8, 40, 7, 0, 1, 2, 24, 25] rfl
  refine doneL (by kernel_rfl) ?_
  refine then_n ?_
  replace hI := hI.sl [9, 8, 7, 0, 1, 2, 24, 25] rfl; replace hR := hR.sel [] [0] rfl rfl
  refine rK tab 1 [] [] [] [9, 0, 1, 2, 24, 25] [] [] [⟨0, 102, 1, N, ((ints .u64 (put zs oz rs)).set (oz + i) (.int .u64 (z : Int)))⟩] [] 1 hR hI (.cons (by omega : (0 : Int) ≤ (i : Int) ∧ (i : Int) < (ys.length : Int)) (.cons (by omega : oz + i < N * 1) .nil)) fun e12 a12 w12 hag hR hI => ?_
  replace hA := hA.trans hag (by decide)
  rw [ints_set] at hR
  rw [(by rw [← hrl]; exact put_snoc (by omega) : ((put zs oz rs).set (oz + i) z) = put zs oz (rs ++ [z]))] at hR
  refine aZ tab 1 [(6, vU b2)] [0, 1, 2, 24, 25] hR hI fun e13 a13 w13 hag hR hI => ?_
  replace hA := hA.trans hag (by decide)
  refine normal_block ?_
  refine then_n ?_
  refine aK tab 1 [(0, .nw)] [] [(25, vI (i + 1))] [6, 0, 1, 2, 24] [] [] [] [0] 1 hR hI (.cons (inR_i64 (n := (i : Int) + (1 : Int)) (by omega)) .nil) fun e14 a14 w14 hag hR hI => ?_
  replace hA := hA.trans hag (by decide)
  refine then_n ?_
  replace hf0 := tf hA hf0
  replace hg0 := tg hA hg0
  exact ⟨(i + 1, rs ++ [z], b2), e14, ⟨⟨hf0, hg0⟩, ⟨by omega, by rw [List.length_append, hrl]; rfl, ndig_snoc hrd hzb, hb2, add_vstep hrl hv hs⟩⟩, by (try dsimp only); omega, hR.sel [] [0] (by kernel_rfl) (by kernel_rfl), hI.sel [0, 1, 2, 6, 24, 25] (by kernel_rfl)⟩
 ·
  replace hI := hI.rb 26 hc6
  try simp only [tolds] at hc6
  refine wp_exit ?_
  refine exit_then ?_
  refine exit_then ?_
  refine exit_hit ?_
  refine then_n ?_
  refine wp_ret (oN tab [vU b] hR hI ?_)
  replace hf0 := tf hA hf0
  replace hg0 := tg hA hg0
  obtain rfl : i = ys.length := by omega
  rw [List.take_length] at hv
  exact ⟨rs, b, rfl, hB.fin hR, (hR.rowFin (y := ⟨0, 102, 1, N, (ints .u64 (put zs oz rs))⟩) m0 hf0 rfl hg0), hrl, hrd, hb, hv⟩

theorem subVV_spec {C : Nat → Prop} {w : World} {g N oz c : Nat} {zs ys : List Nat} {ad : Option Addr} {yc : Nat} (hz : w.heap[g]? = some (.cells (ints .u64 zs).toArray 102)) (hzl : zs.length = N) (hzm : N ≤ 9223372036854775807) (hCg : ¬ C g) (hzd : Ndig zs) (hy : Sl .u64 18446744073709551616 C w ad yc ys) (hfit : oz + ys.length ≤ N) :
    Calls P 103 #[.slice (some ⟨g, oz, none⟩) ys.length c, .slice (some ⟨g, oz, none⟩) ys.length c, .slice ad ys.length yc] w fun ex w' => ∃ (rs : List Nat) (co : Nat), ex = .returned (.int .u64 (co : Int)) ∧ Keep (ButN [g] w) w w' ∧ w'.heap[g]? = some (.cells (ints .u64 (put zs oz rs)).toArray 102) ∧ rs.length = ys.length ∧ Ndig rs ∧ co ≤ 1 ∧ nval rs + nval ys = nval (seg zs oz ys.length) + pn ys.length * co := by
 refine doorN (e := (e0.addR 0 (.slice (some ⟨g, 0, none⟩) N N))) (vs := [.rsl 0 oz ys.length c, .rsl 0 oz ys.length c, vS ad ys.length yc]) (n := 11) (m := 3) Tryz.func103 rfl rfl rfl (by decide) fun a_ hI => ?_
 replace hI : Is 11 [] (e0.addR 0 (.slice (some ⟨g, 0, none⟩) N N)) [(0, .rsl 0 oz ys.length c), (1, .rsl 0 oz ys.length c), (2, vS ad ys.length yc)] a_ := hI
 have hf0 : Full (e0.addR 0 (.slice (some ⟨g, 0, none⟩) N N)) 0 N := rfl; have hg0 : headOf ((e0.addR 0 (.slice (some ⟨g, 0, none⟩) N N)).r 0) = g := rfl
 have hR : Rel (ButN [g] w) w (e0.addR 0 (.slice (some ⟨g, 0, none⟩) N N)) [] [⟨0, 102, 1, N, (ints .u64 zs)⟩] w := Rel.startN (fun k_ h_ => h_.1) all_no (all_cons ⟨ownsRow_fullN hz (by first | exact hzl | (rw [ints_length]; exact hzl)) hzm, fun g_ he_ => by cases he_; exact (fun hm_ => hm_.2 m0)⟩ all_no) all_no all_no (all_cons (all_cons (fun hn_ => absurd rfl hn_) all_no) all_no)
 have hB : BaseD (ButN [g] w) C w C (ButN [g] w) w := BaseD.start (fun k_ hC_ hlt_ => ⟨hlt_, notin2 (fun he_ => hCg (he_ ▸ hC_)) (fun hm_ => by cases hm_)⟩)
 refine rZ tab 1 [] [0, 1, 2] hR hI fun e1 a1 w1 hag hR hI => ?_
 have hA := hag
 refine wp_seq (reg (is := [0, 1, 2, 3, 4]) (by kernel_rfl) ?_)
 refine pZ tab [0, 1, 2] [3, 4] 1 [(9, vS ad ys.length yc), (8, .rsl 0 oz ys.length c), (7, .rsl 0 oz ys.length c)] [] hR hI fun e2 a2 w2 hag hR hI => ?_
 replace hA := hA.trans hag (by decide)
 refine cO [.rsl 0 oz ys.length c, .rsl 0 oz ys.length c, vS ad ys.length yc] hI Tryz.func141 ?_
 replace hf0 := tf hA hf0
 replace hg0 := tg hA hg0
 have hq0_ := hR.rowCells (y := ⟨0, 102, 1, N, (ints .u64 zs)⟩) m0 hf0 rfl
 refine (subVV_g_spec (C := Now hB) (oz := oz) (c := c) hq0_.1 hzl hzm (fun h_ => hq0_.2 h_.2) hzd (hy.now hB hR) hfit).mono ?_
 rintro ex w3 ⟨rs, co, rfl, hk, hw0, hrl, hrd, hco, hv⟩
 have hkF_ := hR.keepN hk (all_cons hq0_.2 all_no)
 have hR_ : Rel (Grow _ _ w3) w3 e2 [] [⟨0, 102, 1, N, (ints .u64 (put zs oz rs))⟩] w3 := hR.turnedN hk (all_cons hq0_.2 all_no) all_no (all_cons ⟨⟨_, m0, rfl⟩, .inr (by have hl_ := hR.rowLen (y := ⟨0, 102, 1, N, (ints .u64 zs)⟩) m0; dsimp only at hl_; rw [show e2.r 0 = _ from hf0]; exact ownsRow_fullN hw0 (by rw [ints_length, put_length (by omega)]; exact hzl) (hzm))⟩ all_no)
 replace hy := hy.nextF hB hR hkF_
 have hB_ := hB.nextF hR hkF_
 replace hR := hR_; clear hR_
 replace hB := hB_; clear hB_ hk hkF_ hq0_ hw0
 refine ⟨_, rfl, ?_⟩
 replace hI := hI.pt 10 (vU co) [10, 9, 8, 7]
 refine pZ tab [4] [] 1 [(6, vU co)] [] hR hI fun e4 a4 w4 hag hR hI => ?_
 have hA := hag
 refine ops_nil (then_n ?_)
 refine wp_ret (oN tab [vU co] hR hI ?_)
 replace hf0 := tf hA hf0
 replace hg0 := tg hA hg0
 exact ⟨rs, co, rfl, hB.fin hR, (hR.rowFin (y := ⟨0, 102, 1, N, (ints .u64 (put zs oz rs))⟩) m0 hf0 rfl hg0), hrl, hrd, hco, hv⟩

theorem addVV_spec {C : Nat → Prop} {w : World} {g N oz c : Nat} {zs ys : List Nat} {ad : Option Addr} {yc : Nat} (hz : w.heap[g]? = some (.cells (ints .u64 zs).toArray 102)) (hzl : zs.length = N) (hzm : N ≤ 9223372036854775807) (hCg : ¬ C g) (hzd : Ndig zs) (hy : Sl .u64 18446744073709551616 C w ad yc ys) (hfit : oz + ys.length ≤ N) :
    Calls P 117 #[.slice (some ⟨g, oz, none⟩) ys.length c, .slice (some ⟨g, oz, none⟩) ys.length c, .slice ad ys.length yc] w fun ex w' => ∃ (rs : List Nat) (co : Nat), ex = .returned (.int .u64 (co : Int)) ∧ Keep (ButN [g] w) w w' ∧ w'.heap[g]? = some (.cells (ints .u64 (put zs oz rs)).toArray 102) ∧ rs.length = ys.length ∧ Ndig rs ∧ co ≤ 1 ∧ nval rs + pn ys.length * co = nval (seg zs oz ys.length) + nval ys := by
 refine doorN (e := (e0.addR 0 (.slice (some ⟨g, 0, none⟩) N N))) (vs := [.rsl 0 oz ys.length c, .rsl 0 oz ys.length c, vS ad ys.length yc]) (n := 11) (m := 3) Tryz.func117 rfl rfl rfl (by decide) fun a_ hI => ?_
 replace hI : Is 11 [] (e0.addR 0 (.slice (some ⟨g, 0, none⟩) N N)) [(0, .rsl 0 oz ys.length c), (1, .rsl 0 oz ys.length c), (2, vS ad ys.length yc)] a_ := hI
 have hf0 : Full (e0.addR 0 (.slice (some ⟨g, 0, none⟩) N N)) 0 N := rfl; have hg0 : headOf ((e0.addR 0 (.slice (some ⟨g, 0, none⟩) N N)).r 0) = g := rfl
 have hR : Rel (ButN [g] w) w (e0.addR 0 (.slice (some ⟨g, 0, none⟩) N N)) [] [⟨0, 102, 1, N, (ints .u64 zs)⟩] w := Rel.startN (fun k_ h_ => h_.1) all_no (all_cons ⟨ownsRow_fullN hz (by first | exact hzl | (rw [ints_length]; exact hzl)) hzm, fun g_ he_ => by cases he_; exact (fun hm_ => hm_.2 m0)⟩ all_no) all_no all_no (all_cons (all_cons (fun hn_ => absurd rfl hn_) all_no) all_no)
 have hB : BaseD (ButN [g] w) C w C (ButN [g] w) w := BaseD.start (fun k_ hC_ hlt_ => ⟨hlt_, notin2 (fun he_ => hCg (he_ ▸ hC_)) (fun hm_ => by cases hm_)⟩)
 refine rZ tab 1 [] [0, 1, 2] hR hI fun e1 a1 w1 hag hR hI => ?_
 have hA := hag
 refine wp_seq (reg (is := [0, 1, 2, 3, 4]) (by kernel_rfl) ?_)
 refine pZ tab [0, 1, 2] [3, 4] 1 [(9, vS ad ys.length yc), (8, .rsl 0 oz ys.length c), (7, .rsl 0 oz ys.length c)] [] hR hI fun e2 a2 w2 hag hR hI => ?_
 replace hA := hA.trans hag (by decide)
 refine cO [.rsl 0 oz ys.length c, .rsl 0 oz ys.length c, vS ad ys.length yc] hI Tryz.func148 ?_
 replace hf0 := tf hA hf0
 replace hg0 := tg hA hg0
 have hq0_ := hR.rowCells (y := ⟨0, 102, 1, N, (ints .u64 zs)⟩) m0 hf0 rfl
 refine (addVV_g_spec (C := Now hB) (oz := oz) (c := c) hq0_.1 hzl hzm (fun h_ => hq0_.2 h_.2) hzd (hy.now hB hR) hfit).mono ?_
 rintro ex w3 ⟨rs, co, rfl, hk, hw0, hrl, hrd, hco, hv⟩
 have hkF_ := hR.keepN hk (all_cons hq0_.2 all_no)
 have hR_ : Rel (Grow _ _ w3) w3 e2 [] [⟨0, 102, 1, N, (ints .u64 (put zs oz rs))⟩] w3 := hR.turnedN hk (all_cons hq0_.2 all_no) all_no (all_cons ⟨⟨_, m0, rfl⟩, .inr (by have hl_ := hR.rowLen (y := ⟨0, 102, 1, N, (ints .u64 zs)⟩) m0; dsimp only at hl_; rw [show e2.r 0 = _ from hf0]; exact ownsRow_fullN hw0 (by rw [ints_length, put_length (by omega)]; exact hzl) (hzm))⟩ all_no)
 replace hy := hy.nextF hB hR hkF_
 have hB_ := hB.nextF hR hkF_
 replace hR := hR_; clear hR_
 replace hB := hB_; clear hB_ hk hkF_ hq0_ hw0
 refine ⟨_, rfl, ?_⟩
 replace hI := hI.pt 10 (vU co) [10, 9, 8, 7]
 refine pZ tab [4] [] 1 [(6, vU co)] [] hR hI fun e4 a4 w4 hag hR hI => ?_
 have hA := hag
 refine ops_nil (then_n ?_)
 refine wp_ret (oN tab [vU co] hR hI ?_)
 replace hf0 := tf hA hf0
 replace hg0 := tg hA hg0
 exact ⟨rs, co, rfl, hB.fin hR, (hR.rowFin (y := ⟨0, 102, 1, N, (ints .u64 (put zs oz rs))⟩) m0 hf0 rfl hg0), hrl, hrd, hco, hv⟩

theorem mulAddVWW_spec {C : Nat → Prop} {w : World} {g N oz c : Nat} {zs xs : List Nat} {ad : Option Addr} {xc y r : Nat} (hz : w.heap[g]? = some (.cells (ints .u64 zs).toArray 102)) (hzl : zs.length = N) (hzm : N ≤ 9223372036854775807) (hCg : ¬ C g) (hx : Sl .u64 18446744073709551616 C w ad xc xs) (hfit : oz + xs.length ≤ N) (hy : y < 18446744073709551616) (hr : r < 18446744073709551616) :
    Calls P 116 #[.slice (some ⟨g, oz, none⟩) xs.length c, .slice ad xs.length xc, .int .u64 (y : Int), .int .u64 (r : Int)] w fun ex w' => ∃ (rs : List Nat) (co : Nat), ex = .returned (.int .u64 (co : Int)) ∧ Keep (ButN [g] w) w w' ∧ w'.heap[g]? = some (.cells (ints .u64 (put zs oz rs)).toArray 102) ∧ rs.length = xs.length ∧ Ndig rs ∧ co < 18446744073709551616 ∧ nval rs + pn xs.length * co = nval xs * y + r := by
 refine doorN (e := (e0.addR 0 (.slice (some ⟨g, 0, none⟩) N N))) (vs := [.rsl 0 oz xs.length c, vS ad xs.length xc, vU y, vU r]) (n := 14) (m := 4) Tryz.func116 rfl rfl rfl (by decide) fun a_ hI => ?_
 replace hI : Is 14 [] (e0.addR 0 (.slice (some ⟨g, 0, none⟩) N N)) [(0, .rsl 0 oz xs.length c), (1, vS ad xs.length xc), (2, vU y), (3, vU r)] a_ := hI
 have hf0 : Full (e0.addR 0 (.slice (some ⟨g, 0, none⟩) N N)) 0 N := rfl; have hg0 : headOf ((e0.addR 0 (.slice (some ⟨g, 0, none⟩) N N)).r 0) = g := rfl
 have hR : Rel (ButN [g] w) w (e0.addR 0 (.slice (some ⟨g, 0, none⟩) N N)) [] [⟨0, 102, 1, N, (ints .u64 zs)⟩] w := Rel.startN (fun k_ h_ => h_.1) all_no (all_cons ⟨ownsRow_fullN hz (by first | exact hzl | (rw [ints_length]; exact hzl)) hzm, fun g_ he_ => by cases he_; exact (fun hm_ => hm_.2 m0)⟩ all_no) all_no all_no (all_cons (all_cons (fun hn_ => absurd rfl hn_) all_no) all_no)
 have hB : BaseD (ButN [g] w) C w C (ButN [g] w) w := BaseD.start (fun k_ hC_ hlt_ => ⟨hlt_, notin2 (fun he_ => hCg (he_ ▸ hC_)) (fun hm_ => by cases hm_)⟩)
 refine rZ tab 1 [] [0, 1, 2, 3] hR hI fun e1 a1 w1 hag hR hI => ?_
 have hA := hag
 refine wp_seq (reg (is := [0, 1, 2, 3, 4, 5]) (by kernel_rfl) ?_)
 refine pZ tab [0, 1, 2, 3] [4, 5] 1 [(12, vU r), (11, vU y), (10, vS ad xs.length xc), (9, .rsl 0 oz xs.length c)] [] hR hI fun e2 a2 w2 hag hR hI => ?_
 replace hA := hA.trans hag (by decide)
 refine cO [.rsl 0 oz xs.length c, vS ad xs.length xc, vU y, vU r] hI Tryz.func147 ?_
 replace hf0 := tf hA hf0
 replace hg0 := tg hA hg0
 have hq0_ := hR.rowCells (y := ⟨0, 102, 1, N, (ints .u64 zs)⟩) m0 hf0 rfl
 refine (mulAddVWW_g_spec (C := Now hB) (oz := oz) (c := c) hq0_.1 hzl hzm (fun h_ => hq0_.2 h_.2) (hx.now hB hR) hfit hy hr).mono ?_
 rintro ex w3 ⟨rs, co, rfl, hk, hw0, hrl, hrd, hco, hv⟩
 have hkF_ := hR.keepN hk (all_cons hq0_.2 all_no)
 have hR_ : Rel (Grow _ _ w3) w3 e2 [] [⟨0, 102, 1, N, (ints .u64 (put zs oz rs))⟩] w3 := hR.turnedN hk (all_cons hq0_.2 all_no) all_no (all_cons ⟨⟨_, m0, rfl⟩, .inr (by have hl_ := hR.rowLen (y := ⟨0, 102, 1, N, (ints .u64 zs)⟩) m0; dsimp only at hl_; rw [show e2.r 0 = _ from hf0]; exact ownsRow_fullN hw0 (by rw [ints_length, put_length (by omega)]; exact hzl) (hzm))⟩ all_no)
 replace hx := hx.nextF hB hR hkF_
 have hB_ := hB.nextF hR hkF_
 replace hR := hR_; clear hR_
 replace hB := hB_; clear hB_ hk hkF_ hq0_ hw0
 refine ⟨_, rfl, ?_⟩
 replace hI := hI.pt 13 (vU co) [13, 12, 11, 10, 9]
 refine pZ tab [5] [] 1 [(8, vU co)] [] hR hI fun e4 a4 w4 hag hR hI => ?_
 have hA := hag
 refine ops_nil (then_n ?_)
 refine wp_ret (oN tab [vU co] hR hI ?_)
 replace hf0 := tf hA hf0
 replace hg0 := tg hA hg0
 exact ⟨rs, co, rfl, hB.fin hR, (hR.rowFin (y := ⟨0, 102, 1, N, (ints .u64 (put zs oz rs))⟩) m0 hf0 rfl hg0), hrl, hrd, hco, hv⟩

theorem lshVU_g_spec {C : Nat → Prop} {w : World} {g N oz c : Nat} {zs xs : List Nat} {ad : Option Addr} {xc s : Nat} (hz : w.heap[g]? = some (.cells (ints .u64 zs).toArray 102)) (hzl : zs.length = N) (hzm : N ≤ 9223372036854775807) (hCg : ¬ C g) (hx : Sl .u64 18446744073709551616 C w ad xc xs) (hfit : oz + xs.length ≤ N) (hs0 : 0 < s) (hs : s < 64) (hn : 0 < xs.length) :
    Calls P 113 #[.slice (some ⟨g, oz, none⟩) xs.length c, .slice ad xs.length xc, .int .u64 (s : Int)] w fun ex w' => ∃ (rs : List Nat) (co : Nat), ex = .returned (.int .u64 (co : Int)) ∧ Keep (ButN [g] w) w w' ∧ w'.heap[g]? = some (.cells (ints .u64 (put zs oz rs)).toArray 102) ∧ rs.length = xs.length ∧ Ndig rs ∧ co < 2 ^ s ∧ nval rs + pn xs.length * co = nval xs * 2 ^ s := by
 refine doorN (e := (e0.addR 0 (.slice (some ⟨g, 0, none⟩) N N))) (vs := [.rsl 0 oz xs.length c, vS ad xs.length xc, vU s]) (n := 68) (m := 3) Tryz.func113 rfl rfl rfl (by decide) fun a_ hI => ?_
 replace hI : Is 68 [] (e0.addR 0 (.slice (some ⟨g, 0, none⟩) N N)) [(0, .rsl 0 oz xs.length c), (1, vS ad xs.length xc), (2, vU s)] a_ := hI
 have hf0 : Full (e0.addR 0 (.slice (some ⟨g, 0, none⟩) N N)) 0 N := rfl; have hg0 : headOf ((e0.addR 0 (.slice (some ⟨g, 0, none⟩) N N)).r 0) = g := rfl
 have hR : Rel (ButN [g] w) w (e0.addR 0 (.slice (some ⟨g, 0, none⟩) N N)) [] [⟨0, 102, 1, N, (ints .u64 zs)⟩] w := Rel.startN (fun k_ h_ => h_.1) all_no (all_cons ⟨ownsRow_fullN hz (by first | exact hzl | (rw [ints_length]; exact hzl)) hzm, fun g_ he_ => by cases he_; exact (fun hm_ => hm_.2 m0)⟩ all_no) all_no all_no (all_cons (all_cons (fun hn_ => absurd rfl hn_) all_no) all_no)
 have hB : BaseD (ButN [g] w) C w C (ButN [g] w) w := BaseD.start (fun k_ hC_ hlt_ => ⟨hlt_, notin2 (fun he_ => hCg (he_ ▸ hC_)) (fun hm_ => by cases hm_)⟩)
 have hrx := hx.room; have hmx := hx.max
 refine rZ tab 1 [(6, .v (.int .u64 0))] [0, 1, 2] hR hI fun e1 a1 w1 hag hR hI => ?_
 have hA := hag
 refine wp_seq ?_
 refine rK tab 1 [(4, .eq (.bool false))] [] [(13, vB false)] [6, 0, 1, 2] [] [] [] [0] 1 hR hI (.cons (congrArg Value.bool (bne_self_eq_false _ : ((xs.length : Int) != (xs.length : Int)) = false)) .nil) fun e2 a2 w2 hag hR hI => ?_
 replace hA := hA.trans hag (by decide)
 refine cnd_f hI (by kernel_rfl) ?_
 refine wp_skip ?_
 refine then_n ?_
 refine wp_seq ?_
 refine rK tab 1 [(1, .eq (.bool false))] [] [(16, vB false)] [6, 0, 1, 2] [] [] [] [0] 1 hR hI (.cons (congrArg Value.bool (beq_eq_false_iff_ne.2 (by omega) : ((s : Int) == (0 : Int)) = false)) .nil) fun e3 a3 w3 hag hR hI => ?_
 replace hA := hA.trans hag (by decide)
 refine cnd_f hI (by kernel_rfl) ?_
 refine wp_skip ?_
 refine then_n ?_
 refine wp_seq ?_
 refine rK tab 1 [(2, .eq (.bool false))] [] [(22, vB false)] [6, 0, 1, 2] [] [] [] [0] 1 hR hI (.cons (congrArg Value.bool (beq_eq_false_iff_ne.2 (by omega) : ((xs.length : Int) == (0 : Int)) = false)) .nil) fun e4 a4 w4 hag hR hI => ?_
 replace hA := hA.trans hag (by decide)
 refine cnd_f hI (by kernel_rfl) ?_
 refine wp_skip ?_
 refine then_n ?_
 refine rK tab 1 [(1, .eq (.int .u64 (s : Int)))] [] [] [2, 0, 1] [] [] [] [0] 1 hR hI (.cons (congrArg (Value.int .u64) (u64_and63 hs : bits .and .u64 (s : Int) (63 : Int) = (s : Int))) .nil) fun e5 a5 w5 hag hR hI => ?_
 replace hA := hA.trans hag (by decide)
 refine rK tab 1 [(1, .eq (.int .u64 ((64 - s : Nat) : Int)))] [] [(7, vU (64 - s))] [2, 0, 1] [] [] [] [0] 1 hR hI (.cons (congrArg (Value.int .u64) (by rw [wrap_inR (inR_u64 (by omega))]; omega : IntKind.u64.wrap ((64 : Int) - (s : Int)) = ((64 - s : Nat) : Int))) .nil) fun e6 a6 w6 hag hR hI => ?_
 replace hA := hA.trans hag (by decide)
 refine rK tab 1 [(1, .eq (.int .u64 ((64 - s : Nat) : Int)))] [] [] [7, 2, 0, 1] [] [] [] [0] 1 hR hI (.cons (congrArg (Value.int .u64) (u64_and63 (by omega) : bits .and .u64 ((64 - s : Nat) : Int) (63 : Int) = ((64 - s : Nat) : Int))) .nil) fun e7 a7 w7 hag hR hI => ?_
 replace hA := hA.trans hag (by decide)
 refine rK tab 1 [(3, .eq (.int .i64 ((xs.length - 1 : Nat) : Int))), (5, .val (vU (xs.getD (xs.length - 1) 0))), (7, .eq (.int .u64 ((xs.getD (xs.length - 1) 0 / 2 ^ (64 - s) : Nat) : Int)))] [] [(6, vU (xs.getD (xs.length - 1) 0 / 2 ^ (64 - s)))] [7, 2, 0, 1] [] [] [] [0] 1 hR hI (.cons (wI ((xs.length : Int) - (1 : Int)) ((xs.length - 1 : Nat) : Int) (by omega) (by omega)) (.cons (by omega : (0 : Int) ≤ ((xs.length - 1 : Nat) : Int) ∧ ((xs.length - 1 : Nat) : Int) < (xs.length : Int)) (.cons (nats_some (i := xs.length - 1) (hx.cells.mono hB.cls) (by omega)) (.cons (nats_load (i := xs.length - 1) (m := 1) (hx.cells.mono hB.cls) (by omega)) (.cons (congrArg (Value.int .u64) (shr_nat : ((xs.getD (xs.length - 1) 0 : Nat) : Int) / 2 ^ (64 - s) = ((xs.getD (xs.length - 1) 0 / 2 ^ (64 - s) : Nat) : Int))) (.cons (by omega : (0 : Int) ≤ ((64 - s : Nat) : Int)) (.cons (by show _ ≤ (64 : Int); omega : ((64 - s : Nat) : Int) ≤ (IntKind.u64.bits : Int)) .nil))))))) fun e8 a8 w8 hag hR hI => ?_
 replace hA := hA.trans hag (by decide)
 obtain ⟨co, hco⟩ : ∃ v_, v_ = xs.getD (xs.length - 1) 0 / 2 ^ (64 - s) := ⟨_, rfl⟩
 replace hI := hI.re 6 (vU co) rfl (congrArg (Value.int .u64) (by rw [hco]))
 have hcob : co < 2 ^ s := by
  rw [hco, Nat.div_lt_iff_lt_mul (Nat.two_pow_pos _), pow_split64 (by omega)]
  exact ndig_get hx.dig _
 refine wp_seq ?_
 refine rK tab 1 [(2, .eq (.int .i64 ((xs.length - 1 : Nat) : Int)))] [] [(8, vI (xs.length - 1))] [6, 7, 2, 0, 1] [] [] [] [0] 1 hR hI (.cons (wI ((xs.length : Int) - (1 : Int)) ((xs.length - 1 : Nat) : Int) (by omega) (by omega)) .nil) fun e9 a9 w9 hag hR hI => ?_
 replace hA := hA.trans hag (by decide)
 refine wp_block ?_
 rw [(put_nil.symm : zs = put zs (oz + (xs.length - 1 + 1)) [])] at hR
 replace hf0 := tf hA hf0
 replace hg0 := tg hA hg0
 refine lp (γ := Nat × List Nat) (fun (i, rs) => (⟨[(0, .rsl 0 oz xs.length c), (1, vS ad xs.length xc), (2, vU s), (6, vU co), (7, vU (64 - s)), (8, vI i)], [], [⟨0, 102, 1, N, (ints .u64 (put zs (oz + (i + 1)) rs))⟩], 1⟩ : Sy)) (fun (i, rs) e => ((Full e 0 N) ∧ (headOf (e.r 0) = g)) ∧ (i < xs.length ∧ rs.length = xs.length - 1 - i ∧ Ndig rs ∧ nval rs + pn rs.length * co = nval (xs.drop i) * 2 ^ s / 18446744073709551616)) (fun (i, rs) => i) (xs.length - 1, []) (⟨⟨hf0, hg0⟩, ⟨by omega, by rw [List.length_nil]; omega, (fun d h => by cases h), lsh_start hs hn hco⟩⟩)
   (hR.sel [] [0] (by kernel_rfl) (by kernel_rfl)) (hI.sel [0, 1, 2, 6, 7, 8] (by kernel_rfl)) ?_
 clear hR hI
 rintro ⟨i, rs⟩ e10 a10 w10 hp hR hI
 dsimp only at hp hR hI
 obtain ⟨⟨hf0, hg0⟩, hp⟩ := hp
 obtain ⟨hi, hrl, hrd, hv⟩ := hp
 have hpl : (put zs (oz + (i + 1)) rs).length = N := by rw [put_length (by omega)]; exact hzl
 refine wp_seq ?_
 refine rZ tab 1 [(41, vB (decide ((i : Int) > (0 : Int))))] [0, 1, 2, 6, 7, 8] hR hI fun e11 a11 w11 hag hR hI => ?_
 have hA := hag
 refine cnd (b := decide ((i : Int) > (0 : Int))) hI (by kernel_rfl) (fun hc12 => ?_) (fun hc12 => ?_)
 ·
  replace hI := hI.rb 41 hc12
  try simp only [tolds] at hc12
  refine wp_skip ?_
  refine then_n ?_
  refine wp_seq ?_
  refine wp_block ?_
  refine regL 17 hR (by kernel_rfl) (fun hS => ?_)
  replace hR := hR.drew; have hF := hR.fore
  refine lK tab [(5, .val (vU (xs.getD i 0))), (7, .eq (.int .u64 ((xs.getD i 0 * 2 ^ s % 18446744073709551616 : Nat) : Int))), (10, .eq (.int .i64 ((i - 1 : Nat) : Int))), (12, .val (vU (xs.getD (i - 1) 0))), (14, .eq (.int .u64 ((xs.getD (i - 1) 0 / 2 ^ (64 - s) : Nat) : Int))), (15, .eq (.int .u64 ((xs.getD i 0 * 2 ^ s % 18446744073709551616 + xs.getD (i - 1) 0 / 2 ^ (64 - s) : Nat) : Int)))] [] [0, 1, 2, 3, 4, 5, 6, 7, 8, 9, 10, 11, 12, 13, 14, 15, 16] 1 [(60, .pr 0 (oz + i)), (59, vU (xs.getD i 0 * 2 ^ s % 18446744073709551616 + xs.getD (i - 1) 0 / 2 ^ (64 - s)))] [0, 1, 2, 6, 7, 8] hS hI (.cons (by omega : (0 : Int) ≤ (i : Int) ∧ (i : Int) < (xs.length : Int)) (.cons (nats_some (i := i) (hx.cells.mono hB.cls) (by omega)) (.cons (nats_load (i := i) (m := 1) (hx.cells.mono hB.cls) (by omega)) (.cons (congrArg (Value.int .u64) (shl_md : IntKind.u64.wrap (((xs.getD i 0 : Nat) : Int) * 2 ^ s) = ((xs.getD i 0 * 2 ^ s % 18446744073709551616 : Nat) : Int))) (.cons (by omega : (0 : Int) ≤ (s : Int)) (.cons (by show _ ≤ (64 : Int); omega : (s : Int) ≤ (IntKind.u64.bits : Int)) (.cons (wI ((i : Int) - (1 : Int)) ((i - 1 : Nat) : Int) (by omega) (by omega)) (.cons (by omega : (0 : Int) ≤ ((i - 1 : Nat) : Int) ∧ ((i - 1 : Nat) : Int) < (xs.length : Int)) (.cons (nats_some (i := i - 1) (hx.cells.mono hB.cls) (by omega)) (.cons (nats_load (i := i - 1) (m := 1) (hx.cells.mono hB.cls) (by omega)) (.cons (congrArg (Value.int .u64) (shr_nat : ((xs.getD (i - 1) 0 : Nat) : Int) / 2 ^ (64 - s) = ((xs.getD (i - 1) 0 / 2 ^ (64 - s) : Nat) : Int))) (.cons (by omega : (0 : Int) ≤ ((64 - s : Nat) : Int)) (.cons (by show _ ≤ (64 : Int); omega : ((64 - s : Nat) : Int) ≤ (IntKind.u64.bits : Int)) (.cons (congrArg (Value.int .u64) ((lsh_or hs hs0 (ndig_get hx.dig _)).1 : bits .or .u64 ((xs.getD i 0 * 2 ^ s % 18446744073709551616 : Nat) : Int) ((xs.getD (i - 1) 0 / 2 ^ (64 - s) : Nat) : Int) = ((xs.getD i 0 * 2 ^ s % 18446744073709551616 + xs.getD (i - 1) 0 / 2 ^ (64 - s) : Nat) : Int))) (.cons (by omega : (0 : Int) ≤ (i : Int) ∧ (i : Int) < (xs.length : Int)) .nil))))))))))))))) fun a13 hI => ?_
  refine endL (i := 17) (f' := 0) (by kernel_rfl) (by rfl) (by kernel_rfl) ?_
  refine eK tab 1 .no (.v (undef)) [] [] [⟨0, 102, 1, N, ((ints .u64 (put zs (oz + (i + 1)) rs)).set (oz + i) (.int .u64 ((xs.getD i 0 * 2 ^ s % 18446744073709551616 + xs.getD (i - 1) 0 / 2 ^ (64 - s) : Nat) : Int)))⟩] [] 1 true hR hI (.cons (by omega : oz + i < N * 1) .nil) fun e14 a14 w14 hag hR2 hI => ?_
  replace hA := hA.trans hag (by decide)
  replace hR := hR2; clear hR2
  replace hI := hI.sl [60, 59, 0, 1, 2, 6, 7, 8] rfl
  refine doneL (by kernel_rfl) ?_
  replace hI := hI.sl [0, 1, 2, 6, 7, 8] rfl; replace hR := hR.sel [] [0] rfl rfl
  rw [ints_set] at hR
  rw [(by rw [show i - 1 + 1 = i by omega]; exact put_cons (o := oz + i) (by omega) : ((put zs (oz + (i + 1)) rs).set (oz + i) (xs.getD i 0 * 2 ^ s % 18446744073709551616 + xs.getD (i - 1) 0 / 2 ^ (64 - s))) = put zs (oz + (i - 1 + 1)) ((xs.getD i 0 * 2 ^ s % 18446744073709551616 + xs.getD (i - 1) 0 / 2 ^ (64 - s)) :: rs))] at hR
  refine normal_block ?_
  refine then_n ?_
  refine aK tab 1 [(1, .eq (.int .i64 ((i - 1 : Nat) : Int)))] [] [(8, vI (i - 1))] [0, 1, 2, 6, 7] [] [] [] [0] 1 hR hI (.cons (wI ((i : Int) - (1 : Int)) ((i - 1 : Nat) : Int) (by omega) (by omega)) .nil) fun e15 a15 w15 hag hR hI => ?_
  replace hA := hA.trans hag (by decide)
  refine then_n ?_
  replace hf0 := tf hA hf0
  replace hg0 := tg hA hg0
  exact ⟨(i - 1, (xs.getD i 0 * 2 ^ s % 18446744073709551616 + xs.getD (i - 1) 0 / 2 ^ (64 - s)) :: rs), e15, ⟨⟨hf0, hg0⟩, ⟨by omega, by rw [List.length_cons]; omega, all_cons (lsh_or hs hs0 (ndig_get hx.dig _)).2 hrd, lsh_step hs (by omega) hv⟩⟩, by (try dsimp only); omega, hR.sel [] [0] (by kernel_rfl) (by kernel_rfl), hI.sel [0, 1, 2, 6, 7, 8] (by kernel_rfl)⟩
 ·
  replace hI := hI.rb 41 hc12
  try simp only [tolds] at hc12
  refine wp_exit ?_
  refine exit_then ?_
  refine exit_then ?_
  refine exit_hit ?_
  refine then_n ?_
  refine rK tab 1 [(3, .val (vU (xs.getD 0 0))), (5, .eq (.int .u64 ((xs.getD 0 0 * 2 ^ s % 18446744073709551616 : Nat) : Int)))] [] [] [6] [] [] [⟨0, 102, 1, N, ((ints .u64 (put zs (oz + (i + 1)) rs)).set oz (.int .u64 ((xs.getD 0 0 * 2 ^ s % 18446744073709551616 : Nat) : Int)))⟩] [] 1 hR hI (.cons (by omega : (0 : Int) ≤ (0 : Int) ∧ (0 : Int) < (xs.length : Int)) (.cons (nats_some (i := 0) (hx.cells.mono hB.cls) (by omega)) (.cons (nats_load (i := 0) (m := 1) (hx.cells.mono hB.cls) (by omega)) (.cons (congrArg (Value.int .u64) (shl_md : IntKind.u64.wrap (((xs.getD 0 0 : Nat) : Int) * 2 ^ s) = ((xs.getD 0 0 * 2 ^ s % 18446744073709551616 : Nat) : Int))) (.cons (by omega : (0 : Int) ≤ (s : Int)) (.cons (by show _ ≤ (64 : Int); omega : (s : Int) ≤ (IntKind.u64.bits : Int)) (.cons (by omega : (0 : Int) ≤ (0 : Int) ∧ (0 : Int) < (xs.length : Int)) (.cons (by omega : oz < N * 1) .nil)))))))) fun e16 a16 w16 hag hR hI => ?_
  replace hA := hA.trans hag (by decide)
  rw [ints_set] at hR
  have hi0 : i = 0 := by omega
  rw [(by rw [hi0]; exact put_cons (o := oz + 0) (by omega) : ((put zs (oz + (i + 1)) rs).set oz (xs.getD 0 0 * 2 ^ s % 18446744073709551616)) = put zs oz ((xs.getD 0 0 * 2 ^ s % 18446744073709551616) :: rs))] at hR
  refine wp_ret (oN tab [vU co] hR hI ?_)
  replace hf0 := tf hA hf0
  replace hg0 := tg hA hg0
  rw [hi0] at hv
  have hl_ : rs.length + 1 = xs.length := by omega
  exact ⟨_, co, rfl, hB.fin hR, (hR.rowFin (y := ⟨0, 102, 1, N, (ints .u64 (put zs oz ((xs.getD 0 0 * 2 ^ s % 18446744073709551616) :: rs)))⟩) m0 hf0 rfl hg0), hl_, all_cons (Nat.mod_lt _ (by decide)) hrd, hcob, by rw [← hl_]; exact lsh_end hv⟩

theorem rshVU_g_spec {C : Nat → Prop} {w : World} {g N oz n c : Nat} {zs : List Nat} {s : Nat} (hz : w.heap[g]? = some (.cells (ints .u64 zs).toArray 102)) (hzl : zs.length = N) (hzm : N ≤ 9223372036854775807) (hCg : ¬ C g) (hzd : Ndig zs) (hfit : oz + n ≤ N) (hs0 : 0 < s) (hs : s < 64) (hn : 0 < n) :
    Calls P 119 #[.slice (some ⟨g, oz, none⟩) n c, .slice (some ⟨g, oz, none⟩) n c, .int .u64 (s : Int)] w fun ex w' => ∃ (rs : List Nat) (co : Nat), ex = .returned (.int .u64 (co : Int)) ∧ Keep (ButN [g] w) w w' ∧ w'.heap[g]? = some (.cells (ints .u64 (put zs oz rs)).toArray 102) ∧ rs.length = n ∧ Ndig rs ∧ nval rs = nval (seg zs oz n) / 2 ^ s := by
 refine doorN (e := (e0.addR 0 (.slice (some ⟨g, 0, none⟩) N N))) (vs := [.rsl 0 oz n c, .rsl 0 oz n c, vU s]) (n := 71) (m := 3) Tryz.func119 rfl rfl rfl (by decide) fun a_ hI => ?_
 replace hI : Is 71 [] (e0.addR 0 (.slice (some ⟨g, 0, none⟩) N N)) [(0, .rsl 0 oz n c), (1, .rsl 0 oz n c), (2, vU s)] a_ := hI
 have hf0 : Full (e0.addR 0 (.slice (some ⟨g, 0, none⟩) N N)) 0 N := rfl; have hg0 : headOf ((e0.addR 0 (.slice (some ⟨g, 0, none⟩) N N)).r 0) = g := rfl
 have hR : Rel (ButN [g] w) w (e0.addR 0 (.slice (some ⟨g, 0, none⟩) N N)) [] [⟨0, 102, 1, N, (ints .u64 zs)⟩] w := Rel.startN (fun k_ h_ => h_.1) all_no (all_cons ⟨ownsRow_fullN hz (by first | exact hzl | (rw [ints_length]; exact hzl)) hzm, fun g_ he_ => by cases he_; exact (fun hm_ => hm_.2 m0)⟩ all_no) all_no all_no (all_cons (all_cons (fun hn_ => absurd rfl hn_) all_no) all_no)
 have hB : BaseD (ButN [g] w) C w C (ButN [g] w) w := BaseD.start (fun k_ hC_ hlt_ => ⟨hlt_, notin2 (fun he_ => hCg (he_ ▸ hC_)) (fun hm_ => by cases hm_)⟩)
 have hul : (seg zs oz n).length = n := seg_length (by omega)
 have hud : Ndig (seg zs oz n) := seg_dig hzd _ _
 refine rZ tab 1 [(6, .v (.int .u64 0))] [0, 1, 2] hR hI fun e1 a1 w1 hag hR hI => ?_
 have hA := hag
 refine wp_seq ?_
 refine rK tab 1 [(4, .eq (.bool false))] [] [(13, vB false)] [6, 0, 1, 2] [] [] [] [0] 1 hR hI (.cons (congrArg Value.bool (bne_self_eq_false _ : ((n : Int) != (n : Int)) = false)) .nil) fun e2 a2 w2 hag hR hI => ?_
 replace hA := hA.trans hag (by decide)
 refine cnd_f hI (by kernel_rfl) ?_
 refine wp_skip ?_
 refine then_n ?_
 refine wp_seq ?_
 refine rK tab 1 [(1, .eq (.bool false))] [] [(16, vB false)] [6, 0, 1, 2] [] [] [] [0] 1 hR hI (.cons (congrArg Value.bool (beq_eq_false_iff_ne.2 (by omega) : ((s : Int) == (0 : Int)) = false)) .nil) fun e3 a3 w3 hag hR hI => ?_
 replace hA := hA.trans hag (by decide)
 refine cnd_f hI (by kernel_rfl) ?_
 refine wp_skip ?_
 refine then_n ?_
 refine wp_seq ?_
 refine rK tab 1 [(2, .eq (.bool false))] [] [(22, vB false)] [6, 0, 1, 2] [] [] [] [0] 1 hR hI (.cons (congrArg Value.bool (beq_eq_false_iff_ne.2 (by omega) : ((n : Int) == (0 : Int)) = false)) .nil) fun e4 a4 w4 hag hR hI => ?_
 replace hA := hA.trans hag (by decide)
 refine cnd_f hI (by kernel_rfl) ?_
 refine wp_skip ?_
 refine then_n ?_
 refine rK tab 1 [(1, .eq (.int .u64 (s : Int)))] [] [] [2, 0, 1] [] [] [] [0] 1 hR hI (.cons (congrArg (Value.int .u64) (u64_and63 hs : bits .and .u64 (s : Int) (63 : Int) = (s : Int))) .nil) fun e5 a5 w5 hag hR hI => ?_
 replace hA := hA.trans hag (by decide)
 refine rK tab 1 [(1, .eq (.int .u64 ((64 - s : Nat) : Int)))] [] [(7, vU (64 - s))] [2, 0, 1] [] [] [] [0] 1 hR hI (.cons (congrArg (Value.int .u64) (by rw [wrap_inR (inR_u64 (by omega))]; omega : IntKind.u64.wrap ((64 : Int) - (s : Int)) = ((64 - s : Nat) : Int))) .nil) fun e6 a6 w6 hag hR hI => ?_
 replace hA := hA.trans hag (by decide)
 refine rK tab 1 [(1, .eq (.int .u64 ((64 - s : Nat) : Int)))] [] [] [7, 2, 0, 1] [] [] [] [0] 1 hR hI (.cons (congrArg (Value.int .u64) (u64_and63 (by omega) : bits .and .u64 ((64 - s : Nat) : Int) (63 : Int) = ((64 - s : Nat) : Int))) .nil) fun e7 a7 w7 hag hR hI => ?_
 replace hA := hA.trans hag (by decide)
 refine rK tab 1 [(2, .val (vU (zs.getD oz 0))), (4, .eq (.int .u64 ((zs.getD (oz + 0) 0 * 2 ^ (64 - s) % 18446744073709551616 : Nat) : Int)))] [] [(6, vU (zs.getD (oz + 0) 0 * 2 ^ (64 - s) % 18446744073709551616))] [7, 2, 0, 1] [] [] [] [0] 1 hR hI (.cons (by omega : (0 : Int) ≤ (0 : Int) ∧ (0 : Int) < (n : Int)) (.cons (ints_get (k := .u64) (xs := zs) (i := oz) (by omega)) (.cons (by omega : oz < N * 1) (.cons (congrArg (Value.int .u64) (shl_md : IntKind.u64.wrap (((zs.getD oz 0 : Nat) : Int) * 2 ^ (64 - s)) = ((zs.getD (oz + 0) 0 * 2 ^ (64 - s) % 18446744073709551616 : Nat) : Int))) (.cons (by omega : (0 : Int) ≤ ((64 - s : Nat) : Int)) (.cons (by show _ ≤ (64 : Int); omega : ((64 - s : Nat) : Int) ≤ (IntKind.u64.bits : Int)) .nil)))))) fun e8 a8 w8 hag hR hI => ?_
 replace hA := hA.trans hag (by decide)
 obtain ⟨co, hco⟩ : ∃ v_, v_ = zs.getD (oz + 0) 0 * 2 ^ (64 - s) % 18446744073709551616 := ⟨_, rfl⟩
 replace hI := hI.re 6 (vU co) rfl (congrArg (Value.int .u64) (by rw [hco]))
 refine wp_seq ?_
 refine rZ tab 1 [(8, .v (.int .i64 1))] [6, 7, 2, 0, 1] hR hI fun e9 a9 w9 hag hR hI => ?_
 replace hA := hA.trans hag (by decide)
 refine wp_block ?_
 rw [(put_nil.symm : zs = put zs oz [])] at hR
 replace hf0 := tf hA hf0
 replace hg0 := tg hA hg0
 refine lp (γ := Nat × List Nat) (fun (j, rs) => (⟨[(0, .rsl 0 oz n c), (1, .rsl 0 oz n c), (2, vU s), (6, vU co), (7, vU (64 - s)), (8, vI (j + 1))], [], [⟨0, 102, 1, N, (ints .u64 (put zs oz rs))⟩], 1⟩ : Sy)) (fun (j, rs) e => ((Full e 0 N) ∧ (headOf (e.r 0) = g)) ∧ (j < n ∧ rs.length = j ∧ Ndig rs ∧ nval rs + pn j * (nval ((seg zs oz n).drop j) / 2 ^ s) = nval (seg zs oz n) / 2 ^ s)) (fun (j, rs) => n - j) (0, []) (⟨⟨hf0, hg0⟩, ⟨by omega, rfl, (fun d h => by cases h), by simp [nval, pn]⟩⟩)
   (hR.sel [] [0] (by kernel_rfl) (by kernel_rfl)) (hI.sel [0, 1, 2, 6, 7, 8] (by kernel_rfl)) ?_
 clear hR hI
 rintro ⟨j, rs⟩ e10 a10 w10 hp hR hI
 dsimp only at hp hR hI
 obtain ⟨⟨hf0, hg0⟩, hp⟩ := hp
 obtain ⟨hj_, hrl, hrd, hv⟩ := hp
 have hpl : (put zs oz rs).length = N := by rw [put_length (by omega)]; exact hzl
 have hgj : (put zs oz rs).getD (oz + j) 0 = (seg zs oz n).getD j 0 := by rw [put_getD_ge (by omega) (by omega), seg_get (by omega)]
 have hgj1 : j + 1 < n → (put zs oz rs).getD (oz + (j + 1)) 0 = (seg zs oz n).getD (j + 1) 0 := fun h_ => by rw [put_getD_ge (by omega) (by omega), seg_get h_]
 refine wp_seq ?_
 refine rZ tab 1 [(37, vB (decide (((j + 1 : Nat) : Int) < (n : Int))))] [0, 1, 2, 6, 7, 8] hR hI fun e11 a11 w11 hag hR hI => ?_
 have hA := hag
 refine cnd (b := decide (((j + 1 : Nat) : Int) < (n : Int))) hI (by kernel_rfl) (fun hc12 => ?_) (fun hc12 => ?_)
 ·
  replace hI := hI.rb 37 hc12
  try simp only [tolds] at hc12
  refine wp_skip ?_
  refine then_n ?_
  refine wp_seq ?_
  refine wp_block ?_
  refine regL 18 hR (by kernel_rfl) (fun hS => ?_)
  replace hR := hR.drew; have hF := hR.fore
  refine lK tab [(2, .eq (.int .i64 (j : Int))), (5, .eq (.int .i64 (j : Int))), (7, .val (vU ((put zs oz rs).getD (oz + j) 0))), (9, .eq (.int .u64 (((put zs oz rs).getD (oz + j) 0 / 2 ^ s : Nat) : Int))), (13, .val (vU ((put zs oz rs).getD (oz + (j + 1)) 0))), (15, .eq (.int .u64 (((put zs oz rs).getD (oz + (j + 1)) 0 * 2 ^ (64 - s) % 18446744073709551616 : Nat) : Int))), (16, .eq (.int .u64 (((seg zs oz n).getD j 0 / 2 ^ s + (seg zs oz n).getD (j + 1) 0 * 2 ^ (64 - s) % 18446744073709551616 : Nat) : Int)))] [] [0, 1, 2, 3, 4, 5, 6, 7, 8, 9, 10, 11, 12, 13, 14, 15, 16, 17] 1 [(57, .pr 0 (oz + j)), (56, vU ((seg zs oz n).getD j 0 / 2 ^ s + (seg zs oz n).getD (j + 1) 0 * 2 ^ (64 - s) % 18446744073709551616))] [0, 1, 2, 6, 7, 8] hS hI (.cons (wI (((j + 1 : Nat) : Int) - (1 : Int)) (j : Int) (by omega) (by omega)) (.cons (wI (((j + 1 : Nat) : Int) - (1 : Int)) (j : Int) (by omega) (by omega)) (.cons (by omega : (0 : Int) ≤ (j : Int) ∧ (j : Int) < (n : Int)) (.cons (ints_get (k := .u64) (xs := (put zs oz rs)) (i := oz + j) (by omega)) (.cons (by omega : oz + j < N * 1) (.cons (congrArg (Value.int .u64) (shr_nat : (((put zs oz rs).getD (oz + j) 0 : Nat) : Int) / 2 ^ s = (((put zs oz rs).getD (oz + j) 0 / 2 ^ s : Nat) : Int))) (.cons (by omega : (0 : Int) ≤ (s : Int)) (.cons (by show _ ≤ (64 : Int); omega : (s : Int) ≤ (IntKind.u64.bits : Int)) (.cons (by omega : (0 : Int) ≤ ((j + 1 : Nat) : Int) ∧ ((j + 1 : Nat) : Int) < (n : Int)) (.cons (ints_get (k := .u64) (xs := (put zs oz rs)) (i := oz + (j + 1)) (by omega)) (.cons (by omega : oz + (j + 1) < N * 1) (.cons (congrArg (Value.int .u64) (shl_md : IntKind.u64.wrap ((((put zs oz rs).getD (oz + (j + 1)) 0 : Nat) : Int) * 2 ^ (64 - s)) = (((put zs oz rs).getD (oz + (j + 1)) 0 * 2 ^ (64 - s) % 18446744073709551616 : Nat) : Int))) (.cons (by omega : (0 : Int) ≤ ((64 - s : Nat) : Int)) (.cons (by show _ ≤ (64 : Int); omega : ((64 - s : Nat) : Int) ≤ (IntKind.u64.bits : Int)) (.cons (congrArg (Value.int .u64) (by rw [hgj, hgj1 (by omega)]; exact (rsh_or hs hs0 (ndig_get hud _)).1 : bits .or .u64 (((put zs oz rs).getD (oz + j) 0 / 2 ^ s : Nat) : Int) (((put zs oz rs).getD (oz + (j + 1)) 0 * 2 ^ (64 - s) % 18446744073709551616 : Nat) : Int) = (((seg zs oz n).getD j 0 / 2 ^ s + (seg zs oz n).getD (j + 1) 0 * 2 ^ (64 - s) % 18446744073709551616 : Nat) : Int))) (.cons (by omega : (0 : Int) ≤ (j : Int) ∧ (j : Int) < (n : Int)) .nil)))))))))))))))) fun a13 hI => ?_
  refine endL (i := 18) (f' := 0) (by kernel_rfl) (by rfl) (by kernel_rfl) ?_
  refine eK tab 1 .no (.v (undef)) [] [] [⟨0, 102, 1, N, ((ints .u64 (put zs oz rs)).set (oz + j) (.int .u64 (((seg zs oz n).getD j 0 / 2 ^ s + (seg zs oz n).getD (j + 1) 0 * 2 ^ (64 - s) % 18446744073709551616 : Nat) : Int)))⟩] [] 1 true hR hI (.cons (by omega : oz + j < N * 1) .nil) fun e14 a14 w14 hag hR2 hI => ?_
  replace hA := hA.trans hag (by decide)
  replace hR := hR2; clear hR2
  replace hI := hI.sl [57, 56, 0, 1, 2, 6, 7, 8] rfl
  refine doneL (by kernel_rfl) ?_
  replace hI := hI.sl [0, 1, 2, 6, 7, 8] rfl; replace hR := hR.sel [] [0] rfl rfl
  rw [ints_set] at hR
  rw [(by rw [← hrl]; exact put_snoc (by omega) : ((put zs oz rs).set (oz + j) ((seg zs oz n).getD j 0 / 2 ^ s + (seg zs oz n).getD (j + 1) 0 * 2 ^ (64 - s) % 18446744073709551616)) = put zs oz (rs ++ [(seg zs oz n).getD j 0 / 2 ^ s + (seg zs oz n).getD (j + 1) 0 * 2 ^ (64 - s) % 18446744073709551616]))] at hR
  refine normal_block ?_
  refine then_n ?_
  refine aK tab 1 [(1, .nw)] [] [(8, vI ((j + 1) + 1))] [0, 1, 2, 6, 7] [] [] [] [0] 1 hR hI (.cons (inR_i64 (n := ((j + 1 : Nat) : Int) + (1 : Int)) (by omega)) .nil) fun e15 a15 w15 hag hR hI => ?_
  replace hA := hA.trans hag (by decide)
  refine then_n ?_
  replace hf0 := tf hA hf0
  replace hg0 := tg hA hg0
  exact ⟨(j + 1, rs ++ [(seg zs oz n).getD j 0 / 2 ^ s + (seg zs oz n).getD (j + 1) 0 * 2 ^ (64 - s) % 18446744073709551616]), e15, ⟨⟨hf0, hg0⟩, ⟨by omega, by rw [List.length_append, hrl]; rfl, ndig_snoc hrd (rsh_or hs hs0 (ndig_get hud _)).2, rsh_step hs hrl hv⟩⟩, by (try dsimp only); omega, hR.sel [] [0] (by kernel_rfl) (by kernel_rfl), hI.sel [0, 1, 2, 6, 7, 8] (by kernel_rfl)⟩
 ·
  replace hI := hI.rb 37 hc12
  try simp only [tolds] at hc12
  refine wp_exit ?_
  refine exit_then ?_
  refine exit_then ?_
  refine exit_hit ?_
  refine then_n ?_
  have hj : n - 1 = j := by omega
  refine rK tab 1 [(3, .eq (.int .i64 ((n - 1 : Nat) : Int))), (7, .eq (.int .i64 ((n - 1 : Nat) : Int))), (9, .val (vU ((put zs oz rs).getD (oz + (n - 1)) 0))), (11, .eq (.int .u64 (((seg zs oz n).getD j 0 / 2 ^ s : Nat) : Int)))] [] [] [6] [] [] [⟨0, 102, 1, N, ((ints .u64 (put zs oz rs)).set (oz + (n - 1)) (.int .u64 (((seg zs oz n).getD j 0 / 2 ^ s : Nat) : Int)))⟩] [] 1 hR hI (.cons (wI ((n : Int) - (1 : Int)) ((n - 1 : Nat) : Int) (by omega) (by omega)) (.cons (wI ((n : Int) - (1 : Int)) ((n - 1 : Nat) : Int) (by omega) (by omega)) (.cons (by omega : (0 : Int) ≤ ((n - 1 : Nat) : Int) ∧ ((n - 1 : Nat) : Int) < (n : Int)) (.cons (ints_get (k := .u64) (xs := (put zs oz rs)) (i := oz + (n - 1)) (by omega)) (.cons (by omega : oz + (n - 1) < N * 1) (.cons (congrArg (Value.int .u64) (by rw [hj, hgj]; exact shr_nat : (((put zs oz rs).getD (oz + (n - 1)) 0 : Nat) : Int) / 2 ^ s = (((seg zs oz n).getD j 0 / 2 ^ s : Nat) : Int))) (.cons (by omega : (0 : Int) ≤ (s : Int)) (.cons (by show _ ≤ (64 : Int); omega : (s : Int) ≤ (IntKind.u64.bits : Int)) (.cons (by omega : (0 : Int) ≤ ((n - 1 : Nat) : Int) ∧ ((n - 1 : Nat) : Int) < (n : Int)) (.cons (by omega : oz + (n - 1) < N * 1) .nil)))))))))) fun e16 a16 w16 hag hR hI => ?_
  replace hA := hA.trans hag (by decide)
  rw [ints_set] at hR
  rw [(by rw [hj, ← hrl]; exact put_snoc (by omega) : ((put zs oz rs).set (oz + (n - 1)) ((seg zs oz n).getD j 0 / 2 ^ s)) = put zs oz (rs ++ [(seg zs oz n).getD j 0 / 2 ^ s]))] at hR
  refine wp_ret (oN tab [vU co] hR hI ?_)
  replace hf0 := tf hA hf0
  replace hg0 := tg hA hg0
  exact ⟨_, co, rfl, hB.fin hR, (hR.rowFin (y := ⟨0, 102, 1, N, (ints .u64 (put zs oz (rs ++ [(seg zs oz n).getD j 0 / 2 ^ s])))⟩) m0 hf0 rfl hg0), by rw [List.length_append, hrl, List.length_singleton]; omega, ndig_snoc hrd (Nat.lt_of_le_of_lt (Nat.div_le_self _ _) (ndig_get hud _)), rsh_end hrl (by omega) hv⟩

theorem lshVU_spec {C : Nat → Prop} {w : World} {g N oz c : Nat} {zs xs : List Nat} {ad : Option Addr} {xc s : Nat} (hz : w.heap[g]? = some (.cells (ints .u64 zs).toArray 102)) (hzl : zs.length = N) (hzm : N ≤ 9223372036854775807) (hCg : ¬ C g) (hx : Sl .u64 18446744073709551616 C w ad xc xs) (hfit : oz + xs.length ≤ N) (hs0 : 0 < s) (hs : s < 64) (hn : 0 < xs.length) :
    Calls P 85 #[.slice (some ⟨g, oz, none⟩) xs.length c, .slice ad xs.length xc, .int .u64 (s : Int)] w fun ex w' => ∃ (rs : List Nat) (co : Nat), ex = .returned (.int .u64 (co : Int)) ∧ Keep (ButN [g] w) w w' ∧ w'.heap[g]? = some (.cells (ints .u64 (put zs oz rs)).toArray 102) ∧ rs.length = xs.length ∧ Ndig rs ∧ co < 2 ^ s ∧ nval rs + pn xs.length * co = nval xs * 2 ^ s := by
 refine doorN (e := (e0.addR 0 (.slice (some ⟨g, 0, none⟩) N N))) (vs := [.rsl 0 oz xs.length c, vS ad xs.length xc, vU s]) (n := 11) (m := 3) Tryz.func85 rfl rfl rfl (by decide) fun a_ hI => ?_
 replace hI : Is 11 [] (e0.addR 0 (.slice (some ⟨g, 0, none⟩) N N)) [(0, .rsl 0 oz xs.length c), (1, vS ad xs.length xc), (2, vU s)] a_ := hI
 have hf0 : Full (e0.addR 0 (.slice (some ⟨g, 0, none⟩) N N)) 0 N := rfl; have hg0 : headOf ((e0.addR 0 (.slice (some ⟨g, 0, none⟩) N N)).r 0) = g := rfl
 have hR : Rel (ButN [g] w) w (e0.addR 0 (.slice (some ⟨g, 0, none⟩) N N)) [] [⟨0, 102, 1, N, (ints .u64 zs)⟩] w := Rel.startN (fun k_ h_ => h_.1) all_no (all_cons ⟨ownsRow_fullN hz (by first | exact hzl | (rw [ints_length]; exact hzl)) hzm, fun g_ he_ => by cases he_; exact (fun hm_ => hm_.2 m0)⟩ all_no) all_no all_no (all_cons (all_cons (fun hn_ => absurd rfl hn_) all_no) all_no)
 have hB : BaseD (ButN [g] w) C w C (ButN [g] w) w := BaseD.start (fun k_ hC_ hlt_ => ⟨hlt_, notin2 (fun he_ => hCg (he_ ▸ hC_)) (fun hm_ => by cases hm_)⟩)
 refine rZ tab 1 [] [0, 1, 2] hR hI fun e1 a1 w1 hag hR hI => ?_
 have hA := hag
 refine wp_seq (reg (is := [0, 1, 2, 3, 4]) (by kernel_rfl) ?_)
 refine pZ tab [0, 1, 2] [3, 4] 1 [(9, vU s), (8, vS ad xs.length xc), (7, .rsl 0 oz xs.length c)] [] hR hI fun e2 a2 w2 hag hR hI => ?_
 replace hA := hA.trans hag (by decide)
 refine cO [.rsl 0 oz xs.length c, vS ad xs.length xc, vU s] hI Tryz.func113 ?_
 replace hf0 := tf hA hf0
 replace hg0 := tg hA hg0
 have hq0_ := hR.rowCells (y := ⟨0, 102, 1, N, (ints .u64 zs)⟩) m0 hf0 rfl
 refine (lshVU_g_spec (C := Now hB) (oz := oz) (c := c) hq0_.1 hzl hzm (fun h_ => hq0_.2 h_.2) (hx.now hB hR) hfit hs0 hs hn).mono ?_
 rintro ex w3 ⟨rs, co, rfl, hk, hw0, hrl, hrd, hco, hv⟩
 have hkF_ := hR.keepN hk (all_cons hq0_.2 all_no)
 have hR_ : Rel (Grow _ _ w3) w3 e2 [] [⟨0, 102, 1, N, (ints .u64 (put zs oz rs))⟩] w3 := hR.turnedN hk (all_cons hq0_.2 all_no) all_no (all_cons ⟨⟨_, m0, rfl⟩, .inr (by have hl_ := hR.rowLen (y := ⟨0, 102, 1, N, (ints .u64 zs)⟩) m0; dsimp only at hl_; rw [show e2.r 0 = _ from hf0]; exact ownsRow_fullN hw0 (by rw [ints_length, put_length (by omega)]; exact hzl) (hzm))⟩ all_no)
 replace hx := hx.nextF hB hR hkF_
 have hB_ := hB.nextF hR hkF_
 replace hR := hR_; clear hR_
 replace hB := hB_; clear hB_ hk hkF_ hq0_ hw0
 refine ⟨_, rfl, ?_⟩
 replace hI := hI.pt 10 (vU co) [10, 9, 8, 7]
 refine pZ tab [4] [] 1 [(6, vU co)] [] hR hI fun e4 a4 w4 hag hR hI => ?_
 have hA := hag
 refine ops_nil (then_n ?_)
 refine wp_ret (oN tab [vU co] hR hI ?_)
 replace hf0 := tf hA hf0
 replace hg0 := tg hA hg0
 exact ⟨rs, co, rfl, hB.fin hR, (hR.rowFin (y := ⟨0, 102, 1, N, (ints .u64 (put zs oz rs))⟩) m0 hf0 rfl hg0), hrl, hrd, hco, hv⟩

theorem rshVU_spec {C : Nat → Prop} {w : World} {g N oz n c : Nat} {zs : List Nat} {s : Nat} (hz : w.heap[g]? = some (.cells (ints .u64 zs).toArray 102)) (hzl : zs.length = N) (hzm : N ≤ 9223372036854775807) (hCg : ¬ C g) (hzd : Ndig zs) (hfit : oz + n ≤ N) (hs0 : 0 < s) (hs : s < 64) (hn : 0 < n) :
    Calls P 88 #[.slice (some ⟨g, oz, none⟩) n c, .slice (some ⟨g, oz, none⟩) n c, .int .u64 (s : Int)] w fun ex w' => ∃ (rs : List Nat) (co : Nat), ex = .returned (.int .u64 (co : Int)) ∧ Keep (ButN [g] w) w w' ∧ w'.heap[g]? = some (.cells (ints .u64 (put zs oz rs)).toArray 102) ∧ rs.length = n ∧ Ndig rs ∧ nval rs = nval (seg zs oz n) / 2 ^ s := by
 refine doorN (e := (e0.addR 0 (.slice (some ⟨g, 0, none⟩) N N))) (vs := [.rsl 0 oz n c, .rsl 0 oz n c, vU s]) (n := 11) (m := 3) Tryz.func88 rfl rfl rfl (by decide) fun a_ hI => ?_
 replace hI : Is 11 [] (e0.addR 0 (.slice (some ⟨g, 0, none⟩) N N)) [(0, .rsl 0 oz n c), (1, .rsl 0 oz n c), (2, vU s)] a_ := hI
 have hf0 : Full (e0.addR 0 (.slice (some ⟨g, 0, none⟩) N N)) 0 N := rfl; have hg0 : headOf ((e0.addR 0 (.slice (some ⟨g, 0, none⟩) N N)).r 0) = g := rfl
 have hR : Rel (ButN [g] w) w (e0.addR 0 (.slice (some ⟨g, 0, none⟩) N N)) [] [⟨0, 102, 1, N, (ints .u64 zs)⟩] w := Rel.startN (fun k_ h_ => h_.1) all_no (all_cons ⟨ownsRow_fullN hz (by first | exact hzl | (rw [ints_length]; exact hzl)) hzm, fun g_ he_ => by cases he_; exact (fun hm_ => hm_.2 m0)⟩ all_no) all_no all_no (all_cons (all_cons (fun hn_ => absurd rfl hn_) all_no) all_no)
 have hB : BaseD (ButN [g] w) C w C (ButN [g] w) w := BaseD.start (fun k_ hC_ hlt_ => ⟨hlt_, notin2 (fun he_ => hCg (he_ ▸ hC_)) (fun hm_ => by cases hm_)⟩)
 refine rZ tab 1 [] [0, 1, 2] hR hI fun e1 a1 w1 hag hR hI => ?_
 have hA := hag
 refine wp_seq (reg (is := [0, 1, 2, 3, 4]) (by kernel_rfl) ?_)
 refine pZ tab [0, 1, 2] [3, 4] 1 [(9, vU s), (8, .rsl 0 oz n c), (7, .rsl 0 oz n c)] [] hR hI fun e2 a2 w2 hag hR hI => ?_
 replace hA := hA.trans hag (by decide)
 refine cO [.rsl 0 oz n c, .rsl 0 oz n c, vU s] hI Tryz.func119 ?_
 replace hf0 := tf hA hf0
 replace hg0 := tg hA hg0
 have hq0_ := hR.rowCells (y := ⟨0, 102, 1, N, (ints .u64 zs)⟩) m0 hf0 rfl
 refine (rshVU_g_spec (C := Now hB) (oz := oz) (c := c) hq0_.1 hzl hzm (fun h_ => hq0_.2 h_.2) hzd hfit hs0 hs hn).mono ?_
 rintro ex w3 ⟨rs, co, rfl, hk, hw0, hrl, hrd, hv⟩
 have hkF_ := hR.keepN hk (all_cons hq0_.2 all_no)
 have hR_ : Rel (Grow _ _ w3) w3 e2 [] [⟨0, 102, 1, N, (ints .u64 (put zs oz rs))⟩] w3 := hR.turnedN hk (all_cons hq0_.2 all_no) all_no (all_cons ⟨⟨_, m0, rfl⟩, .inr (by have hl_ := hR.rowLen (y := ⟨0, 102, 1, N, (ints .u64 zs)⟩) m0; dsimp only at hl_; rw [show e2.r 0 = _ from hf0]; exact ownsRow_fullN hw0 (by rw [ints_length, put_length (by omega)]; exact hzl) (hzm))⟩ all_no)
 have hB_ := hB.nextF hR hkF_
 replace hR := hR_; clear hR_
 replace hB := hB_; clear hB_ hk hkF_ hq0_ hw0
 refine ⟨_, rfl, ?_⟩
 replace hI := hI.pt 10 (vU co) [10, 9, 8, 7]
 refine pZ tab [4] [] 1 [(6, vU co)] [] hR hI fun e4 a4 w4 hag hR hI => ?_
 have hA := hag
 refine ops_nil (then_n ?_)
 refine wp_ret (oN tab [vU co] hR hI ?_)
 replace hf0 := tf hA hf0
 replace hg0 := tg hA hg0
 exact ⟨rs, co, rfl, hB.fin hR, (hR.rowFin (y := ⟨0, 102, 1, N, (ints .u64 (put zs oz rs))⟩) m0 hf0 rfl hg0), hrl, hrd, hv⟩

theorem greaterThan_spec {C : Nat → Prop} {w : World} {x1 x2 y1 y2 : Nat} (hx1 : x1 < 18446744073709551616) (hx2 : x2 < 18446744073709551616) (hy1 : y1 < 18446744073709551616) (hy2 : y2 < 18446744073709551616) :
    Calls P 115 #[.int .u64 (x1 : Int), .int .u64 (x2 : Int), .int .u64 (y1 : Int), .int .u64 (y2 : Int)] w fun ex w' => ex = .returned (.bool (decide (18446744073709551616 * y1 + y2 < 18446744073709551616 * x1 + x2))) ∧ KS w w' := by
 refine dN (C := C) [vU x1, vU x2, vU y1, vU y2] 22 4 Tryz.func115 fun a_ hI hR hB => ?_
 replace hI : Is 22 [] e0 [(0, vU x1), (1, vU x2), (2, vU y1), (3, vU y2)] a_ := hI
 refine rZ tab 0 [] [0, 1, 2, 3] hR hI fun e1 a1 w1 hag hR hI => ?_
 refine rK tab 0 [(11, .sym), (12, .sym)] [4, 5, 6, 7, 8, 9, 10, 11] [(8, vB ((decide ((x1 : Int) > (y1 : Int))) || (((x1 : Int) == (y1 : Int)) && (decide ((x2 : Int) > (y2 : Int))))))] [] [] [] [] [] 0 hR hI (.cons (rfl : (decide ((x1 : Int) > (y1 : Int))) = (decide ((x1 : Int) > (y1 : Int)))) (.cons (rfl : (decide ((x1 : Int) > (y1 : Int))) = (decide ((x1 : Int) > (y1 : Int)))) (.cons (rfl : (decide ((x1 : Int) > (y1 : Int))) = (decide ((x1 : Int) > (y1 : Int)))) (.cons (rfl : (decide ((x1 : Int) > (y1 : Int))) = (decide ((x1 : Int) > (y1 : Int)))) (.cons (rfl : (decide ((x1 : Int) > (y1 : Int))) = (decide ((x1 : Int) > (y1 : Int)))) (.cons (rfl : (decide ((x1 : Int) > (y1 : Int))) = (decide ((x1 : Int) > (y1 : Int)))) (.cons (rfl : (((decide ((x1 : Int) > (y1 : Int))) == false) && (((x1 : Int) == (y1 : Int)) == true)) = (((decide ((x1 : Int) > (y1 : Int))) == false) && (((x1 : Int) == (y1 : Int)) == true))) (.cons (rfl : (((decide ((x1 : Int) > (y1 : Int))) == false) && (((x1 : Int) == (y1 : Int)) == true)) = (((decide ((x1 : Int) > (y1 : Int))) == false) && (((x1 : Int) == (y1 : Int)) == true))) (.cons (rfl : (((decide ((x1 : Int) > (y1 : Int))) == false) && (((x1 : Int) == (y1 : Int)) == true)) = (((decide ((x1 : Int) > (y1 : Int))) == false) && (((x1 : Int) == (y1 : Int)) == true))) (.cons (rfl : (decide ((x1 : Int) > (y1 : Int))) = (decide ((x1 : Int) > (y1 : Int)))) (.cons (rfl : (decide ((x1 : Int) > (y1 : Int))) = (decide ((x1 : Int) > (y1 : Int)))) (.cons (rfl : (decide ((x1 : Int) > (y1 : Int))) = (decide ((x1 : Int) > (y1 : Int)))) (.cons (rfl : (decide ((x1 : Int) > (y1 : Int))) = (decide ((x1 : Int) > (y1 : Int)))) (.cons (fun (hg : ((decide ((x1 : Int) > (y1 : Int))) == false) = true) => have hg := gd_f hg; (by first | exact (by intro b_; cases b_ <;> rfl : ∀ b_ : Bool, (b_ == true) = b_) _ | exact (by intro b_; cases b_ <;> rfl : ∀ b_ : Bool, (b_ == false) = !b_) _ | exact Bool.beq_true _ | exact Bool.beq_false _ | rfl | simp_all : ((((decide ((x1 : Int) > (y1 : Int))) == false) && (((x1 : Int) == (y1 : Int)) == true)) == true) = ((x1 : Int) == (y1 : Int)))) (.cons (by first | exact (by intro b_; cases b_ <;> rfl : ∀ b_ : Bool, (b_ == true) = b_) _ | exact (by intro b_; cases b_ <;> rfl : ∀ b_ : Bool, (b_ == false) = !b_) _ | exact Bool.beq_true _ | exact Bool.beq_false _ | rfl | simp_all : ((decide ((x1 : Int) > (y1 : Int))) == false) = !(decide ((x1 : Int) > (y1 : Int)))) .nil))))))))))))))) fun e2 a2 w2 hag hR hI => ?_
 refine wp_ret (oN tab [vB ((decide ((x1 : Int) > (y1 : Int))) || (((x1 : Int) == (y1 : Int)) && (decide ((x2 : Int) > (y2 : Int)))))] hR hI ?_)
 have hb_ : ((decide ((x1 : Int) > (y1 : Int))) || (((x1 : Int) == (y1 : Int)) && (decide ((x2 : Int) > (y2 : Int))))) = decide (18446744073709551616 * y1 + y2 < 18446744073709551616 * x1 + x2) := by rw [Bool.eq_iff_iff]; simp only [Bool.or_eq_true, Bool.and_eq_true, decide_eq_true_eq, beq_iff_eq]; omega
 exact ⟨by rw [← hb_]; rfl, hB.fin hR⟩

end Go.Proofs.YtmendapdibnbdaaGreatDoor.Stride
