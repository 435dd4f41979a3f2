/- Walks of the program's functions, printed by a program of mine (walk.py) over the words of Stride: each function's contract. -/
import Derived.Test.YtmendapdibnbdaaGreatDoorDeA
import Derived.LaidEqlPtr
namespace Go.Proofs.YtmendapdibnbdaaGreatDoor.Stride
open Go Go.RowKit Go.Proofs.YtmendapdibnbdaaGreatDoor.Mag
set_option linter.unusedVariables false
set_option linter.unusedSimpArgs false
set_option maxHeartbeats 4000000
set_option maxRecDepth 100000
theorem mulAddVWW_g_spec {C : Nat → Prop} {w : World} {g N oz c : Nat} {zs xs : List Nat} {ad : Option Addr} {xc y r : Nat} (hz : w.heap[g]? = some (.cells (ints .u64 zs).toArray 102)) (hzl : zs.length = N) (hzm : N ≤ 9223372036854775807) (hCg : ¬ C g) (hx : Sl .u64 18446744073709551616 C w ad xc xs) (hfit : oz + xs.length ≤ N) (hy : y < 18446744073709551616) (hr : r < 18446744073709551616) :
    Calls P 147 #[.slice (some ⟨g, oz, none⟩) xs.length c, .slice ad xs.length xc, .int .u64 (y : Int), .int .u64 (r : Int)] w fun ex w' => ∃ (rs : List Nat) (co : Nat), ex = .returned (.int .u64 (co : Int)) ∧ Keep (ButN [g] w) w w' ∧ w'.heap[g]? = some (.cells (ints .u64 (put zs oz rs)).toArray 102) ∧ rs.length = xs.length ∧ Ndig rs ∧ co < 18446744073709551616 ∧ nval rs + pn xs.length * co = nval xs * y + r := by
 refine doorN (e := (e0.addR 0 (.slice (some ⟨g, 0, none⟩) N N))) (vs := [.rsl 0 oz xs.length c, vS ad xs.length xc, vU y, vU r]) (n := 36) (m := 4) Tryz.func147 rfl rfl rfl (by decide) fun a_ hI => ?_
 replace hI : Is 36 [] (e0.addR 0 (.slice (some ⟨g, 0, none⟩) N N)) [(0, .rsl 0 oz xs.length c), (1, vS ad xs.length xc), (2, vU y), (3, vU r)] a_ := hI
 have hf0 : Full (e0.addR 0 (.slice (some ⟨g, 0, none⟩) N N)) 0 N := rfl; have hg0 : headOf ((e0.addR 0 (.slice (some ⟨g, 0, none⟩) N N)).r 0) = g := rfl
 have hR : Rel (ButN [g] w) w (e0.addR 0 (.slice (some ⟨g, 0, none⟩) N N)) [] [⟨0, 102, 1, N, (ints .u64 zs)⟩] w := Rel.startN (fun k_ h_ => h_.1) all_no (all_cons ⟨ownsRow_fullN hz (by first | exact hzl | (rw [ints_length]; exact hzl)) hzm, fun g_ he_ => by cases he_; exact (fun hm_ => hm_.2 m0)⟩ all_no) all_no all_no (all_cons (all_cons (fun hn_ => absurd rfl hn_) all_no) all_no)
 have hB : BaseD (ButN [g] w) C w C (ButN [g] w) w := BaseD.start (fun k_ hC_ hlt_ => ⟨hlt_, notin2 (fun he_ => hCg (he_ ▸ hC_)) (fun hm_ => by cases hm_)⟩)
 have hrx := hx.room; have hmx := hx.max
 refine rZ tab 1 [] [0, 1, 2, 3] hR hI fun e1 a1 w1 hag hR hI => ?_
 have hA := hag
 refine wp_seq ?_
 refine rK tab 1 [(4, .eq (.bool false))] [] [(14, vB false)] [0, 1, 2, 3] [] [] [] [0] 1 hR hI (.cons (congrArg Value.bool (bne_self_eq_false _ : ((xs.length : Int) != (xs.length : Int)) = false)) .nil) fun e2 a2 w2 hag hR hI => ?_
 replace hA := hA.trans hag (by decide)
 refine cnd_f hI (by kernel_rfl) ?_
 refine wp_skip ?_
 refine then_n ?_
 refine rZ tab 1 [(8, vU r)] [0, 1, 2] hR hI fun e3 a3 w3 hag hR hI => ?_
 replace hA := hA.trans hag (by decide)
 refine wp_seq ?_
 refine rZ tab 1 [(19, .v (.int .i64 0)), (18, vI xs.length)] [8, 0, 1, 2] hR hI fun e4 a4 w4 hag hR hI => ?_
 replace hA := hA.trans hag (by decide)
 refine wp_block ?_
 rw [(put_nil.symm : zs = put zs oz [])] at hR
 replace hf0 := tf hA hf0
 replace hg0 := tg hA hg0
 refine lp (γ := Nat × List Nat × Nat) (fun (i, rs, cc) => (⟨[(0, .rsl 0 oz xs.length c), (1, vS ad xs.length xc), (2, vU y), (8, vU cc), (18, vI xs.length), (19, vI i)], [], [⟨0, 102, 1, N, (ints .u64 (put zs oz rs))⟩], 1⟩ : Sy)) (fun (i, rs, cc) e => ((Full e 0 N) ∧ (headOf (e.r 0) = g)) ∧ (i ≤ xs.length ∧ rs.length = i ∧ Ndig rs ∧ cc < 18446744073709551616 ∧ nval rs + pn i * cc = nval (xs.take i) * y + r)) (fun (i, rs, cc) => xs.length - i) (0, [], r) (⟨⟨hf0, hg0⟩, ⟨by omega, rfl, (fun d h => by cases h), hr, by simp [nval, pn]⟩⟩)
   (hR.sel [] [0] (by kernel_rfl) (by kernel_rfl)) (hI.sel [0, 1, 2, 8, 18, 19] (by kernel_rfl)) ?_
 clear hR hI
 rintro ⟨i, rs, cc⟩ e5 a5 w5 hp hR hI
 dsimp only at hp hR hI
 obtain ⟨⟨hf0, hg0⟩, hp⟩ := hp
 obtain ⟨hi, hrl, hrd, hcc, hv⟩ := hp
 have hpl : (put zs oz rs).length = N := by rw [put_length (by omega)]; exact hzl
 refine rZ tab 1 [(20, vB (decide ((i : Int) < (xs.length : Int))))] [0, 1, 2, 8, 18, 19] hR hI fun e6 a6 w6 hag hR hI => ?_
 have hA := hag
 refine wp_seq ?_
 refine cnd (b := decide ((i : Int) < (xs.length : Int))) hI (by kernel_rfl) (fun hc7 => ?_) (fun hc7 => ?_)
 ·
  replace hI := hI.rb 20 hc7
  try simp only [tolds] at hc7
  refine wp_skip ?_
  refine then_n ?_
  refine wp_seq ?_
  refine wp_block ?_
  refine rZ tab 1 [(9, vI i)] [0, 1, 2, 8, 18, 19] hR hI fun e8 a8 w8 hag hR hI => ?_
  replace hA := hA.trans hag (by decide)
  refine reg (is := [0, 1, 2, 3, 4, 5, 6, 7, 8, 9, 10, 11, 12, 13, 14]) (by kernel_rfl) ?_
  refine pK tab [0, 1, 2, 3, 4, 5, 6, 7] [8, 9, 10, 11, 12, 13, 14] 1 [(5, .val (vU (xs.getD i 0)))] [] [(30, vU cc), (29, vU y), (28, vU (xs.getD i 0)), (24, vI i), (23, .rsl 0 oz xs.length c)] [0, 1, 2, 8, 18, 19] [] [] [] [0] 1 hR hI (.cons (by omega : (0 : Int) ≤ (i : Int) ∧ (i : Int) < (xs.length : Int)) (.cons (nats_some (i := i) (hx.cells.mono hB.cls) (by omega)) (.cons (nats_load (i := i) (m := 1) (hx.cells.mono hB.cls) (by omega)) .nil))) fun e9 a9 w9 hag hR hI => ?_
  replace hA := hA.trans hag (by decide)
  refine cO [vU (xs.getD i 0), vU y, vU cc] hI Tryz.func169 ?_
  refine (mulAddWWW_spec (C := C) (x := xs.getD i 0) (y := y) (c := cc) (ndig_get hx.dig i) hy hcc).mono ?_
  rintro ex w10 ⟨h, l, rfl, hk, he, hhb, hlb⟩
  replace hR := hR.same hk; clear hk
  refine ⟨_, rfl, ?_⟩
  replace hI := hI.pt 31 (.v (.tuple #[.int .u64 (h : Int), .int .u64 (l : Int)])) [31, 30, 29, 28, 24, 23, 0, 1, 2, 8, 18, 19]
  refine pK tab [9, 10, 11, 12, 13, 14] [] 1 [] [] [(8, vU h)] [0, 1, 2, 18, 19] [] [] [⟨0, 102, 1, N, ((ints .u64 (put zs oz rs)).set (oz + i) (.int .u64 (l : Int)))⟩] [] 1 hR hI (.cons (by omega : (0 : Int) ≤ (i : Int) ∧ (i : Int) < (xs.length : Int)) (.cons (by omega : oz + i < N * 1) .nil)) fun e11 a11 w11 hag hR hI => ?_
  replace hA := hA.trans hag (by decide)
  rw [ints_set] at hR
  refine ops_nil ?_
  rw [(by rw [← hrl]; exact put_snoc (by omega) : ((put zs oz rs).set (oz + i) l) = put zs oz (rs ++ [l]))] at hR
  refine normal_block ?_
  refine then_n ?_
  refine aK tab 1 [(0, .nw)] [] [(19, vI (i + 1))] [8, 0, 1, 2, 18] [] [] [] [0] 1 hR hI (.cons (inR_i64 (n := (i : Int) + (1 : Int)) (by omega)) .nil) fun e12 a12 w12 hag hR hI => ?_
  replace hA := hA.trans hag (by decide)
  refine then_n ?_
  replace hf0 := tf hA hf0
  replace hg0 := tg hA hg0
  exact ⟨(i + 1, rs ++ [l], h), e12, ⟨⟨hf0, hg0⟩, ⟨by omega, by rw [List.length_append, hrl]; rfl, ndig_snoc hrd hlb, hhb, mav_step hrl hv he⟩⟩, by (try dsimp only); omega, hR.sel [] [0] (by kernel_rfl) (by kernel_rfl), hI.sel [0, 1, 2, 8, 18, 19] (by kernel_rfl)⟩
 ·
  replace hI := hI.rb 20 hc7
  try simp only [tolds] at hc7
  refine wp_exit ?_
  refine exit_then ?_
  refine exit_then ?_
  refine exit_hit ?_
  refine then_n ?_
  refine wp_ret (oN tab [vU cc] hR hI ?_)
  replace hf0 := tf hA hf0
  replace hg0 := tg hA hg0
  obtain rfl : i = xs.length := by omega
  exact ⟨rs, cc, rfl, hB.fin hR, (hR.rowFin (y := ⟨0, 102, 1, N, (ints .u64 (put zs oz rs))⟩) m0 hf0 rfl hg0), hrl, hrd, hcc, by rw [hv, List.take_length]⟩

theorem mulAddVWW_spec {C : Nat → Prop} {w : World} {g N oz c : Nat} {zs xs : List Nat} {ad : Option Addr} {xc y r : Nat} (hz : w.heap[g]? = some (.cells (ints .u64 zs).toArray 102)) (hzl : zs.length = N) (hzm : N ≤ 9223372036854775807) (hCg : ¬ C g) (hx : Sl .u64 18446744073709551616 C w ad xc xs) (hfit : oz + xs.length ≤ N) (hy : y < 18446744073709551616) (hr : r < 18446744073709551616) :
    Calls P 116 #[.slice (some ⟨g, oz, none⟩) xs.length c, .slice ad xs.length xc, .int .u64 (y : Int), .int .u64 (r : Int)] w fun ex w' => ∃ (rs : List Nat) (co : Nat), ex = .returned (.int .u64 (co : Int)) ∧ Keep (ButN [g] w) w w' ∧ w'.heap[g]? = some (.cells (ints .u64 (put zs oz rs)).toArray 102) ∧ rs.length = xs.length ∧ Ndig rs ∧ co < 18446744073709551616 ∧ nval rs + pn xs.length * co = nval xs * y + r := by
 refine doorN (e := (e0.addR 0 (.slice (some ⟨g, 0, none⟩) N N))) (vs := [.rsl 0 oz xs.length c, vS ad xs.length xc, vU y, vU r]) (n := 14) (m := 4) Tryz.func116 rfl rfl rfl (by decide) fun a_ hI => ?_
 replace hI : Is 14 [] (e0.addR 0 (.slice (some ⟨g, 0, none⟩) N N)) [(0, .rsl 0 oz xs.length c), (1, vS ad xs.length xc), (2, vU y), (3, vU r)] a_ := hI
 have hf0 : Full (e0.addR 0 (.slice (some ⟨g, 0, none⟩) N N)) 0 N := rfl; have hg0 : headOf ((e0.addR 0 (.slice (some ⟨g, 0, none⟩) N N)).r 0) = g := rfl
 have hR : Rel (ButN [g] w) w (e0.addR 0 (.slice (some ⟨g, 0, none⟩) N N)) [] [⟨0, 102, 1, N, (ints .u64 zs)⟩] w := Rel.startN (fun k_ h_ => h_.1) all_no (all_cons ⟨ownsRow_fullN hz (by first | exact hzl | (rw [ints_length]; exact hzl)) hzm, fun g_ he_ => by cases he_; exact (fun hm_ => hm_.2 m0)⟩ all_no) all_no all_no (all_cons (all_cons (fun hn_ => absurd rfl hn_) all_no) all_no)
 have hB : BaseD (ButN [g] w) C w C (ButN [g] w) w := BaseD.start (fun k_ hC_ hlt_ => ⟨hlt_, notin2 (fun he_ => hCg (he_ ▸ hC_)) (fun hm_ => by cases hm_)⟩)
 refine rZ tab 1 [] [0, 1, 2, 3] hR hI fun e1 a1 w1 hag hR hI => ?_
 have hA := hag
 refine wp_seq (reg (is := [0, 1, 2, 3, 4, 5]) (by kernel_rfl) ?_)
 refine pZ tab [0, 1, 2, 3] [4, 5] 1 [(12, vU r), (11, vU y), (10, vS ad xs.length xc), (9, .rsl 0 oz xs.length c)] [] hR hI fun e2 a2 w2 hag hR hI => ?_
 replace hA := hA.trans hag (by decide)
 refine cO [.rsl 0 oz xs.length c, vS ad xs.length xc, vU y, vU r] hI Tryz.func147 ?_
 replace hf0 := tf hA hf0
 replace hg0 := tg hA hg0
 have hq0_ := hR.rowCells (y := ⟨0, 102, 1, N, (ints .u64 zs)⟩) m0 hf0 rfl
 refine (mulAddVWW_g_spec (C := Now hB) (oz := oz) (c := c) hq0_.1 hzl hzm (fun h_ => hq0_.2 h_.2) (hx.now hB hR) hfit hy hr).mono ?_
 rintro ex w3 ⟨rs, co, rfl, hk, hw0, hrl, hrd, hco, hv⟩
 have hkF_ := hR.keepN hk (all_cons hq0_.2 all_no)
 have hR_ : Rel (Grow _ _ w3) w3 e2 [] [⟨0, 102, 1, N, (ints .u64 (put zs oz rs))⟩] w3 := hR.turnedN hk (all_cons hq0_.2 all_no) all_no (all_cons ⟨⟨_, m0, rfl⟩, .inr (by have hl_ := hR.rowLen (y := ⟨0, 102, 1, N, (ints .u64 zs)⟩) m0; dsimp only at hl_; rw [show e2.r 0 = _ from hf0]; exact ownsRow_fullN hw0 (by rw [ints_length, put_length (by omega)]; exact hzl) (hzm))⟩ all_no)
 replace hx := hx.nextF hB hR hkF_
 have hB_ := hB.nextF hR hkF_
 replace hR := hR_; clear hR_
 replace hB := hB_; clear hB_ hk hkF_ hq0_ hw0
 refine ⟨_, rfl, ?_⟩
 replace hI := hI.pt 13 (vU co) [13, 12, 11, 10, 9]
 refine pZ tab [5] [] 1 [(8, vU co)] [] hR hI fun e4 a4 w4 hag hR hI => ?_
 have hA := hag
 refine ops_nil (then_n ?_)
 refine wp_ret (oN tab [vU co] hR hI ?_)
 replace hf0 := tf hA hf0
 replace hg0 := tg hA hg0
 exact ⟨rs, co, rfl, hB.fin hR, (hR.rowFin (y := ⟨0, 102, 1, N, (ints .u64 (put zs oz rs))⟩) m0 hf0 rfl hg0), hrl, hrd, hco, hv⟩

end Go.Proofs.YtmendapdibnbdaaGreatDoor.Stride
