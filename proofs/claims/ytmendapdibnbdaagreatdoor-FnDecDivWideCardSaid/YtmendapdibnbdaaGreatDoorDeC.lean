/- Walks of the program's functions, printed by a program of mine (walk.py) over the words of Stride: each function's contract. -/
import Derived.Test.YtmendapdibnbdaaGreatDoorDeB
import Derived.LaidEqlPtr
namespace Go.Proofs.YtmendapdibnbdaaGreatDoor.Stride
open Go Go.RowKit Go.Proofs.YtmendapdibnbdaaGreatDoor.Mag
set_option linter.unusedVariables false
set_option linter.unusedSimpArgs false
set_option maxHeartbeats 4000000
set_option maxRecDepth 100000
theorem divWVW_spec {C : Nat → Prop} {w : World} {g N c n : Nat} {zs : List Nat} {y : Nat} (hz : w.heap[g]? = some (.cells (ints .u64 zs).toArray 102)) (hzl : zs.length = N) (hzm : N ≤ 9223372036854775807) (hCg : ¬ C g) (hzd : Ndig zs) (hfit : n ≤ N) (hn : 0 < n) (hy : 0 < y) (hyb : y < 18446744073709551616) :
    Calls P 79 #[.slice (some ⟨g, 0, none⟩) n c, .int .u64 0, .slice (some ⟨g, 0, none⟩) n c, .int .u64 (y : Int)] w fun ex w' => ∃ (qs : List Nat) (r : Nat), ex = .returned (.int .u64 (r : Int)) ∧ Keep (ButN [g] w) w w' ∧ w'.heap[g]? = some (.cells (ints .u64 (put zs 0 qs)).toArray 102) ∧ qs.length = n ∧ Ndig qs ∧ r < y ∧ nval qs * y + r = nval (seg zs 0 n) := by
 refine doorN (e := (e0.addR 0 (.slice (some ⟨g, 0, none⟩) N N))) (vs := [.rsl 0 0 n c, .v (.int .u64 0), .rsl 0 0 n c, vU y]) (n := 54) (m := 4) Tryz.func79 rfl rfl rfl (by decide) fun a_ hI => ?_
 replace hI : Is 54 [] (e0.addR 0 (.slice (some ⟨g, 0, none⟩) N N)) [(0, .rsl 0 0 n c), (1, .v (.int .u64 0)), (2, .rsl 0 0 n c), (3, vU y)] a_ := hI
 have hf0 : Full (e0.addR 0 (.slice (some ⟨g, 0, none⟩) N N)) 0 N := rfl; have hg0 : headOf ((e0.addR 0 (.slice (some ⟨g, 0, none⟩) N N)).r 0) = g := rfl
 have hR : Rel (ButN [g] w) w (e0.addR 0 (.slice (some ⟨g, 0, none⟩) N N)) [] [⟨0, 102, 1, N, (ints .u64 zs)⟩] w := Rel.startN (fun k_ h_ => h_.1) all_no (all_cons ⟨ownsRow_fullN hz (by first | exact hzl | (rw [ints_length]; exact hzl)) hzm, fun g_ he_ => by cases he_; exact (fun hm_ => hm_.2 m0)⟩ all_no) all_no all_no (all_cons (all_cons (fun hn_ => absurd rfl hn_) all_no) all_no)
 have hB : BaseD (ButN [g] w) C w C (ButN [g] w) w := BaseD.start (fun k_ hC_ hlt_ => ⟨hlt_, notin2 (fun he_ => hCg (he_ ▸ hC_)) (fun hm_ => by cases hm_)⟩)
 have hul : (seg zs 0 n).length = n := seg_length (by omega)
 have hud : Ndig (seg zs 0 n) := seg_dig hzd _ _
 refine rZ tab 1 [] [0, 1, 2, 3] hR hI fun e1 a1 w1 hag hR hI => ?_
 have hA := hag
 refine rZ tab 1 [(8, .v (.int .u64 0))] [0, 2, 3] hR hI fun e2 a2 w2 hag hR hI => ?_
 replace hA := hA.trans hag (by decide)
 refine wp_seq ?_
 refine rZ tab 1 [(16, vB ((n : Int) == (1 : Int)))] [8, 0, 2, 3] hR hI fun e3 a3 w3 hag hR hI => ?_
 replace hA := hA.trans hag (by decide)
 refine cnd (b := ((n : Int) == (1 : Int))) hI (by kernel_rfl) (fun hc4 => ?_) (fun hc4 => ?_)
 ·
  replace hI := hI.rb 16 hc4
  try simp only [tolds] at hc4
  refine wp_seq (reg (is := [0, 1, 2, 3, 4, 5, 6, 7, 8, 9, 10]) (by kernel_rfl) ?_)
  refine pK tab [0, 1, 2, 3, 4] [5, 6, 7, 8, 9, 10] 1 [(3, .val (vU (zs.getD 0 0)))] [] [(22, vU y), (21, vU (zs.getD 0 0)), (18, .v (.int .u64 0))] [0] [] [] [] [0] 1 hR hI (.cons (by omega : (0 : Int) ≤ (0 : Int) ∧ (0 : Int) < (n : Int)) (.cons (ints_get (k := .u64) (xs := zs) (i := 0) (by omega)) (.cons (by omega : 0 < N * 1) .nil))) fun e5 a5 w5 hag hR hI => ?_
  replace hA := hA.trans hag (by decide)
  refine cO [.v (.int .u64 0), vU (zs.getD 0 0), vU y] hI Tryz.func105 ?_
  rw [show zs.getD (0 + 0) 0 = (seg zs 0 n).getD 0 0 by rw [seg_get (by omega)]]
  refine (bitsDivz_spec (C := C) (lo := (seg zs 0 n).getD 0 0) (ndig_get hud 0) hy hyb).mono ?_
  rintro ex w6 ⟨rfl, hk⟩
  replace hR := hR.same hk; clear hk
  refine ⟨_, rfl, ?_⟩
  replace hI := hI.pt 23 (.v (.tuple #[.int .u64 (((seg zs 0 n).getD 0 0 / y : Nat) : Int), .int .u64 (((seg zs 0 n).getD 0 0 % y : Nat) : Int)])) [23, 22, 21, 18, 0]
  refine pZ tab [6, 7, 8, 9, 10] [] 1 [(10, vU ((seg zs 0 n).getD 0 0 % y)), (9, vU ((seg zs 0 n).getD 0 0 / y))] [0] hR hI fun e7 a7 w7 hag hR hI => ?_
  replace hA := hA.trans hag (by decide)
  refine ops_nil (then_n ?_)
  refine rK tab 1 [] [] [] [10] [] [] [⟨0, 102, 1, N, ((ints .u64 zs).set 0 (.int .u64 (((seg zs 0 n).getD 0 0 / y : Nat) : Int)))⟩] [] 1 hR hI (.cons (by omega : (0 : Int) ≤ (0 : Int) ∧ (0 : Int) < (n : Int)) (.cons (by omega : 0 < N * 1) .nil)) fun e8 a8 w8 hag hR hI => ?_
  replace hA := hA.trans hag (by decide)
  rw [ints_set] at hR
  rw [(by rw [(put_nil (xs := zs) (o := 0)).symm]; exact put_snoc (xs := zs) (zs := []) (o := 0) (by simp only [List.length_nil]; omega) : (zs.set 0 ((seg zs 0 n).getD 0 0 / y)) = put zs 0 [(seg zs 0 n).getD 0 0 / y])] at hR
  refine rZ tab 1 [(8, vU ((seg zs 0 n).getD 0 0 % y))] [] hR hI fun e9 a9 w9 hag hR hI => ?_
  replace hA := hA.trans hag (by decide)
  refine wp_ret ?_
  refine ret_then ?_
  refine oN tab [vU ((seg zs 0 n).getD 0 0 % y)] hR hI ?_
  replace hf0 := tf hA hf0
  replace hg0 := tg hA hg0
  have hl1 : n = 1 := by omega
  exact ⟨[(seg zs 0 n).getD 0 0 / y], _, rfl, hB.fin hR, (hR.rowFin (y := ⟨0, 102, 1, N, (ints .u64 (put zs 0 [(seg zs 0 n).getD 0 0 / y]))⟩) m0 hf0 rfl hg0), hl1.symm, (fun d h => by rw [List.mem_singleton] at h; rw [h]; exact Nat.lt_of_le_of_lt (Nat.div_le_self _ _) (ndig_get hud 0)), Nat.mod_lt _ hy, by rw [nval_one (hul.trans hl1)]; simp only [nval, Nat.mul_zero, Nat.add_zero]; rw [Nat.mul_comm]; exact Nat.div_add_mod _ _⟩
 ·
  replace hI := hI.rb 16 hc4
  try simp only [tolds] at hc4
  refine wp_skip ?_
  refine then_n ?_
  refine wp_seq (reg (is := [0, 1, 2]) (by kernel_rfl) ?_)
  refine pZ tab [0] [1, 2] 1 [(30, vU y)] [8, 0, 2, 3] hR hI fun e10 a10 w10 hag hR hI => ?_
  replace hA := hA.trans hag (by decide)
  refine cO [vU y] hI Tryz.func106 ?_
  refine (reciprocalWord_spec (C := C) hy hyb).mono ?_
  rintro ex w11 ⟨m, rfl, hk, hm, hmb⟩
  replace hR := hR.same hk; clear hk
  refine ⟨_, rfl, ?_⟩
  replace hI := hI.pt 31 (vU m) [31, 30, 8, 0, 2, 3]
  refine pZ tab [2] [] 1 [(11, vU m)] [8, 0, 2, 3] hR hI fun e12 a12 w12 hag hR hI => ?_
  replace hA := hA.trans hag (by decide)
  refine ops_nil (then_n ?_)
  refine wp_seq ?_
  refine rK tab 1 [(2, .eq (.int .i64 ((n : Int) - 1)))] [] [(12, .v (.int .i64 ((n : Int) - 1)))] [11, 8, 0, 2, 3] [] [] [] [0] 1 hR hI (.cons (congrArg (Value.int .i64) (by rw [wrap_inR (inR_i64 (by omega))] : IntKind.i64.wrap ((n : Int) - (1 : Int)) = ((n : Int) - 1))) .nil) fun e13 a13 w13 hag hR hI => ?_
  replace hA := hA.trans hag (by decide)
  refine wp_block ?_
  rw [(put_nil.symm : zs = put zs (0 + n) [])] at hR
  replace hf0 := tf hA hf0
  replace hg0 := tg hA hg0
  refine lp (γ := Nat × Nat × List Nat) (fun (J, r, qs) => (⟨[(0, .rsl 0 0 n c), (2, .rsl 0 0 n c), (3, vU y), (8, vU r), (11, vU m), (12, .v (.int .i64 ((J : Int) - 1)))], [], [⟨0, 102, 1, N, (ints .u64 (put zs (0 + J) qs))⟩], 1⟩ : Sy)) (fun (J, r, qs) e => ((Full e 0 N) ∧ (headOf (e.r 0) = g)) ∧ (J ≤ n ∧ qs.length = n - J ∧ Ndig qs ∧ r < y ∧ nval qs * y + r = nval ((seg zs 0 n).drop J))) (fun (J, r, qs) => J) (n, 0, []) (⟨⟨hf0, hg0⟩, ⟨by omega, by rw [List.length_nil]; omega, (fun d h => by cases h), hy, by rw [List.drop_of_length_le (by omega)]; simp [nval]⟩⟩)
    (hR.sel [] [0] (by kernel_rfl) (by kernel_rfl)) (hI.sel [0, 2, 3, 8, 11, 12] (by kernel_rfl)) ?_
  clear hR hI
  rintro ⟨J, r, qs⟩ e14 a14 w14 hp hR hI
  dsimp only at hp hR hI
  obtain ⟨⟨hf0, hg0⟩, hp⟩ := hp
  obtain ⟨hJ, hql, hqd, hr, hv⟩ := hp
  have hpl : (put zs (0 + J) qs).length = N := by rw [put_length (by omega)]; exact hzl
  refine wp_seq ?_
  refine rZ tab 1 [(36, vB (decide (((J : Int) - 1) ≥ (0 : Int))))] [0, 2, 3, 8, 11, 12] hR hI fun e15 a15 w15 hag hR hI => ?_
  have hA := hag
  refine cnd (b := decide (((J : Int) - 1) ≥ (0 : Int))) hI (by kernel_rfl) (fun hc16 => ?_) (fun hc16 => ?_)
  ·
   replace hI := hI.rb 36 hc16
   try simp only [tolds] at hc16
   replace hI := hI.re 12 (vI (J - 1)) rfl (congrArg (Value.int .i64) (by omega))
   refine wp_skip ?_
   refine then_n ?_
   refine wp_seq ?_
   refine wp_block ?_
   refine reg (is := [0, 1, 2, 3, 4, 5, 6, 7, 8, 9, 10, 11, 12, 13, 14, 15]) (by kernel_rfl) ?_
   refine pK tab [0, 1, 2, 3, 4, 5, 6, 7, 8] [9, 10, 11, 12, 13, 14, 15] 1 [(6, .val (vU ((put zs (0 + J) qs).getD (0 + (J - 1)) 0)))] [] [(48, vU m), (47, vU y), (46, vU ((put zs (0 + J) qs).getD (0 + (J - 1)) 0)), (42, vU r), (41, vI (J - 1)), (40, .rsl 0 0 n c)] [12, 0, 2, 3, 8, 11] [] [] [] [0] 1 hR hI (.cons (by omega : (0 : Int) ≤ ((J - 1 : Nat) : Int) ∧ ((J - 1 : Nat) : Int) < (n : Int)) (.cons (ints_get (k := .u64) (xs := (put zs (0 + J) qs)) (i := 0 + (J - 1)) (by omega)) (.cons (by omega : 0 + (J - 1) < N * 1) .nil))) fun e17 a17 w17 hag hR hI => ?_
   replace hA := hA.trans hag (by decide)
   refine cO [vU r, vU ((put zs (0 + J) qs).getD (0 + (J - 1)) 0), vU y, vU m] hI Tryz.func107 ?_
   rw [show (put zs (0 + J) qs).getD (0 + (J - 1)) 0 = (seg zs 0 n).getD (J - 1) 0 by rw [put_getD_lt (by omega) (by omega), seg_get (by omega)]]
   refine (divWW_spec (C := C) (x1 := r) (x0 := (seg zs 0 n).getD (J - 1) 0) hr (ndig_get hud _) hy hyb hm hmb).mono ?_
   rintro ex w18 ⟨q, r2, rfl, hk, hq, hr2, hqb⟩
   replace hR := hR.same hk; clear hk
   refine ⟨_, rfl, ?_⟩
   replace hI := hI.pt 49 (.v (.tuple #[.int .u64 (q : Int), .int .u64 (r2 : Int)])) [49, 48, 47, 46, 42, 41, 40, 12, 0, 2, 3, 8, 11]
   refine pK tab [10, 11, 12, 13, 14, 15] [] 1 [] [] [(8, vU r2)] [12, 0, 2, 3, 11] [] [] [⟨0, 102, 1, N, ((ints .u64 (put zs (0 + J) qs)).set (0 + (J - 1)) (.int .u64 (q : Int)))⟩] [] 1 hR hI (.cons (by omega : (0 : Int) ≤ ((J - 1 : Nat) : Int) ∧ ((J - 1 : Nat) : Int) < (n : Int)) (.cons (by omega : 0 + (J - 1) < N * 1) .nil)) fun e19 a19 w19 hag hR hI => ?_
   replace hA := hA.trans hag (by decide)
   rw [ints_set] at hR
   refine ops_nil ?_
   rw [(by rw [show 0 + J = 0 + (J - 1) + 1 by omega]; exact put_cons (by omega) : ((put zs (0 + J) qs).set (0 + (J - 1)) q) = put zs (0 + (J - 1)) (q :: qs))] at hR
   refine normal_block ?_
   refine then_n ?_
   refine aK tab 1 [(1, .nw)] [] [(12, .v (.int .i64 (((J - 1 : Nat) : Int) - (1 : Int))))] [8, 0, 2, 3, 11] [] [] [] [0] 1 hR hI (.cons (inR_i64 (n := ((J - 1 : Nat) : Int) - (1 : Int)) (by omega)) .nil) fun e20 a20 w20 hag hR hI => ?_
   replace hA := hA.trans hag (by decide)
   refine then_n ?_
   replace hf0 := tf hA hf0
   replace hg0 := tg hA hg0
   exact ⟨(J - 1, r2, q :: qs), e20, ⟨⟨hf0, hg0⟩, ⟨by omega, by rw [List.length_cons]; omega, all_cons hqb hqd, hr2, dvw_step (by omega) hv hq⟩⟩, by (try dsimp only); omega, hR.sel [] [0] (by kernel_rfl) (by kernel_rfl), hI.sel [0, 2, 3, 8, 11, 12] (by kernel_rfl)⟩
  ·
   replace hI := hI.rb 36 hc16
   try simp only [tolds] at hc16
   refine wp_exit ?_
   refine exit_then ?_
   refine exit_then ?_
   refine exit_hit ?_
   refine then_n ?_
   have hJ0 : J = 0 := by omega
   rw [(by rw [hJ0] : (put zs (0 + J) qs) = put zs 0 qs)] at hR
   refine rZ tab 1 [] [8] hR hI fun e21 a21 w21 hag hR hI => ?_
   replace hA := hA.trans hag (by decide)
   refine wp_ret (oN tab [vU r] hR hI ?_)
   replace hf0 := tf hA hf0
   replace hg0 := tg hA hg0
   exact ⟨qs, r, rfl, hB.fin hR, (hR.rowFin (y := ⟨0, 102, 1, N, (ints .u64 (put zs 0 qs))⟩) m0 hf0 rfl hg0), by omega, hqd, hr, by rw [hv, hJ0, List.drop_zero]⟩

end Go.Proofs.YtmendapdibnbdaaGreatDoor.Stride
