/- Walks of the program's functions, printed by a program of mine (walk.py) over the words of Stride: each function's contract. -/
import Derived.Test.YtmendapdibnbdaaGreatDoorPwA
namespace Go.Proofs.YtmendapdibnbdaaGreatDoor.Stride
open Go Go.RowKit Go.Proofs.YtmendapdibnbdaaGreatDoor.Mag
set_option linter.unusedVariables false
set_option linter.unusedSimpArgs false
set_option maxHeartbeats 4000000
set_option maxRecDepth 100000
theorem aliasNil_spec {C : Nat → Prop} {w : World} {ad : Option Addr} {l c : Nat} :
    Calls P 74 #[.slice none 0 0, .slice ad l c] w fun ex w' => ex = .returned (.bool false) ∧ KS w w' := by
 refine dN (C := C) [vS none 0 0, vS ad l c] 32 2 Tryz.func74 fun a_ hI hR hB => ?_
 replace hI : Is 32 [] e0 [(0, vS none 0 0), (1, vS ad l c)] a_ := hI
 refine rZ tab 0 [] [0, 1] hR hI fun e1 a1 w1 hag hR hI => ?_
 refine regQ_seq tab (by kernel_rfl) (k := 0) (hs := []) (gs := []) (ks := [4])
   (L' := [(4, vB false)]) hR hI (by kernel_rfl) (fun _ _ _ _ _ h => h) (by kernel_rfl)
   .nil (by kernel_rfl) (by kernel_rfl) (fun e2 a2 w2 hag hR hI => ?_)
 refine wp_ret (oN tab [vB false] hR hI ?_)
 exact ⟨rfl, hB.fin hR⟩

theorem makeBig_spec {C : Nat → Prop} {w : World} {ad : Option Addr} {l k n : Nat} (hn : k < n) (hnb : n ≤ 65536) :
    Calls P 78 #[.slice ad l k, .int .i64 (n : Int)] w fun ex w' => ∃ g c, ex = .returned (.slice (some ⟨g, 0, none⟩) n c) ∧ KS w w' ∧ w.heap.size ≤ g ∧ w'.heap[g]? = some (.cells (ints .u64 (List.replicate c 0)).toArray 102) ∧ n ≤ c ∧ c ≤ n + 4 := by
 refine dN (C := C) [vS ad l k, vI n] 19 2 Tryz.func78 fun a_ hI hR hB => ?_
 replace hI : Is 19 [] e0 [(0, vS ad l k), (1, vI n)] a_ := hI
 refine rZ tab 0 [] [0, 1] hR hI fun e1 a1 w1 hag hR hI => ?_
 refine wp_seq ?_
 refine rK tab 0 [(3, .eq (.bool false))] [] [(8, vB false)] [0, 1] [] [] [] [] 0 hR hI (.cons (congrArg Value.bool (decide_eq_false (by omega) : (decide ((n : Int) ≤ (k : Int))) = false)) .nil) fun e2 a2 w2 hag hR hI => ?_
 refine cnd_f hI (by kernel_rfl) ?_
 refine wp_skip ?_
 refine then_n ?_
 refine wp_seq ?_
 refine rZ tab 0 [(13, vB ((n : Int) == (1 : Int)))] [1] hR hI fun e3 a3 w3 hag hR hI => ?_
 refine cnd (b := ((n : Int) == (1 : Int))) hI (by kernel_rfl) (fun hc4 => ?_) (fun hc4 => ?_)
 ·
  replace hI := hI.rb 13 hc4
  try simp only [tolds] at hc4
  refine wp_seq (reg (is := [0, 1]) (by kernel_rfl) ?_)
  refine makeFull (kl := .i64) (kc := .i64) (k := 0) (l := 1) (c := 1) tab hR hI rfl rfl (by kernel_rfl) rfl rfl rfl rfl (by kernel_rfl) (by kernel_rfl) (by kernel_rfl) (by omega) (by show 8 * _ ≤ _; omega) (by omega) (fun a5 w5 g5 hge hk hR hI => ?_)
  have hag_ := agree_addR e3 0 (.slice (some ⟨g5, 0, none⟩) 1 1)
  have hf0 : Full (e3.addR 0 (.slice (some ⟨g5, 0, none⟩) 1 1)) 0 1 := full_addR _ _ _ _; have hnew0 : headOf ((e3.addR 0 (.slice (some ⟨g5, 0, none⟩) 1 1)).r 0) = g5 := head_addR _ _ _ _
  rw [show (List.replicate 1 (.int .u64 0) : List Value) = ints .u64 (List.replicate 1 0) from ints_replicate .u64 1 0] at hR
  clear hag_ hk
  replace hI := hI.sl [14, 13, 1] rfl
  refine pZ tab [1] [] 1 [(4, .rsl 0 0 1 1)] [] hR hI fun e6 a6 w6 hag hR hI => ?_
  have hA := hag
  refine ops_nil (then_n ?_)
  refine wp_ret ?_
  refine ret_then ?_
  refine oN tab [.rsl 0 0 1 1] hR hI ?_
  replace hf0 := tf hA hf0
  replace hnew0 := tg hA hnew0
  obtain rfl : n = 1 := by omega
  have hrc_ := hR.rowCells (y := ⟨0, 102, 1, 1, (ints .u64 (List.replicate 1 0))⟩) m0 hf0 rfl
  exact ⟨_, 1, rfl, hB.fin hR, Nat.le_of_not_lt hrc_.2, hrc_.1, by omega, by omega⟩
 ·
  replace hI := hI.rb 13 hc4
  try simp only [tolds] at hc4
  refine wp_skip ?_
  refine then_n ?_
  refine wp_seq (reg (is := [0, 1, 2, 3, 4]) (by kernel_rfl) ?_)
  refine pK tab [0, 1, 2] [3, 4] 0 [(2, .nw)] [] [(17, vI (n + 4)), (15, vI n)] [] [] [] [] [] 0 hR hI (.cons (inR_i64 (n := (n : Int) + (4 : Int)) (by omega)) .nil) fun e7 a7 w7 hag hR hI => ?_
  refine makeFull (kl := .i64) (kc := .i64) (k := 0) (l := n) (c := n + 4) tab hR hI rfl rfl (by kernel_rfl) rfl rfl rfl rfl (by kernel_rfl) (by kernel_rfl) (by kernel_rfl) (by omega) (by show 8 * _ ≤ _; omega) (by omega) (fun a8 w8 g8 hge hk hR hI => ?_)
  have hag_ := agree_addR e7 0 (.slice (some ⟨g8, 0, none⟩) (n + 4) (n + 4))
  have hf0 : Full (e7.addR 0 (.slice (some ⟨g8, 0, none⟩) (n + 4) (n + 4))) 0 (n + 4) := full_addR _ _ _ _; have hnew0 : headOf ((e7.addR 0 (.slice (some ⟨g8, 0, none⟩) (n + 4) (n + 4))).r 0) = g8 := head_addR _ _ _ _
  rw [show (List.replicate (n + 4) (.int .u64 0) : List Value) = ints .u64 (List.replicate (n + 4) 0) from ints_replicate .u64 (n + 4) 0] at hR
  clear hag_ hk
  replace hI := hI.sl [18, 17, 15] rfl
  refine pZ tab [4] [] 1 [(4, .rsl 0 0 n (n + 4))] [] hR hI fun e9 a9 w9 hag hR hI => ?_
  have hA := hag
  refine ops_nil (then_n ?_)
  refine wp_ret (oN tab [.rsl 0 0 n (n + 4)] hR hI ?_)
  replace hf0 := tf hA hf0
  replace hnew0 := tg hA hnew0
  have hrc_ := hR.rowCells (y := ⟨0, 102, 1, (n + 4), (ints .u64 (List.replicate (n + 4) 0))⟩) m0 hf0 rfl
  exact ⟨_, n + 4, rfl, hB.fin hR, Nat.le_of_not_lt hrc_.2, hrc_.1, by omega, by omega⟩

theorem basicMull_spec {C : Nat → Prop} {w : World} {g N nz cz lx ly : Nat} {zs xs ys : List Nat} {ad bd : Option Addr} {xc yc : Nat} (hlx : xs.length = lx) (hly : ys.length = ly) (hz : w.heap[g]? = some (.cells (ints .u64 zs).toArray 102 (0, 0))) (hzl : zs.length = N) (hzm : N ≤ 9223372036854775807) (hCg : ¬ C g) (hzd : Ndig zs) (hx : Sl .u64 18446744073709551616 C w ad xc xs) (hy : Sl .u64 18446744073709551616 C w bd yc ys) (hpos : 0 < lx + ly) (hfit : lx + ly ≤ N) (hnz : lx + ly ≤ nz) (hcz : nz ≤ cz) (hczm : cz ≤ 9223372036854775807) :
  Calls P 135 #[.slice (some ⟨g, 0, none⟩) nz cz, .slice ad lx xc, .slice bd ly yc] w fun ex w' => ∃ rs : List Nat, ex = .returned (.tuple #[]) ∧ Keep (ButN [g] w) w w' ∧ w'.heap[g]? = some (.cells (ints .u64 (put zs 0 rs)).toArray 102 (0, 0)) ∧ rs.length = lx + ly ∧ Ndig rs ∧ nval rs = nval xs * nval ys := by
 subst hlx hly
 exact basicMul_spec hz hzl hzm hCg hzd hx hy hpos hfit hnz hcz hczm

theorem put_take {zs rs : List Nat} {k : Nat} (hr : rs.length = k) : ((put zs 0 rs).drop 0).take k = rs := by
 unfold put
 rw [List.drop_zero, List.take_zero, List.nil_append, List.take_append_of_le_length (by omega), List.take_of_length_le (by omega)]

theorem sqrO_spec {C : Nat → Prop} {w : World} {g g2 N N2 l c n cx : Nat} {zs us : List Nat} {sp : Option Addr} (hz : w.heap[g]? = some (.cells (ints .u64 zs).toArray 102)) (hzl : zs.length = N) (hzm : N ≤ 9223372036854775807) (hCg : ¬ C g) (hu : w.heap[g2]? = some (.cells (ints .u64 us).toArray 102)) (hul : us.length = N2) (hum : N2 ≤ 9223372036854775807) (hCu : ¬ C g2) (hud : Ndig us) (hne : g ≠ g2) (hzd : Ndig zs) (hk1 : Sl .i64 18446744073709551616 C w (some ⟨1, 0, none⟩) 1 [12]) (hk2 : Sl .i64 18446744073709551616 C w (some ⟨2, 0, none⟩) 1 [80]) (hn : 2 ≤ n) (hn8 : n ≤ 11) (hnu : n ≤ N2) (hnc : n ≤ cx) (hcx : cx ≤ 9223372036854775807) (hc : 2 * n ≤ c) (hcN : 2 * n ≤ N) (hcm : c ≤ 9223372036854775807) :
    Calls P 101 #[.slice (some ⟨g, 0, none⟩) l c, .pointer sp, .slice (some ⟨g2, 0, none⟩) n cx] w fun ex w' => ∃ (m : Nat) (rs : List Nat), ex = .returned (.slice (some ⟨g, 0, none⟩) m c) ∧ Keep (ButN [g, g2] w) w w' ∧ w'.heap[g]? = some (.cells (ints .u64 (put zs 0 rs)).toArray 102) ∧ w'.heap[g2]? = some (.cells (ints .u64 us).toArray 102) ∧ rs.length = 2 * n ∧ Ndig rs ∧ m ≤ 2 * n ∧ Ntrim (rs.take m) ∧ nval (rs.take m) = nval ((us.drop 0).take n) * nval ((us.drop 0).take n) := by
 refine doorN (e := ((e0.addR 0 (.slice (some ⟨g, 0, none⟩) N N)).addR 1 (.slice (some ⟨g2, 0, none⟩) N2 N2))) (vs := [.rsl 0 0 l c, .v (.pointer sp), .rsl 1 0 n cx]) (n := 76) (m := 3) Tryz.func101 rfl rfl rfl (by decide) fun a_ hI => ?_
 replace hI : Is 76 [] ((e0.addR 0 (.slice (some ⟨g, 0, none⟩) N N)).addR 1 (.slice (some ⟨g2, 0, none⟩) N2 N2)) [(0, .rsl 0 0 l c), (1, .v (.pointer sp)), (2, .rsl 1 0 n cx)] a_ := hI
 have hf0 : Full ((e0.addR 0 (.slice (some ⟨g, 0, none⟩) N N)).addR 1 (.slice (some ⟨g2, 0, none⟩) N2 N2)) 0 N := rfl; have hg0 : headOf (((e0.addR 0 (.slice (some ⟨g, 0, none⟩) N N)).addR 1 (.slice (some ⟨g2, 0, none⟩) N2 N2)).r 0) = g := rfl
 have hf1 : Full ((e0.addR 0 (.slice (some ⟨g, 0, none⟩) N N)).addR 1 (.slice (some ⟨g2, 0, none⟩) N2 N2)) 1 N2 := rfl; have hg1 : headOf (((e0.addR 0 (.slice (some ⟨g, 0, none⟩) N N)).addR 1 (.slice (some ⟨g2, 0, none⟩) N2 N2)).r 1) = g2 := rfl
 have hR : Rel (ButN [g, g2] w) w ((e0.addR 0 (.slice (some ⟨g, 0, none⟩) N N)).addR 1 (.slice (some ⟨g2, 0, none⟩) N2 N2)) [] [⟨0, 102, 1, N, (ints .u64 zs)⟩, ⟨1, 102, 1, N2, (ints .u64 us)⟩] w := Rel.startN (fun k_ h_ => h_.1) all_no (all_cons ⟨ownsRow_fullN hz (by first | exact hzl | (rw [ints_length]; exact hzl)) hzm, fun g_ he_ => by cases he_; exact (fun hm_ => hm_.2 m0)⟩ (all_cons ⟨ownsRow_fullN hu (by first | exact hul | (rw [ints_length]; exact hul)) hum, fun g_ he_ => by cases he_; exact (fun hm_ => hm_.2 m1)⟩ all_no)) all_no all_no (all_cons (all_cons (fun hn_ => absurd rfl hn_) (all_cons (fun _ g_ h1_ h2_ => hne ((Option.some.inj h1_).trans (Option.some.inj h2_).symm)) all_no)) (all_cons (all_cons (fun _ g_ h1_ h2_ => (Ne.symm hne) ((Option.some.inj h1_).trans (Option.some.inj h2_).symm)) (all_cons (fun hn_ => absurd rfl hn_) all_no)) all_no))
 have hB : BaseD (ButN [g, g2] w) C w C (ButN [g, g2] w) w := BaseD.start (fun k_ hC_ hlt_ => ⟨hlt_, notin2 (fun he_ => hCg (he_ ▸ hC_)) (notin2 (fun he_ => hCu (he_ ▸ hC_)) (fun hm_ => by cases hm_))⟩)
 have hxl_ : ((us.drop 0).take n).length = n := by rw [List.length_take, List.length_drop]; omega
 refine rZ tab 2 [] [0, 1, 2] hR hI fun e1 a1 w1 hag hR hI => ?_
 have hA := hag
 refine rZ tab 2 [(7, vI n)] [0, 1, 2] hR hI fun e2 a2 w2 hag hR hI => ?_
 replace hA := hA.trans hag (by decide)
 refine wp_seq ?_
 refine wp_block ?_
 refine rK tab 2 [(1, .eq (.bool false))] [] [(11, vB false)] [7, 0, 1, 2] [] [] [] [0, 1] 2 hR hI (.cons (congrArg Value.bool (beq_eq_false_iff_ne.2 (by omega) : ((n : Int) == (0 : Int)) = false)) .nil) fun e3 a3 w3 hag hR hI => ?_
 replace hA := hA.trans hag (by decide)
 refine cnd_f hI (by kernel_rfl) ?_
 refine rK tab 2 [(1, .eq (.bool false))] [] [(16, vB false)] [7, 0, 1, 2] [] [] [] [0, 1] 2 hR hI (.cons (congrArg Value.bool (beq_eq_false_iff_ne.2 (by omega) : ((n : Int) == (1 : Int)) = false)) .nil) fun e4 a4 w4 hag hR hI => ?_
 replace hA := hA.trans hag (by decide)
 refine cnd_f hI (by kernel_rfl) ?_
 refine wp_skip ?_
 refine normal_block ?_
 refine then_n ?_
 refine wp_seq ?_
 refine wp_seq (reg (is := [0, 1, 2]) (by kernel_rfl) ?_)
 refine pZ tab [0, 1] [2] 2 [(37, .rsl 1 0 n cx), (36, .rsl 0 0 l c)] [7, 0, 1, 2] hR hI fun e5 a5 w5 hag hR hI => ?_
 replace hA := hA.trans hag (by decide)
 refine cO [.rsl 0 0 l c, .rsl 1 0 n cx] hI Tryz.func74 ?_
 replace hf0 := tf hA hf0
 replace hg0 := tg hA hg0
 replace hf1 := tf hA hf1
 replace hg1 := tg hA hg1
 have hq0_ := hR.rowCells (y := ⟨0, 102, 1, N, (ints .u64 zs)⟩) m0 hf0 rfl
 have hq1_ := hR.rowCells (y := ⟨1, 102, 1, N2, (ints .u64 us)⟩) m1 hf1 rfl
 refine (alias_spec (C := fun _ => False) hq0_.1 hzl hzm hq1_.1 hul hum (hR.ggN m0 m1 (by dsimp only; decide) hf0 hf1) (fun h_ => h_) (fun h_ => h_) (by omega) (by omega) (by omega) (by omega)).mono ?_
 rintro ex w6 ⟨rfl, hk, hw0, hw1⟩
 have hkF_ := hR.keepN hk (all_cons hq0_.2 (all_cons hq1_.2 all_no))
 have hR_ : Rel (Grow _ _ w6) w6 e5 [] [⟨0, 102, 1, N, (ints .u64 zs)⟩, ⟨1, 102, 1, N2, (ints .u64 us)⟩] w6 := hR.turnedN hk (all_cons hq0_.2 (all_cons hq1_.2 all_no)) all_no (all_cons ⟨⟨_, m0, rfl⟩, .inr (by have hl_ := hR.rowLen (y := ⟨0, 102, 1, N, (ints .u64 zs)⟩) m0; dsimp only at hl_; rw [show e5.r 0 = _ from hf0]; exact ownsRow_fullN hw0 (by rw [ints_length]; first | exact hzl | (rw [put_length (by omega)]; exact hzl)) (hzm))⟩ (all_cons ⟨⟨_, m1, rfl⟩, .inr (by have hl_ := hR.rowLen (y := ⟨1, 102, 1, N2, (ints .u64 us)⟩) m1; dsimp only at hl_; rw [show e5.r 1 = _ from hf1]; exact ownsRow_fullN hw1 (by rw [ints_length]; exact hul) (hum))⟩ all_no))
 replace hk1 := hk1.nextF hB hR hkF_
 replace hk2 := hk2.nextF hB hR hkF_
 have hB_ := hB.nextF hR hkF_
 replace hR := hR_; clear hR_
 replace hB := hB_; clear hB_ hk hkF_ hq0_ hw0 hq1_ hw1
 refine ⟨_, rfl, ?_⟩
 replace hI := hI.pt 38 (vB false) [38, 37, 36, 7, 0, 1, 2]
 refine ops_nil (then_n ?_)
 refine cnd_f hI (by kernel_rfl) ?_
 refine wp_skip ?_
 refine then_n ?_
 refine wp_seq (reg (is := [0, 1, 2, 3, 4]) (by kernel_rfl) ?_)
 refine pK tab [0, 1, 2] [3, 4] 2 [(2, .eq (.int .i64 ((2 * n : Nat) : Int)))] [] [(41, vI (2 * n)), (39, .rsl 0 0 l c)] [7, 0, 1, 2] [] [] [] [0, 1] 2 hR hI (.cons (wI ((2 : Int) * (n : Int)) ((2 * n : Nat) : Int) (by omega) (by omega)) .nil) fun e7 a7 w7 hag hR hI => ?_
 have hA := hag
 refine cO [.rsl 0 0 l c, vI (2 * n)] hI Tryz.func78 ?_
 refine (makeOld_spec (C := C) (l := l) (n := 2 * n) (by omega)).mono ?_
 rintro ex w8 ⟨rfl, hk⟩
 replace hR := hR.same hk; clear hk
 refine ⟨_, rfl, ?_⟩
 replace hI := hI.pt 42 (.rsl 0 0 (2 * n) c) [42, 41, 39, 7, 0, 1, 2]
 refine pZ tab [4] [] 2 [(0, .rsl 0 0 (2 * n) c)] [7, 1, 2] hR hI fun e9 a9 w9 hag hR hI => ?_
 replace hA := hA.trans hag (by decide)
 refine ops_nil (then_n ?_)
 refine wp_seq ?_
 refine rK tab 2 [(1, .val (.v (.int .i64 (([12] : List Nat).getD 0 0 : Nat)))), (2, .eq (.bool true)), (5, .val (.v (.int .i64 (([80] : List Nat).getD 0 0 : Nat)))), (6, .eq (.bool true))] [] [(50, vB true)] [0, 7, 1, 2] [] [] [] [0, 1] 2 hR hI (.cons (nats_load (i := 0) (m := 1) (hk1.cells.mono hB.cls) (by decide)) (.cons (congrArg Value.bool (decide_eq_true (by show _ < ((12 : Nat) : Int); omega) : (decide ((n : Int) < (([12] : List Nat).getD 0 0 : Nat))) = true)) (.cons (nats_load (i := 0) (m := 1) (hk2.cells.mono hB.cls) (by decide)) (.cons (congrArg Value.bool (decide_eq_true (by show _ < ((80 : Nat) : Int); omega) : (decide ((n : Int) < (([80] : List Nat).getD 0 0 : Nat))) = true)) .nil)))) fun e10 a10 w10 hag hR hI => ?_
 replace hA := hA.trans hag (by decide)
 refine cnd_t hI (by kernel_rfl) ?_
 refine wp_seq (reg (is := [0, 1, 2, 3]) (by kernel_rfl) ?_)
 refine pZ tab [0, 1, 2] [3] 2 [(53, .rsl 1 0 n cx), (52, .rsl 1 0 n cx), (51, .rsl 0 0 (2 * n) c)] [0] hR hI fun e11 a11 w11 hag hR hI => ?_
 replace hA := hA.trans hag (by decide)
 refine cO [.rsl 0 0 (2 * n) c, .rsl 1 0 n cx, .rsl 1 0 n cx] hI Tryz.func135 ?_
 replace hf0 := tf hA hf0
 replace hg0 := tg hA hg0
 replace hf1 := tf hA hf1
 replace hg1 := tg hA hg1
 have hxk := hR.rowRead (y := ⟨1, 102, 1, N2, (ints .u64 us)⟩) m1 hf1 rfl rfl hud 0 n (by omega) (c := cx) (by omega) (by omega)
 have hq0_ := hR.rowCells (y := ⟨0, 102, 1, N, (ints .u64 zs)⟩) m0 hf0 rfl
 refine (basicMull_spec (C := fun b_ => b_ = headOf (e11.r 1)) hxl_ hxl_ hq0_.1 hzl hzm (fun h_ => hR.ggN m0 m1 (by dsimp only; decide) hf0 hf1 h_) hzd hxk hxk (by omega) (by omega) (by omega) (by omega) (by omega)).mono ?_
 rintro ex w12 ⟨rs, rfl, hk, hw0, hrl, hrd, hrv⟩
 have hkF_ := hR.keepN hk (all_cons hq0_.2 all_no)
 have hR_ : Rel (Grow _ _ w12) w12 e11 [] [⟨0, 102, 1, N, (ints .u64 (put zs 0 rs))⟩, ⟨1, 102, 1, N2, (ints .u64 us)⟩] w12 := hR.turnedN hk (all_cons hq0_.2 all_no) all_no (all_cons ⟨⟨_, m0, rfl⟩, .inr (by have hl_ := hR.rowLen (y := ⟨0, 102, 1, N, (ints .u64 zs)⟩) m0; dsimp only at hl_; rw [show e11.r 0 = _ from hf0]; exact ownsRow_fullN hw0 (by rw [ints_length]; first | exact hzl | (rw [put_length (by omega)]; exact hzl)) (hzm))⟩ (all_cons ⟨⟨_, m1, rfl⟩, .inl ⟨m1, fun g_ he_ => own_ne hf1 (notin2 (hR.ggN m1 m0 (by dsimp only; decide) hf1 hf0) (fun hm_ => by cases hm_)) he_⟩⟩ all_no))
 replace hk1 := hk1.nextF hB hR hkF_
 replace hk2 := hk2.nextF hB hR hkF_
 have hB_ := hB.nextF hR hkF_
 replace hR := hR_; clear hR_
 replace hB := hB_; clear hB_ hk hkF_ hq0_ hw0
 refine ⟨_, rfl, ?_⟩
 replace hI := hI.pt 54 (.v (.tuple #[])) [54, 53, 52, 51, 0]
 refine ops_nil (then_n ?_)
 refine wp_seq (reg (is := [0, 1, 2]) (by kernel_rfl) ?_)
 refine pZ tab [0] [1, 2] 2 [(55, .rsl 0 0 (2 * n) c)] [] hR hI fun e13 a13 w13 hag hR hI => ?_
 have hA := hag
 refine cO [.rsl 0 0 (2 * n) c] hI Tryz.func77 ?_
 replace hf0 := tf hA hf0
 replace hg0 := tg hA hg0
 replace hf1 := tf hA hf1
 replace hg1 := tg hA hg1
 have hpl : (put zs 0 rs).length = N := by rw [put_length (by omega)]; exact hzl
 have hzk := hR.rowRead (y := ⟨0, 102, 1, N, (ints .u64 (put zs 0 rs))⟩) m0 hf0 rfl rfl (put_dig hzd hrd) 0 (2 * n) (by omega) (c := c) (by omega) (by omega)
 rw [show ((put zs 0 rs).drop 0).take (2 * n) = rs from put_take (by omega)] at hzk
 refine (normL_spec (C := fun b_ => b_ = headOf (e13.r 0)) (l := 2 * n) (by omega) hzk).mono ?_
 rintro ex w14 ⟨m, rfl, hk, hm, htm, hvm⟩
 replace hR := hR.same hk; clear hk
 refine ⟨_, rfl, ?_⟩
 replace hI := hI.pt 56 (.rsl 0 0 m c) [56, 55]
 refine pZ tab [2] [] 2 [(6, .rsl 0 0 m c)] [] hR hI fun e15 a15 w15 hag hR hI => ?_
 have hA := hag
 refine ops_nil (then_n ?_)
 refine wp_ret ?_
 refine ret_then ?_
 refine oN tab [.rsl 0 0 m c] hR hI ?_
 replace hf0 := tf hA hf0
 replace hg0 := tg hA hg0
 replace hf1 := tf hA hf1
 replace hg1 := tg hA hg1
 exact ⟨m, rs, by simp only [single, den, hg0], hB.fin hR, (hR.rowFin (y := ⟨0, 102, 1, N, (ints .u64 (put zs 0 rs))⟩) m0 hf0 rfl hg0), (hR.rowFin (y := ⟨1, 102, 1, N2, (ints .u64 us)⟩) m1 hf1 rfl hg1), by omega, hrd, by omega, htm, by rw [hvm, hrv]⟩

theorem put_two {zs : List Nat} {h l : Nat} (hz : 2 ≤ zs.length) : (zs.set 1 h).set 0 l = put zs 0 [l, h] := by
 match zs, hz with
 | a :: b :: r, _ => simp [put]
theorem nval_sq1 {us : List Nat} {h l : Nat} (hu : 1 ≤ us.length) (he : 18446744073709551616 * h + l = us.getD 0 0 * us.getD 0 0) : nval [l, h] = nval ((us.drop 0).take 1) * nval ((us.drop 0).take 1) := by
 match us, hu with
 | a :: r, _ => simp only [List.getD_cons_zero] at he; simp only [List.drop_zero, List.take_succ_cons, List.take_zero, nval, Nat.mul_zero, Nat.add_zero]; rw [← he]; omega
theorem dig_two {h l : Nat} (hh : h < 18446744073709551616) (hl : l < 18446744073709551616) : Ndig [l, h] := fun x hx => by
 have h1 : x = l ∨ x = h := by simpa using hx
 omega

theorem sqr1O_spec {C : Nat → Prop} {w : World} {g g2 N N2 l c n cx : Nat} {zs us : List Nat} {sp : Option Addr} (hz : w.heap[g]? = some (.cells (ints .u64 zs).toArray 102)) (hzl : zs.length = N) (hzm : N ≤ 9223372036854775807) (hCg : ¬ C g) (hu : w.heap[g2]? = some (.cells (ints .u64 us).toArray 102)) (hul : us.length = N2) (hum : N2 ≤ 9223372036854775807) (hCu : ¬ C g2) (hud : Ndig us) (hne : g ≠ g2) (hzd : Ndig zs) (hnu : 1 ≤ N2) (hnc : 1 ≤ cx) (hcx : cx ≤ 9223372036854775807) (hc : 2 ≤ c) (hcN : 2 ≤ N) (hcm : c ≤ 9223372036854775807) :
    Calls P 101 #[.slice (some ⟨g, 0, none⟩) l c, .pointer sp, .slice (some ⟨g2, 0, none⟩) 1 cx] w fun ex w' => ∃ (m : Nat) (rs : List Nat), ex = .returned (.slice (some ⟨g, 0, none⟩) m c) ∧ Keep (ButN [g, g2] w) w w' ∧ w'.heap[g]? = some (.cells (ints .u64 (put zs 0 rs)).toArray 102) ∧ w'.heap[g2]? = some (.cells (ints .u64 us).toArray 102) ∧ rs.length = 2 ∧ Ndig rs ∧ m ≤ 2 ∧ Ntrim (rs.take m) ∧ nval (rs.take m) = nval ((us.drop 0).take 1) * nval ((us.drop 0).take 1) := by
 refine doorN (e := ((e0.addR 0 (.slice (some ⟨g, 0, none⟩) N N)).addR 1 (.slice (some ⟨g2, 0, none⟩) N2 N2))) (vs := [.rsl 0 0 l c, .v (.pointer sp), .rsl 1 0 1 cx]) (n := 76) (m := 3) Tryz.func101 rfl rfl rfl (by decide) fun a_ hI => ?_
 replace hI : Is 76 [] ((e0.addR 0 (.slice (some ⟨g, 0, none⟩) N N)).addR 1 (.slice (some ⟨g2, 0, none⟩) N2 N2)) [(0, .rsl 0 0 l c), (1, .v (.pointer sp)), (2, .rsl 1 0 1 cx)] a_ := hI
 have hf0 : Full ((e0.addR 0 (.slice (some ⟨g, 0, none⟩) N N)).addR 1 (.slice (some ⟨g2, 0, none⟩) N2 N2)) 0 N := rfl; have hg0 : headOf (((e0.addR 0 (.slice (some ⟨g, 0, none⟩) N N)).addR 1 (.slice (some ⟨g2, 0, none⟩) N2 N2)).r 0) = g := rfl
 have hf1 : Full ((e0.addR 0 (.slice (some ⟨g, 0, none⟩) N N)).addR 1 (.slice (some ⟨g2, 0, none⟩) N2 N2)) 1 N2 := rfl; have hg1 : headOf (((e0.addR 0 (.slice (some ⟨g, 0, none⟩) N N)).addR 1 (.slice (some ⟨g2, 0, none⟩) N2 N2)).r 1) = g2 := rfl
 have hR : Rel (ButN [g, g2] w) w ((e0.addR 0 (.slice (some ⟨g, 0, none⟩) N N)).addR 1 (.slice (some ⟨g2, 0, none⟩) N2 N2)) [] [⟨0, 102, 1, N, (ints .u64 zs)⟩, ⟨1, 102, 1, N2, (ints .u64 us)⟩] w := Rel.startN (fun k_ h_ => h_.1) all_no (all_cons ⟨ownsRow_fullN hz (by first | exact hzl | (rw [ints_length]; exact hzl)) hzm, fun g_ he_ => by cases he_; exact (fun hm_ => hm_.2 m0)⟩ (all_cons ⟨ownsRow_fullN hu (by first | exact hul | (rw [ints_length]; exact hul)) hum, fun g_ he_ => by cases he_; exact (fun hm_ => hm_.2 m1)⟩ all_no)) all_no all_no (all_cons (all_cons (fun hn_ => absurd rfl hn_) (all_cons (fun _ g_ h1_ h2_ => hne ((Option.some.inj h1_).trans (Option.some.inj h2_).symm)) all_no)) (all_cons (all_cons (fun _ g_ h1_ h2_ => (Ne.symm hne) ((Option.some.inj h1_).trans (Option.some.inj h2_).symm)) (all_cons (fun hn_ => absurd rfl hn_) all_no)) all_no))
 have hB : BaseD (ButN [g, g2] w) C w C (ButN [g, g2] w) w := BaseD.start (fun k_ hC_ hlt_ => ⟨hlt_, notin2 (fun he_ => hCg (he_ ▸ hC_)) (notin2 (fun he_ => hCu (he_ ▸ hC_)) (fun hm_ => by cases hm_))⟩)
 have hxl_ : ((us.drop 0).take 1).length = 1 := by rw [List.length_take, List.length_drop]; omega
 refine rZ tab 2 [] [0, 1, 2] hR hI fun e1 a1 w1 hag hR hI => ?_
 have hA := hag
 refine rZ tab 2 [(7, .v (.int .i64 1))] [0, 1, 2] hR hI fun e2 a2 w2 hag hR hI => ?_
 replace hA := hA.trans hag (by decide)
 refine wp_seq ?_
 refine wp_block ?_
 refine rZ tab 2 [(11, vB false)] [7, 0, 1, 2] hR hI fun e3 a3 w3 hag hR hI => ?_
 replace hA := hA.trans hag (by decide)
 refine cnd_f hI (by kernel_rfl) ?_
 refine rZ tab 2 [(16, vB true)] [7, 0, 1, 2] hR hI fun e4 a4 w4 hag hR hI => ?_
 replace hA := hA.trans hag (by decide)
 refine cnd_t hI (by kernel_rfl) ?_
 refine rK tab 2 [(2, .val (vU (us.getD 0 0)))] [] [(8, vU (us.getD 0 0))] [0] [] [] [] [0, 1] 2 hR hI (.cons (by omega : (0 : Int) ≤ (0 : Int) ∧ (0 : Int) < ((1 : Nat) : Int)) (.cons (ints_get (k := .u64) (xs := us) (i := 0) (by omega)) (.cons (by omega : 0 < N2 * 1) .nil))) fun e5 a5 w5 hag hR hI => ?_
 replace hA := hA.trans hag (by decide)
 refine wp_seq (reg (is := [0, 1, 2]) (by kernel_rfl) ?_)
 refine pZ tab [0] [1, 2] 2 [(22, .rsl 0 0 l c)] [8, 0] hR hI fun e6 a6 w6 hag hR hI => ?_
 replace hA := hA.trans hag (by decide)
 refine cO [.rsl 0 0 l c, .v (.int .i64 2)] hI Tryz.func78 ?_
 refine (makeOld_spec (C := C) (l := l) (n := 2) (by omega)).mono ?_
 rintro ex w7 ⟨rfl, hk⟩
 replace hR := hR.same hk; clear hk
 refine ⟨_, rfl, ?_⟩
 replace hI := hI.pt 23 (.rsl 0 0 2 c) [23, 22, 8, 0]
 refine pZ tab [2] [] 2 [(0, .rsl 0 0 2 c)] [8] hR hI fun e8 a8 w8 hag hR hI => ?_
 replace hA := hA.trans hag (by decide)
 refine ops_nil (then_n ?_)
 refine wp_seq (reg (is := [0, 1, 2, 3, 4, 5, 6, 7, 8, 9, 10, 11]) (by kernel_rfl) ?_)
 refine pZ tab [0, 1, 2, 3] [4, 5, 6, 7, 8, 9, 10, 11] 2 [(28, vU (us.getD 0 0)), (27, vU (us.getD 0 0)), (26, .rsl 0 0 2 c), (25, .rsl 0 0 2 c)] [0] hR hI fun e9 a9 w9 hag hR hI => ?_
 replace hA := hA.trans hag (by decide)
 refine cO [vU (us.getD 0 0), vU (us.getD 0 0)] hI Tryz.func114 ?_
 have hud0 := ndig_get hud 0
 refine (mulWW_spec (C := C) (x := us.getD 0 0) (y := us.getD 0 0) hud0 hud0).mono ?_
 rintro ex w10 ⟨h, lo, rfl, hk, he, hhb, hlb⟩
 replace hR := hR.same hk; clear hk
 refine ⟨_, rfl, ?_⟩
 replace hI := hI.pt 29 (.v (.tuple #[.int .u64 (h : Int), .int .u64 (lo : Int)])) [29, 28, 27, 26, 25, 0]
 refine pK tab [5, 6, 7, 8, 9, 10, 11] [] 2 [] [] [] [0] [] [] [⟨0, 102, 1, N, (((ints .u64 zs).set 1 (.int .u64 (h : Int))).set 0 (.int .u64 (lo : Int)))⟩] [1] 2 hR hI (.cons (by omega : (0 : Int) ≤ (1 : Int) ∧ (1 : Int) < ((2 : Nat) : Int)) (.cons (by omega : 1 < N * 1) (.cons (by omega : (0 : Int) ≤ (0 : Int) ∧ (0 : Int) < ((2 : Nat) : Int)) (.cons (by omega : 0 < N * 1) .nil)))) fun e11 a11 w11 hag hR hI => ?_
 replace hA := hA.trans hag (by decide)
 refine ops_nil (then_n ?_)
 rw [ints_set, ints_set] at hR
 rw [(put_two (by omega) : ((zs.set 1 h).set 0 lo) = put zs 0 [lo, h])] at hR
 have hrl : [lo, h].length = 2 := rfl
 have hrd : Ndig [lo, h] := dig_two hhb hlb
 have hrv := nval_sq1 (us := us) (by omega) he
 refine wp_seq (reg (is := [0, 1, 2]) (by kernel_rfl) ?_)
 refine pZ tab [0] [1, 2] 2 [(34, .rsl 0 0 2 c)] [] hR hI fun e12 a12 w12 hag hR hI => ?_
 replace hA := hA.trans hag (by decide)
 refine cO [.rsl 0 0 2 c] hI Tryz.func77 ?_
 replace hf0 := tf hA hf0
 replace hg0 := tg hA hg0
 replace hf1 := tf hA hf1
 replace hg1 := tg hA hg1
 have hpl : (put zs 0 [lo, h]).length = N := by rw [put_length (by omega)]; exact hzl
 have hzk := hR.rowRead (y := ⟨0, 102, 1, N, (ints .u64 (put zs 0 [lo, h]))⟩) m0 hf0 rfl rfl (put_dig hzd hrd) 0 2 (by omega) (c := c) (by omega) (by omega)
 rw [show ((put zs 0 [lo, h]).drop 0).take 2 = [lo, h] from put_take (by omega)] at hzk
 refine (normL_spec (C := fun b_ => b_ = headOf (e12.r 0)) (l := 2) (by omega) hzk).mono ?_
 rintro ex w13 ⟨m, rfl, hk, hm, htm, hvm⟩
 replace hR := hR.same hk; clear hk
 refine ⟨_, rfl, ?_⟩
 replace hI := hI.pt 35 (.rsl 0 0 m c) [35, 34]
 refine pZ tab [2] [] 2 [(6, .rsl 0 0 m c)] [] hR hI fun e14 a14 w14 hag hR hI => ?_
 have hA := hag
 refine ops_nil (then_n ?_)
 refine wp_ret ?_
 refine ret_block ?_
 refine ret_then ?_
 refine oN tab [.rsl 0 0 m c] hR hI ?_
 replace hf0 := tf hA hf0
 replace hg0 := tg hA hg0
 replace hf1 := tf hA hf1
 replace hg1 := tg hA hg1
 exact ⟨m, [lo, h], by simp only [single, den, hg0], hB.fin hR, (hR.rowFin (y := ⟨0, 102, 1, N, (ints .u64 (put zs 0 [lo, h]))⟩) m0 hf0 rfl hg0), (hR.rowFin (y := ⟨1, 102, 1, N2, (ints .u64 us)⟩) m1 hf1 rfl hg1), by omega, hrd, by omega, htm, by rw [hvm, hrv]⟩

theorem sqr1B_spec {C : Nat → Prop} {w : World} {g2 N2 n cx zl zc : Nat} {us : List Nat} {sp za : Option Addr} (hu : w.heap[g2]? = some (.cells (ints .u64 us).toArray 102)) (hul : us.length = N2) (hum : N2 ≤ 9223372036854775807) (hCu : ¬ C g2) (hud : Ndig us) (hnu : 1 ≤ N2) (hnc : 1 ≤ cx) (hcx : cx ≤ 9223372036854775807) (hc : zc < 2) :
    Calls P 101 #[.slice za zl zc, .pointer sp, .slice (some ⟨g2, 0, none⟩) 1 cx] w fun ex w' => ∃ (g3 c3 m : Nat) (rs : List Nat), ex = .returned (.slice (some ⟨g3, 0, none⟩) m c3) ∧ Keep (ButN [g2] w) w w' ∧ w.heap.size ≤ g3 ∧ w'.heap[g3]? = some (.cells (ints .u64 (put (List.replicate c3 0) 0 rs)).toArray 102) ∧ w'.heap[g2]? = some (.cells (ints .u64 us).toArray 102) ∧ 2 ≤ c3 ∧ c3 ≤ 2 + 4 ∧ rs.length = 2 ∧ Ndig rs ∧ m ≤ 2 ∧ Ntrim (rs.take m) ∧ nval (rs.take m) = nval ((us.drop 0).take 1) * nval ((us.drop 0).take 1) := by
 refine doorN (e := (e0.addR 0 (.slice (some ⟨g2, 0, none⟩) N2 N2))) (vs := [vS za zl zc, .v (.pointer sp), .rsl 0 0 1 cx]) (n := 76) (m := 3) Tryz.func101 rfl rfl rfl (by decide) fun a_ hI => ?_
 replace hI : Is 76 [] (e0.addR 0 (.slice (some ⟨g2, 0, none⟩) N2 N2)) [(0, vS za zl zc), (1, .v (.pointer sp)), (2, .rsl 0 0 1 cx)] a_ := hI
 have hf0 : Full (e0.addR 0 (.slice (some ⟨g2, 0, none⟩) N2 N2)) 0 N2 := rfl; have hg0 : headOf ((e0.addR 0 (.slice (some ⟨g2, 0, none⟩) N2 N2)).r 0) = g2 := rfl
 have hR : Rel (ButN [g2] w) w (e0.addR 0 (.slice (some ⟨g2, 0, none⟩) N2 N2)) [] [⟨0, 102, 1, N2, (ints .u64 us)⟩] w := Rel.startN (fun k_ h_ => h_.1) all_no (all_cons ⟨ownsRow_fullN hu (by first | exact hul | (rw [ints_length]; exact hul)) hum, fun g_ he_ => by cases he_; exact (fun hm_ => hm_.2 m0)⟩ all_no) all_no all_no (all_cons (all_cons (fun hn_ => absurd rfl hn_) all_no) all_no)
 have hB : BaseD (ButN [g2] w) C w C (ButN [g2] w) w := BaseD.start (fun k_ hC_ hlt_ => ⟨hlt_, notin2 (fun he_ => hCu (he_ ▸ hC_)) (fun hm_ => by cases hm_)⟩)
 have hxl_ : ((us.drop 0).take 1).length = 1 := by rw [List.length_take, List.length_drop]; omega
 refine rZ tab 1 [] [0, 1, 2] hR hI fun e1 a1 w1 hag hR hI => ?_
 have hA := hag
 refine rZ tab 1 [(7, .v (.int .i64 1))] [0, 1, 2] hR hI fun e2 a2 w2 hag hR hI => ?_
 replace hA := hA.trans hag (by decide)
 refine wp_seq ?_
 refine wp_block ?_
 refine rZ tab 1 [(11, vB false)] [7, 0, 1, 2] hR hI fun e3 a3 w3 hag hR hI => ?_
 replace hA := hA.trans hag (by decide)
 refine cnd_f hI (by kernel_rfl) ?_
 refine rZ tab 1 [(16, vB true)] [7, 0, 1, 2] hR hI fun e4 a4 w4 hag hR hI => ?_
 replace hA := hA.trans hag (by decide)
 refine cnd_t hI (by kernel_rfl) ?_
 refine rK tab 1 [(2, .val (vU (us.getD 0 0)))] [] [(8, vU (us.getD 0 0))] [0] [] [] [] [0] 1 hR hI (.cons (by omega : (0 : Int) ≤ (0 : Int) ∧ (0 : Int) < ((1 : Nat) : Int)) (.cons (ints_get (k := .u64) (xs := us) (i := 0) (by omega)) (.cons (by omega : 0 < N2 * 1) .nil))) fun e5 a5 w5 hag hR hI => ?_
 replace hA := hA.trans hag (by decide)
 refine wp_seq (reg (is := [0, 1, 2]) (by kernel_rfl) ?_)
 refine pZ tab [0] [1, 2] 1 [(22, vS za zl zc)] [8, 0] hR hI fun e6 a6 w6 hag hR hI => ?_
 replace hA := hA.trans hag (by decide)
 refine cO [vS za zl zc, .v (.int .i64 2)] hI Tryz.func78 ?_
 have hsz_ := (hB.fin hR).size
 refine (makeBig_spec (C := Now hB) (k := zc) (n := 2) (by omega) (by omega)).mono ?_
 rintro ex w7 ⟨g3, c3, rfl, hk, hge, hwg, hc1, hc2⟩
 replace hk := keepBut0 hk
 have hkF_ := hR.keepN hk all_no
 replace hf0 := tf hA hf0
 replace hg0 := tg hA hg0
 have hR_ : Rel (Grow _ _ w7) w7 e6 [] [⟨0, 102, 1, N2, (ints .u64 us)⟩] w7 := hR.turnedN hk all_no all_no (all_cons ⟨⟨_, m0, rfl⟩, .inl ⟨m0, fun g_ he_ => own_ne hf0 (fun hm_ => by cases hm_) he_⟩⟩ all_no)
 have hM_ : ∀ b_ ∈ ([g3] : List Nat), _ ≤ b_ := (all_cons hge all_no)
 have hB_ := hB.nextN hR hkF_ hM_; have hR1_ := hR_.shrinkN (M := [g3])
 obtain ⟨hfr1_, hfr2_⟩ := hR.fresh (H' := []) (G' := [⟨0, 102, 1, N2, (ints .u64 us)⟩]) all_no (all_cons ⟨_, m0, rfl⟩ all_no) hge
 obtain ⟨hag_, hR2_⟩ := hR1_.gotRow (L := []) (k := 1) (g := g3) (n := c3) (t := 102) (xs := (ints .u64 (List.replicate c3 0))) (by kernel_rfl) hwg (by rw [ints_length, List.length_replicate]) (by omega) (fun hf_ => hf_.2.1 m0) hfr1_ hfr2_
 replace hI := hI.agreeB (H := []) (G := []) (by kernel_rfl) hag_
 replace hf0 := tf hag_ hf0
 replace hg0 := tg hag_ hg0
 have hf1 : Full (e6.addR 1 (.slice (some ⟨g3, 0, none⟩) c3 c3)) 1 c3 := full_addR _ _ _ _; have hnew1 : headOf ((e6.addR 1 (.slice (some ⟨g3, 0, none⟩) c3 c3)).r 1) = g3 := head_addR _ _ _ _
 replace hR := hR2_; clear hR2_ hR_ hR1_
 replace hB := hB_; clear hB_ hk hkF_ 
 have hgw := Nat.le_trans hsz_ hge
 have hrl_ : (List.replicate c3 0).length = c3 := List.length_replicate
 have hrd_ : Ndig (List.replicate c3 0) := ndig_replicate _
 refine ⟨_, rfl, ?_⟩
 replace hI := hI.pt 23 (.rsl 1 0 2 c3) [23, 22, 8, 0]
 refine pZ tab [2] [] 2 [(0, .rsl 1 0 2 c3)] [8] hR hI fun e8 a8 w8 hag hR hI => ?_
 have hA := hag
 refine ops_nil (then_n ?_)
 refine wp_seq (reg (is := [0, 1, 2, 3, 4, 5, 6, 7, 8, 9, 10, 11]) (by kernel_rfl) ?_)
 refine pZ tab [0, 1, 2, 3] [4, 5, 6, 7, 8, 9, 10, 11] 2 [(28, vU (us.getD 0 0)), (27, vU (us.getD 0 0)), (26, .rsl 1 0 2 c3), (25, .rsl 1 0 2 c3)] [0] hR hI fun e9 a9 w9 hag hR hI => ?_
 replace hA := hA.trans hag (by decide)
 refine cO [vU (us.getD 0 0), vU (us.getD 0 0)] hI Tryz.func114 ?_
 have hud0 := ndig_get hud 0
 refine (mulWW_spec (C := C) (x := us.getD 0 0) (y := us.getD 0 0) hud0 hud0).mono ?_
 rintro ex w10 ⟨h, lo, rfl, hk, he, hhb, hlb⟩
 replace hR := hR.same hk; clear hk
 refine ⟨_, rfl, ?_⟩
 replace hI := hI.pt 29 (.v (.tuple #[.int .u64 (h : Int), .int .u64 (lo : Int)])) [29, 28, 27, 26, 25, 0]
 refine pK tab [5, 6, 7, 8, 9, 10, 11] [] 2 [] [] [] [0] [] [] [⟨1, 102, 1, c3, (((ints .u64 (List.replicate c3 0)).set 1 (.int .u64 (h : Int))).set 0 (.int .u64 (lo : Int)))⟩] [0] 2 hR hI (.cons (by omega : (0 : Int) ≤ (1 : Int) ∧ (1 : Int) < ((2 : Nat) : Int)) (.cons (by omega : 1 < c3 * 1) (.cons (by omega : (0 : Int) ≤ (0 : Int) ∧ (0 : Int) < ((2 : Nat) : Int)) (.cons (by omega : 0 < c3 * 1) .nil)))) fun e11 a11 w11 hag hR hI => ?_
 replace hA := hA.trans hag (by decide)
 refine ops_nil (then_n ?_)
 rw [ints_set, ints_set] at hR
 rw [(put_two (by omega) : (((List.replicate c3 0).set 1 h).set 0 lo) = put (List.replicate c3 0) 0 [lo, h])] at hR
 have hrl : [lo, h].length = 2 := rfl
 have hrd : Ndig [lo, h] := dig_two hhb hlb
 have hrv := nval_sq1 (us := us) (by omega) he
 refine wp_seq (reg (is := [0, 1, 2]) (by kernel_rfl) ?_)
 refine pZ tab [0] [1, 2] 2 [(34, .rsl 1 0 2 c3)] [] hR hI fun e12 a12 w12 hag hR hI => ?_
 replace hA := hA.trans hag (by decide)
 refine cO [.rsl 1 0 2 c3] hI Tryz.func77 ?_
 replace hf0 := tf hA hf0
 replace hg0 := tg hA hg0
 replace hf1 := tf hA hf1
 replace hnew1 := tg hA hnew1
 have hpl : (put (List.replicate c3 0) 0 [lo, h]).length = c3 := by rw [put_length (by omega)]; exact hrl_
 have hzk := hR.rowRead (y := ⟨1, 102, 1, c3, (ints .u64 (put (List.replicate c3 0) 0 [lo, h]))⟩) m0 hf1 rfl rfl (put_dig hrd_ hrd) 0 2 (by omega) (c := c3) (by omega) (by omega)
 rw [show ((put (List.replicate c3 0) 0 [lo, h]).drop 0).take 2 = [lo, h] from put_take (by omega)] at hzk
 refine (normL_spec (C := fun b_ => b_ = headOf (e12.r 1)) (l := 2) (by omega) hzk).mono ?_
 rintro ex w13 ⟨m, rfl, hk, hm, htm, hvm⟩
 replace hR := hR.same hk; clear hk
 refine ⟨_, rfl, ?_⟩
 replace hI := hI.pt 35 (.rsl 1 0 m c3) [35, 34]
 refine pZ tab [2] [] 2 [(6, .rsl 1 0 m c3)] [] hR hI fun e14 a14 w14 hag hR hI => ?_
 have hA := hag
 refine ops_nil (then_n ?_)
 refine wp_ret ?_
 refine ret_block ?_
 refine ret_then ?_
 refine oN tab [.rsl 1 0 m c3] hR hI ?_
 replace hf0 := tf hA hf0
 replace hg0 := tg hA hg0
 replace hf1 := tf hA hf1
 replace hnew1 := tg hA hnew1
 exact ⟨g3, c3, m, [lo, h], by simp only [single, den, hnew1], hB.fin hR, hgw, (hR.rowFin (y := ⟨1, 102, 1, c3, (ints .u64 (put (List.replicate c3 0) 0 [lo, h]))⟩) m0 hf1 rfl hnew1), (hR.rowFin (y := ⟨0, 102, 1, N2, (ints .u64 us)⟩) m1 hf0 rfl hg0), by omega, by omega, by omega, hrd, by omega, htm, by rw [hvm, hrv]⟩

theorem sqrN_spec {C : Nat → Prop} {w : World} {g2 N2 n cx : Nat} {us : List Nat} {sp : Option Addr} (hu : w.heap[g2]? = some (.cells (ints .u64 us).toArray 102)) (hul : us.length = N2) (hum : N2 ≤ 9223372036854775807) (hCu : ¬ C g2) (hud : Ndig us) (hk1 : Sl .i64 18446744073709551616 C w (some ⟨1, 0, none⟩) 1 [12]) (hk2 : Sl .i64 18446744073709551616 C w (some ⟨2, 0, none⟩) 1 [80]) (hn : 2 ≤ n) (hn8 : n ≤ 11) (hnu : n ≤ N2) (hnc : n ≤ cx) (hcx : cx ≤ 9223372036854775807) :
    Calls P 101 #[.slice none 0 0, .pointer sp, .slice (some ⟨g2, 0, none⟩) n cx] w fun ex w' => ∃ (g3 c3 m : Nat) (rs : List Nat), ex = .returned (.slice (some ⟨g3, 0, none⟩) m c3) ∧ Keep (ButN [g2] w) w w' ∧ w.heap.size ≤ g3 ∧ w'.heap[g3]? = some (.cells (ints .u64 (put (List.replicate c3 0) 0 rs)).toArray 102) ∧ w'.heap[g2]? = some (.cells (ints .u64 us).toArray 102) ∧ (2 * n) ≤ c3 ∧ c3 ≤ (2 * n) + 4 ∧ rs.length = (2 * n) ∧ Ndig rs ∧ m ≤ (2 * n) ∧ Ntrim (rs.take m) ∧ nval (rs.take m) = nval ((us.drop 0).take n) * nval ((us.drop 0).take n) := by
 refine doorN (e := (e0.addR 0 (.slice (some ⟨g2, 0, none⟩) N2 N2))) (vs := [vS none 0 0, .v (.pointer sp), .rsl 0 0 n cx]) (n := 76) (m := 3) Tryz.func101 rfl rfl rfl (by decide) fun a_ hI => ?_
 replace hI : Is 76 [] (e0.addR 0 (.slice (some ⟨g2, 0, none⟩) N2 N2)) [(0, vS none 0 0), (1, .v (.pointer sp)), (2, .rsl 0 0 n cx)] a_ := hI
 have hf0 : Full (e0.addR 0 (.slice (some ⟨g2, 0, none⟩) N2 N2)) 0 N2 := rfl; have hg0 : headOf ((e0.addR 0 (.slice (some ⟨g2, 0, none⟩) N2 N2)).r 0) = g2 := rfl
 have hR : Rel (ButN [g2] w) w (e0.addR 0 (.slice (some ⟨g2, 0, none⟩) N2 N2)) [] [⟨0, 102, 1, N2, (ints .u64 us)⟩] w := Rel.startN (fun k_ h_ => h_.1) all_no (all_cons ⟨ownsRow_fullN hu (by first | exact hul | (rw [ints_length]; exact hul)) hum, fun g_ he_ => by cases he_; exact (fun hm_ => hm_.2 m0)⟩ all_no) all_no all_no (all_cons (all_cons (fun hn_ => absurd rfl hn_) all_no) all_no)
 have hB : BaseD (ButN [g2] w) C w C (ButN [g2] w) w := BaseD.start (fun k_ hC_ hlt_ => ⟨hlt_, notin2 (fun he_ => hCu (he_ ▸ hC_)) (fun hm_ => by cases hm_)⟩)
 have hxl_ : ((us.drop 0).take n).length = n := by rw [List.length_take, List.length_drop]; omega
 refine rZ tab 1 [] [0, 1, 2] hR hI fun e1 a1 w1 hag hR hI => ?_
 have hA := hag
 refine rZ tab 1 [(7, vI n)] [0, 1, 2] hR hI fun e2 a2 w2 hag hR hI => ?_
 replace hA := hA.trans hag (by decide)
 refine wp_seq ?_
 refine wp_block ?_
 refine rK tab 1 [(1, .eq (.bool false))] [] [(11, vB false)] [7, 0, 1, 2] [] [] [] [0] 1 hR hI (.cons (congrArg Value.bool (beq_eq_false_iff_ne.2 (by omega) : ((n : Int) == (0 : Int)) = false)) .nil) fun e3 a3 w3 hag hR hI => ?_
 replace hA := hA.trans hag (by decide)
 refine cnd_f hI (by kernel_rfl) ?_
 refine rK tab 1 [(1, .eq (.bool false))] [] [(16, vB false)] [7, 0, 1, 2] [] [] [] [0] 1 hR hI (.cons (congrArg Value.bool (beq_eq_false_iff_ne.2 (by omega) : ((n : Int) == (1 : Int)) = false)) .nil) fun e4 a4 w4 hag hR hI => ?_
 replace hA := hA.trans hag (by decide)
 refine cnd_f hI (by kernel_rfl) ?_
 refine wp_skip ?_
 refine normal_block ?_
 refine then_n ?_
 refine wp_seq ?_
 refine wp_seq (reg (is := [0, 1, 2]) (by kernel_rfl) ?_)
 refine pZ tab [0, 1] [2] 1 [(37, .rsl 0 0 n cx), (36, vS none 0 0)] [7, 0, 1, 2] hR hI fun e5 a5 w5 hag hR hI => ?_
 replace hA := hA.trans hag (by decide)
 refine cO [vS none 0 0, .rsl 0 0 n cx] hI Tryz.func74 ?_
 refine (aliasNil_spec (C := C)).mono ?_
 rintro ex w6 ⟨rfl, hk⟩
 replace hR := hR.same hk; clear hk
 refine ⟨_, rfl, ?_⟩
 replace hI := hI.pt 38 (vB false) [38, 37, 36, 7, 0, 1, 2]
 refine ops_nil (then_n ?_)
 refine cnd_f hI (by kernel_rfl) ?_
 refine wp_skip ?_
 refine then_n ?_
 refine wp_seq (reg (is := [0, 1, 2, 3, 4]) (by kernel_rfl) ?_)
 refine pK tab [0, 1, 2] [3, 4] 1 [(2, .eq (.int .i64 ((2 * n : Nat) : Int)))] [] [(41, vI (2 * n)), (39, vS none 0 0)] [7, 0, 1, 2] [] [] [] [0] 1 hR hI (.cons (wI ((2 : Int) * (n : Int)) ((2 * n : Nat) : Int) (by omega) (by omega)) .nil) fun e7 a7 w7 hag hR hI => ?_
 replace hA := hA.trans hag (by decide)
 refine cO [vS none 0 0, vI (2 * n)] hI Tryz.func78 ?_
 have hsz_ := (hB.fin hR).size
 refine (makeBig_spec (C := Now hB) (k := 0) (n := (2 * n)) (by omega) (by omega)).mono ?_
 rintro ex w8 ⟨g3, c3, rfl, hk, hge, hwg, hc1, hc2⟩
 replace hk := keepBut0 hk
 have hkF_ := hR.keepN hk all_no
 replace hf0 := tf hA hf0
 replace hg0 := tg hA hg0
 have hR_ : Rel (Grow _ _ w8) w8 e7 [] [⟨0, 102, 1, N2, (ints .u64 us)⟩] w8 := hR.turnedN hk all_no all_no (all_cons ⟨⟨_, m0, rfl⟩, .inl ⟨m0, fun g_ he_ => own_ne hf0 (fun hm_ => by cases hm_) he_⟩⟩ all_no)
 have hM_ : ∀ b_ ∈ ([g3] : List Nat), _ ≤ b_ := (all_cons hge all_no)
 replace hk1 := hk1.nextN hB hR hkF_ hM_
 replace hk2 := hk2.nextN hB hR hkF_ hM_
 have hB_ := hB.nextN hR hkF_ hM_; have hR1_ := hR_.shrinkN (M := [g3])
 obtain ⟨hfr1_, hfr2_⟩ := hR.fresh (H' := []) (G' := [⟨0, 102, 1, N2, (ints .u64 us)⟩]) all_no (all_cons ⟨_, m0, rfl⟩ all_no) hge
 obtain ⟨hag_, hR2_⟩ := hR1_.gotRow (L := []) (k := 1) (g := g3) (n := c3) (t := 102) (xs := (ints .u64 (List.replicate c3 0))) (by kernel_rfl) hwg (by rw [ints_length, List.length_replicate]) (by omega) (fun hf_ => hf_.2.1 m0) hfr1_ hfr2_
 replace hI := hI.agreeB (H := []) (G := []) (by kernel_rfl) hag_
 replace hf0 := tf hag_ hf0
 replace hg0 := tg hag_ hg0
 have hf1 : Full (e7.addR 1 (.slice (some ⟨g3, 0, none⟩) c3 c3)) 1 c3 := full_addR _ _ _ _; have hnew1 : headOf ((e7.addR 1 (.slice (some ⟨g3, 0, none⟩) c3 c3)).r 1) = g3 := head_addR _ _ _ _
 replace hR := hR2_; clear hR2_ hR_ hR1_
 replace hB := hB_; clear hB_ hk hkF_ 
 have hgw := Nat.le_trans hsz_ hge
 have hrl_ : (List.replicate c3 0).length = c3 := List.length_replicate
 have hrd_ : Ndig (List.replicate c3 0) := ndig_replicate _
 refine ⟨_, rfl, ?_⟩
 replace hI := hI.pt 42 (.rsl 1 0 (2 * n) c3) [42, 41, 39, 7, 0, 1, 2]
 refine pZ tab [4] [] 2 [(0, .rsl 1 0 (2 * n) c3)] [7, 1, 2] hR hI fun e9 a9 w9 hag hR hI => ?_
 have hA := hag
 refine ops_nil (then_n ?_)
 refine wp_seq ?_
 refine rK tab 2 [(1, .val (.v (.int .i64 (([12] : List Nat).getD 0 0 : Nat)))), (2, .eq (.bool true)), (5, .val (.v (.int .i64 (([80] : List Nat).getD 0 0 : Nat)))), (6, .eq (.bool true))] [] [(50, vB true)] [0, 7, 1, 2] [] [] [] [1, 0] 2 hR hI (.cons (nats_load (i := 0) (m := 1) (hk1.cells.mono hB.cls) (by decide)) (.cons (congrArg Value.bool (decide_eq_true (by show _ < ((12 : Nat) : Int); omega) : (decide ((n : Int) < (([12] : List Nat).getD 0 0 : Nat))) = true)) (.cons (nats_load (i := 0) (m := 1) (hk2.cells.mono hB.cls) (by decide)) (.cons (congrArg Value.bool (decide_eq_true (by show _ < ((80 : Nat) : Int); omega) : (decide ((n : Int) < (([80] : List Nat).getD 0 0 : Nat))) = true)) .nil)))) fun e10 a10 w10 hag hR hI => ?_
 replace hA := hA.trans hag (by decide)
 refine cnd_t hI (by kernel_rfl) ?_
 refine wp_seq (reg (is := [0, 1, 2, 3]) (by kernel_rfl) ?_)
 refine pZ tab [0, 1, 2] [3] 2 [(53, .rsl 0 0 n cx), (52, .rsl 0 0 n cx), (51, .rsl 1 0 (2 * n) c3)] [0] hR hI fun e11 a11 w11 hag hR hI => ?_
 replace hA := hA.trans hag (by decide)
 refine cO [.rsl 1 0 (2 * n) c3, .rsl 0 0 n cx, .rsl 0 0 n cx] hI Tryz.func135 ?_
 replace hf0 := tf hA hf0
 replace hg0 := tg hA hg0
 replace hf1 := tf hA hf1
 replace hnew1 := tg hA hnew1
 have hxk := hR.rowRead (y := ⟨0, 102, 1, N2, (ints .u64 us)⟩) m1 hf0 rfl rfl hud 0 n (by omega) (c := cx) (by omega) (by omega)
 have hq1_ := hR.rowCells (y := ⟨1, 102, 1, c3, (ints .u64 (List.replicate c3 0))⟩) m0 hf1 rfl
 refine (basicMull_spec (C := fun b_ => b_ = headOf (e11.r 0)) hxl_ hxl_ hq1_.1 hrl_ (by omega) (fun h_ => hR.ggN m0 m1 (by dsimp only; decide) hf1 hf0 h_) hrd_ hxk hxk (by omega) (by omega) (by omega) (by omega) (by omega)).mono ?_
 rintro ex w12 ⟨rs, rfl, hk, hw1, hrl, hrd, hrv⟩
 have hkF_ := hR.keepN hk (all_cons hq1_.2 all_no)
 have hR_ : Rel (Grow _ _ w12) w12 e11 [] [⟨1, 102, 1, c3, (ints .u64 (put (List.replicate c3 0) 0 rs))⟩, ⟨0, 102, 1, N2, (ints .u64 us)⟩] w12 := hR.turnedN hk (all_cons hq1_.2 all_no) all_no (all_cons ⟨⟨_, m0, rfl⟩, .inr (by have hl_ := hR.rowLen (y := ⟨1, 102, 1, c3, (ints .u64 (List.replicate c3 0))⟩) m0; dsimp only at hl_; rw [show e11.r 1 = _ from hf1]; exact ownsRow_fullN hw1 (by rw [ints_length]; first | exact hrl_ | (rw [put_length (by omega)]; exact hrl_)) (by omega))⟩ (all_cons ⟨⟨_, m1, rfl⟩, .inl ⟨m1, fun g_ he_ => own_ne hf0 (notin2 (hR.ggN m1 m0 (by dsimp only; decide) hf0 hf1) (fun hm_ => by cases hm_)) he_⟩⟩ all_no))
 replace hk1 := hk1.nextF hB hR hkF_
 replace hk2 := hk2.nextF hB hR hkF_
 have hB_ := hB.nextF hR hkF_
 replace hR := hR_; clear hR_
 replace hB := hB_; clear hB_ hk hkF_ hq1_ hw1
 refine ⟨_, rfl, ?_⟩
 replace hI := hI.pt 54 (.v (.tuple #[])) [54, 53, 52, 51, 0]
 refine ops_nil (then_n ?_)
 refine wp_seq (reg (is := [0, 1, 2]) (by kernel_rfl) ?_)
 refine pZ tab [0] [1, 2] 2 [(55, .rsl 1 0 (2 * n) c3)] [] hR hI fun e13 a13 w13 hag hR hI => ?_
 have hA := hag
 refine cO [.rsl 1 0 (2 * n) c3] hI Tryz.func77 ?_
 replace hf0 := tf hA hf0
 replace hg0 := tg hA hg0
 replace hf1 := tf hA hf1
 replace hnew1 := tg hA hnew1
 have hpl : (put (List.replicate c3 0) 0 rs).length = c3 := by rw [put_length (by omega)]; exact hrl_
 have hzk := hR.rowRead (y := ⟨1, 102, 1, c3, (ints .u64 (put (List.replicate c3 0) 0 rs))⟩) m0 hf1 rfl rfl (put_dig hrd_ hrd) 0 (2 * n) (by omega) (c := c3) (by omega) (by omega)
 rw [show ((put (List.replicate c3 0) 0 rs).drop 0).take (2 * n) = rs from put_take (by omega)] at hzk
 refine (normL_spec (C := fun b_ => b_ = headOf (e13.r 1)) (l := (2 * n)) (by omega) hzk).mono ?_
 rintro ex w14 ⟨m, rfl, hk, hm, htm, hvm⟩
 replace hR := hR.same hk; clear hk
 refine ⟨_, rfl, ?_⟩
 replace hI := hI.pt 56 (.rsl 1 0 m c3) [56, 55]
 refine pZ tab [2] [] 2 [(6, .rsl 1 0 m c3)] [] hR hI fun e15 a15 w15 hag hR hI => ?_
 have hA := hag
 refine ops_nil (then_n ?_)
 refine wp_ret ?_
 refine ret_then ?_
 refine oN tab [.rsl 1 0 m c3] hR hI ?_
 replace hf0 := tf hA hf0
 replace hg0 := tg hA hg0
 replace hf1 := tf hA hf1
 replace hnew1 := tg hA hnew1
 exact ⟨g3, c3, m, rs, by simp only [single, den, hnew1], hB.fin hR, hgw, (hR.rowFin (y := ⟨1, 102, 1, c3, (ints .u64 (put (List.replicate c3 0) 0 rs))⟩) m0 hf1 rfl hnew1), (hR.rowFin (y := ⟨0, 102, 1, N2, (ints .u64 us)⟩) m1 hf0 rfl hg0), by omega, by omega, by omega, hrd, by omega, htm, by rw [hvm, hrv]⟩

theorem sqrR_spec {C : Nat → Prop} {w : World} {g g2 N N2 l c n cx : Nat} {zs us : List Nat} {sp : Option Addr} (hz : w.heap[g]? = some (.cells (ints .u64 zs).toArray 102)) (hzl : zs.length = N) (hzm : N ≤ 9223372036854775807) (hCg : ¬ C g) (hu : w.heap[g2]? = some (.cells (ints .u64 us).toArray 102)) (hul : us.length = N2) (hum : N2 ≤ 9223372036854775807) (hCu : ¬ C g2) (hud : Ndig us) (hne : g ≠ g2) (hzd : Ndig zs) (hk1 : Sl .i64 18446744073709551616 C w (some ⟨1, 0, none⟩) 1 [12]) (hk2 : Sl .i64 18446744073709551616 C w (some ⟨2, 0, none⟩) 1 [80]) (hn : 2 ≤ n) (hn8 : n ≤ 11) (hnu : n ≤ N2) (hnc : n ≤ cx) (hcx : cx ≤ 9223372036854775807) (hc : c < (2 * n)) (hc0 : 0 < c) (hcm : c ≤ 9223372036854775807) :
    Calls P 101 #[.slice (some ⟨g, 0, none⟩) l c, .pointer sp, .slice (some ⟨g2, 0, none⟩) n cx] w fun ex w' => ∃ (g3 c3 m : Nat) (rs : List Nat), ex = .returned (.slice (some ⟨g3, 0, none⟩) m c3) ∧ Keep (ButN [g, g2] w) w w' ∧ w.heap.size ≤ g3 ∧ w'.heap[g3]? = some (.cells (ints .u64 (put (List.replicate c3 0) 0 rs)).toArray 102) ∧ w'.heap[g2]? = some (.cells (ints .u64 us).toArray 102) ∧ w'.heap[g]? = some (.cells (ints .u64 zs).toArray 102) ∧ (2 * n) ≤ c3 ∧ c3 ≤ (2 * n) + 4 ∧ rs.length = (2 * n) ∧ Ndig rs ∧ m ≤ (2 * n) ∧ Ntrim (rs.take m) ∧ nval (rs.take m) = nval ((us.drop 0).take n) * nval ((us.drop 0).take n) := by
 refine doorN (e := ((e0.addR 0 (.slice (some ⟨g, 0, none⟩) N N)).addR 1 (.slice (some ⟨g2, 0, none⟩) N2 N2))) (vs := [.rsl 0 0 l c, .v (.pointer sp), .rsl 1 0 n cx]) (n := 76) (m := 3) Tryz.func101 rfl rfl rfl (by decide) fun a_ hI => ?_
 replace hI : Is 76 [] ((e0.addR 0 (.slice (some ⟨g, 0, none⟩) N N)).addR 1 (.slice (some ⟨g2, 0, none⟩) N2 N2)) [(0, .rsl 0 0 l c), (1, .v (.pointer sp)), (2, .rsl 1 0 n cx)] a_ := hI
 have hf0 : Full ((e0.addR 0 (.slice (some ⟨g, 0, none⟩) N N)).addR 1 (.slice (some ⟨g2, 0, none⟩) N2 N2)) 0 N := rfl; have hg0 : headOf (((e0.addR 0 (.slice (some ⟨g, 0, none⟩) N N)).addR 1 (.slice (some ⟨g2, 0, none⟩) N2 N2)).r 0) = g := rfl
 have hf1 : Full ((e0.addR 0 (.slice (some ⟨g, 0, none⟩) N N)).addR 1 (.slice (some ⟨g2, 0, none⟩) N2 N2)) 1 N2 := rfl; have hg1 : headOf (((e0.addR 0 (.slice (some ⟨g, 0, none⟩) N N)).addR 1 (.slice (some ⟨g2, 0, none⟩) N2 N2)).r 1) = g2 := rfl
 have hR : Rel (ButN [g, g2] w) w ((e0.addR 0 (.slice (some ⟨g, 0, none⟩) N N)).addR 1 (.slice (some ⟨g2, 0, none⟩) N2 N2)) [] [⟨0, 102, 1, N, (ints .u64 zs)⟩, ⟨1, 102, 1, N2, (ints .u64 us)⟩] w := Rel.startN (fun k_ h_ => h_.1) all_no (all_cons ⟨ownsRow_fullN hz (by first | exact hzl | (rw [ints_length]; exact hzl)) hzm, fun g_ he_ => by cases he_; exact (fun hm_ => hm_.2 m0)⟩ (all_cons ⟨ownsRow_fullN hu (by first | exact hul | (rw [ints_length]; exact hul)) hum, fun g_ he_ => by cases he_; exact (fun hm_ => hm_.2 m1)⟩ all_no)) all_no all_no (all_cons (all_cons (fun hn_ => absurd rfl hn_) (all_cons (fun _ g_ h1_ h2_ => hne ((Option.some.inj h1_).trans (Option.some.inj h2_).symm)) all_no)) (all_cons (all_cons (fun _ g_ h1_ h2_ => (Ne.symm hne) ((Option.some.inj h1_).trans (Option.some.inj h2_).symm)) (all_cons (fun hn_ => absurd rfl hn_) all_no)) all_no))
 have hB : BaseD (ButN [g, g2] w) C w C (ButN [g, g2] w) w := BaseD.start (fun k_ hC_ hlt_ => ⟨hlt_, notin2 (fun he_ => hCg (he_ ▸ hC_)) (notin2 (fun he_ => hCu (he_ ▸ hC_)) (fun hm_ => by cases hm_))⟩)
 have hxl_ : ((us.drop 0).take n).length = n := by rw [List.length_take, List.length_drop]; omega
 refine rZ tab 2 [] [0, 1, 2] hR hI fun e1 a1 w1 hag hR hI => ?_
 have hA := hag
 refine rZ tab 2 [(7, vI n)] [0, 1, 2] hR hI fun e2 a2 w2 hag hR hI => ?_
 replace hA := hA.trans hag (by decide)
 refine wp_seq ?_
 refine wp_block ?_
 refine rK tab 2 [(1, .eq (.bool false))] [] [(11, vB false)] [7, 0, 1, 2] [] [] [] [0, 1] 2 hR hI (.cons (congrArg Value.bool (beq_eq_false_iff_ne.2 (by omega) : ((n : Int) == (0 : Int)) = false)) .nil) fun e3 a3 w3 hag hR hI => ?_
 replace hA := hA.trans hag (by decide)
 refine cnd_f hI (by kernel_rfl) ?_
 refine rK tab 2 [(1, .eq (.bool false))] [] [(16, vB false)] [7, 0, 1, 2] [] [] [] [0, 1] 2 hR hI (.cons (congrArg Value.bool (beq_eq_false_iff_ne.2 (by omega) : ((n : Int) == (1 : Int)) = false)) .nil) fun e4 a4 w4 hag hR hI => ?_
 replace hA := hA.trans hag (by decide)
 refine cnd_f hI (by kernel_rfl) ?_
 refine wp_skip ?_
 refine normal_block ?_
 refine then_n ?_
 refine wp_seq ?_
 refine wp_seq (reg (is := [0, 1, 2]) (by kernel_rfl) ?_)
 refine pZ tab [0, 1] [2] 2 [(37, .rsl 1 0 n cx), (36, .rsl 0 0 l c)] [7, 0, 1, 2] hR hI fun e5 a5 w5 hag hR hI => ?_
 replace hA := hA.trans hag (by decide)
 refine cO [.rsl 0 0 l c, .rsl 1 0 n cx] hI Tryz.func74 ?_
 replace hf0 := tf hA hf0
 replace hg0 := tg hA hg0
 replace hf1 := tf hA hf1
 replace hg1 := tg hA hg1
 have hq0_ := hR.rowCells (y := ⟨0, 102, 1, N, (ints .u64 zs)⟩) m0 hf0 rfl
 have hq1_ := hR.rowCells (y := ⟨1, 102, 1, N2, (ints .u64 us)⟩) m1 hf1 rfl
 refine (alias_spec (C := fun _ => False) hq0_.1 hzl hzm hq1_.1 hul hum (hR.ggN m0 m1 (by dsimp only; decide) hf0 hf1) (fun h_ => h_) (fun h_ => h_) (by omega) (by omega) (by omega) (by omega)).mono ?_
 rintro ex w6 ⟨rfl, hk, hw0, hw1⟩
 have hkF_ := hR.keepN hk (all_cons hq0_.2 (all_cons hq1_.2 all_no))
 have hR_ : Rel (Grow _ _ w6) w6 e5 [] [⟨0, 102, 1, N, (ints .u64 zs)⟩, ⟨1, 102, 1, N2, (ints .u64 us)⟩] w6 := hR.turnedN hk (all_cons hq0_.2 (all_cons hq1_.2 all_no)) all_no (all_cons ⟨⟨_, m0, rfl⟩, .inr (by have hl_ := hR.rowLen (y := ⟨0, 102, 1, N, (ints .u64 zs)⟩) m0; dsimp only at hl_; rw [show e5.r 0 = _ from hf0]; exact ownsRow_fullN hw0 (by rw [ints_length]; first | exact hzl | (rw [put_length (by omega)]; exact hzl)) (hzm))⟩ (all_cons ⟨⟨_, m1, rfl⟩, .inr (by have hl_ := hR.rowLen (y := ⟨1, 102, 1, N2, (ints .u64 us)⟩) m1; dsimp only at hl_; rw [show e5.r 1 = _ from hf1]; exact ownsRow_fullN hw1 (by rw [ints_length]; exact hul) (hum))⟩ all_no))
 replace hk1 := hk1.nextF hB hR hkF_
 replace hk2 := hk2.nextF hB hR hkF_
 have hB_ := hB.nextF hR hkF_
 replace hR := hR_; clear hR_
 replace hB := hB_; clear hB_ hk hkF_ hq0_ hw0 hq1_ hw1
 refine ⟨_, rfl, ?_⟩
 replace hI := hI.pt 38 (vB false) [38, 37, 36, 7, 0, 1, 2]
 refine ops_nil (then_n ?_)
 refine cnd_f hI (by kernel_rfl) ?_
 refine wp_skip ?_
 refine then_n ?_
 refine wp_seq (reg (is := [0, 1, 2, 3, 4]) (by kernel_rfl) ?_)
 refine pK tab [0, 1, 2] [3, 4] 2 [(2, .eq (.int .i64 ((2 * n : Nat) : Int)))] [] [(41, vI (2 * n)), (39, .rsl 0 0 l c)] [7, 0, 1, 2] [] [] [] [0, 1] 2 hR hI (.cons (wI ((2 : Int) * (n : Int)) ((2 * n : Nat) : Int) (by omega) (by omega)) .nil) fun e7 a7 w7 hag hR hI => ?_
 have hA := hag
 refine cO [.rsl 0 0 l c, vI (2 * n)] hI Tryz.func78 ?_
 have hsz_ := (hB.fin hR).size
 refine (makeBig_spec (C := Now hB) (k := c) (n := (2 * n)) (by omega) (by omega)).mono ?_
 rintro ex w8 ⟨g3, c3, rfl, hk, hge, hwg, hc1, hc2⟩
 replace hk := keepBut0 hk
 have hkF_ := hR.keepN hk all_no
 replace hf0 := tf hA hf0
 replace hg0 := tg hA hg0
 replace hf1 := tf hA hf1
 replace hg1 := tg hA hg1
 have hR_ : Rel (Grow _ _ w8) w8 e7 [] [⟨0, 102, 1, N, (ints .u64 zs)⟩, ⟨1, 102, 1, N2, (ints .u64 us)⟩] w8 := hR.turnedN hk all_no all_no (all_cons ⟨⟨_, m0, rfl⟩, .inl ⟨m0, fun g_ he_ => own_ne hf0 (fun hm_ => by cases hm_) he_⟩⟩ (all_cons ⟨⟨_, m1, rfl⟩, .inl ⟨m1, fun g_ he_ => own_ne hf1 (fun hm_ => by cases hm_) he_⟩⟩ all_no))
 have hM_ : ∀ b_ ∈ ([g3] : List Nat), _ ≤ b_ := (all_cons hge all_no)
 replace hk1 := hk1.nextN hB hR hkF_ hM_
 replace hk2 := hk2.nextN hB hR hkF_ hM_
 have hB_ := hB.nextN hR hkF_ hM_; have hR1_ := hR_.shrinkN (M := [g3])
 obtain ⟨hfr1_, hfr2_⟩ := hR.fresh (H' := []) (G' := [⟨0, 102, 1, N, (ints .u64 zs)⟩, ⟨1, 102, 1, N2, (ints .u64 us)⟩]) all_no (all_cons ⟨_, m0, rfl⟩ (all_cons ⟨_, m1, rfl⟩ all_no)) hge
 obtain ⟨hag_, hR2_⟩ := hR1_.gotRow (L := []) (k := 2) (g := g3) (n := c3) (t := 102) (xs := (ints .u64 (List.replicate c3 0))) (by kernel_rfl) hwg (by rw [ints_length, List.length_replicate]) (by omega) (fun hf_ => hf_.2.1 m0) hfr1_ hfr2_
 replace hI := hI.agreeB (H := []) (G := []) (by kernel_rfl) hag_
 replace hf0 := tf hag_ hf0
 replace hg0 := tg hag_ hg0
 replace hf1 := tf hag_ hf1
 replace hg1 := tg hag_ hg1
 have hf2 : Full (e7.addR 2 (.slice (some ⟨g3, 0, none⟩) c3 c3)) 2 c3 := full_addR _ _ _ _; have hnew2 : headOf ((e7.addR 2 (.slice (some ⟨g3, 0, none⟩) c3 c3)).r 2) = g3 := head_addR _ _ _ _
 replace hR := hR2_; clear hR2_ hR_ hR1_
 replace hB := hB_; clear hB_ hk hkF_ 
 have hgw := Nat.le_trans hsz_ hge
 have hrl_ : (List.replicate c3 0).length = c3 := List.length_replicate
 have hrd_ : Ndig (List.replicate c3 0) := ndig_replicate _
 refine ⟨_, rfl, ?_⟩
 replace hI := hI.pt 42 (.rsl 2 0 (2 * n) c3) [42, 41, 39, 7, 0, 1, 2]
 refine pZ tab [4] [] 3 [(0, .rsl 2 0 (2 * n) c3)] [7, 1, 2] hR hI fun e9 a9 w9 hag hR hI => ?_
 have hA := hag
 refine ops_nil (then_n ?_)
 refine wp_seq ?_
 refine rK tab 3 [(1, .val (.v (.int .i64 (([12] : List Nat).getD 0 0 : Nat)))), (2, .eq (.bool true)), (5, .val (.v (.int .i64 (([80] : List Nat).getD 0 0 : Nat)))), (6, .eq (.bool true))] [] [(50, vB true)] [0, 7, 1, 2] [] [] [] [2, 0, 1] 3 hR hI (.cons (nats_load (i := 0) (m := 1) (hk1.cells.mono hB.cls) (by decide)) (.cons (congrArg Value.bool (decide_eq_true (by show _ < ((12 : Nat) : Int); omega) : (decide ((n : Int) < (([12] : List Nat).getD 0 0 : Nat))) = true)) (.cons (nats_load (i := 0) (m := 1) (hk2.cells.mono hB.cls) (by decide)) (.cons (congrArg Value.bool (decide_eq_true (by show _ < ((80 : Nat) : Int); omega) : (decide ((n : Int) < (([80] : List Nat).getD 0 0 : Nat))) = true)) .nil)))) fun e10 a10 w10 hag hR hI => ?_
 replace hA := hA.trans hag (by decide)
 refine cnd_t hI (by kernel_rfl) ?_
 refine wp_seq (reg (is := [0, 1, 2, 3]) (by kernel_rfl) ?_)
 refine pZ tab [0, 1, 2] [3] 3 [(53, .rsl 1 0 n cx), (52, .rsl 1 0 n cx), (51, .rsl 2 0 (2 * n) c3)] [0] hR hI fun e11 a11 w11 hag hR hI => ?_
 replace hA := hA.trans hag (by decide)
 refine cO [.rsl 2 0 (2 * n) c3, .rsl 1 0 n cx, .rsl 1 0 n cx] hI Tryz.func135 ?_
 replace hf0 := tf hA hf0
 replace hg0 := tg hA hg0
 replace hf1 := tf hA hf1
 replace hg1 := tg hA hg1
 replace hf2 := tf hA hf2
 replace hnew2 := tg hA hnew2
 have hxk := hR.rowRead (y := ⟨1, 102, 1, N2, (ints .u64 us)⟩) m2 hf1 rfl rfl hud 0 n (by omega) (c := cx) (by omega) (by omega)
 have hq2_ := hR.rowCells (y := ⟨2, 102, 1, c3, (ints .u64 (List.replicate c3 0))⟩) m0 hf2 rfl
 refine (basicMull_spec (C := fun b_ => b_ = headOf (e11.r 1)) hxl_ hxl_ hq2_.1 hrl_ (by omega) (fun h_ => hR.ggN m0 m2 (by dsimp only; decide) hf2 hf1 h_) hrd_ hxk hxk (by omega) (by omega) (by omega) (by omega) (by omega)).mono ?_
 rintro ex w12 ⟨rs, rfl, hk, hw2, hrl, hrd, hrv⟩
 have hkF_ := hR.keepN hk (all_cons hq2_.2 all_no)
 have hR_ : Rel (Grow _ _ w12) w12 e11 [] [⟨2, 102, 1, c3, (ints .u64 (put (List.replicate c3 0) 0 rs))⟩, ⟨0, 102, 1, N, (ints .u64 zs)⟩, ⟨1, 102, 1, N2, (ints .u64 us)⟩] w12 := hR.turnedN hk (all_cons hq2_.2 all_no) all_no (all_cons ⟨⟨_, m0, rfl⟩, .inr (by have hl_ := hR.rowLen (y := ⟨2, 102, 1, c3, (ints .u64 (List.replicate c3 0))⟩) m0; dsimp only at hl_; rw [show e11.r 2 = _ from hf2]; exact ownsRow_fullN hw2 (by rw [ints_length]; first | exact hrl_ | (rw [put_length (by omega)]; exact hrl_)) (by omega))⟩ (all_cons ⟨⟨_, m1, rfl⟩, .inl ⟨m1, fun g_ he_ => own_ne hf0 (notin2 (hR.ggN m1 m0 (by dsimp only; decide) hf0 hf2) (fun hm_ => by cases hm_)) he_⟩⟩ (all_cons ⟨⟨_, m2, rfl⟩, .inl ⟨m2, fun g_ he_ => by have hx_ := (hf1).own; rw [hx_] at he_; cases he_; exact (notin2 (hR.ggN m2 m0 (by dsimp only; decide) hf1 hf2) (fun hm_ => by cases hm_))⟩⟩ all_no)))
 replace hk1 := hk1.nextF hB hR hkF_
 replace hk2 := hk2.nextF hB hR hkF_
 have hB_ := hB.nextF hR hkF_
 replace hR := hR_; clear hR_
 replace hB := hB_; clear hB_ hk hkF_ hq2_ hw2
 refine ⟨_, rfl, ?_⟩
 replace hI := hI.pt 54 (.v (.tuple #[])) [54, 53, 52, 51, 0]
 refine ops_nil (then_n ?_)
 refine wp_seq (reg (is := [0, 1, 2]) (by kernel_rfl) ?_)
 refine pZ tab [0] [1, 2] 3 [(55, .rsl 2 0 (2 * n) c3)] [] hR hI fun e13 a13 w13 hag hR hI => ?_
 have hA := hag
 refine cO [.rsl 2 0 (2 * n) c3] hI Tryz.func77 ?_
 replace hf0 := tf hA hf0
 replace hg0 := tg hA hg0
 replace hf1 := tf hA hf1
 replace hg1 := tg hA hg1
 replace hf2 := tf hA hf2
 replace hnew2 := tg hA hnew2
 have hpl : (put (List.replicate c3 0) 0 rs).length = c3 := by rw [put_length (by omega)]; exact hrl_
 have hzk := hR.rowRead (y := ⟨2, 102, 1, c3, (ints .u64 (put (List.replicate c3 0) 0 rs))⟩) m0 hf2 rfl rfl (put_dig hrd_ hrd) 0 (2 * n) (by omega) (c := c3) (by omega) (by omega)
 rw [show ((put (List.replicate c3 0) 0 rs).drop 0).take (2 * n) = rs from put_take (by omega)] at hzk
 refine (normL_spec (C := fun b_ => b_ = headOf (e13.r 2)) (l := (2 * n)) (by omega) hzk).mono ?_
 rintro ex w14 ⟨m, rfl, hk, hm, htm, hvm⟩
 replace hR := hR.same hk; clear hk
 refine ⟨_, rfl, ?_⟩
 replace hI := hI.pt 56 (.rsl 2 0 m c3) [56, 55]
 refine pZ tab [2] [] 3 [(6, .rsl 2 0 m c3)] [] hR hI fun e15 a15 w15 hag hR hI => ?_
 have hA := hag
 refine ops_nil (then_n ?_)
 refine wp_ret ?_
 refine ret_then ?_
 refine oN tab [.rsl 2 0 m c3] hR hI ?_
 replace hf0 := tf hA hf0
 replace hg0 := tg hA hg0
 replace hf1 := tf hA hf1
 replace hg1 := tg hA hg1
 replace hf2 := tf hA hf2
 replace hnew2 := tg hA hnew2
 exact ⟨g3, c3, m, rs, by simp only [single, den, hnew2], hB.fin hR, hgw, (hR.rowFin (y := ⟨2, 102, 1, c3, (ints .u64 (put (List.replicate c3 0) 0 rs))⟩) m0 hf2 rfl hnew2), (hR.rowFin (y := ⟨1, 102, 1, N2, (ints .u64 us)⟩) m2 hf1 rfl hg1), (hR.rowFin (y := ⟨0, 102, 1, N, (ints .u64 zs)⟩) m1 hf0 rfl hg0), by omega, by omega, by omega, hrd, by omega, htm, by rw [hvm, hrv]⟩

end Go.Proofs.YtmendapdibnbdaaGreatDoor.Stride
