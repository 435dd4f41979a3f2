/- Walks of the program's functions, printed by a program of mine (walk.py) over the words of Stride: each function's contract. -/
import Derived.Test.YtmendapdibnbdaaGreatDoorPwE
namespace Go.Proofs.YtmendapdibnbdaaGreatDoor.Stride
open Go Go.RowKit Go.Proofs.YtmendapdibnbdaaGreatDoor.Mag
set_option linter.unusedVariables false
set_option linter.unusedSimpArgs false
set_option maxHeartbeats 4000000
set_option maxRecDepth 100000
def ExpPost (C : Nat → Prop) (w w' : World) (ad : Option Addr) (l cc : Nat) (rs : List Nat) (V : Nat) : Prop := rs.length = l ∧ Sl .u64 18446744073709551616 (Grow C w w') w' ad cc rs ∧ Ntrim rs ∧ nval rs = V

theorem expA_spec {C : Nat → Prop} {w : World} {g N nu c ly yc : Nat} {zs ys : List Nat} {ad : Option Addr} (hz : w.heap[g]? = some (.cells (ints .u64 zs).toArray 102)) (hzl : zs.length = N) (hzm : N ≤ 9223372036854775807) (hCg : ¬ C g) (hzd : Ndig zs) (hfit : nu ≤ N) (hc : nu ≤ c) (hc0 : 0 < c) (hcm : c ≤ 9223372036854775807) (hy : Sl .u64 18446744073709551616 C w ad yc ys) (hly : ys.length = 0)  :
    Calls P 75 #[.slice (some ⟨g, 0, none⟩) nu c, .pointer none, .slice (some ⟨g, 0, none⟩) nu c, .slice ad 0 yc, .slice none 0 0, .bool false] w fun ex w' => ∃ ad2 l2 c2 rs, ex = .returned (.slice ad2 l2 c2) ∧ Keep (ButN [g] w) w w' ∧ w'.heap[g]? = some (.cells (ints .u64 zs).toArray 102) ∧ ExpPost C w w' ad2 l2 c2 rs (1) := by
 refine doorN (e := (e0.addR 0 (.slice (some ⟨g, 0, none⟩) N N))) (vs := [.rsl 0 0 nu c, .v (.pointer none), .rsl 0 0 nu c, vS ad 0 yc, vS none 0 0, vB false]) (n := 250) (m := 6) Tryz.func75 rfl rfl rfl (by decide) fun a_ hI => ?_
 replace hI : Is 250 [] (e0.addR 0 (.slice (some ⟨g, 0, none⟩) N N)) [(0, .rsl 0 0 nu c), (1, .v (.pointer none)), (2, .rsl 0 0 nu c), (3, vS ad 0 yc), (4, vS none 0 0), (5, vB false)] a_ := hI
 have hf0 : Full (e0.addR 0 (.slice (some ⟨g, 0, none⟩) N N)) 0 N := rfl; have hg0 : headOf ((e0.addR 0 (.slice (some ⟨g, 0, none⟩) N N)).r 0) = g := rfl
 have hR : Rel (ButN [g] w) w (e0.addR 0 (.slice (some ⟨g, 0, none⟩) N N)) [] [⟨0, 102, 1, N, (ints .u64 zs)⟩] w := Rel.startN (fun k_ h_ => h_.1) all_no (all_cons ⟨ownsRow_fullN hz (by first | exact hzl | (rw [ints_length]; exact hzl)) hzm, fun g_ he_ => by cases he_; exact (fun hm_ => hm_.2 m0)⟩ all_no) all_no all_no (all_cons (all_cons (fun hn_ => absurd rfl hn_) all_no) all_no)
 have hB : BaseD (ButN [g] w) C w C (ButN [g] w) w := BaseD.start (fun k_ hC_ hlt_ => ⟨hlt_, notin2 (fun he_ => hCg (he_ ▸ hC_)) (fun hm_ => by cases hm_)⟩)
 have hry := hy.room; have hmy := hy.max
 refine rZ tab 1 [] [0, 1, 2, 3, 4, 5] hR hI fun e1 a1 w1 hag hR hI => ?_
 have hA := hag
 refine wp_seq ?_
 refine wp_seq (reg (is := [0, 1, 2, 3, 4, 5, 6, 7]) (by kernel_rfl) ?_)
 refine pZ tab [0, 1] [2, 3, 4, 5, 6, 7] 1 [(25, .rsl 0 0 nu c), (24, .rsl 0 0 nu c)] [0, 1, 2, 3, 4, 5] hR hI fun e2 a2 w2 hag hR hI => ?_
 replace hA := hA.trans hag (by decide)
 refine cO [.rsl 0 0 nu c, .rsl 0 0 nu c] hI Tryz.func74 ?_
 replace hf0 := tf hA hf0
 replace hg0 := tg hA hg0
 have hq0_ := hR.rowCells (y := ⟨0, 102, 1, N, (ints .u64 zs)⟩) m0 hf0 rfl
 refine (aliasSelf_spec (C := fun _ => False) hq0_.1 hzl hzm (fun h_ => h_) hc0 hcm).mono ?_
 rintro ex w3 ⟨rfl, hk, hw0⟩
 have hkF_ := hR.keepN hk (all_cons hq0_.2 all_no)
 have hR_ : Rel (Grow _ _ w3) w3 e2 [] [⟨0, 102, 1, N, (ints .u64 zs)⟩] w3 := hR.turnedN hk (all_cons hq0_.2 all_no) all_no (all_cons ⟨⟨_, m0, rfl⟩, .inr (by have hl_ := hR.rowLen (y := ⟨0, 102, 1, N, (ints .u64 zs)⟩) m0; dsimp only at hl_; rw [show e2.r 0 = _ from hf0]; exact ownsRow_fullN hw0 (by rw [ints_length]; exact hzl) (hzm))⟩ all_no)
 replace hy := hy.nextF hB hR hkF_
 have hB_ := hB.nextF hR hkF_
 replace hR := hR_; clear hR_
 replace hB := hB_; clear hB_ hk hkF_ hq0_ hw0
 refine ⟨_, rfl, ?_⟩
 replace hI := hI.pt 26 (vB true) [26, 25, 24, 0, 1, 2, 3, 4, 5]
 refine pZ tab [3, 4, 5] [6, 7] 1 [(27, vB true)] [0, 1, 2, 3, 4, 5] hR hI fun e4 a4 w4 hag hR hI => ?_
 have hA := hag
 refine pZ tab [] [6, 7] 1 [] [27, 0, 1, 2, 3, 4, 5] hR hI fun e5 a5 w5 hag hR hI => ?_
 replace hA := hA.trans hag (by decide)
 refine pZ tab [6, 7] [] 1 [(31, vB true)] [0, 1, 2, 3, 4, 5] hR hI fun e6 a6 w6 hag hR hI => ?_
 replace hA := hA.trans hag (by decide)
 refine ops_nil (then_n ?_)
 refine cnd_t hI (by kernel_rfl) ?_
 refine aZ tab 1 [(0, vS none 0 0)] [1, 2, 3, 4, 5] hR hI fun e7 a7 w7 hag hR hI => ?_
 replace hA := hA.trans hag (by decide)
 refine then_n ?_
 refine wp_seq ?_
 refine rZ tab 1 [(40, vB false)] [0, 1, 2, 3, 4, 5] hR hI fun e8 a8 w8 hag hR hI => ?_
 replace hA := hA.trans hag (by decide)
 refine cnd_f hI (by kernel_rfl) ?_
 refine wp_skip ?_
 refine then_n ?_
 refine wp_seq ?_
 refine rZ tab 1 [(45, vB true)] [0, 1, 2, 3, 4, 5] hR hI fun e9 a9 w9 hag hR hI => ?_
 replace hA := hA.trans hag (by decide)
 refine cnd_t hI (by kernel_rfl) ?_
 refine wp_seq (reg (is := [0, 1, 2]) (by kernel_rfl) ?_)
 refine pZ tab [0] [1, 2] 1 [(46, vS none 0 0)] [] hR hI fun e10 a10 w10 hag hR hI => ?_
 replace hA := hA.trans hag (by decide)
 refine cO [vS none 0 0, .v (.int .u64 1)] hI Tryz.func65 ?_
 refine (setWord_spec (C := Now hB) (x := 1) (by decide)).mono ?_
 rintro ex w11 ⟨rd, rl, rc, rs, rfl, hrl, hk, hrs, htr, hvr⟩
 replace hrs := hrs.up (C := Now hB)
 replace hy := hy.next hB hR hk
 obtain ⟨hB, hR⟩ := nx hB hR hk
 refine ⟨_, rfl, ?_⟩
 replace hI := hI.pt 47 (vS rd rl rc) [47, 46]
 refine pZ tab [2] [] 1 [(12, vS rd rl rc)] [] hR hI fun e12 a12 w12 hag hR hI => ?_
 replace hA := hA.trans hag (by decide)
 refine ops_nil (then_n ?_)
 refine wp_ret ?_
 refine ret_then ?_
 refine oN tab [vS rd rl rc] hR hI ?_
 replace hf0 := tf hA hf0
 replace hg0 := tg hA hg0
 exact ⟨rd, rl, rc, rs, rfl, hB.fin hR, (hR.rowFin (y := ⟨0, 102, 1, N, (ints .u64 zs)⟩) m0 hf0 rfl hg0), hrl, hrs.fin hB hR, htr, hvr⟩

theorem expB_spec {C : Nat → Prop} {w : World} {g N nu c ly yc : Nat} {zs ys : List Nat} {ad : Option Addr} (hz : w.heap[g]? = some (.cells (ints .u64 zs).toArray 102)) (hzl : zs.length = N) (hzm : N ≤ 9223372036854775807) (hCg : ¬ C g) (hzd : Ndig zs) (hfit : 0 ≤ N) (hc : 0 ≤ c) (hc0 : 0 < c) (hcm : c ≤ 9223372036854775807) (hy : Sl .u64 18446744073709551616 C w ad yc ys) (hly : ys.length = ly) (h1 : 1 ≤ ly) :
    Calls P 75 #[.slice (some ⟨g, 0, none⟩) 0 c, .pointer none, .slice (some ⟨g, 0, none⟩) 0 c, .slice ad ly yc, .slice none 0 0, .bool false] w fun ex w' => ∃ ad2 l2 c2 rs, ex = .returned (.slice ad2 l2 c2) ∧ Keep (ButN [g] w) w w' ∧ w'.heap[g]? = some (.cells (ints .u64 zs).toArray 102) ∧ ExpPost C w w' ad2 l2 c2 rs (0) := by
 refine doorN (e := (e0.addR 0 (.slice (some ⟨g, 0, none⟩) N N))) (vs := [.rsl 0 0 0 c, .v (.pointer none), .rsl 0 0 0 c, vS ad ly yc, vS none 0 0, vB false]) (n := 250) (m := 6) Tryz.func75 rfl rfl rfl (by decide) fun a_ hI => ?_
 replace hI : Is 250 [] (e0.addR 0 (.slice (some ⟨g, 0, none⟩) N N)) [(0, .rsl 0 0 0 c), (1, .v (.pointer none)), (2, .rsl 0 0 0 c), (3, vS ad ly yc), (4, vS none 0 0), (5, vB false)] a_ := hI
 have hf0 : Full (e0.addR 0 (.slice (some ⟨g, 0, none⟩) N N)) 0 N := rfl; have hg0 : headOf ((e0.addR 0 (.slice (some ⟨g, 0, none⟩) N N)).r 0) = g := rfl
 have hR : Rel (ButN [g] w) w (e0.addR 0 (.slice (some ⟨g, 0, none⟩) N N)) [] [⟨0, 102, 1, N, (ints .u64 zs)⟩] w := Rel.startN (fun k_ h_ => h_.1) all_no (all_cons ⟨ownsRow_fullN hz (by first | exact hzl | (rw [ints_length]; exact hzl)) hzm, fun g_ he_ => by cases he_; exact (fun hm_ => hm_.2 m0)⟩ all_no) all_no all_no (all_cons (all_cons (fun hn_ => absurd rfl hn_) all_no) all_no)
 have hB : BaseD (ButN [g] w) C w C (ButN [g] w) w := BaseD.start (fun k_ hC_ hlt_ => ⟨hlt_, notin2 (fun he_ => hCg (he_ ▸ hC_)) (fun hm_ => by cases hm_)⟩)
 have hry := hy.room; have hmy := hy.max
 refine rZ tab 1 [] [0, 1, 2, 3, 4, 5] hR hI fun e1 a1 w1 hag hR hI => ?_
 have hA := hag
 refine wp_seq ?_
 refine wp_seq (reg (is := [0, 1, 2, 3, 4, 5, 6, 7]) (by kernel_rfl) ?_)
 refine pZ tab [0, 1] [2, 3, 4, 5, 6, 7] 1 [(25, .rsl 0 0 0 c), (24, .rsl 0 0 0 c)] [0, 1, 2, 3, 4, 5] hR hI fun e2 a2 w2 hag hR hI => ?_
 replace hA := hA.trans hag (by decide)
 refine cO [.rsl 0 0 0 c, .rsl 0 0 0 c] hI Tryz.func74 ?_
 replace hf0 := tf hA hf0
 replace hg0 := tg hA hg0
 have hq0_ := hR.rowCells (y := ⟨0, 102, 1, N, (ints .u64 zs)⟩) m0 hf0 rfl
 refine (aliasSelf_spec (C := fun _ => False) hq0_.1 hzl hzm (fun h_ => h_) hc0 hcm).mono ?_
 rintro ex w3 ⟨rfl, hk, hw0⟩
 have hkF_ := hR.keepN hk (all_cons hq0_.2 all_no)
 have hR_ : Rel (Grow _ _ w3) w3 e2 [] [⟨0, 102, 1, N, (ints .u64 zs)⟩] w3 := hR.turnedN hk (all_cons hq0_.2 all_no) all_no (all_cons ⟨⟨_, m0, rfl⟩, .inr (by have hl_ := hR.rowLen (y := ⟨0, 102, 1, N, (ints .u64 zs)⟩) m0; dsimp only at hl_; rw [show e2.r 0 = _ from hf0]; exact ownsRow_fullN hw0 (by rw [ints_length]; exact hzl) (hzm))⟩ all_no)
 replace hy := hy.nextF hB hR hkF_
 have hB_ := hB.nextF hR hkF_
 replace hR := hR_; clear hR_
 replace hB := hB_; clear hB_ hk hkF_ hq0_ hw0
 refine ⟨_, rfl, ?_⟩
 replace hI := hI.pt 26 (vB true) [26, 25, 24, 0, 1, 2, 3, 4, 5]
 refine pZ tab [3, 4, 5] [6, 7] 1 [(27, vB true)] [0, 1, 2, 3, 4, 5] hR hI fun e4 a4 w4 hag hR hI => ?_
 have hA := hag
 refine pZ tab [] [6, 7] 1 [] [27, 0, 1, 2, 3, 4, 5] hR hI fun e5 a5 w5 hag hR hI => ?_
 replace hA := hA.trans hag (by decide)
 refine pZ tab [6, 7] [] 1 [(31, vB true)] [0, 1, 2, 3, 4, 5] hR hI fun e6 a6 w6 hag hR hI => ?_
 replace hA := hA.trans hag (by decide)
 refine ops_nil (then_n ?_)
 refine cnd_t hI (by kernel_rfl) ?_
 refine aZ tab 1 [(0, vS none 0 0)] [1, 2, 3, 4, 5] hR hI fun e7 a7 w7 hag hR hI => ?_
 replace hA := hA.trans hag (by decide)
 refine then_n ?_
 refine wp_seq ?_
 refine rZ tab 1 [(40, vB false)] [0, 1, 2, 3, 4, 5] hR hI fun e8 a8 w8 hag hR hI => ?_
 replace hA := hA.trans hag (by decide)
 refine cnd_f hI (by kernel_rfl) ?_
 refine wp_skip ?_
 refine then_n ?_
 refine wp_seq ?_
 refine rK tab 1 [(2, .eq (.bool false))] [] [(45, vB false)] [0, 1, 2, 3, 4, 5] [] [] [] [0] 1 hR hI (.cons (congrArg Value.bool (beq_eq_false_iff_ne.2 (by omega) : ((ly : Int) == (0 : Int)) = false)) .nil) fun e9 a9 w9 hag hR hI => ?_
 replace hA := hA.trans hag (by decide)
 refine cnd_f hI (by kernel_rfl) ?_
 refine wp_skip ?_
 refine then_n ?_
 refine wp_seq ?_
 refine rZ tab 1 [(50, vB true)] [0, 1, 2, 3, 4, 5] hR hI fun e10 a10 w10 hag hR hI => ?_
 replace hA := hA.trans hag (by decide)
 refine cnd_t hI (by kernel_rfl) ?_
 refine wp_seq (reg (is := [0, 1, 2]) (by kernel_rfl) ?_)
 refine pZ tab [0] [1, 2] 1 [(51, vS none 0 0)] [] hR hI fun e11 a11 w11 hag hR hI => ?_
 replace hA := hA.trans hag (by decide)
 refine cO [vS none 0 0, .v (.int .u64 0)] hI Tryz.func65 ?_
 refine (setWord_spec (C := Now hB) (x := 0) (by decide)).mono ?_
 rintro ex w12 ⟨rd, rl, rc, rs, rfl, hrl, hk, hrs, htr, hvr⟩
 replace hrs := hrs.up (C := Now hB)
 replace hy := hy.next hB hR hk
 obtain ⟨hB, hR⟩ := nx hB hR hk
 refine ⟨_, rfl, ?_⟩
 replace hI := hI.pt 52 (vS rd rl rc) [52, 51]
 refine pZ tab [2] [] 1 [(12, vS rd rl rc)] [] hR hI fun e13 a13 w13 hag hR hI => ?_
 replace hA := hA.trans hag (by decide)
 refine ops_nil (then_n ?_)
 refine wp_ret ?_
 refine ret_then ?_
 refine oN tab [vS rd rl rc] hR hI ?_
 replace hf0 := tf hA hf0
 replace hg0 := tg hA hg0
 exact ⟨rd, rl, rc, rs, rfl, hB.fin hR, (hR.rowFin (y := ⟨0, 102, 1, N, (ints .u64 zs)⟩) m0 hf0 rfl hg0), hrl, hrs.fin hB hR, htr, hvr⟩

theorem expC_spec {C : Nat → Prop} {w : World} {g N nu c ly yc : Nat} {zs ys : List Nat} {ad : Option Addr} (hz : w.heap[g]? = some (.cells (ints .u64 zs).toArray 102)) (hzl : zs.length = N) (hzm : N ≤ 9223372036854775807) (hCg : ¬ C g) (hzd : Ndig zs) (hfit : 1 ≤ N) (hc : 1 ≤ c) (hc0 : 0 < c) (hcm : c ≤ 9223372036854775807) (hy : Sl .u64 18446744073709551616 C w ad yc ys) (hly : ys.length = ly) (h1 : 1 ≤ ly) (hx1 : zs.getD 0 0 = 1) :
    Calls P 75 #[.slice (some ⟨g, 0, none⟩) 1 c, .pointer none, .slice (some ⟨g, 0, none⟩) 1 c, .slice ad ly yc, .slice none 0 0, .bool false] w fun ex w' => ∃ ad2 l2 c2 rs, ex = .returned (.slice ad2 l2 c2) ∧ Keep (ButN [g] w) w w' ∧ w'.heap[g]? = some (.cells (ints .u64 zs).toArray 102) ∧ ExpPost C w w' ad2 l2 c2 rs (1) := by
 refine doorN (e := (e0.addR 0 (.slice (some ⟨g, 0, none⟩) N N))) (vs := [.rsl 0 0 1 c, .v (.pointer none), .rsl 0 0 1 c, vS ad ly yc, vS none 0 0, vB false]) (n := 250) (m := 6) Tryz.func75 rfl rfl rfl (by decide) fun a_ hI => ?_
 replace hI : Is 250 [] (e0.addR 0 (.slice (some ⟨g, 0, none⟩) N N)) [(0, .rsl 0 0 1 c), (1, .v (.pointer none)), (2, .rsl 0 0 1 c), (3, vS ad ly yc), (4, vS none 0 0), (5, vB false)] a_ := hI
 have hf0 : Full (e0.addR 0 (.slice (some ⟨g, 0, none⟩) N N)) 0 N := rfl; have hg0 : headOf ((e0.addR 0 (.slice (some ⟨g, 0, none⟩) N N)).r 0) = g := rfl
 have hR : Rel (ButN [g] w) w (e0.addR 0 (.slice (some ⟨g, 0, none⟩) N N)) [] [⟨0, 102, 1, N, (ints .u64 zs)⟩] w := Rel.startN (fun k_ h_ => h_.1) all_no (all_cons ⟨ownsRow_fullN hz (by first | exact hzl | (rw [ints_length]; exact hzl)) hzm, fun g_ he_ => by cases he_; exact (fun hm_ => hm_.2 m0)⟩ all_no) all_no all_no (all_cons (all_cons (fun hn_ => absurd rfl hn_) all_no) all_no)
 have hB : BaseD (ButN [g] w) C w C (ButN [g] w) w := BaseD.start (fun k_ hC_ hlt_ => ⟨hlt_, notin2 (fun he_ => hCg (he_ ▸ hC_)) (fun hm_ => by cases hm_)⟩)
 have hry := hy.room; have hmy := hy.max
 refine rZ tab 1 [] [0, 1, 2, 3, 4, 5] hR hI fun e1 a1 w1 hag hR hI => ?_
 have hA := hag
 refine wp_seq ?_
 refine wp_seq (reg (is := [0, 1, 2, 3, 4, 5, 6, 7]) (by kernel_rfl) ?_)
 refine pZ tab [0, 1] [2, 3, 4, 5, 6, 7] 1 [(25, .rsl 0 0 1 c), (24, .rsl 0 0 1 c)] [0, 1, 2, 3, 4, 5] hR hI fun e2 a2 w2 hag hR hI => ?_
 replace hA := hA.trans hag (by decide)
 refine cO [.rsl 0 0 1 c, .rsl 0 0 1 c] hI Tryz.func74 ?_
 replace hf0 := tf hA hf0
 replace hg0 := tg hA hg0
 have hq0_ := hR.rowCells (y := ⟨0, 102, 1, N, (ints .u64 zs)⟩) m0 hf0 rfl
 refine (aliasSelf_spec (C := fun _ => False) hq0_.1 hzl hzm (fun h_ => h_) hc0 hcm).mono ?_
 rintro ex w3 ⟨rfl, hk, hw0⟩
 have hkF_ := hR.keepN hk (all_cons hq0_.2 all_no)
 have hR_ : Rel (Grow _ _ w3) w3 e2 [] [⟨0, 102, 1, N, (ints .u64 zs)⟩] w3 := hR.turnedN hk (all_cons hq0_.2 all_no) all_no (all_cons ⟨⟨_, m0, rfl⟩, .inr (by have hl_ := hR.rowLen (y := ⟨0, 102, 1, N, (ints .u64 zs)⟩) m0; dsimp only at hl_; rw [show e2.r 0 = _ from hf0]; exact ownsRow_fullN hw0 (by rw [ints_length]; exact hzl) (hzm))⟩ all_no)
 replace hy := hy.nextF hB hR hkF_
 have hB_ := hB.nextF hR hkF_
 replace hR := hR_; clear hR_
 replace hB := hB_; clear hB_ hk hkF_ hq0_ hw0
 refine ⟨_, rfl, ?_⟩
 replace hI := hI.pt 26 (vB true) [26, 25, 24, 0, 1, 2, 3, 4, 5]
 refine pZ tab [3, 4, 5] [6, 7] 1 [(27, vB true)] [0, 1, 2, 3, 4, 5] hR hI fun e4 a4 w4 hag hR hI => ?_
 have hA := hag
 refine pZ tab [] [6, 7] 1 [] [27, 0, 1, 2, 3, 4, 5] hR hI fun e5 a5 w5 hag hR hI => ?_
 replace hA := hA.trans hag (by decide)
 refine pZ tab [6, 7] [] 1 [(31, vB true)] [0, 1, 2, 3, 4, 5] hR hI fun e6 a6 w6 hag hR hI => ?_
 replace hA := hA.trans hag (by decide)
 refine ops_nil (then_n ?_)
 refine cnd_t hI (by kernel_rfl) ?_
 refine aZ tab 1 [(0, vS none 0 0)] [1, 2, 3, 4, 5] hR hI fun e7 a7 w7 hag hR hI => ?_
 replace hA := hA.trans hag (by decide)
 refine then_n ?_
 refine wp_seq ?_
 refine rZ tab 1 [(40, vB false)] [0, 1, 2, 3, 4, 5] hR hI fun e8 a8 w8 hag hR hI => ?_
 replace hA := hA.trans hag (by decide)
 refine cnd_f hI (by kernel_rfl) ?_
 refine wp_skip ?_
 refine then_n ?_
 refine wp_seq ?_
 refine rK tab 1 [(2, .eq (.bool false))] [] [(45, vB false)] [0, 1, 2, 3, 4, 5] [] [] [] [0] 1 hR hI (.cons (congrArg Value.bool (beq_eq_false_iff_ne.2 (by omega) : ((ly : Int) == (0 : Int)) = false)) .nil) fun e9 a9 w9 hag hR hI => ?_
 replace hA := hA.trans hag (by decide)
 refine cnd_f hI (by kernel_rfl) ?_
 refine wp_skip ?_
 refine then_n ?_
 refine wp_seq ?_
 refine rZ tab 1 [(50, vB false)] [0, 1, 2, 3, 4, 5] hR hI fun e10 a10 w10 hag hR hI => ?_
 replace hA := hA.trans hag (by decide)
 refine cnd_f hI (by kernel_rfl) ?_
 refine wp_skip ?_
 refine then_n ?_
 refine wp_seq ?_
 refine rK tab 1 [(6, .val (vU (zs.getD 0 0))), (7, .eq (.bool true))] [] [(61, vB true)] [0, 1, 2, 3, 4, 5] [] [] [] [0] 1 hR hI (.cons (by omega : (0 : Int) ≤ (0 : Int) ∧ (0 : Int) < ((1 : Nat) : Int)) (.cons (ints_get (k := .u64) (xs := zs) (i := 0) (by omega)) (.cons (by omega : 0 < N * 1) (.cons (congrArg Value.bool (beq_iff_eq.2 (by omega) : (((zs.getD 0 0 : Nat) : Int) == (1 : Int)) = true)) .nil)))) fun e11 a11 w11 hag hR hI => ?_
 replace hA := hA.trans hag (by decide)
 refine cnd_t hI (by kernel_rfl) ?_
 refine wp_seq (reg (is := [0, 1, 2]) (by kernel_rfl) ?_)
 refine pZ tab [0] [1, 2] 1 [(62, vS none 0 0)] [] hR hI fun e12 a12 w12 hag hR hI => ?_
 replace hA := hA.trans hag (by decide)
 refine cO [vS none 0 0, .v (.int .u64 1)] hI Tryz.func65 ?_
 refine (setWord_spec (C := Now hB) (x := 1) (by decide)).mono ?_
 rintro ex w13 ⟨rd, rl, rc, rs, rfl, hrl, hk, hrs, htr, hvr⟩
 replace hrs := hrs.up (C := Now hB)
 replace hy := hy.next hB hR hk
 obtain ⟨hB, hR⟩ := nx hB hR hk
 refine ⟨_, rfl, ?_⟩
 replace hI := hI.pt 63 (vS rd rl rc) [63, 62]
 refine pZ tab [2] [] 1 [(12, vS rd rl rc)] [] hR hI fun e14 a14 w14 hag hR hI => ?_
 replace hA := hA.trans hag (by decide)
 refine ops_nil (then_n ?_)
 refine wp_ret ?_
 refine ret_then ?_
 refine oN tab [vS rd rl rc] hR hI ?_
 replace hf0 := tf hA hf0
 replace hg0 := tg hA hg0
 exact ⟨rd, rl, rc, rs, rfl, hB.fin hR, (hR.rowFin (y := ⟨0, 102, 1, N, (ints .u64 zs)⟩) m0 hf0 rfl hg0), hrl, hrs.fin hB hR, htr, hvr⟩

theorem expD_spec {C : Nat → Prop} {w : World} {g N nu c ly yc : Nat} {zs ys : List Nat} {ad : Option Addr} (hz : w.heap[g]? = some (.cells (ints .u64 zs).toArray 102)) (hzl : zs.length = N) (hzm : N ≤ 9223372036854775807) (hCg : ¬ C g) (hzd : Ndig zs) (hfit : nu ≤ N) (hc : nu ≤ c) (hc0 : 0 < c) (hcm : c ≤ 9223372036854775807) (hy : Sl .u64 18446744073709551616 C w ad yc ys) (hly : ys.length = 1) (hn1 : 1 ≤ nu) (hnu : nu ≤ 4) (htx : Ntrim (seg zs 0 nu)) (hy1 : ys.getD 0 0 = 1) (hnot : ¬ (nu = 1 ∧ zs.getD 0 0 = 1)) :
    Calls P 75 #[.slice (some ⟨g, 0, none⟩) nu c, .pointer none, .slice (some ⟨g, 0, none⟩) nu c, .slice ad 1 yc, .slice none 0 0, .bool false] w fun ex w' => ∃ ad2 l2 c2 rs, ex = .returned (.slice ad2 l2 c2) ∧ Keep (ButN [g] w) w w' ∧ w'.heap[g]? = some (.cells (ints .u64 zs).toArray 102) ∧ ExpPost C w w' ad2 l2 c2 rs (nval (seg zs 0 nu)) := by
 refine doorN (e := (e0.addR 0 (.slice (some ⟨g, 0, none⟩) N N))) (vs := [.rsl 0 0 nu c, .v (.pointer none), .rsl 0 0 nu c, vS ad 1 yc, vS none 0 0, vB false]) (n := 250) (m := 6) Tryz.func75 rfl rfl rfl (by decide) fun a_ hI => ?_
 replace hI : Is 250 [] (e0.addR 0 (.slice (some ⟨g, 0, none⟩) N N)) [(0, .rsl 0 0 nu c), (1, .v (.pointer none)), (2, .rsl 0 0 nu c), (3, vS ad 1 yc), (4, vS none 0 0), (5, vB false)] a_ := hI
 have hf0 : Full (e0.addR 0 (.slice (some ⟨g, 0, none⟩) N N)) 0 N := rfl; have hg0 : headOf ((e0.addR 0 (.slice (some ⟨g, 0, none⟩) N N)).r 0) = g := rfl
 have hR : Rel (ButN [g] w) w (e0.addR 0 (.slice (some ⟨g, 0, none⟩) N N)) [] [⟨0, 102, 1, N, (ints .u64 zs)⟩] w := Rel.startN (fun k_ h_ => h_.1) all_no (all_cons ⟨ownsRow_fullN hz (by first | exact hzl | (rw [ints_length]; exact hzl)) hzm, fun g_ he_ => by cases he_; exact (fun hm_ => hm_.2 m0)⟩ all_no) all_no all_no (all_cons (all_cons (fun hn_ => absurd rfl hn_) all_no) all_no)
 have hB : BaseD (ButN [g] w) C w C (ButN [g] w) w := BaseD.start (fun k_ hC_ hlt_ => ⟨hlt_, notin2 (fun he_ => hCg (he_ ▸ hC_)) (fun hm_ => by cases hm_)⟩)
 have hry := hy.room; have hmy := hy.max
 refine rZ tab 1 [] [0, 1, 2, 3, 4, 5] hR hI fun e1 a1 w1 hag hR hI => ?_
 have hA := hag
 refine wp_seq ?_
 refine wp_seq (reg (is := [0, 1, 2, 3, 4, 5, 6, 7]) (by kernel_rfl) ?_)
 refine pZ tab [0, 1] [2, 3, 4, 5, 6, 7] 1 [(25, .rsl 0 0 nu c), (24, .rsl 0 0 nu c)] [0, 1, 2, 3, 4, 5] hR hI fun e2 a2 w2 hag hR hI => ?_
 replace hA := hA.trans hag (by decide)
 refine cO [.rsl 0 0 nu c, .rsl 0 0 nu c] hI Tryz.func74 ?_
 replace hf0 := tf hA hf0
 replace hg0 := tg hA hg0
 have hq0_ := hR.rowCells (y := ⟨0, 102, 1, N, (ints .u64 zs)⟩) m0 hf0 rfl
 refine (aliasSelf_spec (C := fun _ => False) hq0_.1 hzl hzm (fun h_ => h_) hc0 hcm).mono ?_
 rintro ex w3 ⟨rfl, hk, hw0⟩
 have hkF_ := hR.keepN hk (all_cons hq0_.2 all_no)
 have hR_ : Rel (Grow _ _ w3) w3 e2 [] [⟨0, 102, 1, N, (ints .u64 zs)⟩] w3 := hR.turnedN hk (all_cons hq0_.2 all_no) all_no (all_cons ⟨⟨_, m0, rfl⟩, .inr (by have hl_ := hR.rowLen (y := ⟨0, 102, 1, N, (ints .u64 zs)⟩) m0; dsimp only at hl_; rw [show e2.r 0 = _ from hf0]; exact ownsRow_fullN hw0 (by rw [ints_length]; exact hzl) (hzm))⟩ all_no)
 replace hy := hy.nextF hB hR hkF_
 have hB_ := hB.nextF hR hkF_
 replace hR := hR_; clear hR_
 replace hB := hB_; clear hB_ hk hkF_ hq0_ hw0
 refine ⟨_, rfl, ?_⟩
 replace hI := hI.pt 26 (vB true) [26, 25, 24, 0, 1, 2, 3, 4, 5]
 refine pZ tab [3, 4, 5] [6, 7] 1 [(27, vB true)] [0, 1, 2, 3, 4, 5] hR hI fun e4 a4 w4 hag hR hI => ?_
 have hA := hag
 refine pZ tab [] [6, 7] 1 [] [27, 0, 1, 2, 3, 4, 5] hR hI fun e5 a5 w5 hag hR hI => ?_
 replace hA := hA.trans hag (by decide)
 refine pZ tab [6, 7] [] 1 [(31, vB true)] [0, 1, 2, 3, 4, 5] hR hI fun e6 a6 w6 hag hR hI => ?_
 replace hA := hA.trans hag (by decide)
 refine ops_nil (then_n ?_)
 refine cnd_t hI (by kernel_rfl) ?_
 refine aZ tab 1 [(0, vS none 0 0)] [1, 2, 3, 4, 5] hR hI fun e7 a7 w7 hag hR hI => ?_
 replace hA := hA.trans hag (by decide)
 refine then_n ?_
 refine wp_seq ?_
 refine rZ tab 1 [(40, vB false)] [0, 1, 2, 3, 4, 5] hR hI fun e8 a8 w8 hag hR hI => ?_
 replace hA := hA.trans hag (by decide)
 refine cnd_f hI (by kernel_rfl) ?_
 refine wp_skip ?_
 refine then_n ?_
 refine wp_seq ?_
 refine rZ tab 1 [(45, vB false)] [0, 1, 2, 3, 4, 5] hR hI fun e9 a9 w9 hag hR hI => ?_
 replace hA := hA.trans hag (by decide)
 refine cnd_f hI (by kernel_rfl) ?_
 refine wp_skip ?_
 refine then_n ?_
 refine wp_seq ?_
 refine rK tab 1 [(2, .eq (.bool false))] [] [(50, vB false)] [0, 1, 2, 3, 4, 5] [] [] [] [0] 1 hR hI (.cons (congrArg Value.bool (beq_eq_false_iff_ne.2 (by omega) : ((nu : Int) == (0 : Int)) = false)) .nil) fun e10 a10 w10 hag hR hI => ?_
 replace hA := hA.trans hag (by decide)
 refine cnd_f hI (by kernel_rfl) ?_
 refine wp_skip ?_
 refine then_n ?_
 refine wp_seq ?_
 refine rK tab 1 [(6, .val (vU (zs.getD 0 0))), (8, .sym)] [4, 5, 6, 7] [(61, vB (((nu : Int) == (1 : Int)) && (((zs.getD 0 0 : Nat) : Int) == (1 : Int))))] [0, 1, 2, 3, 4, 5] [] [] [] [0] 1 hR hI (.cons (rfl : ((nu : Int) == (1 : Int)) = ((nu : Int) == (1 : Int))) (.cons (fun (hg : (((nu : Int) == (1 : Int)) == true) = true) => (by simp only [beq_true, beq_false, decide_eq_true_eq, Bool.not_eq_true', decide_eq_false_iff_not, Bool.or_eq_true, Bool.or_eq_false_iff, Bool.and_eq_true] at hg; omega : (0 : Int) ≤ (0 : Int) ∧ (0 : Int) < (nu : Int))) (.cons (rfl : ((nu : Int) == (1 : Int)) = ((nu : Int) == (1 : Int))) (.cons (rfl : ((nu : Int) == (1 : Int)) = ((nu : Int) == (1 : Int))) (.cons (fun (hg : (((nu : Int) == (1 : Int)) == true) = true) => (ints_get (k := .u64) (xs := zs) (i := 0) (by simp only [beq_true, beq_false, decide_eq_true_eq, Bool.not_eq_true', decide_eq_false_iff_not, Bool.or_eq_true, Bool.or_eq_false_iff, Bool.and_eq_true] at hg; omega))) (.cons (fun (hg : (((nu : Int) == (1 : Int)) == true) = true) => (by simp only [beq_true, beq_false, decide_eq_true_eq, Bool.not_eq_true', decide_eq_false_iff_not, Bool.or_eq_true, Bool.or_eq_false_iff, Bool.and_eq_true] at hg; omega : 0 < N * 1)) (.cons (rfl : ((nu : Int) == (1 : Int)) = ((nu : Int) == (1 : Int))) (.cons (rfl : ((nu : Int) == (1 : Int)) = ((nu : Int) == (1 : Int))) (.cons (rfl : ((nu : Int) == (1 : Int)) = ((nu : Int) == (1 : Int))) (.cons (by first | exact (by intro b_; cases b_ <;> rfl : ∀ b_ : Bool, (b_ == true) = b_) _ | exact (by intro b_; cases b_ <;> rfl : ∀ b_ : Bool, (b_ == false) = !b_) _ | exact Bool.beq_true _ | exact Bool.beq_false _ | rfl | simp_all : (((nu : Int) == (1 : Int)) == true) = ((nu : Int) == (1 : Int))) .nil)))))))))) fun e11 a11 w11 hag hR hI => ?_
 replace hA := hA.trans hag (by decide)
 refine cnd (b := (((nu : Int) == (1 : Int)) && (((zs.getD 0 0 : Nat) : Int) == (1 : Int)))) hI (by kernel_rfl) (fun hc12 => ?_) (fun hc12 => ?_)
 ·
  replace hI := hI.rb 61 hc12
  try simp only [tolds] at hc12
  exact absurd (And.intro (by omega) (by omega)) hnot
 ·
  replace hI := hI.rb 61 hc12
  try simp only [tolds] at hc12
  refine wp_skip ?_
  refine then_n ?_
  refine wp_seq ?_
  refine rK tab 1 [(6, .val (vU (ys.getD 0 0))), (7, .eq (.bool true))] [] [(77, vB true)] [0, 1, 2, 3, 4, 5] [] [] [] [0] 1 hR hI (.cons (by omega : (0 : Int) ≤ (0 : Int) ∧ (0 : Int) < ((1 : Nat) : Int)) (.cons (nats_some (i := 0) (hy.cells.mono hB.cls) (by omega)) (.cons (nats_load (i := 0) (m := 1) (hy.cells.mono hB.cls) (by omega)) (.cons (congrArg Value.bool (beq_iff_eq.2 (by omega) : (((ys.getD 0 0 : Nat) : Int) == (1 : Int)) = true)) .nil)))) fun e13 a13 w13 hag hR hI => ?_
  replace hA := hA.trans hag (by decide)
  refine cnd_t hI (by kernel_rfl) ?_
  refine wp_seq (reg (is := [0, 1, 2, 3]) (by kernel_rfl) ?_)
  refine pZ tab [0, 1] [2, 3] 1 [(79, .rsl 0 0 nu c), (78, vS none 0 0)] [] hR hI fun e14 a14 w14 hag hR hI => ?_
  replace hA := hA.trans hag (by decide)
  refine cO [vS none 0 0, .rsl 0 0 nu c] hI Tryz.func67 ?_
  replace hf0 := tf hA hf0
  replace hg0 := tg hA hg0
  have hul0 : (seg zs 0 nu).length = nu := seg_length (by omega)
  have hzk := hR.rowRead (y := ⟨0, 102, 1, N, (ints .u64 zs)⟩) m0 hf0 rfl rfl hzd 0 nu (by omega) (c := c) (by omega) (by omega)
  refine (setAny_spec (C := fun b_ => b_ = headOf (e14.r 0)) hul0 hzk (by omega)).mono ?_
  rintro ex w15 ⟨rd, rl, rc, rs, rfl, hrl, hk, hrs, hrx_⟩
  replace hrs := hrs.up (C := Now hB)
  have htr : Ntrim rs := by rw [hrx_]; exact htx
  replace hy := hy.next hB hR hk
  obtain ⟨hB, hR⟩ := nx hB hR hk
  refine ⟨_, rfl, ?_⟩
  replace hI := hI.pt 80 (vS rd rl rc) [80, 79, 78]
  refine pZ tab [3] [] 1 [(12, vS rd rl rc)] [] hR hI fun e16 a16 w16 hag hR hI => ?_
  have hA := hag
  refine ops_nil (then_n ?_)
  refine wp_ret ?_
  refine ret_then ?_
  refine oN tab [vS rd rl rc] hR hI ?_
  replace hf0 := tf hA hf0
  replace hg0 := tg hA hg0
  exact ⟨rd, rl, rc, rs, rfl, hB.fin hR, (hR.rowFin (y := ⟨0, 102, 1, N, (ints .u64 zs)⟩) m0 hf0 rfl hg0), hrl, hrs.fin hB hR, htr, by rw [hrx_]⟩

theorem setRawl_spec {C : Nat → Prop} {w : World} {ad : Option Addr} {xc l : Nat} {xs : List Nat} (hxl : xs.length = l) (hx : Sl .u64 18446744073709551616 C w ad xc xs) (hn : 0 < l) (hnb : l ≤ 60000) :
  Calls P 67 #[.slice none 0 0, .slice ad l xc] w fun ex w' => ∃ g1 c1, ex = .returned (.slice (some ⟨g1, 0, none⟩) l c1) ∧ Keep (fun b => b < w.heap.size) w w' ∧ w.heap.size ≤ g1 ∧ w'.heap[g1]? = some (.cells (ints .u64 (put (List.replicate c1 0) 0 xs)).toArray 102 (0, 0)) ∧ l ≤ c1 ∧ c1 ≤ l + 4 := by
 subst hxl
 exact setRaw_spec hx hn hnb

theorem half_pos {e k n : Nat} (h : e / 2 ^ k = 1) (hn : n ≤ k) : 1 ≤ e / 2 ^ n := by
 rw [← h]
 exact Nat.div_le_div_left (Nat.pow_le_pow_right (by decide) hn) (Nat.pow_pos (by decide))
theorem le_pow {x n : Nat} (hx : 0 < x) (hn : 1 ≤ n) : x ≤ x ^ n := by
 have h := Nat.pow_le_pow_right hx hn
 rwa [Nat.pow_one] at h

theorem expE_spec {C : Nat → Prop} {w : World} {g N nu c yc : Nat} {zs ys : List Nat} {ad : Option Addr} (hz : w.heap[g]? = some (.cells (ints .u64 zs).toArray 102)) (hzl : zs.length = N) (hzm : N ≤ 9223372036854775807) (hCg : ¬ C g) (hzd : Ndig zs) (hfit : nu ≤ N) (hc : nu ≤ c) (hc0 : 0 < c) (hcm : c ≤ 9223372036854775807) (hn1 : 1 ≤ nu) (hnu : nu ≤ 4) (htx : Ntrim (seg zs 0 nu)) (hnot : ¬ (nu = 1 ∧ zs.getD 0 0 = 1)) (hy : Sl .u64 18446744073709551616 C w ad yc ys) (hly : ys.length = 1) (hy2 : 2 ≤ ys.getD 0 0) (hy20 : ys.getD 0 0 ≤ 20) (hlim : (nval (seg zs 0 nu)) ^ ys.getD 0 0 < pn 4) (hk1 : Sl .i64 18446744073709551616 C w (some ⟨1, 0, none⟩) 1 [12]) (hk2 : Sl .i64 18446744073709551616 C w (some ⟨2, 0, none⟩) 1 [80]) (hk3 : Sl .i64 18446744073709551616 C w (some ⟨3, 0, none⟩) 1 [40]) :
    Calls P 75 #[.slice (some ⟨g, 0, none⟩) nu c, .pointer none, .slice (some ⟨g, 0, none⟩) nu c, .slice ad 1 yc, .slice none 0 0, .bool false] w fun ex w' => ∃ ad2 l2 c2 rs, ex = .returned (.slice ad2 l2 c2) ∧ Keep (ButN [g] w) w w' ∧ w'.heap[g]? = some (.cells (ints .u64 zs).toArray 102) ∧ ExpPost C w w' ad2 l2 c2 rs (nval (seg zs 0 nu) ^ ys.getD 0 0) := by
 refine doorD (e := (e0.addR 0 (.slice (some ⟨g, 0, none⟩) N N))) (vs := [.rsl 0 0 nu c, .v (.pointer none), .rsl 0 0 nu c, vS ad 1 yc, vS none 0 0, vB false]) (n := 250) (m := 6) Tryz.func75 rfl rfl rfl (by decide) fun a_ hI => ?_
 replace hI : Is 250 [] (e0.addR 0 (.slice (some ⟨g, 0, none⟩) N N)) [(0, .rsl 0 0 nu c), (1, .v (.pointer none)), (2, .rsl 0 0 nu c), (3, vS ad 1 yc), (4, vS none 0 0), (5, vB false)] a_ := hI
 have hf0 : Full (e0.addR 0 (.slice (some ⟨g, 0, none⟩) N N)) 0 N := rfl; have hg0 : headOf ((e0.addR 0 (.slice (some ⟨g, 0, none⟩) N N)).r 0) = g := rfl
 have hR : Rel (ButN [g] w) w (e0.addR 0 (.slice (some ⟨g, 0, none⟩) N N)) [] [⟨0, 102, 1, N, (ints .u64 zs)⟩] w := Rel.startN (fun k_ h_ => h_.1) all_no (all_cons ⟨ownsRow_fullN hz (by first | exact hzl | (rw [ints_length]; exact hzl)) hzm, fun g_ he_ => by cases he_; exact (fun hm_ => hm_.2 m0)⟩ all_no) all_no all_no (all_cons (all_cons (fun hn_ => absurd rfl hn_) all_no) all_no)
 have hB : BaseD (ButN [g] w) C w C (ButN [g] w) w := BaseD.start (fun k_ hC_ hlt_ => ⟨hlt_, notin2 (fun he_ => hCg (he_ ▸ hC_)) (fun hm_ => by cases hm_)⟩)
 have hry := hy.room; have hmy := hy.max; have hle := lent_e hy2 hy20
 have hul0 : (seg zs 0 nu).length = nu := seg_length (by omega)
 have hX0 : 0 < (nval (seg zs 0 nu)) := Nat.pos_of_ne_zero fun h_ => by have h2_ := (nval_eq_zero htx).1 h_; rw [h2_] at hul0; simp at hul0; omega
 refine rZ tab 1 [] [0, 1, 2, 3, 4, 5] hR hI fun e1 a1 w1 hag hR hI => ?_
 have hA := hag
 refine wp_seq ?_
 refine wp_seq (reg (is := [0, 1, 2, 3, 4, 5, 6, 7]) (by kernel_rfl) ?_)
 refine pZ tab [0, 1] [2, 3, 4, 5, 6, 7] 1 [(25, .rsl 0 0 nu c), (24, .rsl 0 0 nu c)] [0, 1, 2, 3, 4, 5] hR hI fun e2 a2 w2 hag hR hI => ?_
 replace hA := hA.trans hag (by decide)
 refine cO [.rsl 0 0 nu c, .rsl 0 0 nu c] hI Tryz.func74 ?_
 replace hf0 := tf hA hf0
 replace hg0 := tg hA hg0
 have hq0_ := hR.rowCells (y := ⟨0, 102, 1, N, (ints .u64 zs)⟩) m0 hf0 rfl
 refine (aliasSelf_spec (C := fun _ => False) hq0_.1 hzl hzm (fun h_ => h_) hc0 hcm).mono ?_
 rintro ex w3 ⟨rfl, hk, hw0⟩
 have hkF_ := hR.keepN hk (all_cons hq0_.2 all_no)
 have hR_ : Rel (Grow _ _ w3) w3 e2 [] [⟨0, 102, 1, N, (ints .u64 zs)⟩] w3 := hR.turnedN hk (all_cons hq0_.2 all_no) all_no (all_cons ⟨⟨_, m0, rfl⟩, .inr (by have hl_ := hR.rowLen (y := ⟨0, 102, 1, N, (ints .u64 zs)⟩) m0; dsimp only at hl_; rw [show e2.r 0 = _ from hf0]; exact ownsRow_fullN hw0 (by rw [ints_length]; exact hzl) (hzm))⟩ all_no)
 replace hk1 := hk1.nextF hB hR hkF_
 replace hk2 := hk2.nextF hB hR hkF_
 replace hk3 := hk3.nextF hB hR hkF_
 replace hy := hy.nextF hB hR hkF_
 have hB_ := hB.nextF hR hkF_
 replace hR := hR_; clear hR_
 replace hB := hB_; clear hB_ hk hkF_ hq0_ hw0
 refine ⟨_, rfl, ?_⟩
 replace hI := hI.pt 26 (vB true) [26, 25, 24, 0, 1, 2, 3, 4, 5]
 refine pZ tab [3, 4, 5] [6, 7] 1 [(27, vB true)] [0, 1, 2, 3, 4, 5] hR hI fun e4 a4 w4 hag hR hI => ?_
 have hA := hag
 refine pZ tab [] [6, 7] 1 [] [27, 0, 1, 2, 3, 4, 5] hR hI fun e5 a5 w5 hag hR hI => ?_
 replace hA := hA.trans hag (by decide)
 refine pZ tab [6, 7] [] 1 [(31, vB true)] [0, 1, 2, 3, 4, 5] hR hI fun e6 a6 w6 hag hR hI => ?_
 replace hA := hA.trans hag (by decide)
 refine ops_nil (then_n ?_)
 refine cnd_t hI (by kernel_rfl) ?_
 refine aZ tab 1 [(0, vS none 0 0)] [1, 2, 3, 4, 5] hR hI fun e7 a7 w7 hag hR hI => ?_
 replace hA := hA.trans hag (by decide)
 refine then_n ?_
 refine wp_seq ?_
 refine rZ tab 1 [(40, vB false)] [0, 1, 2, 3, 4, 5] hR hI fun e8 a8 w8 hag hR hI => ?_
 replace hA := hA.trans hag (by decide)
 refine cnd_f hI (by kernel_rfl) ?_
 refine wp_skip ?_
 refine then_n ?_
 refine wp_seq ?_
 refine rZ tab 1 [(45, vB false)] [0, 1, 2, 3, 4, 5] hR hI fun e9 a9 w9 hag hR hI => ?_
 replace hA := hA.trans hag (by decide)
 refine cnd_f hI (by kernel_rfl) ?_
 refine wp_skip ?_
 refine then_n ?_
 refine wp_seq ?_
 refine rK tab 1 [(2, .eq (.bool false))] [] [(50, vB false)] [0, 1, 2, 3, 4, 5] [] [] [] [0] 1 hR hI (.cons (congrArg Value.bool (beq_eq_false_iff_ne.2 (by omega) : ((nu : Int) == (0 : Int)) = false)) .nil) fun e10 a10 w10 hag hR hI => ?_
 replace hA := hA.trans hag (by decide)
 refine cnd_f hI (by kernel_rfl) ?_
 refine wp_skip ?_
 refine then_n ?_
 refine wp_seq ?_
 refine rK tab 1 [(6, .val (vU (zs.getD 0 0))), (8, .sym)] [4, 5, 6, 7] [(61, vB (((nu : Int) == (1 : Int)) && (((zs.getD 0 0 : Nat) : Int) == (1 : Int))))] [0, 1, 2, 3, 4, 5] [] [] [] [0] 1 hR hI (.cons (rfl : ((nu : Int) == (1 : Int)) = ((nu : Int) == (1 : Int))) (.cons (fun (hg : (((nu : Int) == (1 : Int)) == true) = true) => (by simp only [beq_true, beq_false, decide_eq_true_eq, Bool.not_eq_true', decide_eq_false_iff_not, Bool.or_eq_true, Bool.or_eq_false_iff, Bool.and_eq_true] at hg; omega : (0 : Int) ≤ (0 : Int) ∧ (0 : Int) < (nu : Int))) (.cons (rfl : ((nu : Int) == (1 : Int)) = ((nu : Int) == (1 : Int))) (.cons (rfl : ((nu : Int) == (1 : Int)) = ((nu : Int) == (1 : Int))) (.cons (fun (hg : (((nu : Int) == (1 : Int)) == true) = true) => (ints_get (k := .u64) (xs := zs) (i := 0) (by simp only [beq_true, beq_false, decide_eq_true_eq, Bool.not_eq_true', decide_eq_false_iff_not, Bool.or_eq_true, Bool.or_eq_false_iff, Bool.and_eq_true] at hg; omega))) (.cons (fun (hg : (((nu : Int) == (1 : Int)) == true) = true) => (by simp only [beq_true, beq_false, decide_eq_true_eq, Bool.not_eq_true', decide_eq_false_iff_not, Bool.or_eq_true, Bool.or_eq_false_iff, Bool.and_eq_true] at hg; omega : 0 < N * 1)) (.cons (rfl : ((nu : Int) == (1 : Int)) = ((nu : Int) == (1 : Int))) (.cons (rfl : ((nu : Int) == (1 : Int)) = ((nu : Int) == (1 : Int))) (.cons (rfl : ((nu : Int) == (1 : Int)) = ((nu : Int) == (1 : Int))) (.cons (by first | exact (by intro b_; cases b_ <;> rfl : ∀ b_ : Bool, (b_ == true) = b_) _ | exact (by intro b_; cases b_ <;> rfl : ∀ b_ : Bool, (b_ == false) = !b_) _ | exact Bool.beq_true _ | exact Bool.beq_false _ | rfl | simp_all : (((nu : Int) == (1 : Int)) == true) = ((nu : Int) == (1 : Int))) .nil)))))))))) fun e11 a11 w11 hag hR hI => ?_
 replace hA := hA.trans hag (by decide)
 refine cnd (b := (((nu : Int) == (1 : Int)) && (((zs.getD 0 0 : Nat) : Int) == (1 : Int)))) hI (by kernel_rfl) (fun hc12 => ?_) (fun hc12 => ?_)
 ·
  replace hI := hI.rb 61 hc12
  try simp only [tolds] at hc12
  exact absurd (And.intro (by omega) (by omega)) hnot
 ·
  replace hI := hI.rb 61 hc12
  try simp only [tolds] at hc12
  refine wp_skip ?_
  refine then_n ?_
  refine wp_seq ?_
  refine rK tab 1 [(6, .val (vU (ys.getD 0 0))), (7, .eq (.bool false))] [] [(77, vB false)] [0, 1, 2, 3, 4, 5] [] [] [] [0] 1 hR hI (.cons (by omega : (0 : Int) ≤ (0 : Int) ∧ (0 : Int) < ((1 : Nat) : Int)) (.cons (nats_some (i := 0) (hy.cells.mono hB.cls) (by omega)) (.cons (nats_load (i := 0) (m := 1) (hy.cells.mono hB.cls) (by omega)) (.cons (congrArg Value.bool (beq_eq_false_iff_ne.2 (by omega) : (((ys.getD 0 0 : Nat) : Int) == (1 : Int)) = false)) .nil)))) fun e13 a13 w13 hag hR hI => ?_
  replace hA := hA.trans hag (by decide)
  refine cnd_f hI (by kernel_rfl) ?_
  refine wp_skip ?_
  refine then_n ?_
  refine wp_seq ?_
  refine rZ tab 1 [(82, vB true)] [0, 1, 2, 3, 4, 5] hR hI fun e14 a14 w14 hag hR hI => ?_
  replace hA := hA.trans hag (by decide)
  refine cnd_t hI (by kernel_rfl) ?_
  refine wp_seq (reg (is := [0, 1]) (by kernel_rfl) ?_)
  refine cO [] hI Tryz.func68 ?_
  refine (getStack_spec (C := Now hB)).mono ?_
  rintro ex w15 ⟨b, rfl, hk, hgb, hnb⟩
  replace hk := keepBut0 hk
  have hkF_ := hR.keepN hk all_no
  replace hf0 := tf hA hf0
  replace hg0 := tg hA hg0
  have hR_ : Rel (Grow _ _ w15) w15 e14 [] [⟨0, 102, 1, N, (ints .u64 zs)⟩] w15 := hR.turnedN hk all_no all_no (all_cons ⟨⟨_, m0, rfl⟩, .inl ⟨m0, fun g_ he_ => own_ne hf0 (fun hm_ => by cases hm_) he_⟩⟩ all_no)
  have hM_ : ∀ b_ ∈ ([b] : List Nat), _ ≤ b_ := (all_cons hgb all_no)
  replace hk1 := hk1.nextN hB hR hkF_ hM_
  replace hk2 := hk2.nextN hB hR hkF_ hM_
  replace hk3 := hk3.nextN hB hR hkF_ hM_
  replace hy := hy.nextN hB hR hkF_ hM_
  have hB_ := hB.nextN hR hkF_ hM_; have hR1_ := hR_.shrinkN (M := [b])
  obtain ⟨hfr1_, hfr2_⟩ := hR.fresh (H' := []) (G' := [⟨0, 102, 1, N, (ints .u64 zs)⟩]) all_no (all_cons ⟨_, m0, rfl⟩ all_no) hgb
  obtain ⟨hag_, hR2_⟩ := hR1_.gotBlk (L := []) (k := 1) (b := b) (t := 124) (cs := [.v (.pointer none)]) (by kernel_rfl) (by kernel_rfl) hnb (fun hf_ => hf_.2.1 m0) hfr1_ hfr2_
  replace hI := hI.agreeB (H := []) (G := []) (by kernel_rfl) hag_
  replace hf0 := tf hag_ hf0
  replace hg0 := tg hag_ hg0
  have hbk1 : (e14.addB 1 b).b 1 = b := addB_b _ _ _
  replace hR1_ := hR2_; clear hR2_
  replace hR := hR1_; clear hR_ hR1_
  replace hB := hB_; clear hB_ hk hkF_ 
  refine ⟨_, rfl, ?_⟩
  replace hI := hI.pt 83 (.p 1 0) [83, 82, 0, 1, 2, 3, 4, 5]
  refine pZ tab [1] [] 2 [(1, .p 1 0)] [0, 2, 3, 4, 5] hR hI fun e16 a16 w16 hag hR hI => ?_
  have hA := hag
  refine ops_nil (then_n ?_)
  refine reg (is := [0, 1]) (by kernel_rfl) ?_
  refine pZ tab [0] [1] 2 [(84, .p 1 0)] [1, 0, 2, 3, 4, 5] hR hI fun e17 a17 w17 hag hR hI => ?_
  replace hA := hA.trans hag (by decide)
  refine deferOp (ys := [.p 1 0]) hI rfl rfl rfl ⟨_, rfl, rfl, rfl⟩ (by kernel_rfl) (fun a17 hI => ?_)
  replace hbk1 := tb hA hbk1
  replace hf0 := tf hA hf0
  replace hg0 := tg hA hg0
  rw [show (dens e17 [.p 1 0]).toArray = #[.pointer (some ⟨b, 0, none⟩)] from by simp [dens, den, hbk1]] at hI
  replace hI := hI.sl [84, 1, 0, 2, 3, 4, 5] rfl
  refine ops_nil (then_n ?_)
  refine wp_seq ?_
  refine rK tab 2 [(6, .val (vU (ys.getD 0 0))), (7, .eq (.bool false))] [] [(93, vB false)] [1, 0, 2, 3, 4, 5] [] [1] [] [0] 2 hR hI (.cons (by omega : (0 : Int) ≤ (0 : Int) ∧ (0 : Int) < ((1 : Nat) : Int)) (.cons (nats_some (i := 0) (hy.cells.mono hB.cls) (by omega)) (.cons (nats_load (i := 0) (m := 1) (hy.cells.mono hB.cls) (by omega)) (.cons (congrArg Value.bool (beq_eq_false_iff_ne.2 (by omega) : (((ys.getD 0 0 : Nat) : Int) == (1 : Int)) = false)) .nil)))) fun e18 a18 w18 hag hR hI => ?_
  have hA := hag
  refine cnd_f hI (by kernel_rfl) ?_
  refine wp_skip ?_
  refine then_n ?_
  refine wp_seq ?_
  refine rZ tab 2 [(101, vB false)] [1, 0, 2, 3, 4, 5] hR hI fun e19 a19 w19 hag hR hI => ?_
  replace hA := hA.trans hag (by decide)
  refine cnd_f hI (by kernel_rfl) ?_
  refine wp_skip ?_
  refine then_n ?_
  refine wp_seq (reg (is := [0, 1, 2, 3]) (by kernel_rfl) ?_)
  refine pZ tab [0, 1] [2, 3] 2 [(143, .rsl 0 0 nu c), (142, vS none 0 0)] [1, 0, 2, 3, 4] hR hI fun e20 a20 w20 hag hR hI => ?_
  replace hA := hA.trans hag (by decide)
  refine cO [vS none 0 0, .rsl 0 0 nu c] hI Tryz.func67 ?_
  replace hbk1 := tb hA hbk1
  replace hf0 := tf hA hf0
  replace hg0 := tg hA hg0
  have hul0 : (seg zs 0 nu).length = nu := seg_length (by omega)
  have hzk := hR.rowRead (y := ⟨0, 102, 1, N, (ints .u64 zs)⟩) m0 hf0 rfl rfl hzd 0 nu (by omega) (c := c) (by omega) (by omega)
  have hgw0_ := (hB.fin hR).size
  refine (setRawl_spec (C := fun b_ => b_ = headOf (e20.r 0)) hul0 hzk (by omega) (by omega)).mono ?_
  rintro ex w21 ⟨g1, c1, rfl, hk, hge, hwg, hc1, hc2⟩
  replace hk := keepBut0 hk
  have hkF_ := hR.keepN hk all_no
  have hR_ : Rel (Grow _ _ w21) w21 e20 [⟨1, 124, [.v (.pointer none)]⟩] [⟨0, 102, 1, N, (ints .u64 zs)⟩] w21 := hR.turnedN hk all_no (all_cons ⟨⟨_, m0, rfl⟩, .inl ⟨m0, (fun hm_ => by cases hm_)⟩⟩ all_no) (all_cons ⟨⟨_, m0, rfl⟩, .inl ⟨m0, fun g_ he_ => own_ne hf0 (fun hm_ => by cases hm_) he_⟩⟩ all_no)
  have hM_ : ∀ b_ ∈ ([g1] : List Nat), _ ≤ b_ := (all_cons hge all_no)
  replace hk1 := hk1.nextN hB hR hkF_ hM_
  replace hk2 := hk2.nextN hB hR hkF_ hM_
  replace hk3 := hk3.nextN hB hR hkF_ hM_
  replace hy := hy.nextN hB hR hkF_ hM_
  have hB_ := hB.nextN hR hkF_ hM_; have hR1_ := hR_.shrinkN (M := [g1])
  obtain ⟨hfr1_, hfr2_⟩ := hR.fresh (H' := [⟨1, 124, [.v (.pointer none)]⟩]) (G' := [⟨0, 102, 1, N, (ints .u64 zs)⟩]) (all_cons ⟨_, m0, rfl⟩ all_no) (all_cons ⟨_, m0, rfl⟩ all_no) hge
  obtain ⟨hag_, hR2_⟩ := hR1_.gotRow (L := []) (k := 2) (g := g1) (n := c1) (t := 102) (xs := (ints .u64 (put (List.replicate c1 0) 0 (seg zs 0 nu)))) (by kernel_rfl) hwg (by rw [ints_length, put_length (by rw [List.length_replicate, hul0]; omega), List.length_replicate]) (by omega) (fun hf_ => hf_.2.1 m0) hfr1_ hfr2_
  replace hI := hI.agreeB (H := []) (G := []) (by kernel_rfl) hag_
  replace hf0 := tf hag_ hf0
  replace hg0 := tg hag_ hg0
  replace hbk1 := tb hag_ hbk1
  have hf2 : Full (e20.addR 2 (.slice (some ⟨g1, 0, none⟩) c1 c1)) 2 c1 := full_addR _ _ _ _; have hnew2 : headOf ((e20.addR 2 (.slice (some ⟨g1, 0, none⟩) c1 c1)).r 2) = g1 := head_addR _ _ _ _
  replace hR := hR2_; clear hR2_ hR_ hR1_
  replace hB := hB_; clear hB_ hk hkF_ 
  have hgw := Nat.le_trans hgw0_ hge
  refine ⟨_, rfl, ?_⟩
  replace hI := hI.pt 144 (.rsl 2 0 nu c1) [144, 143, 142, 1, 0, 2, 3, 4]
  refine pZ tab [3] [] 3 [(0, .rsl 2 0 nu c1)] [1, 2, 3, 4] hR hI fun e22 a22 w22 hag hR hI => ?_
  have hA := hag
  refine ops_nil (then_n ?_)
  refine rK tab 3 [(3, .eq (.int .i64 0)), (5, .val (vU (ys.getD 0 0)))] [] [(15, vU (ys.getD 0 0))] [0, 1, 2, 3, 4] [] [1] [] [2, 0] 3 hR hI (.cons (congrArg (Value.int .i64) (by decide : IntKind.i64.wrap ((1 : Int) - (1 : Int)) = 0)) (.cons (by omega : (0 : Int) ≤ (0 : Int) ∧ (0 : Int) < ((1 : Nat) : Int)) (.cons (nats_some (i := 0) (hy.cells.mono hB.cls) (by omega)) (.cons (nats_load (i := 0) (m := 1) (hy.cells.mono hB.cls) (by omega)) .nil)))) fun e23 a23 w23 hag hR hI => ?_
  replace hA := hA.trans hag (by decide)
  refine wp_seq (reg (is := [0, 1, 2, 3]) (by kernel_rfl) ?_)
  refine pZ tab [0] [1, 2, 3] 3 [(151, vU (ys.getD 0 0))] [15, 0, 1, 2, 3, 4] hR hI fun e24 a24 w24 hag hR hI => ?_
  replace hA := hA.trans hag (by decide)
  refine cO [vU (ys.getD 0 0)] hI Tryz.func83 ?_
  refine (nlz_spec (C := C) (x := ys.getD 0 0) (ndig_get hy.dig 0)).mono ?_
  rintro ex w25 ⟨rfl, hk⟩
  replace hR := hR.same hk; clear hk
  refine ⟨_, rfl, ?_⟩
  replace hI := hI.pt 152 (vU (64 - lent (ys.getD 0 0))) [152, 151, 15, 0, 1, 2, 3, 4]
  refine pK tab [2, 3] [] 3 [(2, .eq (.int .u64 ((65 - lent (ys.getD 0 0) : Nat) : Int)))] [] [(16, vU (65 - lent (ys.getD 0 0)))] [15, 0, 1, 2, 3, 4] [] [1] [] [2, 0] 3 hR hI (.cons (congrArg (Value.int .u64) (by rw [wrap_inR (inR_u64 (by omega))]; omega : IntKind.u64.wrap (((64 - lent (ys.getD 0 0) : Nat) : Int) + (1 : Int)) = ((65 - lent (ys.getD 0 0) : Nat) : Int))) .nil) fun e26 a26 w26 hag hR hI => ?_
  replace hA := hA.trans hag (by decide)
  refine ops_nil (then_n ?_)
  refine rK tab 3 [(2, .eq (.int .u64 ((pv (ys.getD 0 0) 0 : Nat) : Int)))] [] [(15, vU (pv (ys.getD 0 0) 0))] [16, 0, 1, 2, 3, 4] [] [1] [] [2, 0] 3 hR hI (.cons (congrArg (Value.int .u64) (by rw [wrap_u64]; unfold pv; simp : IntKind.u64.wrap (((ys.getD 0 0 : Nat) : Int) * 2 ^ (65 - lent (ys.getD 0 0))) = ((pv (ys.getD 0 0) 0 : Nat) : Int))) (.cons (by omega : (0 : Int) ≤ ((65 - lent (ys.getD 0 0) : Nat) : Int)) (.cons (by show _ ≤ (64 : Int); omega : ((65 - lent (ys.getD 0 0) : Nat) : Int) ≤ (IntKind.u64.bits : Int)) .nil))) fun e27 a27 w27 hag hR hI => ?_
  replace hA := hA.trans hag (by decide)
  refine rZ tab 3 [(17, vS none 0 0)] [15, 16, 0, 1, 2, 3, 4] hR hI fun e28 a28 w28 hag hR hI => ?_
  replace hA := hA.trans hag (by decide)
  refine rK tab 3 [(1, .eq (.int .i64 ((65 - lent (ys.getD 0 0) : Nat) : Int))), (2, .eq (.int .i64 ((lent (ys.getD 0 0) - 1 : Nat) : Int)))] [] [(18, vI (lent (ys.getD 0 0) - 1))] [17, 15, 0, 1, 2, 3, 4] [] [1] [] [2, 0] 3 hR hI (.cons (congrArg (Value.int .i64) (wrap_inR (inR_i64 (by omega)) : IntKind.i64.wrap ((65 - lent (ys.getD 0 0) : Nat) : Int) = ((65 - lent (ys.getD 0 0) : Nat) : Int))) (.cons (wI ((64 : Int) - ((65 - lent (ys.getD 0 0) : Nat) : Int)) ((lent (ys.getD 0 0) - 1 : Nat) : Int) (by omega) (by omega)) .nil)) fun e29 a29 w29 hag hR hI => ?_
  replace hA := hA.trans hag (by decide)
  refine rZ tab 3 [(20, vS none 0 0), (19, vS none 0 0)] [18, 17, 15, 0, 1, 2, 3, 4] hR hI fun e30 a30 w30 hag hR hI => ?_
  replace hA := hA.trans hag (by decide)
  refine wp_seq ?_
  refine rZ tab 3 [(21, .v (.int .i64 0))] [20, 19, 18, 17, 15, 0, 1, 2, 3, 4] hR hI fun e31 a31 w31 hag hR hI => ?_
  replace hA := hA.trans hag (by decide)
  refine wp_block ?_
  replace hbk1 := tb hA hbk1
  replace hf0 := tf hA hf0
  replace hg0 := tg hA hg0
  replace hf2 := tf hA hf2
  replace hnew2 := tg hA hnew2
  have hps0 : (put (List.replicate c1 0) 0 (seg zs 0 nu)).length = c1 := by rw [put_length (by rw [List.length_replicate, hul0]; omega), List.length_replicate]
  have hpt0 : (put (List.replicate c1 0) 0 (seg zs 0 nu)).take nu = seg zs 0 nu := by rw [put_takem (Nat.le_of_eq hul0.symm), List.take_of_length_le (Nat.le_of_eq hul0)]
  refine lpM (γ := Bool × Nat × Nat × Nat × Nat × List Nat × Nat × Nat × Nat × List Nat) (fun (f, j, gp, cp, m, ps, gq, cq, lq, qs) => (match f with | false => (⟨[(0, .rsl 2 0 m cp), (1, .p 1 0), (2, .rsl 0 0 nu c), (3, vS ad 1 yc), (4, vS none 0 0), (15, vU (pv (ys.getD 0 0) j)), (17, vS none 0 0), (18, vI (lent (ys.getD 0 0) - 1)), (19, vS none 0 0), (20, vS none 0 0), (21, vI j)], [⟨1, 124, [.v (.pointer none)]⟩], [⟨0, 102, 1, N, (ints .u64 zs)⟩, ⟨2, 102, 1, cp, (ints .u64 ps)⟩], 4⟩ : Sy) | true => (⟨[(0, .rsl 2 0 m cp), (1, .p 1 0), (2, .rsl 0 0 nu c), (3, vS ad 1 yc), (4, vS none 0 0), (15, vU (pv (ys.getD 0 0) j)), (17, vS none 0 0), (18, vI (lent (ys.getD 0 0) - 1)), (19, .rsl 3 0 lq cq), (20, vS none 0 0), (21, vI j)], [⟨1, 124, [.v (.pointer none)]⟩], [⟨0, 102, 1, N, (ints .u64 zs)⟩, ⟨2, 102, 1, cp, (ints .u64 ps)⟩, ⟨3, 102, 1, cq, (ints .u64 qs)⟩], 4⟩ : Sy))) (fun (f, j, gp, cp, m, ps, gq, cq, lq, qs) e C F wb => ((Full e 0 N) ∧ (headOf (e.r 0) = g) ∧ (e.b 1 = b)) ∧ ((Sl .i64 18446744073709551616 C wb (some ⟨1, 0, none⟩) 1 [12] ∧ Sl .i64 18446744073709551616 C wb (some ⟨2, 0, none⟩) 1 [80] ∧ Sl .i64 18446744073709551616 C wb (some ⟨3, 0, none⟩) 1 [40]) ∧ (j ≤ (lent (ys.getD 0 0) - 1) ∧ (f = false → j = 0)) ∧ (Full e 2 cp ∧ headOf (e.r 2) = gp ∧ w.heap.size ≤ gp) ∧ (ps.length = cp ∧ m ≤ cp ∧ 0 < cp ∧ cp ≤ 9223372036854775807 ∧ Ndig ps) ∧ (Ntrim (ps.take m) ∧ nval (ps.take m) = (nval (seg zs 0 nu)) ^ ((ys.getD 0 0) / 2 ^ (lent (ys.getD 0 0) - 1 - j))) ∧ (f = true → Full e 3 cq ∧ headOf (e.r 3) = gq ∧ w.heap.size ≤ gq ∧ qs.length = cq ∧ 0 < cq ∧ cq ≤ 9223372036854775807 ∧ Ndig qs))) (fun (f, j, gp, cp, m, ps, gq, cq, lq, qs) => lent (ys.getD 0 0) - 1 - j) (false, 0, g1, c1, nu, put (List.replicate c1 0) 0 (seg zs 0 nu), 0, 0, 0, []) hB (⟨⟨hf0, hg0, hbk1⟩, ⟨⟨hk1, hk2, hk3⟩, ⟨Nat.zero_le _, fun _ => rfl⟩, ⟨hf2, hnew2, hgw⟩, ⟨hps0, by omega, by omega, by omega, put_dig (ndig_replicate _) (seg_dig hzd _ _)⟩, ⟨by rw [hpt0]; exact htx, by rw [hpt0, Nat.sub_zero, hle.2.2, Nat.pow_one]⟩, fun h_ => by cases h_⟩⟩)
    (hR.sel [1] [0, 2] (by kernel_rfl) (by kernel_rfl)) (hI.sel [0, 1, 2, 3, 4, 15, 17, 18, 19, 20, 21] (by kernel_rfl)) ?_
  clear hR hI hB
  rintro ⟨f, j, gp, cp, m, ps, gq, cq, lq, qs⟩ e32 C32 F32 wb32 a32 w32 hB hp hR hI
  dsimp only at hp hR hI
  obtain ⟨⟨hf0, hg0, hbk1⟩, hp⟩ := hp
  obtain ⟨⟨hk1, hk2, hk3⟩, ⟨hj, hjf⟩, ⟨hf2, hh2, hgp⟩, ⟨hpl, hmp, hp0, hpm, hpd⟩, ⟨htp, hvp⟩, hq⟩ := hp
  have hpw : nval (ps.take m) < pn 4 := by rw [hvp]; exact pow_bound hX0 (Nat.div_le_self _ _) hlim
  have hm4 : m ≤ 4 := by have h_ := trim_len htp hpw; rw [List.length_take] at h_; omega
  have hm1 : 1 ≤ m := nval_take_pos (by rw [hvp]; exact Nat.pow_pos hX0)
  cases f
  ·
   dsimp only at hR hI
   refine wp_seq ?_
   refine rZ tab 4 [(162, vB (decide ((j : Int) < ((lent (ys.getD 0 0) - 1 : Nat) : Int))))] [0, 1, 2, 3, 4, 15, 17, 18, 19, 20, 21] hR hI fun e33 a33 w33 hag hR hI => ?_
   have hA := hag
   refine cnd (b := decide ((j : Int) < ((lent (ys.getD 0 0) - 1 : Nat) : Int))) hI (by kernel_rfl) (fun hc34 => ?_) (fun hc34 => ?_)
   ·
    replace hI := hI.rb 162 hc34
    try simp only [tolds] at hc34
    refine wp_skip ?_
    refine then_n ?_
    refine wp_seq ?_
    refine wp_block ?_
    refine wp_seq (reg (is := [0, 1, 2, 3, 4]) (by kernel_rfl) ?_)
    refine pZ tab [0, 1, 2] [3, 4] 4 [(167, .rsl 2 0 m cp), (166, .p 1 0), (165, vS none 0 0)] [0, 1, 2, 3, 4, 15, 17, 18, 19, 20, 21] hR hI fun e35 a35 w35 hag hR hI => ?_
    replace hA := hA.trans hag (by decide)
    refine cO [vS none 0 0, .p 1 0, .rsl 2 0 m cp] hI Tryz.func101 ?_
    have hsz_ := (hB.fin hR).size
    replace hbk1 := tb hA hbk1
    replace hf0 := tf hA hf0
    replace hg0 := tg hA hg0
    replace hf2 := tf hA hf2
    replace hh2 := tg hA hh2
    have hq2_ := hR.rowCells (y := ⟨2, 102, 1, cp, (ints .u64 ps)⟩) m1 hf2 rfl
    refine (sqrNil_spec (C := Now hB) hq2_.1 hpl hpm (fun h_ => hq2_.2 h_.2) hpd (hk1.now hB hR) (hk2.now hB hR) hm1 (by omega) hmp hmp hpm).mono ?_
    rintro ex w36 ⟨g3, c3, mA, rs, rfl, hk, hge, hwg, hw2, hrl, hrd, hrm, hr0, hrmx, hrt, hrv⟩
    have hkF_ := hR.keepN hk (all_cons hq2_.2 all_no)
    have hR_ : Rel (Grow _ _ w36) w36 e35 [⟨1, 124, [.v (.pointer none)]⟩] [⟨0, 102, 1, N, (ints .u64 zs)⟩, ⟨2, 102, 1, cp, (ints .u64 ps)⟩] w36 := hR.turnedN hk (all_cons hq2_.2 all_no) (all_cons ⟨⟨_, m0, rfl⟩, .inl ⟨m0, (notin2 (hR.hgN m0 m1 hf2) (fun hm_ => by cases hm_))⟩⟩ all_no) (all_cons ⟨⟨_, m0, rfl⟩, .inl ⟨m0, fun g_ he_ => own_ne hf0 (notin2 (hR.ggN m0 m1 (by dsimp only; decide) hf0 hf2) (fun hm_ => by cases hm_)) he_⟩⟩ (all_cons ⟨⟨_, m1, rfl⟩, .inr (by have hl_ := hR.rowLen (y := ⟨2, 102, 1, cp, (ints .u64 ps)⟩) m1; dsimp only at hl_; rw [show e35.r 2 = _ from hf2]; exact ownsRow_fullN hw2 (by rw [ints_length]; exact hpl) (hpm))⟩ all_no))
    have hM_ : ∀ b_ ∈ ([g3] : List Nat), _ ≤ b_ := (all_cons hge all_no)
    replace hk1 := hk1.nextN hB hR hkF_ hM_
    replace hk2 := hk2.nextN hB hR hkF_ hM_
    replace hk3 := hk3.nextN hB hR hkF_ hM_
    have hB_ := hB.nextN hR hkF_ hM_; have hR1_ := hR_.shrinkN (M := [g3])
    obtain ⟨hfr1_, hfr2_⟩ := hR.fresh (H' := [⟨1, 124, [.v (.pointer none)]⟩]) (G' := [⟨0, 102, 1, N, (ints .u64 zs)⟩, ⟨2, 102, 1, cp, (ints .u64 ps)⟩]) (all_cons ⟨_, m0, rfl⟩ all_no) (all_cons ⟨_, m0, rfl⟩ (all_cons ⟨_, m1, rfl⟩ all_no)) hge
    obtain ⟨hag_, hR2_⟩ := hR1_.gotRow (L := []) (k := 4) (g := g3) (n := c3) (t := 102) (xs := (ints .u64 rs)) (by kernel_rfl) hwg (by rw [ints_length]; exact hrl) (hrmx) (fun hf_ => hf_.2.1 m0) hfr1_ hfr2_
    replace hI := hI.agreeB (H := []) (G := []) (by kernel_rfl) hag_
    replace hf0 := tf hag_ hf0
    replace hg0 := tg hag_ hg0
    replace hf2 := tf hag_ hf2
    replace hh2 := tg hag_ hh2
    replace hbk1 := tb hag_ hbk1
    have hf4 : Full (e35.addR 4 (.slice (some ⟨g3, 0, none⟩) c3 c3)) 4 c3 := full_addR _ _ _ _; have hnew4 : headOf ((e35.addR 4 (.slice (some ⟨g3, 0, none⟩) c3 c3)).r 4) = g3 := head_addR _ _ _ _
    replace hR := hR2_; clear hR2_ hR_ hR1_
    replace hB := hB_; clear hB_ hk hkF_ hq2_ hw2
    have hgw3 := Nat.le_trans hsz_ hge
    have hjw : j < lent (ys.getD 0 0) - 1 := by omega
    have hrv2 : nval (rs.take mA) = (nval (seg zs 0 nu)) ^ (2 * ((ys.getD 0 0) / 2 ^ (lent (ys.getD 0 0) - 1 - j))) := by rw [hrv, List.drop_zero, hvp, sq_pow]
    have hhs := half_step (e := (ys.getD 0 0)) hjw
    have ha1 : 1 ≤ (ys.getD 0 0) / 2 ^ (lent (ys.getD 0 0) - 1 - j) := half_pos hle.2.2 (by omega)
    have hed := Nat.div_le_self (ys.getD 0 0) (2 ^ (lent (ys.getD 0 0) - 1 - j - 1))
    have hm24 : mA ≤ 4 := by
     have h_ := trim_len hrt (by rw [hrv2]; exact pow_bound hX0 (by omega) hlim)
     rw [List.length_take] at h_; omega
    have hnm2 : nu ≤ mA := by
     have h_ := trim_le (us := rs.take mA) (fun d hd => hrd d (List.mem_of_mem_take hd)) htx (by rw [hrv2]; exact le_pow hX0 (by omega))
     rw [hul0, List.length_take] at h_; omega
    refine ⟨_, rfl, ?_⟩
    replace hI := hI.pt 168 (.rsl 4 0 mA c3) [168, 167, 166, 165, 0, 1, 2, 3, 4, 15, 17, 18, 19, 20, 21]
    refine pZ tab [4] [] 5 [(19, .rsl 4 0 mA c3)] [0, 1, 2, 3, 4, 15, 17, 18, 20, 21] hR hI fun e37 a37 w37 hag hR hI => ?_
    have hA := hag
    refine ops_nil (then_n ?_)
    refine rZ tab 5 [(0, .rsl 4 0 mA c3), (19, .rsl 2 0 m cp)] [1, 2, 3, 4, 15, 17, 18, 20, 21] hR hI fun e38 a38 w38 hag hR hI => ?_
    replace hA := hA.trans hag (by decide)
    refine wp_seq ?_
    refine rK tab 5 [(1, .eq (.int .u64 (if 9223372036854775808 ≤ pv (ys.getD 0 0) j then 9223372036854775808 else 0)))] [] [(173, vB ((if 9223372036854775808 ≤ pv (ys.getD 0 0) j then 9223372036854775808 else 0) != (0 : Int)))] [0, 19, 1, 2, 3, 4, 15, 17, 18, 20, 21] [] [1] [] [4, 0, 2] 5 hR hI (.cons (congrArg (Value.int .u64) (and_top _ (pv_lt _ _) : bits .and .u64 ((pv (ys.getD 0 0) j : Nat) : Int) (9223372036854775808 : Int) = (if 9223372036854775808 ≤ pv (ys.getD 0 0) j then 9223372036854775808 else 0))) .nil) fun e39 a39 w39 hag hR hI => ?_
    replace hA := hA.trans hag (by decide)
    refine cnd (b := ((if 9223372036854775808 ≤ pv (ys.getD 0 0) j then 9223372036854775808 else 0) != (0 : Int))) hI (by kernel_rfl) (fun hc40 => ?_) (fun hc40 => ?_)
    ·
     replace hI := hI.rb 173 hc40
     try simp only [tolds] at hc40
     have hbt : (ys.getD 0 0) / 2 ^ (lent (ys.getD 0 0) - 1 - j - 1) % 2 = 1 := by
      have h1_ := (pv_step hy2 hy20 (by omega : j < lent (ys.getD 0 0) - 1)).1
      by_cases h_ : 9223372036854775808 ≤ pv (ys.getD 0 0) j
      · exact h1_.1 h_
      · rw [if_neg h_] at hc40; exact absurd rfl hc40
     refine wp_seq (reg (is := [0, 1, 2, 3, 4, 5]) (by kernel_rfl) ?_)
     refine pZ tab [0, 1, 2, 3] [4, 5] 5 [(177, .rsl 0 0 nu c), (176, .rsl 4 0 mA c3), (175, .p 1 0), (174, .rsl 2 0 m cp)] [0, 19, 1, 2, 3, 4, 15, 17, 18, 20, 21] hR hI fun e41 a41 w41 hag hR hI => ?_
     replace hA := hA.trans hag (by decide)
     rcases Nat.lt_or_ge cp (mA + nu) with hcl | hcl
     ·
      refine cO [.rsl 2 0 m cp, .p 1 0, .rsl 4 0 mA c3, .rsl 0 0 nu c] hI Tryz.func102 ?_
      have hsz2_ := (hB.fin hR).size
      replace hbk1 := tb hA hbk1
      replace hf0 := tf hA hf0
      replace hg0 := tg hA hg0
      replace hf2 := tf hA hf2
      replace hh2 := tg hA hh2
      replace hf4 := tf hA hf4
      replace hnew4 := tg hA hnew4
      have hq2_ := hR.rowCells (y := ⟨2, 102, 1, cp, (ints .u64 ps)⟩) m2 hf2 rfl
      have hq4_ := hR.rowCells (y := ⟨4, 102, 1, c3, (ints .u64 rs)⟩) m0 hf4 rfl
      have hq0_ := hR.rowCells (y := ⟨0, 102, 1, N, (ints .u64 zs)⟩) m1 hf0 rfl
      refine (mulNew_spec (C := Now hB) hq2_.1 hpl hpm (fun h_ => hq2_.2 h_.2) hq4_.1 hrl hrmx (fun h_ => hq4_.2 h_.2) hrd hq0_.1 hzl hzm (fun h_ => hq0_.2 h_.2) hzd (hR.ggN m2 m0 (by dsimp only; decide) hf2 hf4) (hR.ggN m2 m1 (by dsimp only; decide) hf2 hf0) (hR.ggN m0 m1 (by dsimp only; decide) hf4 hf0) hpd (hk3.now hB hR) hn1 hnm2 (by omega) hrm hrm hrmx hfit hc hcm (by omega) hX0 hp0 hcl).mono ?_
      rintro ex w42 ⟨g5, c5, mB, ts, rfl, hk, hge5, hwg5, hw2, hw4, hw0, htl, htd, htm, ht0, htmx, htt, htv⟩
      have hkF_ := hR.keepN hk (all_cons hq2_.2 (all_cons hq4_.2 (all_cons hq0_.2 all_no)))
      have hR_ : Rel (Grow _ _ w42) w42 e41 [⟨1, 124, [.v (.pointer none)]⟩] [⟨4, 102, 1, c3, (ints .u64 rs)⟩, ⟨0, 102, 1, N, (ints .u64 zs)⟩, ⟨2, 102, 1, cp, (ints .u64 ps)⟩] w42 := hR.turnedN hk (all_cons hq2_.2 (all_cons hq4_.2 (all_cons hq0_.2 all_no))) (all_cons ⟨⟨_, m0, rfl⟩, .inl ⟨m0, (notin2 (hR.hgN m0 m2 hf2) (notin2 (hR.hgN m0 m0 hf4) (notin2 (hR.hgN m0 m1 hf0) (fun hm_ => by cases hm_))))⟩⟩ all_no) (all_cons ⟨⟨_, m0, rfl⟩, .inr (by have hl_ := hR.rowLen (y := ⟨4, 102, 1, c3, (ints .u64 rs)⟩) m0; dsimp only at hl_; rw [show e41.r 4 = _ from hf4]; exact ownsRow_fullN hw4 (by rw [ints_length]; exact hrl) (hrmx))⟩ (all_cons ⟨⟨_, m1, rfl⟩, .inr (by have hl_ := hR.rowLen (y := ⟨0, 102, 1, N, (ints .u64 zs)⟩) m1; dsimp only at hl_; rw [show e41.r 0 = _ from hf0]; exact ownsRow_fullN hw0 (by rw [ints_length]; exact hzl) (hzm))⟩ (all_cons ⟨⟨_, m2, rfl⟩, .inr (by have hl_ := hR.rowLen (y := ⟨2, 102, 1, cp, (ints .u64 ps)⟩) m2; dsimp only at hl_; rw [show e41.r 2 = _ from hf2]; exact ownsRow_fullN hw2 (by rw [ints_length]; exact hpl) (hpm))⟩ all_no)))
      have hM_ : ∀ b_ ∈ ([g5] : List Nat), _ ≤ b_ := (all_cons hge5 all_no)
      replace hk1 := hk1.nextN hB hR hkF_ hM_
      replace hk2 := hk2.nextN hB hR hkF_ hM_
      replace hk3 := hk3.nextN hB hR hkF_ hM_
      have hB_ := hB.nextN hR hkF_ hM_; have hR1_ := hR_.shrinkN (M := [g5])
      obtain ⟨hfr1_, hfr2_⟩ := hR.fresh (H' := [⟨1, 124, [.v (.pointer none)]⟩]) (G' := [⟨4, 102, 1, c3, (ints .u64 rs)⟩, ⟨0, 102, 1, N, (ints .u64 zs)⟩, ⟨2, 102, 1, cp, (ints .u64 ps)⟩]) (all_cons ⟨_, m0, rfl⟩ all_no) (all_cons ⟨_, m0, rfl⟩ (all_cons ⟨_, m1, rfl⟩ (all_cons ⟨_, m2, rfl⟩ all_no))) hge5
      obtain ⟨hag_, hR2_⟩ := hR1_.gotRow (L := []) (k := 5) (g := g5) (n := c5) (t := 102) (xs := (ints .u64 ts)) (by kernel_rfl) hwg5 (by rw [ints_length]; exact htl) (htmx) (fun hf_ => hf_.2.1 m0) hfr1_ hfr2_
      replace hI := hI.agreeB (H := []) (G := []) (by kernel_rfl) hag_
      replace hf0 := tf hag_ hf0
      replace hg0 := tg hag_ hg0
      replace hf2 := tf hag_ hf2
      replace hh2 := tg hag_ hh2
      replace hf4 := tf hag_ hf4
      replace hnew4 := tg hag_ hnew4
      replace hbk1 := tb hag_ hbk1
      have hf5 : Full (e41.addR 5 (.slice (some ⟨g5, 0, none⟩) c5 c5)) 5 c5 := full_addR _ _ _ _; have hnew5 : headOf ((e41.addR 5 (.slice (some ⟨g5, 0, none⟩) c5 c5)).r 5) = g5 := head_addR _ _ _ _
      replace hR := hR2_; clear hR2_ hR_ hR1_
      replace hB := hB_; clear hB_ hk hkF_ hq2_ hw2 hq4_ hw4 hq0_ hw0
      have hgw5 := Nat.le_trans hsz2_ hge5
      have htv2 : nval (ts.take mB) = (nval (seg zs 0 nu)) ^ (2 * ((ys.getD 0 0) / 2 ^ (lent (ys.getD 0 0) - 1 - j)) + 1) := by
       rw [htv]
       show nval (rs.take mA) * (nval (seg zs 0 nu)) = _
       rw [hrv2, sq_pow1]
      refine ⟨_, rfl, ?_⟩
      replace hI := hI.pt 178 (.rsl 5 0 mB c5) [178, 177, 176, 175, 174, 0, 19, 1, 2, 3, 4, 15, 17, 18, 20, 21]
      refine pK tab [5] [] 6 [] [] [(19, .rsl 5 0 mB c5)] [0, 1, 2, 3, 4, 15, 17, 18, 20, 21] [] [1] [] [5, 4, 0] 6 hR hI .nil fun e43 a43 w43 hag hR hI => ?_
      have hA := hag
      refine ops_nil (then_n ?_)
      refine aZ tab 6 [(0, .rsl 5 0 mB c5), (19, .rsl 4 0 mA c3)] [1, 2, 3, 4, 15, 17, 18, 20, 21] hR hI fun e44 a44 w44 hag hR hI => ?_
      replace hA := hA.trans hag (by decide)
      refine then_n ?_
      refine wp_seq ?_
      refine rZ tab 6 [(183, vB false)] [0, 19, 1, 2, 3, 4, 15, 17, 18, 20, 21] hR hI fun e45 a45 w45 hag hR hI => ?_
      replace hA := hA.trans hag (by decide)
      refine cnd_f hI (by kernel_rfl) ?_
      refine wp_skip ?_
      refine then_n ?_
      refine aK tab 6 [(1, .eq (.int .u64 ((pv (ys.getD 0 0) (j + 1) : Nat) : Int)))] [] [(15, vU (pv (ys.getD 0 0) (j + 1)))] [0, 19, 1, 2, 3, 4, 17, 18, 20, 21] [] [1] [] [5, 4, 0] 6 hR hI (.cons (congrArg (Value.int .u64) (by rw [wrap_u64, (pv_step hy2 hy20 (by omega : j < lent (ys.getD 0 0) - 1)).2]; omega : IntKind.u64.wrap (((pv (ys.getD 0 0) j : Nat) : Int) * 2) = ((pv (ys.getD 0 0) (j + 1) : Nat) : Int))) (.cons (by decide : (0 : Int) ≤ 1) (.cons (by decide : (1 : Int) ≤ (IntKind.u64.bits : Int)) .nil))) fun e46 a46 w46 hag hR hI => ?_
      replace hA := hA.trans hag (by decide)
      refine normal_block ?_
      refine then_n ?_
      refine aK tab 6 [(1, .nw)] [] [(21, vI (j + 1))] [15, 0, 19, 1, 2, 3, 4, 17, 18, 20] [] [1] [] [5, 4, 0] 6 hR hI (.cons (inR_i64 (n := (j : Int) + (1 : Int)) (by omega)) .nil) fun e47 a47 w47 hag hR hI => ?_
      replace hA := hA.trans hag (by decide)
      refine then_n ?_
      replace hbk1 := tb hA hbk1
      replace hf0 := tf hA hf0
      replace hg0 := tg hA hg0
      replace hf2 := tf hA hf2
      replace hh2 := tg hA hh2
      replace hf4 := tf hA hf4
      replace hnew4 := tg hA hnew4
      replace hf5 := tf hA hf5
      replace hnew5 := tg hA hnew5
      obtain ⟨hR, hI⟩ := rnm [(2, 5), (3, 4)] ⟨[(21, vI (j + 1)), (15, vU (pv (ys.getD 0 0) (j + 1))), (0, .rsl 2 0 mB c5), (19, .rsl 3 0 mA c3), (1, .p 1 0), (2, .rsl 0 0 nu c), (3, vS ad 1 yc), (4, vS none 0 0), (17, vS none 0 0), (18, vI (lent (ys.getD 0 0) - 1)), (20, vS none 0 0)], [⟨1, 124, [.v (.pointer none)]⟩], [⟨2, 102, 1, c5, (ints .u64 ts)⟩, ⟨3, 102, 1, c3, (ints .u64 rs)⟩, ⟨0, 102, 1, N, (ints .u64 zs)⟩], 0⟩ hR hI; dsimp only at hI hR
      replace hbk1 : (Env.ren e47 [(2, 5), (3, 4)]).b 1 = _ := hbk1
      have hfz_ : Full (Env.ren e47 [(2, 5), (3, 4)]) 2 c5 := hf5; have hfq_ : Full (Env.ren e47 [(2, 5), (3, 4)]) 3 c3 := hf4; have hhz_ : headOf ((Env.ren e47 [(2, 5), (3, 4)]).r 2) = _ := hnew5; have hhq_ : headOf ((Env.ren e47 [(2, 5), (3, 4)]).r 3) = _ := hnew4
      exact ⟨(true, j + 1, g5, c5, mB, ts, g3, c3, mA, rs), (Env.ren e47 [(2, 5), (3, 4)]), _, _, _, hB, ⟨⟨hf0, hg0, hbk1⟩, ⟨⟨hk1, hk2, hk3⟩, ⟨by omega, fun h_ => by cases h_⟩, ⟨hfz_, hhz_, hgw5⟩, ⟨htl, htm, ht0, htmx, htd⟩, ⟨htt, by rw [htv2, show lent (ys.getD 0 0) - 1 - (j + 1) = lent (ys.getD 0 0) - 1 - j - 1 by omega, hhs, hbt]⟩, fun _ => ⟨hfq_, hhq_, hgw3, hrl, hr0, hrmx, hrd⟩⟩⟩, (by (try dsimp only); omega), hR.sel [1] [0, 2, 3] (by kernel_rfl) (by kernel_rfl), hI.sel [0, 1, 2, 3, 4, 15, 17, 18, 19, 20, 21] (by kernel_rfl)⟩
     ·
      refine cO [.rsl 2 0 m cp, .p 1 0, .rsl 4 0 mA c3, .rsl 0 0 nu c] hI Tryz.func102 ?_
      replace hbk1 := tb hA hbk1
      replace hf0 := tf hA hf0
      replace hg0 := tg hA hg0
      replace hf2 := tf hA hf2
      replace hh2 := tg hA hh2
      replace hf4 := tf hA hf4
      replace hnew4 := tg hA hnew4
      have hq2_ := hR.rowCells (y := ⟨2, 102, 1, cp, (ints .u64 ps)⟩) m2 hf2 rfl
      have hq4_ := hR.rowCells (y := ⟨4, 102, 1, c3, (ints .u64 rs)⟩) m0 hf4 rfl
      have hq0_ := hR.rowCells (y := ⟨0, 102, 1, N, (ints .u64 zs)⟩) m1 hf0 rfl
      refine (mulOld_spec (C := Now hB) hq2_.1 hpl hpm (fun h_ => hq2_.2 h_.2) hq4_.1 hrl hrmx (fun h_ => hq4_.2 h_.2) hrd hq0_.1 hzl hzm (fun h_ => hq0_.2 h_.2) hzd (hR.ggN m2 m0 (by dsimp only; decide) hf2 hf4) (hR.ggN m2 m1 (by dsimp only; decide) hf2 hf0) (hR.ggN m0 m1 (by dsimp only; decide) hf4 hf0) hpd (hk3.now hB hR) hn1 hnm2 (by omega) hrm hrm hrmx hfit hc hcm (by omega) hX0 hp0 hcl).mono ?_
      rintro ex w48 ⟨mB, ts, rfl, hk, hw2, hw4, hw0, htl, htd, htm, htt, htv⟩
      have hkF_ := hR.keepN hk (all_cons hq2_.2 (all_cons hq4_.2 (all_cons hq0_.2 all_no)))
      have hR_ : Rel (Grow _ _ w48) w48 e41 [⟨1, 124, [.v (.pointer none)]⟩] [⟨4, 102, 1, c3, (ints .u64 rs)⟩, ⟨0, 102, 1, N, (ints .u64 zs)⟩, ⟨2, 102, 1, cp, (ints .u64 ts)⟩] w48 := hR.turnedN hk (all_cons hq2_.2 (all_cons hq4_.2 (all_cons hq0_.2 all_no))) (all_cons ⟨⟨_, m0, rfl⟩, .inl ⟨m0, (notin2 (hR.hgN m0 m2 hf2) (notin2 (hR.hgN m0 m0 hf4) (notin2 (hR.hgN m0 m1 hf0) (fun hm_ => by cases hm_))))⟩⟩ all_no) (all_cons ⟨⟨_, m0, rfl⟩, .inr (by have hl_ := hR.rowLen (y := ⟨4, 102, 1, c3, (ints .u64 rs)⟩) m0; dsimp only at hl_; rw [show e41.r 4 = _ from hf4]; exact ownsRow_fullN hw4 (by rw [ints_length]; exact hrl) (hrmx))⟩ (all_cons ⟨⟨_, m1, rfl⟩, .inr (by have hl_ := hR.rowLen (y := ⟨0, 102, 1, N, (ints .u64 zs)⟩) m1; dsimp only at hl_; rw [show e41.r 0 = _ from hf0]; exact ownsRow_fullN hw0 (by rw [ints_length]; exact hzl) (hzm))⟩ (all_cons ⟨⟨_, m2, rfl⟩, .inr (by have hl_ := hR.rowLen (y := ⟨2, 102, 1, cp, (ints .u64 ps)⟩) m2; dsimp only at hl_; rw [show e41.r 2 = _ from hf2]; exact ownsRow_fullN hw2 (by rw [ints_length]; exact htl) (hpm))⟩ all_no)))
      replace hk1 := hk1.nextF hB hR hkF_
      replace hk2 := hk2.nextF hB hR hkF_
      replace hk3 := hk3.nextF hB hR hkF_
      have hB_ := hB.nextF hR hkF_
      replace hR := hR_; clear hR_
      replace hB := hB_; clear hB_ hk hkF_ hq2_ hw2 hq4_ hw4 hq0_ hw0
      have htv2 : nval (ts.take mB) = (nval (seg zs 0 nu)) ^ (2 * ((ys.getD 0 0) / 2 ^ (lent (ys.getD 0 0) - 1 - j)) + 1) := by
       rw [htv]
       show nval (rs.take mA) * (nval (seg zs 0 nu)) = _
       rw [hrv2, sq_pow1]
      refine ⟨_, rfl, ?_⟩
      replace hI := hI.pt 178 (.rsl 2 0 mB cp) [178, 177, 176, 175, 174, 0, 19, 1, 2, 3, 4, 15, 17, 18, 20, 21]
      refine pZ tab [5] [] 5 [(19, .rsl 2 0 mB cp)] [0, 1, 2, 3, 4, 15, 17, 18, 20, 21] hR hI fun e49 a49 w49 hag hR hI => ?_
      have hA := hag
      refine ops_nil (then_n ?_)
      refine aZ tab 5 [(0, .rsl 2 0 mB cp), (19, .rsl 4 0 mA c3)] [1, 2, 3, 4, 15, 17, 18, 20, 21] hR hI fun e50 a50 w50 hag hR hI => ?_
      replace hA := hA.trans hag (by decide)
      refine then_n ?_
      refine wp_seq ?_
      refine rZ tab 5 [(183, vB false)] [0, 19, 1, 2, 3, 4, 15, 17, 18, 20, 21] hR hI fun e51 a51 w51 hag hR hI => ?_
      replace hA := hA.trans hag (by decide)
      refine cnd_f hI (by kernel_rfl) ?_
      refine wp_skip ?_
      refine then_n ?_
      refine aK tab 5 [(1, .eq (.int .u64 ((pv (ys.getD 0 0) (j + 1) : Nat) : Int)))] [] [(15, vU (pv (ys.getD 0 0) (j + 1)))] [0, 19, 1, 2, 3, 4, 17, 18, 20, 21] [] [1] [] [4, 0, 2] 5 hR hI (.cons (congrArg (Value.int .u64) (by rw [wrap_u64, (pv_step hy2 hy20 (by omega : j < lent (ys.getD 0 0) - 1)).2]; omega : IntKind.u64.wrap (((pv (ys.getD 0 0) j : Nat) : Int) * 2) = ((pv (ys.getD 0 0) (j + 1) : Nat) : Int))) (.cons (by decide : (0 : Int) ≤ 1) (.cons (by decide : (1 : Int) ≤ (IntKind.u64.bits : Int)) .nil))) fun e52 a52 w52 hag hR hI => ?_
      replace hA := hA.trans hag (by decide)
      refine normal_block ?_
      refine then_n ?_
      refine aK tab 5 [(1, .nw)] [] [(21, vI (j + 1))] [15, 0, 19, 1, 2, 3, 4, 17, 18, 20] [] [1] [] [4, 0, 2] 5 hR hI (.cons (inR_i64 (n := (j : Int) + (1 : Int)) (by omega)) .nil) fun e53 a53 w53 hag hR hI => ?_
      replace hA := hA.trans hag (by decide)
      refine then_n ?_
      replace hbk1 := tb hA hbk1
      replace hf0 := tf hA hf0
      replace hg0 := tg hA hg0
      replace hf2 := tf hA hf2
      replace hh2 := tg hA hh2
      replace hf4 := tf hA hf4
      replace hnew4 := tg hA hnew4
      obtain ⟨hR, hI⟩ := rnm [(2, 2), (3, 4)] ⟨[(21, vI (j + 1)), (15, vU (pv (ys.getD 0 0) (j + 1))), (0, .rsl 2 0 mB cp), (19, .rsl 3 0 mA c3), (1, .p 1 0), (2, .rsl 0 0 nu c), (3, vS ad 1 yc), (4, vS none 0 0), (17, vS none 0 0), (18, vI (lent (ys.getD 0 0) - 1)), (20, vS none 0 0)], [⟨1, 124, [.v (.pointer none)]⟩], [⟨3, 102, 1, c3, (ints .u64 rs)⟩, ⟨0, 102, 1, N, (ints .u64 zs)⟩, ⟨2, 102, 1, cp, (ints .u64 ts)⟩], 0⟩ hR hI; dsimp only at hI hR
      replace hbk1 : (Env.ren e53 [(2, 2), (3, 4)]).b 1 = _ := hbk1
      have hfz_ : Full (Env.ren e53 [(2, 2), (3, 4)]) 2 cp := hf2; have hfq_ : Full (Env.ren e53 [(2, 2), (3, 4)]) 3 c3 := hf4; have hhz_ : headOf ((Env.ren e53 [(2, 2), (3, 4)]).r 2) = _ := hh2; have hhq_ : headOf ((Env.ren e53 [(2, 2), (3, 4)]).r 3) = _ := hnew4
      exact ⟨(true, j + 1, gp, cp, mB, ts, g3, c3, mA, rs), (Env.ren e53 [(2, 2), (3, 4)]), _, _, _, hB, ⟨⟨hf0, hg0, hbk1⟩, ⟨⟨hk1, hk2, hk3⟩, ⟨by omega, fun h_ => by cases h_⟩, ⟨hfz_, hhz_, hgp⟩, ⟨htl, htm, hp0, hpm, htd⟩, ⟨htt, by rw [htv2, show lent (ys.getD 0 0) - 1 - (j + 1) = lent (ys.getD 0 0) - 1 - j - 1 by omega, hhs, hbt]⟩, fun _ => ⟨hfq_, hhq_, hgw3, hrl, hr0, hrmx, hrd⟩⟩⟩, (by (try dsimp only); omega), hR.sel [1] [0, 2, 3] (by kernel_rfl) (by kernel_rfl), hI.sel [0, 1, 2, 3, 4, 15, 17, 18, 19, 20, 21] (by kernel_rfl)⟩
    ·
     replace hI := hI.rb 173 hc40
     try simp only [tolds] at hc40
     have hbt : (ys.getD 0 0) / 2 ^ (lent (ys.getD 0 0) - 1 - j - 1) % 2 = 0 := by
      have h1_ := (pv_step hy2 hy20 (by omega : j < lent (ys.getD 0 0) - 1)).1
      by_cases h_ : 9223372036854775808 ≤ pv (ys.getD 0 0) j
      · rw [if_pos h_] at hc40; exact absurd hc40 (by decide)
      · have h2_ := fun h3_ => h_ (h1_.2 h3_); omega
     refine wp_skip ?_
     refine then_n ?_
     refine wp_seq ?_
     refine rZ tab 5 [(183, vB false)] [0, 19, 1, 2, 3, 4, 15, 17, 18, 20, 21] hR hI fun e54 a54 w54 hag hR hI => ?_
     replace hA := hA.trans hag (by decide)
     refine cnd_f hI (by kernel_rfl) ?_
     refine wp_skip ?_
     refine then_n ?_
     refine aK tab 5 [(1, .eq (.int .u64 ((pv (ys.getD 0 0) (j + 1) : Nat) : Int)))] [] [(15, vU (pv (ys.getD 0 0) (j + 1)))] [0, 19, 1, 2, 3, 4, 17, 18, 20, 21] [] [1] [] [4, 0, 2] 5 hR hI (.cons (congrArg (Value.int .u64) (by rw [wrap_u64, (pv_step hy2 hy20 (by omega : j < lent (ys.getD 0 0) - 1)).2]; omega : IntKind.u64.wrap (((pv (ys.getD 0 0) j : Nat) : Int) * 2) = ((pv (ys.getD 0 0) (j + 1) : Nat) : Int))) (.cons (by decide : (0 : Int) ≤ 1) (.cons (by decide : (1 : Int) ≤ (IntKind.u64.bits : Int)) .nil))) fun e55 a55 w55 hag hR hI => ?_
     replace hA := hA.trans hag (by decide)
     refine normal_block ?_
     refine then_n ?_
     refine aK tab 5 [(1, .nw)] [] [(21, vI (j + 1))] [15, 0, 19, 1, 2, 3, 4, 17, 18, 20] [] [1] [] [4, 0, 2] 5 hR hI (.cons (inR_i64 (n := (j : Int) + (1 : Int)) (by omega)) .nil) fun e56 a56 w56 hag hR hI => ?_
     replace hA := hA.trans hag (by decide)
     refine then_n ?_
     replace hbk1 := tb hA hbk1
     replace hf0 := tf hA hf0
     replace hg0 := tg hA hg0
     replace hf2 := tf hA hf2
     replace hh2 := tg hA hh2
     replace hf4 := tf hA hf4
     replace hnew4 := tg hA hnew4
     obtain ⟨hR, hI⟩ := rnm [(2, 4), (3, 2)] ⟨[(21, vI (j + 1)), (15, vU (pv (ys.getD 0 0) (j + 1))), (0, .rsl 2 0 mA c3), (19, .rsl 3 0 m cp), (1, .p 1 0), (2, .rsl 0 0 nu c), (3, vS ad 1 yc), (4, vS none 0 0), (17, vS none 0 0), (18, vI (lent (ys.getD 0 0) - 1)), (20, vS none 0 0)], [⟨1, 124, [.v (.pointer none)]⟩], [⟨2, 102, 1, c3, (ints .u64 rs)⟩, ⟨0, 102, 1, N, (ints .u64 zs)⟩, ⟨3, 102, 1, cp, (ints .u64 ps)⟩], 0⟩ hR hI; dsimp only at hI hR
     replace hbk1 : (Env.ren e56 [(2, 4), (3, 2)]).b 1 = _ := hbk1
     have hfz_ : Full (Env.ren e56 [(2, 4), (3, 2)]) 2 c3 := hf4; have hfq_ : Full (Env.ren e56 [(2, 4), (3, 2)]) 3 cp := hf2; have hhz_ : headOf ((Env.ren e56 [(2, 4), (3, 2)]).r 2) = _ := hnew4; have hhq_ : headOf ((Env.ren e56 [(2, 4), (3, 2)]).r 3) = _ := hh2
     exact ⟨(true, j + 1, g3, c3, mA, rs, gp, cp, m, ps), (Env.ren e56 [(2, 4), (3, 2)]), _, _, _, hB, ⟨⟨hf0, hg0, hbk1⟩, ⟨⟨hk1, hk2, hk3⟩, ⟨by omega, fun h_ => by cases h_⟩, ⟨hfz_, hhz_, hgw3⟩, ⟨hrl, hrm, hr0, hrmx, hrd⟩, ⟨hrt, by rw [hrv2, show lent (ys.getD 0 0) - 1 - (j + 1) = lent (ys.getD 0 0) - 1 - j - 1 by omega, hhs, hbt, Nat.add_zero]⟩, fun _ => ⟨hfq_, hhq_, hgp, hpl, hp0, hpm, hpd⟩⟩⟩, (by (try dsimp only); omega), hR.sel [1] [0, 2, 3] (by kernel_rfl) (by kernel_rfl), hI.sel [0, 1, 2, 3, 4, 15, 17, 18, 19, 20, 21] (by kernel_rfl)⟩
   ·
    replace hI := hI.rb 162 hc34
    try simp only [tolds] at hc34
    exfalso; have h_ := hjf rfl; have h2_ := hc34; omega
  ·
   dsimp only at hR hI
   obtain ⟨hf3, hh3, hgq, hql, hq0, hqm, hqd⟩ := hq rfl
   refine wp_seq ?_
   refine rZ tab 4 [(162, vB (decide ((j : Int) < ((lent (ys.getD 0 0) - 1 : Nat) : Int))))] [0, 1, 2, 3, 4, 15, 17, 18, 19, 20, 21] hR hI fun e57 a57 w57 hag hR hI => ?_
   have hA := hag
   refine cnd (b := decide ((j : Int) < ((lent (ys.getD 0 0) - 1 : Nat) : Int))) hI (by kernel_rfl) (fun hc58 => ?_) (fun hc58 => ?_)
   ·
    replace hI := hI.rb 162 hc58
    try simp only [tolds] at hc58
    refine wp_skip ?_
    refine then_n ?_
    refine wp_seq ?_
    refine wp_block ?_
    refine wp_seq (reg (is := [0, 1, 2, 3, 4]) (by kernel_rfl) ?_)
    refine pZ tab [0, 1, 2] [3, 4] 4 [(167, .rsl 2 0 m cp), (166, .p 1 0), (165, .rsl 3 0 lq cq)] [0, 1, 2, 3, 4, 15, 17, 18, 19, 20, 21] hR hI fun e59 a59 w59 hag hR hI => ?_
    replace hA := hA.trans hag (by decide)
    rcases Nat.lt_or_ge cq (2 * m) with hcq | hcq
    ·
     refine cO [.rsl 3 0 lq cq, .p 1 0, .rsl 2 0 m cp] hI Tryz.func101 ?_
     have hsz_ := (hB.fin hR).size
     replace hbk1 := tb hA hbk1
     replace hf0 := tf hA hf0
     replace hg0 := tg hA hg0
     replace hf2 := tf hA hf2
     replace hh2 := tg hA hh2
     replace hf3 := tf hA hf3
     replace hh3 := tg hA hh3
     have hq3_ := hR.rowCells (y := ⟨3, 102, 1, cq, (ints .u64 qs)⟩) m2 hf3 rfl
     have hq2_ := hR.rowCells (y := ⟨2, 102, 1, cp, (ints .u64 ps)⟩) m1 hf2 rfl
     refine (sqrNew_spec (C := Now hB) hq3_.1 hql hqm (fun h_ => hq3_.2 h_.2) hq2_.1 hpl hpm (fun h_ => hq2_.2 h_.2) hpd (hR.ggN m2 m1 (by dsimp only; decide) hf3 hf2) hqd (hk1.now hB hR) (hk2.now hB hR) hm1 (by omega) hmp hmp hpm hq0 hcq).mono ?_
     rintro ex w60 ⟨g3, c3, mA, rs, rfl, hk, hge, hwg, hw3, hw2, hrl, hrd, hrm, hr0, hrmx, hrt, hrv⟩
     have hkF_ := hR.keepN hk (all_cons hq3_.2 (all_cons hq2_.2 all_no))
     have hR_ : Rel (Grow _ _ w60) w60 e59 [⟨1, 124, [.v (.pointer none)]⟩] [⟨0, 102, 1, N, (ints .u64 zs)⟩, ⟨2, 102, 1, cp, (ints .u64 ps)⟩, ⟨3, 102, 1, cq, (ints .u64 qs)⟩] w60 := hR.turnedN hk (all_cons hq3_.2 (all_cons hq2_.2 all_no)) (all_cons ⟨⟨_, m0, rfl⟩, .inl ⟨m0, (notin2 (hR.hgN m0 m2 hf3) (notin2 (hR.hgN m0 m1 hf2) (fun hm_ => by cases hm_)))⟩⟩ all_no) (all_cons ⟨⟨_, m0, rfl⟩, .inl ⟨m0, fun g_ he_ => by have hx_ := (hf0).own; rw [hx_] at he_; cases he_; exact (notin2 (hR.ggN m0 m2 (by dsimp only; decide) hf0 hf3) (notin2 (hR.ggN m0 m1 (by dsimp only; decide) hf0 hf2) (fun hm_ => by cases hm_)))⟩⟩ (all_cons ⟨⟨_, m1, rfl⟩, .inr (by have hl_ := hR.rowLen (y := ⟨2, 102, 1, cp, (ints .u64 ps)⟩) m1; dsimp only at hl_; rw [show e59.r 2 = _ from hf2]; exact ownsRow_fullN hw2 (by rw [ints_length]; exact hpl) (hpm))⟩ (all_cons ⟨⟨_, m2, rfl⟩, .inr (by have hl_ := hR.rowLen (y := ⟨3, 102, 1, cq, (ints .u64 qs)⟩) m2; dsimp only at hl_; rw [show e59.r 3 = _ from hf3]; exact ownsRow_fullN hw3 (by rw [ints_length]; exact hql) (hqm))⟩ all_no)))
     have hM_ : ∀ b_ ∈ ([g3] : List Nat), _ ≤ b_ := (all_cons hge all_no)
     replace hk1 := hk1.nextN hB hR hkF_ hM_
     replace hk2 := hk2.nextN hB hR hkF_ hM_
     replace hk3 := hk3.nextN hB hR hkF_ hM_
     have hB_ := hB.nextN hR hkF_ hM_; have hR1_ := hR_.shrinkN (M := [g3])
     obtain ⟨hfr1_, hfr2_⟩ := hR.fresh (H' := [⟨1, 124, [.v (.pointer none)]⟩]) (G' := [⟨0, 102, 1, N, (ints .u64 zs)⟩, ⟨2, 102, 1, cp, (ints .u64 ps)⟩, ⟨3, 102, 1, cq, (ints .u64 qs)⟩]) (all_cons ⟨_, m0, rfl⟩ all_no) (all_cons ⟨_, m0, rfl⟩ (all_cons ⟨_, m1, rfl⟩ (all_cons ⟨_, m2, rfl⟩ all_no))) hge
     obtain ⟨hag_, hR2_⟩ := hR1_.gotRow (L := []) (k := 4) (g := g3) (n := c3) (t := 102) (xs := (ints .u64 rs)) (by kernel_rfl) hwg (by rw [ints_length]; exact hrl) (hrmx) (fun hf_ => hf_.2.1 m0) hfr1_ hfr2_
     replace hI := hI.agreeB (H := []) (G := []) (by kernel_rfl) hag_
     replace hf0 := tf hag_ hf0
     replace hg0 := tg hag_ hg0
     replace hf2 := tf hag_ hf2
     replace hh2 := tg hag_ hh2
     replace hf3 := tf hag_ hf3
     replace hh3 := tg hag_ hh3
     replace hbk1 := tb hag_ hbk1
     have hf4 : Full (e59.addR 4 (.slice (some ⟨g3, 0, none⟩) c3 c3)) 4 c3 := full_addR _ _ _ _; have hnew4 : headOf ((e59.addR 4 (.slice (some ⟨g3, 0, none⟩) c3 c3)).r 4) = g3 := head_addR _ _ _ _
     replace hR := hR2_; clear hR2_ hR_ hR1_
     replace hB := hB_; clear hB_ hk hkF_ hq3_ hw3 hq2_ hw2
     have hgw3 := Nat.le_trans hsz_ hge
     have hjw : j < lent (ys.getD 0 0) - 1 := by omega
     have hrv2 : nval (rs.take mA) = (nval (seg zs 0 nu)) ^ (2 * ((ys.getD 0 0) / 2 ^ (lent (ys.getD 0 0) - 1 - j))) := by rw [hrv, List.drop_zero, hvp, sq_pow]
     have hhs := half_step (e := (ys.getD 0 0)) hjw
     have ha1 : 1 ≤ (ys.getD 0 0) / 2 ^ (lent (ys.getD 0 0) - 1 - j) := half_pos hle.2.2 (by omega)
     have hed := Nat.div_le_self (ys.getD 0 0) (2 ^ (lent (ys.getD 0 0) - 1 - j - 1))
     have hm24 : mA ≤ 4 := by
      have h_ := trim_len hrt (by rw [hrv2]; exact pow_bound hX0 (by omega) hlim)
      rw [List.length_take] at h_; omega
     have hnm2 : nu ≤ mA := by
      have h_ := trim_le (us := rs.take mA) (fun d hd => hrd d (List.mem_of_mem_take hd)) htx (by rw [hrv2]; exact le_pow hX0 (by omega))
      rw [hul0, List.length_take] at h_; omega
     refine ⟨_, rfl, ?_⟩
     replace hI := hI.pt 168 (.rsl 4 0 mA c3) [168, 167, 166, 165, 0, 1, 2, 3, 4, 15, 17, 18, 19, 20, 21]
     refine pK tab [4] [] 5 [] [] [(19, .rsl 4 0 mA c3)] [0, 1, 2, 3, 4, 15, 17, 18, 20, 21] [] [1] [] [4, 0, 2] 5 hR hI .nil fun e61 a61 w61 hag hR hI => ?_
     have hA := hag
     refine ops_nil (then_n ?_)
     refine rZ tab 5 [(0, .rsl 4 0 mA c3), (19, .rsl 2 0 m cp)] [1, 2, 3, 4, 15, 17, 18, 20, 21] hR hI fun e62 a62 w62 hag hR hI => ?_
     replace hA := hA.trans hag (by decide)
     refine wp_seq ?_
     refine rK tab 5 [(1, .eq (.int .u64 (if 9223372036854775808 ≤ pv (ys.getD 0 0) j then 9223372036854775808 else 0)))] [] [(173, vB ((if 9223372036854775808 ≤ pv (ys.getD 0 0) j then 9223372036854775808 else 0) != (0 : Int)))] [0, 19, 1, 2, 3, 4, 15, 17, 18, 20, 21] [] [1] [] [4, 0, 2] 5 hR hI (.cons (congrArg (Value.int .u64) (and_top _ (pv_lt _ _) : bits .and .u64 ((pv (ys.getD 0 0) j : Nat) : Int) (9223372036854775808 : Int) = (if 9223372036854775808 ≤ pv (ys.getD 0 0) j then 9223372036854775808 else 0))) .nil) fun e63 a63 w63 hag hR hI => ?_
     replace hA := hA.trans hag (by decide)
     refine cnd (b := ((if 9223372036854775808 ≤ pv (ys.getD 0 0) j then 9223372036854775808 else 0) != (0 : Int))) hI (by kernel_rfl) (fun hc64 => ?_) (fun hc64 => ?_)
     ·
      replace hI := hI.rb 173 hc64
      try simp only [tolds] at hc64
      have hbt : (ys.getD 0 0) / 2 ^ (lent (ys.getD 0 0) - 1 - j - 1) % 2 = 1 := by
       have h1_ := (pv_step hy2 hy20 (by omega : j < lent (ys.getD 0 0) - 1)).1
       by_cases h_ : 9223372036854775808 ≤ pv (ys.getD 0 0) j
       · exact h1_.1 h_
       · rw [if_neg h_] at hc64; exact absurd rfl hc64
      refine wp_seq (reg (is := [0, 1, 2, 3, 4, 5]) (by kernel_rfl) ?_)
      refine pZ tab [0, 1, 2, 3] [4, 5] 5 [(177, .rsl 0 0 nu c), (176, .rsl 4 0 mA c3), (175, .p 1 0), (174, .rsl 2 0 m cp)] [0, 19, 1, 2, 3, 4, 15, 17, 18, 20, 21] hR hI fun e65 a65 w65 hag hR hI => ?_
      replace hA := hA.trans hag (by decide)
      rcases Nat.lt_or_ge cp (mA + nu) with hcl | hcl
      ·
       refine cO [.rsl 2 0 m cp, .p 1 0, .rsl 4 0 mA c3, .rsl 0 0 nu c] hI Tryz.func102 ?_
       have hsz2_ := (hB.fin hR).size
       replace hbk1 := tb hA hbk1
       replace hf0 := tf hA hf0
       replace hg0 := tg hA hg0
       replace hf2 := tf hA hf2
       replace hh2 := tg hA hh2
       replace hf3 := tf hA hf3
       replace hh3 := tg hA hh3
       replace hf4 := tf hA hf4
       replace hnew4 := tg hA hnew4
       have hq2_ := hR.rowCells (y := ⟨2, 102, 1, cp, (ints .u64 ps)⟩) m2 hf2 rfl
       have hq4_ := hR.rowCells (y := ⟨4, 102, 1, c3, (ints .u64 rs)⟩) m0 hf4 rfl
       have hq0_ := hR.rowCells (y := ⟨0, 102, 1, N, (ints .u64 zs)⟩) m1 hf0 rfl
       refine (mulNew_spec (C := Now hB) hq2_.1 hpl hpm (fun h_ => hq2_.2 h_.2) hq4_.1 hrl hrmx (fun h_ => hq4_.2 h_.2) hrd hq0_.1 hzl hzm (fun h_ => hq0_.2 h_.2) hzd (hR.ggN m2 m0 (by dsimp only; decide) hf2 hf4) (hR.ggN m2 m1 (by dsimp only; decide) hf2 hf0) (hR.ggN m0 m1 (by dsimp only; decide) hf4 hf0) hpd (hk3.now hB hR) hn1 hnm2 (by omega) hrm hrm hrmx hfit hc hcm (by omega) hX0 hp0 hcl).mono ?_
       rintro ex w66 ⟨g5, c5, mB, ts, rfl, hk, hge5, hwg5, hw2, hw4, hw0, htl, htd, htm, ht0, htmx, htt, htv⟩
       have hkF_ := hR.keepN hk (all_cons hq2_.2 (all_cons hq4_.2 (all_cons hq0_.2 all_no)))
       have hR_ : Rel (Grow _ _ w66) w66 e65 [⟨1, 124, [.v (.pointer none)]⟩] [⟨4, 102, 1, c3, (ints .u64 rs)⟩, ⟨0, 102, 1, N, (ints .u64 zs)⟩, ⟨2, 102, 1, cp, (ints .u64 ps)⟩] w66 := hR.turnedN hk (all_cons hq2_.2 (all_cons hq4_.2 (all_cons hq0_.2 all_no))) (all_cons ⟨⟨_, m0, rfl⟩, .inl ⟨m0, (notin2 (hR.hgN m0 m2 hf2) (notin2 (hR.hgN m0 m0 hf4) (notin2 (hR.hgN m0 m1 hf0) (fun hm_ => by cases hm_))))⟩⟩ all_no) (all_cons ⟨⟨_, m0, rfl⟩, .inr (by have hl_ := hR.rowLen (y := ⟨4, 102, 1, c3, (ints .u64 rs)⟩) m0; dsimp only at hl_; rw [show e65.r 4 = _ from hf4]; exact ownsRow_fullN hw4 (by rw [ints_length]; exact hrl) (hrmx))⟩ (all_cons ⟨⟨_, m1, rfl⟩, .inr (by have hl_ := hR.rowLen (y := ⟨0, 102, 1, N, (ints .u64 zs)⟩) m1; dsimp only at hl_; rw [show e65.r 0 = _ from hf0]; exact ownsRow_fullN hw0 (by rw [ints_length]; exact hzl) (hzm))⟩ (all_cons ⟨⟨_, m2, rfl⟩, .inr (by have hl_ := hR.rowLen (y := ⟨2, 102, 1, cp, (ints .u64 ps)⟩) m2; dsimp only at hl_; rw [show e65.r 2 = _ from hf2]; exact ownsRow_fullN hw2 (by rw [ints_length]; exact hpl) (hpm))⟩ all_no)))
       have hM_ : ∀ b_ ∈ ([g5] : List Nat), _ ≤ b_ := (all_cons hge5 all_no)
       replace hk1 := hk1.nextN hB hR hkF_ hM_
       replace hk2 := hk2.nextN hB hR hkF_ hM_
       replace hk3 := hk3.nextN hB hR hkF_ hM_
       have hB_ := hB.nextN hR hkF_ hM_; have hR1_ := hR_.shrinkN (M := [g5])
       obtain ⟨hfr1_, hfr2_⟩ := hR.fresh (H' := [⟨1, 124, [.v (.pointer none)]⟩]) (G' := [⟨4, 102, 1, c3, (ints .u64 rs)⟩, ⟨0, 102, 1, N, (ints .u64 zs)⟩, ⟨2, 102, 1, cp, (ints .u64 ps)⟩]) (all_cons ⟨_, m0, rfl⟩ all_no) (all_cons ⟨_, m0, rfl⟩ (all_cons ⟨_, m1, rfl⟩ (all_cons ⟨_, m2, rfl⟩ all_no))) hge5
       obtain ⟨hag_, hR2_⟩ := hR1_.gotRow (L := []) (k := 5) (g := g5) (n := c5) (t := 102) (xs := (ints .u64 ts)) (by kernel_rfl) hwg5 (by rw [ints_length]; exact htl) (htmx) (fun hf_ => hf_.2.1 m0) hfr1_ hfr2_
       replace hI := hI.agreeB (H := []) (G := []) (by kernel_rfl) hag_
       replace hf0 := tf hag_ hf0
       replace hg0 := tg hag_ hg0
       replace hf2 := tf hag_ hf2
       replace hh2 := tg hag_ hh2
       replace hf3 := tf hag_ hf3
       replace hh3 := tg hag_ hh3
       replace hf4 := tf hag_ hf4
       replace hnew4 := tg hag_ hnew4
       replace hbk1 := tb hag_ hbk1
       have hf5 : Full (e65.addR 5 (.slice (some ⟨g5, 0, none⟩) c5 c5)) 5 c5 := full_addR _ _ _ _; have hnew5 : headOf ((e65.addR 5 (.slice (some ⟨g5, 0, none⟩) c5 c5)).r 5) = g5 := head_addR _ _ _ _
       replace hR := hR2_; clear hR2_ hR_ hR1_
       replace hB := hB_; clear hB_ hk hkF_ hq2_ hw2 hq4_ hw4 hq0_ hw0
       have hgw5 := Nat.le_trans hsz2_ hge5
       have htv2 : nval (ts.take mB) = (nval (seg zs 0 nu)) ^ (2 * ((ys.getD 0 0) / 2 ^ (lent (ys.getD 0 0) - 1 - j)) + 1) := by
        rw [htv]
        show nval (rs.take mA) * (nval (seg zs 0 nu)) = _
        rw [hrv2, sq_pow1]
       refine ⟨_, rfl, ?_⟩
       replace hI := hI.pt 178 (.rsl 5 0 mB c5) [178, 177, 176, 175, 174, 0, 19, 1, 2, 3, 4, 15, 17, 18, 20, 21]
       refine pK tab [5] [] 6 [] [] [(19, .rsl 5 0 mB c5)] [0, 1, 2, 3, 4, 15, 17, 18, 20, 21] [] [1] [] [5, 4, 0] 6 hR hI .nil fun e67 a67 w67 hag hR hI => ?_
       have hA := hag
       refine ops_nil (then_n ?_)
       refine aZ tab 6 [(0, .rsl 5 0 mB c5), (19, .rsl 4 0 mA c3)] [1, 2, 3, 4, 15, 17, 18, 20, 21] hR hI fun e68 a68 w68 hag hR hI => ?_
       replace hA := hA.trans hag (by decide)
       refine then_n ?_
       refine wp_seq ?_
       refine rZ tab 6 [(183, vB false)] [0, 19, 1, 2, 3, 4, 15, 17, 18, 20, 21] hR hI fun e69 a69 w69 hag hR hI => ?_
       replace hA := hA.trans hag (by decide)
       refine cnd_f hI (by kernel_rfl) ?_
       refine wp_skip ?_
       refine then_n ?_
       refine aK tab 6 [(1, .eq (.int .u64 ((pv (ys.getD 0 0) (j + 1) : Nat) : Int)))] [] [(15, vU (pv (ys.getD 0 0) (j + 1)))] [0, 19, 1, 2, 3, 4, 17, 18, 20, 21] [] [1] [] [5, 4, 0] 6 hR hI (.cons (congrArg (Value.int .u64) (by rw [wrap_u64, (pv_step hy2 hy20 (by omega : j < lent (ys.getD 0 0) - 1)).2]; omega : IntKind.u64.wrap (((pv (ys.getD 0 0) j : Nat) : Int) * 2) = ((pv (ys.getD 0 0) (j + 1) : Nat) : Int))) (.cons (by decide : (0 : Int) ≤ 1) (.cons (by decide : (1 : Int) ≤ (IntKind.u64.bits : Int)) .nil))) fun e70 a70 w70 hag hR hI => ?_
       replace hA := hA.trans hag (by decide)
       refine normal_block ?_
       refine then_n ?_
       refine aK tab 6 [(1, .nw)] [] [(21, vI (j + 1))] [15, 0, 19, 1, 2, 3, 4, 17, 18, 20] [] [1] [] [5, 4, 0] 6 hR hI (.cons (inR_i64 (n := (j : Int) + (1 : Int)) (by omega)) .nil) fun e71 a71 w71 hag hR hI => ?_
       replace hA := hA.trans hag (by decide)
       refine then_n ?_
       replace hbk1 := tb hA hbk1
       replace hf0 := tf hA hf0
       replace hg0 := tg hA hg0
       replace hf2 := tf hA hf2
       replace hh2 := tg hA hh2
       replace hf3 := tf hA hf3
       replace hh3 := tg hA hh3
       replace hf4 := tf hA hf4
       replace hnew4 := tg hA hnew4
       replace hf5 := tf hA hf5
       replace hnew5 := tg hA hnew5
       obtain ⟨hR, hI⟩ := rnm [(2, 5), (3, 4)] ⟨[(21, vI (j + 1)), (15, vU (pv (ys.getD 0 0) (j + 1))), (0, .rsl 2 0 mB c5), (19, .rsl 3 0 mA c3), (1, .p 1 0), (2, .rsl 0 0 nu c), (3, vS ad 1 yc), (4, vS none 0 0), (17, vS none 0 0), (18, vI (lent (ys.getD 0 0) - 1)), (20, vS none 0 0)], [⟨1, 124, [.v (.pointer none)]⟩], [⟨2, 102, 1, c5, (ints .u64 ts)⟩, ⟨3, 102, 1, c3, (ints .u64 rs)⟩, ⟨0, 102, 1, N, (ints .u64 zs)⟩], 0⟩ hR hI; dsimp only at hI hR
       replace hbk1 : (Env.ren e71 [(2, 5), (3, 4)]).b 1 = _ := hbk1
       have hfz_ : Full (Env.ren e71 [(2, 5), (3, 4)]) 2 c5 := hf5; have hfq_ : Full (Env.ren e71 [(2, 5), (3, 4)]) 3 c3 := hf4; have hhz_ : headOf ((Env.ren e71 [(2, 5), (3, 4)]).r 2) = _ := hnew5; have hhq_ : headOf ((Env.ren e71 [(2, 5), (3, 4)]).r 3) = _ := hnew4
       exact ⟨(true, j + 1, g5, c5, mB, ts, g3, c3, mA, rs), (Env.ren e71 [(2, 5), (3, 4)]), _, _, _, hB, ⟨⟨hf0, hg0, hbk1⟩, ⟨⟨hk1, hk2, hk3⟩, ⟨by omega, fun h_ => by cases h_⟩, ⟨hfz_, hhz_, hgw5⟩, ⟨htl, htm, ht0, htmx, htd⟩, ⟨htt, by rw [htv2, show lent (ys.getD 0 0) - 1 - (j + 1) = lent (ys.getD 0 0) - 1 - j - 1 by omega, hhs, hbt]⟩, fun _ => ⟨hfq_, hhq_, hgw3, hrl, hr0, hrmx, hrd⟩⟩⟩, (by (try dsimp only); omega), hR.sel [1] [0, 2, 3] (by kernel_rfl) (by kernel_rfl), hI.sel [0, 1, 2, 3, 4, 15, 17, 18, 19, 20, 21] (by kernel_rfl)⟩
      ·
       refine cO [.rsl 2 0 m cp, .p 1 0, .rsl 4 0 mA c3, .rsl 0 0 nu c] hI Tryz.func102 ?_
       replace hbk1 := tb hA hbk1
       replace hf0 := tf hA hf0
       replace hg0 := tg hA hg0
       replace hf2 := tf hA hf2
       replace hh2 := tg hA hh2
       replace hf3 := tf hA hf3
       replace hh3 := tg hA hh3
       replace hf4 := tf hA hf4
       replace hnew4 := tg hA hnew4
       have hq2_ := hR.rowCells (y := ⟨2, 102, 1, cp, (ints .u64 ps)⟩) m2 hf2 rfl
       have hq4_ := hR.rowCells (y := ⟨4, 102, 1, c3, (ints .u64 rs)⟩) m0 hf4 rfl
       have hq0_ := hR.rowCells (y := ⟨0, 102, 1, N, (ints .u64 zs)⟩) m1 hf0 rfl
       refine (mulOld_spec (C := Now hB) hq2_.1 hpl hpm (fun h_ => hq2_.2 h_.2) hq4_.1 hrl hrmx (fun h_ => hq4_.2 h_.2) hrd hq0_.1 hzl hzm (fun h_ => hq0_.2 h_.2) hzd (hR.ggN m2 m0 (by dsimp only; decide) hf2 hf4) (hR.ggN m2 m1 (by dsimp only; decide) hf2 hf0) (hR.ggN m0 m1 (by dsimp only; decide) hf4 hf0) hpd (hk3.now hB hR) hn1 hnm2 (by omega) hrm hrm hrmx hfit hc hcm (by omega) hX0 hp0 hcl).mono ?_
       rintro ex w72 ⟨mB, ts, rfl, hk, hw2, hw4, hw0, htl, htd, htm, htt, htv⟩
       have hkF_ := hR.keepN hk (all_cons hq2_.2 (all_cons hq4_.2 (all_cons hq0_.2 all_no)))
       have hR_ : Rel (Grow _ _ w72) w72 e65 [⟨1, 124, [.v (.pointer none)]⟩] [⟨4, 102, 1, c3, (ints .u64 rs)⟩, ⟨0, 102, 1, N, (ints .u64 zs)⟩, ⟨2, 102, 1, cp, (ints .u64 ts)⟩] w72 := hR.turnedN hk (all_cons hq2_.2 (all_cons hq4_.2 (all_cons hq0_.2 all_no))) (all_cons ⟨⟨_, m0, rfl⟩, .inl ⟨m0, (notin2 (hR.hgN m0 m2 hf2) (notin2 (hR.hgN m0 m0 hf4) (notin2 (hR.hgN m0 m1 hf0) (fun hm_ => by cases hm_))))⟩⟩ all_no) (all_cons ⟨⟨_, m0, rfl⟩, .inr (by have hl_ := hR.rowLen (y := ⟨4, 102, 1, c3, (ints .u64 rs)⟩) m0; dsimp only at hl_; rw [show e65.r 4 = _ from hf4]; exact ownsRow_fullN hw4 (by rw [ints_length]; exact hrl) (hrmx))⟩ (all_cons ⟨⟨_, m1, rfl⟩, .inr (by have hl_ := hR.rowLen (y := ⟨0, 102, 1, N, (ints .u64 zs)⟩) m1; dsimp only at hl_; rw [show e65.r 0 = _ from hf0]; exact ownsRow_fullN hw0 (by rw [ints_length]; exact hzl) (hzm))⟩ (all_cons ⟨⟨_, m2, rfl⟩, .inr (by have hl_ := hR.rowLen (y := ⟨2, 102, 1, cp, (ints .u64 ps)⟩) m2; dsimp only at hl_; rw [show e65.r 2 = _ from hf2]; exact ownsRow_fullN hw2 (by rw [ints_length]; exact htl) (hpm))⟩ all_no)))
       replace hk1 := hk1.nextF hB hR hkF_
       replace hk2 := hk2.nextF hB hR hkF_
       replace hk3 := hk3.nextF hB hR hkF_
       have hB_ := hB.nextF hR hkF_
       replace hR := hR_; clear hR_
       replace hB := hB_; clear hB_ hk hkF_ hq2_ hw2 hq4_ hw4 hq0_ hw0
       have htv2 : nval (ts.take mB) = (nval (seg zs 0 nu)) ^ (2 * ((ys.getD 0 0) / 2 ^ (lent (ys.getD 0 0) - 1 - j)) + 1) := by
        rw [htv]
        show nval (rs.take mA) * (nval (seg zs 0 nu)) = _
        rw [hrv2, sq_pow1]
       refine ⟨_, rfl, ?_⟩
       replace hI := hI.pt 178 (.rsl 2 0 mB cp) [178, 177, 176, 175, 174, 0, 19, 1, 2, 3, 4, 15, 17, 18, 20, 21]
       refine pZ tab [5] [] 5 [(19, .rsl 2 0 mB cp)] [0, 1, 2, 3, 4, 15, 17, 18, 20, 21] hR hI fun e73 a73 w73 hag hR hI => ?_
       have hA := hag
       refine ops_nil (then_n ?_)
       refine aZ tab 5 [(0, .rsl 2 0 mB cp), (19, .rsl 4 0 mA c3)] [1, 2, 3, 4, 15, 17, 18, 20, 21] hR hI fun e74 a74 w74 hag hR hI => ?_
       replace hA := hA.trans hag (by decide)
       refine then_n ?_
       refine wp_seq ?_
       refine rZ tab 5 [(183, vB false)] [0, 19, 1, 2, 3, 4, 15, 17, 18, 20, 21] hR hI fun e75 a75 w75 hag hR hI => ?_
       replace hA := hA.trans hag (by decide)
       refine cnd_f hI (by kernel_rfl) ?_
       refine wp_skip ?_
       refine then_n ?_
       refine aK tab 5 [(1, .eq (.int .u64 ((pv (ys.getD 0 0) (j + 1) : Nat) : Int)))] [] [(15, vU (pv (ys.getD 0 0) (j + 1)))] [0, 19, 1, 2, 3, 4, 17, 18, 20, 21] [] [1] [] [4, 0, 2] 5 hR hI (.cons (congrArg (Value.int .u64) (by rw [wrap_u64, (pv_step hy2 hy20 (by omega : j < lent (ys.getD 0 0) - 1)).2]; omega : IntKind.u64.wrap (((pv (ys.getD 0 0) j : Nat) : Int) * 2) = ((pv (ys.getD 0 0) (j + 1) : Nat) : Int))) (.cons (by decide : (0 : Int) ≤ 1) (.cons (by decide : (1 : Int) ≤ (IntKind.u64.bits : Int)) .nil))) fun e76 a76 w76 hag hR hI => ?_
       replace hA := hA.trans hag (by decide)
       refine normal_block ?_
       refine then_n ?_
       refine aK tab 5 [(1, .nw)] [] [(21, vI (j + 1))] [15, 0, 19, 1, 2, 3, 4, 17, 18, 20] [] [1] [] [4, 0, 2] 5 hR hI (.cons (inR_i64 (n := (j : Int) + (1 : Int)) (by omega)) .nil) fun e77 a77 w77 hag hR hI => ?_
       replace hA := hA.trans hag (by decide)
       refine then_n ?_
       replace hbk1 := tb hA hbk1
       replace hf0 := tf hA hf0
       replace hg0 := tg hA hg0
       replace hf2 := tf hA hf2
       replace hh2 := tg hA hh2
       replace hf3 := tf hA hf3
       replace hh3 := tg hA hh3
       replace hf4 := tf hA hf4
       replace hnew4 := tg hA hnew4
       obtain ⟨hR, hI⟩ := rnm [(2, 2), (3, 4)] ⟨[(21, vI (j + 1)), (15, vU (pv (ys.getD 0 0) (j + 1))), (0, .rsl 2 0 mB cp), (19, .rsl 3 0 mA c3), (1, .p 1 0), (2, .rsl 0 0 nu c), (3, vS ad 1 yc), (4, vS none 0 0), (17, vS none 0 0), (18, vI (lent (ys.getD 0 0) - 1)), (20, vS none 0 0)], [⟨1, 124, [.v (.pointer none)]⟩], [⟨3, 102, 1, c3, (ints .u64 rs)⟩, ⟨0, 102, 1, N, (ints .u64 zs)⟩, ⟨2, 102, 1, cp, (ints .u64 ts)⟩], 0⟩ hR hI; dsimp only at hI hR
       replace hbk1 : (Env.ren e77 [(2, 2), (3, 4)]).b 1 = _ := hbk1
       have hfz_ : Full (Env.ren e77 [(2, 2), (3, 4)]) 2 cp := hf2; have hfq_ : Full (Env.ren e77 [(2, 2), (3, 4)]) 3 c3 := hf4; have hhz_ : headOf ((Env.ren e77 [(2, 2), (3, 4)]).r 2) = _ := hh2; have hhq_ : headOf ((Env.ren e77 [(2, 2), (3, 4)]).r 3) = _ := hnew4
       exact ⟨(true, j + 1, gp, cp, mB, ts, g3, c3, mA, rs), (Env.ren e77 [(2, 2), (3, 4)]), _, _, _, hB, ⟨⟨hf0, hg0, hbk1⟩, ⟨⟨hk1, hk2, hk3⟩, ⟨by omega, fun h_ => by cases h_⟩, ⟨hfz_, hhz_, hgp⟩, ⟨htl, htm, hp0, hpm, htd⟩, ⟨htt, by rw [htv2, show lent (ys.getD 0 0) - 1 - (j + 1) = lent (ys.getD 0 0) - 1 - j - 1 by omega, hhs, hbt]⟩, fun _ => ⟨hfq_, hhq_, hgw3, hrl, hr0, hrmx, hrd⟩⟩⟩, (by (try dsimp only); omega), hR.sel [1] [0, 2, 3] (by kernel_rfl) (by kernel_rfl), hI.sel [0, 1, 2, 3, 4, 15, 17, 18, 19, 20, 21] (by kernel_rfl)⟩
     ·
      replace hI := hI.rb 173 hc64
      try simp only [tolds] at hc64
      have hbt : (ys.getD 0 0) / 2 ^ (lent (ys.getD 0 0) - 1 - j - 1) % 2 = 0 := by
       have h1_ := (pv_step hy2 hy20 (by omega : j < lent (ys.getD 0 0) - 1)).1
       by_cases h_ : 9223372036854775808 ≤ pv (ys.getD 0 0) j
       · rw [if_pos h_] at hc64; exact absurd hc64 (by decide)
       · have h2_ := fun h3_ => h_ (h1_.2 h3_); omega
      refine wp_skip ?_
      refine then_n ?_
      refine wp_seq ?_
      refine rZ tab 5 [(183, vB false)] [0, 19, 1, 2, 3, 4, 15, 17, 18, 20, 21] hR hI fun e78 a78 w78 hag hR hI => ?_
      replace hA := hA.trans hag (by decide)
      refine cnd_f hI (by kernel_rfl) ?_
      refine wp_skip ?_
      refine then_n ?_
      refine aK tab 5 [(1, .eq (.int .u64 ((pv (ys.getD 0 0) (j + 1) : Nat) : Int)))] [] [(15, vU (pv (ys.getD 0 0) (j + 1)))] [0, 19, 1, 2, 3, 4, 17, 18, 20, 21] [] [1] [] [4, 0, 2] 5 hR hI (.cons (congrArg (Value.int .u64) (by rw [wrap_u64, (pv_step hy2 hy20 (by omega : j < lent (ys.getD 0 0) - 1)).2]; omega : IntKind.u64.wrap (((pv (ys.getD 0 0) j : Nat) : Int) * 2) = ((pv (ys.getD 0 0) (j + 1) : Nat) : Int))) (.cons (by decide : (0 : Int) ≤ 1) (.cons (by decide : (1 : Int) ≤ (IntKind.u64.bits : Int)) .nil))) fun e79 a79 w79 hag hR hI => ?_
      replace hA := hA.trans hag (by decide)
      refine normal_block ?_
      refine then_n ?_
      refine aK tab 5 [(1, .nw)] [] [(21, vI (j + 1))] [15, 0, 19, 1, 2, 3, 4, 17, 18, 20] [] [1] [] [4, 0, 2] 5 hR hI (.cons (inR_i64 (n := (j : Int) + (1 : Int)) (by omega)) .nil) fun e80 a80 w80 hag hR hI => ?_
      replace hA := hA.trans hag (by decide)
      refine then_n ?_
      replace hbk1 := tb hA hbk1
      replace hf0 := tf hA hf0
      replace hg0 := tg hA hg0
      replace hf2 := tf hA hf2
      replace hh2 := tg hA hh2
      replace hf3 := tf hA hf3
      replace hh3 := tg hA hh3
      replace hf4 := tf hA hf4
      replace hnew4 := tg hA hnew4
      obtain ⟨hR, hI⟩ := rnm [(2, 4), (3, 2)] ⟨[(21, vI (j + 1)), (15, vU (pv (ys.getD 0 0) (j + 1))), (0, .rsl 2 0 mA c3), (19, .rsl 3 0 m cp), (1, .p 1 0), (2, .rsl 0 0 nu c), (3, vS ad 1 yc), (4, vS none 0 0), (17, vS none 0 0), (18, vI (lent (ys.getD 0 0) - 1)), (20, vS none 0 0)], [⟨1, 124, [.v (.pointer none)]⟩], [⟨2, 102, 1, c3, (ints .u64 rs)⟩, ⟨0, 102, 1, N, (ints .u64 zs)⟩, ⟨3, 102, 1, cp, (ints .u64 ps)⟩], 0⟩ hR hI; dsimp only at hI hR
      replace hbk1 : (Env.ren e80 [(2, 4), (3, 2)]).b 1 = _ := hbk1
      have hfz_ : Full (Env.ren e80 [(2, 4), (3, 2)]) 2 c3 := hf4; have hfq_ : Full (Env.ren e80 [(2, 4), (3, 2)]) 3 cp := hf2; have hhz_ : headOf ((Env.ren e80 [(2, 4), (3, 2)]).r 2) = _ := hnew4; have hhq_ : headOf ((Env.ren e80 [(2, 4), (3, 2)]).r 3) = _ := hh2
      exact ⟨(true, j + 1, g3, c3, mA, rs, gp, cp, m, ps), (Env.ren e80 [(2, 4), (3, 2)]), _, _, _, hB, ⟨⟨hf0, hg0, hbk1⟩, ⟨⟨hk1, hk2, hk3⟩, ⟨by omega, fun h_ => by cases h_⟩, ⟨hfz_, hhz_, hgw3⟩, ⟨hrl, hrm, hr0, hrmx, hrd⟩, ⟨hrt, by rw [hrv2, show lent (ys.getD 0 0) - 1 - (j + 1) = lent (ys.getD 0 0) - 1 - j - 1 by omega, hhs, hbt, Nat.add_zero]⟩, fun _ => ⟨hfq_, hhq_, hgp, hpl, hp0, hpm, hpd⟩⟩⟩, (by (try dsimp only); omega), hR.sel [1] [0, 2, 3] (by kernel_rfl) (by kernel_rfl), hI.sel [0, 1, 2, 3, 4, 15, 17, 18, 19, 20, 21] (by kernel_rfl)⟩
    ·
     refine cO [.rsl 3 0 lq cq, .p 1 0, .rsl 2 0 m cp] hI Tryz.func101 ?_
     replace hbk1 := tb hA hbk1
     replace hf0 := tf hA hf0
     replace hg0 := tg hA hg0
     replace hf2 := tf hA hf2
     replace hh2 := tg hA hh2
     replace hf3 := tf hA hf3
     replace hh3 := tg hA hh3
     have hq3_ := hR.rowCells (y := ⟨3, 102, 1, cq, (ints .u64 qs)⟩) m2 hf3 rfl
     have hq2_ := hR.rowCells (y := ⟨2, 102, 1, cp, (ints .u64 ps)⟩) m1 hf2 rfl
     refine (sqrOld_spec (C := Now hB) hq3_.1 hql hqm (fun h_ => hq3_.2 h_.2) hq2_.1 hpl hpm (fun h_ => hq2_.2 h_.2) hpd (hR.ggN m2 m1 (by dsimp only; decide) hf3 hf2) hqd (hk1.now hB hR) (hk2.now hB hR) hm1 (by omega) hmp hmp hpm hq0 hcq).mono ?_
     rintro ex w81 ⟨mA, rs, rfl, hk, hw3, hw2, hrl, hrd, hrm, hrt, hrv⟩
     have hkF_ := hR.keepN hk (all_cons hq3_.2 (all_cons hq2_.2 all_no))
     have hR_ : Rel (Grow _ _ w81) w81 e59 [⟨1, 124, [.v (.pointer none)]⟩] [⟨0, 102, 1, N, (ints .u64 zs)⟩, ⟨2, 102, 1, cp, (ints .u64 ps)⟩, ⟨3, 102, 1, cq, (ints .u64 rs)⟩] w81 := hR.turnedN hk (all_cons hq3_.2 (all_cons hq2_.2 all_no)) (all_cons ⟨⟨_, m0, rfl⟩, .inl ⟨m0, (notin2 (hR.hgN m0 m2 hf3) (notin2 (hR.hgN m0 m1 hf2) (fun hm_ => by cases hm_)))⟩⟩ all_no) (all_cons ⟨⟨_, m0, rfl⟩, .inl ⟨m0, fun g_ he_ => by have hx_ := (hf0).own; rw [hx_] at he_; cases he_; exact (notin2 (hR.ggN m0 m2 (by dsimp only; decide) hf0 hf3) (notin2 (hR.ggN m0 m1 (by dsimp only; decide) hf0 hf2) (fun hm_ => by cases hm_)))⟩⟩ (all_cons ⟨⟨_, m1, rfl⟩, .inr (by have hl_ := hR.rowLen (y := ⟨2, 102, 1, cp, (ints .u64 ps)⟩) m1; dsimp only at hl_; rw [show e59.r 2 = _ from hf2]; exact ownsRow_fullN hw2 (by rw [ints_length]; exact hpl) (hpm))⟩ (all_cons ⟨⟨_, m2, rfl⟩, .inr (by have hl_ := hR.rowLen (y := ⟨3, 102, 1, cq, (ints .u64 qs)⟩) m2; dsimp only at hl_; rw [show e59.r 3 = _ from hf3]; exact ownsRow_fullN hw3 (by rw [ints_length]; exact hrl) (hqm))⟩ all_no)))
     replace hk1 := hk1.nextF hB hR hkF_
     replace hk2 := hk2.nextF hB hR hkF_
     replace hk3 := hk3.nextF hB hR hkF_
     have hB_ := hB.nextF hR hkF_
     replace hR := hR_; clear hR_
     replace hB := hB_; clear hB_ hk hkF_ hq3_ hw3 hq2_ hw2
     have hjw : j < lent (ys.getD 0 0) - 1 := by omega
     have hrv2 : nval (rs.take mA) = (nval (seg zs 0 nu)) ^ (2 * ((ys.getD 0 0) / 2 ^ (lent (ys.getD 0 0) - 1 - j))) := by rw [hrv, List.drop_zero, hvp, sq_pow]
     have hhs := half_step (e := (ys.getD 0 0)) hjw
     have ha1 : 1 ≤ (ys.getD 0 0) / 2 ^ (lent (ys.getD 0 0) - 1 - j) := half_pos hle.2.2 (by omega)
     have hed := Nat.div_le_self (ys.getD 0 0) (2 ^ (lent (ys.getD 0 0) - 1 - j - 1))
     have hm24 : mA ≤ 4 := by
      have h_ := trim_len hrt (by rw [hrv2]; exact pow_bound hX0 (by omega) hlim)
      rw [List.length_take] at h_; omega
     have hnm2 : nu ≤ mA := by
      have h_ := trim_le (us := rs.take mA) (fun d hd => hrd d (List.mem_of_mem_take hd)) htx (by rw [hrv2]; exact le_pow hX0 (by omega))
      rw [hul0, List.length_take] at h_; omega
     refine ⟨_, rfl, ?_⟩
     replace hI := hI.pt 168 (.rsl 3 0 mA cq) [168, 167, 166, 165, 0, 1, 2, 3, 4, 15, 17, 18, 19, 20, 21]
     refine pZ tab [4] [] 4 [(19, .rsl 3 0 mA cq)] [0, 1, 2, 3, 4, 15, 17, 18, 20, 21] hR hI fun e82 a82 w82 hag hR hI => ?_
     have hA := hag
     refine ops_nil (then_n ?_)
     refine rZ tab 4 [(0, .rsl 3 0 mA cq), (19, .rsl 2 0 m cp)] [1, 2, 3, 4, 15, 17, 18, 20, 21] hR hI fun e83 a83 w83 hag hR hI => ?_
     replace hA := hA.trans hag (by decide)
     refine wp_seq ?_
     refine rK tab 4 [(1, .eq (.int .u64 (if 9223372036854775808 ≤ pv (ys.getD 0 0) j then 9223372036854775808 else 0)))] [] [(173, vB ((if 9223372036854775808 ≤ pv (ys.getD 0 0) j then 9223372036854775808 else 0) != (0 : Int)))] [0, 19, 1, 2, 3, 4, 15, 17, 18, 20, 21] [] [1] [] [0, 2, 3] 4 hR hI (.cons (congrArg (Value.int .u64) (and_top _ (pv_lt _ _) : bits .and .u64 ((pv (ys.getD 0 0) j : Nat) : Int) (9223372036854775808 : Int) = (if 9223372036854775808 ≤ pv (ys.getD 0 0) j then 9223372036854775808 else 0))) .nil) fun e84 a84 w84 hag hR hI => ?_
     replace hA := hA.trans hag (by decide)
     refine cnd (b := ((if 9223372036854775808 ≤ pv (ys.getD 0 0) j then 9223372036854775808 else 0) != (0 : Int))) hI (by kernel_rfl) (fun hc85 => ?_) (fun hc85 => ?_)
     ·
      replace hI := hI.rb 173 hc85
      try simp only [tolds] at hc85
      have hbt : (ys.getD 0 0) / 2 ^ (lent (ys.getD 0 0) - 1 - j - 1) % 2 = 1 := by
       have h1_ := (pv_step hy2 hy20 (by omega : j < lent (ys.getD 0 0) - 1)).1
       by_cases h_ : 9223372036854775808 ≤ pv (ys.getD 0 0) j
       · exact h1_.1 h_
       · rw [if_neg h_] at hc85; exact absurd rfl hc85
      refine wp_seq (reg (is := [0, 1, 2, 3, 4, 5]) (by kernel_rfl) ?_)
      refine pZ tab [0, 1, 2, 3] [4, 5] 4 [(177, .rsl 0 0 nu c), (176, .rsl 3 0 mA cq), (175, .p 1 0), (174, .rsl 2 0 m cp)] [0, 19, 1, 2, 3, 4, 15, 17, 18, 20, 21] hR hI fun e86 a86 w86 hag hR hI => ?_
      replace hA := hA.trans hag (by decide)
      rcases Nat.lt_or_ge cp (mA + nu) with hcl | hcl
      ·
       refine cO [.rsl 2 0 m cp, .p 1 0, .rsl 3 0 mA cq, .rsl 0 0 nu c] hI Tryz.func102 ?_
       have hsz2_ := (hB.fin hR).size
       replace hbk1 := tb hA hbk1
       replace hf0 := tf hA hf0
       replace hg0 := tg hA hg0
       replace hf2 := tf hA hf2
       replace hh2 := tg hA hh2
       replace hf3 := tf hA hf3
       replace hh3 := tg hA hh3
       have hq2_ := hR.rowCells (y := ⟨2, 102, 1, cp, (ints .u64 ps)⟩) m1 hf2 rfl
       have hq3_ := hR.rowCells (y := ⟨3, 102, 1, cq, (ints .u64 rs)⟩) m2 hf3 rfl
       have hq0_ := hR.rowCells (y := ⟨0, 102, 1, N, (ints .u64 zs)⟩) m0 hf0 rfl
       refine (mulNew_spec (C := Now hB) hq2_.1 hpl hpm (fun h_ => hq2_.2 h_.2) hq3_.1 hrl hqm (fun h_ => hq3_.2 h_.2) hrd hq0_.1 hzl hzm (fun h_ => hq0_.2 h_.2) hzd (hR.ggN m1 m2 (by dsimp only; decide) hf2 hf3) (hR.ggN m1 m0 (by dsimp only; decide) hf2 hf0) (hR.ggN m2 m0 (by dsimp only; decide) hf3 hf0) hpd (hk3.now hB hR) hn1 hnm2 (by omega) hrm hrm hqm hfit hc hcm (by omega) hX0 hp0 hcl).mono ?_
       rintro ex w87 ⟨g5, c5, mB, ts, rfl, hk, hge5, hwg5, hw2, hw3, hw0, htl, htd, htm, ht0, htmx, htt, htv⟩
       have hkF_ := hR.keepN hk (all_cons hq2_.2 (all_cons hq3_.2 (all_cons hq0_.2 all_no)))
       have hR_ : Rel (Grow _ _ w87) w87 e86 [⟨1, 124, [.v (.pointer none)]⟩] [⟨0, 102, 1, N, (ints .u64 zs)⟩, ⟨2, 102, 1, cp, (ints .u64 ps)⟩, ⟨3, 102, 1, cq, (ints .u64 rs)⟩] w87 := hR.turnedN hk (all_cons hq2_.2 (all_cons hq3_.2 (all_cons hq0_.2 all_no))) (all_cons ⟨⟨_, m0, rfl⟩, .inl ⟨m0, (notin2 (hR.hgN m0 m1 hf2) (notin2 (hR.hgN m0 m2 hf3) (notin2 (hR.hgN m0 m0 hf0) (fun hm_ => by cases hm_))))⟩⟩ all_no) (all_cons ⟨⟨_, m0, rfl⟩, .inr (by have hl_ := hR.rowLen (y := ⟨0, 102, 1, N, (ints .u64 zs)⟩) m0; dsimp only at hl_; rw [show e86.r 0 = _ from hf0]; exact ownsRow_fullN hw0 (by rw [ints_length]; exact hzl) (hzm))⟩ (all_cons ⟨⟨_, m1, rfl⟩, .inr (by have hl_ := hR.rowLen (y := ⟨2, 102, 1, cp, (ints .u64 ps)⟩) m1; dsimp only at hl_; rw [show e86.r 2 = _ from hf2]; exact ownsRow_fullN hw2 (by rw [ints_length]; exact hpl) (hpm))⟩ (all_cons ⟨⟨_, m2, rfl⟩, .inr (by have hl_ := hR.rowLen (y := ⟨3, 102, 1, cq, (ints .u64 rs)⟩) m2; dsimp only at hl_; rw [show e86.r 3 = _ from hf3]; exact ownsRow_fullN hw3 (by rw [ints_length]; exact hrl) (hqm))⟩ all_no)))
       have hM_ : ∀ b_ ∈ ([g5] : List Nat), _ ≤ b_ := (all_cons hge5 all_no)
       replace hk1 := hk1.nextN hB hR hkF_ hM_
       replace hk2 := hk2.nextN hB hR hkF_ hM_
       replace hk3 := hk3.nextN hB hR hkF_ hM_
       have hB_ := hB.nextN hR hkF_ hM_; have hR1_ := hR_.shrinkN (M := [g5])
       obtain ⟨hfr1_, hfr2_⟩ := hR.fresh (H' := [⟨1, 124, [.v (.pointer none)]⟩]) (G' := [⟨0, 102, 1, N, (ints .u64 zs)⟩, ⟨2, 102, 1, cp, (ints .u64 ps)⟩, ⟨3, 102, 1, cq, (ints .u64 rs)⟩]) (all_cons ⟨_, m0, rfl⟩ all_no) (all_cons ⟨_, m0, rfl⟩ (all_cons ⟨_, m1, rfl⟩ (all_cons ⟨_, m2, rfl⟩ all_no))) hge5
       obtain ⟨hag_, hR2_⟩ := hR1_.gotRow (L := []) (k := 4) (g := g5) (n := c5) (t := 102) (xs := (ints .u64 ts)) (by kernel_rfl) hwg5 (by rw [ints_length]; exact htl) (htmx) (fun hf_ => hf_.2.1 m0) hfr1_ hfr2_
       replace hI := hI.agreeB (H := []) (G := []) (by kernel_rfl) hag_
       replace hf0 := tf hag_ hf0
       replace hg0 := tg hag_ hg0
       replace hf2 := tf hag_ hf2
       replace hh2 := tg hag_ hh2
       replace hf3 := tf hag_ hf3
       replace hh3 := tg hag_ hh3
       replace hbk1 := tb hag_ hbk1
       have hf4 : Full (e86.addR 4 (.slice (some ⟨g5, 0, none⟩) c5 c5)) 4 c5 := full_addR _ _ _ _; have hnew4 : headOf ((e86.addR 4 (.slice (some ⟨g5, 0, none⟩) c5 c5)).r 4) = g5 := head_addR _ _ _ _
       replace hR := hR2_; clear hR2_ hR_ hR1_
       replace hB := hB_; clear hB_ hk hkF_ hq2_ hw2 hq3_ hw3 hq0_ hw0
       have hgw5 := Nat.le_trans hsz2_ hge5
       have htv2 : nval (ts.take mB) = (nval (seg zs 0 nu)) ^ (2 * ((ys.getD 0 0) / 2 ^ (lent (ys.getD 0 0) - 1 - j)) + 1) := by
        rw [htv]
        show nval (rs.take mA) * (nval (seg zs 0 nu)) = _
        rw [hrv2, sq_pow1]
       refine ⟨_, rfl, ?_⟩
       replace hI := hI.pt 178 (.rsl 4 0 mB c5) [178, 177, 176, 175, 174, 0, 19, 1, 2, 3, 4, 15, 17, 18, 20, 21]
       refine pK tab [5] [] 5 [] [] [(19, .rsl 4 0 mB c5)] [0, 1, 2, 3, 4, 15, 17, 18, 20, 21] [] [1] [] [4, 0, 3] 5 hR hI .nil fun e88 a88 w88 hag hR hI => ?_
       have hA := hag
       refine ops_nil (then_n ?_)
       refine aZ tab 5 [(0, .rsl 4 0 mB c5), (19, .rsl 3 0 mA cq)] [1, 2, 3, 4, 15, 17, 18, 20, 21] hR hI fun e89 a89 w89 hag hR hI => ?_
       replace hA := hA.trans hag (by decide)
       refine then_n ?_
       refine wp_seq ?_
       refine rZ tab 5 [(183, vB false)] [0, 19, 1, 2, 3, 4, 15, 17, 18, 20, 21] hR hI fun e90 a90 w90 hag hR hI => ?_
       replace hA := hA.trans hag (by decide)
       refine cnd_f hI (by kernel_rfl) ?_
       refine wp_skip ?_
       refine then_n ?_
       refine aK tab 5 [(1, .eq (.int .u64 ((pv (ys.getD 0 0) (j + 1) : Nat) : Int)))] [] [(15, vU (pv (ys.getD 0 0) (j + 1)))] [0, 19, 1, 2, 3, 4, 17, 18, 20, 21] [] [1] [] [4, 0, 3] 5 hR hI (.cons (congrArg (Value.int .u64) (by rw [wrap_u64, (pv_step hy2 hy20 (by omega : j < lent (ys.getD 0 0) - 1)).2]; omega : IntKind.u64.wrap (((pv (ys.getD 0 0) j : Nat) : Int) * 2) = ((pv (ys.getD 0 0) (j + 1) : Nat) : Int))) (.cons (by decide : (0 : Int) ≤ 1) (.cons (by decide : (1 : Int) ≤ (IntKind.u64.bits : Int)) .nil))) fun e91 a91 w91 hag hR hI => ?_
       replace hA := hA.trans hag (by decide)
       refine normal_block ?_
       refine then_n ?_
       refine aK tab 5 [(1, .nw)] [] [(21, vI (j + 1))] [15, 0, 19, 1, 2, 3, 4, 17, 18, 20] [] [1] [] [4, 0, 3] 5 hR hI (.cons (inR_i64 (n := (j : Int) + (1 : Int)) (by omega)) .nil) fun e92 a92 w92 hag hR hI => ?_
       replace hA := hA.trans hag (by decide)
       refine then_n ?_
       replace hbk1 := tb hA hbk1
       replace hf0 := tf hA hf0
       replace hg0 := tg hA hg0
       replace hf2 := tf hA hf2
       replace hh2 := tg hA hh2
       replace hf3 := tf hA hf3
       replace hh3 := tg hA hh3
       replace hf4 := tf hA hf4
       replace hnew4 := tg hA hnew4
       obtain ⟨hR, hI⟩ := rnm [(2, 4), (3, 3)] ⟨[(21, vI (j + 1)), (15, vU (pv (ys.getD 0 0) (j + 1))), (0, .rsl 2 0 mB c5), (19, .rsl 3 0 mA cq), (1, .p 1 0), (2, .rsl 0 0 nu c), (3, vS ad 1 yc), (4, vS none 0 0), (17, vS none 0 0), (18, vI (lent (ys.getD 0 0) - 1)), (20, vS none 0 0)], [⟨1, 124, [.v (.pointer none)]⟩], [⟨2, 102, 1, c5, (ints .u64 ts)⟩, ⟨0, 102, 1, N, (ints .u64 zs)⟩, ⟨3, 102, 1, cq, (ints .u64 rs)⟩], 0⟩ hR hI; dsimp only at hI hR
       replace hbk1 : (Env.ren e92 [(2, 4), (3, 3)]).b 1 = _ := hbk1
       have hfz_ : Full (Env.ren e92 [(2, 4), (3, 3)]) 2 c5 := hf4; have hfq_ : Full (Env.ren e92 [(2, 4), (3, 3)]) 3 cq := hf3; have hhz_ : headOf ((Env.ren e92 [(2, 4), (3, 3)]).r 2) = _ := hnew4; have hhq_ : headOf ((Env.ren e92 [(2, 4), (3, 3)]).r 3) = _ := hh3
       exact ⟨(true, j + 1, g5, c5, mB, ts, gq, cq, mA, rs), (Env.ren e92 [(2, 4), (3, 3)]), _, _, _, hB, ⟨⟨hf0, hg0, hbk1⟩, ⟨⟨hk1, hk2, hk3⟩, ⟨by omega, fun h_ => by cases h_⟩, ⟨hfz_, hhz_, hgw5⟩, ⟨htl, htm, ht0, htmx, htd⟩, ⟨htt, by rw [htv2, show lent (ys.getD 0 0) - 1 - (j + 1) = lent (ys.getD 0 0) - 1 - j - 1 by omega, hhs, hbt]⟩, fun _ => ⟨hfq_, hhq_, hgq, hrl, hq0, hqm, hrd⟩⟩⟩, (by (try dsimp only); omega), hR.sel [1] [0, 2, 3] (by kernel_rfl) (by kernel_rfl), hI.sel [0, 1, 2, 3, 4, 15, 17, 18, 19, 20, 21] (by kernel_rfl)⟩
      ·
       refine cO [.rsl 2 0 m cp, .p 1 0, .rsl 3 0 mA cq, .rsl 0 0 nu c] hI Tryz.func102 ?_
       replace hbk1 := tb hA hbk1
       replace hf0 := tf hA hf0
       replace hg0 := tg hA hg0
       replace hf2 := tf hA hf2
       replace hh2 := tg hA hh2
       replace hf3 := tf hA hf3
       replace hh3 := tg hA hh3
       have hq2_ := hR.rowCells (y := ⟨2, 102, 1, cp, (ints .u64 ps)⟩) m1 hf2 rfl
       have hq3_ := hR.rowCells (y := ⟨3, 102, 1, cq, (ints .u64 rs)⟩) m2 hf3 rfl
       have hq0_ := hR.rowCells (y := ⟨0, 102, 1, N, (ints .u64 zs)⟩) m0 hf0 rfl
       refine (mulOld_spec (C := Now hB) hq2_.1 hpl hpm (fun h_ => hq2_.2 h_.2) hq3_.1 hrl hqm (fun h_ => hq3_.2 h_.2) hrd hq0_.1 hzl hzm (fun h_ => hq0_.2 h_.2) hzd (hR.ggN m1 m2 (by dsimp only; decide) hf2 hf3) (hR.ggN m1 m0 (by dsimp only; decide) hf2 hf0) (hR.ggN m2 m0 (by dsimp only; decide) hf3 hf0) hpd (hk3.now hB hR) hn1 hnm2 (by omega) hrm hrm hqm hfit hc hcm (by omega) hX0 hp0 hcl).mono ?_
       rintro ex w93 ⟨mB, ts, rfl, hk, hw2, hw3, hw0, htl, htd, htm, htt, htv⟩
       have hkF_ := hR.keepN hk (all_cons hq2_.2 (all_cons hq3_.2 (all_cons hq0_.2 all_no)))
       have hR_ : Rel (Grow _ _ w93) w93 e86 [⟨1, 124, [.v (.pointer none)]⟩] [⟨0, 102, 1, N, (ints .u64 zs)⟩, ⟨2, 102, 1, cp, (ints .u64 ts)⟩, ⟨3, 102, 1, cq, (ints .u64 rs)⟩] w93 := hR.turnedN hk (all_cons hq2_.2 (all_cons hq3_.2 (all_cons hq0_.2 all_no))) (all_cons ⟨⟨_, m0, rfl⟩, .inl ⟨m0, (notin2 (hR.hgN m0 m1 hf2) (notin2 (hR.hgN m0 m2 hf3) (notin2 (hR.hgN m0 m0 hf0) (fun hm_ => by cases hm_))))⟩⟩ all_no) (all_cons ⟨⟨_, m0, rfl⟩, .inr (by have hl_ := hR.rowLen (y := ⟨0, 102, 1, N, (ints .u64 zs)⟩) m0; dsimp only at hl_; rw [show e86.r 0 = _ from hf0]; exact ownsRow_fullN hw0 (by rw [ints_length]; exact hzl) (hzm))⟩ (all_cons ⟨⟨_, m1, rfl⟩, .inr (by have hl_ := hR.rowLen (y := ⟨2, 102, 1, cp, (ints .u64 ps)⟩) m1; dsimp only at hl_; rw [show e86.r 2 = _ from hf2]; exact ownsRow_fullN hw2 (by rw [ints_length]; exact htl) (hpm))⟩ (all_cons ⟨⟨_, m2, rfl⟩, .inr (by have hl_ := hR.rowLen (y := ⟨3, 102, 1, cq, (ints .u64 rs)⟩) m2; dsimp only at hl_; rw [show e86.r 3 = _ from hf3]; exact ownsRow_fullN hw3 (by rw [ints_length]; exact hrl) (hqm))⟩ all_no)))
       replace hk1 := hk1.nextF hB hR hkF_
       replace hk2 := hk2.nextF hB hR hkF_
       replace hk3 := hk3.nextF hB hR hkF_
       have hB_ := hB.nextF hR hkF_
       replace hR := hR_; clear hR_
       replace hB := hB_; clear hB_ hk hkF_ hq2_ hw2 hq3_ hw3 hq0_ hw0
       have htv2 : nval (ts.take mB) = (nval (seg zs 0 nu)) ^ (2 * ((ys.getD 0 0) / 2 ^ (lent (ys.getD 0 0) - 1 - j)) + 1) := by
        rw [htv]
        show nval (rs.take mA) * (nval (seg zs 0 nu)) = _
        rw [hrv2, sq_pow1]
       refine ⟨_, rfl, ?_⟩
       replace hI := hI.pt 178 (.rsl 2 0 mB cp) [178, 177, 176, 175, 174, 0, 19, 1, 2, 3, 4, 15, 17, 18, 20, 21]
       refine pZ tab [5] [] 4 [(19, .rsl 2 0 mB cp)] [0, 1, 2, 3, 4, 15, 17, 18, 20, 21] hR hI fun e94 a94 w94 hag hR hI => ?_
       have hA := hag
       refine ops_nil (then_n ?_)
       refine aZ tab 4 [(0, .rsl 2 0 mB cp), (19, .rsl 3 0 mA cq)] [1, 2, 3, 4, 15, 17, 18, 20, 21] hR hI fun e95 a95 w95 hag hR hI => ?_
       replace hA := hA.trans hag (by decide)
       refine then_n ?_
       refine wp_seq ?_
       refine rZ tab 4 [(183, vB false)] [0, 19, 1, 2, 3, 4, 15, 17, 18, 20, 21] hR hI fun e96 a96 w96 hag hR hI => ?_
       replace hA := hA.trans hag (by decide)
       refine cnd_f hI (by kernel_rfl) ?_
       refine wp_skip ?_
       refine then_n ?_
       refine aK tab 4 [(1, .eq (.int .u64 ((pv (ys.getD 0 0) (j + 1) : Nat) : Int)))] [] [(15, vU (pv (ys.getD 0 0) (j + 1)))] [0, 19, 1, 2, 3, 4, 17, 18, 20, 21] [] [1] [] [0, 2, 3] 4 hR hI (.cons (congrArg (Value.int .u64) (by rw [wrap_u64, (pv_step hy2 hy20 (by omega : j < lent (ys.getD 0 0) - 1)).2]; omega : IntKind.u64.wrap (((pv (ys.getD 0 0) j : Nat) : Int) * 2) = ((pv (ys.getD 0 0) (j + 1) : Nat) : Int))) (.cons (by decide : (0 : Int) ≤ 1) (.cons (by decide : (1 : Int) ≤ (IntKind.u64.bits : Int)) .nil))) fun e97 a97 w97 hag hR hI => ?_
       replace hA := hA.trans hag (by decide)
       refine normal_block ?_
       refine then_n ?_
       refine aK tab 4 [(1, .nw)] [] [(21, vI (j + 1))] [15, 0, 19, 1, 2, 3, 4, 17, 18, 20] [] [1] [] [0, 2, 3] 4 hR hI (.cons (inR_i64 (n := (j : Int) + (1 : Int)) (by omega)) .nil) fun e98 a98 w98 hag hR hI => ?_
       replace hA := hA.trans hag (by decide)
       refine then_n ?_
       replace hbk1 := tb hA hbk1
       replace hf0 := tf hA hf0
       replace hg0 := tg hA hg0
       replace hf2 := tf hA hf2
       replace hh2 := tg hA hh2
       replace hf3 := tf hA hf3
       replace hh3 := tg hA hh3
       exact ⟨(true, j + 1, gp, cp, mB, ts, gq, cq, mA, rs), e98, _, _, _, hB, ⟨⟨hf0, hg0, hbk1⟩, ⟨⟨hk1, hk2, hk3⟩, ⟨by omega, fun h_ => by cases h_⟩, ⟨hf2, hh2, hgp⟩, ⟨htl, htm, hp0, hpm, htd⟩, ⟨htt, by rw [htv2, show lent (ys.getD 0 0) - 1 - (j + 1) = lent (ys.getD 0 0) - 1 - j - 1 by omega, hhs, hbt]⟩, fun _ => ⟨hf3, hh3, hgq, hrl, hq0, hqm, hrd⟩⟩⟩, (by (try dsimp only); omega), hR.sel [1] [0, 2, 3] (by kernel_rfl) (by kernel_rfl), hI.sel [0, 1, 2, 3, 4, 15, 17, 18, 19, 20, 21] (by kernel_rfl)⟩
     ·
      replace hI := hI.rb 173 hc85
      try simp only [tolds] at hc85
      have hbt : (ys.getD 0 0) / 2 ^ (lent (ys.getD 0 0) - 1 - j - 1) % 2 = 0 := by
       have h1_ := (pv_step hy2 hy20 (by omega : j < lent (ys.getD 0 0) - 1)).1
       by_cases h_ : 9223372036854775808 ≤ pv (ys.getD 0 0) j
       · rw [if_pos h_] at hc85; exact absurd hc85 (by decide)
       · have h2_ := fun h3_ => h_ (h1_.2 h3_); omega
      refine wp_skip ?_
      refine then_n ?_
      refine wp_seq ?_
      refine rZ tab 4 [(183, vB false)] [0, 19, 1, 2, 3, 4, 15, 17, 18, 20, 21] hR hI fun e99 a99 w99 hag hR hI => ?_
      replace hA := hA.trans hag (by decide)
      refine cnd_f hI (by kernel_rfl) ?_
      refine wp_skip ?_
      refine then_n ?_
      refine aK tab 4 [(1, .eq (.int .u64 ((pv (ys.getD 0 0) (j + 1) : Nat) : Int)))] [] [(15, vU (pv (ys.getD 0 0) (j + 1)))] [0, 19, 1, 2, 3, 4, 17, 18, 20, 21] [] [1] [] [0, 2, 3] 4 hR hI (.cons (congrArg (Value.int .u64) (by rw [wrap_u64, (pv_step hy2 hy20 (by omega : j < lent (ys.getD 0 0) - 1)).2]; omega : IntKind.u64.wrap (((pv (ys.getD 0 0) j : Nat) : Int) * 2) = ((pv (ys.getD 0 0) (j + 1) : Nat) : Int))) (.cons (by decide : (0 : Int) ≤ 1) (.cons (by decide : (1 : Int) ≤ (IntKind.u64.bits : Int)) .nil))) fun e100 a100 w100 hag hR hI => ?_
      replace hA := hA.trans hag (by decide)
      refine normal_block ?_
      refine then_n ?_
      refine aK tab 4 [(1, .nw)] [] [(21, vI (j + 1))] [15, 0, 19, 1, 2, 3, 4, 17, 18, 20] [] [1] [] [0, 2, 3] 4 hR hI (.cons (inR_i64 (n := (j : Int) + (1 : Int)) (by omega)) .nil) fun e101 a101 w101 hag hR hI => ?_
      replace hA := hA.trans hag (by decide)
      refine then_n ?_
      replace hbk1 := tb hA hbk1
      replace hf0 := tf hA hf0
      replace hg0 := tg hA hg0
      replace hf2 := tf hA hf2
      replace hh2 := tg hA hh2
      replace hf3 := tf hA hf3
      replace hh3 := tg hA hh3
      obtain ⟨hR, hI⟩ := rnm [(2, 3), (3, 2)] ⟨[(21, vI (j + 1)), (15, vU (pv (ys.getD 0 0) (j + 1))), (0, .rsl 2 0 mA cq), (19, .rsl 3 0 m cp), (1, .p 1 0), (2, .rsl 0 0 nu c), (3, vS ad 1 yc), (4, vS none 0 0), (17, vS none 0 0), (18, vI (lent (ys.getD 0 0) - 1)), (20, vS none 0 0)], [⟨1, 124, [.v (.pointer none)]⟩], [⟨0, 102, 1, N, (ints .u64 zs)⟩, ⟨3, 102, 1, cp, (ints .u64 ps)⟩, ⟨2, 102, 1, cq, (ints .u64 rs)⟩], 0⟩ hR hI; dsimp only at hI hR
      replace hbk1 : (Env.ren e101 [(2, 3), (3, 2)]).b 1 = _ := hbk1
      have hfz_ : Full (Env.ren e101 [(2, 3), (3, 2)]) 2 cq := hf3; have hfq_ : Full (Env.ren e101 [(2, 3), (3, 2)]) 3 cp := hf2; have hhz_ : headOf ((Env.ren e101 [(2, 3), (3, 2)]).r 2) = _ := hh3; have hhq_ : headOf ((Env.ren e101 [(2, 3), (3, 2)]).r 3) = _ := hh2
      exact ⟨(true, j + 1, gq, cq, mA, rs, gp, cp, m, ps), (Env.ren e101 [(2, 3), (3, 2)]), _, _, _, hB, ⟨⟨hf0, hg0, hbk1⟩, ⟨⟨hk1, hk2, hk3⟩, ⟨by omega, fun h_ => by cases h_⟩, ⟨hfz_, hhz_, hgq⟩, ⟨hrl, hrm, hq0, hqm, hrd⟩, ⟨hrt, by rw [hrv2, show lent (ys.getD 0 0) - 1 - (j + 1) = lent (ys.getD 0 0) - 1 - j - 1 by omega, hhs, hbt, Nat.add_zero]⟩, fun _ => ⟨hfq_, hhq_, hgp, hpl, hp0, hpm, hpd⟩⟩⟩, (by (try dsimp only); omega), hR.sel [1] [0, 2, 3] (by kernel_rfl) (by kernel_rfl), hI.sel [0, 1, 2, 3, 4, 15, 17, 18, 19, 20, 21] (by kernel_rfl)⟩
   ·
    replace hI := hI.rb 162 hc58
    try simp only [tolds] at hc58
    have hjw : lent (ys.getD 0 0) - 1 - j = 0 := by omega
    rw [hjw, Nat.pow_zero, Nat.div_one] at hvp
    refine wp_exit ?_
    refine exit_then ?_
    refine exit_then ?_
    refine exit_hit ?_
    refine then_n ?_
    refine wp_seq ?_
    refine rK tab 4 [(2, .eq (.int .i64 (-1)))] [] [(22, .v (.int .i64 (-1)))] [0, 1, 2, 3, 4, 17, 19, 20] [] [1] [] [0, 2, 3] 4 hR hI (.cons (congrArg (Value.int .i64) (by decide : IntKind.i64.wrap ((1 : Int) - (2 : Int)) = -1)) .nil) fun e102 a102 w102 hag hR hI => ?_
    replace hA := hA.trans hag (by decide)
    refine wp_block ?_
    replace hbk1 := tb hA hbk1
    replace hf0 := tf hA hf0
    replace hg0 := tg hA hg0
    replace hf2 := tf hA hf2
    replace hh2 := tg hA hh2
    replace hf3 := tf hA hf3
    replace hh3 := tg hA hh3
    refine lp (γ := Unit) (fun _ => (⟨[(0, .rsl 2 0 m cp), (3, vS ad 1 yc), (22, .v (.int .i64 (-1)))], [⟨1, 124, [.v (.pointer none)]⟩], [⟨0, 102, 1, N, (ints .u64 zs)⟩, ⟨2, 102, 1, cp, (ints .u64 ps)⟩], 4⟩ : Sy)) (fun _ e => ((Full e 0 N) ∧ (headOf (e.r 0) = g) ∧ (Full e 2 cp) ∧ (headOf (e.r 2) = gp) ∧ (e.b 1 = b)) ∧ (True)) (fun _ => 0) (()) (⟨⟨hf0, hg0, hf2, hh2, hbk1⟩, trivial⟩)
      (hR.sel [1] [0, 2] (by kernel_rfl) (by kernel_rfl)) (hI.sel [0, 3, 22] (by kernel_rfl)) ?_
    clear hR hI
    rintro _ e103 a103 w103 hp hR hI
    dsimp only at hp hR hI
    obtain ⟨⟨hf0, hg0, hf2, hh2, hbk1⟩, hp⟩ := hp
    
    refine wp_seq ?_
    refine rZ tab 4 [(203, vB false)] [0, 3, 22] hR hI fun e104 a104 w104 hag hR hI => ?_
    have hA := hag
    refine cnd_f hI (by kernel_rfl) ?_
    refine wp_exit ?_
    refine exit_then ?_
    refine exit_then ?_
    refine exit_hit ?_
    refine then_n ?_
    refine wp_seq (reg (is := [0, 1, 2]) (by kernel_rfl) ?_)
    refine pZ tab [0] [1, 2] 4 [(248, .rsl 2 0 m cp)] [] hR hI fun e105 a105 w105 hag hR hI => ?_
    replace hA := hA.trans hag (by decide)
    refine cO [.rsl 2 0 m cp] hI Tryz.func77 ?_
    replace hbk1 := tb hA hbk1
    replace hf0 := tf hA hf0
    replace hg0 := tg hA hg0
    replace hf2 := tf hA hf2
    replace hh2 := tg hA hh2
    have hpt_ : ((ps.drop 0).take m).length = m := by rw [List.length_take, List.length_drop]; omega
    have hzk := hR.rowRead (y := ⟨2, 102, 1, cp, (ints .u64 ps)⟩) m1 hf2 rfl rfl hpd 0 m (by omega) (c := cp) (by omega) (by omega)
    refine (normL_spec (C := fun b_ => b_ = headOf (e105.r 2)) (l := m) hpt_ hzk).mono ?_
    rintro ex w106 ⟨m9, rfl, hk, hm9, ht9, hv9⟩
    replace hR := hR.same hk; clear hk
    refine ⟨_, rfl, ?_⟩
    replace hI := hI.pt 249 (.rsl 2 0 m9 cp) [249, 248]
    refine pZ tab [2] [] 4 [(12, .rsl 2 0 m9 cp)] [] hR hI fun e107 a107 w107 hag hR hI => ?_
    have hA := hag
    refine ops_nil (then_n ?_)
    refine wp_ret ?_
    have hq1_ := hR.blk ⟨1, 124, [.v (.pointer none)]⟩ m0
    replace hbk1 := tb hA hbk1
    replace hf0 := tf hA hf0
    replace hg0 := tg hA hg0
    replace hf2 := tf hA hf2
    replace hh2 := tg hA hh2
    refine outC hI (.inl rfl) Tryz.func69 rfl rfl (freeN_spec (C := fun _ => False) (by rw [← hbk1]; exact hq1_.1) (fun h_ => h_)) ?_
    rintro ex w108 ⟨rfl, hk, hw1⟩
    rw [← hbk1] at hk hw1
    have hkF_ := hR.keepN hk (all_cons hq1_.2 all_no)
    have hR_ : Rel (Grow _ _ w108) w108 e107 [⟨1, 124, [.v (.pointer none)]⟩] [⟨0, 102, 1, N, (ints .u64 zs)⟩, ⟨2, 102, 1, cp, (ints .u64 ps)⟩] w108 := hR.turnedN hk (all_cons hq1_.2 all_no) (all_cons ⟨⟨_, m0, rfl⟩, .inr hw1⟩ all_no) (all_cons ⟨⟨_, m0, rfl⟩, .inl ⟨m0, fun g_ he_ => own_ne hf0 (notin2 (hR.ghN m0 m0 hf0) (fun hm_ => by cases hm_)) he_⟩⟩ (all_cons ⟨⟨_, m1, rfl⟩, .inl ⟨m1, fun g_ he_ => own_ne hf2 (notin2 (hR.ghN m0 m1 hf2) (fun hm_ => by cases hm_)) he_⟩⟩ all_no))
    replace hk1 := hk1.nextF hB hR hkF_
    replace hk2 := hk2.nextF hB hR hkF_
    replace hk3 := hk3.nextF hB hR hkF_
    have hB_ := hB.nextF hR hkF_
    replace hR := hR_; clear hR_
    replace hB := hB_; clear hB_ hk hkF_ hq1_ hw1
    refine ⟨_, rfl, _, resS_run tab (xs := [.rsl 2 0 m9 cp]) hR hI rfl (by kernel_rfl), ?_⟩
    have hso := rowOut (y := ⟨2, 102, 1, cp, (ints .u64 ps)⟩) hR m1 hf2 rfl rfl hpd (l := m9) (c := cp) (by omega) (by omega) hpm hh2 hgp
    have hsg : seg ps 0 m9 = ((ps.drop 0).take m).take m9 := by
     show (ps.drop 0).take m9 = _
     rw [List.take_take, Nat.min_eq_left hm9]
    exact ⟨_, m9, cp, seg ps 0 m9, rfl, hB.fin hR, (hR.rowFin (y := ⟨0, 102, 1, N, (ints .u64 zs)⟩) m0 hf0 rfl hg0), seg_length (by omega), hso.up, by rw [hsg]; exact ht9, by rw [hsg, hv9, List.drop_zero]; exact hvp⟩

theorem pn_one_le {x : Nat} (h : x ≤ 20) : x < pn 1 := by
 have : pn 1 = 18446744073709551616 := by decide
 omega
theorem one_of {ys : List Nat} (h : ys.length = 1) : ∃ e, ys = [e] := by
 match ys, h with
 | [e], _ => exact ⟨e, rfl⟩
theorem seg_one {zs : List Nat} (h : 1 ≤ zs.length) : nval (seg zs 0 1) = zs.getD 0 0 := by
 match zs, h with
 | a :: r, _ => simp [seg, nval]
theorem expNN_spec {C : Nat → Prop} {w : World} {g N nu c ly yc : Nat} {zs ys : List Nat} {ad : Option Addr} (hz : w.heap[g]? = some (.cells (ints .u64 zs).toArray 102 (0, 0))) (hzl : zs.length = N) (hzm : N ≤ 9223372036854775807) (hCg : ¬ C g) (hzd : Ndig zs) (hfit : nu ≤ N) (hc : nu ≤ c) (hc0 : 0 < c) (hcm : c ≤ 9223372036854775807) (hnu : nu ≤ 4) (htx : Ntrim (seg zs 0 nu)) (hy : Sl .u64 18446744073709551616 C w ad yc ys) (hly : ys.length = ly) (hty : Ntrim ys) (he : nval ys ≤ 20) (hlim : (nval (seg zs 0 nu)) ^ nval ys < pn 4) (hk1 : Sl .i64 18446744073709551616 C w (some ⟨1, 0, none⟩) 1 [12]) (hk2 : Sl .i64 18446744073709551616 C w (some ⟨2, 0, none⟩) 1 [80]) (hk3 : Sl .i64 18446744073709551616 C w (some ⟨3, 0, none⟩) 1 [40]) :
  Calls P 75 #[.slice (some ⟨g, 0, none⟩) nu c, .pointer none, .slice (some ⟨g, 0, none⟩) nu c, .slice ad ly yc, .slice none 0 0, .bool false] w fun ex w' => ∃ ad2 l2 c2 rs, ex = .returned (.slice ad2 l2 c2) ∧ Keep (ButN [g] w) w w' ∧ w'.heap[g]? = some (.cells (ints .u64 zs).toArray 102 (0, 0)) ∧ ExpPost C w w' ad2 l2 c2 rs ((nval (seg zs 0 nu)) ^ nval ys) := by
 have hl1 : ys.length ≤ 1 := trim_len hty (pn_one_le he)
 rcases Nat.eq_zero_or_pos ys.length with h0 | h0
 ·
  obtain rfl := List.eq_nil_of_length_eq_zero h0
  subst hly
  simp only [nval, Nat.pow_zero]
  exact expA_spec (ly := 0) hz hzl hzm hCg hzd hfit hc hc0 hcm hy rfl
 ·
  obtain ⟨e, rfl⟩ := one_of (by omega : ys.length = 1)
  obtain rfl : ly = 1 := hly.symm
  have hv : nval [e] = e := by simp [nval]
  have hep : 0 < e := by
   rcases hty with h | h
   · cases h
   · simp at h; omega
  rw [hv] at he hlim ⊢
  rcases Nat.eq_zero_or_pos nu with hn | hn
  ·
   subst hn
   have h2 := expB_spec (C := C) (nu := 0) (ad := ad) (yc := yc) (ys := [e]) (ly := 1) hz hzl hzm hCg hzd (Nat.zero_le _) (Nat.zero_le _) hc0 hcm hy rfl (Nat.le_refl 1)
   rw [seg_zero, nval_nil, Nat.zero_pow hep]
   exact h2
  ·
   by_cases h1 : nu = 1 ∧ zs.getD 0 0 = 1
   ·
    obtain ⟨rfl, hx1⟩ := h1
    rw [seg_one (by omega), hx1, Nat.one_pow]
    exact expC_spec (nu := 1) (ly := 1) hz hzl hzm hCg hzd hfit hc hc0 hcm hy rfl (Nat.le_refl 1) hx1
   ·
    rcases Nat.eq_or_lt_of_le (show 1 ≤ e from hep) with he1 | he1
    ·
     subst he1
     rw [Nat.pow_one]
     exact expD_spec (ly := 1) hz hzl hzm hCg hzd hfit hc hc0 hcm hy rfl hn hnu htx rfl h1
    · exact expE_spec hz hzl hzm hCg hzd hfit hc hc0 hcm hn hnu htx h1 hy rfl he1 he hlim hk1 hk2 hk3

theorem iexp_spec {C : Nat → Prop} {w : World} {bx by_ g N c nu vc lv : Nat} {zs vs : List Nat} {adv : Option Addr} {nx : Bool} (hbx : w.heap[bx]? = some (.cells #[.bool nx, .slice (some ⟨g, 0, none⟩) nu c] 84)) (hby : w.heap[by_]? = some (.cells #[.bool false, .slice adv lv vc] 84)) (hz : w.heap[g]? = some (.cells (ints .u64 zs).toArray 102)) (hzl : zs.length = N) (hzm : N ≤ 9223372036854775807) (hxy : bx ≠ by_) (hxg : bx ≠ g) (hyg : by_ ≠ g) (hCx : ¬ C bx) (hCy : ¬ C by_) (hCg : ¬ C g) (hk1 : Sl .i64 18446744073709551616 C w (some ⟨1, 0, none⟩) 1 [12]) (hk2 : Sl .i64 18446744073709551616 C w (some ⟨2, 0, none⟩) 1 [80]) (hk3 : Sl .i64 18446744073709551616 C w (some ⟨3, 0, none⟩) 1 [40]) (hy : Sl .u64 18446744073709551616 C w adv vc vs) (hvl : vs.length = lv) (hzd : Ndig zs) (hfit : nu ≤ N) (hc : nu ≤ c) (hc0 : 0 < c) (hcm : c ≤ 9223372036854775807) (hnu : nu ≤ 4) (htx : Ntrim (seg zs 0 nu)) (hty : Ntrim vs) (he : nval vs ≤ 20) (hlim : (nval (seg zs 0 nu)) ^ nval vs < pn 4) :
    Calls P 61 #[.pointer (some ⟨bx, 0, none⟩), .pointer (some ⟨bx, 0, none⟩), .pointer (some ⟨by_, 0, none⟩), .pointer none, .bool false] w fun ex w' => ∃ ad2 l2 c2 rs nq, ex = .returned (.pointer (some ⟨bx, 0, none⟩)) ∧ rs.length = l2 ∧ Keep (ButN [bx, by_, g] w) w w' ∧ Sl .u64 18446744073709551616 (Grow C w w') w' ad2 c2 rs ∧ Ntrim rs ∧ nval rs = (nval (seg zs 0 nu)) ^ nval vs ∧ w'.heap[bx]? = some (.cells #[.bool nq, .slice ad2 l2 c2] 84) ∧ w'.heap[by_]? = some (.cells #[.bool false, .slice adv lv vc] 84) ∧ w'.heap[g]? = some (.cells (ints .u64 zs).toArray 102) ∧ nq = (decide (0 < l2) && (nx && decide (nval vs % 2 = 1))) := by
 refine doorN (e := (((e0.addB 0 bx).addB 1 by_).addR 2 (.slice (some ⟨g, 0, none⟩) N N))) (vs := [.p 0 0, .p 0 0, .p 1 0, .v (.pointer none), vB false]) (n := 137) (m := 5) Tryz.func61 rfl rfl rfl (by decide) fun a_ hI => ?_
 replace hI : Is 137 [] (((e0.addB 0 bx).addB 1 by_).addR 2 (.slice (some ⟨g, 0, none⟩) N N)) [(0, .p 0 0), (1, .p 0 0), (2, .p 1 0), (3, .v (.pointer none)), (4, vB false)] a_ := hI
 have hbk0 : (((e0.addB 0 bx).addB 1 by_).addR 2 (.slice (some ⟨g, 0, none⟩) N N)).b 0 = bx := rfl
 have hbk1 : (((e0.addB 0 bx).addB 1 by_).addR 2 (.slice (some ⟨g, 0, none⟩) N N)).b 1 = by_ := rfl
 have hf2 : Full (((e0.addB 0 bx).addB 1 by_).addR 2 (.slice (some ⟨g, 0, none⟩) N N)) 2 N := rfl; have hg2 : headOf ((((e0.addB 0 bx).addB 1 by_).addR 2 (.slice (some ⟨g, 0, none⟩) N N)).r 2) = g := rfl
 have hR : Rel (ButN [bx, by_, g] w) w (((e0.addB 0 bx).addB 1 by_).addR 2 (.slice (some ⟨g, 0, none⟩) N N)) [⟨0, 84, [vB nx, .rsl 2 0 nu c]⟩, ⟨1, 84, [vB false, vS adv lv vc]⟩] [⟨2, 102, 1, N, (ints .u64 zs)⟩] w := Rel.startN (fun k_ h_ => h_.1) (all_cons ⟨hbx, (fun hm_ => hm_.2 m0)⟩ (all_cons ⟨hby, (fun hm_ => hm_.2 m1)⟩ all_no)) (all_cons ⟨ownsRow_fullN hz (by first | exact hzl | (rw [ints_length]; exact hzl)) hzm, fun g_ he_ => by cases he_; exact (fun hm_ => hm_.2 m2)⟩ all_no) (all_cons (all_cons (fun hn_ => absurd rfl hn_) (all_cons (fun _ => hxy) all_no)) (all_cons (all_cons (fun _ => (Ne.symm hxy)) (all_cons (fun hn_ => absurd rfl hn_) all_no)) all_no)) (all_cons (all_cons (fun he_ => hxg (Option.some.inj he_).symm) all_no) (all_cons (all_cons (fun he_ => hyg (Option.some.inj he_).symm) all_no) all_no)) (all_cons (all_cons (fun hn_ => absurd rfl hn_) all_no) all_no)
 have hB : BaseD (ButN [bx, by_, g] w) C w C (ButN [bx, by_, g] w) w := BaseD.start (fun k_ hC_ hlt_ => ⟨hlt_, notin2 (fun he_ => hCx (he_ ▸ hC_)) (notin2 (fun he_ => hCy (he_ ▸ hC_)) (notin2 (fun he_ => hCg (he_ ▸ hC_)) (fun hm_ => by cases hm_)))⟩)
 refine rZ tab 3 [] [0, 1, 2, 3, 4] hR hI fun e1 a1 w1 hag hR hI => ?_
 have hA := hag
 refine rZ tab 3 [(11, .rsl 2 0 nu c)] [0, 1, 2, 3, 4] hR hI fun e2 a2 w2 hag hR hI => ?_
 replace hA := hA.trans hag (by decide)
 refine wp_seq ?_
 refine rZ tab 3 [(22, vB false)] [11, 0, 1, 2, 3, 4] hR hI fun e3 a3 w3 hag hR hI => ?_
 replace hA := hA.trans hag (by decide)
 refine cnd_f hI (by kernel_rfl) ?_
 refine wp_skip ?_
 refine then_n ?_
 refine rZ tab 3 [(13, vS adv lv vc)] [11, 0, 1, 3, 4] hR hI fun e4 a4 w4 hag hR hI => ?_
 replace hA := hA.trans hag (by decide)
 refine rZ tab 3 [(14, vS none 0 0)] [13, 11, 0, 1, 3, 4] hR hI fun e5 a5 w5 hag hR hI => ?_
 replace hA := hA.trans hag (by decide)
 refine wp_seq ?_
 refine rZ tab 3 [(50, vB false)] [14, 13, 11, 0, 1, 3, 4] hR hI fun e6 a6 w6 hag hR hI => ?_
 replace hA := hA.trans hag (by decide)
 refine cnd_f hI (by kernel_rfl) ?_
 refine wp_skip ?_
 refine then_n ?_
 refine wp_seq (reg (is := [0, 1, 2, 3, 4, 5, 6, 7, 8, 9, 10, 11, 12]) (by kernel_rfl) ?_)
 refine pZ tab [0, 1, 2, 3, 4, 5, 6, 7, 8] [9, 10, 11, 12] 3 [(80, vB false), (79, vS none 0 0), (78, vS adv lv vc), (77, .rsl 2 0 nu c), (76, .rsl 2 0 nu c), (72, .p 0 0)] [14, 13, 0, 1] hR hI fun e7 a7 w7 hag hR hI => ?_
 replace hA := hA.trans hag (by decide)
 refine cO [.rsl 2 0 nu c, .v (.pointer none), .rsl 2 0 nu c, vS adv lv vc, vS none 0 0, vB false] hI Tryz.func75 ?_
 replace hbk0 := tb hA hbk0
 replace hbk1 := tb hA hbk1
 replace hf2 := tf hA hf2
 replace hg2 := tg hA hg2
 have hq2_ := hR.rowCells (y := ⟨2, 102, 1, N, (ints .u64 zs)⟩) m0 hf2 rfl
 refine (expNN_spec (C := Now hB) hq2_.1 hzl hzm (fun h_ => hq2_.2 h_.2) hzd hfit hc hc0 hcm hnu htx (hy.now hB hR) hvl hty he hlim (hk1.now hB hR) (hk2.now hB hR) (hk3.now hB hR)).mono ?_
 rintro ex w8 ⟨ad2, l2, c2, rs, rfl, hk, hw2, hpost⟩
 obtain ⟨hrl, hrs, htr, hvr⟩ := hpost
 have hkF_ := hR.keepN hk (all_cons hq2_.2 all_no)
 have hR_ : Rel (Grow _ _ w8) w8 e7 [⟨0, 84, [vB nx, .rsl 2 0 nu c]⟩, ⟨1, 84, [vB false, vS adv lv vc]⟩] [⟨2, 102, 1, N, (ints .u64 zs)⟩] w8 := hR.turnedN hk (all_cons hq2_.2 all_no) (all_cons ⟨⟨_, m0, rfl⟩, .inl ⟨m0, (notin2 (hR.hgN m0 m0 hf2) (fun hm_ => by cases hm_))⟩⟩ (all_cons ⟨⟨_, m1, rfl⟩, .inl ⟨m1, (notin2 (hR.hgN m1 m0 hf2) (fun hm_ => by cases hm_))⟩⟩ all_no)) (all_cons ⟨⟨_, m0, rfl⟩, .inr (by have hl_ := hR.rowLen (y := ⟨2, 102, 1, N, (ints .u64 zs)⟩) m0; dsimp only at hl_; rw [show e7.r 2 = _ from hf2]; exact ownsRow_fullN hw2 (by rw [ints_length]; exact hzl) (hzm))⟩ all_no)
 replace hk1 := hk1.nextF hB hR hkF_
 replace hk2 := hk2.nextF hB hR hkF_
 replace hk3 := hk3.nextF hB hR hkF_
 replace hy := hy.nextF hB hR hkF_
 have hB_ := hB.nextF hR hkF_
 replace hR := hR_; clear hR_
 replace hB := hB_; clear hB_ hk hkF_ hq2_ hw2
 refine ⟨_, rfl, ?_⟩
 replace hI := hI.pt 81 (vS ad2 l2 c2) [81, 80, 79, 78, 77, 76, 72, 14, 13, 0, 1]
 refine pK tab [10, 11, 12] [] 3 [] [] [] [14, 13, 0, 1] [⟨0, 84, [vB nx, vS ad2 l2 c2]⟩] [1] [] [2] 3 hR hI .nil fun e9 a9 w9 hag hR hI => ?_
 have hA := hag
 refine ops_nil (then_n ?_)
 refine rK tab 3 [(12, .sym), (17, .sym), (21, .val (vU (vs.getD 0 0))), (24, .sym)] [8, 9, 10, 11, 14, 15, 16, 19, 20, 21, 22, 23] [] [14, 0] [⟨0, 84, [vB ((((decide ((l2 : Int) > (0 : Int))) && nx) && (decide ((lv : Int) > (0 : Int)))) && ((bits .and .u64 ((vs.getD 0 0 : Nat) : Int) (1 : Int)) == (1 : Int))), vS ad2 l2 c2]⟩] [1] [] [2] 3 hR hI (.cons (rfl : (decide ((l2 : Int) > (0 : Int))) = (decide ((l2 : Int) > (0 : Int)))) (.cons (rfl : (decide ((l2 : Int) > (0 : Int))) = (decide ((l2 : Int) > (0 : Int)))) (.cons (rfl : (decide ((l2 : Int) > (0 : Int))) = (decide ((l2 : Int) > (0 : Int)))) (.cons (rfl : (decide ((l2 : Int) > (0 : Int))) = (decide ((l2 : Int) > (0 : Int)))) (.cons (rfl : (decide ((l2 : Int) > (0 : Int))) = (decide ((l2 : Int) > (0 : Int)))) (.cons (rfl : (decide ((l2 : Int) > (0 : Int))) = (decide ((l2 : Int) > (0 : Int)))) (.cons (by first | exact (by intro b_; cases b_ <;> rfl : ∀ b_ : Bool, (b_ == true) = b_) _ | exact (by intro b_; cases b_ <;> rfl : ∀ b_ : Bool, (b_ == false) = !b_) _ | exact Bool.beq_true _ | exact Bool.beq_false _ | rfl | simp_all : ((decide ((l2 : Int) > (0 : Int))) == true) = (decide ((l2 : Int) > (0 : Int)))) (.cons (rfl : ((decide ((l2 : Int) > (0 : Int))) && nx) = ((decide ((l2 : Int) > (0 : Int))) && nx)) (.cons (rfl : ((decide ((l2 : Int) > (0 : Int))) && nx) = ((decide ((l2 : Int) > (0 : Int))) && nx)) (.cons (rfl : ((decide ((l2 : Int) > (0 : Int))) && nx) = ((decide ((l2 : Int) > (0 : Int))) && nx)) (.cons (by first | exact (by intro b_; cases b_ <;> rfl : ∀ b_ : Bool, (b_ == true) = b_) _ | exact (by intro b_; cases b_ <;> rfl : ∀ b_ : Bool, (b_ == false) = !b_) _ | exact Bool.beq_true _ | exact Bool.beq_false _ | rfl | simp_all : (((decide ((l2 : Int) > (0 : Int))) && nx) == true) = ((decide ((l2 : Int) > (0 : Int))) && nx)) (.cons (rfl : (((decide ((l2 : Int) > (0 : Int))) && nx) && (decide ((lv : Int) > (0 : Int)))) = (((decide ((l2 : Int) > (0 : Int))) && nx) && (decide ((lv : Int) > (0 : Int))))) (.cons (fun (hg : ((((decide ((l2 : Int) > (0 : Int))) && nx) && (decide ((lv : Int) > (0 : Int)))) == true) = true) => (by simp only [beq_true, beq_false, decide_eq_true_eq, Bool.not_eq_true', decide_eq_false_iff_not, Bool.or_eq_true, Bool.or_eq_false_iff, Bool.and_eq_true] at hg; omega : (0 : Int) ≤ (0 : Int) ∧ (0 : Int) < (lv : Int))) (.cons (fun (hg : ((((decide ((l2 : Int) > (0 : Int))) && nx) && (decide ((lv : Int) > (0 : Int)))) == true) = true) => (nats_some (i := 0) (hy.cells.mono hB.cls) (by simp only [beq_true, beq_false, decide_eq_true_eq, Bool.not_eq_true', decide_eq_false_iff_not, Bool.or_eq_true, Bool.or_eq_false_iff, Bool.and_eq_true] at hg; omega))) (.cons (rfl : (((decide ((l2 : Int) > (0 : Int))) && nx) && (decide ((lv : Int) > (0 : Int)))) = (((decide ((l2 : Int) > (0 : Int))) && nx) && (decide ((lv : Int) > (0 : Int))))) (.cons (rfl : (((decide ((l2 : Int) > (0 : Int))) && nx) && (decide ((lv : Int) > (0 : Int)))) = (((decide ((l2 : Int) > (0 : Int))) && nx) && (decide ((lv : Int) > (0 : Int))))) (.cons (fun (hg : ((((decide ((l2 : Int) > (0 : Int))) && nx) && (decide ((lv : Int) > (0 : Int)))) == true) = true) => (nats_load (i := 0) (m := 1) (hy.cells.mono hB.cls) (by simp only [beq_true, beq_false, decide_eq_true_eq, Bool.not_eq_true', decide_eq_false_iff_not, Bool.or_eq_true, Bool.or_eq_false_iff, Bool.and_eq_true] at hg; omega))) (.cons (rfl : (((decide ((l2 : Int) > (0 : Int))) && nx) && (decide ((lv : Int) > (0 : Int)))) = (((decide ((l2 : Int) > (0 : Int))) && nx) && (decide ((lv : Int) > (0 : Int))))) (.cons (rfl : (((decide ((l2 : Int) > (0 : Int))) && nx) && (decide ((lv : Int) > (0 : Int)))) = (((decide ((l2 : Int) > (0 : Int))) && nx) && (decide ((lv : Int) > (0 : Int))))) (.cons (rfl : (((decide ((l2 : Int) > (0 : Int))) && nx) && (decide ((lv : Int) > (0 : Int)))) = (((decide ((l2 : Int) > (0 : Int))) && nx) && (decide ((lv : Int) > (0 : Int))))) (.cons (rfl : (((decide ((l2 : Int) > (0 : Int))) && nx) && (decide ((lv : Int) > (0 : Int)))) = (((decide ((l2 : Int) > (0 : Int))) && nx) && (decide ((lv : Int) > (0 : Int))))) (.cons (rfl : (((decide ((l2 : Int) > (0 : Int))) && nx) && (decide ((lv : Int) > (0 : Int)))) = (((decide ((l2 : Int) > (0 : Int))) && nx) && (decide ((lv : Int) > (0 : Int))))) (.cons (rfl : (((decide ((l2 : Int) > (0 : Int))) && nx) && (decide ((lv : Int) > (0 : Int)))) = (((decide ((l2 : Int) > (0 : Int))) && nx) && (decide ((lv : Int) > (0 : Int))))) (.cons (rfl : (((decide ((l2 : Int) > (0 : Int))) && nx) && (decide ((lv : Int) > (0 : Int)))) = (((decide ((l2 : Int) > (0 : Int))) && nx) && (decide ((lv : Int) > (0 : Int))))) (.cons (by first | exact (by intro b_; cases b_ <;> rfl : ∀ b_ : Bool, (b_ == true) = b_) _ | exact (by intro b_; cases b_ <;> rfl : ∀ b_ : Bool, (b_ == false) = !b_) _ | exact Bool.beq_true _ | exact Bool.beq_false _ | rfl | simp_all : ((((decide ((l2 : Int) > (0 : Int))) && nx) && (decide ((lv : Int) > (0 : Int)))) == true) = (((decide ((l2 : Int) > (0 : Int))) && nx) && (decide ((lv : Int) > (0 : Int))))) .nil))))))))))))))))))))))))) fun e10 a10 w10 hag hR hI => ?_
 replace hA := hA.trans hag (by decide)
 refine wp_seq ?_
 refine rK tab 3 [(8, .sym)] [5, 6, 7] [(119, vB (((((decide ((l2 : Int) > (0 : Int))) && nx) && (decide ((lv : Int) > (0 : Int)))) && ((bits .and .u64 ((vs.getD 0 0 : Nat) : Int) (1 : Int)) == (1 : Int))) && false))] [14, 0] [] [0, 1] [] [2] 3 hR hI (.cons (rfl : ((((decide ((l2 : Int) > (0 : Int))) && nx) && (decide ((lv : Int) > (0 : Int)))) && ((bits .and .u64 ((vs.getD 0 0 : Nat) : Int) (1 : Int)) == (1 : Int))) = ((((decide ((l2 : Int) > (0 : Int))) && nx) && (decide ((lv : Int) > (0 : Int)))) && ((bits .and .u64 ((vs.getD 0 0 : Nat) : Int) (1 : Int)) == (1 : Int)))) (.cons (rfl : ((((decide ((l2 : Int) > (0 : Int))) && nx) && (decide ((lv : Int) > (0 : Int)))) && ((bits .and .u64 ((vs.getD 0 0 : Nat) : Int) (1 : Int)) == (1 : Int))) = ((((decide ((l2 : Int) > (0 : Int))) && nx) && (decide ((lv : Int) > (0 : Int)))) && ((bits .and .u64 ((vs.getD 0 0 : Nat) : Int) (1 : Int)) == (1 : Int)))) (.cons (rfl : ((((decide ((l2 : Int) > (0 : Int))) && nx) && (decide ((lv : Int) > (0 : Int)))) && ((bits .and .u64 ((vs.getD 0 0 : Nat) : Int) (1 : Int)) == (1 : Int))) = ((((decide ((l2 : Int) > (0 : Int))) && nx) && (decide ((lv : Int) > (0 : Int)))) && ((bits .and .u64 ((vs.getD 0 0 : Nat) : Int) (1 : Int)) == (1 : Int)))) (.cons (by first | exact (by intro b_; cases b_ <;> rfl : ∀ b_ : Bool, (b_ == true) = b_) _ | exact (by intro b_; cases b_ <;> rfl : ∀ b_ : Bool, (b_ == false) = !b_) _ | exact Bool.beq_true _ | exact Bool.beq_false _ | rfl | simp_all : (((((decide ((l2 : Int) > (0 : Int))) && nx) && (decide ((lv : Int) > (0 : Int)))) && ((bits .and .u64 ((vs.getD 0 0 : Nat) : Int) (1 : Int)) == (1 : Int))) == true) = ((((decide ((l2 : Int) > (0 : Int))) && nx) && (decide ((lv : Int) > (0 : Int)))) && ((bits .and .u64 ((vs.getD 0 0 : Nat) : Int) (1 : Int)) == (1 : Int)))) .nil)))) fun e11 a11 w11 hag hR hI => ?_
 replace hA := hA.trans hag (by decide)
 refine cnd (b := (((((decide ((l2 : Int) > (0 : Int))) && nx) && (decide ((lv : Int) > (0 : Int)))) && ((bits .and .u64 ((vs.getD 0 0 : Nat) : Int) (1 : Int)) == (1 : Int))) && false)) hI (by kernel_rfl) (fun hc12 => ?_) (fun hc12 => ?_)
 ·
  replace hI := hI.rb 119 hc12
  try simp only [tolds] at hc12
  simp at hc12
 ·
  replace hI := hI.rb 119 hc12
  try simp only [tolds] at hc12
  refine wp_skip ?_
  refine then_n ?_
  refine rZ tab 3 [(10, .p 0 0)] [] hR hI fun e13 a13 w13 hag hR hI => ?_
  replace hA := hA.trans hag (by decide)
  refine wp_ret (oN tab [.p 0 0] hR hI ?_)
  replace hbk0 := tb hA hbk0
  replace hbk1 := tb hA hbk1
  replace hf2 := tf hA hf2
  replace hg2 := tg hA hg2
  exact ⟨ad2, l2, c2, rs, _, by rw [← hbk0]; rfl, hrl, hB.fin hR, hrs.fin hB hR, htr, hvr, (by have h_ := (hR.blk ⟨0, 84, [vB ((((decide ((l2 : Int) > (0 : Int))) && nx) && (decide ((lv : Int) > (0 : Int)))) && ((bits .and .u64 ((vs.getD 0 0 : Nat) : Int) (1 : Int)) == (1 : Int))), vS ad2 l2 c2]⟩ m0).1; rw [hbk0] at h_; exact h_), (by have h_ := (hR.blk ⟨1, 84, [vB false, vS adv lv vc]⟩ m1).1; rw [hbk1] at h_; exact h_), (hR.rowFin (y := ⟨2, 102, 1, N, (ints .u64 zs)⟩) m0 hf2 rfl hg2), exp_sign hvl hy.dig⟩

theorem iexp2_spec {C : Nat → Prop} {w : World} {bx by_ g N c nu vc lv : Nat} {zs vs : List Nat} {adv : Option Addr} {nx : Bool} (hbx : w.heap[bx]? = some (.cells #[.bool nx, .slice (some ⟨g, 0, none⟩) nu c] 84)) (hby : w.heap[by_]? = some (.cells #[.bool false, .slice adv lv vc] 84)) (hz : w.heap[g]? = some (.cells (ints .u64 zs).toArray 102)) (hzl : zs.length = N) (hzm : N ≤ 9223372036854775807) (hxy : bx ≠ by_) (hxg : bx ≠ g) (hyg : by_ ≠ g) (hCx : ¬ C bx) (hCy : ¬ C by_) (hCg : ¬ C g) (hk1 : Sl .i64 18446744073709551616 C w (some ⟨1, 0, none⟩) 1 [12]) (hk2 : Sl .i64 18446744073709551616 C w (some ⟨2, 0, none⟩) 1 [80]) (hk3 : Sl .i64 18446744073709551616 C w (some ⟨3, 0, none⟩) 1 [40]) (hy : Sl .u64 18446744073709551616 C w adv vc vs) (hvl : vs.length = lv) (hzd : Ndig zs) (hfit : nu ≤ N) (hc : nu ≤ c) (hc0 : 0 < c) (hcm : c ≤ 9223372036854775807) (hnu : nu ≤ 4) (htx : Ntrim (seg zs 0 nu)) (hty : Ntrim vs) (he : nval vs ≤ 20) (hlim : (nval (seg zs 0 nu)) ^ nval vs < pn 4) :
    Calls P 48 #[.pointer (some ⟨bx, 0, none⟩), .pointer (some ⟨bx, 0, none⟩), .pointer (some ⟨by_, 0, none⟩), .pointer none] w fun ex w' => ∃ ad2 l2 c2 rs nq, ex = .returned (.pointer (some ⟨bx, 0, none⟩)) ∧ rs.length = l2 ∧ Keep (ButN [bx, by_, g] w) w w' ∧ Sl .u64 18446744073709551616 (Grow C w w') w' ad2 c2 rs ∧ Ntrim rs ∧ nval rs = (nval (seg zs 0 nu)) ^ nval vs ∧ w'.heap[bx]? = some (.cells #[.bool nq, .slice ad2 l2 c2] 84) ∧ w'.heap[by_]? = some (.cells #[.bool false, .slice adv lv vc] 84) ∧ w'.heap[g]? = some (.cells (ints .u64 zs).toArray 102) ∧ nq = (decide (0 < l2) && (nx && decide (nval vs % 2 = 1))) := by
 refine doorN (e := (((e0.addB 0 bx).addB 1 by_).addR 2 (.slice (some ⟨g, 0, none⟩) N N))) (vs := [.p 0 0, .p 0 0, .p 1 0, .v (.pointer none)]) (n := 14) (m := 4) Tryz.func48 rfl rfl rfl (by decide) fun a_ hI => ?_
 replace hI : Is 14 [] (((e0.addB 0 bx).addB 1 by_).addR 2 (.slice (some ⟨g, 0, none⟩) N N)) [(0, .p 0 0), (1, .p 0 0), (2, .p 1 0), (3, .v (.pointer none))] a_ := hI
 have hbk0 : (((e0.addB 0 bx).addB 1 by_).addR 2 (.slice (some ⟨g, 0, none⟩) N N)).b 0 = bx := rfl
 have hbk1 : (((e0.addB 0 bx).addB 1 by_).addR 2 (.slice (some ⟨g, 0, none⟩) N N)).b 1 = by_ := rfl
 have hf2 : Full (((e0.addB 0 bx).addB 1 by_).addR 2 (.slice (some ⟨g, 0, none⟩) N N)) 2 N := rfl; have hg2 : headOf ((((e0.addB 0 bx).addB 1 by_).addR 2 (.slice (some ⟨g, 0, none⟩) N N)).r 2) = g := rfl
 have hR : Rel (ButN [bx, by_, g] w) w (((e0.addB 0 bx).addB 1 by_).addR 2 (.slice (some ⟨g, 0, none⟩) N N)) [⟨0, 84, [vB nx, .rsl 2 0 nu c]⟩, ⟨1, 84, [vB false, vS adv lv vc]⟩] [⟨2, 102, 1, N, (ints .u64 zs)⟩] w := Rel.startN (fun k_ h_ => h_.1) (all_cons ⟨hbx, (fun hm_ => hm_.2 m0)⟩ (all_cons ⟨hby, (fun hm_ => hm_.2 m1)⟩ all_no)) (all_cons ⟨ownsRow_fullN hz (by first | exact hzl | (rw [ints_length]; exact hzl)) hzm, fun g_ he_ => by cases he_; exact (fun hm_ => hm_.2 m2)⟩ all_no) (all_cons (all_cons (fun hn_ => absurd rfl hn_) (all_cons (fun _ => hxy) all_no)) (all_cons (all_cons (fun _ => (Ne.symm hxy)) (all_cons (fun hn_ => absurd rfl hn_) all_no)) all_no)) (all_cons (all_cons (fun he_ => hxg (Option.some.inj he_).symm) all_no) (all_cons (all_cons (fun he_ => hyg (Option.some.inj he_).symm) all_no) all_no)) (all_cons (all_cons (fun hn_ => absurd rfl hn_) all_no) all_no)
 have hB : BaseD (ButN [bx, by_, g] w) C w C (ButN [bx, by_, g] w) w := BaseD.start (fun k_ hC_ hlt_ => ⟨hlt_, notin2 (fun he_ => hCx (he_ ▸ hC_)) (notin2 (fun he_ => hCy (he_ ▸ hC_)) (notin2 (fun he_ => hCg (he_ ▸ hC_)) (fun hm_ => by cases hm_)))⟩)
 refine rZ tab 3 [] [0, 1, 2, 3] hR hI fun e1 a1 w1 hag hR hI => ?_
 have hA := hag
 refine wp_seq (reg (is := [0, 1, 2, 3, 4, 5]) (by kernel_rfl) ?_)
 refine pZ tab [0, 1, 2, 3] [4, 5] 3 [(12, .v (.pointer none)), (11, .p 1 0), (10, .p 0 0), (9, .p 0 0)] [] hR hI fun e2 a2 w2 hag hR hI => ?_
 replace hA := hA.trans hag (by decide)
 refine cO [.p 0 0, .p 0 0, .p 1 0, .v (.pointer none), vB false] hI Tryz.func61 ?_
 have hq0_ := hR.blk ⟨0, 84, [vB nx, .rsl 2 0 nu c]⟩ m0
 have hq1_ := hR.blk ⟨1, 84, [vB false, vS adv lv vc]⟩ m1
 replace hbk0 := tb hA hbk0
 replace hbk1 := tb hA hbk1
 replace hf2 := tf hA hf2
 replace hg2 := tg hA hg2
 have hq2_ := hR.rowCells (y := ⟨2, 102, 1, N, (ints .u64 zs)⟩) m0 hf2 rfl
 refine (iexp_spec (C := Now hB) (zs := zs) hq0_.1 hq1_.1 hq2_.1 hzl hzm (hR.hh _ m0 _ m1 (by dsimp only; decide)) (hR.hgN m0 m0 hf2) (hR.hgN m1 m0 hf2) (fun h_ => hq0_.2 h_.2) (fun h_ => hq1_.2 h_.2) (fun h_ => hq2_.2 h_.2) (hk1.now hB hR) (hk2.now hB hR) (hk3.now hB hR) (hy.now hB hR) hvl hzd hfit hc hc0 hcm hnu htx hty he hlim).mono ?_
 rintro ex w3 ⟨ad2, l2, c2, rs, nq, rfl, hrl, hk, hrs, htr, hvr, hw0, hw1, hw2, hnq⟩
 have hkF_ := hR.keepN hk (all_cons hq0_.2 (all_cons hq1_.2 (all_cons hq2_.2 all_no)))
 have hR_ : Rel (Grow _ _ w3) w3 e2 [⟨0, 84, [vB nq, vS ad2 l2 c2]⟩, ⟨1, 84, [vB false, vS adv lv vc]⟩] [⟨2, 102, 1, N, (ints .u64 zs)⟩] w3 := hR.turnedN hk (all_cons hq0_.2 (all_cons hq1_.2 (all_cons hq2_.2 all_no))) (all_cons ⟨⟨_, m0, rfl⟩, .inr hw0⟩ (all_cons ⟨⟨_, m1, rfl⟩, .inr hw1⟩ all_no)) (all_cons ⟨⟨_, m0, rfl⟩, .inr (by have hl_ := hR.rowLen (y := ⟨2, 102, 1, N, (ints .u64 zs)⟩) m0; dsimp only at hl_; rw [show e2.r 2 = _ from hf2]; exact ownsRow_fullN hw2 (by rw [ints_length]; exact hzl) (hzm))⟩ all_no)
 replace hk1 := hk1.nextF hB hR hkF_
 replace hk2 := hk2.nextF hB hR hkF_
 replace hk3 := hk3.nextF hB hR hkF_
 replace hy := hy.nextF hB hR hkF_
 have hB_ := hB.nextF hR hkF_
 replace hR := hR_; clear hR_
 replace hB := hB_; clear hB_ hk hkF_ hq0_ hw0 hq1_ hw1 hq2_ hw2
 refine ⟨_, rfl, ?_⟩
 replace hI := hI.pt 13 (.p 0 0) [13, 12, 11, 10, 9]
 refine pZ tab [5] [] 3 [(8, .p 0 0)] [] hR hI fun e4 a4 w4 hag hR hI => ?_
 have hA := hag
 refine ops_nil (then_n ?_)
 refine wp_ret (oN tab [.p 0 0] hR hI ?_)
 replace hbk0 := tb hA hbk0
 replace hbk1 := tb hA hbk1
 replace hf2 := tf hA hf2
 replace hg2 := tg hA hg2
 exact ⟨ad2, l2, c2, rs, _, by rw [← hbk0]; rfl, hrl, hB.fin hR, hrs.fin hB hR, htr, hvr, (by have h_ := (hR.blk ⟨0, 84, [vB nq, vS ad2 l2 c2]⟩ m0).1; rw [hbk0] at h_; exact h_), (by have h_ := (hR.blk ⟨1, 84, [vB false, vS adv lv vc]⟩ m1).1; rw [hbk1] at h_; exact h_), (hR.rowFin (y := ⟨2, 102, 1, N, (ints .u64 zs)⟩) m0 hf2 rfl hg2), hnq⟩

theorem lt_pn4 {a b : Nat} (h : a < 2 ^ b) (hb : b ≤ 256) : a < pn 4 := by
 rw [pn_two]
 exact Nat.lt_of_lt_of_le h (Nat.pow_le_pow_right (by decide) (by omega))
theorem neg_pow_ (n : Int) : ∀ e : Nat, (-n) ^ e = if e % 2 = 1 then -(n ^ e) else n ^ e
 | 0 => by simp
 | e + 1 => by
  rw [Int.pow_succ, neg_pow_ n e, Int.pow_succ]
  rcases Nat.mod_two_eq_zero_or_one e with h | h
  · rw [if_neg (by omega), if_pos (by omega), Int.mul_neg]
  · rw [if_pos h, if_neg (by omega), Int.neg_mul_neg]
theorem pow_of {x : Int} {e q : Nat} {b : Bool} (hq : q = x.natAbs ^ e) (hb : b = false → q = 0) : (if (b && (decide (x < 0) && decide (e % 2 = 1))) = true then -((q : Nat) : Int) else ((q : Nat) : Int)) = x ^ e := by
 have h1 : ∃ n : Nat, x = n ∨ (x = -(n : Int) ∧ 0 < n) := ⟨x.natAbs, by omega⟩
 obtain ⟨n, hn⟩ := h1
 have hx : x.natAbs = n := by omega
 rw [hx] at hq
 have ht : ((n : Int)) ^ e = (q : Int) := by rw [hq]; simp
 rcases hn with rfl | ⟨rfl, hn0⟩
 · rw [decide_eq_false (by omega), ht]; simp
 ·
  rw [decide_eq_true (by omega), neg_pow_, ht]
  cases b
  · rw [hb rfl]; simp
  · by_cases h : e % 2 = 1 <;> simp [h]


end Go.Proofs.YtmendapdibnbdaaGreatDoor.Stride
