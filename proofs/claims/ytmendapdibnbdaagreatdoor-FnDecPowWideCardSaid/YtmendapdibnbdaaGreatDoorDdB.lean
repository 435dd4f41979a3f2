/- Walks of the program's functions, printed by a program of mine (walk.py) over the words of Stride: each function's contract. -/
import Derived.Test.YtmendapdibnbdaaGreatDoorDdA
namespace Go.Proofs.YtmendapdibnbdaaGreatDoor.Stride
open Go Go.RowKit Go.Proofs.YtmendapdibnbdaaGreatDoor.Mag
set_option linter.unusedVariables false
set_option linter.unusedSimpArgs false
set_option maxHeartbeats 4000000
set_option maxRecDepth 100000
structure Wd (C : Nat → Prop) (w : World) (n : Bool) (ad : Option Addr) (cap : Nat) (xs : List Nat) (z : Int) (L : Nat) : Prop where
 sl : Sl .u32 4294967296 C w ad cap xs
 trim : Trim xs
 sign : n = true → 0 < val xs
 eq : sg n (val xs) = z
 len : xs.length ≤ L
section
variable {D C0 C F : Nat → Prop} {w w0 wc w' : World} {e : Env} {H : List Blk} {G : List Row} {n : Bool} {ad : Option Addr} {cap L : Nat} {xs : List Nat} {z : Int}
theorem Wd.cells (h : Wd C w n ad cap xs z L) : Nats C w .u32 ad xs := h.sl.cells
theorem Wd.next (h : Wd C w0 n ad cap xs z L) (hB : BaseD D C0 w C F w0) (hR : Rel F w0 e H G wc) (hk : Keep (fun b => b < wc.heap.size) wc w') : Wd (Grow (fun b => C b ∧ F b) wc w') w' n ad cap xs z L := ⟨h.sl.next hB hR hk, h.trim, h.sign, h.eq, h.len⟩
theorem Wd.now (h : Wd C w0 n ad cap xs z L) (hB : BaseD D C0 w C F w0) (hR : Rel F w0 e H G wc) : Wd (fun b => C b ∧ F b) wc n ad cap xs z L := ⟨h.sl.now hB hR, h.trim, h.sign, h.eq, h.len⟩
theorem Wd.fin (h : Wd C w0 n ad cap xs z L) (hB : BaseD D C0 w C F w0) (hR : Rel F w0 e H G wc) : Wd (Grow C0 w wc) wc n ad cap xs z L := ⟨h.sl.fin hB hR, h.trim, h.sign, h.eq, h.len⟩
theorem Wd.rel {v : Value} (h : Wd C w0 n ad cap xs z L) (hc : ∀ {ad : Option Addr} {vs : List Value}, Cells C w0 ad vs → Cells (Gave C F v wc) wc ad vs) : Wd (Gave C F v wc) wc n ad cap xs z L := ⟨h.sl.rel hc, h.trim, h.sign, h.eq, h.len⟩
theorem Wd.to (h : Wd C w n ad cap xs z L) {z' : Int} {L' : Nat} (hz : z = z') (hl : L ≤ L') : Wd C w n ad cap xs z' L' := ⟨h.sl, h.trim, h.sign, h.eq.trans hz, Nat.le_trans h.len hl⟩
end
theorem wide_wd {C : Nat → Prop} {w : World} (neg : Bool) {ad : Option Addr} {cap : Nat} {xs : List Nat} (hx : Sl .u32 4294967296 C w ad cap xs) :
  Calls P 25 #[.bool neg, .slice ad xs.length cap] w fun ex w' => ∃ n zs, ex = .returned (.agg #[.bool n, .slice ad (List.length zs) cap]) ∧ Keep (fun b => b < w.heap.size) w w' ∧ Wd (Grow C w w') w' n ad cap zs (sg neg (val xs)) xs.length :=
 (wide_spec neg hx).mono fun ex w' ⟨ys, he, hk, hs, hv, ht, hl⟩ => ⟨_, ys, he, hk, hs, ht, fun h => by
  have h1 : ((ys.length : Nat) : Int) > 0 := by
   rcases Bool.and_eq_true_iff.1 h with ⟨_, h2⟩
   exact of_decide_eq_true h2
  exact Nat.pos_of_ne_zero fun h2 => by
   have := (val_eq_zero ht).1 h2
   rw [this] at h1
   exact absurd h1 (by decide), by
  rw [← hv]
  by_cases h1 : ((ys.length : Nat) : Int) > 0
  · rw [decide_eq_true h1, Bool.and_true]
  ·
   have h2 : ys = [] := by
    cases ys with
    | nil => rfl
    | cons => exact absurd (by simp) h1
   rw [h2]
   show sg _ 0 = sg _ 0
   rw [sg_zero, sg_zero], hl⟩


theorem negated_spec {C : Nat → Prop} {w : World} {na : Bool} {ad : Option Addr} {cap : Nat} {xs : List Nat} {a : Int} {L : Nat} (ha : Wd C w na ad cap xs a L) :
    Calls P 23 #[.agg #[.bool na, .slice ad (List.length xs) cap]] w fun ex w' => ∃ nz zd zc zs, ex = .returned (.agg #[.bool nz, .slice zd (List.length zs) zc]) ∧ KS w w' ∧ Wd (Grow C w w') w' nz zd zc zs (-a) (L) := by
 refine dN (C := C) [.v (.agg #[.bool na, .slice ad xs.length cap])] 9 1 Tryz.func23 fun a_ hI hR hB => ?_
 replace hI : Is 9 [] e0 [(0, .v (.agg #[.bool na, .slice ad xs.length cap]))] a_ := hI
 refine rK tab 0 [] [] [(2, .p 1 0), (1, .p 0 0)] [] [⟨1, 29, [vB false, vS none 0 0]⟩, ⟨0, 29, [vB na, vS ad xs.length cap]⟩] [] [] [] 2 hR hI .nil fun e1 a1 w1 hag hR hI => ?_
 refine wp_seq (reg (is := [0, 1, 2, 3, 4, 5, 6]) (by kernel_rfl) ?_)
 refine pK tab [0, 1, 2, 3, 4] [5, 6] 2 [] [] [(7, vS ad xs.length cap), (5, vB (!na))] [2] [] [1] [] [] 2 hR hI .nil fun e2 a2 w2 hag hR hI => ?_
 refine cO [vB (!na), vS ad xs.length cap] hI Tryz.func25 ?_
 refine (wide_wd (!na) (ha.sl.now hB hR)).mono ?_
 rintro ex w3 ⟨nz, zs, rfl, hk, hz⟩
 replace ha := ha.next hB hR hk
 obtain ⟨hB, hR⟩ := nx hB hR hk
 refine ⟨_, rfl, ?_⟩
 replace hI := hI.pt 8 (.v (.agg #[.bool nz, .slice ad zs.length cap])) [8, 7, 5, 2]
 refine pK tab [6] [] 2 [] [] [] [2] [⟨1, 29, [vB nz, vS ad zs.length cap]⟩] [] [] [] 2 hR hI .nil fun e4 a4 w4 hag hR hI => ?_
 refine ops_nil (then_n ?_)
 refine wp_ret (oN tab [.agg [vB nz, vS ad zs.length cap]] hR hI ?_)
 exact ⟨nz, ad, cap, zs, rfl, hB.fin hR, (hz.fin hB hR).to (by rw [sg_neg, ha.eq]) ha.len⟩

theorem wideMul_spec {C : Nat → Prop} {w : World} {na nb : Bool} {ad bd : Option Addr} {cap dap : Nat} {xs ys : List Nat} {a b : Int} {L M : Nat} (ha : Wd C w na ad cap xs a L) (hb : Wd C w nb bd dap ys b M) (hlen : L + M ≤ 1000000) :
    Calls P 32 #[.agg #[.bool na, .slice ad (List.length xs) cap], .agg #[.bool nb, .slice bd (List.length ys) dap]] w fun ex w' => ∃ nz zd zc zs, ex = .returned (.agg #[.bool nz, .slice zd (List.length zs) zc]) ∧ KS w w' ∧ Wd (Grow C w w') w' nz zd zc zs (a * b) (L + M) := by
 refine dN (C := C) [.v (.agg #[.bool na, .slice ad xs.length cap]), .v (.agg #[.bool nb, .slice bd ys.length dap])] 16 2 Tryz.func32 fun a_ hI hR hB => ?_
 replace hI : Is 16 [] e0 [(0, .v (.agg #[.bool na, .slice ad xs.length cap])), (1, .v (.agg #[.bool nb, .slice bd ys.length dap]))] a_ := hI
 have hla := ha.len; have hlb := hb.len
 refine rK tab 0 [] [] [(4, .p 2 0), (3, .p 1 0), (2, .p 0 0)] [] [⟨2, 29, [vB false, vS none 0 0]⟩, ⟨1, 29, [vB nb, vS bd ys.length dap]⟩, ⟨0, 29, [vB na, vS ad xs.length cap]⟩] [] [] [] 3 hR hI .nil fun e1 a1 w1 hag hR hI => ?_
 refine wp_seq ?_
 refine regL 11 hR (by kernel_rfl) (fun hS => ?_)
 replace hR := hR.drew; have hF := hR.fore
 refine lK tab [] [] [0, 1, 2, 3, 4, 5, 6, 7, 8] 3 [(13, vS bd ys.length dap), (11, vS ad xs.length cap), (9, vB (!(na == nb)))] [4] hS hI .nil fun a2 hI => ?_
 refine oneL (i := 9) (f' := 2) (by kernel_rfl) (by rfl) ?_
 refine cH [vS ad xs.length cap, vS bd ys.length dap] hI Tryz.func49 ?_
 refine (magMul_spec (ha.sl.now hB hR) (hb.sl.now hB hR) (by omega)).mono ?_
 rintro ex w3 ⟨m, md, mc, rfl, hk, hm, hvm, htm, hlm⟩
 replace hF := hF.grow hR hk; replace hS := hS.same hk
 replace ha := ha.next hB hR hk
 replace hb := hb.next hB hR hk
 obtain ⟨hB, hR⟩ := nx hB hR hk
 refine ⟨_, rfl, hS, ?_⟩
 replace hI := hI.pt 14 (vS md m.length mc) [14, 13, 11, 9, 4]
 refine oneL (i := 10) (f' := 1) (by kernel_rfl) (by rfl) ?_
 refine cH [vB (!(na == nb)), vS md m.length mc] hI Tryz.func25 ?_
 refine (wide_wd (!(na == nb)) (hm.now hB hR)).mono ?_
 rintro ex w4 ⟨nz, zs, rfl, hk, hz⟩
 replace hF := hF.grow hR hk; replace hS := hS.same hk
 replace ha := ha.next hB hR hk
 replace hb := hb.next hB hR hk
 replace hm := hm.next hB hR hk
 obtain ⟨hB, hR⟩ := nx hB hR hk
 refine ⟨_, rfl, hS, ?_⟩
 replace hI := hI.pt 15 (.v (.agg #[.bool nz, .slice md zs.length mc])) [15, 14, 13, 11, 9, 4]
 refine endL (i := 11) (f' := 0) (by kernel_rfl) (by rfl) (by kernel_rfl) ?_
 refine eK tab 3 .no (.v (undef)) [⟨2, 29, [vB nz, vS md zs.length mc]⟩] [1, 0] [] [] 3 true hR hI .nil fun e5 a5 w5 hag hR2 hI => ?_
 replace hR := hR2; clear hR2
 replace hI := hI.sl [15, 14, 13, 11, 9, 4] rfl
 refine doneL (by kernel_rfl) ?_
 refine then_n ?_
 replace hI := hI.sl [4] rfl; replace hR := hR.sel [2] [] rfl rfl
 refine wp_ret (oN tab [.agg [vB nz, vS md zs.length mc]] hR hI ?_)
 exact ⟨nz, md, mc, zs, rfl, hB.fin hR, (hz.fin hB hR).to (by rw [hvm, sg_mul, ha.eq, hb.eq]) (by omega)⟩

theorem sub_pos {a b : Bool} {x y : Nat} (h : ¬ a = b) (ha : a = true → 0 < x) (hb : b = true → 0 < y) (hle : y ≤ x) : 0 < x := by
 cases a
 ·
  cases b
  · exact absurd rfl h
  · exact Nat.lt_of_lt_of_le (hb rfl) hle
 · exact ha rfl

theorem wideAdd_spec {C : Nat → Prop} {w : World} {na nb : Bool} {ad bd : Option Addr} {cap dap : Nat} {xs ys : List Nat} {a b : Int} {L M : Nat} (ha : Wd C w na ad cap xs a L) (hb : Wd C w nb bd dap ys b M) (hlen : L + M ≤ 1000000) :
    Calls P 31 #[.agg #[.bool na, .slice ad (List.length xs) cap], .agg #[.bool nb, .slice bd (List.length ys) dap]] w fun ex w' => ∃ nz zd zc zs, ex = .returned (.agg #[.bool nz, .slice zd (List.length zs) zc]) ∧ KS w w' ∧ Wd (Grow C w w') w' nz zd zc zs (a + b) (L + M + 1) := by
 refine dN (C := C) [.v (.agg #[.bool na, .slice ad xs.length cap]), .v (.agg #[.bool nb, .slice bd ys.length dap])] 40 2 Tryz.func31 fun a_ hI hR hB => ?_
 replace hI : Is 40 [] e0 [(0, .v (.agg #[.bool na, .slice ad xs.length cap])), (1, .v (.agg #[.bool nb, .slice bd ys.length dap]))] a_ := hI
 have hla := ha.len; have hlb := hb.len
 refine rK tab 0 [] [] [(4, .p 2 0), (3, .p 1 0), (2, .p 0 0)] [] [⟨2, 29, [vB false, vS none 0 0]⟩, ⟨1, 29, [vB nb, vS bd ys.length dap]⟩, ⟨0, 29, [vB na, vS ad xs.length cap]⟩] [] [] [] 3 hR hI .nil fun e1 a1 w1 hag hR hI => ?_
 refine wp_seq ?_
 refine rZ tab 3 [(9, vB (na == nb))] [4, 3, 2] hR hI fun e2 a2 w2 hag hR hI => ?_
 refine cnd (b := (na == nb)) hI (by kernel_rfl) (fun hc3 => ?_) (fun hc3 => ?_)
 ·
  replace hI := hI.rb 9 hc3
  try simp only [tolds] at hc3
  have hsg : na = nb := hc3
  refine wp_seq ?_
  refine regL 8 hR (by kernel_rfl) (fun hS => ?_)
  replace hR := hR.drew; have hF := hR.fore
  refine lK tab [] [] [0, 1, 2, 3, 4, 5] 3 [(15, vS bd ys.length dap), (13, vS ad xs.length cap), (11, vB na)] [4] hS hI .nil fun a4 hI => ?_
  refine oneL (i := 6) (f' := 2) (by kernel_rfl) (by rfl) ?_
  refine cH [vS ad xs.length cap, vS bd ys.length dap] hI Tryz.func45 ?_
  refine (magAdd_spec (ha.sl.now hB hR) (hb.sl.now hB hR) (by omega)).mono ?_
  rintro ex w5 ⟨m, md, mc, rfl, hk, hm, hvm, hlm⟩
  replace hF := hF.grow hR hk; replace hS := hS.same hk
  replace ha := ha.next hB hR hk
  replace hb := hb.next hB hR hk
  obtain ⟨hB, hR⟩ := nx hB hR hk
  refine ⟨_, rfl, hS, ?_⟩
  replace hI := hI.pt 16 (vS md m.length mc) [16, 15, 13, 11, 4]
  refine oneL (i := 7) (f' := 1) (by kernel_rfl) (by rfl) ?_
  refine cH [vB na, vS md m.length mc] hI Tryz.func25 ?_
  refine (wide_wd na (hm.now hB hR)).mono ?_
  rintro ex w6 ⟨nz, zs, rfl, hk, hz⟩
  replace hF := hF.grow hR hk; replace hS := hS.same hk
  replace ha := ha.next hB hR hk
  replace hb := hb.next hB hR hk
  replace hm := hm.next hB hR hk
  obtain ⟨hB, hR⟩ := nx hB hR hk
  refine ⟨_, rfl, hS, ?_⟩
  replace hI := hI.pt 17 (.v (.agg #[.bool nz, .slice md zs.length mc])) [17, 16, 15, 13, 11, 4]
  refine endL (i := 8) (f' := 0) (by kernel_rfl) (by rfl) (by kernel_rfl) ?_
  refine eK tab 3 .no (.v (undef)) [⟨2, 29, [vB nz, vS md zs.length mc]⟩] [1, 0] [] [] 3 true hR hI .nil fun e7 a7 w7 hag hR2 hI => ?_
  replace hR := hR2; clear hR2
  replace hI := hI.sl [17, 16, 15, 13, 11, 4] rfl
  refine doneL (by kernel_rfl) ?_
  refine then_n ?_
  replace hI := hI.sl [4] rfl; replace hR := hR.sel [2] [] rfl rfl
  refine wp_ret ?_
  refine ret_then ?_
  refine oN tab [.agg [vB nz, vS md zs.length mc]] hR hI ?_
  exact ⟨nz, md, mc, zs, rfl, hB.fin hR, (hz.fin hB hR).to (by rw [hvm, sg_same hsg, ha.eq, hb.eq]) (by omega)⟩
 ·
  replace hI := hI.rb 9 hc3
  try simp only [tolds] at hc3
  have hsg : ¬ na = nb := hc3
  refine wp_skip ?_
  refine then_n ?_
  refine wp_seq ?_
  refine wp_seq (reg (is := [0, 1, 2, 3, 4, 5]) (by kernel_rfl) ?_)
  refine pZ tab [0, 1, 2, 3] [4, 5] 3 [(21, vS bd ys.length dap), (19, vS ad xs.length cap)] [4, 3, 2] hR hI fun e8 a8 w8 hag hR hI => ?_
  refine cO [vS ad xs.length cap, vS bd ys.length dap] hI Tryz.func44 ?_
  refine (magCmp_spec (ha.sl.now hB hR) (hb.sl.now hB hR) ha.trim hb.trim).mono ?_
  rintro ex w9 ⟨rfl, hk⟩
  replace hR := hR.same hk; clear hk
  refine ⟨_, rfl, ?_⟩
  replace hI := hI.pt 22 (.v (.int .i64 (cmpN (val xs) (val ys)))) [22, 21, 19, 4, 3, 2]
  refine pZ tab [5] [] 3 [(23, vB (decide ((cmpN (val xs) (val ys)) ≥ (0 : Int))))] [4, 3, 2] hR hI fun e10 a10 w10 hag hR hI => ?_
  refine ops_nil (then_n ?_)
  refine cnd (b := decide ((cmpN (val xs) (val ys)) ≥ (0 : Int))) hI (by kernel_rfl) (fun hc11 => ?_) (fun hc11 => ?_)
  ·
   replace hI := hI.rb 23 hc11
   try simp only [tolds] at hc11
   have hge := cmpN_ge.1 hc11; have hpos := sub_pos hsg ha.sign hb.sign hge
   refine wp_seq ?_
   refine regL 8 hR (by kernel_rfl) (fun hS => ?_)
   replace hR := hR.drew; have hF := hR.fore
   refine lK tab [] [] [0, 1, 2, 3, 4, 5] 3 [(29, vS bd ys.length dap), (27, vS ad xs.length cap), (25, vB na)] [4] hS hI .nil fun a12 hI => ?_
   refine oneL (i := 6) (f' := 2) (by kernel_rfl) (by rfl) ?_
   refine cH [vS ad xs.length cap, vS bd ys.length dap] hI Tryz.func47 ?_
   refine (magSub_spec (ha.sl.now hB hR) (hb.sl.now hB hR) hb.trim hge (len_pos_of_val hpos) (by omega)).mono ?_
   rintro ex w13 ⟨m, md, mc, rfl, hk, hm, hvm, htm, hlm⟩
   replace hF := hF.grow hR hk; replace hS := hS.same hk
   replace ha := ha.next hB hR hk
   replace hb := hb.next hB hR hk
   obtain ⟨hB, hR⟩ := nx hB hR hk
   refine ⟨_, rfl, hS, ?_⟩
   replace hI := hI.pt 30 (vS md m.length mc) [30, 29, 27, 25, 4]
   refine oneL (i := 7) (f' := 1) (by kernel_rfl) (by rfl) ?_
   refine cH [vB na, vS md m.length mc] hI Tryz.func25 ?_
   refine (wide_wd na (hm.now hB hR)).mono ?_
   rintro ex w14 ⟨nz, zs, rfl, hk, hz⟩
   replace hF := hF.grow hR hk; replace hS := hS.same hk
   replace ha := ha.next hB hR hk
   replace hb := hb.next hB hR hk
   replace hm := hm.next hB hR hk
   obtain ⟨hB, hR⟩ := nx hB hR hk
   refine ⟨_, rfl, hS, ?_⟩
   replace hI := hI.pt 31 (.v (.agg #[.bool nz, .slice md zs.length mc])) [31, 30, 29, 27, 25, 4]
   refine endL (i := 8) (f' := 0) (by kernel_rfl) (by rfl) (by kernel_rfl) ?_
   refine eK tab 3 .no (.v (undef)) [⟨2, 29, [vB nz, vS md zs.length mc]⟩] [1, 0] [] [] 3 true hR hI .nil fun e15 a15 w15 hag hR2 hI => ?_
   replace hR := hR2; clear hR2
   replace hI := hI.sl [31, 30, 29, 27, 25, 4] rfl
   refine doneL (by kernel_rfl) ?_
   refine then_n ?_
   replace hI := hI.sl [4] rfl; replace hR := hR.sel [2] [] rfl rfl
   refine wp_ret ?_
   refine ret_then ?_
   refine oN tab [.agg [vB nz, vS md zs.length mc]] hR hI ?_
   exact ⟨nz, md, mc, zs, rfl, hB.fin hR, (hz.fin hB hR).to (by rw [hvm, sg_sub1 hsg hge, ha.eq, hb.eq]) (by omega)⟩
  ·
   replace hI := hI.rb 23 hc11
   try simp only [tolds] at hc11
   have hge : ¬ val ys ≤ val xs := fun h => hc11 (cmpN_ge.2 h)
   refine wp_skip ?_
   refine then_n ?_
   refine wp_seq ?_
   refine regL 8 hR (by kernel_rfl) (fun hS => ?_)
   replace hR := hR.drew; have hF := hR.fore
   refine lK tab [] [] [0, 1, 2, 3, 4, 5] 3 [(37, vS ad xs.length cap), (35, vS bd ys.length dap), (33, vB nb)] [4] hS hI .nil fun a16 hI => ?_
   refine oneL (i := 6) (f' := 2) (by kernel_rfl) (by rfl) ?_
   refine cH [vS bd ys.length dap, vS ad xs.length cap] hI Tryz.func47 ?_
   refine (magSub_spec (hb.sl.now hB hR) (ha.sl.now hB hR) ha.trim (Nat.le_of_not_le hge) (len_pos_of_val (by omega)) (by omega)).mono ?_
   rintro ex w17 ⟨m, md, mc, rfl, hk, hm, hvm, htm, hlm⟩
   replace hF := hF.grow hR hk; replace hS := hS.same hk
   replace ha := ha.next hB hR hk
   replace hb := hb.next hB hR hk
   obtain ⟨hB, hR⟩ := nx hB hR hk
   refine ⟨_, rfl, hS, ?_⟩
   replace hI := hI.pt 38 (vS md m.length mc) [38, 37, 35, 33, 4]
   refine oneL (i := 7) (f' := 1) (by kernel_rfl) (by rfl) ?_
   refine cH [vB nb, vS md m.length mc] hI Tryz.func25 ?_
   refine (wide_wd nb (hm.now hB hR)).mono ?_
   rintro ex w18 ⟨nz, zs, rfl, hk, hz⟩
   replace hF := hF.grow hR hk; replace hS := hS.same hk
   replace ha := ha.next hB hR hk
   replace hb := hb.next hB hR hk
   replace hm := hm.next hB hR hk
   obtain ⟨hB, hR⟩ := nx hB hR hk
   refine ⟨_, rfl, hS, ?_⟩
   replace hI := hI.pt 39 (.v (.agg #[.bool nz, .slice md zs.length mc])) [39, 38, 37, 35, 33, 4]
   refine endL (i := 8) (f' := 0) (by kernel_rfl) (by rfl) (by kernel_rfl) ?_
   refine eK tab 3 .no (.v (undef)) [⟨2, 29, [vB nz, vS md zs.length mc]⟩] [1, 0] [] [] 3 true hR hI .nil fun e19 a19 w19 hag hR2 hI => ?_
   replace hR := hR2; clear hR2
   replace hI := hI.sl [39, 38, 37, 35, 33, 4] rfl
   refine doneL (by kernel_rfl) ?_
   refine then_n ?_
   replace hI := hI.sl [4] rfl; replace hR := hR.sel [2] [] rfl rfl
   refine wp_ret (oN tab [.agg [vB nz, vS md zs.length mc]] hR hI ?_)
   exact ⟨nz, md, mc, zs, rfl, hB.fin hR, (hz.fin hB hR).to (by rw [hvm, sg_sub2 hsg (Nat.le_of_not_le hge), ha.eq, hb.eq]) (by omega)⟩

theorem wideSub_spec {C : Nat → Prop} {w : World} {na nb : Bool} {ad bd : Option Addr} {cap dap : Nat} {xs ys : List Nat} {a b : Int} {L M : Nat} (ha : Wd C w na ad cap xs a L) (hb : Wd C w nb bd dap ys b M) (hlen : L + M ≤ 1000000) :
    Calls P 43 #[.agg #[.bool na, .slice ad (List.length xs) cap], .agg #[.bool nb, .slice bd (List.length ys) dap]] w fun ex w' => ∃ nz zd zc zs, ex = .returned (.agg #[.bool nz, .slice zd (List.length zs) zc]) ∧ KS w w' ∧ Wd (Grow C w w') w' nz zd zc zs (a - b) (L + M + 1) := by
 refine dN (C := C) [.v (.agg #[.bool na, .slice ad xs.length cap]), .v (.agg #[.bool nb, .slice bd ys.length dap])] 9 2 Tryz.func43 fun a_ hI hR hB => ?_
 replace hI : Is 9 [] e0 [(0, .v (.agg #[.bool na, .slice ad xs.length cap])), (1, .v (.agg #[.bool nb, .slice bd ys.length dap]))] a_ := hI
 have hla := ha.len; have hlb := hb.len
 refine rK tab 0 [] [] [(4, .p 2 0), (3, .p 1 0), (2, .p 0 0)] [] [⟨2, 29, [vB false, vS none 0 0]⟩, ⟨1, 29, [vB nb, vS bd ys.length dap]⟩, ⟨0, 29, [vB na, vS ad xs.length cap]⟩] [] [] [] 3 hR hI .nil fun e1 a1 w1 hag hR hI => ?_
 refine wp_seq ?_
 refine regL 4 hR (by kernel_rfl) (fun hS => ?_)
 replace hR := hR.drew; have hF := hR.fore
 refine lK tab [] [] [0, 1] 3 [(6, .agg [vB nb, vS bd ys.length dap]), (5, .agg [vB na, vS ad xs.length cap])] [4] hS hI .nil fun a2 hI => ?_
 refine oneL (i := 2) (f' := 2) (by kernel_rfl) (by rfl) ?_
 refine cH [.agg [vB nb, vS bd ys.length dap]] hI Tryz.func23 ?_
 refine (negated_spec (hb.now hB hR)).mono ?_
 rintro ex w3 ⟨nm, md, mc, m, rfl, hk, hm⟩
 replace hF := hF.grow hR hk; replace hS := hS.same hk
 replace ha := ha.next hB hR hk
 replace hb := hb.next hB hR hk
 obtain ⟨hB, hR⟩ := nx hB hR hk
 refine ⟨_, rfl, hS, ?_⟩
 replace hI := hI.pt 7 (.v (.agg #[.bool nm, .slice md m.length mc])) [7, 6, 5, 4]
 refine oneL (i := 3) (f' := 1) (by kernel_rfl) (by rfl) ?_
 refine cH [.agg [vB na, vS ad xs.length cap], .v (.agg #[.bool nm, .slice md m.length mc])] hI Tryz.func31 ?_
 refine (wideAdd_spec (ha.now hB hR) (hm.now hB hR) (by omega)).mono ?_
 rintro ex w4 ⟨nz, zd, zc, z, rfl, hk, hz⟩
 replace hF := hF.grow hR hk; replace hS := hS.same hk
 replace ha := ha.next hB hR hk
 replace hb := hb.next hB hR hk
 replace hm := hm.next hB hR hk
 obtain ⟨hB, hR⟩ := nx hB hR hk
 refine ⟨_, rfl, hS, ?_⟩
 replace hI := hI.pt 8 (.v (.agg #[.bool nz, .slice zd z.length zc])) [8, 7, 6, 5, 4]
 refine endL (i := 4) (f' := 0) (by kernel_rfl) (by rfl) (by kernel_rfl) ?_
 refine eK tab 3 .no (.v (undef)) [⟨2, 29, [vB nz, vS zd z.length zc]⟩] [1, 0] [] [] 3 true hR hI .nil fun e5 a5 w5 hag hR2 hI => ?_
 replace hR := hR2; clear hR2
 replace hI := hI.sl [8, 7, 6, 5, 4] rfl
 refine doneL (by kernel_rfl) ?_
 refine then_n ?_
 replace hI := hI.sl [4] rfl; replace hR := hR.sel [2] [] rfl rfl
 refine wp_ret (oN tab [.agg [vB nz, vS zd z.length zc]] hR hI ?_)
 exact ⟨nz, zd, zc, z, rfl, hB.fin hR, (hz.fin hB hR).to (by omega) (by omega)⟩

theorem wideCmp_spec {C : Nat → Prop} {w : World} {na nb : Bool} {ad bd : Option Addr} {cap dap : Nat} {xs ys : List Nat} {a b : Int} {L M : Nat} (ha : Wd C w na ad cap xs a L) (hb : Wd C w nb bd dap ys b M) :
    Calls P 21 #[.agg #[.bool na, .slice ad (List.length xs) cap], .agg #[.bool nb, .slice bd (List.length ys) dap]] w fun ex w' => ex = .returned (.int .i64 (cmpZ a b)) ∧ KS w w' := by
 refine dN (C := C) [.v (.agg #[.bool na, .slice ad xs.length cap]), .v (.agg #[.bool nb, .slice bd ys.length dap])] 35 2 Tryz.func21 fun a_ hI hR hB => ?_
 replace hI : Is 35 [] e0 [(0, .v (.agg #[.bool na, .slice ad xs.length cap])), (1, .v (.agg #[.bool nb, .slice bd ys.length dap]))] a_ := hI
 have hla := ha.len; have hlb := hb.len
 refine rK tab 0 [] [] [(3, .p 1 0), (2, .p 0 0)] [] [⟨1, 29, [vB nb, vS bd ys.length dap]⟩, ⟨0, 29, [vB na, vS ad xs.length cap]⟩] [] [] [] 2 hR hI .nil fun e1 a1 w1 hag hR hI => ?_
 refine wp_seq ?_
 refine wp_block ?_
 refine rK tab 2 [(6, .sym)] [3, 4, 5] [(5, vB (na && (!nb)))] [3, 2] [] [1, 0] [] [] 2 hR hI (.cons (rfl : na = na) (.cons (rfl : na = na) (.cons (rfl : na = na) (.cons (by first | exact (by intro b_; cases b_ <;> rfl : ∀ b_ : Bool, (b_ == true) = b_) _ | exact (by intro b_; cases b_ <;> rfl : ∀ b_ : Bool, (b_ == false) = !b_) _ | exact Bool.beq_true _ | exact Bool.beq_false _ | rfl | simp_all : (na == true) = na) .nil)))) fun e2 a2 w2 hag hR hI => ?_
 refine cnd (b := (na && (!nb))) hI (by kernel_rfl) (fun hc3 => ?_) (fun hc3 => ?_)
 ·
  replace hI := hI.rb 5 hc3
  try simp only [tolds] at hc3
  have hh1 := hc3
  refine rK tab 2 [] [] [(4, .v (.int .i64 (-1)))] [] [] [] [] [] 2 hR hI .nil fun e4 a4 w4 hag hR hI => ?_
  refine wp_ret ?_
  refine ret_block ?_
  refine ret_then ?_
  refine oN tab [.v (.int .i64 (-1))] hR hI ?_
  exact ⟨by rw [← ha.eq, ← hb.eq, cmpZ_np hh1.1 hh1.2 (ha.sign hh1.1)]; rfl, hB.fin hR⟩
 ·
  replace hI := hI.rb 5 hc3
  try simp only [tolds] at hc3
  have hh1 := hc3
  refine rK tab 2 [(6, .sym)] [4, 5] [(13, vB ((!na) && nb))] [3, 2] [] [1, 0] [] [] 2 hR hI (.cons (rfl : (!na) = (!na)) (.cons (by first | exact (by intro b_; cases b_ <;> rfl : ∀ b_ : Bool, (b_ == true) = b_) _ | exact (by intro b_; cases b_ <;> rfl : ∀ b_ : Bool, (b_ == false) = !b_) _ | exact Bool.beq_true _ | exact Bool.beq_false _ | rfl | simp_all : ((!na) == true) = (!na)) .nil)) fun e5 a5 w5 hag hR hI => ?_
  refine cnd (b := ((!na) && nb)) hI (by kernel_rfl) (fun hc6 => ?_) (fun hc6 => ?_)
  ·
   replace hI := hI.rb 13 hc6
   try simp only [tolds] at hc6
   have hh2 := hc6
   refine rK tab 2 [] [] [(4, .v (.int .i64 1))] [] [] [] [] [] 2 hR hI .nil fun e7 a7 w7 hag hR hI => ?_
   refine wp_ret ?_
   refine ret_block ?_
   refine ret_then ?_
   refine oN tab [.v (.int .i64 1)] hR hI ?_
   exact ⟨by rw [← ha.eq, ← hb.eq, cmpZ_pn hh2.1 hh2.2 (hb.sign hh2.2)]; rfl, hB.fin hR⟩
  ·
   replace hI := hI.rb 13 hc6
   try simp only [tolds] at hc6
   have hh2 := hc6
   refine rZ tab 2 [(21, vB na)] [3, 2] hR hI fun e8 a8 w8 hag hR hI => ?_
   refine cnd (b := na) hI (by kernel_rfl) (fun hc9 => ?_) (fun hc9 => ?_)
   ·
    replace hI := hI.rb 21 hc9
    try simp only [tolds] at hc9
    have hh3 := hc9
    refine wp_seq (reg (is := [0, 1, 2, 3, 4, 5, 6]) (by kernel_rfl) ?_)
    refine pK tab [0, 1, 2, 3] [4, 5, 6] 2 [] [] [(27, vS bd ys.length dap), (25, vS ad xs.length cap)] [] [] [] [] [] 2 hR hI .nil fun e10 a10 w10 hag hR hI => ?_
    refine cO [vS ad xs.length cap, vS bd ys.length dap] hI Tryz.func44 ?_
    refine (magCmp_spec (ha.sl.now hB hR) (hb.sl.now hB hR) ha.trim hb.trim).mono ?_
    rintro ex w11 ⟨rfl, hk⟩
    replace hR := hR.same hk; clear hk
    have hcb := cmpN_bound (val xs) (val ys)
    refine ⟨_, rfl, ?_⟩
    replace hI := hI.pt 28 (.v (.int .i64 (cmpN (val xs) (val ys)))) [28, 27, 25]
    refine pK tab [5, 6] [] 2 [(5, .nw)] [] [(4, .v (.int .i64 (0 - (cmpN (val xs) (val ys)))))] [] [] [] [] [] 2 hR hI (.cons (inR_i64 (n := 0 - (cmpN (val xs) (val ys))) (by omega)) .nil) fun e12 a12 w12 hag hR hI => ?_
    refine ops_nil (then_n ?_)
    refine wp_ret ?_
    refine ret_block ?_
    refine ret_then ?_
    refine oN tab [.v (.int .i64 (0 - (cmpN (val xs) (val ys))))] hR hI ?_
    exact ⟨by rw [← ha.eq, ← hb.eq, cmpZ_nn hh3 (hh1.resolve_left (by rw [hh3]; decide))]; rfl, hB.fin hR⟩
   ·
    replace hI := hI.rb 21 hc9
    try simp only [tolds] at hc9
    have hh3 := hc9
    refine wp_skip ?_
    refine normal_block ?_
    refine then_n ?_
    refine wp_seq (reg (is := [0, 1, 2, 3, 4, 5]) (by kernel_rfl) ?_)
    refine pK tab [0, 1, 2, 3] [4, 5] 2 [] [] [(33, vS bd ys.length dap), (31, vS ad xs.length cap)] [] [] [] [] [] 2 hR hI .nil fun e13 a13 w13 hag hR hI => ?_
    refine cO [vS ad xs.length cap, vS bd ys.length dap] hI Tryz.func44 ?_
    refine (magCmp_spec (ha.sl.now hB hR) (hb.sl.now hB hR) ha.trim hb.trim).mono ?_
    rintro ex w14 ⟨rfl, hk⟩
    replace hR := hR.same hk; clear hk
    have hcb := cmpN_bound (val xs) (val ys)
    refine ⟨_, rfl, ?_⟩
    replace hI := hI.pt 34 (.v (.int .i64 (cmpN (val xs) (val ys)))) [34, 33, 31]
    refine pZ tab [5] [] 2 [(4, .v (.int .i64 (cmpN (val xs) (val ys))))] [] hR hI fun e15 a15 w15 hag hR hI => ?_
    refine ops_nil (then_n ?_)
    refine wp_ret (oN tab [.v (.int .i64 (cmpN (val xs) (val ys)))] hR hI ?_)
    exact ⟨by rw [← ha.eq, ← hb.eq, cmpZ_pp hh3 (hh2.resolve_left (by rw [hh3]; decide))]; rfl, hB.fin hR⟩

theorem wideDiv_spec {C : Nat → Prop} {w : World} {na nb : Bool} {ad bd : Option Addr} {cap dap : Nat} {xs ys : List Nat} {a b : Int} {L M : Nat} (ha : Wd C w na ad cap xs a L) (hb : Wd C w nb bd dap ys b M) (hpos : 0 < val ys) (hlen : L + M ≤ 100000) :
    Calls P 10 #[.agg #[.bool na, .slice ad (List.length xs) cap], .agg #[.bool nb, .slice bd (List.length ys) dap]] w fun ex w' => ∃ nz zd zc zs nu ud uc us, ex = .returned (.tuple #[.agg #[.bool nz, .slice zd (List.length zs) zc], .agg #[.bool nu, .slice ud (List.length us) uc]]) ∧ KS w w' ∧ Wd (Grow C w w') w' nz zd zc zs (Int.tdiv a b) L ∧ Wd (Grow C w w') w' nu ud uc us (Int.tmod a b) M := by
 refine dN (C := C) [.v (.agg #[.bool na, .slice ad xs.length cap]), .v (.agg #[.bool nb, .slice bd ys.length dap])] 27 2 Tryz.func10 fun a_ hI hR hB => ?_
 replace hI : Is 27 [] e0 [(0, .v (.agg #[.bool na, .slice ad xs.length cap])), (1, .v (.agg #[.bool nb, .slice bd ys.length dap]))] a_ := hI
 have hla := ha.len; have hlb := hb.len
 refine rK tab 0 [] [] [(5, .p 3 0), (4, .p 2 0), (3, .p 1 0), (2, .p 0 0)] [] [⟨3, 29, [vB false, vS none 0 0]⟩, ⟨2, 29, [vB false, vS none 0 0]⟩, ⟨1, 29, [vB nb, vS bd ys.length dap]⟩, ⟨0, 29, [vB na, vS ad xs.length cap]⟩] [] [] [] 4 hR hI .nil fun e1 a1 w1 hag hR hI => ?_
 refine wp_seq (reg (is := [0, 1, 2, 3, 4, 5, 6, 7, 8, 9]) (by kernel_rfl) ?_)
 refine pZ tab [0, 1, 2, 3] [4, 5, 6, 7, 8, 9] 4 [(12, vS bd ys.length dap), (10, vS ad xs.length cap)] [5, 4, 3, 2] hR hI fun e2 a2 w2 hag hR hI => ?_
 refine cO [vS ad xs.length cap, vS bd ys.length dap] hI Tryz.func24 ?_
 refine (magDiv_spec (ha.sl.now hB hR) (hb.sl.now hB hR) hb.trim hpos (by omega)).mono ?_
 rintro ex w3 ⟨qs, qd, qc, rs, rd, rc, rfl, hk, hq, hr, hvq, hvr, htq, htr, hlq, hlr⟩
 replace ha := ha.next hB hR hk
 replace hb := hb.next hB hR hk
 obtain ⟨hB, hR⟩ := nx hB hR hk
 refine ⟨_, rfl, ?_⟩
 replace hI := hI.pt 13 (.v (.tuple #[.slice qd qs.length qc, .slice rd rs.length rc])) [13, 12, 10, 5, 4, 3, 2]
 refine pZ tab [5, 6, 7, 8, 9] [] 4 [(7, vS rd rs.length rc), (6, vS qd qs.length qc)] [5, 4, 3, 2] hR hI fun e4 a4 w4 hag hR hI => ?_
 refine ops_nil (then_n ?_)
 refine wp_seq ?_
 refine regL 12 (hR.sel [3, 1, 0] [] rfl rfl) (by kernel_rfl) (fun hS => ?_)
 replace hR := hR.drew; have hF := hR.fore
 refine lK tab [] [] [0, 1, 2, 3, 4, 5, 7, 8, 9] 4 [(25, vS rd rs.length rc), (24, vB na), (21, vS qd qs.length qc), (20, vB (!(na == nb)))] [5, 4] hS hI .nil fun a5 hI => ?_
 refine oneL (i := 6) (f' := 3) (by kernel_rfl) (by rfl) ?_
 refine cH [vB (!(na == nb)), vS qd qs.length qc] hI Tryz.func25 ?_
 refine (wide_wd (!(na == nb)) (hq.now hB hR)).mono ?_
 rintro ex w6 ⟨nz, zs, rfl, hk, hz⟩
 replace hF := hF.grow hR hk; replace hS := hS.same hk
 replace ha := ha.next hB hR hk
 replace hb := hb.next hB hR hk
 replace hq := hq.next hB hR hk
 replace hr := hr.next hB hR hk
 obtain ⟨hB, hR⟩ := nx hB hR hk
 refine ⟨_, rfl, hS, ?_⟩
 replace hI := hI.pt 22 (.v (.agg #[.bool nz, .slice qd zs.length qc])) [22, 25, 24, 21, 20, 5, 4]
 refine oneL (i := 10) (f' := 2) (by kernel_rfl) (by rfl) ?_
 refine cH [vB na, vS rd rs.length rc] hI Tryz.func25 ?_
 refine (wide_wd na (hr.now hB hR)).mono ?_
 rintro ex w7 ⟨nu, us, rfl, hk, hu⟩
 replace hF := hF.grow hR hk; replace hS := hS.same hk
 replace ha := ha.next hB hR hk
 replace hb := hb.next hB hR hk
 replace hr := hr.next hB hR hk
 replace hz := hz.next hB hR hk
 obtain ⟨hB, hR⟩ := nx hB hR hk
 refine ⟨_, rfl, hS, ?_⟩
 replace hI := hI.pt 26 (.v (.agg #[.bool nu, .slice rd us.length rc])) [26, 22, 25, 24, 21, 20, 5, 4]
 refine oneL (i := 11) (f' := 1) (by kernel_rfl) (by rfl) ?_
 refine eK tab 4 .no (.v (undef)) [⟨2, 29, [vB nz, vS qd zs.length qc]⟩] [3, 1, 0] [] [] 4 true hR hI .nil fun e8 a8 w8 hag hR2 hI => ?_
 replace hS := Rel.old (k := 4) hS hR hR2 hF hag [3, 1, 0] [] (by kernel_rfl) (by kernel_rfl) (by kernel_rfl); replace hR := hR2
 refine ⟨hS, ?_⟩
 refine wpL_env hag (by kernel_rfl) ?_
 replace hS := hS.agree (k := 4) (L := []) (Wf.of (by kernel_rfl)) hag
 replace hI := hI.sl [26, 22, 25, 24, 21, 20, 5, 4] rfl
 refine endL (i := 12) (f' := 0) (by kernel_rfl) (by rfl) (by kernel_rfl) ?_
 refine eK tab 4 .no (.v (undef)) [⟨3, 29, [vB nu, vS rd us.length rc]⟩] [2, 1, 0] [] [] 4 true hR hI .nil fun e9 a9 w9 hag hR2 hI => ?_
 replace hR := hR2; clear hR2
 replace hI := hI.sl [26, 22, 25, 24, 21, 20, 5, 4] rfl
 refine doneL (by kernel_rfl) ?_
 refine then_n ?_
 replace hI := hI.sl [5, 4] rfl; replace hR := hR.sel [3, 2] [] rfl rfl
 refine wp_ret (oN tab [.agg [vB nz, vS qd zs.length qc], .agg [vB nu, vS rd us.length rc]] hR hI ?_)
 exact ⟨nz, qd, qc, zs, nu, rd, rc, us, rfl, hB.fin hR, (hz.fin hB hR).to (by rw [hvq, sg_tdiv, ha.eq, hb.eq]) (by omega), (hu.fin hB hR).to (by rw [hvr, sg_tmod na nb, ha.eq, hb.eq]) (by omega)⟩

theorem two_spec {C : Nat → Prop} {w : World} {n : Nat} (hn : n ≤ 100000) :
    Calls P 22 #[.int .i64 (n : Int)] w fun ex w' => ∃ nz zd zc zs, ex = .returned (.agg #[.bool nz, .slice zd (List.length zs) zc]) ∧ KS w w' ∧ Wd (Grow C w w') w' nz zd zc zs (((2 ^ n : Nat) : Int)) (n / 32 + 1) := by
 refine dN (C := C) [vI n] 17 1 Tryz.func22 fun a_ hI hR hB => ?_
 replace hI : Is 17 [] e0 [(0, vI n)] a_ := hI
 refine rK tab 0 [] [] [(2, .p 0 0)] [0] [⟨0, 29, [vB false, vS none 0 0]⟩] [] [] [] 1 hR hI .nil fun e1 a1 w1 hag hR hI => ?_
 refine rK tab 1 [(1, .nw), (2, .nw)] [] [(3, .row 1)] [2, 0] [] [0] [⟨1, 90, 1, ((n / 32) + 1), (List.replicate ((n / 32) + 1) (.int .u32 0))⟩] [] 2 hR hI (.cons (by omega : (0 : Int) ≤ (n : Int)) (.cons (by omega : (0 : Int) < (32 : Int)) (.cons (inR_i64 (n := (n : Int) / (32 : Int)) (by omega)) (.cons (inR_i64 (n := ((n / 32 : Nat) : Int) + (1 : Int)) (by omega)) (.cons (by omega : (0 : Int) ≤ (((n / 32) + 1 : Nat) : Int) ∧ (((n / 32) + 1 : Nat) : Int) ≤ (((n / 32) + 1 : Nat) : Int)) (.cons (by omega : ((4 : Nat) : Int) * (((n / 32) + 1 : Nat) : Int) ≤ 281474976710656) (.cons (by have hm_ : maxLen = 9223372036854775807 := rfl; rw [hm_]; omega : (n / 32) + 1 ≤ maxLen) .nil))))))) fun e2 a2 w2 hag hR hI => ?_
 have er_ : List.replicate (n / 32 + 1) (Value.int .u32 0) = ints .u32 (List.replicate (n / 32 + 1) 0) := ints_replicate .u32 (n / 32 + 1) 0
 rw [er_] at hR
 refine rK tab 2 [(2, .nw), (4, .nw), (5, .eq (.int .u32 ((1 * 2 ^ (n % 32) : Nat) : Int)))] [] [] [3, 2] [] [0] [⟨1, 90, 1, (n / 32 + 1), ((ints .u32 (List.replicate (n / 32 + 1) 0)).set (n / 32) (.int .u32 ((1 * 2 ^ (n % 32) : Nat) : Int)))⟩] [] 2 hR hI (.cons (by omega : (0 : Int) ≤ (n : Int)) (.cons (by omega : (0 : Int) < (32 : Int)) (.cons (inR_i64 (n := (n : Int) / (32 : Int)) (by omega)) (.cons (by omega : (0 : Int) ≤ (n : Int)) (.cons (by omega : (0 : Int) < (32 : Int)) (.cons (congrArg (Value.int .u32) (shl_one _ (by omega) : IntKind.u32.wrap ((1 : Int) * 2 ^ (n % 32)) = ((1 * 2 ^ (n % 32) : Nat) : Int))) (.cons (by omega : (0 : Int) ≤ ((n % 32 : Nat) : Int)) (.cons (by show _ ≤ (32 : Int); omega : ((n % 32 : Nat) : Int) ≤ (IntKind.u32.bits : Int)) (.cons (by omega : (0 : Int) ≤ ((n / 32 : Nat) : Int) ∧ ((n / 32 : Nat) : Int) < ((n / 32 + 1 : Nat) : Int)) (.cons (by omega : n / 32 < (n / 32 + 1) * 1) .nil)))))))))) fun e3 a3 w3 hag hR hI => ?_
 rw [ints_set] at hR
 refine wp_seq (reg (is := [0, 1, 2]) (by kernel_rfl) ?_)
 refine pZ tab [0] [1, 2] 2 [(15, .row 1)] [2] hR hI fun e4 a4 w4 hag hR hI => ?_
 obtain ⟨hB_, hR_, hrel_, zd, zc, hv_, hcells_, hlen_, hcap_, hmax_⟩ := hB.release hR (y := ⟨1, 90, 1, (n / 32 + 1), (ints .u32 ((List.replicate (n / 32 + 1) 0).set (n / 32) (1 * 2 ^ (n % 32))))⟩) (by simp) rfl _ dropN_mem
 have hm : Sl .u32 4294967296 _ _ zd zc ((List.replicate (n / 32 + 1) 0).set (n / 32) (1 * 2 ^ (n % 32))) := ⟨hcells_, (dig_pow n), (by dsimp only at hlen_ hcap_; rw [ints_length] at hlen_; omega), hmax_⟩
 replace hI := hI.re 15 (vS zd (n / 32 + 1) zc) rfl hv_
 replace hB := hB_; replace hR := hR_.sel [0] [] rfl rfl; clear hB_ hR_ hrel_ hcells_ hv_
 have hln : ((List.replicate (n / 32 + 1) 0).set (n / 32) (1 * 2 ^ (n % 32))).length = n / 32 + 1 := by rw [List.length_set, List.length_replicate]
 replace hI := hI.re 15 (vS zd (((List.replicate (n / 32 + 1) 0).set (n / 32) (1 * 2 ^ (n % 32))).length) zc) rfl (by simp only [den]; rw [hln])
 refine cO [vB false, vS zd (((List.replicate (n / 32 + 1) 0).set (n / 32) (1 * 2 ^ (n % 32))).length) zc] hI Tryz.func25 ?_
 refine (wide_wd false (hm.now hB hR)).mono ?_
 rintro ex w5 ⟨nz, zs, rfl, hk, hz⟩
 replace hm := hm.next hB hR hk
 obtain ⟨hB, hR⟩ := nx hB hR hk
 refine ⟨_, rfl, ?_⟩
 replace hI := hI.pt 16 (.v (.agg #[.bool nz, .slice zd zs.length zc])) [16, 15, 2]
 refine pK tab [2] [] 2 [] [] [] [2] [⟨0, 29, [vB nz, vS zd zs.length zc]⟩] [] [] [] 2 hR hI .nil fun e6 a6 w6 hag hR hI => ?_
 refine ops_nil (then_n ?_)
 refine wp_ret (oN tab [.agg [vB nz, vS zd zs.length zc]] hR hI ?_)
 exact ⟨nz, zd, zc, zs, rfl, hB.fin hR, (hz.fin hB hR).to (by rw [val_pow]; rfl) (by rw [hln]; exact Nat.le_refl _)⟩

theorem fromWords_spec {C : Nat → Prop} {w : World} {ad : Option Addr} {cap : Nat} {ws : List Nat} (hx : Sl .u64 18446744073709551616 C w ad cap ws) (hlen : ws.length ≤ 1000) :
    Calls P 20 #[.slice ad ws.length cap] w fun ex w' => ∃ nz zd zc zs, ex = .returned (.agg #[.bool nz, .slice zd (List.length zs) zc]) ∧ KS w w' ∧ Wd (Grow C w w') w' nz zd zc zs (swv ws) (4 * ws.length + 2) := by
 refine dN (C := C) [vS ad ws.length cap] 44 1 Tryz.func20 fun a_ hI hR hB => ?_
 replace hI : Is 44 [] e0 [(0, vS ad ws.length cap)] a_ := hI
 have hrx := hx.room; have hmx := hx.max; have hgl := hx.get (ws.length - 1) (by decide)
 refine rK tab 0 [] [] [(2, .p 0 0)] [0] [⟨0, 29, [vB false, vS none 0 0]⟩] [] [] [] 1 hR hI .nil fun e1 a1 w1 hag hR hI => ?_
 refine rZ tab 1 [(3, vS none 0 0)] [2, 0] hR hI fun e2 a2 w2 hag hR hI => ?_
 refine wp_seq ?_
 refine rZ tab 1 [(9, .v (.int .i64 0)), (8, vI ws.length), (7, vS ad ws.length cap)] [3, 2, 0] hR hI fun e3 a3 w3 hag hR hI => ?_
 refine wp_block ?_
 obtain ⟨e4, hag_, hr_, hR_⟩ := hR.nilRow (L := [(9, .v (.int .i64 0)), (8, vI ws.length), (7, vS ad ws.length cap), (3, vS none 0 0), (2, .p 0 0), (0, vS ad ws.length cap)]) 1 (by kernel_rfl) 90 1
 replace hI := hI.agreeB (H := [⟨0, 29, [vB false, vS none 0 0]⟩]) (G := []) (by kernel_rfl) hag_; replace hR := hR_; replace hI := hI.re 3 (.row 1) rfl hr_.symm; clear hag_ hr_ hR_
 refine lp (γ := Nat × List Nat) (fun (i, ds) => (⟨[(0, vS ad ws.length cap), (2, .p 0 0), (3, .row 1), (7, vS ad ws.length cap), (8, vI ws.length), (9, vI i)], [⟨0, 29, [vB false, vS none 0 0]⟩], [⟨1, 90, 1, (2 * i), (ints .u32 ds)⟩], 2⟩ : Sy)) (fun (i, ds) e => ds.length = 2 * i ∧ Dig ds ∧ i ≤ ws.length ∧ val ds = wval (ws.take i)) (fun (i, ds) => ws.length - i) (0, []) (⟨rfl, fun _ h => by (cases h), Nat.zero_le _, rfl⟩)
   (hR.sel [0] [1] (by kernel_rfl) (by kernel_rfl)) (hI.sel [0, 2, 3, 7, 8, 9] (by kernel_rfl)) ?_
 clear hR hI
 rintro ⟨i, ds⟩ e5 a5 w5 hp hR hI
 dsimp only at hp hR hI
 obtain ⟨hdl, hdd, hi, hv⟩ := hp; have hgx := hx.get i (by decide)
 refine rZ tab 2 [(10, vB (decide ((i : Int) < (ws.length : Int))))] [0, 2, 3, 7, 8, 9] hR hI fun e6 a6 w6 hag hR hI => ?_
 refine wp_seq ?_
 refine cnd (b := decide ((i : Int) < (ws.length : Int))) hI (by kernel_rfl) (fun hc7 => ?_) (fun hc7 => ?_)
 ·
  replace hI := hI.rb 10 hc7
  try simp only [tolds] at hc7
  refine wp_skip ?_
  refine then_n ?_
  refine wp_seq ?_
  refine wp_block ?_
  refine rK tab 2 [(1, .val (vU (ws.getD i 0)))] [] [(5, vU (ws.getD i 0))] [0, 2, 3, 7, 8, 9] [] [0] [] [1] 2 hR hI (.cons (by omega : (0 : Int) ≤ (i : Int) ∧ (i : Int) < (ws.length : Int)) (.cons (nats_some (i := i) (hx.cells.mono hB.cls) (by omega)) (.cons (nats_load (i := i) (m := 1) (hx.cells.mono hB.cls) (by omega)) .nil))) fun e8 a8 w8 hag hR hI => ?_
  refine aK tab 2 [(2, .eq (.int .u32 ((ws.getD i 0 % 4294967296 : Nat) : Int))), (5, .nw)] [] [(3, .row 3)] [0, 2, 7, 8, 9] [] [0] [⟨3, 90, 1, (2 * i + 2), ((ints .u32 ds) ++ [.int .u32 ((ws.getD i 0 % 4294967296 : Nat) : Int), .int .u32 (((ws.getD i 0) / 4294967296 : Nat) : Int)])⟩] [] 4 hR hI (.cons (congrArg (Value.int .u32) (wrap_u32_nat _ : IntKind.u32.wrap ((ws.getD i 0 : Nat) : Int) = ((ws.getD i 0 % 4294967296 : Nat) : Int))) (.cons (by decide : (0 : Int) ≤ 32) (.cons (by decide : (32 : Int) ≤ (IntKind.u64.bits : Int)) (.cons (inR_u32 (n := (((ws.getD i 0) / 4294967296 : Nat) : Int)) (by omega)) (.cons (by have hm_ : maxLen = 9223372036854775807 := rfl; rw [hm_]; omega : 2 * i + 2 ≤ maxLen) (.cons (by omega : (2 * i + 2) * 4 ≤ 140737488355328) .nil)))))) fun e9 a9 w9 hag hR hI => ?_
  refine normal_block ?_
  refine then_n ?_
  refine aK tab 4 [(0, .nw)] [] [(9, vI (i + 1))] [3, 0, 2, 7, 8] [] [0] [] [3] 4 hR hI (.cons (inR_i64 (n := (i : Int) + (1 : Int)) (by omega)) .nil) fun e10 a10 w10 hag hR hI => ?_
  refine then_n ?_
  replace hR := hR.sel [0] [3] rfl rfl
  obtain ⟨hR, hI⟩ := rnm [(1, 3)] ⟨[(9, vI (i + 1)), (3, .row 1), (0, vS ad ws.length cap), (2, .p 0 0), (7, vS ad ws.length cap), (8, vI ws.length)], [⟨0, 29, [vB false, vS none 0 0]⟩], [⟨1, 90, 1, (2 * i + 2), ((ints .u32 ds) ++ [.int .u32 ((ws.getD i 0 % 4294967296 : Nat) : Int), .int .u32 (((ws.getD i 0) / 4294967296 : Nat) : Int)])⟩], 0⟩ hR hI; dsimp only at hI hR
  rw [ints_two] at hR
  exact ⟨(i + 1, ds ++ [ws.getD i 0 % 4294967296, ws.getD i 0 / 4294967296]), (Env.ren e10 [(1, 3)]), ⟨(from_step hdl hdd hv hgx).1, (from_step hdl hdd hv hgx).2.1, by omega, (from_step hdl hdd hv hgx).2.2⟩, by (try dsimp only); omega, hR.sel [0] [1] (by kernel_rfl) (by kernel_rfl), hI.sel [0, 2, 3, 7, 8, 9] (by kernel_rfl)⟩
 ·
  replace hI := hI.rb 10 hc7
  try simp only [tolds] at hc7
  refine wp_exit ?_
  refine exit_then ?_
  refine exit_then ?_
  refine exit_hit ?_
  refine then_n ?_
  refine wp_seq (reg (is := [0, 1, 2, 3]) (by kernel_rfl) ?_)
  refine pZ tab [0] [1, 2, 3] 2 [(22, .row 1)] [0, 2] hR hI fun e11 a11 w11 hag hR hI => ?_
  obtain ⟨hB_, hR_, hrel_, md, mc, hv_, hcells_, hlen_, hcap_, hmax_⟩ := hB.release hR (y := ⟨1, 90, 1, (2 * i), (ints .u32 ds)⟩) (by simp) rfl _ dropN_mem
  replace hx := hx.rel hrel_
  have hm : Sl .u32 4294967296 _ _ md mc ds := ⟨hcells_, hdd, (by dsimp only at hlen_ hcap_; rw [ints_length] at hlen_; omega), hmax_⟩
  replace hI := hI.re 22 (vS md (2 * i) mc) rfl hv_
  replace hB := hB_; replace hR := hR_.sel [0] [] rfl rfl; clear hB_ hR_ hrel_ hcells_ hv_
  replace hI := hI.re 22 (vS md ds.length mc) rfl (by simp only [den]; rw [hdl])
  refine cO [vB false, vS md ds.length mc] hI Tryz.func25 ?_
  refine (wide_wd false (hm.now hB hR)).mono ?_
  rintro ex w12 ⟨nm, ms, rfl, hk, hms⟩
  replace hm := hm.next hB hR hk
  replace hx := hx.next hB hR hk
  obtain ⟨hB, hR⟩ := nx hB hR hk
  refine ⟨_, rfl, ?_⟩
  replace hI := hI.pt 23 (.v (.agg #[.bool nm, .slice md ms.length mc])) [23, 22, 0, 2]
  refine pK tab [2, 3] [] 2 [] [] [(6, .p 2 0)] [0, 2] [⟨2, 29, [vB nm, vS md ms.length mc]⟩] [0] [] [] 3 hR hI .nil fun e13 a13 w13 hag hR hI => ?_
  refine ops_nil (then_n ?_)
  refine wp_seq ?_
  refine rK tab 3 [(7, .eq (.int .i64 ((ws.length - 1 : Nat) : Int))), (9, .val (vU (ws.getD (ws.length - 1) 0))), (12, .sym)] [4, 5, 6, 7, 8, 9, 10, 11] [(36, vB ((decide ((ws.length : Int) > (0 : Int))) && ((((ws.getD (ws.length - 1) 0) / 9223372036854775808 : Nat) : Int) == (1 : Int))))] [6, 0, 2] [] [2, 0] [] [] 3 hR hI (.cons (rfl : (decide ((ws.length : Int) > (0 : Int))) = (decide ((ws.length : Int) > (0 : Int)))) (.cons (rfl : (decide ((ws.length : Int) > (0 : Int))) = (decide ((ws.length : Int) > (0 : Int)))) (.cons (rfl : (decide ((ws.length : Int) > (0 : Int))) = (decide ((ws.length : Int) > (0 : Int)))) (.cons (rfl : (decide ((ws.length : Int) > (0 : Int))) = (decide ((ws.length : Int) > (0 : Int)))) (.cons (rfl : (decide ((ws.length : Int) > (0 : Int))) = (decide ((ws.length : Int) > (0 : Int)))) (.cons (rfl : (decide ((ws.length : Int) > (0 : Int))) = (decide ((ws.length : Int) > (0 : Int)))) (.cons (fun (hg : ((decide ((ws.length : Int) > (0 : Int))) == true) = true) => have hg := gd_t hg; (congrArg (Value.int .i64) (natsub_i64 (q := 1) (by omega) (by omega) : IntKind.i64.wrap ((ws.length : Int) - (1 : Int)) = ((ws.length - 1 : Nat) : Int)))) (.cons (rfl : (decide ((ws.length : Int) > (0 : Int))) = (decide ((ws.length : Int) > (0 : Int)))) (.cons (rfl : (decide ((ws.length : Int) > (0 : Int))) = (decide ((ws.length : Int) > (0 : Int)))) (.cons (rfl : (decide ((ws.length : Int) > (0 : Int))) = (decide ((ws.length : Int) > (0 : Int)))) (.cons (rfl : (decide ((ws.length : Int) > (0 : Int))) = (decide ((ws.length : Int) > (0 : Int)))) (.cons (fun (hg : ((decide ((ws.length : Int) > (0 : Int))) == true) = true) => have hg := gd_t hg; (by omega : (0 : Int) ≤ ((ws.length - 1 : Nat) : Int) ∧ ((ws.length - 1 : Nat) : Int) < (ws.length : Int))) (.cons (fun (hg : ((decide ((ws.length : Int) > (0 : Int))) == true) = true) => have hg := gd_t hg; (nats_some (i := ws.length - 1) (hx.cells.mono hB.cls) (by omega))) (.cons (rfl : (decide ((ws.length : Int) > (0 : Int))) = (decide ((ws.length : Int) > (0 : Int)))) (.cons (rfl : (decide ((ws.length : Int) > (0 : Int))) = (decide ((ws.length : Int) > (0 : Int)))) (.cons (rfl : (decide ((ws.length : Int) > (0 : Int))) = (decide ((ws.length : Int) > (0 : Int)))) (.cons (rfl : (decide ((ws.length : Int) > (0 : Int))) = (decide ((ws.length : Int) > (0 : Int)))) (.cons (rfl : (decide ((ws.length : Int) > (0 : Int))) = (decide ((ws.length : Int) > (0 : Int)))) (.cons (fun (hg : ((decide ((ws.length : Int) > (0 : Int))) == true) = true) => have hg := gd_t hg; (nats_load (i := ws.length - 1) (m := 1) (hx.cells.mono hB.cls) (by omega))) (.cons (rfl : (decide ((ws.length : Int) > (0 : Int))) = (decide ((ws.length : Int) > (0 : Int)))) (.cons (rfl : (decide ((ws.length : Int) > (0 : Int))) = (decide ((ws.length : Int) > (0 : Int)))) (.cons (rfl : (decide ((ws.length : Int) > (0 : Int))) = (decide ((ws.length : Int) > (0 : Int)))) (.cons (rfl : (decide ((ws.length : Int) > (0 : Int))) = (decide ((ws.length : Int) > (0 : Int)))) (.cons (rfl : (decide ((ws.length : Int) > (0 : Int))) = (decide ((ws.length : Int) > (0 : Int)))) (.cons (rfl : (decide ((ws.length : Int) > (0 : Int))) = (decide ((ws.length : Int) > (0 : Int)))) (.cons (fun (hg : ((decide ((ws.length : Int) > (0 : Int))) == true) = true) => have hg := gd_t hg; (by decide : (0 : Int) ≤ 63)) (.cons (fun (hg : ((decide ((ws.length : Int) > (0 : Int))) == true) = true) => have hg := gd_t hg; (by decide : (63 : Int) ≤ (IntKind.u64.bits : Int))) (.cons (rfl : (decide ((ws.length : Int) > (0 : Int))) = (decide ((ws.length : Int) > (0 : Int)))) (.cons (rfl : (decide ((ws.length : Int) > (0 : Int))) = (decide ((ws.length : Int) > (0 : Int)))) (.cons (rfl : (decide ((ws.length : Int) > (0 : Int))) = (decide ((ws.length : Int) > (0 : Int)))) (.cons (rfl : (decide ((ws.length : Int) > (0 : Int))) = (decide ((ws.length : Int) > (0 : Int)))) (.cons (rfl : (decide ((ws.length : Int) > (0 : Int))) = (decide ((ws.length : Int) > (0 : Int)))) (.cons (rfl : (decide ((ws.length : Int) > (0 : Int))) = (decide ((ws.length : Int) > (0 : Int)))) (.cons (rfl : (decide ((ws.length : Int) > (0 : Int))) = (decide ((ws.length : Int) > (0 : Int)))) (.cons (by first | exact (by intro b_; cases b_ <;> rfl : ∀ b_ : Bool, (b_ == true) = b_) _ | exact (by intro b_; cases b_ <;> rfl : ∀ b_ : Bool, (b_ == false) = !b_) _ | exact Bool.beq_true _ | exact Bool.beq_false _ | rfl | simp_all : ((decide ((ws.length : Int) > (0 : Int))) == true) = (decide ((ws.length : Int) > (0 : Int)))) .nil))))))))))))))))))))))))))))))))))) fun e14 a14 w14 hag hR hI => ?_
  refine cnd (b := ((decide ((ws.length : Int) > (0 : Int))) && ((((ws.getD (ws.length - 1) 0) / 9223372036854775808 : Nat) : Int) == (1 : Int)))) hI (by kernel_rfl) (fun hc15 => ?_) (fun hc15 => ?_)
  ·
   replace hI := hI.rb 36 hc15
   try simp only [tolds] at hc15
   have hcz : 0 < ws.length ∧ 9223372036854775808 ≤ ws.getD (ws.length - 1) 0 := by omega
   refine regL 6 hR (by kernel_rfl) (fun hS => ?_)
   replace hR := hR.drew; have hF := hR.fore
   refine lK tab [(3, .nw)] [] [0, 1, 2, 3] 3 [(40, vI (64 * ws.length)), (37, .agg [vB nm, vS md ms.length mc])] [6, 2] hS hI (.cons (inR_i64 (n := (64 : Int) * (ws.length : Int)) (by omega)) .nil) fun a16 hI => ?_
   refine oneL (i := 4) (f' := 2) (by kernel_rfl) (by rfl) ?_
   refine cH [vI (64 * ws.length)] hI Tryz.func22 ?_
   refine (two_spec (C := Now hB) (n := 64 * ws.length) (by omega)).mono ?_
   rintro ex w17 ⟨nt, td, tc, ts, rfl, hk, ht⟩
   replace hF := hF.grow hR hk; replace hS := hS.same hk
   replace hms := hms.next hB hR hk
   replace hx := hx.next hB hR hk
   obtain ⟨hB, hR⟩ := nx hB hR hk
   refine ⟨_, rfl, hS, ?_⟩
   replace hI := hI.pt 41 (.v (.agg #[.bool nt, .slice td ts.length tc])) [41, 40, 37, 6, 2]
   refine oneL (i := 5) (f' := 1) (by kernel_rfl) (by rfl) ?_
   refine cH [.agg [vB nm, vS md ms.length mc], .v (.agg #[.bool nt, .slice td ts.length tc])] hI Tryz.func43 ?_
   refine (wideSub_spec (hms.now hB hR) (ht.now hB hR) (by omega)).mono ?_
   rintro ex w18 ⟨nz, zd, zc, z, rfl, hk, hz⟩
   replace hF := hF.grow hR hk; replace hS := hS.same hk
   replace hms := hms.next hB hR hk
   replace ht := ht.next hB hR hk
   replace hx := hx.next hB hR hk
   obtain ⟨hB, hR⟩ := nx hB hR hk
   refine ⟨_, rfl, hS, ?_⟩
   replace hI := hI.pt 42 (.v (.agg #[.bool nz, .slice zd z.length zc])) [42, 41, 40, 37, 6, 2]
   refine endL (i := 6) (f' := 0) (by kernel_rfl) (by rfl) (by kernel_rfl) ?_
   refine eK tab 3 .no (.v (undef)) [⟨2, 29, [vB nz, vS zd z.length zc]⟩] [0] [] [] 3 true hR hI .nil fun e19 a19 w19 hag hR2 hI => ?_
   replace hR := hR2; clear hR2
   replace hI := hI.sl [42, 41, 40, 37, 6, 2] rfl
   refine doneL (by kernel_rfl) ?_
   replace hI := hI.sl [6, 2] rfl; replace hR := hR.sel [2, 0] [] rfl rfl
   refine then_n ?_
   refine rK tab 3 [] [] [] [2] [⟨0, 29, [vB nz, vS zd z.length zc]⟩] [] [] [] 3 hR hI .nil fun e20 a20 w20 hag hR hI => ?_
   refine wp_ret (oN tab [.agg [vB nz, vS zd z.length zc]] hR hI ?_)
   obtain rfl : i = ws.length := by omega
   rw [List.take_of_length_le (Nat.le_refl _)] at hv
   exact ⟨nz, zd, zc, z, rfl, hB.fin hR, (hz.fin hB hR).to (by rw [swv_neg hcz, ← hv]; rfl) (by omega)⟩
  ·
   replace hI := hI.rb 36 hc15
   try simp only [tolds] at hc15
   have hcz : ¬ (0 < ws.length ∧ 9223372036854775808 ≤ ws.getD (ws.length - 1) 0) := by omega
   refine wp_skip ?_
   refine then_n ?_
   refine rK tab 3 [] [] [] [2] [⟨0, 29, [vB nm, vS md ms.length mc]⟩] [] [] [] 3 hR hI .nil fun e21 a21 w21 hag hR hI => ?_
   refine wp_ret (oN tab [.agg [vB nm, vS md ms.length mc]] hR hI ?_)
   obtain rfl : i = ws.length := by omega
   rw [List.take_of_length_le (Nat.le_refl _)] at hv
   exact ⟨nm, md, mc, ms, rfl, hB.fin hR, (hms.fin hB hR).to (by rw [swv_pos hcz, ← hv]; rfl) (by omega)⟩

end Go.Proofs.YtmendapdibnbdaaGreatDoor.Stride
