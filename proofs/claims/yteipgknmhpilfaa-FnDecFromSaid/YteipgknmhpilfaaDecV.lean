/- Walks of the program's functions, printed by a program of mine (walk.py) over the words of Stride: each function's contract. -/
import Derived.Test.YteipgknmhpilfaaDecW
namespace Go.Proofs.Yteipgknmhpilfaa.Stride
open Go Go.RowKit Go.Proofs.Yteipgknmhpilfaa.Mag
set_option linter.unusedVariables false
set_option linter.unusedSimpArgs false
/-- A signed number in memory: its sign and its digits. -/
structure Wd (C : Nat → Prop) (w : World) (n : Bool) (ad : Option Addr) (cap : Nat) (xs : List Nat) (z : Int) (L : Nat) : Prop where
  sl : Sl .u32 4294967296 C w ad cap xs
  trim : Trim xs
  sign : n = true → 0 < val xs
  eq : sg n (val xs) = z
  len : xs.length ≤ L
section
variable {C0 C F : Nat → Prop} {w w0 wc w' : World} {e : Env} {H : List Blk} {G : List Row} {n : Bool} {ad : Option Addr} {cap L : Nat} {xs : List Nat} {z : Int}
theorem Wd.cells (h : Wd C w n ad cap xs z L) : Nats C w .u32 ad xs := h.sl.cells
theorem Wd.next (h : Wd C w0 n ad cap xs z L) (hB : Base C0 w C F w0) (hR : Rel F w0 e H G wc) (hk : Keep (fun b => b < wc.heap.size) wc w') : Wd (Grow (fun b => C b ∧ F b) wc w') w' n ad cap xs z L := ⟨h.sl.next hB hR hk, h.trim, h.sign, h.eq, h.len⟩
theorem Wd.now (h : Wd C w0 n ad cap xs z L) (hB : Base C0 w C F w0) (hR : Rel F w0 e H G wc) : Wd (fun b => C b ∧ F b) wc n ad cap xs z L := ⟨h.sl.now hB hR, h.trim, h.sign, h.eq, h.len⟩
theorem Wd.fin (h : Wd C w0 n ad cap xs z L) (hB : Base C0 w C F w0) (hR : Rel F w0 e H G wc) : Wd (Grow C0 w wc) wc n ad cap xs z L := ⟨h.sl.fin hB hR, h.trim, h.sign, h.eq, h.len⟩
theorem Wd.grow (h : Wd C w n ad cap xs z L) (hk : Keep (fun b => b < w.heap.size) w w') : Wd (Grow C w w') w' n ad cap xs z L := ⟨h.sl.grow hk, h.trim, h.sign, h.eq, h.len⟩
theorem Wd.rel {v : Value} (h : Wd C w0 n ad cap xs z L) (hc : ∀ {ad : Option Addr} {vs : List Value}, Cells C w0 ad vs → Cells (Gave C F v wc) wc ad vs) : Wd (Gave C F v wc) wc n ad cap xs z L := ⟨h.sl.rel hc, h.trim, h.sign, h.eq, h.len⟩
theorem Wd.to (h : Wd C w n ad cap xs z L) {z' : Int} {L' : Nat} (hz : z = z') (hl : L ≤ L') : Wd C w n ad cap xs z' L' := ⟨h.sl, h.trim, h.sign, h.eq.trans hz, Nat.le_trans h.len hl⟩
end
theorem wide_wd {C : Nat → Prop} {w : World} (neg : Bool) {ad : Option Addr} {cap : Nat} {xs : List Nat} (hx : Sl .u32 4294967296 C w ad cap xs) :
    Calls P 23 #[.bool neg, .slice ad xs.length cap] w fun ex w' => ∃ n zs, ex = .returned (.agg #[.bool n, .slice ad (List.length zs) cap]) ∧ Keep (fun b => b < w.heap.size) w w' ∧ Wd (Grow C w w') w' n ad cap zs (sg neg (val xs)) xs.length :=
  (wide_spec neg hx).mono fun ex w' ⟨ys, he, hk, hs, hv, ht, hl⟩ => ⟨_, ys, he, hk, hs, ht, fun h => by
    have h1 : ((ys.length : Nat) : Int) > 0 := by
      rcases Bool.and_eq_true_iff.1 h with ⟨_, h2⟩
      exact of_decide_eq_true h2
    exact Nat.pos_of_ne_zero fun h2 => by
      have := (val_eq_zero ht).1 h2
      rw [this] at h1
      exact absurd h1 (by decide), by
    rw [← hv]
    by_cases h1 : ((ys.length : Nat) : Int) > 0
    · rw [decide_eq_true h1, Bool.and_true]
    · have h2 : ys = [] := by
        cases ys with
        | nil => rfl
        | cons => exact absurd (by simp) h1
      rw [h2]
      show sg _ 0 = sg _ 0
      rw [sg_zero, sg_zero], hl⟩


set_option maxHeartbeats 4000000 in
set_option maxRecDepth 100000 in
theorem negated_spec {C : Nat → Prop} {w : World} {na : Bool} {ad : Option Addr} {cap : Nat} {xs : List Nat} {a : Int} {L : Nat} (ha : Wd C w na ad cap xs a L) :
    Calls P 39 #[.agg #[.bool na, .slice ad (List.length xs) cap]] w fun ex w' => ∃ nz zd zc zs, ex = .returned (.agg #[.bool nz, .slice zd (List.length zs) zc]) ∧ Keep (fun b => b < w.heap.size) w w' ∧ Wd (Grow C w w') w' nz zd zc zs (-a) (L) := by
  refine doorN (e := e0) (vs := [.v (.agg #[.bool na, .slice ad xs.length cap])]) (n := 9) (m := 1) Try.func39 rfl rfl rfl (by decide) fun a_ hI => ?_
  replace hI : Is 9 [] e0 [(0, .v (.agg #[.bool na, .slice ad xs.length cap]))] a_ := hI
  have hR : Rel (fun b => b < w.heap.size) w e0 [] [] w := Rel.start (fun k hk => hk)
  have hB : Base C w C (fun b => b < w.heap.size) w := Base.start
  refine reg_seq tab (k := 0) (hs := []) (sy := []) (ks := [2, 1]) (bs := [1, 0]) (gs := [])
      (L' := [(2, .p 1 0), (1, .p 0 0)])
      (H' := [⟨1, 29, [.v (.bool false), .v (.slice none 0 0)]⟩, ⟨0, 29, [.v (.bool na), .v (.slice ad xs.length cap)]⟩]) (G' := []) (k' := 2) hR hI (by kernel_rfl)
      .nil (fun e1 a1 w1 hag hR hI => ?_)
  refine wp_seq ?_
  refine reg (is := [0, 1, 2, 3, 4, 5, 6]) (by kernel_rfl) ?_
  refine part_ tab [0, 1, 2, 3, 4] [5, 6] (by rfl) (k := 2) (hs := []) (sy := []) (ks := [7, 5, 2]) (bs := [1]) (gs := [])
      (L' := [(7, .v (.slice ad xs.length cap)), (5, .v (.bool (!na))), (2, .p 1 0)])
      (H' := [⟨1, 29, [.v (.bool false), .v (.slice none 0 0)]⟩]) (G' := []) (k' := 2) hR hI (by kernel_rfl)
      .nil (fun e2 a2 w2 hag hR hI => ?_)
  refine callOp (ys := [.v (.bool (!na)), .v (.slice ad xs.length cap)]) hI rfl rfl ⟨_, rfl, rfl, rfl⟩ (by kernel_rfl) Try.func23 rfl rfl ?_
  refine (wide_wd (!na) (ha.sl.now hB hR)).mono ?_
  rintro ex w3 ⟨nz, zs, rfl, hk, hz⟩
  replace ha := ha.next hB hR hk
  have hB_ := hB.next hR hk
  replace hR := hR.after hk
  replace hB := hB_; clear hB_ hk
  refine ⟨_, rfl, ?_⟩
  replace hI := hI.put (d := some 8) (x := .v (.agg #[.bool nz, .slice ad zs.length cap])) (by intro t ht; cases ht; decide) rfl
  replace hI := hI.sel [8, 7, 5, 2] (by kernel_rfl : sel _ _ = some [(8, .v (.agg #[.bool nz, .slice ad zs.length cap])), (7, .v (.slice ad xs.length cap)), (5, .v (.bool (!na))), (2, .p 1 0)])
  refine part_ tab [6] [] (by rfl) (k := 2) (hs := []) (sy := []) (ks := [2]) (bs := [1]) (gs := [])
      (L' := [(2, .p 1 0)])
      (H' := [⟨1, 29, [.v (.bool nz), .v (.slice ad zs.length cap)]⟩]) (G' := []) (k' := 2) hR hI (by kernel_rfl)
      .nil (fun e4 a4 w4 hag hR hI => ?_)
  refine ops_nil ?_
  refine then_n ?_
  refine wp_ret ?_
  refine outN tab (xs := [.agg [.v (.bool nz), .v (.slice ad zs.length cap)]]) hR hI rfl (by kernel_rfl) ?_
  exact ⟨nz, ad, cap, zs, rfl, hB.fin hR, (hz.fin hB hR).to (by rw [sg_neg, ha.eq]) ha.len⟩

set_option maxHeartbeats 4000000 in
set_option maxRecDepth 100000 in
theorem wideMul_spec {C : Nat → Prop} {w : World} {na nb : Bool} {ad bd : Option Addr} {cap dap : Nat} {xs ys : List Nat} {a b : Int} {L M : Nat} (ha : Wd C w na ad cap xs a L) (hb : Wd C w nb bd dap ys b M) (hlen : L + M ≤ 1000000) :
    Calls P 10 #[.agg #[.bool na, .slice ad (List.length xs) cap], .agg #[.bool nb, .slice bd (List.length ys) dap]] w fun ex w' => ∃ nz zd zc zs, ex = .returned (.agg #[.bool nz, .slice zd (List.length zs) zc]) ∧ Keep (fun b => b < w.heap.size) w w' ∧ Wd (Grow C w w') w' nz zd zc zs (a * b) (L + M) := by
  refine doorN (e := e0) (vs := [.v (.agg #[.bool na, .slice ad xs.length cap]), .v (.agg #[.bool nb, .slice bd ys.length dap])]) (n := 16) (m := 2) Try.func10 rfl rfl rfl (by decide) fun a_ hI => ?_
  replace hI : Is 16 [] e0 [(0, .v (.agg #[.bool na, .slice ad xs.length cap])), (1, .v (.agg #[.bool nb, .slice bd ys.length dap]))] a_ := hI
  have hR : Rel (fun b => b < w.heap.size) w e0 [] [] w := Rel.start (fun k hk => hk)
  have hB : Base C w C (fun b => b < w.heap.size) w := Base.start
  have hla := ha.len; have hlb := hb.len
  refine reg_seq tab (k := 0) (hs := []) (sy := []) (ks := [4, 3, 2]) (bs := [2, 1, 0]) (gs := [])
      (L' := [(4, .p 2 0), (3, .p 1 0), (2, .p 0 0)])
      (H' := [⟨2, 29, [.v (.bool false), .v (.slice none 0 0)]⟩, ⟨1, 29, [.v (.bool nb), .v (.slice bd ys.length dap)]⟩, ⟨0, 29, [.v (.bool na), .v (.slice ad xs.length cap)]⟩]) (G' := []) (k' := 3) hR hI (by kernel_rfl)
      .nil (fun e1 a1 w1 hag hR hI => ?_)
  refine wp_seq ?_
  refine regL 11 hR (by kernel_rfl) (fun hS => ?_)
  replace hR := hR.drew; have hF := hR.fore
  refine takeL tab (H := [⟨2, 29, [.v (.bool false), .v (.slice none 0 0)]⟩, ⟨1, 29, [.v (.bool nb), .v (.slice bd ys.length dap)]⟩, ⟨0, 29, [.v (.bool na), .v (.slice ad xs.length cap)]⟩]) (G := []) (hs := []) (gs := []) (is := [0, 1, 2, 3, 4, 5, 6, 7, 8]) (ks := [13, 11, 9, 4]) (f' := 3)
      (L' := [(13, .v (.slice bd ys.length dap)), (11, .v (.slice ad xs.length cap)), (9, .v (.bool (!(na == nb)))), (4, .p 2 0)]) hS hI (by kernel_rfl) (fun _ _ _ _ _ h => h) (by kernel_rfl)
      .nil (by kernel_rfl) (by kernel_rfl) (by kernel_rfl) (by rfl) (fun a2 hI => ?_)
  refine oneL (i := 9) (f' := 2) (by kernel_rfl) (by rfl) ?_
  refine callH (ys := [.v (.slice ad xs.length cap), .v (.slice bd ys.length dap)]) hI rfl rfl ⟨_, rfl, rfl, rfl⟩ (by kernel_rfl) Try.func24 rfl rfl ?_
  refine (magMul_spec (ha.sl.now hB hR) (hb.sl.now hB hR) (by omega)).mono ?_
  rintro ex w3 ⟨m, md, mc, rfl, hk, hm, hvm, htm, hlm⟩
  replace hF := hF.grow hR hk; replace hS := hS.same hk
  replace ha := ha.next hB hR hk
  replace hb := hb.next hB hR hk
  have hB_ := hB.next hR hk
  replace hR := hR.after hk
  replace hB := hB_; clear hB_ hk
  refine ⟨_, rfl, hS, ?_⟩
  replace hI := hI.put (d := some 14) (x := .v (.slice md m.length mc)) (by intro t ht; cases ht; decide) rfl
  replace hI := hI.sel [14, 13, 11, 9, 4] (by kernel_rfl : sel _ _ = some [(14, .v (.slice md m.length mc)), (13, .v (.slice bd ys.length dap)), (11, .v (.slice ad xs.length cap)), (9, .v (.bool (!(na == nb)))), (4, .p 2 0)])
  refine oneL (i := 10) (f' := 1) (by kernel_rfl) (by rfl) ?_
  refine callH (ys := [.v (.bool (!(na == nb))), .v (.slice md m.length mc)]) hI rfl rfl ⟨_, rfl, rfl, rfl⟩ (by kernel_rfl) Try.func23 rfl rfl ?_
  refine (wide_wd (!(na == nb)) (hm.now hB hR)).mono ?_
  rintro ex w4 ⟨nz, zs, rfl, hk, hz⟩
  replace hF := hF.grow hR hk; replace hS := hS.same hk
  replace ha := ha.next hB hR hk
  replace hb := hb.next hB hR hk
  replace hm := hm.next hB hR hk
  have hB_ := hB.next hR hk
  replace hR := hR.after hk
  replace hB := hB_; clear hB_ hk
  refine ⟨_, rfl, hS, ?_⟩
  replace hI := hI.put (d := some 15) (x := .v (.agg #[.bool nz, .slice md zs.length mc])) (by intro t ht; cases ht; decide) rfl
  replace hI := hI.sel [15, 14, 13, 11, 9, 4] (by kernel_rfl : sel _ _ = some [(15, .v (.agg #[.bool nz, .slice md zs.length mc])), (14, .v (.slice md m.length mc)), (13, .v (.slice bd ys.length dap)), (11, .v (.slice ad xs.length cap)), (9, .v (.bool (!(na == nb)))), (4, .p 2 0)])
  refine endL (i := 11) (f' := 0) (by kernel_rfl) (by rfl) (by kernel_rfl) ?_
  refine effH tab (k := 3) (hh := .no) (r := ⟨.v (undef), [⟨2, 29, [.v (.bool nz), .v (.slice md zs.length mc)]⟩, ⟨1, 29, [.v (.bool nb), .v (.slice bd ys.length dap)]⟩, ⟨0, 29, [.v (.bool na), .v (.slice ad xs.length cap)]⟩], [], 3, _, true⟩) hR hI (by kernel_rfl) rfl rfl rfl (by kernel_rfl) .nil (fun e5 a5 w5 hag hR2 hI => ?_)
  replace hR := hR2; clear hR2
  replace hI := hI.sel [15, 14, 13, 11, 9, 4] (by kernel_rfl : sel _ _ = some [(15, .v (.agg #[.bool nz, .slice md zs.length mc])), (14, .v (.slice md m.length mc)), (13, .v (.slice bd ys.length dap)), (11, .v (.slice ad xs.length cap)), (9, .v (.bool (!(na == nb)))), (4, .p 2 0)])
  refine doneL (by kernel_rfl) ?_
  refine then_n ?_
  replace hI := hI.sel [4] (by kernel_rfl : sel _ _ = some [(4, .p 2 0)]); replace hR := hR.sel [2] [] (by kernel_rfl : selH _ _ = some [⟨2, 29, [.v (.bool nz), .v (.slice md zs.length mc)]⟩]) (by kernel_rfl : selG _ _ = some [])
  refine wp_ret ?_
  refine outN tab (xs := [.agg [.v (.bool nz), .v (.slice md zs.length mc)]]) hR hI rfl (by kernel_rfl) ?_
  exact ⟨nz, md, mc, zs, rfl, hB.fin hR, (hz.fin hB hR).to (by rw [hvm, sg_mul, ha.eq, hb.eq]) (by omega)⟩

theorem sub_pos {a b : Bool} {x y : Nat} (h : ¬ a = b) (ha : a = true → 0 < x) (hb : b = true → 0 < y) (hle : y ≤ x) : 0 < x := by
  cases a
  · cases b
    · exact absurd rfl h
    · exact Nat.lt_of_lt_of_le (hb rfl) hle
  · exact ha rfl

set_option maxHeartbeats 4000000 in
set_option maxRecDepth 100000 in
theorem wideAdd_spec {C : Nat → Prop} {w : World} {na nb : Bool} {ad bd : Option Addr} {cap dap : Nat} {xs ys : List Nat} {a b : Int} {L M : Nat} (ha : Wd C w na ad cap xs a L) (hb : Wd C w nb bd dap ys b M) (hlen : L + M ≤ 1000000) :
    Calls P 41 #[.agg #[.bool na, .slice ad (List.length xs) cap], .agg #[.bool nb, .slice bd (List.length ys) dap]] w fun ex w' => ∃ nz zd zc zs, ex = .returned (.agg #[.bool nz, .slice zd (List.length zs) zc]) ∧ Keep (fun b => b < w.heap.size) w w' ∧ Wd (Grow C w w') w' nz zd zc zs (a + b) (L + M + 1) := by
  refine doorN (e := e0) (vs := [.v (.agg #[.bool na, .slice ad xs.length cap]), .v (.agg #[.bool nb, .slice bd ys.length dap])]) (n := 40) (m := 2) Try.func41 rfl rfl rfl (by decide) fun a_ hI => ?_
  replace hI : Is 40 [] e0 [(0, .v (.agg #[.bool na, .slice ad xs.length cap])), (1, .v (.agg #[.bool nb, .slice bd ys.length dap]))] a_ := hI
  have hR : Rel (fun b => b < w.heap.size) w e0 [] [] w := Rel.start (fun k hk => hk)
  have hB : Base C w C (fun b => b < w.heap.size) w := Base.start
  have hla := ha.len; have hlb := hb.len
  refine reg_seq tab (k := 0) (hs := []) (sy := []) (ks := [4, 3, 2]) (bs := [2, 1, 0]) (gs := [])
      (L' := [(4, .p 2 0), (3, .p 1 0), (2, .p 0 0)])
      (H' := [⟨2, 29, [.v (.bool false), .v (.slice none 0 0)]⟩, ⟨1, 29, [.v (.bool nb), .v (.slice bd ys.length dap)]⟩, ⟨0, 29, [.v (.bool na), .v (.slice ad xs.length cap)]⟩]) (G' := []) (k' := 3) hR hI (by kernel_rfl)
      .nil (fun e1 a1 w1 hag hR hI => ?_)
  refine wp_seq ?_
  refine reg_seq tab (k := 3) (hs := []) (sy := []) (ks := [9, 4, 3, 2]) (bs := [2, 1, 0]) (gs := [])
      (L' := [(9, .v (.bool (na == nb))), (4, .p 2 0), (3, .p 1 0), (2, .p 0 0)])
      (H' := [⟨2, 29, [.v (.bool false), .v (.slice none 0 0)]⟩, ⟨1, 29, [.v (.bool nb), .v (.slice bd ys.length dap)]⟩, ⟨0, 29, [.v (.bool na), .v (.slice ad xs.length cap)]⟩]) (G' := []) (k' := 3) hR hI (by kernel_rfl)
      .nil (fun e2 a2 w2 hag hR hI => ?_)
  refine cnd (b := (na == nb)) hI (by kernel_rfl) (fun hc3 => ?_) (fun hc3 => ?_)
  · skip
    replace hI := hI.re 9 (.v (.bool true)) rfl (congrArg Value.bool hc3)
    try simp only [decide_eq_true_eq, decide_eq_false_iff_not, beq_iff_eq, bne_iff_ne, beq_eq_false_iff_ne, bne_eq_false_iff_eq, Bool.and_eq_true, Bool.and_eq_false_iff, Bool.or_eq_true, Bool.or_eq_false_iff, Bool.not_eq_true', Bool.not_eq_false', ne_eq] at hc3
    have hsg : na = nb := hc3
    refine wp_seq ?_
    refine regL 8 hR (by kernel_rfl) (fun hS => ?_)
    replace hR := hR.drew; have hF := hR.fore
    refine takeL tab (H := [⟨2, 29, [.v (.bool false), .v (.slice none 0 0)]⟩, ⟨1, 29, [.v (.bool nb), .v (.slice bd ys.length dap)]⟩, ⟨0, 29, [.v (.bool na), .v (.slice ad xs.length cap)]⟩]) (G := []) (hs := []) (gs := []) (is := [0, 1, 2, 3, 4, 5]) (ks := [15, 13, 11, 4]) (f' := 3)
        (L' := [(15, .v (.slice bd ys.length dap)), (13, .v (.slice ad xs.length cap)), (11, .v (.bool na)), (4, .p 2 0)]) hS hI (by kernel_rfl) (fun _ _ _ _ _ h => h) (by kernel_rfl)
        .nil (by kernel_rfl) (by kernel_rfl) (by kernel_rfl) (by rfl) (fun a4 hI => ?_)
    refine oneL (i := 6) (f' := 2) (by kernel_rfl) (by rfl) ?_
    refine callH (ys := [.v (.slice ad xs.length cap), .v (.slice bd ys.length dap)]) hI rfl rfl ⟨_, rfl, rfl, rfl⟩ (by kernel_rfl) Try.func46 rfl rfl ?_
    refine (magAdd_spec (ha.sl.now hB hR) (hb.sl.now hB hR) (by omega)).mono ?_
    rintro ex w5 ⟨m, md, mc, rfl, hk, hm, hvm, hlm⟩
    replace hF := hF.grow hR hk; replace hS := hS.same hk
    replace ha := ha.next hB hR hk
    replace hb := hb.next hB hR hk
    have hB_ := hB.next hR hk
    replace hR := hR.after hk
    replace hB := hB_; clear hB_ hk
    refine ⟨_, rfl, hS, ?_⟩
    replace hI := hI.put (d := some 16) (x := .v (.slice md m.length mc)) (by intro t ht; cases ht; decide) rfl
    replace hI := hI.sel [16, 15, 13, 11, 4] (by kernel_rfl : sel _ _ = some [(16, .v (.slice md m.length mc)), (15, .v (.slice bd ys.length dap)), (13, .v (.slice ad xs.length cap)), (11, .v (.bool na)), (4, .p 2 0)])
    refine oneL (i := 7) (f' := 1) (by kernel_rfl) (by rfl) ?_
    refine callH (ys := [.v (.bool na), .v (.slice md m.length mc)]) hI rfl rfl ⟨_, rfl, rfl, rfl⟩ (by kernel_rfl) Try.func23 rfl rfl ?_
    refine (wide_wd na (hm.now hB hR)).mono ?_
    rintro ex w6 ⟨nz, zs, rfl, hk, hz⟩
    replace hF := hF.grow hR hk; replace hS := hS.same hk
    replace ha := ha.next hB hR hk
    replace hb := hb.next hB hR hk
    replace hm := hm.next hB hR hk
    have hB_ := hB.next hR hk
    replace hR := hR.after hk
    replace hB := hB_; clear hB_ hk
    refine ⟨_, rfl, hS, ?_⟩
    replace hI := hI.put (d := some 17) (x := .v (.agg #[.bool nz, .slice md zs.length mc])) (by intro t ht; cases ht; decide) rfl
    replace hI := hI.sel [17, 16, 15, 13, 11, 4] (by kernel_rfl : sel _ _ = some [(17, .v (.agg #[.bool nz, .slice md zs.length mc])), (16, .v (.slice md m.length mc)), (15, .v (.slice bd ys.length dap)), (13, .v (.slice ad xs.length cap)), (11, .v (.bool na)), (4, .p 2 0)])
    refine endL (i := 8) (f' := 0) (by kernel_rfl) (by rfl) (by kernel_rfl) ?_
    refine effH tab (k := 3) (hh := .no) (r := ⟨.v (undef), [⟨2, 29, [.v (.bool nz), .v (.slice md zs.length mc)]⟩, ⟨1, 29, [.v (.bool nb), .v (.slice bd ys.length dap)]⟩, ⟨0, 29, [.v (.bool na), .v (.slice ad xs.length cap)]⟩], [], 3, _, true⟩) hR hI (by kernel_rfl) rfl rfl rfl (by kernel_rfl) .nil (fun e7 a7 w7 hag hR2 hI => ?_)
    replace hR := hR2; clear hR2
    replace hI := hI.sel [17, 16, 15, 13, 11, 4] (by kernel_rfl : sel _ _ = some [(17, .v (.agg #[.bool nz, .slice md zs.length mc])), (16, .v (.slice md m.length mc)), (15, .v (.slice bd ys.length dap)), (13, .v (.slice ad xs.length cap)), (11, .v (.bool na)), (4, .p 2 0)])
    refine doneL (by kernel_rfl) ?_
    refine then_n ?_
    replace hI := hI.sel [4] (by kernel_rfl : sel _ _ = some [(4, .p 2 0)]); replace hR := hR.sel [2] [] (by kernel_rfl : selH _ _ = some [⟨2, 29, [.v (.bool nz), .v (.slice md zs.length mc)]⟩]) (by kernel_rfl : selG _ _ = some [])
    refine wp_ret ?_
    refine ret_then ?_
    refine outN tab (xs := [.agg [.v (.bool nz), .v (.slice md zs.length mc)]]) hR hI rfl (by kernel_rfl) ?_
    exact ⟨nz, md, mc, zs, rfl, hB.fin hR, (hz.fin hB hR).to (by rw [hvm, sg_same hsg, ha.eq, hb.eq]) (by omega)⟩
  · skip
    replace hI := hI.re 9 (.v (.bool false)) rfl (congrArg Value.bool hc3)
    try simp only [decide_eq_true_eq, decide_eq_false_iff_not, beq_iff_eq, bne_iff_ne, beq_eq_false_iff_ne, bne_eq_false_iff_eq, Bool.and_eq_true, Bool.and_eq_false_iff, Bool.or_eq_true, Bool.or_eq_false_iff, Bool.not_eq_true', Bool.not_eq_false', ne_eq] at hc3
    have hsg : ¬ na = nb := hc3
    refine wp_skip ?_
    refine then_n ?_
    refine wp_seq ?_
    refine wp_seq ?_
    refine reg (is := [0, 1, 2, 3, 4, 5]) (by kernel_rfl) ?_
    refine part_ tab [0, 1, 2, 3] [4, 5] (by rfl) (k := 3) (hs := []) (sy := []) (ks := [21, 19, 4, 3, 2]) (bs := [2, 1, 0]) (gs := [])
        (L' := [(21, .v (.slice bd ys.length dap)), (19, .v (.slice ad xs.length cap)), (4, .p 2 0), (3, .p 1 0), (2, .p 0 0)])
        (H' := [⟨2, 29, [.v (.bool false), .v (.slice none 0 0)]⟩, ⟨1, 29, [.v (.bool nb), .v (.slice bd ys.length dap)]⟩, ⟨0, 29, [.v (.bool na), .v (.slice ad xs.length cap)]⟩]) (G' := []) (k' := 3) hR hI (by kernel_rfl)
        .nil (fun e8 a8 w8 hag hR hI => ?_)
    refine callOp (ys := [.v (.slice ad xs.length cap), .v (.slice bd ys.length dap)]) hI rfl rfl ⟨_, rfl, rfl, rfl⟩ (by kernel_rfl) Try.func44 rfl rfl ?_
    refine (magCmp_spec (ha.sl.now hB hR) (hb.sl.now hB hR) ha.trim hb.trim).mono ?_
    rintro ex w9 ⟨rfl, hk⟩
    replace hR := hR.same hk; clear hk
    refine ⟨_, rfl, ?_⟩
    replace hI := hI.put (d := some 22) (x := .v (.int .i64 (cmpN (val xs) (val ys)))) (by intro t ht; cases ht; decide) rfl
    replace hI := hI.sel [22, 21, 19, 4, 3, 2] (by kernel_rfl : sel _ _ = some [(22, .v (.int .i64 (cmpN (val xs) (val ys)))), (21, .v (.slice bd ys.length dap)), (19, .v (.slice ad xs.length cap)), (4, .p 2 0), (3, .p 1 0), (2, .p 0 0)])
    refine part_ tab [5] [] (by rfl) (k := 3) (hs := []) (sy := []) (ks := [23, 4, 3, 2]) (bs := [2, 1, 0]) (gs := [])
        (L' := [(23, .v (.bool (decide ((cmpN (val xs) (val ys)) ≥ (0 : Int))))), (4, .p 2 0), (3, .p 1 0), (2, .p 0 0)])
        (H' := [⟨2, 29, [.v (.bool false), .v (.slice none 0 0)]⟩, ⟨1, 29, [.v (.bool nb), .v (.slice bd ys.length dap)]⟩, ⟨0, 29, [.v (.bool na), .v (.slice ad xs.length cap)]⟩]) (G' := []) (k' := 3) hR hI (by kernel_rfl)
        .nil (fun e10 a10 w10 hag hR hI => ?_)
    refine ops_nil ?_
    refine then_n ?_
    refine cnd (b := decide ((cmpN (val xs) (val ys)) ≥ (0 : Int))) hI (by kernel_rfl) (fun hc11 => ?_) (fun hc11 => ?_)
    · skip
      replace hI := hI.re 23 (.v (.bool true)) rfl (congrArg Value.bool hc11)
      try simp only [decide_eq_true_eq, decide_eq_false_iff_not, beq_iff_eq, bne_iff_ne, beq_eq_false_iff_ne, bne_eq_false_iff_eq, Bool.and_eq_true, Bool.and_eq_false_iff, Bool.or_eq_true, Bool.or_eq_false_iff, Bool.not_eq_true', Bool.not_eq_false', ne_eq] at hc11
      have hge := cmpN_ge.1 hc11; have hpos := sub_pos hsg ha.sign hb.sign hge
      refine wp_seq ?_
      refine regL 8 hR (by kernel_rfl) (fun hS => ?_)
      replace hR := hR.drew; have hF := hR.fore
      refine takeL tab (H := [⟨2, 29, [.v (.bool false), .v (.slice none 0 0)]⟩, ⟨1, 29, [.v (.bool nb), .v (.slice bd ys.length dap)]⟩, ⟨0, 29, [.v (.bool na), .v (.slice ad xs.length cap)]⟩]) (G := []) (hs := []) (gs := []) (is := [0, 1, 2, 3, 4, 5]) (ks := [29, 27, 25, 4]) (f' := 3)
          (L' := [(29, .v (.slice bd ys.length dap)), (27, .v (.slice ad xs.length cap)), (25, .v (.bool na)), (4, .p 2 0)]) hS hI (by kernel_rfl) (fun _ _ _ _ _ h => h) (by kernel_rfl)
          .nil (by kernel_rfl) (by kernel_rfl) (by kernel_rfl) (by rfl) (fun a12 hI => ?_)
      refine oneL (i := 6) (f' := 2) (by kernel_rfl) (by rfl) ?_
      refine callH (ys := [.v (.slice ad xs.length cap), .v (.slice bd ys.length dap)]) hI rfl rfl ⟨_, rfl, rfl, rfl⟩ (by kernel_rfl) Try.func47 rfl rfl ?_
      refine (magSub_spec (ha.sl.now hB hR) (hb.sl.now hB hR) hb.trim hge (len_pos_of_val hpos) (by omega)).mono ?_
      rintro ex w13 ⟨m, md, mc, rfl, hk, hm, hvm, htm, hlm⟩
      replace hF := hF.grow hR hk; replace hS := hS.same hk
      replace ha := ha.next hB hR hk
      replace hb := hb.next hB hR hk
      have hB_ := hB.next hR hk
      replace hR := hR.after hk
      replace hB := hB_; clear hB_ hk
      refine ⟨_, rfl, hS, ?_⟩
      replace hI := hI.put (d := some 30) (x := .v (.slice md m.length mc)) (by intro t ht; cases ht; decide) rfl
      replace hI := hI.sel [30, 29, 27, 25, 4] (by kernel_rfl : sel _ _ = some [(30, .v (.slice md m.length mc)), (29, .v (.slice bd ys.length dap)), (27, .v (.slice ad xs.length cap)), (25, .v (.bool na)), (4, .p 2 0)])
      refine oneL (i := 7) (f' := 1) (by kernel_rfl) (by rfl) ?_
      refine callH (ys := [.v (.bool na), .v (.slice md m.length mc)]) hI rfl rfl ⟨_, rfl, rfl, rfl⟩ (by kernel_rfl) Try.func23 rfl rfl ?_
      refine (wide_wd na (hm.now hB hR)).mono ?_
      rintro ex w14 ⟨nz, zs, rfl, hk, hz⟩
      replace hF := hF.grow hR hk; replace hS := hS.same hk
      replace ha := ha.next hB hR hk
      replace hb := hb.next hB hR hk
      replace hm := hm.next hB hR hk
      have hB_ := hB.next hR hk
      replace hR := hR.after hk
      replace hB := hB_; clear hB_ hk
      refine ⟨_, rfl, hS, ?_⟩
      replace hI := hI.put (d := some 31) (x := .v (.agg #[.bool nz, .slice md zs.length mc])) (by intro t ht; cases ht; decide) rfl
      replace hI := hI.sel [31, 30, 29, 27, 25, 4] (by kernel_rfl : sel _ _ = some [(31, .v (.agg #[.bool nz, .slice md zs.length mc])), (30, .v (.slice md m.length mc)), (29, .v (.slice bd ys.length dap)), (27, .v (.slice ad xs.length cap)), (25, .v (.bool na)), (4, .p 2 0)])
      refine endL (i := 8) (f' := 0) (by kernel_rfl) (by rfl) (by kernel_rfl) ?_
      refine effH tab (k := 3) (hh := .no) (r := ⟨.v (undef), [⟨2, 29, [.v (.bool nz), .v (.slice md zs.length mc)]⟩, ⟨1, 29, [.v (.bool nb), .v (.slice bd ys.length dap)]⟩, ⟨0, 29, [.v (.bool na), .v (.slice ad xs.length cap)]⟩], [], 3, _, true⟩) hR hI (by kernel_rfl) rfl rfl rfl (by kernel_rfl) .nil (fun e15 a15 w15 hag hR2 hI => ?_)
      replace hR := hR2; clear hR2
      replace hI := hI.sel [31, 30, 29, 27, 25, 4] (by kernel_rfl : sel _ _ = some [(31, .v (.agg #[.bool nz, .slice md zs.length mc])), (30, .v (.slice md m.length mc)), (29, .v (.slice bd ys.length dap)), (27, .v (.slice ad xs.length cap)), (25, .v (.bool na)), (4, .p 2 0)])
      refine doneL (by kernel_rfl) ?_
      refine then_n ?_
      replace hI := hI.sel [4] (by kernel_rfl : sel _ _ = some [(4, .p 2 0)]); replace hR := hR.sel [2] [] (by kernel_rfl : selH _ _ = some [⟨2, 29, [.v (.bool nz), .v (.slice md zs.length mc)]⟩]) (by kernel_rfl : selG _ _ = some [])
      refine wp_ret ?_
      refine ret_then ?_
      refine outN tab (xs := [.agg [.v (.bool nz), .v (.slice md zs.length mc)]]) hR hI rfl (by kernel_rfl) ?_
      exact ⟨nz, md, mc, zs, rfl, hB.fin hR, (hz.fin hB hR).to (by rw [hvm, sg_sub1 hsg hge, ha.eq, hb.eq]) (by omega)⟩
    · skip
      replace hI := hI.re 23 (.v (.bool false)) rfl (congrArg Value.bool hc11)
      try simp only [decide_eq_true_eq, decide_eq_false_iff_not, beq_iff_eq, bne_iff_ne, beq_eq_false_iff_ne, bne_eq_false_iff_eq, Bool.and_eq_true, Bool.and_eq_false_iff, Bool.or_eq_true, Bool.or_eq_false_iff, Bool.not_eq_true', Bool.not_eq_false', ne_eq] at hc11
      have hge : ¬ val ys ≤ val xs := fun h => hc11 (cmpN_ge.2 h)
      refine wp_skip ?_
      refine then_n ?_
      refine wp_seq ?_
      refine regL 8 hR (by kernel_rfl) (fun hS => ?_)
      replace hR := hR.drew; have hF := hR.fore
      refine takeL tab (H := [⟨2, 29, [.v (.bool false), .v (.slice none 0 0)]⟩, ⟨1, 29, [.v (.bool nb), .v (.slice bd ys.length dap)]⟩, ⟨0, 29, [.v (.bool na), .v (.slice ad xs.length cap)]⟩]) (G := []) (hs := []) (gs := []) (is := [0, 1, 2, 3, 4, 5]) (ks := [37, 35, 33, 4]) (f' := 3)
          (L' := [(37, .v (.slice ad xs.length cap)), (35, .v (.slice bd ys.length dap)), (33, .v (.bool nb)), (4, .p 2 0)]) hS hI (by kernel_rfl) (fun _ _ _ _ _ h => h) (by kernel_rfl)
          .nil (by kernel_rfl) (by kernel_rfl) (by kernel_rfl) (by rfl) (fun a16 hI => ?_)
      refine oneL (i := 6) (f' := 2) (by kernel_rfl) (by rfl) ?_
      refine callH (ys := [.v (.slice bd ys.length dap), .v (.slice ad xs.length cap)]) hI rfl rfl ⟨_, rfl, rfl, rfl⟩ (by kernel_rfl) Try.func47 rfl rfl ?_
      refine (magSub_spec (hb.sl.now hB hR) (ha.sl.now hB hR) ha.trim (Nat.le_of_not_le hge) (len_pos_of_val (by omega)) (by omega)).mono ?_
      rintro ex w17 ⟨m, md, mc, rfl, hk, hm, hvm, htm, hlm⟩
      replace hF := hF.grow hR hk; replace hS := hS.same hk
      replace ha := ha.next hB hR hk
      replace hb := hb.next hB hR hk
      have hB_ := hB.next hR hk
      replace hR := hR.after hk
      replace hB := hB_; clear hB_ hk
      refine ⟨_, rfl, hS, ?_⟩
      replace hI := hI.put (d := some 38) (x := .v (.slice md m.length mc)) (by intro t ht; cases ht; decide) rfl
      replace hI := hI.sel [38, 37, 35, 33, 4] (by kernel_rfl : sel _ _ = some [(38, .v (.slice md m.length mc)), (37, .v (.slice ad xs.length cap)), (35, .v (.slice bd ys.length dap)), (33, .v (.bool nb)), (4, .p 2 0)])
      refine oneL (i := 7) (f' := 1) (by kernel_rfl) (by rfl) ?_
      refine callH (ys := [.v (.bool nb), .v (.slice md m.length mc)]) hI rfl rfl ⟨_, rfl, rfl, rfl⟩ (by kernel_rfl) Try.func23 rfl rfl ?_
      refine (wide_wd nb (hm.now hB hR)).mono ?_
      rintro ex w18 ⟨nz, zs, rfl, hk, hz⟩
      replace hF := hF.grow hR hk; replace hS := hS.same hk
      replace ha := ha.next hB hR hk
      replace hb := hb.next hB hR hk
      replace hm := hm.next hB hR hk
      have hB_ := hB.next hR hk
      replace hR := hR.after hk
      replace hB := hB_; clear hB_ hk
      refine ⟨_, rfl, hS, ?_⟩
      replace hI := hI.put (d := some 39) (x := .v (.agg #[.bool nz, .slice md zs.length mc])) (by intro t ht; cases ht; decide) rfl
      replace hI := hI.sel [39, 38, 37, 35, 33, 4] (by kernel_rfl : sel _ _ = some [(39, .v (.agg #[.bool nz, .slice md zs.length mc])), (38, .v (.slice md m.length mc)), (37, .v (.slice ad xs.length cap)), (35, .v (.slice bd ys.length dap)), (33, .v (.bool nb)), (4, .p 2 0)])
      refine endL (i := 8) (f' := 0) (by kernel_rfl) (by rfl) (by kernel_rfl) ?_
      refine effH tab (k := 3) (hh := .no) (r := ⟨.v (undef), [⟨2, 29, [.v (.bool nz), .v (.slice md zs.length mc)]⟩, ⟨1, 29, [.v (.bool nb), .v (.slice bd ys.length dap)]⟩, ⟨0, 29, [.v (.bool na), .v (.slice ad xs.length cap)]⟩], [], 3, _, true⟩) hR hI (by kernel_rfl) rfl rfl rfl (by kernel_rfl) .nil (fun e19 a19 w19 hag hR2 hI => ?_)
      replace hR := hR2; clear hR2
      replace hI := hI.sel [39, 38, 37, 35, 33, 4] (by kernel_rfl : sel _ _ = some [(39, .v (.agg #[.bool nz, .slice md zs.length mc])), (38, .v (.slice md m.length mc)), (37, .v (.slice ad xs.length cap)), (35, .v (.slice bd ys.length dap)), (33, .v (.bool nb)), (4, .p 2 0)])
      refine doneL (by kernel_rfl) ?_
      refine then_n ?_
      replace hI := hI.sel [4] (by kernel_rfl : sel _ _ = some [(4, .p 2 0)]); replace hR := hR.sel [2] [] (by kernel_rfl : selH _ _ = some [⟨2, 29, [.v (.bool nz), .v (.slice md zs.length mc)]⟩]) (by kernel_rfl : selG _ _ = some [])
      refine wp_ret ?_
      refine outN tab (xs := [.agg [.v (.bool nz), .v (.slice md zs.length mc)]]) hR hI rfl (by kernel_rfl) ?_
      exact ⟨nz, md, mc, zs, rfl, hB.fin hR, (hz.fin hB hR).to (by rw [hvm, sg_sub2 hsg (Nat.le_of_not_le hge), ha.eq, hb.eq]) (by omega)⟩

set_option maxHeartbeats 4000000 in
set_option maxRecDepth 100000 in
theorem wideSub_spec {C : Nat → Prop} {w : World} {na nb : Bool} {ad bd : Option Addr} {cap dap : Nat} {xs ys : List Nat} {a b : Int} {L M : Nat} (ha : Wd C w na ad cap xs a L) (hb : Wd C w nb bd dap ys b M) (hlen : L + M ≤ 1000000) :
    Calls P 36 #[.agg #[.bool na, .slice ad (List.length xs) cap], .agg #[.bool nb, .slice bd (List.length ys) dap]] w fun ex w' => ∃ nz zd zc zs, ex = .returned (.agg #[.bool nz, .slice zd (List.length zs) zc]) ∧ Keep (fun b => b < w.heap.size) w w' ∧ Wd (Grow C w w') w' nz zd zc zs (a - b) (L + M + 1) := by
  refine doorN (e := e0) (vs := [.v (.agg #[.bool na, .slice ad xs.length cap]), .v (.agg #[.bool nb, .slice bd ys.length dap])]) (n := 9) (m := 2) Try.func36 rfl rfl rfl (by decide) fun a_ hI => ?_
  replace hI : Is 9 [] e0 [(0, .v (.agg #[.bool na, .slice ad xs.length cap])), (1, .v (.agg #[.bool nb, .slice bd ys.length dap]))] a_ := hI
  have hR : Rel (fun b => b < w.heap.size) w e0 [] [] w := Rel.start (fun k hk => hk)
  have hB : Base C w C (fun b => b < w.heap.size) w := Base.start
  have hla := ha.len; have hlb := hb.len
  refine reg_seq tab (k := 0) (hs := []) (sy := []) (ks := [4, 3, 2]) (bs := [2, 1, 0]) (gs := [])
      (L' := [(4, .p 2 0), (3, .p 1 0), (2, .p 0 0)])
      (H' := [⟨2, 29, [.v (.bool false), .v (.slice none 0 0)]⟩, ⟨1, 29, [.v (.bool nb), .v (.slice bd ys.length dap)]⟩, ⟨0, 29, [.v (.bool na), .v (.slice ad xs.length cap)]⟩]) (G' := []) (k' := 3) hR hI (by kernel_rfl)
      .nil (fun e1 a1 w1 hag hR hI => ?_)
  refine wp_seq ?_
  refine regL 4 hR (by kernel_rfl) (fun hS => ?_)
  replace hR := hR.drew; have hF := hR.fore
  refine takeL tab (H := [⟨2, 29, [.v (.bool false), .v (.slice none 0 0)]⟩, ⟨1, 29, [.v (.bool nb), .v (.slice bd ys.length dap)]⟩, ⟨0, 29, [.v (.bool na), .v (.slice ad xs.length cap)]⟩]) (G := []) (hs := []) (gs := []) (is := [0, 1]) (ks := [6, 5, 4]) (f' := 3)
      (L' := [(6, .agg [.v (.bool nb), .v (.slice bd ys.length dap)]), (5, .agg [.v (.bool na), .v (.slice ad xs.length cap)]), (4, .p 2 0)]) hS hI (by kernel_rfl) (fun _ _ _ _ _ h => h) (by kernel_rfl)
      .nil (by kernel_rfl) (by kernel_rfl) (by kernel_rfl) (by rfl) (fun a2 hI => ?_)
  refine oneL (i := 2) (f' := 2) (by kernel_rfl) (by rfl) ?_
  refine callH (ys := [.agg [.v (.bool nb), .v (.slice bd ys.length dap)]]) hI rfl rfl ⟨_, rfl, rfl, rfl⟩ (by kernel_rfl) Try.func39 rfl rfl ?_
  refine (negated_spec (hb.now hB hR)).mono ?_
  rintro ex w3 ⟨nm, md, mc, m, rfl, hk, hm⟩
  replace hF := hF.grow hR hk; replace hS := hS.same hk
  replace ha := ha.next hB hR hk
  replace hb := hb.next hB hR hk
  have hB_ := hB.next hR hk
  replace hR := hR.after hk
  replace hB := hB_; clear hB_ hk
  refine ⟨_, rfl, hS, ?_⟩
  replace hI := hI.put (d := some 7) (x := .v (.agg #[.bool nm, .slice md m.length mc])) (by intro t ht; cases ht; decide) rfl
  replace hI := hI.sel [7, 6, 5, 4] (by kernel_rfl : sel _ _ = some [(7, .v (.agg #[.bool nm, .slice md m.length mc])), (6, .agg [.v (.bool nb), .v (.slice bd ys.length dap)]), (5, .agg [.v (.bool na), .v (.slice ad xs.length cap)]), (4, .p 2 0)])
  refine oneL (i := 3) (f' := 1) (by kernel_rfl) (by rfl) ?_
  refine callH (ys := [.agg [.v (.bool na), .v (.slice ad xs.length cap)], .v (.agg #[.bool nm, .slice md m.length mc])]) hI rfl rfl ⟨_, rfl, rfl, rfl⟩ (by kernel_rfl) Try.func41 rfl rfl ?_
  refine (wideAdd_spec (ha.now hB hR) (hm.now hB hR) (by omega)).mono ?_
  rintro ex w4 ⟨nz, zd, zc, z, rfl, hk, hz⟩
  replace hF := hF.grow hR hk; replace hS := hS.same hk
  replace ha := ha.next hB hR hk
  replace hb := hb.next hB hR hk
  replace hm := hm.next hB hR hk
  have hB_ := hB.next hR hk
  replace hR := hR.after hk
  replace hB := hB_; clear hB_ hk
  refine ⟨_, rfl, hS, ?_⟩
  replace hI := hI.put (d := some 8) (x := .v (.agg #[.bool nz, .slice zd z.length zc])) (by intro t ht; cases ht; decide) rfl
  replace hI := hI.sel [8, 7, 6, 5, 4] (by kernel_rfl : sel _ _ = some [(8, .v (.agg #[.bool nz, .slice zd z.length zc])), (7, .v (.agg #[.bool nm, .slice md m.length mc])), (6, .agg [.v (.bool nb), .v (.slice bd ys.length dap)]), (5, .agg [.v (.bool na), .v (.slice ad xs.length cap)]), (4, .p 2 0)])
  refine endL (i := 4) (f' := 0) (by kernel_rfl) (by rfl) (by kernel_rfl) ?_
  refine effH tab (k := 3) (hh := .no) (r := ⟨.v (undef), [⟨2, 29, [.v (.bool nz), .v (.slice zd z.length zc)]⟩, ⟨1, 29, [.v (.bool nb), .v (.slice bd ys.length dap)]⟩, ⟨0, 29, [.v (.bool na), .v (.slice ad xs.length cap)]⟩], [], 3, _, true⟩) hR hI (by kernel_rfl) rfl rfl rfl (by kernel_rfl) .nil (fun e5 a5 w5 hag hR2 hI => ?_)
  replace hR := hR2; clear hR2
  replace hI := hI.sel [8, 7, 6, 5, 4] (by kernel_rfl : sel _ _ = some [(8, .v (.agg #[.bool nz, .slice zd z.length zc])), (7, .v (.agg #[.bool nm, .slice md m.length mc])), (6, .agg [.v (.bool nb), .v (.slice bd ys.length dap)]), (5, .agg [.v (.bool na), .v (.slice ad xs.length cap)]), (4, .p 2 0)])
  refine doneL (by kernel_rfl) ?_
  refine then_n ?_
  replace hI := hI.sel [4] (by kernel_rfl : sel _ _ = some [(4, .p 2 0)]); replace hR := hR.sel [2] [] (by kernel_rfl : selH _ _ = some [⟨2, 29, [.v (.bool nz), .v (.slice zd z.length zc)]⟩]) (by kernel_rfl : selG _ _ = some [])
  refine wp_ret ?_
  refine outN tab (xs := [.agg [.v (.bool nz), .v (.slice zd z.length zc)]]) hR hI rfl (by kernel_rfl) ?_
  exact ⟨nz, zd, zc, z, rfl, hB.fin hR, (hz.fin hB hR).to (by omega) (by omega)⟩

set_option maxHeartbeats 4000000 in
set_option maxRecDepth 100000 in
theorem wideCmp_spec {C : Nat → Prop} {w : World} {na nb : Bool} {ad bd : Option Addr} {cap dap : Nat} {xs ys : List Nat} {a b : Int} {L M : Nat} (ha : Wd C w na ad cap xs a L) (hb : Wd C w nb bd dap ys b M) :
    Calls P 38 #[.agg #[.bool na, .slice ad (List.length xs) cap], .agg #[.bool nb, .slice bd (List.length ys) dap]] w fun ex w' => ex = .returned (.int .i64 (cmpZ a b)) ∧ Keep (fun b => b < w.heap.size) w w' := by
  refine doorN (e := e0) (vs := [.v (.agg #[.bool na, .slice ad xs.length cap]), .v (.agg #[.bool nb, .slice bd ys.length dap])]) (n := 35) (m := 2) Try.func38 rfl rfl rfl (by decide) fun a_ hI => ?_
  replace hI : Is 35 [] e0 [(0, .v (.agg #[.bool na, .slice ad xs.length cap])), (1, .v (.agg #[.bool nb, .slice bd ys.length dap]))] a_ := hI
  have hR : Rel (fun b => b < w.heap.size) w e0 [] [] w := Rel.start (fun k hk => hk)
  have hB : Base C w C (fun b => b < w.heap.size) w := Base.start
  have hla := ha.len; have hlb := hb.len
  refine reg_seq tab (k := 0) (hs := []) (sy := []) (ks := [3, 2]) (bs := [1, 0]) (gs := [])
      (L' := [(3, .p 1 0), (2, .p 0 0)])
      (H' := [⟨1, 29, [.v (.bool nb), .v (.slice bd ys.length dap)]⟩, ⟨0, 29, [.v (.bool na), .v (.slice ad xs.length cap)]⟩]) (G' := []) (k' := 2) hR hI (by kernel_rfl)
      .nil (fun e1 a1 w1 hag hR hI => ?_)
  refine wp_seq ?_
  refine wp_block ?_
  refine reg_seq tab (k := 2) (hs := [(6, .sym)]) (sy := [3, 4, 5]) (ks := [5, 3, 2]) (bs := [1, 0]) (gs := [])
      (L' := [(5, .v (.bool (na && (!nb)))), (3, .p 1 0), (2, .p 0 0)])
      (H' := [⟨1, 29, [.v (.bool nb), .v (.slice bd ys.length dap)]⟩, ⟨0, 29, [.v (.bool na), .v (.slice ad xs.length cap)]⟩]) (G' := []) (k' := 2) hR hI (by kernel_rfl)
      (.cons (rfl : na = na) (.cons (rfl : na = na) (.cons (rfl : na = na) (.cons (by first | exact Bool.beq_true _ | exact Bool.beq_false _ | rfl | simp_all : (na == true) = na) .nil)))) (fun e2 a2 w2 hag hR hI => ?_)
  refine cnd (b := (na && (!nb))) hI (by kernel_rfl) (fun hc3 => ?_) (fun hc3 => ?_)
  · skip
    replace hI := hI.re 5 (.v (.bool true)) rfl (congrArg Value.bool hc3)
    try simp only [decide_eq_true_eq, decide_eq_false_iff_not, beq_iff_eq, bne_iff_ne, beq_eq_false_iff_ne, bne_eq_false_iff_eq, Bool.and_eq_true, Bool.and_eq_false_iff, Bool.or_eq_true, Bool.or_eq_false_iff, Bool.not_eq_true', Bool.not_eq_false', ne_eq] at hc3
    have hh1 := hc3
    refine reg_seq tab (k := 2) (hs := []) (sy := []) (ks := [4]) (bs := []) (gs := [])
        (L' := [(4, .v (.int .i64 (-1)))])
        (H' := []) (G' := []) (k' := 2) hR hI (by kernel_rfl)
        .nil (fun e4 a4 w4 hag hR hI => ?_)
    refine wp_ret ?_
    refine ret_block ?_
    refine ret_then ?_
    refine outN tab (xs := [.v (.int .i64 (-1))]) hR hI rfl (by kernel_rfl) ?_
    exact ⟨by rw [← ha.eq, ← hb.eq, cmpZ_np hh1.1 hh1.2 (ha.sign hh1.1)]; rfl, hB.fin hR⟩
  · skip
    replace hI := hI.re 5 (.v (.bool false)) rfl (congrArg Value.bool hc3)
    try simp only [decide_eq_true_eq, decide_eq_false_iff_not, beq_iff_eq, bne_iff_ne, beq_eq_false_iff_ne, bne_eq_false_iff_eq, Bool.and_eq_true, Bool.and_eq_false_iff, Bool.or_eq_true, Bool.or_eq_false_iff, Bool.not_eq_true', Bool.not_eq_false', ne_eq] at hc3
    have hh1 := hc3
    refine reg_seq tab (k := 2) (hs := [(6, .sym)]) (sy := [4, 5]) (ks := [13, 3, 2]) (bs := [1, 0]) (gs := [])
        (L' := [(13, .v (.bool ((!na) && nb))), (3, .p 1 0), (2, .p 0 0)])
        (H' := [⟨1, 29, [.v (.bool nb), .v (.slice bd ys.length dap)]⟩, ⟨0, 29, [.v (.bool na), .v (.slice ad xs.length cap)]⟩]) (G' := []) (k' := 2) hR hI (by kernel_rfl)
        (.cons (rfl : (!na) = (!na)) (.cons (by first | exact Bool.beq_true _ | exact Bool.beq_false _ | rfl | simp_all : ((!na) == true) = (!na)) .nil)) (fun e5 a5 w5 hag hR hI => ?_)
    refine cnd (b := ((!na) && nb)) hI (by kernel_rfl) (fun hc6 => ?_) (fun hc6 => ?_)
    · skip
      replace hI := hI.re 13 (.v (.bool true)) rfl (congrArg Value.bool hc6)
      try simp only [decide_eq_true_eq, decide_eq_false_iff_not, beq_iff_eq, bne_iff_ne, beq_eq_false_iff_ne, bne_eq_false_iff_eq, Bool.and_eq_true, Bool.and_eq_false_iff, Bool.or_eq_true, Bool.or_eq_false_iff, Bool.not_eq_true', Bool.not_eq_false', ne_eq] at hc6
      have hh2 := hc6
      refine reg_seq tab (k := 2) (hs := []) (sy := []) (ks := [4]) (bs := []) (gs := [])
          (L' := [(4, .v (.int .i64 1))])
          (H' := []) (G' := []) (k' := 2) hR hI (by kernel_rfl)
          .nil (fun e7 a7 w7 hag hR hI => ?_)
      refine wp_ret ?_
      refine ret_block ?_
      refine ret_then ?_
      refine outN tab (xs := [.v (.int .i64 1)]) hR hI rfl (by kernel_rfl) ?_
      exact ⟨by rw [← ha.eq, ← hb.eq, cmpZ_pn hh2.1 hh2.2 (hb.sign hh2.2)]; rfl, hB.fin hR⟩
    · skip
      replace hI := hI.re 13 (.v (.bool false)) rfl (congrArg Value.bool hc6)
      try simp only [decide_eq_true_eq, decide_eq_false_iff_not, beq_iff_eq, bne_iff_ne, beq_eq_false_iff_ne, bne_eq_false_iff_eq, Bool.and_eq_true, Bool.and_eq_false_iff, Bool.or_eq_true, Bool.or_eq_false_iff, Bool.not_eq_true', Bool.not_eq_false', ne_eq] at hc6
      have hh2 := hc6
      refine reg_seq tab (k := 2) (hs := []) (sy := []) (ks := [21, 3, 2]) (bs := [1, 0]) (gs := [])
          (L' := [(21, .v (.bool na)), (3, .p 1 0), (2, .p 0 0)])
          (H' := [⟨1, 29, [.v (.bool nb), .v (.slice bd ys.length dap)]⟩, ⟨0, 29, [.v (.bool na), .v (.slice ad xs.length cap)]⟩]) (G' := []) (k' := 2) hR hI (by kernel_rfl)
          .nil (fun e8 a8 w8 hag hR hI => ?_)
      refine cnd (b := na) hI (by kernel_rfl) (fun hc9 => ?_) (fun hc9 => ?_)
      · skip
        replace hI := hI.re 21 (.v (.bool true)) rfl (congrArg Value.bool hc9)
        try simp only [decide_eq_true_eq, decide_eq_false_iff_not, beq_iff_eq, bne_iff_ne, beq_eq_false_iff_ne, bne_eq_false_iff_eq, Bool.and_eq_true, Bool.and_eq_false_iff, Bool.or_eq_true, Bool.or_eq_false_iff, Bool.not_eq_true', Bool.not_eq_false', ne_eq] at hc9
        have hh3 := hc9
        refine wp_seq ?_
        refine reg (is := [0, 1, 2, 3, 4, 5, 6]) (by kernel_rfl) ?_
        refine part_ tab [0, 1, 2, 3] [4, 5, 6] (by rfl) (k := 2) (hs := []) (sy := []) (ks := [27, 25]) (bs := []) (gs := [])
            (L' := [(27, .v (.slice bd ys.length dap)), (25, .v (.slice ad xs.length cap))])
            (H' := []) (G' := []) (k' := 2) hR hI (by kernel_rfl)
            .nil (fun e10 a10 w10 hag hR hI => ?_)
        refine callOp (ys := [.v (.slice ad xs.length cap), .v (.slice bd ys.length dap)]) hI rfl rfl ⟨_, rfl, rfl, rfl⟩ (by kernel_rfl) Try.func44 rfl rfl ?_
        refine (magCmp_spec (ha.sl.now hB hR) (hb.sl.now hB hR) ha.trim hb.trim).mono ?_
        rintro ex w11 ⟨rfl, hk⟩
        replace hR := hR.same hk; clear hk
        have hcb := cmpN_bound (val xs) (val ys)
        refine ⟨_, rfl, ?_⟩
        replace hI := hI.put (d := some 28) (x := .v (.int .i64 (cmpN (val xs) (val ys)))) (by intro t ht; cases ht; decide) rfl
        replace hI := hI.sel [28, 27, 25] (by kernel_rfl : sel _ _ = some [(28, .v (.int .i64 (cmpN (val xs) (val ys)))), (27, .v (.slice bd ys.length dap)), (25, .v (.slice ad xs.length cap))])
        refine part_ tab [5, 6] [] (by rfl) (k := 2) (hs := [(5, .nw)]) (sy := []) (ks := [4]) (bs := []) (gs := [])
            (L' := [(4, .v (.int .i64 (0 - (cmpN (val xs) (val ys)))))])
            (H' := []) (G' := []) (k' := 2) hR hI (by kernel_rfl)
            (.cons (inR_i64 (n := 0 - (cmpN (val xs) (val ys))) (by omega)) .nil) (fun e12 a12 w12 hag hR hI => ?_)
        refine ops_nil ?_
        refine then_n ?_
        refine wp_ret ?_
        refine ret_block ?_
        refine ret_then ?_
        refine outN tab (xs := [.v (.int .i64 (0 - (cmpN (val xs) (val ys))))]) hR hI rfl (by kernel_rfl) ?_
        exact ⟨by rw [← ha.eq, ← hb.eq, cmpZ_nn hh3 (hh1.resolve_left (by rw [hh3]; decide))]; rfl, hB.fin hR⟩
      · skip
        replace hI := hI.re 21 (.v (.bool false)) rfl (congrArg Value.bool hc9)
        try simp only [decide_eq_true_eq, decide_eq_false_iff_not, beq_iff_eq, bne_iff_ne, beq_eq_false_iff_ne, bne_eq_false_iff_eq, Bool.and_eq_true, Bool.and_eq_false_iff, Bool.or_eq_true, Bool.or_eq_false_iff, Bool.not_eq_true', Bool.not_eq_false', ne_eq] at hc9
        have hh3 := hc9
        refine wp_skip ?_
        refine normal_block ?_
        refine then_n ?_
        refine wp_seq ?_
        refine reg (is := [0, 1, 2, 3, 4, 5]) (by kernel_rfl) ?_
        refine part_ tab [0, 1, 2, 3] [4, 5] (by rfl) (k := 2) (hs := []) (sy := []) (ks := [33, 31]) (bs := []) (gs := [])
            (L' := [(33, .v (.slice bd ys.length dap)), (31, .v (.slice ad xs.length cap))])
            (H' := []) (G' := []) (k' := 2) hR hI (by kernel_rfl)
            .nil (fun e13 a13 w13 hag hR hI => ?_)
        refine callOp (ys := [.v (.slice ad xs.length cap), .v (.slice bd ys.length dap)]) hI rfl rfl ⟨_, rfl, rfl, rfl⟩ (by kernel_rfl) Try.func44 rfl rfl ?_
        refine (magCmp_spec (ha.sl.now hB hR) (hb.sl.now hB hR) ha.trim hb.trim).mono ?_
        rintro ex w14 ⟨rfl, hk⟩
        replace hR := hR.same hk; clear hk
        have hcb := cmpN_bound (val xs) (val ys)
        refine ⟨_, rfl, ?_⟩
        replace hI := hI.put (d := some 34) (x := .v (.int .i64 (cmpN (val xs) (val ys)))) (by intro t ht; cases ht; decide) rfl
        replace hI := hI.sel [34, 33, 31] (by kernel_rfl : sel _ _ = some [(34, .v (.int .i64 (cmpN (val xs) (val ys)))), (33, .v (.slice bd ys.length dap)), (31, .v (.slice ad xs.length cap))])
        refine part_ tab [5] [] (by rfl) (k := 2) (hs := []) (sy := []) (ks := [4]) (bs := []) (gs := [])
            (L' := [(4, .v (.int .i64 (cmpN (val xs) (val ys))))])
            (H' := []) (G' := []) (k' := 2) hR hI (by kernel_rfl)
            .nil (fun e15 a15 w15 hag hR hI => ?_)
        refine ops_nil ?_
        refine then_n ?_
        refine wp_ret ?_
        refine outN tab (xs := [.v (.int .i64 (cmpN (val xs) (val ys)))]) hR hI rfl (by kernel_rfl) ?_
        exact ⟨by rw [← ha.eq, ← hb.eq, cmpZ_pp hh3 (hh2.resolve_left (by rw [hh3]; decide))]; rfl, hB.fin hR⟩

set_option maxHeartbeats 4000000 in
set_option maxRecDepth 100000 in
theorem wideDiv_spec {C : Nat → Prop} {w : World} {na nb : Bool} {ad bd : Option Addr} {cap dap : Nat} {xs ys : List Nat} {a b : Int} {L M : Nat} (ha : Wd C w na ad cap xs a L) (hb : Wd C w nb bd dap ys b M) (hpos : 0 < val ys) (hlen : L + M ≤ 100000) :
    Calls P 40 #[.agg #[.bool na, .slice ad (List.length xs) cap], .agg #[.bool nb, .slice bd (List.length ys) dap]] w fun ex w' => ∃ nz zd zc zs nu ud uc us, ex = .returned (.tuple #[.agg #[.bool nz, .slice zd (List.length zs) zc], .agg #[.bool nu, .slice ud (List.length us) uc]]) ∧ Keep (fun b => b < w.heap.size) w w' ∧ Wd (Grow C w w') w' nz zd zc zs (Int.tdiv a b) L ∧ Wd (Grow C w w') w' nu ud uc us (Int.tmod a b) M := by
  refine doorN (e := e0) (vs := [.v (.agg #[.bool na, .slice ad xs.length cap]), .v (.agg #[.bool nb, .slice bd ys.length dap])]) (n := 27) (m := 2) Try.func40 rfl rfl rfl (by decide) fun a_ hI => ?_
  replace hI : Is 27 [] e0 [(0, .v (.agg #[.bool na, .slice ad xs.length cap])), (1, .v (.agg #[.bool nb, .slice bd ys.length dap]))] a_ := hI
  have hR : Rel (fun b => b < w.heap.size) w e0 [] [] w := Rel.start (fun k hk => hk)
  have hB : Base C w C (fun b => b < w.heap.size) w := Base.start
  have hla := ha.len; have hlb := hb.len
  refine reg_seq tab (k := 0) (hs := []) (sy := []) (ks := [5, 4, 3, 2]) (bs := [3, 2, 1, 0]) (gs := [])
      (L' := [(5, .p 3 0), (4, .p 2 0), (3, .p 1 0), (2, .p 0 0)])
      (H' := [⟨3, 29, [.v (.bool false), .v (.slice none 0 0)]⟩, ⟨2, 29, [.v (.bool false), .v (.slice none 0 0)]⟩, ⟨1, 29, [.v (.bool nb), .v (.slice bd ys.length dap)]⟩, ⟨0, 29, [.v (.bool na), .v (.slice ad xs.length cap)]⟩]) (G' := []) (k' := 4) hR hI (by kernel_rfl)
      .nil (fun e1 a1 w1 hag hR hI => ?_)
  refine wp_seq ?_
  refine reg (is := [0, 1, 2, 3, 4, 5, 6, 7, 8, 9]) (by kernel_rfl) ?_
  refine part_ tab [0, 1, 2, 3] [4, 5, 6, 7, 8, 9] (by rfl) (k := 4) (hs := []) (sy := []) (ks := [12, 10, 5, 4, 3, 2]) (bs := [3, 2, 1, 0]) (gs := [])
      (L' := [(12, .v (.slice bd ys.length dap)), (10, .v (.slice ad xs.length cap)), (5, .p 3 0), (4, .p 2 0), (3, .p 1 0), (2, .p 0 0)])
      (H' := [⟨3, 29, [.v (.bool false), .v (.slice none 0 0)]⟩, ⟨2, 29, [.v (.bool false), .v (.slice none 0 0)]⟩, ⟨1, 29, [.v (.bool nb), .v (.slice bd ys.length dap)]⟩, ⟨0, 29, [.v (.bool na), .v (.slice ad xs.length cap)]⟩]) (G' := []) (k' := 4) hR hI (by kernel_rfl)
      .nil (fun e2 a2 w2 hag hR hI => ?_)
  refine callOp (ys := [.v (.slice ad xs.length cap), .v (.slice bd ys.length dap)]) hI rfl rfl ⟨_, rfl, rfl, rfl⟩ (by kernel_rfl) Try.func45 rfl rfl ?_
  refine (magDiv_spec (ha.sl.now hB hR) (hb.sl.now hB hR) hb.trim hpos (by omega)).mono ?_
  rintro ex w3 ⟨qs, qd, qc, rs, rd, rc, rfl, hk, hq, hr, hvq, hvr, htq, htr, hlq, hlr⟩
  replace ha := ha.next hB hR hk
  replace hb := hb.next hB hR hk
  have hB_ := hB.next hR hk
  replace hR := hR.after hk
  replace hB := hB_; clear hB_ hk
  refine ⟨_, rfl, ?_⟩
  replace hI := hI.put (d := some 13) (x := .v (.tuple #[.slice qd qs.length qc, .slice rd rs.length rc])) (by intro t ht; cases ht; decide) rfl
  replace hI := hI.sel [13, 12, 10, 5, 4, 3, 2] (by kernel_rfl : sel _ _ = some [(13, .v (.tuple #[.slice qd qs.length qc, .slice rd rs.length rc])), (12, .v (.slice bd ys.length dap)), (10, .v (.slice ad xs.length cap)), (5, .p 3 0), (4, .p 2 0), (3, .p 1 0), (2, .p 0 0)])
  refine part_ tab [5, 6, 7, 8, 9] [] (by rfl) (k := 4) (hs := []) (sy := []) (ks := [7, 6, 5, 4, 3, 2]) (bs := [3, 2, 1, 0]) (gs := [])
      (L' := [(7, .v (.slice rd rs.length rc)), (6, .v (.slice qd qs.length qc)), (5, .p 3 0), (4, .p 2 0), (3, .p 1 0), (2, .p 0 0)])
      (H' := [⟨3, 29, [.v (.bool false), .v (.slice none 0 0)]⟩, ⟨2, 29, [.v (.bool false), .v (.slice none 0 0)]⟩, ⟨1, 29, [.v (.bool nb), .v (.slice bd ys.length dap)]⟩, ⟨0, 29, [.v (.bool na), .v (.slice ad xs.length cap)]⟩]) (G' := []) (k' := 4) hR hI (by kernel_rfl)
      .nil (fun e4 a4 w4 hag hR hI => ?_)
  refine ops_nil ?_
  refine then_n ?_
  refine wp_seq ?_
  refine regL 12 (hR.sel [3, 1, 0] [] (by kernel_rfl : selH _ _ = some [⟨3, 29, [.v (.bool false), .v (.slice none 0 0)]⟩, ⟨1, 29, [.v (.bool nb), .v (.slice bd ys.length dap)]⟩, ⟨0, 29, [.v (.bool na), .v (.slice ad xs.length cap)]⟩]) (by kernel_rfl : selG _ _ = some [])) (by kernel_rfl) (fun hS => ?_)
  replace hR := hR.drew; have hF := hR.fore
  refine takeL tab (H := [⟨3, 29, [.v (.bool false), .v (.slice none 0 0)]⟩, ⟨1, 29, [.v (.bool nb), .v (.slice bd ys.length dap)]⟩, ⟨0, 29, [.v (.bool na), .v (.slice ad xs.length cap)]⟩]) (G := []) (hs := []) (gs := []) (is := [0, 1, 2, 3, 4, 5, 7, 8, 9]) (ks := [25, 24, 21, 20, 5, 4]) (f' := 4)
      (L' := [(25, .v (.slice rd rs.length rc)), (24, .v (.bool na)), (21, .v (.slice qd qs.length qc)), (20, .v (.bool (!(na == nb)))), (5, .p 3 0), (4, .p 2 0)]) hS hI (by kernel_rfl) (fun _ _ _ _ _ h => h) (by kernel_rfl)
      .nil (by kernel_rfl) (by kernel_rfl) (by kernel_rfl) (by rfl) (fun a5 hI => ?_)
  refine oneL (i := 6) (f' := 3) (by kernel_rfl) (by rfl) ?_
  refine callH (ys := [.v (.bool (!(na == nb))), .v (.slice qd qs.length qc)]) hI rfl rfl ⟨_, rfl, rfl, rfl⟩ (by kernel_rfl) Try.func23 rfl rfl ?_
  refine (wide_wd (!(na == nb)) (hq.now hB hR)).mono ?_
  rintro ex w6 ⟨nz, zs, rfl, hk, hz⟩
  replace hF := hF.grow hR hk; replace hS := hS.same hk
  replace ha := ha.next hB hR hk
  replace hb := hb.next hB hR hk
  replace hq := hq.next hB hR hk
  replace hr := hr.next hB hR hk
  have hB_ := hB.next hR hk
  replace hR := hR.after hk
  replace hB := hB_; clear hB_ hk
  refine ⟨_, rfl, hS, ?_⟩
  replace hI := hI.put (d := some 22) (x := .v (.agg #[.bool nz, .slice qd zs.length qc])) (by intro t ht; cases ht; decide) rfl
  replace hI := hI.sel [22, 25, 24, 21, 20, 5, 4] (by kernel_rfl : sel _ _ = some [(22, .v (.agg #[.bool nz, .slice qd zs.length qc])), (25, .v (.slice rd rs.length rc)), (24, .v (.bool na)), (21, .v (.slice qd qs.length qc)), (20, .v (.bool (!(na == nb)))), (5, .p 3 0), (4, .p 2 0)])
  refine oneL (i := 10) (f' := 2) (by kernel_rfl) (by rfl) ?_
  refine callH (ys := [.v (.bool na), .v (.slice rd rs.length rc)]) hI rfl rfl ⟨_, rfl, rfl, rfl⟩ (by kernel_rfl) Try.func23 rfl rfl ?_
  refine (wide_wd na (hr.now hB hR)).mono ?_
  rintro ex w7 ⟨nu, us, rfl, hk, hu⟩
  replace hF := hF.grow hR hk; replace hS := hS.same hk
  replace ha := ha.next hB hR hk
  replace hb := hb.next hB hR hk
  replace hr := hr.next hB hR hk
  replace hz := hz.next hB hR hk
  have hB_ := hB.next hR hk
  replace hR := hR.after hk
  replace hB := hB_; clear hB_ hk
  refine ⟨_, rfl, hS, ?_⟩
  replace hI := hI.put (d := some 26) (x := .v (.agg #[.bool nu, .slice rd us.length rc])) (by intro t ht; cases ht; decide) rfl
  replace hI := hI.sel [26, 22, 25, 24, 21, 20, 5, 4] (by kernel_rfl : sel _ _ = some [(26, .v (.agg #[.bool nu, .slice rd us.length rc])), (22, .v (.agg #[.bool nz, .slice qd zs.length qc])), (25, .v (.slice rd rs.length rc)), (24, .v (.bool na)), (21, .v (.slice qd qs.length qc)), (20, .v (.bool (!(na == nb)))), (5, .p 3 0), (4, .p 2 0)])
  refine oneL (i := 11) (f' := 1) (by kernel_rfl) (by rfl) ?_
  refine effH tab (k := 4) (hh := .no) (r := ⟨.v (undef), [⟨2, 29, [.v (.bool nz), .v (.slice qd zs.length qc)]⟩, ⟨3, 29, [.v (.bool false), .v (.slice none 0 0)]⟩, ⟨1, 29, [.v (.bool nb), .v (.slice bd ys.length dap)]⟩, ⟨0, 29, [.v (.bool na), .v (.slice ad xs.length cap)]⟩], [], 4, _, true⟩) hR hI (by kernel_rfl) rfl rfl rfl (by kernel_rfl) .nil (fun e8 a8 w8 hag hR2 hI => ?_)
  replace hS := Rel.old (k := 4) hS hR hR2 hF hag [3, 1, 0] [] (by kernel_rfl) (by kernel_rfl) (by kernel_rfl); replace hR := hR2
  refine ⟨hS, ?_⟩
  refine wpL_env hag (by kernel_rfl) ?_
  replace hS := hS.agree (k := 4) (L := []) (Wf.of (by kernel_rfl)) hag
  replace hI := hI.sel [26, 22, 25, 24, 21, 20, 5, 4] (by kernel_rfl : sel _ _ = some [(26, .v (.agg #[.bool nu, .slice rd us.length rc])), (22, .v (.agg #[.bool nz, .slice qd zs.length qc])), (25, .v (.slice rd rs.length rc)), (24, .v (.bool na)), (21, .v (.slice qd qs.length qc)), (20, .v (.bool (!(na == nb)))), (5, .p 3 0), (4, .p 2 0)])
  refine endL (i := 12) (f' := 0) (by kernel_rfl) (by rfl) (by kernel_rfl) ?_
  refine effH tab (k := 4) (hh := .no) (r := ⟨.v (undef), [⟨3, 29, [.v (.bool nu), .v (.slice rd us.length rc)]⟩, ⟨2, 29, [.v (.bool nz), .v (.slice qd zs.length qc)]⟩, ⟨1, 29, [.v (.bool nb), .v (.slice bd ys.length dap)]⟩, ⟨0, 29, [.v (.bool na), .v (.slice ad xs.length cap)]⟩], [], 4, _, true⟩) hR hI (by kernel_rfl) rfl rfl rfl (by kernel_rfl) .nil (fun e9 a9 w9 hag hR2 hI => ?_)
  replace hR := hR2; clear hR2
  replace hI := hI.sel [26, 22, 25, 24, 21, 20, 5, 4] (by kernel_rfl : sel _ _ = some [(26, .v (.agg #[.bool nu, .slice rd us.length rc])), (22, .v (.agg #[.bool nz, .slice qd zs.length qc])), (25, .v (.slice rd rs.length rc)), (24, .v (.bool na)), (21, .v (.slice qd qs.length qc)), (20, .v (.bool (!(na == nb)))), (5, .p 3 0), (4, .p 2 0)])
  refine doneL (by kernel_rfl) ?_
  refine then_n ?_
  replace hI := hI.sel [5, 4] (by kernel_rfl : sel _ _ = some [(5, .p 3 0), (4, .p 2 0)]); replace hR := hR.sel [3, 2] [] (by kernel_rfl : selH _ _ = some [⟨3, 29, [.v (.bool nu), .v (.slice rd us.length rc)]⟩, ⟨2, 29, [.v (.bool nz), .v (.slice qd zs.length qc)]⟩]) (by kernel_rfl : selG _ _ = some [])
  refine wp_ret ?_
  refine outN tab (xs := [.agg [.v (.bool nz), .v (.slice qd zs.length qc)], .agg [.v (.bool nu), .v (.slice rd us.length rc)]]) hR hI rfl (by kernel_rfl) ?_
  exact ⟨nz, qd, qc, zs, nu, rd, rc, us, rfl, hB.fin hR, (hz.fin hB hR).to (by rw [hvq, sg_tdiv, ha.eq, hb.eq]) (by omega), (hu.fin hB hR).to (by rw [hvr, sg_tmod na nb, ha.eq, hb.eq]) (by omega)⟩

set_option maxHeartbeats 4000000 in
set_option maxRecDepth 100000 in
theorem two_spec {C : Nat → Prop} {w : World} {n : Nat} (hn : n ≤ 100000) :
    Calls P 37 #[.int .i64 ((n : Nat) : Int)] w fun ex w' => ∃ nz zd zc zs, ex = .returned (.agg #[.bool nz, .slice zd (List.length zs) zc]) ∧ Keep (fun b => b < w.heap.size) w w' ∧ Wd (Grow C w w') w' nz zd zc zs (((2 ^ n : Nat) : Int)) (n / 32 + 1) := by
  refine doorN (e := e0) (vs := [.v (.int .i64 ((n : Nat) : Int))]) (n := 17) (m := 1) Try.func37 rfl rfl rfl (by decide) fun a_ hI => ?_
  replace hI : Is 17 [] e0 [(0, .v (.int .i64 ((n : Nat) : Int)))] a_ := hI
  have hR : Rel (fun b => b < w.heap.size) w e0 [] [] w := Rel.start (fun k hk => hk)
  have hB : Base C w C (fun b => b < w.heap.size) w := Base.start
  refine reg_seq tab (k := 0) (hs := []) (sy := []) (ks := [2, 0]) (bs := [0]) (gs := [])
      (L' := [(2, .p 0 0), (0, .v (.int .i64 ((n : Nat) : Int)))])
      (H' := [⟨0, 29, [.v (.bool false), .v (.slice none 0 0)]⟩]) (G' := []) (k' := 1) hR hI (by kernel_rfl)
      .nil (fun e1 a1 w1 hag hR hI => ?_)
  refine reg_seq tab (k := 1) (hs := [(1, .nw), (2, .nw)]) (sy := []) (ks := [3, 2, 0]) (bs := [0]) (gs := [1])
      (L' := [(3, .row 1), (2, .p 0 0), (0, .v (.int .i64 ((n : Nat) : Int)))])
      (H' := [⟨0, 29, [.v (.bool false), .v (.slice none 0 0)]⟩]) (G' := [⟨1, 68, 1, ((n / 32) + 1), (List.replicate ((n / 32) + 1) (.int .u32 0))⟩]) (k' := 2) hR hI (by kernel_rfl)
      (.cons (by omega : (0 : Int) ≤ ((n : Nat) : Int)) (.cons (by omega : (0 : Int) < (32 : Int)) (.cons (inR_i64 (n := ((n : Nat) : Int) / (32 : Int)) (by omega)) (.cons (inR_i64 (n := ((n / 32 : Nat) : Int) + (1 : Int)) (by omega)) (.cons (by omega : (0 : Int) ≤ (((n / 32) + 1 : Nat) : Int) ∧ (((n / 32) + 1 : Nat) : Int) ≤ (((n / 32) + 1 : Nat) : Int)) (.cons (by omega : ((4 : Nat) : Int) * (((n / 32) + 1 : Nat) : Int) ≤ 281474976710656) (.cons (by have hm_ : maxLen = 9223372036854775807 := rfl; rw [hm_]; omega : (n / 32) + 1 ≤ maxLen) .nil))))))) (fun e2 a2 w2 hag hR hI => ?_)
  have er_ : List.replicate (n / 32 + 1) (Value.int .u32 0) = ints .u32 (List.replicate (n / 32 + 1) 0) := ints_replicate .u32 (n / 32 + 1) 0
  rw [er_] at hR
  refine reg_seq tab (k := 2) (hs := [(2, .nw), (4, .nw), (5, .eq (.int .u32 ((1 * 2 ^ (n % 32) : Nat) : Int)))]) (sy := []) (ks := [3, 2]) (bs := [0]) (gs := [1])
      (L' := [(3, .row 1), (2, .p 0 0)])
      (H' := [⟨0, 29, [.v (.bool false), .v (.slice none 0 0)]⟩]) (G' := [⟨1, 68, 1, (n / 32 + 1), ((ints .u32 (List.replicate (n / 32 + 1) 0)).set (n / 32) (.int .u32 ((1 * 2 ^ (n % 32) : Nat) : Int)))⟩]) (k' := 2) hR hI (by kernel_rfl)
      (.cons (by omega : (0 : Int) ≤ ((n : Nat) : Int)) (.cons (by omega : (0 : Int) < (32 : Int)) (.cons (inR_i64 (n := ((n : Nat) : Int) / (32 : Int)) (by omega)) (.cons (by omega : (0 : Int) ≤ ((n : Nat) : Int)) (.cons (by omega : (0 : Int) < (32 : Int)) (.cons (congrArg (Value.int .u32) (shl_one _ (by omega) : IntKind.u32.wrap ((1 : Int) * 2 ^ (n % 32)) = ((1 * 2 ^ (n % 32) : Nat) : Int))) (.cons (by omega : (0 : Int) ≤ ((n % 32 : Nat) : Int)) (.cons (by show _ ≤ (32 : Int); omega : ((n % 32 : Nat) : Int) ≤ (IntKind.u32.bits : Int)) (.cons (by omega : (0 : Int) ≤ ((n / 32 : Nat) : Int) ∧ ((n / 32 : Nat) : Int) < ((n / 32 + 1 : Nat) : Int)) (.cons (by omega : n / 32 < (n / 32 + 1) * 1) .nil)))))))))) (fun e3 a3 w3 hag hR hI => ?_)
  rw [ints_set] at hR
  refine wp_seq ?_
  refine reg (is := [0, 1, 2]) (by kernel_rfl) ?_
  refine part_ tab [0] [1, 2] (by rfl) (k := 2) (hs := []) (sy := []) (ks := [15, 2]) (bs := [0]) (gs := [1])
      (L' := [(15, .row 1), (2, .p 0 0)])
      (H' := [⟨0, 29, [.v (.bool false), .v (.slice none 0 0)]⟩]) (G' := [⟨1, 68, 1, (n / 32 + 1), (ints .u32 ((List.replicate (n / 32 + 1) 0).set (n / 32) (1 * 2 ^ (n % 32))))⟩]) (k' := 2) hR hI (by kernel_rfl)
      .nil (fun e4 a4 w4 hag hR hI => ?_)
  obtain ⟨hB_, hR_, hrel_, zd, zc, hv_, hcells_, hlen_, hcap_, hmax_⟩ := hB.release hR (y := ⟨1, 68, 1, (n / 32 + 1), (ints .u32 ((List.replicate (n / 32 + 1) 0).set (n / 32) (1 * 2 ^ (n % 32))))⟩) (by simp) rfl _ dropN_mem
  have hm : Sl .u32 4294967296 _ _ zd zc ((List.replicate (n / 32 + 1) 0).set (n / 32) (1 * 2 ^ (n % 32))) := ⟨hcells_, (dig_pow n), (by dsimp only at hlen_ hcap_; rw [ints_length] at hlen_; omega), hmax_⟩
  replace hI := hI.re 15 (.v (.slice zd (n / 32 + 1) zc)) rfl hv_
  replace hB := hB_; replace hR := hR_.sel [0] [] (by kernel_rfl : selH _ _ = some [⟨0, 29, [.v (.bool false), .v (.slice none 0 0)]⟩]) (by kernel_rfl : selG _ _ = some []); clear hB_ hR_ hrel_ hcells_ hv_
  have hln : ((List.replicate (n / 32 + 1) 0).set (n / 32) (1 * 2 ^ (n % 32))).length = n / 32 + 1 := by rw [List.length_set, List.length_replicate]
  replace hI := hI.re 15 (.v (.slice zd (((List.replicate (n / 32 + 1) 0).set (n / 32) (1 * 2 ^ (n % 32))).length) zc)) rfl (by simp only [den]; rw [hln])
  refine callOp (ys := [.v (.bool false), .v (.slice zd (((List.replicate (n / 32 + 1) 0).set (n / 32) (1 * 2 ^ (n % 32))).length) zc)]) hI rfl rfl ⟨_, rfl, rfl, rfl⟩ (by kernel_rfl) Try.func23 rfl rfl ?_
  refine (wide_wd false (hm.now hB hR)).mono ?_
  rintro ex w5 ⟨nz, zs, rfl, hk, hz⟩
  replace hm := hm.next hB hR hk
  have hB_ := hB.next hR hk
  replace hR := hR.after hk
  replace hB := hB_; clear hB_ hk
  refine ⟨_, rfl, ?_⟩
  replace hI := hI.put (d := some 16) (x := .v (.agg #[.bool nz, .slice zd zs.length zc])) (by intro t ht; cases ht; decide) rfl
  replace hI := hI.sel [16, 15, 2] (by kernel_rfl : sel _ _ = some [(16, .v (.agg #[.bool nz, .slice zd zs.length zc])), (15, .v (.slice zd (((List.replicate (n / 32 + 1) 0).set (n / 32) (1 * 2 ^ (n % 32))).length) zc)), (2, .p 0 0)])
  refine part_ tab [2] [] (by rfl) (k := 2) (hs := []) (sy := []) (ks := [2]) (bs := [0]) (gs := [])
      (L' := [(2, .p 0 0)])
      (H' := [⟨0, 29, [.v (.bool nz), .v (.slice zd zs.length zc)]⟩]) (G' := []) (k' := 2) hR hI (by kernel_rfl)
      .nil (fun e6 a6 w6 hag hR hI => ?_)
  refine ops_nil ?_
  refine then_n ?_
  refine wp_ret ?_
  refine outN tab (xs := [.agg [.v (.bool nz), .v (.slice zd zs.length zc)]]) hR hI rfl (by kernel_rfl) ?_
  exact ⟨nz, zd, zc, zs, rfl, hB.fin hR, (hz.fin hB hR).to (by rw [val_pow]; rfl) (by rw [hln]; exact Nat.le_refl _)⟩

set_option maxHeartbeats 4000000 in
set_option maxRecDepth 100000 in
theorem fromWords_spec {C : Nat → Prop} {w : World} {ad : Option Addr} {cap : Nat} {ws : List Nat} (hx : Sl .u64 18446744073709551616 C w ad cap ws) (hlen : ws.length ≤ 1000) :
    Calls P 21 #[.slice ad ws.length cap] w fun ex w' => ∃ nz zd zc zs, ex = .returned (.agg #[.bool nz, .slice zd (List.length zs) zc]) ∧ Keep (fun b => b < w.heap.size) w w' ∧ Wd (Grow C w w') w' nz zd zc zs (swv ws) (4 * ws.length + 2) := by
  refine doorN (e := e0) (vs := [.v (.slice ad ws.length cap)]) (n := 44) (m := 1) Try.func21 rfl rfl rfl (by decide) fun a_ hI => ?_
  replace hI : Is 44 [] e0 [(0, .v (.slice ad ws.length cap))] a_ := hI
  have hR : Rel (fun b => b < w.heap.size) w e0 [] [] w := Rel.start (fun k hk => hk)
  have hB : Base C w C (fun b => b < w.heap.size) w := Base.start
  have hrx := hx.room; have hmx := hx.max; have hgl := hx.get (ws.length - 1) (by decide)
  refine reg_seq tab (k := 0) (hs := []) (sy := []) (ks := [2, 0]) (bs := [0]) (gs := [])
      (L' := [(2, .p 0 0), (0, .v (.slice ad ws.length cap))])
      (H' := [⟨0, 29, [.v (.bool false), .v (.slice none 0 0)]⟩]) (G' := []) (k' := 1) hR hI (by kernel_rfl)
      .nil (fun e1 a1 w1 hag hR hI => ?_)
  refine reg_seq tab (k := 1) (hs := []) (sy := []) (ks := [3, 2, 0]) (bs := [0]) (gs := [])
      (L' := [(3, .v (.slice none 0 0)), (2, .p 0 0), (0, .v (.slice ad ws.length cap))])
      (H' := [⟨0, 29, [.v (.bool false), .v (.slice none 0 0)]⟩]) (G' := []) (k' := 1) hR hI (by kernel_rfl)
      .nil (fun e2 a2 w2 hag hR hI => ?_)
  refine wp_seq ?_
  refine reg_seq tab (k := 1) (hs := []) (sy := []) (ks := [9, 8, 7, 3, 2, 0]) (bs := [0]) (gs := [])
      (L' := [(9, .v (.int .i64 0)), (8, .v (.int .i64 ((ws.length : Nat) : Int))), (7, .v (.slice ad ws.length cap)), (3, .v (.slice none 0 0)), (2, .p 0 0), (0, .v (.slice ad ws.length cap))])
      (H' := [⟨0, 29, [.v (.bool false), .v (.slice none 0 0)]⟩]) (G' := []) (k' := 1) hR hI (by kernel_rfl)
      .nil (fun e3 a3 w3 hag hR hI => ?_)
  refine wp_block ?_
  obtain ⟨e4, hag_, hr_, hR_⟩ := hR.nilRow (L := [(9, .v (.int .i64 0)), (8, .v (.int .i64 ((ws.length : Nat) : Int))), (7, .v (.slice ad ws.length cap)), (3, .v (.slice none 0 0)), (2, .p 0 0), (0, .v (.slice ad ws.length cap))]) 1 (by kernel_rfl) 68 1
  replace hI := hI.agreeB (H := [⟨0, 29, [.v (.bool false), .v (.slice none 0 0)]⟩]) (G := []) (by kernel_rfl) hag_; replace hR := hR_; replace hI := hI.re 3 (.row 1) rfl hr_.symm; clear hag_ hr_ hR_
  refine lp (γ := Nat × List Nat) (fun (i, ds) => (⟨[(0, .v (.slice ad ws.length cap)), (2, .p 0 0), (3, .row 1), (7, .v (.slice ad ws.length cap)), (8, .v (.int .i64 ((ws.length : Nat) : Int))), (9, .v (.int .i64 ((i : Nat) : Int)))], [⟨0, 29, [.v (.bool false), .v (.slice none 0 0)]⟩], [⟨1, 68, 1, (2 * i), (ints .u32 ds)⟩], 2⟩ : Sy)) (fun (i, ds) e => ds.length = 2 * i ∧ Dig ds ∧ i ≤ ws.length ∧ val ds = wval (ws.take i)) (fun (i, ds) => ws.length - i) (0, []) (⟨rfl, fun _ h => by (cases h), Nat.zero_le _, rfl⟩)
      (hR.sel [0] [1] (by kernel_rfl) (by kernel_rfl)) (hI.sel [0, 2, 3, 7, 8, 9] (by kernel_rfl)) ?_
  clear hR hI
  rintro ⟨i, ds⟩ e5 a5 w5 hp hR hI
  dsimp only at hp hR hI
  obtain ⟨hdl, hdd, hi, hv⟩ := hp; have hgx := hx.get i (by decide)
  refine reg_seq tab (k := 2) (hs := []) (sy := []) (ks := [10, 0, 2, 3, 7, 8, 9]) (bs := [0]) (gs := [1])
      (L' := [(10, .v (.bool (decide (((i : Nat) : Int) < ((ws.length : Nat) : Int))))), (0, .v (.slice ad ws.length cap)), (2, .p 0 0), (3, .row 1), (7, .v (.slice ad ws.length cap)), (8, .v (.int .i64 ((ws.length : Nat) : Int))), (9, .v (.int .i64 ((i : Nat) : Int)))])
      (H' := [⟨0, 29, [.v (.bool false), .v (.slice none 0 0)]⟩]) (G' := [⟨1, 68, 1, (2 * i), (ints .u32 ds)⟩]) (k' := 2) hR hI (by kernel_rfl)
      .nil (fun e6 a6 w6 hag hR hI => ?_)
  refine wp_seq ?_
  refine cnd (b := decide (((i : Nat) : Int) < ((ws.length : Nat) : Int))) hI (by kernel_rfl) (fun hc7 => ?_) (fun hc7 => ?_)
  · skip
    replace hI := hI.re 10 (.v (.bool true)) rfl (congrArg Value.bool hc7)
    try simp only [decide_eq_true_eq, decide_eq_false_iff_not, beq_iff_eq, bne_iff_ne, beq_eq_false_iff_ne, bne_eq_false_iff_eq, Bool.and_eq_true, Bool.and_eq_false_iff, Bool.or_eq_true, Bool.or_eq_false_iff, Bool.not_eq_true', Bool.not_eq_false', ne_eq] at hc7
    refine wp_skip ?_
    refine then_n ?_
    refine wp_seq ?_
    refine wp_block ?_
    refine reg_seq tab (k := 2) (hs := [(1, .val (.v (.int .u64 ((ws.getD i 0 : Nat) : Int))))]) (sy := []) (ks := [5, 0, 2, 3, 7, 8, 9]) (bs := [0]) (gs := [1])
        (L' := [(5, .v (.int .u64 ((ws.getD i 0 : Nat) : Int))), (0, .v (.slice ad ws.length cap)), (2, .p 0 0), (3, .row 1), (7, .v (.slice ad ws.length cap)), (8, .v (.int .i64 ((ws.length : Nat) : Int))), (9, .v (.int .i64 ((i : Nat) : Int)))])
        (H' := [⟨0, 29, [.v (.bool false), .v (.slice none 0 0)]⟩]) (G' := [⟨1, 68, 1, (2 * i), (ints .u32 ds)⟩]) (k' := 2) hR hI (by kernel_rfl)
        (.cons (by omega : (0 : Int) ≤ ((i : Nat) : Int) ∧ ((i : Nat) : Int) < ((ws.length : Nat) : Int)) (.cons (nats_some (i := i) (hx.cells.mono hB.cls) (by omega)) (.cons (nats_load (i := i) (m := 1) (hx.cells.mono hB.cls) (by omega)) .nil))) (fun e8 a8 w8 hag hR hI => ?_)
    refine reg_all tab (k := 2) (hs := [(2, .eq (.int .u32 ((ws.getD i 0 % 4294967296 : Nat) : Int))), (5, .nw)]) (sy := []) (ks := [3, 0, 2, 7, 8, 9]) (bs := [0]) (gs := [3])
        (L' := [(3, .row 3), (0, .v (.slice ad ws.length cap)), (2, .p 0 0), (7, .v (.slice ad ws.length cap)), (8, .v (.int .i64 ((ws.length : Nat) : Int))), (9, .v (.int .i64 ((i : Nat) : Int)))])
        (H' := [⟨0, 29, [.v (.bool false), .v (.slice none 0 0)]⟩]) (G' := [⟨3, 68, 1, (2 * i + 2), ((ints .u32 ds) ++ [.int .u32 ((ws.getD i 0 % 4294967296 : Nat) : Int), .int .u32 (((ws.getD i 0) / 4294967296 : Nat) : Int)])⟩]) (k' := 4) hR hI (by kernel_rfl)
        (.cons (congrArg (Value.int .u32) (wrap_u32_nat _ : IntKind.u32.wrap ((ws.getD i 0 : Nat) : Int) = ((ws.getD i 0 % 4294967296 : Nat) : Int))) (.cons (by decide : (0 : Int) ≤ 32) (.cons (by decide : (32 : Int) ≤ (IntKind.u64.bits : Int)) (.cons (inR_u32 (n := (((ws.getD i 0) / 4294967296 : Nat) : Int)) (by omega)) (.cons (by have hm_ : maxLen = 9223372036854775807 := rfl; rw [hm_]; omega : 2 * i + 2 ≤ maxLen) (.cons (by omega : (2 * i + 2) * 4 ≤ 140737488355328) .nil)))))) (fun e9 a9 w9 hag hR hI => ?_)
    refine normal_block ?_
    refine then_n ?_
    refine reg_all tab (k := 4) (hs := [(0, .nw)]) (sy := []) (ks := [9, 3, 0, 2, 7, 8]) (bs := [0]) (gs := [3])
        (L' := [(9, .v (.int .i64 ((i + 1 : Nat) : Int))), (3, .row 3), (0, .v (.slice ad ws.length cap)), (2, .p 0 0), (7, .v (.slice ad ws.length cap)), (8, .v (.int .i64 ((ws.length : Nat) : Int)))])
        (H' := [⟨0, 29, [.v (.bool false), .v (.slice none 0 0)]⟩]) (G' := [⟨3, 68, 1, (2 * i + 2), ((ints .u32 ds) ++ [.int .u32 ((ws.getD i 0 % 4294967296 : Nat) : Int), .int .u32 (((ws.getD i 0) / 4294967296 : Nat) : Int)])⟩]) (k' := 4) hR hI (by kernel_rfl)
        (.cons (inR_i64 (n := ((i : Nat) : Int) + (1 : Int)) (by omega)) .nil) (fun e10 a10 w10 hag hR hI => ?_)
    refine then_n ?_
    replace hR := hR.sel [0] [3] (by kernel_rfl : selH _ _ = some [⟨0, 29, [.v (.bool false), .v (.slice none 0 0)]⟩]) (by kernel_rfl : selG _ _ = some [⟨3, 68, 1, (2 * i + 2), ((ints .u32 ds) ++ [.int .u32 ((ws.getD i 0 % 4294967296 : Nat) : Int), .int .u32 (((ws.getD i 0) / 4294967296 : Nat) : Int)])⟩])
    have hren_ : Sy.ren [(1, 3)] ⟨[(9, .v (.int .i64 ((i + 1 : Nat) : Int))), (3, .row 1), (0, .v (.slice ad ws.length cap)), (2, .p 0 0), (7, .v (.slice ad ws.length cap)), (8, .v (.int .i64 ((ws.length : Nat) : Int)))], [⟨0, 29, [.v (.bool false), .v (.slice none 0 0)]⟩], [⟨1, 68, 1, (2 * i + 2), ((ints .u32 ds) ++ [.int .u32 ((ws.getD i 0 % 4294967296 : Nat) : Int), .int .u32 (((ws.getD i 0) / 4294967296 : Nat) : Int)])⟩], 0⟩ = ⟨[(9, .v (.int .i64 ((i + 1 : Nat) : Int))), (3, .row 3), (0, .v (.slice ad ws.length cap)), (2, .p 0 0), (7, .v (.slice ad ws.length cap)), (8, .v (.int .i64 ((ws.length : Nat) : Int)))], [⟨0, 29, [.v (.bool false), .v (.slice none 0 0)]⟩], [⟨3, 68, 1, (2 * i + 2), ((ints .u32 ds) ++ [.int .u32 ((ws.getD i 0 % 4294967296 : Nat) : Int), .int .u32 (((ws.getD i 0) / 4294967296 : Nat) : Int)])⟩], 0⟩ := by kernel_rfl
    replace hI := hI.rename (S := ⟨[(9, .v (.int .i64 ((i + 1 : Nat) : Int))), (3, .row 3), (0, .v (.slice ad ws.length cap)), (2, .p 0 0), (7, .v (.slice ad ws.length cap)), (8, .v (.int .i64 ((ws.length : Nat) : Int)))], [⟨0, 29, [.v (.bool false), .v (.slice none 0 0)]⟩], [⟨3, 68, 1, (2 * i + 2), ((ints .u32 ds) ++ [.int .u32 ((ws.getD i 0 % 4294967296 : Nat) : Int), .int .u32 (((ws.getD i 0) / 4294967296 : Nat) : Int)])⟩], 0⟩) (S' := ⟨[(9, .v (.int .i64 ((i + 1 : Nat) : Int))), (3, .row 1), (0, .v (.slice ad ws.length cap)), (2, .p 0 0), (7, .v (.slice ad ws.length cap)), (8, .v (.int .i64 ((ws.length : Nat) : Int)))], [⟨0, 29, [.v (.bool false), .v (.slice none 0 0)]⟩], [⟨1, 68, 1, (2 * i + 2), ((ints .u32 ds) ++ [.int .u32 ((ws.getD i 0 % 4294967296 : Nat) : Int), .int .u32 (((ws.getD i 0) / 4294967296 : Nat) : Int)])⟩], 0⟩) hren_; replace hR := hR.rename (S := ⟨[(9, .v (.int .i64 ((i + 1 : Nat) : Int))), (3, .row 3), (0, .v (.slice ad ws.length cap)), (2, .p 0 0), (7, .v (.slice ad ws.length cap)), (8, .v (.int .i64 ((ws.length : Nat) : Int)))], [⟨0, 29, [.v (.bool false), .v (.slice none 0 0)]⟩], [⟨3, 68, 1, (2 * i + 2), ((ints .u32 ds) ++ [.int .u32 ((ws.getD i 0 % 4294967296 : Nat) : Int), .int .u32 (((ws.getD i 0) / 4294967296 : Nat) : Int)])⟩], 0⟩) (S' := ⟨[(9, .v (.int .i64 ((i + 1 : Nat) : Int))), (3, .row 1), (0, .v (.slice ad ws.length cap)), (2, .p 0 0), (7, .v (.slice ad ws.length cap)), (8, .v (.int .i64 ((ws.length : Nat) : Int)))], [⟨0, 29, [.v (.bool false), .v (.slice none 0 0)]⟩], [⟨1, 68, 1, (2 * i + 2), ((ints .u32 ds) ++ [.int .u32 ((ws.getD i 0 % 4294967296 : Nat) : Int), .int .u32 (((ws.getD i 0) / 4294967296 : Nat) : Int)])⟩], 0⟩) hren_ (by kernel_rfl) (by kernel_rfl); dsimp only at hI hR; clear hren_
    rw [ints_two] at hR
    exact ⟨(i + 1, ds ++ [ws.getD i 0 % 4294967296, ws.getD i 0 / 4294967296]), (Env.ren e10 [(1, 3)]), ⟨(from_step hdl hdd hv hgx).1, (from_step hdl hdd hv hgx).2.1, by omega, (from_step hdl hdd hv hgx).2.2⟩, by (try dsimp only); omega, hR.sel [0] [1] (by kernel_rfl) (by kernel_rfl), hI.sel [0, 2, 3, 7, 8, 9] (by kernel_rfl)⟩
  · skip
    replace hI := hI.re 10 (.v (.bool false)) rfl (congrArg Value.bool hc7)
    try simp only [decide_eq_true_eq, decide_eq_false_iff_not, beq_iff_eq, bne_iff_ne, beq_eq_false_iff_ne, bne_eq_false_iff_eq, Bool.and_eq_true, Bool.and_eq_false_iff, Bool.or_eq_true, Bool.or_eq_false_iff, Bool.not_eq_true', Bool.not_eq_false', ne_eq] at hc7
    refine wp_exit ?_
    refine exit_then ?_
    refine exit_then ?_
    refine exit_hit ?_
    refine then_n ?_
    refine wp_seq ?_
    refine reg (is := [0, 1, 2, 3]) (by kernel_rfl) ?_
    refine part_ tab [0] [1, 2, 3] (by rfl) (k := 2) (hs := []) (sy := []) (ks := [22, 0, 2]) (bs := [0]) (gs := [1])
        (L' := [(22, .row 1), (0, .v (.slice ad ws.length cap)), (2, .p 0 0)])
        (H' := [⟨0, 29, [.v (.bool false), .v (.slice none 0 0)]⟩]) (G' := [⟨1, 68, 1, (2 * i), (ints .u32 ds)⟩]) (k' := 2) hR hI (by kernel_rfl)
        .nil (fun e11 a11 w11 hag hR hI => ?_)
    obtain ⟨hB_, hR_, hrel_, md, mc, hv_, hcells_, hlen_, hcap_, hmax_⟩ := hB.release hR (y := ⟨1, 68, 1, (2 * i), (ints .u32 ds)⟩) (by simp) rfl _ dropN_mem
    replace hx := hx.rel hrel_
    have hm : Sl .u32 4294967296 _ _ md mc ds := ⟨hcells_, hdd, (by dsimp only at hlen_ hcap_; rw [ints_length] at hlen_; omega), hmax_⟩
    replace hI := hI.re 22 (.v (.slice md (2 * i) mc)) rfl hv_
    replace hB := hB_; replace hR := hR_.sel [0] [] (by kernel_rfl : selH _ _ = some [⟨0, 29, [.v (.bool false), .v (.slice none 0 0)]⟩]) (by kernel_rfl : selG _ _ = some []); clear hB_ hR_ hrel_ hcells_ hv_
    replace hI := hI.re 22 (.v (.slice md ds.length mc)) rfl (by simp only [den]; rw [hdl])
    refine callOp (ys := [.v (.bool false), .v (.slice md ds.length mc)]) hI rfl rfl ⟨_, rfl, rfl, rfl⟩ (by kernel_rfl) Try.func23 rfl rfl ?_
    refine (wide_wd false (hm.now hB hR)).mono ?_
    rintro ex w12 ⟨nm, ms, rfl, hk, hms⟩
    replace hm := hm.next hB hR hk
    replace hx := hx.next hB hR hk
    have hB_ := hB.next hR hk
    replace hR := hR.after hk
    replace hB := hB_; clear hB_ hk
    refine ⟨_, rfl, ?_⟩
    replace hI := hI.put (d := some 23) (x := .v (.agg #[.bool nm, .slice md ms.length mc])) (by intro t ht; cases ht; decide) rfl
    replace hI := hI.sel [23, 22, 0, 2] (by kernel_rfl : sel _ _ = some [(23, .v (.agg #[.bool nm, .slice md ms.length mc])), (22, .v (.slice md ds.length mc)), (0, .v (.slice ad ws.length cap)), (2, .p 0 0)])
    refine part_ tab [2, 3] [] (by rfl) (k := 2) (hs := []) (sy := []) (ks := [6, 0, 2]) (bs := [2, 0]) (gs := [])
        (L' := [(6, .p 2 0), (0, .v (.slice ad ws.length cap)), (2, .p 0 0)])
        (H' := [⟨2, 29, [.v (.bool nm), .v (.slice md ms.length mc)]⟩, ⟨0, 29, [.v (.bool false), .v (.slice none 0 0)]⟩]) (G' := []) (k' := 3) hR hI (by kernel_rfl)
        .nil (fun e13 a13 w13 hag hR hI => ?_)
    refine ops_nil ?_
    refine then_n ?_
    refine wp_seq ?_
    refine reg_seq tab (k := 3) (hs := [(7, .eq (.int .i64 ((ws.length - 1 : Nat) : Int))), (9, .val (.v (.int .u64 ((ws.getD (ws.length - 1) 0 : Nat) : Int)))), (12, .sym)]) (sy := [4, 5, 6, 7, 8, 9, 10, 11]) (ks := [36, 6, 0, 2]) (bs := [2, 0]) (gs := [])
        (L' := [(36, .v (.bool ((decide (((ws.length : Nat) : Int) > (0 : Int))) && ((((ws.getD (ws.length - 1) 0) / 9223372036854775808 : Nat) : Int) == (1 : Int))))), (6, .p 2 0), (0, .v (.slice ad ws.length cap)), (2, .p 0 0)])
        (H' := [⟨2, 29, [.v (.bool nm), .v (.slice md ms.length mc)]⟩, ⟨0, 29, [.v (.bool false), .v (.slice none 0 0)]⟩]) (G' := []) (k' := 3) hR hI (by kernel_rfl)
        (.cons (rfl : (decide (((ws.length : Nat) : Int) > (0 : Int))) = (decide (((ws.length : Nat) : Int) > (0 : Int)))) (.cons (rfl : (decide (((ws.length : Nat) : Int) > (0 : Int))) = (decide (((ws.length : Nat) : Int) > (0 : Int)))) (.cons (rfl : (decide (((ws.length : Nat) : Int) > (0 : Int))) = (decide (((ws.length : Nat) : Int) > (0 : Int)))) (.cons (rfl : (decide (((ws.length : Nat) : Int) > (0 : Int))) = (decide (((ws.length : Nat) : Int) > (0 : Int)))) (.cons (rfl : (decide (((ws.length : Nat) : Int) > (0 : Int))) = (decide (((ws.length : Nat) : Int) > (0 : Int)))) (.cons (rfl : (decide (((ws.length : Nat) : Int) > (0 : Int))) = (decide (((ws.length : Nat) : Int) > (0 : Int)))) (.cons (fun (hg : ((decide (((ws.length : Nat) : Int) > (0 : Int))) == true) = true) => have hg := gd_t hg; (congrArg (Value.int .i64) (natsub_i64 (q := 1) (by omega) (by omega) : IntKind.i64.wrap (((ws.length : Nat) : Int) - (1 : Int)) = ((ws.length - 1 : Nat) : Int)))) (.cons (rfl : (decide (((ws.length : Nat) : Int) > (0 : Int))) = (decide (((ws.length : Nat) : Int) > (0 : Int)))) (.cons (rfl : (decide (((ws.length : Nat) : Int) > (0 : Int))) = (decide (((ws.length : Nat) : Int) > (0 : Int)))) (.cons (rfl : (decide (((ws.length : Nat) : Int) > (0 : Int))) = (decide (((ws.length : Nat) : Int) > (0 : Int)))) (.cons (rfl : (decide (((ws.length : Nat) : Int) > (0 : Int))) = (decide (((ws.length : Nat) : Int) > (0 : Int)))) (.cons (fun (hg : ((decide (((ws.length : Nat) : Int) > (0 : Int))) == true) = true) => have hg := gd_t hg; (by omega : (0 : Int) ≤ ((ws.length - 1 : Nat) : Int) ∧ ((ws.length - 1 : Nat) : Int) < ((ws.length : Nat) : Int))) (.cons (fun (hg : ((decide (((ws.length : Nat) : Int) > (0 : Int))) == true) = true) => have hg := gd_t hg; (nats_some (i := ws.length - 1) (hx.cells.mono hB.cls) (by omega))) (.cons (rfl : (decide (((ws.length : Nat) : Int) > (0 : Int))) = (decide (((ws.length : Nat) : Int) > (0 : Int)))) (.cons (rfl : (decide (((ws.length : Nat) : Int) > (0 : Int))) = (decide (((ws.length : Nat) : Int) > (0 : Int)))) (.cons (rfl : (decide (((ws.length : Nat) : Int) > (0 : Int))) = (decide (((ws.length : Nat) : Int) > (0 : Int)))) (.cons (rfl : (decide (((ws.length : Nat) : Int) > (0 : Int))) = (decide (((ws.length : Nat) : Int) > (0 : Int)))) (.cons (rfl : (decide (((ws.length : Nat) : Int) > (0 : Int))) = (decide (((ws.length : Nat) : Int) > (0 : Int)))) (.cons (fun (hg : ((decide (((ws.length : Nat) : Int) > (0 : Int))) == true) = true) => have hg := gd_t hg; (nats_load (i := ws.length - 1) (m := 1) (hx.cells.mono hB.cls) (by omega))) (.cons (rfl : (decide (((ws.length : Nat) : Int) > (0 : Int))) = (decide (((ws.length : Nat) : Int) > (0 : Int)))) (.cons (rfl : (decide (((ws.length : Nat) : Int) > (0 : Int))) = (decide (((ws.length : Nat) : Int) > (0 : Int)))) (.cons (rfl : (decide (((ws.length : Nat) : Int) > (0 : Int))) = (decide (((ws.length : Nat) : Int) > (0 : Int)))) (.cons (rfl : (decide (((ws.length : Nat) : Int) > (0 : Int))) = (decide (((ws.length : Nat) : Int) > (0 : Int)))) (.cons (rfl : (decide (((ws.length : Nat) : Int) > (0 : Int))) = (decide (((ws.length : Nat) : Int) > (0 : Int)))) (.cons (rfl : (decide (((ws.length : Nat) : Int) > (0 : Int))) = (decide (((ws.length : Nat) : Int) > (0 : Int)))) (.cons (fun (hg : ((decide (((ws.length : Nat) : Int) > (0 : Int))) == true) = true) => have hg := gd_t hg; (by decide : (0 : Int) ≤ 63)) (.cons (fun (hg : ((decide (((ws.length : Nat) : Int) > (0 : Int))) == true) = true) => have hg := gd_t hg; (by decide : (63 : Int) ≤ (IntKind.u64.bits : Int))) (.cons (rfl : (decide (((ws.length : Nat) : Int) > (0 : Int))) = (decide (((ws.length : Nat) : Int) > (0 : Int)))) (.cons (rfl : (decide (((ws.length : Nat) : Int) > (0 : Int))) = (decide (((ws.length : Nat) : Int) > (0 : Int)))) (.cons (rfl : (decide (((ws.length : Nat) : Int) > (0 : Int))) = (decide (((ws.length : Nat) : Int) > (0 : Int)))) (.cons (rfl : (decide (((ws.length : Nat) : Int) > (0 : Int))) = (decide (((ws.length : Nat) : Int) > (0 : Int)))) (.cons (rfl : (decide (((ws.length : Nat) : Int) > (0 : Int))) = (decide (((ws.length : Nat) : Int) > (0 : Int)))) (.cons (rfl : (decide (((ws.length : Nat) : Int) > (0 : Int))) = (decide (((ws.length : Nat) : Int) > (0 : Int)))) (.cons (rfl : (decide (((ws.length : Nat) : Int) > (0 : Int))) = (decide (((ws.length : Nat) : Int) > (0 : Int)))) (.cons (by first | exact Bool.beq_true _ | exact Bool.beq_false _ | rfl | simp_all : ((decide (((ws.length : Nat) : Int) > (0 : Int))) == true) = (decide (((ws.length : Nat) : Int) > (0 : Int)))) .nil))))))))))))))))))))))))))))))))))) (fun e14 a14 w14 hag hR hI => ?_)
    refine cnd (b := ((decide (((ws.length : Nat) : Int) > (0 : Int))) && ((((ws.getD (ws.length - 1) 0) / 9223372036854775808 : Nat) : Int) == (1 : Int)))) hI (by kernel_rfl) (fun hc15 => ?_) (fun hc15 => ?_)
    · skip
      replace hI := hI.re 36 (.v (.bool true)) rfl (congrArg Value.bool hc15)
      try simp only [decide_eq_true_eq, decide_eq_false_iff_not, beq_iff_eq, bne_iff_ne, beq_eq_false_iff_ne, bne_eq_false_iff_eq, Bool.and_eq_true, Bool.and_eq_false_iff, Bool.or_eq_true, Bool.or_eq_false_iff, Bool.not_eq_true', Bool.not_eq_false', ne_eq] at hc15
      have hcz : 0 < ws.length ∧ 9223372036854775808 ≤ ws.getD (ws.length - 1) 0 := by omega
      refine regL 6 hR (by kernel_rfl) (fun hS => ?_)
      replace hR := hR.drew; have hF := hR.fore
      refine takeL tab (H := [⟨2, 29, [.v (.bool nm), .v (.slice md ms.length mc)]⟩, ⟨0, 29, [.v (.bool false), .v (.slice none 0 0)]⟩]) (G := []) (hs := [(3, .nw)]) (gs := []) (is := [0, 1, 2, 3]) (ks := [40, 37, 6, 2]) (f' := 3)
          (L' := [(40, .v (.int .i64 ((64 * ws.length : Nat) : Int))), (37, .agg [.v (.bool nm), .v (.slice md ms.length mc)]), (6, .p 2 0), (2, .p 0 0)]) hS hI (by kernel_rfl) (fun _ _ _ _ _ h => h) (by kernel_rfl)
          (.cons (inR_i64 (n := (64 : Int) * ((ws.length : Nat) : Int)) (by omega)) .nil) (by kernel_rfl) (by kernel_rfl) (by kernel_rfl) (by rfl) (fun a16 hI => ?_)
      refine oneL (i := 4) (f' := 2) (by kernel_rfl) (by rfl) ?_
      refine callH (ys := [.v (.int .i64 ((64 * ws.length : Nat) : Int))]) hI rfl rfl ⟨_, rfl, rfl, rfl⟩ (by kernel_rfl) Try.func37 rfl rfl ?_
      refine (two_spec (C := Now hB) (n := 64 * ws.length) (by omega)).mono ?_
      rintro ex w17 ⟨nt, td, tc, ts, rfl, hk, ht⟩
      replace hF := hF.grow hR hk; replace hS := hS.same hk
      replace hms := hms.next hB hR hk
      replace hx := hx.next hB hR hk
      have hB_ := hB.next hR hk
      replace hR := hR.after hk
      replace hB := hB_; clear hB_ hk
      refine ⟨_, rfl, hS, ?_⟩
      replace hI := hI.put (d := some 41) (x := .v (.agg #[.bool nt, .slice td ts.length tc])) (by intro t ht; cases ht; decide) rfl
      replace hI := hI.sel [41, 40, 37, 6, 2] (by kernel_rfl : sel _ _ = some [(41, .v (.agg #[.bool nt, .slice td ts.length tc])), (40, .v (.int .i64 ((64 * ws.length : Nat) : Int))), (37, .agg [.v (.bool nm), .v (.slice md ms.length mc)]), (6, .p 2 0), (2, .p 0 0)])
      refine oneL (i := 5) (f' := 1) (by kernel_rfl) (by rfl) ?_
      refine callH (ys := [.agg [.v (.bool nm), .v (.slice md ms.length mc)], .v (.agg #[.bool nt, .slice td ts.length tc])]) hI rfl rfl ⟨_, rfl, rfl, rfl⟩ (by kernel_rfl) Try.func36 rfl rfl ?_
      refine (wideSub_spec (hms.now hB hR) (ht.now hB hR) (by omega)).mono ?_
      rintro ex w18 ⟨nz, zd, zc, z, rfl, hk, hz⟩
      replace hF := hF.grow hR hk; replace hS := hS.same hk
      replace hms := hms.next hB hR hk
      replace ht := ht.next hB hR hk
      replace hx := hx.next hB hR hk
      have hB_ := hB.next hR hk
      replace hR := hR.after hk
      replace hB := hB_; clear hB_ hk
      refine ⟨_, rfl, hS, ?_⟩
      replace hI := hI.put (d := some 42) (x := .v (.agg #[.bool nz, .slice zd z.length zc])) (by intro t ht; cases ht; decide) rfl
      replace hI := hI.sel [42, 41, 40, 37, 6, 2] (by kernel_rfl : sel _ _ = some [(42, .v (.agg #[.bool nz, .slice zd z.length zc])), (41, .v (.agg #[.bool nt, .slice td ts.length tc])), (40, .v (.int .i64 ((64 * ws.length : Nat) : Int))), (37, .agg [.v (.bool nm), .v (.slice md ms.length mc)]), (6, .p 2 0), (2, .p 0 0)])
      refine endL (i := 6) (f' := 0) (by kernel_rfl) (by rfl) (by kernel_rfl) ?_
      refine effH tab (k := 3) (hh := .no) (r := ⟨.v (undef), [⟨2, 29, [.v (.bool nz), .v (.slice zd z.length zc)]⟩, ⟨0, 29, [.v (.bool false), .v (.slice none 0 0)]⟩], [], 3, _, true⟩) hR hI (by kernel_rfl) rfl rfl rfl (by kernel_rfl) .nil (fun e19 a19 w19 hag hR2 hI => ?_)
      replace hR := hR2; clear hR2
      replace hI := hI.sel [42, 41, 40, 37, 6, 2] (by kernel_rfl : sel _ _ = some [(42, .v (.agg #[.bool nz, .slice zd z.length zc])), (41, .v (.agg #[.bool nt, .slice td ts.length tc])), (40, .v (.int .i64 ((64 * ws.length : Nat) : Int))), (37, .agg [.v (.bool nm), .v (.slice md ms.length mc)]), (6, .p 2 0), (2, .p 0 0)])
      refine doneL (by kernel_rfl) ?_
      replace hI := hI.sel [6, 2] (by kernel_rfl : sel _ _ = some [(6, .p 2 0), (2, .p 0 0)]); replace hR := hR.sel [2, 0] [] (by kernel_rfl : selH _ _ = some [⟨2, 29, [.v (.bool nz), .v (.slice zd z.length zc)]⟩, ⟨0, 29, [.v (.bool false), .v (.slice none 0 0)]⟩]) (by kernel_rfl : selG _ _ = some [])
      refine then_n ?_
      refine reg_seq tab (k := 3) (hs := []) (sy := []) (ks := [2]) (bs := [0]) (gs := [])
          (L' := [(2, .p 0 0)])
          (H' := [⟨0, 29, [.v (.bool nz), .v (.slice zd z.length zc)]⟩]) (G' := []) (k' := 3) hR hI (by kernel_rfl)
          .nil (fun e20 a20 w20 hag hR hI => ?_)
      refine wp_ret ?_
      refine outN tab (xs := [.agg [.v (.bool nz), .v (.slice zd z.length zc)]]) hR hI rfl (by kernel_rfl) ?_
      obtain rfl : i = ws.length := by omega
      rw [List.take_of_length_le (Nat.le_refl _)] at hv
      exact ⟨nz, zd, zc, z, rfl, hB.fin hR, (hz.fin hB hR).to (by rw [swv_neg hcz, ← hv]; rfl) (by omega)⟩
    · skip
      replace hI := hI.re 36 (.v (.bool false)) rfl (congrArg Value.bool hc15)
      try simp only [decide_eq_true_eq, decide_eq_false_iff_not, beq_iff_eq, bne_iff_ne, beq_eq_false_iff_ne, bne_eq_false_iff_eq, Bool.and_eq_true, Bool.and_eq_false_iff, Bool.or_eq_true, Bool.or_eq_false_iff, Bool.not_eq_true', Bool.not_eq_false', ne_eq] at hc15
      have hcz : ¬ (0 < ws.length ∧ 9223372036854775808 ≤ ws.getD (ws.length - 1) 0) := by omega
      refine wp_skip ?_
      refine then_n ?_
      refine reg_seq tab (k := 3) (hs := []) (sy := []) (ks := [2]) (bs := [0]) (gs := [])
          (L' := [(2, .p 0 0)])
          (H' := [⟨0, 29, [.v (.bool nm), .v (.slice md ms.length mc)]⟩]) (G' := []) (k' := 3) hR hI (by kernel_rfl)
          .nil (fun e21 a21 w21 hag hR hI => ?_)
      refine wp_ret ?_
      refine outN tab (xs := [.agg [.v (.bool nm), .v (.slice md ms.length mc)]]) hR hI rfl (by kernel_rfl) ?_
      obtain rfl : i = ws.length := by omega
      rw [List.take_of_length_le (Nat.le_refl _)] at hv
      exact ⟨nm, md, mc, ms, rfl, hB.fin hR, (hms.fin hB hR).to (by rw [swv_pos hcz, ← hv]; rfl) (by omega)⟩

end Go.Proofs.Yteipgknmhpilfaa.Stride
