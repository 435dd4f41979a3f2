/- Walks of the program's functions, printed by a program of mine (walk.py) over the words of Stride: each function's contract. -/
import Derived.Test.YtmendapdibnbdaaGreatDoorDdB
namespace Go.Proofs.YtmendapdibnbdaaGreatDoor.Stride
open Go Go.RowKit Go.Proofs.YtmendapdibnbdaaGreatDoor.Mag
set_option linter.unusedVariables false
set_option linter.unusedSimpArgs false
set_option maxHeartbeats 4000000
set_option maxRecDepth 100000
theorem shl_digit (d k : Nat) (hd : d < 4294967296) (hk : k ≤ 1) : IntKind.u64.wrap ((d : Int) * 2 ^ (32 * k)) = ((d * pw k : Nat) : Int) := by
 have h : k = 0 ∨ k = 1 := by omega
 rcases h with rfl | rfl
 ·
  show IntKind.u64.wrap ((d : Int) * 1) = ((d * 1 : Nat) : Int)
  rw [wrap_inR (inR_u64 (by omega))]; omega
 ·
  show IntKind.u64.wrap ((d : Int) * 4294967296) = ((d * 4294967296 : Nat) : Int)
  rw [wrap_inR (inR_u64 (by omega))]; omega
theorem u64_orpart (p d k : Nat) (hp : p < pw k) (hd : d < 4294967296) (hk : k ≤ 1) : bits .or .u64 (p : Int) ((d * pw k : Nat) : Int) = ((p + pw k * d : Nat) : Int) := by
 have h : k = 0 ∨ k = 1 := by omega
 rcases h with rfl | rfl
 ·
  have h0 : p = 0 := by
   have : pw 0 = 1 := rfl
   omega
  subst h0
  have e1 : d * pw 0 = d := Nat.mul_one d
  have e2 : 0 + pw 0 * d = d := by rw [pw_zero]; omega
  rw [e1, e2, bits_or_u64_nat 0 d (by decide) (by omega), Nat.zero_or]
 ·
  have e1 : d * pw 1 = 2 ^ 32 * d := Nat.mul_comm _ _
  have e2 : p + pw 1 * d = 2 ^ 32 * d + p := Nat.add_comm _ _
  have hp2 : p < 2 ^ 32 := hp
  rw [e1, e2, bits_or_u64_nat p (2 ^ 32 * d) (by omega) (by omega), Nat.or_comm, Nat.two_pow_add_eq_or_of_lt hp2]


theorem two_pos {C : Nat → Prop} {w : World} {n : Bool} {ad : Option Addr} {cap L m : Nat} {xs : List Nat} (h : Wd C w n ad cap xs ((2 ^ m : Nat) : Int) L) : 0 < val xs := by
 have h1 := h.eq
 cases n
 ·
  have h2 : (val xs : Int) = ((2 ^ m : Nat) : Int) := h1
  have h3 := Nat.two_pow_pos m
  omega
 · exact h.sign rfl

theorem toWords_spec {C : Nat → Prop} {w : World} {na : Bool} {ad : Option Addr} {cap : Nat} {xs : List Nat} {a : Int} {L n : Nat} (ha : Wd C w na ad cap xs a L) (hL : L ≤ 10000) (hn : 1 ≤ n ∧ n ≤ 4) :
    Calls P 26 #[.agg #[.bool na, .slice ad (List.length xs) cap], .int .i64 (n : Int)] w fun ex w' => ∃ ws wd wc, ex = .returned (.tuple #[.slice wd (List.length ws) wc, .bool (decide (-((2 ^ (64 * n - 1) : Nat) : Int) ≤ a ∧ a < ((2 ^ (64 * n - 1) : Nat) : Int)))]) ∧ KS w w' ∧ Sl .u64 18446744073709551616 (Grow C w w') w' wd wc ws ∧ ws.length = n ∧ (wval ws : Int) = a % ((2 ^ (64 * n) : Nat) : Int) := by
 refine dN (C := C) [.v (.agg #[.bool na, .slice ad xs.length cap]), vI n] 83 2 Tryz.func26 fun a_ hI hR hB => ?_
 replace hI : Is 83 [] e0 [(0, .v (.agg #[.bool na, .slice ad xs.length cap])), (1, vI n)] a_ := hI
 have hla := ha.len
 refine rK tab 0 [] [] [(2, .p 0 0)] [1] [⟨0, 29, [vB na, vS ad xs.length cap]⟩] [] [] [] 1 hR hI .nil fun e1 a1 w1 hag hR hI => ?_
 refine wp_seq (reg (is := [0, 1, 2, 3, 4, 5]) (by kernel_rfl) ?_)
 refine pK tab [0, 1, 2] [3, 4, 5] 1 [(1, .nw), (2, .eq (.int .i64 ((64 * n - 1 : Nat) : Int)))] [] [(15, vI (64 * n - 1))] [2, 1] [] [0] [] [] 1 hR hI (.cons (inR_i64 (n := (64 : Int) * (n : Int)) (by omega)) (.cons (congrArg (Value.int .i64) (natsub_i64 (q := 1) (by omega) (by omega) : IntKind.i64.wrap (((64 * n : Nat) : Int) - (1 : Int)) = ((64 * n - 1 : Nat) : Int))) .nil)) fun e2 a2 w2 hag hR hI => ?_
 refine cO [vI (64 * n - 1)] hI Tryz.func22 ?_
 refine (two_spec (C := Now hB) (n := 64 * n - 1) (by omega)).mono ?_
 rintro ex w3 ⟨np, pd, pc, p, rfl, hk, hp⟩
 replace ha := ha.next hB hR hk
 obtain ⟨hB, hR⟩ := nx hB hR hk
 refine ⟨_, rfl, ?_⟩
 replace hI := hI.pt 16 (.v (.agg #[.bool np, .slice pd p.length pc])) [16, 15, 2, 1]
 refine pK tab [4, 5] [] 1 [] [] [(6, .p 1 0)] [2, 1] [⟨1, 29, [vB np, vS pd p.length pc]⟩] [0] [] [] 2 hR hI .nil fun e4 a4 w4 hag hR hI => ?_
 refine ops_nil (then_n ?_)
 refine wp_seq ?_
 refine joinM (γ := Bool) hB hI (fun f => (⟨[(1, vI n), (2, .p 0 0), (7, vB f)], [⟨0, 29, [vB na, vS ad xs.length cap]⟩], [], 1⟩ : Sy)) (fun f e C F wb => Wd C wb na ad cap xs a L ∧ f = decide (-((2 ^ (64 * n - 1) : Nat) : Int) ≤ a ∧ a < ((2 ^ (64 * n - 1) : Nat) : Int))) ?_ ?_
 ·
  refine regL 11 hR (by kernel_rfl) (fun hS => ?_)
  replace hR := hR.drew; have hF := hR.fore
  refine lK tab [] [] [0, 1] 10 [(18, .agg [vB np, vS pd p.length pc]), (17, .agg [vB na, vS ad xs.length cap])] [6, 2, 1] hS hI .nil fun a5 hI => ?_
  refine oneL (i := 2) (f' := 9) (by kernel_rfl) (by rfl) ?_
  refine cH [.agg [vB na, vS ad xs.length cap], .agg [vB np, vS pd p.length pc]] hI Tryz.func21 ?_
  refine (wideCmp_spec (ha.now hB hR) (hp.now hB hR)).mono ?_
  rintro ex w6 ⟨rfl, hk⟩
  replace hS := hS.same hk; replace hR := hR.same hk; clear hk
  refine ⟨_, rfl, hS, ?_⟩
  replace hI := hI.pt 19 (.v (.int .i64 (cmpZ a (((2 ^ (64 * n - 1) : Nat) : Int))))) [19, 18, 17, 6, 2, 1]
  refine lK tab [] [5, 6] [3, 4, 5, 6] 5 [(23, .gd 4 true (decide ((cmpZ a (((2 ^ (64 * n - 1) : Nat) : Int))) < (0 : Int))) (.agg [vB np, vS pd p.length pc])), (22, .gd 4 true (decide ((cmpZ a (((2 ^ (64 * n - 1) : Nat) : Int))) < (0 : Int))) (.agg [vB na, vS ad xs.length cap])), (21, vB (decide ((cmpZ a (((2 ^ (64 * n - 1) : Nat) : Int))) < (0 : Int))))] [2, 1] hS hI (.cons (rfl : (decide ((cmpZ a (((2 ^ (64 * n - 1) : Nat) : Int))) < (0 : Int))) = (decide ((cmpZ a (((2 ^ (64 * n - 1) : Nat) : Int))) < (0 : Int)))) .nil) fun a7 hI => ?_
  rcases Bool.eq_false_or_eq_true (decide ((cmpZ a (((2 ^ (64 * n - 1) : Nat) : Int))) < (0 : Int))) with hc8 | hc8
  ·
   replace hI := hI.re 23 (.agg [vB np, vS pd p.length pc]) rfl (by rw [den, hc8]; rfl)
   replace hI := hI.re 22 (.agg [vB na, vS ad xs.length cap]) rfl (by rw [den, hc8]; rfl)
   replace hI := hI.rb 21 hc8
   try simp only [tolds] at hc8
   refine oneL (i := 7) (f' := 4) (by kernel_rfl) (by rfl) ?_
   refine cH [.agg [vB np, vS pd p.length pc]] hI Tryz.func23 ?_
   refine (negated_spec (hp.now hB hR)).mono ?_
   rintro ex w9 ⟨nm, md, mc, m, rfl, hk, hm⟩
   replace hF := hF.grow hR hk; replace hS := hS.same hk
   replace ha := ha.next hB hR hk
   replace hp := hp.next hB hR hk
   obtain ⟨hB, hR⟩ := nx hB hR hk
   refine ⟨_, rfl, hS, ?_⟩
   replace hI := hI.pt 24 (.v (.agg #[.bool nm, .slice md m.length mc])) [24, 21, 22, 23, 2, 1]
   refine oneL (i := 8) (f' := 3) (by kernel_rfl) (by rfl) ?_
   refine cH [.agg [vB na, vS ad xs.length cap], .v (.agg #[.bool nm, .slice md m.length mc])] hI Tryz.func21 ?_
   refine (wideCmp_spec (ha.now hB hR) (hm.now hB hR)).mono ?_
   rintro ex w10 ⟨rfl, hk⟩
   replace hS := hS.same hk; replace hR := hR.same hk; clear hk
   refine ⟨_, rfl, hS, ?_⟩
   replace hI := hI.pt 25 (.v (.int .i64 (cmpZ a (-((2 ^ (64 * n - 1) : Nat) : Int))))) [25, 24, 21, 22, 23, 2, 1]
   refine lK tab [] [] [9, 10] 1 [(27, vB (decide ((cmpZ a (-((2 ^ (64 * n - 1) : Nat) : Int))) ≥ (0 : Int))))] [2, 1] hS hI .nil fun a11 hI => ?_
   refine endL (i := 11) (f' := 0) (by kernel_rfl) (by rfl) (by kernel_rfl) ?_
   refine quietL tab (hh := .no) (x := vB (decide ((cmpZ a (-((2 ^ (64 * n - 1) : Nat) : Int))) ≥ (0 : Int)))) hR hI rfl rfl rfl (by kernel_rfl) .nil (fun a12 hI => ?_)
   replace hI := hI.sl [7, 27, 2, 1] rfl
   refine doneL (by kernel_rfl) ?_
   replace hI := hI.sl [7, 2, 1] rfl; replace hR := hR.sel [0] [] rfl rfl
   refine then_n ?_
   exact ⟨decide ((cmpZ a (-((2 ^ (64 * n - 1) : Nat) : Int))) ≥ (0 : Int)), _, _, _, _, hB, ⟨ha, fits_t (by omega)⟩, hR.sel [0] [] (by kernel_rfl) (by kernel_rfl), hI.sel [1, 2, 7] (by kernel_rfl)⟩
  ·
   replace hI := hI.rb 21 hc8
   try simp only [tolds] at hc8
   refine lK tab [] [] [7] 4 [] [21, 2, 1] hS hI .nil fun a13 hI => ?_
   refine lK tab [] [] [8, 9, 10] 1 [(27, vB false)] [2, 1] hS hI .nil fun a14 hI => ?_
   refine endL (i := 11) (f' := 0) (by kernel_rfl) (by rfl) (by kernel_rfl) ?_
   refine quietL tab (hh := .no) (x := vB false) hR hI rfl rfl rfl (by kernel_rfl) .nil (fun a15 hI => ?_)
   replace hI := hI.sl [7, 27, 2, 1] rfl
   refine doneL (by kernel_rfl) ?_
   replace hI := hI.sl [7, 2, 1] rfl; replace hR := hR.sel [0] [] rfl rfl
   refine then_n ?_
   exact ⟨false, _, _, _, _, hB, ⟨ha, fits_f (by omega)⟩, hR.sel [0] [] (by kernel_rfl) (by kernel_rfl), hI.sel [1, 2, 7] (by kernel_rfl)⟩
 ·
  clear hR hI hB
  rintro f e16 C16 F16 wb16 a16 w16 hB hp hR hI
  dsimp only at hp hR hI
  obtain ⟨ha, hf⟩ := hp
  refine wp_seq ?_
  refine rZ tab 1 [(29, vB na)] [1, 2, 7] hR hI fun e17 a17 w17 hag hR hI => ?_
  refine joinM (γ := Bool × Option Addr × Nat × List Nat × Int) hB hI (fun (nz, zd, zc, zs, z) => (⟨[(1, vI n), (2, .p 0 0), (7, vB f)], [⟨0, 29, [vB nz, vS zd zs.length zc]⟩], [], 1⟩ : Sy)) (fun (nz, zd, zc, zs, z) e C F wb => Wd C wb nz zd zc zs z (L + 20) ∧ 0 ≤ z ∧ z % ((2 ^ (64 * n) : Nat) : Int) = a % ((2 ^ (64 * n) : Nat) : Int)) ?_ ?_
  ·
   refine cnd (b := na) hI (by kernel_rfl) (fun hc18 => ?_) (fun hc18 => ?_)
   ·
    replace hI := hI.rb 29 hc18
    try simp only [tolds] at hc18
    refine wp_seq ?_
    refine joinM (γ := Bool × Option Addr × Nat × List Nat) hB hI (fun (nr, rd, rc, r) => (⟨[(1, vI n), (2, .p 0 0), (7, vB f), (9, .p 1 0)], [⟨0, 29, [vB na, vS ad xs.length cap]⟩, ⟨1, 29, [vB nr, vS rd r.length rc]⟩], [], 2⟩ : Sy)) (fun (nr, rd, rc, r) e C F wb => Wd C wb nr rd rc r (Int.tmod a ((2 ^ (64 * n) : Nat) : Int)) (64 * n / 32 + 1)) ?_ ?_
    ·
     refine regL 11 hR (by kernel_rfl) (fun hS => ?_)
     replace hR := hR.drew; have hF := hR.fore
     refine lK tab [(2, .nw)] [] [0, 1, 2] 9 [(33, vI (64 * n)), (31, .agg [vB na, vS ad xs.length cap])] [1, 2, 7] hS hI (.cons (inR_i64 (n := (64 : Int) * (n : Int)) (by omega)) .nil) fun a19 hI => ?_
     refine threeL (i := 3) (j := 8) (k := 9) (f' := 8) (by kernel_rfl) (by rfl) ?_ ?_ ?_
     ·
      refine cH [vI (64 * n)] hI Tryz.func22 ?_
      refine (two_spec (C := Now hB) (n := 64 * n) (by omega)).mono ?_
      rintro ex w20 ⟨np, pd, pc, p, rfl, hk, hp⟩
      replace hF := hF.grow hR hk; replace hS := hS.same hk
      replace ha := ha.next hB hR hk
      obtain ⟨hB, hR⟩ := nx hB hR hk
      refine ⟨_, rfl, hS, ?_⟩
      replace hI := hI.pt 34 (.v (.agg #[.bool np, .slice pd p.length pc])) [34, 33, 31, 1, 2, 7]
      refine threeL (i := 4) (j := 8) (k := 9) (f' := 7) (by kernel_rfl) (by rfl) ?_ ?_ ?_
      ·
       refine cH [.agg [vB na, vS ad xs.length cap], .v (.agg #[.bool np, .slice pd p.length pc])] hI Tryz.func10 ?_
       refine (wideDiv_spec (ha.now hB hR) (hp.now hB hR) (two_pos hp) (by omega)).mono ?_
       rintro ex w21 ⟨nq, qd, qc, q, nr, rd, rc, r, rfl, hk, hq, hr⟩
       replace hF := hF.grow hR hk; replace hS := hS.same hk
       replace ha := ha.next hB hR hk
       replace hp := hp.next hB hR hk
       obtain ⟨hB, hR⟩ := nx hB hR hk
       refine ⟨_, rfl, hS, ?_⟩
       replace hI := hI.pt 35 (.v (.tuple #[.agg #[.bool nq, .slice qd q.length qc], .agg #[.bool nr, .slice rd r.length rc]])) [35, 34, 33, 31, 1, 2, 7]
       refine lK tab [] [] [5, 6, 7] 4 [(37, .v (.agg #[.bool nr, .slice rd r.length rc])), (36, .v (.agg #[.bool nq, .slice qd q.length qc]))] [1, 2, 7] hS hI .nil fun a22 hI => ?_
       refine twoL (i := 8) (j := 9) (f' := 3) (by kernel_rfl) (by rfl) ?_ ?_
       ·
        refine eK tab 1 .no (.p 1 0) [⟨1, 29, [vB false, vS none 0 0]⟩] [0] [] [] 2 false hR hI .nil fun e23 a23 w23 hag hR2 hI => ?_
        replace hS := Rel.old (k := 1) hS hR hR2 hF hag [0] [] (by kernel_rfl) (by kernel_rfl) (by kernel_rfl); replace hR := hR2
        refine ⟨hS, ?_⟩
        refine wpL_env hag (by kernel_rfl) ?_
        replace hS := hS.agree (k := 1) (L := []) (Wf.of (by kernel_rfl)) hag
        replace hI := hI.sl [8, 37, 36, 1, 2, 7] rfl
        refine oneL (i := 9) (f' := 2) (by kernel_rfl) (by rfl) ?_
        refine eK tab 2 .no (.p 2 0) [⟨2, 29, [vB false, vS none 0 0]⟩] [1, 0] [] [] 3 false hR hI .nil fun e24 a24 w24 hag hR2 hI => ?_
        replace hS := Rel.old (k := 2) hS hR hR2 hF hag [0] [] (by kernel_rfl) (by kernel_rfl) (by kernel_rfl); replace hR := hR2
        refine ⟨hS, ?_⟩
        refine wpL_env hag (by kernel_rfl) ?_
        replace hS := hS.agree (k := 2) (L := []) (Wf.of (by kernel_rfl)) hag
        replace hI := hI.sl [9, 8, 37, 36, 1, 2, 7] rfl
        refine oneL (i := 10) (f' := 1) (by kernel_rfl) (by rfl) ?_
        refine eK tab 3 .no (.v (undef)) [⟨1, 29, [vB nq, vS qd q.length qc]⟩] [2, 0] [] [] 3 true hR hI .nil fun e25 a25 w25 hag hR2 hI => ?_
        replace hS := Rel.old (k := 3) hS hR hR2 hF hag [0] [] (by kernel_rfl) (by kernel_rfl) (by kernel_rfl); replace hR := hR2
        refine ⟨hS, ?_⟩
        refine wpL_env hag (by kernel_rfl) ?_
        replace hS := hS.agree (k := 3) (L := []) (Wf.of (by kernel_rfl)) hag
        replace hI := hI.sl [9, 8, 37, 36, 1, 2, 7] rfl
        refine endL (i := 11) (f' := 0) (by kernel_rfl) (by rfl) (by kernel_rfl) ?_
        refine eK tab 3 .no (.v (undef)) [⟨2, 29, [vB nr, vS rd r.length rc]⟩] [1, 0] [] [] 3 true hR hI .nil fun e26 a26 w26 hag hR2 hI => ?_
        replace hR := hR2; clear hR2
        replace hI := hI.sl [9, 8, 37, 36, 1, 2, 7] rfl
        refine doneL (by kernel_rfl) ?_
        replace hI := hI.sl [9, 1, 2, 7] rfl; replace hR := hR.sel [2, 0] [] rfl rfl
        refine then_n ?_
        replace hR := hR.sel [0, 2] [] rfl rfl
        replace hI := hI.sl [9, 1, 2, 7] rfl
        obtain ⟨hR, hI⟩ := rnm [(1, 2)] ⟨[(9, .p 1 0), (1, vI n), (2, .p 0 0), (7, vB f)], [⟨0, 29, [vB na, vS ad xs.length cap]⟩, ⟨1, 29, [vB nr, vS rd r.length rc]⟩], [], 0⟩ hR hI; dsimp only at hI hR
        exact ⟨(nr, rd, rc, r), _, _, _, _, hB, hr, hR.sel [0, 1] [] (by kernel_rfl) (by kernel_rfl), hI.sel [1, 2, 7, 9] (by kernel_rfl)⟩
       ·
        refine eK tab 1 .no (.p 1 0) [⟨1, 29, [vB false, vS none 0 0]⟩] [0] [] [] 2 false hR hI .nil fun e27 a27 w27 hag hR2 hI => ?_
        replace hS := Rel.old (k := 1) hS hR hR2 hF hag [0] [] (by kernel_rfl) (by kernel_rfl) (by kernel_rfl); replace hR := hR2
        refine ⟨hS, ?_⟩
        refine wpL_env hag (by kernel_rfl) ?_
        replace hS := hS.agree (k := 1) (L := []) (Wf.of (by kernel_rfl)) hag
        replace hI := hI.sl [9, 37, 36, 1, 2, 7] rfl
        refine oneL (i := 8) (f' := 2) (by kernel_rfl) (by rfl) ?_
        refine eK tab 2 .no (.p 2 0) [⟨2, 29, [vB false, vS none 0 0]⟩] [1, 0] [] [] 3 false hR hI .nil fun e28 a28 w28 hag hR2 hI => ?_
        replace hS := Rel.old (k := 2) hS hR hR2 hF hag [0] [] (by kernel_rfl) (by kernel_rfl) (by kernel_rfl); replace hR := hR2
        refine ⟨hS, ?_⟩
        refine wpL_env hag (by kernel_rfl) ?_
        replace hS := hS.agree (k := 2) (L := []) (Wf.of (by kernel_rfl)) hag
        replace hI := hI.sl [8, 9, 37, 36, 1, 2, 7] rfl
        refine oneL (i := 10) (f' := 1) (by kernel_rfl) (by rfl) ?_
        refine eK tab 3 .no (.v (undef)) [⟨2, 29, [vB nq, vS qd q.length qc]⟩] [1, 0] [] [] 3 true hR hI .nil fun e29 a29 w29 hag hR2 hI => ?_
        replace hS := Rel.old (k := 3) hS hR hR2 hF hag [0] [] (by kernel_rfl) (by kernel_rfl) (by kernel_rfl); replace hR := hR2
        refine ⟨hS, ?_⟩
        refine wpL_env hag (by kernel_rfl) ?_
        replace hS := hS.agree (k := 3) (L := []) (Wf.of (by kernel_rfl)) hag
        replace hI := hI.sl [8, 9, 37, 36, 1, 2, 7] rfl
        refine endL (i := 11) (f' := 0) (by kernel_rfl) (by rfl) (by kernel_rfl) ?_
        refine eK tab 3 .no (.v (undef)) [⟨1, 29, [vB nr, vS rd r.length rc]⟩] [2, 0] [] [] 3 true hR hI .nil fun e30 a30 w30 hag hR2 hI => ?_
        replace hR := hR2; clear hR2
        replace hI := hI.sl [8, 9, 37, 36, 1, 2, 7] rfl
        refine doneL (by kernel_rfl) ?_
        replace hI := hI.sl [9, 1, 2, 7] rfl; replace hR := hR.sel [1, 0] [] rfl rfl
        refine then_n ?_
        replace hR := hR.sel [0, 1] [] rfl rfl
        replace hI := hI.sl [9, 1, 2, 7] rfl
        obtain ⟨hR, hI⟩ := rnm [(1, 1)] ⟨[(9, .p 1 0), (1, vI n), (2, .p 0 0), (7, vB f)], [⟨0, 29, [vB na, vS ad xs.length cap]⟩, ⟨1, 29, [vB nr, vS rd r.length rc]⟩], [], 0⟩ hR hI; dsimp only at hI hR
        exact ⟨(nr, rd, rc, r), _, _, _, _, hB, hr, hR.sel [0, 1] [] (by kernel_rfl) (by kernel_rfl), hI.sel [1, 2, 7, 9] (by kernel_rfl)⟩
      ·
       refine eK tab 1 .no (.p 1 0) [⟨1, 29, [vB false, vS none 0 0]⟩] [0] [] [] 2 false hR hI .nil fun e31 a31 w31 hag hR2 hI => ?_
       replace hS := Rel.old (k := 1) hS hR hR2 hF hag [0] [] (by kernel_rfl) (by kernel_rfl) (by kernel_rfl); replace hR := hR2
       refine ⟨hS, ?_⟩
       refine wpL_env hag (by kernel_rfl) ?_
       replace hS := hS.agree (k := 1) (L := []) (Wf.of (by kernel_rfl)) hag
       replace hI := hI.sl [8, 34, 33, 31, 1, 2, 7] rfl
       refine twoL (i := 4) (j := 9) (f' := 6) (by kernel_rfl) (by rfl) ?_ ?_
       ·
        refine cH [.agg [vB na, vS ad xs.length cap], .v (.agg #[.bool np, .slice pd p.length pc])] hI Tryz.func10 ?_
        refine (wideDiv_spec (ha.now hB hR) (hp.now hB hR) (two_pos hp) (by omega)).mono ?_
        rintro ex w32 ⟨nq, qd, qc, q, nr, rd, rc, r, rfl, hk, hq, hr⟩
        replace hF := hF.grow hR hk; replace hS := hS.same hk
        replace ha := ha.next hB hR hk
        replace hp := hp.next hB hR hk
        obtain ⟨hB, hR⟩ := nx hB hR hk
        refine ⟨_, rfl, hS, ?_⟩
        replace hI := hI.pt 35 (.v (.tuple #[.agg #[.bool nq, .slice qd q.length qc], .agg #[.bool nr, .slice rd r.length rc]])) [35, 8, 34, 33, 31, 1, 2, 7]
        refine lK tab [] [] [5, 6, 7] 3 [(37, .v (.agg #[.bool nr, .slice rd r.length rc])), (36, .v (.agg #[.bool nq, .slice qd q.length qc]))] [8, 1, 2, 7] hS hI .nil fun a33 hI => ?_
        refine oneL (i := 9) (f' := 2) (by kernel_rfl) (by rfl) ?_
        refine eK tab 2 .no (.p 2 0) [⟨2, 29, [vB false, vS none 0 0]⟩] [1, 0] [] [] 3 false hR hI .nil fun e34 a34 w34 hag hR2 hI => ?_
        replace hS := Rel.old (k := 2) hS hR hR2 hF hag [0] [] (by kernel_rfl) (by kernel_rfl) (by kernel_rfl); replace hR := hR2
        refine ⟨hS, ?_⟩
        refine wpL_env hag (by kernel_rfl) ?_
        replace hS := hS.agree (k := 2) (L := []) (Wf.of (by kernel_rfl)) hag
        replace hI := hI.sl [9, 37, 36, 8, 1, 2, 7] rfl
        refine oneL (i := 10) (f' := 1) (by kernel_rfl) (by rfl) ?_
        refine eK tab 3 .no (.v (undef)) [⟨1, 29, [vB nq, vS qd q.length qc]⟩] [2, 0] [] [] 3 true hR hI .nil fun e35 a35 w35 hag hR2 hI => ?_
        replace hS := Rel.old (k := 3) hS hR hR2 hF hag [0] [] (by kernel_rfl) (by kernel_rfl) (by kernel_rfl); replace hR := hR2
        refine ⟨hS, ?_⟩
        refine wpL_env hag (by kernel_rfl) ?_
        replace hS := hS.agree (k := 3) (L := []) (Wf.of (by kernel_rfl)) hag
        replace hI := hI.sl [9, 37, 36, 8, 1, 2, 7] rfl
        refine endL (i := 11) (f' := 0) (by kernel_rfl) (by rfl) (by kernel_rfl) ?_
        refine eK tab 3 .no (.v (undef)) [⟨2, 29, [vB nr, vS rd r.length rc]⟩] [1, 0] [] [] 3 true hR hI .nil fun e36 a36 w36 hag hR2 hI => ?_
        replace hR := hR2; clear hR2
        replace hI := hI.sl [9, 37, 36, 8, 1, 2, 7] rfl
        refine doneL (by kernel_rfl) ?_
        replace hI := hI.sl [9, 1, 2, 7] rfl; replace hR := hR.sel [2, 0] [] rfl rfl
        refine then_n ?_
        replace hR := hR.sel [0, 2] [] rfl rfl
        replace hI := hI.sl [9, 1, 2, 7] rfl
        obtain ⟨hR, hI⟩ := rnm [(1, 2)] ⟨[(9, .p 1 0), (1, vI n), (2, .p 0 0), (7, vB f)], [⟨0, 29, [vB na, vS ad xs.length cap]⟩, ⟨1, 29, [vB nr, vS rd r.length rc]⟩], [], 0⟩ hR hI; dsimp only at hI hR
        exact ⟨(nr, rd, rc, r), _, _, _, _, hB, hr, hR.sel [0, 1] [] (by kernel_rfl) (by kernel_rfl), hI.sel [1, 2, 7, 9] (by kernel_rfl)⟩
       ·
        refine eK tab 2 .no (.p 2 0) [⟨2, 29, [vB false, vS none 0 0]⟩] [1, 0] [] [] 3 false hR hI .nil fun e37 a37 w37 hag hR2 hI => ?_
        replace hS := Rel.old (k := 2) hS hR hR2 hF hag [0] [] (by kernel_rfl) (by kernel_rfl) (by kernel_rfl); replace hR := hR2
        refine ⟨hS, ?_⟩
        refine wpL_env hag (by kernel_rfl) ?_
        replace hS := hS.agree (k := 2) (L := []) (Wf.of (by kernel_rfl)) hag
        replace hI := hI.sl [9, 8, 34, 33, 31, 1, 2, 7] rfl
        refine oneL (i := 4) (f' := 5) (by kernel_rfl) (by rfl) ?_
        refine cH [.agg [vB na, vS ad xs.length cap], .v (.agg #[.bool np, .slice pd p.length pc])] hI Tryz.func10 ?_
        refine (wideDiv_spec (ha.now hB hR) (hp.now hB hR) (two_pos hp) (by omega)).mono ?_
        rintro ex w38 ⟨nq, qd, qc, q, nr, rd, rc, r, rfl, hk, hq, hr⟩
        replace hF := hF.grow hR hk; replace hS := hS.same hk
        replace ha := ha.next hB hR hk
        replace hp := hp.next hB hR hk
        obtain ⟨hB, hR⟩ := nx hB hR hk
        refine ⟨_, rfl, hS, ?_⟩
        replace hI := hI.pt 35 (.v (.tuple #[.agg #[.bool nq, .slice qd q.length qc], .agg #[.bool nr, .slice rd r.length rc]])) [35, 9, 8, 34, 33, 31, 1, 2, 7]
        refine lK tab [] [] [5, 6, 7] 2 [(37, .v (.agg #[.bool nr, .slice rd r.length rc])), (36, .v (.agg #[.bool nq, .slice qd q.length qc]))] [9, 8, 1, 2, 7] hS hI .nil fun a39 hI => ?_
        refine oneL (i := 10) (f' := 1) (by kernel_rfl) (by rfl) ?_
        refine eK tab 3 .no (.v (undef)) [⟨1, 29, [vB nq, vS qd q.length qc]⟩] [2, 0] [] [] 3 true hR hI .nil fun e40 a40 w40 hag hR2 hI => ?_
        replace hS := Rel.old (k := 3) hS hR hR2 hF hag [0] [] (by kernel_rfl) (by kernel_rfl) (by kernel_rfl); replace hR := hR2
        refine ⟨hS, ?_⟩
        refine wpL_env hag (by kernel_rfl) ?_
        replace hS := hS.agree (k := 3) (L := []) (Wf.of (by kernel_rfl)) hag
        replace hI := hI.sl [37, 36, 9, 8, 1, 2, 7] rfl
        refine endL (i := 11) (f' := 0) (by kernel_rfl) (by rfl) (by kernel_rfl) ?_
        refine eK tab 3 .no (.v (undef)) [⟨2, 29, [vB nr, vS rd r.length rc]⟩] [1, 0] [] [] 3 true hR hI .nil fun e41 a41 w41 hag hR2 hI => ?_
        replace hR := hR2; clear hR2
        replace hI := hI.sl [37, 36, 9, 8, 1, 2, 7] rfl
        refine doneL (by kernel_rfl) ?_
        replace hI := hI.sl [9, 1, 2, 7] rfl; replace hR := hR.sel [2, 0] [] rfl rfl
        refine then_n ?_
        replace hR := hR.sel [0, 2] [] rfl rfl
        replace hI := hI.sl [9, 1, 2, 7] rfl
        obtain ⟨hR, hI⟩ := rnm [(1, 2)] ⟨[(9, .p 1 0), (1, vI n), (2, .p 0 0), (7, vB f)], [⟨0, 29, [vB na, vS ad xs.length cap]⟩, ⟨1, 29, [vB nr, vS rd r.length rc]⟩], [], 0⟩ hR hI; dsimp only at hI hR
        exact ⟨(nr, rd, rc, r), _, _, _, _, hB, hr, hR.sel [0, 1] [] (by kernel_rfl) (by kernel_rfl), hI.sel [1, 2, 7, 9] (by kernel_rfl)⟩
      ·
       refine eK tab 1 .no (.p 1 0) [⟨1, 29, [vB false, vS none 0 0]⟩] [0] [] [] 2 false hR hI .nil fun e42 a42 w42 hag hR2 hI => ?_
       replace hS := Rel.old (k := 1) hS hR hR2 hF hag [0] [] (by kernel_rfl) (by kernel_rfl) (by kernel_rfl); replace hR := hR2
       refine ⟨hS, ?_⟩
       refine wpL_env hag (by kernel_rfl) ?_
       replace hS := hS.agree (k := 1) (L := []) (Wf.of (by kernel_rfl)) hag
       replace hI := hI.sl [9, 34, 33, 31, 1, 2, 7] rfl
       refine twoL (i := 4) (j := 8) (f' := 6) (by kernel_rfl) (by rfl) ?_ ?_
       ·
        refine cH [.agg [vB na, vS ad xs.length cap], .v (.agg #[.bool np, .slice pd p.length pc])] hI Tryz.func10 ?_
        refine (wideDiv_spec (ha.now hB hR) (hp.now hB hR) (two_pos hp) (by omega)).mono ?_
        rintro ex w43 ⟨nq, qd, qc, q, nr, rd, rc, r, rfl, hk, hq, hr⟩
        replace hF := hF.grow hR hk; replace hS := hS.same hk
        replace ha := ha.next hB hR hk
        replace hp := hp.next hB hR hk
        obtain ⟨hB, hR⟩ := nx hB hR hk
        refine ⟨_, rfl, hS, ?_⟩
        replace hI := hI.pt 35 (.v (.tuple #[.agg #[.bool nq, .slice qd q.length qc], .agg #[.bool nr, .slice rd r.length rc]])) [35, 9, 34, 33, 31, 1, 2, 7]
        refine lK tab [] [] [5, 6, 7] 3 [(37, .v (.agg #[.bool nr, .slice rd r.length rc])), (36, .v (.agg #[.bool nq, .slice qd q.length qc]))] [9, 1, 2, 7] hS hI .nil fun a44 hI => ?_
        refine oneL (i := 8) (f' := 2) (by kernel_rfl) (by rfl) ?_
        refine eK tab 2 .no (.p 2 0) [⟨2, 29, [vB false, vS none 0 0]⟩] [1, 0] [] [] 3 false hR hI .nil fun e45 a45 w45 hag hR2 hI => ?_
        replace hS := Rel.old (k := 2) hS hR hR2 hF hag [0] [] (by kernel_rfl) (by kernel_rfl) (by kernel_rfl); replace hR := hR2
        refine ⟨hS, ?_⟩
        refine wpL_env hag (by kernel_rfl) ?_
        replace hS := hS.agree (k := 2) (L := []) (Wf.of (by kernel_rfl)) hag
        replace hI := hI.sl [8, 37, 36, 9, 1, 2, 7] rfl
        refine oneL (i := 10) (f' := 1) (by kernel_rfl) (by rfl) ?_
        refine eK tab 3 .no (.v (undef)) [⟨2, 29, [vB nq, vS qd q.length qc]⟩] [1, 0] [] [] 3 true hR hI .nil fun e46 a46 w46 hag hR2 hI => ?_
        replace hS := Rel.old (k := 3) hS hR hR2 hF hag [0] [] (by kernel_rfl) (by kernel_rfl) (by kernel_rfl); replace hR := hR2
        refine ⟨hS, ?_⟩
        refine wpL_env hag (by kernel_rfl) ?_
        replace hS := hS.agree (k := 3) (L := []) (Wf.of (by kernel_rfl)) hag
        replace hI := hI.sl [8, 37, 36, 9, 1, 2, 7] rfl
        refine endL (i := 11) (f' := 0) (by kernel_rfl) (by rfl) (by kernel_rfl) ?_
        refine eK tab 3 .no (.v (undef)) [⟨1, 29, [vB nr, vS rd r.length rc]⟩] [2, 0] [] [] 3 true hR hI .nil fun e47 a47 w47 hag hR2 hI => ?_
        replace hR := hR2; clear hR2
        replace hI := hI.sl [8, 37, 36, 9, 1, 2, 7] rfl
        refine doneL (by kernel_rfl) ?_
        replace hI := hI.sl [9, 1, 2, 7] rfl; replace hR := hR.sel [1, 0] [] rfl rfl
        refine then_n ?_
        replace hR := hR.sel [0, 1] [] rfl rfl
        replace hI := hI.sl [9, 1, 2, 7] rfl
        obtain ⟨hR, hI⟩ := rnm [(1, 1)] ⟨[(9, .p 1 0), (1, vI n), (2, .p 0 0), (7, vB f)], [⟨0, 29, [vB na, vS ad xs.length cap]⟩, ⟨1, 29, [vB nr, vS rd r.length rc]⟩], [], 0⟩ hR hI; dsimp only at hI hR
        exact ⟨(nr, rd, rc, r), _, _, _, _, hB, hr, hR.sel [0, 1] [] (by kernel_rfl) (by kernel_rfl), hI.sel [1, 2, 7, 9] (by kernel_rfl)⟩
       ·
        refine eK tab 2 .no (.p 2 0) [⟨2, 29, [vB false, vS none 0 0]⟩] [1, 0] [] [] 3 false hR hI .nil fun e48 a48 w48 hag hR2 hI => ?_
        replace hS := Rel.old (k := 2) hS hR hR2 hF hag [0] [] (by kernel_rfl) (by kernel_rfl) (by kernel_rfl); replace hR := hR2
        refine ⟨hS, ?_⟩
        refine wpL_env hag (by kernel_rfl) ?_
        replace hS := hS.agree (k := 2) (L := []) (Wf.of (by kernel_rfl)) hag
        replace hI := hI.sl [8, 9, 34, 33, 31, 1, 2, 7] rfl
        refine oneL (i := 4) (f' := 5) (by kernel_rfl) (by rfl) ?_
        refine cH [.agg [vB na, vS ad xs.length cap], .v (.agg #[.bool np, .slice pd p.length pc])] hI Tryz.func10 ?_
        refine (wideDiv_spec (ha.now hB hR) (hp.now hB hR) (two_pos hp) (by omega)).mono ?_
        rintro ex w49 ⟨nq, qd, qc, q, nr, rd, rc, r, rfl, hk, hq, hr⟩
        replace hF := hF.grow hR hk; replace hS := hS.same hk
        replace ha := ha.next hB hR hk
        replace hp := hp.next hB hR hk
        obtain ⟨hB, hR⟩ := nx hB hR hk
        refine ⟨_, rfl, hS, ?_⟩
        replace hI := hI.pt 35 (.v (.tuple #[.agg #[.bool nq, .slice qd q.length qc], .agg #[.bool nr, .slice rd r.length rc]])) [35, 8, 9, 34, 33, 31, 1, 2, 7]
        refine lK tab [] [] [5, 6, 7] 2 [(37, .v (.agg #[.bool nr, .slice rd r.length rc])), (36, .v (.agg #[.bool nq, .slice qd q.length qc]))] [8, 9, 1, 2, 7] hS hI .nil fun a50 hI => ?_
        refine oneL (i := 10) (f' := 1) (by kernel_rfl) (by rfl) ?_
        refine eK tab 3 .no (.v (undef)) [⟨2, 29, [vB nq, vS qd q.length qc]⟩] [1, 0] [] [] 3 true hR hI .nil fun e51 a51 w51 hag hR2 hI => ?_
        replace hS := Rel.old (k := 3) hS hR hR2 hF hag [0] [] (by kernel_rfl) (by kernel_rfl) (by kernel_rfl); replace hR := hR2
        refine ⟨hS, ?_⟩
        refine wpL_env hag (by kernel_rfl) ?_
        replace hS := hS.agree (k := 3) (L := []) (Wf.of (by kernel_rfl)) hag
        replace hI := hI.sl [37, 36, 8, 9, 1, 2, 7] rfl
        refine endL (i := 11) (f' := 0) (by kernel_rfl) (by rfl) (by kernel_rfl) ?_
        refine eK tab 3 .no (.v (undef)) [⟨1, 29, [vB nr, vS rd r.length rc]⟩] [2, 0] [] [] 3 true hR hI .nil fun e52 a52 w52 hag hR2 hI => ?_
        replace hR := hR2; clear hR2
        replace hI := hI.sl [37, 36, 8, 9, 1, 2, 7] rfl
        refine doneL (by kernel_rfl) ?_
        replace hI := hI.sl [9, 1, 2, 7] rfl; replace hR := hR.sel [1, 0] [] rfl rfl
        refine then_n ?_
        replace hR := hR.sel [0, 1] [] rfl rfl
        replace hI := hI.sl [9, 1, 2, 7] rfl
        obtain ⟨hR, hI⟩ := rnm [(1, 1)] ⟨[(9, .p 1 0), (1, vI n), (2, .p 0 0), (7, vB f)], [⟨0, 29, [vB na, vS ad xs.length cap]⟩, ⟨1, 29, [vB nr, vS rd r.length rc]⟩], [], 0⟩ hR hI; dsimp only at hI hR
        exact ⟨(nr, rd, rc, r), _, _, _, _, hB, hr, hR.sel [0, 1] [] (by kernel_rfl) (by kernel_rfl), hI.sel [1, 2, 7, 9] (by kernel_rfl)⟩
     ·
      refine eK tab 1 .no (.p 1 0) [⟨1, 29, [vB false, vS none 0 0]⟩] [0] [] [] 2 false hR hI .nil fun e53 a53 w53 hag hR2 hI => ?_
      replace hS := Rel.old (k := 1) hS hR hR2 hF hag [0] [] (by kernel_rfl) (by kernel_rfl) (by kernel_rfl); replace hR := hR2
      refine ⟨hS, ?_⟩
      refine wpL_env hag (by kernel_rfl) ?_
      replace hS := hS.agree (k := 1) (L := []) (Wf.of (by kernel_rfl)) hag
      replace hI := hI.sl [8, 33, 31, 1, 2, 7] rfl
      refine twoL (i := 3) (j := 9) (f' := 7) (by kernel_rfl) (by rfl) ?_ ?_
      ·
       refine cH [vI (64 * n)] hI Tryz.func22 ?_
       refine (two_spec (C := Now hB) (n := 64 * n) (by omega)).mono ?_
       rintro ex w54 ⟨np, pd, pc, p, rfl, hk, hp⟩
       replace hF := hF.grow hR hk; replace hS := hS.same hk
       replace ha := ha.next hB hR hk
       obtain ⟨hB, hR⟩ := nx hB hR hk
       refine ⟨_, rfl, hS, ?_⟩
       replace hI := hI.pt 34 (.v (.agg #[.bool np, .slice pd p.length pc])) [34, 8, 33, 31, 1, 2, 7]
       refine twoL (i := 4) (j := 9) (f' := 6) (by kernel_rfl) (by rfl) ?_ ?_
       ·
        refine cH [.agg [vB na, vS ad xs.length cap], .v (.agg #[.bool np, .slice pd p.length pc])] hI Tryz.func10 ?_
        refine (wideDiv_spec (ha.now hB hR) (hp.now hB hR) (two_pos hp) (by omega)).mono ?_
        rintro ex w55 ⟨nq, qd, qc, q, nr, rd, rc, r, rfl, hk, hq, hr⟩
        replace hF := hF.grow hR hk; replace hS := hS.same hk
        replace ha := ha.next hB hR hk
        replace hp := hp.next hB hR hk
        obtain ⟨hB, hR⟩ := nx hB hR hk
        refine ⟨_, rfl, hS, ?_⟩
        replace hI := hI.pt 35 (.v (.tuple #[.agg #[.bool nq, .slice qd q.length qc], .agg #[.bool nr, .slice rd r.length rc]])) [35, 34, 8, 33, 31, 1, 2, 7]
        refine lK tab [] [] [5, 6, 7] 3 [(37, .v (.agg #[.bool nr, .slice rd r.length rc])), (36, .v (.agg #[.bool nq, .slice qd q.length qc]))] [8, 1, 2, 7] hS hI .nil fun a56 hI => ?_
        refine oneL (i := 9) (f' := 2) (by kernel_rfl) (by rfl) ?_
        refine eK tab 2 .no (.p 2 0) [⟨2, 29, [vB false, vS none 0 0]⟩] [1, 0] [] [] 3 false hR hI .nil fun e57 a57 w57 hag hR2 hI => ?_
        replace hS := Rel.old (k := 2) hS hR hR2 hF hag [0] [] (by kernel_rfl) (by kernel_rfl) (by kernel_rfl); replace hR := hR2
        refine ⟨hS, ?_⟩
        refine wpL_env hag (by kernel_rfl) ?_
        replace hS := hS.agree (k := 2) (L := []) (Wf.of (by kernel_rfl)) hag
        replace hI := hI.sl [9, 37, 36, 8, 1, 2, 7] rfl
        refine oneL (i := 10) (f' := 1) (by kernel_rfl) (by rfl) ?_
        refine eK tab 3 .no (.v (undef)) [⟨1, 29, [vB nq, vS qd q.length qc]⟩] [2, 0] [] [] 3 true hR hI .nil fun e58 a58 w58 hag hR2 hI => ?_
        replace hS := Rel.old (k := 3) hS hR hR2 hF hag [0] [] (by kernel_rfl) (by kernel_rfl) (by kernel_rfl); replace hR := hR2
        refine ⟨hS, ?_⟩
        refine wpL_env hag (by kernel_rfl) ?_
        replace hS := hS.agree (k := 3) (L := []) (Wf.of (by kernel_rfl)) hag
        replace hI := hI.sl [9, 37, 36, 8, 1, 2, 7] rfl
        refine endL (i := 11) (f' := 0) (by kernel_rfl) (by rfl) (by kernel_rfl) ?_
        refine eK tab 3 .no (.v (undef)) [⟨2, 29, [vB nr, vS rd r.length rc]⟩] [1, 0] [] [] 3 true hR hI .nil fun e59 a59 w59 hag hR2 hI => ?_
        replace hR := hR2; clear hR2
        replace hI := hI.sl [9, 37, 36, 8, 1, 2, 7] rfl
        refine doneL (by kernel_rfl) ?_
        replace hI := hI.sl [9, 1, 2, 7] rfl; replace hR := hR.sel [2, 0] [] rfl rfl
        refine then_n ?_
        replace hR := hR.sel [0, 2] [] rfl rfl
        replace hI := hI.sl [9, 1, 2, 7] rfl
        obtain ⟨hR, hI⟩ := rnm [(1, 2)] ⟨[(9, .p 1 0), (1, vI n), (2, .p 0 0), (7, vB f)], [⟨0, 29, [vB na, vS ad xs.length cap]⟩, ⟨1, 29, [vB nr, vS rd r.length rc]⟩], [], 0⟩ hR hI; dsimp only at hI hR
        exact ⟨(nr, rd, rc, r), _, _, _, _, hB, hr, hR.sel [0, 1] [] (by kernel_rfl) (by kernel_rfl), hI.sel [1, 2, 7, 9] (by kernel_rfl)⟩
       ·
        refine eK tab 2 .no (.p 2 0) [⟨2, 29, [vB false, vS none 0 0]⟩] [1, 0] [] [] 3 false hR hI .nil fun e60 a60 w60 hag hR2 hI => ?_
        replace hS := Rel.old (k := 2) hS hR hR2 hF hag [0] [] (by kernel_rfl) (by kernel_rfl) (by kernel_rfl); replace hR := hR2
        refine ⟨hS, ?_⟩
        refine wpL_env hag (by kernel_rfl) ?_
        replace hS := hS.agree (k := 2) (L := []) (Wf.of (by kernel_rfl)) hag
        replace hI := hI.sl [9, 34, 8, 33, 31, 1, 2, 7] rfl
        refine oneL (i := 4) (f' := 5) (by kernel_rfl) (by rfl) ?_
        refine cH [.agg [vB na, vS ad xs.length cap], .v (.agg #[.bool np, .slice pd p.length pc])] hI Tryz.func10 ?_
        refine (wideDiv_spec (ha.now hB hR) (hp.now hB hR) (two_pos hp) (by omega)).mono ?_
        rintro ex w61 ⟨nq, qd, qc, q, nr, rd, rc, r, rfl, hk, hq, hr⟩
        replace hF := hF.grow hR hk; replace hS := hS.same hk
        replace ha := ha.next hB hR hk
        replace hp := hp.next hB hR hk
        obtain ⟨hB, hR⟩ := nx hB hR hk
        refine ⟨_, rfl, hS, ?_⟩
        replace hI := hI.pt 35 (.v (.tuple #[.agg #[.bool nq, .slice qd q.length qc], .agg #[.bool nr, .slice rd r.length rc]])) [35, 9, 34, 8, 33, 31, 1, 2, 7]
        refine lK tab [] [] [5, 6, 7] 2 [(37, .v (.agg #[.bool nr, .slice rd r.length rc])), (36, .v (.agg #[.bool nq, .slice qd q.length qc]))] [9, 8, 1, 2, 7] hS hI .nil fun a62 hI => ?_
        refine oneL (i := 10) (f' := 1) (by kernel_rfl) (by rfl) ?_
        refine eK tab 3 .no (.v (undef)) [⟨1, 29, [vB nq, vS qd q.length qc]⟩] [2, 0] [] [] 3 true hR hI .nil fun e63 a63 w63 hag hR2 hI => ?_
        replace hS := Rel.old (k := 3) hS hR hR2 hF hag [0] [] (by kernel_rfl) (by kernel_rfl) (by kernel_rfl); replace hR := hR2
        refine ⟨hS, ?_⟩
        refine wpL_env hag (by kernel_rfl) ?_
        replace hS := hS.agree (k := 3) (L := []) (Wf.of (by kernel_rfl)) hag
        replace hI := hI.sl [37, 36, 9, 8, 1, 2, 7] rfl
        refine endL (i := 11) (f' := 0) (by kernel_rfl) (by rfl) (by kernel_rfl) ?_
        refine eK tab 3 .no (.v (undef)) [⟨2, 29, [vB nr, vS rd r.length rc]⟩] [1, 0] [] [] 3 true hR hI .nil fun e64 a64 w64 hag hR2 hI => ?_
        replace hR := hR2; clear hR2
        replace hI := hI.sl [37, 36, 9, 8, 1, 2, 7] rfl
        refine doneL (by kernel_rfl) ?_
        replace hI := hI.sl [9, 1, 2, 7] rfl; replace hR := hR.sel [2, 0] [] rfl rfl
        refine then_n ?_
        replace hR := hR.sel [0, 2] [] rfl rfl
        replace hI := hI.sl [9, 1, 2, 7] rfl
        obtain ⟨hR, hI⟩ := rnm [(1, 2)] ⟨[(9, .p 1 0), (1, vI n), (2, .p 0 0), (7, vB f)], [⟨0, 29, [vB na, vS ad xs.length cap]⟩, ⟨1, 29, [vB nr, vS rd r.length rc]⟩], [], 0⟩ hR hI; dsimp only at hI hR
        exact ⟨(nr, rd, rc, r), _, _, _, _, hB, hr, hR.sel [0, 1] [] (by kernel_rfl) (by kernel_rfl), hI.sel [1, 2, 7, 9] (by kernel_rfl)⟩
      ·
       refine eK tab 2 .no (.p 2 0) [⟨2, 29, [vB false, vS none 0 0]⟩] [1, 0] [] [] 3 false hR hI .nil fun e65 a65 w65 hag hR2 hI => ?_
       replace hS := Rel.old (k := 2) hS hR hR2 hF hag [0] [] (by kernel_rfl) (by kernel_rfl) (by kernel_rfl); replace hR := hR2
       refine ⟨hS, ?_⟩
       refine wpL_env hag (by kernel_rfl) ?_
       replace hS := hS.agree (k := 2) (L := []) (Wf.of (by kernel_rfl)) hag
       replace hI := hI.sl [9, 8, 33, 31, 1, 2, 7] rfl
       refine oneL (i := 3) (f' := 6) (by kernel_rfl) (by rfl) ?_
       refine cH [vI (64 * n)] hI Tryz.func22 ?_
       refine (two_spec (C := Now hB) (n := 64 * n) (by omega)).mono ?_
       rintro ex w66 ⟨np, pd, pc, p, rfl, hk, hp⟩
       replace hF := hF.grow hR hk; replace hS := hS.same hk
       replace ha := ha.next hB hR hk
       obtain ⟨hB, hR⟩ := nx hB hR hk
       refine ⟨_, rfl, hS, ?_⟩
       replace hI := hI.pt 34 (.v (.agg #[.bool np, .slice pd p.length pc])) [34, 9, 8, 33, 31, 1, 2, 7]
       refine oneL (i := 4) (f' := 5) (by kernel_rfl) (by rfl) ?_
       refine cH [.agg [vB na, vS ad xs.length cap], .v (.agg #[.bool np, .slice pd p.length pc])] hI Tryz.func10 ?_
       refine (wideDiv_spec (ha.now hB hR) (hp.now hB hR) (two_pos hp) (by omega)).mono ?_
       rintro ex w67 ⟨nq, qd, qc, q, nr, rd, rc, r, rfl, hk, hq, hr⟩
       replace hF := hF.grow hR hk; replace hS := hS.same hk
       replace ha := ha.next hB hR hk
       replace hp := hp.next hB hR hk
       obtain ⟨hB, hR⟩ := nx hB hR hk
       refine ⟨_, rfl, hS, ?_⟩
       replace hI := hI.pt 35 (.v (.tuple #[.agg #[.bool nq, .slice qd q.length qc], .agg #[.bool nr, .slice rd r.length rc]])) [35, 34, 9, 8, 33, 31, 1, 2, 7]
       refine lK tab [] [] [5, 6, 7] 2 [(37, .v (.agg #[.bool nr, .slice rd r.length rc])), (36, .v (.agg #[.bool nq, .slice qd q.length qc]))] [9, 8, 1, 2, 7] hS hI .nil fun a68 hI => ?_
       refine oneL (i := 10) (f' := 1) (by kernel_rfl) (by rfl) ?_
       refine eK tab 3 .no (.v (undef)) [⟨1, 29, [vB nq, vS qd q.length qc]⟩] [2, 0] [] [] 3 true hR hI .nil fun e69 a69 w69 hag hR2 hI => ?_
       replace hS := Rel.old (k := 3) hS hR hR2 hF hag [0] [] (by kernel_rfl) (by kernel_rfl) (by kernel_rfl); replace hR := hR2
       refine ⟨hS, ?_⟩
       refine wpL_env hag (by kernel_rfl) ?_
       replace hS := hS.agree (k := 3) (L := []) (Wf.of (by kernel_rfl)) hag
       replace hI := hI.sl [37, 36, 9, 8, 1, 2, 7] rfl
       refine endL (i := 11) (f' := 0) (by kernel_rfl) (by rfl) (by kernel_rfl) ?_
       refine eK tab 3 .no (.v (undef)) [⟨2, 29, [vB nr, vS rd r.length rc]⟩] [1, 0] [] [] 3 true hR hI .nil fun e70 a70 w70 hag hR2 hI => ?_
       replace hR := hR2; clear hR2
       replace hI := hI.sl [37, 36, 9, 8, 1, 2, 7] rfl
       refine doneL (by kernel_rfl) ?_
       replace hI := hI.sl [9, 1, 2, 7] rfl; replace hR := hR.sel [2, 0] [] rfl rfl
       refine then_n ?_
       replace hR := hR.sel [0, 2] [] rfl rfl
       replace hI := hI.sl [9, 1, 2, 7] rfl
       obtain ⟨hR, hI⟩ := rnm [(1, 2)] ⟨[(9, .p 1 0), (1, vI n), (2, .p 0 0), (7, vB f)], [⟨0, 29, [vB na, vS ad xs.length cap]⟩, ⟨1, 29, [vB nr, vS rd r.length rc]⟩], [], 0⟩ hR hI; dsimp only at hI hR
       exact ⟨(nr, rd, rc, r), _, _, _, _, hB, hr, hR.sel [0, 1] [] (by kernel_rfl) (by kernel_rfl), hI.sel [1, 2, 7, 9] (by kernel_rfl)⟩
     ·
      refine eK tab 1 .no (.p 1 0) [⟨1, 29, [vB false, vS none 0 0]⟩] [0] [] [] 2 false hR hI .nil fun e71 a71 w71 hag hR2 hI => ?_
      replace hS := Rel.old (k := 1) hS hR hR2 hF hag [0] [] (by kernel_rfl) (by kernel_rfl) (by kernel_rfl); replace hR := hR2
      refine ⟨hS, ?_⟩
      refine wpL_env hag (by kernel_rfl) ?_
      replace hS := hS.agree (k := 1) (L := []) (Wf.of (by kernel_rfl)) hag
      replace hI := hI.sl [9, 33, 31, 1, 2, 7] rfl
      refine twoL (i := 3) (j := 8) (f' := 7) (by kernel_rfl) (by rfl) ?_ ?_
      ·
       refine cH [vI (64 * n)] hI Tryz.func22 ?_
       refine (two_spec (C := Now hB) (n := 64 * n) (by omega)).mono ?_
       rintro ex w72 ⟨np, pd, pc, p, rfl, hk, hp⟩
       replace hF := hF.grow hR hk; replace hS := hS.same hk
       replace ha := ha.next hB hR hk
       obtain ⟨hB, hR⟩ := nx hB hR hk
       refine ⟨_, rfl, hS, ?_⟩
       replace hI := hI.pt 34 (.v (.agg #[.bool np, .slice pd p.length pc])) [34, 9, 33, 31, 1, 2, 7]
       refine twoL (i := 4) (j := 8) (f' := 6) (by kernel_rfl) (by rfl) ?_ ?_
       ·
        refine cH [.agg [vB na, vS ad xs.length cap], .v (.agg #[.bool np, .slice pd p.length pc])] hI Tryz.func10 ?_
        refine (wideDiv_spec (ha.now hB hR) (hp.now hB hR) (two_pos hp) (by omega)).mono ?_
        rintro ex w73 ⟨nq, qd, qc, q, nr, rd, rc, r, rfl, hk, hq, hr⟩
        replace hF := hF.grow hR hk; replace hS := hS.same hk
        replace ha := ha.next hB hR hk
        replace hp := hp.next hB hR hk
        obtain ⟨hB, hR⟩ := nx hB hR hk
        refine ⟨_, rfl, hS, ?_⟩
        replace hI := hI.pt 35 (.v (.tuple #[.agg #[.bool nq, .slice qd q.length qc], .agg #[.bool nr, .slice rd r.length rc]])) [35, 34, 9, 33, 31, 1, 2, 7]
        refine lK tab [] [] [5, 6, 7] 3 [(37, .v (.agg #[.bool nr, .slice rd r.length rc])), (36, .v (.agg #[.bool nq, .slice qd q.length qc]))] [9, 1, 2, 7] hS hI .nil fun a74 hI => ?_
        refine oneL (i := 8) (f' := 2) (by kernel_rfl) (by rfl) ?_
        refine eK tab 2 .no (.p 2 0) [⟨2, 29, [vB false, vS none 0 0]⟩] [1, 0] [] [] 3 false hR hI .nil fun e75 a75 w75 hag hR2 hI => ?_
        replace hS := Rel.old (k := 2) hS hR hR2 hF hag [0] [] (by kernel_rfl) (by kernel_rfl) (by kernel_rfl); replace hR := hR2
        refine ⟨hS, ?_⟩
        refine wpL_env hag (by kernel_rfl) ?_
        replace hS := hS.agree (k := 2) (L := []) (Wf.of (by kernel_rfl)) hag
        replace hI := hI.sl [8, 37, 36, 9, 1, 2, 7] rfl
        refine oneL (i := 10) (f' := 1) (by kernel_rfl) (by rfl) ?_
        refine eK tab 3 .no (.v (undef)) [⟨2, 29, [vB nq, vS qd q.length qc]⟩] [1, 0] [] [] 3 true hR hI .nil fun e76 a76 w76 hag hR2 hI => ?_
        replace hS := Rel.old (k := 3) hS hR hR2 hF hag [0] [] (by kernel_rfl) (by kernel_rfl) (by kernel_rfl); replace hR := hR2
        refine ⟨hS, ?_⟩
        refine wpL_env hag (by kernel_rfl) ?_
        replace hS := hS.agree (k := 3) (L := []) (Wf.of (by kernel_rfl)) hag
        replace hI := hI.sl [8, 37, 36, 9, 1, 2, 7] rfl
        refine endL (i := 11) (f' := 0) (by kernel_rfl) (by rfl) (by kernel_rfl) ?_
        refine eK tab 3 .no (.v (undef)) [⟨1, 29, [vB nr, vS rd r.length rc]⟩] [2, 0] [] [] 3 true hR hI .nil fun e77 a77 w77 hag hR2 hI => ?_
        replace hR := hR2; clear hR2
        replace hI := hI.sl [8, 37, 36, 9, 1, 2, 7] rfl
        refine doneL (by kernel_rfl) ?_
        replace hI := hI.sl [9, 1, 2, 7] rfl; replace hR := hR.sel [1, 0] [] rfl rfl
        refine then_n ?_
        replace hR := hR.sel [0, 1] [] rfl rfl
        replace hI := hI.sl [9, 1, 2, 7] rfl
        obtain ⟨hR, hI⟩ := rnm [(1, 1)] ⟨[(9, .p 1 0), (1, vI n), (2, .p 0 0), (7, vB f)], [⟨0, 29, [vB na, vS ad xs.length cap]⟩, ⟨1, 29, [vB nr, vS rd r.length rc]⟩], [], 0⟩ hR hI; dsimp only at hI hR
        exact ⟨(nr, rd, rc, r), _, _, _, _, hB, hr, hR.sel [0, 1] [] (by kernel_rfl) (by kernel_rfl), hI.sel [1, 2, 7, 9] (by kernel_rfl)⟩
       ·
        refine eK tab 2 .no (.p 2 0) [⟨2, 29, [vB false, vS none 0 0]⟩] [1, 0] [] [] 3 false hR hI .nil fun e78 a78 w78 hag hR2 hI => ?_
        replace hS := Rel.old (k := 2) hS hR hR2 hF hag [0] [] (by kernel_rfl) (by kernel_rfl) (by kernel_rfl); replace hR := hR2
        refine ⟨hS, ?_⟩
        refine wpL_env hag (by kernel_rfl) ?_
        replace hS := hS.agree (k := 2) (L := []) (Wf.of (by kernel_rfl)) hag
        replace hI := hI.sl [8, 34, 9, 33, 31, 1, 2, 7] rfl
        refine oneL (i := 4) (f' := 5) (by kernel_rfl) (by rfl) ?_
        refine cH [.agg [vB na, vS ad xs.length cap], .v (.agg #[.bool np, .slice pd p.length pc])] hI Tryz.func10 ?_
        refine (wideDiv_spec (ha.now hB hR) (hp.now hB hR) (two_pos hp) (by omega)).mono ?_
        rintro ex w79 ⟨nq, qd, qc, q, nr, rd, rc, r, rfl, hk, hq, hr⟩
        replace hF := hF.grow hR hk; replace hS := hS.same hk
        replace ha := ha.next hB hR hk
        replace hp := hp.next hB hR hk
        obtain ⟨hB, hR⟩ := nx hB hR hk
        refine ⟨_, rfl, hS, ?_⟩
        replace hI := hI.pt 35 (.v (.tuple #[.agg #[.bool nq, .slice qd q.length qc], .agg #[.bool nr, .slice rd r.length rc]])) [35, 8, 34, 9, 33, 31, 1, 2, 7]
        refine lK tab [] [] [5, 6, 7] 2 [(37, .v (.agg #[.bool nr, .slice rd r.length rc])), (36, .v (.agg #[.bool nq, .slice qd q.length qc]))] [8, 9, 1, 2, 7] hS hI .nil fun a80 hI => ?_
        refine oneL (i := 10) (f' := 1) (by kernel_rfl) (by rfl) ?_
        refine eK tab 3 .no (.v (undef)) [⟨2, 29, [vB nq, vS qd q.length qc]⟩] [1, 0] [] [] 3 true hR hI .nil fun e81 a81 w81 hag hR2 hI => ?_
        replace hS := Rel.old (k := 3) hS hR hR2 hF hag [0] [] (by kernel_rfl) (by kernel_rfl) (by kernel_rfl); replace hR := hR2
        refine ⟨hS, ?_⟩
        refine wpL_env hag (by kernel_rfl) ?_
        replace hS := hS.agree (k := 3) (L := []) (Wf.of (by kernel_rfl)) hag
        replace hI := hI.sl [37, 36, 8, 9, 1, 2, 7] rfl
        refine endL (i := 11) (f' := 0) (by kernel_rfl) (by rfl) (by kernel_rfl) ?_
        refine eK tab 3 .no (.v (undef)) [⟨1, 29, [vB nr, vS rd r.length rc]⟩] [2, 0] [] [] 3 true hR hI .nil fun e82 a82 w82 hag hR2 hI => ?_
        replace hR := hR2; clear hR2
        replace hI := hI.sl [37, 36, 8, 9, 1, 2, 7] rfl
        refine doneL (by kernel_rfl) ?_
        replace hI := hI.sl [9, 1, 2, 7] rfl; replace hR := hR.sel [1, 0] [] rfl rfl
        refine then_n ?_
        replace hR := hR.sel [0, 1] [] rfl rfl
        replace hI := hI.sl [9, 1, 2, 7] rfl
        obtain ⟨hR, hI⟩ := rnm [(1, 1)] ⟨[(9, .p 1 0), (1, vI n), (2, .p 0 0), (7, vB f)], [⟨0, 29, [vB na, vS ad xs.length cap]⟩, ⟨1, 29, [vB nr, vS rd r.length rc]⟩], [], 0⟩ hR hI; dsimp only at hI hR
        exact ⟨(nr, rd, rc, r), _, _, _, _, hB, hr, hR.sel [0, 1] [] (by kernel_rfl) (by kernel_rfl), hI.sel [1, 2, 7, 9] (by kernel_rfl)⟩
      ·
       refine eK tab 2 .no (.p 2 0) [⟨2, 29, [vB false, vS none 0 0]⟩] [1, 0] [] [] 3 false hR hI .nil fun e83 a83 w83 hag hR2 hI => ?_
       replace hS := Rel.old (k := 2) hS hR hR2 hF hag [0] [] (by kernel_rfl) (by kernel_rfl) (by kernel_rfl); replace hR := hR2
       refine ⟨hS, ?_⟩
       refine wpL_env hag (by kernel_rfl) ?_
       replace hS := hS.agree (k := 2) (L := []) (Wf.of (by kernel_rfl)) hag
       replace hI := hI.sl [8, 9, 33, 31, 1, 2, 7] rfl
       refine oneL (i := 3) (f' := 6) (by kernel_rfl) (by rfl) ?_
       refine cH [vI (64 * n)] hI Tryz.func22 ?_
       refine (two_spec (C := Now hB) (n := 64 * n) (by omega)).mono ?_
       rintro ex w84 ⟨np, pd, pc, p, rfl, hk, hp⟩
       replace hF := hF.grow hR hk; replace hS := hS.same hk
       replace ha := ha.next hB hR hk
       obtain ⟨hB, hR⟩ := nx hB hR hk
       refine ⟨_, rfl, hS, ?_⟩
       replace hI := hI.pt 34 (.v (.agg #[.bool np, .slice pd p.length pc])) [34, 8, 9, 33, 31, 1, 2, 7]
       refine oneL (i := 4) (f' := 5) (by kernel_rfl) (by rfl) ?_
       refine cH [.agg [vB na, vS ad xs.length cap], .v (.agg #[.bool np, .slice pd p.length pc])] hI Tryz.func10 ?_
       refine (wideDiv_spec (ha.now hB hR) (hp.now hB hR) (two_pos hp) (by omega)).mono ?_
       rintro ex w85 ⟨nq, qd, qc, q, nr, rd, rc, r, rfl, hk, hq, hr⟩
       replace hF := hF.grow hR hk; replace hS := hS.same hk
       replace ha := ha.next hB hR hk
       replace hp := hp.next hB hR hk
       obtain ⟨hB, hR⟩ := nx hB hR hk
       refine ⟨_, rfl, hS, ?_⟩
       replace hI := hI.pt 35 (.v (.tuple #[.agg #[.bool nq, .slice qd q.length qc], .agg #[.bool nr, .slice rd r.length rc]])) [35, 34, 8, 9, 33, 31, 1, 2, 7]
       refine lK tab [] [] [5, 6, 7] 2 [(37, .v (.agg #[.bool nr, .slice rd r.length rc])), (36, .v (.agg #[.bool nq, .slice qd q.length qc]))] [8, 9, 1, 2, 7] hS hI .nil fun a86 hI => ?_
       refine oneL (i := 10) (f' := 1) (by kernel_rfl) (by rfl) ?_
       refine eK tab 3 .no (.v (undef)) [⟨2, 29, [vB nq, vS qd q.length qc]⟩] [1, 0] [] [] 3 true hR hI .nil fun e87 a87 w87 hag hR2 hI => ?_
       replace hS := Rel.old (k := 3) hS hR hR2 hF hag [0] [] (by kernel_rfl) (by kernel_rfl) (by kernel_rfl); replace hR := hR2
       refine ⟨hS, ?_⟩
       refine wpL_env hag (by kernel_rfl) ?_
       replace hS := hS.agree (k := 3) (L := []) (Wf.of (by kernel_rfl)) hag
       replace hI := hI.sl [37, 36, 8, 9, 1, 2, 7] rfl
       refine endL (i := 11) (f' := 0) (by kernel_rfl) (by rfl) (by kernel_rfl) ?_
       refine eK tab 3 .no (.v (undef)) [⟨1, 29, [vB nr, vS rd r.length rc]⟩] [2, 0] [] [] 3 true hR hI .nil fun e88 a88 w88 hag hR2 hI => ?_
       replace hR := hR2; clear hR2
       replace hI := hI.sl [37, 36, 8, 9, 1, 2, 7] rfl
       refine doneL (by kernel_rfl) ?_
       replace hI := hI.sl [9, 1, 2, 7] rfl; replace hR := hR.sel [1, 0] [] rfl rfl
       refine then_n ?_
       replace hR := hR.sel [0, 1] [] rfl rfl
       replace hI := hI.sl [9, 1, 2, 7] rfl
       obtain ⟨hR, hI⟩ := rnm [(1, 1)] ⟨[(9, .p 1 0), (1, vI n), (2, .p 0 0), (7, vB f)], [⟨0, 29, [vB na, vS ad xs.length cap]⟩, ⟨1, 29, [vB nr, vS rd r.length rc]⟩], [], 0⟩ hR hI; dsimp only at hI hR
       exact ⟨(nr, rd, rc, r), _, _, _, _, hB, hr, hR.sel [0, 1] [] (by kernel_rfl) (by kernel_rfl), hI.sel [1, 2, 7, 9] (by kernel_rfl)⟩
    ·
     clear hR hI hB
     rintro ⟨nr, rd, rc, r⟩ e89 C89 F89 wb89 a89 w89 hB hp hR hI
     dsimp only at hp hR hI
     have hr := hp
     refine regL 5 hR (by kernel_rfl) (fun hS => ?_)
     replace hR := hR.drew; have hF := hR.fore
     refine lK tab [(2, .nw)] [] [0, 1, 2] 3 [(40, vI (64 * n)), (38, .agg [vB nr, vS rd r.length rc])] [1, 2, 7] hS hI (.cons (inR_i64 (n := (64 : Int) * (n : Int)) (by omega)) .nil) fun a90 hI => ?_
     refine oneL (i := 3) (f' := 2) (by kernel_rfl) (by rfl) ?_
     refine cH [vI (64 * n)] hI Tryz.func22 ?_
     refine (two_spec (C := Now hB) (n := 64 * n) (by omega)).mono ?_
     rintro ex w91 ⟨np, pd, pc, p, rfl, hk, hp⟩
     replace hF := hF.grow hR hk; replace hS := hS.same hk
     replace hr := hr.next hB hR hk
     obtain ⟨hB, hR⟩ := nx hB hR hk
     refine ⟨_, rfl, hS, ?_⟩
     replace hI := hI.pt 41 (.v (.agg #[.bool np, .slice pd p.length pc])) [41, 40, 38, 1, 2, 7]
     refine oneL (i := 4) (f' := 1) (by kernel_rfl) (by rfl) ?_
     refine cH [.agg [vB nr, vS rd r.length rc], .v (.agg #[.bool np, .slice pd p.length pc])] hI Tryz.func31 ?_
     refine (wideAdd_spec (hr.now hB hR) (hp.now hB hR) (by omega)).mono ?_
     rintro ex w92 ⟨no, od, oc, o, rfl, hk, ho⟩
     replace hF := hF.grow hR hk; replace hS := hS.same hk
     replace hp := hp.next hB hR hk
     replace hr := hr.next hB hR hk
     obtain ⟨hB, hR⟩ := nx hB hR hk
     refine ⟨_, rfl, hS, ?_⟩
     replace hI := hI.pt 42 (.v (.agg #[.bool no, .slice od o.length oc])) [42, 41, 40, 38, 1, 2, 7]
     refine endL (i := 5) (f' := 0) (by kernel_rfl) (by rfl) (by kernel_rfl) ?_
     refine eK tab 2 .no (.v (undef)) [⟨0, 29, [vB no, vS od o.length oc]⟩] [1] [] [] 2 true hR hI .nil fun e93 a93 w93 hag hR2 hI => ?_
     replace hR := hR2; clear hR2
     replace hI := hI.sl [42, 41, 40, 38, 1, 2, 7] rfl
     refine doneL (by kernel_rfl) ?_
     replace hI := hI.sl [1, 2, 7] rfl; replace hR := hR.sel [0] [] rfl rfl
     refine then_n ?_
     exact ⟨(no, od, oc, o, _), _, _, _, _, hB, ⟨ho.to rfl (by omega), tmod_up (by exact_mod_cast Nat.two_pow_pos _)⟩, hR.sel [0] [] (by kernel_rfl) (by kernel_rfl), hI.sel [1, 2, 7] (by kernel_rfl)⟩
   ·
    replace hI := hI.rb 29 hc18
    try simp only [tolds] at hc18
    have hna := hc18
    refine wp_skip ?_
    refine then_n ?_
    exact ⟨(na, ad, cap, xs, a), _, _, _, _, hB, ⟨ha.to rfl (by omega), by rw [← ha.eq, hna]; exact Int.natCast_nonneg _, rfl⟩, hR.sel [0] [] (by kernel_rfl) (by kernel_rfl), hI.sel [1, 2, 7] (by kernel_rfl)⟩
  ·
   clear hR hI hB
   rintro ⟨nz, zd, zc, zs, z⟩ e94 C94 F94 wb94 a94 w94 hB hp hR hI
   dsimp only at hp hR hI
   obtain ⟨hz, hz0, hzm⟩ := hp; have hrz := hz.sl.room; have hmz := hz.sl.max; have hzd := hz.sl.dig
   refine rK tab 1 [] [] [(10, .row 1)] [2, 7] [] [0] [⟨1, 25, 1, n, (List.replicate n (.int .u64 0))⟩] [] 2 hR hI (.cons (by omega : (0 : Int) ≤ (n : Int) ∧ (n : Int) ≤ (n : Int)) (.cons (by omega : ((8 : Nat) : Int) * (n : Int) ≤ 281474976710656) (.cons (by have hm_ : maxLen = 9223372036854775807 := rfl; rw [hm_]; omega : n ≤ maxLen) .nil))) fun e95 a95 w95 hag hR hI => ?_
   have er_ : List.replicate n (Value.int .u64 0) = ints .u64 (List.replicate n 0) := ints_replicate .u64 n 0
   rw [er_] at hR
   obtain ⟨hR, hI⟩ := rnm [(1, 1)] ⟨[(10, .row 1), (2, .p 0 0), (7, vB f)], [⟨0, 29, [vB nz, vS zd zs.length zc]⟩], [⟨1, 25, 1, n, (ints .u64 (List.replicate n 0))⟩], 0⟩ hR hI; dsimp only at hI hR
   refine wp_seq ?_
   refine rZ tab 2 [(47, .v (.int .i64 0)), (46, vI n)] [10, 2, 7] hR hI fun e96 a96 w96 hag hR hI => ?_
   refine wp_block ?_
   refine lp (γ := Nat × List Nat) (fun (i, ws) => (⟨[(2, .p 0 0), (7, vB f), (10, .row 1), (46, vI n), (47, vI i)], [⟨0, 29, [vB nz, vS zd zs.length zc]⟩], [⟨1, 25, 1, n, (ints .u64 ws)⟩], 2⟩ : Sy)) (fun (i, ws) e => ws.length = n ∧ i ≤ n ∧ (∀ d ∈ ws, d < 18446744073709551616) ∧ wval (ws.take i) = val (zs.take (2 * i)) ∧ ∀ j, i ≤ j → ws.getD j 0 = 0) (fun (i, ws) => n - i) (0, List.replicate n 0) (⟨List.length_replicate .., Nat.zero_le _, fun d h => by have := List.eq_of_mem_replicate h; omega, by simp [wval, val], fun j _ => by simp [List.getD_eq_getElem?_getD, List.getElem?_replicate]; split <;> rfl⟩)
     (hR.sel [0] [1] (by kernel_rfl) (by kernel_rfl)) (hI.sel [2, 7, 10, 46, 47] (by kernel_rfl)) ?_
   clear hR hI
   rintro ⟨i, ws⟩ e97 a97 w97 hp hR hI
   dsimp only at hp hR hI
   obtain ⟨hwl, hwn, hwd, hwv, hwz⟩ := hp
   refine rZ tab 2 [(48, vB (decide ((i : Int) < (n : Int))))] [2, 7, 10, 46, 47] hR hI fun e98 a98 w98 hag hR hI => ?_
   refine wp_seq ?_
   refine cnd (b := decide ((i : Int) < (n : Int))) hI (by kernel_rfl) (fun hc99 => ?_) (fun hc99 => ?_)
   ·
    replace hI := hI.rb 48 hc99
    try simp only [tolds] at hc99
    refine wp_skip ?_
    refine then_n ?_
    refine wp_seq ?_
    refine wp_block ?_
    refine rZ tab 2 [(11, vI i)] [2, 7, 10, 46, 47] hR hI fun e100 a100 w100 hag hR hI => ?_
    refine rZ tab 2 [(12, .v (.int .i64 0))] [11, 2, 7, 10, 46, 47] hR hI fun e101 a101 w101 hag hR hI => ?_
    refine wp_block ?_
    have es_ := set_part_zero (zs := zs) (i := i) (by omega : i < ws.length) (hwz i (Nat.le_refl _))
    rw [← es_] at hR
    refine lp (γ := Nat) (fun k => (⟨[(2, .p 0 0), (7, vB f), (10, .row 1), (46, vI n), (47, vI i), (11, vI i), (12, vI k)], [⟨0, 29, [vB nz, vS zd zs.length zc]⟩], [⟨1, 25, 1, n, (ints .u64 (ws.set i (wpart zs i k)))⟩], 2⟩ : Sy)) (fun k e => k ≤ 2) (fun k => 2 - k) (0) (by decide)
      (hR.sel [0] [1] (by kernel_rfl) (by kernel_rfl)) (hI.sel [2, 7, 10, 46, 47, 11, 12] (by kernel_rfl)) ?_
    clear hR hI
    rintro k e102 a102 w102 hp hR hI
    dsimp only at hp hR hI
    have hk2 := hp; have hgd := dig_get hzd (2 * i + k)
    refine wp_seq ?_
    refine rZ tab 2 [(51, vB (decide ((k : Int) < (2 : Int))))] [2, 7, 10, 46, 47, 11, 12] hR hI fun e103 a103 w103 hag hR hI => ?_
    refine cnd (b := decide ((k : Int) < (2 : Int))) hI (by kernel_rfl) (fun hc104 => ?_) (fun hc104 => ?_)
    ·
     replace hI := hI.rb 51 hc104
     try simp only [tolds] at hc104
     refine wp_skip ?_
     refine then_n ?_
     refine wp_seq ?_
     refine wp_block ?_
     refine rK tab 2 [(1, .nw), (3, .nw)] [] [(61, vB (decide ((((2 * i) + k : Nat) : Int) < (zs.length : Int))))] [2, 7, 10, 46, 47, 11, 12] [] [0] [] [1] 2 hR hI (.cons (inR_i64 (n := (2 : Int) * (i : Int)) (by omega)) (.cons (inR_i64 (n := ((2 * i : Nat) : Int) + (k : Int)) (by omega)) .nil)) fun e105 a105 w105 hag hR hI => ?_
     refine cnd (b := decide ((((2 * i) + k : Nat) : Int) < (zs.length : Int))) hI (by kernel_rfl) (fun hc106 => ?_) (fun hc106 => ?_)
     ·
      replace hI := hI.rb 61 hc106
      try simp only [tolds] at hc106
      refine regL 18 hR (by kernel_rfl) (fun hS => ?_)
      replace hR := hR.drew; have hF := hR.fore
      refine lK tab [(3, .val (vU (wpart zs i k))), (7, .nw), (9, .nw), (11, .val (.v (.int .u32 ((zs.getD ((2 * i) + k) 0 : Nat) : Int)))), (12, .nw), (14, .nw), (15, .eq (.int .u64 ((zs.getD (2 * i + k) 0 * pw k : Nat) : Int))), (16, .eq (.int .u64 ((wpart zs i k + pw k * zs.getD (2 * i + k) 0 : Nat) : Int)))] [] [0, 1, 2, 3, 4, 5, 6, 7, 8, 9, 10, 11, 12, 13, 14, 15, 16, 17] 1 [(79, .pr 1 i), (78, vU (wpart zs i k + pw k * zs.getD (2 * i + k) 0))] [2, 7, 10, 46, 47, 11, 12] hS hI (.cons (by omega : (0 : Int) ≤ (i : Int) ∧ (i : Int) < (n : Int)) (.cons ((ints_get (by rw [List.length_set]; omega)).trans (by rw [getD_set_same (by omega)]) : (ints .u64 (ws.set i (wpart zs i k)))[i]? = some (.int .u64 ((wpart zs i k : Nat) : Int))) (.cons (by omega : i < n * 1) (.cons (inR_i64 (n := (2 : Int) * (i : Int)) (by omega)) (.cons (inR_i64 (n := ((2 * i : Nat) : Int) + (k : Int)) (by omega)) (.cons (by omega : (0 : Int) ≤ (((2 * i) + k : Nat) : Int) ∧ (((2 * i) + k : Nat) : Int) < (zs.length : Int)) (.cons (nats_some (i := (2 * i) + k) (hz.cells.mono hB.cls) (by omega)) (.cons (nats_load (i := (2 * i) + k) (m := 1) (hz.cells.mono hB.cls) (by omega)) (.cons (inR_u64 (n := ((zs.getD ((2 * i) + k) 0 : Nat) : Int)) (by omega)) (.cons (inR_i64 (n := (32 : Int) * (k : Int)) (by omega)) (.cons (congrArg (Value.int .u64) (shl_digit _ _ (dig_get hzd _) (by omega) : IntKind.u64.wrap (((zs.getD ((2 * i) + k) 0 : Nat) : Int) * 2 ^ (32 * k)) = ((zs.getD (2 * i + k) 0 * pw k : Nat) : Int))) (.cons (by omega : (0 : Int) ≤ ((32 * k : Nat) : Int)) (.cons (by show _ ≤ (64 : Int); omega : ((32 * k : Nat) : Int) ≤ (IntKind.u64.bits : Int)) (.cons (congrArg (Value.int .u64) (u64_orpart _ _ _ (wpart_lt hzd _ _) (dig_get hzd _) (by omega) : bits .or .u64 ((wpart zs i k : Nat) : Int) ((zs.getD (2 * i + k) 0 * pw k : Nat) : Int) = ((wpart zs i k + pw k * zs.getD (2 * i + k) 0 : Nat) : Int))) (.cons (by omega : (0 : Int) ≤ (i : Int) ∧ (i : Int) < (n : Int)) .nil))))))))))))))) fun a107 hI => ?_
      refine endL (i := 18) (f' := 0) (by kernel_rfl) (by rfl) (by kernel_rfl) ?_
      refine eK tab 2 .no (.v (undef)) [] [0] [⟨1, 25, 1, n, ((ints .u64 (ws.set i (wpart zs i k))).set i (.int .u64 ((wpart zs i k + pw k * zs.getD (2 * i + k) 0 : Nat) : Int)))⟩] [] 2 true hR hI (.cons (by omega : i < n * 1) .nil) fun e108 a108 w108 hag hR2 hI => ?_
      replace hR := hR2; clear hR2
      replace hI := hI.sl [79, 78, 2, 7, 10, 46, 47, 11, 12] rfl
      refine doneL (by kernel_rfl) ?_
      replace hI := hI.sl [2, 7, 10, 46, 47, 11, 12] rfl; replace hR := hR.sel [0] [1] rfl rfl
      refine normal_block ?_
      refine then_n ?_
      refine aK tab 2 [(1, .nw)] [] [(12, vI (k + 1))] [2, 7, 10, 46, 47, 11] [] [0] [] [1] 2 hR hI (.cons (inR_i64 (n := (k : Int) + (1 : Int)) (by omega)) .nil) fun e109 a109 w109 hag hR hI => ?_
      refine then_n ?_
      rw [ints_set, List.set_set, ← wpart_succ] at hR
      exact ⟨k + 1, e109, by omega, by (try dsimp only); omega, hR.sel [0] [1] (by kernel_rfl) (by kernel_rfl), hI.sel [2, 7, 10, 46, 47, 11, 12] (by kernel_rfl)⟩
     ·
      replace hI := hI.rb 61 hc106
      try simp only [tolds] at hc106
      refine wp_skip ?_
      refine normal_block ?_
      refine then_n ?_
      refine aK tab 2 [(1, .nw)] [] [(12, vI (k + 1))] [2, 7, 10, 46, 47, 11] [] [0] [] [1] 2 hR hI (.cons (inR_i64 (n := (k : Int) + (1 : Int)) (by omega)) .nil) fun e110 a110 w110 hag hR hI => ?_
      refine then_n ?_
      have ew_ := wpart_out (zs := zs) (i := i) (k := k) (by omega)
      rw [← ew_] at hR
      exact ⟨k + 1, e110, by omega, by (try dsimp only); omega, hR.sel [0] [1] (by kernel_rfl) (by kernel_rfl), hI.sel [2, 7, 10, 46, 47, 11, 12] (by kernel_rfl)⟩
    ·
     replace hI := hI.rb 51 hc104
     try simp only [tolds] at hc104
     refine wp_exit ?_
     refine exit_then ?_
     refine exit_then ?_
     refine exit_hit ?_
     refine normal_block ?_
     refine then_n ?_
     refine aK tab 2 [(0, .nw)] [] [(47, vI (i + 1))] [2, 7, 10, 46] [] [0] [] [1] 2 hR hI (.cons (inR_i64 (n := (i : Int) + (1 : Int)) (by omega)) .nil) fun e111 a111 w111 hag hR hI => ?_
     refine then_n ?_
     have hk_ : k = 2 := by omega
     rw [hk_] at hR
     exact ⟨(i + 1, ws.set i (wpart zs i 2)), e111, part_next hwl (by omega) hzd hwd hwv hwz, by (try dsimp only); omega, hR.sel [0] [1] (by kernel_rfl) (by kernel_rfl), hI.sel [2, 7, 10, 46, 47] (by kernel_rfl)⟩
   ·
    replace hI := hI.rb 48 hc99
    try simp only [tolds] at hc99
    refine wp_exit ?_
    refine exit_then ?_
    refine exit_then ?_
    refine exit_hit ?_
    refine then_n ?_
    refine rK tab 2 [] [] [(5, vB f), (4, .row 1)] [] [] [] [] [1] 2 hR hI .nil fun e112 a112 w112 hag hR hI => ?_
    refine wp_ret ?_
    obtain ⟨hB_, hR_, hrel_, wd, wc, hv_, hcells_, hlen_, hcap_, hmax_⟩ := hB.release hR (y := ⟨1, 25, 1, n, (ints .u64 ws)⟩) (by simp) rfl _ dropN_mem
    replace hz := hz.rel hrel_
    have hw : Sl .u64 18446744073709551616 _ _ wd wc ws := ⟨hcells_, hwd, (by dsimp only at hlen_ hcap_; rw [ints_length] at hlen_; omega), hmax_⟩
    replace hI := hI.re 4 (vS wd n wc) rfl hv_
    replace hB := hB_; replace hR := hR_.sel [] [] rfl rfl; clear hB_ hR_ hrel_ hcells_ hv_
    replace hI := hI.re 4 (vS wd ws.length wc) rfl (by simp only [den]; rw [hwl])
    refine oN tab [vS wd ws.length wc, vB f] hR hI ?_
    exact ⟨ws, wd, wc, by rw [hf]; rfl, hB.fin hR, hw.fin hB hR, hwl, words_done hzd (by omega) (sg_nonneg hz.sign hz.eq hz0) hzm hwl hwv⟩

end Go.Proofs.YtmendapdibnbdaaGreatDoor.Stride
