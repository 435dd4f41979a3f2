/- Walks of the program's functions, printed by a program of mine (walk.py) over the words of Stride: each function's contract. -/
import Derived.Test.YteipgknmhpilfaaDecV
namespace Go.Proofs.Yteipgknmhpilfaa.Stride
open Go Go.RowKit Go.Proofs.Yteipgknmhpilfaa.Mag
set_option linter.unusedVariables false
set_option linter.unusedSimpArgs false
theorem shl_digit (d k : Nat) (hd : d < 4294967296) (hk : k ≤ 1) : IntKind.u64.wrap ((d : Int) * 2 ^ (32 * k)) = ((d * pw k : Nat) : Int) := by
  have h : k = 0 ∨ k = 1 := by omega
  rcases h with rfl | rfl
  · show IntKind.u64.wrap ((d : Int) * 1) = ((d * 1 : Nat) : Int)
    rw [wrap_inR (inR_u64 (by omega))]; omega
  · show IntKind.u64.wrap ((d : Int) * 4294967296) = ((d * 4294967296 : Nat) : Int)
    rw [wrap_inR (inR_u64 (by omega))]; omega
theorem u64_orpart (p d k : Nat) (hp : p < pw k) (hd : d < 4294967296) (hk : k ≤ 1) : bits .or .u64 (p : Int) ((d * pw k : Nat) : Int) = ((p + pw k * d : Nat) : Int) := by
  have h : k = 0 ∨ k = 1 := by omega
  rcases h with rfl | rfl
  · have h0 : p = 0 := by
      have : pw 0 = 1 := rfl
      omega
    subst h0
    have e1 : d * pw 0 = d := Nat.mul_one d
    have e2 : 0 + pw 0 * d = d := by rw [pw_zero]; omega
    rw [e1, e2, bits_or_u64_nat 0 d (by decide) (by omega), Nat.zero_or]
  · have e1 : d * pw 1 = 2 ^ 32 * d := Nat.mul_comm _ _
    have e2 : p + pw 1 * d = 2 ^ 32 * d + p := Nat.add_comm _ _
    have hp2 : p < 2 ^ 32 := hp
    rw [e1, e2, bits_or_u64_nat p (2 ^ 32 * d) (by omega) (by omega), Nat.or_comm, Nat.two_pow_add_eq_or_of_lt hp2]


theorem two_pos {C : Nat → Prop} {w : World} {n : Bool} {ad : Option Addr} {cap L m : Nat} {xs : List Nat} (h : Wd C w n ad cap xs ((2 ^ m : Nat) : Int) L) : 0 < val xs := by
  have h1 := h.eq
  cases n
  · have h2 : (val xs : Int) = ((2 ^ m : Nat) : Int) := h1
    have h3 := Nat.two_pow_pos m
    omega
  · exact h.sign rfl

set_option maxHeartbeats 4000000 in
set_option maxRecDepth 100000 in
theorem toWords_spec {C : Nat → Prop} {w : World} {na : Bool} {ad : Option Addr} {cap : Nat} {xs : List Nat} {a : Int} {L n : Nat} (ha : Wd C w na ad cap xs a L) (hL : L ≤ 10000) (hn : 1 ≤ n ∧ n ≤ 4) :
    Calls P 22 #[.agg #[.bool na, .slice ad (List.length xs) cap], .int .i64 ((n : Nat) : Int)] w fun ex w' => ∃ ws wd wc, ex = .returned (.tuple #[.slice wd (List.length ws) wc, .bool (decide (-((2 ^ (64 * n - 1) : Nat) : Int) ≤ a ∧ a < ((2 ^ (64 * n - 1) : Nat) : Int)))]) ∧ Keep (fun b => b < w.heap.size) w w' ∧ Sl .u64 18446744073709551616 (Grow C w w') w' wd wc ws ∧ ws.length = n ∧ (wval ws : Int) = a % ((2 ^ (64 * n) : Nat) : Int) := by
  refine doorN (e := e0) (vs := [.v (.agg #[.bool na, .slice ad xs.length cap]), .v (.int .i64 ((n : Nat) : Int))]) (n := 83) (m := 2) Try.func22 rfl rfl rfl (by decide) fun a_ hI => ?_
  replace hI : Is 83 [] e0 [(0, .v (.agg #[.bool na, .slice ad xs.length cap])), (1, .v (.int .i64 ((n : Nat) : Int)))] a_ := hI
  have hR : Rel (fun b => b < w.heap.size) w e0 [] [] w := Rel.start (fun k hk => hk)
  have hB : Base C w C (fun b => b < w.heap.size) w := Base.start
  have hla := ha.len
  refine reg_seq tab (k := 0) (hs := []) (sy := []) (ks := [2, 1]) (bs := [0]) (gs := [])
      (L' := [(2, .p 0 0), (1, .v (.int .i64 ((n : Nat) : Int)))])
      (H' := [⟨0, 29, [.v (.bool na), .v (.slice ad xs.length cap)]⟩]) (G' := []) (k' := 1) hR hI (by kernel_rfl)
      .nil (fun e1 a1 w1 hag hR hI => ?_)
  refine wp_seq ?_
  refine reg (is := [0, 1, 2, 3, 4, 5]) (by kernel_rfl) ?_
  refine part_ tab [0, 1, 2] [3, 4, 5] (by rfl) (k := 1) (hs := [(1, .nw), (2, .eq (.int .i64 ((64 * n - 1 : Nat) : Int)))]) (sy := []) (ks := [15, 2, 1]) (bs := [0]) (gs := [])
      (L' := [(15, .v (.int .i64 ((64 * n - 1 : Nat) : Int))), (2, .p 0 0), (1, .v (.int .i64 ((n : Nat) : Int)))])
      (H' := [⟨0, 29, [.v (.bool na), .v (.slice ad xs.length cap)]⟩]) (G' := []) (k' := 1) hR hI (by kernel_rfl)
      (.cons (inR_i64 (n := (64 : Int) * ((n : Nat) : Int)) (by omega)) (.cons (congrArg (Value.int .i64) (natsub_i64 (q := 1) (by omega) (by omega) : IntKind.i64.wrap (((64 * n : Nat) : Int) - (1 : Int)) = ((64 * n - 1 : Nat) : Int))) .nil)) (fun e2 a2 w2 hag hR hI => ?_)
  refine callOp (ys := [.v (.int .i64 ((64 * n - 1 : Nat) : Int))]) hI rfl rfl ⟨_, rfl, rfl, rfl⟩ (by kernel_rfl) Try.func37 rfl rfl ?_
  refine (two_spec (C := Now hB) (n := 64 * n - 1) (by omega)).mono ?_
  rintro ex w3 ⟨np, pd, pc, p, rfl, hk, hp⟩
  replace ha := ha.next hB hR hk
  have hB_ := hB.next hR hk
  replace hR := hR.after hk
  replace hB := hB_; clear hB_ hk
  refine ⟨_, rfl, ?_⟩
  replace hI := hI.put (d := some 16) (x := .v (.agg #[.bool np, .slice pd p.length pc])) (by intro t ht; cases ht; decide) rfl
  replace hI := hI.sel [16, 15, 2, 1] (by kernel_rfl : sel _ _ = some [(16, .v (.agg #[.bool np, .slice pd p.length pc])), (15, .v (.int .i64 ((64 * n - 1 : Nat) : Int))), (2, .p 0 0), (1, .v (.int .i64 ((n : Nat) : Int)))])
  refine part_ tab [4, 5] [] (by rfl) (k := 1) (hs := []) (sy := []) (ks := [6, 2, 1]) (bs := [1, 0]) (gs := [])
      (L' := [(6, .p 1 0), (2, .p 0 0), (1, .v (.int .i64 ((n : Nat) : Int)))])
      (H' := [⟨1, 29, [.v (.bool np), .v (.slice pd p.length pc)]⟩, ⟨0, 29, [.v (.bool na), .v (.slice ad xs.length cap)]⟩]) (G' := []) (k' := 2) hR hI (by kernel_rfl)
      .nil (fun e4 a4 w4 hag hR hI => ?_)
  refine ops_nil ?_
  refine then_n ?_
  refine wp_seq ?_
  refine joinM (γ := Bool) hB hI (fun f => (⟨[(1, .v (.int .i64 ((n : Nat) : Int))), (2, .p 0 0), (7, .v (.bool f))], [⟨0, 29, [.v (.bool na), .v (.slice ad xs.length cap)]⟩], [], 1⟩ : Sy)) (fun f e C F wb => Wd C wb na ad cap xs a L ∧ f = decide (-((2 ^ (64 * n - 1) : Nat) : Int) ≤ a ∧ a < ((2 ^ (64 * n - 1) : Nat) : Int))) ?_ ?_
  · skip
    refine regL 11 hR (by kernel_rfl) (fun hS => ?_)
    replace hR := hR.drew; have hF := hR.fore
    refine takeL tab (H := [⟨1, 29, [.v (.bool np), .v (.slice pd p.length pc)]⟩, ⟨0, 29, [.v (.bool na), .v (.slice ad xs.length cap)]⟩]) (G := []) (hs := []) (gs := []) (is := [0, 1]) (ks := [18, 17, 6, 2, 1]) (f' := 10)
        (L' := [(18, .agg [.v (.bool np), .v (.slice pd p.length pc)]), (17, .agg [.v (.bool na), .v (.slice ad xs.length cap)]), (6, .p 1 0), (2, .p 0 0), (1, .v (.int .i64 ((n : Nat) : Int)))]) hS hI (by kernel_rfl) (fun _ _ _ _ _ h => h) (by kernel_rfl)
        .nil (by kernel_rfl) (by kernel_rfl) (by kernel_rfl) (by rfl) (fun a5 hI => ?_)
    refine oneL (i := 2) (f' := 9) (by kernel_rfl) (by rfl) ?_
    refine callH (ys := [.agg [.v (.bool na), .v (.slice ad xs.length cap)], .agg [.v (.bool np), .v (.slice pd p.length pc)]]) hI rfl rfl ⟨_, rfl, rfl, rfl⟩ (by kernel_rfl) Try.func38 rfl rfl ?_
    refine (wideCmp_spec (ha.now hB hR) (hp.now hB hR)).mono ?_
    rintro ex w6 ⟨rfl, hk⟩
    replace hS := hS.same hk; replace hR := hR.same hk; clear hk
    refine ⟨_, rfl, hS, ?_⟩
    replace hI := hI.put (d := some 19) (x := .v (.int .i64 (cmpZ a (((2 ^ (64 * n - 1) : Nat) : Int))))) (by intro t ht; cases ht; decide) rfl
    replace hI := hI.sel [19, 18, 17, 6, 2, 1] (by kernel_rfl : sel _ _ = some [(19, .v (.int .i64 (cmpZ a (((2 ^ (64 * n - 1) : Nat) : Int))))), (18, .agg [.v (.bool np), .v (.slice pd p.length pc)]), (17, .agg [.v (.bool na), .v (.slice ad xs.length cap)]), (6, .p 1 0), (2, .p 0 0), (1, .v (.int .i64 ((n : Nat) : Int)))])
    refine takeL tab (H := [⟨1, 29, [.v (.bool np), .v (.slice pd p.length pc)]⟩, ⟨0, 29, [.v (.bool na), .v (.slice ad xs.length cap)]⟩]) (G := []) (hs := []) (gs := [5, 6]) (is := [3, 4, 5, 6]) (ks := [23, 22, 21, 2, 1]) (f' := 5)
        (L' := [(23, .gd 4 true (decide ((cmpZ a (((2 ^ (64 * n - 1) : Nat) : Int))) < (0 : Int))) (.agg [.v (.bool np), .v (.slice pd p.length pc)])), (22, .gd 4 true (decide ((cmpZ a (((2 ^ (64 * n - 1) : Nat) : Int))) < (0 : Int))) (.agg [.v (.bool na), .v (.slice ad xs.length cap)])), (21, .v (.bool (decide ((cmpZ a (((2 ^ (64 * n - 1) : Nat) : Int))) < (0 : Int))))), (2, .p 0 0), (1, .v (.int .i64 ((n : Nat) : Int)))]) hS hI (by kernel_rfl) (fun _ _ _ _ _ h => h) (by kernel_rfl)
        (.cons (rfl : (decide ((cmpZ a (((2 ^ (64 * n - 1) : Nat) : Int))) < (0 : Int))) = (decide ((cmpZ a (((2 ^ (64 * n - 1) : Nat) : Int))) < (0 : Int)))) .nil) (by kernel_rfl) (by kernel_rfl) (by kernel_rfl) (by rfl) (fun a7 hI => ?_)
    rcases Bool.eq_false_or_eq_true (decide ((cmpZ a (((2 ^ (64 * n - 1) : Nat) : Int))) < (0 : Int))) with hc8 | hc8
    · skip
      replace hI := hI.re 23 (.agg [.v (.bool np), .v (.slice pd p.length pc)]) rfl (by rw [den, hc8]; rfl)
      replace hI := hI.re 22 (.agg [.v (.bool na), .v (.slice ad xs.length cap)]) rfl (by rw [den, hc8]; rfl)
      replace hI := hI.re 21 (.v (.bool true)) rfl (congrArg Value.bool hc8)
      try simp only [decide_eq_true_eq, decide_eq_false_iff_not, beq_iff_eq, bne_iff_ne, beq_eq_false_iff_ne, bne_eq_false_iff_eq, Bool.and_eq_true, Bool.and_eq_false_iff, Bool.or_eq_true, Bool.or_eq_false_iff, Bool.not_eq_true', Bool.not_eq_false', ne_eq] at hc8
      refine oneL (i := 7) (f' := 4) (by kernel_rfl) (by rfl) ?_
      refine callH (ys := [.agg [.v (.bool np), .v (.slice pd p.length pc)]]) hI rfl rfl ⟨_, rfl, rfl, rfl⟩ (by kernel_rfl) Try.func39 rfl rfl ?_
      refine (negated_spec (hp.now hB hR)).mono ?_
      rintro ex w9 ⟨nm, md, mc, m, rfl, hk, hm⟩
      replace hF := hF.grow hR hk; replace hS := hS.same hk
      replace ha := ha.next hB hR hk
      replace hp := hp.next hB hR hk
      have hB_ := hB.next hR hk
      replace hR := hR.after hk
      replace hB := hB_; clear hB_ hk
      refine ⟨_, rfl, hS, ?_⟩
      replace hI := hI.put (d := some 24) (x := .v (.agg #[.bool nm, .slice md m.length mc])) (by intro t ht; cases ht; decide) rfl
      replace hI := hI.sel [24, 21, 22, 23, 2, 1] (by kernel_rfl : sel _ _ = some [(24, .v (.agg #[.bool nm, .slice md m.length mc])), (21, .v (.bool true)), (22, .agg [.v (.bool na), .v (.slice ad xs.length cap)]), (23, .agg [.v (.bool np), .v (.slice pd p.length pc)]), (2, .p 0 0), (1, .v (.int .i64 ((n : Nat) : Int)))])
      refine oneL (i := 8) (f' := 3) (by kernel_rfl) (by rfl) ?_
      refine callH (ys := [.agg [.v (.bool na), .v (.slice ad xs.length cap)], .v (.agg #[.bool nm, .slice md m.length mc])]) hI rfl rfl ⟨_, rfl, rfl, rfl⟩ (by kernel_rfl) Try.func38 rfl rfl ?_
      refine (wideCmp_spec (ha.now hB hR) (hm.now hB hR)).mono ?_
      rintro ex w10 ⟨rfl, hk⟩
      replace hS := hS.same hk; replace hR := hR.same hk; clear hk
      refine ⟨_, rfl, hS, ?_⟩
      replace hI := hI.put (d := some 25) (x := .v (.int .i64 (cmpZ a (-((2 ^ (64 * n - 1) : Nat) : Int))))) (by intro t ht; cases ht; decide) rfl
      replace hI := hI.sel [25, 24, 21, 22, 23, 2, 1] (by kernel_rfl : sel _ _ = some [(25, .v (.int .i64 (cmpZ a (-((2 ^ (64 * n - 1) : Nat) : Int))))), (24, .v (.agg #[.bool nm, .slice md m.length mc])), (21, .v (.bool true)), (22, .agg [.v (.bool na), .v (.slice ad xs.length cap)]), (23, .agg [.v (.bool np), .v (.slice pd p.length pc)]), (2, .p 0 0), (1, .v (.int .i64 ((n : Nat) : Int)))])
      refine takeL tab (H := [⟨1, 29, [.v (.bool np), .v (.slice pd p.length pc)]⟩, ⟨0, 29, [.v (.bool na), .v (.slice ad xs.length cap)]⟩]) (G := []) (hs := []) (gs := []) (is := [9, 10]) (ks := [27, 2, 1]) (f' := 1)
          (L' := [(27, .v (.bool (decide ((cmpZ a (-((2 ^ (64 * n - 1) : Nat) : Int))) ≥ (0 : Int))))), (2, .p 0 0), (1, .v (.int .i64 ((n : Nat) : Int)))]) hS hI (by kernel_rfl) (fun _ _ _ _ _ h => h) (by kernel_rfl)
          .nil (by kernel_rfl) (by kernel_rfl) (by kernel_rfl) (by rfl) (fun a11 hI => ?_)
      refine endL (i := 11) (f' := 0) (by kernel_rfl) (by rfl) (by kernel_rfl) ?_
      refine quietL tab (hh := .no) (x := .v (.bool (decide ((cmpZ a (-((2 ^ (64 * n - 1) : Nat) : Int))) ≥ (0 : Int))))) hR hI rfl rfl rfl (by kernel_rfl) .nil (fun a12 hI => ?_)
      replace hI := hI.sel [7, 27, 2, 1] (by kernel_rfl : sel _ _ = some [(7, .v (.bool (decide ((cmpZ a (-((2 ^ (64 * n - 1) : Nat) : Int))) ≥ (0 : Int))))), (27, .v (.bool (decide ((cmpZ a (-((2 ^ (64 * n - 1) : Nat) : Int))) ≥ (0 : Int))))), (2, .p 0 0), (1, .v (.int .i64 ((n : Nat) : Int)))])
      refine doneL (by kernel_rfl) ?_
      replace hI := hI.sel [7, 2, 1] (by kernel_rfl : sel _ _ = some [(7, .v (.bool (decide ((cmpZ a (-((2 ^ (64 * n - 1) : Nat) : Int))) ≥ (0 : Int))))), (2, .p 0 0), (1, .v (.int .i64 ((n : Nat) : Int)))]); replace hR := hR.sel [0] [] (by kernel_rfl : selH _ _ = some [⟨0, 29, [.v (.bool na), .v (.slice ad xs.length cap)]⟩]) (by kernel_rfl : selG _ _ = some [])
      refine then_n ?_
      exact ⟨decide ((cmpZ a (-((2 ^ (64 * n - 1) : Nat) : Int))) ≥ (0 : Int)), _, _, _, _, hB, ⟨ha, fits_t (by omega)⟩, hR.sel [0] [] (by kernel_rfl) (by kernel_rfl), hI.sel [1, 2, 7] (by kernel_rfl)⟩
    · skip
      replace hI := hI.re 21 (.v (.bool false)) rfl (congrArg Value.bool hc8)
      try simp only [decide_eq_true_eq, decide_eq_false_iff_not, beq_iff_eq, bne_iff_ne, beq_eq_false_iff_ne, bne_eq_false_iff_eq, Bool.and_eq_true, Bool.and_eq_false_iff, Bool.or_eq_true, Bool.or_eq_false_iff, Bool.not_eq_true', Bool.not_eq_false', ne_eq] at hc8
      refine takeL tab (H := [⟨1, 29, [.v (.bool np), .v (.slice pd p.length pc)]⟩, ⟨0, 29, [.v (.bool na), .v (.slice ad xs.length cap)]⟩]) (G := []) (hs := []) (gs := []) (is := [7]) (ks := [21, 2, 1]) (f' := 4)
          (L' := [(21, .v (.bool false)), (2, .p 0 0), (1, .v (.int .i64 ((n : Nat) : Int)))]) hS hI (by kernel_rfl) (fun _ _ _ _ _ h => h) (by kernel_rfl)
          .nil (by kernel_rfl) (by kernel_rfl) (by kernel_rfl) (by rfl) (fun a13 hI => ?_)
      refine takeL tab (H := [⟨1, 29, [.v (.bool np), .v (.slice pd p.length pc)]⟩, ⟨0, 29, [.v (.bool na), .v (.slice ad xs.length cap)]⟩]) (G := []) (hs := []) (gs := []) (is := [8, 9, 10]) (ks := [27, 2, 1]) (f' := 1)
          (L' := [(27, .v (.bool false)), (2, .p 0 0), (1, .v (.int .i64 ((n : Nat) : Int)))]) hS hI (by kernel_rfl) (fun _ _ _ _ _ h => h) (by kernel_rfl)
          .nil (by kernel_rfl) (by kernel_rfl) (by kernel_rfl) (by rfl) (fun a14 hI => ?_)
      refine endL (i := 11) (f' := 0) (by kernel_rfl) (by rfl) (by kernel_rfl) ?_
      refine quietL tab (hh := .no) (x := .v (.bool false)) hR hI rfl rfl rfl (by kernel_rfl) .nil (fun a15 hI => ?_)
      replace hI := hI.sel [7, 27, 2, 1] (by kernel_rfl : sel _ _ = some [(7, .v (.bool false)), (27, .v (.bool false)), (2, .p 0 0), (1, .v (.int .i64 ((n : Nat) : Int)))])
      refine doneL (by kernel_rfl) ?_
      replace hI := hI.sel [7, 2, 1] (by kernel_rfl : sel _ _ = some [(7, .v (.bool false)), (2, .p 0 0), (1, .v (.int .i64 ((n : Nat) : Int)))]); replace hR := hR.sel [0] [] (by kernel_rfl : selH _ _ = some [⟨0, 29, [.v (.bool na), .v (.slice ad xs.length cap)]⟩]) (by kernel_rfl : selG _ _ = some [])
      refine then_n ?_
      exact ⟨false, _, _, _, _, hB, ⟨ha, fits_f (by omega)⟩, hR.sel [0] [] (by kernel_rfl) (by kernel_rfl), hI.sel [1, 2, 7] (by kernel_rfl)⟩
  · clear hR hI hB
    rintro f e16 C16 F16 wb16 a16 w16 hB hp hR hI
    dsimp only at hp hR hI
    obtain ⟨ha, hf⟩ := hp
    refine wp_seq ?_
    refine reg_seq tab (k := 1) (hs := []) (sy := []) (ks := [29, 1, 2, 7]) (bs := [0]) (gs := [])
        (L' := [(29, .v (.bool na)), (1, .v (.int .i64 ((n : Nat) : Int))), (2, .p 0 0), (7, .v (.bool f))])
        (H' := [⟨0, 29, [.v (.bool na), .v (.slice ad xs.length cap)]⟩]) (G' := []) (k' := 1) hR hI (by kernel_rfl)
        .nil (fun e17 a17 w17 hag hR hI => ?_)
    refine joinM (γ := Bool × Option Addr × Nat × List Nat × Int) hB hI (fun (nz, zd, zc, zs, z) => (⟨[(1, .v (.int .i64 ((n : Nat) : Int))), (2, .p 0 0), (7, .v (.bool f))], [⟨0, 29, [.v (.bool nz), .v (.slice zd zs.length zc)]⟩], [], 1⟩ : Sy)) (fun (nz, zd, zc, zs, z) e C F wb => Wd C wb nz zd zc zs z (L + 20) ∧ 0 ≤ z ∧ z % ((2 ^ (64 * n) : Nat) : Int) = a % ((2 ^ (64 * n) : Nat) : Int)) ?_ ?_
    · skip
      refine cnd (b := na) hI (by kernel_rfl) (fun hc18 => ?_) (fun hc18 => ?_)
      · skip
        replace hI := hI.re 29 (.v (.bool true)) rfl (congrArg Value.bool hc18)
        try simp only [decide_eq_true_eq, decide_eq_false_iff_not, beq_iff_eq, bne_iff_ne, beq_eq_false_iff_ne, bne_eq_false_iff_eq, Bool.and_eq_true, Bool.and_eq_false_iff, Bool.or_eq_true, Bool.or_eq_false_iff, Bool.not_eq_true', Bool.not_eq_false', ne_eq] at hc18
        refine wp_seq ?_
        refine joinM (γ := Bool × Option Addr × Nat × List Nat) hB hI (fun (nr, rd, rc, r) => (⟨[(1, .v (.int .i64 ((n : Nat) : Int))), (2, .p 0 0), (7, .v (.bool f)), (9, .p 1 0)], [⟨0, 29, [.v (.bool na), .v (.slice ad xs.length cap)]⟩, ⟨1, 29, [.v (.bool nr), .v (.slice rd r.length rc)]⟩], [], 2⟩ : Sy)) (fun (nr, rd, rc, r) e C F wb => Wd C wb nr rd rc r (Int.tmod a ((2 ^ (64 * n) : Nat) : Int)) (64 * n / 32 + 1)) ?_ ?_
        · skip
          refine regL 11 hR (by kernel_rfl) (fun hS => ?_)
          replace hR := hR.drew; have hF := hR.fore
          refine takeL tab (H := [⟨0, 29, [.v (.bool na), .v (.slice ad xs.length cap)]⟩]) (G := []) (hs := [(2, .nw)]) (gs := []) (is := [0, 1, 2]) (ks := [33, 31, 1, 2, 7]) (f' := 9)
              (L' := [(33, .v (.int .i64 ((64 * n : Nat) : Int))), (31, .agg [.v (.bool na), .v (.slice ad xs.length cap)]), (1, .v (.int .i64 ((n : Nat) : Int))), (2, .p 0 0), (7, .v (.bool f))]) hS hI (by kernel_rfl) (fun _ _ _ _ _ h => h) (by kernel_rfl)
              (.cons (inR_i64 (n := (64 : Int) * ((n : Nat) : Int)) (by omega)) .nil) (by kernel_rfl) (by kernel_rfl) (by kernel_rfl) (by rfl) (fun a19 hI => ?_)
          refine threeL (i := 3) (j := 8) (k := 9) (f' := 8) (by kernel_rfl) (by rfl) ?_ ?_ ?_
          · skip
            refine callH (ys := [.v (.int .i64 ((64 * n : Nat) : Int))]) hI rfl rfl ⟨_, rfl, rfl, rfl⟩ (by kernel_rfl) Try.func37 rfl rfl ?_
            refine (two_spec (C := Now hB) (n := 64 * n) (by omega)).mono ?_
            rintro ex w20 ⟨np, pd, pc, p, rfl, hk, hp⟩
            replace hF := hF.grow hR hk; replace hS := hS.same hk
            replace ha := ha.next hB hR hk
            have hB_ := hB.next hR hk
            replace hR := hR.after hk
            replace hB := hB_; clear hB_ hk
            refine ⟨_, rfl, hS, ?_⟩
            replace hI := hI.put (d := some 34) (x := .v (.agg #[.bool np, .slice pd p.length pc])) (by intro t ht; cases ht; decide) rfl
            replace hI := hI.sel [34, 33, 31, 1, 2, 7] (by kernel_rfl : sel _ _ = some [(34, .v (.agg #[.bool np, .slice pd p.length pc])), (33, .v (.int .i64 ((64 * n : Nat) : Int))), (31, .agg [.v (.bool na), .v (.slice ad xs.length cap)]), (1, .v (.int .i64 ((n : Nat) : Int))), (2, .p 0 0), (7, .v (.bool f))])
            refine threeL (i := 4) (j := 8) (k := 9) (f' := 7) (by kernel_rfl) (by rfl) ?_ ?_ ?_
            · skip
              refine callH (ys := [.agg [.v (.bool na), .v (.slice ad xs.length cap)], .v (.agg #[.bool np, .slice pd p.length pc])]) hI rfl rfl ⟨_, rfl, rfl, rfl⟩ (by kernel_rfl) Try.func40 rfl rfl ?_
              refine (wideDiv_spec (ha.now hB hR) (hp.now hB hR) (two_pos hp) (by omega)).mono ?_
              rintro ex w21 ⟨nq, qd, qc, q, nr, rd, rc, r, rfl, hk, hq, hr⟩
              replace hF := hF.grow hR hk; replace hS := hS.same hk
              replace ha := ha.next hB hR hk
              replace hp := hp.next hB hR hk
              have hB_ := hB.next hR hk
              replace hR := hR.after hk
              replace hB := hB_; clear hB_ hk
              refine ⟨_, rfl, hS, ?_⟩
              replace hI := hI.put (d := some 35) (x := .v (.tuple #[.agg #[.bool nq, .slice qd q.length qc], .agg #[.bool nr, .slice rd r.length rc]])) (by intro t ht; cases ht; decide) rfl
              replace hI := hI.sel [35, 34, 33, 31, 1, 2, 7] (by kernel_rfl : sel _ _ = some [(35, .v (.tuple #[.agg #[.bool nq, .slice qd q.length qc], .agg #[.bool nr, .slice rd r.length rc]])), (34, .v (.agg #[.bool np, .slice pd p.length pc])), (33, .v (.int .i64 ((64 * n : Nat) : Int))), (31, .agg [.v (.bool na), .v (.slice ad xs.length cap)]), (1, .v (.int .i64 ((n : Nat) : Int))), (2, .p 0 0), (7, .v (.bool f))])
              refine takeL tab (H := [⟨0, 29, [.v (.bool na), .v (.slice ad xs.length cap)]⟩]) (G := []) (hs := []) (gs := []) (is := [5, 6, 7]) (ks := [37, 36, 1, 2, 7]) (f' := 4)
                  (L' := [(37, .v (.agg #[.bool nr, .slice rd r.length rc])), (36, .v (.agg #[.bool nq, .slice qd q.length qc])), (1, .v (.int .i64 ((n : Nat) : Int))), (2, .p 0 0), (7, .v (.bool f))]) hS hI (by kernel_rfl) (fun _ _ _ _ _ h => h) (by kernel_rfl)
                  .nil (by kernel_rfl) (by kernel_rfl) (by kernel_rfl) (by rfl) (fun a22 hI => ?_)
              refine twoL (i := 8) (j := 9) (f' := 3) (by kernel_rfl) (by rfl) ?_ ?_
              · skip
                refine effH tab (k := 1) (hh := .no) (r := ⟨.p 1 0, [⟨1, 29, [.v (.bool false), .v (.slice none 0 0)]⟩, ⟨0, 29, [.v (.bool na), .v (.slice ad xs.length cap)]⟩], [], 2, _, false⟩) hR hI (by kernel_rfl) rfl rfl rfl (by kernel_rfl) .nil (fun e23 a23 w23 hag hR2 hI => ?_)
                replace hS := Rel.old (k := 1) hS hR hR2 hF hag [0] [] (by kernel_rfl) (by kernel_rfl) (by kernel_rfl); replace hR := hR2
                refine ⟨hS, ?_⟩
                refine wpL_env hag (by kernel_rfl) ?_
                replace hS := hS.agree (k := 1) (L := []) (Wf.of (by kernel_rfl)) hag
                replace hI := hI.sel [8, 37, 36, 1, 2, 7] (by kernel_rfl : sel _ _ = some [(8, .p 1 0), (37, .v (.agg #[.bool nr, .slice rd r.length rc])), (36, .v (.agg #[.bool nq, .slice qd q.length qc])), (1, .v (.int .i64 ((n : Nat) : Int))), (2, .p 0 0), (7, .v (.bool f))])
                refine oneL (i := 9) (f' := 2) (by kernel_rfl) (by rfl) ?_
                refine effH tab (k := 2) (hh := .no) (r := ⟨.p 2 0, [⟨2, 29, [.v (.bool false), .v (.slice none 0 0)]⟩, ⟨1, 29, [.v (.bool false), .v (.slice none 0 0)]⟩, ⟨0, 29, [.v (.bool na), .v (.slice ad xs.length cap)]⟩], [], 3, _, false⟩) hR hI (by kernel_rfl) rfl rfl rfl (by kernel_rfl) .nil (fun e24 a24 w24 hag hR2 hI => ?_)
                replace hS := Rel.old (k := 2) hS hR hR2 hF hag [0] [] (by kernel_rfl) (by kernel_rfl) (by kernel_rfl); replace hR := hR2
                refine ⟨hS, ?_⟩
                refine wpL_env hag (by kernel_rfl) ?_
                replace hS := hS.agree (k := 2) (L := []) (Wf.of (by kernel_rfl)) hag
                replace hI := hI.sel [9, 8, 37, 36, 1, 2, 7] (by kernel_rfl : sel _ _ = some [(9, .p 2 0), (8, .p 1 0), (37, .v (.agg #[.bool nr, .slice rd r.length rc])), (36, .v (.agg #[.bool nq, .slice qd q.length qc])), (1, .v (.int .i64 ((n : Nat) : Int))), (2, .p 0 0), (7, .v (.bool f))])
                refine oneL (i := 10) (f' := 1) (by kernel_rfl) (by rfl) ?_
                refine effH tab (k := 3) (hh := .no) (r := ⟨.v (undef), [⟨1, 29, [.v (.bool nq), .v (.slice qd q.length qc)]⟩, ⟨2, 29, [.v (.bool false), .v (.slice none 0 0)]⟩, ⟨0, 29, [.v (.bool na), .v (.slice ad xs.length cap)]⟩], [], 3, _, true⟩) hR hI (by kernel_rfl) rfl rfl rfl (by kernel_rfl) .nil (fun e25 a25 w25 hag hR2 hI => ?_)
                replace hS := Rel.old (k := 3) hS hR hR2 hF hag [0] [] (by kernel_rfl) (by kernel_rfl) (by kernel_rfl); replace hR := hR2
                refine ⟨hS, ?_⟩
                refine wpL_env hag (by kernel_rfl) ?_
                replace hS := hS.agree (k := 3) (L := []) (Wf.of (by kernel_rfl)) hag
                replace hI := hI.sel [9, 8, 37, 36, 1, 2, 7] (by kernel_rfl : sel _ _ = some [(9, .p 2 0), (8, .p 1 0), (37, .v (.agg #[.bool nr, .slice rd r.length rc])), (36, .v (.agg #[.bool nq, .slice qd q.length qc])), (1, .v (.int .i64 ((n : Nat) : Int))), (2, .p 0 0), (7, .v (.bool f))])
                refine endL (i := 11) (f' := 0) (by kernel_rfl) (by rfl) (by kernel_rfl) ?_
                refine effH tab (k := 3) (hh := .no) (r := ⟨.v (undef), [⟨2, 29, [.v (.bool nr), .v (.slice rd r.length rc)]⟩, ⟨1, 29, [.v (.bool nq), .v (.slice qd q.length qc)]⟩, ⟨0, 29, [.v (.bool na), .v (.slice ad xs.length cap)]⟩], [], 3, _, true⟩) hR hI (by kernel_rfl) rfl rfl rfl (by kernel_rfl) .nil (fun e26 a26 w26 hag hR2 hI => ?_)
                replace hR := hR2; clear hR2
                replace hI := hI.sel [9, 8, 37, 36, 1, 2, 7] (by kernel_rfl : sel _ _ = some [(9, .p 2 0), (8, .p 1 0), (37, .v (.agg #[.bool nr, .slice rd r.length rc])), (36, .v (.agg #[.bool nq, .slice qd q.length qc])), (1, .v (.int .i64 ((n : Nat) : Int))), (2, .p 0 0), (7, .v (.bool f))])
                refine doneL (by kernel_rfl) ?_
                replace hI := hI.sel [9, 1, 2, 7] (by kernel_rfl : sel _ _ = some [(9, .p 2 0), (1, .v (.int .i64 ((n : Nat) : Int))), (2, .p 0 0), (7, .v (.bool f))]); replace hR := hR.sel [2, 0] [] (by kernel_rfl : selH _ _ = some [⟨2, 29, [.v (.bool nr), .v (.slice rd r.length rc)]⟩, ⟨0, 29, [.v (.bool na), .v (.slice ad xs.length cap)]⟩]) (by kernel_rfl : selG _ _ = some [])
                refine then_n ?_
                replace hR := hR.sel [0, 2] [] (by kernel_rfl : selH _ _ = some [⟨0, 29, [.v (.bool na), .v (.slice ad xs.length cap)]⟩, ⟨2, 29, [.v (.bool nr), .v (.slice rd r.length rc)]⟩]) (by kernel_rfl : selG _ _ = some [])
                replace hI := hI.sel [9, 1, 2, 7] (by kernel_rfl : sel _ _ = some [(9, .p 2 0), (1, .v (.int .i64 ((n : Nat) : Int))), (2, .p 0 0), (7, .v (.bool f))])
                have hren_ : Sy.ren [(1, 2)] ⟨[(9, .p 1 0), (1, .v (.int .i64 ((n : Nat) : Int))), (2, .p 0 0), (7, .v (.bool f))], [⟨0, 29, [.v (.bool na), .v (.slice ad xs.length cap)]⟩, ⟨1, 29, [.v (.bool nr), .v (.slice rd r.length rc)]⟩], [], 0⟩ = ⟨[(9, .p 2 0), (1, .v (.int .i64 ((n : Nat) : Int))), (2, .p 0 0), (7, .v (.bool f))], [⟨0, 29, [.v (.bool na), .v (.slice ad xs.length cap)]⟩, ⟨2, 29, [.v (.bool nr), .v (.slice rd r.length rc)]⟩], [], 0⟩ := by kernel_rfl
                replace hI := hI.rename (S := ⟨[(9, .p 2 0), (1, .v (.int .i64 ((n : Nat) : Int))), (2, .p 0 0), (7, .v (.bool f))], [⟨0, 29, [.v (.bool na), .v (.slice ad xs.length cap)]⟩, ⟨2, 29, [.v (.bool nr), .v (.slice rd r.length rc)]⟩], [], 0⟩) (S' := ⟨[(9, .p 1 0), (1, .v (.int .i64 ((n : Nat) : Int))), (2, .p 0 0), (7, .v (.bool f))], [⟨0, 29, [.v (.bool na), .v (.slice ad xs.length cap)]⟩, ⟨1, 29, [.v (.bool nr), .v (.slice rd r.length rc)]⟩], [], 0⟩) hren_; replace hR := hR.rename (S := ⟨[(9, .p 2 0), (1, .v (.int .i64 ((n : Nat) : Int))), (2, .p 0 0), (7, .v (.bool f))], [⟨0, 29, [.v (.bool na), .v (.slice ad xs.length cap)]⟩, ⟨2, 29, [.v (.bool nr), .v (.slice rd r.length rc)]⟩], [], 0⟩) (S' := ⟨[(9, .p 1 0), (1, .v (.int .i64 ((n : Nat) : Int))), (2, .p 0 0), (7, .v (.bool f))], [⟨0, 29, [.v (.bool na), .v (.slice ad xs.length cap)]⟩, ⟨1, 29, [.v (.bool nr), .v (.slice rd r.length rc)]⟩], [], 0⟩) hren_ (by kernel_rfl) (by kernel_rfl); dsimp only at hI hR; clear hren_
                exact ⟨(nr, rd, rc, r), _, _, _, _, hB, hr, hR.sel [0, 1] [] (by kernel_rfl) (by kernel_rfl), hI.sel [1, 2, 7, 9] (by kernel_rfl)⟩
              · skip
                refine effH tab (k := 1) (hh := .no) (r := ⟨.p 1 0, [⟨1, 29, [.v (.bool false), .v (.slice none 0 0)]⟩, ⟨0, 29, [.v (.bool na), .v (.slice ad xs.length cap)]⟩], [], 2, _, false⟩) hR hI (by kernel_rfl) rfl rfl rfl (by kernel_rfl) .nil (fun e27 a27 w27 hag hR2 hI => ?_)
                replace hS := Rel.old (k := 1) hS hR hR2 hF hag [0] [] (by kernel_rfl) (by kernel_rfl) (by kernel_rfl); replace hR := hR2
                refine ⟨hS, ?_⟩
                refine wpL_env hag (by kernel_rfl) ?_
                replace hS := hS.agree (k := 1) (L := []) (Wf.of (by kernel_rfl)) hag
                replace hI := hI.sel [9, 37, 36, 1, 2, 7] (by kernel_rfl : sel _ _ = some [(9, .p 1 0), (37, .v (.agg #[.bool nr, .slice rd r.length rc])), (36, .v (.agg #[.bool nq, .slice qd q.length qc])), (1, .v (.int .i64 ((n : Nat) : Int))), (2, .p 0 0), (7, .v (.bool f))])
                refine oneL (i := 8) (f' := 2) (by kernel_rfl) (by rfl) ?_
                refine effH tab (k := 2) (hh := .no) (r := ⟨.p 2 0, [⟨2, 29, [.v (.bool false), .v (.slice none 0 0)]⟩, ⟨1, 29, [.v (.bool false), .v (.slice none 0 0)]⟩, ⟨0, 29, [.v (.bool na), .v (.slice ad xs.length cap)]⟩], [], 3, _, false⟩) hR hI (by kernel_rfl) rfl rfl rfl (by kernel_rfl) .nil (fun e28 a28 w28 hag hR2 hI => ?_)
                replace hS := Rel.old (k := 2) hS hR hR2 hF hag [0] [] (by kernel_rfl) (by kernel_rfl) (by kernel_rfl); replace hR := hR2
                refine ⟨hS, ?_⟩
                refine wpL_env hag (by kernel_rfl) ?_
                replace hS := hS.agree (k := 2) (L := []) (Wf.of (by kernel_rfl)) hag
                replace hI := hI.sel [8, 9, 37, 36, 1, 2, 7] (by kernel_rfl : sel _ _ = some [(8, .p 2 0), (9, .p 1 0), (37, .v (.agg #[.bool nr, .slice rd r.length rc])), (36, .v (.agg #[.bool nq, .slice qd q.length qc])), (1, .v (.int .i64 ((n : Nat) : Int))), (2, .p 0 0), (7, .v (.bool f))])
                refine oneL (i := 10) (f' := 1) (by kernel_rfl) (by rfl) ?_
                refine effH tab (k := 3) (hh := .no) (r := ⟨.v (undef), [⟨2, 29, [.v (.bool nq), .v (.slice qd q.length qc)]⟩, ⟨1, 29, [.v (.bool false), .v (.slice none 0 0)]⟩, ⟨0, 29, [.v (.bool na), .v (.slice ad xs.length cap)]⟩], [], 3, _, true⟩) hR hI (by kernel_rfl) rfl rfl rfl (by kernel_rfl) .nil (fun e29 a29 w29 hag hR2 hI => ?_)
                replace hS := Rel.old (k := 3) hS hR hR2 hF hag [0] [] (by kernel_rfl) (by kernel_rfl) (by kernel_rfl); replace hR := hR2
                refine ⟨hS, ?_⟩
                refine wpL_env hag (by kernel_rfl) ?_
                replace hS := hS.agree (k := 3) (L := []) (Wf.of (by kernel_rfl)) hag
                replace hI := hI.sel [8, 9, 37, 36, 1, 2, 7] (by kernel_rfl : sel _ _ = some [(8, .p 2 0), (9, .p 1 0), (37, .v (.agg #[.bool nr, .slice rd r.length rc])), (36, .v (.agg #[.bool nq, .slice qd q.length qc])), (1, .v (.int .i64 ((n : Nat) : Int))), (2, .p 0 0), (7, .v (.bool f))])
                refine endL (i := 11) (f' := 0) (by kernel_rfl) (by rfl) (by kernel_rfl) ?_
                refine effH tab (k := 3) (hh := .no) (r := ⟨.v (undef), [⟨1, 29, [.v (.bool nr), .v (.slice rd r.length rc)]⟩, ⟨2, 29, [.v (.bool nq), .v (.slice qd q.length qc)]⟩, ⟨0, 29, [.v (.bool na), .v (.slice ad xs.length cap)]⟩], [], 3, _, true⟩) hR hI (by kernel_rfl) rfl rfl rfl (by kernel_rfl) .nil (fun e30 a30 w30 hag hR2 hI => ?_)
                replace hR := hR2; clear hR2
                replace hI := hI.sel [8, 9, 37, 36, 1, 2, 7] (by kernel_rfl : sel _ _ = some [(8, .p 2 0), (9, .p 1 0), (37, .v (.agg #[.bool nr, .slice rd r.length rc])), (36, .v (.agg #[.bool nq, .slice qd q.length qc])), (1, .v (.int .i64 ((n : Nat) : Int))), (2, .p 0 0), (7, .v (.bool f))])
                refine doneL (by kernel_rfl) ?_
                replace hI := hI.sel [9, 1, 2, 7] (by kernel_rfl : sel _ _ = some [(9, .p 1 0), (1, .v (.int .i64 ((n : Nat) : Int))), (2, .p 0 0), (7, .v (.bool f))]); replace hR := hR.sel [1, 0] [] (by kernel_rfl : selH _ _ = some [⟨1, 29, [.v (.bool nr), .v (.slice rd r.length rc)]⟩, ⟨0, 29, [.v (.bool na), .v (.slice ad xs.length cap)]⟩]) (by kernel_rfl : selG _ _ = some [])
                refine then_n ?_
                replace hR := hR.sel [0, 1] [] (by kernel_rfl : selH _ _ = some [⟨0, 29, [.v (.bool na), .v (.slice ad xs.length cap)]⟩, ⟨1, 29, [.v (.bool nr), .v (.slice rd r.length rc)]⟩]) (by kernel_rfl : selG _ _ = some [])
                replace hI := hI.sel [9, 1, 2, 7] (by kernel_rfl : sel _ _ = some [(9, .p 1 0), (1, .v (.int .i64 ((n : Nat) : Int))), (2, .p 0 0), (7, .v (.bool f))])
                have hren_ : Sy.ren [(1, 1)] ⟨[(9, .p 1 0), (1, .v (.int .i64 ((n : Nat) : Int))), (2, .p 0 0), (7, .v (.bool f))], [⟨0, 29, [.v (.bool na), .v (.slice ad xs.length cap)]⟩, ⟨1, 29, [.v (.bool nr), .v (.slice rd r.length rc)]⟩], [], 0⟩ = ⟨[(9, .p 1 0), (1, .v (.int .i64 ((n : Nat) : Int))), (2, .p 0 0), (7, .v (.bool f))], [⟨0, 29, [.v (.bool na), .v (.slice ad xs.length cap)]⟩, ⟨1, 29, [.v (.bool nr), .v (.slice rd r.length rc)]⟩], [], 0⟩ := by kernel_rfl
                replace hI := hI.rename (S := ⟨[(9, .p 1 0), (1, .v (.int .i64 ((n : Nat) : Int))), (2, .p 0 0), (7, .v (.bool f))], [⟨0, 29, [.v (.bool na), .v (.slice ad xs.length cap)]⟩, ⟨1, 29, [.v (.bool nr), .v (.slice rd r.length rc)]⟩], [], 0⟩) (S' := ⟨[(9, .p 1 0), (1, .v (.int .i64 ((n : Nat) : Int))), (2, .p 0 0), (7, .v (.bool f))], [⟨0, 29, [.v (.bool na), .v (.slice ad xs.length cap)]⟩, ⟨1, 29, [.v (.bool nr), .v (.slice rd r.length rc)]⟩], [], 0⟩) hren_; replace hR := hR.rename (S := ⟨[(9, .p 1 0), (1, .v (.int .i64 ((n : Nat) : Int))), (2, .p 0 0), (7, .v (.bool f))], [⟨0, 29, [.v (.bool na), .v (.slice ad xs.length cap)]⟩, ⟨1, 29, [.v (.bool nr), .v (.slice rd r.length rc)]⟩], [], 0⟩) (S' := ⟨[(9, .p 1 0), (1, .v (.int .i64 ((n : Nat) : Int))), (2, .p 0 0), (7, .v (.bool f))], [⟨0, 29, [.v (.bool na), .v (.slice ad xs.length cap)]⟩, ⟨1, 29, [.v (.bool nr), .v (.slice rd r.length rc)]⟩], [], 0⟩) hren_ (by kernel_rfl) (by kernel_rfl); dsimp only at hI hR; clear hren_
                exact ⟨(nr, rd, rc, r), _, _, _, _, hB, hr, hR.sel [0, 1] [] (by kernel_rfl) (by kernel_rfl), hI.sel [1, 2, 7, 9] (by kernel_rfl)⟩
            · skip
              refine effH tab (k := 1) (hh := .no) (r := ⟨.p 1 0, [⟨1, 29, [.v (.bool false), .v (.slice none 0 0)]⟩, ⟨0, 29, [.v (.bool na), .v (.slice ad xs.length cap)]⟩], [], 2, _, false⟩) hR hI (by kernel_rfl) rfl rfl rfl (by kernel_rfl) .nil (fun e31 a31 w31 hag hR2 hI => ?_)
              replace hS := Rel.old (k := 1) hS hR hR2 hF hag [0] [] (by kernel_rfl) (by kernel_rfl) (by kernel_rfl); replace hR := hR2
              refine ⟨hS, ?_⟩
              refine wpL_env hag (by kernel_rfl) ?_
              replace hS := hS.agree (k := 1) (L := []) (Wf.of (by kernel_rfl)) hag
              replace hI := hI.sel [8, 34, 33, 31, 1, 2, 7] (by kernel_rfl : sel _ _ = some [(8, .p 1 0), (34, .v (.agg #[.bool np, .slice pd p.length pc])), (33, .v (.int .i64 ((64 * n : Nat) : Int))), (31, .agg [.v (.bool na), .v (.slice ad xs.length cap)]), (1, .v (.int .i64 ((n : Nat) : Int))), (2, .p 0 0), (7, .v (.bool f))])
              refine twoL (i := 4) (j := 9) (f' := 6) (by kernel_rfl) (by rfl) ?_ ?_
              · skip
                refine callH (ys := [.agg [.v (.bool na), .v (.slice ad xs.length cap)], .v (.agg #[.bool np, .slice pd p.length pc])]) hI rfl rfl ⟨_, rfl, rfl, rfl⟩ (by kernel_rfl) Try.func40 rfl rfl ?_
                refine (wideDiv_spec (ha.now hB hR) (hp.now hB hR) (two_pos hp) (by omega)).mono ?_
                rintro ex w32 ⟨nq, qd, qc, q, nr, rd, rc, r, rfl, hk, hq, hr⟩
                replace hF := hF.grow hR hk; replace hS := hS.same hk
                replace ha := ha.next hB hR hk
                replace hp := hp.next hB hR hk
                have hB_ := hB.next hR hk
                replace hR := hR.after hk
                replace hB := hB_; clear hB_ hk
                refine ⟨_, rfl, hS, ?_⟩
                replace hI := hI.put (d := some 35) (x := .v (.tuple #[.agg #[.bool nq, .slice qd q.length qc], .agg #[.bool nr, .slice rd r.length rc]])) (by intro t ht; cases ht; decide) rfl
                replace hI := hI.sel [35, 8, 34, 33, 31, 1, 2, 7] (by kernel_rfl : sel _ _ = some [(35, .v (.tuple #[.agg #[.bool nq, .slice qd q.length qc], .agg #[.bool nr, .slice rd r.length rc]])), (8, .p 1 0), (34, .v (.agg #[.bool np, .slice pd p.length pc])), (33, .v (.int .i64 ((64 * n : Nat) : Int))), (31, .agg [.v (.bool na), .v (.slice ad xs.length cap)]), (1, .v (.int .i64 ((n : Nat) : Int))), (2, .p 0 0), (7, .v (.bool f))])
                refine takeL tab (H := [⟨0, 29, [.v (.bool na), .v (.slice ad xs.length cap)]⟩]) (G := []) (hs := []) (gs := []) (is := [5, 6, 7]) (ks := [37, 36, 8, 1, 2, 7]) (f' := 3)
                    (L' := [(37, .v (.agg #[.bool nr, .slice rd r.length rc])), (36, .v (.agg #[.bool nq, .slice qd q.length qc])), (8, .p 1 0), (1, .v (.int .i64 ((n : Nat) : Int))), (2, .p 0 0), (7, .v (.bool f))]) hS hI (by kernel_rfl) (fun _ _ _ _ _ h => h) (by kernel_rfl)
                    .nil (by kernel_rfl) (by kernel_rfl) (by kernel_rfl) (by rfl) (fun a33 hI => ?_)
                refine oneL (i := 9) (f' := 2) (by kernel_rfl) (by rfl) ?_
                refine effH tab (k := 2) (hh := .no) (r := ⟨.p 2 0, [⟨2, 29, [.v (.bool false), .v (.slice none 0 0)]⟩, ⟨1, 29, [.v (.bool false), .v (.slice none 0 0)]⟩, ⟨0, 29, [.v (.bool na), .v (.slice ad xs.length cap)]⟩], [], 3, _, false⟩) hR hI (by kernel_rfl) rfl rfl rfl (by kernel_rfl) .nil (fun e34 a34 w34 hag hR2 hI => ?_)
                replace hS := Rel.old (k := 2) hS hR hR2 hF hag [0] [] (by kernel_rfl) (by kernel_rfl) (by kernel_rfl); replace hR := hR2
                refine ⟨hS, ?_⟩
                refine wpL_env hag (by kernel_rfl) ?_
                replace hS := hS.agree (k := 2) (L := []) (Wf.of (by kernel_rfl)) hag
                replace hI := hI.sel [9, 37, 36, 8, 1, 2, 7] (by kernel_rfl : sel _ _ = some [(9, .p 2 0), (37, .v (.agg #[.bool nr, .slice rd r.length rc])), (36, .v (.agg #[.bool nq, .slice qd q.length qc])), (8, .p 1 0), (1, .v (.int .i64 ((n : Nat) : Int))), (2, .p 0 0), (7, .v (.bool f))])
                refine oneL (i := 10) (f' := 1) (by kernel_rfl) (by rfl) ?_
                refine effH tab (k := 3) (hh := .no) (r := ⟨.v (undef), [⟨1, 29, [.v (.bool nq), .v (.slice qd q.length qc)]⟩, ⟨2, 29, [.v (.bool false), .v (.slice none 0 0)]⟩, ⟨0, 29, [.v (.bool na), .v (.slice ad xs.length cap)]⟩], [], 3, _, true⟩) hR hI (by kernel_rfl) rfl rfl rfl (by kernel_rfl) .nil (fun e35 a35 w35 hag hR2 hI => ?_)
                replace hS := Rel.old (k := 3) hS hR hR2 hF hag [0] [] (by kernel_rfl) (by kernel_rfl) (by kernel_rfl); replace hR := hR2
                refine ⟨hS, ?_⟩
                refine wpL_env hag (by kernel_rfl) ?_
                replace hS := hS.agree (k := 3) (L := []) (Wf.of (by kernel_rfl)) hag
                replace hI := hI.sel [9, 37, 36, 8, 1, 2, 7] (by kernel_rfl : sel _ _ = some [(9, .p 2 0), (37, .v (.agg #[.bool nr, .slice rd r.length rc])), (36, .v (.agg #[.bool nq, .slice qd q.length qc])), (8, .p 1 0), (1, .v (.int .i64 ((n : Nat) : Int))), (2, .p 0 0), (7, .v (.bool f))])
                refine endL (i := 11) (f' := 0) (by kernel_rfl) (by rfl) (by kernel_rfl) ?_
                refine effH tab (k := 3) (hh := .no) (r := ⟨.v (undef), [⟨2, 29, [.v (.bool nr), .v (.slice rd r.length rc)]⟩, ⟨1, 29, [.v (.bool nq), .v (.slice qd q.length qc)]⟩, ⟨0, 29, [.v (.bool na), .v (.slice ad xs.length cap)]⟩], [], 3, _, true⟩) hR hI (by kernel_rfl) rfl rfl rfl (by kernel_rfl) .nil (fun e36 a36 w36 hag hR2 hI => ?_)
                replace hR := hR2; clear hR2
                replace hI := hI.sel [9, 37, 36, 8, 1, 2, 7] (by kernel_rfl : sel _ _ = some [(9, .p 2 0), (37, .v (.agg #[.bool nr, .slice rd r.length rc])), (36, .v (.agg #[.bool nq, .slice qd q.length qc])), (8, .p 1 0), (1, .v (.int .i64 ((n : Nat) : Int))), (2, .p 0 0), (7, .v (.bool f))])
                refine doneL (by kernel_rfl) ?_
                replace hI := hI.sel [9, 1, 2, 7] (by kernel_rfl : sel _ _ = some [(9, .p 2 0), (1, .v (.int .i64 ((n : Nat) : Int))), (2, .p 0 0), (7, .v (.bool f))]); replace hR := hR.sel [2, 0] [] (by kernel_rfl : selH _ _ = some [⟨2, 29, [.v (.bool nr), .v (.slice rd r.length rc)]⟩, ⟨0, 29, [.v (.bool na), .v (.slice ad xs.length cap)]⟩]) (by kernel_rfl : selG _ _ = some [])
                refine then_n ?_
                replace hR := hR.sel [0, 2] [] (by kernel_rfl : selH _ _ = some [⟨0, 29, [.v (.bool na), .v (.slice ad xs.length cap)]⟩, ⟨2, 29, [.v (.bool nr), .v (.slice rd r.length rc)]⟩]) (by kernel_rfl : selG _ _ = some [])
                replace hI := hI.sel [9, 1, 2, 7] (by kernel_rfl : sel _ _ = some [(9, .p 2 0), (1, .v (.int .i64 ((n : Nat) : Int))), (2, .p 0 0), (7, .v (.bool f))])
                have hren_ : Sy.ren [(1, 2)] ⟨[(9, .p 1 0), (1, .v (.int .i64 ((n : Nat) : Int))), (2, .p 0 0), (7, .v (.bool f))], [⟨0, 29, [.v (.bool na), .v (.slice ad xs.length cap)]⟩, ⟨1, 29, [.v (.bool nr), .v (.slice rd r.length rc)]⟩], [], 0⟩ = ⟨[(9, .p 2 0), (1, .v (.int .i64 ((n : Nat) : Int))), (2, .p 0 0), (7, .v (.bool f))], [⟨0, 29, [.v (.bool na), .v (.slice ad xs.length cap)]⟩, ⟨2, 29, [.v (.bool nr), .v (.slice rd r.length rc)]⟩], [], 0⟩ := by kernel_rfl
                replace hI := hI.rename (S := ⟨[(9, .p 2 0), (1, .v (.int .i64 ((n : Nat) : Int))), (2, .p 0 0), (7, .v (.bool f))], [⟨0, 29, [.v (.bool na), .v (.slice ad xs.length cap)]⟩, ⟨2, 29, [.v (.bool nr), .v (.slice rd r.length rc)]⟩], [], 0⟩) (S' := ⟨[(9, .p 1 0), (1, .v (.int .i64 ((n : Nat) : Int))), (2, .p 0 0), (7, .v (.bool f))], [⟨0, 29, [.v (.bool na), .v (.slice ad xs.length cap)]⟩, ⟨1, 29, [.v (.bool nr), .v (.slice rd r.length rc)]⟩], [], 0⟩) hren_; replace hR := hR.rename (S := ⟨[(9, .p 2 0), (1, .v (.int .i64 ((n : Nat) : Int))), (2, .p 0 0), (7, .v (.bool f))], [⟨0, 29, [.v (.bool na), .v (.slice ad xs.length cap)]⟩, ⟨2, 29, [.v (.bool nr), .v (.slice rd r.length rc)]⟩], [], 0⟩) (S' := ⟨[(9, .p 1 0), (1, .v (.int .i64 ((n : Nat) : Int))), (2, .p 0 0), (7, .v (.bool f))], [⟨0, 29, [.v (.bool na), .v (.slice ad xs.length cap)]⟩, ⟨1, 29, [.v (.bool nr), .v (.slice rd r.length rc)]⟩], [], 0⟩) hren_ (by kernel_rfl) (by kernel_rfl); dsimp only at hI hR; clear hren_
                exact ⟨(nr, rd, rc, r), _, _, _, _, hB, hr, hR.sel [0, 1] [] (by kernel_rfl) (by kernel_rfl), hI.sel [1, 2, 7, 9] (by kernel_rfl)⟩
              · skip
                refine effH tab (k := 2) (hh := .no) (r := ⟨.p 2 0, [⟨2, 29, [.v (.bool false), .v (.slice none 0 0)]⟩, ⟨1, 29, [.v (.bool false), .v (.slice none 0 0)]⟩, ⟨0, 29, [.v (.bool na), .v (.slice ad xs.length cap)]⟩], [], 3, _, false⟩) hR hI (by kernel_rfl) rfl rfl rfl (by kernel_rfl) .nil (fun e37 a37 w37 hag hR2 hI => ?_)
                replace hS := Rel.old (k := 2) hS hR hR2 hF hag [0] [] (by kernel_rfl) (by kernel_rfl) (by kernel_rfl); replace hR := hR2
                refine ⟨hS, ?_⟩
                refine wpL_env hag (by kernel_rfl) ?_
                replace hS := hS.agree (k := 2) (L := []) (Wf.of (by kernel_rfl)) hag
                replace hI := hI.sel [9, 8, 34, 33, 31, 1, 2, 7] (by kernel_rfl : sel _ _ = some [(9, .p 2 0), (8, .p 1 0), (34, .v (.agg #[.bool np, .slice pd p.length pc])), (33, .v (.int .i64 ((64 * n : Nat) : Int))), (31, .agg [.v (.bool na), .v (.slice ad xs.length cap)]), (1, .v (.int .i64 ((n : Nat) : Int))), (2, .p 0 0), (7, .v (.bool f))])
                refine oneL (i := 4) (f' := 5) (by kernel_rfl) (by rfl) ?_
                refine callH (ys := [.agg [.v (.bool na), .v (.slice ad xs.length cap)], .v (.agg #[.bool np, .slice pd p.length pc])]) hI rfl rfl ⟨_, rfl, rfl, rfl⟩ (by kernel_rfl) Try.func40 rfl rfl ?_
                refine (wideDiv_spec (ha.now hB hR) (hp.now hB hR) (two_pos hp) (by omega)).mono ?_
                rintro ex w38 ⟨nq, qd, qc, q, nr, rd, rc, r, rfl, hk, hq, hr⟩
                replace hF := hF.grow hR hk; replace hS := hS.same hk
                replace ha := ha.next hB hR hk
                replace hp := hp.next hB hR hk
                have hB_ := hB.next hR hk
                replace hR := hR.after hk
                replace hB := hB_; clear hB_ hk
                refine ⟨_, rfl, hS, ?_⟩
                replace hI := hI.put (d := some 35) (x := .v (.tuple #[.agg #[.bool nq, .slice qd q.length qc], .agg #[.bool nr, .slice rd r.length rc]])) (by intro t ht; cases ht; decide) rfl
                replace hI := hI.sel [35, 9, 8, 34, 33, 31, 1, 2, 7] (by kernel_rfl : sel _ _ = some [(35, .v (.tuple #[.agg #[.bool nq, .slice qd q.length qc], .agg #[.bool nr, .slice rd r.length rc]])), (9, .p 2 0), (8, .p 1 0), (34, .v (.agg #[.bool np, .slice pd p.length pc])), (33, .v (.int .i64 ((64 * n : Nat) : Int))), (31, .agg [.v (.bool na), .v (.slice ad xs.length cap)]), (1, .v (.int .i64 ((n : Nat) : Int))), (2, .p 0 0), (7, .v (.bool f))])
                refine takeL tab (H := [⟨0, 29, [.v (.bool na), .v (.slice ad xs.length cap)]⟩]) (G := []) (hs := []) (gs := []) (is := [5, 6, 7]) (ks := [37, 36, 9, 8, 1, 2, 7]) (f' := 2)
                    (L' := [(37, .v (.agg #[.bool nr, .slice rd r.length rc])), (36, .v (.agg #[.bool nq, .slice qd q.length qc])), (9, .p 2 0), (8, .p 1 0), (1, .v (.int .i64 ((n : Nat) : Int))), (2, .p 0 0), (7, .v (.bool f))]) hS hI (by kernel_rfl) (fun _ _ _ _ _ h => h) (by kernel_rfl)
                    .nil (by kernel_rfl) (by kernel_rfl) (by kernel_rfl) (by rfl) (fun a39 hI => ?_)
                refine oneL (i := 10) (f' := 1) (by kernel_rfl) (by rfl) ?_
                refine effH tab (k := 3) (hh := .no) (r := ⟨.v (undef), [⟨1, 29, [.v (.bool nq), .v (.slice qd q.length qc)]⟩, ⟨2, 29, [.v (.bool false), .v (.slice none 0 0)]⟩, ⟨0, 29, [.v (.bool na), .v (.slice ad xs.length cap)]⟩], [], 3, _, true⟩) hR hI (by kernel_rfl) rfl rfl rfl (by kernel_rfl) .nil (fun e40 a40 w40 hag hR2 hI => ?_)
                replace hS := Rel.old (k := 3) hS hR hR2 hF hag [0] [] (by kernel_rfl) (by kernel_rfl) (by kernel_rfl); replace hR := hR2
                refine ⟨hS, ?_⟩
                refine wpL_env hag (by kernel_rfl) ?_
                replace hS := hS.agree (k := 3) (L := []) (Wf.of (by kernel_rfl)) hag
                replace hI := hI.sel [37, 36, 9, 8, 1, 2, 7] (by kernel_rfl : sel _ _ = some [(37, .v (.agg #[.bool nr, .slice rd r.length rc])), (36, .v (.agg #[.bool nq, .slice qd q.length qc])), (9, .p 2 0), (8, .p 1 0), (1, .v (.int .i64 ((n : Nat) : Int))), (2, .p 0 0), (7, .v (.bool f))])
                refine endL (i := 11) (f' := 0) (by kernel_rfl) (by rfl) (by kernel_rfl) ?_
                refine effH tab (k := 3) (hh := .no) (r := ⟨.v (undef), [⟨2, 29, [.v (.bool nr), .v (.slice rd r.length rc)]⟩, ⟨1, 29, [.v (.bool nq), .v (.slice qd q.length qc)]⟩, ⟨0, 29, [.v (.bool na), .v (.slice ad xs.length cap)]⟩], [], 3, _, true⟩) hR hI (by kernel_rfl) rfl rfl rfl (by kernel_rfl) .nil (fun e41 a41 w41 hag hR2 hI => ?_)
                replace hR := hR2; clear hR2
                replace hI := hI.sel [37, 36, 9, 8, 1, 2, 7] (by kernel_rfl : sel _ _ = some [(37, .v (.agg #[.bool nr, .slice rd r.length rc])), (36, .v (.agg #[.bool nq, .slice qd q.length qc])), (9, .p 2 0), (8, .p 1 0), (1, .v (.int .i64 ((n : Nat) : Int))), (2, .p 0 0), (7, .v (.bool f))])
                refine doneL (by kernel_rfl) ?_
                replace hI := hI.sel [9, 1, 2, 7] (by kernel_rfl : sel _ _ = some [(9, .p 2 0), (1, .v (.int .i64 ((n : Nat) : Int))), (2, .p 0 0), (7, .v (.bool f))]); replace hR := hR.sel [2, 0] [] (by kernel_rfl : selH _ _ = some [⟨2, 29, [.v (.bool nr), .v (.slice rd r.length rc)]⟩, ⟨0, 29, [.v (.bool na), .v (.slice ad xs.length cap)]⟩]) (by kernel_rfl : selG _ _ = some [])
                refine then_n ?_
                replace hR := hR.sel [0, 2] [] (by kernel_rfl : selH _ _ = some [⟨0, 29, [.v (.bool na), .v (.slice ad xs.length cap)]⟩, ⟨2, 29, [.v (.bool nr), .v (.slice rd r.length rc)]⟩]) (by kernel_rfl : selG _ _ = some [])
                replace hI := hI.sel [9, 1, 2, 7] (by kernel_rfl : sel _ _ = some [(9, .p 2 0), (1, .v (.int .i64 ((n : Nat) : Int))), (2, .p 0 0), (7, .v (.bool f))])
                have hren_ : Sy.ren [(1, 2)] ⟨[(9, .p 1 0), (1, .v (.int .i64 ((n : Nat) : Int))), (2, .p 0 0), (7, .v (.bool f))], [⟨0, 29, [.v (.bool na), .v (.slice ad xs.length cap)]⟩, ⟨1, 29, [.v (.bool nr), .v (.slice rd r.length rc)]⟩], [], 0⟩ = ⟨[(9, .p 2 0), (1, .v (.int .i64 ((n : Nat) : Int))), (2, .p 0 0), (7, .v (.bool f))], [⟨0, 29, [.v (.bool na), .v (.slice ad xs.length cap)]⟩, ⟨2, 29, [.v (.bool nr), .v (.slice rd r.length rc)]⟩], [], 0⟩ := by kernel_rfl
                replace hI := hI.rename (S := ⟨[(9, .p 2 0), (1, .v (.int .i64 ((n : Nat) : Int))), (2, .p 0 0), (7, .v (.bool f))], [⟨0, 29, [.v (.bool na), .v (.slice ad xs.length cap)]⟩, ⟨2, 29, [.v (.bool nr), .v (.slice rd r.length rc)]⟩], [], 0⟩) (S' := ⟨[(9, .p 1 0), (1, .v (.int .i64 ((n : Nat) : Int))), (2, .p 0 0), (7, .v (.bool f))], [⟨0, 29, [.v (.bool na), .v (.slice ad xs.length cap)]⟩, ⟨1, 29, [.v (.bool nr), .v (.slice rd r.length rc)]⟩], [], 0⟩) hren_; replace hR := hR.rename (S := ⟨[(9, .p 2 0), (1, .v (.int .i64 ((n : Nat) : Int))), (2, .p 0 0), (7, .v (.bool f))], [⟨0, 29, [.v (.bool na), .v (.slice ad xs.length cap)]⟩, ⟨2, 29, [.v (.bool nr), .v (.slice rd r.length rc)]⟩], [], 0⟩) (S' := ⟨[(9, .p 1 0), (1, .v (.int .i64 ((n : Nat) : Int))), (2, .p 0 0), (7, .v (.bool f))], [⟨0, 29, [.v (.bool na), .v (.slice ad xs.length cap)]⟩, ⟨1, 29, [.v (.bool nr), .v (.slice rd r.length rc)]⟩], [], 0⟩) hren_ (by kernel_rfl) (by kernel_rfl); dsimp only at hI hR; clear hren_
                exact ⟨(nr, rd, rc, r), _, _, _, _, hB, hr, hR.sel [0, 1] [] (by kernel_rfl) (by kernel_rfl), hI.sel [1, 2, 7, 9] (by kernel_rfl)⟩
            · skip
              refine effH tab (k := 1) (hh := .no) (r := ⟨.p 1 0, [⟨1, 29, [.v (.bool false), .v (.slice none 0 0)]⟩, ⟨0, 29, [.v (.bool na), .v (.slice ad xs.length cap)]⟩], [], 2, _, false⟩) hR hI (by kernel_rfl) rfl rfl rfl (by kernel_rfl) .nil (fun e42 a42 w42 hag hR2 hI => ?_)
              replace hS := Rel.old (k := 1) hS hR hR2 hF hag [0] [] (by kernel_rfl) (by kernel_rfl) (by kernel_rfl); replace hR := hR2
              refine ⟨hS, ?_⟩
              refine wpL_env hag (by kernel_rfl) ?_
              replace hS := hS.agree (k := 1) (L := []) (Wf.of (by kernel_rfl)) hag
              replace hI := hI.sel [9, 34, 33, 31, 1, 2, 7] (by kernel_rfl : sel _ _ = some [(9, .p 1 0), (34, .v (.agg #[.bool np, .slice pd p.length pc])), (33, .v (.int .i64 ((64 * n : Nat) : Int))), (31, .agg [.v (.bool na), .v (.slice ad xs.length cap)]), (1, .v (.int .i64 ((n : Nat) : Int))), (2, .p 0 0), (7, .v (.bool f))])
              refine twoL (i := 4) (j := 8) (f' := 6) (by kernel_rfl) (by rfl) ?_ ?_
              · skip
                refine callH (ys := [.agg [.v (.bool na), .v (.slice ad xs.length cap)], .v (.agg #[.bool np, .slice pd p.length pc])]) hI rfl rfl ⟨_, rfl, rfl, rfl⟩ (by kernel_rfl) Try.func40 rfl rfl ?_
                refine (wideDiv_spec (ha.now hB hR) (hp.now hB hR) (two_pos hp) (by omega)).mono ?_
                rintro ex w43 ⟨nq, qd, qc, q, nr, rd, rc, r, rfl, hk, hq, hr⟩
                replace hF := hF.grow hR hk; replace hS := hS.same hk
                replace ha := ha.next hB hR hk
                replace hp := hp.next hB hR hk
                have hB_ := hB.next hR hk
                replace hR := hR.after hk
                replace hB := hB_; clear hB_ hk
                refine ⟨_, rfl, hS, ?_⟩
                replace hI := hI.put (d := some 35) (x := .v (.tuple #[.agg #[.bool nq, .slice qd q.length qc], .agg #[.bool nr, .slice rd r.length rc]])) (by intro t ht; cases ht; decide) rfl
                replace hI := hI.sel [35, 9, 34, 33, 31, 1, 2, 7] (by kernel_rfl : sel _ _ = some [(35, .v (.tuple #[.agg #[.bool nq, .slice qd q.length qc], .agg #[.bool nr, .slice rd r.length rc]])), (9, .p 1 0), (34, .v (.agg #[.bool np, .slice pd p.length pc])), (33, .v (.int .i64 ((64 * n : Nat) : Int))), (31, .agg [.v (.bool na), .v (.slice ad xs.length cap)]), (1, .v (.int .i64 ((n : Nat) : Int))), (2, .p 0 0), (7, .v (.bool f))])
                refine takeL tab (H := [⟨0, 29, [.v (.bool na), .v (.slice ad xs.length cap)]⟩]) (G := []) (hs := []) (gs := []) (is := [5, 6, 7]) (ks := [37, 36, 9, 1, 2, 7]) (f' := 3)
                    (L' := [(37, .v (.agg #[.bool nr, .slice rd r.length rc])), (36, .v (.agg #[.bool nq, .slice qd q.length qc])), (9, .p 1 0), (1, .v (.int .i64 ((n : Nat) : Int))), (2, .p 0 0), (7, .v (.bool f))]) hS hI (by kernel_rfl) (fun _ _ _ _ _ h => h) (by kernel_rfl)
                    .nil (by kernel_rfl) (by kernel_rfl) (by kernel_rfl) (by rfl) (fun a44 hI => ?_)
                refine oneL (i := 8) (f' := 2) (by kernel_rfl) (by rfl) ?_
                refine effH tab (k := 2) (hh := .no) (r := ⟨.p 2 0, [⟨2, 29, [.v (.bool false), .v (.slice none 0 0)]⟩, ⟨1, 29, [.v (.bool false), .v (.slice none 0 0)]⟩, ⟨0, 29, [.v (.bool na), .v (.slice ad xs.length cap)]⟩], [], 3, _, false⟩) hR hI (by kernel_rfl) rfl rfl rfl (by kernel_rfl) .nil (fun e45 a45 w45 hag hR2 hI => ?_)
                replace hS := Rel.old (k := 2) hS hR hR2 hF hag [0] [] (by kernel_rfl) (by kernel_rfl) (by kernel_rfl); replace hR := hR2
                refine ⟨hS, ?_⟩
                refine wpL_env hag (by kernel_rfl) ?_
                replace hS := hS.agree (k := 2) (L := []) (Wf.of (by kernel_rfl)) hag
                replace hI := hI.sel [8, 37, 36, 9, 1, 2, 7] (by kernel_rfl : sel _ _ = some [(8, .p 2 0), (37, .v (.agg #[.bool nr, .slice rd r.length rc])), (36, .v (.agg #[.bool nq, .slice qd q.length qc])), (9, .p 1 0), (1, .v (.int .i64 ((n : Nat) : Int))), (2, .p 0 0), (7, .v (.bool f))])
                refine oneL (i := 10) (f' := 1) (by kernel_rfl) (by rfl) ?_
                refine effH tab (k := 3) (hh := .no) (r := ⟨.v (undef), [⟨2, 29, [.v (.bool nq), .v (.slice qd q.length qc)]⟩, ⟨1, 29, [.v (.bool false), .v (.slice none 0 0)]⟩, ⟨0, 29, [.v (.bool na), .v (.slice ad xs.length cap)]⟩], [], 3, _, true⟩) hR hI (by kernel_rfl) rfl rfl rfl (by kernel_rfl) .nil (fun e46 a46 w46 hag hR2 hI => ?_)
                replace hS := Rel.old (k := 3) hS hR hR2 hF hag [0] [] (by kernel_rfl) (by kernel_rfl) (by kernel_rfl); replace hR := hR2
                refine ⟨hS, ?_⟩
                refine wpL_env hag (by kernel_rfl) ?_
                replace hS := hS.agree (k := 3) (L := []) (Wf.of (by kernel_rfl)) hag
                replace hI := hI.sel [8, 37, 36, 9, 1, 2, 7] (by kernel_rfl : sel _ _ = some [(8, .p 2 0), (37, .v (.agg #[.bool nr, .slice rd r.length rc])), (36, .v (.agg #[.bool nq, .slice qd q.length qc])), (9, .p 1 0), (1, .v (.int .i64 ((n : Nat) : Int))), (2, .p 0 0), (7, .v (.bool f))])
                refine endL (i := 11) (f' := 0) (by kernel_rfl) (by rfl) (by kernel_rfl) ?_
                refine effH tab (k := 3) (hh := .no) (r := ⟨.v (undef), [⟨1, 29, [.v (.bool nr), .v (.slice rd r.length rc)]⟩, ⟨2, 29, [.v (.bool nq), .v (.slice qd q.length qc)]⟩, ⟨0, 29, [.v (.bool na), .v (.slice ad xs.length cap)]⟩], [], 3, _, true⟩) hR hI (by kernel_rfl) rfl rfl rfl (by kernel_rfl) .nil (fun e47 a47 w47 hag hR2 hI => ?_)
                replace hR := hR2; clear hR2
                replace hI := hI.sel [8, 37, 36, 9, 1, 2, 7] (by kernel_rfl : sel _ _ = some [(8, .p 2 0), (37, .v (.agg #[.bool nr, .slice rd r.length rc])), (36, .v (.agg #[.bool nq, .slice qd q.length qc])), (9, .p 1 0), (1, .v (.int .i64 ((n : Nat) : Int))), (2, .p 0 0), (7, .v (.bool f))])
                refine doneL (by kernel_rfl) ?_
                replace hI := hI.sel [9, 1, 2, 7] (by kernel_rfl : sel _ _ = some [(9, .p 1 0), (1, .v (.int .i64 ((n : Nat) : Int))), (2, .p 0 0), (7, .v (.bool f))]); replace hR := hR.sel [1, 0] [] (by kernel_rfl : selH _ _ = some [⟨1, 29, [.v (.bool nr), .v (.slice rd r.length rc)]⟩, ⟨0, 29, [.v (.bool na), .v (.slice ad xs.length cap)]⟩]) (by kernel_rfl : selG _ _ = some [])
                refine then_n ?_
                replace hR := hR.sel [0, 1] [] (by kernel_rfl : selH _ _ = some [⟨0, 29, [.v (.bool na), .v (.slice ad xs.length cap)]⟩, ⟨1, 29, [.v (.bool nr), .v (.slice rd r.length rc)]⟩]) (by kernel_rfl : selG _ _ = some [])
                replace hI := hI.sel [9, 1, 2, 7] (by kernel_rfl : sel _ _ = some [(9, .p 1 0), (1, .v (.int .i64 ((n : Nat) : Int))), (2, .p 0 0), (7, .v (.bool f))])
                have hren_ : Sy.ren [(1, 1)] ⟨[(9, .p 1 0), (1, .v (.int .i64 ((n : Nat) : Int))), (2, .p 0 0), (7, .v (.bool f))], [⟨0, 29, [.v (.bool na), .v (.slice ad xs.length cap)]⟩, ⟨1, 29, [.v (.bool nr), .v (.slice rd r.length rc)]⟩], [], 0⟩ = ⟨[(9, .p 1 0), (1, .v (.int .i64 ((n : Nat) : Int))), (2, .p 0 0), (7, .v (.bool f))], [⟨0, 29, [.v (.bool na), .v (.slice ad xs.length cap)]⟩, ⟨1, 29, [.v (.bool nr), .v (.slice rd r.length rc)]⟩], [], 0⟩ := by kernel_rfl
                replace hI := hI.rename (S := ⟨[(9, .p 1 0), (1, .v (.int .i64 ((n : Nat) : Int))), (2, .p 0 0), (7, .v (.bool f))], [⟨0, 29, [.v (.bool na), .v (.slice ad xs.length cap)]⟩, ⟨1, 29, [.v (.bool nr), .v (.slice rd r.length rc)]⟩], [], 0⟩) (S' := ⟨[(9, .p 1 0), (1, .v (.int .i64 ((n : Nat) : Int))), (2, .p 0 0), (7, .v (.bool f))], [⟨0, 29, [.v (.bool na), .v (.slice ad xs.length cap)]⟩, ⟨1, 29, [.v (.bool nr), .v (.slice rd r.length rc)]⟩], [], 0⟩) hren_; replace hR := hR.rename (S := ⟨[(9, .p 1 0), (1, .v (.int .i64 ((n : Nat) : Int))), (2, .p 0 0), (7, .v (.bool f))], [⟨0, 29, [.v (.bool na), .v (.slice ad xs.length cap)]⟩, ⟨1, 29, [.v (.bool nr), .v (.slice rd r.length rc)]⟩], [], 0⟩) (S' := ⟨[(9, .p 1 0), (1, .v (.int .i64 ((n : Nat) : Int))), (2, .p 0 0), (7, .v (.bool f))], [⟨0, 29, [.v (.bool na), .v (.slice ad xs.length cap)]⟩, ⟨1, 29, [.v (.bool nr), .v (.slice rd r.length rc)]⟩], [], 0⟩) hren_ (by kernel_rfl) (by kernel_rfl); dsimp only at hI hR; clear hren_
                exact ⟨(nr, rd, rc, r), _, _, _, _, hB, hr, hR.sel [0, 1] [] (by kernel_rfl) (by kernel_rfl), hI.sel [1, 2, 7, 9] (by kernel_rfl)⟩
              · skip
                refine effH tab (k := 2) (hh := .no) (r := ⟨.p 2 0, [⟨2, 29, [.v (.bool false), .v (.slice none 0 0)]⟩, ⟨1, 29, [.v (.bool false), .v (.slice none 0 0)]⟩, ⟨0, 29, [.v (.bool na), .v (.slice ad xs.length cap)]⟩], [], 3, _, false⟩) hR hI (by kernel_rfl) rfl rfl rfl (by kernel_rfl) .nil (fun e48 a48 w48 hag hR2 hI => ?_)
                replace hS := Rel.old (k := 2) hS hR hR2 hF hag [0] [] (by kernel_rfl) (by kernel_rfl) (by kernel_rfl); replace hR := hR2
                refine ⟨hS, ?_⟩
                refine wpL_env hag (by kernel_rfl) ?_
                replace hS := hS.agree (k := 2) (L := []) (Wf.of (by kernel_rfl)) hag
                replace hI := hI.sel [8, 9, 34, 33, 31, 1, 2, 7] (by kernel_rfl : sel _ _ = some [(8, .p 2 0), (9, .p 1 0), (34, .v (.agg #[.bool np, .slice pd p.length pc])), (33, .v (.int .i64 ((64 * n : Nat) : Int))), (31, .agg [.v (.bool na), .v (.slice ad xs.length cap)]), (1, .v (.int .i64 ((n : Nat) : Int))), (2, .p 0 0), (7, .v (.bool f))])
                refine oneL (i := 4) (f' := 5) (by kernel_rfl) (by rfl) ?_
                refine callH (ys := [.agg [.v (.bool na), .v (.slice ad xs.length cap)], .v (.agg #[.bool np, .slice pd p.length pc])]) hI rfl rfl ⟨_, rfl, rfl, rfl⟩ (by kernel_rfl) Try.func40 rfl rfl ?_
                refine (wideDiv_spec (ha.now hB hR) (hp.now hB hR) (two_pos hp) (by omega)).mono ?_
                rintro ex w49 ⟨nq, qd, qc, q, nr, rd, rc, r, rfl, hk, hq, hr⟩
                replace hF := hF.grow hR hk; replace hS := hS.same hk
                replace ha := ha.next hB hR hk
                replace hp := hp.next hB hR hk
                have hB_ := hB.next hR hk
                replace hR := hR.after hk
                replace hB := hB_; clear hB_ hk
                refine ⟨_, rfl, hS, ?_⟩
                replace hI := hI.put (d := some 35) (x := .v (.tuple #[.agg #[.bool nq, .slice qd q.length qc], .agg #[.bool nr, .slice rd r.length rc]])) (by intro t ht; cases ht; decide) rfl
                replace hI := hI.sel [35, 8, 9, 34, 33, 31, 1, 2, 7] (by kernel_rfl : sel _ _ = some [(35, .v (.tuple #[.agg #[.bool nq, .slice qd q.length qc], .agg #[.bool nr, .slice rd r.length rc]])), (8, .p 2 0), (9, .p 1 0), (34, .v (.agg #[.bool np, .slice pd p.length pc])), (33, .v (.int .i64 ((64 * n : Nat) : Int))), (31, .agg [.v (.bool na), .v (.slice ad xs.length cap)]), (1, .v (.int .i64 ((n : Nat) : Int))), (2, .p 0 0), (7, .v (.bool f))])
                refine takeL tab (H := [⟨0, 29, [.v (.bool na), .v (.slice ad xs.length cap)]⟩]) (G := []) (hs := []) (gs := []) (is := [5, 6, 7]) (ks := [37, 36, 8, 9, 1, 2, 7]) (f' := 2)
                    (L' := [(37, .v (.agg #[.bool nr, .slice rd r.length rc])), (36, .v (.agg #[.bool nq, .slice qd q.length qc])), (8, .p 2 0), (9, .p 1 0), (1, .v (.int .i64 ((n : Nat) : Int))), (2, .p 0 0), (7, .v (.bool f))]) hS hI (by kernel_rfl) (fun _ _ _ _ _ h => h) (by kernel_rfl)
                    .nil (by kernel_rfl) (by kernel_rfl) (by kernel_rfl) (by rfl) (fun a50 hI => ?_)
                refine oneL (i := 10) (f' := 1) (by kernel_rfl) (by rfl) ?_
                refine effH tab (k := 3) (hh := .no) (r := ⟨.v (undef), [⟨2, 29, [.v (.bool nq), .v (.slice qd q.length qc)]⟩, ⟨1, 29, [.v (.bool false), .v (.slice none 0 0)]⟩, ⟨0, 29, [.v (.bool na), .v (.slice ad xs.length cap)]⟩], [], 3, _, true⟩) hR hI (by kernel_rfl) rfl rfl rfl (by kernel_rfl) .nil (fun e51 a51 w51 hag hR2 hI => ?_)
                replace hS := Rel.old (k := 3) hS hR hR2 hF hag [0] [] (by kernel_rfl) (by kernel_rfl) (by kernel_rfl); replace hR := hR2
                refine ⟨hS, ?_⟩
                refine wpL_env hag (by kernel_rfl) ?_
                replace hS := hS.agree (k := 3) (L := []) (Wf.of (by kernel_rfl)) hag
                replace hI := hI.sel [37, 36, 8, 9, 1, 2, 7] (by kernel_rfl : sel _ _ = some [(37, .v (.agg #[.bool nr, .slice rd r.length rc])), (36, .v (.agg #[.bool nq, .slice qd q.length qc])), (8, .p 2 0), (9, .p 1 0), (1, .v (.int .i64 ((n : Nat) : Int))), (2, .p 0 0), (7, .v (.bool f))])
                refine endL (i := 11) (f' := 0) (by kernel_rfl) (by rfl) (by kernel_rfl) ?_
                refine effH tab (k := 3) (hh := .no) (r := ⟨.v (undef), [⟨1, 29, [.v (.bool nr), .v (.slice rd r.length rc)]⟩, ⟨2, 29, [.v (.bool nq), .v (.slice qd q.length qc)]⟩, ⟨0, 29, [.v (.bool na), .v (.slice ad xs.length cap)]⟩], [], 3, _, true⟩) hR hI (by kernel_rfl) rfl rfl rfl (by kernel_rfl) .nil (fun e52 a52 w52 hag hR2 hI => ?_)
                replace hR := hR2; clear hR2
                replace hI := hI.sel [37, 36, 8, 9, 1, 2, 7] (by kernel_rfl : sel _ _ = some [(37, .v (.agg #[.bool nr, .slice rd r.length rc])), (36, .v (.agg #[.bool nq, .slice qd q.length qc])), (8, .p 2 0), (9, .p 1 0), (1, .v (.int .i64 ((n : Nat) : Int))), (2, .p 0 0), (7, .v (.bool f))])
                refine doneL (by kernel_rfl) ?_
                replace hI := hI.sel [9, 1, 2, 7] (by kernel_rfl : sel _ _ = some [(9, .p 1 0), (1, .v (.int .i64 ((n : Nat) : Int))), (2, .p 0 0), (7, .v (.bool f))]); replace hR := hR.sel [1, 0] [] (by kernel_rfl : selH _ _ = some [⟨1, 29, [.v (.bool nr), .v (.slice rd r.length rc)]⟩, ⟨0, 29, [.v (.bool na), .v (.slice ad xs.length cap)]⟩]) (by kernel_rfl : selG _ _ = some [])
                refine then_n ?_
                replace hR := hR.sel [0, 1] [] (by kernel_rfl : selH _ _ = some [⟨0, 29, [.v (.bool na), .v (.slice ad xs.length cap)]⟩, ⟨1, 29, [.v (.bool nr), .v (.slice rd r.length rc)]⟩]) (by kernel_rfl : selG _ _ = some [])
                replace hI := hI.sel [9, 1, 2, 7] (by kernel_rfl : sel _ _ = some [(9, .p 1 0), (1, .v (.int .i64 ((n : Nat) : Int))), (2, .p 0 0), (7, .v (.bool f))])
                have hren_ : Sy.ren [(1, 1)] ⟨[(9, .p 1 0), (1, .v (.int .i64 ((n : Nat) : Int))), (2, .p 0 0), (7, .v (.bool f))], [⟨0, 29, [.v (.bool na), .v (.slice ad xs.length cap)]⟩, ⟨1, 29, [.v (.bool nr), .v (.slice rd r.length rc)]⟩], [], 0⟩ = ⟨[(9, .p 1 0), (1, .v (.int .i64 ((n : Nat) : Int))), (2, .p 0 0), (7, .v (.bool f))], [⟨0, 29, [.v (.bool na), .v (.slice ad xs.length cap)]⟩, ⟨1, 29, [.v (.bool nr), .v (.slice rd r.length rc)]⟩], [], 0⟩ := by kernel_rfl
                replace hI := hI.rename (S := ⟨[(9, .p 1 0), (1, .v (.int .i64 ((n : Nat) : Int))), (2, .p 0 0), (7, .v (.bool f))], [⟨0, 29, [.v (.bool na), .v (.slice ad xs.length cap)]⟩, ⟨1, 29, [.v (.bool nr), .v (.slice rd r.length rc)]⟩], [], 0⟩) (S' := ⟨[(9, .p 1 0), (1, .v (.int .i64 ((n : Nat) : Int))), (2, .p 0 0), (7, .v (.bool f))], [⟨0, 29, [.v (.bool na), .v (.slice ad xs.length cap)]⟩, ⟨1, 29, [.v (.bool nr), .v (.slice rd r.length rc)]⟩], [], 0⟩) hren_; replace hR := hR.rename (S := ⟨[(9, .p 1 0), (1, .v (.int .i64 ((n : Nat) : Int))), (2, .p 0 0), (7, .v (.bool f))], [⟨0, 29, [.v (.bool na), .v (.slice ad xs.length cap)]⟩, ⟨1, 29, [.v (.bool nr), .v (.slice rd r.length rc)]⟩], [], 0⟩) (S' := ⟨[(9, .p 1 0), (1, .v (.int .i64 ((n : Nat) : Int))), (2, .p 0 0), (7, .v (.bool f))], [⟨0, 29, [.v (.bool na), .v (.slice ad xs.length cap)]⟩, ⟨1, 29, [.v (.bool nr), .v (.slice rd r.length rc)]⟩], [], 0⟩) hren_ (by kernel_rfl) (by kernel_rfl); dsimp only at hI hR; clear hren_
                exact ⟨(nr, rd, rc, r), _, _, _, _, hB, hr, hR.sel [0, 1] [] (by kernel_rfl) (by kernel_rfl), hI.sel [1, 2, 7, 9] (by kernel_rfl)⟩
          · skip
            refine effH tab (k := 1) (hh := .no) (r := ⟨.p 1 0, [⟨1, 29, [.v (.bool false), .v (.slice none 0 0)]⟩, ⟨0, 29, [.v (.bool na), .v (.slice ad xs.length cap)]⟩], [], 2, _, false⟩) hR hI (by kernel_rfl) rfl rfl rfl (by kernel_rfl) .nil (fun e53 a53 w53 hag hR2 hI => ?_)
            replace hS := Rel.old (k := 1) hS hR hR2 hF hag [0] [] (by kernel_rfl) (by kernel_rfl) (by kernel_rfl); replace hR := hR2
            refine ⟨hS, ?_⟩
            refine wpL_env hag (by kernel_rfl) ?_
            replace hS := hS.agree (k := 1) (L := []) (Wf.of (by kernel_rfl)) hag
            replace hI := hI.sel [8, 33, 31, 1, 2, 7] (by kernel_rfl : sel _ _ = some [(8, .p 1 0), (33, .v (.int .i64 ((64 * n : Nat) : Int))), (31, .agg [.v (.bool na), .v (.slice ad xs.length cap)]), (1, .v (.int .i64 ((n : Nat) : Int))), (2, .p 0 0), (7, .v (.bool f))])
            refine twoL (i := 3) (j := 9) (f' := 7) (by kernel_rfl) (by rfl) ?_ ?_
            · skip
              refine callH (ys := [.v (.int .i64 ((64 * n : Nat) : Int))]) hI rfl rfl ⟨_, rfl, rfl, rfl⟩ (by kernel_rfl) Try.func37 rfl rfl ?_
              refine (two_spec (C := Now hB) (n := 64 * n) (by omega)).mono ?_
              rintro ex w54 ⟨np, pd, pc, p, rfl, hk, hp⟩
              replace hF := hF.grow hR hk; replace hS := hS.same hk
              replace ha := ha.next hB hR hk
              have hB_ := hB.next hR hk
              replace hR := hR.after hk
              replace hB := hB_; clear hB_ hk
              refine ⟨_, rfl, hS, ?_⟩
              replace hI := hI.put (d := some 34) (x := .v (.agg #[.bool np, .slice pd p.length pc])) (by intro t ht; cases ht; decide) rfl
              replace hI := hI.sel [34, 8, 33, 31, 1, 2, 7] (by kernel_rfl : sel _ _ = some [(34, .v (.agg #[.bool np, .slice pd p.length pc])), (8, .p 1 0), (33, .v (.int .i64 ((64 * n : Nat) : Int))), (31, .agg [.v (.bool na), .v (.slice ad xs.length cap)]), (1, .v (.int .i64 ((n : Nat) : Int))), (2, .p 0 0), (7, .v (.bool f))])
              refine twoL (i := 4) (j := 9) (f' := 6) (by kernel_rfl) (by rfl) ?_ ?_
              · skip
                refine callH (ys := [.agg [.v (.bool na), .v (.slice ad xs.length cap)], .v (.agg #[.bool np, .slice pd p.length pc])]) hI rfl rfl ⟨_, rfl, rfl, rfl⟩ (by kernel_rfl) Try.func40 rfl rfl ?_
                refine (wideDiv_spec (ha.now hB hR) (hp.now hB hR) (two_pos hp) (by omega)).mono ?_
                rintro ex w55 ⟨nq, qd, qc, q, nr, rd, rc, r, rfl, hk, hq, hr⟩
                replace hF := hF.grow hR hk; replace hS := hS.same hk
                replace ha := ha.next hB hR hk
                replace hp := hp.next hB hR hk
                have hB_ := hB.next hR hk
                replace hR := hR.after hk
                replace hB := hB_; clear hB_ hk
                refine ⟨_, rfl, hS, ?_⟩
                replace hI := hI.put (d := some 35) (x := .v (.tuple #[.agg #[.bool nq, .slice qd q.length qc], .agg #[.bool nr, .slice rd r.length rc]])) (by intro t ht; cases ht; decide) rfl
                replace hI := hI.sel [35, 34, 8, 33, 31, 1, 2, 7] (by kernel_rfl : sel _ _ = some [(35, .v (.tuple #[.agg #[.bool nq, .slice qd q.length qc], .agg #[.bool nr, .slice rd r.length rc]])), (34, .v (.agg #[.bool np, .slice pd p.length pc])), (8, .p 1 0), (33, .v (.int .i64 ((64 * n : Nat) : Int))), (31, .agg [.v (.bool na), .v (.slice ad xs.length cap)]), (1, .v (.int .i64 ((n : Nat) : Int))), (2, .p 0 0), (7, .v (.bool f))])
                refine takeL tab (H := [⟨0, 29, [.v (.bool na), .v (.slice ad xs.length cap)]⟩]) (G := []) (hs := []) (gs := []) (is := [5, 6, 7]) (ks := [37, 36, 8, 1, 2, 7]) (f' := 3)
                    (L' := [(37, .v (.agg #[.bool nr, .slice rd r.length rc])), (36, .v (.agg #[.bool nq, .slice qd q.length qc])), (8, .p 1 0), (1, .v (.int .i64 ((n : Nat) : Int))), (2, .p 0 0), (7, .v (.bool f))]) hS hI (by kernel_rfl) (fun _ _ _ _ _ h => h) (by kernel_rfl)
                    .nil (by kernel_rfl) (by kernel_rfl) (by kernel_rfl) (by rfl) (fun a56 hI => ?_)
                refine oneL (i := 9) (f' := 2) (by kernel_rfl) (by rfl) ?_
                refine effH tab (k := 2) (hh := .no) (r := ⟨.p 2 0, [⟨2, 29, [.v (.bool false), .v (.slice none 0 0)]⟩, ⟨1, 29, [.v (.bool false), .v (.slice none 0 0)]⟩, ⟨0, 29, [.v (.bool na), .v (.slice ad xs.length cap)]⟩], [], 3, _, false⟩) hR hI (by kernel_rfl) rfl rfl rfl (by kernel_rfl) .nil (fun e57 a57 w57 hag hR2 hI => ?_)
                replace hS := Rel.old (k := 2) hS hR hR2 hF hag [0] [] (by kernel_rfl) (by kernel_rfl) (by kernel_rfl); replace hR := hR2
                refine ⟨hS, ?_⟩
                refine wpL_env hag (by kernel_rfl) ?_
                replace hS := hS.agree (k := 2) (L := []) (Wf.of (by kernel_rfl)) hag
                replace hI := hI.sel [9, 37, 36, 8, 1, 2, 7] (by kernel_rfl : sel _ _ = some [(9, .p 2 0), (37, .v (.agg #[.bool nr, .slice rd r.length rc])), (36, .v (.agg #[.bool nq, .slice qd q.length qc])), (8, .p 1 0), (1, .v (.int .i64 ((n : Nat) : Int))), (2, .p 0 0), (7, .v (.bool f))])
                refine oneL (i := 10) (f' := 1) (by kernel_rfl) (by rfl) ?_
                refine effH tab (k := 3) (hh := .no) (r := ⟨.v (undef), [⟨1, 29, [.v (.bool nq), .v (.slice qd q.length qc)]⟩, ⟨2, 29, [.v (.bool false), .v (.slice none 0 0)]⟩, ⟨0, 29, [.v (.bool na), .v (.slice ad xs.length cap)]⟩], [], 3, _, true⟩) hR hI (by kernel_rfl) rfl rfl rfl (by kernel_rfl) .nil (fun e58 a58 w58 hag hR2 hI => ?_)
                replace hS := Rel.old (k := 3) hS hR hR2 hF hag [0] [] (by kernel_rfl) (by kernel_rfl) (by kernel_rfl); replace hR := hR2
                refine ⟨hS, ?_⟩
                refine wpL_env hag (by kernel_rfl) ?_
                replace hS := hS.agree (k := 3) (L := []) (Wf.of (by kernel_rfl)) hag
                replace hI := hI.sel [9, 37, 36, 8, 1, 2, 7] (by kernel_rfl : sel _ _ = some [(9, .p 2 0), (37, .v (.agg #[.bool nr, .slice rd r.length rc])), (36, .v (.agg #[.bool nq, .slice qd q.length qc])), (8, .p 1 0), (1, .v (.int .i64 ((n : Nat) : Int))), (2, .p 0 0), (7, .v (.bool f))])
                refine endL (i := 11) (f' := 0) (by kernel_rfl) (by rfl) (by kernel_rfl) ?_
                refine effH tab (k := 3) (hh := .no) (r := ⟨.v (undef), [⟨2, 29, [.v (.bool nr), .v (.slice rd r.length rc)]⟩, ⟨1, 29, [.v (.bool nq), .v (.slice qd q.length qc)]⟩, ⟨0, 29, [.v (.bool na), .v (.slice ad xs.length cap)]⟩], [], 3, _, true⟩) hR hI (by kernel_rfl) rfl rfl rfl (by kernel_rfl) .nil (fun e59 a59 w59 hag hR2 hI => ?_)
                replace hR := hR2; clear hR2
                replace hI := hI.sel [9, 37, 36, 8, 1, 2, 7] (by kernel_rfl : sel _ _ = some [(9, .p 2 0), (37, .v (.agg #[.bool nr, .slice rd r.length rc])), (36, .v (.agg #[.bool nq, .slice qd q.length qc])), (8, .p 1 0), (1, .v (.int .i64 ((n : Nat) : Int))), (2, .p 0 0), (7, .v (.bool f))])
                refine doneL (by kernel_rfl) ?_
                replace hI := hI.sel [9, 1, 2, 7] (by kernel_rfl : sel _ _ = some [(9, .p 2 0), (1, .v (.int .i64 ((n : Nat) : Int))), (2, .p 0 0), (7, .v (.bool f))]); replace hR := hR.sel [2, 0] [] (by kernel_rfl : selH _ _ = some [⟨2, 29, [.v (.bool nr), .v (.slice rd r.length rc)]⟩, ⟨0, 29, [.v (.bool na), .v (.slice ad xs.length cap)]⟩]) (by kernel_rfl : selG _ _ = some [])
                refine then_n ?_
                replace hR := hR.sel [0, 2] [] (by kernel_rfl : selH _ _ = some [⟨0, 29, [.v (.bool na), .v (.slice ad xs.length cap)]⟩, ⟨2, 29, [.v (.bool nr), .v (.slice rd r.length rc)]⟩]) (by kernel_rfl : selG _ _ = some [])
                replace hI := hI.sel [9, 1, 2, 7] (by kernel_rfl : sel _ _ = some [(9, .p 2 0), (1, .v (.int .i64 ((n : Nat) : Int))), (2, .p 0 0), (7, .v (.bool f))])
                have hren_ : Sy.ren [(1, 2)] ⟨[(9, .p 1 0), (1, .v (.int .i64 ((n : Nat) : Int))), (2, .p 0 0), (7, .v (.bool f))], [⟨0, 29, [.v (.bool na), .v (.slice ad xs.length cap)]⟩, ⟨1, 29, [.v (.bool nr), .v (.slice rd r.length rc)]⟩], [], 0⟩ = ⟨[(9, .p 2 0), (1, .v (.int .i64 ((n : Nat) : Int))), (2, .p 0 0), (7, .v (.bool f))], [⟨0, 29, [.v (.bool na), .v (.slice ad xs.length cap)]⟩, ⟨2, 29, [.v (.bool nr), .v (.slice rd r.length rc)]⟩], [], 0⟩ := by kernel_rfl
                replace hI := hI.rename (S := ⟨[(9, .p 2 0), (1, .v (.int .i64 ((n : Nat) : Int))), (2, .p 0 0), (7, .v (.bool f))], [⟨0, 29, [.v (.bool na), .v (.slice ad xs.length cap)]⟩, ⟨2, 29, [.v (.bool nr), .v (.slice rd r.length rc)]⟩], [], 0⟩) (S' := ⟨[(9, .p 1 0), (1, .v (.int .i64 ((n : Nat) : Int))), (2, .p 0 0), (7, .v (.bool f))], [⟨0, 29, [.v (.bool na), .v (.slice ad xs.length cap)]⟩, ⟨1, 29, [.v (.bool nr), .v (.slice rd r.length rc)]⟩], [], 0⟩) hren_; replace hR := hR.rename (S := ⟨[(9, .p 2 0), (1, .v (.int .i64 ((n : Nat) : Int))), (2, .p 0 0), (7, .v (.bool f))], [⟨0, 29, [.v (.bool na), .v (.slice ad xs.length cap)]⟩, ⟨2, 29, [.v (.bool nr), .v (.slice rd r.length rc)]⟩], [], 0⟩) (S' := ⟨[(9, .p 1 0), (1, .v (.int .i64 ((n : Nat) : Int))), (2, .p 0 0), (7, .v (.bool f))], [⟨0, 29, [.v (.bool na), .v (.slice ad xs.length cap)]⟩, ⟨1, 29, [.v (.bool nr), .v (.slice rd r.length rc)]⟩], [], 0⟩) hren_ (by kernel_rfl) (by kernel_rfl); dsimp only at hI hR; clear hren_
                exact ⟨(nr, rd, rc, r), _, _, _, _, hB, hr, hR.sel [0, 1] [] (by kernel_rfl) (by kernel_rfl), hI.sel [1, 2, 7, 9] (by kernel_rfl)⟩
              · skip
                refine effH tab (k := 2) (hh := .no) (r := ⟨.p 2 0, [⟨2, 29, [.v (.bool false), .v (.slice none 0 0)]⟩, ⟨1, 29, [.v (.bool false), .v (.slice none 0 0)]⟩, ⟨0, 29, [.v (.bool na), .v (.slice ad xs.length cap)]⟩], [], 3, _, false⟩) hR hI (by kernel_rfl) rfl rfl rfl (by kernel_rfl) .nil (fun e60 a60 w60 hag hR2 hI => ?_)
                replace hS := Rel.old (k := 2) hS hR hR2 hF hag [0] [] (by kernel_rfl) (by kernel_rfl) (by kernel_rfl); replace hR := hR2
                refine ⟨hS, ?_⟩
                refine wpL_env hag (by kernel_rfl) ?_
                replace hS := hS.agree (k := 2) (L := []) (Wf.of (by kernel_rfl)) hag
                replace hI := hI.sel [9, 34, 8, 33, 31, 1, 2, 7] (by kernel_rfl : sel _ _ = some [(9, .p 2 0), (34, .v (.agg #[.bool np, .slice pd p.length pc])), (8, .p 1 0), (33, .v (.int .i64 ((64 * n : Nat) : Int))), (31, .agg [.v (.bool na), .v (.slice ad xs.length cap)]), (1, .v (.int .i64 ((n : Nat) : Int))), (2, .p 0 0), (7, .v (.bool f))])
                refine oneL (i := 4) (f' := 5) (by kernel_rfl) (by rfl) ?_
                refine callH (ys := [.agg [.v (.bool na), .v (.slice ad xs.length cap)], .v (.agg #[.bool np, .slice pd p.length pc])]) hI rfl rfl ⟨_, rfl, rfl, rfl⟩ (by kernel_rfl) Try.func40 rfl rfl ?_
                refine (wideDiv_spec (ha.now hB hR) (hp.now hB hR) (two_pos hp) (by omega)).mono ?_
                rintro ex w61 ⟨nq, qd, qc, q, nr, rd, rc, r, rfl, hk, hq, hr⟩
                replace hF := hF.grow hR hk; replace hS := hS.same hk
                replace ha := ha.next hB hR hk
                replace hp := hp.next hB hR hk
                have hB_ := hB.next hR hk
                replace hR := hR.after hk
                replace hB := hB_; clear hB_ hk
                refine ⟨_, rfl, hS, ?_⟩
                replace hI := hI.put (d := some 35) (x := .v (.tuple #[.agg #[.bool nq, .slice qd q.length qc], .agg #[.bool nr, .slice rd r.length rc]])) (by intro t ht; cases ht; decide) rfl
                replace hI := hI.sel [35, 9, 34, 8, 33, 31, 1, 2, 7] (by kernel_rfl : sel _ _ = some [(35, .v (.tuple #[.agg #[.bool nq, .slice qd q.length qc], .agg #[.bool nr, .slice rd r.length rc]])), (9, .p 2 0), (34, .v (.agg #[.bool np, .slice pd p.length pc])), (8, .p 1 0), (33, .v (.int .i64 ((64 * n : Nat) : Int))), (31, .agg [.v (.bool na), .v (.slice ad xs.length cap)]), (1, .v (.int .i64 ((n : Nat) : Int))), (2, .p 0 0), (7, .v (.bool f))])
                refine takeL tab (H := [⟨0, 29, [.v (.bool na), .v (.slice ad xs.length cap)]⟩]) (G := []) (hs := []) (gs := []) (is := [5, 6, 7]) (ks := [37, 36, 9, 8, 1, 2, 7]) (f' := 2)
                    (L' := [(37, .v (.agg #[.bool nr, .slice rd r.length rc])), (36, .v (.agg #[.bool nq, .slice qd q.length qc])), (9, .p 2 0), (8, .p 1 0), (1, .v (.int .i64 ((n : Nat) : Int))), (2, .p 0 0), (7, .v (.bool f))]) hS hI (by kernel_rfl) (fun _ _ _ _ _ h => h) (by kernel_rfl)
                    .nil (by kernel_rfl) (by kernel_rfl) (by kernel_rfl) (by rfl) (fun a62 hI => ?_)
                refine oneL (i := 10) (f' := 1) (by kernel_rfl) (by rfl) ?_
                refine effH tab (k := 3) (hh := .no) (r := ⟨.v (undef), [⟨1, 29, [.v (.bool nq), .v (.slice qd q.length qc)]⟩, ⟨2, 29, [.v (.bool false), .v (.slice none 0 0)]⟩, ⟨0, 29, [.v (.bool na), .v (.slice ad xs.length cap)]⟩], [], 3, _, true⟩) hR hI (by kernel_rfl) rfl rfl rfl (by kernel_rfl) .nil (fun e63 a63 w63 hag hR2 hI => ?_)
                replace hS := Rel.old (k := 3) hS hR hR2 hF hag [0] [] (by kernel_rfl) (by kernel_rfl) (by kernel_rfl); replace hR := hR2
                refine ⟨hS, ?_⟩
                refine wpL_env hag (by kernel_rfl) ?_
                replace hS := hS.agree (k := 3) (L := []) (Wf.of (by kernel_rfl)) hag
                replace hI := hI.sel [37, 36, 9, 8, 1, 2, 7] (by kernel_rfl : sel _ _ = some [(37, .v (.agg #[.bool nr, .slice rd r.length rc])), (36, .v (.agg #[.bool nq, .slice qd q.length qc])), (9, .p 2 0), (8, .p 1 0), (1, .v (.int .i64 ((n : Nat) : Int))), (2, .p 0 0), (7, .v (.bool f))])
                refine endL (i := 11) (f' := 0) (by kernel_rfl) (by rfl) (by kernel_rfl) ?_
                refine effH tab (k := 3) (hh := .no) (r := ⟨.v (undef), [⟨2, 29, [.v (.bool nr), .v (.slice rd r.length rc)]⟩, ⟨1, 29, [.v (.bool nq), .v (.slice qd q.length qc)]⟩, ⟨0, 29, [.v (.bool na), .v (.slice ad xs.length cap)]⟩], [], 3, _, true⟩) hR hI (by kernel_rfl) rfl rfl rfl (by kernel_rfl) .nil (fun e64 a64 w64 hag hR2 hI => ?_)
                replace hR := hR2; clear hR2
                replace hI := hI.sel [37, 36, 9, 8, 1, 2, 7] (by kernel_rfl : sel _ _ = some [(37, .v (.agg #[.bool nr, .slice rd r.length rc])), (36, .v (.agg #[.bool nq, .slice qd q.length qc])), (9, .p 2 0), (8, .p 1 0), (1, .v (.int .i64 ((n : Nat) : Int))), (2, .p 0 0), (7, .v (.bool f))])
                refine doneL (by kernel_rfl) ?_
                replace hI := hI.sel [9, 1, 2, 7] (by kernel_rfl : sel _ _ = some [(9, .p 2 0), (1, .v (.int .i64 ((n : Nat) : Int))), (2, .p 0 0), (7, .v (.bool f))]); replace hR := hR.sel [2, 0] [] (by kernel_rfl : selH _ _ = some [⟨2, 29, [.v (.bool nr), .v (.slice rd r.length rc)]⟩, ⟨0, 29, [.v (.bool na), .v (.slice ad xs.length cap)]⟩]) (by kernel_rfl : selG _ _ = some [])
                refine then_n ?_
                replace hR := hR.sel [0, 2] [] (by kernel_rfl : selH _ _ = some [⟨0, 29, [.v (.bool na), .v (.slice ad xs.length cap)]⟩, ⟨2, 29, [.v (.bool nr), .v (.slice rd r.length rc)]⟩]) (by kernel_rfl : selG _ _ = some [])
                replace hI := hI.sel [9, 1, 2, 7] (by kernel_rfl : sel _ _ = some [(9, .p 2 0), (1, .v (.int .i64 ((n : Nat) : Int))), (2, .p 0 0), (7, .v (.bool f))])
                have hren_ : Sy.ren [(1, 2)] ⟨[(9, .p 1 0), (1, .v (.int .i64 ((n : Nat) : Int))), (2, .p 0 0), (7, .v (.bool f))], [⟨0, 29, [.v (.bool na), .v (.slice ad xs.length cap)]⟩, ⟨1, 29, [.v (.bool nr), .v (.slice rd r.length rc)]⟩], [], 0⟩ = ⟨[(9, .p 2 0), (1, .v (.int .i64 ((n : Nat) : Int))), (2, .p 0 0), (7, .v (.bool f))], [⟨0, 29, [.v (.bool na), .v (.slice ad xs.length cap)]⟩, ⟨2, 29, [.v (.bool nr), .v (.slice rd r.length rc)]⟩], [], 0⟩ := by kernel_rfl
                replace hI := hI.rename (S := ⟨[(9, .p 2 0), (1, .v (.int .i64 ((n : Nat) : Int))), (2, .p 0 0), (7, .v (.bool f))], [⟨0, 29, [.v (.bool na), .v (.slice ad xs.length cap)]⟩, ⟨2, 29, [.v (.bool nr), .v (.slice rd r.length rc)]⟩], [], 0⟩) (S' := ⟨[(9, .p 1 0), (1, .v (.int .i64 ((n : Nat) : Int))), (2, .p 0 0), (7, .v (.bool f))], [⟨0, 29, [.v (.bool na), .v (.slice ad xs.length cap)]⟩, ⟨1, 29, [.v (.bool nr), .v (.slice rd r.length rc)]⟩], [], 0⟩) hren_; replace hR := hR.rename (S := ⟨[(9, .p 2 0), (1, .v (.int .i64 ((n : Nat) : Int))), (2, .p 0 0), (7, .v (.bool f))], [⟨0, 29, [.v (.bool na), .v (.slice ad xs.length cap)]⟩, ⟨2, 29, [.v (.bool nr), .v (.slice rd r.length rc)]⟩], [], 0⟩) (S' := ⟨[(9, .p 1 0), (1, .v (.int .i64 ((n : Nat) : Int))), (2, .p 0 0), (7, .v (.bool f))], [⟨0, 29, [.v (.bool na), .v (.slice ad xs.length cap)]⟩, ⟨1, 29, [.v (.bool nr), .v (.slice rd r.length rc)]⟩], [], 0⟩) hren_ (by kernel_rfl) (by kernel_rfl); dsimp only at hI hR; clear hren_
                exact ⟨(nr, rd, rc, r), _, _, _, _, hB, hr, hR.sel [0, 1] [] (by kernel_rfl) (by kernel_rfl), hI.sel [1, 2, 7, 9] (by kernel_rfl)⟩
            · skip
              refine effH tab (k := 2) (hh := .no) (r := ⟨.p 2 0, [⟨2, 29, [.v (.bool false), .v (.slice none 0 0)]⟩, ⟨1, 29, [.v (.bool false), .v (.slice none 0 0)]⟩, ⟨0, 29, [.v (.bool na), .v (.slice ad xs.length cap)]⟩], [], 3, _, false⟩) hR hI (by kernel_rfl) rfl rfl rfl (by kernel_rfl) .nil (fun e65 a65 w65 hag hR2 hI => ?_)
              replace hS := Rel.old (k := 2) hS hR hR2 hF hag [0] [] (by kernel_rfl) (by kernel_rfl) (by kernel_rfl); replace hR := hR2
              refine ⟨hS, ?_⟩
              refine wpL_env hag (by kernel_rfl) ?_
              replace hS := hS.agree (k := 2) (L := []) (Wf.of (by kernel_rfl)) hag
              replace hI := hI.sel [9, 8, 33, 31, 1, 2, 7] (by kernel_rfl : sel _ _ = some [(9, .p 2 0), (8, .p 1 0), (33, .v (.int .i64 ((64 * n : Nat) : Int))), (31, .agg [.v (.bool na), .v (.slice ad xs.length cap)]), (1, .v (.int .i64 ((n : Nat) : Int))), (2, .p 0 0), (7, .v (.bool f))])
              refine oneL (i := 3) (f' := 6) (by kernel_rfl) (by rfl) ?_
              refine callH (ys := [.v (.int .i64 ((64 * n : Nat) : Int))]) hI rfl rfl ⟨_, rfl, rfl, rfl⟩ (by kernel_rfl) Try.func37 rfl rfl ?_
              refine (two_spec (C := Now hB) (n := 64 * n) (by omega)).mono ?_
              rintro ex w66 ⟨np, pd, pc, p, rfl, hk, hp⟩
              replace hF := hF.grow hR hk; replace hS := hS.same hk
              replace ha := ha.next hB hR hk
              have hB_ := hB.next hR hk
              replace hR := hR.after hk
              replace hB := hB_; clear hB_ hk
              refine ⟨_, rfl, hS, ?_⟩
              replace hI := hI.put (d := some 34) (x := .v (.agg #[.bool np, .slice pd p.length pc])) (by intro t ht; cases ht; decide) rfl
              replace hI := hI.sel [34, 9, 8, 33, 31, 1, 2, 7] (by kernel_rfl : sel _ _ = some [(34, .v (.agg #[.bool np, .slice pd p.length pc])), (9, .p 2 0), (8, .p 1 0), (33, .v (.int .i64 ((64 * n : Nat) : Int))), (31, .agg [.v (.bool na), .v (.slice ad xs.length cap)]), (1, .v (.int .i64 ((n : Nat) : Int))), (2, .p 0 0), (7, .v (.bool f))])
              refine oneL (i := 4) (f' := 5) (by kernel_rfl) (by rfl) ?_
              refine callH (ys := [.agg [.v (.bool na), .v (.slice ad xs.length cap)], .v (.agg #[.bool np, .slice pd p.length pc])]) hI rfl rfl ⟨_, rfl, rfl, rfl⟩ (by kernel_rfl) Try.func40 rfl rfl ?_
              refine (wideDiv_spec (ha.now hB hR) (hp.now hB hR) (two_pos hp) (by omega)).mono ?_
              rintro ex w67 ⟨nq, qd, qc, q, nr, rd, rc, r, rfl, hk, hq, hr⟩
              replace hF := hF.grow hR hk; replace hS := hS.same hk
              replace ha := ha.next hB hR hk
              replace hp := hp.next hB hR hk
              have hB_ := hB.next hR hk
              replace hR := hR.after hk
              replace hB := hB_; clear hB_ hk
              refine ⟨_, rfl, hS, ?_⟩
              replace hI := hI.put (d := some 35) (x := .v (.tuple #[.agg #[.bool nq, .slice qd q.length qc], .agg #[.bool nr, .slice rd r.length rc]])) (by intro t ht; cases ht; decide) rfl
              replace hI := hI.sel [35, 34, 9, 8, 33, 31, 1, 2, 7] (by kernel_rfl : sel _ _ = some [(35, .v (.tuple #[.agg #[.bool nq, .slice qd q.length qc], .agg #[.bool nr, .slice rd r.length rc]])), (34, .v (.agg #[.bool np, .slice pd p.length pc])), (9, .p 2 0), (8, .p 1 0), (33, .v (.int .i64 ((64 * n : Nat) : Int))), (31, .agg [.v (.bool na), .v (.slice ad xs.length cap)]), (1, .v (.int .i64 ((n : Nat) : Int))), (2, .p 0 0), (7, .v (.bool f))])
              refine takeL tab (H := [⟨0, 29, [.v (.bool na), .v (.slice ad xs.length cap)]⟩]) (G := []) (hs := []) (gs := []) (is := [5, 6, 7]) (ks := [37, 36, 9, 8, 1, 2, 7]) (f' := 2)
                  (L' := [(37, .v (.agg #[.bool nr, .slice rd r.length rc])), (36, .v (.agg #[.bool nq, .slice qd q.length qc])), (9, .p 2 0), (8, .p 1 0), (1, .v (.int .i64 ((n : Nat) : Int))), (2, .p 0 0), (7, .v (.bool f))]) hS hI (by kernel_rfl) (fun _ _ _ _ _ h => h) (by kernel_rfl)
                  .nil (by kernel_rfl) (by kernel_rfl) (by kernel_rfl) (by rfl) (fun a68 hI => ?_)
              refine oneL (i := 10) (f' := 1) (by kernel_rfl) (by rfl) ?_
              refine effH tab (k := 3) (hh := .no) (r := ⟨.v (undef), [⟨1, 29, [.v (.bool nq), .v (.slice qd q.length qc)]⟩, ⟨2, 29, [.v (.bool false), .v (.slice none 0 0)]⟩, ⟨0, 29, [.v (.bool na), .v (.slice ad xs.length cap)]⟩], [], 3, _, true⟩) hR hI (by kernel_rfl) rfl rfl rfl (by kernel_rfl) .nil (fun e69 a69 w69 hag hR2 hI => ?_)
              replace hS := Rel.old (k := 3) hS hR hR2 hF hag [0] [] (by kernel_rfl) (by kernel_rfl) (by kernel_rfl); replace hR := hR2
              refine ⟨hS, ?_⟩
              refine wpL_env hag (by kernel_rfl) ?_
              replace hS := hS.agree (k := 3) (L := []) (Wf.of (by kernel_rfl)) hag
              replace hI := hI.sel [37, 36, 9, 8, 1, 2, 7] (by kernel_rfl : sel _ _ = some [(37, .v (.agg #[.bool nr, .slice rd r.length rc])), (36, .v (.agg #[.bool nq, .slice qd q.length qc])), (9, .p 2 0), (8, .p 1 0), (1, .v (.int .i64 ((n : Nat) : Int))), (2, .p 0 0), (7, .v (.bool f))])
              refine endL (i := 11) (f' := 0) (by kernel_rfl) (by rfl) (by kernel_rfl) ?_
              refine effH tab (k := 3) (hh := .no) (r := ⟨.v (undef), [⟨2, 29, [.v (.bool nr), .v (.slice rd r.length rc)]⟩, ⟨1, 29, [.v (.bool nq), .v (.slice qd q.length qc)]⟩, ⟨0, 29, [.v (.bool na), .v (.slice ad xs.length cap)]⟩], [], 3, _, true⟩) hR hI (by kernel_rfl) rfl rfl rfl (by kernel_rfl) .nil (fun e70 a70 w70 hag hR2 hI => ?_)
              replace hR := hR2; clear hR2
              replace hI := hI.sel [37, 36, 9, 8, 1, 2, 7] (by kernel_rfl : sel _ _ = some [(37, .v (.agg #[.bool nr, .slice rd r.length rc])), (36, .v (.agg #[.bool nq, .slice qd q.length qc])), (9, .p 2 0), (8, .p 1 0), (1, .v (.int .i64 ((n : Nat) : Int))), (2, .p 0 0), (7, .v (.bool f))])
              refine doneL (by kernel_rfl) ?_
              replace hI := hI.sel [9, 1, 2, 7] (by kernel_rfl : sel _ _ = some [(9, .p 2 0), (1, .v (.int .i64 ((n : Nat) : Int))), (2, .p 0 0), (7, .v (.bool f))]); replace hR := hR.sel [2, 0] [] (by kernel_rfl : selH _ _ = some [⟨2, 29, [.v (.bool nr), .v (.slice rd r.length rc)]⟩, ⟨0, 29, [.v (.bool na), .v (.slice ad xs.length cap)]⟩]) (by kernel_rfl : selG _ _ = some [])
              refine then_n ?_
              replace hR := hR.sel [0, 2] [] (by kernel_rfl : selH _ _ = some [⟨0, 29, [.v (.bool na), .v (.slice ad xs.length cap)]⟩, ⟨2, 29, [.v (.bool nr), .v (.slice rd r.length rc)]⟩]) (by kernel_rfl : selG _ _ = some [])
              replace hI := hI.sel [9, 1, 2, 7] (by kernel_rfl : sel _ _ = some [(9, .p 2 0), (1, .v (.int .i64 ((n : Nat) : Int))), (2, .p 0 0), (7, .v (.bool f))])
              have hren_ : Sy.ren [(1, 2)] ⟨[(9, .p 1 0), (1, .v (.int .i64 ((n : Nat) : Int))), (2, .p 0 0), (7, .v (.bool f))], [⟨0, 29, [.v (.bool na), .v (.slice ad xs.length cap)]⟩, ⟨1, 29, [.v (.bool nr), .v (.slice rd r.length rc)]⟩], [], 0⟩ = ⟨[(9, .p 2 0), (1, .v (.int .i64 ((n : Nat) : Int))), (2, .p 0 0), (7, .v (.bool f))], [⟨0, 29, [.v (.bool na), .v (.slice ad xs.length cap)]⟩, ⟨2, 29, [.v (.bool nr), .v (.slice rd r.length rc)]⟩], [], 0⟩ := by kernel_rfl
              replace hI := hI.rename (S := ⟨[(9, .p 2 0), (1, .v (.int .i64 ((n : Nat) : Int))), (2, .p 0 0), (7, .v (.bool f))], [⟨0, 29, [.v (.bool na), .v (.slice ad xs.length cap)]⟩, ⟨2, 29, [.v (.bool nr), .v (.slice rd r.length rc)]⟩], [], 0⟩) (S' := ⟨[(9, .p 1 0), (1, .v (.int .i64 ((n : Nat) : Int))), (2, .p 0 0), (7, .v (.bool f))], [⟨0, 29, [.v (.bool na), .v (.slice ad xs.length cap)]⟩, ⟨1, 29, [.v (.bool nr), .v (.slice rd r.length rc)]⟩], [], 0⟩) hren_; replace hR := hR.rename (S := ⟨[(9, .p 2 0), (1, .v (.int .i64 ((n : Nat) : Int))), (2, .p 0 0), (7, .v (.bool f))], [⟨0, 29, [.v (.bool na), .v (.slice ad xs.length cap)]⟩, ⟨2, 29, [.v (.bool nr), .v (.slice rd r.length rc)]⟩], [], 0⟩) (S' := ⟨[(9, .p 1 0), (1, .v (.int .i64 ((n : Nat) : Int))), (2, .p 0 0), (7, .v (.bool f))], [⟨0, 29, [.v (.bool na), .v (.slice ad xs.length cap)]⟩, ⟨1, 29, [.v (.bool nr), .v (.slice rd r.length rc)]⟩], [], 0⟩) hren_ (by kernel_rfl) (by kernel_rfl); dsimp only at hI hR; clear hren_
              exact ⟨(nr, rd, rc, r), _, _, _, _, hB, hr, hR.sel [0, 1] [] (by kernel_rfl) (by kernel_rfl), hI.sel [1, 2, 7, 9] (by kernel_rfl)⟩
          · skip
            refine effH tab (k := 1) (hh := .no) (r := ⟨.p 1 0, [⟨1, 29, [.v (.bool false), .v (.slice none 0 0)]⟩, ⟨0, 29, [.v (.bool na), .v (.slice ad xs.length cap)]⟩], [], 2, _, false⟩) hR hI (by kernel_rfl) rfl rfl rfl (by kernel_rfl) .nil (fun e71 a71 w71 hag hR2 hI => ?_)
            replace hS := Rel.old (k := 1) hS hR hR2 hF hag [0] [] (by kernel_rfl) (by kernel_rfl) (by kernel_rfl); replace hR := hR2
            refine ⟨hS, ?_⟩
            refine wpL_env hag (by kernel_rfl) ?_
            replace hS := hS.agree (k := 1) (L := []) (Wf.of (by kernel_rfl)) hag
            replace hI := hI.sel [9, 33, 31, 1, 2, 7] (by kernel_rfl : sel _ _ = some [(9, .p 1 0), (33, .v (.int .i64 ((64 * n : Nat) : Int))), (31, .agg [.v (.bool na), .v (.slice ad xs.length cap)]), (1, .v (.int .i64 ((n : Nat) : Int))), (2, .p 0 0), (7, .v (.bool f))])
            refine twoL (i := 3) (j := 8) (f' := 7) (by kernel_rfl) (by rfl) ?_ ?_
            · skip
              refine callH (ys := [.v (.int .i64 ((64 * n : Nat) : Int))]) hI rfl rfl ⟨_, rfl, rfl, rfl⟩ (by kernel_rfl) Try.func37 rfl rfl ?_
              refine (two_spec (C := Now hB) (n := 64 * n) (by omega)).mono ?_
              rintro ex w72 ⟨np, pd, pc, p, rfl, hk, hp⟩
              replace hF := hF.grow hR hk; replace hS := hS.same hk
              replace ha := ha.next hB hR hk
              have hB_ := hB.next hR hk
              replace hR := hR.after hk
              replace hB := hB_; clear hB_ hk
              refine ⟨_, rfl, hS, ?_⟩
              replace hI := hI.put (d := some 34) (x := .v (.agg #[.bool np, .slice pd p.length pc])) (by intro t ht; cases ht; decide) rfl
              replace hI := hI.sel [34, 9, 33, 31, 1, 2, 7] (by kernel_rfl : sel _ _ = some [(34, .v (.agg #[.bool np, .slice pd p.length pc])), (9, .p 1 0), (33, .v (.int .i64 ((64 * n : Nat) : Int))), (31, .agg [.v (.bool na), .v (.slice ad xs.length cap)]), (1, .v (.int .i64 ((n : Nat) : Int))), (2, .p 0 0), (7, .v (.bool f))])
              refine twoL (i := 4) (j := 8) (f' := 6) (by kernel_rfl) (by rfl) ?_ ?_
              · skip
                refine callH (ys := [.agg [.v (.bool na), .v (.slice ad xs.length cap)], .v (.agg #[.bool np, .slice pd p.length pc])]) hI rfl rfl ⟨_, rfl, rfl, rfl⟩ (by kernel_rfl) Try.func40 rfl rfl ?_
                refine (wideDiv_spec (ha.now hB hR) (hp.now hB hR) (two_pos hp) (by omega)).mono ?_
                rintro ex w73 ⟨nq, qd, qc, q, nr, rd, rc, r, rfl, hk, hq, hr⟩
                replace hF := hF.grow hR hk; replace hS := hS.same hk
                replace ha := ha.next hB hR hk
                replace hp := hp.next hB hR hk
                have hB_ := hB.next hR hk
                replace hR := hR.after hk
                replace hB := hB_; clear hB_ hk
                refine ⟨_, rfl, hS, ?_⟩
                replace hI := hI.put (d := some 35) (x := .v (.tuple #[.agg #[.bool nq, .slice qd q.length qc], .agg #[.bool nr, .slice rd r.length rc]])) (by intro t ht; cases ht; decide) rfl
                replace hI := hI.sel [35, 34, 9, 33, 31, 1, 2, 7] (by kernel_rfl : sel _ _ = some [(35, .v (.tuple #[.agg #[.bool nq, .slice qd q.length qc], .agg #[.bool nr, .slice rd r.length rc]])), (34, .v (.agg #[.bool np, .slice pd p.length pc])), (9, .p 1 0), (33, .v (.int .i64 ((64 * n : Nat) : Int))), (31, .agg [.v (.bool na), .v (.slice ad xs.length cap)]), (1, .v (.int .i64 ((n : Nat) : Int))), (2, .p 0 0), (7, .v (.bool f))])
                refine takeL tab (H := [⟨0, 29, [.v (.bool na), .v (.slice ad xs.length cap)]⟩]) (G := []) (hs := []) (gs := []) (is := [5, 6, 7]) (ks := [37, 36, 9, 1, 2, 7]) (f' := 3)
                    (L' := [(37, .v (.agg #[.bool nr, .slice rd r.length rc])), (36, .v (.agg #[.bool nq, .slice qd q.length qc])), (9, .p 1 0), (1, .v (.int .i64 ((n : Nat) : Int))), (2, .p 0 0), (7, .v (.bool f))]) hS hI (by kernel_rfl) (fun _ _ _ _ _ h => h) (by kernel_rfl)
                    .nil (by kernel_rfl) (by kernel_rfl) (by kernel_rfl) (by rfl) (fun a74 hI => ?_)
                refine oneL (i := 8) (f' := 2) (by kernel_rfl) (by rfl) ?_
                refine effH tab (k := 2) (hh := .no) (r := ⟨.p 2 0, [⟨2, 29, [.v (.bool false), .v (.slice none 0 0)]⟩, ⟨1, 29, [.v (.bool false), .v (.slice none 0 0)]⟩, ⟨0, 29, [.v (.bool na), .v (.slice ad xs.length cap)]⟩], [], 3, _, false⟩) hR hI (by kernel_rfl) rfl rfl rfl (by kernel_rfl) .nil (fun e75 a75 w75 hag hR2 hI => ?_)
                replace hS := Rel.old (k := 2) hS hR hR2 hF hag [0] [] (by kernel_rfl) (by kernel_rfl) (by kernel_rfl); replace hR := hR2
                refine ⟨hS, ?_⟩
                refine wpL_env hag (by kernel_rfl) ?_
                replace hS := hS.agree (k := 2) (L := []) (Wf.of (by kernel_rfl)) hag
                replace hI := hI.sel [8, 37, 36, 9, 1, 2, 7] (by kernel_rfl : sel _ _ = some [(8, .p 2 0), (37, .v (.agg #[.bool nr, .slice rd r.length rc])), (36, .v (.agg #[.bool nq, .slice qd q.length qc])), (9, .p 1 0), (1, .v (.int .i64 ((n : Nat) : Int))), (2, .p 0 0), (7, .v (.bool f))])
                refine oneL (i := 10) (f' := 1) (by kernel_rfl) (by rfl) ?_
                refine effH tab (k := 3) (hh := .no) (r := ⟨.v (undef), [⟨2, 29, [.v (.bool nq), .v (.slice qd q.length qc)]⟩, ⟨1, 29, [.v (.bool false), .v (.slice none 0 0)]⟩, ⟨0, 29, [.v (.bool na), .v (.slice ad xs.length cap)]⟩], [], 3, _, true⟩) hR hI (by kernel_rfl) rfl rfl rfl (by kernel_rfl) .nil (fun e76 a76 w76 hag hR2 hI => ?_)
                replace hS := Rel.old (k := 3) hS hR hR2 hF hag [0] [] (by kernel_rfl) (by kernel_rfl) (by kernel_rfl); replace hR := hR2
                refine ⟨hS, ?_⟩
                refine wpL_env hag (by kernel_rfl) ?_
                replace hS := hS.agree (k := 3) (L := []) (Wf.of (by kernel_rfl)) hag
                replace hI := hI.sel [8, 37, 36, 9, 1, 2, 7] (by kernel_rfl : sel _ _ = some [(8, .p 2 0), (37, .v (.agg #[.bool nr, .slice rd r.length rc])), (36, .v (.agg #[.bool nq, .slice qd q.length qc])), (9, .p 1 0), (1, .v (.int .i64 ((n : Nat) : Int))), (2, .p 0 0), (7, .v (.bool f))])
                refine endL (i := 11) (f' := 0) (by kernel_rfl) (by rfl) (by kernel_rfl) ?_
                refine effH tab (k := 3) (hh := .no) (r := ⟨.v (undef), [⟨1, 29, [.v (.bool nr), .v (.slice rd r.length rc)]⟩, ⟨2, 29, [.v (.bool nq), .v (.slice qd q.length qc)]⟩, ⟨0, 29, [.v (.bool na), .v (.slice ad xs.length cap)]⟩], [], 3, _, true⟩) hR hI (by kernel_rfl) rfl rfl rfl (by kernel_rfl) .nil (fun e77 a77 w77 hag hR2 hI => ?_)
                replace hR := hR2; clear hR2
                replace hI := hI.sel [8, 37, 36, 9, 1, 2, 7] (by kernel_rfl : sel _ _ = some [(8, .p 2 0), (37, .v (.agg #[.bool nr, .slice rd r.length rc])), (36, .v (.agg #[.bool nq, .slice qd q.length qc])), (9, .p 1 0), (1, .v (.int .i64 ((n : Nat) : Int))), (2, .p 0 0), (7, .v (.bool f))])
                refine doneL (by kernel_rfl) ?_
                replace hI := hI.sel [9, 1, 2, 7] (by kernel_rfl : sel _ _ = some [(9, .p 1 0), (1, .v (.int .i64 ((n : Nat) : Int))), (2, .p 0 0), (7, .v (.bool f))]); replace hR := hR.sel [1, 0] [] (by kernel_rfl : selH _ _ = some [⟨1, 29, [.v (.bool nr), .v (.slice rd r.length rc)]⟩, ⟨0, 29, [.v (.bool na), .v (.slice ad xs.length cap)]⟩]) (by kernel_rfl : selG _ _ = some [])
                refine then_n ?_
                replace hR := hR.sel [0, 1] [] (by kernel_rfl : selH _ _ = some [⟨0, 29, [.v (.bool na), .v (.slice ad xs.length cap)]⟩, ⟨1, 29, [.v (.bool nr), .v (.slice rd r.length rc)]⟩]) (by kernel_rfl : selG _ _ = some [])
                replace hI := hI.sel [9, 1, 2, 7] (by kernel_rfl : sel _ _ = some [(9, .p 1 0), (1, .v (.int .i64 ((n : Nat) : Int))), (2, .p 0 0), (7, .v (.bool f))])
                have hren_ : Sy.ren [(1, 1)] ⟨[(9, .p 1 0), (1, .v (.int .i64 ((n : Nat) : Int))), (2, .p 0 0), (7, .v (.bool f))], [⟨0, 29, [.v (.bool na), .v (.slice ad xs.length cap)]⟩, ⟨1, 29, [.v (.bool nr), .v (.slice rd r.length rc)]⟩], [], 0⟩ = ⟨[(9, .p 1 0), (1, .v (.int .i64 ((n : Nat) : Int))), (2, .p 0 0), (7, .v (.bool f))], [⟨0, 29, [.v (.bool na), .v (.slice ad xs.length cap)]⟩, ⟨1, 29, [.v (.bool nr), .v (.slice rd r.length rc)]⟩], [], 0⟩ := by kernel_rfl
                replace hI := hI.rename (S := ⟨[(9, .p 1 0), (1, .v (.int .i64 ((n : Nat) : Int))), (2, .p 0 0), (7, .v (.bool f))], [⟨0, 29, [.v (.bool na), .v (.slice ad xs.length cap)]⟩, ⟨1, 29, [.v (.bool nr), .v (.slice rd r.length rc)]⟩], [], 0⟩) (S' := ⟨[(9, .p 1 0), (1, .v (.int .i64 ((n : Nat) : Int))), (2, .p 0 0), (7, .v (.bool f))], [⟨0, 29, [.v (.bool na), .v (.slice ad xs.length cap)]⟩, ⟨1, 29, [.v (.bool nr), .v (.slice rd r.length rc)]⟩], [], 0⟩) hren_; replace hR := hR.rename (S := ⟨[(9, .p 1 0), (1, .v (.int .i64 ((n : Nat) : Int))), (2, .p 0 0), (7, .v (.bool f))], [⟨0, 29, [.v (.bool na), .v (.slice ad xs.length cap)]⟩, ⟨1, 29, [.v (.bool nr), .v (.slice rd r.length rc)]⟩], [], 0⟩) (S' := ⟨[(9, .p 1 0), (1, .v (.int .i64 ((n : Nat) : Int))), (2, .p 0 0), (7, .v (.bool f))], [⟨0, 29, [.v (.bool na), .v (.slice ad xs.length cap)]⟩, ⟨1, 29, [.v (.bool nr), .v (.slice rd r.length rc)]⟩], [], 0⟩) hren_ (by kernel_rfl) (by kernel_rfl); dsimp only at hI hR; clear hren_
                exact ⟨(nr, rd, rc, r), _, _, _, _, hB, hr, hR.sel [0, 1] [] (by kernel_rfl) (by kernel_rfl), hI.sel [1, 2, 7, 9] (by kernel_rfl)⟩
              · skip
                refine effH tab (k := 2) (hh := .no) (r := ⟨.p 2 0, [⟨2, 29, [.v (.bool false), .v (.slice none 0 0)]⟩, ⟨1, 29, [.v (.bool false), .v (.slice none 0 0)]⟩, ⟨0, 29, [.v (.bool na), .v (.slice ad xs.length cap)]⟩], [], 3, _, false⟩) hR hI (by kernel_rfl) rfl rfl rfl (by kernel_rfl) .nil (fun e78 a78 w78 hag hR2 hI => ?_)
                replace hS := Rel.old (k := 2) hS hR hR2 hF hag [0] [] (by kernel_rfl) (by kernel_rfl) (by kernel_rfl); replace hR := hR2
                refine ⟨hS, ?_⟩
                refine wpL_env hag (by kernel_rfl) ?_
                replace hS := hS.agree (k := 2) (L := []) (Wf.of (by kernel_rfl)) hag
                replace hI := hI.sel [8, 34, 9, 33, 31, 1, 2, 7] (by kernel_rfl : sel _ _ = some [(8, .p 2 0), (34, .v (.agg #[.bool np, .slice pd p.length pc])), (9, .p 1 0), (33, .v (.int .i64 ((64 * n : Nat) : Int))), (31, .agg [.v (.bool na), .v (.slice ad xs.length cap)]), (1, .v (.int .i64 ((n : Nat) : Int))), (2, .p 0 0), (7, .v (.bool f))])
                refine oneL (i := 4) (f' := 5) (by kernel_rfl) (by rfl) ?_
                refine callH (ys := [.agg [.v (.bool na), .v (.slice ad xs.length cap)], .v (.agg #[.bool np, .slice pd p.length pc])]) hI rfl rfl ⟨_, rfl, rfl, rfl⟩ (by kernel_rfl) Try.func40 rfl rfl ?_
                refine (wideDiv_spec (ha.now hB hR) (hp.now hB hR) (two_pos hp) (by omega)).mono ?_
                rintro ex w79 ⟨nq, qd, qc, q, nr, rd, rc, r, rfl, hk, hq, hr⟩
                replace hF := hF.grow hR hk; replace hS := hS.same hk
                replace ha := ha.next hB hR hk
                replace hp := hp.next hB hR hk
                have hB_ := hB.next hR hk
                replace hR := hR.after hk
                replace hB := hB_; clear hB_ hk
                refine ⟨_, rfl, hS, ?_⟩
                replace hI := hI.put (d := some 35) (x := .v (.tuple #[.agg #[.bool nq, .slice qd q.length qc], .agg #[.bool nr, .slice rd r.length rc]])) (by intro t ht; cases ht; decide) rfl
                replace hI := hI.sel [35, 8, 34, 9, 33, 31, 1, 2, 7] (by kernel_rfl : sel _ _ = some [(35, .v (.tuple #[.agg #[.bool nq, .slice qd q.length qc], .agg #[.bool nr, .slice rd r.length rc]])), (8, .p 2 0), (34, .v (.agg #[.bool np, .slice pd p.length pc])), (9, .p 1 0), (33, .v (.int .i64 ((64 * n : Nat) : Int))), (31, .agg [.v (.bool na), .v (.slice ad xs.length cap)]), (1, .v (.int .i64 ((n : Nat) : Int))), (2, .p 0 0), (7, .v (.bool f))])
                refine takeL tab (H := [⟨0, 29, [.v (.bool na), .v (.slice ad xs.length cap)]⟩]) (G := []) (hs := []) (gs := []) (is := [5, 6, 7]) (ks := [37, 36, 8, 9, 1, 2, 7]) (f' := 2)
                    (L' := [(37, .v (.agg #[.bool nr, .slice rd r.length rc])), (36, .v (.agg #[.bool nq, .slice qd q.length qc])), (8, .p 2 0), (9, .p 1 0), (1, .v (.int .i64 ((n : Nat) : Int))), (2, .p 0 0), (7, .v (.bool f))]) hS hI (by kernel_rfl) (fun _ _ _ _ _ h => h) (by kernel_rfl)
                    .nil (by kernel_rfl) (by kernel_rfl) (by kernel_rfl) (by rfl) (fun a80 hI => ?_)
                refine oneL (i := 10) (f' := 1) (by kernel_rfl) (by rfl) ?_
                refine effH tab (k := 3) (hh := .no) (r := ⟨.v (undef), [⟨2, 29, [.v (.bool nq), .v (.slice qd q.length qc)]⟩, ⟨1, 29, [.v (.bool false), .v (.slice none 0 0)]⟩, ⟨0, 29, [.v (.bool na), .v (.slice ad xs.length cap)]⟩], [], 3, _, true⟩) hR hI (by kernel_rfl) rfl rfl rfl (by kernel_rfl) .nil (fun e81 a81 w81 hag hR2 hI => ?_)
                replace hS := Rel.old (k := 3) hS hR hR2 hF hag [0] [] (by kernel_rfl) (by kernel_rfl) (by kernel_rfl); replace hR := hR2
                refine ⟨hS, ?_⟩
                refine wpL_env hag (by kernel_rfl) ?_
                replace hS := hS.agree (k := 3) (L := []) (Wf.of (by kernel_rfl)) hag
                replace hI := hI.sel [37, 36, 8, 9, 1, 2, 7] (by kernel_rfl : sel _ _ = some [(37, .v (.agg #[.bool nr, .slice rd r.length rc])), (36, .v (.agg #[.bool nq, .slice qd q.length qc])), (8, .p 2 0), (9, .p 1 0), (1, .v (.int .i64 ((n : Nat) : Int))), (2, .p 0 0), (7, .v (.bool f))])
                refine endL (i := 11) (f' := 0) (by kernel_rfl) (by rfl) (by kernel_rfl) ?_
                refine effH tab (k := 3) (hh := .no) (r := ⟨.v (undef), [⟨1, 29, [.v (.bool nr), .v (.slice rd r.length rc)]⟩, ⟨2, 29, [.v (.bool nq), .v (.slice qd q.length qc)]⟩, ⟨0, 29, [.v (.bool na), .v (.slice ad xs.length cap)]⟩], [], 3, _, true⟩) hR hI (by kernel_rfl) rfl rfl rfl (by kernel_rfl) .nil (fun e82 a82 w82 hag hR2 hI => ?_)
                replace hR := hR2; clear hR2
                replace hI := hI.sel [37, 36, 8, 9, 1, 2, 7] (by kernel_rfl : sel _ _ = some [(37, .v (.agg #[.bool nr, .slice rd r.length rc])), (36, .v (.agg #[.bool nq, .slice qd q.length qc])), (8, .p 2 0), (9, .p 1 0), (1, .v (.int .i64 ((n : Nat) : Int))), (2, .p 0 0), (7, .v (.bool f))])
                refine doneL (by kernel_rfl) ?_
                replace hI := hI.sel [9, 1, 2, 7] (by kernel_rfl : sel _ _ = some [(9, .p 1 0), (1, .v (.int .i64 ((n : Nat) : Int))), (2, .p 0 0), (7, .v (.bool f))]); replace hR := hR.sel [1, 0] [] (by kernel_rfl : selH _ _ = some [⟨1, 29, [.v (.bool nr), .v (.slice rd r.length rc)]⟩, ⟨0, 29, [.v (.bool na), .v (.slice ad xs.length cap)]⟩]) (by kernel_rfl : selG _ _ = some [])
                refine then_n ?_
                replace hR := hR.sel [0, 1] [] (by kernel_rfl : selH _ _ = some [⟨0, 29, [.v (.bool na), .v (.slice ad xs.length cap)]⟩, ⟨1, 29, [.v (.bool nr), .v (.slice rd r.length rc)]⟩]) (by kernel_rfl : selG _ _ = some [])
                replace hI := hI.sel [9, 1, 2, 7] (by kernel_rfl : sel _ _ = some [(9, .p 1 0), (1, .v (.int .i64 ((n : Nat) : Int))), (2, .p 0 0), (7, .v (.bool f))])
                have hren_ : Sy.ren [(1, 1)] ⟨[(9, .p 1 0), (1, .v (.int .i64 ((n : Nat) : Int))), (2, .p 0 0), (7, .v (.bool f))], [⟨0, 29, [.v (.bool na), .v (.slice ad xs.length cap)]⟩, ⟨1, 29, [.v (.bool nr), .v (.slice rd r.length rc)]⟩], [], 0⟩ = ⟨[(9, .p 1 0), (1, .v (.int .i64 ((n : Nat) : Int))), (2, .p 0 0), (7, .v (.bool f))], [⟨0, 29, [.v (.bool na), .v (.slice ad xs.length cap)]⟩, ⟨1, 29, [.v (.bool nr), .v (.slice rd r.length rc)]⟩], [], 0⟩ := by kernel_rfl
                replace hI := hI.rename (S := ⟨[(9, .p 1 0), (1, .v (.int .i64 ((n : Nat) : Int))), (2, .p 0 0), (7, .v (.bool f))], [⟨0, 29, [.v (.bool na), .v (.slice ad xs.length cap)]⟩, ⟨1, 29, [.v (.bool nr), .v (.slice rd r.length rc)]⟩], [], 0⟩) (S' := ⟨[(9, .p 1 0), (1, .v (.int .i64 ((n : Nat) : Int))), (2, .p 0 0), (7, .v (.bool f))], [⟨0, 29, [.v (.bool na), .v (.slice ad xs.length cap)]⟩, ⟨1, 29, [.v (.bool nr), .v (.slice rd r.length rc)]⟩], [], 0⟩) hren_; replace hR := hR.rename (S := ⟨[(9, .p 1 0), (1, .v (.int .i64 ((n : Nat) : Int))), (2, .p 0 0), (7, .v (.bool f))], [⟨0, 29, [.v (.bool na), .v (.slice ad xs.length cap)]⟩, ⟨1, 29, [.v (.bool nr), .v (.slice rd r.length rc)]⟩], [], 0⟩) (S' := ⟨[(9, .p 1 0), (1, .v (.int .i64 ((n : Nat) : Int))), (2, .p 0 0), (7, .v (.bool f))], [⟨0, 29, [.v (.bool na), .v (.slice ad xs.length cap)]⟩, ⟨1, 29, [.v (.bool nr), .v (.slice rd r.length rc)]⟩], [], 0⟩) hren_ (by kernel_rfl) (by kernel_rfl); dsimp only at hI hR; clear hren_
                exact ⟨(nr, rd, rc, r), _, _, _, _, hB, hr, hR.sel [0, 1] [] (by kernel_rfl) (by kernel_rfl), hI.sel [1, 2, 7, 9] (by kernel_rfl)⟩
            · skip
              refine effH tab (k := 2) (hh := .no) (r := ⟨.p 2 0, [⟨2, 29, [.v (.bool false), .v (.slice none 0 0)]⟩, ⟨1, 29, [.v (.bool false), .v (.slice none 0 0)]⟩, ⟨0, 29, [.v (.bool na), .v (.slice ad xs.length cap)]⟩], [], 3, _, false⟩) hR hI (by kernel_rfl) rfl rfl rfl (by kernel_rfl) .nil (fun e83 a83 w83 hag hR2 hI => ?_)
              replace hS := Rel.old (k := 2) hS hR hR2 hF hag [0] [] (by kernel_rfl) (by kernel_rfl) (by kernel_rfl); replace hR := hR2
              refine ⟨hS, ?_⟩
              refine wpL_env hag (by kernel_rfl) ?_
              replace hS := hS.agree (k := 2) (L := []) (Wf.of (by kernel_rfl)) hag
              replace hI := hI.sel [8, 9, 33, 31, 1, 2, 7] (by kernel_rfl : sel _ _ = some [(8, .p 2 0), (9, .p 1 0), (33, .v (.int .i64 ((64 * n : Nat) : Int))), (31, .agg [.v (.bool na), .v (.slice ad xs.length cap)]), (1, .v (.int .i64 ((n : Nat) : Int))), (2, .p 0 0), (7, .v (.bool f))])
              refine oneL (i := 3) (f' := 6) (by kernel_rfl) (by rfl) ?_
              refine callH (ys := [.v (.int .i64 ((64 * n : Nat) : Int))]) hI rfl rfl ⟨_, rfl, rfl, rfl⟩ (by kernel_rfl) Try.func37 rfl rfl ?_
              refine (two_spec (C := Now hB) (n := 64 * n) (by omega)).mono ?_
              rintro ex w84 ⟨np, pd, pc, p, rfl, hk, hp⟩
              replace hF := hF.grow hR hk; replace hS := hS.same hk
              replace ha := ha.next hB hR hk
              have hB_ := hB.next hR hk
              replace hR := hR.after hk
              replace hB := hB_; clear hB_ hk
              refine ⟨_, rfl, hS, ?_⟩
              replace hI := hI.put (d := some 34) (x := .v (.agg #[.bool np, .slice pd p.length pc])) (by intro t ht; cases ht; decide) rfl
              replace hI := hI.sel [34, 8, 9, 33, 31, 1, 2, 7] (by kernel_rfl : sel _ _ = some [(34, .v (.agg #[.bool np, .slice pd p.length pc])), (8, .p 2 0), (9, .p 1 0), (33, .v (.int .i64 ((64 * n : Nat) : Int))), (31, .agg [.v (.bool na), .v (.slice ad xs.length cap)]), (1, .v (.int .i64 ((n : Nat) : Int))), (2, .p 0 0), (7, .v (.bool f))])
              refine oneL (i := 4) (f' := 5) (by kernel_rfl) (by rfl) ?_
              refine callH (ys := [.agg [.v (.bool na), .v (.slice ad xs.length cap)], .v (.agg #[.bool np, .slice pd p.length pc])]) hI rfl rfl ⟨_, rfl, rfl, rfl⟩ (by kernel_rfl) Try.func40 rfl rfl ?_
              refine (wideDiv_spec (ha.now hB hR) (hp.now hB hR) (two_pos hp) (by omega)).mono ?_
              rintro ex w85 ⟨nq, qd, qc, q, nr, rd, rc, r, rfl, hk, hq, hr⟩
              replace hF := hF.grow hR hk; replace hS := hS.same hk
              replace ha := ha.next hB hR hk
              replace hp := hp.next hB hR hk
              have hB_ := hB.next hR hk
              replace hR := hR.after hk
              replace hB := hB_; clear hB_ hk
              refine ⟨_, rfl, hS, ?_⟩
              replace hI := hI.put (d := some 35) (x := .v (.tuple #[.agg #[.bool nq, .slice qd q.length qc], .agg #[.bool nr, .slice rd r.length rc]])) (by intro t ht; cases ht; decide) rfl
              replace hI := hI.sel [35, 34, 8, 9, 33, 31, 1, 2, 7] (by kernel_rfl : sel _ _ = some [(35, .v (.tuple #[.agg #[.bool nq, .slice qd q.length qc], .agg #[.bool nr, .slice rd r.length rc]])), (34, .v (.agg #[.bool np, .slice pd p.length pc])), (8, .p 2 0), (9, .p 1 0), (33, .v (.int .i64 ((64 * n : Nat) : Int))), (31, .agg [.v (.bool na), .v (.slice ad xs.length cap)]), (1, .v (.int .i64 ((n : Nat) : Int))), (2, .p 0 0), (7, .v (.bool f))])
              refine takeL tab (H := [⟨0, 29, [.v (.bool na), .v (.slice ad xs.length cap)]⟩]) (G := []) (hs := []) (gs := []) (is := [5, 6, 7]) (ks := [37, 36, 8, 9, 1, 2, 7]) (f' := 2)
                  (L' := [(37, .v (.agg #[.bool nr, .slice rd r.length rc])), (36, .v (.agg #[.bool nq, .slice qd q.length qc])), (8, .p 2 0), (9, .p 1 0), (1, .v (.int .i64 ((n : Nat) : Int))), (2, .p 0 0), (7, .v (.bool f))]) hS hI (by kernel_rfl) (fun _ _ _ _ _ h => h) (by kernel_rfl)
                  .nil (by kernel_rfl) (by kernel_rfl) (by kernel_rfl) (by rfl) (fun a86 hI => ?_)
              refine oneL (i := 10) (f' := 1) (by kernel_rfl) (by rfl) ?_
              refine effH tab (k := 3) (hh := .no) (r := ⟨.v (undef), [⟨2, 29, [.v (.bool nq), .v (.slice qd q.length qc)]⟩, ⟨1, 29, [.v (.bool false), .v (.slice none 0 0)]⟩, ⟨0, 29, [.v (.bool na), .v (.slice ad xs.length cap)]⟩], [], 3, _, true⟩) hR hI (by kernel_rfl) rfl rfl rfl (by kernel_rfl) .nil (fun e87 a87 w87 hag hR2 hI => ?_)
              replace hS := Rel.old (k := 3) hS hR hR2 hF hag [0] [] (by kernel_rfl) (by kernel_rfl) (by kernel_rfl); replace hR := hR2
              refine ⟨hS, ?_⟩
              refine wpL_env hag (by kernel_rfl) ?_
              replace hS := hS.agree (k := 3) (L := []) (Wf.of (by kernel_rfl)) hag
              replace hI := hI.sel [37, 36, 8, 9, 1, 2, 7] (by kernel_rfl : sel _ _ = some [(37, .v (.agg #[.bool nr, .slice rd r.length rc])), (36, .v (.agg #[.bool nq, .slice qd q.length qc])), (8, .p 2 0), (9, .p 1 0), (1, .v (.int .i64 ((n : Nat) : Int))), (2, .p 0 0), (7, .v (.bool f))])
              refine endL (i := 11) (f' := 0) (by kernel_rfl) (by rfl) (by kernel_rfl) ?_
              refine effH tab (k := 3) (hh := .no) (r := ⟨.v (undef), [⟨1, 29, [.v (.bool nr), .v (.slice rd r.length rc)]⟩, ⟨2, 29, [.v (.bool nq), .v (.slice qd q.length qc)]⟩, ⟨0, 29, [.v (.bool na), .v (.slice ad xs.length cap)]⟩], [], 3, _, true⟩) hR hI (by kernel_rfl) rfl rfl rfl (by kernel_rfl) .nil (fun e88 a88 w88 hag hR2 hI => ?_)
              replace hR := hR2; clear hR2
              replace hI := hI.sel [37, 36, 8, 9, 1, 2, 7] (by kernel_rfl : sel _ _ = some [(37, .v (.agg #[.bool nr, .slice rd r.length rc])), (36, .v (.agg #[.bool nq, .slice qd q.length qc])), (8, .p 2 0), (9, .p 1 0), (1, .v (.int .i64 ((n : Nat) : Int))), (2, .p 0 0), (7, .v (.bool f))])
              refine doneL (by kernel_rfl) ?_
              replace hI := hI.sel [9, 1, 2, 7] (by kernel_rfl : sel _ _ = some [(9, .p 1 0), (1, .v (.int .i64 ((n : Nat) : Int))), (2, .p 0 0), (7, .v (.bool f))]); replace hR := hR.sel [1, 0] [] (by kernel_rfl : selH _ _ = some [⟨1, 29, [.v (.bool nr), .v (.slice rd r.length rc)]⟩, ⟨0, 29, [.v (.bool na), .v (.slice ad xs.length cap)]⟩]) (by kernel_rfl : selG _ _ = some [])
              refine then_n ?_
              replace hR := hR.sel [0, 1] [] (by kernel_rfl : selH _ _ = some [⟨0, 29, [.v (.bool na), .v (.slice ad xs.length cap)]⟩, ⟨1, 29, [.v (.bool nr), .v (.slice rd r.length rc)]⟩]) (by kernel_rfl : selG _ _ = some [])
              replace hI := hI.sel [9, 1, 2, 7] (by kernel_rfl : sel _ _ = some [(9, .p 1 0), (1, .v (.int .i64 ((n : Nat) : Int))), (2, .p 0 0), (7, .v (.bool f))])
              have hren_ : Sy.ren [(1, 1)] ⟨[(9, .p 1 0), (1, .v (.int .i64 ((n : Nat) : Int))), (2, .p 0 0), (7, .v (.bool f))], [⟨0, 29, [.v (.bool na), .v (.slice ad xs.length cap)]⟩, ⟨1, 29, [.v (.bool nr), .v (.slice rd r.length rc)]⟩], [], 0⟩ = ⟨[(9, .p 1 0), (1, .v (.int .i64 ((n : Nat) : Int))), (2, .p 0 0), (7, .v (.bool f))], [⟨0, 29, [.v (.bool na), .v (.slice ad xs.length cap)]⟩, ⟨1, 29, [.v (.bool nr), .v (.slice rd r.length rc)]⟩], [], 0⟩ := by kernel_rfl
              replace hI := hI.rename (S := ⟨[(9, .p 1 0), (1, .v (.int .i64 ((n : Nat) : Int))), (2, .p 0 0), (7, .v (.bool f))], [⟨0, 29, [.v (.bool na), .v (.slice ad xs.length cap)]⟩, ⟨1, 29, [.v (.bool nr), .v (.slice rd r.length rc)]⟩], [], 0⟩) (S' := ⟨[(9, .p 1 0), (1, .v (.int .i64 ((n : Nat) : Int))), (2, .p 0 0), (7, .v (.bool f))], [⟨0, 29, [.v (.bool na), .v (.slice ad xs.length cap)]⟩, ⟨1, 29, [.v (.bool nr), .v (.slice rd r.length rc)]⟩], [], 0⟩) hren_; replace hR := hR.rename (S := ⟨[(9, .p 1 0), (1, .v (.int .i64 ((n : Nat) : Int))), (2, .p 0 0), (7, .v (.bool f))], [⟨0, 29, [.v (.bool na), .v (.slice ad xs.length cap)]⟩, ⟨1, 29, [.v (.bool nr), .v (.slice rd r.length rc)]⟩], [], 0⟩) (S' := ⟨[(9, .p 1 0), (1, .v (.int .i64 ((n : Nat) : Int))), (2, .p 0 0), (7, .v (.bool f))], [⟨0, 29, [.v (.bool na), .v (.slice ad xs.length cap)]⟩, ⟨1, 29, [.v (.bool nr), .v (.slice rd r.length rc)]⟩], [], 0⟩) hren_ (by kernel_rfl) (by kernel_rfl); dsimp only at hI hR; clear hren_
              exact ⟨(nr, rd, rc, r), _, _, _, _, hB, hr, hR.sel [0, 1] [] (by kernel_rfl) (by kernel_rfl), hI.sel [1, 2, 7, 9] (by kernel_rfl)⟩
        · clear hR hI hB
          rintro ⟨nr, rd, rc, r⟩ e89 C89 F89 wb89 a89 w89 hB hp hR hI
          dsimp only at hp hR hI
          have hr := hp
          refine regL 5 hR (by kernel_rfl) (fun hS => ?_)
          replace hR := hR.drew; have hF := hR.fore
          refine takeL tab (H := [⟨0, 29, [.v (.bool na), .v (.slice ad xs.length cap)]⟩, ⟨1, 29, [.v (.bool nr), .v (.slice rd r.length rc)]⟩]) (G := []) (hs := [(2, .nw)]) (gs := []) (is := [0, 1, 2]) (ks := [40, 38, 1, 2, 7]) (f' := 3)
              (L' := [(40, .v (.int .i64 ((64 * n : Nat) : Int))), (38, .agg [.v (.bool nr), .v (.slice rd r.length rc)]), (1, .v (.int .i64 ((n : Nat) : Int))), (2, .p 0 0), (7, .v (.bool f))]) hS hI (by kernel_rfl) (fun _ _ _ _ _ h => h) (by kernel_rfl)
              (.cons (inR_i64 (n := (64 : Int) * ((n : Nat) : Int)) (by omega)) .nil) (by kernel_rfl) (by kernel_rfl) (by kernel_rfl) (by rfl) (fun a90 hI => ?_)
          refine oneL (i := 3) (f' := 2) (by kernel_rfl) (by rfl) ?_
          refine callH (ys := [.v (.int .i64 ((64 * n : Nat) : Int))]) hI rfl rfl ⟨_, rfl, rfl, rfl⟩ (by kernel_rfl) Try.func37 rfl rfl ?_
          refine (two_spec (C := Now hB) (n := 64 * n) (by omega)).mono ?_
          rintro ex w91 ⟨np, pd, pc, p, rfl, hk, hp⟩
          replace hF := hF.grow hR hk; replace hS := hS.same hk
          replace hr := hr.next hB hR hk
          have hB_ := hB.next hR hk
          replace hR := hR.after hk
          replace hB := hB_; clear hB_ hk
          refine ⟨_, rfl, hS, ?_⟩
          replace hI := hI.put (d := some 41) (x := .v (.agg #[.bool np, .slice pd p.length pc])) (by intro t ht; cases ht; decide) rfl
          replace hI := hI.sel [41, 40, 38, 1, 2, 7] (by kernel_rfl : sel _ _ = some [(41, .v (.agg #[.bool np, .slice pd p.length pc])), (40, .v (.int .i64 ((64 * n : Nat) : Int))), (38, .agg [.v (.bool nr), .v (.slice rd r.length rc)]), (1, .v (.int .i64 ((n : Nat) : Int))), (2, .p 0 0), (7, .v (.bool f))])
          refine oneL (i := 4) (f' := 1) (by kernel_rfl) (by rfl) ?_
          refine callH (ys := [.agg [.v (.bool nr), .v (.slice rd r.length rc)], .v (.agg #[.bool np, .slice pd p.length pc])]) hI rfl rfl ⟨_, rfl, rfl, rfl⟩ (by kernel_rfl) Try.func41 rfl rfl ?_
          refine (wideAdd_spec (hr.now hB hR) (hp.now hB hR) (by omega)).mono ?_
          rintro ex w92 ⟨no, od, oc, o, rfl, hk, ho⟩
          replace hF := hF.grow hR hk; replace hS := hS.same hk
          replace hp := hp.next hB hR hk
          replace hr := hr.next hB hR hk
          have hB_ := hB.next hR hk
          replace hR := hR.after hk
          replace hB := hB_; clear hB_ hk
          refine ⟨_, rfl, hS, ?_⟩
          replace hI := hI.put (d := some 42) (x := .v (.agg #[.bool no, .slice od o.length oc])) (by intro t ht; cases ht; decide) rfl
          replace hI := hI.sel [42, 41, 40, 38, 1, 2, 7] (by kernel_rfl : sel _ _ = some [(42, .v (.agg #[.bool no, .slice od o.length oc])), (41, .v (.agg #[.bool np, .slice pd p.length pc])), (40, .v (.int .i64 ((64 * n : Nat) : Int))), (38, .agg [.v (.bool nr), .v (.slice rd r.length rc)]), (1, .v (.int .i64 ((n : Nat) : Int))), (2, .p 0 0), (7, .v (.bool f))])
          refine endL (i := 5) (f' := 0) (by kernel_rfl) (by rfl) (by kernel_rfl) ?_
          refine effH tab (k := 2) (hh := .no) (r := ⟨.v (undef), [⟨0, 29, [.v (.bool no), .v (.slice od o.length oc)]⟩, ⟨1, 29, [.v (.bool nr), .v (.slice rd r.length rc)]⟩], [], 2, _, true⟩) hR hI (by kernel_rfl) rfl rfl rfl (by kernel_rfl) .nil (fun e93 a93 w93 hag hR2 hI => ?_)
          replace hR := hR2; clear hR2
          replace hI := hI.sel [42, 41, 40, 38, 1, 2, 7] (by kernel_rfl : sel _ _ = some [(42, .v (.agg #[.bool no, .slice od o.length oc])), (41, .v (.agg #[.bool np, .slice pd p.length pc])), (40, .v (.int .i64 ((64 * n : Nat) : Int))), (38, .agg [.v (.bool nr), .v (.slice rd r.length rc)]), (1, .v (.int .i64 ((n : Nat) : Int))), (2, .p 0 0), (7, .v (.bool f))])
          refine doneL (by kernel_rfl) ?_
          replace hI := hI.sel [1, 2, 7] (by kernel_rfl : sel _ _ = some [(1, .v (.int .i64 ((n : Nat) : Int))), (2, .p 0 0), (7, .v (.bool f))]); replace hR := hR.sel [0] [] (by kernel_rfl : selH _ _ = some [⟨0, 29, [.v (.bool no), .v (.slice od o.length oc)]⟩]) (by kernel_rfl : selG _ _ = some [])
          refine then_n ?_
          exact ⟨(no, od, oc, o, _), _, _, _, _, hB, ⟨ho.to rfl (by omega), tmod_up (by exact_mod_cast Nat.two_pow_pos _)⟩, hR.sel [0] [] (by kernel_rfl) (by kernel_rfl), hI.sel [1, 2, 7] (by kernel_rfl)⟩
      · skip
        replace hI := hI.re 29 (.v (.bool false)) rfl (congrArg Value.bool hc18)
        try simp only [decide_eq_true_eq, decide_eq_false_iff_not, beq_iff_eq, bne_iff_ne, beq_eq_false_iff_ne, bne_eq_false_iff_eq, Bool.and_eq_true, Bool.and_eq_false_iff, Bool.or_eq_true, Bool.or_eq_false_iff, Bool.not_eq_true', Bool.not_eq_false', ne_eq] at hc18
        have hna := hc18
        refine wp_skip ?_
        refine then_n ?_
        exact ⟨(na, ad, cap, xs, a), _, _, _, _, hB, ⟨ha.to rfl (by omega), by rw [← ha.eq, hna]; exact Int.natCast_nonneg _, rfl⟩, hR.sel [0] [] (by kernel_rfl) (by kernel_rfl), hI.sel [1, 2, 7] (by kernel_rfl)⟩
    · clear hR hI hB
      rintro ⟨nz, zd, zc, zs, z⟩ e94 C94 F94 wb94 a94 w94 hB hp hR hI
      dsimp only at hp hR hI
      obtain ⟨hz, hz0, hzm⟩ := hp; have hrz := hz.sl.room; have hmz := hz.sl.max; have hzd := hz.sl.dig
      refine reg_seq tab (k := 1) (hs := []) (sy := []) (ks := [10, 2, 7]) (bs := [0]) (gs := [1])
          (L' := [(10, .row 1), (2, .p 0 0), (7, .v (.bool f))])
          (H' := [⟨0, 29, [.v (.bool nz), .v (.slice zd zs.length zc)]⟩]) (G' := [⟨1, 35, 1, n, (List.replicate n (.int .u64 0))⟩]) (k' := 2) hR hI (by kernel_rfl)
          (.cons (by omega : (0 : Int) ≤ ((n : Nat) : Int) ∧ ((n : Nat) : Int) ≤ ((n : Nat) : Int)) (.cons (by omega : ((8 : Nat) : Int) * ((n : Nat) : Int) ≤ 281474976710656) (.cons (by have hm_ : maxLen = 9223372036854775807 := rfl; rw [hm_]; omega : n ≤ maxLen) .nil))) (fun e95 a95 w95 hag hR hI => ?_)
      have er_ : List.replicate n (Value.int .u64 0) = ints .u64 (List.replicate n 0) := ints_replicate .u64 n 0
      rw [er_] at hR
      have hren_ : Sy.ren [(1, 1)] ⟨[(10, .row 1), (2, .p 0 0), (7, .v (.bool f))], [⟨0, 29, [.v (.bool nz), .v (.slice zd zs.length zc)]⟩], [⟨1, 35, 1, n, (ints .u64 (List.replicate n 0))⟩], 0⟩ = ⟨[(10, .row 1), (2, .p 0 0), (7, .v (.bool f))], [⟨0, 29, [.v (.bool nz), .v (.slice zd zs.length zc)]⟩], [⟨1, 35, 1, n, (ints .u64 (List.replicate n 0))⟩], 0⟩ := by kernel_rfl
      replace hI := hI.rename (S := ⟨[(10, .row 1), (2, .p 0 0), (7, .v (.bool f))], [⟨0, 29, [.v (.bool nz), .v (.slice zd zs.length zc)]⟩], [⟨1, 35, 1, n, (ints .u64 (List.replicate n 0))⟩], 0⟩) (S' := ⟨[(10, .row 1), (2, .p 0 0), (7, .v (.bool f))], [⟨0, 29, [.v (.bool nz), .v (.slice zd zs.length zc)]⟩], [⟨1, 35, 1, n, (ints .u64 (List.replicate n 0))⟩], 0⟩) hren_; replace hR := hR.rename (S := ⟨[(10, .row 1), (2, .p 0 0), (7, .v (.bool f))], [⟨0, 29, [.v (.bool nz), .v (.slice zd zs.length zc)]⟩], [⟨1, 35, 1, n, (ints .u64 (List.replicate n 0))⟩], 0⟩) (S' := ⟨[(10, .row 1), (2, .p 0 0), (7, .v (.bool f))], [⟨0, 29, [.v (.bool nz), .v (.slice zd zs.length zc)]⟩], [⟨1, 35, 1, n, (ints .u64 (List.replicate n 0))⟩], 0⟩) hren_ (by kernel_rfl) (by kernel_rfl); dsimp only at hI hR; clear hren_
      refine wp_seq ?_
      refine reg_seq tab (k := 2) (hs := []) (sy := []) (ks := [47, 46, 10, 2, 7]) (bs := [0]) (gs := [1])
          (L' := [(47, .v (.int .i64 0)), (46, .v (.int .i64 ((n : Nat) : Int))), (10, .row 1), (2, .p 0 0), (7, .v (.bool f))])
          (H' := [⟨0, 29, [.v (.bool nz), .v (.slice zd zs.length zc)]⟩]) (G' := [⟨1, 35, 1, n, (ints .u64 (List.replicate n 0))⟩]) (k' := 2) hR hI (by kernel_rfl)
          .nil (fun e96 a96 w96 hag hR hI => ?_)
      refine wp_block ?_
      refine lp (γ := Nat × List Nat) (fun (i, ws) => (⟨[(2, .p 0 0), (7, .v (.bool f)), (10, .row 1), (46, .v (.int .i64 ((n : Nat) : Int))), (47, .v (.int .i64 ((i : Nat) : Int)))], [⟨0, 29, [.v (.bool nz), .v (.slice zd zs.length zc)]⟩], [⟨1, 35, 1, n, (ints .u64 ws)⟩], 2⟩ : Sy)) (fun (i, ws) e => ws.length = n ∧ i ≤ n ∧ (∀ d ∈ ws, d < 18446744073709551616) ∧ wval (ws.take i) = val (zs.take (2 * i)) ∧ ∀ j, i ≤ j → ws.getD j 0 = 0) (fun (i, ws) => n - i) (0, List.replicate n 0) (⟨List.length_replicate .., Nat.zero_le _, fun d h => by have := List.eq_of_mem_replicate h; omega, by simp [wval, val], fun j _ => by simp [List.getD_eq_getElem?_getD, List.getElem?_replicate]; split <;> rfl⟩)
          (hR.sel [0] [1] (by kernel_rfl) (by kernel_rfl)) (hI.sel [2, 7, 10, 46, 47] (by kernel_rfl)) ?_
      clear hR hI
      rintro ⟨i, ws⟩ e97 a97 w97 hp hR hI
      dsimp only at hp hR hI
      obtain ⟨hwl, hwn, hwd, hwv, hwz⟩ := hp
      refine reg_seq tab (k := 2) (hs := []) (sy := []) (ks := [48, 2, 7, 10, 46, 47]) (bs := [0]) (gs := [1])
          (L' := [(48, .v (.bool (decide (((i : Nat) : Int) < ((n : Nat) : Int))))), (2, .p 0 0), (7, .v (.bool f)), (10, .row 1), (46, .v (.int .i64 ((n : Nat) : Int))), (47, .v (.int .i64 ((i : Nat) : Int)))])
          (H' := [⟨0, 29, [.v (.bool nz), .v (.slice zd zs.length zc)]⟩]) (G' := [⟨1, 35, 1, n, (ints .u64 ws)⟩]) (k' := 2) hR hI (by kernel_rfl)
          .nil (fun e98 a98 w98 hag hR hI => ?_)
      refine wp_seq ?_
      refine cnd (b := decide (((i : Nat) : Int) < ((n : Nat) : Int))) hI (by kernel_rfl) (fun hc99 => ?_) (fun hc99 => ?_)
      · skip
        replace hI := hI.re 48 (.v (.bool true)) rfl (congrArg Value.bool hc99)
        try simp only [decide_eq_true_eq, decide_eq_false_iff_not, beq_iff_eq, bne_iff_ne, beq_eq_false_iff_ne, bne_eq_false_iff_eq, Bool.and_eq_true, Bool.and_eq_false_iff, Bool.or_eq_true, Bool.or_eq_false_iff, Bool.not_eq_true', Bool.not_eq_false', ne_eq] at hc99
        refine wp_skip ?_
        refine then_n ?_
        refine wp_seq ?_
        refine wp_block ?_
        refine reg_seq tab (k := 2) (hs := []) (sy := []) (ks := [11, 2, 7, 10, 46, 47]) (bs := [0]) (gs := [1])
            (L' := [(11, .v (.int .i64 ((i : Nat) : Int))), (2, .p 0 0), (7, .v (.bool f)), (10, .row 1), (46, .v (.int .i64 ((n : Nat) : Int))), (47, .v (.int .i64 ((i : Nat) : Int)))])
            (H' := [⟨0, 29, [.v (.bool nz), .v (.slice zd zs.length zc)]⟩]) (G' := [⟨1, 35, 1, n, (ints .u64 ws)⟩]) (k' := 2) hR hI (by kernel_rfl)
            .nil (fun e100 a100 w100 hag hR hI => ?_)
        refine reg_seq tab (k := 2) (hs := []) (sy := []) (ks := [12, 11, 2, 7, 10, 46, 47]) (bs := [0]) (gs := [1])
            (L' := [(12, .v (.int .i64 0)), (11, .v (.int .i64 ((i : Nat) : Int))), (2, .p 0 0), (7, .v (.bool f)), (10, .row 1), (46, .v (.int .i64 ((n : Nat) : Int))), (47, .v (.int .i64 ((i : Nat) : Int)))])
            (H' := [⟨0, 29, [.v (.bool nz), .v (.slice zd zs.length zc)]⟩]) (G' := [⟨1, 35, 1, n, (ints .u64 ws)⟩]) (k' := 2) hR hI (by kernel_rfl)
            .nil (fun e101 a101 w101 hag hR hI => ?_)
        refine wp_block ?_
        have es_ := set_part_zero (zs := zs) (i := i) (by omega : i < ws.length) (hwz i (Nat.le_refl _))
        rw [← es_] at hR
        refine lp (γ := Nat) (fun k => (⟨[(2, .p 0 0), (7, .v (.bool f)), (10, .row 1), (46, .v (.int .i64 ((n : Nat) : Int))), (47, .v (.int .i64 ((i : Nat) : Int))), (11, .v (.int .i64 ((i : Nat) : Int))), (12, .v (.int .i64 ((k : Nat) : Int)))], [⟨0, 29, [.v (.bool nz), .v (.slice zd zs.length zc)]⟩], [⟨1, 35, 1, n, (ints .u64 (ws.set i (wpart zs i k)))⟩], 2⟩ : Sy)) (fun k e => k ≤ 2) (fun k => 2 - k) (0) (by decide)
            (hR.sel [0] [1] (by kernel_rfl) (by kernel_rfl)) (hI.sel [2, 7, 10, 46, 47, 11, 12] (by kernel_rfl)) ?_
        clear hR hI
        rintro k e102 a102 w102 hp hR hI
        dsimp only at hp hR hI
        have hk2 := hp; have hgd := dig_get hzd (2 * i + k)
        refine wp_seq ?_
        refine reg_seq tab (k := 2) (hs := []) (sy := []) (ks := [51, 2, 7, 10, 46, 47, 11, 12]) (bs := [0]) (gs := [1])
            (L' := [(51, .v (.bool (decide (((k : Nat) : Int) < (2 : Int))))), (2, .p 0 0), (7, .v (.bool f)), (10, .row 1), (46, .v (.int .i64 ((n : Nat) : Int))), (47, .v (.int .i64 ((i : Nat) : Int))), (11, .v (.int .i64 ((i : Nat) : Int))), (12, .v (.int .i64 ((k : Nat) : Int)))])
            (H' := [⟨0, 29, [.v (.bool nz), .v (.slice zd zs.length zc)]⟩]) (G' := [⟨1, 35, 1, n, (ints .u64 (ws.set i (wpart zs i k)))⟩]) (k' := 2) hR hI (by kernel_rfl)
            .nil (fun e103 a103 w103 hag hR hI => ?_)
        refine cnd (b := decide (((k : Nat) : Int) < (2 : Int))) hI (by kernel_rfl) (fun hc104 => ?_) (fun hc104 => ?_)
        · skip
          replace hI := hI.re 51 (.v (.bool true)) rfl (congrArg Value.bool hc104)
          try simp only [decide_eq_true_eq, decide_eq_false_iff_not, beq_iff_eq, bne_iff_ne, beq_eq_false_iff_ne, bne_eq_false_iff_eq, Bool.and_eq_true, Bool.and_eq_false_iff, Bool.or_eq_true, Bool.or_eq_false_iff, Bool.not_eq_true', Bool.not_eq_false', ne_eq] at hc104
          refine wp_skip ?_
          refine then_n ?_
          refine wp_seq ?_
          refine wp_block ?_
          refine reg_seq tab (k := 2) (hs := [(1, .nw), (3, .nw)]) (sy := []) (ks := [61, 2, 7, 10, 46, 47, 11, 12]) (bs := [0]) (gs := [1])
              (L' := [(61, .v (.bool (decide ((((2 * i) + k : Nat) : Int) < ((zs.length : Nat) : Int))))), (2, .p 0 0), (7, .v (.bool f)), (10, .row 1), (46, .v (.int .i64 ((n : Nat) : Int))), (47, .v (.int .i64 ((i : Nat) : Int))), (11, .v (.int .i64 ((i : Nat) : Int))), (12, .v (.int .i64 ((k : Nat) : Int)))])
              (H' := [⟨0, 29, [.v (.bool nz), .v (.slice zd zs.length zc)]⟩]) (G' := [⟨1, 35, 1, n, (ints .u64 (ws.set i (wpart zs i k)))⟩]) (k' := 2) hR hI (by kernel_rfl)
              (.cons (inR_i64 (n := (2 : Int) * ((i : Nat) : Int)) (by omega)) (.cons (inR_i64 (n := ((2 * i : Nat) : Int) + ((k : Nat) : Int)) (by omega)) .nil)) (fun e105 a105 w105 hag hR hI => ?_)
          refine cnd (b := decide ((((2 * i) + k : Nat) : Int) < ((zs.length : Nat) : Int))) hI (by kernel_rfl) (fun hc106 => ?_) (fun hc106 => ?_)
          · skip
            replace hI := hI.re 61 (.v (.bool true)) rfl (congrArg Value.bool hc106)
            try simp only [decide_eq_true_eq, decide_eq_false_iff_not, beq_iff_eq, bne_iff_ne, beq_eq_false_iff_ne, bne_eq_false_iff_eq, Bool.and_eq_true, Bool.and_eq_false_iff, Bool.or_eq_true, Bool.or_eq_false_iff, Bool.not_eq_true', Bool.not_eq_false', ne_eq] at hc106
            refine regL 18 hR (by kernel_rfl) (fun hS => ?_)
            replace hR := hR.drew; have hF := hR.fore
            refine takeL tab (H := [⟨0, 29, [.v (.bool nz), .v (.slice zd zs.length zc)]⟩]) (G := [⟨1, 35, 1, n, (ints .u64 (ws.set i (wpart zs i k)))⟩]) (hs := [(3, .val (.v (.int .u64 ((wpart zs i k : Nat) : Int)))), (7, .nw), (9, .nw), (11, .val (.v (.int .u32 ((zs.getD ((2 * i) + k) 0 : Nat) : Int)))), (12, .nw), (14, .nw), (15, .eq (.int .u64 ((zs.getD (2 * i + k) 0 * pw k : Nat) : Int))), (16, .eq (.int .u64 ((wpart zs i k + pw k * zs.getD (2 * i + k) 0 : Nat) : Int)))]) (gs := []) (is := [0, 1, 2, 3, 4, 5, 6, 7, 8, 9, 10, 11, 12, 13, 14, 15, 16, 17]) (ks := [79, 78, 2, 7, 10, 46, 47, 11, 12]) (f' := 1)
                (L' := [(79, .pr 1 i), (78, .v (.int .u64 ((wpart zs i k + pw k * zs.getD (2 * i + k) 0 : Nat) : Int))), (2, .p 0 0), (7, .v (.bool f)), (10, .row 1), (46, .v (.int .i64 ((n : Nat) : Int))), (47, .v (.int .i64 ((i : Nat) : Int))), (11, .v (.int .i64 ((i : Nat) : Int))), (12, .v (.int .i64 ((k : Nat) : Int)))]) hS hI (by kernel_rfl) (fun _ _ _ _ _ h => h) (by kernel_rfl)
                (.cons (by omega : (0 : Int) ≤ ((i : Nat) : Int) ∧ ((i : Nat) : Int) < ((n : Nat) : Int)) (.cons ((ints_get (by rw [List.length_set]; omega)).trans (by rw [getD_set_same (by omega)]) : (ints .u64 (ws.set i (wpart zs i k)))[i]? = some (.int .u64 ((wpart zs i k : Nat) : Int))) (.cons (by omega : i < n * 1) (.cons (inR_i64 (n := (2 : Int) * ((i : Nat) : Int)) (by omega)) (.cons (inR_i64 (n := ((2 * i : Nat) : Int) + ((k : Nat) : Int)) (by omega)) (.cons (by omega : (0 : Int) ≤ (((2 * i) + k : Nat) : Int) ∧ (((2 * i) + k : Nat) : Int) < ((zs.length : Nat) : Int)) (.cons (nats_some (i := (2 * i) + k) (hz.cells.mono hB.cls) (by omega)) (.cons (nats_load (i := (2 * i) + k) (m := 1) (hz.cells.mono hB.cls) (by omega)) (.cons (inR_u64 (n := ((zs.getD ((2 * i) + k) 0 : Nat) : Int)) (by omega)) (.cons (inR_i64 (n := (32 : Int) * ((k : Nat) : Int)) (by omega)) (.cons (congrArg (Value.int .u64) (shl_digit _ _ (dig_get hzd _) (by omega) : IntKind.u64.wrap (((zs.getD ((2 * i) + k) 0 : Nat) : Int) * 2 ^ (32 * k)) = ((zs.getD (2 * i + k) 0 * pw k : Nat) : Int))) (.cons (by omega : (0 : Int) ≤ ((32 * k : Nat) : Int)) (.cons (by show _ ≤ (64 : Int); omega : ((32 * k : Nat) : Int) ≤ (IntKind.u64.bits : Int)) (.cons (congrArg (Value.int .u64) (u64_orpart _ _ _ (wpart_lt hzd _ _) (dig_get hzd _) (by omega) : bits .or .u64 ((wpart zs i k : Nat) : Int) ((zs.getD (2 * i + k) 0 * pw k : Nat) : Int) = ((wpart zs i k + pw k * zs.getD (2 * i + k) 0 : Nat) : Int))) (.cons (by omega : (0 : Int) ≤ ((i : Nat) : Int) ∧ ((i : Nat) : Int) < ((n : Nat) : Int)) .nil))))))))))))))) (by kernel_rfl) (by kernel_rfl) (by kernel_rfl) (by rfl) (fun a107 hI => ?_)
            refine endL (i := 18) (f' := 0) (by kernel_rfl) (by rfl) (by kernel_rfl) ?_
            refine effH tab (k := 2) (hh := .no) (r := ⟨.v (undef), [⟨0, 29, [.v (.bool nz), .v (.slice zd zs.length zc)]⟩], [⟨1, 35, 1, n, ((ints .u64 (ws.set i (wpart zs i k))).set i (.int .u64 ((wpart zs i k + pw k * zs.getD (2 * i + k) 0 : Nat) : Int)))⟩], 2, _, true⟩) hR hI (by kernel_rfl) rfl rfl rfl (by kernel_rfl) (.cons (by omega : i < n * 1) .nil) (fun e108 a108 w108 hag hR2 hI => ?_)
            replace hR := hR2; clear hR2
            replace hI := hI.sel [79, 78, 2, 7, 10, 46, 47, 11, 12] (by kernel_rfl : sel _ _ = some [(79, .pr 1 i), (78, .v (.int .u64 ((wpart zs i k + pw k * zs.getD (2 * i + k) 0 : Nat) : Int))), (2, .p 0 0), (7, .v (.bool f)), (10, .row 1), (46, .v (.int .i64 ((n : Nat) : Int))), (47, .v (.int .i64 ((i : Nat) : Int))), (11, .v (.int .i64 ((i : Nat) : Int))), (12, .v (.int .i64 ((k : Nat) : Int)))])
            refine doneL (by kernel_rfl) ?_
            replace hI := hI.sel [2, 7, 10, 46, 47, 11, 12] (by kernel_rfl : sel _ _ = some [(2, .p 0 0), (7, .v (.bool f)), (10, .row 1), (46, .v (.int .i64 ((n : Nat) : Int))), (47, .v (.int .i64 ((i : Nat) : Int))), (11, .v (.int .i64 ((i : Nat) : Int))), (12, .v (.int .i64 ((k : Nat) : Int)))]); replace hR := hR.sel [0] [1] (by kernel_rfl : selH _ _ = some [⟨0, 29, [.v (.bool nz), .v (.slice zd zs.length zc)]⟩]) (by kernel_rfl : selG _ _ = some [⟨1, 35, 1, n, ((ints .u64 (ws.set i (wpart zs i k))).set i (.int .u64 ((wpart zs i k + pw k * zs.getD (2 * i + k) 0 : Nat) : Int)))⟩])
            refine normal_block ?_
            refine then_n ?_
            refine reg_all tab (k := 2) (hs := [(1, .nw)]) (sy := []) (ks := [12, 2, 7, 10, 46, 47, 11]) (bs := [0]) (gs := [1])
                (L' := [(12, .v (.int .i64 ((k + 1 : Nat) : Int))), (2, .p 0 0), (7, .v (.bool f)), (10, .row 1), (46, .v (.int .i64 ((n : Nat) : Int))), (47, .v (.int .i64 ((i : Nat) : Int))), (11, .v (.int .i64 ((i : Nat) : Int)))])
                (H' := [⟨0, 29, [.v (.bool nz), .v (.slice zd zs.length zc)]⟩]) (G' := [⟨1, 35, 1, n, ((ints .u64 (ws.set i (wpart zs i k))).set i (.int .u64 ((wpart zs i k + pw k * zs.getD (2 * i + k) 0 : Nat) : Int)))⟩]) (k' := 2) hR hI (by kernel_rfl)
                (.cons (inR_i64 (n := ((k : Nat) : Int) + (1 : Int)) (by omega)) .nil) (fun e109 a109 w109 hag hR hI => ?_)
            refine then_n ?_
            rw [ints_set, List.set_set, ← wpart_succ] at hR
            exact ⟨k + 1, e109, by omega, by (try dsimp only); omega, hR.sel [0] [1] (by kernel_rfl) (by kernel_rfl), hI.sel [2, 7, 10, 46, 47, 11, 12] (by kernel_rfl)⟩
          · skip
            replace hI := hI.re 61 (.v (.bool false)) rfl (congrArg Value.bool hc106)
            try simp only [decide_eq_true_eq, decide_eq_false_iff_not, beq_iff_eq, bne_iff_ne, beq_eq_false_iff_ne, bne_eq_false_iff_eq, Bool.and_eq_true, Bool.and_eq_false_iff, Bool.or_eq_true, Bool.or_eq_false_iff, Bool.not_eq_true', Bool.not_eq_false', ne_eq] at hc106
            refine wp_skip ?_
            refine normal_block ?_
            refine then_n ?_
            refine reg_all tab (k := 2) (hs := [(1, .nw)]) (sy := []) (ks := [12, 2, 7, 10, 46, 47, 11]) (bs := [0]) (gs := [1])
                (L' := [(12, .v (.int .i64 ((k + 1 : Nat) : Int))), (2, .p 0 0), (7, .v (.bool f)), (10, .row 1), (46, .v (.int .i64 ((n : Nat) : Int))), (47, .v (.int .i64 ((i : Nat) : Int))), (11, .v (.int .i64 ((i : Nat) : Int)))])
                (H' := [⟨0, 29, [.v (.bool nz), .v (.slice zd zs.length zc)]⟩]) (G' := [⟨1, 35, 1, n, (ints .u64 (ws.set i (wpart zs i k)))⟩]) (k' := 2) hR hI (by kernel_rfl)
                (.cons (inR_i64 (n := ((k : Nat) : Int) + (1 : Int)) (by omega)) .nil) (fun e110 a110 w110 hag hR hI => ?_)
            refine then_n ?_
            have ew_ := wpart_out (zs := zs) (i := i) (k := k) (by omega)
            rw [← ew_] at hR
            exact ⟨k + 1, e110, by omega, by (try dsimp only); omega, hR.sel [0] [1] (by kernel_rfl) (by kernel_rfl), hI.sel [2, 7, 10, 46, 47, 11, 12] (by kernel_rfl)⟩
        · skip
          replace hI := hI.re 51 (.v (.bool false)) rfl (congrArg Value.bool hc104)
          try simp only [decide_eq_true_eq, decide_eq_false_iff_not, beq_iff_eq, bne_iff_ne, beq_eq_false_iff_ne, bne_eq_false_iff_eq, Bool.and_eq_true, Bool.and_eq_false_iff, Bool.or_eq_true, Bool.or_eq_false_iff, Bool.not_eq_true', Bool.not_eq_false', ne_eq] at hc104
          refine wp_exit ?_
          refine exit_then ?_
          refine exit_then ?_
          refine exit_hit ?_
          refine normal_block ?_
          refine then_n ?_
          refine reg_all tab (k := 2) (hs := [(0, .nw)]) (sy := []) (ks := [47, 2, 7, 10, 46]) (bs := [0]) (gs := [1])
              (L' := [(47, .v (.int .i64 ((i + 1 : Nat) : Int))), (2, .p 0 0), (7, .v (.bool f)), (10, .row 1), (46, .v (.int .i64 ((n : Nat) : Int)))])
              (H' := [⟨0, 29, [.v (.bool nz), .v (.slice zd zs.length zc)]⟩]) (G' := [⟨1, 35, 1, n, (ints .u64 (ws.set i (wpart zs i k)))⟩]) (k' := 2) hR hI (by kernel_rfl)
              (.cons (inR_i64 (n := ((i : Nat) : Int) + (1 : Int)) (by omega)) .nil) (fun e111 a111 w111 hag hR hI => ?_)
          refine then_n ?_
          have hk_ : k = 2 := by omega
          rw [hk_] at hR
          exact ⟨(i + 1, ws.set i (wpart zs i 2)), e111, part_next hwl (by omega) hzd hwd hwv hwz, by (try dsimp only); omega, hR.sel [0] [1] (by kernel_rfl) (by kernel_rfl), hI.sel [2, 7, 10, 46, 47] (by kernel_rfl)⟩
      · skip
        replace hI := hI.re 48 (.v (.bool false)) rfl (congrArg Value.bool hc99)
        try simp only [decide_eq_true_eq, decide_eq_false_iff_not, beq_iff_eq, bne_iff_ne, beq_eq_false_iff_ne, bne_eq_false_iff_eq, Bool.and_eq_true, Bool.and_eq_false_iff, Bool.or_eq_true, Bool.or_eq_false_iff, Bool.not_eq_true', Bool.not_eq_false', ne_eq] at hc99
        refine wp_exit ?_
        refine exit_then ?_
        refine exit_then ?_
        refine exit_hit ?_
        refine then_n ?_
        refine reg_seq tab (k := 2) (hs := []) (sy := []) (ks := [5, 4]) (bs := []) (gs := [1])
            (L' := [(5, .v (.bool f)), (4, .row 1)])
            (H' := []) (G' := [⟨1, 35, 1, n, (ints .u64 ws)⟩]) (k' := 2) hR hI (by kernel_rfl)
            .nil (fun e112 a112 w112 hag hR hI => ?_)
        refine wp_ret ?_
        obtain ⟨hB_, hR_, hrel_, wd, wc, hv_, hcells_, hlen_, hcap_, hmax_⟩ := hB.release hR (y := ⟨1, 35, 1, n, (ints .u64 ws)⟩) (by simp) rfl _ dropN_mem
        replace hz := hz.rel hrel_
        have hw : Sl .u64 18446744073709551616 _ _ wd wc ws := ⟨hcells_, hwd, (by dsimp only at hlen_ hcap_; rw [ints_length] at hlen_; omega), hmax_⟩
        replace hI := hI.re 4 (.v (.slice wd n wc)) rfl hv_
        replace hB := hB_; replace hR := hR_.sel [] [] (by kernel_rfl : selH _ _ = some []) (by kernel_rfl : selG _ _ = some []); clear hB_ hR_ hrel_ hcells_ hv_
        replace hI := hI.re 4 (.v (.slice wd ws.length wc)) rfl (by simp only [den]; rw [hwl])
        refine outN tab (xs := [.v (.slice wd ws.length wc), .v (.bool f)]) hR hI rfl (by kernel_rfl) ?_
        exact ⟨ws, wd, wc, by rw [hf]; rfl, hB.fin hR, hw.fin hB hR, hwl, words_done hzd (by omega) (sg_nonneg hz.sign hz.eq hz0) hzm hwl hwv⟩

end Go.Proofs.Yteipgknmhpilfaa.Stride
