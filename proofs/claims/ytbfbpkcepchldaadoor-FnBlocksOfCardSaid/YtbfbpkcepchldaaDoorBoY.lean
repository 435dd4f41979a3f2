/- Walks of the program's functions, printed by a program of mine (walk.py) over the words of Stride: each function's contract. -/
import Derived.Test.YtbfbpkcepchldaaDoorBoX
namespace Go.Proofs.YtbfbpkcepchldaaDoor.Stride
open Go Go.RowKit Go.Proofs.YtbfbpkcepchldaaDoor.Mag
set_option linter.unusedVariables false
set_option linter.unusedSimpArgs false
theorem cut_all (ys : List Nat) (q : Nat) : (ys.drop q).take (ys.length - q) = ys.drop q := List.take_of_length_le (by rw [List.length_drop]; omega)
theorem count0_spec' {C : Nat → Prop} {w : World} {ad : Option Addr} {cap l n : Nat} {ys : List Nat} (hg : Sl .u8 256 C w (some (⟨1, 0, none⟩ : Addr)) 8 bitMask) (hx : Sl .u8 256 C w ad cap ys) (hs : ys.length ≤ 4096) (hn : n ≤ 8 * ys.length) (hl : l = ys.length) :
    Calls P 21 #[.slice ad l cap, .int .i64 0, .int .i64 ((n : Nat) : Int)] w fun ex w' => ex = .returned (.int .i64 ((cnt (bitN ys) n : Nat) : Int)) ∧ Keep (fun b => b < w.heap.size) w w' := by
  subst hl
  exact count0_spec hg hx hs hn
theorem cnt_split {ys : List Nat} {o m n q : Nat} (hm : m ≤ n) (hq : n - m = 0 ∨ 8 * q = o + m) : cnt (fun i => bitN ys (o + i)) n = cnt (fun i => bitN ys (o + i)) m + cnt (bitN (ys.drop q)) (n - m) := by
  have e : n = m + (n - m) := by omega
  rw [show cnt (fun i => bitN ys (o + i)) n = cnt (fun i => bitN ys (o + i)) (m + (n - m)) from congrArg _ e, cnt_add]
  congr 1
  rcases hq with hq | hq
  · rw [hq]; rfl
  · exact cnt_congr fun i hi => by rw [bitN_drop, hq]; congr 1; omega
theorem cnt_w {ys : List Nat} (hg : ∀ i, ys.getD i 0 < 256) (q : Nat) : cnt (le64 (ys.drop q)).testBit 64 = cnt (fun i => bitN ys (8 * q + i)) 64 :=
  cnt_congr fun i hi => by rw [le64_bit (fun j => by rw [getD_drop0]; exact hg _) hi, bitN_drop]
theorem cnt_s {ys : List Nat} (hg : ∀ i, ys.getD i 0 < 256) {q s v : Nat} (hs : 0 < s) (hs8 : s < 8) (hv : (s = 0 ∧ v = le64 (ys.drop q)) ∨ (0 < s ∧ v = (le64 (ys.drop q) / 2 ^ s ||| le64 (ys.drop (q + 8)) * 2 ^ (64 - s) % 18446744073709551616))) : cnt v.testBit 64 = cnt (fun i => bitN ys (s + (8 * q + i))) 64 := by
  rcases hv with ⟨h0, _⟩ | ⟨_, rfl⟩
  · omega
  · refine cnt_congr fun i hi => ?_
    have h := word_bits (ys := ys.drop q) (fun j => by rw [getD_drop0]; exact hg _) hs hs8 hi
    rw [List.drop_drop] at h
    rw [h, bitN_drop]; congr 1; omega
/-- A block of bits. -/
def StepR (most rem off : Nat) (ys : List Nat) (r c : Nat) : Prop := r ≤ most ∧ r ≤ rem ∧ (r = most ∨ r = rem) ∧ c = cnt (fun i => bitN ys (off + i)) r
theorem four {ys : List Nat} {o : Nat} : cnt (fun i => bitN ys (o + i)) 256 = cnt (fun i => bitN ys (o + (8 * 0 + i))) 64 + cnt (fun i => bitN ys (o + (8 * 8 + i))) 64 + cnt (fun i => bitN ys (o + (8 * 16 + i))) 64 + cnt (fun i => bitN ys (o + (8 * 24 + i))) 64 := by
  rw [show (256 : Nat) = 64 + (64 + (64 + 64)) from rfl, cnt_add, cnt_add, cnt_add]
  have e : ∀ a b : Nat, (fun i => bitN ys (o + (a + i))) = (fun i => bitN ys (o + (a + i))) := fun _ _ => rfl
  rw [show cnt (fun i => bitN ys (o + i)) 64 = cnt (fun i => bitN ys (o + (8 * 0 + i))) 64 from cnt_congr fun i _ => by congr 1; omega,
    show cnt (fun i => bitN ys (o + (64 + i))) 64 = cnt (fun i => bitN ys (o + (8 * 8 + i))) 64 from rfl,
    show cnt (fun i => bitN ys (o + (64 + (64 + i)))) 64 = cnt (fun i => bitN ys (o + (8 * 16 + i))) 64 from cnt_congr fun i _ => by congr 1; omega,
    show cnt (fun i => bitN ys (o + (64 + (64 + (64 + i))))) 64 = cnt (fun i => bitN ys (o + (8 * 24 + i))) 64 from cnt_congr fun i _ => by congr 1; omega]
  omega

set_option maxHeartbeats 4000000 in
set_option maxRecDepth 100000 in
theorem countO_spec {C : Nat → Prop} {w : World} {ad : Option Addr} {cap n o : Nat} {ys : List Nat} (hg : Sl .u8 256 C w (some (⟨1, 0, none⟩ : Addr)) 8 bitMask) (hx : Sl .u8 256 C w ad cap ys) (hs : ys.length ≤ 4096) (hn : o + n ≤ 8 * ys.length) :
    Calls P 23 #[.slice ad ys.length cap, .int .i64 ((o : Nat) : Int), .int .i64 ((n : Nat) : Int)] w fun ex w' => ex = .returned (.int .i64 ((cnt (fun i => bitN ys (o + i)) n : Nat) : Int)) ∧ Keep (fun b => b < w.heap.size) w w' := by
  refine doorN (e := e0) (vs := [.v (.slice ad ys.length cap), .v (.int .i64 ((o : Nat) : Int)), .v (.int .i64 ((n : Nat) : Int))]) (n := 47) (m := 3) Tryd.func23 rfl rfl rfl (by decide) fun a_ hI => ?_
  replace hI : Is 47 [] e0 [(0, .v (.slice ad ys.length cap)), (1, .v (.int .i64 ((o : Nat) : Int))), (2, .v (.int .i64 ((n : Nat) : Int)))] a_ := hI
  have hR : Rel (fun b => b < w.heap.size) w e0 [] [] w := Rel.start (fun k hk => hk)
  have hB : Base C w C (fun b => b < w.heap.size) w := Base.start
  have hrx := hx.room; have hmx := hx.max; have hcn := cnt_le (fun i => bitN ys (o + i))
  refine reg_seq tab (k := 0) (hs := []) (sy := []) (ks := [0, 1, 2]) (bs := []) (gs := [])
      (L' := [(0, .v (.slice ad ys.length cap)), (1, .v (.int .i64 ((o : Nat) : Int))), (2, .v (.int .i64 ((n : Nat) : Int)))])
      (H' := []) (G' := []) (k' := 0) hR hI (by kernel_rfl)
      .nil (fun e1 a1 w1 hag hR hI => ?_)
  refine reg_seq tab (k := 0) (hs := []) (sy := []) (ks := [7, 0, 1, 2]) (bs := []) (gs := [])
      (L' := [(7, .v (.int .i64 0)), (0, .v (.slice ad ys.length cap)), (1, .v (.int .i64 ((o : Nat) : Int))), (2, .v (.int .i64 ((n : Nat) : Int)))])
      (H' := []) (G' := []) (k' := 0) hR hI (by kernel_rfl)
      .nil (fun e2 a2 w2 hag hR hI => ?_)
  refine reg_seq tab (k := 0) (hs := []) (sy := []) (ks := [8, 7, 0, 1, 2]) (bs := []) (gs := [])
      (L' := [(8, .v (.int .i64 ((o : Nat) : Int))), (7, .v (.int .i64 0)), (0, .v (.slice ad ys.length cap)), (1, .v (.int .i64 ((o : Nat) : Int))), (2, .v (.int .i64 ((n : Nat) : Int)))])
      (H' := []) (G' := []) (k' := 0) hR hI (by kernel_rfl)
      .nil (fun e3 a3 w3 hag hR hI => ?_)
  refine wp_seq ?_
  refine reg (is := [0, 1, 2]) (by kernel_rfl) ?_
  refine part_ tab [0] [1, 2] (by rfl) (k := 0) (hs := []) (sy := []) (ks := [14, 8, 7, 0, 1, 2]) (bs := []) (gs := [])
      (L' := [(14, .v (.int .i64 ((o : Nat) : Int))), (8, .v (.int .i64 ((o : Nat) : Int))), (7, .v (.int .i64 0)), (0, .v (.slice ad ys.length cap)), (1, .v (.int .i64 ((o : Nat) : Int))), (2, .v (.int .i64 ((n : Nat) : Int)))])
      (H' := []) (G' := []) (k' := 0) hR hI (by kernel_rfl)
      .nil (fun e4 a4 w4 hag hR hI => ?_)
  refine callOp (ys := [.v (.int .i64 ((o : Nat) : Int)), .v (.int .i64 64)]) hI rfl rfl ⟨_, rfl, rfl, rfl⟩ (by kernel_rfl) Tryd.func27 rfl rfl ?_
  refine (roundUp_spec (C := C) (p := o) (by omega)).mono ?_
  rintro ex w5 ⟨rfl, hk⟩
  replace hR := hR.same hk; clear hk
  refine ⟨_, rfl, ?_⟩
  replace hI := hI.put (d := some 15) (x := .v (.int .i64 (((o + 63) / 64 * 64 : Nat) : Int))) (by intro t ht; cases ht; decide) rfl
  replace hI := hI.sel [15, 14, 8, 7, 0, 1, 2] (by kernel_rfl : sel _ _ = some [(15, .v (.int .i64 (((o + 63) / 64 * 64 : Nat) : Int))), (14, .v (.int .i64 ((o : Nat) : Int))), (8, .v (.int .i64 ((o : Nat) : Int))), (7, .v (.int .i64 0)), (0, .v (.slice ad ys.length cap)), (1, .v (.int .i64 ((o : Nat) : Int))), (2, .v (.int .i64 ((n : Nat) : Int)))])
  refine part_ tab [2] [] (by rfl) (k := 0) (hs := []) (sy := []) (ks := [9, 8, 7, 0, 1, 2]) (bs := []) (gs := [])
      (L' := [(9, .v (.int .i64 (((o + 63) / 64 * 64 : Nat) : Int))), (8, .v (.int .i64 ((o : Nat) : Int))), (7, .v (.int .i64 0)), (0, .v (.slice ad ys.length cap)), (1, .v (.int .i64 ((o : Nat) : Int))), (2, .v (.int .i64 ((n : Nat) : Int)))])
      (H' := []) (G' := []) (k' := 0) hR hI (by kernel_rfl)
      .nil (fun e6 a6 w6 hag hR hI => ?_)
  refine ops_nil ?_
  refine then_n ?_
  refine wp_seq ?_
  refine reg (is := [0, 1, 2, 3, 4, 5]) (by kernel_rfl) ?_
  refine part_ tab [0, 1, 2, 3] [4, 5] (by rfl) (k := 0) (hs := [(3, .eq (.int .i64 (((o + 63) / 64 * 64 - o : Nat) : Int)))]) (sy := []) (ks := [19, 16, 8, 7, 0, 1, 2]) (bs := []) (gs := [])
      (L' := [(19, .v (.int .i64 (((o + 63) / 64 * 64 - o : Nat) : Int))), (16, .v (.int .i64 ((n : Nat) : Int))), (8, .v (.int .i64 ((o : Nat) : Int))), (7, .v (.int .i64 0)), (0, .v (.slice ad ys.length cap)), (1, .v (.int .i64 ((o : Nat) : Int))), (2, .v (.int .i64 ((n : Nat) : Int)))])
      (H' := []) (G' := []) (k' := 0) hR hI (by kernel_rfl)
      (.cons (congrArg (Value.int .i64) (by rw [wrap_inR (inR_i64 (by omega))]; omega : IntKind.i64.wrap ((((o + 63) / 64 * 64 : Nat) : Int) - ((o : Nat) : Int)) = (((o + 63) / 64 * 64 - o : Nat) : Int))) .nil) (fun e7 a7 w7 hag hR hI => ?_)
  refine callOp (ys := [.v (.int .i64 ((n : Nat) : Int)), .v (.int .i64 (((o + 63) / 64 * 64 - o : Nat) : Int))]) hI rfl rfl ⟨_, rfl, rfl, rfl⟩ (by kernel_rfl) Tryd.func28 rfl rfl ?_
  refine (min_spec (C := C) n ((o + 63) / 64 * 64 - o)).mono ?_
  rintro ex w8 ⟨rfl, hk⟩
  replace hR := hR.same hk; clear hk
  obtain ⟨m, hm⟩ : ∃ m, m = min n ((o + 63) / 64 * 64 - o) := ⟨_, rfl⟩
  rw [← hm]
  refine ⟨_, rfl, ?_⟩
  replace hI := hI.put (d := some 20) (x := .v (.int .i64 ((m : Nat) : Int))) (by intro t ht; cases ht; decide) rfl
  replace hI := hI.sel [20, 19, 16, 8, 7, 0, 1, 2] (by kernel_rfl : sel _ _ = some [(20, .v (.int .i64 ((m : Nat) : Int))), (19, .v (.int .i64 (((o + 63) / 64 * 64 - o : Nat) : Int))), (16, .v (.int .i64 ((n : Nat) : Int))), (8, .v (.int .i64 ((o : Nat) : Int))), (7, .v (.int .i64 0)), (0, .v (.slice ad ys.length cap)), (1, .v (.int .i64 ((o : Nat) : Int))), (2, .v (.int .i64 ((n : Nat) : Int)))])
  refine part_ tab [5] [] (by rfl) (k := 0) (hs := []) (sy := []) (ks := [10, 8, 7, 0, 1, 2]) (bs := []) (gs := [])
      (L' := [(10, .v (.int .i64 ((m : Nat) : Int))), (8, .v (.int .i64 ((o : Nat) : Int))), (7, .v (.int .i64 0)), (0, .v (.slice ad ys.length cap)), (1, .v (.int .i64 ((o : Nat) : Int))), (2, .v (.int .i64 ((n : Nat) : Int)))])
      (H' := []) (G' := []) (k' := 0) hR hI (by kernel_rfl)
      .nil (fun e9 a9 w9 hag hR hI => ?_)
  refine ops_nil ?_
  refine then_n ?_
  refine wp_seq ?_
  refine reg_seq tab (k := 0) (hs := []) (sy := []) (ks := [11, 10, 8, 7, 0, 2]) (bs := []) (gs := [])
      (L' := [(11, .v (.int .i64 ((o : Nat) : Int))), (10, .v (.int .i64 ((m : Nat) : Int))), (8, .v (.int .i64 ((o : Nat) : Int))), (7, .v (.int .i64 0)), (0, .v (.slice ad ys.length cap)), (2, .v (.int .i64 ((n : Nat) : Int)))])
      (H' := []) (G' := []) (k' := 0) hR hI (by kernel_rfl)
      .nil (fun e10 a10 w10 hag hR hI => ?_)
  refine wp_block ?_
  refine lp (γ := Nat) (fun a => (⟨[(0, .v (.slice ad ys.length cap)), (2, .v (.int .i64 ((n : Nat) : Int))), (7, .v (.int .i64 ((cnt (fun i => bitN ys (o + i)) a : Nat) : Int))), (8, .v (.int .i64 ((o : Nat) : Int))), (10, .v (.int .i64 ((m : Nat) : Int))), (11, .v (.int .i64 ((o + a : Nat) : Int)))], [], [], 0⟩ : Sy)) (fun a e => a ≤ m) (fun a => m - a) (0) (Nat.zero_le _)
      (hR.sel [] [] (by kernel_rfl) (by kernel_rfl)) (hI.sel [0, 2, 7, 8, 10, 11] (by kernel_rfl)) ?_
  clear hR hI
  rintro a e11 a11 w11 hp hR hI
  dsimp only at hp hR hI
  have ham := hp
  refine wp_seq ?_
  refine reg_seq tab (k := 0) (hs := [(3, .nw)]) (sy := []) (ks := [26, 0, 2, 7, 8, 10, 11]) (bs := []) (gs := [])
      (L' := [(26, .v (.bool (decide (((o + a : Nat) : Int) < ((o + m : Nat) : Int))))), (0, .v (.slice ad ys.length cap)), (2, .v (.int .i64 ((n : Nat) : Int))), (7, .v (.int .i64 ((cnt (fun i => bitN ys (o + i)) a : Nat) : Int))), (8, .v (.int .i64 ((o : Nat) : Int))), (10, .v (.int .i64 ((m : Nat) : Int))), (11, .v (.int .i64 ((o + a : Nat) : Int)))])
      (H' := []) (G' := []) (k' := 0) hR hI (by kernel_rfl)
      (.cons (inR_i64 (n := ((o : Nat) : Int) + ((m : Nat) : Int)) (by omega)) .nil) (fun e12 a12 w12 hag hR hI => ?_)
  refine cnd (b := decide (((o + a : Nat) : Int) < ((o + m : Nat) : Int))) hI (by kernel_rfl) (fun hc13 => ?_) (fun hc13 => ?_)
  · skip
    replace hI := hI.re 26 (.v (.bool true)) rfl (congrArg Value.bool hc13)
    try simp only [decide_eq_true_eq, decide_eq_false_iff_not, beq_iff_eq, bne_iff_ne, beq_eq_false_iff_ne, bne_eq_false_iff_eq, Bool.and_eq_true, Bool.and_eq_false_iff, Bool.or_eq_true, Bool.or_eq_false_iff, Bool.not_eq_true', Bool.not_eq_false', ne_eq] at hc13
    have hca : cnt (fun i => bitN ys (o + i)) (a + 1) = cnt (fun i => bitN ys (o + i)) a + (bitN ys (o + a)).toNat := rfl
    refine wp_skip ?_
    refine then_n ?_
    refine wp_seq ?_
    refine wp_block ?_
    refine wp_seq ?_
    refine reg (is := [0, 1, 2]) (by kernel_rfl) ?_
    refine part_ tab [0, 1] [2] (by rfl) (k := 0) (hs := []) (sy := []) (ks := [30, 29, 0, 2, 7, 8, 10, 11]) (bs := []) (gs := [])
        (L' := [(30, .v (.int .i64 ((o + a : Nat) : Int))), (29, .v (.slice ad ys.length cap)), (0, .v (.slice ad ys.length cap)), (2, .v (.int .i64 ((n : Nat) : Int))), (7, .v (.int .i64 ((cnt (fun i => bitN ys (o + i)) a : Nat) : Int))), (8, .v (.int .i64 ((o : Nat) : Int))), (10, .v (.int .i64 ((m : Nat) : Int))), (11, .v (.int .i64 ((o + a : Nat) : Int)))])
        (H' := []) (G' := []) (k' := 0) hR hI (by kernel_rfl)
        .nil (fun e14 a14 w14 hag hR hI => ?_)
    refine callOp (ys := [.v (.slice ad ys.length cap), .v (.int .i64 ((o + a : Nat) : Int))]) hI rfl rfl ⟨_, rfl, rfl, rfl⟩ (by kernel_rfl) Tryd.func26 rfl rfl ?_
    refine (isSet_spec (hg.now hB hR) (hx.now hB hR) (by omega) hs).mono ?_
    rintro ex w15 ⟨rfl, hk⟩
    replace hR := hR.same hk; clear hk
    refine ⟨_, rfl, ?_⟩
    replace hI := hI.put (d := some 31) (x := .v (.bool (bitN ys (o + a)))) (by intro t ht; cases ht; decide) rfl
    replace hI := hI.sel [31, 30, 29, 0, 2, 7, 8, 10, 11] (by kernel_rfl : sel _ _ = some [(31, .v (.bool (bitN ys (o + a)))), (30, .v (.int .i64 ((o + a : Nat) : Int))), (29, .v (.slice ad ys.length cap)), (0, .v (.slice ad ys.length cap)), (2, .v (.int .i64 ((n : Nat) : Int))), (7, .v (.int .i64 ((cnt (fun i => bitN ys (o + i)) a : Nat) : Int))), (8, .v (.int .i64 ((o : Nat) : Int))), (10, .v (.int .i64 ((m : Nat) : Int))), (11, .v (.int .i64 ((o + a : Nat) : Int)))])
    refine ops_nil ?_
    refine then_n ?_
    refine cnd (b := bitN ys (o + a)) hI (by kernel_rfl) (fun hc16 => ?_) (fun hc16 => ?_)
    · skip
      replace hI := hI.re 31 (.v (.bool true)) rfl (congrArg Value.bool hc16)
      try simp only [decide_eq_true_eq, decide_eq_false_iff_not, beq_iff_eq, bne_iff_ne, beq_eq_false_iff_ne, bne_eq_false_iff_eq, Bool.and_eq_true, Bool.and_eq_false_iff, Bool.or_eq_true, Bool.or_eq_false_iff, Bool.not_eq_true', Bool.not_eq_false', ne_eq] at hc16
      rw [hc16] at hca; have hca1 : Bool.toNat true = 1 := rfl; rw [hca1] at hca
      refine reg_all tab (k := 0) (hs := [(1, .eq (.int .i64 ((cnt (fun i => bitN ys (o + i)) (a + 1) : Nat) : Int)))]) (sy := []) (ks := [7, 0, 2, 8, 10, 11]) (bs := []) (gs := [])
          (L' := [(7, .v (.int .i64 ((cnt (fun i => bitN ys (o + i)) (a + 1) : Nat) : Int))), (0, .v (.slice ad ys.length cap)), (2, .v (.int .i64 ((n : Nat) : Int))), (8, .v (.int .i64 ((o : Nat) : Int))), (10, .v (.int .i64 ((m : Nat) : Int))), (11, .v (.int .i64 ((o + a : Nat) : Int)))])
          (H' := []) (G' := []) (k' := 0) hR hI (by kernel_rfl)
          (.cons (congrArg (Value.int .i64) (by rw [hca, wrap_inR (inR_i64 (by have := hcn (a + 1); omega))]; omega : IntKind.i64.wrap (((cnt (fun i => bitN ys (o + i)) a : Nat) : Int) + (1 : Int)) = ((cnt (fun i => bitN ys (o + i)) (a + 1) : Nat) : Int))) .nil) (fun e17 a17 w17 hag hR hI => ?_)
      refine normal_block ?_
      refine then_n ?_
      refine reg_all tab (k := 0) (hs := [(1, .eq (.int .i64 ((o + (a + 1) : Nat) : Int)))]) (sy := []) (ks := [11, 7, 0, 2, 8, 10]) (bs := []) (gs := [])
          (L' := [(11, .v (.int .i64 ((o + (a + 1) : Nat) : Int))), (7, .v (.int .i64 ((cnt (fun i => bitN ys (o + i)) (a + 1) : Nat) : Int))), (0, .v (.slice ad ys.length cap)), (2, .v (.int .i64 ((n : Nat) : Int))), (8, .v (.int .i64 ((o : Nat) : Int))), (10, .v (.int .i64 ((m : Nat) : Int)))])
          (H' := []) (G' := []) (k' := 0) hR hI (by kernel_rfl)
          (.cons (congrArg (Value.int .i64) (by rw [wrap_inR (inR_i64 (by omega))]; omega : IntKind.i64.wrap (((o + a : Nat) : Int) + (1 : Int)) = ((o + (a + 1) : Nat) : Int))) .nil) (fun e18 a18 w18 hag hR hI => ?_)
      refine then_n ?_
      exact ⟨(a + 1), e18, by (try dsimp only); omega, by (try dsimp only); omega, hR.sel [] [] (by kernel_rfl) (by kernel_rfl), hI.sel [0, 2, 7, 8, 10, 11] (by kernel_rfl)⟩
    · skip
      replace hI := hI.re 31 (.v (.bool false)) rfl (congrArg Value.bool hc16)
      try simp only [decide_eq_true_eq, decide_eq_false_iff_not, beq_iff_eq, bne_iff_ne, beq_eq_false_iff_ne, bne_eq_false_iff_eq, Bool.and_eq_true, Bool.and_eq_false_iff, Bool.or_eq_true, Bool.or_eq_false_iff, Bool.not_eq_true', Bool.not_eq_false', ne_eq] at hc16
      rw [hc16] at hca; have hca1 : Bool.toNat false = 0 := rfl; rw [hca1] at hca
      replace hI := hI.re 7 (.v (.int .i64 ((cnt (fun i => bitN ys (o + i)) (a + 1) : Nat) : Int))) rfl (congrArg (Value.int .i64) (by rw [hca]; rfl))
      refine wp_skip ?_
      refine normal_block ?_
      refine then_n ?_
      refine reg_all tab (k := 0) (hs := [(1, .eq (.int .i64 ((o + (a + 1) : Nat) : Int)))]) (sy := []) (ks := [11, 7, 0, 2, 8, 10]) (bs := []) (gs := [])
          (L' := [(11, .v (.int .i64 ((o + (a + 1) : Nat) : Int))), (7, .v (.int .i64 ((cnt (fun i => bitN ys (o + i)) (a + 1) : Nat) : Int))), (0, .v (.slice ad ys.length cap)), (2, .v (.int .i64 ((n : Nat) : Int))), (8, .v (.int .i64 ((o : Nat) : Int))), (10, .v (.int .i64 ((m : Nat) : Int)))])
          (H' := []) (G' := []) (k' := 0) hR hI (by kernel_rfl)
          (.cons (congrArg (Value.int .i64) (by rw [wrap_inR (inR_i64 (by omega))]; omega : IntKind.i64.wrap (((o + a : Nat) : Int) + (1 : Int)) = ((o + (a + 1) : Nat) : Int))) .nil) (fun e19 a19 w19 hag hR hI => ?_)
      refine then_n ?_
      exact ⟨(a + 1), e19, by (try dsimp only); omega, by (try dsimp only); omega, hR.sel [] [] (by kernel_rfl) (by kernel_rfl), hI.sel [0, 2, 7, 8, 10, 11] (by kernel_rfl)⟩
  · skip
    replace hI := hI.re 26 (.v (.bool false)) rfl (congrArg Value.bool hc13)
    try simp only [decide_eq_true_eq, decide_eq_false_iff_not, beq_iff_eq, bne_iff_ne, beq_eq_false_iff_ne, bne_eq_false_iff_eq, Bool.and_eq_true, Bool.and_eq_false_iff, Bool.or_eq_true, Bool.or_eq_false_iff, Bool.not_eq_true', Bool.not_eq_false', ne_eq] at hc13
    refine wp_exit ?_
    refine exit_then ?_
    refine exit_then ?_
    refine exit_hit ?_
    refine then_n ?_
    have haeq : a = m := by omega
    replace hI := hI.re 7 (.v (.int .i64 ((cnt (fun i => bitN ys (o + i)) m : Nat) : Int))) rfl (congrArg (Value.int .i64) (by rw [haeq]))
    refine wp_seq ?_
    refine reg (is := [0, 1, 2, 3, 4]) (by kernel_rfl) ?_
    refine part_ tab [0, 1, 2] [3, 4] (by rfl) (k := 0) (hs := [(2, .nw)]) (sy := []) (ks := [36, 7, 0, 2, 10]) (bs := []) (gs := [])
        (L' := [(36, .v (.int .i64 ((o + m : Nat) : Int))), (7, .v (.int .i64 ((cnt (fun i => bitN ys (o + i)) m : Nat) : Int))), (0, .v (.slice ad ys.length cap)), (2, .v (.int .i64 ((n : Nat) : Int))), (10, .v (.int .i64 ((m : Nat) : Int)))])
        (H' := []) (G' := []) (k' := 0) hR hI (by kernel_rfl)
        (.cons (inR_i64 (n := ((o : Nat) : Int) + ((m : Nat) : Int)) (by omega)) .nil) (fun e20 a20 w20 hag hR hI => ?_)
    refine callOp (ys := [.v (.int .i64 ((o + m : Nat) : Int))]) hI rfl rfl ⟨_, rfl, rfl, rfl⟩ (by kernel_rfl) Tryd.func19 rfl rfl ?_
    refine (bytesForBits_spec (C := C) (p := o + m) (by omega)).mono ?_
    rintro ex w21 ⟨q, rfl, hq, hk⟩
    replace hR := hR.same hk; clear hk
    refine ⟨_, rfl, ?_⟩
    replace hI := hI.put (d := some 37) (x := .v (.int .i64 ((q : Nat) : Int))) (by intro t ht; cases ht; decide) rfl
    replace hI := hI.sel [37, 36, 7, 0, 2, 10] (by kernel_rfl : sel _ _ = some [(37, .v (.int .i64 ((q : Nat) : Int))), (36, .v (.int .i64 ((o + m : Nat) : Int))), (7, .v (.int .i64 ((cnt (fun i => bitN ys (o + i)) m : Nat) : Int))), (0, .v (.slice ad ys.length cap)), (2, .v (.int .i64 ((n : Nat) : Int))), (10, .v (.int .i64 ((m : Nat) : Int)))])
    refine part_ tab [4] [] (by rfl) (k := 0) (hs := []) (sy := []) (ks := [12, 7, 0, 2, 10]) (bs := []) (gs := [])
        (L' := [(12, .v (.int .i64 ((q : Nat) : Int))), (7, .v (.int .i64 ((cnt (fun i => bitN ys (o + i)) m : Nat) : Int))), (0, .v (.slice ad ys.length cap)), (2, .v (.int .i64 ((n : Nat) : Int))), (10, .v (.int .i64 ((m : Nat) : Int)))])
        (H' := []) (G' := []) (k' := 0) hR hI (by kernel_rfl)
        .nil (fun e22 a22 w22 hag hR hI => ?_)
    refine ops_nil ?_
    refine then_n ?_
    have hsp := cnt_split (ys := ys) (o := o) (m := m) (n := n) (q := q) (by omega) (by omega)
    refine wp_seq ?_
    refine reg (is := [0, 1, 2, 3, 4, 5, 6, 7, 8, 9]) (by kernel_rfl) ?_
    refine part_ tab [0, 1, 2, 3, 4, 5, 6] [7, 8, 9] (by rfl) (k := 0) (hs := [(3, .sym), (6, .eq (.int .i64 ((n - m : Nat) : Int)))]) (sy := []) (ks := [44, 41, 38]) (bs := []) (gs := [])
        (L' := [(44, .v (.int .i64 ((n - m : Nat) : Int))), (41, .v (.slice (cutA ad cap q 1) (ys.length - q) (cap - q))), (38, .v (.int .i64 ((cnt (fun i => bitN ys (o + i)) m : Nat) : Int)))])
        (H' := []) (G' := []) (k' := 0) hR hI (by kernel_rfl)
        (.cons (by omega : (0 : Int) ≤ ((q : Nat) : Int) ∧ ((q : Nat) : Int) ≤ (ys.length : Nat)) (.cons (congrArg (Value.int .i64) (by rw [wrap_inR (inR_i64 (by omega))]; omega : IntKind.i64.wrap (((n : Nat) : Int) - ((m : Nat) : Int)) = ((n - m : Nat) : Int))) .nil)) (fun e23 a23 w23 hag hR hI => ?_)
    refine callOp (ys := [.v (.slice (cutA ad cap q 1) (ys.length - q) (cap - q)), .v (.int .i64 0), .v (.int .i64 ((n - m : Nat) : Int))]) hI rfl rfl ⟨_, rfl, rfl, rfl⟩ (by kernel_rfl) Tryd.func21 rfl rfl ?_
    refine (count0_spec' (hg.now hB hR) ((hx.cut (j := q) (m := ys.length) (by omega) (Nat.le_refl _)).now hB hR) (by rw [cut_all, List.length_drop]; omega) (n := n - m) (by rw [cut_all, List.length_drop]; omega) (by rw [cut_all, List.length_drop])).mono ?_
    rintro ex w24 ⟨rfl, hk⟩
    replace hR := hR.same hk; clear hk
    rw [cut_all]
    refine ⟨_, rfl, ?_⟩
    replace hI := hI.put (d := some 45) (x := .v (.int .i64 ((cnt (bitN (ys.drop q)) (n - m) : Nat) : Int))) (by intro t ht; cases ht; decide) rfl
    replace hI := hI.sel [45, 44, 41, 38] (by kernel_rfl : sel _ _ = some [(45, .v (.int .i64 ((cnt (bitN (ys.drop q)) (n - m) : Nat) : Int))), (44, .v (.int .i64 ((n - m : Nat) : Int))), (41, .v (.slice (cutA ad cap q 1) (ys.length - q) (cap - q))), (38, .v (.int .i64 ((cnt (fun i => bitN ys (o + i)) m : Nat) : Int)))])
    refine part_ tab [8, 9] [] (by rfl) (k := 0) (hs := [(8, .eq (.int .i64 ((cnt (fun i => bitN ys (o + i)) n : Nat) : Int)))]) (sy := []) (ks := [6]) (bs := []) (gs := [])
        (L' := [(6, .v (.int .i64 ((cnt (fun i => bitN ys (o + i)) n : Nat) : Int)))])
        (H' := []) (G' := []) (k' := 0) hR hI (by kernel_rfl)
        (.cons (congrArg (Value.int .i64) (by rw [hsp, wrap_inR (inR_i64 (by have := hcn n; omega))]; omega : IntKind.i64.wrap (((cnt (fun i => bitN ys (o + i)) m : Nat) : Int) + ((cnt (bitN (ys.drop q)) (n - m) : Nat) : Int)) = ((cnt (fun i => bitN ys (o + i)) n : Nat) : Int))) .nil) (fun e25 a25 w25 hag hR hI => ?_)
    refine ops_nil ?_
    refine then_n ?_
    refine wp_ret ?_
    refine outN tab (xs := [.v (.int .i64 ((cnt (fun i => bitN ys (o + i)) n : Nat) : Int))]) hR hI rfl (by kernel_rfl) ?_
    exact ⟨rfl, hB.fin hR⟩

set_option maxHeartbeats 4000000 in
set_option maxRecDepth 100000 in
theorem countP_spec {C : Nat → Prop} {w : World} {ad : Option Addr} {cap n o : Nat} {ys : List Nat} (hg : Sl .u8 256 C w (some (⟨1, 0, none⟩ : Addr)) 8 bitMask) (hx : Sl .u8 256 C w ad cap ys) (hs : ys.length ≤ 4096) (hn : o + n ≤ 8 * ys.length) (ho : 0 < o) :
    Calls P 21 #[.slice ad ys.length cap, .int .i64 ((o : Nat) : Int), .int .i64 ((n : Nat) : Int)] w fun ex w' => ex = .returned (.int .i64 ((cnt (fun i => bitN ys (o + i)) n : Nat) : Int)) ∧ Keep (fun b => b < w.heap.size) w w' := by
  refine doorN (e := e0) (vs := [.v (.slice ad ys.length cap), .v (.int .i64 ((o : Nat) : Int)), .v (.int .i64 ((n : Nat) : Int))]) (n := 65) (m := 3) Tryd.func21 rfl rfl rfl (by decide) fun a_ hI => ?_
  replace hI : Is 65 [] e0 [(0, .v (.slice ad ys.length cap)), (1, .v (.int .i64 ((o : Nat) : Int))), (2, .v (.int .i64 ((n : Nat) : Int)))] a_ := hI
  have hR : Rel (fun b => b < w.heap.size) w e0 [] [] w := Rel.start (fun k hk => hk)
  have hB : Base C w C (fun b => b < w.heap.size) w := Base.start
  refine reg_seq tab (k := 0) (hs := []) (sy := []) (ks := [0, 1, 2]) (bs := []) (gs := [])
      (L' := [(0, .v (.slice ad ys.length cap)), (1, .v (.int .i64 ((o : Nat) : Int))), (2, .v (.int .i64 ((n : Nat) : Int)))])
      (H' := []) (G' := []) (k' := 0) hR hI (by kernel_rfl)
      .nil (fun e1 a1 w1 hag hR hI => ?_)
  refine wp_seq ?_
  refine reg_seq tab (k := 0) (hs := []) (sy := []) (ks := [15, 0, 1, 2]) (bs := []) (gs := [])
      (L' := [(15, .v (.bool (decide (((o : Nat) : Int) > (0 : Int))))), (0, .v (.slice ad ys.length cap)), (1, .v (.int .i64 ((o : Nat) : Int))), (2, .v (.int .i64 ((n : Nat) : Int)))])
      (H' := []) (G' := []) (k' := 0) hR hI (by kernel_rfl)
      .nil (fun e2 a2 w2 hag hR hI => ?_)
  refine cnd (b := decide (((o : Nat) : Int) > (0 : Int))) hI (by kernel_rfl) (fun hc3 => ?_) (fun hc3 => ?_)
  · skip
    replace hI := hI.re 15 (.v (.bool true)) rfl (congrArg Value.bool hc3)
    try simp only [decide_eq_true_eq, decide_eq_false_iff_not, beq_iff_eq, bne_iff_ne, beq_eq_false_iff_ne, bne_eq_false_iff_eq, Bool.and_eq_true, Bool.and_eq_false_iff, Bool.or_eq_true, Bool.or_eq_false_iff, Bool.not_eq_true', Bool.not_eq_false', ne_eq] at hc3
    refine wp_seq ?_
    refine reg (is := [0, 1, 2, 3, 4]) (by kernel_rfl) ?_
    refine part_ tab [0, 1, 2] [3, 4] (by rfl) (k := 0) (hs := []) (sy := []) (ks := [18, 17, 16]) (bs := []) (gs := [])
        (L' := [(18, .v (.int .i64 ((n : Nat) : Int))), (17, .v (.int .i64 ((o : Nat) : Int))), (16, .v (.slice ad ys.length cap))])
        (H' := []) (G' := []) (k' := 0) hR hI (by kernel_rfl)
        .nil (fun e4 a4 w4 hag hR hI => ?_)
    refine callOp (ys := [.v (.slice ad ys.length cap), .v (.int .i64 ((o : Nat) : Int)), .v (.int .i64 ((n : Nat) : Int))]) hI rfl rfl ⟨_, rfl, rfl, rfl⟩ (by kernel_rfl) Tryd.func23 rfl rfl ?_
    refine (countO_spec (hg.now hB hR) (hx.now hB hR) hs hn).mono ?_
    rintro ex w5 ⟨rfl, hk⟩
    replace hR := hR.same hk; clear hk
    refine ⟨_, rfl, ?_⟩
    replace hI := hI.put (d := some 19) (x := .v (.int .i64 ((cnt (fun i => bitN ys (o + i)) n : Nat) : Int))) (by intro t ht; cases ht; decide) rfl
    replace hI := hI.sel [19, 18, 17, 16] (by kernel_rfl : sel _ _ = some [(19, .v (.int .i64 ((cnt (fun i => bitN ys (o + i)) n : Nat) : Int))), (18, .v (.int .i64 ((n : Nat) : Int))), (17, .v (.int .i64 ((o : Nat) : Int))), (16, .v (.slice ad ys.length cap))])
    refine part_ tab [4] [] (by rfl) (k := 0) (hs := []) (sy := []) (ks := [6]) (bs := []) (gs := [])
        (L' := [(6, .v (.int .i64 ((cnt (fun i => bitN ys (o + i)) n : Nat) : Int)))])
        (H' := []) (G' := []) (k' := 0) hR hI (by kernel_rfl)
        .nil (fun e6 a6 w6 hag hR hI => ?_)
    refine ops_nil ?_
    refine then_n ?_
    refine wp_ret ?_
    refine ret_then ?_
    refine outN tab (xs := [.v (.int .i64 ((cnt (fun i => bitN ys (o + i)) n : Nat) : Int))]) hR hI rfl (by kernel_rfl) ?_
    exact ⟨rfl, hB.fin hR⟩
  · skip
    replace hI := hI.re 15 (.v (.bool false)) rfl (congrArg Value.bool hc3)
    try simp only [decide_eq_true_eq, decide_eq_false_iff_not, beq_iff_eq, bne_iff_ne, beq_eq_false_iff_ne, bne_eq_false_iff_eq, Bool.and_eq_true, Bool.and_eq_false_iff, Bool.or_eq_true, Bool.or_eq_false_iff, Bool.not_eq_true', Bool.not_eq_false', ne_eq] at hc3
    omega

theorem count_spec {C : Nat → Prop} {w : World} {ad : Option Addr} {cap n o : Nat} {ys : List Nat} (hg : Sl .u8 256 C w (some (⟨1, 0, none⟩ : Addr)) 8 bitMask) (hx : Sl .u8 256 C w ad cap ys) (hs : ys.length ≤ 4096) (hn : o + n ≤ 8 * ys.length) :
    Calls P 21 #[.slice ad ys.length cap, .int .i64 ((o : Nat) : Int), .int .i64 ((n : Nat) : Int)] w fun ex w' => ex = .returned (.int .i64 ((cnt (fun i => bitN ys (o + i)) n : Nat) : Int)) ∧ Keep (fun b => b < w.heap.size) w w' := by
  by_cases ho : 0 < o
  · exact countP_spec hg hx hs hn ho
  · obtain rfl : o = 0 := by omega
    have h := count0_spec (n := n) hg hx hs (by omega)
    rw [show cnt (fun i => bitN ys (0 + i)) n = cnt (bitN ys) n from cnt_congr fun i _ => by rw [Nat.zero_add]]
    exact h

set_option maxHeartbeats 4000000 in
set_option maxRecDepth 100000 in
theorem slow_spec {C : Nat → Prop} {w : World} {b : Nat} {ad : Option Addr} {cap rem off : Nat} {ys : List Nat} (hg : Sl .u8 256 C w (some (⟨1, 0, none⟩ : Addr)) 8 bitMask) (hb : w.heap[b]? = some (.cells #[.slice ad ys.length cap, .int .i64 ((rem : Nat) : Int), .int .i8 ((off : Nat) : Int)] 43 (0, 0))) (hCb : ¬ C b) (hx : Sl .u8 256 C w ad cap ys) (ho8 : off < 8) (hle : off + rem ≤ 8 * ys.length) (hs : ys.length ≤ 4096) (m : Nat) {sz : Int} (hsz : sz = (m : Int)) (hm : m = 64 ∨ m = 256) :
    Calls P 15 #[.pointer (some ⟨b, 0, none⟩), .int .i64 sz] w fun ex w' => ∃ r c : Nat, ex = .returned (.agg #[.int .i16 ((r : Nat) : Int), .int .i16 ((c : Nat) : Int)]) ∧ Keep (But b w) w w' ∧ w'.heap[b]? = some (.cells #[.slice (cutA ad cap (r / 8) 1) (ys.length - r / 8) (cap - r / 8), .int .i64 ((rem - r : Nat) : Int), .int .i8 ((off : Nat) : Int)] 43 (0, 0)) ∧ StepR m rem off ys r c := by
  refine doorN (e := e0.addB 0 b) (vs := [.p 0 0, .v (.int .i64 sz)]) (n := 49) (m := 2) Tryd.func15 rfl rfl rfl (by decide) fun a_ hI => ?_
  replace hI : Is 49 [] (e0.addB 0 b) [(0, .p 0 0), (1, .v (.int .i64 sz))] a_ := hI
  have hR : Rel (But b w) w (e0.addB 0 b) [⟨0, 43, [.v (.slice ad ys.length cap), .v (.int .i64 ((rem : Nat) : Int)), .v (.int .i8 ((off : Nat) : Int))]⟩] [] w := Rel.startB hb (fun k h => h.1) (fun h => h.2 rfl)
  have hbk : (e0.addB 0 b).b 0 = b := addB_b _ _ _
  have hB : BaseD (But b w) C w C (But b w) w := BaseD.start (fun k hC hlt => ⟨hlt, fun he => hCb (he ▸ hC)⟩)
  have hrx := hx.room; have hmx := hx.max
  replace hI := hI.re 1 (.v (.int .i64 ((m : Nat) : Int))) rfl (congrArg (Value.int .i64) (hsz))
  refine reg_seq tab (k := 1) (hs := []) (sy := []) (ks := [4, 1, 0]) (bs := [1, 0]) (gs := [])
      (L' := [(4, .p 1 0), (1, .v (.int .i64 ((m : Nat) : Int))), (0, .p 0 0)])
      (H' := [⟨1, 40, [.v (.int .i16 0), .v (.int .i16 0)]⟩, ⟨0, 43, [.v (.slice ad ys.length cap), .v (.int .i64 ((rem : Nat) : Int)), .v (.int .i8 ((off : Nat) : Int))]⟩]) (G' := []) (k' := 2) hR hI (by kernel_rfl)
      .nil (fun e1 a1 w1 hag hR hI => ?_)
  replace hbk := (hag 0 (by decide)).1.trans hbk
  refine wp_seq ?_
  refine reg (is := [0, 1, 2, 3, 4, 5, 6, 7]) (by kernel_rfl) ?_
  refine part_ tab [0, 1, 2, 3, 4] [5, 6, 7] (by rfl) (k := 2) (hs := []) (sy := []) (ks := [11, 10, 4, 0]) (bs := [1, 0]) (gs := [])
      (L' := [(11, .v (.int .i64 ((m : Nat) : Int))), (10, .v (.int .i64 ((rem : Nat) : Int))), (4, .p 1 0), (0, .p 0 0)])
      (H' := [⟨1, 40, [.v (.int .i16 0), .v (.int .i16 0)]⟩, ⟨0, 43, [.v (.slice ad ys.length cap), .v (.int .i64 ((rem : Nat) : Int)), .v (.int .i8 ((off : Nat) : Int))]⟩]) (G' := []) (k' := 2) hR hI (by kernel_rfl)
      .nil (fun e2 a2 w2 hag hR hI => ?_)
  replace hbk := (hag 0 (by decide)).1.trans hbk
  refine callOp (ys := [.v (.int .i64 ((rem : Nat) : Int)), .v (.int .i64 ((m : Nat) : Int))]) hI rfl rfl ⟨_, rfl, rfl, rfl⟩ (by kernel_rfl) Tryd.func20 rfl rfl ?_
  refine (minI_spec (C := C) rem m).mono ?_
  rintro ex w3 ⟨rfl, hk⟩
  replace hR := hR.same hk; clear hk
  obtain ⟨r, hr⟩ : ∃ r, r = min rem m := ⟨_, rfl⟩
  rw [← hr]
  have hcr := cnt_le (fun i => bitN ys (off + i)) r
  refine ⟨_, rfl, ?_⟩
  replace hI := hI.put (d := some 12) (x := .v (.int .i64 ((r : Nat) : Int))) (by intro t ht; cases ht; decide) rfl
  replace hI := hI.sel [12, 11, 10, 4, 0] (by kernel_rfl : sel _ _ = some [(12, .v (.int .i64 ((r : Nat) : Int))), (11, .v (.int .i64 ((m : Nat) : Int))), (10, .v (.int .i64 ((rem : Nat) : Int))), (4, .p 1 0), (0, .p 0 0)])
  refine part_ tab [6, 7] [] (by rfl) (k := 2) (hs := [(6, .nw)]) (sy := []) (ks := [5, 4, 0]) (bs := [1, 0]) (gs := [])
      (L' := [(5, .v (.int .i16 ((r : Nat) : Int))), (4, .p 1 0), (0, .p 0 0)])
      (H' := [⟨1, 40, [.v (.int .i16 0), .v (.int .i16 0)]⟩, ⟨0, 43, [.v (.slice ad ys.length cap), .v (.int .i64 ((rem : Nat) : Int)), .v (.int .i8 ((off : Nat) : Int))]⟩]) (G' := []) (k' := 2) hR hI (by kernel_rfl)
      (.cons (inR_i16 (n := ((r : Nat) : Int)) (by omega)) .nil) (fun e4 a4 w4 hag hR hI => ?_)
  replace hbk := (hag 0 (by decide)).1.trans hbk
  refine ops_nil ?_
  refine then_n ?_
  refine wp_seq ?_
  refine regL 13 hR (by kernel_rfl) (fun hS => ?_)
  replace hR := hR.drew; have hF := hR.fore
  refine takeL tab (H := [⟨1, 40, [.v (.int .i16 0), .v (.int .i16 0)]⟩, ⟨0, 43, [.v (.slice ad ys.length cap), .v (.int .i64 ((rem : Nat) : Int)), .v (.int .i8 ((off : Nat) : Int))]⟩]) (G := []) (hs := [(8, .nw), (10, .nw)]) (gs := []) (is := [0, 1, 2, 3, 4, 5, 6, 7, 8, 9, 10]) (ks := [24, 22, 17, 5, 4, 0]) (f' := 3)
      (L' := [(24, .v (.int .i64 ((r : Nat) : Int))), (22, .v (.int .i64 ((off : Nat) : Int))), (17, .v (.slice ad ys.length cap)), (5, .v (.int .i16 ((r : Nat) : Int))), (4, .p 1 0), (0, .p 0 0)]) hS hI (by kernel_rfl) (fun _ _ _ _ _ h => h) (by kernel_rfl)
      (.cons (inR_i64 (n := ((off : Nat) : Int)) (by omega)) (.cons (inR_i64 (n := ((r : Nat) : Int)) (by omega)) .nil)) (by kernel_rfl) (by kernel_rfl) (by kernel_rfl) (by rfl) (fun a5 hI => ?_)
  refine oneL (i := 11) (f' := 2) (by kernel_rfl) (by rfl) ?_
  refine callH (ys := [.v (.slice ad ys.length cap), .v (.int .i64 ((off : Nat) : Int)), .v (.int .i64 ((r : Nat) : Int))]) hI rfl rfl ⟨_, rfl, rfl, rfl⟩ (by kernel_rfl) Tryd.func21 rfl rfl ?_
  refine (count_spec (hg.now hB hR) (hx.now hB hR) hs (n := r) (o := off) (by omega)).mono ?_
  rintro ex w6 ⟨rfl, hk⟩
  replace hS := hS.same hk; replace hR := hR.same hk; clear hk
  refine ⟨_, rfl, hS, ?_⟩
  replace hI := hI.put (d := some 25) (x := .v (.int .i64 ((cnt (fun i => bitN ys (off + i)) r : Nat) : Int))) (by intro t ht; cases ht; decide) rfl
  replace hI := hI.sel [25, 24, 22, 17, 5, 4, 0] (by kernel_rfl : sel _ _ = some [(25, .v (.int .i64 ((cnt (fun i => bitN ys (off + i)) r : Nat) : Int))), (24, .v (.int .i64 ((r : Nat) : Int))), (22, .v (.int .i64 ((off : Nat) : Int))), (17, .v (.slice ad ys.length cap)), (5, .v (.int .i16 ((r : Nat) : Int))), (4, .p 1 0), (0, .p 0 0)])
  refine takeL tab (H := [⟨1, 40, [.v (.int .i16 0), .v (.int .i16 0)]⟩, ⟨0, 43, [.v (.slice ad ys.length cap), .v (.int .i64 ((rem : Nat) : Int)), .v (.int .i8 ((off : Nat) : Int))]⟩]) (G := []) (hs := [(12, .nw)]) (gs := []) (is := [12]) (ks := [26, 5, 4, 0]) (f' := 1)
      (L' := [(26, .v (.int .i16 ((cnt (fun i => bitN ys (off + i)) r : Nat) : Int))), (5, .v (.int .i16 ((r : Nat) : Int))), (4, .p 1 0), (0, .p 0 0)]) hS hI (by kernel_rfl) (fun _ _ _ _ _ h => h) (by kernel_rfl)
      (.cons (inR_i16 (n := ((cnt (fun i => bitN ys (off + i)) r : Nat) : Int)) (by omega)) .nil) (by kernel_rfl) (by kernel_rfl) (by kernel_rfl) (by rfl) (fun a7 hI => ?_)
  refine endL (i := 13) (f' := 0) (by kernel_rfl) (by rfl) (by kernel_rfl) ?_
  refine quietL tab (hh := .no) (x := .v (.int .i16 ((cnt (fun i => bitN ys (off + i)) r : Nat) : Int))) hR hI rfl rfl rfl (by kernel_rfl) .nil (fun a8 hI => ?_)
  replace hI := hI.sel [6, 26, 5, 4, 0] (by kernel_rfl : sel _ _ = some [(6, .v (.int .i16 ((cnt (fun i => bitN ys (off + i)) r : Nat) : Int))), (26, .v (.int .i16 ((cnt (fun i => bitN ys (off + i)) r : Nat) : Int))), (5, .v (.int .i16 ((r : Nat) : Int))), (4, .p 1 0), (0, .p 0 0)])
  refine doneL (by kernel_rfl) ?_
  refine then_n ?_
  replace hI := hI.sel [6, 5, 4, 0] (by kernel_rfl : sel _ _ = some [(6, .v (.int .i16 ((cnt (fun i => bitN ys (off + i)) r : Nat) : Int))), (5, .v (.int .i16 ((r : Nat) : Int))), (4, .p 1 0), (0, .p 0 0)]); replace hR := hR.sel [1, 0] [] (by kernel_rfl : selH _ _ = some [⟨1, 40, [.v (.int .i16 0), .v (.int .i16 0)]⟩, ⟨0, 43, [.v (.slice ad ys.length cap), .v (.int .i64 ((rem : Nat) : Int)), .v (.int .i8 ((off : Nat) : Int))]⟩]) (by kernel_rfl : selG _ _ = some [])
  refine reg_seq tab (k := 2) (hs := [(5, .nw), (6, .eq (.int .i64 ((rem - r : Nat) : Int)))]) (sy := []) (ks := [6, 5, 4, 0]) (bs := [0, 1]) (gs := [])
      (L' := [(6, .v (.int .i16 ((cnt (fun i => bitN ys (off + i)) r : Nat) : Int))), (5, .v (.int .i16 ((r : Nat) : Int))), (4, .p 1 0), (0, .p 0 0)])
      (H' := [⟨0, 43, [.v (.slice ad ys.length cap), .v (.int .i64 ((rem - r : Nat) : Int)), .v (.int .i8 ((off : Nat) : Int))]⟩, ⟨1, 40, [.v (.int .i16 0), .v (.int .i16 0)]⟩]) (G' := []) (k' := 2) hR hI (by kernel_rfl)
      (.cons (inR_i64 (n := ((r : Nat) : Int)) (by omega)) (.cons (congrArg (Value.int .i64) (by rw [wrap_inR (inR_i64 (by omega))]; omega : IntKind.i64.wrap (((rem : Nat) : Int) - ((r : Nat) : Int)) = ((rem - r : Nat) : Int))) .nil)) (fun e9 a9 w9 hag hR hI => ?_)
  replace hbk := (hag 0 (by decide)).1.trans hbk
  refine reg_seq tab (k := 2) (hs := [(6, .nw), (7, .sym)]) (sy := []) (ks := [6, 5, 4]) (bs := [0, 1]) (gs := [])
      (L' := [(6, .v (.int .i16 ((cnt (fun i => bitN ys (off + i)) r : Nat) : Int))), (5, .v (.int .i16 ((r : Nat) : Int))), (4, .p 1 0)])
      (H' := [⟨0, 43, [.v (.slice (cutA ad cap (r / 8) 1) (ys.length - (r / 8)) (cap - (r / 8))), .v (.int .i64 ((rem - r : Nat) : Int)), .v (.int .i8 ((off : Nat) : Int))]⟩, ⟨1, 40, [.v (.int .i16 0), .v (.int .i16 0)]⟩]) (G' := []) (k' := 2) hR hI (by kernel_rfl)
      (.cons (by omega : (0 : Int) ≤ ((r : Nat) : Int)) (.cons (by omega : (0 : Int) < (8 : Int)) (.cons (inR_i16 (n := ((r : Nat) : Int) / (8 : Int)) (by omega)) (.cons (by omega : (0 : Int) ≤ ((r / 8 : Nat) : Int) ∧ ((r / 8 : Nat) : Int) ≤ (ys.length : Nat)) .nil)))) (fun e10 a10 w10 hag hR hI => ?_)
  replace hbk := (hag 0 (by decide)).1.trans hbk
  refine reg_seq tab (k := 2) (hs := []) (sy := []) (ks := [4]) (bs := [1, 0]) (gs := [])
      (L' := [(4, .p 1 0)])
      (H' := [⟨1, 40, [.v (.int .i16 ((r : Nat) : Int)), .v (.int .i16 ((cnt (fun i => bitN ys (off + i)) r : Nat) : Int))]⟩, ⟨0, 43, [.v (.slice (cutA ad cap (r / 8) 1) (ys.length - (r / 8)) (cap - (r / 8))), .v (.int .i64 ((rem - r : Nat) : Int)), .v (.int .i8 ((off : Nat) : Int))]⟩]) (G' := []) (k' := 2) hR hI (by kernel_rfl)
      .nil (fun e11 a11 w11 hag hR hI => ?_)
  replace hbk := (hag 0 (by decide)).1.trans hbk
  refine wp_ret ?_
  refine outN tab (xs := [.agg [.v (.int .i16 ((r : Nat) : Int)), .v (.int .i16 ((cnt (fun i => bitN ys (off + i)) r : Nat) : Int))]]) hR hI rfl (by kernel_rfl) ?_
  exact ⟨r, _, rfl, hB.fin hR, hbk ▸ (hR.blk _ (List.mem_cons_of_mem _ (List.mem_cons_self ..))).1, by omega, by omega, by omega, rfl⟩

set_option maxHeartbeats 4000000 in
set_option maxRecDepth 100000 in
theorem nextWord_spec {C : Nat → Prop} {w : World} {b : Nat} {ad : Option Addr} {cap rem off : Nat} {ys : List Nat} (hg : Sl .u8 256 C w (some (⟨1, 0, none⟩ : Addr)) 8 bitMask) (hb : w.heap[b]? = some (.cells #[.slice ad ys.length cap, .int .i64 ((rem : Nat) : Int), .int .i8 ((off : Nat) : Int)] 43 (0, 0))) (hCb : ¬ C b) (hx : Sl .u8 256 C w ad cap ys) (ho8 : off < 8) (hle : off + rem ≤ 8 * ys.length) (hs : ys.length ≤ 4096) :
    Calls P 10 #[.pointer (some ⟨b, 0, none⟩)] w fun ex w' => ∃ r c : Nat, ex = .returned (.agg #[.int .i16 ((r : Nat) : Int), .int .i16 ((c : Nat) : Int)]) ∧ Keep (But b w) w w' ∧ w'.heap[b]? = some (.cells #[.slice (cutA ad cap (r / 8) 1) (ys.length - r / 8) (cap - r / 8), .int .i64 ((rem - r : Nat) : Int), .int .i8 ((off : Nat) : Int)] 43 (0, 0)) ∧ StepR 64 rem off ys r c := by
  refine doorN (e := e0.addB 0 b) (vs := [.p 0 0]) (n := 77) (m := 1) Tryd.func10 rfl rfl rfl (by decide) fun a_ hI => ?_
  replace hI : Is 77 [] (e0.addB 0 b) [(0, .p 0 0)] a_ := hI
  have hR : Rel (But b w) w (e0.addB 0 b) [⟨0, 43, [.v (.slice ad ys.length cap), .v (.int .i64 ((rem : Nat) : Int)), .v (.int .i8 ((off : Nat) : Int))]⟩] [] w := Rel.startB hb (fun k h => h.1) (fun h => h.2 rfl)
  have hbk : (e0.addB 0 b).b 0 = b := addB_b _ _ _
  have hB : BaseD (But b w) C w C (But b w) w := BaseD.start (fun k hC hlt => ⟨hlt, fun he => hCb (he ▸ hC)⟩)
  have hrx := hx.room; have hmx := hx.max; have hgx := fun i => hx.get i (by decide)
  refine reg_seq tab (k := 1) (hs := []) (sy := []) (ks := [2, 0]) (bs := [1, 0]) (gs := [])
      (L' := [(2, .p 1 0), (0, .p 0 0)])
      (H' := [⟨1, 40, [.v (.int .i16 0), .v (.int .i16 0)]⟩, ⟨0, 43, [.v (.slice ad ys.length cap), .v (.int .i64 ((rem : Nat) : Int)), .v (.int .i8 ((off : Nat) : Int))]⟩]) (G' := []) (k' := 2) hR hI (by kernel_rfl)
      .nil (fun e1 a1 w1 hag hR hI => ?_)
  replace hbk := (hag 0 (by decide)).1.trans hbk
  refine wp_seq ?_
  refine reg_seq tab (k := 2) (hs := []) (sy := []) (ks := [8, 2, 0]) (bs := [1, 0]) (gs := [])
      (L' := [(8, .v (.bool (((rem : Nat) : Int) == (0 : Int)))), (2, .p 1 0), (0, .p 0 0)])
      (H' := [⟨1, 40, [.v (.int .i16 0), .v (.int .i16 0)]⟩, ⟨0, 43, [.v (.slice ad ys.length cap), .v (.int .i64 ((rem : Nat) : Int)), .v (.int .i8 ((off : Nat) : Int))]⟩]) (G' := []) (k' := 2) hR hI (by kernel_rfl)
      .nil (fun e2 a2 w2 hag hR hI => ?_)
  replace hbk := (hag 0 (by decide)).1.trans hbk
  refine cnd (b := (((rem : Nat) : Int) == (0 : Int))) hI (by kernel_rfl) (fun hc3 => ?_) (fun hc3 => ?_)
  · skip
    replace hI := hI.re 8 (.v (.bool true)) rfl (congrArg Value.bool hc3)
    try simp only [decide_eq_true_eq, decide_eq_false_iff_not, beq_iff_eq, bne_iff_ne, beq_eq_false_iff_ne, bne_eq_false_iff_eq, Bool.and_eq_true, Bool.and_eq_false_iff, Bool.or_eq_true, Bool.or_eq_false_iff, Bool.not_eq_true', Bool.not_eq_false', ne_eq] at hc3
    refine reg_seq tab (k := 2) (hs := []) (sy := []) (ks := [2]) (bs := [1, 0]) (gs := [])
        (L' := [(2, .p 1 0)])
        (H' := [⟨1, 40, [.v (.int .i16 0), .v (.int .i16 0)]⟩, ⟨0, 43, [.v (.slice ad ys.length cap), .v (.int .i64 ((rem : Nat) : Int)), .v (.int .i8 ((off : Nat) : Int))]⟩]) (G' := []) (k' := 2) hR hI (by kernel_rfl)
        .nil (fun e4 a4 w4 hag hR hI => ?_)
    replace hbk := (hag 0 (by decide)).1.trans hbk
    refine wp_ret ?_
    refine ret_then ?_
    replace hR := hR.reblk (b := ⟨0, 43, [.v (.slice ad ys.length cap), .v (.int .i64 ((rem : Nat) : Int)), .v (.int .i8 ((off : Nat) : Int))]⟩) (by simp) [.v (.slice (cutA ad cap (0 / 8) 1) (ys.length - 0 / 8) (cap - 0 / 8)), .v (.int .i64 ((rem - 0 : Nat) : Int)), .v (.int .i8 ((off : Nat) : Int))] [⟨1, 40, [.v (.int .i16 0), .v (.int .i16 0)]⟩] (by simp) (by simp only [dens, den, Nat.zero_div, cutA_zero, Nat.sub_zero])
    dsimp only at hR
    refine outN tab (xs := [.agg [.v (.int .i16 0), .v (.int .i16 0)]]) hR hI rfl (by kernel_rfl) ?_
    exact ⟨0, 0, rfl, hB.fin hR, hbk ▸ (hR.blk _ (List.mem_cons_self ..)).1, by omega, by omega, by omega, rfl⟩
  · skip
    replace hI := hI.re 8 (.v (.bool false)) rfl (congrArg Value.bool hc3)
    try simp only [decide_eq_true_eq, decide_eq_false_iff_not, beq_iff_eq, bne_iff_ne, beq_eq_false_iff_ne, bne_eq_false_iff_eq, Bool.and_eq_true, Bool.and_eq_false_iff, Bool.or_eq_true, Bool.or_eq_false_iff, Bool.not_eq_true', Bool.not_eq_false', ne_eq] at hc3
    refine wp_skip ?_
    refine then_n ?_
    refine reg_seq tab (k := 2) (hs := []) (sy := []) (ks := [2, 0]) (bs := [1, 0]) (gs := [])
        (L' := [(2, .p 1 0), (0, .p 0 0)])
        (H' := [⟨1, 40, [.v (.int .i16 0), .v (.int .i16 0)]⟩, ⟨0, 43, [.v (.slice ad ys.length cap), .v (.int .i64 ((rem : Nat) : Int)), .v (.int .i8 ((off : Nat) : Int))]⟩]) (G' := []) (k' := 2) hR hI (by kernel_rfl)
        .nil (fun e5 a5 w5 hag hR hI => ?_)
    replace hbk := (hag 0 (by decide)).1.trans hbk
    refine wp_seq ?_
    refine reg_seq tab (k := 2) (hs := []) (sy := []) (ks := [14, 2, 0]) (bs := [1, 0]) (gs := [])
        (L' := [(14, .v (.bool (((off : Nat) : Int) == (0 : Int)))), (2, .p 1 0), (0, .p 0 0)])
        (H' := [⟨1, 40, [.v (.int .i16 0), .v (.int .i16 0)]⟩, ⟨0, 43, [.v (.slice ad ys.length cap), .v (.int .i64 ((rem : Nat) : Int)), .v (.int .i8 ((off : Nat) : Int))]⟩]) (G' := []) (k' := 2) hR hI (by kernel_rfl)
        .nil (fun e6 a6 w6 hag hR hI => ?_)
    replace hbk := (hag 0 (by decide)).1.trans hbk
    refine cnd (b := (((off : Nat) : Int) == (0 : Int))) hI (by kernel_rfl) (fun hc7 => ?_) (fun hc7 => ?_)
    · skip
      replace hI := hI.re 14 (.v (.bool true)) rfl (congrArg Value.bool hc7)
      try simp only [decide_eq_true_eq, decide_eq_false_iff_not, beq_iff_eq, bne_iff_ne, beq_eq_false_iff_ne, bne_eq_false_iff_eq, Bool.and_eq_true, Bool.and_eq_false_iff, Bool.or_eq_true, Bool.or_eq_false_iff, Bool.not_eq_true', Bool.not_eq_false', ne_eq] at hc7
      have hop : off = 0 := by omega
      refine wp_seq ?_
      refine reg_seq tab (k := 2) (hs := []) (sy := []) (ks := [19, 2, 0]) (bs := [1, 0]) (gs := [])
          (L' := [(19, .v (.bool (decide (((rem : Nat) : Int) < (64 : Int))))), (2, .p 1 0), (0, .p 0 0)])
          (H' := [⟨1, 40, [.v (.int .i16 0), .v (.int .i16 0)]⟩, ⟨0, 43, [.v (.slice ad ys.length cap), .v (.int .i64 ((rem : Nat) : Int)), .v (.int .i8 ((off : Nat) : Int))]⟩]) (G' := []) (k' := 2) hR hI (by kernel_rfl)
          .nil (fun e8 a8 w8 hag hR hI => ?_)
      replace hbk := (hag 0 (by decide)).1.trans hbk
      refine cnd (b := decide (((rem : Nat) : Int) < (64 : Int))) hI (by kernel_rfl) (fun hc9 => ?_) (fun hc9 => ?_)
      · skip
        replace hI := hI.re 19 (.v (.bool true)) rfl (congrArg Value.bool hc9)
        try simp only [decide_eq_true_eq, decide_eq_false_iff_not, beq_iff_eq, bne_iff_ne, beq_eq_false_iff_ne, bne_eq_false_iff_eq, Bool.and_eq_true, Bool.and_eq_false_iff, Bool.or_eq_true, Bool.or_eq_false_iff, Bool.not_eq_true', Bool.not_eq_false', ne_eq] at hc9
        refine wp_seq ?_
        refine reg (is := [0, 1, 2]) (by kernel_rfl) ?_
        refine part_ tab [0] [1, 2] (by rfl) (k := 2) (hs := []) (sy := []) (ks := [20, 2]) (bs := [1, 0]) (gs := [])
            (L' := [(20, .p 0 0), (2, .p 1 0)])
            (H' := [⟨1, 40, [.v (.int .i16 0), .v (.int .i16 0)]⟩, ⟨0, 43, [.v (.slice ad ys.length cap), .v (.int .i64 ((rem : Nat) : Int)), .v (.int .i8 ((off : Nat) : Int))]⟩]) (G' := []) (k' := 2) hR hI (by kernel_rfl)
            .nil (fun e10 a10 w10 hag hR hI => ?_)
        replace hbk := (hag 0 (by decide)).1.trans hbk
        refine callOp (ys := [.p 0 0, .v (.int .i64 64)]) hI rfl rfl ⟨_, rfl, rfl, rfl⟩ (by kernel_rfl) Tryd.func15 rfl rfl ?_
        have hblk_ := hR.blk ⟨0, 43, [.v (.slice ad ys.length cap), .v (.int .i64 ((rem : Nat) : Int)), .v (.int .i8 ((off : Nat) : Int))]⟩ (by simp)
        refine (slow_spec (hg.now hB hR) hblk_.1 (fun h => hblk_.2 h.2) (hx.now hB hR) ho8 hle hs 64 rfl (by decide)).mono ?_
        rintro ex w11 ⟨r, c, rfl, hk, hnew, hst⟩
        have hkF_ := hR.keepB (b := ⟨0, 43, [.v (.slice ad ys.length cap), .v (.int .i64 ((rem : Nat) : Int)), .v (.int .i8 ((off : Nat) : Int))]⟩) (by simp) hk
        replace hg := hg.nextF hB hR hkF_
        replace hx := hx.nextF hB hR hkF_
        have hB_ := hB.nextF hR hkF_
        replace hR := hR.turned (b := ⟨0, 43, [.v (.slice ad ys.length cap), .v (.int .i64 ((rem : Nat) : Int)), .v (.int .i8 ((off : Nat) : Int))]⟩) (by simp) [.v (.slice (cutA ad cap (r / 8) 1) (ys.length - r / 8) (cap - r / 8)), .v (.int .i64 ((rem - r : Nat) : Int)), .v (.int .i8 ((off : Nat) : Int))] [⟨1, 40, [.v (.int .i16 0), .v (.int .i16 0)]⟩] (by simp) hk hnew
        dsimp only at hR; replace hB := hB_; clear hB_ hk hkF_ hblk_
        refine ⟨_, rfl, ?_⟩
        replace hI := hI.put (d := some 21) (x := .v (.agg #[.int .i16 ((r : Nat) : Int), .int .i16 ((c : Nat) : Int)])) (by intro t ht; cases ht; decide) rfl
        replace hI := hI.sel [21, 20, 2] (by kernel_rfl : sel _ _ = some [(21, .v (.agg #[.int .i16 ((r : Nat) : Int), .int .i16 ((c : Nat) : Int)])), (20, .p 0 0), (2, .p 1 0)])
        refine part_ tab [2] [] (by rfl) (k := 2) (hs := []) (sy := []) (ks := [2]) (bs := [1, 0]) (gs := [])
            (L' := [(2, .p 1 0)])
            (H' := [⟨1, 40, [.v (.int .i16 ((r : Nat) : Int)), .v (.int .i16 ((c : Nat) : Int))]⟩, ⟨0, 43, [.v (.slice (cutA ad cap (r / 8) 1) (ys.length - r / 8) (cap - r / 8)), .v (.int .i64 ((rem - r : Nat) : Int)), .v (.int .i8 ((off : Nat) : Int))]⟩]) (G' := []) (k' := 2) hR hI (by kernel_rfl)
            .nil (fun e12 a12 w12 hag hR hI => ?_)
        replace hbk := (hag 0 (by decide)).1.trans hbk
        refine ops_nil ?_
        refine then_n ?_
        refine wp_ret ?_
        refine ret_then ?_
        refine ret_then ?_
        refine outN tab (xs := [.agg [.v (.int .i16 ((r : Nat) : Int)), .v (.int .i16 ((c : Nat) : Int))]]) hR hI rfl (by kernel_rfl) ?_
        exact ⟨r, c, rfl, hB.fin hR, hbk ▸ (hR.blk _ (List.mem_cons_of_mem _ (List.mem_cons_self ..))).1, hst⟩
      · skip
        replace hI := hI.re 19 (.v (.bool false)) rfl (congrArg Value.bool hc9)
        try simp only [decide_eq_true_eq, decide_eq_false_iff_not, beq_iff_eq, bne_iff_ne, beq_eq_false_iff_ne, bne_eq_false_iff_eq, Bool.and_eq_true, Bool.and_eq_false_iff, Bool.or_eq_true, Bool.or_eq_false_iff, Bool.not_eq_true', Bool.not_eq_false', ne_eq] at hc9
        refine wp_skip ?_
        refine then_n ?_
        refine reg (is := [0, 1, 2, 3, 4, 5, 6]) (by kernel_rfl) ?_
        refine part_ tab [0, 1, 2, 3] [4, 5, 6] (by rfl) (k := 2) (hs := []) (sy := []) (ks := [25, 2, 0]) (bs := [1, 0]) (gs := [])
            (L' := [(25, .v (.slice ad ys.length cap)), (2, .p 1 0), (0, .p 0 0)])
            (H' := [⟨1, 40, [.v (.int .i16 0), .v (.int .i16 0)]⟩, ⟨0, 43, [.v (.slice ad ys.length cap), .v (.int .i64 ((rem : Nat) : Int)), .v (.int .i8 ((off : Nat) : Int))]⟩]) (G' := []) (k' := 2) hR hI (by kernel_rfl)
            .nil (fun e13 a13 w13 hag hR hI => ?_)
        replace hbk := (hag 0 (by decide)).1.trans hbk
        refine callOp (ys := [.v (.slice ad ys.length cap)]) hI rfl rfl ⟨_, rfl, rfl, rfl⟩ (by kernel_rfl) Tryd.func17 rfl rfl ?_
        refine (loadWord_spec (hx.now hB hR) (by omega) rfl).mono ?_
        rintro ex w14 ⟨rfl, hk⟩
        replace hR := hR.same hk; clear hk
        refine ⟨_, rfl, ?_⟩
        replace hI := hI.put (d := some 26) (x := .v (.int .u64 ((le64 ys : Nat) : Int))) (by intro t ht; cases ht; decide) rfl
        replace hI := hI.sel [26, 25, 2, 0] (by kernel_rfl : sel _ _ = some [(26, .v (.int .u64 ((le64 ys : Nat) : Int))), (25, .v (.slice ad ys.length cap)), (2, .p 1 0), (0, .p 0 0)])
        refine callOp (ys := [.v (.int .u64 ((le64 ys : Nat) : Int))]) hI rfl rfl ⟨_, rfl, rfl, rfl⟩ (by kernel_rfl) Tryd.func16 rfl rfl ?_
        refine (onesCount64_spec (C := C) (x := le64 ys) (le64_lt hgx)).mono ?_
        rintro ex w15 ⟨rfl, hk⟩
        replace hR := hR.same hk; clear hk
        refine ⟨_, rfl, ?_⟩
        replace hI := hI.put (d := some 27) (x := .v (.int .i64 ((cnt (le64 ys).testBit 64 : Nat) : Int))) (by intro t ht; cases ht; decide) rfl
        replace hI := hI.sel [27, 26, 25, 2, 0] (by kernel_rfl : sel _ _ = some [(27, .v (.int .i64 ((cnt (le64 ys).testBit 64 : Nat) : Int))), (26, .v (.int .u64 ((le64 ys : Nat) : Int))), (25, .v (.slice ad ys.length cap)), (2, .p 1 0), (0, .p 0 0)])
        refine part_ tab [6] [] (by rfl) (k := 2) (hs := []) (sy := []) (ks := [3, 2, 0]) (bs := [1, 0]) (gs := [])
            (L' := [(3, .v (.int .i64 ((cnt (le64 ys).testBit 64 : Nat) : Int))), (2, .p 1 0), (0, .p 0 0)])
            (H' := [⟨1, 40, [.v (.int .i16 0), .v (.int .i16 0)]⟩, ⟨0, 43, [.v (.slice ad ys.length cap), .v (.int .i64 ((rem : Nat) : Int)), .v (.int .i8 ((off : Nat) : Int))]⟩]) (G' := []) (k' := 2) hR hI (by kernel_rfl)
            .nil (fun e16 a16 w16 hag hR hI => ?_)
        replace hbk := (hag 0 (by decide)).1.trans hbk
        refine ops_nil ?_
        refine then_n ?_
        refine reg_seq tab (k := 2) (hs := [(5, .sym)]) (sy := []) (ks := [3, 2, 0]) (bs := [0, 1]) (gs := [])
            (L' := [(3, .v (.int .i64 ((cnt (le64 ys).testBit 64 : Nat) : Int))), (2, .p 1 0), (0, .p 0 0)])
            (H' := [⟨0, 43, [.v (.slice (cutA ad cap 8 1) (ys.length - 8) (cap - 8)), .v (.int .i64 ((rem : Nat) : Int)), .v (.int .i8 ((off : Nat) : Int))]⟩, ⟨1, 40, [.v (.int .i16 0), .v (.int .i16 0)]⟩]) (G' := []) (k' := 2) hR hI (by kernel_rfl)
            (.cons (by omega : (0 : Int) ≤ (8 : Int) ∧ (8 : Int) ≤ (ys.length : Nat)) .nil) (fun e17 a17 w17 hag hR hI => ?_)
        replace hbk := (hag 0 (by decide)).1.trans hbk
        refine reg_seq tab (k := 2) (hs := [(4, .eq (.int .i64 ((rem - 64 : Nat) : Int)))]) (sy := []) (ks := [3, 2]) (bs := [0, 1]) (gs := [])
            (L' := [(3, .v (.int .i64 ((cnt (le64 ys).testBit 64 : Nat) : Int))), (2, .p 1 0)])
            (H' := [⟨0, 43, [.v (.slice (cutA ad cap 8 1) (ys.length - 8) (cap - 8)), .v (.int .i64 ((rem - 64 : Nat) : Int)), .v (.int .i8 ((off : Nat) : Int))]⟩, ⟨1, 40, [.v (.int .i16 0), .v (.int .i16 0)]⟩]) (G' := []) (k' := 2) hR hI (by kernel_rfl)
            (.cons (congrArg (Value.int .i64) (by rw [wrap_inR (inR_i64 (by omega))]; omega : IntKind.i64.wrap (((rem : Nat) : Int) - (64 : Int)) = ((rem - 64 : Nat) : Int))) .nil) (fun e18 a18 w18 hag hR hI => ?_)
        replace hbk := (hag 0 (by decide)).1.trans hbk
        refine reg_seq tab (k := 2) (hs := [(1, .nw)]) (sy := []) (ks := [2]) (bs := [1, 0]) (gs := [])
            (L' := [(2, .p 1 0)])
            (H' := [⟨1, 40, [.v (.int .i16 64), .v (.int .i16 ((cnt (le64 ys).testBit 64 : Nat) : Int))]⟩, ⟨0, 43, [.v (.slice (cutA ad cap 8 1) (ys.length - 8) (cap - 8)), .v (.int .i64 ((rem - 64 : Nat) : Int)), .v (.int .i8 ((off : Nat) : Int))]⟩]) (G' := []) (k' := 2) hR hI (by kernel_rfl)
            (.cons (inR_i16 (n := ((cnt (le64 ys).testBit 64 : Nat) : Int)) (by have := cnt_le (le64 ys).testBit 64; omega)) .nil) (fun e19 a19 w19 hag hR hI => ?_)
        replace hbk := (hag 0 (by decide)).1.trans hbk
        refine wp_ret ?_
        refine outN tab (xs := [.agg [.v (.int .i16 64), .v (.int .i16 ((cnt (le64 ys).testBit 64 : Nat) : Int))]]) hR hI rfl (by kernel_rfl) ?_
        refine ⟨64, _, rfl, hB.fin hR, hbk ▸ (hR.blk _ (List.mem_cons_of_mem _ (List.mem_cons_self ..))).1, Nat.le_refl _, by omega, .inl rfl, ?_⟩
        rw [show le64 ys = le64 (ys.drop 0) from rfl, cnt_w hgx 0]; exact cnt_congr fun i _ => by congr 1; omega
    · skip
      replace hI := hI.re 14 (.v (.bool false)) rfl (congrArg Value.bool hc7)
      try simp only [decide_eq_true_eq, decide_eq_false_iff_not, beq_iff_eq, bne_iff_ne, beq_eq_false_iff_ne, bne_eq_false_iff_eq, Bool.and_eq_true, Bool.and_eq_false_iff, Bool.or_eq_true, Bool.or_eq_false_iff, Bool.not_eq_true', Bool.not_eq_false', ne_eq] at hc7
      have hop : 0 < off := by omega
      refine wp_seq ?_
      refine regQ_seq tab (by kernel_rfl) (k := 2) (hs := [(8, .nw), (9, .nw)]) (gs := []) (ks := [38, 2, 0])
          (L' := [(38, .v (.bool (decide (((rem : Nat) : Int) < (128 : Int) - ((off : Nat) : Int))))), (2, .p 1 0), (0, .p 0 0)]) hR hI (by kernel_rfl) (fun _ _ _ _ _ h => h) (by kernel_rfl)
          (.cons (inR_i64 (n := ((off : Nat) : Int)) (by omega)) (.cons (inR_i64 (n := (128 : Int) - ((off : Nat) : Int)) (by omega)) .nil)) (by kernel_rfl) (by kernel_rfl) (fun e20 a20 w20 hag hR hI => ?_)
      replace hbk := (hag 0 (by decide)).1.trans hbk
      refine cnd (b := decide (((rem : Nat) : Int) < (128 : Int) - ((off : Nat) : Int))) hI (by kernel_rfl) (fun hc21 => ?_) (fun hc21 => ?_)
      · skip
        replace hI := hI.re 38 (.v (.bool true)) rfl (congrArg Value.bool hc21)
        try simp only [decide_eq_true_eq, decide_eq_false_iff_not, beq_iff_eq, bne_iff_ne, beq_eq_false_iff_ne, bne_eq_false_iff_eq, Bool.and_eq_true, Bool.and_eq_false_iff, Bool.or_eq_true, Bool.or_eq_false_iff, Bool.not_eq_true', Bool.not_eq_false', ne_eq] at hc21
        refine wp_seq ?_
        refine reg (is := [0, 1, 2]) (by kernel_rfl) ?_
        refine part_ tab [0] [1, 2] (by rfl) (k := 2) (hs := []) (sy := []) (ks := [39, 2]) (bs := [1, 0]) (gs := [])
            (L' := [(39, .p 0 0), (2, .p 1 0)])
            (H' := [⟨1, 40, [.v (.int .i16 0), .v (.int .i16 0)]⟩, ⟨0, 43, [.v (.slice ad ys.length cap), .v (.int .i64 ((rem : Nat) : Int)), .v (.int .i8 ((off : Nat) : Int))]⟩]) (G' := []) (k' := 2) hR hI (by kernel_rfl)
            .nil (fun e22 a22 w22 hag hR hI => ?_)
        replace hbk := (hag 0 (by decide)).1.trans hbk
        refine callOp (ys := [.p 0 0, .v (.int .i64 64)]) hI rfl rfl ⟨_, rfl, rfl, rfl⟩ (by kernel_rfl) Tryd.func15 rfl rfl ?_
        have hblk_ := hR.blk ⟨0, 43, [.v (.slice ad ys.length cap), .v (.int .i64 ((rem : Nat) : Int)), .v (.int .i8 ((off : Nat) : Int))]⟩ (by simp)
        refine (slow_spec (hg.now hB hR) hblk_.1 (fun h => hblk_.2 h.2) (hx.now hB hR) ho8 hle hs 64 rfl (by decide)).mono ?_
        rintro ex w23 ⟨r, c, rfl, hk, hnew, hst⟩
        have hkF_ := hR.keepB (b := ⟨0, 43, [.v (.slice ad ys.length cap), .v (.int .i64 ((rem : Nat) : Int)), .v (.int .i8 ((off : Nat) : Int))]⟩) (by simp) hk
        replace hg := hg.nextF hB hR hkF_
        replace hx := hx.nextF hB hR hkF_
        have hB_ := hB.nextF hR hkF_
        replace hR := hR.turned (b := ⟨0, 43, [.v (.slice ad ys.length cap), .v (.int .i64 ((rem : Nat) : Int)), .v (.int .i8 ((off : Nat) : Int))]⟩) (by simp) [.v (.slice (cutA ad cap (r / 8) 1) (ys.length - r / 8) (cap - r / 8)), .v (.int .i64 ((rem - r : Nat) : Int)), .v (.int .i8 ((off : Nat) : Int))] [⟨1, 40, [.v (.int .i16 0), .v (.int .i16 0)]⟩] (by simp) hk hnew
        dsimp only at hR; replace hB := hB_; clear hB_ hk hkF_ hblk_
        refine ⟨_, rfl, ?_⟩
        replace hI := hI.put (d := some 40) (x := .v (.agg #[.int .i16 ((r : Nat) : Int), .int .i16 ((c : Nat) : Int)])) (by intro t ht; cases ht; decide) rfl
        replace hI := hI.sel [40, 39, 2] (by kernel_rfl : sel _ _ = some [(40, .v (.agg #[.int .i16 ((r : Nat) : Int), .int .i16 ((c : Nat) : Int)])), (39, .p 0 0), (2, .p 1 0)])
        refine part_ tab [2] [] (by rfl) (k := 2) (hs := []) (sy := []) (ks := [2]) (bs := [1, 0]) (gs := [])
            (L' := [(2, .p 1 0)])
            (H' := [⟨1, 40, [.v (.int .i16 ((r : Nat) : Int)), .v (.int .i16 ((c : Nat) : Int))]⟩, ⟨0, 43, [.v (.slice (cutA ad cap (r / 8) 1) (ys.length - r / 8) (cap - r / 8)), .v (.int .i64 ((rem - r : Nat) : Int)), .v (.int .i8 ((off : Nat) : Int))]⟩]) (G' := []) (k' := 2) hR hI (by kernel_rfl)
            .nil (fun e24 a24 w24 hag hR hI => ?_)
        replace hbk := (hag 0 (by decide)).1.trans hbk
        refine ops_nil ?_
        refine then_n ?_
        refine wp_ret ?_
        refine ret_then ?_
        refine ret_then ?_
        refine outN tab (xs := [.agg [.v (.int .i16 ((r : Nat) : Int)), .v (.int .i16 ((c : Nat) : Int))]]) hR hI rfl (by kernel_rfl) ?_
        exact ⟨r, c, rfl, hB.fin hR, hbk ▸ (hR.blk _ (List.mem_cons_of_mem _ (List.mem_cons_self ..))).1, hst⟩
      · skip
        replace hI := hI.re 38 (.v (.bool false)) rfl (congrArg Value.bool hc21)
        try simp only [decide_eq_true_eq, decide_eq_false_iff_not, beq_iff_eq, bne_iff_ne, beq_eq_false_iff_ne, bne_eq_false_iff_eq, Bool.and_eq_true, Bool.and_eq_false_iff, Bool.or_eq_true, Bool.or_eq_false_iff, Bool.not_eq_true', Bool.not_eq_false', ne_eq] at hc21
        refine wp_skip ?_
        refine then_n ?_
        refine regL 18 hR (by kernel_rfl) (fun hS => ?_)
        replace hR := hR.drew; have hF := hR.fore
        refine takeL tab (H := [⟨1, 40, [.v (.int .i16 0), .v (.int .i16 0)]⟩, ⟨0, 43, [.v (.slice ad ys.length cap), .v (.int .i64 ((rem : Nat) : Int)), .v (.int .i8 ((off : Nat) : Int))]⟩]) (G := []) (hs := [(9, .sym), (15, .nw)]) (gs := []) (is := [0, 1, 2, 3, 5, 6, 7, 8, 9, 11, 12, 13, 14, 15]) (ks := [56, 50, 44, 2, 0]) (f' := 5)
            (L' := [(56, .v (.int .i64 ((off : Nat) : Int))), (50, .v (.slice (cutA ad cap 8 1) (ys.length - 8) (cap - 8))), (44, .v (.slice ad ys.length cap)), (2, .p 1 0), (0, .p 0 0)]) hS hI (by kernel_rfl) (fun _ _ _ _ _ h => h) (by kernel_rfl)
            (.cons (by omega : (0 : Int) ≤ (8 : Int) ∧ (8 : Int) ≤ (ys.length : Nat)) (.cons (inR_i64 (n := ((off : Nat) : Int)) (by omega)) .nil)) (by kernel_rfl) (by kernel_rfl) (by kernel_rfl) (by rfl) (fun a25 hI => ?_)
        refine oneL (i := 4) (f' := 4) (by kernel_rfl) (by rfl) ?_
        refine callH (ys := [.v (.slice ad ys.length cap)]) hI rfl rfl ⟨_, rfl, rfl, rfl⟩ (by kernel_rfl) Tryd.func17 rfl rfl ?_
        refine (loadWord_spec (hx.now hB hR) (by omega) rfl).mono ?_
        rintro ex w26 ⟨rfl, hk⟩
        replace hS := hS.same hk; replace hR := hR.same hk; clear hk
        refine ⟨_, rfl, hS, ?_⟩
        replace hI := hI.put (d := some 45) (x := .v (.int .u64 ((le64 ys : Nat) : Int))) (by intro t ht; cases ht; decide) rfl
        replace hI := hI.sel [45, 56, 50, 44, 2, 0] (by kernel_rfl : sel _ _ = some [(45, .v (.int .u64 ((le64 ys : Nat) : Int))), (56, .v (.int .i64 ((off : Nat) : Int))), (50, .v (.slice (cutA ad cap 8 1) (ys.length - 8) (cap - 8))), (44, .v (.slice ad ys.length cap)), (2, .p 1 0), (0, .p 0 0)])
        refine oneL (i := 10) (f' := 3) (by kernel_rfl) (by rfl) ?_
        refine callH (ys := [.v (.slice (cutA ad cap 8 1) (ys.length - 8) (cap - 8))]) hI rfl rfl ⟨_, rfl, rfl, rfl⟩ (by kernel_rfl) Tryd.func17 rfl rfl ?_
        refine (loadWord_spec ((hx.cut (j := 8) (m := ys.length) (by omega) (Nat.le_refl _)).now hB hR) (by rw [cut_all, List.length_drop]; omega) (by rw [cut_all, List.length_drop])).mono ?_
        rintro ex w27 ⟨rfl, hk⟩
        replace hS := hS.same hk; replace hR := hR.same hk; clear hk
        rw [cut_all]
        refine ⟨_, rfl, hS, ?_⟩
        replace hI := hI.put (d := some 51) (x := .v (.int .u64 ((le64 (ys.drop 8) : Nat) : Int))) (by intro t ht; cases ht; decide) rfl
        replace hI := hI.sel [51, 45, 56, 50, 44, 2, 0] (by kernel_rfl : sel _ _ = some [(51, .v (.int .u64 ((le64 (ys.drop 8) : Nat) : Int))), (45, .v (.int .u64 ((le64 ys : Nat) : Int))), (56, .v (.int .i64 ((off : Nat) : Int))), (50, .v (.slice (cutA ad cap 8 1) (ys.length - 8) (cap - 8))), (44, .v (.slice ad ys.length cap)), (2, .p 1 0), (0, .p 0 0)])
        refine oneL (i := 16) (f' := 2) (by kernel_rfl) (by rfl) ?_
        refine callH (ys := [.v (.int .u64 ((le64 ys : Nat) : Int)), .v (.int .u64 ((le64 (ys.drop 8) : Nat) : Int)), .v (.int .i64 ((off : Nat) : Int))]) hI rfl rfl ⟨_, rfl, rfl, rfl⟩ (by kernel_rfl) Tryd.func18 rfl rfl ?_
        refine (shiftWord_spec (C := C) (x := le64 ys) (y := le64 (ys.drop 8)) (s := off) (le64_lt hgx) (le64_lt (fun i => by rw [getD_drop0]; exact hgx _)) ho8).mono ?_
        rintro ex w28 ⟨v, rfl, hvb, hk, hv⟩
        replace hS := hS.same hk; replace hR := hR.same hk; clear hk
        refine ⟨_, rfl, hS, ?_⟩
        replace hI := hI.put (d := some 57) (x := .v (.int .u64 ((v : Nat) : Int))) (by intro t ht; cases ht; decide) rfl
        replace hI := hI.sel [57, 51, 45, 56, 50, 44, 2, 0] (by kernel_rfl : sel _ _ = some [(57, .v (.int .u64 ((v : Nat) : Int))), (51, .v (.int .u64 ((le64 (ys.drop 8) : Nat) : Int))), (45, .v (.int .u64 ((le64 ys : Nat) : Int))), (56, .v (.int .i64 ((off : Nat) : Int))), (50, .v (.slice (cutA ad cap 8 1) (ys.length - 8) (cap - 8))), (44, .v (.slice ad ys.length cap)), (2, .p 1 0), (0, .p 0 0)])
        refine oneL (i := 17) (f' := 1) (by kernel_rfl) (by rfl) ?_
        refine callH (ys := [.v (.int .u64 ((v : Nat) : Int))]) hI rfl rfl ⟨_, rfl, rfl, rfl⟩ (by kernel_rfl) Tryd.func16 rfl rfl ?_
        refine (onesCount64_spec (C := C) (x := v) (hvb)).mono ?_
        rintro ex w29 ⟨rfl, hk⟩
        replace hS := hS.same hk; replace hR := hR.same hk; clear hk
        refine ⟨_, rfl, hS, ?_⟩
        replace hI := hI.put (d := some 58) (x := .v (.int .i64 ((cnt (v).testBit 64 : Nat) : Int))) (by intro t ht; cases ht; decide) rfl
        replace hI := hI.sel [58, 57, 51, 45, 56, 50, 44, 2, 0] (by kernel_rfl : sel _ _ = some [(58, .v (.int .i64 ((cnt (v).testBit 64 : Nat) : Int))), (57, .v (.int .u64 ((v : Nat) : Int))), (51, .v (.int .u64 ((le64 (ys.drop 8) : Nat) : Int))), (45, .v (.int .u64 ((le64 ys : Nat) : Int))), (56, .v (.int .i64 ((off : Nat) : Int))), (50, .v (.slice (cutA ad cap 8 1) (ys.length - 8) (cap - 8))), (44, .v (.slice ad ys.length cap)), (2, .p 1 0), (0, .p 0 0)])
        refine endL (i := 18) (f' := 0) (by kernel_rfl) (by rfl) (by kernel_rfl) ?_
        refine quietL tab (hh := .no) (x := .v (.int .i64 ((cnt (v).testBit 64 : Nat) : Int))) hR hI rfl rfl rfl (by kernel_rfl) .nil (fun a30 hI => ?_)
        replace hI := hI.sel [3, 58, 57, 51, 45, 56, 50, 44, 2, 0] (by kernel_rfl : sel _ _ = some [(3, .v (.int .i64 ((cnt (v).testBit 64 : Nat) : Int))), (58, .v (.int .i64 ((cnt (v).testBit 64 : Nat) : Int))), (57, .v (.int .u64 ((v : Nat) : Int))), (51, .v (.int .u64 ((le64 (ys.drop 8) : Nat) : Int))), (45, .v (.int .u64 ((le64 ys : Nat) : Int))), (56, .v (.int .i64 ((off : Nat) : Int))), (50, .v (.slice (cutA ad cap 8 1) (ys.length - 8) (cap - 8))), (44, .v (.slice ad ys.length cap)), (2, .p 1 0), (0, .p 0 0)])
        refine doneL (by kernel_rfl) ?_
        replace hI := hI.sel [3, 2, 0] (by kernel_rfl : sel _ _ = some [(3, .v (.int .i64 ((cnt (v).testBit 64 : Nat) : Int))), (2, .p 1 0), (0, .p 0 0)]); replace hR := hR.sel [1, 0] [] (by kernel_rfl : selH _ _ = some [⟨1, 40, [.v (.int .i16 0), .v (.int .i16 0)]⟩, ⟨0, 43, [.v (.slice ad ys.length cap), .v (.int .i64 ((rem : Nat) : Int)), .v (.int .i8 ((off : Nat) : Int))]⟩]) (by kernel_rfl : selG _ _ = some [])
        refine then_n ?_
        refine reg_seq tab (k := 2) (hs := [(5, .sym)]) (sy := []) (ks := [3, 2, 0]) (bs := [0, 1]) (gs := [])
            (L' := [(3, .v (.int .i64 ((cnt (v).testBit 64 : Nat) : Int))), (2, .p 1 0), (0, .p 0 0)])
            (H' := [⟨0, 43, [.v (.slice (cutA ad cap 8 1) (ys.length - 8) (cap - 8)), .v (.int .i64 ((rem : Nat) : Int)), .v (.int .i8 ((off : Nat) : Int))]⟩, ⟨1, 40, [.v (.int .i16 0), .v (.int .i16 0)]⟩]) (G' := []) (k' := 2) hR hI (by kernel_rfl)
            (.cons (by omega : (0 : Int) ≤ (8 : Int) ∧ (8 : Int) ≤ (ys.length : Nat)) .nil) (fun e31 a31 w31 hag hR hI => ?_)
        replace hbk := (hag 0 (by decide)).1.trans hbk
        refine reg_seq tab (k := 2) (hs := [(4, .eq (.int .i64 ((rem - 64 : Nat) : Int)))]) (sy := []) (ks := [3, 2]) (bs := [0, 1]) (gs := [])
            (L' := [(3, .v (.int .i64 ((cnt (v).testBit 64 : Nat) : Int))), (2, .p 1 0)])
            (H' := [⟨0, 43, [.v (.slice (cutA ad cap 8 1) (ys.length - 8) (cap - 8)), .v (.int .i64 ((rem - 64 : Nat) : Int)), .v (.int .i8 ((off : Nat) : Int))]⟩, ⟨1, 40, [.v (.int .i16 0), .v (.int .i16 0)]⟩]) (G' := []) (k' := 2) hR hI (by kernel_rfl)
            (.cons (congrArg (Value.int .i64) (by rw [wrap_inR (inR_i64 (by omega))]; omega : IntKind.i64.wrap (((rem : Nat) : Int) - (64 : Int)) = ((rem - 64 : Nat) : Int))) .nil) (fun e32 a32 w32 hag hR hI => ?_)
        replace hbk := (hag 0 (by decide)).1.trans hbk
        refine reg_seq tab (k := 2) (hs := [(1, .nw)]) (sy := []) (ks := [2]) (bs := [1, 0]) (gs := [])
            (L' := [(2, .p 1 0)])
            (H' := [⟨1, 40, [.v (.int .i16 64), .v (.int .i16 ((cnt (v).testBit 64 : Nat) : Int))]⟩, ⟨0, 43, [.v (.slice (cutA ad cap 8 1) (ys.length - 8) (cap - 8)), .v (.int .i64 ((rem - 64 : Nat) : Int)), .v (.int .i8 ((off : Nat) : Int))]⟩]) (G' := []) (k' := 2) hR hI (by kernel_rfl)
            (.cons (inR_i16 (n := ((cnt (v).testBit 64 : Nat) : Int)) (by have := cnt_le (v).testBit 64; omega)) .nil) (fun e33 a33 w33 hag hR hI => ?_)
        replace hbk := (hag 0 (by decide)).1.trans hbk
        refine wp_ret ?_
        refine outN tab (xs := [.agg [.v (.int .i16 64), .v (.int .i16 ((cnt (v).testBit 64 : Nat) : Int))]]) hR hI rfl (by kernel_rfl) ?_
        refine ⟨64, _, rfl, hB.fin hR, hbk ▸ (hR.blk _ (List.mem_cons_of_mem _ (List.mem_cons_self ..))).1, Nat.le_refl _, by omega, .inl rfl, ?_⟩
        rw [cnt_s (q := 0) hgx hop ho8 hv]; exact cnt_congr fun i _ => by congr 1; omega

set_option maxHeartbeats 4000000 in
set_option maxRecDepth 100000 in
theorem nextFour_spec {C : Nat → Prop} {w : World} {b : Nat} {ad : Option Addr} {cap rem off : Nat} {ys : List Nat} (hg : Sl .u8 256 C w (some (⟨1, 0, none⟩ : Addr)) 8 bitMask) (hb : w.heap[b]? = some (.cells #[.slice ad ys.length cap, .int .i64 ((rem : Nat) : Int), .int .i8 ((off : Nat) : Int)] 43 (0, 0))) (hCb : ¬ C b) (hx : Sl .u8 256 C w ad cap ys) (ho8 : off < 8) (hle : off + rem ≤ 8 * ys.length) (hs : ys.length ≤ 4096) :
    Calls P 11 #[.pointer (some ⟨b, 0, none⟩)] w fun ex w' => ∃ r c : Nat, ex = .returned (.agg #[.int .i16 ((r : Nat) : Int), .int .i16 ((c : Nat) : Int)]) ∧ Keep (But b w) w w' ∧ w'.heap[b]? = some (.cells #[.slice (cutA ad cap (r / 8) 1) (ys.length - r / 8) (cap - r / 8), .int .i64 ((rem - r : Nat) : Int), .int .i8 ((off : Nat) : Int)] 43 (0, 0)) ∧ StepR 256 rem off ys r c := by
  refine doorN (e := e0.addB 0 b) (vs := [.p 0 0]) (n := 167) (m := 1) Tryd.func11 rfl rfl rfl (by decide) fun a_ hI => ?_
  replace hI : Is 167 [] (e0.addB 0 b) [(0, .p 0 0)] a_ := hI
  have hR : Rel (But b w) w (e0.addB 0 b) [⟨0, 43, [.v (.slice ad ys.length cap), .v (.int .i64 ((rem : Nat) : Int)), .v (.int .i8 ((off : Nat) : Int))]⟩] [] w := Rel.startB hb (fun k h => h.1) (fun h => h.2 rfl)
  have hbk : (e0.addB 0 b).b 0 = b := addB_b _ _ _
  have hB : BaseD (But b w) C w C (But b w) w := BaseD.start (fun k hC hlt => ⟨hlt, fun he => hCb (he ▸ hC)⟩)
  have hrx := hx.room; have hmx := hx.max; have hgx := fun i => hx.get i (by decide)
  refine reg_seq tab (k := 1) (hs := []) (sy := []) (ks := [2, 0]) (bs := [1, 0]) (gs := [])
      (L' := [(2, .p 1 0), (0, .p 0 0)])
      (H' := [⟨1, 40, [.v (.int .i16 0), .v (.int .i16 0)]⟩, ⟨0, 43, [.v (.slice ad ys.length cap), .v (.int .i64 ((rem : Nat) : Int)), .v (.int .i8 ((off : Nat) : Int))]⟩]) (G' := []) (k' := 2) hR hI (by kernel_rfl)
      .nil (fun e1 a1 w1 hag hR hI => ?_)
  replace hbk := (hag 0 (by decide)).1.trans hbk
  refine wp_seq ?_
  refine reg_seq tab (k := 2) (hs := []) (sy := []) (ks := [10, 2, 0]) (bs := [1, 0]) (gs := [])
      (L' := [(10, .v (.bool (((rem : Nat) : Int) == (0 : Int)))), (2, .p 1 0), (0, .p 0 0)])
      (H' := [⟨1, 40, [.v (.int .i16 0), .v (.int .i16 0)]⟩, ⟨0, 43, [.v (.slice ad ys.length cap), .v (.int .i64 ((rem : Nat) : Int)), .v (.int .i8 ((off : Nat) : Int))]⟩]) (G' := []) (k' := 2) hR hI (by kernel_rfl)
      .nil (fun e2 a2 w2 hag hR hI => ?_)
  replace hbk := (hag 0 (by decide)).1.trans hbk
  refine cnd (b := (((rem : Nat) : Int) == (0 : Int))) hI (by kernel_rfl) (fun hc3 => ?_) (fun hc3 => ?_)
  · skip
    replace hI := hI.re 10 (.v (.bool true)) rfl (congrArg Value.bool hc3)
    try simp only [decide_eq_true_eq, decide_eq_false_iff_not, beq_iff_eq, bne_iff_ne, beq_eq_false_iff_ne, bne_eq_false_iff_eq, Bool.and_eq_true, Bool.and_eq_false_iff, Bool.or_eq_true, Bool.or_eq_false_iff, Bool.not_eq_true', Bool.not_eq_false', ne_eq] at hc3
    refine reg_seq tab (k := 2) (hs := []) (sy := []) (ks := [2]) (bs := [1, 0]) (gs := [])
        (L' := [(2, .p 1 0)])
        (H' := [⟨1, 40, [.v (.int .i16 0), .v (.int .i16 0)]⟩, ⟨0, 43, [.v (.slice ad ys.length cap), .v (.int .i64 ((rem : Nat) : Int)), .v (.int .i8 ((off : Nat) : Int))]⟩]) (G' := []) (k' := 2) hR hI (by kernel_rfl)
        .nil (fun e4 a4 w4 hag hR hI => ?_)
    replace hbk := (hag 0 (by decide)).1.trans hbk
    refine wp_ret ?_
    refine ret_then ?_
    replace hR := hR.reblk (b := ⟨0, 43, [.v (.slice ad ys.length cap), .v (.int .i64 ((rem : Nat) : Int)), .v (.int .i8 ((off : Nat) : Int))]⟩) (by simp) [.v (.slice (cutA ad cap (0 / 8) 1) (ys.length - 0 / 8) (cap - 0 / 8)), .v (.int .i64 ((rem - 0 : Nat) : Int)), .v (.int .i8 ((off : Nat) : Int))] [⟨1, 40, [.v (.int .i16 0), .v (.int .i16 0)]⟩] (by simp) (by simp only [dens, den, Nat.zero_div, cutA_zero, Nat.sub_zero])
    dsimp only at hR
    refine outN tab (xs := [.agg [.v (.int .i16 0), .v (.int .i16 0)]]) hR hI rfl (by kernel_rfl) ?_
    exact ⟨0, 0, rfl, hB.fin hR, hbk ▸ (hR.blk _ (List.mem_cons_self ..)).1, by omega, by omega, by omega, rfl⟩
  · skip
    replace hI := hI.re 10 (.v (.bool false)) rfl (congrArg Value.bool hc3)
    try simp only [decide_eq_true_eq, decide_eq_false_iff_not, beq_iff_eq, bne_iff_ne, beq_eq_false_iff_ne, bne_eq_false_iff_eq, Bool.and_eq_true, Bool.and_eq_false_iff, Bool.or_eq_true, Bool.or_eq_false_iff, Bool.not_eq_true', Bool.not_eq_false', ne_eq] at hc3
    refine wp_skip ?_
    refine then_n ?_
    refine reg_seq tab (k := 2) (hs := []) (sy := []) (ks := [3, 2, 0]) (bs := [1, 0]) (gs := [])
        (L' := [(3, .v (.int .i64 0)), (2, .p 1 0), (0, .p 0 0)])
        (H' := [⟨1, 40, [.v (.int .i16 0), .v (.int .i16 0)]⟩, ⟨0, 43, [.v (.slice ad ys.length cap), .v (.int .i64 ((rem : Nat) : Int)), .v (.int .i8 ((off : Nat) : Int))]⟩]) (G' := []) (k' := 2) hR hI (by kernel_rfl)
        .nil (fun e5 a5 w5 hag hR hI => ?_)
    replace hbk := (hag 0 (by decide)).1.trans hbk
    refine wp_seq ?_
    refine reg_seq tab (k := 2) (hs := []) (sy := []) (ks := [16, 3, 2, 0]) (bs := [1, 0]) (gs := [])
        (L' := [(16, .v (.bool (((off : Nat) : Int) == (0 : Int)))), (3, .v (.int .i64 0)), (2, .p 1 0), (0, .p 0 0)])
        (H' := [⟨1, 40, [.v (.int .i16 0), .v (.int .i16 0)]⟩, ⟨0, 43, [.v (.slice ad ys.length cap), .v (.int .i64 ((rem : Nat) : Int)), .v (.int .i8 ((off : Nat) : Int))]⟩]) (G' := []) (k' := 2) hR hI (by kernel_rfl)
        .nil (fun e6 a6 w6 hag hR hI => ?_)
    replace hbk := (hag 0 (by decide)).1.trans hbk
    refine cnd (b := (((off : Nat) : Int) == (0 : Int))) hI (by kernel_rfl) (fun hc7 => ?_) (fun hc7 => ?_)
    · skip
      replace hI := hI.re 16 (.v (.bool true)) rfl (congrArg Value.bool hc7)
      try simp only [decide_eq_true_eq, decide_eq_false_iff_not, beq_iff_eq, bne_iff_ne, beq_eq_false_iff_ne, bne_eq_false_iff_eq, Bool.and_eq_true, Bool.and_eq_false_iff, Bool.or_eq_true, Bool.or_eq_false_iff, Bool.not_eq_true', Bool.not_eq_false', ne_eq] at hc7
      have hop : off = 0 := by omega
      refine wp_seq ?_
      refine reg_seq tab (k := 2) (hs := []) (sy := []) (ks := [21, 3, 2, 0]) (bs := [1, 0]) (gs := [])
          (L' := [(21, .v (.bool (decide (((rem : Nat) : Int) < (256 : Int))))), (3, .v (.int .i64 0)), (2, .p 1 0), (0, .p 0 0)])
          (H' := [⟨1, 40, [.v (.int .i16 0), .v (.int .i16 0)]⟩, ⟨0, 43, [.v (.slice ad ys.length cap), .v (.int .i64 ((rem : Nat) : Int)), .v (.int .i8 ((off : Nat) : Int))]⟩]) (G' := []) (k' := 2) hR hI (by kernel_rfl)
          .nil (fun e8 a8 w8 hag hR hI => ?_)
      replace hbk := (hag 0 (by decide)).1.trans hbk
      refine cnd (b := decide (((rem : Nat) : Int) < (256 : Int))) hI (by kernel_rfl) (fun hc9 => ?_) (fun hc9 => ?_)
      · skip
        replace hI := hI.re 21 (.v (.bool true)) rfl (congrArg Value.bool hc9)
        try simp only [decide_eq_true_eq, decide_eq_false_iff_not, beq_iff_eq, bne_iff_ne, beq_eq_false_iff_ne, bne_eq_false_iff_eq, Bool.and_eq_true, Bool.and_eq_false_iff, Bool.or_eq_true, Bool.or_eq_false_iff, Bool.not_eq_true', Bool.not_eq_false', ne_eq] at hc9
        refine wp_seq ?_
        refine reg (is := [0, 1, 2]) (by kernel_rfl) ?_
        refine part_ tab [0] [1, 2] (by rfl) (k := 2) (hs := []) (sy := []) (ks := [22, 2]) (bs := [1, 0]) (gs := [])
            (L' := [(22, .p 0 0), (2, .p 1 0)])
            (H' := [⟨1, 40, [.v (.int .i16 0), .v (.int .i16 0)]⟩, ⟨0, 43, [.v (.slice ad ys.length cap), .v (.int .i64 ((rem : Nat) : Int)), .v (.int .i8 ((off : Nat) : Int))]⟩]) (G' := []) (k' := 2) hR hI (by kernel_rfl)
            .nil (fun e10 a10 w10 hag hR hI => ?_)
        replace hbk := (hag 0 (by decide)).1.trans hbk
        refine callOp (ys := [.p 0 0, .v (.int .i64 256)]) hI rfl rfl ⟨_, rfl, rfl, rfl⟩ (by kernel_rfl) Tryd.func15 rfl rfl ?_
        have hblk_ := hR.blk ⟨0, 43, [.v (.slice ad ys.length cap), .v (.int .i64 ((rem : Nat) : Int)), .v (.int .i8 ((off : Nat) : Int))]⟩ (by simp)
        refine (slow_spec (hg.now hB hR) hblk_.1 (fun h => hblk_.2 h.2) (hx.now hB hR) ho8 hle hs 256 rfl (by decide)).mono ?_
        rintro ex w11 ⟨r, c, rfl, hk, hnew, hst⟩
        have hkF_ := hR.keepB (b := ⟨0, 43, [.v (.slice ad ys.length cap), .v (.int .i64 ((rem : Nat) : Int)), .v (.int .i8 ((off : Nat) : Int))]⟩) (by simp) hk
        replace hg := hg.nextF hB hR hkF_
        replace hx := hx.nextF hB hR hkF_
        have hB_ := hB.nextF hR hkF_
        replace hR := hR.turned (b := ⟨0, 43, [.v (.slice ad ys.length cap), .v (.int .i64 ((rem : Nat) : Int)), .v (.int .i8 ((off : Nat) : Int))]⟩) (by simp) [.v (.slice (cutA ad cap (r / 8) 1) (ys.length - r / 8) (cap - r / 8)), .v (.int .i64 ((rem - r : Nat) : Int)), .v (.int .i8 ((off : Nat) : Int))] [⟨1, 40, [.v (.int .i16 0), .v (.int .i16 0)]⟩] (by simp) hk hnew
        dsimp only at hR; replace hB := hB_; clear hB_ hk hkF_ hblk_
        refine ⟨_, rfl, ?_⟩
        replace hI := hI.put (d := some 23) (x := .v (.agg #[.int .i16 ((r : Nat) : Int), .int .i16 ((c : Nat) : Int)])) (by intro t ht; cases ht; decide) rfl
        replace hI := hI.sel [23, 22, 2] (by kernel_rfl : sel _ _ = some [(23, .v (.agg #[.int .i16 ((r : Nat) : Int), .int .i16 ((c : Nat) : Int)])), (22, .p 0 0), (2, .p 1 0)])
        refine part_ tab [2] [] (by rfl) (k := 2) (hs := []) (sy := []) (ks := [2]) (bs := [1, 0]) (gs := [])
            (L' := [(2, .p 1 0)])
            (H' := [⟨1, 40, [.v (.int .i16 ((r : Nat) : Int)), .v (.int .i16 ((c : Nat) : Int))]⟩, ⟨0, 43, [.v (.slice (cutA ad cap (r / 8) 1) (ys.length - r / 8) (cap - r / 8)), .v (.int .i64 ((rem - r : Nat) : Int)), .v (.int .i8 ((off : Nat) : Int))]⟩]) (G' := []) (k' := 2) hR hI (by kernel_rfl)
            .nil (fun e12 a12 w12 hag hR hI => ?_)
        replace hbk := (hag 0 (by decide)).1.trans hbk
        refine ops_nil ?_
        refine then_n ?_
        refine wp_ret ?_
        refine ret_then ?_
        refine ret_then ?_
        refine outN tab (xs := [.agg [.v (.int .i16 ((r : Nat) : Int)), .v (.int .i16 ((c : Nat) : Int))]]) hR hI rfl (by kernel_rfl) ?_
        exact ⟨r, c, rfl, hB.fin hR, hbk ▸ (hR.blk _ (List.mem_cons_of_mem _ (List.mem_cons_self ..))).1, hst⟩
      · skip
        replace hI := hI.re 21 (.v (.bool false)) rfl (congrArg Value.bool hc9)
        try simp only [decide_eq_true_eq, decide_eq_false_iff_not, beq_iff_eq, bne_iff_ne, beq_eq_false_iff_ne, bne_eq_false_iff_eq, Bool.and_eq_true, Bool.and_eq_false_iff, Bool.or_eq_true, Bool.or_eq_false_iff, Bool.not_eq_true', Bool.not_eq_false', ne_eq] at hc9
        refine wp_skip ?_
        refine then_n ?_
        refine wp_seq ?_
        refine reg (is := [0, 1, 2, 3, 4, 5, 6, 7, 8]) (by kernel_rfl) ?_
        refine part_ tab [0, 1, 2, 3, 4] [5, 6, 7, 8] (by rfl) (k := 2) (hs := []) (sy := []) (ks := [28, 24, 3, 2, 0]) (bs := [1, 0]) (gs := [])
            (L' := [(28, .v (.slice ad ys.length cap)), (24, .v (.int .i64 0)), (3, .v (.int .i64 0)), (2, .p 1 0), (0, .p 0 0)])
            (H' := [⟨1, 40, [.v (.int .i16 0), .v (.int .i16 0)]⟩, ⟨0, 43, [.v (.slice ad ys.length cap), .v (.int .i64 ((rem : Nat) : Int)), .v (.int .i8 ((off : Nat) : Int))]⟩]) (G' := []) (k' := 2) hR hI (by kernel_rfl)
            .nil (fun e13 a13 w13 hag hR hI => ?_)
        replace hbk := (hag 0 (by decide)).1.trans hbk
        refine callOp (ys := [.v (.slice ad ys.length cap)]) hI rfl rfl ⟨_, rfl, rfl, rfl⟩ (by kernel_rfl) Tryd.func17 rfl rfl ?_
        refine (loadWord_spec (hx.now hB hR) (by omega) rfl).mono ?_
        rintro ex w14 ⟨rfl, hk⟩
        replace hR := hR.same hk; clear hk
        refine ⟨_, rfl, ?_⟩
        replace hI := hI.put (d := some 29) (x := .v (.int .u64 ((le64 ys : Nat) : Int))) (by intro t ht; cases ht; decide) rfl
        replace hI := hI.sel [29, 28, 24, 3, 2, 0] (by kernel_rfl : sel _ _ = some [(29, .v (.int .u64 ((le64 ys : Nat) : Int))), (28, .v (.slice ad ys.length cap)), (24, .v (.int .i64 0)), (3, .v (.int .i64 0)), (2, .p 1 0), (0, .p 0 0)])
        refine callOp (ys := [.v (.int .u64 ((le64 ys : Nat) : Int))]) hI rfl rfl ⟨_, rfl, rfl, rfl⟩ (by kernel_rfl) Tryd.func16 rfl rfl ?_
        refine (onesCount64_spec (C := C) (x := le64 ys) (le64_lt hgx)).mono ?_
        rintro ex w15 ⟨rfl, hk⟩
        replace hR := hR.same hk; clear hk
        refine ⟨_, rfl, ?_⟩
        replace hI := hI.put (d := some 30) (x := .v (.int .i64 ((cnt (le64 ys).testBit 64 : Nat) : Int))) (by intro t ht; cases ht; decide) rfl
        replace hI := hI.sel [30, 29, 28, 24, 3, 2, 0] (by kernel_rfl : sel _ _ = some [(30, .v (.int .i64 ((cnt (le64 ys).testBit 64 : Nat) : Int))), (29, .v (.int .u64 ((le64 ys : Nat) : Int))), (28, .v (.slice ad ys.length cap)), (24, .v (.int .i64 0)), (3, .v (.int .i64 0)), (2, .p 1 0), (0, .p 0 0)])
        refine part_ tab [7, 8] [] (by rfl) (k := 2) (hs := [(7, .nw)]) (sy := []) (ks := [3, 2, 0]) (bs := [1, 0]) (gs := [])
            (L' := [(3, .v (.int .i64 ((0 + (cnt (le64 ys).testBit 64) : Nat) : Int))), (2, .p 1 0), (0, .p 0 0)])
            (H' := [⟨1, 40, [.v (.int .i16 0), .v (.int .i16 0)]⟩, ⟨0, 43, [.v (.slice ad ys.length cap), .v (.int .i64 ((rem : Nat) : Int)), .v (.int .i8 ((off : Nat) : Int))]⟩]) (G' := []) (k' := 2) hR hI (by kernel_rfl)
            (.cons (inR_i64 (n := (0 : Int) + ((cnt (le64 ys).testBit 64 : Nat) : Int)) (by have h_0 := cnt_le (le64 ys).testBit 64; omega)) .nil) (fun e16 a16 w16 hag hR hI => ?_)
        replace hbk := (hag 0 (by decide)).1.trans hbk
        refine ops_nil ?_
        refine then_n ?_
        refine wp_seq ?_
        refine reg (is := [0, 1, 2, 3, 4, 5, 6, 7, 8, 9]) (by kernel_rfl) ?_
        refine part_ tab [0, 1, 2, 3, 4, 5] [6, 7, 8, 9] (by rfl) (k := 2) (hs := [(5, .sym)]) (sy := []) (ks := [37, 32, 3, 2, 0]) (bs := [1, 0]) (gs := [])
            (L' := [(37, .v (.slice (cutA ad cap 8 1) (ys.length - 8) (cap - 8))), (32, .v (.int .i64 ((0 + (cnt (le64 ys).testBit 64) : Nat) : Int))), (3, .v (.int .i64 ((0 + (cnt (le64 ys).testBit 64) : Nat) : Int))), (2, .p 1 0), (0, .p 0 0)])
            (H' := [⟨1, 40, [.v (.int .i16 0), .v (.int .i16 0)]⟩, ⟨0, 43, [.v (.slice ad ys.length cap), .v (.int .i64 ((rem : Nat) : Int)), .v (.int .i8 ((off : Nat) : Int))]⟩]) (G' := []) (k' := 2) hR hI (by kernel_rfl)
            (.cons (by omega : (0 : Int) ≤ (8 : Int) ∧ (8 : Int) ≤ (ys.length : Nat)) .nil) (fun e17 a17 w17 hag hR hI => ?_)
        replace hbk := (hag 0 (by decide)).1.trans hbk
        refine callOp (ys := [.v (.slice (cutA ad cap 8 1) (ys.length - 8) (cap - 8))]) hI rfl rfl ⟨_, rfl, rfl, rfl⟩ (by kernel_rfl) Tryd.func17 rfl rfl ?_
        refine (loadWord_spec ((hx.cut (j := 8) (m := ys.length) (by omega) (Nat.le_refl _)).now hB hR) (by rw [cut_all, List.length_drop]; omega) (by rw [cut_all, List.length_drop])).mono ?_
        rintro ex w18 ⟨rfl, hk⟩
        replace hR := hR.same hk; clear hk
        rw [cut_all]
        refine ⟨_, rfl, ?_⟩
        replace hI := hI.put (d := some 38) (x := .v (.int .u64 ((le64 (ys.drop 8) : Nat) : Int))) (by intro t ht; cases ht; decide) rfl
        replace hI := hI.sel [38, 37, 32, 3, 2, 0] (by kernel_rfl : sel _ _ = some [(38, .v (.int .u64 ((le64 (ys.drop 8) : Nat) : Int))), (37, .v (.slice (cutA ad cap 8 1) (ys.length - 8) (cap - 8))), (32, .v (.int .i64 ((0 + (cnt (le64 ys).testBit 64) : Nat) : Int))), (3, .v (.int .i64 ((0 + (cnt (le64 ys).testBit 64) : Nat) : Int))), (2, .p 1 0), (0, .p 0 0)])
        refine callOp (ys := [.v (.int .u64 ((le64 (ys.drop 8) : Nat) : Int))]) hI rfl rfl ⟨_, rfl, rfl, rfl⟩ (by kernel_rfl) Tryd.func16 rfl rfl ?_
        refine (onesCount64_spec (C := C) (x := le64 (ys.drop 8)) (le64_lt (fun i => by rw [getD_drop0]; exact hgx _))).mono ?_
        rintro ex w19 ⟨rfl, hk⟩
        replace hR := hR.same hk; clear hk
        refine ⟨_, rfl, ?_⟩
        replace hI := hI.put (d := some 39) (x := .v (.int .i64 ((cnt (le64 (ys.drop 8)).testBit 64 : Nat) : Int))) (by intro t ht; cases ht; decide) rfl
        replace hI := hI.sel [39, 38, 37, 32, 3, 2, 0] (by kernel_rfl : sel _ _ = some [(39, .v (.int .i64 ((cnt (le64 (ys.drop 8)).testBit 64 : Nat) : Int))), (38, .v (.int .u64 ((le64 (ys.drop 8) : Nat) : Int))), (37, .v (.slice (cutA ad cap 8 1) (ys.length - 8) (cap - 8))), (32, .v (.int .i64 ((0 + (cnt (le64 ys).testBit 64) : Nat) : Int))), (3, .v (.int .i64 ((0 + (cnt (le64 ys).testBit 64) : Nat) : Int))), (2, .p 1 0), (0, .p 0 0)])
        refine part_ tab [8, 9] [] (by rfl) (k := 2) (hs := [(8, .nw)]) (sy := []) (ks := [3, 2, 0]) (bs := [1, 0]) (gs := [])
            (L' := [(3, .v (.int .i64 (((0 + (cnt (le64 ys).testBit 64)) + (cnt (le64 (ys.drop 8)).testBit 64) : Nat) : Int))), (2, .p 1 0), (0, .p 0 0)])
            (H' := [⟨1, 40, [.v (.int .i16 0), .v (.int .i16 0)]⟩, ⟨0, 43, [.v (.slice ad ys.length cap), .v (.int .i64 ((rem : Nat) : Int)), .v (.int .i8 ((off : Nat) : Int))]⟩]) (G' := []) (k' := 2) hR hI (by kernel_rfl)
            (.cons (inR_i64 (n := ((0 + (cnt (le64 ys).testBit 64) : Nat) : Int) + ((cnt (le64 (ys.drop 8)).testBit 64 : Nat) : Int)) (by have h_0 := cnt_le (le64 ys).testBit 64; have h_1 := cnt_le (le64 (ys.drop 8)).testBit 64; omega)) .nil) (fun e20 a20 w20 hag hR hI => ?_)
        replace hbk := (hag 0 (by decide)).1.trans hbk
        refine ops_nil ?_
        refine then_n ?_
        refine wp_seq ?_
        refine reg (is := [0, 1, 2, 3, 4, 5, 6, 7, 8, 9]) (by kernel_rfl) ?_
        refine part_ tab [0, 1, 2, 3, 4, 5] [6, 7, 8, 9] (by rfl) (k := 2) (hs := [(5, .sym)]) (sy := []) (ks := [46, 41, 3, 2, 0]) (bs := [1, 0]) (gs := [])
            (L' := [(46, .v (.slice (cutA ad cap 16 1) (ys.length - 16) (cap - 16))), (41, .v (.int .i64 (((0 + (cnt (le64 ys).testBit 64)) + (cnt (le64 (ys.drop 8)).testBit 64) : Nat) : Int))), (3, .v (.int .i64 (((0 + (cnt (le64 ys).testBit 64)) + (cnt (le64 (ys.drop 8)).testBit 64) : Nat) : Int))), (2, .p 1 0), (0, .p 0 0)])
            (H' := [⟨1, 40, [.v (.int .i16 0), .v (.int .i16 0)]⟩, ⟨0, 43, [.v (.slice ad ys.length cap), .v (.int .i64 ((rem : Nat) : Int)), .v (.int .i8 ((off : Nat) : Int))]⟩]) (G' := []) (k' := 2) hR hI (by kernel_rfl)
            (.cons (by omega : (0 : Int) ≤ (16 : Int) ∧ (16 : Int) ≤ (ys.length : Nat)) .nil) (fun e21 a21 w21 hag hR hI => ?_)
        replace hbk := (hag 0 (by decide)).1.trans hbk
        refine callOp (ys := [.v (.slice (cutA ad cap 16 1) (ys.length - 16) (cap - 16))]) hI rfl rfl ⟨_, rfl, rfl, rfl⟩ (by kernel_rfl) Tryd.func17 rfl rfl ?_
        refine (loadWord_spec ((hx.cut (j := 16) (m := ys.length) (by omega) (Nat.le_refl _)).now hB hR) (by rw [cut_all, List.length_drop]; omega) (by rw [cut_all, List.length_drop])).mono ?_
        rintro ex w22 ⟨rfl, hk⟩
        replace hR := hR.same hk; clear hk
        rw [cut_all]
        refine ⟨_, rfl, ?_⟩
        replace hI := hI.put (d := some 47) (x := .v (.int .u64 ((le64 (ys.drop 16) : Nat) : Int))) (by intro t ht; cases ht; decide) rfl
        replace hI := hI.sel [47, 46, 41, 3, 2, 0] (by kernel_rfl : sel _ _ = some [(47, .v (.int .u64 ((le64 (ys.drop 16) : Nat) : Int))), (46, .v (.slice (cutA ad cap 16 1) (ys.length - 16) (cap - 16))), (41, .v (.int .i64 (((0 + (cnt (le64 ys).testBit 64)) + (cnt (le64 (ys.drop 8)).testBit 64) : Nat) : Int))), (3, .v (.int .i64 (((0 + (cnt (le64 ys).testBit 64)) + (cnt (le64 (ys.drop 8)).testBit 64) : Nat) : Int))), (2, .p 1 0), (0, .p 0 0)])
        refine callOp (ys := [.v (.int .u64 ((le64 (ys.drop 16) : Nat) : Int))]) hI rfl rfl ⟨_, rfl, rfl, rfl⟩ (by kernel_rfl) Tryd.func16 rfl rfl ?_
        refine (onesCount64_spec (C := C) (x := le64 (ys.drop 16)) (le64_lt (fun i => by rw [getD_drop0]; exact hgx _))).mono ?_
        rintro ex w23 ⟨rfl, hk⟩
        replace hR := hR.same hk; clear hk
        refine ⟨_, rfl, ?_⟩
        replace hI := hI.put (d := some 48) (x := .v (.int .i64 ((cnt (le64 (ys.drop 16)).testBit 64 : Nat) : Int))) (by intro t ht; cases ht; decide) rfl
        replace hI := hI.sel [48, 47, 46, 41, 3, 2, 0] (by kernel_rfl : sel _ _ = some [(48, .v (.int .i64 ((cnt (le64 (ys.drop 16)).testBit 64 : Nat) : Int))), (47, .v (.int .u64 ((le64 (ys.drop 16) : Nat) : Int))), (46, .v (.slice (cutA ad cap 16 1) (ys.length - 16) (cap - 16))), (41, .v (.int .i64 (((0 + (cnt (le64 ys).testBit 64)) + (cnt (le64 (ys.drop 8)).testBit 64) : Nat) : Int))), (3, .v (.int .i64 (((0 + (cnt (le64 ys).testBit 64)) + (cnt (le64 (ys.drop 8)).testBit 64) : Nat) : Int))), (2, .p 1 0), (0, .p 0 0)])
        refine part_ tab [8, 9] [] (by rfl) (k := 2) (hs := [(8, .nw)]) (sy := []) (ks := [3, 2, 0]) (bs := [1, 0]) (gs := [])
            (L' := [(3, .v (.int .i64 ((((0 + (cnt (le64 ys).testBit 64)) + (cnt (le64 (ys.drop 8)).testBit 64)) + (cnt (le64 (ys.drop 16)).testBit 64) : Nat) : Int))), (2, .p 1 0), (0, .p 0 0)])
            (H' := [⟨1, 40, [.v (.int .i16 0), .v (.int .i16 0)]⟩, ⟨0, 43, [.v (.slice ad ys.length cap), .v (.int .i64 ((rem : Nat) : Int)), .v (.int .i8 ((off : Nat) : Int))]⟩]) (G' := []) (k' := 2) hR hI (by kernel_rfl)
            (.cons (inR_i64 (n := (((0 + (cnt (le64 ys).testBit 64)) + (cnt (le64 (ys.drop 8)).testBit 64) : Nat) : Int) + ((cnt (le64 (ys.drop 16)).testBit 64 : Nat) : Int)) (by have h_0 := cnt_le (le64 ys).testBit 64; have h_1 := cnt_le (le64 (ys.drop 8)).testBit 64; have h_2 := cnt_le (le64 (ys.drop 16)).testBit 64; omega)) .nil) (fun e24 a24 w24 hag hR hI => ?_)
        replace hbk := (hag 0 (by decide)).1.trans hbk
        refine ops_nil ?_
        refine then_n ?_
        refine reg (is := [0, 1, 2, 3, 4, 5, 6, 7, 8, 9]) (by kernel_rfl) ?_
        refine part_ tab [0, 1, 2, 3, 4, 5] [6, 7, 8, 9] (by rfl) (k := 2) (hs := [(5, .sym)]) (sy := []) (ks := [55, 50, 3, 2, 0]) (bs := [1, 0]) (gs := [])
            (L' := [(55, .v (.slice (cutA ad cap 24 1) (ys.length - 24) (cap - 24))), (50, .v (.int .i64 ((((0 + (cnt (le64 ys).testBit 64)) + (cnt (le64 (ys.drop 8)).testBit 64)) + (cnt (le64 (ys.drop 16)).testBit 64) : Nat) : Int))), (3, .v (.int .i64 ((((0 + (cnt (le64 ys).testBit 64)) + (cnt (le64 (ys.drop 8)).testBit 64)) + (cnt (le64 (ys.drop 16)).testBit 64) : Nat) : Int))), (2, .p 1 0), (0, .p 0 0)])
            (H' := [⟨1, 40, [.v (.int .i16 0), .v (.int .i16 0)]⟩, ⟨0, 43, [.v (.slice ad ys.length cap), .v (.int .i64 ((rem : Nat) : Int)), .v (.int .i8 ((off : Nat) : Int))]⟩]) (G' := []) (k' := 2) hR hI (by kernel_rfl)
            (.cons (by omega : (0 : Int) ≤ (24 : Int) ∧ (24 : Int) ≤ (ys.length : Nat)) .nil) (fun e25 a25 w25 hag hR hI => ?_)
        replace hbk := (hag 0 (by decide)).1.trans hbk
        refine callOp (ys := [.v (.slice (cutA ad cap 24 1) (ys.length - 24) (cap - 24))]) hI rfl rfl ⟨_, rfl, rfl, rfl⟩ (by kernel_rfl) Tryd.func17 rfl rfl ?_
        refine (loadWord_spec ((hx.cut (j := 24) (m := ys.length) (by omega) (Nat.le_refl _)).now hB hR) (by rw [cut_all, List.length_drop]; omega) (by rw [cut_all, List.length_drop])).mono ?_
        rintro ex w26 ⟨rfl, hk⟩
        replace hR := hR.same hk; clear hk
        rw [cut_all]
        refine ⟨_, rfl, ?_⟩
        replace hI := hI.put (d := some 56) (x := .v (.int .u64 ((le64 (ys.drop 24) : Nat) : Int))) (by intro t ht; cases ht; decide) rfl
        replace hI := hI.sel [56, 55, 50, 3, 2, 0] (by kernel_rfl : sel _ _ = some [(56, .v (.int .u64 ((le64 (ys.drop 24) : Nat) : Int))), (55, .v (.slice (cutA ad cap 24 1) (ys.length - 24) (cap - 24))), (50, .v (.int .i64 ((((0 + (cnt (le64 ys).testBit 64)) + (cnt (le64 (ys.drop 8)).testBit 64)) + (cnt (le64 (ys.drop 16)).testBit 64) : Nat) : Int))), (3, .v (.int .i64 ((((0 + (cnt (le64 ys).testBit 64)) + (cnt (le64 (ys.drop 8)).testBit 64)) + (cnt (le64 (ys.drop 16)).testBit 64) : Nat) : Int))), (2, .p 1 0), (0, .p 0 0)])
        refine callOp (ys := [.v (.int .u64 ((le64 (ys.drop 24) : Nat) : Int))]) hI rfl rfl ⟨_, rfl, rfl, rfl⟩ (by kernel_rfl) Tryd.func16 rfl rfl ?_
        refine (onesCount64_spec (C := C) (x := le64 (ys.drop 24)) (le64_lt (fun i => by rw [getD_drop0]; exact hgx _))).mono ?_
        rintro ex w27 ⟨rfl, hk⟩
        replace hR := hR.same hk; clear hk
        refine ⟨_, rfl, ?_⟩
        replace hI := hI.put (d := some 57) (x := .v (.int .i64 ((cnt (le64 (ys.drop 24)).testBit 64 : Nat) : Int))) (by intro t ht; cases ht; decide) rfl
        replace hI := hI.sel [57, 56, 55, 50, 3, 2, 0] (by kernel_rfl : sel _ _ = some [(57, .v (.int .i64 ((cnt (le64 (ys.drop 24)).testBit 64 : Nat) : Int))), (56, .v (.int .u64 ((le64 (ys.drop 24) : Nat) : Int))), (55, .v (.slice (cutA ad cap 24 1) (ys.length - 24) (cap - 24))), (50, .v (.int .i64 ((((0 + (cnt (le64 ys).testBit 64)) + (cnt (le64 (ys.drop 8)).testBit 64)) + (cnt (le64 (ys.drop 16)).testBit 64) : Nat) : Int))), (3, .v (.int .i64 ((((0 + (cnt (le64 ys).testBit 64)) + (cnt (le64 (ys.drop 8)).testBit 64)) + (cnt (le64 (ys.drop 16)).testBit 64) : Nat) : Int))), (2, .p 1 0), (0, .p 0 0)])
        refine part_ tab [8, 9] [] (by rfl) (k := 2) (hs := [(8, .nw)]) (sy := []) (ks := [3, 2, 0]) (bs := [1, 0]) (gs := [])
            (L' := [(3, .v (.int .i64 (((((0 + (cnt (le64 ys).testBit 64)) + (cnt (le64 (ys.drop 8)).testBit 64)) + (cnt (le64 (ys.drop 16)).testBit 64)) + (cnt (le64 (ys.drop 24)).testBit 64) : Nat) : Int))), (2, .p 1 0), (0, .p 0 0)])
            (H' := [⟨1, 40, [.v (.int .i16 0), .v (.int .i16 0)]⟩, ⟨0, 43, [.v (.slice ad ys.length cap), .v (.int .i64 ((rem : Nat) : Int)), .v (.int .i8 ((off : Nat) : Int))]⟩]) (G' := []) (k' := 2) hR hI (by kernel_rfl)
            (.cons (inR_i64 (n := ((((0 + (cnt (le64 ys).testBit 64)) + (cnt (le64 (ys.drop 8)).testBit 64)) + (cnt (le64 (ys.drop 16)).testBit 64) : Nat) : Int) + ((cnt (le64 (ys.drop 24)).testBit 64 : Nat) : Int)) (by have h_0 := cnt_le (le64 ys).testBit 64; have h_1 := cnt_le (le64 (ys.drop 8)).testBit 64; have h_2 := cnt_le (le64 (ys.drop 16)).testBit 64; have h_3 := cnt_le (le64 (ys.drop 24)).testBit 64; omega)) .nil) (fun e28 a28 w28 hag hR hI => ?_)
        replace hbk := (hag 0 (by decide)).1.trans hbk
        refine ops_nil ?_
        refine then_n ?_
        refine wp_seq ?_
        refine regL 9 hR (by kernel_rfl) (fun hS => ?_)
        replace hR := hR.drew; have hF := hR.fore
        refine takeL tab (H := [⟨1, 40, [.v (.int .i16 0), .v (.int .i16 0)]⟩, ⟨0, 43, [.v (.slice ad ys.length cap), .v (.int .i64 ((rem : Nat) : Int)), .v (.int .i8 ((off : Nat) : Int))]⟩]) (G := []) (hs := []) (gs := []) (is := [0, 1, 2, 3, 4]) (ks := [152, 148, 3, 2, 0]) (f' := 5)
            (L' := [(152, .v (.slice ad ys.length cap)), (148, .p 0 0), (3, .v (.int .i64 (((((0 + (cnt (le64 ys).testBit 64)) + (cnt (le64 (ys.drop 8)).testBit 64)) + (cnt (le64 (ys.drop 16)).testBit 64)) + (cnt (le64 (ys.drop 24)).testBit 64) : Nat) : Int))), (2, .p 1 0), (0, .p 0 0)]) hS hI (by kernel_rfl) (fun _ _ _ _ _ h => h) (by kernel_rfl)
            .nil (by kernel_rfl) (by kernel_rfl) (by kernel_rfl) (by rfl) (fun a29 hI => ?_)
        refine oneL (i := 5) (f' := 4) (by kernel_rfl) (by rfl) ?_
        refine callH (ys := [.v (.int .i64 256)]) hI rfl rfl ⟨_, rfl, rfl, rfl⟩ (by kernel_rfl) Tryd.func19 rfl rfl ?_
        refine (bytesForBits_spec (C := C) (p := 256) (by omega)).mono ?_
        rintro ex w30 ⟨q, rfl, hq, hk⟩
        replace hS := hS.same hk; replace hR := hR.same hk; clear hk
        obtain rfl : q = 32 := by omega
        refine ⟨_, rfl, hS, ?_⟩
        replace hI := hI.put (d := some 153) (x := .v (.int .i64 ((32 : Nat) : Int))) (by intro t ht; cases ht; decide) rfl
        replace hI := hI.sel [153, 152, 148, 3, 2, 0] (by kernel_rfl : sel _ _ = some [(153, .v (.int .i64 ((32 : Nat) : Int))), (152, .v (.slice ad ys.length cap)), (148, .p 0 0), (3, .v (.int .i64 (((((0 + (cnt (le64 ys).testBit 64)) + (cnt (le64 (ys.drop 8)).testBit 64)) + (cnt (le64 (ys.drop 16)).testBit 64)) + (cnt (le64 (ys.drop 24)).testBit 64) : Nat) : Int))), (2, .p 1 0), (0, .p 0 0)])
        refine takeC tab (H := [⟨1, 40, [.v (.int .i16 0), .v (.int .i16 0)]⟩, ⟨0, 43, [.v (.slice ad ys.length cap), .v (.int .i64 ((rem : Nat) : Int)), .v (.int .i8 ((off : Nat) : Int))]⟩]) (G := []) (hs := [(6, .sym)]) (gs := []) (is := [6, 7, 8]) (ks := [156, 154, 3, 2, 0]) (f' := 1)
            (L' := [(156, .p 0 0), (154, .v (.slice (cutA ad cap 32 1) (ys.length - 32) (cap - 32))), (3, .v (.int .i64 (((((0 + (cnt (le64 ys).testBit 64)) + (cnt (le64 (ys.drop 8)).testBit 64)) + (cnt (le64 (ys.drop 16)).testBit 64)) + (cnt (le64 (ys.drop 24)).testBit 64) : Nat) : Int))), (2, .p 1 0), (0, .p 0 0)]) hS hI (by kernel_rfl) (fun _ _ _ _ _ h => h) (by kernel_rfl)
            (.cons (by omega : (0 : Int) ≤ ((32 : Nat) : Int) ∧ ((32 : Nat) : Int) ≤ (ys.length : Nat)) .nil) (by kernel_rfl) (by kernel_rfl) (by kernel_rfl) (by kernel_rfl) (by rfl) (fun a31 hI => ?_)
        refine endL (i := 9) (f' := 0) (by kernel_rfl) (by rfl) (by kernel_rfl) ?_
        refine effH tab (k := 2) (hh := .no) (r := ⟨.v (undef), [⟨0, 43, [.v (.slice (cutA ad cap 32 1) (ys.length - 32) (cap - 32)), .v (.int .i64 ((rem : Nat) : Int)), .v (.int .i8 ((off : Nat) : Int))]⟩, ⟨1, 40, [.v (.int .i16 0), .v (.int .i16 0)]⟩], [], 2, _, true⟩) hR hI (by kernel_rfl) rfl rfl rfl (by kernel_rfl) .nil (fun e32 a32 w32 hag hR2 hI => ?_)
        replace hbk := (hag 0 (by decide)).1.trans hbk
        replace hR := hR2; clear hR2
        replace hI := hI.sel [156, 154, 3, 2, 0] (by kernel_rfl : sel _ _ = some [(156, .p 0 0), (154, .v (.slice (cutA ad cap 32 1) (ys.length - 32) (cap - 32))), (3, .v (.int .i64 (((((0 + (cnt (le64 ys).testBit 64)) + (cnt (le64 (ys.drop 8)).testBit 64)) + (cnt (le64 (ys.drop 16)).testBit 64)) + (cnt (le64 (ys.drop 24)).testBit 64) : Nat) : Int))), (2, .p 1 0), (0, .p 0 0)])
        refine doneL (by kernel_rfl) ?_
        refine then_n ?_
        replace hI := hI.sel [3, 2, 0] (by kernel_rfl : sel _ _ = some [(3, .v (.int .i64 (((((0 + (cnt (le64 ys).testBit 64)) + (cnt (le64 (ys.drop 8)).testBit 64)) + (cnt (le64 (ys.drop 16)).testBit 64)) + (cnt (le64 (ys.drop 24)).testBit 64) : Nat) : Int))), (2, .p 1 0), (0, .p 0 0)]); replace hR := hR.sel [0, 1] [] (by kernel_rfl : selH _ _ = some [⟨0, 43, [.v (.slice (cutA ad cap 32 1) (ys.length - 32) (cap - 32)), .v (.int .i64 ((rem : Nat) : Int)), .v (.int .i8 ((off : Nat) : Int))]⟩, ⟨1, 40, [.v (.int .i16 0), .v (.int .i16 0)]⟩]) (by kernel_rfl : selG _ _ = some [])
        refine reg_seq tab (k := 2) (hs := [(4, .eq (.int .i64 ((rem - 256 : Nat) : Int)))]) (sy := []) (ks := [3, 2]) (bs := [0, 1]) (gs := [])
            (L' := [(3, .v (.int .i64 (((((0 + (cnt (le64 ys).testBit 64)) + (cnt (le64 (ys.drop 8)).testBit 64)) + (cnt (le64 (ys.drop 16)).testBit 64)) + (cnt (le64 (ys.drop 24)).testBit 64) : Nat) : Int))), (2, .p 1 0)])
            (H' := [⟨0, 43, [.v (.slice (cutA ad cap 32 1) (ys.length - 32) (cap - 32)), .v (.int .i64 ((rem - 256 : Nat) : Int)), .v (.int .i8 ((off : Nat) : Int))]⟩, ⟨1, 40, [.v (.int .i16 0), .v (.int .i16 0)]⟩]) (G' := []) (k' := 2) hR hI (by kernel_rfl)
            (.cons (congrArg (Value.int .i64) (by rw [wrap_inR (inR_i64 (by omega))]; omega : IntKind.i64.wrap (((rem : Nat) : Int) - (256 : Int)) = ((rem - 256 : Nat) : Int))) .nil) (fun e33 a33 w33 hag hR hI => ?_)
        replace hbk := (hag 0 (by decide)).1.trans hbk
        refine reg_seq tab (k := 2) (hs := [(1, .nw)]) (sy := []) (ks := [2]) (bs := [1, 0]) (gs := [])
            (L' := [(2, .p 1 0)])
            (H' := [⟨1, 40, [.v (.int .i16 256), .v (.int .i16 (((((0 + (cnt (le64 ys).testBit 64)) + (cnt (le64 (ys.drop 8)).testBit 64)) + (cnt (le64 (ys.drop 16)).testBit 64)) + (cnt (le64 (ys.drop 24)).testBit 64) : Nat) : Int))]⟩, ⟨0, 43, [.v (.slice (cutA ad cap 32 1) (ys.length - 32) (cap - 32)), .v (.int .i64 ((rem - 256 : Nat) : Int)), .v (.int .i8 ((off : Nat) : Int))]⟩]) (G' := []) (k' := 2) hR hI (by kernel_rfl)
            (.cons (inR_i16 (n := (((((0 + (cnt (le64 ys).testBit 64)) + (cnt (le64 (ys.drop 8)).testBit 64)) + (cnt (le64 (ys.drop 16)).testBit 64)) + (cnt (le64 (ys.drop 24)).testBit 64) : Nat) : Int)) (by have h_0 := cnt_le (le64 ys).testBit 64; have h_1 := cnt_le (le64 (ys.drop 8)).testBit 64; have h_2 := cnt_le (le64 (ys.drop 16)).testBit 64; have h_3 := cnt_le (le64 (ys.drop 24)).testBit 64; omega)) .nil) (fun e34 a34 w34 hag hR hI => ?_)
        replace hbk := (hag 0 (by decide)).1.trans hbk
        refine wp_ret ?_
        refine outN tab (xs := [.agg [.v (.int .i16 256), .v (.int .i16 (((((0 + (cnt (le64 ys).testBit 64)) + (cnt (le64 (ys.drop 8)).testBit 64)) + (cnt (le64 (ys.drop 16)).testBit 64)) + (cnt (le64 (ys.drop 24)).testBit 64) : Nat) : Int))]]) hR hI rfl (by kernel_rfl) ?_
        refine ⟨256, _, rfl, hB.fin hR, hbk ▸ (hR.blk _ (List.mem_cons_of_mem _ (List.mem_cons_self ..))).1, Nat.le_refl _, by omega, .inl rfl, ?_⟩
        rw [four, hop, Nat.zero_add, show le64 ys = le64 (ys.drop 0) from rfl, cnt_w hgx 0, cnt_w hgx 8, cnt_w hgx 16, cnt_w hgx 24]
        simp only [Nat.zero_add]
    · skip
      replace hI := hI.re 16 (.v (.bool false)) rfl (congrArg Value.bool hc7)
      try simp only [decide_eq_true_eq, decide_eq_false_iff_not, beq_iff_eq, bne_iff_ne, beq_eq_false_iff_ne, bne_eq_false_iff_eq, Bool.and_eq_true, Bool.and_eq_false_iff, Bool.or_eq_true, Bool.or_eq_false_iff, Bool.not_eq_true', Bool.not_eq_false', ne_eq] at hc7
      have hop : 0 < off := by omega
      refine wp_seq ?_
      refine regQ_seq tab (by kernel_rfl) (k := 2) (hs := [(8, .nw), (9, .nw)]) (gs := []) (ks := [69, 3, 2, 0])
          (L' := [(69, .v (.bool (decide (((rem : Nat) : Int) < (1280 : Int) - ((off : Nat) : Int))))), (3, .v (.int .i64 0)), (2, .p 1 0), (0, .p 0 0)]) hR hI (by kernel_rfl) (fun _ _ _ _ _ h => h) (by kernel_rfl)
          (.cons (inR_i64 (n := ((off : Nat) : Int)) (by omega)) (.cons (inR_i64 (n := (1280 : Int) - ((off : Nat) : Int)) (by omega)) .nil)) (by kernel_rfl) (by kernel_rfl) (fun e35 a35 w35 hag hR hI => ?_)
      replace hbk := (hag 0 (by decide)).1.trans hbk
      refine cnd (b := decide (((rem : Nat) : Int) < (1280 : Int) - ((off : Nat) : Int))) hI (by kernel_rfl) (fun hc36 => ?_) (fun hc36 => ?_)
      · skip
        replace hI := hI.re 69 (.v (.bool true)) rfl (congrArg Value.bool hc36)
        try simp only [decide_eq_true_eq, decide_eq_false_iff_not, beq_iff_eq, bne_iff_ne, beq_eq_false_iff_ne, bne_eq_false_iff_eq, Bool.and_eq_true, Bool.and_eq_false_iff, Bool.or_eq_true, Bool.or_eq_false_iff, Bool.not_eq_true', Bool.not_eq_false', ne_eq] at hc36
        refine wp_seq ?_
        refine reg (is := [0, 1, 2]) (by kernel_rfl) ?_
        refine part_ tab [0] [1, 2] (by rfl) (k := 2) (hs := []) (sy := []) (ks := [70, 2]) (bs := [1, 0]) (gs := [])
            (L' := [(70, .p 0 0), (2, .p 1 0)])
            (H' := [⟨1, 40, [.v (.int .i16 0), .v (.int .i16 0)]⟩, ⟨0, 43, [.v (.slice ad ys.length cap), .v (.int .i64 ((rem : Nat) : Int)), .v (.int .i8 ((off : Nat) : Int))]⟩]) (G' := []) (k' := 2) hR hI (by kernel_rfl)
            .nil (fun e37 a37 w37 hag hR hI => ?_)
        replace hbk := (hag 0 (by decide)).1.trans hbk
        refine callOp (ys := [.p 0 0, .v (.int .i64 256)]) hI rfl rfl ⟨_, rfl, rfl, rfl⟩ (by kernel_rfl) Tryd.func15 rfl rfl ?_
        have hblk_ := hR.blk ⟨0, 43, [.v (.slice ad ys.length cap), .v (.int .i64 ((rem : Nat) : Int)), .v (.int .i8 ((off : Nat) : Int))]⟩ (by simp)
        refine (slow_spec (hg.now hB hR) hblk_.1 (fun h => hblk_.2 h.2) (hx.now hB hR) ho8 hle hs 256 rfl (by decide)).mono ?_
        rintro ex w38 ⟨r, c, rfl, hk, hnew, hst⟩
        have hkF_ := hR.keepB (b := ⟨0, 43, [.v (.slice ad ys.length cap), .v (.int .i64 ((rem : Nat) : Int)), .v (.int .i8 ((off : Nat) : Int))]⟩) (by simp) hk
        replace hg := hg.nextF hB hR hkF_
        replace hx := hx.nextF hB hR hkF_
        have hB_ := hB.nextF hR hkF_
        replace hR := hR.turned (b := ⟨0, 43, [.v (.slice ad ys.length cap), .v (.int .i64 ((rem : Nat) : Int)), .v (.int .i8 ((off : Nat) : Int))]⟩) (by simp) [.v (.slice (cutA ad cap (r / 8) 1) (ys.length - r / 8) (cap - r / 8)), .v (.int .i64 ((rem - r : Nat) : Int)), .v (.int .i8 ((off : Nat) : Int))] [⟨1, 40, [.v (.int .i16 0), .v (.int .i16 0)]⟩] (by simp) hk hnew
        dsimp only at hR; replace hB := hB_; clear hB_ hk hkF_ hblk_
        refine ⟨_, rfl, ?_⟩
        replace hI := hI.put (d := some 71) (x := .v (.agg #[.int .i16 ((r : Nat) : Int), .int .i16 ((c : Nat) : Int)])) (by intro t ht; cases ht; decide) rfl
        replace hI := hI.sel [71, 70, 2] (by kernel_rfl : sel _ _ = some [(71, .v (.agg #[.int .i16 ((r : Nat) : Int), .int .i16 ((c : Nat) : Int)])), (70, .p 0 0), (2, .p 1 0)])
        refine part_ tab [2] [] (by rfl) (k := 2) (hs := []) (sy := []) (ks := [2]) (bs := [1, 0]) (gs := [])
            (L' := [(2, .p 1 0)])
            (H' := [⟨1, 40, [.v (.int .i16 ((r : Nat) : Int)), .v (.int .i16 ((c : Nat) : Int))]⟩, ⟨0, 43, [.v (.slice (cutA ad cap (r / 8) 1) (ys.length - r / 8) (cap - r / 8)), .v (.int .i64 ((rem - r : Nat) : Int)), .v (.int .i8 ((off : Nat) : Int))]⟩]) (G' := []) (k' := 2) hR hI (by kernel_rfl)
            .nil (fun e39 a39 w39 hag hR hI => ?_)
        replace hbk := (hag 0 (by decide)).1.trans hbk
        refine ops_nil ?_
        refine then_n ?_
        refine wp_ret ?_
        refine ret_then ?_
        refine ret_then ?_
        refine outN tab (xs := [.agg [.v (.int .i16 ((r : Nat) : Int)), .v (.int .i16 ((c : Nat) : Int))]]) hR hI rfl (by kernel_rfl) ?_
        exact ⟨r, c, rfl, hB.fin hR, hbk ▸ (hR.blk _ (List.mem_cons_of_mem _ (List.mem_cons_self ..))).1, hst⟩
      · skip
        replace hI := hI.re 69 (.v (.bool false)) rfl (congrArg Value.bool hc36)
        try simp only [decide_eq_true_eq, decide_eq_false_iff_not, beq_iff_eq, bne_iff_ne, beq_eq_false_iff_ne, bne_eq_false_iff_eq, Bool.and_eq_true, Bool.and_eq_false_iff, Bool.or_eq_true, Bool.or_eq_false_iff, Bool.not_eq_true', Bool.not_eq_false', ne_eq] at hc36
        refine wp_skip ?_
        refine then_n ?_
        refine wp_seq ?_
        refine reg (is := [0, 1, 2, 3, 4, 5]) (by kernel_rfl) ?_
        refine part_ tab [0, 1, 2, 3] [4, 5] (by rfl) (k := 2) (hs := []) (sy := []) (ks := [75, 3, 2, 0]) (bs := [1, 0]) (gs := [])
            (L' := [(75, .v (.slice ad ys.length cap)), (3, .v (.int .i64 0)), (2, .p 1 0), (0, .p 0 0)])
            (H' := [⟨1, 40, [.v (.int .i16 0), .v (.int .i16 0)]⟩, ⟨0, 43, [.v (.slice ad ys.length cap), .v (.int .i64 ((rem : Nat) : Int)), .v (.int .i8 ((off : Nat) : Int))]⟩]) (G' := []) (k' := 2) hR hI (by kernel_rfl)
            .nil (fun e40 a40 w40 hag hR hI => ?_)
        replace hbk := (hag 0 (by decide)).1.trans hbk
        refine callOp (ys := [.v (.slice ad ys.length cap)]) hI rfl rfl ⟨_, rfl, rfl, rfl⟩ (by kernel_rfl) Tryd.func17 rfl rfl ?_
        refine (loadWord_spec (hx.now hB hR) (by omega) rfl).mono ?_
        rintro ex w41 ⟨rfl, hk⟩
        replace hR := hR.same hk; clear hk
        refine ⟨_, rfl, ?_⟩
        replace hI := hI.put (d := some 76) (x := .v (.int .u64 ((le64 ys : Nat) : Int))) (by intro t ht; cases ht; decide) rfl
        replace hI := hI.sel [76, 75, 3, 2, 0] (by kernel_rfl : sel _ _ = some [(76, .v (.int .u64 ((le64 ys : Nat) : Int))), (75, .v (.slice ad ys.length cap)), (3, .v (.int .i64 0)), (2, .p 1 0), (0, .p 0 0)])
        refine part_ tab [5] [] (by rfl) (k := 2) (hs := []) (sy := []) (ks := [4, 3, 2, 0]) (bs := [1, 0]) (gs := [])
            (L' := [(4, .v (.int .u64 ((le64 ys : Nat) : Int))), (3, .v (.int .i64 0)), (2, .p 1 0), (0, .p 0 0)])
            (H' := [⟨1, 40, [.v (.int .i16 0), .v (.int .i16 0)]⟩, ⟨0, 43, [.v (.slice ad ys.length cap), .v (.int .i64 ((rem : Nat) : Int)), .v (.int .i8 ((off : Nat) : Int))]⟩]) (G' := []) (k' := 2) hR hI (by kernel_rfl)
            .nil (fun e42 a42 w42 hag hR hI => ?_)
        replace hbk := (hag 0 (by decide)).1.trans hbk
        refine ops_nil ?_
        refine then_n ?_
        refine wp_seq ?_
        refine reg (is := [0, 1, 2, 3, 4, 5, 6]) (by kernel_rfl) ?_
        refine part_ tab [0, 1, 2, 3, 4] [5, 6] (by rfl) (k := 2) (hs := [(4, .sym)]) (sy := []) (ks := [81, 4, 3, 2, 0]) (bs := [1, 0]) (gs := [])
            (L' := [(81, .v (.slice (cutA ad cap 8 1) (ys.length - 8) (cap - 8))), (4, .v (.int .u64 ((le64 ys : Nat) : Int))), (3, .v (.int .i64 0)), (2, .p 1 0), (0, .p 0 0)])
            (H' := [⟨1, 40, [.v (.int .i16 0), .v (.int .i16 0)]⟩, ⟨0, 43, [.v (.slice ad ys.length cap), .v (.int .i64 ((rem : Nat) : Int)), .v (.int .i8 ((off : Nat) : Int))]⟩]) (G' := []) (k' := 2) hR hI (by kernel_rfl)
            (.cons (by omega : (0 : Int) ≤ (8 : Int) ∧ (8 : Int) ≤ (ys.length : Nat)) .nil) (fun e43 a43 w43 hag hR hI => ?_)
        replace hbk := (hag 0 (by decide)).1.trans hbk
        refine callOp (ys := [.v (.slice (cutA ad cap 8 1) (ys.length - 8) (cap - 8))]) hI rfl rfl ⟨_, rfl, rfl, rfl⟩ (by kernel_rfl) Tryd.func17 rfl rfl ?_
        refine (loadWord_spec ((hx.cut (j := 8) (m := ys.length) (by omega) (Nat.le_refl _)).now hB hR) (by rw [cut_all, List.length_drop]; omega) (by rw [cut_all, List.length_drop])).mono ?_
        rintro ex w44 ⟨rfl, hk⟩
        replace hR := hR.same hk; clear hk
        rw [cut_all]
        refine ⟨_, rfl, ?_⟩
        replace hI := hI.put (d := some 82) (x := .v (.int .u64 ((le64 (ys.drop 8) : Nat) : Int))) (by intro t ht; cases ht; decide) rfl
        replace hI := hI.sel [82, 81, 4, 3, 2, 0] (by kernel_rfl : sel _ _ = some [(82, .v (.int .u64 ((le64 (ys.drop 8) : Nat) : Int))), (81, .v (.slice (cutA ad cap 8 1) (ys.length - 8) (cap - 8))), (4, .v (.int .u64 ((le64 ys : Nat) : Int))), (3, .v (.int .i64 0)), (2, .p 1 0), (0, .p 0 0)])
        refine part_ tab [6] [] (by rfl) (k := 2) (hs := []) (sy := []) (ks := [5, 4, 3, 2, 0]) (bs := [1, 0]) (gs := [])
            (L' := [(5, .v (.int .u64 ((le64 (ys.drop 8) : Nat) : Int))), (4, .v (.int .u64 ((le64 ys : Nat) : Int))), (3, .v (.int .i64 0)), (2, .p 1 0), (0, .p 0 0)])
            (H' := [⟨1, 40, [.v (.int .i16 0), .v (.int .i16 0)]⟩, ⟨0, 43, [.v (.slice ad ys.length cap), .v (.int .i64 ((rem : Nat) : Int)), .v (.int .i8 ((off : Nat) : Int))]⟩]) (G' := []) (k' := 2) hR hI (by kernel_rfl)
            .nil (fun e45 a45 w45 hag hR hI => ?_)
        replace hbk := (hag 0 (by decide)).1.trans hbk
        refine ops_nil ?_
        refine then_n ?_
        refine wp_seq ?_
        refine reg (is := [0, 1, 2, 3, 4, 5, 6, 7, 8, 9, 10, 11]) (by kernel_rfl) ?_
        refine part_ tab [0, 1, 2, 3, 4, 5, 6, 7] [8, 9, 10, 11] (by rfl) (k := 2) (hs := [(7, .nw)]) (sy := []) (ks := [90, 85, 84, 83, 5, 3, 2, 0]) (bs := [1, 0]) (gs := [])
            (L' := [(90, .v (.int .i64 ((off : Nat) : Int))), (85, .v (.int .u64 ((le64 (ys.drop 8) : Nat) : Int))), (84, .v (.int .u64 ((le64 ys : Nat) : Int))), (83, .v (.int .i64 0)), (5, .v (.int .u64 ((le64 (ys.drop 8) : Nat) : Int))), (3, .v (.int .i64 0)), (2, .p 1 0), (0, .p 0 0)])
            (H' := [⟨1, 40, [.v (.int .i16 0), .v (.int .i16 0)]⟩, ⟨0, 43, [.v (.slice ad ys.length cap), .v (.int .i64 ((rem : Nat) : Int)), .v (.int .i8 ((off : Nat) : Int))]⟩]) (G' := []) (k' := 2) hR hI (by kernel_rfl)
            (.cons (inR_i64 (n := ((off : Nat) : Int)) (by omega)) .nil) (fun e46 a46 w46 hag hR hI => ?_)
        replace hbk := (hag 0 (by decide)).1.trans hbk
        refine callOp (ys := [.v (.int .u64 ((le64 ys : Nat) : Int)), .v (.int .u64 ((le64 (ys.drop 8) : Nat) : Int)), .v (.int .i64 ((off : Nat) : Int))]) hI rfl rfl ⟨_, rfl, rfl, rfl⟩ (by kernel_rfl) Tryd.func18 rfl rfl ?_
        refine (shiftWord_spec (C := C) (x := le64 ys) (y := le64 (ys.drop 8)) (s := off) (le64_lt hgx) (le64_lt (fun i => by rw [getD_drop0]; exact hgx _)) ho8).mono ?_
        rintro ex w47 ⟨v0, rfl, hv0b, hk, hv0⟩
        replace hR := hR.same hk; clear hk
        refine ⟨_, rfl, ?_⟩
        replace hI := hI.put (d := some 91) (x := .v (.int .u64 ((v0 : Nat) : Int))) (by intro t ht; cases ht; decide) rfl
        replace hI := hI.sel [91, 90, 85, 84, 83, 5, 3, 2, 0] (by kernel_rfl : sel _ _ = some [(91, .v (.int .u64 ((v0 : Nat) : Int))), (90, .v (.int .i64 ((off : Nat) : Int))), (85, .v (.int .u64 ((le64 (ys.drop 8) : Nat) : Int))), (84, .v (.int .u64 ((le64 ys : Nat) : Int))), (83, .v (.int .i64 0)), (5, .v (.int .u64 ((le64 (ys.drop 8) : Nat) : Int))), (3, .v (.int .i64 0)), (2, .p 1 0), (0, .p 0 0)])
        refine callOp (ys := [.v (.int .u64 ((v0 : Nat) : Int))]) hI rfl rfl ⟨_, rfl, rfl, rfl⟩ (by kernel_rfl) Tryd.func16 rfl rfl ?_
        refine (onesCount64_spec (C := C) (x := v0) (hv0b)).mono ?_
        rintro ex w48 ⟨rfl, hk⟩
        replace hR := hR.same hk; clear hk
        refine ⟨_, rfl, ?_⟩
        replace hI := hI.put (d := some 92) (x := .v (.int .i64 ((cnt (v0).testBit 64 : Nat) : Int))) (by intro t ht; cases ht; decide) rfl
        replace hI := hI.sel [92, 91, 90, 85, 84, 83, 5, 3, 2, 0] (by kernel_rfl : sel _ _ = some [(92, .v (.int .i64 ((cnt (v0).testBit 64 : Nat) : Int))), (91, .v (.int .u64 ((v0 : Nat) : Int))), (90, .v (.int .i64 ((off : Nat) : Int))), (85, .v (.int .u64 ((le64 (ys.drop 8) : Nat) : Int))), (84, .v (.int .u64 ((le64 ys : Nat) : Int))), (83, .v (.int .i64 0)), (5, .v (.int .u64 ((le64 (ys.drop 8) : Nat) : Int))), (3, .v (.int .i64 0)), (2, .p 1 0), (0, .p 0 0)])
        refine part_ tab [10, 11] [] (by rfl) (k := 2) (hs := [(10, .nw)]) (sy := []) (ks := [3, 5, 2, 0]) (bs := [1, 0]) (gs := [])
            (L' := [(3, .v (.int .i64 ((0 + (cnt (v0).testBit 64) : Nat) : Int))), (5, .v (.int .u64 ((le64 (ys.drop 8) : Nat) : Int))), (2, .p 1 0), (0, .p 0 0)])
            (H' := [⟨1, 40, [.v (.int .i16 0), .v (.int .i16 0)]⟩, ⟨0, 43, [.v (.slice ad ys.length cap), .v (.int .i64 ((rem : Nat) : Int)), .v (.int .i8 ((off : Nat) : Int))]⟩]) (G' := []) (k' := 2) hR hI (by kernel_rfl)
            (.cons (inR_i64 (n := (0 : Int) + ((cnt (v0).testBit 64 : Nat) : Int)) (by have h_0 := cnt_le (v0).testBit 64; omega)) .nil) (fun e49 a49 w49 hag hR hI => ?_)
        replace hbk := (hag 0 (by decide)).1.trans hbk
        refine ops_nil ?_
        refine then_n ?_
        refine reg_seq tab (k := 2) (hs := []) (sy := []) (ks := [4, 3, 2, 0]) (bs := [1, 0]) (gs := [])
            (L' := [(4, .v (.int .u64 ((le64 (ys.drop 8) : Nat) : Int))), (3, .v (.int .i64 ((0 + (cnt (v0).testBit 64) : Nat) : Int))), (2, .p 1 0), (0, .p 0 0)])
            (H' := [⟨1, 40, [.v (.int .i16 0), .v (.int .i16 0)]⟩, ⟨0, 43, [.v (.slice ad ys.length cap), .v (.int .i64 ((rem : Nat) : Int)), .v (.int .i8 ((off : Nat) : Int))]⟩]) (G' := []) (k' := 2) hR hI (by kernel_rfl)
            .nil (fun e50 a50 w50 hag hR hI => ?_)
        replace hbk := (hag 0 (by decide)).1.trans hbk
        refine wp_seq ?_
        refine reg (is := [0, 1, 2, 3, 4, 5, 6]) (by kernel_rfl) ?_
        refine part_ tab [0, 1, 2, 3, 4] [5, 6] (by rfl) (k := 2) (hs := [(4, .sym)]) (sy := []) (ks := [99, 4, 3, 2, 0]) (bs := [1, 0]) (gs := [])
            (L' := [(99, .v (.slice (cutA ad cap 16 1) (ys.length - 16) (cap - 16))), (4, .v (.int .u64 ((le64 (ys.drop 8) : Nat) : Int))), (3, .v (.int .i64 ((0 + (cnt (v0).testBit 64) : Nat) : Int))), (2, .p 1 0), (0, .p 0 0)])
            (H' := [⟨1, 40, [.v (.int .i16 0), .v (.int .i16 0)]⟩, ⟨0, 43, [.v (.slice ad ys.length cap), .v (.int .i64 ((rem : Nat) : Int)), .v (.int .i8 ((off : Nat) : Int))]⟩]) (G' := []) (k' := 2) hR hI (by kernel_rfl)
            (.cons (by omega : (0 : Int) ≤ (16 : Int) ∧ (16 : Int) ≤ (ys.length : Nat)) .nil) (fun e51 a51 w51 hag hR hI => ?_)
        replace hbk := (hag 0 (by decide)).1.trans hbk
        refine callOp (ys := [.v (.slice (cutA ad cap 16 1) (ys.length - 16) (cap - 16))]) hI rfl rfl ⟨_, rfl, rfl, rfl⟩ (by kernel_rfl) Tryd.func17 rfl rfl ?_
        refine (loadWord_spec ((hx.cut (j := 16) (m := ys.length) (by omega) (Nat.le_refl _)).now hB hR) (by rw [cut_all, List.length_drop]; omega) (by rw [cut_all, List.length_drop])).mono ?_
        rintro ex w52 ⟨rfl, hk⟩
        replace hR := hR.same hk; clear hk
        rw [cut_all]
        refine ⟨_, rfl, ?_⟩
        replace hI := hI.put (d := some 100) (x := .v (.int .u64 ((le64 (ys.drop 16) : Nat) : Int))) (by intro t ht; cases ht; decide) rfl
        replace hI := hI.sel [100, 99, 4, 3, 2, 0] (by kernel_rfl : sel _ _ = some [(100, .v (.int .u64 ((le64 (ys.drop 16) : Nat) : Int))), (99, .v (.slice (cutA ad cap 16 1) (ys.length - 16) (cap - 16))), (4, .v (.int .u64 ((le64 (ys.drop 8) : Nat) : Int))), (3, .v (.int .i64 ((0 + (cnt (v0).testBit 64) : Nat) : Int))), (2, .p 1 0), (0, .p 0 0)])
        refine part_ tab [6] [] (by rfl) (k := 2) (hs := []) (sy := []) (ks := [5, 4, 3, 2, 0]) (bs := [1, 0]) (gs := [])
            (L' := [(5, .v (.int .u64 ((le64 (ys.drop 16) : Nat) : Int))), (4, .v (.int .u64 ((le64 (ys.drop 8) : Nat) : Int))), (3, .v (.int .i64 ((0 + (cnt (v0).testBit 64) : Nat) : Int))), (2, .p 1 0), (0, .p 0 0)])
            (H' := [⟨1, 40, [.v (.int .i16 0), .v (.int .i16 0)]⟩, ⟨0, 43, [.v (.slice ad ys.length cap), .v (.int .i64 ((rem : Nat) : Int)), .v (.int .i8 ((off : Nat) : Int))]⟩]) (G' := []) (k' := 2) hR hI (by kernel_rfl)
            .nil (fun e53 a53 w53 hag hR hI => ?_)
        replace hbk := (hag 0 (by decide)).1.trans hbk
        refine ops_nil ?_
        refine then_n ?_
        refine wp_seq ?_
        refine reg (is := [0, 1, 2, 3, 4, 5, 6, 7, 8, 9, 10, 11]) (by kernel_rfl) ?_
        refine part_ tab [0, 1, 2, 3, 4, 5, 6, 7] [8, 9, 10, 11] (by rfl) (k := 2) (hs := [(7, .nw)]) (sy := []) (ks := [108, 103, 102, 101, 5, 3, 2, 0]) (bs := [1, 0]) (gs := [])
            (L' := [(108, .v (.int .i64 ((off : Nat) : Int))), (103, .v (.int .u64 ((le64 (ys.drop 16) : Nat) : Int))), (102, .v (.int .u64 ((le64 (ys.drop 8) : Nat) : Int))), (101, .v (.int .i64 ((0 + (cnt (v0).testBit 64) : Nat) : Int))), (5, .v (.int .u64 ((le64 (ys.drop 16) : Nat) : Int))), (3, .v (.int .i64 ((0 + (cnt (v0).testBit 64) : Nat) : Int))), (2, .p 1 0), (0, .p 0 0)])
            (H' := [⟨1, 40, [.v (.int .i16 0), .v (.int .i16 0)]⟩, ⟨0, 43, [.v (.slice ad ys.length cap), .v (.int .i64 ((rem : Nat) : Int)), .v (.int .i8 ((off : Nat) : Int))]⟩]) (G' := []) (k' := 2) hR hI (by kernel_rfl)
            (.cons (inR_i64 (n := ((off : Nat) : Int)) (by omega)) .nil) (fun e54 a54 w54 hag hR hI => ?_)
        replace hbk := (hag 0 (by decide)).1.trans hbk
        refine callOp (ys := [.v (.int .u64 ((le64 (ys.drop 8) : Nat) : Int)), .v (.int .u64 ((le64 (ys.drop 16) : Nat) : Int)), .v (.int .i64 ((off : Nat) : Int))]) hI rfl rfl ⟨_, rfl, rfl, rfl⟩ (by kernel_rfl) Tryd.func18 rfl rfl ?_
        refine (shiftWord_spec (C := C) (x := le64 (ys.drop 8)) (y := le64 (ys.drop 16)) (s := off) (le64_lt (fun i => by rw [getD_drop0]; exact hgx _)) (le64_lt (fun i => by rw [getD_drop0]; exact hgx _)) ho8).mono ?_
        rintro ex w55 ⟨v1, rfl, hv1b, hk, hv1⟩
        replace hR := hR.same hk; clear hk
        refine ⟨_, rfl, ?_⟩
        replace hI := hI.put (d := some 109) (x := .v (.int .u64 ((v1 : Nat) : Int))) (by intro t ht; cases ht; decide) rfl
        replace hI := hI.sel [109, 108, 103, 102, 101, 5, 3, 2, 0] (by kernel_rfl : sel _ _ = some [(109, .v (.int .u64 ((v1 : Nat) : Int))), (108, .v (.int .i64 ((off : Nat) : Int))), (103, .v (.int .u64 ((le64 (ys.drop 16) : Nat) : Int))), (102, .v (.int .u64 ((le64 (ys.drop 8) : Nat) : Int))), (101, .v (.int .i64 ((0 + (cnt (v0).testBit 64) : Nat) : Int))), (5, .v (.int .u64 ((le64 (ys.drop 16) : Nat) : Int))), (3, .v (.int .i64 ((0 + (cnt (v0).testBit 64) : Nat) : Int))), (2, .p 1 0), (0, .p 0 0)])
        refine callOp (ys := [.v (.int .u64 ((v1 : Nat) : Int))]) hI rfl rfl ⟨_, rfl, rfl, rfl⟩ (by kernel_rfl) Tryd.func16 rfl rfl ?_
        refine (onesCount64_spec (C := C) (x := v1) (hv1b)).mono ?_
        rintro ex w56 ⟨rfl, hk⟩
        replace hR := hR.same hk; clear hk
        refine ⟨_, rfl, ?_⟩
        replace hI := hI.put (d := some 110) (x := .v (.int .i64 ((cnt (v1).testBit 64 : Nat) : Int))) (by intro t ht; cases ht; decide) rfl
        replace hI := hI.sel [110, 109, 108, 103, 102, 101, 5, 3, 2, 0] (by kernel_rfl : sel _ _ = some [(110, .v (.int .i64 ((cnt (v1).testBit 64 : Nat) : Int))), (109, .v (.int .u64 ((v1 : Nat) : Int))), (108, .v (.int .i64 ((off : Nat) : Int))), (103, .v (.int .u64 ((le64 (ys.drop 16) : Nat) : Int))), (102, .v (.int .u64 ((le64 (ys.drop 8) : Nat) : Int))), (101, .v (.int .i64 ((0 + (cnt (v0).testBit 64) : Nat) : Int))), (5, .v (.int .u64 ((le64 (ys.drop 16) : Nat) : Int))), (3, .v (.int .i64 ((0 + (cnt (v0).testBit 64) : Nat) : Int))), (2, .p 1 0), (0, .p 0 0)])
        refine part_ tab [10, 11] [] (by rfl) (k := 2) (hs := [(10, .nw)]) (sy := []) (ks := [3, 5, 2, 0]) (bs := [1, 0]) (gs := [])
            (L' := [(3, .v (.int .i64 (((0 + (cnt (v0).testBit 64)) + (cnt (v1).testBit 64) : Nat) : Int))), (5, .v (.int .u64 ((le64 (ys.drop 16) : Nat) : Int))), (2, .p 1 0), (0, .p 0 0)])
            (H' := [⟨1, 40, [.v (.int .i16 0), .v (.int .i16 0)]⟩, ⟨0, 43, [.v (.slice ad ys.length cap), .v (.int .i64 ((rem : Nat) : Int)), .v (.int .i8 ((off : Nat) : Int))]⟩]) (G' := []) (k' := 2) hR hI (by kernel_rfl)
            (.cons (inR_i64 (n := ((0 + (cnt (v0).testBit 64) : Nat) : Int) + ((cnt (v1).testBit 64 : Nat) : Int)) (by have h_0 := cnt_le (v0).testBit 64; have h_1 := cnt_le (v1).testBit 64; omega)) .nil) (fun e57 a57 w57 hag hR hI => ?_)
        replace hbk := (hag 0 (by decide)).1.trans hbk
        refine ops_nil ?_
        refine then_n ?_
        refine reg_seq tab (k := 2) (hs := []) (sy := []) (ks := [4, 3, 2, 0]) (bs := [1, 0]) (gs := [])
            (L' := [(4, .v (.int .u64 ((le64 (ys.drop 16) : Nat) : Int))), (3, .v (.int .i64 (((0 + (cnt (v0).testBit 64)) + (cnt (v1).testBit 64) : Nat) : Int))), (2, .p 1 0), (0, .p 0 0)])
            (H' := [⟨1, 40, [.v (.int .i16 0), .v (.int .i16 0)]⟩, ⟨0, 43, [.v (.slice ad ys.length cap), .v (.int .i64 ((rem : Nat) : Int)), .v (.int .i8 ((off : Nat) : Int))]⟩]) (G' := []) (k' := 2) hR hI (by kernel_rfl)
            .nil (fun e58 a58 w58 hag hR hI => ?_)
        replace hbk := (hag 0 (by decide)).1.trans hbk
        refine wp_seq ?_
        refine reg (is := [0, 1, 2, 3, 4, 5, 6]) (by kernel_rfl) ?_
        refine part_ tab [0, 1, 2, 3, 4] [5, 6] (by rfl) (k := 2) (hs := [(4, .sym)]) (sy := []) (ks := [117, 4, 3, 2, 0]) (bs := [1, 0]) (gs := [])
            (L' := [(117, .v (.slice (cutA ad cap 24 1) (ys.length - 24) (cap - 24))), (4, .v (.int .u64 ((le64 (ys.drop 16) : Nat) : Int))), (3, .v (.int .i64 (((0 + (cnt (v0).testBit 64)) + (cnt (v1).testBit 64) : Nat) : Int))), (2, .p 1 0), (0, .p 0 0)])
            (H' := [⟨1, 40, [.v (.int .i16 0), .v (.int .i16 0)]⟩, ⟨0, 43, [.v (.slice ad ys.length cap), .v (.int .i64 ((rem : Nat) : Int)), .v (.int .i8 ((off : Nat) : Int))]⟩]) (G' := []) (k' := 2) hR hI (by kernel_rfl)
            (.cons (by omega : (0 : Int) ≤ (24 : Int) ∧ (24 : Int) ≤ (ys.length : Nat)) .nil) (fun e59 a59 w59 hag hR hI => ?_)
        replace hbk := (hag 0 (by decide)).1.trans hbk
        refine callOp (ys := [.v (.slice (cutA ad cap 24 1) (ys.length - 24) (cap - 24))]) hI rfl rfl ⟨_, rfl, rfl, rfl⟩ (by kernel_rfl) Tryd.func17 rfl rfl ?_
        refine (loadWord_spec ((hx.cut (j := 24) (m := ys.length) (by omega) (Nat.le_refl _)).now hB hR) (by rw [cut_all, List.length_drop]; omega) (by rw [cut_all, List.length_drop])).mono ?_
        rintro ex w60 ⟨rfl, hk⟩
        replace hR := hR.same hk; clear hk
        rw [cut_all]
        refine ⟨_, rfl, ?_⟩
        replace hI := hI.put (d := some 118) (x := .v (.int .u64 ((le64 (ys.drop 24) : Nat) : Int))) (by intro t ht; cases ht; decide) rfl
        replace hI := hI.sel [118, 117, 4, 3, 2, 0] (by kernel_rfl : sel _ _ = some [(118, .v (.int .u64 ((le64 (ys.drop 24) : Nat) : Int))), (117, .v (.slice (cutA ad cap 24 1) (ys.length - 24) (cap - 24))), (4, .v (.int .u64 ((le64 (ys.drop 16) : Nat) : Int))), (3, .v (.int .i64 (((0 + (cnt (v0).testBit 64)) + (cnt (v1).testBit 64) : Nat) : Int))), (2, .p 1 0), (0, .p 0 0)])
        refine part_ tab [6] [] (by rfl) (k := 2) (hs := []) (sy := []) (ks := [5, 4, 3, 2, 0]) (bs := [1, 0]) (gs := [])
            (L' := [(5, .v (.int .u64 ((le64 (ys.drop 24) : Nat) : Int))), (4, .v (.int .u64 ((le64 (ys.drop 16) : Nat) : Int))), (3, .v (.int .i64 (((0 + (cnt (v0).testBit 64)) + (cnt (v1).testBit 64) : Nat) : Int))), (2, .p 1 0), (0, .p 0 0)])
            (H' := [⟨1, 40, [.v (.int .i16 0), .v (.int .i16 0)]⟩, ⟨0, 43, [.v (.slice ad ys.length cap), .v (.int .i64 ((rem : Nat) : Int)), .v (.int .i8 ((off : Nat) : Int))]⟩]) (G' := []) (k' := 2) hR hI (by kernel_rfl)
            .nil (fun e61 a61 w61 hag hR hI => ?_)
        replace hbk := (hag 0 (by decide)).1.trans hbk
        refine ops_nil ?_
        refine then_n ?_
        refine wp_seq ?_
        refine reg (is := [0, 1, 2, 3, 4, 5, 6, 7, 8, 9, 10, 11]) (by kernel_rfl) ?_
        refine part_ tab [0, 1, 2, 3, 4, 5, 6, 7] [8, 9, 10, 11] (by rfl) (k := 2) (hs := [(7, .nw)]) (sy := []) (ks := [126, 121, 120, 119, 5, 3, 2, 0]) (bs := [1, 0]) (gs := [])
            (L' := [(126, .v (.int .i64 ((off : Nat) : Int))), (121, .v (.int .u64 ((le64 (ys.drop 24) : Nat) : Int))), (120, .v (.int .u64 ((le64 (ys.drop 16) : Nat) : Int))), (119, .v (.int .i64 (((0 + (cnt (v0).testBit 64)) + (cnt (v1).testBit 64) : Nat) : Int))), (5, .v (.int .u64 ((le64 (ys.drop 24) : Nat) : Int))), (3, .v (.int .i64 (((0 + (cnt (v0).testBit 64)) + (cnt (v1).testBit 64) : Nat) : Int))), (2, .p 1 0), (0, .p 0 0)])
            (H' := [⟨1, 40, [.v (.int .i16 0), .v (.int .i16 0)]⟩, ⟨0, 43, [.v (.slice ad ys.length cap), .v (.int .i64 ((rem : Nat) : Int)), .v (.int .i8 ((off : Nat) : Int))]⟩]) (G' := []) (k' := 2) hR hI (by kernel_rfl)
            (.cons (inR_i64 (n := ((off : Nat) : Int)) (by omega)) .nil) (fun e62 a62 w62 hag hR hI => ?_)
        replace hbk := (hag 0 (by decide)).1.trans hbk
        refine callOp (ys := [.v (.int .u64 ((le64 (ys.drop 16) : Nat) : Int)), .v (.int .u64 ((le64 (ys.drop 24) : Nat) : Int)), .v (.int .i64 ((off : Nat) : Int))]) hI rfl rfl ⟨_, rfl, rfl, rfl⟩ (by kernel_rfl) Tryd.func18 rfl rfl ?_
        refine (shiftWord_spec (C := C) (x := le64 (ys.drop 16)) (y := le64 (ys.drop 24)) (s := off) (le64_lt (fun i => by rw [getD_drop0]; exact hgx _)) (le64_lt (fun i => by rw [getD_drop0]; exact hgx _)) ho8).mono ?_
        rintro ex w63 ⟨v2, rfl, hv2b, hk, hv2⟩
        replace hR := hR.same hk; clear hk
        refine ⟨_, rfl, ?_⟩
        replace hI := hI.put (d := some 127) (x := .v (.int .u64 ((v2 : Nat) : Int))) (by intro t ht; cases ht; decide) rfl
        replace hI := hI.sel [127, 126, 121, 120, 119, 5, 3, 2, 0] (by kernel_rfl : sel _ _ = some [(127, .v (.int .u64 ((v2 : Nat) : Int))), (126, .v (.int .i64 ((off : Nat) : Int))), (121, .v (.int .u64 ((le64 (ys.drop 24) : Nat) : Int))), (120, .v (.int .u64 ((le64 (ys.drop 16) : Nat) : Int))), (119, .v (.int .i64 (((0 + (cnt (v0).testBit 64)) + (cnt (v1).testBit 64) : Nat) : Int))), (5, .v (.int .u64 ((le64 (ys.drop 24) : Nat) : Int))), (3, .v (.int .i64 (((0 + (cnt (v0).testBit 64)) + (cnt (v1).testBit 64) : Nat) : Int))), (2, .p 1 0), (0, .p 0 0)])
        refine callOp (ys := [.v (.int .u64 ((v2 : Nat) : Int))]) hI rfl rfl ⟨_, rfl, rfl, rfl⟩ (by kernel_rfl) Tryd.func16 rfl rfl ?_
        refine (onesCount64_spec (C := C) (x := v2) (hv2b)).mono ?_
        rintro ex w64 ⟨rfl, hk⟩
        replace hR := hR.same hk; clear hk
        refine ⟨_, rfl, ?_⟩
        replace hI := hI.put (d := some 128) (x := .v (.int .i64 ((cnt (v2).testBit 64 : Nat) : Int))) (by intro t ht; cases ht; decide) rfl
        replace hI := hI.sel [128, 127, 126, 121, 120, 119, 5, 3, 2, 0] (by kernel_rfl : sel _ _ = some [(128, .v (.int .i64 ((cnt (v2).testBit 64 : Nat) : Int))), (127, .v (.int .u64 ((v2 : Nat) : Int))), (126, .v (.int .i64 ((off : Nat) : Int))), (121, .v (.int .u64 ((le64 (ys.drop 24) : Nat) : Int))), (120, .v (.int .u64 ((le64 (ys.drop 16) : Nat) : Int))), (119, .v (.int .i64 (((0 + (cnt (v0).testBit 64)) + (cnt (v1).testBit 64) : Nat) : Int))), (5, .v (.int .u64 ((le64 (ys.drop 24) : Nat) : Int))), (3, .v (.int .i64 (((0 + (cnt (v0).testBit 64)) + (cnt (v1).testBit 64) : Nat) : Int))), (2, .p 1 0), (0, .p 0 0)])
        refine part_ tab [10, 11] [] (by rfl) (k := 2) (hs := [(10, .nw)]) (sy := []) (ks := [3, 5, 2, 0]) (bs := [1, 0]) (gs := [])
            (L' := [(3, .v (.int .i64 ((((0 + (cnt (v0).testBit 64)) + (cnt (v1).testBit 64)) + (cnt (v2).testBit 64) : Nat) : Int))), (5, .v (.int .u64 ((le64 (ys.drop 24) : Nat) : Int))), (2, .p 1 0), (0, .p 0 0)])
            (H' := [⟨1, 40, [.v (.int .i16 0), .v (.int .i16 0)]⟩, ⟨0, 43, [.v (.slice ad ys.length cap), .v (.int .i64 ((rem : Nat) : Int)), .v (.int .i8 ((off : Nat) : Int))]⟩]) (G' := []) (k' := 2) hR hI (by kernel_rfl)
            (.cons (inR_i64 (n := (((0 + (cnt (v0).testBit 64)) + (cnt (v1).testBit 64) : Nat) : Int) + ((cnt (v2).testBit 64 : Nat) : Int)) (by have h_0 := cnt_le (v0).testBit 64; have h_1 := cnt_le (v1).testBit 64; have h_2 := cnt_le (v2).testBit 64; omega)) .nil) (fun e65 a65 w65 hag hR hI => ?_)
        replace hbk := (hag 0 (by decide)).1.trans hbk
        refine ops_nil ?_
        refine then_n ?_
        refine reg_seq tab (k := 2) (hs := []) (sy := []) (ks := [4, 3, 2, 0]) (bs := [1, 0]) (gs := [])
            (L' := [(4, .v (.int .u64 ((le64 (ys.drop 24) : Nat) : Int))), (3, .v (.int .i64 ((((0 + (cnt (v0).testBit 64)) + (cnt (v1).testBit 64)) + (cnt (v2).testBit 64) : Nat) : Int))), (2, .p 1 0), (0, .p 0 0)])
            (H' := [⟨1, 40, [.v (.int .i16 0), .v (.int .i16 0)]⟩, ⟨0, 43, [.v (.slice ad ys.length cap), .v (.int .i64 ((rem : Nat) : Int)), .v (.int .i8 ((off : Nat) : Int))]⟩]) (G' := []) (k' := 2) hR hI (by kernel_rfl)
            .nil (fun e66 a66 w66 hag hR hI => ?_)
        replace hbk := (hag 0 (by decide)).1.trans hbk
        refine wp_seq ?_
        refine reg (is := [0, 1, 2, 3, 4, 5, 6]) (by kernel_rfl) ?_
        refine part_ tab [0, 1, 2, 3, 4] [5, 6] (by rfl) (k := 2) (hs := [(4, .sym)]) (sy := []) (ks := [135, 4, 3, 2, 0]) (bs := [1, 0]) (gs := [])
            (L' := [(135, .v (.slice (cutA ad cap 32 1) (ys.length - 32) (cap - 32))), (4, .v (.int .u64 ((le64 (ys.drop 24) : Nat) : Int))), (3, .v (.int .i64 ((((0 + (cnt (v0).testBit 64)) + (cnt (v1).testBit 64)) + (cnt (v2).testBit 64) : Nat) : Int))), (2, .p 1 0), (0, .p 0 0)])
            (H' := [⟨1, 40, [.v (.int .i16 0), .v (.int .i16 0)]⟩, ⟨0, 43, [.v (.slice ad ys.length cap), .v (.int .i64 ((rem : Nat) : Int)), .v (.int .i8 ((off : Nat) : Int))]⟩]) (G' := []) (k' := 2) hR hI (by kernel_rfl)
            (.cons (by omega : (0 : Int) ≤ (32 : Int) ∧ (32 : Int) ≤ (ys.length : Nat)) .nil) (fun e67 a67 w67 hag hR hI => ?_)
        replace hbk := (hag 0 (by decide)).1.trans hbk
        refine callOp (ys := [.v (.slice (cutA ad cap 32 1) (ys.length - 32) (cap - 32))]) hI rfl rfl ⟨_, rfl, rfl, rfl⟩ (by kernel_rfl) Tryd.func17 rfl rfl ?_
        refine (loadWord_spec ((hx.cut (j := 32) (m := ys.length) (by omega) (Nat.le_refl _)).now hB hR) (by rw [cut_all, List.length_drop]; omega) (by rw [cut_all, List.length_drop])).mono ?_
        rintro ex w68 ⟨rfl, hk⟩
        replace hR := hR.same hk; clear hk
        rw [cut_all]
        refine ⟨_, rfl, ?_⟩
        replace hI := hI.put (d := some 136) (x := .v (.int .u64 ((le64 (ys.drop 32) : Nat) : Int))) (by intro t ht; cases ht; decide) rfl
        replace hI := hI.sel [136, 135, 4, 3, 2, 0] (by kernel_rfl : sel _ _ = some [(136, .v (.int .u64 ((le64 (ys.drop 32) : Nat) : Int))), (135, .v (.slice (cutA ad cap 32 1) (ys.length - 32) (cap - 32))), (4, .v (.int .u64 ((le64 (ys.drop 24) : Nat) : Int))), (3, .v (.int .i64 ((((0 + (cnt (v0).testBit 64)) + (cnt (v1).testBit 64)) + (cnt (v2).testBit 64) : Nat) : Int))), (2, .p 1 0), (0, .p 0 0)])
        refine part_ tab [6] [] (by rfl) (k := 2) (hs := []) (sy := []) (ks := [5, 4, 3, 2, 0]) (bs := [1, 0]) (gs := [])
            (L' := [(5, .v (.int .u64 ((le64 (ys.drop 32) : Nat) : Int))), (4, .v (.int .u64 ((le64 (ys.drop 24) : Nat) : Int))), (3, .v (.int .i64 ((((0 + (cnt (v0).testBit 64)) + (cnt (v1).testBit 64)) + (cnt (v2).testBit 64) : Nat) : Int))), (2, .p 1 0), (0, .p 0 0)])
            (H' := [⟨1, 40, [.v (.int .i16 0), .v (.int .i16 0)]⟩, ⟨0, 43, [.v (.slice ad ys.length cap), .v (.int .i64 ((rem : Nat) : Int)), .v (.int .i8 ((off : Nat) : Int))]⟩]) (G' := []) (k' := 2) hR hI (by kernel_rfl)
            .nil (fun e69 a69 w69 hag hR hI => ?_)
        replace hbk := (hag 0 (by decide)).1.trans hbk
        refine ops_nil ?_
        refine then_n ?_
        refine reg (is := [0, 1, 2, 3, 4, 5, 6, 7, 8, 9, 10, 11]) (by kernel_rfl) ?_
        refine part_ tab [0, 1, 2, 3, 4, 5, 6, 7] [8, 9, 10, 11] (by rfl) (k := 2) (hs := [(7, .nw)]) (sy := []) (ks := [144, 139, 138, 137, 3, 2, 0]) (bs := [1, 0]) (gs := [])
            (L' := [(144, .v (.int .i64 ((off : Nat) : Int))), (139, .v (.int .u64 ((le64 (ys.drop 32) : Nat) : Int))), (138, .v (.int .u64 ((le64 (ys.drop 24) : Nat) : Int))), (137, .v (.int .i64 ((((0 + (cnt (v0).testBit 64)) + (cnt (v1).testBit 64)) + (cnt (v2).testBit 64) : Nat) : Int))), (3, .v (.int .i64 ((((0 + (cnt (v0).testBit 64)) + (cnt (v1).testBit 64)) + (cnt (v2).testBit 64) : Nat) : Int))), (2, .p 1 0), (0, .p 0 0)])
            (H' := [⟨1, 40, [.v (.int .i16 0), .v (.int .i16 0)]⟩, ⟨0, 43, [.v (.slice ad ys.length cap), .v (.int .i64 ((rem : Nat) : Int)), .v (.int .i8 ((off : Nat) : Int))]⟩]) (G' := []) (k' := 2) hR hI (by kernel_rfl)
            (.cons (inR_i64 (n := ((off : Nat) : Int)) (by omega)) .nil) (fun e70 a70 w70 hag hR hI => ?_)
        replace hbk := (hag 0 (by decide)).1.trans hbk
        refine callOp (ys := [.v (.int .u64 ((le64 (ys.drop 24) : Nat) : Int)), .v (.int .u64 ((le64 (ys.drop 32) : Nat) : Int)), .v (.int .i64 ((off : Nat) : Int))]) hI rfl rfl ⟨_, rfl, rfl, rfl⟩ (by kernel_rfl) Tryd.func18 rfl rfl ?_
        refine (shiftWord_spec (C := C) (x := le64 (ys.drop 24)) (y := le64 (ys.drop 32)) (s := off) (le64_lt (fun i => by rw [getD_drop0]; exact hgx _)) (le64_lt (fun i => by rw [getD_drop0]; exact hgx _)) ho8).mono ?_
        rintro ex w71 ⟨v3, rfl, hv3b, hk, hv3⟩
        replace hR := hR.same hk; clear hk
        refine ⟨_, rfl, ?_⟩
        replace hI := hI.put (d := some 145) (x := .v (.int .u64 ((v3 : Nat) : Int))) (by intro t ht; cases ht; decide) rfl
        replace hI := hI.sel [145, 144, 139, 138, 137, 3, 2, 0] (by kernel_rfl : sel _ _ = some [(145, .v (.int .u64 ((v3 : Nat) : Int))), (144, .v (.int .i64 ((off : Nat) : Int))), (139, .v (.int .u64 ((le64 (ys.drop 32) : Nat) : Int))), (138, .v (.int .u64 ((le64 (ys.drop 24) : Nat) : Int))), (137, .v (.int .i64 ((((0 + (cnt (v0).testBit 64)) + (cnt (v1).testBit 64)) + (cnt (v2).testBit 64) : Nat) : Int))), (3, .v (.int .i64 ((((0 + (cnt (v0).testBit 64)) + (cnt (v1).testBit 64)) + (cnt (v2).testBit 64) : Nat) : Int))), (2, .p 1 0), (0, .p 0 0)])
        refine callOp (ys := [.v (.int .u64 ((v3 : Nat) : Int))]) hI rfl rfl ⟨_, rfl, rfl, rfl⟩ (by kernel_rfl) Tryd.func16 rfl rfl ?_
        refine (onesCount64_spec (C := C) (x := v3) (hv3b)).mono ?_
        rintro ex w72 ⟨rfl, hk⟩
        replace hR := hR.same hk; clear hk
        refine ⟨_, rfl, ?_⟩
        replace hI := hI.put (d := some 146) (x := .v (.int .i64 ((cnt (v3).testBit 64 : Nat) : Int))) (by intro t ht; cases ht; decide) rfl
        replace hI := hI.sel [146, 145, 144, 139, 138, 137, 3, 2, 0] (by kernel_rfl : sel _ _ = some [(146, .v (.int .i64 ((cnt (v3).testBit 64 : Nat) : Int))), (145, .v (.int .u64 ((v3 : Nat) : Int))), (144, .v (.int .i64 ((off : Nat) : Int))), (139, .v (.int .u64 ((le64 (ys.drop 32) : Nat) : Int))), (138, .v (.int .u64 ((le64 (ys.drop 24) : Nat) : Int))), (137, .v (.int .i64 ((((0 + (cnt (v0).testBit 64)) + (cnt (v1).testBit 64)) + (cnt (v2).testBit 64) : Nat) : Int))), (3, .v (.int .i64 ((((0 + (cnt (v0).testBit 64)) + (cnt (v1).testBit 64)) + (cnt (v2).testBit 64) : Nat) : Int))), (2, .p 1 0), (0, .p 0 0)])
        refine part_ tab [10, 11] [] (by rfl) (k := 2) (hs := [(10, .nw)]) (sy := []) (ks := [3, 2, 0]) (bs := [1, 0]) (gs := [])
            (L' := [(3, .v (.int .i64 (((((0 + (cnt (v0).testBit 64)) + (cnt (v1).testBit 64)) + (cnt (v2).testBit 64)) + (cnt (v3).testBit 64) : Nat) : Int))), (2, .p 1 0), (0, .p 0 0)])
            (H' := [⟨1, 40, [.v (.int .i16 0), .v (.int .i16 0)]⟩, ⟨0, 43, [.v (.slice ad ys.length cap), .v (.int .i64 ((rem : Nat) : Int)), .v (.int .i8 ((off : Nat) : Int))]⟩]) (G' := []) (k' := 2) hR hI (by kernel_rfl)
            (.cons (inR_i64 (n := ((((0 + (cnt (v0).testBit 64)) + (cnt (v1).testBit 64)) + (cnt (v2).testBit 64) : Nat) : Int) + ((cnt (v3).testBit 64 : Nat) : Int)) (by have h_0 := cnt_le (v0).testBit 64; have h_1 := cnt_le (v1).testBit 64; have h_2 := cnt_le (v2).testBit 64; have h_3 := cnt_le (v3).testBit 64; omega)) .nil) (fun e73 a73 w73 hag hR hI => ?_)
        replace hbk := (hag 0 (by decide)).1.trans hbk
        refine ops_nil ?_
        refine then_n ?_
        refine wp_seq ?_
        refine regL 9 hR (by kernel_rfl) (fun hS => ?_)
        replace hR := hR.drew; have hF := hR.fore
        refine takeL tab (H := [⟨1, 40, [.v (.int .i16 0), .v (.int .i16 0)]⟩, ⟨0, 43, [.v (.slice ad ys.length cap), .v (.int .i64 ((rem : Nat) : Int)), .v (.int .i8 ((off : Nat) : Int))]⟩]) (G := []) (hs := []) (gs := []) (is := [0, 1, 2, 3, 4]) (ks := [152, 148, 3, 2, 0]) (f' := 5)
            (L' := [(152, .v (.slice ad ys.length cap)), (148, .p 0 0), (3, .v (.int .i64 (((((0 + (cnt (v0).testBit 64)) + (cnt (v1).testBit 64)) + (cnt (v2).testBit 64)) + (cnt (v3).testBit 64) : Nat) : Int))), (2, .p 1 0), (0, .p 0 0)]) hS hI (by kernel_rfl) (fun _ _ _ _ _ h => h) (by kernel_rfl)
            .nil (by kernel_rfl) (by kernel_rfl) (by kernel_rfl) (by rfl) (fun a74 hI => ?_)
        refine oneL (i := 5) (f' := 4) (by kernel_rfl) (by rfl) ?_
        refine callH (ys := [.v (.int .i64 256)]) hI rfl rfl ⟨_, rfl, rfl, rfl⟩ (by kernel_rfl) Tryd.func19 rfl rfl ?_
        refine (bytesForBits_spec (C := C) (p := 256) (by omega)).mono ?_
        rintro ex w75 ⟨q, rfl, hq, hk⟩
        replace hS := hS.same hk; replace hR := hR.same hk; clear hk
        obtain rfl : q = 32 := by omega
        refine ⟨_, rfl, hS, ?_⟩
        replace hI := hI.put (d := some 153) (x := .v (.int .i64 ((32 : Nat) : Int))) (by intro t ht; cases ht; decide) rfl
        replace hI := hI.sel [153, 152, 148, 3, 2, 0] (by kernel_rfl : sel _ _ = some [(153, .v (.int .i64 ((32 : Nat) : Int))), (152, .v (.slice ad ys.length cap)), (148, .p 0 0), (3, .v (.int .i64 (((((0 + (cnt (v0).testBit 64)) + (cnt (v1).testBit 64)) + (cnt (v2).testBit 64)) + (cnt (v3).testBit 64) : Nat) : Int))), (2, .p 1 0), (0, .p 0 0)])
        refine takeC tab (H := [⟨1, 40, [.v (.int .i16 0), .v (.int .i16 0)]⟩, ⟨0, 43, [.v (.slice ad ys.length cap), .v (.int .i64 ((rem : Nat) : Int)), .v (.int .i8 ((off : Nat) : Int))]⟩]) (G := []) (hs := [(6, .sym)]) (gs := []) (is := [6, 7, 8]) (ks := [156, 154, 3, 2, 0]) (f' := 1)
            (L' := [(156, .p 0 0), (154, .v (.slice (cutA ad cap 32 1) (ys.length - 32) (cap - 32))), (3, .v (.int .i64 (((((0 + (cnt (v0).testBit 64)) + (cnt (v1).testBit 64)) + (cnt (v2).testBit 64)) + (cnt (v3).testBit 64) : Nat) : Int))), (2, .p 1 0), (0, .p 0 0)]) hS hI (by kernel_rfl) (fun _ _ _ _ _ h => h) (by kernel_rfl)
            (.cons (by omega : (0 : Int) ≤ ((32 : Nat) : Int) ∧ ((32 : Nat) : Int) ≤ (ys.length : Nat)) .nil) (by kernel_rfl) (by kernel_rfl) (by kernel_rfl) (by kernel_rfl) (by rfl) (fun a76 hI => ?_)
        refine endL (i := 9) (f' := 0) (by kernel_rfl) (by rfl) (by kernel_rfl) ?_
        refine effH tab (k := 2) (hh := .no) (r := ⟨.v (undef), [⟨0, 43, [.v (.slice (cutA ad cap 32 1) (ys.length - 32) (cap - 32)), .v (.int .i64 ((rem : Nat) : Int)), .v (.int .i8 ((off : Nat) : Int))]⟩, ⟨1, 40, [.v (.int .i16 0), .v (.int .i16 0)]⟩], [], 2, _, true⟩) hR hI (by kernel_rfl) rfl rfl rfl (by kernel_rfl) .nil (fun e77 a77 w77 hag hR2 hI => ?_)
        replace hbk := (hag 0 (by decide)).1.trans hbk
        replace hR := hR2; clear hR2
        replace hI := hI.sel [156, 154, 3, 2, 0] (by kernel_rfl : sel _ _ = some [(156, .p 0 0), (154, .v (.slice (cutA ad cap 32 1) (ys.length - 32) (cap - 32))), (3, .v (.int .i64 (((((0 + (cnt (v0).testBit 64)) + (cnt (v1).testBit 64)) + (cnt (v2).testBit 64)) + (cnt (v3).testBit 64) : Nat) : Int))), (2, .p 1 0), (0, .p 0 0)])
        refine doneL (by kernel_rfl) ?_
        refine then_n ?_
        replace hI := hI.sel [3, 2, 0] (by kernel_rfl : sel _ _ = some [(3, .v (.int .i64 (((((0 + (cnt (v0).testBit 64)) + (cnt (v1).testBit 64)) + (cnt (v2).testBit 64)) + (cnt (v3).testBit 64) : Nat) : Int))), (2, .p 1 0), (0, .p 0 0)]); replace hR := hR.sel [0, 1] [] (by kernel_rfl : selH _ _ = some [⟨0, 43, [.v (.slice (cutA ad cap 32 1) (ys.length - 32) (cap - 32)), .v (.int .i64 ((rem : Nat) : Int)), .v (.int .i8 ((off : Nat) : Int))]⟩, ⟨1, 40, [.v (.int .i16 0), .v (.int .i16 0)]⟩]) (by kernel_rfl : selG _ _ = some [])
        refine reg_seq tab (k := 2) (hs := [(4, .eq (.int .i64 ((rem - 256 : Nat) : Int)))]) (sy := []) (ks := [3, 2]) (bs := [0, 1]) (gs := [])
            (L' := [(3, .v (.int .i64 (((((0 + (cnt (v0).testBit 64)) + (cnt (v1).testBit 64)) + (cnt (v2).testBit 64)) + (cnt (v3).testBit 64) : Nat) : Int))), (2, .p 1 0)])
            (H' := [⟨0, 43, [.v (.slice (cutA ad cap 32 1) (ys.length - 32) (cap - 32)), .v (.int .i64 ((rem - 256 : Nat) : Int)), .v (.int .i8 ((off : Nat) : Int))]⟩, ⟨1, 40, [.v (.int .i16 0), .v (.int .i16 0)]⟩]) (G' := []) (k' := 2) hR hI (by kernel_rfl)
            (.cons (congrArg (Value.int .i64) (by rw [wrap_inR (inR_i64 (by omega))]; omega : IntKind.i64.wrap (((rem : Nat) : Int) - (256 : Int)) = ((rem - 256 : Nat) : Int))) .nil) (fun e78 a78 w78 hag hR hI => ?_)
        replace hbk := (hag 0 (by decide)).1.trans hbk
        refine reg_seq tab (k := 2) (hs := [(1, .nw)]) (sy := []) (ks := [2]) (bs := [1, 0]) (gs := [])
            (L' := [(2, .p 1 0)])
            (H' := [⟨1, 40, [.v (.int .i16 256), .v (.int .i16 (((((0 + (cnt (v0).testBit 64)) + (cnt (v1).testBit 64)) + (cnt (v2).testBit 64)) + (cnt (v3).testBit 64) : Nat) : Int))]⟩, ⟨0, 43, [.v (.slice (cutA ad cap 32 1) (ys.length - 32) (cap - 32)), .v (.int .i64 ((rem - 256 : Nat) : Int)), .v (.int .i8 ((off : Nat) : Int))]⟩]) (G' := []) (k' := 2) hR hI (by kernel_rfl)
            (.cons (inR_i16 (n := (((((0 + (cnt (v0).testBit 64)) + (cnt (v1).testBit 64)) + (cnt (v2).testBit 64)) + (cnt (v3).testBit 64) : Nat) : Int)) (by have h_0 := cnt_le (v0).testBit 64; have h_1 := cnt_le (v1).testBit 64; have h_2 := cnt_le (v2).testBit 64; have h_3 := cnt_le (v3).testBit 64; omega)) .nil) (fun e79 a79 w79 hag hR hI => ?_)
        replace hbk := (hag 0 (by decide)).1.trans hbk
        refine wp_ret ?_
        refine outN tab (xs := [.agg [.v (.int .i16 256), .v (.int .i16 (((((0 + (cnt (v0).testBit 64)) + (cnt (v1).testBit 64)) + (cnt (v2).testBit 64)) + (cnt (v3).testBit 64) : Nat) : Int))]]) hR hI rfl (by kernel_rfl) ?_
        refine ⟨256, _, rfl, hB.fin hR, hbk ▸ (hR.blk _ (List.mem_cons_of_mem _ (List.mem_cons_self ..))).1, Nat.le_refl _, by omega, .inl rfl, ?_⟩
        rw [four, Nat.zero_add, cnt_s (q := 0) hgx hop ho8 hv0, cnt_s (q := 8) hgx hop ho8 hv1, cnt_s (q := 16) hgx hop ho8 hv2, cnt_s (q := 24) hgx hop ho8 hv3]

set_option maxHeartbeats 4000000 in
set_option maxRecDepth 100000 in
theorem newCounter_spec {C : Nat → Prop} {w : World} {ad : Option Addr} {cap n p : Nat} {xs : List Nat} (hx : Sl .u8 256 C w ad cap xs) (hp : p + n ≤ 8 * xs.length) (hs : xs.length ≤ 4096) :
    Calls P 9 #[.slice ad xs.length cap, .int .i64 ((p : Nat) : Int), .int .i64 ((n : Nat) : Int)] w fun ex w' => ∃ b : Nat, ex = .returned (.pointer (some ⟨b, 0, none⟩)) ∧ w.heap.size ≤ b ∧ w'.heap[b]? = some (.cells #[.slice (cutA ad cap (p / 8) 1) (xs.length - p / 8) (cap - p / 8), .int .i64 ((n : Nat) : Int), .int .i8 ((p % 8 : Nat) : Int)] 43 (0, 0)) ∧ Keep (fun b => b < w.heap.size) w w' := by
  refine doorN (e := e0) (vs := [.v (.slice ad xs.length cap), .v (.int .i64 ((p : Nat) : Int)), .v (.int .i64 ((n : Nat) : Int))]) (n := 17) (m := 3) Tryd.func9 rfl rfl rfl (by decide) fun a_ hI => ?_
  replace hI : Is 17 [] e0 [(0, .v (.slice ad xs.length cap)), (1, .v (.int .i64 ((p : Nat) : Int))), (2, .v (.int .i64 ((n : Nat) : Int)))] a_ := hI
  have hR : Rel (fun b => b < w.heap.size) w e0 [] [] w := Rel.start (fun k hk => hk)
  have hB : Base C w C (fun b => b < w.heap.size) w := Base.start
  have hrx := hx.room; have hmx := hx.max
  refine reg_seq tab (k := 0) (hs := []) (sy := []) (ks := [0, 1, 2]) (bs := []) (gs := [])
      (L' := [(0, .v (.slice ad xs.length cap)), (1, .v (.int .i64 ((p : Nat) : Int))), (2, .v (.int .i64 ((n : Nat) : Int)))])
      (H' := []) (G' := []) (k' := 0) hR hI (by kernel_rfl)
      .nil (fun e1 a1 w1 hag hR hI => ?_)
  refine reg_seq tab (k := 0) (hs := [(2, .nw), (3, .sym), (6, .nw), (7, .nw)]) (sy := []) (ks := [6]) (bs := [0]) (gs := [])
      (L' := [(6, .p 0 0)])
      (H' := [⟨0, 43, [.v (.slice (cutA ad cap (p / 8) 1) (xs.length - (p / 8)) (cap - (p / 8))), .v (.int .i64 ((n : Nat) : Int)), .v (.int .i8 ((p % 8 : Nat) : Int))]⟩]) (G' := []) (k' := 1) hR hI (by kernel_rfl)
      (.cons (by omega : (0 : Int) ≤ ((p : Nat) : Int)) (.cons (by omega : (0 : Int) < (8 : Int)) (.cons (inR_i64 (n := ((p : Nat) : Int) / (8 : Int)) (by omega)) (.cons (by omega : (0 : Int) ≤ ((p / 8 : Nat) : Int) ∧ ((p / 8 : Nat) : Int) ≤ (xs.length : Nat)) (.cons (by omega : (0 : Int) ≤ ((p : Nat) : Int)) (.cons (by omega : (0 : Int) < (8 : Int)) (.cons (inR_i8 (n := ((p % 8 : Nat) : Int)) (by omega)) .nil))))))) (fun e2 a2 w2 hag hR hI => ?_)
  refine wp_ret ?_
  refine outN tab (xs := [.p 0 0]) hR hI rfl (by kernel_rfl) ?_
  exact ⟨_, rfl, Nat.le_of_not_lt (fun h => (hR.blk _ (List.mem_cons_self ..)).2 (hB.old _ h)), (hR.blk _ (List.mem_cons_self ..)).1, hB.fin hR⟩

set_option maxHeartbeats 4000000 in
set_option maxRecDepth 100000 in
theorem newOptN_spec {C : Nat → Prop} {w : World} {l cap n p : Nat} :
    Calls P 12 #[.slice none l cap, .int .i64 ((p : Nat) : Int), .int .i64 ((n : Nat) : Int)] w fun ex w' => ∃ b : Nat, ex = .returned (.pointer (some ⟨b, 0, none⟩)) ∧ w.heap.size ≤ b ∧ w'.heap[b]? = some (.cells #[.bool false, .int .i64 ((0 : Nat) : Int), .int .i64 ((n : Nat) : Int), .pointer none] 51 (0, 0)) ∧ Keep (fun b => b < w.heap.size) w w' := by
  refine doorN (e := e0) (vs := [.v (.slice none l cap), .v (.int .i64 ((p : Nat) : Int)), .v (.int .i64 ((n : Nat) : Int))]) (n := 20) (m := 3) Tryd.func12 rfl rfl rfl (by decide) fun a_ hI => ?_
  replace hI : Is 20 [] e0 [(0, .v (.slice none l cap)), (1, .v (.int .i64 ((p : Nat) : Int))), (2, .v (.int .i64 ((n : Nat) : Int)))] a_ := hI
  have hR : Rel (fun b => b < w.heap.size) w e0 [] [] w := Rel.start (fun k hk => hk)
  have hB : Base C w C (fun b => b < w.heap.size) w := Base.start
  refine reg_seq tab (k := 0) (hs := []) (sy := []) (ks := [0, 1, 2]) (bs := []) (gs := [])
      (L' := [(0, .v (.slice none l cap)), (1, .v (.int .i64 ((p : Nat) : Int))), (2, .v (.int .i64 ((n : Nat) : Int)))])
      (H' := []) (G' := []) (k' := 0) hR hI (by kernel_rfl)
      .nil (fun e1 a1 w1 hag hR hI => ?_)
  refine reg_seq tab (k := 0) (hs := []) (sy := []) (ks := [7, 0, 1, 2]) (bs := []) (gs := [])
      (L' := [(7, .v (.pointer none)), (0, .v (.slice none l cap)), (1, .v (.int .i64 ((p : Nat) : Int))), (2, .v (.int .i64 ((n : Nat) : Int)))])
      (H' := []) (G' := []) (k' := 0) hR hI (by kernel_rfl)
      .nil (fun e2 a2 w2 hag hR hI => ?_)
  refine wp_seq ?_
  refine reg_seq tab (k := 0) (hs := []) (sy := []) (ks := [9, 7, 0, 1, 2]) (bs := []) (gs := [])
      (L' := [(9, .v (.bool false)), (7, .v (.pointer none)), (0, .v (.slice none l cap)), (1, .v (.int .i64 ((p : Nat) : Int))), (2, .v (.int .i64 ((n : Nat) : Int)))])
      (H' := []) (G' := []) (k' := 0) hR hI (by kernel_rfl)
      .nil (fun e3 a3 w3 hag hR hI => ?_)
  refine cnd_f hI (by kernel_rfl) ?_
  refine wp_skip ?_
  refine then_n ?_
  refine reg_seq tab (k := 0) (hs := []) (sy := []) (ks := [6]) (bs := [0]) (gs := [])
      (L' := [(6, .p 0 0)])
      (H' := [⟨0, 51, [.v (.bool false), .v (.int .i64 0), .v (.int .i64 ((n : Nat) : Int)), .v (.pointer none)]⟩]) (G' := []) (k' := 1) hR hI (by kernel_rfl)
      .nil (fun e4 a4 w4 hag hR hI => ?_)
  refine wp_ret ?_
  refine outN tab (xs := [.p 0 0]) hR hI rfl (by kernel_rfl) ?_
  exact ⟨_, rfl, Nat.le_of_not_lt (fun h => (hR.blk _ (List.mem_cons_self ..)).2 (hB.old _ h)), (hR.blk _ (List.mem_cons_self ..)).1, hB.fin hR⟩

set_option maxHeartbeats 4000000 in
set_option maxRecDepth 100000 in
theorem newOptS_spec {C : Nat → Prop} {w : World} {q : Addr} {cap n p : Nat} {xs : List Nat} (hx : Sl .u8 256 C w (some q) cap xs) (hp : p + n ≤ 8 * xs.length) (hs : xs.length ≤ 4096) :
    Calls P 12 #[.slice (some q) xs.length cap, .int .i64 ((p : Nat) : Int), .int .i64 ((n : Nat) : Int)] w fun ex w' => ∃ b c : Nat, ex = .returned (.pointer (some ⟨b, 0, none⟩)) ∧ w.heap.size ≤ b ∧ w.heap.size ≤ c ∧ b ≠ c ∧ w'.heap[b]? = some (.cells #[.bool true, .int .i64 ((0 : Nat) : Int), .int .i64 ((n : Nat) : Int), .pointer (some ⟨c, 0, none⟩)] 51 (0, 0)) ∧ w'.heap[c]? = some (.cells #[.slice (cutA (some q) cap (p / 8) 1) (xs.length - p / 8) (cap - p / 8), .int .i64 ((n : Nat) : Int), .int .i8 ((p % 8 : Nat) : Int)] 43 (0, 0)) ∧ Keep (fun b => b < w.heap.size) w w' := by
  refine doorN (e := e0) (vs := [.v (.slice (some q) xs.length cap), .v (.int .i64 ((p : Nat) : Int)), .v (.int .i64 ((n : Nat) : Int))]) (n := 20) (m := 3) Tryd.func12 rfl rfl rfl (by decide) fun a_ hI => ?_
  replace hI : Is 20 [] e0 [(0, .v (.slice (some q) xs.length cap)), (1, .v (.int .i64 ((p : Nat) : Int))), (2, .v (.int .i64 ((n : Nat) : Int)))] a_ := hI
  have hR : Rel (fun b => b < w.heap.size) w e0 [] [] w := Rel.start (fun k hk => hk)
  have hB : Base C w C (fun b => b < w.heap.size) w := Base.start
  have hrx := hx.room; have hmx := hx.max
  refine reg_seq tab (k := 0) (hs := []) (sy := []) (ks := [0, 1, 2]) (bs := []) (gs := [])
      (L' := [(0, .v (.slice (some q) xs.length cap)), (1, .v (.int .i64 ((p : Nat) : Int))), (2, .v (.int .i64 ((n : Nat) : Int)))])
      (H' := []) (G' := []) (k' := 0) hR hI (by kernel_rfl)
      .nil (fun e1 a1 w1 hag hR hI => ?_)
  refine reg_seq tab (k := 0) (hs := []) (sy := []) (ks := [7, 0, 1, 2]) (bs := []) (gs := [])
      (L' := [(7, .v (.pointer none)), (0, .v (.slice (some q) xs.length cap)), (1, .v (.int .i64 ((p : Nat) : Int))), (2, .v (.int .i64 ((n : Nat) : Int)))])
      (H' := []) (G' := []) (k' := 0) hR hI (by kernel_rfl)
      .nil (fun e2 a2 w2 hag hR hI => ?_)
  refine wp_seq ?_
  refine reg_seq tab (k := 0) (hs := []) (sy := []) (ks := [9, 7, 0, 1, 2]) (bs := []) (gs := [])
      (L' := [(9, .v (.bool true)), (7, .v (.pointer none)), (0, .v (.slice (some q) xs.length cap)), (1, .v (.int .i64 ((p : Nat) : Int))), (2, .v (.int .i64 ((n : Nat) : Int)))])
      (H' := []) (G' := []) (k' := 0) hR hI (by kernel_rfl)
      .nil (fun e3 a3 w3 hag hR hI => ?_)
  refine cnd_t hI (by kernel_rfl) ?_
  refine reg (is := [0, 1, 2, 3, 4]) (by kernel_rfl) ?_
  refine part_ tab [0, 1, 2] [3, 4] (by rfl) (k := 0) (hs := []) (sy := []) (ks := [12, 11, 10, 7, 0, 2]) (bs := []) (gs := [])
      (L' := [(12, .v (.int .i64 ((n : Nat) : Int))), (11, .v (.int .i64 ((p : Nat) : Int))), (10, .v (.slice (some q) xs.length cap)), (7, .v (.pointer none)), (0, .v (.slice (some q) xs.length cap)), (2, .v (.int .i64 ((n : Nat) : Int)))])
      (H' := []) (G' := []) (k' := 0) hR hI (by kernel_rfl)
      .nil (fun e4 a4 w4 hag hR hI => ?_)
  have hBs := hB.size hR
  refine callOp (ys := [.v (.slice (some q) xs.length cap), .v (.int .i64 ((p : Nat) : Int)), .v (.int .i64 ((n : Nat) : Int))]) hI rfl rfl ⟨_, rfl, rfl, rfl⟩ (by kernel_rfl) Tryd.func9 rfl rfl ?_
  refine (newCounter_spec (hx.now hB hR) hp hs).mono ?_
  rintro ex w5 ⟨b2, rfl, hge, hnew, hk⟩
  obtain ⟨hag_, hnb_, hR_⟩ := hR.gotX (L := []) (k := 0) (cs := [.v (.slice (cutA (some q) cap (p / 8) 1) (xs.length - p / 8) (cap - p / 8)), .v (.int .i64 ((n : Nat) : Int)), .v (.int .i8 ((p % 8 : Nat) : Int))]) (by kernel_rfl) (by kernel_rfl) hk hge hnew
  have hkF_ := hR.keepF hk
  replace hx := hx.nextX hB hR hkF_ hge
  have hB_ := hB.nextX hR hkF_ hge
  replace hI := hI.agreeB (H := []) (G := []) (by kernel_rfl) hag_
  replace hR := hR_; replace hB := hB_; clear hB_ hR_ hkF_ hk
  have hbn : (e4.addB 0 b2).b 0 = b2 := addB_b _ _ _
  have hg2 : w.heap.size ≤ b2 := Nat.le_trans (hBs) hge
  refine ⟨_, rfl, ?_⟩
  replace hI := hI.put (d := some 13) (x := .p 0 0) (by intro t ht; cases ht; decide) rfl
  replace hI := hI.sel [13, 12, 11, 10, 7, 0, 2] (by kernel_rfl : sel _ _ = some [(13, .p 0 0), (12, .v (.int .i64 ((n : Nat) : Int))), (11, .v (.int .i64 ((p : Nat) : Int))), (10, .v (.slice (some q) xs.length cap)), (7, .v (.pointer none)), (0, .v (.slice (some q) xs.length cap)), (2, .v (.int .i64 ((n : Nat) : Int)))])
  refine part_ tab [4] [] (by rfl) (k := 1) (hs := []) (sy := []) (ks := [7, 0, 2]) (bs := [0]) (gs := [])
      (L' := [(7, .p 0 0), (0, .v (.slice (some q) xs.length cap)), (2, .v (.int .i64 ((n : Nat) : Int)))])
      (H' := [⟨0, 43, [.v (.slice (cutA (some q) cap (p / 8) 1) (xs.length - p / 8) (cap - p / 8)), .v (.int .i64 ((n : Nat) : Int)), .v (.int .i8 ((p % 8 : Nat) : Int))]⟩]) (G' := []) (k' := 1) hR hI (by kernel_rfl)
      .nil (fun e6 a6 w6 hag hR hI => ?_)
  replace hbn := (hag 0 (by decide)).1.trans hbn
  refine ops_nil ?_
  refine then_n ?_
  refine reg_seq tab (k := 1) (hs := []) (sy := []) (ks := [6]) (bs := [1, 0]) (gs := [])
      (L' := [(6, .p 1 0)])
      (H' := [⟨1, 51, [.v (.bool true), .v (.int .i64 0), .v (.int .i64 ((n : Nat) : Int)), .p 0 0]⟩, ⟨0, 43, [.v (.slice (cutA (some q) cap (p / 8) 1) (xs.length - p / 8) (cap - p / 8)), .v (.int .i64 ((n : Nat) : Int)), .v (.int .i8 ((p % 8 : Nat) : Int))]⟩]) (G' := []) (k' := 2) hR hI (by kernel_rfl)
      .nil (fun e7 a7 w7 hag hR hI => ?_)
  replace hbn := (hag 0 (by decide)).1.trans hbn
  refine wp_ret ?_
  refine outN tab (xs := [.p 1 0]) hR hI rfl (by kernel_rfl) ?_
  have hb1_ := (hR.blk _ (List.mem_cons_self ..)).1
  simp only [dens, den, hbn] at hb1_
  have hb2_ := (hR.blk _ (List.mem_cons_of_mem _ (List.mem_cons_self ..))).1
  rw [hbn] at hb2_
  have hne_ := hR.hh _ (List.mem_cons_self ..) _ (List.mem_cons_of_mem _ (List.mem_cons_self ..)) (Nat.ne_of_beq_eq_false rfl)
  rw [hbn] at hne_
  exact ⟨_, b2, rfl, Nat.le_of_not_lt (fun h => (hR.blk _ (List.mem_cons_self ..)).2 (hB.old _ h)), hg2, hne_, hb1_, hb2_, hB.fin hR⟩

set_option maxHeartbeats 4000000 in
set_option maxRecDepth 100000 in
theorem optWordN_spec {C : Nat → Prop} {w : World} {b pos len : Nat} (hb : w.heap[b]? = some (.cells #[.bool false, .int .i64 ((pos : Nat) : Int), .int .i64 ((len : Nat) : Int), .pointer none] 51 (0, 0))) (hCb : ¬ C b) (hl : len ≤ 40000) (hpl : pos ≤ len) :
    Calls P 13 #[.pointer (some ⟨b, 0, none⟩)] w fun ex w' => ∃ r : Nat, ex = .returned (.agg #[.int .i16 ((r : Nat) : Int), .int .i16 ((r : Nat) : Int)]) ∧ Keep (But b w) w w' ∧ w'.heap[b]? = some (.cells #[.bool false, .int .i64 ((pos + r : Nat) : Int), .int .i64 ((len : Nat) : Int), .pointer none] 51 (0, 0)) ∧ r = min 64 (len - pos) := by
  refine doorN (e := e0.addB 0 b) (vs := [.p 0 0]) (n := 48) (m := 1) Tryd.func13 rfl rfl rfl (by decide) fun a_ hI => ?_
  replace hI : Is 48 [] (e0.addB 0 b) [(0, .p 0 0)] a_ := hI
  have hR : Rel (But b w) w (e0.addB 0 b) [⟨0, 51, [.v (.bool false), .v (.int .i64 ((pos : Nat) : Int)), .v (.int .i64 ((len : Nat) : Int)), .v (.pointer none)]⟩] [] w := Rel.startB hb (fun k h => h.1) (fun h => h.2 rfl)
  have hbk : (e0.addB 0 b).b 0 = b := addB_b _ _ _
  have hB : BaseD (But b w) C w C (But b w) w := BaseD.start (fun k hC hlt => ⟨hlt, fun he => hCb (he ▸ hC)⟩)
  refine reg_seq tab (k := 1) (hs := []) (sy := []) (ks := [2, 0]) (bs := [1, 0]) (gs := [])
      (L' := [(2, .p 1 0), (0, .p 0 0)])
      (H' := [⟨1, 40, [.v (.int .i16 0), .v (.int .i16 0)]⟩, ⟨0, 51, [.v (.bool false), .v (.int .i64 ((pos : Nat) : Int)), .v (.int .i64 ((len : Nat) : Int)), .v (.pointer none)]⟩]) (G' := []) (k' := 2) hR hI (by kernel_rfl)
      .nil (fun e1 a1 w1 hag hR hI => ?_)
  replace hbk := (hag 0 (by decide)).1.trans hbk
  refine wp_seq ?_
  refine reg_seq tab (k := 2) (hs := []) (sy := []) (ks := [8, 2, 0]) (bs := [1, 0]) (gs := [])
      (L' := [(8, .v (.bool false)), (2, .p 1 0), (0, .p 0 0)])
      (H' := [⟨1, 40, [.v (.int .i16 0), .v (.int .i16 0)]⟩, ⟨0, 51, [.v (.bool false), .v (.int .i64 ((pos : Nat) : Int)), .v (.int .i64 ((len : Nat) : Int)), .v (.pointer none)]⟩]) (G' := []) (k' := 2) hR hI (by kernel_rfl)
      .nil (fun e2 a2 w2 hag hR hI => ?_)
  replace hbk := (hag 0 (by decide)).1.trans hbk
  refine cnd_f hI (by kernel_rfl) ?_
  refine wp_skip ?_
  refine then_n ?_
  refine wp_seq ?_
  refine regL 11 hR (by kernel_rfl) (fun hS => ?_)
  replace hR := hR.drew; have hF := hR.fore
  refine takeL tab (H := [⟨1, 40, [.v (.int .i16 0), .v (.int .i16 0)]⟩, ⟨0, 51, [.v (.bool false), .v (.int .i64 ((pos : Nat) : Int)), .v (.int .i64 ((len : Nat) : Int)), .v (.pointer none)]⟩]) (G := []) (hs := [(8, .eq (.int .i64 ((len - pos : Nat) : Int)))]) (gs := []) (is := [0, 1, 2, 3, 4, 5, 6, 7, 8]) (ks := [33, 2, 0]) (f' := 3)
      (L' := [(33, .v (.int .i64 ((len - pos : Nat) : Int))), (2, .p 1 0), (0, .p 0 0)]) hS hI (by kernel_rfl) (fun _ _ _ _ _ h => h) (by kernel_rfl)
      (.cons (congrArg (Value.int .i64) (by rw [wrap_inR (inR_i64 (by omega))]; omega : IntKind.i64.wrap (((len : Nat) : Int) - ((pos : Nat) : Int)) = ((len - pos : Nat) : Int))) .nil) (by kernel_rfl) (by kernel_rfl) (by kernel_rfl) (by rfl) (fun a3 hI => ?_)
  refine oneL (i := 9) (f' := 2) (by kernel_rfl) (by rfl) ?_
  refine callH (ys := [.v (.int .i64 64), .v (.int .i64 ((len - pos : Nat) : Int))]) hI rfl rfl ⟨_, rfl, rfl, rfl⟩ (by kernel_rfl) Tryd.func20 rfl rfl ?_
  refine (minI_spec (C := C) 64 (len - pos)).mono ?_
  rintro ex w4 ⟨rfl, hk⟩
  replace hS := hS.same hk; replace hR := hR.same hk; clear hk
  obtain ⟨r, hr⟩ : ∃ r, r = min 64 (len - pos) := ⟨_, rfl⟩
  rw [← hr]
  refine ⟨_, rfl, hS, ?_⟩
  replace hI := hI.put (d := some 34) (x := .v (.int .i64 ((r : Nat) : Int))) (by intro t ht; cases ht; decide) rfl
  replace hI := hI.sel [34, 33, 2, 0] (by kernel_rfl : sel _ _ = some [(34, .v (.int .i64 ((r : Nat) : Int))), (33, .v (.int .i64 ((len - pos : Nat) : Int))), (2, .p 1 0), (0, .p 0 0)])
  refine takeL tab (H := [⟨1, 40, [.v (.int .i16 0), .v (.int .i16 0)]⟩, ⟨0, 51, [.v (.bool false), .v (.int .i64 ((pos : Nat) : Int)), .v (.int .i64 ((len : Nat) : Int)), .v (.pointer none)]⟩]) (G := []) (hs := [(10, .nw)]) (gs := []) (is := [10]) (ks := [35, 2, 0]) (f' := 1)
      (L' := [(35, .v (.int .i16 ((r : Nat) : Int))), (2, .p 1 0), (0, .p 0 0)]) hS hI (by kernel_rfl) (fun _ _ _ _ _ h => h) (by kernel_rfl)
      (.cons (inR_i16 (n := ((r : Nat) : Int)) (by omega)) .nil) (by kernel_rfl) (by kernel_rfl) (by kernel_rfl) (by rfl) (fun a5 hI => ?_)
  refine endL (i := 11) (f' := 0) (by kernel_rfl) (by rfl) (by kernel_rfl) ?_
  refine quietL tab (hh := .no) (x := .v (.int .i16 ((r : Nat) : Int))) hR hI rfl rfl rfl (by kernel_rfl) .nil (fun a6 hI => ?_)
  replace hI := hI.sel [4, 35, 2, 0] (by kernel_rfl : sel _ _ = some [(4, .v (.int .i16 ((r : Nat) : Int))), (35, .v (.int .i16 ((r : Nat) : Int))), (2, .p 1 0), (0, .p 0 0)])
  refine doneL (by kernel_rfl) ?_
  refine then_n ?_
  replace hI := hI.sel [4, 2, 0] (by kernel_rfl : sel _ _ = some [(4, .v (.int .i16 ((r : Nat) : Int))), (2, .p 1 0), (0, .p 0 0)]); replace hR := hR.sel [1, 0] [] (by kernel_rfl : selH _ _ = some [⟨1, 40, [.v (.int .i16 0), .v (.int .i16 0)]⟩, ⟨0, 51, [.v (.bool false), .v (.int .i64 ((pos : Nat) : Int)), .v (.int .i64 ((len : Nat) : Int)), .v (.pointer none)]⟩]) (by kernel_rfl : selG _ _ = some [])
  refine reg_seq tab (k := 2) (hs := [(5, .nw), (6, .nw)]) (sy := []) (ks := [4, 2]) (bs := [0, 1]) (gs := [])
      (L' := [(4, .v (.int .i16 ((r : Nat) : Int))), (2, .p 1 0)])
      (H' := [⟨0, 51, [.v (.bool false), .v (.int .i64 ((pos + r : Nat) : Int)), .v (.int .i64 ((len : Nat) : Int)), .v (.pointer none)]⟩, ⟨1, 40, [.v (.int .i16 0), .v (.int .i16 0)]⟩]) (G' := []) (k' := 2) hR hI (by kernel_rfl)
      (.cons (inR_i64 (n := ((r : Nat) : Int)) (by omega)) (.cons (inR_i64 (n := ((pos : Nat) : Int) + ((r : Nat) : Int)) (by omega)) .nil)) (fun e7 a7 w7 hag hR hI => ?_)
  replace hbk := (hag 0 (by decide)).1.trans hbk
  refine reg_seq tab (k := 2) (hs := []) (sy := []) (ks := [2]) (bs := [1, 0]) (gs := [])
      (L' := [(2, .p 1 0)])
      (H' := [⟨1, 40, [.v (.int .i16 ((r : Nat) : Int)), .v (.int .i16 ((r : Nat) : Int))]⟩, ⟨0, 51, [.v (.bool false), .v (.int .i64 ((pos + r : Nat) : Int)), .v (.int .i64 ((len : Nat) : Int)), .v (.pointer none)]⟩]) (G' := []) (k' := 2) hR hI (by kernel_rfl)
      .nil (fun e8 a8 w8 hag hR hI => ?_)
  replace hbk := (hag 0 (by decide)).1.trans hbk
  refine wp_ret ?_
  refine outN tab (xs := [.agg [.v (.int .i16 ((r : Nat) : Int)), .v (.int .i16 ((r : Nat) : Int))]]) hR hI rfl (by kernel_rfl) ?_
  exact ⟨r, rfl, hB.fin hR, hbk ▸ (hR.blk _ (List.mem_cons_of_mem _ (List.mem_cons_self ..))).1, rfl⟩

set_option maxHeartbeats 4000000 in
set_option maxRecDepth 100000 in
theorem optBlockN_spec {C : Nat → Prop} {w : World} {b pos len : Nat} (hb : w.heap[b]? = some (.cells #[.bool false, .int .i64 ((pos : Nat) : Int), .int .i64 ((len : Nat) : Int), .pointer none] 51 (0, 0))) (hCb : ¬ C b) (hl : len ≤ 40000) (hpl : pos ≤ len) :
    Calls P 14 #[.pointer (some ⟨b, 0, none⟩)] w fun ex w' => ∃ r : Nat, ex = .returned (.agg #[.int .i16 ((r : Nat) : Int), .int .i16 ((r : Nat) : Int)]) ∧ Keep (But b w) w w' ∧ w'.heap[b]? = some (.cells #[.bool false, .int .i64 ((pos + r : Nat) : Int), .int .i64 ((len : Nat) : Int), .pointer none] 51 (0, 0)) ∧ r = min 32767 (len - pos) := by
  refine doorN (e := e0.addB 0 b) (vs := [.p 0 0]) (n := 48) (m := 1) Tryd.func14 rfl rfl rfl (by decide) fun a_ hI => ?_
  replace hI : Is 48 [] (e0.addB 0 b) [(0, .p 0 0)] a_ := hI
  have hR : Rel (But b w) w (e0.addB 0 b) [⟨0, 51, [.v (.bool false), .v (.int .i64 ((pos : Nat) : Int)), .v (.int .i64 ((len : Nat) : Int)), .v (.pointer none)]⟩] [] w := Rel.startB hb (fun k h => h.1) (fun h => h.2 rfl)
  have hbk : (e0.addB 0 b).b 0 = b := addB_b _ _ _
  have hB : BaseD (But b w) C w C (But b w) w := BaseD.start (fun k hC hlt => ⟨hlt, fun he => hCb (he ▸ hC)⟩)
  refine reg_seq tab (k := 1) (hs := []) (sy := []) (ks := [2, 0]) (bs := [1, 0]) (gs := [])
      (L' := [(2, .p 1 0), (0, .p 0 0)])
      (H' := [⟨1, 40, [.v (.int .i16 0), .v (.int .i16 0)]⟩, ⟨0, 51, [.v (.bool false), .v (.int .i64 ((pos : Nat) : Int)), .v (.int .i64 ((len : Nat) : Int)), .v (.pointer none)]⟩]) (G' := []) (k' := 2) hR hI (by kernel_rfl)
      .nil (fun e1 a1 w1 hag hR hI => ?_)
  replace hbk := (hag 0 (by decide)).1.trans hbk
  refine wp_seq ?_
  refine reg_seq tab (k := 2) (hs := []) (sy := []) (ks := [8, 2, 0]) (bs := [1, 0]) (gs := [])
      (L' := [(8, .v (.bool false)), (2, .p 1 0), (0, .p 0 0)])
      (H' := [⟨1, 40, [.v (.int .i16 0), .v (.int .i16 0)]⟩, ⟨0, 51, [.v (.bool false), .v (.int .i64 ((pos : Nat) : Int)), .v (.int .i64 ((len : Nat) : Int)), .v (.pointer none)]⟩]) (G' := []) (k' := 2) hR hI (by kernel_rfl)
      .nil (fun e2 a2 w2 hag hR hI => ?_)
  replace hbk := (hag 0 (by decide)).1.trans hbk
  refine cnd_f hI (by kernel_rfl) ?_
  refine wp_skip ?_
  refine then_n ?_
  refine wp_seq ?_
  refine regL 11 hR (by kernel_rfl) (fun hS => ?_)
  replace hR := hR.drew; have hF := hR.fore
  refine takeL tab (H := [⟨1, 40, [.v (.int .i16 0), .v (.int .i16 0)]⟩, ⟨0, 51, [.v (.bool false), .v (.int .i64 ((pos : Nat) : Int)), .v (.int .i64 ((len : Nat) : Int)), .v (.pointer none)]⟩]) (G := []) (hs := [(8, .eq (.int .i64 ((len - pos : Nat) : Int)))]) (gs := []) (is := [0, 1, 2, 3, 4, 5, 6, 7, 8]) (ks := [33, 2, 0]) (f' := 3)
      (L' := [(33, .v (.int .i64 ((len - pos : Nat) : Int))), (2, .p 1 0), (0, .p 0 0)]) hS hI (by kernel_rfl) (fun _ _ _ _ _ h => h) (by kernel_rfl)
      (.cons (congrArg (Value.int .i64) (by rw [wrap_inR (inR_i64 (by omega))]; omega : IntKind.i64.wrap (((len : Nat) : Int) - ((pos : Nat) : Int)) = ((len - pos : Nat) : Int))) .nil) (by kernel_rfl) (by kernel_rfl) (by kernel_rfl) (by rfl) (fun a3 hI => ?_)
  refine oneL (i := 9) (f' := 2) (by kernel_rfl) (by rfl) ?_
  refine callH (ys := [.v (.int .i64 32767), .v (.int .i64 ((len - pos : Nat) : Int))]) hI rfl rfl ⟨_, rfl, rfl, rfl⟩ (by kernel_rfl) Tryd.func20 rfl rfl ?_
  refine (minI_spec (C := C) 32767 (len - pos)).mono ?_
  rintro ex w4 ⟨rfl, hk⟩
  replace hS := hS.same hk; replace hR := hR.same hk; clear hk
  obtain ⟨r, hr⟩ : ∃ r, r = min 32767 (len - pos) := ⟨_, rfl⟩
  rw [← hr]
  refine ⟨_, rfl, hS, ?_⟩
  replace hI := hI.put (d := some 34) (x := .v (.int .i64 ((r : Nat) : Int))) (by intro t ht; cases ht; decide) rfl
  replace hI := hI.sel [34, 33, 2, 0] (by kernel_rfl : sel _ _ = some [(34, .v (.int .i64 ((r : Nat) : Int))), (33, .v (.int .i64 ((len - pos : Nat) : Int))), (2, .p 1 0), (0, .p 0 0)])
  refine takeL tab (H := [⟨1, 40, [.v (.int .i16 0), .v (.int .i16 0)]⟩, ⟨0, 51, [.v (.bool false), .v (.int .i64 ((pos : Nat) : Int)), .v (.int .i64 ((len : Nat) : Int)), .v (.pointer none)]⟩]) (G := []) (hs := [(10, .nw)]) (gs := []) (is := [10]) (ks := [35, 2, 0]) (f' := 1)
      (L' := [(35, .v (.int .i16 ((r : Nat) : Int))), (2, .p 1 0), (0, .p 0 0)]) hS hI (by kernel_rfl) (fun _ _ _ _ _ h => h) (by kernel_rfl)
      (.cons (inR_i16 (n := ((r : Nat) : Int)) (by omega)) .nil) (by kernel_rfl) (by kernel_rfl) (by kernel_rfl) (by rfl) (fun a5 hI => ?_)
  refine endL (i := 11) (f' := 0) (by kernel_rfl) (by rfl) (by kernel_rfl) ?_
  refine quietL tab (hh := .no) (x := .v (.int .i16 ((r : Nat) : Int))) hR hI rfl rfl rfl (by kernel_rfl) .nil (fun a6 hI => ?_)
  replace hI := hI.sel [4, 35, 2, 0] (by kernel_rfl : sel _ _ = some [(4, .v (.int .i16 ((r : Nat) : Int))), (35, .v (.int .i16 ((r : Nat) : Int))), (2, .p 1 0), (0, .p 0 0)])
  refine doneL (by kernel_rfl) ?_
  refine then_n ?_
  replace hI := hI.sel [4, 2, 0] (by kernel_rfl : sel _ _ = some [(4, .v (.int .i16 ((r : Nat) : Int))), (2, .p 1 0), (0, .p 0 0)]); replace hR := hR.sel [1, 0] [] (by kernel_rfl : selH _ _ = some [⟨1, 40, [.v (.int .i16 0), .v (.int .i16 0)]⟩, ⟨0, 51, [.v (.bool false), .v (.int .i64 ((pos : Nat) : Int)), .v (.int .i64 ((len : Nat) : Int)), .v (.pointer none)]⟩]) (by kernel_rfl : selG _ _ = some [])
  refine reg_seq tab (k := 2) (hs := [(5, .nw), (6, .nw)]) (sy := []) (ks := [4, 2]) (bs := [0, 1]) (gs := [])
      (L' := [(4, .v (.int .i16 ((r : Nat) : Int))), (2, .p 1 0)])
      (H' := [⟨0, 51, [.v (.bool false), .v (.int .i64 ((pos + r : Nat) : Int)), .v (.int .i64 ((len : Nat) : Int)), .v (.pointer none)]⟩, ⟨1, 40, [.v (.int .i16 0), .v (.int .i16 0)]⟩]) (G' := []) (k' := 2) hR hI (by kernel_rfl)
      (.cons (inR_i64 (n := ((r : Nat) : Int)) (by omega)) (.cons (inR_i64 (n := ((pos : Nat) : Int) + ((r : Nat) : Int)) (by omega)) .nil)) (fun e7 a7 w7 hag hR hI => ?_)
  replace hbk := (hag 0 (by decide)).1.trans hbk
  refine reg_seq tab (k := 2) (hs := []) (sy := []) (ks := [2]) (bs := [1, 0]) (gs := [])
      (L' := [(2, .p 1 0)])
      (H' := [⟨1, 40, [.v (.int .i16 ((r : Nat) : Int)), .v (.int .i16 ((r : Nat) : Int))]⟩, ⟨0, 51, [.v (.bool false), .v (.int .i64 ((pos + r : Nat) : Int)), .v (.int .i64 ((len : Nat) : Int)), .v (.pointer none)]⟩]) (G' := []) (k' := 2) hR hI (by kernel_rfl)
      .nil (fun e8 a8 w8 hag hR hI => ?_)
  replace hbk := (hag 0 (by decide)).1.trans hbk
  refine wp_ret ?_
  refine outN tab (xs := [.agg [.v (.int .i16 ((r : Nat) : Int)), .v (.int .i16 ((r : Nat) : Int))]]) hR hI rfl (by kernel_rfl) ?_
  exact ⟨r, rfl, hB.fin hR, hbk ▸ (hR.blk _ (List.mem_cons_of_mem _ (List.mem_cons_self ..))).1, rfl⟩

set_option maxHeartbeats 4000000 in
set_option maxRecDepth 100000 in
theorem optWordS_spec {C : Nat → Prop} {w : World} {b c pos len : Nat} {ad : Option Addr} {cap rem off : Nat} {ys : List Nat} (hg : Sl .u8 256 C w (some (⟨1, 0, none⟩ : Addr)) 8 bitMask) (hb : w.heap[b]? = some (.cells #[.bool true, .int .i64 ((pos : Nat) : Int), .int .i64 ((len : Nat) : Int), .pointer (some ⟨c, 0, none⟩)] 51 (0, 0))) (hc : w.heap[c]? = some (.cells #[.slice ad ys.length cap, .int .i64 ((rem : Nat) : Int), .int .i8 ((off : Nat) : Int)] 43 (0, 0))) (hbc : b ≠ c) (hCb : ¬ C b) (hCc : ¬ C c) (hx : Sl .u8 256 C w ad cap ys) (ho8 : off < 8) (hle : off + rem ≤ 8 * ys.length) (hs : ys.length ≤ 4096) (hpos : pos + rem ≤ 40000) :
    Calls P 13 #[.pointer (some ⟨b, 0, none⟩)] w fun ex w' => ∃ r k : Nat, ex = .returned (.agg #[.int .i16 ((r : Nat) : Int), .int .i16 ((k : Nat) : Int)]) ∧ Keep (But2 b c w) w w' ∧ w'.heap[b]? = some (.cells #[.bool true, .int .i64 ((pos + r : Nat) : Int), .int .i64 ((len : Nat) : Int), .pointer (some ⟨c, 0, none⟩)] 51 (0, 0)) ∧ w'.heap[c]? = some (.cells #[.slice (cutA ad cap (r / 8) 1) (ys.length - r / 8) (cap - r / 8), .int .i64 ((rem - r : Nat) : Int), .int .i8 ((off : Nat) : Int)] 43 (0, 0)) ∧ StepR 64 rem off ys r k := by
  refine doorN (e := ((e0.addB 0 b).addB 1 c)) (vs := [.p 0 0]) (n := 48) (m := 1) Tryd.func13 rfl rfl rfl (by decide) fun a_ hI => ?_
  replace hI : Is 48 [] ((e0.addB 0 b).addB 1 c) [(0, .p 0 0)] a_ := hI
  have hR : Rel (But2 b c w) w ((e0.addB 0 b).addB 1 c) [⟨0, 51, [.v (.bool true), .v (.int .i64 ((pos : Nat) : Int)), .v (.int .i64 ((len : Nat) : Int)), .p 1 0]⟩, ⟨1, 43, [.v (.slice ad ys.length cap), .v (.int .i64 ((rem : Nat) : Int)), .v (.int .i8 ((off : Nat) : Int))]⟩] [] w := Rel.startB2 (by simpa [dens, den, e2_b1] using hb) (by simpa [dens, den] using hc) hbc (fun k h => h.1) (fun h => h.2.1 rfl) (fun h => h.2.2 rfl)
  have hbk : ((e0.addB 0 b).addB 1 c).b 0 = b := e2_b0 _ _; have hbk2 : ((e0.addB 0 b).addB 1 c).b 1 = c := e2_b1 _ _
  have hB : BaseD (But2 b c w) C w C (But2 b c w) w := BaseD.start (fun k hC hlt => ⟨hlt, fun he => hCb (he ▸ hC), fun he => hCc (he ▸ hC)⟩)
  refine reg_seq tab (k := 2) (hs := []) (sy := []) (ks := [2, 0]) (bs := [2, 0, 1]) (gs := [])
      (L' := [(2, .p 2 0), (0, .p 0 0)])
      (H' := [⟨2, 40, [.v (.int .i16 0), .v (.int .i16 0)]⟩, ⟨0, 51, [.v (.bool true), .v (.int .i64 ((pos : Nat) : Int)), .v (.int .i64 ((len : Nat) : Int)), .p 1 0]⟩, ⟨1, 43, [.v (.slice ad ys.length cap), .v (.int .i64 ((rem : Nat) : Int)), .v (.int .i8 ((off : Nat) : Int))]⟩]) (G' := []) (k' := 3) hR hI (by kernel_rfl)
      .nil (fun e1 a1 w1 hag hR hI => ?_)
  replace hbk := (hag 0 (by decide)).1.trans hbk
  replace hbk2 := (hag 1 (by decide)).1.trans hbk2
  refine wp_seq ?_
  refine reg_seq tab (k := 3) (hs := []) (sy := []) (ks := [8, 2, 0]) (bs := [2, 0, 1]) (gs := [])
      (L' := [(8, .v (.bool true)), (2, .p 2 0), (0, .p 0 0)])
      (H' := [⟨2, 40, [.v (.int .i16 0), .v (.int .i16 0)]⟩, ⟨0, 51, [.v (.bool true), .v (.int .i64 ((pos : Nat) : Int)), .v (.int .i64 ((len : Nat) : Int)), .p 1 0]⟩, ⟨1, 43, [.v (.slice ad ys.length cap), .v (.int .i64 ((rem : Nat) : Int)), .v (.int .i8 ((off : Nat) : Int))]⟩]) (G' := []) (k' := 3) hR hI (by kernel_rfl)
      .nil (fun e2 a2 w2 hag hR hI => ?_)
  replace hbk := (hag 0 (by decide)).1.trans hbk
  replace hbk2 := (hag 1 (by decide)).1.trans hbk2
  refine cnd_t hI (by kernel_rfl) ?_
  refine wp_seq ?_
  refine reg (is := [0, 1, 2, 3, 4, 5, 6]) (by kernel_rfl) ?_
  refine part_ tab [0, 1, 2, 3] [4, 5, 6] (by rfl) (k := 3) (hs := []) (sy := []) (ks := [12, 2, 0]) (bs := [2, 0, 1]) (gs := [])
      (L' := [(12, .p 1 0), (2, .p 2 0), (0, .p 0 0)])
      (H' := [⟨2, 40, [.v (.int .i16 0), .v (.int .i16 0)]⟩, ⟨0, 51, [.v (.bool true), .v (.int .i64 ((pos : Nat) : Int)), .v (.int .i64 ((len : Nat) : Int)), .p 1 0]⟩, ⟨1, 43, [.v (.slice ad ys.length cap), .v (.int .i64 ((rem : Nat) : Int)), .v (.int .i8 ((off : Nat) : Int))]⟩]) (G' := []) (k' := 3) hR hI (by kernel_rfl)
      .nil (fun e3 a3 w3 hag hR hI => ?_)
  replace hbk := (hag 0 (by decide)).1.trans hbk
  replace hbk2 := (hag 1 (by decide)).1.trans hbk2
  refine callOp (ys := [.p 1 0]) hI rfl rfl ⟨_, rfl, rfl, rfl⟩ (by kernel_rfl) Tryd.func10 rfl rfl ?_
  have hblk_ := hR.blk ⟨1, 43, [.v (.slice ad ys.length cap), .v (.int .i64 ((rem : Nat) : Int)), .v (.int .i8 ((off : Nat) : Int))]⟩ (by simp)
  refine (nextWord_spec (hg.now hB hR) hblk_.1 (fun h => hblk_.2 h.2) (hx.now hB hR) ho8 hle hs).mono ?_
  rintro ex w4 ⟨r, c2, rfl, hk, hnew, hst⟩
  have hkF_ := hR.keepB (b := ⟨1, 43, [.v (.slice ad ys.length cap), .v (.int .i64 ((rem : Nat) : Int)), .v (.int .i8 ((off : Nat) : Int))]⟩) (by simp) hk
  replace hg := hg.nextF hB hR hkF_
  replace hx := hx.nextF hB hR hkF_
  have hB_ := hB.nextF hR hkF_
  replace hR := hR.turned (b := ⟨1, 43, [.v (.slice ad ys.length cap), .v (.int .i64 ((rem : Nat) : Int)), .v (.int .i8 ((off : Nat) : Int))]⟩) (by simp) [.v (.slice (cutA ad cap (r / 8) 1) (ys.length - r / 8) (cap - r / 8)), .v (.int .i64 ((rem - r : Nat) : Int)), .v (.int .i8 ((off : Nat) : Int))] [⟨2, 40, [.v (.int .i16 0), .v (.int .i16 0)]⟩, ⟨0, 51, [.v (.bool true), .v (.int .i64 ((pos : Nat) : Int)), .v (.int .i64 ((len : Nat) : Int)), .p 1 0]⟩] (by simp) hk hnew
  dsimp only at hR; replace hB := hB_; clear hB_ hk hkF_ hblk_
  have hr1 := hst.1; have hr2 := hst.2.1; have hr3 := cnt_le (fun i => bitN ys (off + i)) r; have hr4 := hst.2.2.2
  refine ⟨_, rfl, ?_⟩
  replace hI := hI.put (d := some 13) (x := .v (.agg #[.int .i16 ((r : Nat) : Int), .int .i16 ((c2 : Nat) : Int)])) (by intro t ht; cases ht; decide) rfl
  replace hI := hI.sel [13, 12, 2, 0] (by kernel_rfl : sel _ _ = some [(13, .v (.agg #[.int .i16 ((r : Nat) : Int), .int .i16 ((c2 : Nat) : Int)])), (12, .p 1 0), (2, .p 2 0), (0, .p 0 0)])
  refine part_ tab [5, 6] [] (by rfl) (k := 3) (hs := []) (sy := []) (ks := [3, 2, 0]) (bs := [3, 1, 2, 0]) (gs := [])
      (L' := [(3, .p 3 0), (2, .p 2 0), (0, .p 0 0)])
      (H' := [⟨3, 40, [.v (.int .i16 ((r : Nat) : Int)), .v (.int .i16 ((c2 : Nat) : Int))]⟩, ⟨1, 43, [.v (.slice (cutA ad cap (r / 8) 1) (ys.length - r / 8) (cap - r / 8)), .v (.int .i64 ((rem - r : Nat) : Int)), .v (.int .i8 ((off : Nat) : Int))]⟩, ⟨2, 40, [.v (.int .i16 0), .v (.int .i16 0)]⟩, ⟨0, 51, [.v (.bool true), .v (.int .i64 ((pos : Nat) : Int)), .v (.int .i64 ((len : Nat) : Int)), .p 1 0]⟩]) (G' := []) (k' := 4) hR hI (by kernel_rfl)
      .nil (fun e5 a5 w5 hag hR hI => ?_)
  replace hbk := (hag 0 (by decide)).1.trans hbk
  replace hbk2 := (hag 1 (by decide)).1.trans hbk2
  refine ops_nil ?_
  refine then_n ?_
  refine wp_seq ?_
  refine regL 10 hR (by kernel_rfl) (fun hS => ?_)
  replace hR := hR.drew; have hF := hR.fore
  refine takeC tab (H := [⟨3, 40, [.v (.int .i16 ((r : Nat) : Int)), .v (.int .i16 ((c2 : Nat) : Int))]⟩, ⟨1, 43, [.v (.slice (cutA ad cap (r / 8) 1) (ys.length - r / 8) (cap - r / 8)), .v (.int .i64 ((rem - r : Nat) : Int)), .v (.int .i8 ((off : Nat) : Int))]⟩, ⟨2, 40, [.v (.int .i16 0), .v (.int .i16 0)]⟩, ⟨0, 51, [.v (.bool true), .v (.int .i64 ((pos : Nat) : Int)), .v (.int .i64 ((len : Nat) : Int)), .p 1 0]⟩]) (G := []) (hs := [(6, .nw), (7, .nw)]) (gs := []) (is := [0, 1, 2, 3, 4, 5, 6, 7, 8, 9]) (ks := [23, 21, 3, 2]) (f' := 1)
      (L' := [(23, .p 0 1), (21, .v (.int .i64 ((pos + r : Nat) : Int))), (3, .p 3 0), (2, .p 2 0)]) hS hI (by kernel_rfl) (fun _ _ _ _ _ h => h) (by kernel_rfl)
      (.cons (inR_i64 (n := ((r : Nat) : Int)) (by omega)) (.cons (inR_i64 (n := ((pos : Nat) : Int) + ((r : Nat) : Int)) (by omega)) .nil)) (by kernel_rfl) (by kernel_rfl) (by kernel_rfl) (by kernel_rfl) (by rfl) (fun a6 hI => ?_)
  refine endL (i := 10) (f' := 0) (by kernel_rfl) (by rfl) (by kernel_rfl) ?_
  refine effH tab (k := 4) (hh := .no) (r := ⟨.v (undef), [⟨0, 51, [.v (.bool true), .v (.int .i64 ((pos + r : Nat) : Int)), .v (.int .i64 ((len : Nat) : Int)), .p 1 0]⟩, ⟨3, 40, [.v (.int .i16 ((r : Nat) : Int)), .v (.int .i16 ((c2 : Nat) : Int))]⟩, ⟨1, 43, [.v (.slice (cutA ad cap (r / 8) 1) (ys.length - r / 8) (cap - r / 8)), .v (.int .i64 ((rem - r : Nat) : Int)), .v (.int .i8 ((off : Nat) : Int))]⟩, ⟨2, 40, [.v (.int .i16 0), .v (.int .i16 0)]⟩], [], 4, _, true⟩) hR hI (by kernel_rfl) rfl rfl rfl (by kernel_rfl) .nil (fun e7 a7 w7 hag hR2 hI => ?_)
  replace hbk := (hag 0 (by decide)).1.trans hbk
  replace hbk2 := (hag 1 (by decide)).1.trans hbk2
  replace hR := hR2; clear hR2
  replace hI := hI.sel [23, 21, 3, 2] (by kernel_rfl : sel _ _ = some [(23, .p 0 1), (21, .v (.int .i64 ((pos + r : Nat) : Int))), (3, .p 3 0), (2, .p 2 0)])
  refine doneL (by kernel_rfl) ?_
  refine then_n ?_
  replace hI := hI.sel [3, 2] (by kernel_rfl : sel _ _ = some [(3, .p 3 0), (2, .p 2 0)]); replace hR := hR.sel [0, 3, 1, 2] [] (by kernel_rfl : selH _ _ = some [⟨0, 51, [.v (.bool true), .v (.int .i64 ((pos + r : Nat) : Int)), .v (.int .i64 ((len : Nat) : Int)), .p 1 0]⟩, ⟨3, 40, [.v (.int .i16 ((r : Nat) : Int)), .v (.int .i16 ((c2 : Nat) : Int))]⟩, ⟨1, 43, [.v (.slice (cutA ad cap (r / 8) 1) (ys.length - r / 8) (cap - r / 8)), .v (.int .i64 ((rem - r : Nat) : Int)), .v (.int .i8 ((off : Nat) : Int))]⟩, ⟨2, 40, [.v (.int .i16 0), .v (.int .i16 0)]⟩]) (by kernel_rfl : selG _ _ = some [])
  refine reg_seq tab (k := 4) (hs := []) (sy := []) (ks := [2]) (bs := [2, 0, 1]) (gs := [])
      (L' := [(2, .p 2 0)])
      (H' := [⟨2, 40, [.v (.int .i16 ((r : Nat) : Int)), .v (.int .i16 ((c2 : Nat) : Int))]⟩, ⟨0, 51, [.v (.bool true), .v (.int .i64 ((pos + r : Nat) : Int)), .v (.int .i64 ((len : Nat) : Int)), .p 1 0]⟩, ⟨1, 43, [.v (.slice (cutA ad cap (r / 8) 1) (ys.length - r / 8) (cap - r / 8)), .v (.int .i64 ((rem - r : Nat) : Int)), .v (.int .i8 ((off : Nat) : Int))]⟩]) (G' := []) (k' := 4) hR hI (by kernel_rfl)
      .nil (fun e8 a8 w8 hag hR hI => ?_)
  replace hbk := (hag 0 (by decide)).1.trans hbk
  replace hbk2 := (hag 1 (by decide)).1.trans hbk2
  refine wp_ret ?_
  refine ret_then ?_
  refine outN tab (xs := [.agg [.v (.int .i16 ((r : Nat) : Int)), .v (.int .i16 ((c2 : Nat) : Int))]]) hR hI rfl (by kernel_rfl) ?_
  have hb1_ := (hR.blk _ (List.mem_cons_of_mem _ (List.mem_cons_self ..))).1
  rw [hbk] at hb1_
  simp only [dens, den, hbk2] at hb1_
  exact ⟨r, c2, rfl, hB.fin hR, hb1_, hbk2 ▸ (hR.blk _ (List.mem_cons_of_mem _ (List.mem_cons_of_mem _ (List.mem_cons_self ..)))).1, hst⟩

set_option maxHeartbeats 4000000 in
set_option maxRecDepth 100000 in
theorem optBlockS_spec {C : Nat → Prop} {w : World} {b c pos len : Nat} {ad : Option Addr} {cap rem off : Nat} {ys : List Nat} (hg : Sl .u8 256 C w (some (⟨1, 0, none⟩ : Addr)) 8 bitMask) (hb : w.heap[b]? = some (.cells #[.bool true, .int .i64 ((pos : Nat) : Int), .int .i64 ((len : Nat) : Int), .pointer (some ⟨c, 0, none⟩)] 51 (0, 0))) (hc : w.heap[c]? = some (.cells #[.slice ad ys.length cap, .int .i64 ((rem : Nat) : Int), .int .i8 ((off : Nat) : Int)] 43 (0, 0))) (hbc : b ≠ c) (hCb : ¬ C b) (hCc : ¬ C c) (hx : Sl .u8 256 C w ad cap ys) (ho8 : off < 8) (hle : off + rem ≤ 8 * ys.length) (hs : ys.length ≤ 4096) (hpos : pos + rem ≤ 40000) :
    Calls P 14 #[.pointer (some ⟨b, 0, none⟩)] w fun ex w' => ∃ r k : Nat, ex = .returned (.agg #[.int .i16 ((r : Nat) : Int), .int .i16 ((k : Nat) : Int)]) ∧ Keep (But2 b c w) w w' ∧ w'.heap[b]? = some (.cells #[.bool true, .int .i64 ((pos + r : Nat) : Int), .int .i64 ((len : Nat) : Int), .pointer (some ⟨c, 0, none⟩)] 51 (0, 0)) ∧ w'.heap[c]? = some (.cells #[.slice (cutA ad cap (r / 8) 1) (ys.length - r / 8) (cap - r / 8), .int .i64 ((rem - r : Nat) : Int), .int .i8 ((off : Nat) : Int)] 43 (0, 0)) ∧ StepR 64 rem off ys r k := by
  refine doorN (e := ((e0.addB 0 b).addB 1 c)) (vs := [.p 0 0]) (n := 48) (m := 1) Tryd.func14 rfl rfl rfl (by decide) fun a_ hI => ?_
  replace hI : Is 48 [] ((e0.addB 0 b).addB 1 c) [(0, .p 0 0)] a_ := hI
  have hR : Rel (But2 b c w) w ((e0.addB 0 b).addB 1 c) [⟨0, 51, [.v (.bool true), .v (.int .i64 ((pos : Nat) : Int)), .v (.int .i64 ((len : Nat) : Int)), .p 1 0]⟩, ⟨1, 43, [.v (.slice ad ys.length cap), .v (.int .i64 ((rem : Nat) : Int)), .v (.int .i8 ((off : Nat) : Int))]⟩] [] w := Rel.startB2 (by simpa [dens, den, e2_b1] using hb) (by simpa [dens, den] using hc) hbc (fun k h => h.1) (fun h => h.2.1 rfl) (fun h => h.2.2 rfl)
  have hbk : ((e0.addB 0 b).addB 1 c).b 0 = b := e2_b0 _ _; have hbk2 : ((e0.addB 0 b).addB 1 c).b 1 = c := e2_b1 _ _
  have hB : BaseD (But2 b c w) C w C (But2 b c w) w := BaseD.start (fun k hC hlt => ⟨hlt, fun he => hCb (he ▸ hC), fun he => hCc (he ▸ hC)⟩)
  refine reg_seq tab (k := 2) (hs := []) (sy := []) (ks := [2, 0]) (bs := [2, 0, 1]) (gs := [])
      (L' := [(2, .p 2 0), (0, .p 0 0)])
      (H' := [⟨2, 40, [.v (.int .i16 0), .v (.int .i16 0)]⟩, ⟨0, 51, [.v (.bool true), .v (.int .i64 ((pos : Nat) : Int)), .v (.int .i64 ((len : Nat) : Int)), .p 1 0]⟩, ⟨1, 43, [.v (.slice ad ys.length cap), .v (.int .i64 ((rem : Nat) : Int)), .v (.int .i8 ((off : Nat) : Int))]⟩]) (G' := []) (k' := 3) hR hI (by kernel_rfl)
      .nil (fun e1 a1 w1 hag hR hI => ?_)
  replace hbk := (hag 0 (by decide)).1.trans hbk
  replace hbk2 := (hag 1 (by decide)).1.trans hbk2
  refine wp_seq ?_
  refine reg_seq tab (k := 3) (hs := []) (sy := []) (ks := [8, 2, 0]) (bs := [2, 0, 1]) (gs := [])
      (L' := [(8, .v (.bool true)), (2, .p 2 0), (0, .p 0 0)])
      (H' := [⟨2, 40, [.v (.int .i16 0), .v (.int .i16 0)]⟩, ⟨0, 51, [.v (.bool true), .v (.int .i64 ((pos : Nat) : Int)), .v (.int .i64 ((len : Nat) : Int)), .p 1 0]⟩, ⟨1, 43, [.v (.slice ad ys.length cap), .v (.int .i64 ((rem : Nat) : Int)), .v (.int .i8 ((off : Nat) : Int))]⟩]) (G' := []) (k' := 3) hR hI (by kernel_rfl)
      .nil (fun e2 a2 w2 hag hR hI => ?_)
  replace hbk := (hag 0 (by decide)).1.trans hbk
  replace hbk2 := (hag 1 (by decide)).1.trans hbk2
  refine cnd_t hI (by kernel_rfl) ?_
  refine wp_seq ?_
  refine reg (is := [0, 1, 2, 3, 4, 5, 6]) (by kernel_rfl) ?_
  refine part_ tab [0, 1, 2, 3] [4, 5, 6] (by rfl) (k := 3) (hs := []) (sy := []) (ks := [12, 2, 0]) (bs := [2, 0, 1]) (gs := [])
      (L' := [(12, .p 1 0), (2, .p 2 0), (0, .p 0 0)])
      (H' := [⟨2, 40, [.v (.int .i16 0), .v (.int .i16 0)]⟩, ⟨0, 51, [.v (.bool true), .v (.int .i64 ((pos : Nat) : Int)), .v (.int .i64 ((len : Nat) : Int)), .p 1 0]⟩, ⟨1, 43, [.v (.slice ad ys.length cap), .v (.int .i64 ((rem : Nat) : Int)), .v (.int .i8 ((off : Nat) : Int))]⟩]) (G' := []) (k' := 3) hR hI (by kernel_rfl)
      .nil (fun e3 a3 w3 hag hR hI => ?_)
  replace hbk := (hag 0 (by decide)).1.trans hbk
  replace hbk2 := (hag 1 (by decide)).1.trans hbk2
  refine callOp (ys := [.p 1 0]) hI rfl rfl ⟨_, rfl, rfl, rfl⟩ (by kernel_rfl) Tryd.func10 rfl rfl ?_
  have hblk_ := hR.blk ⟨1, 43, [.v (.slice ad ys.length cap), .v (.int .i64 ((rem : Nat) : Int)), .v (.int .i8 ((off : Nat) : Int))]⟩ (by simp)
  refine (nextWord_spec (hg.now hB hR) hblk_.1 (fun h => hblk_.2 h.2) (hx.now hB hR) ho8 hle hs).mono ?_
  rintro ex w4 ⟨r, c2, rfl, hk, hnew, hst⟩
  have hkF_ := hR.keepB (b := ⟨1, 43, [.v (.slice ad ys.length cap), .v (.int .i64 ((rem : Nat) : Int)), .v (.int .i8 ((off : Nat) : Int))]⟩) (by simp) hk
  replace hg := hg.nextF hB hR hkF_
  replace hx := hx.nextF hB hR hkF_
  have hB_ := hB.nextF hR hkF_
  replace hR := hR.turned (b := ⟨1, 43, [.v (.slice ad ys.length cap), .v (.int .i64 ((rem : Nat) : Int)), .v (.int .i8 ((off : Nat) : Int))]⟩) (by simp) [.v (.slice (cutA ad cap (r / 8) 1) (ys.length - r / 8) (cap - r / 8)), .v (.int .i64 ((rem - r : Nat) : Int)), .v (.int .i8 ((off : Nat) : Int))] [⟨2, 40, [.v (.int .i16 0), .v (.int .i16 0)]⟩, ⟨0, 51, [.v (.bool true), .v (.int .i64 ((pos : Nat) : Int)), .v (.int .i64 ((len : Nat) : Int)), .p 1 0]⟩] (by simp) hk hnew
  dsimp only at hR; replace hB := hB_; clear hB_ hk hkF_ hblk_
  have hr1 := hst.1; have hr2 := hst.2.1; have hr3 := cnt_le (fun i => bitN ys (off + i)) r; have hr4 := hst.2.2.2
  refine ⟨_, rfl, ?_⟩
  replace hI := hI.put (d := some 13) (x := .v (.agg #[.int .i16 ((r : Nat) : Int), .int .i16 ((c2 : Nat) : Int)])) (by intro t ht; cases ht; decide) rfl
  replace hI := hI.sel [13, 12, 2, 0] (by kernel_rfl : sel _ _ = some [(13, .v (.agg #[.int .i16 ((r : Nat) : Int), .int .i16 ((c2 : Nat) : Int)])), (12, .p 1 0), (2, .p 2 0), (0, .p 0 0)])
  refine part_ tab [5, 6] [] (by rfl) (k := 3) (hs := []) (sy := []) (ks := [3, 2, 0]) (bs := [3, 1, 2, 0]) (gs := [])
      (L' := [(3, .p 3 0), (2, .p 2 0), (0, .p 0 0)])
      (H' := [⟨3, 40, [.v (.int .i16 ((r : Nat) : Int)), .v (.int .i16 ((c2 : Nat) : Int))]⟩, ⟨1, 43, [.v (.slice (cutA ad cap (r / 8) 1) (ys.length - r / 8) (cap - r / 8)), .v (.int .i64 ((rem - r : Nat) : Int)), .v (.int .i8 ((off : Nat) : Int))]⟩, ⟨2, 40, [.v (.int .i16 0), .v (.int .i16 0)]⟩, ⟨0, 51, [.v (.bool true), .v (.int .i64 ((pos : Nat) : Int)), .v (.int .i64 ((len : Nat) : Int)), .p 1 0]⟩]) (G' := []) (k' := 4) hR hI (by kernel_rfl)
      .nil (fun e5 a5 w5 hag hR hI => ?_)
  replace hbk := (hag 0 (by decide)).1.trans hbk
  replace hbk2 := (hag 1 (by decide)).1.trans hbk2
  refine ops_nil ?_
  refine then_n ?_
  refine wp_seq ?_
  refine regL 10 hR (by kernel_rfl) (fun hS => ?_)
  replace hR := hR.drew; have hF := hR.fore
  refine takeC tab (H := [⟨3, 40, [.v (.int .i16 ((r : Nat) : Int)), .v (.int .i16 ((c2 : Nat) : Int))]⟩, ⟨1, 43, [.v (.slice (cutA ad cap (r / 8) 1) (ys.length - r / 8) (cap - r / 8)), .v (.int .i64 ((rem - r : Nat) : Int)), .v (.int .i8 ((off : Nat) : Int))]⟩, ⟨2, 40, [.v (.int .i16 0), .v (.int .i16 0)]⟩, ⟨0, 51, [.v (.bool true), .v (.int .i64 ((pos : Nat) : Int)), .v (.int .i64 ((len : Nat) : Int)), .p 1 0]⟩]) (G := []) (hs := [(6, .nw), (7, .nw)]) (gs := []) (is := [0, 1, 2, 3, 4, 5, 6, 7, 8, 9]) (ks := [23, 21, 3, 2]) (f' := 1)
      (L' := [(23, .p 0 1), (21, .v (.int .i64 ((pos + r : Nat) : Int))), (3, .p 3 0), (2, .p 2 0)]) hS hI (by kernel_rfl) (fun _ _ _ _ _ h => h) (by kernel_rfl)
      (.cons (inR_i64 (n := ((r : Nat) : Int)) (by omega)) (.cons (inR_i64 (n := ((pos : Nat) : Int) + ((r : Nat) : Int)) (by omega)) .nil)) (by kernel_rfl) (by kernel_rfl) (by kernel_rfl) (by kernel_rfl) (by rfl) (fun a6 hI => ?_)
  refine endL (i := 10) (f' := 0) (by kernel_rfl) (by rfl) (by kernel_rfl) ?_
  refine effH tab (k := 4) (hh := .no) (r := ⟨.v (undef), [⟨0, 51, [.v (.bool true), .v (.int .i64 ((pos + r : Nat) : Int)), .v (.int .i64 ((len : Nat) : Int)), .p 1 0]⟩, ⟨3, 40, [.v (.int .i16 ((r : Nat) : Int)), .v (.int .i16 ((c2 : Nat) : Int))]⟩, ⟨1, 43, [.v (.slice (cutA ad cap (r / 8) 1) (ys.length - r / 8) (cap - r / 8)), .v (.int .i64 ((rem - r : Nat) : Int)), .v (.int .i8 ((off : Nat) : Int))]⟩, ⟨2, 40, [.v (.int .i16 0), .v (.int .i16 0)]⟩], [], 4, _, true⟩) hR hI (by kernel_rfl) rfl rfl rfl (by kernel_rfl) .nil (fun e7 a7 w7 hag hR2 hI => ?_)
  replace hbk := (hag 0 (by decide)).1.trans hbk
  replace hbk2 := (hag 1 (by decide)).1.trans hbk2
  replace hR := hR2; clear hR2
  replace hI := hI.sel [23, 21, 3, 2] (by kernel_rfl : sel _ _ = some [(23, .p 0 1), (21, .v (.int .i64 ((pos + r : Nat) : Int))), (3, .p 3 0), (2, .p 2 0)])
  refine doneL (by kernel_rfl) ?_
  refine then_n ?_
  replace hI := hI.sel [3, 2] (by kernel_rfl : sel _ _ = some [(3, .p 3 0), (2, .p 2 0)]); replace hR := hR.sel [0, 3, 1, 2] [] (by kernel_rfl : selH _ _ = some [⟨0, 51, [.v (.bool true), .v (.int .i64 ((pos + r : Nat) : Int)), .v (.int .i64 ((len : Nat) : Int)), .p 1 0]⟩, ⟨3, 40, [.v (.int .i16 ((r : Nat) : Int)), .v (.int .i16 ((c2 : Nat) : Int))]⟩, ⟨1, 43, [.v (.slice (cutA ad cap (r / 8) 1) (ys.length - r / 8) (cap - r / 8)), .v (.int .i64 ((rem - r : Nat) : Int)), .v (.int .i8 ((off : Nat) : Int))]⟩, ⟨2, 40, [.v (.int .i16 0), .v (.int .i16 0)]⟩]) (by kernel_rfl : selG _ _ = some [])
  refine reg_seq tab (k := 4) (hs := []) (sy := []) (ks := [2]) (bs := [2, 0, 1]) (gs := [])
      (L' := [(2, .p 2 0)])
      (H' := [⟨2, 40, [.v (.int .i16 ((r : Nat) : Int)), .v (.int .i16 ((c2 : Nat) : Int))]⟩, ⟨0, 51, [.v (.bool true), .v (.int .i64 ((pos + r : Nat) : Int)), .v (.int .i64 ((len : Nat) : Int)), .p 1 0]⟩, ⟨1, 43, [.v (.slice (cutA ad cap (r / 8) 1) (ys.length - r / 8) (cap - r / 8)), .v (.int .i64 ((rem - r : Nat) : Int)), .v (.int .i8 ((off : Nat) : Int))]⟩]) (G' := []) (k' := 4) hR hI (by kernel_rfl)
      .nil (fun e8 a8 w8 hag hR hI => ?_)
  replace hbk := (hag 0 (by decide)).1.trans hbk
  replace hbk2 := (hag 1 (by decide)).1.trans hbk2
  refine wp_ret ?_
  refine ret_then ?_
  refine outN tab (xs := [.agg [.v (.int .i16 ((r : Nat) : Int)), .v (.int .i16 ((c2 : Nat) : Int))]]) hR hI rfl (by kernel_rfl) ?_
  have hb1_ := (hR.blk _ (List.mem_cons_of_mem _ (List.mem_cons_self ..))).1
  rw [hbk] at hb1_
  simp only [dens, den, hbk2] at hb1_
  exact ⟨r, c2, rfl, hB.fin hR, hb1_, hbk2 ▸ (hR.blk _ (List.mem_cons_of_mem _ (List.mem_cons_of_mem _ (List.mem_cons_self ..)))).1, hst⟩

end Go.Proofs.YtbfbpkcepchldaaDoor.Stride
