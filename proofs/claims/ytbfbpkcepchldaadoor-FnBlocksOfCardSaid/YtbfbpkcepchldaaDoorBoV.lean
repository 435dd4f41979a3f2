/- Walks of the program's functions, printed by a program of mine (walk.py) over the words of Stride: each function's contract. -/
import Derived.Test.YtbfbpkcepchldaaDoorBoZ
namespace Go.Proofs.YtbfbpkcepchldaaDoor.Stride
open Go Go.RowKit Go.Proofs.YtbfbpkcepchldaaDoor.Mag
set_option linter.unusedVariables false
set_option linter.unusedSimpArgs false
theorem Blks.mono {f : Nat → Bool} {M N : Nat} (hMN : M ≤ N) : ∀ {a z : Nat} {l : List Nat}, Blks f M a l z → Blks f N a l z
  | _, _, [], h => h
  | _, _, [_], h => h.elim
  | _, _, _ :: _ :: _, h => ⟨h.1, Nat.le_trans h.2.1 hMN, h.2.2.1, Blks.mono hMN h.2.2.2⟩
theorem Blks.le {f : Nat → Bool} {M : Nat} : ∀ {a z : Nat} {l : List Nat}, Blks f M a l z → a ≤ z
  | a, z, [], h => Nat.le_of_eq (h : z = a).symm
  | _, _, [_], h => h.elim
  | a, z, r :: _ :: l, h => by have := Blks.le h.2.2.2; omega
def fB (nn : Bool) (xs : List Nat) (p : Nat) (i : Nat) : Bool := nn || bitN xs (p + i)
def mostOf (how : Int) : Nat := if how = 1 then 256 else if how = 3 then 32767 else 64
theorem drop_two {fl : List Nat} {k : Nat} (h : 2 * k + 1 < fl.length) : fl.drop (2 * k) = fl.getD (2 * k) 0 :: fl.getD (2 * k + 1) 0 :: fl.drop (2 * (k + 1)) := by
  rw [List.drop_eq_getElem_cons (by omega), List.drop_eq_getElem_cons h]
  simp only [List.getD_eq_getElem?_getD, List.getElem?_eq_getElem h, List.getElem?_eq_getElem (show 2 * k < fl.length by omega), Option.getD_some]
  congr 2
theorem Sl.mono {k : IntKind} {B : Nat} {C F : Nat → Prop} {w : World} {ad : Option Addr} {cap : Nat} {xs : List Nat} (h : Sl k B C w ad cap xs) (hF : ∀ b, C b → b < w.heap.size → F b) : Sl k B F w ad cap xs := ⟨h.cells.mono hF, h.dig, h.room, h.max⟩
theorem getD_cutB {zs : List Bool} {a m i : Nat} (h : i < m) : ((zs.drop a).take m).getD i false = zs.getD (a + i) false := by
  simp [List.getD_eq_getElem?_getD, List.getElem?_take, h, List.getElem?_drop]
theorem blocks_spec {C : Nat → Prop} {w : World} {ad : Option Addr} {cap n p : Nat} {xs : List Nat} (hg : Sl .u8 256 C w (some (⟨1, 0, none⟩ : Addr)) 8 bitMask) (hx : Sl .u8 256 C w ad cap xs) (hp : p + n ≤ 8 * xs.length) (hs : xs.length ≤ 4096) {how : Int} {nn : Bool} (h0 : 0 ≤ how) (h3 : how ≤ 3) (hnn : nn = true → 2 ≤ how) :
    Calls P 6 #[.slice ad xs.length cap, .int .i64 ((p : Nat) : Int), .int .i64 ((n : Nat) : Int), .int .i64 how, .bool nn] w fun ex w' => ∃ (fl : List Nat) (bd : Option Addr) (bc m : Nat), ex = .returned (.slice bd m bc) ∧ Keep (fun b => b < w.heap.size) w w' ∧ Sl .i64 65536 (Grow C w w') w' bd fl.length fl ∧ fl.length = 2 * m ∧ m ≤ bc ∧ bc ≤ 9223372036854775807 ∧ Blks (fB nn xs p) (mostOf how) 0 fl n := by
  have fin : ∀ {M : Nat} {f : Nat → Bool}, M ≤ mostOf how → (∀ i, f i = fB nn xs p i) → ∀ {ex : Ending} {w' : World}, (∃ (fl : List Nat) (bd : Option Addr) (bc m : Nat), ex = .returned (.slice bd m bc) ∧ Keep (fun b => b < w.heap.size) w w' ∧ Sl .i64 65536 (Grow C w w') w' bd fl.length fl ∧ fl.length = 2 * m ∧ m ≤ bc ∧ bc ≤ 9223372036854775807 ∧ Blks f M 0 fl n) →
      ∃ (fl : List Nat) (bd : Option Addr) (bc m : Nat), ex = .returned (.slice bd m bc) ∧ Keep (fun b => b < w.heap.size) w w' ∧ Sl .i64 65536 (Grow C w w') w' bd fl.length fl ∧ fl.length = 2 * m ∧ m ≤ bc ∧ bc ≤ 9223372036854775807 ∧ Blks (fB nn xs p) (mostOf how) 0 fl n := fun {M f} hM hf {ex w'} h => by
    obtain ⟨fl, bd, bc, m, q1, q2, q3, q4, q5, q6, q7⟩ := h
    obtain rfl : f = fB nn xs p := funext hf
    exact ⟨fl, bd, bc, m, q1, q2, q3, q4, q5, q6, q7.mono hM⟩
  have hn8 : n ≤ 32768 := by omega
  have hnone : ad = none → n = 0 := fun h => by
    have : xs.length = 0 := by
      by_cases hl : 0 < xs.length
      · obtain ⟨q, hq, _⟩ := hx.cells.some_ (by rw [ints_length]; exact hl)
        rw [h] at hq; cases hq
      · omega
    omega
  have hcase : how = 0 ∨ how = 1 ∨ how = 2 ∨ how = 3 := by omega
  rcases hcase with rfl | rfl | rfl | rfl
  · obtain rfl : nn = false := by cases nn; rfl; exact absurd (hnn rfl) (by decide)
    exact (blk0_spec hg hx hp hs (f := fB false xs p) (fun i _ => rfl) false).mono fun ex w' h => fin (by decide) (fun _ => rfl) h
  · obtain rfl : nn = false := by cases nn; rfl; exact absurd (hnn rfl) (by decide)
    exact (blk1_spec hg hx hp hs (f := fB false xs p) (fun i _ => rfl) false).mono fun ex w' h => fin (by decide) (fun _ => rfl) h
  · cases nn with
    | true => exact (blk2T_spec hn8 (f := fB true xs p) (fun i _ => rfl)).mono fun ex w' h => fin (by decide) (fun _ => rfl) h
    | false => cases ad with
      | none => obtain rfl := hnone rfl; exact (blk2N_spec (ad := none) hn8 (f := fB false xs p) (fun i h => absurd h (Nat.not_lt_zero _))).mono fun ex w' h => fin (by decide) (fun _ => rfl) h
      | some q => exact (blk2S_spec hg hx hp hs (f := fB false xs p) (fun i _ => rfl)).mono fun ex w' h => fin (by decide) (fun _ => rfl) h
  · cases nn with
    | true => exact (blk3T_spec hn8 (f := fB true xs p) (fun i _ => rfl)).mono fun ex w' h => fin (by decide) (fun _ => rfl) h
    | false => cases ad with
      | none => obtain rfl := hnone rfl; exact (blk3N_spec (ad := none) hn8 (f := fB false xs p) (fun i h => absurd h (Nat.not_lt_zero _))).mono fun ex w' h => fin (by decide) (fun _ => rfl) h
      | some q => exact (blk3S_spec hg hx hp hs (f := fB false xs p) (fun i _ => rfl)).mono fun ex w' h => fin (by decide) (fun _ => rfl) h

theorem law_cond {b nn : Bool} {how : Int} (h : ((b = true ∧ ¬ how < 0) ∧ ¬ how > 3) ∧ (nn = false ∨ ¬ how < 2)) : b = true ∧ 0 ≤ how ∧ how ≤ 3 ∧ (nn = true → 2 ≤ how) :=
  ⟨h.1.1.1, by omega, by omega, fun hn => by rcases h.2 with h2 | h2; rw [hn] at h2; cases h2; omega⟩

set_option maxHeartbeats 4000000 in
set_option maxRecDepth 100000 in
theorem law_spec {C : Nat → Prop} {w : World} {ad : Option Addr} {cap : Nat} {xs : List Nat} {p n how : Int} (nn : Bool) (hp : -9223372036854775808 ≤ p ∧ p ≤ 9223372036854775807) (hn : -9223372036854775808 ≤ n ∧ n ≤ 9223372036854775807) (hg : Sl .u8 256 C w (some (⟨1, 0, none⟩ : Addr)) 8 bitMask) (hx : Sl .u8 256 C w ad cap xs) :
    Calls P 3 #[.slice ad xs.length cap, .int .i64 p, .int .i64 n, .int .i64 how, .bool nn] w fun ex w' => ex = .returned (.bool true) ∧ Keep (fun b => b < w.heap.size) w w' := by
  refine doorN (e := e0) (vs := [.v (.slice ad xs.length cap), .v (.int .i64 p), .v (.int .i64 n), .v (.int .i64 how), .v (.bool nn)]) (n := 115) (m := 5) Tryd.func3 rfl rfl rfl (by decide) fun a_ hI => ?_
  replace hI : Is 115 [] e0 [(0, .v (.slice ad xs.length cap)), (1, .v (.int .i64 p)), (2, .v (.int .i64 n)), (3, .v (.int .i64 how)), (4, .v (.bool nn))] a_ := hI
  have hR : Rel (fun b => b < w.heap.size) w e0 [] [] w := Rel.start (fun k hk => hk)
  have hB : Base C w C (fun b => b < w.heap.size) w := Base.start
  have hrx := hx.room; have hmx := hx.max
  refine reg_seq tab (k := 0) (hs := []) (sy := []) (ks := [0, 1, 2, 3, 4]) (bs := []) (gs := [])
      (L' := [(0, .v (.slice ad xs.length cap)), (1, .v (.int .i64 p)), (2, .v (.int .i64 n)), (3, .v (.int .i64 how)), (4, .v (.bool nn))])
      (H' := []) (G' := []) (k' := 0) hR hI (by kernel_rfl)
      .nil (fun e1 a1 w1 hag hR hI => ?_)
  refine wp_seq ?_
  refine reg_seq tab (k := 0) (hs := []) (sy := []) (ks := [22, 0, 1, 2, 3, 4]) (bs := []) (gs := [])
      (L' := [(22, .v (.bool (decide (((xs.length : Nat) : Int) > (2147483647 : Int))))), (0, .v (.slice ad xs.length cap)), (1, .v (.int .i64 p)), (2, .v (.int .i64 n)), (3, .v (.int .i64 how)), (4, .v (.bool nn))])
      (H' := []) (G' := []) (k' := 0) hR hI (by kernel_rfl)
      .nil (fun e2 a2 w2 hag hR hI => ?_)
  refine cnd (b := decide (((xs.length : Nat) : Int) > (2147483647 : Int))) hI (by kernel_rfl) (fun hc3 => ?_) (fun hc3 => ?_)
  · skip
    replace hI := hI.re 22 (.v (.bool true)) rfl (congrArg Value.bool hc3)
    try simp only [decide_eq_true_eq, decide_eq_false_iff_not, beq_iff_eq, bne_iff_ne, beq_eq_false_iff_ne, bne_eq_false_iff_eq, Bool.and_eq_true, Bool.and_eq_false_iff, Bool.or_eq_true, Bool.or_eq_false_iff, Bool.not_eq_true', Bool.not_eq_false', ne_eq] at hc3
    refine reg_seq tab (k := 0) (hs := []) (sy := []) (ks := [10]) (bs := []) (gs := [])
        (L' := [(10, .v (.bool true))])
        (H' := []) (G' := []) (k' := 0) hR hI (by kernel_rfl)
        .nil (fun e4 a4 w4 hag hR hI => ?_)
    refine wp_ret ?_
    refine ret_then ?_
    refine outN tab (xs := [.v (.bool true)]) hR hI rfl (by kernel_rfl) ?_
    exact ⟨rfl, hB.fin hR⟩
  · skip
    replace hI := hI.re 22 (.v (.bool false)) rfl (congrArg Value.bool hc3)
    try simp only [decide_eq_true_eq, decide_eq_false_iff_not, beq_iff_eq, bne_iff_ne, beq_eq_false_iff_ne, bne_eq_false_iff_eq, Bool.and_eq_true, Bool.and_eq_false_iff, Bool.or_eq_true, Bool.or_eq_false_iff, Bool.not_eq_true', Bool.not_eq_false', ne_eq] at hc3
    refine wp_skip ?_
    refine then_n ?_
    refine wp_seq ?_
    refine wp_seq ?_
    refine reg (is := [0, 1, 2, 3, 4, 5, 6, 7, 8, 9, 10, 11, 12, 13, 14, 15, 16, 17, 18, 19]) (by kernel_rfl) ?_
    refine part_ tab [0, 1, 2] [3, 4, 5, 6, 7, 8, 9, 10, 11, 12, 13, 14, 15, 16, 17, 18, 19] (by rfl) (k := 0) (hs := []) (sy := []) (ks := [25, 24, 23, 0, 1, 2, 3, 4]) (bs := []) (gs := [])
        (L' := [(25, .v (.int .i64 n)), (24, .v (.int .i64 p)), (23, .v (.slice ad xs.length cap)), (0, .v (.slice ad xs.length cap)), (1, .v (.int .i64 p)), (2, .v (.int .i64 n)), (3, .v (.int .i64 how)), (4, .v (.bool nn))])
        (H' := []) (G' := []) (k' := 0) hR hI (by kernel_rfl)
        .nil (fun e5 a5 w5 hag hR hI => ?_)
    refine callOp (ys := [.v (.slice ad xs.length cap), .v (.int .i64 p), .v (.int .i64 n)]) hI rfl rfl ⟨_, rfl, rfl, rfl⟩ (by kernel_rfl) Tryd.func4 rfl rfl ?_
    refine (within_spec hp hn (hx.now hB hR)).mono ?_
    rintro ex w6 ⟨b, rfl, hk, hwl⟩
    replace hR := hR.same hk; clear hk
    refine ⟨_, rfl, ?_⟩
    replace hI := hI.put (d := some 26) (x := .v (.bool b)) (by intro t ht; cases ht; decide) rfl
    replace hI := hI.sel [26, 25, 24, 23, 0, 1, 2, 3, 4] (by kernel_rfl : sel _ _ = some [(26, .v (.bool b)), (25, .v (.int .i64 n)), (24, .v (.int .i64 p)), (23, .v (.slice ad xs.length cap)), (0, .v (.slice ad xs.length cap)), (1, .v (.int .i64 p)), (2, .v (.int .i64 n)), (3, .v (.int .i64 how)), (4, .v (.bool nn))])
    refine part_ tab [4, 5, 6, 7, 8, 9, 10, 11, 12, 13, 14, 15, 16, 17, 18, 19] [] (by rfl) (k := 0) (hs := [(8, .sym), (12, .sym), (18, .sym), (19, .sym)]) (sy := [6, 7, 10, 11, 14, 15, 16, 17, 18]) (ks := [42, 0, 1, 2, 3, 4]) (bs := []) (gs := [])
        (L' := [(42, .v (.bool ((((!b) || (decide (how < (0 : Int)))) || (decide (how > (3 : Int)))) || (nn && (decide (how < (2 : Int))))))), (0, .v (.slice ad xs.length cap)), (1, .v (.int .i64 p)), (2, .v (.int .i64 n)), (3, .v (.int .i64 how)), (4, .v (.bool nn))])
        (H' := []) (G' := []) (k' := 0) hR hI (by kernel_rfl)
        (.cons (rfl : (!b) = (!b)) (.cons (by first | exact Bool.beq_true _ | exact Bool.beq_false _ | rfl | simp_all : ((!b) == false) = !(!b)) (.cons (rfl : ((!b) || (decide (how < (0 : Int)))) = ((!b) || (decide (how < (0 : Int))))) (.cons (by first | exact Bool.beq_true _ | exact Bool.beq_false _ | rfl | simp_all : (((!b) || (decide (how < (0 : Int)))) == false) = !((!b) || (decide (how < (0 : Int))))) (.cons (rfl : (((!b) || (decide (how < (0 : Int)))) || (decide (how > (3 : Int)))) = (((!b) || (decide (how < (0 : Int)))) || (decide (how > (3 : Int))))) (.cons (rfl : (((((!b) || (decide (how < (0 : Int)))) || (decide (how > (3 : Int)))) == false) && (nn == true)) = (((((!b) || (decide (how < (0 : Int)))) || (decide (how > (3 : Int)))) == false) && (nn == true))) (.cons (rfl : (((!b) || (decide (how < (0 : Int)))) || (decide (how > (3 : Int)))) = (((!b) || (decide (how < (0 : Int)))) || (decide (how > (3 : Int))))) (.cons (rfl : (((!b) || (decide (how < (0 : Int)))) || (decide (how > (3 : Int)))) = (((!b) || (decide (how < (0 : Int)))) || (decide (how > (3 : Int))))) (.cons (fun (hg : ((((!b) || (decide (how < (0 : Int)))) || (decide (how > (3 : Int)))) == false) = true) => (by skip; first | exact Bool.beq_true _ | exact Bool.beq_false _ | rfl | simp_all : ((((((!b) || (decide (how < (0 : Int)))) || (decide (how > (3 : Int)))) == false) && (nn == true)) == true) = nn)) (.cons (by first | exact Bool.beq_true _ | exact Bool.beq_false _ | rfl | simp_all : ((((!b) || (decide (how < (0 : Int)))) || (decide (how > (3 : Int)))) == false) = !(((!b) || (decide (how < (0 : Int)))) || (decide (how > (3 : Int))))) .nil)))))))))) (fun e7 a7 w7 hag hR hI => ?_)
    refine ops_nil ?_
    refine then_n ?_
    refine cnd (b := ((((!b) || (decide (how < (0 : Int)))) || (decide (how > (3 : Int)))) || (nn && (decide (how < (2 : Int)))))) hI (by kernel_rfl) (fun hc8 => ?_) (fun hc8 => ?_)
    · skip
      replace hI := hI.re 42 (.v (.bool true)) rfl (congrArg Value.bool hc8)
      try simp only [decide_eq_true_eq, decide_eq_false_iff_not, beq_iff_eq, bne_iff_ne, beq_eq_false_iff_ne, bne_eq_false_iff_eq, Bool.and_eq_true, Bool.and_eq_false_iff, Bool.or_eq_true, Bool.or_eq_false_iff, Bool.not_eq_true', Bool.not_eq_false', ne_eq] at hc8
      refine reg_seq tab (k := 0) (hs := []) (sy := []) (ks := [10]) (bs := []) (gs := [])
          (L' := [(10, .v (.bool true))])
          (H' := []) (G' := []) (k' := 0) hR hI (by kernel_rfl)
          .nil (fun e9 a9 w9 hag hR hI => ?_)
      refine wp_ret ?_
      refine ret_then ?_
      refine outN tab (xs := [.v (.bool true)]) hR hI rfl (by kernel_rfl) ?_
      exact ⟨rfl, hB.fin hR⟩
    · skip
      replace hI := hI.re 42 (.v (.bool false)) rfl (congrArg Value.bool hc8)
      try simp only [decide_eq_true_eq, decide_eq_false_iff_not, beq_iff_eq, bne_iff_ne, beq_eq_false_iff_ne, bne_eq_false_iff_eq, Bool.and_eq_true, Bool.and_eq_false_iff, Bool.or_eq_true, Bool.or_eq_false_iff, Bool.not_eq_true', Bool.not_eq_false', ne_eq] at hc8
      obtain ⟨hbt, hh0, hh3, hnn⟩ : b = true ∧ 0 ≤ how ∧ how ≤ 3 ∧ (nn = true → 2 ≤ how) := law_cond hc8
      obtain ⟨hs40, hp0, hn1, hpn0⟩ := hwl hbt
      have hs4 : xs.length ≤ 4096 := by omega
      obtain ⟨p', hp'⟩ := Int.eq_ofNat_of_zero_le hp0
      obtain ⟨n', hn'⟩ := Int.eq_ofNat_of_zero_le hn1
      have hpn : p' + n' ≤ 8 * xs.length := by omega
      replace hI := hI.re 1 (.v (.int .i64 ((p' : Nat) : Int))) rfl (congrArg (Value.int .i64) (hp'))
      replace hI := hI.re 2 (.v (.int .i64 ((n' : Nat) : Int))) rfl (congrArg (Value.int .i64) (hn'))
      refine wp_skip ?_
      refine then_n ?_
      refine wp_seq ?_
      refine reg (is := [0, 1, 2, 3, 4, 5, 6, 7, 8]) (by kernel_rfl) ?_
      refine part_ tab [0, 1, 2] [3, 4, 5, 6, 7, 8] (by rfl) (k := 0) (hs := []) (sy := []) (ks := [46, 45, 44, 2, 1, 0, 3, 4]) (bs := []) (gs := [])
          (L' := [(46, .v (.int .i64 ((n' : Nat) : Int))), (45, .v (.int .i64 ((p' : Nat) : Int))), (44, .v (.slice ad xs.length cap)), (2, .v (.int .i64 ((n' : Nat) : Int))), (1, .v (.int .i64 ((p' : Nat) : Int))), (0, .v (.slice ad xs.length cap)), (3, .v (.int .i64 how)), (4, .v (.bool nn))])
          (H' := []) (G' := []) (k' := 0) hR hI (by kernel_rfl)
          .nil (fun e10 a10 w10 hag hR hI => ?_)
      refine callOp (ys := [.v (.slice ad xs.length cap), .v (.int .i64 ((p' : Nat) : Int)), .v (.int .i64 ((n' : Nat) : Int))]) hI rfl rfl ⟨_, rfl, rfl, rfl⟩ (by kernel_rfl) Tryd.func5 rfl rfl ?_
      refine (bitList_spec (hx.now hB hR) hpn hs4).mono ?_
      rintro ex w11 ⟨zs, zd, zc, rfl, hk, hz, hzl, hzb⟩
      replace hg := hg.next hB hR hk
      replace hx := hx.next hB hR hk
      have hB_ := hB.next hR hk
      replace hR := hR.after hk
      replace hB := hB_; clear hB_ hk
      refine ⟨_, rfl, ?_⟩
      replace hI := hI.put (d := some 47) (x := .v (.tuple #[.slice zd zs.length zc, .bool true])) (by intro t ht; cases ht; decide) rfl
      replace hI := hI.sel [47, 46, 45, 44, 2, 1, 0, 3, 4] (by kernel_rfl : sel _ _ = some [(47, .v (.tuple #[.slice zd zs.length zc, .bool true])), (46, .v (.int .i64 ((n' : Nat) : Int))), (45, .v (.int .i64 ((p' : Nat) : Int))), (44, .v (.slice ad xs.length cap)), (2, .v (.int .i64 ((n' : Nat) : Int))), (1, .v (.int .i64 ((p' : Nat) : Int))), (0, .v (.slice ad xs.length cap)), (3, .v (.int .i64 how)), (4, .v (.bool nn))])
      refine part_ tab [4, 5, 6, 7, 8] [] (by rfl) (k := 0) (hs := []) (sy := []) (ks := [11, 2, 1, 0, 3, 4]) (bs := []) (gs := [])
          (L' := [(11, .v (.slice zd zs.length zc)), (2, .v (.int .i64 ((n' : Nat) : Int))), (1, .v (.int .i64 ((p' : Nat) : Int))), (0, .v (.slice ad xs.length cap)), (3, .v (.int .i64 how)), (4, .v (.bool nn))])
          (H' := []) (G' := []) (k' := 0) hR hI (by kernel_rfl)
          .nil (fun e12 a12 w12 hag hR hI => ?_)
      refine ops_nil ?_
      refine then_n ?_
      refine reg_seq tab (k := 0) (hs := []) (sy := []) (ks := [13, 11, 2, 1, 0, 3, 4]) (bs := []) (gs := [])
          (L' := [(13, .v (.int .i64 0)), (11, .v (.slice zd zs.length zc)), (2, .v (.int .i64 ((n' : Nat) : Int))), (1, .v (.int .i64 ((p' : Nat) : Int))), (0, .v (.slice ad xs.length cap)), (3, .v (.int .i64 how)), (4, .v (.bool nn))])
          (H' := []) (G' := []) (k' := 0) hR hI (by kernel_rfl)
          .nil (fun e13 a13 w13 hag hR hI => ?_)
      refine wp_seq ?_
      refine wp_seq ?_
      refine reg (is := [0, 1, 2, 3, 4, 5, 6, 7]) (by kernel_rfl) ?_
      refine part_ tab [0, 1, 2, 3, 4] [5, 6, 7] (by rfl) (k := 0) (hs := []) (sy := []) (ks := [54, 53, 52, 51, 50, 13, 11, 2, 3, 4]) (bs := []) (gs := [])
          (L' := [(54, .v (.bool nn)), (53, .v (.int .i64 how)), (52, .v (.int .i64 ((n' : Nat) : Int))), (51, .v (.int .i64 ((p' : Nat) : Int))), (50, .v (.slice ad xs.length cap)), (13, .v (.int .i64 0)), (11, .v (.slice zd zs.length zc)), (2, .v (.int .i64 ((n' : Nat) : Int))), (3, .v (.int .i64 how)), (4, .v (.bool nn))])
          (H' := []) (G' := []) (k' := 0) hR hI (by kernel_rfl)
          .nil (fun e14 a14 w14 hag hR hI => ?_)
      refine callOp (ys := [.v (.slice ad xs.length cap), .v (.int .i64 ((p' : Nat) : Int)), .v (.int .i64 ((n' : Nat) : Int)), .v (.int .i64 how), .v (.bool nn)]) hI rfl rfl ⟨_, rfl, rfl, rfl⟩ (by kernel_rfl) Tryd.func6 rfl rfl ?_
      refine (blocks_spec (hg.now hB hR) (hx.now hB hR) hpn hs4 hh0 hh3 hnn).mono ?_
      rintro ex w15 ⟨fl, bd, bc, m, rfl, hk, hfl, hflm, hmb, hbx, hbl⟩
      replace hg := hg.next hB hR hk
      replace hx := hx.next hB hR hk
      replace hz := hz.next hB hR hk
      have hB_ := hB.next hR hk
      replace hR := hR.after hk
      replace hB := hB_; clear hB_ hk
      have hrz := hz.room; have hmz := hz.max; have hn8 : n' ≤ 32768 := by omega
      refine ⟨_, rfl, ?_⟩
      replace hI := hI.put (d := some 55) (x := .v (.slice bd m bc)) (by intro t ht; cases ht; decide) rfl
      replace hI := hI.sel [55, 54, 53, 52, 51, 50, 13, 11, 2, 3, 4] (by kernel_rfl : sel _ _ = some [(55, .v (.slice bd m bc)), (54, .v (.bool nn)), (53, .v (.int .i64 how)), (52, .v (.int .i64 ((n' : Nat) : Int))), (51, .v (.int .i64 ((p' : Nat) : Int))), (50, .v (.slice ad xs.length cap)), (13, .v (.int .i64 0)), (11, .v (.slice zd zs.length zc)), (2, .v (.int .i64 ((n' : Nat) : Int))), (3, .v (.int .i64 how)), (4, .v (.bool nn))])
      refine part_ tab [6, 7] [] (by rfl) (k := 0) (hs := []) (sy := []) (ks := [57, 56, 55, 13, 11, 2, 3, 4]) (bs := []) (gs := [])
          (L' := [(57, .v (.int .i64 0)), (56, .v (.int .i64 ((m : Nat) : Int))), (55, .v (.slice bd m bc)), (13, .v (.int .i64 0)), (11, .v (.slice zd zs.length zc)), (2, .v (.int .i64 ((n' : Nat) : Int))), (3, .v (.int .i64 how)), (4, .v (.bool nn))])
          (H' := []) (G' := []) (k' := 0) hR hI (by kernel_rfl)
          .nil (fun e16 a16 w16 hag hR hI => ?_)
      refine ops_nil ?_
      refine then_n ?_
      refine wp_block ?_
      refine lp (γ := Nat × Nat) (fun (k, a) => (⟨[(2, .v (.int .i64 ((n' : Nat) : Int))), (3, .v (.int .i64 how)), (4, .v (.bool nn)), (11, .v (.slice zd zs.length zc)), (13, .v (.int .i64 ((a : Nat) : Int))), (55, .v (.slice bd m bc)), (56, .v (.int .i64 ((m : Nat) : Int))), (57, .v (.int .i64 ((k : Nat) : Int)))], [], [], 0⟩ : Sy)) (fun (k, a) e => k ≤ m ∧ a ≤ n' ∧ Blks (fB nn xs p') (mostOf how) a (fl.drop (2 * k)) n') (fun (k, a) => m - k) (0, 0) (⟨Nat.zero_le _, Nat.zero_le _, hbl⟩)
          (hR.sel [] [] (by kernel_rfl) (by kernel_rfl)) (hI.sel [2, 3, 4, 11, 13, 55, 56, 57] (by kernel_rfl)) ?_
      clear hR hI
      rintro ⟨k, a⟩ e17 a17 w17 hp hR hI
      dsimp only at hp hR hI
      obtain ⟨hkm0, han, hbl⟩ := hp
      refine reg_seq tab (k := 0) (hs := []) (sy := []) (ks := [58, 2, 3, 4, 11, 13, 55, 56, 57]) (bs := []) (gs := [])
          (L' := [(58, .v (.bool (decide (((k : Nat) : Int) < ((m : Nat) : Int))))), (2, .v (.int .i64 ((n' : Nat) : Int))), (3, .v (.int .i64 how)), (4, .v (.bool nn)), (11, .v (.slice zd zs.length zc)), (13, .v (.int .i64 ((a : Nat) : Int))), (55, .v (.slice bd m bc)), (56, .v (.int .i64 ((m : Nat) : Int))), (57, .v (.int .i64 ((k : Nat) : Int)))])
          (H' := []) (G' := []) (k' := 0) hR hI (by kernel_rfl)
          .nil (fun e18 a18 w18 hag hR hI => ?_)
      refine wp_seq ?_
      refine cnd (b := decide (((k : Nat) : Int) < ((m : Nat) : Int))) hI (by kernel_rfl) (fun hc19 => ?_) (fun hc19 => ?_)
      · skip
        replace hI := hI.re 58 (.v (.bool true)) rfl (congrArg Value.bool hc19)
        try simp only [decide_eq_true_eq, decide_eq_false_iff_not, beq_iff_eq, bne_iff_ne, beq_eq_false_iff_ne, bne_eq_false_iff_eq, Bool.and_eq_true, Bool.and_eq_false_iff, Bool.or_eq_true, Bool.or_eq_false_iff, Bool.not_eq_true', Bool.not_eq_false', ne_eq] at hc19
        have hkm : k < m := by omega
        have hk2 : 2 * k + 1 < fl.length := by omega
        rw [drop_two hk2] at hbl
        obtain ⟨hr1, hrM, hrc, hbl'⟩ := hbl
        have hle := hbl'.le
        have hcl := cnt_le (fun j => fB nn xs p' (a + j)) (fl.getD (2 * k) 0)
        have hcut := hz.cut (j := a) (m := a + fl.getD (2 * k) 0) (by omega) (by omega)
        have hcutl : ((zs.drop a).take (a + fl.getD (2 * k) 0 - a)).length = fl.getD (2 * k) 0 := by rw [List.length_take, List.length_drop]; omega
        refine wp_skip ?_
        refine then_n ?_
        refine wp_seq ?_
        refine wp_block ?_
        refine reg_seq tab (k := 0) (hs := [(1, .val (.v (.agg #[.int .i64 ((fl.getD (2 * k) 0 : Nat) : Int), .int .i64 ((fl.getD (2 * k + 1) 0 : Nat) : Int)])))]) (sy := []) (ks := [15, 2, 3, 4, 11, 13, 55, 56, 57]) (bs := [0]) (gs := [])
            (L' := [(15, .p 0 0), (2, .v (.int .i64 ((n' : Nat) : Int))), (3, .v (.int .i64 how)), (4, .v (.bool nn)), (11, .v (.slice zd zs.length zc)), (13, .v (.int .i64 ((a : Nat) : Int))), (55, .v (.slice bd m bc)), (56, .v (.int .i64 ((m : Nat) : Int))), (57, .v (.int .i64 ((k : Nat) : Int)))])
            (H' := [⟨0, 30, [.v (.int .i64 ((fl.getD (2 * k) 0 : Nat) : Int)), .v (.int .i64 ((fl.getD (2 * k + 1) 0 : Nat) : Int))]⟩]) (G' := []) (k' := 1) hR hI (by kernel_rfl)
            (.cons (by omega : (0 : Int) ≤ ((k : Nat) : Int) ∧ ((k : Nat) : Int) < ((m : Nat) : Int)) (.cons (nats_some (i := k * 2) (hfl.cells.mono hB.cls) (by omega)) (.cons (pair_load (i := k) (hfl.mono hB.cls) hk2) .nil))) (fun e20 a20 w20 hag hR hI => ?_)
        refine reg_seq tab (k := 1) (hs := []) (sy := []) (ks := [16, 15, 2, 3, 4, 11, 13, 55, 56, 57]) (bs := [0]) (gs := [])
            (L' := [(16, .v (.int .i64 64)), (15, .p 0 0), (2, .v (.int .i64 ((n' : Nat) : Int))), (3, .v (.int .i64 how)), (4, .v (.bool nn)), (11, .v (.slice zd zs.length zc)), (13, .v (.int .i64 ((a : Nat) : Int))), (55, .v (.slice bd m bc)), (56, .v (.int .i64 ((m : Nat) : Int))), (57, .v (.int .i64 ((k : Nat) : Int)))])
            (H' := [⟨0, 30, [.v (.int .i64 ((fl.getD (2 * k) 0 : Nat) : Int)), .v (.int .i64 ((fl.getD (2 * k + 1) 0 : Nat) : Int))]⟩]) (G' := []) (k' := 1) hR hI (by kernel_rfl)
            .nil (fun e21 a21 w21 hag hR hI => ?_)
        refine wp_seq ?_
        refine wp_block ?_
        refine reg_seq tab (k := 1) (hs := []) (sy := []) (ks := [61, 16, 15, 2, 3, 4, 11, 13, 55, 56, 57]) (bs := [0]) (gs := [])
            (L' := [(61, .v (.bool (how == (1 : Int)))), (16, .v (.int .i64 64)), (15, .p 0 0), (2, .v (.int .i64 ((n' : Nat) : Int))), (3, .v (.int .i64 how)), (4, .v (.bool nn)), (11, .v (.slice zd zs.length zc)), (13, .v (.int .i64 ((a : Nat) : Int))), (55, .v (.slice bd m bc)), (56, .v (.int .i64 ((m : Nat) : Int))), (57, .v (.int .i64 ((k : Nat) : Int)))])
            (H' := [⟨0, 30, [.v (.int .i64 ((fl.getD (2 * k) 0 : Nat) : Int)), .v (.int .i64 ((fl.getD (2 * k + 1) 0 : Nat) : Int))]⟩]) (G' := []) (k' := 1) hR hI (by kernel_rfl)
            .nil (fun e22 a22 w22 hag hR hI => ?_)
        refine cnd (b := (how == (1 : Int))) hI (by kernel_rfl) (fun hc23 => ?_) (fun hc23 => ?_)
        · skip
          replace hI := hI.re 61 (.v (.bool true)) rfl (congrArg Value.bool hc23)
          try simp only [decide_eq_true_eq, decide_eq_false_iff_not, beq_iff_eq, bne_iff_ne, beq_eq_false_iff_ne, bne_eq_false_iff_eq, Bool.and_eq_true, Bool.and_eq_false_iff, Bool.or_eq_true, Bool.or_eq_false_iff, Bool.not_eq_true', Bool.not_eq_false', ne_eq] at hc23
          have hM : mostOf how = 256 := by rw [hc23]; rfl
          refine reg_all tab (k := 1) (hs := []) (sy := []) (ks := [16, 15, 2, 3, 4, 11, 13, 55, 56, 57]) (bs := [0]) (gs := [])
              (L' := [(16, .v (.int .i64 256)), (15, .p 0 0), (2, .v (.int .i64 ((n' : Nat) : Int))), (3, .v (.int .i64 how)), (4, .v (.bool nn)), (11, .v (.slice zd zs.length zc)), (13, .v (.int .i64 ((a : Nat) : Int))), (55, .v (.slice bd m bc)), (56, .v (.int .i64 ((m : Nat) : Int))), (57, .v (.int .i64 ((k : Nat) : Int)))])
              (H' := [⟨0, 30, [.v (.int .i64 ((fl.getD (2 * k) 0 : Nat) : Int)), .v (.int .i64 ((fl.getD (2 * k + 1) 0 : Nat) : Int))]⟩]) (G' := []) (k' := 1) hR hI (by kernel_rfl)
              .nil (fun e24 a24 w24 hag hR hI => ?_)
          refine normal_block ?_
          refine then_n ?_
          refine wp_seq ?_
          refine reg_seq tab (k := 1) (hs := [(8, .sym), (14, .eq (.int .i64 ((n' - a : Nat) : Int))), (16, .sym)]) (sy := [4, 5, 6, 7, 10, 11, 12, 13, 14, 15]) (ks := [83, 15, 2, 3, 4, 11, 13, 55, 56, 57]) (bs := [0]) (gs := [])
              (L' := [(83, .v (.bool (((decide (((fl.getD (2 * k) 0 : Nat) : Int) < (1 : Int))) || (decide (((fl.getD (2 * k) 0 : Nat) : Int) > (256 : Int)))) || (decide (((fl.getD (2 * k) 0 : Nat) : Int) > ((n' - a : Nat) : Int)))))), (15, .p 0 0), (2, .v (.int .i64 ((n' : Nat) : Int))), (3, .v (.int .i64 how)), (4, .v (.bool nn)), (11, .v (.slice zd zs.length zc)), (13, .v (.int .i64 ((a : Nat) : Int))), (55, .v (.slice bd m bc)), (56, .v (.int .i64 ((m : Nat) : Int))), (57, .v (.int .i64 ((k : Nat) : Int)))])
              (H' := [⟨0, 30, [.v (.int .i64 ((fl.getD (2 * k) 0 : Nat) : Int)), .v (.int .i64 ((fl.getD (2 * k + 1) 0 : Nat) : Int))]⟩]) (G' := []) (k' := 1) hR hI (by kernel_rfl)
              (.cons (rfl : (decide (((fl.getD (2 * k) 0 : Nat) : Int) < (1 : Int))) = (decide (((fl.getD (2 * k) 0 : Nat) : Int) < (1 : Int)))) (.cons (rfl : (decide (((fl.getD (2 * k) 0 : Nat) : Int) < (1 : Int))) = (decide (((fl.getD (2 * k) 0 : Nat) : Int) < (1 : Int)))) (.cons (rfl : (decide (((fl.getD (2 * k) 0 : Nat) : Int) < (1 : Int))) = (decide (((fl.getD (2 * k) 0 : Nat) : Int) < (1 : Int)))) (.cons (rfl : (decide (((fl.getD (2 * k) 0 : Nat) : Int) < (1 : Int))) = (decide (((fl.getD (2 * k) 0 : Nat) : Int) < (1 : Int)))) (.cons (rfl : (decide (((fl.getD (2 * k) 0 : Nat) : Int) < (1 : Int))) = (decide (((fl.getD (2 * k) 0 : Nat) : Int) < (1 : Int)))) (.cons (rfl : (decide (((fl.getD (2 * k) 0 : Nat) : Int) < (1 : Int))) = (decide (((fl.getD (2 * k) 0 : Nat) : Int) < (1 : Int)))) (.cons (by first | exact Bool.beq_true _ | exact Bool.beq_false _ | rfl | simp_all : ((decide (((fl.getD (2 * k) 0 : Nat) : Int) < (1 : Int))) == false) = !(decide (((fl.getD (2 * k) 0 : Nat) : Int) < (1 : Int)))) (.cons (rfl : ((decide (((fl.getD (2 * k) 0 : Nat) : Int) < (1 : Int))) || (decide (((fl.getD (2 * k) 0 : Nat) : Int) > (256 : Int)))) = ((decide (((fl.getD (2 * k) 0 : Nat) : Int) < (1 : Int))) || (decide (((fl.getD (2 * k) 0 : Nat) : Int) > (256 : Int))))) (.cons (rfl : ((decide (((fl.getD (2 * k) 0 : Nat) : Int) < (1 : Int))) || (decide (((fl.getD (2 * k) 0 : Nat) : Int) > (256 : Int)))) = ((decide (((fl.getD (2 * k) 0 : Nat) : Int) < (1 : Int))) || (decide (((fl.getD (2 * k) 0 : Nat) : Int) > (256 : Int))))) (.cons (rfl : ((decide (((fl.getD (2 * k) 0 : Nat) : Int) < (1 : Int))) || (decide (((fl.getD (2 * k) 0 : Nat) : Int) > (256 : Int)))) = ((decide (((fl.getD (2 * k) 0 : Nat) : Int) < (1 : Int))) || (decide (((fl.getD (2 * k) 0 : Nat) : Int) > (256 : Int))))) (.cons (rfl : ((decide (((fl.getD (2 * k) 0 : Nat) : Int) < (1 : Int))) || (decide (((fl.getD (2 * k) 0 : Nat) : Int) > (256 : Int)))) = ((decide (((fl.getD (2 * k) 0 : Nat) : Int) < (1 : Int))) || (decide (((fl.getD (2 * k) 0 : Nat) : Int) > (256 : Int))))) (.cons (rfl : ((decide (((fl.getD (2 * k) 0 : Nat) : Int) < (1 : Int))) || (decide (((fl.getD (2 * k) 0 : Nat) : Int) > (256 : Int)))) = ((decide (((fl.getD (2 * k) 0 : Nat) : Int) < (1 : Int))) || (decide (((fl.getD (2 * k) 0 : Nat) : Int) > (256 : Int))))) (.cons (rfl : ((decide (((fl.getD (2 * k) 0 : Nat) : Int) < (1 : Int))) || (decide (((fl.getD (2 * k) 0 : Nat) : Int) > (256 : Int)))) = ((decide (((fl.getD (2 * k) 0 : Nat) : Int) < (1 : Int))) || (decide (((fl.getD (2 * k) 0 : Nat) : Int) > (256 : Int))))) (.cons (rfl : ((decide (((fl.getD (2 * k) 0 : Nat) : Int) < (1 : Int))) || (decide (((fl.getD (2 * k) 0 : Nat) : Int) > (256 : Int)))) = ((decide (((fl.getD (2 * k) 0 : Nat) : Int) < (1 : Int))) || (decide (((fl.getD (2 * k) 0 : Nat) : Int) > (256 : Int))))) (.cons (rfl : ((decide (((fl.getD (2 * k) 0 : Nat) : Int) < (1 : Int))) || (decide (((fl.getD (2 * k) 0 : Nat) : Int) > (256 : Int)))) = ((decide (((fl.getD (2 * k) 0 : Nat) : Int) < (1 : Int))) || (decide (((fl.getD (2 * k) 0 : Nat) : Int) > (256 : Int))))) (.cons (rfl : ((decide (((fl.getD (2 * k) 0 : Nat) : Int) < (1 : Int))) || (decide (((fl.getD (2 * k) 0 : Nat) : Int) > (256 : Int)))) = ((decide (((fl.getD (2 * k) 0 : Nat) : Int) < (1 : Int))) || (decide (((fl.getD (2 * k) 0 : Nat) : Int) > (256 : Int))))) (.cons (rfl : ((decide (((fl.getD (2 * k) 0 : Nat) : Int) < (1 : Int))) || (decide (((fl.getD (2 * k) 0 : Nat) : Int) > (256 : Int)))) = ((decide (((fl.getD (2 * k) 0 : Nat) : Int) < (1 : Int))) || (decide (((fl.getD (2 * k) 0 : Nat) : Int) > (256 : Int))))) (.cons (fun (hg : (((decide (((fl.getD (2 * k) 0 : Nat) : Int) < (1 : Int))) || (decide (((fl.getD (2 * k) 0 : Nat) : Int) > (256 : Int)))) == false) = true) => (congrArg (Value.int .i64) (by skip; rw [wrap_inR (inR_i64 (by skip; omega))]; omega : IntKind.i64.wrap (((n' : Nat) : Int) - ((a : Nat) : Int)) = ((n' - a : Nat) : Int)))) (.cons (rfl : ((decide (((fl.getD (2 * k) 0 : Nat) : Int) < (1 : Int))) || (decide (((fl.getD (2 * k) 0 : Nat) : Int) > (256 : Int)))) = ((decide (((fl.getD (2 * k) 0 : Nat) : Int) < (1 : Int))) || (decide (((fl.getD (2 * k) 0 : Nat) : Int) > (256 : Int))))) (.cons (rfl : ((decide (((fl.getD (2 * k) 0 : Nat) : Int) < (1 : Int))) || (decide (((fl.getD (2 * k) 0 : Nat) : Int) > (256 : Int)))) = ((decide (((fl.getD (2 * k) 0 : Nat) : Int) < (1 : Int))) || (decide (((fl.getD (2 * k) 0 : Nat) : Int) > (256 : Int))))) (.cons (rfl : ((decide (((fl.getD (2 * k) 0 : Nat) : Int) < (1 : Int))) || (decide (((fl.getD (2 * k) 0 : Nat) : Int) > (256 : Int)))) = ((decide (((fl.getD (2 * k) 0 : Nat) : Int) < (1 : Int))) || (decide (((fl.getD (2 * k) 0 : Nat) : Int) > (256 : Int))))) (.cons (rfl : ((decide (((fl.getD (2 * k) 0 : Nat) : Int) < (1 : Int))) || (decide (((fl.getD (2 * k) 0 : Nat) : Int) > (256 : Int)))) = ((decide (((fl.getD (2 * k) 0 : Nat) : Int) < (1 : Int))) || (decide (((fl.getD (2 * k) 0 : Nat) : Int) > (256 : Int))))) (.cons (rfl : ((decide (((fl.getD (2 * k) 0 : Nat) : Int) < (1 : Int))) || (decide (((fl.getD (2 * k) 0 : Nat) : Int) > (256 : Int)))) = ((decide (((fl.getD (2 * k) 0 : Nat) : Int) < (1 : Int))) || (decide (((fl.getD (2 * k) 0 : Nat) : Int) > (256 : Int))))) (.cons (by first | exact Bool.beq_true _ | exact Bool.beq_false _ | rfl | simp_all : (((decide (((fl.getD (2 * k) 0 : Nat) : Int) < (1 : Int))) || (decide (((fl.getD (2 * k) 0 : Nat) : Int) > (256 : Int)))) == false) = !((decide (((fl.getD (2 * k) 0 : Nat) : Int) < (1 : Int))) || (decide (((fl.getD (2 * k) 0 : Nat) : Int) > (256 : Int))))) .nil)))))))))))))))))))))))) (fun e25 a25 w25 hag hR hI => ?_)
          refine cnd (b := (((decide (((fl.getD (2 * k) 0 : Nat) : Int) < (1 : Int))) || (decide (((fl.getD (2 * k) 0 : Nat) : Int) > (256 : Int)))) || (decide (((fl.getD (2 * k) 0 : Nat) : Int) > ((n' - a : Nat) : Int))))) hI (by kernel_rfl) (fun hc26 => ?_) (fun hc26 => ?_)
          · skip
            replace hI := hI.re 83 (.v (.bool true)) rfl (congrArg Value.bool hc26)
            try simp only [decide_eq_true_eq, decide_eq_false_iff_not, beq_iff_eq, bne_iff_ne, beq_eq_false_iff_ne, bne_eq_false_iff_eq, Bool.and_eq_true, Bool.and_eq_false_iff, Bool.or_eq_true, Bool.or_eq_false_iff, Bool.not_eq_true', Bool.not_eq_false', ne_eq] at hc26
            omega
          · skip
            replace hI := hI.re 83 (.v (.bool false)) rfl (congrArg Value.bool hc26)
            try simp only [decide_eq_true_eq, decide_eq_false_iff_not, beq_iff_eq, bne_iff_ne, beq_eq_false_iff_ne, bne_eq_false_iff_eq, Bool.and_eq_true, Bool.and_eq_false_iff, Bool.or_eq_true, Bool.or_eq_false_iff, Bool.not_eq_true', Bool.not_eq_false', ne_eq] at hc26
            refine wp_skip ?_
            refine then_n ?_
            refine reg_seq tab (k := 1) (hs := []) (sy := []) (ks := [17, 15, 2, 3, 4, 11, 13, 55, 56, 57]) (bs := [0]) (gs := [])
                (L' := [(17, .v (.int .i64 0)), (15, .p 0 0), (2, .v (.int .i64 ((n' : Nat) : Int))), (3, .v (.int .i64 how)), (4, .v (.bool nn)), (11, .v (.slice zd zs.length zc)), (13, .v (.int .i64 ((a : Nat) : Int))), (55, .v (.slice bd m bc)), (56, .v (.int .i64 ((m : Nat) : Int))), (57, .v (.int .i64 ((k : Nat) : Int)))])
                (H' := [⟨0, 30, [.v (.int .i64 ((fl.getD (2 * k) 0 : Nat) : Int)), .v (.int .i64 ((fl.getD (2 * k + 1) 0 : Nat) : Int))]⟩]) (G' := []) (k' := 1) hR hI (by kernel_rfl)
                .nil (fun e27 a27 w27 hag hR hI => ?_)
            refine wp_seq ?_
            refine reg_seq tab (k := 1) (hs := [(5, .nw), (6, .sym)]) (sy := []) (ks := [92, 91, 90, 17, 15, 2, 3, 4, 11, 13, 55, 56, 57]) (bs := [0]) (gs := [])
                (L' := [(92, .v (.int .i64 0)), (91, .v (.int .i64 (((a + (fl.getD (2 * k) 0)) - a : Nat) : Int))), (90, .v (.slice (cutA zd zc a 1) ((a + (fl.getD (2 * k) 0)) - a) (zc - a))), (17, .v (.int .i64 0)), (15, .p 0 0), (2, .v (.int .i64 ((n' : Nat) : Int))), (3, .v (.int .i64 how)), (4, .v (.bool nn)), (11, .v (.slice zd zs.length zc)), (13, .v (.int .i64 ((a : Nat) : Int))), (55, .v (.slice bd m bc)), (56, .v (.int .i64 ((m : Nat) : Int))), (57, .v (.int .i64 ((k : Nat) : Int)))])
                (H' := [⟨0, 30, [.v (.int .i64 ((fl.getD (2 * k) 0 : Nat) : Int)), .v (.int .i64 ((fl.getD (2 * k + 1) 0 : Nat) : Int))]⟩]) (G' := []) (k' := 1) hR hI (by kernel_rfl)
                (.cons (inR_i64 (n := ((a : Nat) : Int) + ((fl.getD (2 * k) 0 : Nat) : Int)) (by omega)) (.cons (by omega : (0 : Int) ≤ ((a : Nat) : Int) ∧ ((a : Nat) : Int) ≤ ((a + (fl.getD (2 * k) 0) : Nat) : Int) ∧ ((a + (fl.getD (2 * k) 0) : Nat) : Int) ≤ (zc : Nat)) .nil)) (fun e28 a28 w28 hag hR hI => ?_)
            refine wp_block ?_
            refine lp (γ := Nat) (fun i => (⟨[(2, .v (.int .i64 ((n' : Nat) : Int))), (3, .v (.int .i64 how)), (4, .v (.bool nn)), (11, .v (.slice zd zs.length zc)), (13, .v (.int .i64 ((a : Nat) : Int))), (55, .v (.slice bd m bc)), (56, .v (.int .i64 ((m : Nat) : Int))), (57, .v (.int .i64 ((k : Nat) : Int))), (15, .p 0 0), (17, .v (.int .i64 ((cnt (fun j => fB nn xs p' (a + j)) i : Nat) : Int))), (90, .v (.slice (cutA zd zc a 1) (a + fl.getD (2 * k) 0 - a) (zc - a))), (91, .v (.int .i64 ((a + fl.getD (2 * k) 0 - a : Nat) : Int))), (92, .v (.int .i64 ((i : Nat) : Int)))], [⟨0, 30, [.v (.int .i64 ((fl.getD (2 * k) 0 : Nat) : Int)), .v (.int .i64 ((fl.getD (2 * k + 1) 0 : Nat) : Int))]⟩], [], 1⟩ : Sy)) (fun i e => i ≤ fl.getD (2 * k) 0) (fun i => fl.getD (2 * k) 0 - i) (0) (Nat.zero_le _)
                (hR.sel [0] [] (by kernel_rfl) (by kernel_rfl)) (hI.sel [2, 3, 4, 11, 13, 55, 56, 57, 15, 17, 90, 91, 92] (by kernel_rfl)) ?_
            clear hR hI
            rintro i e29 a29 w29 hp hR hI
            dsimp only at hp hR hI
            have hir := hp
            refine reg_seq tab (k := 1) (hs := []) (sy := []) (ks := [93, 2, 3, 4, 11, 13, 55, 56, 57, 15, 17, 90, 91, 92]) (bs := [0]) (gs := [])
                (L' := [(93, .v (.bool (decide (((i : Nat) : Int) < ((a + fl.getD (2 * k) 0 - a : Nat) : Int))))), (2, .v (.int .i64 ((n' : Nat) : Int))), (3, .v (.int .i64 how)), (4, .v (.bool nn)), (11, .v (.slice zd zs.length zc)), (13, .v (.int .i64 ((a : Nat) : Int))), (55, .v (.slice bd m bc)), (56, .v (.int .i64 ((m : Nat) : Int))), (57, .v (.int .i64 ((k : Nat) : Int))), (15, .p 0 0), (17, .v (.int .i64 ((cnt (fun j => fB nn xs p' (a + j)) i : Nat) : Int))), (90, .v (.slice (cutA zd zc a 1) (a + fl.getD (2 * k) 0 - a) (zc - a))), (91, .v (.int .i64 ((a + fl.getD (2 * k) 0 - a : Nat) : Int))), (92, .v (.int .i64 ((i : Nat) : Int)))])
                (H' := [⟨0, 30, [.v (.int .i64 ((fl.getD (2 * k) 0 : Nat) : Int)), .v (.int .i64 ((fl.getD (2 * k + 1) 0 : Nat) : Int))]⟩]) (G' := []) (k' := 1) hR hI (by kernel_rfl)
                .nil (fun e30 a30 w30 hag hR hI => ?_)
            refine wp_seq ?_
            refine cnd (b := decide (((i : Nat) : Int) < ((a + fl.getD (2 * k) 0 - a : Nat) : Int))) hI (by kernel_rfl) (fun hc31 => ?_) (fun hc31 => ?_)
            · skip
              replace hI := hI.re 93 (.v (.bool true)) rfl (congrArg Value.bool hc31)
              try simp only [decide_eq_true_eq, decide_eq_false_iff_not, beq_iff_eq, bne_iff_ne, beq_eq_false_iff_ne, bne_eq_false_iff_eq, Bool.and_eq_true, Bool.and_eq_false_iff, Bool.or_eq_true, Bool.or_eq_false_iff, Bool.not_eq_true', Bool.not_eq_false', ne_eq] at hc31
              refine wp_skip ?_
              refine then_n ?_
              refine wp_seq ?_
              refine wp_block ?_
              refine reg_seq tab (k := 1) (hs := [(1, .val (.v (.bool (((zs.drop a).take (a + fl.getD (2 * k) 0 - a)).getD i false))))]) (sy := []) (ks := [19, 2, 3, 4, 11, 13, 55, 56, 57, 15, 17, 90, 91, 92]) (bs := [0]) (gs := [])
                  (L' := [(19, .v (.bool (((zs.drop a).take (a + fl.getD (2 * k) 0 - a)).getD i false))), (2, .v (.int .i64 ((n' : Nat) : Int))), (3, .v (.int .i64 how)), (4, .v (.bool nn)), (11, .v (.slice zd zs.length zc)), (13, .v (.int .i64 ((a : Nat) : Int))), (55, .v (.slice bd m bc)), (56, .v (.int .i64 ((m : Nat) : Int))), (57, .v (.int .i64 ((k : Nat) : Int))), (15, .p 0 0), (17, .v (.int .i64 ((cnt (fun j => fB nn xs p' (a + j)) i : Nat) : Int))), (90, .v (.slice (cutA zd zc a 1) (a + fl.getD (2 * k) 0 - a) (zc - a))), (91, .v (.int .i64 ((a + fl.getD (2 * k) 0 - a : Nat) : Int))), (92, .v (.int .i64 ((i : Nat) : Int)))])
                  (H' := [⟨0, 30, [.v (.int .i64 ((fl.getD (2 * k) 0 : Nat) : Int)), .v (.int .i64 ((fl.getD (2 * k + 1) 0 : Nat) : Int))]⟩]) (G' := []) (k' := 1) hR hI (by kernel_rfl)
                  (.cons (by omega : (0 : Int) ≤ ((i : Nat) : Int) ∧ ((i : Nat) : Int) < ((a + fl.getD (2 * k) 0 - a : Nat) : Int)) (.cons (bools_some (i := i) (hcut.cells.mono hB.cls) (by omega)) (.cons (bools_load (i := i) (m := 1) (hcut.cells.mono hB.cls) (by omega)) .nil))) (fun e32 a32 w32 hag hR hI => ?_)
              refine reg_seq tab (k := 1) (hs := [(3, .sym)]) (sy := [2]) (ks := [99, 2, 3, 4, 11, 13, 55, 56, 57, 15, 17, 90, 91, 92]) (bs := [0]) (gs := [])
                  (L' := [(99, .v (.bool ((((zs.drop a).take (a + fl.getD (2 * k) 0 - a)).getD i false) || nn))), (2, .v (.int .i64 ((n' : Nat) : Int))), (3, .v (.int .i64 how)), (4, .v (.bool nn)), (11, .v (.slice zd zs.length zc)), (13, .v (.int .i64 ((a : Nat) : Int))), (55, .v (.slice bd m bc)), (56, .v (.int .i64 ((m : Nat) : Int))), (57, .v (.int .i64 ((k : Nat) : Int))), (15, .p 0 0), (17, .v (.int .i64 ((cnt (fun j => fB nn xs p' (a + j)) i : Nat) : Int))), (90, .v (.slice (cutA zd zc a 1) (a + fl.getD (2 * k) 0 - a) (zc - a))), (91, .v (.int .i64 ((a + fl.getD (2 * k) 0 - a : Nat) : Int))), (92, .v (.int .i64 ((i : Nat) : Int)))])
                  (H' := [⟨0, 30, [.v (.int .i64 ((fl.getD (2 * k) 0 : Nat) : Int)), .v (.int .i64 ((fl.getD (2 * k + 1) 0 : Nat) : Int))]⟩]) (G' := []) (k' := 1) hR hI (by kernel_rfl)
                  (.cons (by first | exact Bool.beq_true _ | exact Bool.beq_false _ | rfl | simp_all : ((((zs.drop a).take (a + fl.getD (2 * k) 0 - a)).getD i false) == false) = !(((zs.drop a).take (a + fl.getD (2 * k) 0 - a)).getD i false)) .nil) (fun e33 a33 w33 hag hR hI => ?_)
              refine cnd (b := ((((zs.drop a).take (a + fl.getD (2 * k) 0 - a)).getD i false) || nn)) hI (by kernel_rfl) (fun hc34 => ?_) (fun hc34 => ?_)
              · skip
                replace hI := hI.re 99 (.v (.bool true)) rfl (congrArg Value.bool hc34)
                try simp only [decide_eq_true_eq, decide_eq_false_iff_not, beq_iff_eq, bne_iff_ne, beq_eq_false_iff_ne, bne_eq_false_iff_eq, Bool.and_eq_true, Bool.and_eq_false_iff, Bool.or_eq_true, Bool.or_eq_false_iff, Bool.not_eq_true', Bool.not_eq_false', ne_eq] at hc34
                have hcb : ((((zs.drop a).take (a + fl.getD (2 * k) 0 - a)).getD i false) || nn) = true := by rw [Bool.or_eq_true]; exact hc34
                have hfi : fB nn xs p' (a + i) = ((((zs.drop a).take (a + fl.getD (2 * k) 0 - a)).getD i false) || nn) := by rw [getD_cutB (by omega), hzb _ (by omega)]; unfold fB; rw [Bool.or_comm]
                have hci : cnt (fun j => fB nn xs p' (a + j)) (i + 1) = cnt (fun j => fB nn xs p' (a + j)) i + (fB nn xs p' (a + i)).toNat := rfl
                have hfv : ((((zs.drop a).take (a + fl.getD (2 * k) 0 - a)).getD i false) || nn) = true := hcb
                rw [hfi, hfv] at hci; have hct : Bool.toNat true = 1 := rfl; rw [hct] at hci
                refine reg_all tab (k := 1) (hs := [(1, .eq (.int .i64 ((cnt (fun j => fB nn xs p' (a + j)) (i + 1) : Nat) : Int)))]) (sy := []) (ks := [17, 2, 3, 4, 11, 13, 55, 56, 57, 15, 90, 91, 92]) (bs := [0]) (gs := [])
                    (L' := [(17, .v (.int .i64 ((cnt (fun j => fB nn xs p' (a + j)) (i + 1) : Nat) : Int))), (2, .v (.int .i64 ((n' : Nat) : Int))), (3, .v (.int .i64 how)), (4, .v (.bool nn)), (11, .v (.slice zd zs.length zc)), (13, .v (.int .i64 ((a : Nat) : Int))), (55, .v (.slice bd m bc)), (56, .v (.int .i64 ((m : Nat) : Int))), (57, .v (.int .i64 ((k : Nat) : Int))), (15, .p 0 0), (90, .v (.slice (cutA zd zc a 1) (a + fl.getD (2 * k) 0 - a) (zc - a))), (91, .v (.int .i64 ((a + fl.getD (2 * k) 0 - a : Nat) : Int))), (92, .v (.int .i64 ((i : Nat) : Int)))])
                    (H' := [⟨0, 30, [.v (.int .i64 ((fl.getD (2 * k) 0 : Nat) : Int)), .v (.int .i64 ((fl.getD (2 * k + 1) 0 : Nat) : Int))]⟩]) (G' := []) (k' := 1) hR hI (by kernel_rfl)
                    (.cons (congrArg (Value.int .i64) (by rw [hci, wrap_inR (inR_i64 (by have := cnt_le (fun j => fB nn xs p' (a + j)) (i + 1); omega))]; omega : IntKind.i64.wrap (((cnt (fun j => fB nn xs p' (a + j)) i : Nat) : Int) + (1 : Int)) = ((cnt (fun j => fB nn xs p' (a + j)) (i + 1) : Nat) : Int))) .nil) (fun e35 a35 w35 hag hR hI => ?_)
                refine normal_block ?_
                refine then_n ?_
                refine reg_all tab (k := 1) (hs := [(0, .nw)]) (sy := []) (ks := [92, 17, 2, 3, 4, 11, 13, 55, 56, 57, 15, 90, 91]) (bs := [0]) (gs := [])
                    (L' := [(92, .v (.int .i64 ((i + 1 : Nat) : Int))), (17, .v (.int .i64 ((cnt (fun j => fB nn xs p' (a + j)) (i + 1) : Nat) : Int))), (2, .v (.int .i64 ((n' : Nat) : Int))), (3, .v (.int .i64 how)), (4, .v (.bool nn)), (11, .v (.slice zd zs.length zc)), (13, .v (.int .i64 ((a : Nat) : Int))), (55, .v (.slice bd m bc)), (56, .v (.int .i64 ((m : Nat) : Int))), (57, .v (.int .i64 ((k : Nat) : Int))), (15, .p 0 0), (90, .v (.slice (cutA zd zc a 1) (a + fl.getD (2 * k) 0 - a) (zc - a))), (91, .v (.int .i64 ((a + fl.getD (2 * k) 0 - a : Nat) : Int)))])
                    (H' := [⟨0, 30, [.v (.int .i64 ((fl.getD (2 * k) 0 : Nat) : Int)), .v (.int .i64 ((fl.getD (2 * k + 1) 0 : Nat) : Int))]⟩]) (G' := []) (k' := 1) hR hI (by kernel_rfl)
                    (.cons (inR_i64 (n := ((i : Nat) : Int) + (1 : Int)) (by omega)) .nil) (fun e36 a36 w36 hag hR hI => ?_)
                refine then_n ?_
                exact ⟨(i + 1), e36, by (try dsimp only); omega, by (try dsimp only); omega, hR.sel [0] [] (by kernel_rfl) (by kernel_rfl), hI.sel [2, 3, 4, 11, 13, 55, 56, 57, 15, 17, 90, 91, 92] (by kernel_rfl)⟩
              · skip
                replace hI := hI.re 99 (.v (.bool false)) rfl (congrArg Value.bool hc34)
                try simp only [decide_eq_true_eq, decide_eq_false_iff_not, beq_iff_eq, bne_iff_ne, beq_eq_false_iff_ne, bne_eq_false_iff_eq, Bool.and_eq_true, Bool.and_eq_false_iff, Bool.or_eq_true, Bool.or_eq_false_iff, Bool.not_eq_true', Bool.not_eq_false', ne_eq] at hc34
                have hcb : ((((zs.drop a).take (a + fl.getD (2 * k) 0 - a)).getD i false) || nn) = false := by rw [Bool.or_eq_false_iff]; exact hc34
                have hfi : fB nn xs p' (a + i) = ((((zs.drop a).take (a + fl.getD (2 * k) 0 - a)).getD i false) || nn) := by rw [getD_cutB (by omega), hzb _ (by omega)]; unfold fB; rw [Bool.or_comm]
                have hci : cnt (fun j => fB nn xs p' (a + j)) (i + 1) = cnt (fun j => fB nn xs p' (a + j)) i + (fB nn xs p' (a + i)).toNat := rfl
                have hfv : ((((zs.drop a).take (a + fl.getD (2 * k) 0 - a)).getD i false) || nn) = false := hcb
                rw [hfi, hfv] at hci; have hct : Bool.toNat false = 0 := rfl; rw [hct] at hci
                replace hI := hI.re 17 (.v (.int .i64 ((cnt (fun j => fB nn xs p' (a + j)) (i + 1) : Nat) : Int))) rfl (congrArg (Value.int .i64) (by rw [hci]; rfl))
                refine wp_skip ?_
                refine normal_block ?_
                refine then_n ?_
                refine reg_all tab (k := 1) (hs := [(0, .nw)]) (sy := []) (ks := [92, 17, 2, 3, 4, 11, 13, 55, 56, 57, 15, 90, 91]) (bs := [0]) (gs := [])
                    (L' := [(92, .v (.int .i64 ((i + 1 : Nat) : Int))), (17, .v (.int .i64 ((cnt (fun j => fB nn xs p' (a + j)) (i + 1) : Nat) : Int))), (2, .v (.int .i64 ((n' : Nat) : Int))), (3, .v (.int .i64 how)), (4, .v (.bool nn)), (11, .v (.slice zd zs.length zc)), (13, .v (.int .i64 ((a : Nat) : Int))), (55, .v (.slice bd m bc)), (56, .v (.int .i64 ((m : Nat) : Int))), (57, .v (.int .i64 ((k : Nat) : Int))), (15, .p 0 0), (90, .v (.slice (cutA zd zc a 1) (a + fl.getD (2 * k) 0 - a) (zc - a))), (91, .v (.int .i64 ((a + fl.getD (2 * k) 0 - a : Nat) : Int)))])
                    (H' := [⟨0, 30, [.v (.int .i64 ((fl.getD (2 * k) 0 : Nat) : Int)), .v (.int .i64 ((fl.getD (2 * k + 1) 0 : Nat) : Int))]⟩]) (G' := []) (k' := 1) hR hI (by kernel_rfl)
                    (.cons (inR_i64 (n := ((i : Nat) : Int) + (1 : Int)) (by omega)) .nil) (fun e37 a37 w37 hag hR hI => ?_)
                refine then_n ?_
                exact ⟨(i + 1), e37, by (try dsimp only); omega, by (try dsimp only); omega, hR.sel [0] [] (by kernel_rfl) (by kernel_rfl), hI.sel [2, 3, 4, 11, 13, 55, 56, 57, 15, 17, 90, 91, 92] (by kernel_rfl)⟩
            · skip
              replace hI := hI.re 93 (.v (.bool false)) rfl (congrArg Value.bool hc31)
              try simp only [decide_eq_true_eq, decide_eq_false_iff_not, beq_iff_eq, bne_iff_ne, beq_eq_false_iff_ne, bne_eq_false_iff_eq, Bool.and_eq_true, Bool.and_eq_false_iff, Bool.or_eq_true, Bool.or_eq_false_iff, Bool.not_eq_true', Bool.not_eq_false', ne_eq] at hc31
              refine wp_exit ?_
              refine exit_then ?_
              refine exit_then ?_
              refine exit_hit ?_
              refine then_n ?_
              refine wp_seq ?_
              refine reg_seq tab (k := 1) (hs := []) (sy := []) (ks := [106, 2, 3, 4, 11, 13, 55, 56, 57, 15]) (bs := [0]) (gs := [])
                  (L' := [(106, .v (.bool (((fl.getD (2 * k + 1) 0 : Nat) : Int) != ((cnt (fun j => fB nn xs p' (a + j)) i : Nat) : Int)))), (2, .v (.int .i64 ((n' : Nat) : Int))), (3, .v (.int .i64 how)), (4, .v (.bool nn)), (11, .v (.slice zd zs.length zc)), (13, .v (.int .i64 ((a : Nat) : Int))), (55, .v (.slice bd m bc)), (56, .v (.int .i64 ((m : Nat) : Int))), (57, .v (.int .i64 ((k : Nat) : Int))), (15, .p 0 0)])
                  (H' := [⟨0, 30, [.v (.int .i64 ((fl.getD (2 * k) 0 : Nat) : Int)), .v (.int .i64 ((fl.getD (2 * k + 1) 0 : Nat) : Int))]⟩]) (G' := []) (k' := 1) hR hI (by kernel_rfl)
                  .nil (fun e38 a38 w38 hag hR hI => ?_)
              refine cnd (b := (((fl.getD (2 * k + 1) 0 : Nat) : Int) != ((cnt (fun j => fB nn xs p' (a + j)) i : Nat) : Int))) hI (by kernel_rfl) (fun hc39 => ?_) (fun hc39 => ?_)
              · skip
                replace hI := hI.re 106 (.v (.bool true)) rfl (congrArg Value.bool hc39)
                try simp only [decide_eq_true_eq, decide_eq_false_iff_not, beq_iff_eq, bne_iff_ne, beq_eq_false_iff_ne, bne_eq_false_iff_eq, Bool.and_eq_true, Bool.and_eq_false_iff, Bool.or_eq_true, Bool.or_eq_false_iff, Bool.not_eq_true', Bool.not_eq_false', ne_eq] at hc39
                have hri : i = fl.getD (2 * k) 0 := by omega
                rw [← hri] at hrc; omega
              · skip
                replace hI := hI.re 106 (.v (.bool false)) rfl (congrArg Value.bool hc39)
                try simp only [decide_eq_true_eq, decide_eq_false_iff_not, beq_iff_eq, bne_iff_ne, beq_eq_false_iff_ne, bne_eq_false_iff_eq, Bool.and_eq_true, Bool.and_eq_false_iff, Bool.or_eq_true, Bool.or_eq_false_iff, Bool.not_eq_true', Bool.not_eq_false', ne_eq] at hc39
                refine wp_skip ?_
                refine then_n ?_
                refine reg_all tab (k := 1) (hs := [(3, .nw)]) (sy := []) (ks := [13, 2, 3, 4, 11, 55, 56, 57]) (bs := []) (gs := [])
                    (L' := [(13, .v (.int .i64 ((a + (fl.getD (2 * k) 0) : Nat) : Int))), (2, .v (.int .i64 ((n' : Nat) : Int))), (3, .v (.int .i64 how)), (4, .v (.bool nn)), (11, .v (.slice zd zs.length zc)), (55, .v (.slice bd m bc)), (56, .v (.int .i64 ((m : Nat) : Int))), (57, .v (.int .i64 ((k : Nat) : Int)))])
                    (H' := []) (G' := []) (k' := 1) hR hI (by kernel_rfl)
                    (.cons (inR_i64 (n := ((a : Nat) : Int) + ((fl.getD (2 * k) 0 : Nat) : Int)) (by omega)) .nil) (fun e40 a40 w40 hag hR hI => ?_)
                refine normal_block ?_
                refine then_n ?_
                refine reg_all tab (k := 1) (hs := [(0, .nw)]) (sy := []) (ks := [57, 13, 2, 3, 4, 11, 55, 56]) (bs := []) (gs := [])
                    (L' := [(57, .v (.int .i64 ((k + 1 : Nat) : Int))), (13, .v (.int .i64 ((a + (fl.getD (2 * k) 0) : Nat) : Int))), (2, .v (.int .i64 ((n' : Nat) : Int))), (3, .v (.int .i64 how)), (4, .v (.bool nn)), (11, .v (.slice zd zs.length zc)), (55, .v (.slice bd m bc)), (56, .v (.int .i64 ((m : Nat) : Int)))])
                    (H' := []) (G' := []) (k' := 1) hR hI (by kernel_rfl)
                    (.cons (inR_i64 (n := ((k : Nat) : Int) + (1 : Int)) (by omega)) .nil) (fun e41 a41 w41 hag hR hI => ?_)
                refine then_n ?_
                exact ⟨(k + 1, a + fl.getD (2 * k) 0), e41, ⟨by omega, by omega, hbl'⟩, by (try dsimp only); omega, hR.sel [] [] (by kernel_rfl) (by kernel_rfl), hI.sel [2, 3, 4, 11, 13, 55, 56, 57] (by kernel_rfl)⟩
        · skip
          replace hI := hI.re 61 (.v (.bool false)) rfl (congrArg Value.bool hc23)
          try simp only [decide_eq_true_eq, decide_eq_false_iff_not, beq_iff_eq, bne_iff_ne, beq_eq_false_iff_ne, bne_eq_false_iff_eq, Bool.and_eq_true, Bool.and_eq_false_iff, Bool.or_eq_true, Bool.or_eq_false_iff, Bool.not_eq_true', Bool.not_eq_false', ne_eq] at hc23
          refine reg_seq tab (k := 1) (hs := []) (sy := []) (ks := [64, 16, 15, 2, 3, 4, 11, 13, 55, 56, 57]) (bs := [0]) (gs := [])
              (L' := [(64, .v (.bool (how == (3 : Int)))), (16, .v (.int .i64 64)), (15, .p 0 0), (2, .v (.int .i64 ((n' : Nat) : Int))), (3, .v (.int .i64 how)), (4, .v (.bool nn)), (11, .v (.slice zd zs.length zc)), (13, .v (.int .i64 ((a : Nat) : Int))), (55, .v (.slice bd m bc)), (56, .v (.int .i64 ((m : Nat) : Int))), (57, .v (.int .i64 ((k : Nat) : Int)))])
              (H' := [⟨0, 30, [.v (.int .i64 ((fl.getD (2 * k) 0 : Nat) : Int)), .v (.int .i64 ((fl.getD (2 * k + 1) 0 : Nat) : Int))]⟩]) (G' := []) (k' := 1) hR hI (by kernel_rfl)
              .nil (fun e42 a42 w42 hag hR hI => ?_)
          refine cnd (b := (how == (3 : Int))) hI (by kernel_rfl) (fun hc43 => ?_) (fun hc43 => ?_)
          · skip
            replace hI := hI.re 64 (.v (.bool true)) rfl (congrArg Value.bool hc43)
            try simp only [decide_eq_true_eq, decide_eq_false_iff_not, beq_iff_eq, bne_iff_ne, beq_eq_false_iff_ne, bne_eq_false_iff_eq, Bool.and_eq_true, Bool.and_eq_false_iff, Bool.or_eq_true, Bool.or_eq_false_iff, Bool.not_eq_true', Bool.not_eq_false', ne_eq] at hc43
            have hM : mostOf how = 32767 := by rw [hc43]; rfl
            refine reg_all tab (k := 1) (hs := []) (sy := []) (ks := [16, 15, 2, 3, 4, 11, 13, 55, 56, 57]) (bs := [0]) (gs := [])
                (L' := [(16, .v (.int .i64 32767)), (15, .p 0 0), (2, .v (.int .i64 ((n' : Nat) : Int))), (3, .v (.int .i64 how)), (4, .v (.bool nn)), (11, .v (.slice zd zs.length zc)), (13, .v (.int .i64 ((a : Nat) : Int))), (55, .v (.slice bd m bc)), (56, .v (.int .i64 ((m : Nat) : Int))), (57, .v (.int .i64 ((k : Nat) : Int)))])
                (H' := [⟨0, 30, [.v (.int .i64 ((fl.getD (2 * k) 0 : Nat) : Int)), .v (.int .i64 ((fl.getD (2 * k + 1) 0 : Nat) : Int))]⟩]) (G' := []) (k' := 1) hR hI (by kernel_rfl)
                .nil (fun e44 a44 w44 hag hR hI => ?_)
            refine normal_block ?_
            refine then_n ?_
            refine wp_seq ?_
            refine reg_seq tab (k := 1) (hs := [(8, .sym), (14, .eq (.int .i64 ((n' - a : Nat) : Int))), (16, .sym)]) (sy := [4, 5, 6, 7, 10, 11, 12, 13, 14, 15]) (ks := [83, 15, 2, 3, 4, 11, 13, 55, 56, 57]) (bs := [0]) (gs := [])
                (L' := [(83, .v (.bool (((decide (((fl.getD (2 * k) 0 : Nat) : Int) < (1 : Int))) || (decide (((fl.getD (2 * k) 0 : Nat) : Int) > (32767 : Int)))) || (decide (((fl.getD (2 * k) 0 : Nat) : Int) > ((n' - a : Nat) : Int)))))), (15, .p 0 0), (2, .v (.int .i64 ((n' : Nat) : Int))), (3, .v (.int .i64 how)), (4, .v (.bool nn)), (11, .v (.slice zd zs.length zc)), (13, .v (.int .i64 ((a : Nat) : Int))), (55, .v (.slice bd m bc)), (56, .v (.int .i64 ((m : Nat) : Int))), (57, .v (.int .i64 ((k : Nat) : Int)))])
                (H' := [⟨0, 30, [.v (.int .i64 ((fl.getD (2 * k) 0 : Nat) : Int)), .v (.int .i64 ((fl.getD (2 * k + 1) 0 : Nat) : Int))]⟩]) (G' := []) (k' := 1) hR hI (by kernel_rfl)
                (.cons (rfl : (decide (((fl.getD (2 * k) 0 : Nat) : Int) < (1 : Int))) = (decide (((fl.getD (2 * k) 0 : Nat) : Int) < (1 : Int)))) (.cons (rfl : (decide (((fl.getD (2 * k) 0 : Nat) : Int) < (1 : Int))) = (decide (((fl.getD (2 * k) 0 : Nat) : Int) < (1 : Int)))) (.cons (rfl : (decide (((fl.getD (2 * k) 0 : Nat) : Int) < (1 : Int))) = (decide (((fl.getD (2 * k) 0 : Nat) : Int) < (1 : Int)))) (.cons (rfl : (decide (((fl.getD (2 * k) 0 : Nat) : Int) < (1 : Int))) = (decide (((fl.getD (2 * k) 0 : Nat) : Int) < (1 : Int)))) (.cons (rfl : (decide (((fl.getD (2 * k) 0 : Nat) : Int) < (1 : Int))) = (decide (((fl.getD (2 * k) 0 : Nat) : Int) < (1 : Int)))) (.cons (rfl : (decide (((fl.getD (2 * k) 0 : Nat) : Int) < (1 : Int))) = (decide (((fl.getD (2 * k) 0 : Nat) : Int) < (1 : Int)))) (.cons (by first | exact Bool.beq_true _ | exact Bool.beq_false _ | rfl | simp_all : ((decide (((fl.getD (2 * k) 0 : Nat) : Int) < (1 : Int))) == false) = !(decide (((fl.getD (2 * k) 0 : Nat) : Int) < (1 : Int)))) (.cons (rfl : ((decide (((fl.getD (2 * k) 0 : Nat) : Int) < (1 : Int))) || (decide (((fl.getD (2 * k) 0 : Nat) : Int) > (32767 : Int)))) = ((decide (((fl.getD (2 * k) 0 : Nat) : Int) < (1 : Int))) || (decide (((fl.getD (2 * k) 0 : Nat) : Int) > (32767 : Int))))) (.cons (rfl : ((decide (((fl.getD (2 * k) 0 : Nat) : Int) < (1 : Int))) || (decide (((fl.getD (2 * k) 0 : Nat) : Int) > (32767 : Int)))) = ((decide (((fl.getD (2 * k) 0 : Nat) : Int) < (1 : Int))) || (decide (((fl.getD (2 * k) 0 : Nat) : Int) > (32767 : Int))))) (.cons (rfl : ((decide (((fl.getD (2 * k) 0 : Nat) : Int) < (1 : Int))) || (decide (((fl.getD (2 * k) 0 : Nat) : Int) > (32767 : Int)))) = ((decide (((fl.getD (2 * k) 0 : Nat) : Int) < (1 : Int))) || (decide (((fl.getD (2 * k) 0 : Nat) : Int) > (32767 : Int))))) (.cons (rfl : ((decide (((fl.getD (2 * k) 0 : Nat) : Int) < (1 : Int))) || (decide (((fl.getD (2 * k) 0 : Nat) : Int) > (32767 : Int)))) = ((decide (((fl.getD (2 * k) 0 : Nat) : Int) < (1 : Int))) || (decide (((fl.getD (2 * k) 0 : Nat) : Int) > (32767 : Int))))) (.cons (rfl : ((decide (((fl.getD (2 * k) 0 : Nat) : Int) < (1 : Int))) || (decide (((fl.getD (2 * k) 0 : Nat) : Int) > (32767 : Int)))) = ((decide (((fl.getD (2 * k) 0 : Nat) : Int) < (1 : Int))) || (decide (((fl.getD (2 * k) 0 : Nat) : Int) > (32767 : Int))))) (.cons (rfl : ((decide (((fl.getD (2 * k) 0 : Nat) : Int) < (1 : Int))) || (decide (((fl.getD (2 * k) 0 : Nat) : Int) > (32767 : Int)))) = ((decide (((fl.getD (2 * k) 0 : Nat) : Int) < (1 : Int))) || (decide (((fl.getD (2 * k) 0 : Nat) : Int) > (32767 : Int))))) (.cons (rfl : ((decide (((fl.getD (2 * k) 0 : Nat) : Int) < (1 : Int))) || (decide (((fl.getD (2 * k) 0 : Nat) : Int) > (32767 : Int)))) = ((decide (((fl.getD (2 * k) 0 : Nat) : Int) < (1 : Int))) || (decide (((fl.getD (2 * k) 0 : Nat) : Int) > (32767 : Int))))) (.cons (rfl : ((decide (((fl.getD (2 * k) 0 : Nat) : Int) < (1 : Int))) || (decide (((fl.getD (2 * k) 0 : Nat) : Int) > (32767 : Int)))) = ((decide (((fl.getD (2 * k) 0 : Nat) : Int) < (1 : Int))) || (decide (((fl.getD (2 * k) 0 : Nat) : Int) > (32767 : Int))))) (.cons (rfl : ((decide (((fl.getD (2 * k) 0 : Nat) : Int) < (1 : Int))) || (decide (((fl.getD (2 * k) 0 : Nat) : Int) > (32767 : Int)))) = ((decide (((fl.getD (2 * k) 0 : Nat) : Int) < (1 : Int))) || (decide (((fl.getD (2 * k) 0 : Nat) : Int) > (32767 : Int))))) (.cons (rfl : ((decide (((fl.getD (2 * k) 0 : Nat) : Int) < (1 : Int))) || (decide (((fl.getD (2 * k) 0 : Nat) : Int) > (32767 : Int)))) = ((decide (((fl.getD (2 * k) 0 : Nat) : Int) < (1 : Int))) || (decide (((fl.getD (2 * k) 0 : Nat) : Int) > (32767 : Int))))) (.cons (fun (hg : (((decide (((fl.getD (2 * k) 0 : Nat) : Int) < (1 : Int))) || (decide (((fl.getD (2 * k) 0 : Nat) : Int) > (32767 : Int)))) == false) = true) => (congrArg (Value.int .i64) (by skip; rw [wrap_inR (inR_i64 (by skip; omega))]; omega : IntKind.i64.wrap (((n' : Nat) : Int) - ((a : Nat) : Int)) = ((n' - a : Nat) : Int)))) (.cons (rfl : ((decide (((fl.getD (2 * k) 0 : Nat) : Int) < (1 : Int))) || (decide (((fl.getD (2 * k) 0 : Nat) : Int) > (32767 : Int)))) = ((decide (((fl.getD (2 * k) 0 : Nat) : Int) < (1 : Int))) || (decide (((fl.getD (2 * k) 0 : Nat) : Int) > (32767 : Int))))) (.cons (rfl : ((decide (((fl.getD (2 * k) 0 : Nat) : Int) < (1 : Int))) || (decide (((fl.getD (2 * k) 0 : Nat) : Int) > (32767 : Int)))) = ((decide (((fl.getD (2 * k) 0 : Nat) : Int) < (1 : Int))) || (decide (((fl.getD (2 * k) 0 : Nat) : Int) > (32767 : Int))))) (.cons (rfl : ((decide (((fl.getD (2 * k) 0 : Nat) : Int) < (1 : Int))) || (decide (((fl.getD (2 * k) 0 : Nat) : Int) > (32767 : Int)))) = ((decide (((fl.getD (2 * k) 0 : Nat) : Int) < (1 : Int))) || (decide (((fl.getD (2 * k) 0 : Nat) : Int) > (32767 : Int))))) (.cons (rfl : ((decide (((fl.getD (2 * k) 0 : Nat) : Int) < (1 : Int))) || (decide (((fl.getD (2 * k) 0 : Nat) : Int) > (32767 : Int)))) = ((decide (((fl.getD (2 * k) 0 : Nat) : Int) < (1 : Int))) || (decide (((fl.getD (2 * k) 0 : Nat) : Int) > (32767 : Int))))) (.cons (rfl : ((decide (((fl.getD (2 * k) 0 : Nat) : Int) < (1 : Int))) || (decide (((fl.getD (2 * k) 0 : Nat) : Int) > (32767 : Int)))) = ((decide (((fl.getD (2 * k) 0 : Nat) : Int) < (1 : Int))) || (decide (((fl.getD (2 * k) 0 : Nat) : Int) > (32767 : Int))))) (.cons (by first | exact Bool.beq_true _ | exact Bool.beq_false _ | rfl | simp_all : (((decide (((fl.getD (2 * k) 0 : Nat) : Int) < (1 : Int))) || (decide (((fl.getD (2 * k) 0 : Nat) : Int) > (32767 : Int)))) == false) = !((decide (((fl.getD (2 * k) 0 : Nat) : Int) < (1 : Int))) || (decide (((fl.getD (2 * k) 0 : Nat) : Int) > (32767 : Int))))) .nil)))))))))))))))))))))))) (fun e45 a45 w45 hag hR hI => ?_)
            refine cnd (b := (((decide (((fl.getD (2 * k) 0 : Nat) : Int) < (1 : Int))) || (decide (((fl.getD (2 * k) 0 : Nat) : Int) > (32767 : Int)))) || (decide (((fl.getD (2 * k) 0 : Nat) : Int) > ((n' - a : Nat) : Int))))) hI (by kernel_rfl) (fun hc46 => ?_) (fun hc46 => ?_)
            · skip
              replace hI := hI.re 83 (.v (.bool true)) rfl (congrArg Value.bool hc46)
              try simp only [decide_eq_true_eq, decide_eq_false_iff_not, beq_iff_eq, bne_iff_ne, beq_eq_false_iff_ne, bne_eq_false_iff_eq, Bool.and_eq_true, Bool.and_eq_false_iff, Bool.or_eq_true, Bool.or_eq_false_iff, Bool.not_eq_true', Bool.not_eq_false', ne_eq] at hc46
              omega
            · skip
              replace hI := hI.re 83 (.v (.bool false)) rfl (congrArg Value.bool hc46)
              try simp only [decide_eq_true_eq, decide_eq_false_iff_not, beq_iff_eq, bne_iff_ne, beq_eq_false_iff_ne, bne_eq_false_iff_eq, Bool.and_eq_true, Bool.and_eq_false_iff, Bool.or_eq_true, Bool.or_eq_false_iff, Bool.not_eq_true', Bool.not_eq_false', ne_eq] at hc46
              refine wp_skip ?_
              refine then_n ?_
              refine reg_seq tab (k := 1) (hs := []) (sy := []) (ks := [17, 15, 2, 3, 4, 11, 13, 55, 56, 57]) (bs := [0]) (gs := [])
                  (L' := [(17, .v (.int .i64 0)), (15, .p 0 0), (2, .v (.int .i64 ((n' : Nat) : Int))), (3, .v (.int .i64 how)), (4, .v (.bool nn)), (11, .v (.slice zd zs.length zc)), (13, .v (.int .i64 ((a : Nat) : Int))), (55, .v (.slice bd m bc)), (56, .v (.int .i64 ((m : Nat) : Int))), (57, .v (.int .i64 ((k : Nat) : Int)))])
                  (H' := [⟨0, 30, [.v (.int .i64 ((fl.getD (2 * k) 0 : Nat) : Int)), .v (.int .i64 ((fl.getD (2 * k + 1) 0 : Nat) : Int))]⟩]) (G' := []) (k' := 1) hR hI (by kernel_rfl)
                  .nil (fun e47 a47 w47 hag hR hI => ?_)
              refine wp_seq ?_
              refine reg_seq tab (k := 1) (hs := [(5, .nw), (6, .sym)]) (sy := []) (ks := [92, 91, 90, 17, 15, 2, 3, 4, 11, 13, 55, 56, 57]) (bs := [0]) (gs := [])
                  (L' := [(92, .v (.int .i64 0)), (91, .v (.int .i64 (((a + (fl.getD (2 * k) 0)) - a : Nat) : Int))), (90, .v (.slice (cutA zd zc a 1) ((a + (fl.getD (2 * k) 0)) - a) (zc - a))), (17, .v (.int .i64 0)), (15, .p 0 0), (2, .v (.int .i64 ((n' : Nat) : Int))), (3, .v (.int .i64 how)), (4, .v (.bool nn)), (11, .v (.slice zd zs.length zc)), (13, .v (.int .i64 ((a : Nat) : Int))), (55, .v (.slice bd m bc)), (56, .v (.int .i64 ((m : Nat) : Int))), (57, .v (.int .i64 ((k : Nat) : Int)))])
                  (H' := [⟨0, 30, [.v (.int .i64 ((fl.getD (2 * k) 0 : Nat) : Int)), .v (.int .i64 ((fl.getD (2 * k + 1) 0 : Nat) : Int))]⟩]) (G' := []) (k' := 1) hR hI (by kernel_rfl)
                  (.cons (inR_i64 (n := ((a : Nat) : Int) + ((fl.getD (2 * k) 0 : Nat) : Int)) (by omega)) (.cons (by omega : (0 : Int) ≤ ((a : Nat) : Int) ∧ ((a : Nat) : Int) ≤ ((a + (fl.getD (2 * k) 0) : Nat) : Int) ∧ ((a + (fl.getD (2 * k) 0) : Nat) : Int) ≤ (zc : Nat)) .nil)) (fun e48 a48 w48 hag hR hI => ?_)
              refine wp_block ?_
              refine lp (γ := Nat) (fun i => (⟨[(2, .v (.int .i64 ((n' : Nat) : Int))), (3, .v (.int .i64 how)), (4, .v (.bool nn)), (11, .v (.slice zd zs.length zc)), (13, .v (.int .i64 ((a : Nat) : Int))), (55, .v (.slice bd m bc)), (56, .v (.int .i64 ((m : Nat) : Int))), (57, .v (.int .i64 ((k : Nat) : Int))), (15, .p 0 0), (17, .v (.int .i64 ((cnt (fun j => fB nn xs p' (a + j)) i : Nat) : Int))), (90, .v (.slice (cutA zd zc a 1) (a + fl.getD (2 * k) 0 - a) (zc - a))), (91, .v (.int .i64 ((a + fl.getD (2 * k) 0 - a : Nat) : Int))), (92, .v (.int .i64 ((i : Nat) : Int)))], [⟨0, 30, [.v (.int .i64 ((fl.getD (2 * k) 0 : Nat) : Int)), .v (.int .i64 ((fl.getD (2 * k + 1) 0 : Nat) : Int))]⟩], [], 1⟩ : Sy)) (fun i e => i ≤ fl.getD (2 * k) 0) (fun i => fl.getD (2 * k) 0 - i) (0) (Nat.zero_le _)
                  (hR.sel [0] [] (by kernel_rfl) (by kernel_rfl)) (hI.sel [2, 3, 4, 11, 13, 55, 56, 57, 15, 17, 90, 91, 92] (by kernel_rfl)) ?_
              clear hR hI
              rintro i e49 a49 w49 hp hR hI
              dsimp only at hp hR hI
              have hir := hp
              refine reg_seq tab (k := 1) (hs := []) (sy := []) (ks := [93, 2, 3, 4, 11, 13, 55, 56, 57, 15, 17, 90, 91, 92]) (bs := [0]) (gs := [])
                  (L' := [(93, .v (.bool (decide (((i : Nat) : Int) < ((a + fl.getD (2 * k) 0 - a : Nat) : Int))))), (2, .v (.int .i64 ((n' : Nat) : Int))), (3, .v (.int .i64 how)), (4, .v (.bool nn)), (11, .v (.slice zd zs.length zc)), (13, .v (.int .i64 ((a : Nat) : Int))), (55, .v (.slice bd m bc)), (56, .v (.int .i64 ((m : Nat) : Int))), (57, .v (.int .i64 ((k : Nat) : Int))), (15, .p 0 0), (17, .v (.int .i64 ((cnt (fun j => fB nn xs p' (a + j)) i : Nat) : Int))), (90, .v (.slice (cutA zd zc a 1) (a + fl.getD (2 * k) 0 - a) (zc - a))), (91, .v (.int .i64 ((a + fl.getD (2 * k) 0 - a : Nat) : Int))), (92, .v (.int .i64 ((i : Nat) : Int)))])
                  (H' := [⟨0, 30, [.v (.int .i64 ((fl.getD (2 * k) 0 : Nat) : Int)), .v (.int .i64 ((fl.getD (2 * k + 1) 0 : Nat) : Int))]⟩]) (G' := []) (k' := 1) hR hI (by kernel_rfl)
                  .nil (fun e50 a50 w50 hag hR hI => ?_)
              refine wp_seq ?_
              refine cnd (b := decide (((i : Nat) : Int) < ((a + fl.getD (2 * k) 0 - a : Nat) : Int))) hI (by kernel_rfl) (fun hc51 => ?_) (fun hc51 => ?_)
              · skip
                replace hI := hI.re 93 (.v (.bool true)) rfl (congrArg Value.bool hc51)
                try simp only [decide_eq_true_eq, decide_eq_false_iff_not, beq_iff_eq, bne_iff_ne, beq_eq_false_iff_ne, bne_eq_false_iff_eq, Bool.and_eq_true, Bool.and_eq_false_iff, Bool.or_eq_true, Bool.or_eq_false_iff, Bool.not_eq_true', Bool.not_eq_false', ne_eq] at hc51
                refine wp_skip ?_
                refine then_n ?_
                refine wp_seq ?_
                refine wp_block ?_
                refine reg_seq tab (k := 1) (hs := [(1, .val (.v (.bool (((zs.drop a).take (a + fl.getD (2 * k) 0 - a)).getD i false))))]) (sy := []) (ks := [19, 2, 3, 4, 11, 13, 55, 56, 57, 15, 17, 90, 91, 92]) (bs := [0]) (gs := [])
                    (L' := [(19, .v (.bool (((zs.drop a).take (a + fl.getD (2 * k) 0 - a)).getD i false))), (2, .v (.int .i64 ((n' : Nat) : Int))), (3, .v (.int .i64 how)), (4, .v (.bool nn)), (11, .v (.slice zd zs.length zc)), (13, .v (.int .i64 ((a : Nat) : Int))), (55, .v (.slice bd m bc)), (56, .v (.int .i64 ((m : Nat) : Int))), (57, .v (.int .i64 ((k : Nat) : Int))), (15, .p 0 0), (17, .v (.int .i64 ((cnt (fun j => fB nn xs p' (a + j)) i : Nat) : Int))), (90, .v (.slice (cutA zd zc a 1) (a + fl.getD (2 * k) 0 - a) (zc - a))), (91, .v (.int .i64 ((a + fl.getD (2 * k) 0 - a : Nat) : Int))), (92, .v (.int .i64 ((i : Nat) : Int)))])
                    (H' := [⟨0, 30, [.v (.int .i64 ((fl.getD (2 * k) 0 : Nat) : Int)), .v (.int .i64 ((fl.getD (2 * k + 1) 0 : Nat) : Int))]⟩]) (G' := []) (k' := 1) hR hI (by kernel_rfl)
                    (.cons (by omega : (0 : Int) ≤ ((i : Nat) : Int) ∧ ((i : Nat) : Int) < ((a + fl.getD (2 * k) 0 - a : Nat) : Int)) (.cons (bools_some (i := i) (hcut.cells.mono hB.cls) (by omega)) (.cons (bools_load (i := i) (m := 1) (hcut.cells.mono hB.cls) (by omega)) .nil))) (fun e52 a52 w52 hag hR hI => ?_)
                refine reg_seq tab (k := 1) (hs := [(3, .sym)]) (sy := [2]) (ks := [99, 2, 3, 4, 11, 13, 55, 56, 57, 15, 17, 90, 91, 92]) (bs := [0]) (gs := [])
                    (L' := [(99, .v (.bool ((((zs.drop a).take (a + fl.getD (2 * k) 0 - a)).getD i false) || nn))), (2, .v (.int .i64 ((n' : Nat) : Int))), (3, .v (.int .i64 how)), (4, .v (.bool nn)), (11, .v (.slice zd zs.length zc)), (13, .v (.int .i64 ((a : Nat) : Int))), (55, .v (.slice bd m bc)), (56, .v (.int .i64 ((m : Nat) : Int))), (57, .v (.int .i64 ((k : Nat) : Int))), (15, .p 0 0), (17, .v (.int .i64 ((cnt (fun j => fB nn xs p' (a + j)) i : Nat) : Int))), (90, .v (.slice (cutA zd zc a 1) (a + fl.getD (2 * k) 0 - a) (zc - a))), (91, .v (.int .i64 ((a + fl.getD (2 * k) 0 - a : Nat) : Int))), (92, .v (.int .i64 ((i : Nat) : Int)))])
                    (H' := [⟨0, 30, [.v (.int .i64 ((fl.getD (2 * k) 0 : Nat) : Int)), .v (.int .i64 ((fl.getD (2 * k + 1) 0 : Nat) : Int))]⟩]) (G' := []) (k' := 1) hR hI (by kernel_rfl)
                    (.cons (by first | exact Bool.beq_true _ | exact Bool.beq_false _ | rfl | simp_all : ((((zs.drop a).take (a + fl.getD (2 * k) 0 - a)).getD i false) == false) = !(((zs.drop a).take (a + fl.getD (2 * k) 0 - a)).getD i false)) .nil) (fun e53 a53 w53 hag hR hI => ?_)
                refine cnd (b := ((((zs.drop a).take (a + fl.getD (2 * k) 0 - a)).getD i false) || nn)) hI (by kernel_rfl) (fun hc54 => ?_) (fun hc54 => ?_)
                · skip
                  replace hI := hI.re 99 (.v (.bool true)) rfl (congrArg Value.bool hc54)
                  try simp only [decide_eq_true_eq, decide_eq_false_iff_not, beq_iff_eq, bne_iff_ne, beq_eq_false_iff_ne, bne_eq_false_iff_eq, Bool.and_eq_true, Bool.and_eq_false_iff, Bool.or_eq_true, Bool.or_eq_false_iff, Bool.not_eq_true', Bool.not_eq_false', ne_eq] at hc54
                  have hcb : ((((zs.drop a).take (a + fl.getD (2 * k) 0 - a)).getD i false) || nn) = true := by rw [Bool.or_eq_true]; exact hc54
                  have hfi : fB nn xs p' (a + i) = ((((zs.drop a).take (a + fl.getD (2 * k) 0 - a)).getD i false) || nn) := by rw [getD_cutB (by omega), hzb _ (by omega)]; unfold fB; rw [Bool.or_comm]
                  have hci : cnt (fun j => fB nn xs p' (a + j)) (i + 1) = cnt (fun j => fB nn xs p' (a + j)) i + (fB nn xs p' (a + i)).toNat := rfl
                  have hfv : ((((zs.drop a).take (a + fl.getD (2 * k) 0 - a)).getD i false) || nn) = true := hcb
                  rw [hfi, hfv] at hci; have hct : Bool.toNat true = 1 := rfl; rw [hct] at hci
                  refine reg_all tab (k := 1) (hs := [(1, .eq (.int .i64 ((cnt (fun j => fB nn xs p' (a + j)) (i + 1) : Nat) : Int)))]) (sy := []) (ks := [17, 2, 3, 4, 11, 13, 55, 56, 57, 15, 90, 91, 92]) (bs := [0]) (gs := [])
                      (L' := [(17, .v (.int .i64 ((cnt (fun j => fB nn xs p' (a + j)) (i + 1) : Nat) : Int))), (2, .v (.int .i64 ((n' : Nat) : Int))), (3, .v (.int .i64 how)), (4, .v (.bool nn)), (11, .v (.slice zd zs.length zc)), (13, .v (.int .i64 ((a : Nat) : Int))), (55, .v (.slice bd m bc)), (56, .v (.int .i64 ((m : Nat) : Int))), (57, .v (.int .i64 ((k : Nat) : Int))), (15, .p 0 0), (90, .v (.slice (cutA zd zc a 1) (a + fl.getD (2 * k) 0 - a) (zc - a))), (91, .v (.int .i64 ((a + fl.getD (2 * k) 0 - a : Nat) : Int))), (92, .v (.int .i64 ((i : Nat) : Int)))])
                      (H' := [⟨0, 30, [.v (.int .i64 ((fl.getD (2 * k) 0 : Nat) : Int)), .v (.int .i64 ((fl.getD (2 * k + 1) 0 : Nat) : Int))]⟩]) (G' := []) (k' := 1) hR hI (by kernel_rfl)
                      (.cons (congrArg (Value.int .i64) (by rw [hci, wrap_inR (inR_i64 (by have := cnt_le (fun j => fB nn xs p' (a + j)) (i + 1); omega))]; omega : IntKind.i64.wrap (((cnt (fun j => fB nn xs p' (a + j)) i : Nat) : Int) + (1 : Int)) = ((cnt (fun j => fB nn xs p' (a + j)) (i + 1) : Nat) : Int))) .nil) (fun e55 a55 w55 hag hR hI => ?_)
                  refine normal_block ?_
                  refine then_n ?_
                  refine reg_all tab (k := 1) (hs := [(0, .nw)]) (sy := []) (ks := [92, 17, 2, 3, 4, 11, 13, 55, 56, 57, 15, 90, 91]) (bs := [0]) (gs := [])
                      (L' := [(92, .v (.int .i64 ((i + 1 : Nat) : Int))), (17, .v (.int .i64 ((cnt (fun j => fB nn xs p' (a + j)) (i + 1) : Nat) : Int))), (2, .v (.int .i64 ((n' : Nat) : Int))), (3, .v (.int .i64 how)), (4, .v (.bool nn)), (11, .v (.slice zd zs.length zc)), (13, .v (.int .i64 ((a : Nat) : Int))), (55, .v (.slice bd m bc)), (56, .v (.int .i64 ((m : Nat) : Int))), (57, .v (.int .i64 ((k : Nat) : Int))), (15, .p 0 0), (90, .v (.slice (cutA zd zc a 1) (a + fl.getD (2 * k) 0 - a) (zc - a))), (91, .v (.int .i64 ((a + fl.getD (2 * k) 0 - a : Nat) : Int)))])
                      (H' := [⟨0, 30, [.v (.int .i64 ((fl.getD (2 * k) 0 : Nat) : Int)), .v (.int .i64 ((fl.getD (2 * k + 1) 0 : Nat) : Int))]⟩]) (G' := []) (k' := 1) hR hI (by kernel_rfl)
                      (.cons (inR_i64 (n := ((i : Nat) : Int) + (1 : Int)) (by omega)) .nil) (fun e56 a56 w56 hag hR hI => ?_)
                  refine then_n ?_
                  exact ⟨(i + 1), e56, by (try dsimp only); omega, by (try dsimp only); omega, hR.sel [0] [] (by kernel_rfl) (by kernel_rfl), hI.sel [2, 3, 4, 11, 13, 55, 56, 57, 15, 17, 90, 91, 92] (by kernel_rfl)⟩
                · skip
                  replace hI := hI.re 99 (.v (.bool false)) rfl (congrArg Value.bool hc54)
                  try simp only [decide_eq_true_eq, decide_eq_false_iff_not, beq_iff_eq, bne_iff_ne, beq_eq_false_iff_ne, bne_eq_false_iff_eq, Bool.and_eq_true, Bool.and_eq_false_iff, Bool.or_eq_true, Bool.or_eq_false_iff, Bool.not_eq_true', Bool.not_eq_false', ne_eq] at hc54
                  have hcb : ((((zs.drop a).take (a + fl.getD (2 * k) 0 - a)).getD i false) || nn) = false := by rw [Bool.or_eq_false_iff]; exact hc54
                  have hfi : fB nn xs p' (a + i) = ((((zs.drop a).take (a + fl.getD (2 * k) 0 - a)).getD i false) || nn) := by rw [getD_cutB (by omega), hzb _ (by omega)]; unfold fB; rw [Bool.or_comm]
                  have hci : cnt (fun j => fB nn xs p' (a + j)) (i + 1) = cnt (fun j => fB nn xs p' (a + j)) i + (fB nn xs p' (a + i)).toNat := rfl
                  have hfv : ((((zs.drop a).take (a + fl.getD (2 * k) 0 - a)).getD i false) || nn) = false := hcb
                  rw [hfi, hfv] at hci; have hct : Bool.toNat false = 0 := rfl; rw [hct] at hci
                  replace hI := hI.re 17 (.v (.int .i64 ((cnt (fun j => fB nn xs p' (a + j)) (i + 1) : Nat) : Int))) rfl (congrArg (Value.int .i64) (by rw [hci]; rfl))
                  refine wp_skip ?_
                  refine normal_block ?_
                  refine then_n ?_
                  refine reg_all tab (k := 1) (hs := [(0, .nw)]) (sy := []) (ks := [92, 17, 2, 3, 4, 11, 13, 55, 56, 57, 15, 90, 91]) (bs := [0]) (gs := [])
                      (L' := [(92, .v (.int .i64 ((i + 1 : Nat) : Int))), (17, .v (.int .i64 ((cnt (fun j => fB nn xs p' (a + j)) (i + 1) : Nat) : Int))), (2, .v (.int .i64 ((n' : Nat) : Int))), (3, .v (.int .i64 how)), (4, .v (.bool nn)), (11, .v (.slice zd zs.length zc)), (13, .v (.int .i64 ((a : Nat) : Int))), (55, .v (.slice bd m bc)), (56, .v (.int .i64 ((m : Nat) : Int))), (57, .v (.int .i64 ((k : Nat) : Int))), (15, .p 0 0), (90, .v (.slice (cutA zd zc a 1) (a + fl.getD (2 * k) 0 - a) (zc - a))), (91, .v (.int .i64 ((a + fl.getD (2 * k) 0 - a : Nat) : Int)))])
                      (H' := [⟨0, 30, [.v (.int .i64 ((fl.getD (2 * k) 0 : Nat) : Int)), .v (.int .i64 ((fl.getD (2 * k + 1) 0 : Nat) : Int))]⟩]) (G' := []) (k' := 1) hR hI (by kernel_rfl)
                      (.cons (inR_i64 (n := ((i : Nat) : Int) + (1 : Int)) (by omega)) .nil) (fun e57 a57 w57 hag hR hI => ?_)
                  refine then_n ?_
                  exact ⟨(i + 1), e57, by (try dsimp only); omega, by (try dsimp only); omega, hR.sel [0] [] (by kernel_rfl) (by kernel_rfl), hI.sel [2, 3, 4, 11, 13, 55, 56, 57, 15, 17, 90, 91, 92] (by kernel_rfl)⟩
              · skip
                replace hI := hI.re 93 (.v (.bool false)) rfl (congrArg Value.bool hc51)
                try simp only [decide_eq_true_eq, decide_eq_false_iff_not, beq_iff_eq, bne_iff_ne, beq_eq_false_iff_ne, bne_eq_false_iff_eq, Bool.and_eq_true, Bool.and_eq_false_iff, Bool.or_eq_true, Bool.or_eq_false_iff, Bool.not_eq_true', Bool.not_eq_false', ne_eq] at hc51
                refine wp_exit ?_
                refine exit_then ?_
                refine exit_then ?_
                refine exit_hit ?_
                refine then_n ?_
                refine wp_seq ?_
                refine reg_seq tab (k := 1) (hs := []) (sy := []) (ks := [106, 2, 3, 4, 11, 13, 55, 56, 57, 15]) (bs := [0]) (gs := [])
                    (L' := [(106, .v (.bool (((fl.getD (2 * k + 1) 0 : Nat) : Int) != ((cnt (fun j => fB nn xs p' (a + j)) i : Nat) : Int)))), (2, .v (.int .i64 ((n' : Nat) : Int))), (3, .v (.int .i64 how)), (4, .v (.bool nn)), (11, .v (.slice zd zs.length zc)), (13, .v (.int .i64 ((a : Nat) : Int))), (55, .v (.slice bd m bc)), (56, .v (.int .i64 ((m : Nat) : Int))), (57, .v (.int .i64 ((k : Nat) : Int))), (15, .p 0 0)])
                    (H' := [⟨0, 30, [.v (.int .i64 ((fl.getD (2 * k) 0 : Nat) : Int)), .v (.int .i64 ((fl.getD (2 * k + 1) 0 : Nat) : Int))]⟩]) (G' := []) (k' := 1) hR hI (by kernel_rfl)
                    .nil (fun e58 a58 w58 hag hR hI => ?_)
                refine cnd (b := (((fl.getD (2 * k + 1) 0 : Nat) : Int) != ((cnt (fun j => fB nn xs p' (a + j)) i : Nat) : Int))) hI (by kernel_rfl) (fun hc59 => ?_) (fun hc59 => ?_)
                · skip
                  replace hI := hI.re 106 (.v (.bool true)) rfl (congrArg Value.bool hc59)
                  try simp only [decide_eq_true_eq, decide_eq_false_iff_not, beq_iff_eq, bne_iff_ne, beq_eq_false_iff_ne, bne_eq_false_iff_eq, Bool.and_eq_true, Bool.and_eq_false_iff, Bool.or_eq_true, Bool.or_eq_false_iff, Bool.not_eq_true', Bool.not_eq_false', ne_eq] at hc59
                  have hri : i = fl.getD (2 * k) 0 := by omega
                  rw [← hri] at hrc; omega
                · skip
                  replace hI := hI.re 106 (.v (.bool false)) rfl (congrArg Value.bool hc59)
                  try simp only [decide_eq_true_eq, decide_eq_false_iff_not, beq_iff_eq, bne_iff_ne, beq_eq_false_iff_ne, bne_eq_false_iff_eq, Bool.and_eq_true, Bool.and_eq_false_iff, Bool.or_eq_true, Bool.or_eq_false_iff, Bool.not_eq_true', Bool.not_eq_false', ne_eq] at hc59
                  refine wp_skip ?_
                  refine then_n ?_
                  refine reg_all tab (k := 1) (hs := [(3, .nw)]) (sy := []) (ks := [13, 2, 3, 4, 11, 55, 56, 57]) (bs := []) (gs := [])
                      (L' := [(13, .v (.int .i64 ((a + (fl.getD (2 * k) 0) : Nat) : Int))), (2, .v (.int .i64 ((n' : Nat) : Int))), (3, .v (.int .i64 how)), (4, .v (.bool nn)), (11, .v (.slice zd zs.length zc)), (55, .v (.slice bd m bc)), (56, .v (.int .i64 ((m : Nat) : Int))), (57, .v (.int .i64 ((k : Nat) : Int)))])
                      (H' := []) (G' := []) (k' := 1) hR hI (by kernel_rfl)
                      (.cons (inR_i64 (n := ((a : Nat) : Int) + ((fl.getD (2 * k) 0 : Nat) : Int)) (by omega)) .nil) (fun e60 a60 w60 hag hR hI => ?_)
                  refine normal_block ?_
                  refine then_n ?_
                  refine reg_all tab (k := 1) (hs := [(0, .nw)]) (sy := []) (ks := [57, 13, 2, 3, 4, 11, 55, 56]) (bs := []) (gs := [])
                      (L' := [(57, .v (.int .i64 ((k + 1 : Nat) : Int))), (13, .v (.int .i64 ((a + (fl.getD (2 * k) 0) : Nat) : Int))), (2, .v (.int .i64 ((n' : Nat) : Int))), (3, .v (.int .i64 how)), (4, .v (.bool nn)), (11, .v (.slice zd zs.length zc)), (55, .v (.slice bd m bc)), (56, .v (.int .i64 ((m : Nat) : Int)))])
                      (H' := []) (G' := []) (k' := 1) hR hI (by kernel_rfl)
                      (.cons (inR_i64 (n := ((k : Nat) : Int) + (1 : Int)) (by omega)) .nil) (fun e61 a61 w61 hag hR hI => ?_)
                  refine then_n ?_
                  exact ⟨(k + 1, a + fl.getD (2 * k) 0), e61, ⟨by omega, by omega, hbl'⟩, by (try dsimp only); omega, hR.sel [] [] (by kernel_rfl) (by kernel_rfl), hI.sel [2, 3, 4, 11, 13, 55, 56, 57] (by kernel_rfl)⟩
          · skip
            replace hI := hI.re 64 (.v (.bool false)) rfl (congrArg Value.bool hc43)
            try simp only [decide_eq_true_eq, decide_eq_false_iff_not, beq_iff_eq, bne_iff_ne, beq_eq_false_iff_ne, bne_eq_false_iff_eq, Bool.and_eq_true, Bool.and_eq_false_iff, Bool.or_eq_true, Bool.or_eq_false_iff, Bool.not_eq_true', Bool.not_eq_false', ne_eq] at hc43
            have hM : mostOf how = 64 := by unfold mostOf; rw [if_neg (by omega), if_neg (by omega)]
            refine wp_skip ?_
            refine normal_block ?_
            refine then_n ?_
            refine wp_seq ?_
            refine reg_seq tab (k := 1) (hs := [(8, .sym), (14, .eq (.int .i64 ((n' - a : Nat) : Int))), (16, .sym)]) (sy := [4, 5, 6, 7, 10, 11, 12, 13, 14, 15]) (ks := [83, 15, 2, 3, 4, 11, 13, 55, 56, 57]) (bs := [0]) (gs := [])
                (L' := [(83, .v (.bool (((decide (((fl.getD (2 * k) 0 : Nat) : Int) < (1 : Int))) || (decide (((fl.getD (2 * k) 0 : Nat) : Int) > (64 : Int)))) || (decide (((fl.getD (2 * k) 0 : Nat) : Int) > ((n' - a : Nat) : Int)))))), (15, .p 0 0), (2, .v (.int .i64 ((n' : Nat) : Int))), (3, .v (.int .i64 how)), (4, .v (.bool nn)), (11, .v (.slice zd zs.length zc)), (13, .v (.int .i64 ((a : Nat) : Int))), (55, .v (.slice bd m bc)), (56, .v (.int .i64 ((m : Nat) : Int))), (57, .v (.int .i64 ((k : Nat) : Int)))])
                (H' := [⟨0, 30, [.v (.int .i64 ((fl.getD (2 * k) 0 : Nat) : Int)), .v (.int .i64 ((fl.getD (2 * k + 1) 0 : Nat) : Int))]⟩]) (G' := []) (k' := 1) hR hI (by kernel_rfl)
                (.cons (rfl : (decide (((fl.getD (2 * k) 0 : Nat) : Int) < (1 : Int))) = (decide (((fl.getD (2 * k) 0 : Nat) : Int) < (1 : Int)))) (.cons (rfl : (decide (((fl.getD (2 * k) 0 : Nat) : Int) < (1 : Int))) = (decide (((fl.getD (2 * k) 0 : Nat) : Int) < (1 : Int)))) (.cons (rfl : (decide (((fl.getD (2 * k) 0 : Nat) : Int) < (1 : Int))) = (decide (((fl.getD (2 * k) 0 : Nat) : Int) < (1 : Int)))) (.cons (rfl : (decide (((fl.getD (2 * k) 0 : Nat) : Int) < (1 : Int))) = (decide (((fl.getD (2 * k) 0 : Nat) : Int) < (1 : Int)))) (.cons (rfl : (decide (((fl.getD (2 * k) 0 : Nat) : Int) < (1 : Int))) = (decide (((fl.getD (2 * k) 0 : Nat) : Int) < (1 : Int)))) (.cons (rfl : (decide (((fl.getD (2 * k) 0 : Nat) : Int) < (1 : Int))) = (decide (((fl.getD (2 * k) 0 : Nat) : Int) < (1 : Int)))) (.cons (by first | exact Bool.beq_true _ | exact Bool.beq_false _ | rfl | simp_all : ((decide (((fl.getD (2 * k) 0 : Nat) : Int) < (1 : Int))) == false) = !(decide (((fl.getD (2 * k) 0 : Nat) : Int) < (1 : Int)))) (.cons (rfl : ((decide (((fl.getD (2 * k) 0 : Nat) : Int) < (1 : Int))) || (decide (((fl.getD (2 * k) 0 : Nat) : Int) > (64 : Int)))) = ((decide (((fl.getD (2 * k) 0 : Nat) : Int) < (1 : Int))) || (decide (((fl.getD (2 * k) 0 : Nat) : Int) > (64 : Int))))) (.cons (rfl : ((decide (((fl.getD (2 * k) 0 : Nat) : Int) < (1 : Int))) || (decide (((fl.getD (2 * k) 0 : Nat) : Int) > (64 : Int)))) = ((decide (((fl.getD (2 * k) 0 : Nat) : Int) < (1 : Int))) || (decide (((fl.getD (2 * k) 0 : Nat) : Int) > (64 : Int))))) (.cons (rfl : ((decide (((fl.getD (2 * k) 0 : Nat) : Int) < (1 : Int))) || (decide (((fl.getD (2 * k) 0 : Nat) : Int) > (64 : Int)))) = ((decide (((fl.getD (2 * k) 0 : Nat) : Int) < (1 : Int))) || (decide (((fl.getD (2 * k) 0 : Nat) : Int) > (64 : Int))))) (.cons (rfl : ((decide (((fl.getD (2 * k) 0 : Nat) : Int) < (1 : Int))) || (decide (((fl.getD (2 * k) 0 : Nat) : Int) > (64 : Int)))) = ((decide (((fl.getD (2 * k) 0 : Nat) : Int) < (1 : Int))) || (decide (((fl.getD (2 * k) 0 : Nat) : Int) > (64 : Int))))) (.cons (rfl : ((decide (((fl.getD (2 * k) 0 : Nat) : Int) < (1 : Int))) || (decide (((fl.getD (2 * k) 0 : Nat) : Int) > (64 : Int)))) = ((decide (((fl.getD (2 * k) 0 : Nat) : Int) < (1 : Int))) || (decide (((fl.getD (2 * k) 0 : Nat) : Int) > (64 : Int))))) (.cons (rfl : ((decide (((fl.getD (2 * k) 0 : Nat) : Int) < (1 : Int))) || (decide (((fl.getD (2 * k) 0 : Nat) : Int) > (64 : Int)))) = ((decide (((fl.getD (2 * k) 0 : Nat) : Int) < (1 : Int))) || (decide (((fl.getD (2 * k) 0 : Nat) : Int) > (64 : Int))))) (.cons (rfl : ((decide (((fl.getD (2 * k) 0 : Nat) : Int) < (1 : Int))) || (decide (((fl.getD (2 * k) 0 : Nat) : Int) > (64 : Int)))) = ((decide (((fl.getD (2 * k) 0 : Nat) : Int) < (1 : Int))) || (decide (((fl.getD (2 * k) 0 : Nat) : Int) > (64 : Int))))) (.cons (rfl : ((decide (((fl.getD (2 * k) 0 : Nat) : Int) < (1 : Int))) || (decide (((fl.getD (2 * k) 0 : Nat) : Int) > (64 : Int)))) = ((decide (((fl.getD (2 * k) 0 : Nat) : Int) < (1 : Int))) || (decide (((fl.getD (2 * k) 0 : Nat) : Int) > (64 : Int))))) (.cons (rfl : ((decide (((fl.getD (2 * k) 0 : Nat) : Int) < (1 : Int))) || (decide (((fl.getD (2 * k) 0 : Nat) : Int) > (64 : Int)))) = ((decide (((fl.getD (2 * k) 0 : Nat) : Int) < (1 : Int))) || (decide (((fl.getD (2 * k) 0 : Nat) : Int) > (64 : Int))))) (.cons (rfl : ((decide (((fl.getD (2 * k) 0 : Nat) : Int) < (1 : Int))) || (decide (((fl.getD (2 * k) 0 : Nat) : Int) > (64 : Int)))) = ((decide (((fl.getD (2 * k) 0 : Nat) : Int) < (1 : Int))) || (decide (((fl.getD (2 * k) 0 : Nat) : Int) > (64 : Int))))) (.cons (fun (hg : (((decide (((fl.getD (2 * k) 0 : Nat) : Int) < (1 : Int))) || (decide (((fl.getD (2 * k) 0 : Nat) : Int) > (64 : Int)))) == false) = true) => (congrArg (Value.int .i64) (by skip; rw [wrap_inR (inR_i64 (by skip; omega))]; omega : IntKind.i64.wrap (((n' : Nat) : Int) - ((a : Nat) : Int)) = ((n' - a : Nat) : Int)))) (.cons (rfl : ((decide (((fl.getD (2 * k) 0 : Nat) : Int) < (1 : Int))) || (decide (((fl.getD (2 * k) 0 : Nat) : Int) > (64 : Int)))) = ((decide (((fl.getD (2 * k) 0 : Nat) : Int) < (1 : Int))) || (decide (((fl.getD (2 * k) 0 : Nat) : Int) > (64 : Int))))) (.cons (rfl : ((decide (((fl.getD (2 * k) 0 : Nat) : Int) < (1 : Int))) || (decide (((fl.getD (2 * k) 0 : Nat) : Int) > (64 : Int)))) = ((decide (((fl.getD (2 * k) 0 : Nat) : Int) < (1 : Int))) || (decide (((fl.getD (2 * k) 0 : Nat) : Int) > (64 : Int))))) (.cons (rfl : ((decide (((fl.getD (2 * k) 0 : Nat) : Int) < (1 : Int))) || (decide (((fl.getD (2 * k) 0 : Nat) : Int) > (64 : Int)))) = ((decide (((fl.getD (2 * k) 0 : Nat) : Int) < (1 : Int))) || (decide (((fl.getD (2 * k) 0 : Nat) : Int) > (64 : Int))))) (.cons (rfl : ((decide (((fl.getD (2 * k) 0 : Nat) : Int) < (1 : Int))) || (decide (((fl.getD (2 * k) 0 : Nat) : Int) > (64 : Int)))) = ((decide (((fl.getD (2 * k) 0 : Nat) : Int) < (1 : Int))) || (decide (((fl.getD (2 * k) 0 : Nat) : Int) > (64 : Int))))) (.cons (rfl : ((decide (((fl.getD (2 * k) 0 : Nat) : Int) < (1 : Int))) || (decide (((fl.getD (2 * k) 0 : Nat) : Int) > (64 : Int)))) = ((decide (((fl.getD (2 * k) 0 : Nat) : Int) < (1 : Int))) || (decide (((fl.getD (2 * k) 0 : Nat) : Int) > (64 : Int))))) (.cons (by first | exact Bool.beq_true _ | exact Bool.beq_false _ | rfl | simp_all : (((decide (((fl.getD (2 * k) 0 : Nat) : Int) < (1 : Int))) || (decide (((fl.getD (2 * k) 0 : Nat) : Int) > (64 : Int)))) == false) = !((decide (((fl.getD (2 * k) 0 : Nat) : Int) < (1 : Int))) || (decide (((fl.getD (2 * k) 0 : Nat) : Int) > (64 : Int))))) .nil)))))))))))))))))))))))) (fun e62 a62 w62 hag hR hI => ?_)
            refine cnd (b := (((decide (((fl.getD (2 * k) 0 : Nat) : Int) < (1 : Int))) || (decide (((fl.getD (2 * k) 0 : Nat) : Int) > (64 : Int)))) || (decide (((fl.getD (2 * k) 0 : Nat) : Int) > ((n' - a : Nat) : Int))))) hI (by kernel_rfl) (fun hc63 => ?_) (fun hc63 => ?_)
            · skip
              replace hI := hI.re 83 (.v (.bool true)) rfl (congrArg Value.bool hc63)
              try simp only [decide_eq_true_eq, decide_eq_false_iff_not, beq_iff_eq, bne_iff_ne, beq_eq_false_iff_ne, bne_eq_false_iff_eq, Bool.and_eq_true, Bool.and_eq_false_iff, Bool.or_eq_true, Bool.or_eq_false_iff, Bool.not_eq_true', Bool.not_eq_false', ne_eq] at hc63
              omega
            · skip
              replace hI := hI.re 83 (.v (.bool false)) rfl (congrArg Value.bool hc63)
              try simp only [decide_eq_true_eq, decide_eq_false_iff_not, beq_iff_eq, bne_iff_ne, beq_eq_false_iff_ne, bne_eq_false_iff_eq, Bool.and_eq_true, Bool.and_eq_false_iff, Bool.or_eq_true, Bool.or_eq_false_iff, Bool.not_eq_true', Bool.not_eq_false', ne_eq] at hc63
              refine wp_skip ?_
              refine then_n ?_
              refine reg_seq tab (k := 1) (hs := []) (sy := []) (ks := [17, 15, 2, 3, 4, 11, 13, 55, 56, 57]) (bs := [0]) (gs := [])
                  (L' := [(17, .v (.int .i64 0)), (15, .p 0 0), (2, .v (.int .i64 ((n' : Nat) : Int))), (3, .v (.int .i64 how)), (4, .v (.bool nn)), (11, .v (.slice zd zs.length zc)), (13, .v (.int .i64 ((a : Nat) : Int))), (55, .v (.slice bd m bc)), (56, .v (.int .i64 ((m : Nat) : Int))), (57, .v (.int .i64 ((k : Nat) : Int)))])
                  (H' := [⟨0, 30, [.v (.int .i64 ((fl.getD (2 * k) 0 : Nat) : Int)), .v (.int .i64 ((fl.getD (2 * k + 1) 0 : Nat) : Int))]⟩]) (G' := []) (k' := 1) hR hI (by kernel_rfl)
                  .nil (fun e64 a64 w64 hag hR hI => ?_)
              refine wp_seq ?_
              refine reg_seq tab (k := 1) (hs := [(5, .nw), (6, .sym)]) (sy := []) (ks := [92, 91, 90, 17, 15, 2, 3, 4, 11, 13, 55, 56, 57]) (bs := [0]) (gs := [])
                  (L' := [(92, .v (.int .i64 0)), (91, .v (.int .i64 (((a + (fl.getD (2 * k) 0)) - a : Nat) : Int))), (90, .v (.slice (cutA zd zc a 1) ((a + (fl.getD (2 * k) 0)) - a) (zc - a))), (17, .v (.int .i64 0)), (15, .p 0 0), (2, .v (.int .i64 ((n' : Nat) : Int))), (3, .v (.int .i64 how)), (4, .v (.bool nn)), (11, .v (.slice zd zs.length zc)), (13, .v (.int .i64 ((a : Nat) : Int))), (55, .v (.slice bd m bc)), (56, .v (.int .i64 ((m : Nat) : Int))), (57, .v (.int .i64 ((k : Nat) : Int)))])
                  (H' := [⟨0, 30, [.v (.int .i64 ((fl.getD (2 * k) 0 : Nat) : Int)), .v (.int .i64 ((fl.getD (2 * k + 1) 0 : Nat) : Int))]⟩]) (G' := []) (k' := 1) hR hI (by kernel_rfl)
                  (.cons (inR_i64 (n := ((a : Nat) : Int) + ((fl.getD (2 * k) 0 : Nat) : Int)) (by omega)) (.cons (by omega : (0 : Int) ≤ ((a : Nat) : Int) ∧ ((a : Nat) : Int) ≤ ((a + (fl.getD (2 * k) 0) : Nat) : Int) ∧ ((a + (fl.getD (2 * k) 0) : Nat) : Int) ≤ (zc : Nat)) .nil)) (fun e65 a65 w65 hag hR hI => ?_)
              refine wp_block ?_
              refine lp (γ := Nat) (fun i => (⟨[(2, .v (.int .i64 ((n' : Nat) : Int))), (3, .v (.int .i64 how)), (4, .v (.bool nn)), (11, .v (.slice zd zs.length zc)), (13, .v (.int .i64 ((a : Nat) : Int))), (55, .v (.slice bd m bc)), (56, .v (.int .i64 ((m : Nat) : Int))), (57, .v (.int .i64 ((k : Nat) : Int))), (15, .p 0 0), (17, .v (.int .i64 ((cnt (fun j => fB nn xs p' (a + j)) i : Nat) : Int))), (90, .v (.slice (cutA zd zc a 1) (a + fl.getD (2 * k) 0 - a) (zc - a))), (91, .v (.int .i64 ((a + fl.getD (2 * k) 0 - a : Nat) : Int))), (92, .v (.int .i64 ((i : Nat) : Int)))], [⟨0, 30, [.v (.int .i64 ((fl.getD (2 * k) 0 : Nat) : Int)), .v (.int .i64 ((fl.getD (2 * k + 1) 0 : Nat) : Int))]⟩], [], 1⟩ : Sy)) (fun i e => i ≤ fl.getD (2 * k) 0) (fun i => fl.getD (2 * k) 0 - i) (0) (Nat.zero_le _)
                  (hR.sel [0] [] (by kernel_rfl) (by kernel_rfl)) (hI.sel [2, 3, 4, 11, 13, 55, 56, 57, 15, 17, 90, 91, 92] (by kernel_rfl)) ?_
              clear hR hI
              rintro i e66 a66 w66 hp hR hI
              dsimp only at hp hR hI
              have hir := hp
              refine reg_seq tab (k := 1) (hs := []) (sy := []) (ks := [93, 2, 3, 4, 11, 13, 55, 56, 57, 15, 17, 90, 91, 92]) (bs := [0]) (gs := [])
                  (L' := [(93, .v (.bool (decide (((i : Nat) : Int) < ((a + fl.getD (2 * k) 0 - a : Nat) : Int))))), (2, .v (.int .i64 ((n' : Nat) : Int))), (3, .v (.int .i64 how)), (4, .v (.bool nn)), (11, .v (.slice zd zs.length zc)), (13, .v (.int .i64 ((a : Nat) : Int))), (55, .v (.slice bd m bc)), (56, .v (.int .i64 ((m : Nat) : Int))), (57, .v (.int .i64 ((k : Nat) : Int))), (15, .p 0 0), (17, .v (.int .i64 ((cnt (fun j => fB nn xs p' (a + j)) i : Nat) : Int))), (90, .v (.slice (cutA zd zc a 1) (a + fl.getD (2 * k) 0 - a) (zc - a))), (91, .v (.int .i64 ((a + fl.getD (2 * k) 0 - a : Nat) : Int))), (92, .v (.int .i64 ((i : Nat) : Int)))])
                  (H' := [⟨0, 30, [.v (.int .i64 ((fl.getD (2 * k) 0 : Nat) : Int)), .v (.int .i64 ((fl.getD (2 * k + 1) 0 : Nat) : Int))]⟩]) (G' := []) (k' := 1) hR hI (by kernel_rfl)
                  .nil (fun e67 a67 w67 hag hR hI => ?_)
              refine wp_seq ?_
              refine cnd (b := decide (((i : Nat) : Int) < ((a + fl.getD (2 * k) 0 - a : Nat) : Int))) hI (by kernel_rfl) (fun hc68 => ?_) (fun hc68 => ?_)
              · skip
                replace hI := hI.re 93 (.v (.bool true)) rfl (congrArg Value.bool hc68)
                try simp only [decide_eq_true_eq, decide_eq_false_iff_not, beq_iff_eq, bne_iff_ne, beq_eq_false_iff_ne, bne_eq_false_iff_eq, Bool.and_eq_true, Bool.and_eq_false_iff, Bool.or_eq_true, Bool.or_eq_false_iff, Bool.not_eq_true', Bool.not_eq_false', ne_eq] at hc68
                refine wp_skip ?_
                refine then_n ?_
                refine wp_seq ?_
                refine wp_block ?_
                refine reg_seq tab (k := 1) (hs := [(1, .val (.v (.bool (((zs.drop a).take (a + fl.getD (2 * k) 0 - a)).getD i false))))]) (sy := []) (ks := [19, 2, 3, 4, 11, 13, 55, 56, 57, 15, 17, 90, 91, 92]) (bs := [0]) (gs := [])
                    (L' := [(19, .v (.bool (((zs.drop a).take (a + fl.getD (2 * k) 0 - a)).getD i false))), (2, .v (.int .i64 ((n' : Nat) : Int))), (3, .v (.int .i64 how)), (4, .v (.bool nn)), (11, .v (.slice zd zs.length zc)), (13, .v (.int .i64 ((a : Nat) : Int))), (55, .v (.slice bd m bc)), (56, .v (.int .i64 ((m : Nat) : Int))), (57, .v (.int .i64 ((k : Nat) : Int))), (15, .p 0 0), (17, .v (.int .i64 ((cnt (fun j => fB nn xs p' (a + j)) i : Nat) : Int))), (90, .v (.slice (cutA zd zc a 1) (a + fl.getD (2 * k) 0 - a) (zc - a))), (91, .v (.int .i64 ((a + fl.getD (2 * k) 0 - a : Nat) : Int))), (92, .v (.int .i64 ((i : Nat) : Int)))])
                    (H' := [⟨0, 30, [.v (.int .i64 ((fl.getD (2 * k) 0 : Nat) : Int)), .v (.int .i64 ((fl.getD (2 * k + 1) 0 : Nat) : Int))]⟩]) (G' := []) (k' := 1) hR hI (by kernel_rfl)
                    (.cons (by omega : (0 : Int) ≤ ((i : Nat) : Int) ∧ ((i : Nat) : Int) < ((a + fl.getD (2 * k) 0 - a : Nat) : Int)) (.cons (bools_some (i := i) (hcut.cells.mono hB.cls) (by omega)) (.cons (bools_load (i := i) (m := 1) (hcut.cells.mono hB.cls) (by omega)) .nil))) (fun e69 a69 w69 hag hR hI => ?_)
                refine reg_seq tab (k := 1) (hs := [(3, .sym)]) (sy := [2]) (ks := [99, 2, 3, 4, 11, 13, 55, 56, 57, 15, 17, 90, 91, 92]) (bs := [0]) (gs := [])
                    (L' := [(99, .v (.bool ((((zs.drop a).take (a + fl.getD (2 * k) 0 - a)).getD i false) || nn))), (2, .v (.int .i64 ((n' : Nat) : Int))), (3, .v (.int .i64 how)), (4, .v (.bool nn)), (11, .v (.slice zd zs.length zc)), (13, .v (.int .i64 ((a : Nat) : Int))), (55, .v (.slice bd m bc)), (56, .v (.int .i64 ((m : Nat) : Int))), (57, .v (.int .i64 ((k : Nat) : Int))), (15, .p 0 0), (17, .v (.int .i64 ((cnt (fun j => fB nn xs p' (a + j)) i : Nat) : Int))), (90, .v (.slice (cutA zd zc a 1) (a + fl.getD (2 * k) 0 - a) (zc - a))), (91, .v (.int .i64 ((a + fl.getD (2 * k) 0 - a : Nat) : Int))), (92, .v (.int .i64 ((i : Nat) : Int)))])
                    (H' := [⟨0, 30, [.v (.int .i64 ((fl.getD (2 * k) 0 : Nat) : Int)), .v (.int .i64 ((fl.getD (2 * k + 1) 0 : Nat) : Int))]⟩]) (G' := []) (k' := 1) hR hI (by kernel_rfl)
                    (.cons (by first | exact Bool.beq_true _ | exact Bool.beq_false _ | rfl | simp_all : ((((zs.drop a).take (a + fl.getD (2 * k) 0 - a)).getD i false) == false) = !(((zs.drop a).take (a + fl.getD (2 * k) 0 - a)).getD i false)) .nil) (fun e70 a70 w70 hag hR hI => ?_)
                refine cnd (b := ((((zs.drop a).take (a + fl.getD (2 * k) 0 - a)).getD i false) || nn)) hI (by kernel_rfl) (fun hc71 => ?_) (fun hc71 => ?_)
                · skip
                  replace hI := hI.re 99 (.v (.bool true)) rfl (congrArg Value.bool hc71)
                  try simp only [decide_eq_true_eq, decide_eq_false_iff_not, beq_iff_eq, bne_iff_ne, beq_eq_false_iff_ne, bne_eq_false_iff_eq, Bool.and_eq_true, Bool.and_eq_false_iff, Bool.or_eq_true, Bool.or_eq_false_iff, Bool.not_eq_true', Bool.not_eq_false', ne_eq] at hc71
                  have hcb : ((((zs.drop a).take (a + fl.getD (2 * k) 0 - a)).getD i false) || nn) = true := by rw [Bool.or_eq_true]; exact hc71
                  have hfi : fB nn xs p' (a + i) = ((((zs.drop a).take (a + fl.getD (2 * k) 0 - a)).getD i false) || nn) := by rw [getD_cutB (by omega), hzb _ (by omega)]; unfold fB; rw [Bool.or_comm]
                  have hci : cnt (fun j => fB nn xs p' (a + j)) (i + 1) = cnt (fun j => fB nn xs p' (a + j)) i + (fB nn xs p' (a + i)).toNat := rfl
                  have hfv : ((((zs.drop a).take (a + fl.getD (2 * k) 0 - a)).getD i false) || nn) = true := hcb
                  rw [hfi, hfv] at hci; have hct : Bool.toNat true = 1 := rfl; rw [hct] at hci
                  refine reg_all tab (k := 1) (hs := [(1, .eq (.int .i64 ((cnt (fun j => fB nn xs p' (a + j)) (i + 1) : Nat) : Int)))]) (sy := []) (ks := [17, 2, 3, 4, 11, 13, 55, 56, 57, 15, 90, 91, 92]) (bs := [0]) (gs := [])
                      (L' := [(17, .v (.int .i64 ((cnt (fun j => fB nn xs p' (a + j)) (i + 1) : Nat) : Int))), (2, .v (.int .i64 ((n' : Nat) : Int))), (3, .v (.int .i64 how)), (4, .v (.bool nn)), (11, .v (.slice zd zs.length zc)), (13, .v (.int .i64 ((a : Nat) : Int))), (55, .v (.slice bd m bc)), (56, .v (.int .i64 ((m : Nat) : Int))), (57, .v (.int .i64 ((k : Nat) : Int))), (15, .p 0 0), (90, .v (.slice (cutA zd zc a 1) (a + fl.getD (2 * k) 0 - a) (zc - a))), (91, .v (.int .i64 ((a + fl.getD (2 * k) 0 - a : Nat) : Int))), (92, .v (.int .i64 ((i : Nat) : Int)))])
                      (H' := [⟨0, 30, [.v (.int .i64 ((fl.getD (2 * k) 0 : Nat) : Int)), .v (.int .i64 ((fl.getD (2 * k + 1) 0 : Nat) : Int))]⟩]) (G' := []) (k' := 1) hR hI (by kernel_rfl)
                      (.cons (congrArg (Value.int .i64) (by rw [hci, wrap_inR (inR_i64 (by have := cnt_le (fun j => fB nn xs p' (a + j)) (i + 1); omega))]; omega : IntKind.i64.wrap (((cnt (fun j => fB nn xs p' (a + j)) i : Nat) : Int) + (1 : Int)) = ((cnt (fun j => fB nn xs p' (a + j)) (i + 1) : Nat) : Int))) .nil) (fun e72 a72 w72 hag hR hI => ?_)
                  refine normal_block ?_
                  refine then_n ?_
                  refine reg_all tab (k := 1) (hs := [(0, .nw)]) (sy := []) (ks := [92, 17, 2, 3, 4, 11, 13, 55, 56, 57, 15, 90, 91]) (bs := [0]) (gs := [])
                      (L' := [(92, .v (.int .i64 ((i + 1 : Nat) : Int))), (17, .v (.int .i64 ((cnt (fun j => fB nn xs p' (a + j)) (i + 1) : Nat) : Int))), (2, .v (.int .i64 ((n' : Nat) : Int))), (3, .v (.int .i64 how)), (4, .v (.bool nn)), (11, .v (.slice zd zs.length zc)), (13, .v (.int .i64 ((a : Nat) : Int))), (55, .v (.slice bd m bc)), (56, .v (.int .i64 ((m : Nat) : Int))), (57, .v (.int .i64 ((k : Nat) : Int))), (15, .p 0 0), (90, .v (.slice (cutA zd zc a 1) (a + fl.getD (2 * k) 0 - a) (zc - a))), (91, .v (.int .i64 ((a + fl.getD (2 * k) 0 - a : Nat) : Int)))])
                      (H' := [⟨0, 30, [.v (.int .i64 ((fl.getD (2 * k) 0 : Nat) : Int)), .v (.int .i64 ((fl.getD (2 * k + 1) 0 : Nat) : Int))]⟩]) (G' := []) (k' := 1) hR hI (by kernel_rfl)
                      (.cons (inR_i64 (n := ((i : Nat) : Int) + (1 : Int)) (by omega)) .nil) (fun e73 a73 w73 hag hR hI => ?_)
                  refine then_n ?_
                  exact ⟨(i + 1), e73, by (try dsimp only); omega, by (try dsimp only); omega, hR.sel [0] [] (by kernel_rfl) (by kernel_rfl), hI.sel [2, 3, 4, 11, 13, 55, 56, 57, 15, 17, 90, 91, 92] (by kernel_rfl)⟩
                · skip
                  replace hI := hI.re 99 (.v (.bool false)) rfl (congrArg Value.bool hc71)
                  try simp only [decide_eq_true_eq, decide_eq_false_iff_not, beq_iff_eq, bne_iff_ne, beq_eq_false_iff_ne, bne_eq_false_iff_eq, Bool.and_eq_true, Bool.and_eq_false_iff, Bool.or_eq_true, Bool.or_eq_false_iff, Bool.not_eq_true', Bool.not_eq_false', ne_eq] at hc71
                  have hcb : ((((zs.drop a).take (a + fl.getD (2 * k) 0 - a)).getD i false) || nn) = false := by rw [Bool.or_eq_false_iff]; exact hc71
                  have hfi : fB nn xs p' (a + i) = ((((zs.drop a).take (a + fl.getD (2 * k) 0 - a)).getD i false) || nn) := by rw [getD_cutB (by omega), hzb _ (by omega)]; unfold fB; rw [Bool.or_comm]
                  have hci : cnt (fun j => fB nn xs p' (a + j)) (i + 1) = cnt (fun j => fB nn xs p' (a + j)) i + (fB nn xs p' (a + i)).toNat := rfl
                  have hfv : ((((zs.drop a).take (a + fl.getD (2 * k) 0 - a)).getD i false) || nn) = false := hcb
                  rw [hfi, hfv] at hci; have hct : Bool.toNat false = 0 := rfl; rw [hct] at hci
                  replace hI := hI.re 17 (.v (.int .i64 ((cnt (fun j => fB nn xs p' (a + j)) (i + 1) : Nat) : Int))) rfl (congrArg (Value.int .i64) (by rw [hci]; rfl))
                  refine wp_skip ?_
                  refine normal_block ?_
                  refine then_n ?_
                  refine reg_all tab (k := 1) (hs := [(0, .nw)]) (sy := []) (ks := [92, 17, 2, 3, 4, 11, 13, 55, 56, 57, 15, 90, 91]) (bs := [0]) (gs := [])
                      (L' := [(92, .v (.int .i64 ((i + 1 : Nat) : Int))), (17, .v (.int .i64 ((cnt (fun j => fB nn xs p' (a + j)) (i + 1) : Nat) : Int))), (2, .v (.int .i64 ((n' : Nat) : Int))), (3, .v (.int .i64 how)), (4, .v (.bool nn)), (11, .v (.slice zd zs.length zc)), (13, .v (.int .i64 ((a : Nat) : Int))), (55, .v (.slice bd m bc)), (56, .v (.int .i64 ((m : Nat) : Int))), (57, .v (.int .i64 ((k : Nat) : Int))), (15, .p 0 0), (90, .v (.slice (cutA zd zc a 1) (a + fl.getD (2 * k) 0 - a) (zc - a))), (91, .v (.int .i64 ((a + fl.getD (2 * k) 0 - a : Nat) : Int)))])
                      (H' := [⟨0, 30, [.v (.int .i64 ((fl.getD (2 * k) 0 : Nat) : Int)), .v (.int .i64 ((fl.getD (2 * k + 1) 0 : Nat) : Int))]⟩]) (G' := []) (k' := 1) hR hI (by kernel_rfl)
                      (.cons (inR_i64 (n := ((i : Nat) : Int) + (1 : Int)) (by omega)) .nil) (fun e74 a74 w74 hag hR hI => ?_)
                  refine then_n ?_
                  exact ⟨(i + 1), e74, by (try dsimp only); omega, by (try dsimp only); omega, hR.sel [0] [] (by kernel_rfl) (by kernel_rfl), hI.sel [2, 3, 4, 11, 13, 55, 56, 57, 15, 17, 90, 91, 92] (by kernel_rfl)⟩
              · skip
                replace hI := hI.re 93 (.v (.bool false)) rfl (congrArg Value.bool hc68)
                try simp only [decide_eq_true_eq, decide_eq_false_iff_not, beq_iff_eq, bne_iff_ne, beq_eq_false_iff_ne, bne_eq_false_iff_eq, Bool.and_eq_true, Bool.and_eq_false_iff, Bool.or_eq_true, Bool.or_eq_false_iff, Bool.not_eq_true', Bool.not_eq_false', ne_eq] at hc68
                refine wp_exit ?_
                refine exit_then ?_
                refine exit_then ?_
                refine exit_hit ?_
                refine then_n ?_
                refine wp_seq ?_
                refine reg_seq tab (k := 1) (hs := []) (sy := []) (ks := [106, 2, 3, 4, 11, 13, 55, 56, 57, 15]) (bs := [0]) (gs := [])
                    (L' := [(106, .v (.bool (((fl.getD (2 * k + 1) 0 : Nat) : Int) != ((cnt (fun j => fB nn xs p' (a + j)) i : Nat) : Int)))), (2, .v (.int .i64 ((n' : Nat) : Int))), (3, .v (.int .i64 how)), (4, .v (.bool nn)), (11, .v (.slice zd zs.length zc)), (13, .v (.int .i64 ((a : Nat) : Int))), (55, .v (.slice bd m bc)), (56, .v (.int .i64 ((m : Nat) : Int))), (57, .v (.int .i64 ((k : Nat) : Int))), (15, .p 0 0)])
                    (H' := [⟨0, 30, [.v (.int .i64 ((fl.getD (2 * k) 0 : Nat) : Int)), .v (.int .i64 ((fl.getD (2 * k + 1) 0 : Nat) : Int))]⟩]) (G' := []) (k' := 1) hR hI (by kernel_rfl)
                    .nil (fun e75 a75 w75 hag hR hI => ?_)
                refine cnd (b := (((fl.getD (2 * k + 1) 0 : Nat) : Int) != ((cnt (fun j => fB nn xs p' (a + j)) i : Nat) : Int))) hI (by kernel_rfl) (fun hc76 => ?_) (fun hc76 => ?_)
                · skip
                  replace hI := hI.re 106 (.v (.bool true)) rfl (congrArg Value.bool hc76)
                  try simp only [decide_eq_true_eq, decide_eq_false_iff_not, beq_iff_eq, bne_iff_ne, beq_eq_false_iff_ne, bne_eq_false_iff_eq, Bool.and_eq_true, Bool.and_eq_false_iff, Bool.or_eq_true, Bool.or_eq_false_iff, Bool.not_eq_true', Bool.not_eq_false', ne_eq] at hc76
                  have hri : i = fl.getD (2 * k) 0 := by omega
                  rw [← hri] at hrc; omega
                · skip
                  replace hI := hI.re 106 (.v (.bool false)) rfl (congrArg Value.bool hc76)
                  try simp only [decide_eq_true_eq, decide_eq_false_iff_not, beq_iff_eq, bne_iff_ne, beq_eq_false_iff_ne, bne_eq_false_iff_eq, Bool.and_eq_true, Bool.and_eq_false_iff, Bool.or_eq_true, Bool.or_eq_false_iff, Bool.not_eq_true', Bool.not_eq_false', ne_eq] at hc76
                  refine wp_skip ?_
                  refine then_n ?_
                  refine reg_all tab (k := 1) (hs := [(3, .nw)]) (sy := []) (ks := [13, 2, 3, 4, 11, 55, 56, 57]) (bs := []) (gs := [])
                      (L' := [(13, .v (.int .i64 ((a + (fl.getD (2 * k) 0) : Nat) : Int))), (2, .v (.int .i64 ((n' : Nat) : Int))), (3, .v (.int .i64 how)), (4, .v (.bool nn)), (11, .v (.slice zd zs.length zc)), (55, .v (.slice bd m bc)), (56, .v (.int .i64 ((m : Nat) : Int))), (57, .v (.int .i64 ((k : Nat) : Int)))])
                      (H' := []) (G' := []) (k' := 1) hR hI (by kernel_rfl)
                      (.cons (inR_i64 (n := ((a : Nat) : Int) + ((fl.getD (2 * k) 0 : Nat) : Int)) (by omega)) .nil) (fun e77 a77 w77 hag hR hI => ?_)
                  refine normal_block ?_
                  refine then_n ?_
                  refine reg_all tab (k := 1) (hs := [(0, .nw)]) (sy := []) (ks := [57, 13, 2, 3, 4, 11, 55, 56]) (bs := []) (gs := [])
                      (L' := [(57, .v (.int .i64 ((k + 1 : Nat) : Int))), (13, .v (.int .i64 ((a + (fl.getD (2 * k) 0) : Nat) : Int))), (2, .v (.int .i64 ((n' : Nat) : Int))), (3, .v (.int .i64 how)), (4, .v (.bool nn)), (11, .v (.slice zd zs.length zc)), (55, .v (.slice bd m bc)), (56, .v (.int .i64 ((m : Nat) : Int)))])
                      (H' := []) (G' := []) (k' := 1) hR hI (by kernel_rfl)
                      (.cons (inR_i64 (n := ((k : Nat) : Int) + (1 : Int)) (by omega)) .nil) (fun e78 a78 w78 hag hR hI => ?_)
                  refine then_n ?_
                  exact ⟨(k + 1, a + fl.getD (2 * k) 0), e78, ⟨by omega, by omega, hbl'⟩, by (try dsimp only); omega, hR.sel [] [] (by kernel_rfl) (by kernel_rfl), hI.sel [2, 3, 4, 11, 13, 55, 56, 57] (by kernel_rfl)⟩
      · skip
        replace hI := hI.re 58 (.v (.bool false)) rfl (congrArg Value.bool hc19)
        try simp only [decide_eq_true_eq, decide_eq_false_iff_not, beq_iff_eq, bne_iff_ne, beq_eq_false_iff_ne, bne_eq_false_iff_eq, Bool.and_eq_true, Bool.and_eq_false_iff, Bool.or_eq_true, Bool.or_eq_false_iff, Bool.not_eq_true', Bool.not_eq_false', ne_eq] at hc19
        refine wp_exit ?_
        refine exit_then ?_
        refine exit_then ?_
        refine exit_hit ?_
        refine then_n ?_
        refine reg_seq tab (k := 0) (hs := [(2, .eq (.bool true))]) (sy := []) (ks := [10]) (bs := []) (gs := [])
            (L' := [(10, .v (.bool true))])
            (H' := []) (G' := []) (k' := 0) hR hI (by kernel_rfl)
            (.cons (congrArg Value.bool (beq_iff_eq.2 (by have h9 : n' = a := (by rw [show k = m by omega, List.drop_of_length_le (by omega)] at hbl; exact hbl); omega) : (((a : Nat) : Int) == ((n' : Nat) : Int)) = true)) .nil) (fun e79 a79 w79 hag hR hI => ?_)
        refine wp_ret ?_
        refine outN tab (xs := [.v (.bool true)]) hR hI rfl (by kernel_rfl) ?_
        exact ⟨rfl, hB.fin hR⟩

end Go.Proofs.YtbfbpkcepchldaaDoor.Stride
