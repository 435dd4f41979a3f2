/- Walks of the program's functions, printed by a program of mine (walk.py) over the words of Stride: each function's contract. -/
import Derived.Test.YteipgknmhpilfaaProg
import Derived.Test.YteipgknmhpilfaaStride
import Derived.Test.YteipgknmhpilfaaMag
namespace Go.Proofs.Yteipgknmhpilfaa.Stride
open Go Go.RowKit Go.Proofs.Yteipgknmhpilfaa.Mag
set_option linter.unusedVariables false
set_option linter.unusedSimpArgs false
noncomputable abbrev P : Program := Try.prog
def T : Tab := [(2, ⟨.int .i64, 1, 8, .int .i64 0⟩),
  (3, ⟨.int .i64, 1, 8, .int .i64 0⟩),
  (4, ⟨.bool, 1, 1, .bool false⟩),
  (21, ⟨.int .i32, 1, 4, .int .i32 0⟩),
  (22, ⟨.slice 35 1, 1, 24, .slice none 0 0⟩),
  (27, ⟨.slice 68 1, 1, 24, .slice none 0 0⟩),
  (29, ⟨.struct [(0, 1, false), (1, 1, false)], 2, 32, .agg #[.bool false, .slice none 0 0]⟩),
  (35, ⟨.int .u64, 1, 8, .int .u64 0⟩),
  (43, ⟨.int .i32, 1, 4, .int .i32 0⟩),
  (44, ⟨.int .i64, 1, 8, .int .i64 0⟩),
  (46, ⟨.struct [(0, 1, false), (1, 1, false)], 2, 16, .agg #[.int .u64 0, .int .i64 0]⟩),
  (47, ⟨.array 4 1 false, 4, 32, .agg #[.int .u64 0, .int .u64 0, .int .u64 0, .int .u64 0]⟩),
  (49, ⟨.struct [(0, 4, true)], 4, 32, .agg #[.int .u64 0, .int .u64 0, .int .u64 0, .int .u64 0]⟩),
  (51, ⟨.struct [(0, 1, false), (1, 1, false), (2, 1, false), (3, 2, true), (5, 4, true)], 9, 72, .agg #[.int .i64 0, .int .i32 0, .int .i64 0, .int .u64 0, .int .i64 0, .int .u64 0, .int .u64 0, .int .u64 0, .int .u64 0]⟩),
  (68, ⟨.int .u32, 1, 4, .int .u32 0⟩)]

set_option maxRecDepth 100000 in
theorem tab : TabOK P T :=
  ⟨⟨(by kernel_rfl : P.underlying 2 = some (.int .i64)), by kernel_rfl, by kernel_rfl, by kernel_rfl⟩, 
  ⟨⟨(by kernel_rfl : P.underlying 3 = some (.int .i64)), by kernel_rfl, by kernel_rfl, by kernel_rfl⟩, 
  ⟨⟨(by kernel_rfl : P.underlying 4 = some .bool), by kernel_rfl, by kernel_rfl, by kernel_rfl⟩, 
  ⟨⟨(by kernel_rfl : P.underlying 21 = some (.int .i32)), by kernel_rfl, by kernel_rfl, by kernel_rfl⟩, 
  ⟨⟨⟨by kernel_rfl, by kernel_rfl⟩, by kernel_rfl, by kernel_rfl, by kernel_rfl⟩, 
  ⟨⟨⟨by kernel_rfl, by kernel_rfl⟩, by kernel_rfl, by kernel_rfl, by kernel_rfl⟩, 
  ⟨⟨⟨by kernel_rfl, by kernel_rfl⟩, by kernel_rfl, by kernel_rfl, by kernel_rfl⟩, 
  ⟨⟨(by kernel_rfl : P.underlying 35 = some (.int .u64)), by kernel_rfl, by kernel_rfl, by kernel_rfl⟩, 
  ⟨⟨(by kernel_rfl : P.underlying 43 = some (.int .i32)), by kernel_rfl, by kernel_rfl, by kernel_rfl⟩, 
  ⟨⟨(by kernel_rfl : P.underlying 44 = some (.int .i64)), by kernel_rfl, by kernel_rfl, by kernel_rfl⟩, 
  ⟨⟨⟨by kernel_rfl, by kernel_rfl⟩, by kernel_rfl, by kernel_rfl, by kernel_rfl⟩, 
  ⟨⟨⟨_, (by kernel_rfl : P.underlying 47 = some (.array 4 35)), by kernel_rfl, by kernel_rfl⟩, by kernel_rfl, by kernel_rfl, by kernel_rfl⟩, 
  ⟨⟨⟨by kernel_rfl, by kernel_rfl⟩, by kernel_rfl, by kernel_rfl, by kernel_rfl⟩, 
  ⟨⟨⟨by kernel_rfl, by kernel_rfl⟩, by kernel_rfl, by kernel_rfl, by kernel_rfl⟩, 
  ⟨⟨(by kernel_rfl : P.underlying 68 = some (.int .u32)), by kernel_rfl, by kernel_rfl, by kernel_rfl⟩, trivial⟩⟩⟩⟩⟩⟩⟩⟩⟩⟩⟩⟩⟩⟩⟩

set_option maxHeartbeats 4000000 in
set_option maxRecDepth 100000 in
theorem trim_spec {C : Nat → Prop} {w : World} {ad : Option Addr} {cap : Nat} {xs : List Nat} (hx : Sl .u32 4294967296 C w ad cap xs) :
    Calls P 42 #[.slice ad xs.length cap] w fun ex w' => ∃ m, ex = .returned (.slice ad m cap) ∧ Keep (fun b => b < w.heap.size) w w' ∧ m ≤ xs.length ∧ (∀ i, m ≤ i → i < xs.length → xs.getD i 0 = 0) ∧ (m = 0 ∨ xs.getD (m - 1) 0 ≠ 0) := by
  refine doorN (e := e0) (vs := [.v (.slice ad xs.length cap)]) (n := 21) (m := 1) Try.func42 rfl rfl rfl (by decide) fun a_ hI => ?_
  replace hI : Is 21 [] e0 [(0, .v (.slice ad xs.length cap))] a_ := hI
  have hR : Rel (fun b => b < w.heap.size) w e0 [] [] w := Rel.start (fun k hk => hk)
  have hB : Base C w C (fun b => b < w.heap.size) w := Base.start
  refine reg_seq tab (k := 0) (hs := []) (sy := []) (ks := [0]) (bs := []) (gs := [])
      (L' := [(0, .v (.slice ad xs.length cap))])
      (H' := []) (G' := []) (k' := 0) hR hI (by kernel_rfl)
      .nil (fun e1 a1 w1 hag hR hI => ?_)
  refine wp_seq ?_
  refine wp_block ?_
  refine lp (γ := Nat) (fun m => (⟨[(0, .v (.slice ad m cap))], [], [], 0⟩ : Sy)) (fun m e => m ≤ xs.length ∧ ∀ i, m ≤ i → i < xs.length → xs.getD i 0 = 0) (fun m => m) (xs.length) (⟨Nat.le_refl _, fun i h1 h2 => by omega⟩)
      (hR.sel [] [] (by kernel_rfl) (by kernel_rfl)) (hI.sel [0] (by kernel_rfl)) ?_
  clear hR hI
  rintro m e2 a2 w2 hp hR hI
  dsimp only at hp hR hI
  obtain ⟨hm, hz⟩ := hp; have hroom := hx.room; have hmax := hx.max
  refine wp_seq ?_
  refine reg_seq tab (k := 0) (hs := [(7, .nw), (9, .val (.v (.int .u32 ((xs.getD ((((m : Nat) : Int) - (1 : Int) : Int).toNat) 0 : Nat) : Int)))), (11, .sym)]) (sy := [4, 5, 6, 7, 8, 9, 10]) (ks := [14, 0]) (bs := []) (gs := [])
      (L' := [(14, .v (.bool ((decide (((m : Nat) : Int) > (0 : Int))) && (((xs.getD ((((m : Nat) : Int) - (1 : Int) : Int).toNat) 0 : Nat) : Int) == (0 : Int))))), (0, .v (.slice ad m cap))])
      (H' := []) (G' := []) (k' := 0) hR hI (by kernel_rfl)
      (.cons (rfl : (decide (((m : Nat) : Int) > (0 : Int))) = (decide (((m : Nat) : Int) > (0 : Int)))) (.cons (rfl : (decide (((m : Nat) : Int) > (0 : Int))) = (decide (((m : Nat) : Int) > (0 : Int)))) (.cons (rfl : (decide (((m : Nat) : Int) > (0 : Int))) = (decide (((m : Nat) : Int) > (0 : Int)))) (.cons (rfl : (decide (((m : Nat) : Int) > (0 : Int))) = (decide (((m : Nat) : Int) > (0 : Int)))) (.cons (rfl : (decide (((m : Nat) : Int) > (0 : Int))) = (decide (((m : Nat) : Int) > (0 : Int)))) (.cons (rfl : (decide (((m : Nat) : Int) > (0 : Int))) = (decide (((m : Nat) : Int) > (0 : Int)))) (.cons (fun (hg : ((decide (((m : Nat) : Int) > (0 : Int))) == true) = true) => have hg := gd_t hg; (inR_i64 (n := ((m : Nat) : Int) - (1 : Int)) (by omega))) (.cons (rfl : (decide (((m : Nat) : Int) > (0 : Int))) = (decide (((m : Nat) : Int) > (0 : Int)))) (.cons (rfl : (decide (((m : Nat) : Int) > (0 : Int))) = (decide (((m : Nat) : Int) > (0 : Int)))) (.cons (rfl : (decide (((m : Nat) : Int) > (0 : Int))) = (decide (((m : Nat) : Int) > (0 : Int)))) (.cons (rfl : (decide (((m : Nat) : Int) > (0 : Int))) = (decide (((m : Nat) : Int) > (0 : Int)))) (.cons (fun (hg : ((decide (((m : Nat) : Int) > (0 : Int))) == true) = true) => have hg := gd_t hg; (by omega : (0 : Int) ≤ ((m : Nat) : Int) - (1 : Int) ∧ ((m : Nat) : Int) - (1 : Int) < ((m : Nat) : Int))) (.cons (fun (hg : ((decide (((m : Nat) : Int) > (0 : Int))) == true) = true) => have hg := gd_t hg; (nats_some (i := (((m : Nat) : Int) - (1 : Int) : Int).toNat) (hx.cells.mono hB.cls) (by omega))) (.cons (rfl : (decide (((m : Nat) : Int) > (0 : Int))) = (decide (((m : Nat) : Int) > (0 : Int)))) (.cons (rfl : (decide (((m : Nat) : Int) > (0 : Int))) = (decide (((m : Nat) : Int) > (0 : Int)))) (.cons (rfl : (decide (((m : Nat) : Int) > (0 : Int))) = (decide (((m : Nat) : Int) > (0 : Int)))) (.cons (rfl : (decide (((m : Nat) : Int) > (0 : Int))) = (decide (((m : Nat) : Int) > (0 : Int)))) (.cons (rfl : (decide (((m : Nat) : Int) > (0 : Int))) = (decide (((m : Nat) : Int) > (0 : Int)))) (.cons (fun (hg : ((decide (((m : Nat) : Int) > (0 : Int))) == true) = true) => have hg := gd_t hg; (nats_load (i := (((m : Nat) : Int) - (1 : Int) : Int).toNat) (m := 1) (hx.cells.mono hB.cls) (by have := hx.room; omega))) (.cons (rfl : (decide (((m : Nat) : Int) > (0 : Int))) = (decide (((m : Nat) : Int) > (0 : Int)))) (.cons (rfl : (decide (((m : Nat) : Int) > (0 : Int))) = (decide (((m : Nat) : Int) > (0 : Int)))) (.cons (rfl : (decide (((m : Nat) : Int) > (0 : Int))) = (decide (((m : Nat) : Int) > (0 : Int)))) (.cons (rfl : (decide (((m : Nat) : Int) > (0 : Int))) = (decide (((m : Nat) : Int) > (0 : Int)))) (.cons (rfl : (decide (((m : Nat) : Int) > (0 : Int))) = (decide (((m : Nat) : Int) > (0 : Int)))) (.cons (rfl : (decide (((m : Nat) : Int) > (0 : Int))) = (decide (((m : Nat) : Int) > (0 : Int)))) (.cons (by first | exact Bool.beq_true _ | exact Bool.beq_false _ | rfl | simp_all : ((decide (((m : Nat) : Int) > (0 : Int))) == true) = (decide (((m : Nat) : Int) > (0 : Int)))) .nil)))))))))))))))))))))))))) (fun e3 a3 w3 hag hR hI => ?_)
  refine cnd (b := ((decide (((m : Nat) : Int) > (0 : Int))) && (((xs.getD ((((m : Nat) : Int) - (1 : Int) : Int).toNat) 0 : Nat) : Int) == (0 : Int)))) hI (by kernel_rfl) (fun hc4 => ?_) (fun hc4 => ?_)
  · skip
    replace hI := hI.re 14 (.v (.bool true)) rfl (congrArg Value.bool hc4)
    try simp only [decide_eq_true_eq, decide_eq_false_iff_not, beq_iff_eq, bne_iff_ne, beq_eq_false_iff_ne, bne_eq_false_iff_eq, Bool.and_eq_true, Bool.and_eq_false_iff, Bool.or_eq_true, Bool.or_eq_false_iff, Bool.not_eq_true', Bool.not_eq_false', ne_eq] at hc4
    have hcz := hc4; have hcm := hcz.1
    refine wp_skip ?_
    refine then_n ?_
    refine wp_block ?_
    refine reg_all tab (k := 0) (hs := [(3, .eq (.int .i64 ((m - 1 : Nat) : Int)))]) (sy := []) (ks := [0]) (bs := []) (gs := [])
        (L' := [(0, .v (.slice ad (m - 1) cap))])
        (H' := []) (G' := []) (k' := 0) hR hI (by kernel_rfl)
        (.cons (congrArg (Value.int .i64) (natsub_i64 (q := 1) (by omega) (by have := hx.room; have := hx.max; omega) : IntKind.i64.wrap (((m : Nat) : Int) - (1 : Int)) = ((m - 1 : Nat) : Int))) (.cons (by omega : (0 : Int) ≤ ((m - 1 : Nat) : Int) ∧ ((m - 1 : Nat) : Int) ≤ (cap : Nat)) .nil)) (fun e5 a5 w5 hag hR hI => ?_)
    refine normal_block ?_
    refine then_n ?_
    exact ⟨(m - 1), e5, ⟨by omega, fun i h1 h2 => by
          by_cases h3 : m ≤ i
          · exact hz i h3 h2
          · obtain rfl : i = m - 1 := by omega
            have h5 := hcz.2
            have e1 : ((m : Int) - 1).toNat = m - 1 := by omega
            rw [e1] at h5
            omega⟩, by show _ < _; omega, hR.sel [] [] (by kernel_rfl) (by kernel_rfl), hI.sel [0] (by kernel_rfl)⟩
  · skip
    replace hI := hI.re 14 (.v (.bool false)) rfl (congrArg Value.bool hc4)
    try simp only [decide_eq_true_eq, decide_eq_false_iff_not, beq_iff_eq, bne_iff_ne, beq_eq_false_iff_ne, bne_eq_false_iff_eq, Bool.and_eq_true, Bool.and_eq_false_iff, Bool.or_eq_true, Bool.or_eq_false_iff, Bool.not_eq_true', Bool.not_eq_false', ne_eq] at hc4
    have hcz := hc4
    refine wp_exit ?_
    refine exit_then ?_
    refine exit_then ?_
    refine exit_hit ?_
    refine then_n ?_
    refine reg_seq tab (k := 0) (hs := []) (sy := []) (ks := [2]) (bs := []) (gs := [])
        (L' := [(2, .v (.slice ad m cap))])
        (H' := []) (G' := []) (k' := 0) hR hI (by kernel_rfl)
        .nil (fun e6 a6 w6 hag hR hI => ?_)
    refine wp_ret ?_
    refine outN tab (xs := [.v (.slice ad m cap)]) hR hI rfl (by kernel_rfl) ?_
    refine ⟨m, rfl, hB.fin hR, hm, hz, ?_⟩
    by_cases h0 : m = 0
    · exact .inl h0
    · refine .inr fun h1 => ?_
      have e1 : ((m : Int) - 1).toNat = m - 1 := by omega
      rw [e1, h1] at hcz
      rcases hcz with hcz | hcz
      · exact hcz (by omega)
      · exact hcz rfl

theorem trim_mag {C : Nat → Prop} {w : World} {ad : Option Addr} {cap : Nat} {xs : List Nat} (hx : Sl .u32 4294967296 C w ad cap xs) :
    Calls P 42 #[.slice ad xs.length cap] w fun ex w' => ∃ ys, ex = .returned (.slice ad ys.length cap) ∧ Keep (fun b => b < w.heap.size) w w' ∧ Sl .u32 4294967296 (Grow C w w') w' ad cap ys ∧ val ys = val xs ∧ Trim ys ∧ ys.length ≤ xs.length :=
  (trim_spec hx).mono fun ex w' ⟨m, he, hk, hm, hz, ht⟩ => ⟨xs.take m, by rw [he, List.length_take, Nat.min_eq_left hm], hk, (hx.take hm).grow hk, val_take hz, trim_take hm ht, by rw [List.length_take]; omega⟩

set_option maxHeartbeats 4000000 in
set_option maxRecDepth 100000 in
theorem wide_spec {C : Nat → Prop} {w : World} (neg : Bool) {ad : Option Addr} {cap : Nat} {xs : List Nat} (hx : Sl .u32 4294967296 C w ad cap xs) :
    Calls P 23 #[.bool neg, .slice ad xs.length cap] w fun ex w' => ∃ ys : List Nat, ex = .returned (.agg #[.bool (neg && decide ((ys.length : Int) > 0)), .slice ad ys.length cap]) ∧ Keep (fun b => b < w.heap.size) w w' ∧ Sl .u32 4294967296 (Grow C w w') w' ad cap ys ∧ val ys = val xs ∧ Trim ys ∧ ys.length ≤ xs.length := by
  refine doorN (e := e0) (vs := [.v (.bool neg), .v (.slice ad xs.length cap)]) (n := 15) (m := 2) Try.func23 rfl rfl rfl (by decide) fun a_ hI => ?_
  replace hI : Is 15 [] e0 [(0, .v (.bool neg)), (1, .v (.slice ad xs.length cap))] a_ := hI
  have hR : Rel (fun b => b < w.heap.size) w e0 [] [] w := Rel.start (fun k hk => hk)
  have hB : Base C w C (fun b => b < w.heap.size) w := Base.start
  refine reg_seq tab (k := 0) (hs := []) (sy := []) (ks := [4, 0, 1]) (bs := [0]) (gs := [])
      (L' := [(4, .p 0 0), (0, .v (.bool neg)), (1, .v (.slice ad xs.length cap))])
      (H' := [⟨0, 29, [.v (.bool false), .v (.slice none 0 0)]⟩]) (G' := []) (k' := 1) hR hI (by kernel_rfl)
      .nil (fun e1 a1 w1 hag hR hI => ?_)
  refine wp_seq ?_
  refine reg (is := [0, 1, 2]) (by kernel_rfl) ?_
  refine part_ tab [0] [1, 2] (by rfl) (k := 1) (hs := []) (sy := []) (ks := [5, 4, 0, 1]) (bs := [0]) (gs := [])
      (L' := [(5, .v (.slice ad xs.length cap)), (4, .p 0 0), (0, .v (.bool neg)), (1, .v (.slice ad xs.length cap))])
      (H' := [⟨0, 29, [.v (.bool false), .v (.slice none 0 0)]⟩]) (G' := []) (k' := 1) hR hI (by kernel_rfl)
      .nil (fun e2 a2 w2 hag hR hI => ?_)
  refine callOp (ys := [.v (.slice ad xs.length cap)]) hI rfl rfl ⟨_, rfl, rfl, rfl⟩ (by kernel_rfl) Try.func42 rfl rfl ?_
  refine (trim_mag (hx.now hB hR)).mono ?_
  rintro ex w3 ⟨zs, rfl, hk, hzs, hvzs, htzs, hlzs⟩
  replace hx := hx.next hB hR hk
  have hB_ := hB.next hR hk
  replace hR := hR.after hk
  replace hB := hB_; clear hB_ hk
  refine ⟨_, rfl, ?_⟩
  replace hI := hI.put (d := some 6) (x := .v (.slice ad zs.length cap)) (by intro t ht; cases ht; decide) rfl
  replace hI := hI.sel [6, 5, 4, 0, 1] (by kernel_rfl : sel _ _ = some [(6, .v (.slice ad zs.length cap)), (5, .v (.slice ad xs.length cap)), (4, .p 0 0), (0, .v (.bool neg)), (1, .v (.slice ad xs.length cap))])
  refine part_ tab [2] [] (by rfl) (k := 1) (hs := []) (sy := []) (ks := [1, 4, 0]) (bs := [0]) (gs := [])
      (L' := [(1, .v (.slice ad zs.length cap)), (4, .p 0 0), (0, .v (.bool neg))])
      (H' := [⟨0, 29, [.v (.bool false), .v (.slice none 0 0)]⟩]) (G' := []) (k' := 1) hR hI (by kernel_rfl)
      .nil (fun e4 a4 w4 hag hR hI => ?_)
  refine ops_nil ?_
  refine then_n ?_
  refine reg_seq tab (k := 1) (hs := [(5, .sym)]) (sy := [2, 3, 4]) (ks := [4]) (bs := [0]) (gs := [])
      (L' := [(4, .p 0 0)])
      (H' := [⟨0, 29, [.v (.bool (neg && (decide (((zs.length : Nat) : Int) > (0 : Int))))), .v (.slice ad zs.length cap)]⟩]) (G' := []) (k' := 1) hR hI (by kernel_rfl)
      (.cons (rfl : neg = neg) (.cons (rfl : neg = neg) (.cons (rfl : neg = neg) (.cons (by first | exact Bool.beq_true _ | exact Bool.beq_false _ | rfl | simp_all : (neg == true) = neg) .nil)))) (fun e5 a5 w5 hag hR hI => ?_)
  refine wp_ret ?_
  refine outN tab (xs := [.agg [.v (.bool (neg && (decide (((zs.length : Nat) : Int) > (0 : Int))))), .v (.slice ad zs.length cap)]]) hR hI rfl (by kernel_rfl) ?_
  exact ⟨zs, rfl, hB.fin hR, hzs.fin hB hR, hvzs, htzs, hlzs⟩

set_option maxHeartbeats 4000000 in
set_option maxRecDepth 100000 in
theorem magCmp_spec {C : Nat → Prop} {w : World} {ad bd : Option Addr} {cap dap : Nat} {xs ys : List Nat} (hx : Sl .u32 4294967296 C w ad cap xs) (hy : Sl .u32 4294967296 C w bd dap ys) (htx : Trim xs) (hty : Trim ys) :
    Calls P 44 #[.slice ad xs.length cap, .slice bd ys.length dap] w fun ex w' => ex = .returned (.int .i64 (cmpN (val xs) (val ys))) ∧ Keep (fun b => b < w.heap.size) w w' := by
  refine doorN (e := e0) (vs := [.v (.slice ad xs.length cap), .v (.slice bd ys.length dap)]) (n := 41) (m := 2) Try.func44 rfl rfl rfl (by decide) fun a_ hI => ?_
  replace hI : Is 41 [] e0 [(0, .v (.slice ad xs.length cap)), (1, .v (.slice bd ys.length dap))] a_ := hI
  have hR : Rel (fun b => b < w.heap.size) w e0 [] [] w := Rel.start (fun k hk => hk)
  have hB : Base C w C (fun b => b < w.heap.size) w := Base.start
  have hrx := hx.room; have hmx := hx.max; have hry := hy.room; have hmy := hy.max
  refine reg_seq tab (k := 0) (hs := []) (sy := []) (ks := [0, 1]) (bs := []) (gs := [])
      (L' := [(0, .v (.slice ad xs.length cap)), (1, .v (.slice bd ys.length dap))])
      (H' := []) (G' := []) (k' := 0) hR hI (by kernel_rfl)
      .nil (fun e1 a1 w1 hag hR hI => ?_)
  refine wp_seq ?_
  refine reg_seq tab (k := 0) (hs := []) (sy := []) (ks := [10, 0, 1]) (bs := []) (gs := [])
      (L' := [(10, .v (.bool (((xs.length : Nat) : Int) != ((ys.length : Nat) : Int)))), (0, .v (.slice ad xs.length cap)), (1, .v (.slice bd ys.length dap))])
      (H' := []) (G' := []) (k' := 0) hR hI (by kernel_rfl)
      .nil (fun e2 a2 w2 hag hR hI => ?_)
  refine cnd (b := (((xs.length : Nat) : Int) != ((ys.length : Nat) : Int))) hI (by kernel_rfl) (fun hc3 => ?_) (fun hc3 => ?_)
  · skip
    replace hI := hI.re 10 (.v (.bool true)) rfl (congrArg Value.bool hc3)
    try simp only [decide_eq_true_eq, decide_eq_false_iff_not, beq_iff_eq, bne_iff_ne, beq_eq_false_iff_ne, bne_eq_false_iff_eq, Bool.and_eq_true, Bool.and_eq_false_iff, Bool.or_eq_true, Bool.or_eq_false_iff, Bool.not_eq_true', Bool.not_eq_false', ne_eq] at hc3
    refine wp_seq ?_
    refine reg_seq tab (k := 0) (hs := []) (sy := []) (ks := [15]) (bs := []) (gs := [])
        (L' := [(15, .v (.bool (decide (((xs.length : Nat) : Int) < ((ys.length : Nat) : Int)))))])
        (H' := []) (G' := []) (k' := 0) hR hI (by kernel_rfl)
        .nil (fun e4 a4 w4 hag hR hI => ?_)
    refine cnd (b := decide (((xs.length : Nat) : Int) < ((ys.length : Nat) : Int))) hI (by kernel_rfl) (fun hc5 => ?_) (fun hc5 => ?_)
    · skip
      replace hI := hI.re 15 (.v (.bool true)) rfl (congrArg Value.bool hc5)
      try simp only [decide_eq_true_eq, decide_eq_false_iff_not, beq_iff_eq, bne_iff_ne, beq_eq_false_iff_ne, bne_eq_false_iff_eq, Bool.and_eq_true, Bool.and_eq_false_iff, Bool.or_eq_true, Bool.or_eq_false_iff, Bool.not_eq_true', Bool.not_eq_false', ne_eq] at hc5
      refine reg_seq tab (k := 0) (hs := []) (sy := []) (ks := [4]) (bs := []) (gs := [])
          (L' := [(4, .v (.int .i64 (-1)))])
          (H' := []) (G' := []) (k' := 0) hR hI (by kernel_rfl)
          .nil (fun e6 a6 w6 hag hR hI => ?_)
      refine wp_ret ?_
      refine ret_then ?_
      refine ret_then ?_
      refine outN tab (xs := [.v (.int .i64 (-1))]) hR hI rfl (by kernel_rfl) ?_
      exact ⟨by rw [cmpN_lt (val_lt_of_len hx.dig hty (by omega))]; rfl, hB.fin hR⟩
    · skip
      replace hI := hI.re 15 (.v (.bool false)) rfl (congrArg Value.bool hc5)
      try simp only [decide_eq_true_eq, decide_eq_false_iff_not, beq_iff_eq, bne_iff_ne, beq_eq_false_iff_ne, bne_eq_false_iff_eq, Bool.and_eq_true, Bool.and_eq_false_iff, Bool.or_eq_true, Bool.or_eq_false_iff, Bool.not_eq_true', Bool.not_eq_false', ne_eq] at hc5
      refine wp_skip ?_
      refine then_n ?_
      refine reg_seq tab (k := 0) (hs := []) (sy := []) (ks := [4]) (bs := []) (gs := [])
          (L' := [(4, .v (.int .i64 1))])
          (H' := []) (G' := []) (k' := 0) hR hI (by kernel_rfl)
          .nil (fun e7 a7 w7 hag hR hI => ?_)
      refine wp_ret ?_
      refine ret_then ?_
      refine outN tab (xs := [.v (.int .i64 1)]) hR hI rfl (by kernel_rfl) ?_
      exact ⟨by rw [cmpN_gt (val_lt_of_len hy.dig htx (by omega))]; rfl, hB.fin hR⟩
  · skip
    replace hI := hI.re 10 (.v (.bool false)) rfl (congrArg Value.bool hc3)
    try simp only [decide_eq_true_eq, decide_eq_false_iff_not, beq_iff_eq, bne_iff_ne, beq_eq_false_iff_ne, bne_eq_false_iff_eq, Bool.and_eq_true, Bool.and_eq_false_iff, Bool.or_eq_true, Bool.or_eq_false_iff, Bool.not_eq_true', Bool.not_eq_false', ne_eq] at hc3
    refine wp_skip ?_
    refine then_n ?_
    refine wp_seq ?_
    refine reg_seq tab (k := 0) (hs := [(2, .nw)]) (sy := []) (ks := [5, 0, 1]) (bs := []) (gs := [])
        (L' := [(5, .v (.int .i64 (((xs.length : Nat) : Int) - (1 : Int)))), (0, .v (.slice ad xs.length cap)), (1, .v (.slice bd ys.length dap))])
        (H' := []) (G' := []) (k' := 0) hR hI (by kernel_rfl)
        (.cons (inR_i64 (n := ((xs.length : Nat) : Int) - (1 : Int)) (by omega)) .nil) (fun e8 a8 w8 hag hR hI => ?_)
    refine wp_block ?_
    refine lp (γ := Nat) (fun n => (⟨[(0, .v (.slice ad xs.length cap)), (1, .v (.slice bd ys.length dap)), (5, .v (.int .i64 (((n : Nat) : Int) - (1 : Int))))], [], [], 0⟩ : Sy)) (fun n e => n ≤ xs.length ∧ xs.length = ys.length ∧ xs.drop n = ys.drop n) (fun n => n) (xs.length) (⟨Nat.le_refl _, by omega, by rw [List.drop_of_length_le (by omega), List.drop_of_length_le (by omega)]⟩)
        (hR.sel [] [] (by kernel_rfl) (by kernel_rfl)) (hI.sel [0, 1, 5] (by kernel_rfl)) ?_
    clear hR hI
    rintro n e9 a9 w9 hp hR hI
    dsimp only at hp hR hI
    obtain ⟨hn, hle, hdr⟩ := hp
    refine wp_seq ?_
    refine reg_seq tab (k := 0) (hs := []) (sy := []) (ks := [20, 0, 1, 5]) (bs := []) (gs := [])
        (L' := [(20, .v (.bool (decide (((n : Nat) : Int) - (1 : Int) ≥ (0 : Int))))), (0, .v (.slice ad xs.length cap)), (1, .v (.slice bd ys.length dap)), (5, .v (.int .i64 (((n : Nat) : Int) - (1 : Int))))])
        (H' := []) (G' := []) (k' := 0) hR hI (by kernel_rfl)
        .nil (fun e10 a10 w10 hag hR hI => ?_)
    refine cnd (b := decide (((n : Nat) : Int) - (1 : Int) ≥ (0 : Int))) hI (by kernel_rfl) (fun hc11 => ?_) (fun hc11 => ?_)
    · skip
      replace hI := hI.re 20 (.v (.bool true)) rfl (congrArg Value.bool hc11)
      try simp only [decide_eq_true_eq, decide_eq_false_iff_not, beq_iff_eq, bne_iff_ne, beq_eq_false_iff_ne, bne_eq_false_iff_eq, Bool.and_eq_true, Bool.and_eq_false_iff, Bool.or_eq_true, Bool.or_eq_false_iff, Bool.not_eq_true', Bool.not_eq_false', ne_eq] at hc11
      obtain ⟨m, rfl⟩ : ∃ m, n = m + 1 := ⟨n - 1, by omega⟩
      replace hI := hI.re 5 (.v (.int .i64 ((m : Nat) : Int))) rfl (congrArg (Value.int .i64) (by omega))
      have hgx := hx.get m (by decide); have hgy := hy.get m (by decide)
      refine wp_skip ?_
      refine then_n ?_
      refine wp_seq ?_
      refine wp_block ?_
      refine wp_seq ?_
      refine regQ_seq tab (by kernel_rfl) (k := 0) (hs := [(3, .val (.v (.int .u32 ((xs.getD m 0 : Nat) : Int)))), (7, .val (.v (.int .u32 ((ys.getD m 0 : Nat) : Int))))]) (gs := []) (ks := [31, 5, 0, 1])
          (L' := [(31, .v (.bool (decide (((xs.getD m 0 : Nat) : Int) < ((ys.getD m 0 : Nat) : Int))))), (5, .v (.int .i64 ((m : Nat) : Int))), (0, .v (.slice ad xs.length cap)), (1, .v (.slice bd ys.length dap))]) hR hI (by kernel_rfl) (fun _ _ _ _ _ h => h) (by kernel_rfl)
          (.cons (by omega : (0 : Int) ≤ ((m : Nat) : Int) ∧ ((m : Nat) : Int) < ((xs.length : Nat) : Int)) (.cons (nats_some (i := m) (hx.cells.mono hB.cls) (by omega)) (.cons (nats_load (i := m) (m := 1) (hx.cells.mono hB.cls) (by omega)) (.cons (by omega : (0 : Int) ≤ ((m : Nat) : Int) ∧ ((m : Nat) : Int) < ((ys.length : Nat) : Int)) (.cons (nats_some (i := m) (hy.cells.mono hB.cls) (by omega)) (.cons (nats_load (i := m) (m := 1) (hy.cells.mono hB.cls) (by omega)) .nil)))))) (by kernel_rfl) (by kernel_rfl) (fun e12 a12 w12 hag hR hI => ?_)
      refine cnd (b := decide (((xs.getD m 0 : Nat) : Int) < ((ys.getD m 0 : Nat) : Int))) hI (by kernel_rfl) (fun hc13 => ?_) (fun hc13 => ?_)
      · skip
        replace hI := hI.re 31 (.v (.bool true)) rfl (congrArg Value.bool hc13)
        try simp only [decide_eq_true_eq, decide_eq_false_iff_not, beq_iff_eq, bne_iff_ne, beq_eq_false_iff_ne, bne_eq_false_iff_eq, Bool.and_eq_true, Bool.and_eq_false_iff, Bool.or_eq_true, Bool.or_eq_false_iff, Bool.not_eq_true', Bool.not_eq_false', ne_eq] at hc13
        refine reg_seq tab (k := 0) (hs := []) (sy := []) (ks := [4]) (bs := []) (gs := [])
            (L' := [(4, .v (.int .i64 (-1)))])
            (H' := []) (G' := []) (k' := 0) hR hI (by kernel_rfl)
            .nil (fun e14 a14 w14 hag hR hI => ?_)
        refine wp_ret ?_
        refine ret_then ?_
        refine ret_block ?_
        refine ret_then ?_
        refine ret_then ?_
        refine ret_block ?_
        refine ret_then ?_
        refine outN tab (xs := [.v (.int .i64 (-1))]) hR hI rfl (by kernel_rfl) ?_
        exact ⟨by rw [cmpN_lt (val_lt_at hx.dig m (by omega) hle hdr (by omega))]; rfl, hB.fin hR⟩
      · skip
        replace hI := hI.re 31 (.v (.bool false)) rfl (congrArg Value.bool hc13)
        try simp only [decide_eq_true_eq, decide_eq_false_iff_not, beq_iff_eq, bne_iff_ne, beq_eq_false_iff_ne, bne_eq_false_iff_eq, Bool.and_eq_true, Bool.and_eq_false_iff, Bool.or_eq_true, Bool.or_eq_false_iff, Bool.not_eq_true', Bool.not_eq_false', ne_eq] at hc13
        refine wp_skip ?_
        refine then_n ?_
        refine regQ_seq tab (by kernel_rfl) (k := 0) (hs := [(3, .val (.v (.int .u32 ((xs.getD m 0 : Nat) : Int)))), (7, .val (.v (.int .u32 ((ys.getD m 0 : Nat) : Int))))]) (gs := []) (ks := [40, 5, 0, 1])
            (L' := [(40, .v (.bool (decide (((xs.getD m 0 : Nat) : Int) > ((ys.getD m 0 : Nat) : Int))))), (5, .v (.int .i64 ((m : Nat) : Int))), (0, .v (.slice ad xs.length cap)), (1, .v (.slice bd ys.length dap))]) hR hI (by kernel_rfl) (fun _ _ _ _ _ h => h) (by kernel_rfl)
            (.cons (by omega : (0 : Int) ≤ ((m : Nat) : Int) ∧ ((m : Nat) : Int) < ((xs.length : Nat) : Int)) (.cons (nats_some (i := m) (hx.cells.mono hB.cls) (by omega)) (.cons (nats_load (i := m) (m := 1) (hx.cells.mono hB.cls) (by omega)) (.cons (by omega : (0 : Int) ≤ ((m : Nat) : Int) ∧ ((m : Nat) : Int) < ((ys.length : Nat) : Int)) (.cons (nats_some (i := m) (hy.cells.mono hB.cls) (by omega)) (.cons (nats_load (i := m) (m := 1) (hy.cells.mono hB.cls) (by omega)) .nil)))))) (by kernel_rfl) (by kernel_rfl) (fun e15 a15 w15 hag hR hI => ?_)
        refine cnd (b := decide (((xs.getD m 0 : Nat) : Int) > ((ys.getD m 0 : Nat) : Int))) hI (by kernel_rfl) (fun hc16 => ?_) (fun hc16 => ?_)
        · skip
          replace hI := hI.re 40 (.v (.bool true)) rfl (congrArg Value.bool hc16)
          try simp only [decide_eq_true_eq, decide_eq_false_iff_not, beq_iff_eq, bne_iff_ne, beq_eq_false_iff_ne, bne_eq_false_iff_eq, Bool.and_eq_true, Bool.and_eq_false_iff, Bool.or_eq_true, Bool.or_eq_false_iff, Bool.not_eq_true', Bool.not_eq_false', ne_eq] at hc16
          refine reg_seq tab (k := 0) (hs := []) (sy := []) (ks := [4]) (bs := []) (gs := [])
              (L' := [(4, .v (.int .i64 1))])
              (H' := []) (G' := []) (k' := 0) hR hI (by kernel_rfl)
              .nil (fun e17 a17 w17 hag hR hI => ?_)
          refine wp_ret ?_
          refine ret_block ?_
          refine ret_then ?_
          refine ret_then ?_
          refine ret_block ?_
          refine ret_then ?_
          refine outN tab (xs := [.v (.int .i64 1)]) hR hI rfl (by kernel_rfl) ?_
          exact ⟨by rw [cmpN_gt (val_lt_at hy.dig m (by omega) hle.symm hdr.symm (by omega))]; rfl, hB.fin hR⟩
        · skip
          replace hI := hI.re 40 (.v (.bool false)) rfl (congrArg Value.bool hc16)
          try simp only [decide_eq_true_eq, decide_eq_false_iff_not, beq_iff_eq, bne_iff_ne, beq_eq_false_iff_ne, bne_eq_false_iff_eq, Bool.and_eq_true, Bool.and_eq_false_iff, Bool.or_eq_true, Bool.or_eq_false_iff, Bool.not_eq_true', Bool.not_eq_false', ne_eq] at hc16
          refine wp_skip ?_
          refine normal_block ?_
          refine then_n ?_
          refine reg_all tab (k := 0) (hs := [(1, .nw)]) (sy := []) (ks := [5, 0, 1]) (bs := []) (gs := [])
              (L' := [(5, .v (.int .i64 (((m : Nat) : Int) - (1 : Int)))), (0, .v (.slice ad xs.length cap)), (1, .v (.slice bd ys.length dap))])
              (H' := []) (G' := []) (k' := 0) hR hI (by kernel_rfl)
              (.cons (inR_i64 (n := ((m : Nat) : Int) - (1 : Int)) (by omega)) .nil) (fun e18 a18 w18 hag hR hI => ?_)
          refine then_n ?_
          exact ⟨m, e18, ⟨by omega, hle, drop_step (by omega) (by omega) hdr (by omega)⟩, by (try dsimp only); omega, hR.sel [] [] (by kernel_rfl) (by kernel_rfl), hI.sel [0, 1, 5] (by kernel_rfl)⟩
    · skip
      replace hI := hI.re 20 (.v (.bool false)) rfl (congrArg Value.bool hc11)
      try simp only [decide_eq_true_eq, decide_eq_false_iff_not, beq_iff_eq, bne_iff_ne, beq_eq_false_iff_ne, bne_eq_false_iff_eq, Bool.and_eq_true, Bool.and_eq_false_iff, Bool.or_eq_true, Bool.or_eq_false_iff, Bool.not_eq_true', Bool.not_eq_false', ne_eq] at hc11
      refine wp_exit ?_
      refine exit_then ?_
      refine exit_then ?_
      refine exit_hit ?_
      refine then_n ?_
      refine reg_seq tab (k := 0) (hs := []) (sy := []) (ks := [4]) (bs := []) (gs := [])
          (L' := [(4, .v (.int .i64 0))])
          (H' := []) (G' := []) (k' := 0) hR hI (by kernel_rfl)
          .nil (fun e19 a19 w19 hag hR hI => ?_)
      refine wp_ret ?_
      refine outN tab (xs := [.v (.int .i64 0)]) hR hI rfl (by kernel_rfl) ?_
      obtain rfl : n = 0 := by omega
      simp only [List.drop_zero] at hdr
      exact ⟨by rw [hdr, cmpN_eq]; rfl, hB.fin hR⟩

set_option maxHeartbeats 4000000 in
set_option maxRecDepth 100000 in
theorem magAdd_spec {C : Nat → Prop} {w : World} {ad bd : Option Addr} {cap dap : Nat} {xs ys : List Nat} (hx : Sl .u32 4294967296 C w ad cap xs) (hy : Sl .u32 4294967296 C w bd dap ys) (hlen : xs.length + ys.length ≤ 1000000) :
    Calls P 46 #[.slice ad xs.length cap, .slice bd ys.length dap] w fun ex w' => ∃ zs zd zc, ex = .returned (.slice zd zs.length zc) ∧ Keep (fun b => b < w.heap.size) w w' ∧ Sl .u32 4294967296 (Grow C w w') w' zd zc zs ∧ val zs = val xs + val ys ∧ zs.length ≤ xs.length + ys.length + 1 := by
  refine doorN (e := e0) (vs := [.v (.slice ad xs.length cap), .v (.slice bd ys.length dap)]) (n := 54) (m := 2) Try.func46 rfl rfl rfl (by decide) fun a_ hI => ?_
  replace hI : Is 54 [] e0 [(0, .v (.slice ad xs.length cap)), (1, .v (.slice bd ys.length dap))] a_ := hI
  have hR : Rel (fun b => b < w.heap.size) w e0 [] [] w := Rel.start (fun k hk => hk)
  have hB : Base C w C (fun b => b < w.heap.size) w := Base.start
  have hrx := hx.room; have hmx := hx.max; have hry := hy.room; have hmy := hy.max
  refine reg_seq tab (k := 0) (hs := []) (sy := []) (ks := [0, 1]) (bs := []) (gs := [])
      (L' := [(0, .v (.slice ad xs.length cap)), (1, .v (.slice bd ys.length dap))])
      (H' := []) (G' := []) (k' := 0) hR hI (by kernel_rfl)
      .nil (fun e1 a1 w1 hag hR hI => ?_)
  refine reg_seq tab (k := 0) (hs := []) (sy := []) (ks := [5, 0, 1]) (bs := []) (gs := [])
      (L' := [(5, .v (.slice none 0 0)), (0, .v (.slice ad xs.length cap)), (1, .v (.slice bd ys.length dap))])
      (H' := []) (G' := []) (k' := 0) hR hI (by kernel_rfl)
      .nil (fun e2 a2 w2 hag hR hI => ?_)
  refine reg_seq tab (k := 0) (hs := []) (sy := []) (ks := [6, 5, 0, 1]) (bs := []) (gs := [])
      (L' := [(6, .v (.int .u64 0)), (5, .v (.slice none 0 0)), (0, .v (.slice ad xs.length cap)), (1, .v (.slice bd ys.length dap))])
      (H' := []) (G' := []) (k' := 0) hR hI (by kernel_rfl)
      .nil (fun e3 a3 w3 hag hR hI => ?_)
  refine wp_seq ?_
  refine reg_seq tab (k := 0) (hs := []) (sy := []) (ks := [7, 6, 5, 0, 1]) (bs := []) (gs := [])
      (L' := [(7, .v (.int .i64 0)), (6, .v (.int .u64 0)), (5, .v (.slice none 0 0)), (0, .v (.slice ad xs.length cap)), (1, .v (.slice bd ys.length dap))])
      (H' := []) (G' := []) (k' := 0) hR hI (by kernel_rfl)
      .nil (fun e4 a4 w4 hag hR hI => ?_)
  refine wp_block ?_
  obtain ⟨e5, hag_, hr_, hR_⟩ := hR.nilRow (L := [(7, .v (.int .i64 0)), (6, .v (.int .u64 0)), (5, .v (.slice none 0 0)), (0, .v (.slice ad xs.length cap)), (1, .v (.slice bd ys.length dap))]) 0 (by kernel_rfl) 68 1
  replace hI := hI.agreeB (H := []) (G := []) (by kernel_rfl) hag_; replace hR := hR_; replace hI := hI.re 5 (.row 0) rfl hr_.symm; clear hag_ hr_ hR_
  refine lp (γ := Nat × Nat × List Nat) (fun (i, c, zs) => (⟨[(0, .v (.slice ad xs.length cap)), (1, .v (.slice bd ys.length dap)), (5, .row 0), (6, .v (.int .u64 ((c : Nat) : Int))), (7, .v (.int .i64 ((i : Nat) : Int)))], [], [⟨0, 68, 1, i, (ints .u32 zs)⟩], 1⟩ : Sy)) (fun (i, c, zs) e => zs.length = i ∧ Dig zs ∧ c ≤ 1 ∧ i ≤ xs.length + ys.length + 1 ∧ (i = xs.length + ys.length + 1 → c = 0) ∧ val zs + pw i * (c + val (xs.drop i) + val (ys.drop i)) = val xs + val ys) (fun (i, c, zs) => 2 * (xs.length + ys.length + 1 - i) + c) (0, 0, []) (⟨rfl, fun _ h => by (cases h), by decide, Nat.zero_le _, fun _ => rfl, by simp [val, pw]⟩)
      (hR.sel [] [0] (by kernel_rfl) (by kernel_rfl)) (hI.sel [0, 1, 5, 6, 7] (by kernel_rfl)) ?_
  clear hR hI
  rintro ⟨i, c, zs⟩ e6 a6 w6 hp hR hI
  dsimp only at hp hR hI
  obtain ⟨hzl, hzd, hc1, hi, hic, hv⟩ := hp; have hgx := hx.get i (by decide); have hgy := hy.get i (by decide); have hox : xs.length ≤ i → xs.getD i 0 = 0 := getD_out; have hoy : ys.length ≤ i → ys.getD i 0 = 0 := getD_out
  refine wp_seq ?_
  refine reg_seq tab (k := 1) (hs := [(9, .sym), (13, .sym)]) (sy := [5, 6, 7, 8, 11, 12]) (ks := [21, 0, 1, 5, 6, 7]) (bs := []) (gs := [0])
      (L' := [(21, .v (.bool (((decide (((i : Nat) : Int) < ((xs.length : Nat) : Int))) || (decide (((i : Nat) : Int) < ((ys.length : Nat) : Int)))) || (decide (((c : Nat) : Int) > (0 : Int)))))), (0, .v (.slice ad xs.length cap)), (1, .v (.slice bd ys.length dap)), (5, .row 0), (6, .v (.int .u64 ((c : Nat) : Int))), (7, .v (.int .i64 ((i : Nat) : Int)))])
      (H' := []) (G' := [⟨0, 68, 1, i, (ints .u32 zs)⟩]) (k' := 1) hR hI (by kernel_rfl)
      (.cons (rfl : (decide (((i : Nat) : Int) < ((xs.length : Nat) : Int))) = (decide (((i : Nat) : Int) < ((xs.length : Nat) : Int)))) (.cons (rfl : (decide (((i : Nat) : Int) < ((xs.length : Nat) : Int))) = (decide (((i : Nat) : Int) < ((xs.length : Nat) : Int)))) (.cons (rfl : (decide (((i : Nat) : Int) < ((xs.length : Nat) : Int))) = (decide (((i : Nat) : Int) < ((xs.length : Nat) : Int)))) (.cons (rfl : (decide (((i : Nat) : Int) < ((xs.length : Nat) : Int))) = (decide (((i : Nat) : Int) < ((xs.length : Nat) : Int)))) (.cons (rfl : (decide (((i : Nat) : Int) < ((xs.length : Nat) : Int))) = (decide (((i : Nat) : Int) < ((xs.length : Nat) : Int)))) (.cons (rfl : (decide (((i : Nat) : Int) < ((xs.length : Nat) : Int))) = (decide (((i : Nat) : Int) < ((xs.length : Nat) : Int)))) (.cons (by first | exact Bool.beq_true _ | exact Bool.beq_false _ | rfl | simp_all : ((decide (((i : Nat) : Int) < ((xs.length : Nat) : Int))) == false) = !(decide (((i : Nat) : Int) < ((xs.length : Nat) : Int)))) (.cons (rfl : ((decide (((i : Nat) : Int) < ((xs.length : Nat) : Int))) || (decide (((i : Nat) : Int) < ((ys.length : Nat) : Int)))) = ((decide (((i : Nat) : Int) < ((xs.length : Nat) : Int))) || (decide (((i : Nat) : Int) < ((ys.length : Nat) : Int))))) (.cons (by first | exact Bool.beq_true _ | exact Bool.beq_false _ | rfl | simp_all : (((decide (((i : Nat) : Int) < ((xs.length : Nat) : Int))) || (decide (((i : Nat) : Int) < ((ys.length : Nat) : Int)))) == false) = !((decide (((i : Nat) : Int) < ((xs.length : Nat) : Int))) || (decide (((i : Nat) : Int) < ((ys.length : Nat) : Int))))) .nil))))))))) (fun e7 a7 w7 hag hR hI => ?_)
  refine cnd (b := (((decide (((i : Nat) : Int) < ((xs.length : Nat) : Int))) || (decide (((i : Nat) : Int) < ((ys.length : Nat) : Int)))) || (decide (((c : Nat) : Int) > (0 : Int))))) hI (by kernel_rfl) (fun hc8 => ?_) (fun hc8 => ?_)
  · skip
    replace hI := hI.re 21 (.v (.bool true)) rfl (congrArg Value.bool hc8)
    try simp only [decide_eq_true_eq, decide_eq_false_iff_not, beq_iff_eq, bne_iff_ne, beq_eq_false_iff_ne, bne_eq_false_iff_eq, Bool.and_eq_true, Bool.and_eq_false_iff, Bool.or_eq_true, Bool.or_eq_false_iff, Bool.not_eq_true', Bool.not_eq_false', ne_eq] at hc8
    refine wp_skip ?_
    refine then_n ?_
    refine wp_seq ?_
    refine wp_block ?_
    refine wp_seq ?_
    refine reg_seq tab (k := 1) (hs := []) (sy := []) (ks := [27, 0, 1, 5, 6, 7]) (bs := []) (gs := [0])
        (L' := [(27, .v (.bool (decide (((i : Nat) : Int) < ((xs.length : Nat) : Int))))), (0, .v (.slice ad xs.length cap)), (1, .v (.slice bd ys.length dap)), (5, .row 0), (6, .v (.int .u64 ((c : Nat) : Int))), (7, .v (.int .i64 ((i : Nat) : Int)))])
        (H' := []) (G' := [⟨0, 68, 1, i, (ints .u32 zs)⟩]) (k' := 1) hR hI (by kernel_rfl)
        .nil (fun e9 a9 w9 hag hR hI => ?_)
    refine join (γ := Nat) hR hI (fun c1 => (⟨[(0, .v (.slice ad xs.length cap)), (1, .v (.slice bd ys.length dap)), (5, .row 0), (6, .v (.int .u64 ((c1 : Nat) : Int))), (7, .v (.int .i64 ((i : Nat) : Int)))], [], [⟨0, 68, 1, i, (ints .u32 zs)⟩], 1⟩ : Sy)) (fun c1 e => c1 = c + xs.getD i 0) ?_ ?_
    · skip
      refine cnd (b := decide (((i : Nat) : Int) < ((xs.length : Nat) : Int))) hI (by kernel_rfl) (fun hc10 => ?_) (fun hc10 => ?_)
      · skip
        replace hI := hI.re 27 (.v (.bool true)) rfl (congrArg Value.bool hc10)
        try simp only [decide_eq_true_eq, decide_eq_false_iff_not, beq_iff_eq, bne_iff_ne, beq_eq_false_iff_ne, bne_eq_false_iff_eq, Bool.and_eq_true, Bool.and_eq_false_iff, Bool.or_eq_true, Bool.or_eq_false_iff, Bool.not_eq_true', Bool.not_eq_false', ne_eq] at hc10
        refine reg_all tab (k := 1) (hs := [(4, .val (.v (.int .u32 ((xs.getD i 0 : Nat) : Int)))), (5, .nw), (6, .nw)]) (sy := []) (ks := [6, 0, 1, 5, 7]) (bs := []) (gs := [0])
            (L' := [(6, .v (.int .u64 ((c + (xs.getD i 0) : Nat) : Int))), (0, .v (.slice ad xs.length cap)), (1, .v (.slice bd ys.length dap)), (5, .row 0), (7, .v (.int .i64 ((i : Nat) : Int)))])
            (H' := []) (G' := [⟨0, 68, 1, i, (ints .u32 zs)⟩]) (k' := 1) hR hI (by kernel_rfl)
            (.cons (by omega : (0 : Int) ≤ ((i : Nat) : Int) ∧ ((i : Nat) : Int) < ((xs.length : Nat) : Int)) (.cons (nats_some (i := i) (hx.cells.mono hB.cls) (by omega)) (.cons (nats_load (i := i) (m := 1) (hx.cells.mono hB.cls) (by omega)) (.cons (inR_u64 (n := ((xs.getD i 0 : Nat) : Int)) (by omega)) (.cons (inR_u64 (n := ((c : Nat) : Int) + ((xs.getD i 0 : Nat) : Int)) (by omega)) .nil))))) (fun e11 a11 w11 hag hR hI => ?_)
        refine then_n ?_
        exact ⟨c + (xs.getD i 0), e11, by first | rfl | (rw [getD_out (by omega)]; rfl), hR.sel [] [0] (by kernel_rfl) (by kernel_rfl), hI.sel [0, 1, 5, 6, 7] (by kernel_rfl)⟩
      · skip
        replace hI := hI.re 27 (.v (.bool false)) rfl (congrArg Value.bool hc10)
        try simp only [decide_eq_true_eq, decide_eq_false_iff_not, beq_iff_eq, bne_iff_ne, beq_eq_false_iff_ne, bne_eq_false_iff_eq, Bool.and_eq_true, Bool.and_eq_false_iff, Bool.or_eq_true, Bool.or_eq_false_iff, Bool.not_eq_true', Bool.not_eq_false', ne_eq] at hc10
        refine wp_skip ?_
        refine then_n ?_
        exact ⟨c, e9, by first | rfl | (rw [getD_out (by omega)]; rfl), hR.sel [] [0] (by kernel_rfl) (by kernel_rfl), hI.sel [0, 1, 5, 6, 7] (by kernel_rfl)⟩
    · clear hR hI
      rintro c1 e12 a12 w12 hp hR hI
      dsimp only at hp hR hI
      have hp1 := hp
      refine wp_seq ?_
      refine reg_seq tab (k := 1) (hs := []) (sy := []) (ks := [38, 0, 1, 5, 6, 7]) (bs := []) (gs := [0])
          (L' := [(38, .v (.bool (decide (((i : Nat) : Int) < ((ys.length : Nat) : Int))))), (0, .v (.slice ad xs.length cap)), (1, .v (.slice bd ys.length dap)), (5, .row 0), (6, .v (.int .u64 ((c1 : Nat) : Int))), (7, .v (.int .i64 ((i : Nat) : Int)))])
          (H' := []) (G' := [⟨0, 68, 1, i, (ints .u32 zs)⟩]) (k' := 1) hR hI (by kernel_rfl)
          .nil (fun e13 a13 w13 hag hR hI => ?_)
      refine join (γ := Nat) hR hI (fun c2 => (⟨[(0, .v (.slice ad xs.length cap)), (1, .v (.slice bd ys.length dap)), (5, .row 0), (6, .v (.int .u64 ((c2 : Nat) : Int))), (7, .v (.int .i64 ((i : Nat) : Int)))], [], [⟨0, 68, 1, i, (ints .u32 zs)⟩], 1⟩ : Sy)) (fun c2 e => c2 = c1 + ys.getD i 0) ?_ ?_
      · skip
        refine cnd (b := decide (((i : Nat) : Int) < ((ys.length : Nat) : Int))) hI (by kernel_rfl) (fun hc14 => ?_) (fun hc14 => ?_)
        · skip
          replace hI := hI.re 38 (.v (.bool true)) rfl (congrArg Value.bool hc14)
          try simp only [decide_eq_true_eq, decide_eq_false_iff_not, beq_iff_eq, bne_iff_ne, beq_eq_false_iff_ne, bne_eq_false_iff_eq, Bool.and_eq_true, Bool.and_eq_false_iff, Bool.or_eq_true, Bool.or_eq_false_iff, Bool.not_eq_true', Bool.not_eq_false', ne_eq] at hc14
          refine reg_all tab (k := 1) (hs := [(4, .val (.v (.int .u32 ((ys.getD i 0 : Nat) : Int)))), (5, .nw), (6, .nw)]) (sy := []) (ks := [6, 0, 1, 5, 7]) (bs := []) (gs := [0])
              (L' := [(6, .v (.int .u64 ((c1 + (ys.getD i 0) : Nat) : Int))), (0, .v (.slice ad xs.length cap)), (1, .v (.slice bd ys.length dap)), (5, .row 0), (7, .v (.int .i64 ((i : Nat) : Int)))])
              (H' := []) (G' := [⟨0, 68, 1, i, (ints .u32 zs)⟩]) (k' := 1) hR hI (by kernel_rfl)
              (.cons (by omega : (0 : Int) ≤ ((i : Nat) : Int) ∧ ((i : Nat) : Int) < ((ys.length : Nat) : Int)) (.cons (nats_some (i := i) (hy.cells.mono hB.cls) (by omega)) (.cons (nats_load (i := i) (m := 1) (hy.cells.mono hB.cls) (by omega)) (.cons (inR_u64 (n := ((ys.getD i 0 : Nat) : Int)) (by omega)) (.cons (inR_u64 (n := ((c1 : Nat) : Int) + ((ys.getD i 0 : Nat) : Int)) (by omega)) .nil))))) (fun e15 a15 w15 hag hR hI => ?_)
          refine then_n ?_
          exact ⟨c1 + (ys.getD i 0), e15, by first | rfl | (rw [getD_out (by omega)]; rfl), hR.sel [] [0] (by kernel_rfl) (by kernel_rfl), hI.sel [0, 1, 5, 6, 7] (by kernel_rfl)⟩
        · skip
          replace hI := hI.re 38 (.v (.bool false)) rfl (congrArg Value.bool hc14)
          try simp only [decide_eq_true_eq, decide_eq_false_iff_not, beq_iff_eq, bne_iff_ne, beq_eq_false_iff_ne, bne_eq_false_iff_eq, Bool.and_eq_true, Bool.and_eq_false_iff, Bool.or_eq_true, Bool.or_eq_false_iff, Bool.not_eq_true', Bool.not_eq_false', ne_eq] at hc14
          refine wp_skip ?_
          refine then_n ?_
          exact ⟨c1, e13, by first | rfl | (rw [getD_out (by omega)]; rfl), hR.sel [] [0] (by kernel_rfl) (by kernel_rfl), hI.sel [0, 1, 5, 6, 7] (by kernel_rfl)⟩
      · clear hR hI
        rintro c2 e16 a16 w16 hp hR hI
        dsimp only at hp hR hI
        have hp2 := hp
        refine reg_seq tab (k := 1) (hs := [(2, .eq (.int .u32 ((c2 % 4294967296 : Nat) : Int)))]) (sy := []) (ks := [5, 0, 1, 6, 7]) (bs := []) (gs := [2])
            (L' := [(5, .row 2), (0, .v (.slice ad xs.length cap)), (1, .v (.slice bd ys.length dap)), (6, .v (.int .u64 ((c2 : Nat) : Int))), (7, .v (.int .i64 ((i : Nat) : Int)))])
            (H' := []) (G' := [⟨2, 68, 1, (i + 1), ((ints .u32 zs) ++ [.int .u32 ((c2 % 4294967296 : Nat) : Int)])⟩]) (k' := 3) hR hI (by kernel_rfl)
            (.cons (congrArg (Value.int .u32) (wrap_u32_nat c2 : IntKind.u32.wrap ((c2 : Nat) : Int) = ((c2 % 4294967296 : Nat) : Int))) (.cons (by have hm_ : maxLen = 9223372036854775807 := rfl; rw [hm_]; omega : i + 1 ≤ maxLen) (.cons (by omega : (i + 1) * 4 ≤ 140737488355328) .nil))) (fun e17 a17 w17 hag hR hI => ?_)
        refine reg_all tab (k := 3) (hs := []) (sy := []) (ks := [6, 5, 0, 1, 7]) (bs := []) (gs := [2])
            (L' := [(6, .v (.int .u64 ((c2 / 4294967296 : Nat) : Int))), (5, .row 2), (0, .v (.slice ad xs.length cap)), (1, .v (.slice bd ys.length dap)), (7, .v (.int .i64 ((i : Nat) : Int)))])
            (H' := []) (G' := [⟨2, 68, 1, (i + 1), ((ints .u32 zs) ++ [.int .u32 ((c2 % 4294967296 : Nat) : Int)])⟩]) (k' := 3) hR hI (by kernel_rfl)
            (.cons (by decide : (0 : Int) ≤ 32) (.cons (by decide : (32 : Int) ≤ (IntKind.u64.bits : Int)) .nil)) (fun e18 a18 w18 hag hR hI => ?_)
        refine normal_block ?_
        refine then_n ?_
        refine reg_all tab (k := 3) (hs := [(1, .nw)]) (sy := []) (ks := [7, 6, 5, 0, 1]) (bs := []) (gs := [2])
            (L' := [(7, .v (.int .i64 ((i + 1 : Nat) : Int))), (6, .v (.int .u64 ((c2 / 4294967296 : Nat) : Int))), (5, .row 2), (0, .v (.slice ad xs.length cap)), (1, .v (.slice bd ys.length dap))])
            (H' := []) (G' := [⟨2, 68, 1, (i + 1), ((ints .u32 zs) ++ [.int .u32 ((c2 % 4294967296 : Nat) : Int)])⟩]) (k' := 3) hR hI (by kernel_rfl)
            (.cons (inR_i64 (n := ((i : Nat) : Int) + (1 : Int)) (by omega)) .nil) (fun e19 a19 w19 hag hR hI => ?_)
        refine then_n ?_
        replace hR := hR.sel [] [2] (by kernel_rfl : selH _ _ = some []) (by kernel_rfl : selG _ _ = some [⟨2, 68, 1, (i + 1), ((ints .u32 zs) ++ [.int .u32 ((c2 % 4294967296 : Nat) : Int)])⟩])
        have hren_ : Sy.ren [(0, 2)] ⟨[(7, .v (.int .i64 ((i + 1 : Nat) : Int))), (6, .v (.int .u64 ((c2 / 4294967296 : Nat) : Int))), (5, .row 0), (0, .v (.slice ad xs.length cap)), (1, .v (.slice bd ys.length dap))], [], [⟨0, 68, 1, (i + 1), ((ints .u32 zs) ++ [.int .u32 ((c2 % 4294967296 : Nat) : Int)])⟩], 0⟩ = ⟨[(7, .v (.int .i64 ((i + 1 : Nat) : Int))), (6, .v (.int .u64 ((c2 / 4294967296 : Nat) : Int))), (5, .row 2), (0, .v (.slice ad xs.length cap)), (1, .v (.slice bd ys.length dap))], [], [⟨2, 68, 1, (i + 1), ((ints .u32 zs) ++ [.int .u32 ((c2 % 4294967296 : Nat) : Int)])⟩], 0⟩ := by kernel_rfl
        replace hI := hI.rename (S := ⟨[(7, .v (.int .i64 ((i + 1 : Nat) : Int))), (6, .v (.int .u64 ((c2 / 4294967296 : Nat) : Int))), (5, .row 2), (0, .v (.slice ad xs.length cap)), (1, .v (.slice bd ys.length dap))], [], [⟨2, 68, 1, (i + 1), ((ints .u32 zs) ++ [.int .u32 ((c2 % 4294967296 : Nat) : Int)])⟩], 0⟩) (S' := ⟨[(7, .v (.int .i64 ((i + 1 : Nat) : Int))), (6, .v (.int .u64 ((c2 / 4294967296 : Nat) : Int))), (5, .row 0), (0, .v (.slice ad xs.length cap)), (1, .v (.slice bd ys.length dap))], [], [⟨0, 68, 1, (i + 1), ((ints .u32 zs) ++ [.int .u32 ((c2 % 4294967296 : Nat) : Int)])⟩], 0⟩) hren_; replace hR := hR.rename (S := ⟨[(7, .v (.int .i64 ((i + 1 : Nat) : Int))), (6, .v (.int .u64 ((c2 / 4294967296 : Nat) : Int))), (5, .row 2), (0, .v (.slice ad xs.length cap)), (1, .v (.slice bd ys.length dap))], [], [⟨2, 68, 1, (i + 1), ((ints .u32 zs) ++ [.int .u32 ((c2 % 4294967296 : Nat) : Int)])⟩], 0⟩) (S' := ⟨[(7, .v (.int .i64 ((i + 1 : Nat) : Int))), (6, .v (.int .u64 ((c2 / 4294967296 : Nat) : Int))), (5, .row 0), (0, .v (.slice ad xs.length cap)), (1, .v (.slice bd ys.length dap))], [], [⟨0, 68, 1, (i + 1), ((ints .u32 zs) ++ [.int .u32 ((c2 % 4294967296 : Nat) : Int)])⟩], 0⟩) hren_ (by kernel_rfl) (by kernel_rfl); dsimp only at hI hR; clear hren_
        rw [ints_snoc] at hR
        exact ⟨(i + 1, c2 / 4294967296, zs ++ [c2 % 4294967296]), (Env.ren e19 [(0, 2)]), ⟨by simp [hzl], dig_snoc hzd (Nat.mod_lt _ (by decide)), by omega, by omega, by omega, by rw [← hzl] at hv hp1 hp2 ⊢; exact add_step hv c2 (by omega)⟩, by (try dsimp only); omega, hR.sel [] [0] (by kernel_rfl) (by kernel_rfl), hI.sel [0, 1, 5, 6, 7] (by kernel_rfl)⟩
  · skip
    replace hI := hI.re 21 (.v (.bool false)) rfl (congrArg Value.bool hc8)
    try simp only [decide_eq_true_eq, decide_eq_false_iff_not, beq_iff_eq, bne_iff_ne, beq_eq_false_iff_ne, bne_eq_false_iff_eq, Bool.and_eq_true, Bool.and_eq_false_iff, Bool.or_eq_true, Bool.or_eq_false_iff, Bool.not_eq_true', Bool.not_eq_false', ne_eq] at hc8
    refine wp_exit ?_
    refine exit_then ?_
    refine exit_then ?_
    refine exit_hit ?_
    refine then_n ?_
    refine reg_seq tab (k := 1) (hs := []) (sy := []) (ks := [4]) (bs := []) (gs := [0])
        (L' := [(4, .row 0)])
        (H' := []) (G' := [⟨0, 68, 1, i, (ints .u32 zs)⟩]) (k' := 1) hR hI (by kernel_rfl)
        .nil (fun e20 a20 w20 hag hR hI => ?_)
    refine wp_ret ?_
    obtain ⟨hB_, hR_, hrel_, zd, zc, hv_, hcells_, hlen_, hcap_, hmax_⟩ := hB.release hR (y := ⟨0, 68, 1, i, (ints .u32 zs)⟩) (by simp) rfl _ dropN_mem
    replace hx := hx.rel hrel_
    replace hy := hy.rel hrel_
    have hz : Sl .u32 4294967296 _ _ zd zc zs := ⟨hcells_, hzd, (by dsimp only at hlen_ hcap_; rw [ints_length] at hlen_; omega), hmax_⟩
    replace hI := hI.re 4 (.v (.slice zd i zc)) rfl hv_
    replace hB := hB_; replace hR := hR_.sel [] [] (by kernel_rfl : selH _ _ = some []) (by kernel_rfl : selG _ _ = some []); clear hB_ hR_ hrel_ hcells_ hv_
    refine outN tab (xs := [.v (.slice zd i zc)]) hR hI rfl (by kernel_rfl) ?_
    refine ⟨zs, zd, zc, by rw [hzl]; rfl, hB.fin hR, hz.fin hB hR, ?_, by omega⟩
    have h1 : c = 0 := by omega
    subst h1
    rw [List.drop_of_length_le (by omega), List.drop_of_length_le (by omega)] at hv
    simpa [val] using hv

set_option maxHeartbeats 4000000 in
set_option maxRecDepth 100000 in
theorem magSub_spec {C : Nat → Prop} {w : World} {ad bd : Option Addr} {cap dap : Nat} {xs ys : List Nat} (hx : Sl .u32 4294967296 C w ad cap xs) (hy : Sl .u32 4294967296 C w bd dap ys) (hty : Trim ys) (hle : val ys ≤ val xs) (hne : 0 < xs.length) (hlen : xs.length ≤ 1000000) :
    Calls P 47 #[.slice ad xs.length cap, .slice bd ys.length dap] w fun ex w' => ∃ zs zd zc, ex = .returned (.slice zd zs.length zc) ∧ Keep (fun b => b < w.heap.size) w w' ∧ Sl .u32 4294967296 (Grow C w w') w' zd zc zs ∧ val zs = val xs - val ys ∧ Trim zs ∧ zs.length ≤ xs.length := by
  refine doorN (e := e0) (vs := [.v (.slice ad xs.length cap), .v (.slice bd ys.length dap)]) (n := 47) (m := 2) Try.func47 rfl rfl rfl (by decide) fun a_ hI => ?_
  replace hI : Is 47 [] e0 [(0, .v (.slice ad xs.length cap)), (1, .v (.slice bd ys.length dap))] a_ := hI
  have hR : Rel (fun b => b < w.heap.size) w e0 [] [] w := Rel.start (fun k hk => hk)
  have hB : Base C w C (fun b => b < w.heap.size) w := Base.start
  have hrx := hx.room; have hmx := hx.max; have hry := hy.room; have hmy := hy.max; have hlyx := len_le_of_val hx.dig hty hle
  obtain ⟨p, rfl, _⟩ := hx.cells.some_ (by rw [ints_length]; exact hne)
  refine reg_seq tab (k := 0) (hs := []) (sy := []) (ks := [0, 1]) (bs := []) (gs := [])
      (L' := [(0, .v (.slice (some p) xs.length cap)), (1, .v (.slice bd ys.length dap))])
      (H' := []) (G' := []) (k' := 0) hR hI (by kernel_rfl)
      .nil (fun e1 a1 w1 hag hR hI => ?_)
  refine reg_seq tab (k := 0) (hs := [(2, .vals (ints .u32 xs))]) (sy := []) (ks := [5, 1]) (bs := []) (gs := [1])
      (L' := [(5, .row 1), (1, .v (.slice bd ys.length dap))])
      (H' := []) (G' := [⟨1, 68, 1, (0 + xs.length), ([] ++ (ints .u32 xs))⟩]) (k' := 2) hR hI (by kernel_rfl)
      (.cons (by have hm_ : maxLen = 9223372036854775807 := rfl; rw [hm_]; omega : 0 + xs.length ≤ maxLen) (.cons (by omega : (0 + xs.length) * 4 ≤ 140737488355328) (.cons (vals_nats (hx.cells.mono hB.cls) hne) .nil))) (fun e2 a2 w2 hag hR hI => ?_)
  rw [Nat.zero_add] at hR
  refine reg_seq tab (k := 2) (hs := []) (sy := []) (ks := [6, 5, 1]) (bs := []) (gs := [1])
      (L' := [(6, .v (.int .i64 0)), (5, .row 1), (1, .v (.slice bd ys.length dap))])
      (H' := []) (G' := [⟨1, 68, 1, xs.length, (ints .u32 xs)⟩]) (k' := 2) hR hI (by kernel_rfl)
      .nil (fun e3 a3 w3 hag hR hI => ?_)
  refine wp_seq ?_
  refine reg_seq tab (k := 2) (hs := []) (sy := []) (ks := [14, 13, 6, 5, 1]) (bs := []) (gs := [1])
      (L' := [(14, .v (.int .i64 0)), (13, .v (.int .i64 ((xs.length : Nat) : Int))), (6, .v (.int .i64 0)), (5, .row 1), (1, .v (.slice bd ys.length dap))])
      (H' := []) (G' := [⟨1, 68, 1, xs.length, (ints .u32 xs)⟩]) (k' := 2) hR hI (by kernel_rfl)
      .nil (fun e4 a4 w4 hag hR hI => ?_)
  refine wp_block ?_
  have hren_ : Sy.ren [(0, 1)] ⟨[(14, .v (.int .i64 0)), (13, .v (.int .i64 ((xs.length : Nat) : Int))), (6, .v (.int .i64 0)), (5, .row 0), (1, .v (.slice bd ys.length dap))], [], [⟨0, 68, 1, xs.length, (ints .u32 xs)⟩], 0⟩ = ⟨[(14, .v (.int .i64 0)), (13, .v (.int .i64 ((xs.length : Nat) : Int))), (6, .v (.int .i64 0)), (5, .row 1), (1, .v (.slice bd ys.length dap))], [], [⟨1, 68, 1, xs.length, (ints .u32 xs)⟩], 0⟩ := by kernel_rfl
  replace hI := hI.rename (S := ⟨[(14, .v (.int .i64 0)), (13, .v (.int .i64 ((xs.length : Nat) : Int))), (6, .v (.int .i64 0)), (5, .row 1), (1, .v (.slice bd ys.length dap))], [], [⟨1, 68, 1, xs.length, (ints .u32 xs)⟩], 0⟩) (S' := ⟨[(14, .v (.int .i64 0)), (13, .v (.int .i64 ((xs.length : Nat) : Int))), (6, .v (.int .i64 0)), (5, .row 0), (1, .v (.slice bd ys.length dap))], [], [⟨0, 68, 1, xs.length, (ints .u32 xs)⟩], 0⟩) hren_; replace hR := hR.rename (S := ⟨[(14, .v (.int .i64 0)), (13, .v (.int .i64 ((xs.length : Nat) : Int))), (6, .v (.int .i64 0)), (5, .row 1), (1, .v (.slice bd ys.length dap))], [], [⟨1, 68, 1, xs.length, (ints .u32 xs)⟩], 0⟩) (S' := ⟨[(14, .v (.int .i64 0)), (13, .v (.int .i64 ((xs.length : Nat) : Int))), (6, .v (.int .i64 0)), (5, .row 0), (1, .v (.slice bd ys.length dap))], [], [⟨0, 68, 1, xs.length, (ints .u32 xs)⟩], 0⟩) hren_ (by kernel_rfl) (by kernel_rfl); dsimp only at hI hR; clear hren_
  refine lp (γ := Nat × Nat × List Nat) (fun (i, b, zs) => (⟨[(1, .v (.slice bd ys.length dap)), (5, .row 0), (6, .v (.int .i64 ((b : Nat) : Int))), (13, .v (.int .i64 ((xs.length : Nat) : Int))), (14, .v (.int .i64 ((i : Nat) : Int)))], [], [⟨0, 68, 1, xs.length, (ints .u32 zs)⟩], 1⟩ : Sy)) (fun (i, b, zs) e => zs.length = xs.length ∧ Dig zs ∧ b ≤ 1 ∧ i ≤ xs.length ∧ zs.drop i = xs.drop i ∧ val (zs.take i) + val (ys.take i) = val (xs.take i) + b * pw i) (fun (i, b, zs) => xs.length - i) (0, 0, xs) (⟨rfl, hx.dig, by decide, Nat.zero_le _, rfl, by simp [val]⟩)
      (hR.sel [] [0] (by kernel_rfl) (by kernel_rfl)) (hI.sel [1, 5, 6, 13, 14] (by kernel_rfl)) ?_
  clear hR hI
  rintro ⟨i, b, zs⟩ e5 a5 w5 hp hR hI
  dsimp only at hp hR hI
  obtain ⟨hzl, hzd, hb1, hi, hdr, hv⟩ := hp; have hgx := hx.get i (by decide); have hgy := hy.get i (by decide); have hgz : zs.getD i 0 = xs.getD i 0 := getD_of_drop hdr
  refine reg_seq tab (k := 1) (hs := []) (sy := []) (ks := [15, 1, 5, 6, 13, 14]) (bs := []) (gs := [0])
      (L' := [(15, .v (.bool (decide (((i : Nat) : Int) < ((xs.length : Nat) : Int))))), (1, .v (.slice bd ys.length dap)), (5, .row 0), (6, .v (.int .i64 ((b : Nat) : Int))), (13, .v (.int .i64 ((xs.length : Nat) : Int))), (14, .v (.int .i64 ((i : Nat) : Int)))])
      (H' := []) (G' := [⟨0, 68, 1, xs.length, (ints .u32 zs)⟩]) (k' := 1) hR hI (by kernel_rfl)
      .nil (fun e6 a6 w6 hag hR hI => ?_)
  refine wp_seq ?_
  refine cnd (b := decide (((i : Nat) : Int) < ((xs.length : Nat) : Int))) hI (by kernel_rfl) (fun hc7 => ?_) (fun hc7 => ?_)
  · skip
    replace hI := hI.re 15 (.v (.bool true)) rfl (congrArg Value.bool hc7)
    try simp only [decide_eq_true_eq, decide_eq_false_iff_not, beq_iff_eq, bne_iff_ne, beq_eq_false_iff_ne, bne_eq_false_iff_eq, Bool.and_eq_true, Bool.and_eq_false_iff, Bool.or_eq_true, Bool.or_eq_false_iff, Bool.not_eq_true', Bool.not_eq_false', ne_eq] at hc7
    refine wp_skip ?_
    refine then_n ?_
    refine wp_seq ?_
    refine wp_block ?_
    refine reg_seq tab (k := 1) (hs := []) (sy := []) (ks := [7, 1, 5, 6, 13, 14]) (bs := []) (gs := [0])
        (L' := [(7, .v (.int .i64 ((i : Nat) : Int))), (1, .v (.slice bd ys.length dap)), (5, .row 0), (6, .v (.int .i64 ((b : Nat) : Int))), (13, .v (.int .i64 ((xs.length : Nat) : Int))), (14, .v (.int .i64 ((i : Nat) : Int)))])
        (H' := []) (G' := [⟨0, 68, 1, xs.length, (ints .u32 zs)⟩]) (k' := 1) hR hI (by kernel_rfl)
        .nil (fun e8 a8 w8 hag hR hI => ?_)
    refine reg_seq tab (k := 1) (hs := [(3, .val (.v (.int .u32 ((zs.getD i 0 : Nat) : Int)))), (4, .nw), (6, .nw)]) (sy := []) (ks := [8, 7, 1, 5, 13, 14]) (bs := []) (gs := [0])
        (L' := [(8, .v (.int .i64 (((zs.getD i 0 : Nat) : Int) - ((b : Nat) : Int)))), (7, .v (.int .i64 ((i : Nat) : Int))), (1, .v (.slice bd ys.length dap)), (5, .row 0), (13, .v (.int .i64 ((xs.length : Nat) : Int))), (14, .v (.int .i64 ((i : Nat) : Int)))])
        (H' := []) (G' := [⟨0, 68, 1, xs.length, (ints .u32 zs)⟩]) (k' := 1) hR hI (by kernel_rfl)
        (.cons (by omega : (0 : Int) ≤ ((i : Nat) : Int) ∧ ((i : Nat) : Int) < ((xs.length : Nat) : Int)) (.cons (ints_get (by omega) : (ints .u32 zs)[i]? = some (.int .u32 ((zs.getD i 0 : Nat) : Int))) (.cons (by omega : i < xs.length * 1) (.cons (inR_i64 (n := ((zs.getD i 0 : Nat) : Int)) (by omega)) (.cons (inR_i64 (n := ((zs.getD i 0 : Nat) : Int) - ((b : Nat) : Int)) (by omega)) .nil))))) (fun e9 a9 w9 hag hR hI => ?_)
    refine wp_seq ?_
    refine reg_seq tab (k := 1) (hs := []) (sy := []) (ks := [27, 8, 7, 1, 5, 13, 14]) (bs := []) (gs := [0])
        (L' := [(27, .v (.bool (decide (((i : Nat) : Int) < ((ys.length : Nat) : Int))))), (8, .v (.int .i64 (((zs.getD i 0 : Nat) : Int) - ((b : Nat) : Int)))), (7, .v (.int .i64 ((i : Nat) : Int))), (1, .v (.slice bd ys.length dap)), (5, .row 0), (13, .v (.int .i64 ((xs.length : Nat) : Int))), (14, .v (.int .i64 ((i : Nat) : Int)))])
        (H' := []) (G' := [⟨0, 68, 1, xs.length, (ints .u32 zs)⟩]) (k' := 1) hR hI (by kernel_rfl)
        .nil (fun e10 a10 w10 hag hR hI => ?_)
    refine join (γ := Int) hR hI (fun d1 => (⟨[(1, .v (.slice bd ys.length dap)), (5, .row 0), (7, .v (.int .i64 ((i : Nat) : Int))), (8, .v (.int .i64 d1)), (13, .v (.int .i64 ((xs.length : Nat) : Int))), (14, .v (.int .i64 ((i : Nat) : Int)))], [], [⟨0, 68, 1, xs.length, (ints .u32 zs)⟩], 1⟩ : Sy)) (fun d1 e => d1 = (zs.getD i 0 : Int) - (b : Int) - (ys.getD i 0 : Int)) ?_ ?_
    · skip
      refine cnd (b := decide (((i : Nat) : Int) < ((ys.length : Nat) : Int))) hI (by kernel_rfl) (fun hc11 => ?_) (fun hc11 => ?_)
      · skip
        replace hI := hI.re 27 (.v (.bool true)) rfl (congrArg Value.bool hc11)
        try simp only [decide_eq_true_eq, decide_eq_false_iff_not, beq_iff_eq, bne_iff_ne, beq_eq_false_iff_ne, bne_eq_false_iff_eq, Bool.and_eq_true, Bool.and_eq_false_iff, Bool.or_eq_true, Bool.or_eq_false_iff, Bool.not_eq_true', Bool.not_eq_false', ne_eq] at hc11
        refine reg_all tab (k := 1) (hs := [(4, .val (.v (.int .u32 ((ys.getD i 0 : Nat) : Int)))), (5, .nw), (6, .nw)]) (sy := []) (ks := [8, 7, 1, 5, 13, 14]) (bs := []) (gs := [0])
            (L' := [(8, .v (.int .i64 (((zs.getD i 0 : Nat) : Int) - ((b : Nat) : Int) - ((ys.getD i 0 : Nat) : Int)))), (7, .v (.int .i64 ((i : Nat) : Int))), (1, .v (.slice bd ys.length dap)), (5, .row 0), (13, .v (.int .i64 ((xs.length : Nat) : Int))), (14, .v (.int .i64 ((i : Nat) : Int)))])
            (H' := []) (G' := [⟨0, 68, 1, xs.length, (ints .u32 zs)⟩]) (k' := 1) hR hI (by kernel_rfl)
            (.cons (by omega : (0 : Int) ≤ ((i : Nat) : Int) ∧ ((i : Nat) : Int) < ((ys.length : Nat) : Int)) (.cons (nats_some (i := i) (hy.cells.mono hB.cls) (by omega)) (.cons (nats_load (i := i) (m := 1) (hy.cells.mono hB.cls) (by omega)) (.cons (inR_i64 (n := ((ys.getD i 0 : Nat) : Int)) (by omega)) (.cons (inR_i64 (n := ((zs.getD i 0 : Nat) : Int) - ((b : Nat) : Int) - ((ys.getD i 0 : Nat) : Int)) (by omega)) .nil))))) (fun e12 a12 w12 hag hR hI => ?_)
        refine then_n ?_
        exact ⟨((zs.getD i 0 : Nat) : Int) - ((b : Nat) : Int) - ((ys.getD i 0 : Nat) : Int), e12, by first | rfl | (rw [getD_out (xs := ys) (by omega)]; omega), hR.sel [] [0] (by kernel_rfl) (by kernel_rfl), hI.sel [1, 5, 7, 8, 13, 14] (by kernel_rfl)⟩
      · skip
        replace hI := hI.re 27 (.v (.bool false)) rfl (congrArg Value.bool hc11)
        try simp only [decide_eq_true_eq, decide_eq_false_iff_not, beq_iff_eq, bne_iff_ne, beq_eq_false_iff_ne, bne_eq_false_iff_eq, Bool.and_eq_true, Bool.and_eq_false_iff, Bool.or_eq_true, Bool.or_eq_false_iff, Bool.not_eq_true', Bool.not_eq_false', ne_eq] at hc11
        refine wp_skip ?_
        refine then_n ?_
        exact ⟨((zs.getD i 0 : Nat) : Int) - ((b : Nat) : Int), e10, by first | rfl | (rw [getD_out (xs := ys) (by omega)]; omega), hR.sel [] [0] (by kernel_rfl) (by kernel_rfl), hI.sel [1, 5, 7, 8, 13, 14] (by kernel_rfl)⟩
    · clear hR hI
      rintro d1 e13 a13 w13 hp hR hI
      dsimp only at hp hR hI
      have hp1 := hp
      refine reg_seq tab (k := 1) (hs := []) (sy := []) (ks := [6, 1, 5, 7, 8, 13, 14]) (bs := []) (gs := [0])
          (L' := [(6, .v (.int .i64 0)), (1, .v (.slice bd ys.length dap)), (5, .row 0), (7, .v (.int .i64 ((i : Nat) : Int))), (8, .v (.int .i64 d1)), (13, .v (.int .i64 ((xs.length : Nat) : Int))), (14, .v (.int .i64 ((i : Nat) : Int)))])
          (H' := []) (G' := [⟨0, 68, 1, xs.length, (ints .u32 zs)⟩]) (k' := 1) hR hI (by kernel_rfl)
          .nil (fun e14 a14 w14 hag hR hI => ?_)
      refine wp_seq ?_
      refine reg_seq tab (k := 1) (hs := []) (sy := []) (ks := [36, 6, 1, 5, 7, 8, 13, 14]) (bs := []) (gs := [0])
          (L' := [(36, .v (.bool (decide (d1 < (0 : Int))))), (6, .v (.int .i64 0)), (1, .v (.slice bd ys.length dap)), (5, .row 0), (7, .v (.int .i64 ((i : Nat) : Int))), (8, .v (.int .i64 d1)), (13, .v (.int .i64 ((xs.length : Nat) : Int))), (14, .v (.int .i64 ((i : Nat) : Int)))])
          (H' := []) (G' := [⟨0, 68, 1, xs.length, (ints .u32 zs)⟩]) (k' := 1) hR hI (by kernel_rfl)
          .nil (fun e15 a15 w15 hag hR hI => ?_)
      refine join (γ := Int × Nat) hR hI (fun (d2, b2) => (⟨[(1, .v (.slice bd ys.length dap)), (5, .row 0), (6, .v (.int .i64 ((b2 : Nat) : Int))), (7, .v (.int .i64 ((i : Nat) : Int))), (8, .v (.int .i64 d2)), (13, .v (.int .i64 ((xs.length : Nat) : Int))), (14, .v (.int .i64 ((i : Nat) : Int)))], [], [⟨0, 68, 1, xs.length, (ints .u32 zs)⟩], 1⟩ : Sy)) (fun (d2, b2) e => d2 = d1 + 4294967296 * (b2 : Int) ∧ b2 ≤ 1 ∧ 0 ≤ d2 ∧ d2 < 4294967296) ?_ ?_
      · skip
        refine cnd (b := decide (d1 < (0 : Int))) hI (by kernel_rfl) (fun hc16 => ?_) (fun hc16 => ?_)
        · skip
          replace hI := hI.re 36 (.v (.bool true)) rfl (congrArg Value.bool hc16)
          try simp only [decide_eq_true_eq, decide_eq_false_iff_not, beq_iff_eq, bne_iff_ne, beq_eq_false_iff_ne, bne_eq_false_iff_eq, Bool.and_eq_true, Bool.and_eq_false_iff, Bool.or_eq_true, Bool.or_eq_false_iff, Bool.not_eq_true', Bool.not_eq_false', ne_eq] at hc16
          refine reg_all tab (k := 1) (hs := [(1, .nw)]) (sy := []) (ks := [6, 8, 1, 5, 7, 13, 14]) (bs := []) (gs := [0])
              (L' := [(6, .v (.int .i64 1)), (8, .v (.int .i64 (d1 + (4294967296 : Int)))), (1, .v (.slice bd ys.length dap)), (5, .row 0), (7, .v (.int .i64 ((i : Nat) : Int))), (13, .v (.int .i64 ((xs.length : Nat) : Int))), (14, .v (.int .i64 ((i : Nat) : Int)))])
              (H' := []) (G' := [⟨0, 68, 1, xs.length, (ints .u32 zs)⟩]) (k' := 1) hR hI (by kernel_rfl)
              (.cons (inR_i64 (n := d1 + (4294967296 : Int)) (by omega)) .nil) (fun e17 a17 w17 hag hR hI => ?_)
          refine then_n ?_
          exact ⟨(d1 + (4294967296 : Int), 1), e17, ⟨by omega, by omega, by omega, by omega⟩, hR.sel [] [0] (by kernel_rfl) (by kernel_rfl), hI.sel [1, 5, 6, 7, 8, 13, 14] (by kernel_rfl)⟩
        · skip
          replace hI := hI.re 36 (.v (.bool false)) rfl (congrArg Value.bool hc16)
          try simp only [decide_eq_true_eq, decide_eq_false_iff_not, beq_iff_eq, bne_iff_ne, beq_eq_false_iff_ne, bne_eq_false_iff_eq, Bool.and_eq_true, Bool.and_eq_false_iff, Bool.or_eq_true, Bool.or_eq_false_iff, Bool.not_eq_true', Bool.not_eq_false', ne_eq] at hc16
          refine wp_skip ?_
          refine then_n ?_
          exact ⟨(d1, 0), e15, ⟨by omega, by omega, by omega, by omega⟩, hR.sel [] [0] (by kernel_rfl) (by kernel_rfl), hI.sel [1, 5, 6, 7, 8, 13, 14] (by kernel_rfl)⟩
      · clear hR hI
        rintro ⟨d2, b2⟩ e18 a18 w18 hp hR hI
        dsimp only at hp hR hI
        obtain ⟨hp2, hb2, hd0, hd3⟩ := hp
        refine reg_all tab (k := 1) (hs := [(3, .eq (.int .u32 ((d2.toNat : Nat) : Int)))]) (sy := []) (ks := [1, 5, 6, 13, 14]) (bs := []) (gs := [0])
            (L' := [(1, .v (.slice bd ys.length dap)), (5, .row 0), (6, .v (.int .i64 ((b2 : Nat) : Int))), (13, .v (.int .i64 ((xs.length : Nat) : Int))), (14, .v (.int .i64 ((i : Nat) : Int)))])
            (H' := []) (G' := [⟨0, 68, 1, xs.length, ((ints .u32 zs).set i (.int .u32 ((d2.toNat : Nat) : Int)))⟩]) (k' := 1) hR hI (by kernel_rfl)
            (.cons (congrArg (Value.int .u32) (by rw [wrap_inR (inR_u32 (by omega))]; omega : IntKind.u32.wrap d2 = ((d2.toNat : Nat) : Int))) (.cons (by omega : (0 : Int) ≤ ((i : Nat) : Int) ∧ ((i : Nat) : Int) < ((xs.length : Nat) : Int)) (.cons (by omega : i < xs.length * 1) .nil))) (fun e19 a19 w19 hag hR hI => ?_)
        refine normal_block ?_
        refine then_n ?_
        refine reg_all tab (k := 1) (hs := [(0, .nw)]) (sy := []) (ks := [14, 1, 5, 6, 13]) (bs := []) (gs := [0])
            (L' := [(14, .v (.int .i64 ((i + 1 : Nat) : Int))), (1, .v (.slice bd ys.length dap)), (5, .row 0), (6, .v (.int .i64 ((b2 : Nat) : Int))), (13, .v (.int .i64 ((xs.length : Nat) : Int)))])
            (H' := []) (G' := [⟨0, 68, 1, xs.length, ((ints .u32 zs).set i (.int .u32 ((d2.toNat : Nat) : Int)))⟩]) (k' := 1) hR hI (by kernel_rfl)
            (.cons (inR_i64 (n := ((i : Nat) : Int) + (1 : Int)) (by omega)) .nil) (fun e20 a20 w20 hag hR hI => ?_)
        refine then_n ?_
        rw [ints_set] at hR
        exact ⟨(i + 1, b2, zs.set i d2.toNat), e20, ⟨by rw [List.length_set]; exact hzl, dig_set hzd i (by omega), hb2, by omega, by rw [drop_set_lt (by omega)]; exact drop_succ_of hdr, sub_step (by omega) hdr hv (by omega)⟩, by (try dsimp only); omega, hR.sel [] [0] (by kernel_rfl) (by kernel_rfl), hI.sel [1, 5, 6, 13, 14] (by kernel_rfl)⟩
  · skip
    replace hI := hI.re 15 (.v (.bool false)) rfl (congrArg Value.bool hc7)
    try simp only [decide_eq_true_eq, decide_eq_false_iff_not, beq_iff_eq, bne_iff_ne, beq_eq_false_iff_ne, bne_eq_false_iff_eq, Bool.and_eq_true, Bool.and_eq_false_iff, Bool.or_eq_true, Bool.or_eq_false_iff, Bool.not_eq_true', Bool.not_eq_false', ne_eq] at hc7
    refine wp_exit ?_
    refine exit_then ?_
    refine exit_then ?_
    refine exit_hit ?_
    refine then_n ?_
    refine wp_seq ?_
    refine reg (is := [0, 1, 2]) (by kernel_rfl) ?_
    refine part_ tab [0] [1, 2] (by rfl) (k := 1) (hs := []) (sy := []) (ks := [45]) (bs := []) (gs := [0])
        (L' := [(45, .row 0)])
        (H' := []) (G' := [⟨0, 68, 1, xs.length, (ints .u32 zs)⟩]) (k' := 1) hR hI (by kernel_rfl)
        .nil (fun e21 a21 w21 hag hR hI => ?_)
    obtain ⟨hB_, hR_, hrel_, zd, zc, hv_, hcells_, hlen_, hcap_, hmax_⟩ := hB.release hR (y := ⟨0, 68, 1, xs.length, (ints .u32 zs)⟩) (by simp) rfl _ dropN_mem
    replace hx := hx.rel hrel_
    replace hy := hy.rel hrel_
    have hz : Sl .u32 4294967296 _ _ zd zc zs := ⟨hcells_, hzd, (by dsimp only at hlen_ hcap_; rw [ints_length] at hlen_; omega), hmax_⟩
    replace hI := hI.re 45 (.v (.slice zd xs.length zc)) rfl hv_
    replace hB := hB_; replace hR := hR_.sel [] [] (by kernel_rfl : selH _ _ = some []) (by kernel_rfl : selG _ _ = some []); clear hB_ hR_ hrel_ hcells_ hv_
    replace hI := hI.re 45 (.v (.slice zd zs.length zc)) rfl (by simp only [den]; rw [hzl])
    refine callOp (ys := [.v (.slice zd zs.length zc)]) hI rfl rfl ⟨_, rfl, rfl, rfl⟩ (by kernel_rfl) Try.func42 rfl rfl ?_
    refine (trim_mag (hz.now hB hR)).mono ?_
    rintro ex w22 ⟨us, rfl, hk, hus, hvus, htus, hlus⟩
    replace hx := hx.next hB hR hk
    replace hy := hy.next hB hR hk
    replace hz := hz.next hB hR hk
    have hB_ := hB.next hR hk
    replace hR := hR.after hk
    replace hB := hB_; clear hB_ hk
    refine ⟨_, rfl, ?_⟩
    replace hI := hI.put (d := some 46) (x := .v (.slice zd us.length zc)) (by intro t ht; cases ht; decide) rfl
    replace hI := hI.sel [46, 45] (by kernel_rfl : sel _ _ = some [(46, .v (.slice zd us.length zc)), (45, .v (.slice zd zs.length zc))])
    refine part_ tab [2] [] (by rfl) (k := 1) (hs := []) (sy := []) (ks := [4]) (bs := []) (gs := [])
        (L' := [(4, .v (.slice zd us.length zc))])
        (H' := []) (G' := []) (k' := 1) hR hI (by kernel_rfl)
        .nil (fun e23 a23 w23 hag hR hI => ?_)
    refine ops_nil ?_
    refine then_n ?_
    refine wp_ret ?_
    refine outN tab (xs := [.v (.slice zd us.length zc)]) hR hI rfl (by kernel_rfl) ?_
    obtain rfl : i = xs.length := by omega
    exact ⟨us, zd, zc, rfl, hB.fin hR, hus.fin hB hR, hvus.trans (sub_done hzd hzl rfl hlyx hle hv), htus, by omega⟩

set_option maxHeartbeats 4000000 in
set_option maxRecDepth 100000 in
theorem magMul_spec {C : Nat → Prop} {w : World} {ad bd : Option Addr} {cap dap : Nat} {xs ys : List Nat} (hx : Sl .u32 4294967296 C w ad cap xs) (hy : Sl .u32 4294967296 C w bd dap ys) (hlen : xs.length + ys.length ≤ 1000000) :
    Calls P 24 #[.slice ad xs.length cap, .slice bd ys.length dap] w fun ex w' => ∃ zs zd zc, ex = .returned (.slice zd zs.length zc) ∧ Keep (fun b => b < w.heap.size) w w' ∧ Sl .u32 4294967296 (Grow C w w') w' zd zc zs ∧ val zs = val xs * val ys ∧ Trim zs ∧ zs.length ≤ xs.length + ys.length := by
  refine doorN (e := e0) (vs := [.v (.slice ad xs.length cap), .v (.slice bd ys.length dap)]) (n := 67) (m := 2) Try.func24 rfl rfl rfl (by decide) fun a_ hI => ?_
  replace hI : Is 67 [] e0 [(0, .v (.slice ad xs.length cap)), (1, .v (.slice bd ys.length dap))] a_ := hI
  have hR : Rel (fun b => b < w.heap.size) w e0 [] [] w := Rel.start (fun k hk => hk)
  have hB : Base C w C (fun b => b < w.heap.size) w := Base.start
  have hrx := hx.room; have hmx := hx.max; have hry := hy.room; have hmy := hy.max
  refine reg_seq tab (k := 0) (hs := []) (sy := []) (ks := [0, 1]) (bs := []) (gs := [])
      (L' := [(0, .v (.slice ad xs.length cap)), (1, .v (.slice bd ys.length dap))])
      (H' := []) (G' := []) (k' := 0) hR hI (by kernel_rfl)
      .nil (fun e1 a1 w1 hag hR hI => ?_)
  refine reg_seq tab (k := 0) (hs := [(4, .nw)]) (sy := []) (ks := [5, 0, 1]) (bs := []) (gs := [0])
      (L' := [(5, .row 0), (0, .v (.slice ad xs.length cap)), (1, .v (.slice bd ys.length dap))])
      (H' := []) (G' := [⟨0, 68, 1, (xs.length + ys.length), (List.replicate (xs.length + ys.length) (.int .u32 0))⟩]) (k' := 1) hR hI (by kernel_rfl)
      (.cons (inR_i64 (n := ((xs.length : Nat) : Int) + ((ys.length : Nat) : Int)) (by omega)) (.cons (by omega : (0 : Int) ≤ ((xs.length + ys.length : Nat) : Int) ∧ ((xs.length + ys.length : Nat) : Int) ≤ ((xs.length + ys.length : Nat) : Int)) (.cons (by omega : ((4 : Nat) : Int) * ((xs.length + ys.length : Nat) : Int) ≤ 281474976710656) (.cons (by have hm_ : maxLen = 9223372036854775807 := rfl; rw [hm_]; omega : xs.length + ys.length ≤ maxLen) .nil)))) (fun e2 a2 w2 hag hR hI => ?_)
  have er_ : List.replicate (xs.length + ys.length) (Value.int .u32 0) = ints .u32 (List.replicate (xs.length + ys.length) 0) := ints_replicate .u32 (xs.length + ys.length) 0
  rw [er_] at hR
  have hren_ : Sy.ren [(0, 0)] ⟨[(5, .row 0), (0, .v (.slice ad xs.length cap)), (1, .v (.slice bd ys.length dap))], [], [⟨0, 68, 1, (xs.length + ys.length), (ints .u32 (List.replicate (xs.length + ys.length) 0))⟩], 0⟩ = ⟨[(5, .row 0), (0, .v (.slice ad xs.length cap)), (1, .v (.slice bd ys.length dap))], [], [⟨0, 68, 1, (xs.length + ys.length), (ints .u32 (List.replicate (xs.length + ys.length) 0))⟩], 0⟩ := by kernel_rfl
  replace hI := hI.rename (S := ⟨[(5, .row 0), (0, .v (.slice ad xs.length cap)), (1, .v (.slice bd ys.length dap))], [], [⟨0, 68, 1, (xs.length + ys.length), (ints .u32 (List.replicate (xs.length + ys.length) 0))⟩], 0⟩) (S' := ⟨[(5, .row 0), (0, .v (.slice ad xs.length cap)), (1, .v (.slice bd ys.length dap))], [], [⟨0, 68, 1, (xs.length + ys.length), (ints .u32 (List.replicate (xs.length + ys.length) 0))⟩], 0⟩) hren_; replace hR := hR.rename (S := ⟨[(5, .row 0), (0, .v (.slice ad xs.length cap)), (1, .v (.slice bd ys.length dap))], [], [⟨0, 68, 1, (xs.length + ys.length), (ints .u32 (List.replicate (xs.length + ys.length) 0))⟩], 0⟩) (S' := ⟨[(5, .row 0), (0, .v (.slice ad xs.length cap)), (1, .v (.slice bd ys.length dap))], [], [⟨0, 68, 1, (xs.length + ys.length), (ints .u32 (List.replicate (xs.length + ys.length) 0))⟩], 0⟩) hren_ (by kernel_rfl) (by kernel_rfl); dsimp only at hI hR; clear hren_
  refine wp_seq ?_
  refine reg_seq tab (k := 1) (hs := []) (sy := []) (ks := [17, 16, 5, 0, 1]) (bs := []) (gs := [0])
      (L' := [(17, .v (.int .i64 0)), (16, .v (.int .i64 ((xs.length : Nat) : Int))), (5, .row 0), (0, .v (.slice ad xs.length cap)), (1, .v (.slice bd ys.length dap))])
      (H' := []) (G' := [⟨0, 68, 1, (xs.length + ys.length), (ints .u32 (List.replicate (xs.length + ys.length) 0))⟩]) (k' := 1) hR hI (by kernel_rfl)
      .nil (fun e3 a3 w3 hag hR hI => ?_)
  refine wp_block ?_
  refine lp (γ := Nat × List Nat) (fun (i, zs) => (⟨[(0, .v (.slice ad xs.length cap)), (1, .v (.slice bd ys.length dap)), (5, .row 0), (16, .v (.int .i64 ((xs.length : Nat) : Int))), (17, .v (.int .i64 ((i : Nat) : Int)))], [], [⟨0, 68, 1, (xs.length + ys.length), (ints .u32 zs)⟩], 1⟩ : Sy)) (fun (i, zs) e => zs.length = xs.length + ys.length ∧ Dig zs ∧ i ≤ xs.length ∧ val zs = val (xs.take i) * val ys ∧ val (zs.drop (i + ys.length)) = 0) (fun (i, zs) => xs.length - i) (0, List.replicate (xs.length + ys.length) 0) (⟨List.length_replicate .., dig_replicate _, Nat.zero_le _, by rw [val_replicate]; simp [val], by rw [List.drop_replicate, val_replicate]⟩)
      (hR.sel [] [0] (by kernel_rfl) (by kernel_rfl)) (hI.sel [0, 1, 5, 16, 17] (by kernel_rfl)) ?_
  clear hR hI
  rintro ⟨i, zs⟩ e4 a4 w4 hp hR hI
  dsimp only at hp hR hI
  obtain ⟨hzl, hzd, hi, hv, hz0⟩ := hp; have hgx := hx.get i (by decide)
  refine reg_seq tab (k := 1) (hs := []) (sy := []) (ks := [18, 0, 1, 5, 16, 17]) (bs := []) (gs := [0])
      (L' := [(18, .v (.bool (decide (((i : Nat) : Int) < ((xs.length : Nat) : Int))))), (0, .v (.slice ad xs.length cap)), (1, .v (.slice bd ys.length dap)), (5, .row 0), (16, .v (.int .i64 ((xs.length : Nat) : Int))), (17, .v (.int .i64 ((i : Nat) : Int)))])
      (H' := []) (G' := [⟨0, 68, 1, (xs.length + ys.length), (ints .u32 zs)⟩]) (k' := 1) hR hI (by kernel_rfl)
      .nil (fun e5 a5 w5 hag hR hI => ?_)
  refine wp_seq ?_
  refine cnd (b := decide (((i : Nat) : Int) < ((xs.length : Nat) : Int))) hI (by kernel_rfl) (fun hc6 => ?_) (fun hc6 => ?_)
  · skip
    replace hI := hI.re 18 (.v (.bool true)) rfl (congrArg Value.bool hc6)
    try simp only [decide_eq_true_eq, decide_eq_false_iff_not, beq_iff_eq, bne_iff_ne, beq_eq_false_iff_ne, bne_eq_false_iff_eq, Bool.and_eq_true, Bool.and_eq_false_iff, Bool.or_eq_true, Bool.or_eq_false_iff, Bool.not_eq_true', Bool.not_eq_false', ne_eq] at hc6
    refine wp_skip ?_
    refine then_n ?_
    refine wp_seq ?_
    refine wp_block ?_
    refine reg_seq tab (k := 1) (hs := []) (sy := []) (ks := [6, 0, 1, 5, 16, 17]) (bs := []) (gs := [0])
        (L' := [(6, .v (.int .i64 ((i : Nat) : Int))), (0, .v (.slice ad xs.length cap)), (1, .v (.slice bd ys.length dap)), (5, .row 0), (16, .v (.int .i64 ((xs.length : Nat) : Int))), (17, .v (.int .i64 ((i : Nat) : Int)))])
        (H' := []) (G' := [⟨0, 68, 1, (xs.length + ys.length), (ints .u32 zs)⟩]) (k' := 1) hR hI (by kernel_rfl)
        .nil (fun e7 a7 w7 hag hR hI => ?_)
    refine reg_seq tab (k := 1) (hs := []) (sy := []) (ks := [7, 6, 0, 1, 5, 16, 17]) (bs := []) (gs := [0])
        (L' := [(7, .v (.int .u64 0)), (6, .v (.int .i64 ((i : Nat) : Int))), (0, .v (.slice ad xs.length cap)), (1, .v (.slice bd ys.length dap)), (5, .row 0), (16, .v (.int .i64 ((xs.length : Nat) : Int))), (17, .v (.int .i64 ((i : Nat) : Int)))])
        (H' := []) (G' := [⟨0, 68, 1, (xs.length + ys.length), (ints .u32 zs)⟩]) (k' := 1) hR hI (by kernel_rfl)
        .nil (fun e8 a8 w8 hag hR hI => ?_)
    refine wp_seq ?_
    refine reg_seq tab (k := 1) (hs := []) (sy := []) (ks := [22, 21, 7, 6, 0, 1, 5, 16, 17]) (bs := []) (gs := [0])
        (L' := [(22, .v (.int .i64 0)), (21, .v (.int .i64 ((ys.length : Nat) : Int))), (7, .v (.int .u64 0)), (6, .v (.int .i64 ((i : Nat) : Int))), (0, .v (.slice ad xs.length cap)), (1, .v (.slice bd ys.length dap)), (5, .row 0), (16, .v (.int .i64 ((xs.length : Nat) : Int))), (17, .v (.int .i64 ((i : Nat) : Int)))])
        (H' := []) (G' := [⟨0, 68, 1, (xs.length + ys.length), (ints .u32 zs)⟩]) (k' := 1) hR hI (by kernel_rfl)
        .nil (fun e9 a9 w9 hag hR hI => ?_)
    refine wp_block ?_
    refine lp (γ := Nat × Nat × List Nat) (fun (k, c, zt) => (⟨[(0, .v (.slice ad xs.length cap)), (1, .v (.slice bd ys.length dap)), (5, .row 0), (16, .v (.int .i64 ((xs.length : Nat) : Int))), (17, .v (.int .i64 ((i : Nat) : Int))), (6, .v (.int .i64 ((i : Nat) : Int))), (7, .v (.int .u64 ((c : Nat) : Int))), (21, .v (.int .i64 ((ys.length : Nat) : Int))), (22, .v (.int .i64 ((k : Nat) : Int)))], [], [⟨0, 68, 1, (xs.length + ys.length), (ints .u32 zt)⟩], 1⟩ : Sy)) (fun (k, c, zt) e => zt.length = xs.length + ys.length ∧ Dig zt ∧ k ≤ ys.length ∧ c < 4294967296 ∧ zt.drop (i + k) = zs.drop (i + k) ∧ val (zt.take (i + k)) + c * pw (i + k) = val (zs.take (i + k)) + xs.getD i 0 * val (ys.take k) * pw i) (fun (k, c, zt) => ys.length - k) (0, 0, zs) (⟨hzl, hzd, Nat.zero_le _, by decide, rfl, by simp [val]⟩)
        (hR.sel [] [0] (by kernel_rfl) (by kernel_rfl)) (hI.sel [0, 1, 5, 16, 17, 6, 7, 21, 22] (by kernel_rfl)) ?_
    clear hR hI
    rintro ⟨k, c, zt⟩ e10 a10 w10 hp hR hI
    dsimp only at hp hR hI
    obtain ⟨htl, htd, hk', hcb, hdr, hvt⟩ := hp; have hgy := hy.get k (by decide); have hgt : zt.getD (i + k) 0 < 4294967296 := dig_get htd _; have hxy : xs.getD i 0 * ys.getD k 0 ≤ 18446744065119617025 := Nat.mul_le_mul (Nat.le_of_lt_succ hgx) (Nat.le_of_lt_succ hgy)
    refine reg_seq tab (k := 1) (hs := []) (sy := []) (ks := [23, 0, 1, 5, 16, 17, 6, 7, 21, 22]) (bs := []) (gs := [0])
        (L' := [(23, .v (.bool (decide (((k : Nat) : Int) < ((ys.length : Nat) : Int))))), (0, .v (.slice ad xs.length cap)), (1, .v (.slice bd ys.length dap)), (5, .row 0), (16, .v (.int .i64 ((xs.length : Nat) : Int))), (17, .v (.int .i64 ((i : Nat) : Int))), (6, .v (.int .i64 ((i : Nat) : Int))), (7, .v (.int .u64 ((c : Nat) : Int))), (21, .v (.int .i64 ((ys.length : Nat) : Int))), (22, .v (.int .i64 ((k : Nat) : Int)))])
        (H' := []) (G' := [⟨0, 68, 1, (xs.length + ys.length), (ints .u32 zt)⟩]) (k' := 1) hR hI (by kernel_rfl)
        .nil (fun e11 a11 w11 hag hR hI => ?_)
    refine wp_seq ?_
    refine cnd (b := decide (((k : Nat) : Int) < ((ys.length : Nat) : Int))) hI (by kernel_rfl) (fun hc12 => ?_) (fun hc12 => ?_)
    · skip
      replace hI := hI.re 23 (.v (.bool true)) rfl (congrArg Value.bool hc12)
      try simp only [decide_eq_true_eq, decide_eq_false_iff_not, beq_iff_eq, bne_iff_ne, beq_eq_false_iff_ne, bne_eq_false_iff_eq, Bool.and_eq_true, Bool.and_eq_false_iff, Bool.or_eq_true, Bool.or_eq_false_iff, Bool.not_eq_true', Bool.not_eq_false', ne_eq] at hc12
      refine wp_skip ?_
      refine then_n ?_
      refine wp_seq ?_
      refine wp_block ?_
      refine reg_seq tab (k := 1) (hs := []) (sy := []) (ks := [8, 0, 1, 5, 16, 17, 6, 7, 21, 22]) (bs := []) (gs := [0])
          (L' := [(8, .v (.int .i64 ((k : Nat) : Int))), (0, .v (.slice ad xs.length cap)), (1, .v (.slice bd ys.length dap)), (5, .row 0), (16, .v (.int .i64 ((xs.length : Nat) : Int))), (17, .v (.int .i64 ((i : Nat) : Int))), (6, .v (.int .i64 ((i : Nat) : Int))), (7, .v (.int .u64 ((c : Nat) : Int))), (21, .v (.int .i64 ((ys.length : Nat) : Int))), (22, .v (.int .i64 ((k : Nat) : Int)))])
          (H' := []) (G' := [⟨0, 68, 1, (xs.length + ys.length), (ints .u32 zt)⟩]) (k' := 1) hR hI (by kernel_rfl)
          .nil (fun e13 a13 w13 hag hR hI => ?_)
      refine regQ_seq tab (by kernel_rfl) (k := 1) (hs := [(4, .val (.v (.int .u32 ((xs.getD i 0 : Nat) : Int)))), (5, .nw), (9, .val (.v (.int .u32 ((ys.getD k 0 : Nat) : Int)))), (10, .nw), (11, .nw), (15, .nw), (17, .val (.v (.int .u32 ((zt.getD (i + k) 0 : Nat) : Int)))), (18, .nw), (19, .nw), (20, .nw)]) (gs := []) (ks := [7, 8, 0, 1, 5, 16, 17, 6, 21, 22])
          (L' := [(7, .v (.int .u64 ((c + (((xs.getD i 0) * (ys.getD k 0)) + (zt.getD (i + k) 0)) : Nat) : Int))), (8, .v (.int .i64 ((k : Nat) : Int))), (0, .v (.slice ad xs.length cap)), (1, .v (.slice bd ys.length dap)), (5, .row 0), (16, .v (.int .i64 ((xs.length : Nat) : Int))), (17, .v (.int .i64 ((i : Nat) : Int))), (6, .v (.int .i64 ((i : Nat) : Int))), (21, .v (.int .i64 ((ys.length : Nat) : Int))), (22, .v (.int .i64 ((k : Nat) : Int)))]) hR hI (by kernel_rfl) (fun _ _ _ _ _ h => h) (by kernel_rfl)
          (.cons (by omega : (0 : Int) ≤ ((i : Nat) : Int) ∧ ((i : Nat) : Int) < ((xs.length : Nat) : Int)) (.cons (nats_some (i := i) (hx.cells.mono hB.cls) (by omega)) (.cons (nats_load (i := i) (m := 1) (hx.cells.mono hB.cls) (by omega)) (.cons (inR_u64 (n := ((xs.getD i 0 : Nat) : Int)) (by omega)) (.cons (by omega : (0 : Int) ≤ ((k : Nat) : Int) ∧ ((k : Nat) : Int) < ((ys.length : Nat) : Int)) (.cons (nats_some (i := k) (hy.cells.mono hB.cls) (by omega)) (.cons (nats_load (i := k) (m := 1) (hy.cells.mono hB.cls) (by omega)) (.cons (inR_u64 (n := ((ys.getD k 0 : Nat) : Int)) (by omega)) (.cons (inR_u64 (n := ((xs.getD i 0 : Nat) : Int) * ((ys.getD k 0 : Nat) : Int)) (by omega)) (.cons (inR_i64 (n := ((i : Nat) : Int) + ((k : Nat) : Int)) (by omega)) (.cons (by omega : (0 : Int) ≤ ((i + k : Nat) : Int) ∧ ((i + k : Nat) : Int) < ((xs.length + ys.length : Nat) : Int)) (.cons (ints_get (by omega) : (ints .u32 zt)[i + k]? = some (.int .u32 ((zt.getD (i + k) 0 : Nat) : Int))) (.cons (by omega : i + k < (xs.length + ys.length) * 1) (.cons (inR_u64 (n := ((zt.getD (i + k) 0 : Nat) : Int)) (by omega)) (.cons (inR_u64 (n := (((xs.getD i 0) * (ys.getD k 0) : Nat) : Int) + ((zt.getD (i + k) 0 : Nat) : Int)) (by omega)) (.cons (inR_u64 (n := ((c : Nat) : Int) + ((((xs.getD i 0) * (ys.getD k 0)) + (zt.getD (i + k) 0) : Nat) : Int)) (by omega)) .nil)))))))))))))))) (by kernel_rfl) (by kernel_rfl) (fun e14 a14 w14 hag hR hI => ?_)
      obtain ⟨t, ht⟩ : ∃ t, t = c + (((xs.getD i 0) * (ys.getD k 0)) + (zt.getD (i + k) 0)) := ⟨_, rfl⟩
      replace hI := hI.re 7 (.v (.int .u64 ((t : Nat) : Int))) rfl (congrArg (Value.int .u64) (by rw [ht]))
      have htb : t < 18446744073709551616 := by omega
      refine reg_seq tab (k := 1) (hs := [(3, .nw), (5, .eq (.int .u32 ((t % 4294967296 : Nat) : Int)))]) (sy := []) (ks := [7, 0, 1, 5, 16, 17, 6, 21, 22]) (bs := []) (gs := [0])
          (L' := [(7, .v (.int .u64 ((t : Nat) : Int))), (0, .v (.slice ad xs.length cap)), (1, .v (.slice bd ys.length dap)), (5, .row 0), (16, .v (.int .i64 ((xs.length : Nat) : Int))), (17, .v (.int .i64 ((i : Nat) : Int))), (6, .v (.int .i64 ((i : Nat) : Int))), (21, .v (.int .i64 ((ys.length : Nat) : Int))), (22, .v (.int .i64 ((k : Nat) : Int)))])
          (H' := []) (G' := [⟨0, 68, 1, (xs.length + ys.length), ((ints .u32 zt).set (i + k) (.int .u32 ((t % 4294967296 : Nat) : Int)))⟩]) (k' := 1) hR hI (by kernel_rfl)
          (.cons (inR_i64 (n := ((i : Nat) : Int) + ((k : Nat) : Int)) (by omega)) (.cons (congrArg (Value.int .u32) (wrap_u32_nat t : IntKind.u32.wrap ((t : Nat) : Int) = ((t % 4294967296 : Nat) : Int))) (.cons (by omega : (0 : Int) ≤ ((i + k : Nat) : Int) ∧ ((i + k : Nat) : Int) < ((xs.length + ys.length : Nat) : Int)) (.cons (by omega : i + k < (xs.length + ys.length) * 1) .nil)))) (fun e15 a15 w15 hag hR hI => ?_)
      refine reg_all tab (k := 1) (hs := []) (sy := []) (ks := [7, 0, 1, 5, 16, 17, 6, 21, 22]) (bs := []) (gs := [0])
          (L' := [(7, .v (.int .u64 ((t / 4294967296 : Nat) : Int))), (0, .v (.slice ad xs.length cap)), (1, .v (.slice bd ys.length dap)), (5, .row 0), (16, .v (.int .i64 ((xs.length : Nat) : Int))), (17, .v (.int .i64 ((i : Nat) : Int))), (6, .v (.int .i64 ((i : Nat) : Int))), (21, .v (.int .i64 ((ys.length : Nat) : Int))), (22, .v (.int .i64 ((k : Nat) : Int)))])
          (H' := []) (G' := [⟨0, 68, 1, (xs.length + ys.length), ((ints .u32 zt).set (i + k) (.int .u32 ((t % 4294967296 : Nat) : Int)))⟩]) (k' := 1) hR hI (by kernel_rfl)
          (.cons (by decide : (0 : Int) ≤ 32) (.cons (by decide : (32 : Int) ≤ (IntKind.u64.bits : Int)) .nil)) (fun e16 a16 w16 hag hR hI => ?_)
      refine normal_block ?_
      refine then_n ?_
      refine reg_all tab (k := 1) (hs := [(0, .nw)]) (sy := []) (ks := [22, 7, 0, 1, 5, 16, 17, 6, 21]) (bs := []) (gs := [0])
          (L' := [(22, .v (.int .i64 ((k + 1 : Nat) : Int))), (7, .v (.int .u64 ((t / 4294967296 : Nat) : Int))), (0, .v (.slice ad xs.length cap)), (1, .v (.slice bd ys.length dap)), (5, .row 0), (16, .v (.int .i64 ((xs.length : Nat) : Int))), (17, .v (.int .i64 ((i : Nat) : Int))), (6, .v (.int .i64 ((i : Nat) : Int))), (21, .v (.int .i64 ((ys.length : Nat) : Int)))])
          (H' := []) (G' := [⟨0, 68, 1, (xs.length + ys.length), ((ints .u32 zt).set (i + k) (.int .u32 ((t % 4294967296 : Nat) : Int)))⟩]) (k' := 1) hR hI (by kernel_rfl)
          (.cons (inR_i64 (n := ((k : Nat) : Int) + (1 : Int)) (by omega)) .nil) (fun e17 a17 w17 hag hR hI => ?_)
      refine then_n ?_
      rw [ints_set] at hR
      exact ⟨(k + 1, t / 4294967296, zt.set (i + k) (t % 4294967296)), e17, ⟨by rw [List.length_set]; exact htl, dig_set htd _ (Nat.mod_lt _ (by decide)), by omega, by omega, by rw [← Nat.add_assoc, drop_set_lt (by omega)]; exact drop_succ_of hdr, by rw [← Nat.add_assoc]; exact mul_step (by omega) hdr hvt ht⟩, by (try dsimp only); omega, hR.sel [] [0] (by kernel_rfl) (by kernel_rfl), hI.sel [0, 1, 5, 16, 17, 6, 7, 21, 22] (by kernel_rfl)⟩
    · skip
      replace hI := hI.re 23 (.v (.bool false)) rfl (congrArg Value.bool hc12)
      try simp only [decide_eq_true_eq, decide_eq_false_iff_not, beq_iff_eq, bne_iff_ne, beq_eq_false_iff_ne, bne_eq_false_iff_eq, Bool.and_eq_true, Bool.and_eq_false_iff, Bool.or_eq_true, Bool.or_eq_false_iff, Bool.not_eq_true', Bool.not_eq_false', ne_eq] at hc12
      refine wp_exit ?_
      refine exit_then ?_
      refine exit_then ?_
      refine exit_hit ?_
      refine then_n ?_
      refine reg_all tab (k := 1) (hs := [(4, .nw), (6, .nw)]) (sy := []) (ks := [0, 1, 5, 16, 17]) (bs := []) (gs := [0])
          (L' := [(0, .v (.slice ad xs.length cap)), (1, .v (.slice bd ys.length dap)), (5, .row 0), (16, .v (.int .i64 ((xs.length : Nat) : Int))), (17, .v (.int .i64 ((i : Nat) : Int)))])
          (H' := []) (G' := [⟨0, 68, 1, (xs.length + ys.length), ((ints .u32 zt).set (i + ys.length) (.int .u32 ((c : Nat) : Int)))⟩]) (k' := 1) hR hI (by kernel_rfl)
          (.cons (inR_i64 (n := ((i : Nat) : Int) + ((ys.length : Nat) : Int)) (by omega)) (.cons (inR_u32 (n := ((c : Nat) : Int)) (by omega)) (.cons (by omega : (0 : Int) ≤ ((i + ys.length : Nat) : Int) ∧ ((i + ys.length : Nat) : Int) < ((xs.length + ys.length : Nat) : Int)) (.cons (by omega : i + ys.length < (xs.length + ys.length) * 1) .nil)))) (fun e18 a18 w18 hag hR hI => ?_)
      refine normal_block ?_
      refine then_n ?_
      refine reg_all tab (k := 1) (hs := [(0, .nw)]) (sy := []) (ks := [17, 0, 1, 5, 16]) (bs := []) (gs := [0])
          (L' := [(17, .v (.int .i64 ((i + 1 : Nat) : Int))), (0, .v (.slice ad xs.length cap)), (1, .v (.slice bd ys.length dap)), (5, .row 0), (16, .v (.int .i64 ((xs.length : Nat) : Int)))])
          (H' := []) (G' := [⟨0, 68, 1, (xs.length + ys.length), ((ints .u32 zt).set (i + ys.length) (.int .u32 ((c : Nat) : Int)))⟩]) (k' := 1) hR hI (by kernel_rfl)
          (.cons (inR_i64 (n := ((i : Nat) : Int) + (1 : Int)) (by omega)) .nil) (fun e19 a19 w19 hag hR hI => ?_)
      refine then_n ?_
      rw [ints_set] at hR
      exact ⟨(i + 1, zt.set (i + ys.length) c), e19, mul_next (by omega) hzl hzd htl htd hcb (by omega) hdr hz0 hv hvt, by (try dsimp only); omega, hR.sel [] [0] (by kernel_rfl) (by kernel_rfl), hI.sel [0, 1, 5, 16, 17] (by kernel_rfl)⟩
  · skip
    replace hI := hI.re 18 (.v (.bool false)) rfl (congrArg Value.bool hc6)
    try simp only [decide_eq_true_eq, decide_eq_false_iff_not, beq_iff_eq, bne_iff_ne, beq_eq_false_iff_ne, bne_eq_false_iff_eq, Bool.and_eq_true, Bool.and_eq_false_iff, Bool.or_eq_true, Bool.or_eq_false_iff, Bool.not_eq_true', Bool.not_eq_false', ne_eq] at hc6
    refine wp_exit ?_
    refine exit_then ?_
    refine exit_then ?_
    refine exit_hit ?_
    refine then_n ?_
    refine wp_seq ?_
    refine reg (is := [0, 1, 2]) (by kernel_rfl) ?_
    refine part_ tab [0] [1, 2] (by rfl) (k := 1) (hs := []) (sy := []) (ks := [65]) (bs := []) (gs := [0])
        (L' := [(65, .row 0)])
        (H' := []) (G' := [⟨0, 68, 1, (xs.length + ys.length), (ints .u32 zs)⟩]) (k' := 1) hR hI (by kernel_rfl)
        .nil (fun e20 a20 w20 hag hR hI => ?_)
    obtain ⟨hB_, hR_, hrel_, zd, zc, hv_, hcells_, hlen_, hcap_, hmax_⟩ := hB.release hR (y := ⟨0, 68, 1, (xs.length + ys.length), (ints .u32 zs)⟩) (by simp) rfl _ dropN_mem
    replace hx := hx.rel hrel_
    replace hy := hy.rel hrel_
    have hz : Sl .u32 4294967296 _ _ zd zc zs := ⟨hcells_, hzd, (by dsimp only at hlen_ hcap_; rw [ints_length] at hlen_; omega), hmax_⟩
    replace hI := hI.re 65 (.v (.slice zd (xs.length + ys.length) zc)) rfl hv_
    replace hB := hB_; replace hR := hR_.sel [] [] (by kernel_rfl : selH _ _ = some []) (by kernel_rfl : selG _ _ = some []); clear hB_ hR_ hrel_ hcells_ hv_
    replace hI := hI.re 65 (.v (.slice zd zs.length zc)) rfl (by simp only [den]; rw [hzl])
    refine callOp (ys := [.v (.slice zd zs.length zc)]) hI rfl rfl ⟨_, rfl, rfl, rfl⟩ (by kernel_rfl) Try.func42 rfl rfl ?_
    refine (trim_mag (hz.now hB hR)).mono ?_
    rintro ex w21 ⟨us, rfl, hk, hus, hvus, htus, hlus⟩
    replace hx := hx.next hB hR hk
    replace hy := hy.next hB hR hk
    replace hz := hz.next hB hR hk
    have hB_ := hB.next hR hk
    replace hR := hR.after hk
    replace hB := hB_; clear hB_ hk
    refine ⟨_, rfl, ?_⟩
    replace hI := hI.put (d := some 66) (x := .v (.slice zd us.length zc)) (by intro t ht; cases ht; decide) rfl
    replace hI := hI.sel [66, 65] (by kernel_rfl : sel _ _ = some [(66, .v (.slice zd us.length zc)), (65, .v (.slice zd zs.length zc))])
    refine part_ tab [2] [] (by rfl) (k := 1) (hs := []) (sy := []) (ks := [4]) (bs := []) (gs := [])
        (L' := [(4, .v (.slice zd us.length zc))])
        (H' := []) (G' := []) (k' := 1) hR hI (by kernel_rfl)
        .nil (fun e22 a22 w22 hag hR hI => ?_)
    refine ops_nil ?_
    refine then_n ?_
    refine wp_ret ?_
    refine outN tab (xs := [.v (.slice zd us.length zc)]) hR hI rfl (by kernel_rfl) ?_
    obtain rfl : i = xs.length := by omega
    rw [List.take_of_length_le (Nat.le_refl _)] at hv
    exact ⟨us, zd, zc, rfl, hB.fin hR, hus.fin hB hR, hvus.trans hv, htus, by omega⟩

set_option maxHeartbeats 4000000 in
set_option maxRecDepth 100000 in
theorem magDiv_spec {C : Nat → Prop} {w : World} {ad bd : Option Addr} {cap dap : Nat} {xs ys : List Nat} (hx : Sl .u32 4294967296 C w ad cap xs) (hy : Sl .u32 4294967296 C w bd dap ys) (hty : Trim ys) (hpos : 0 < val ys) (hlen : xs.length + ys.length ≤ 100000) :
    Calls P 45 #[.slice ad xs.length cap, .slice bd ys.length dap] w fun ex w' => ∃ qs qd qc rs rd rc, ex = .returned (.tuple #[.slice qd (List.length qs) qc, .slice rd (List.length rs) rc]) ∧ Keep (fun b => b < w.heap.size) w w' ∧ Sl .u32 4294967296 (Grow C w w') w' qd qc qs ∧ Sl .u32 4294967296 (Grow C w w') w' rd rc rs ∧
      val qs = val xs / val ys ∧ val rs = val xs % val ys ∧ Trim qs ∧ Trim rs ∧ qs.length ≤ xs.length ∧ rs.length ≤ ys.length := by
  refine doorN (e := e0) (vs := [.v (.slice ad xs.length cap), .v (.slice bd ys.length dap)]) (n := 56) (m := 2) Try.func45 rfl rfl rfl (by decide) fun a_ hI => ?_
  replace hI : Is 56 [] e0 [(0, .v (.slice ad xs.length cap)), (1, .v (.slice bd ys.length dap))] a_ := hI
  have hR : Rel (fun b => b < w.heap.size) w e0 [] [] w := Rel.start (fun k hk => hk)
  have hB : Base C w C (fun b => b < w.heap.size) w := Base.start
  have hrx := hx.room; have hmx := hx.max; have hry := hy.room; have hmy := hy.max; have hyd := hy.dig; have hxd := hx.dig
  refine reg_seq tab (k := 0) (hs := []) (sy := []) (ks := [5, 0, 1]) (bs := []) (gs := [])
      (L' := [(5, .v (.slice none 0 0)), (0, .v (.slice ad xs.length cap)), (1, .v (.slice bd ys.length dap))])
      (H' := []) (G' := []) (k' := 0) hR hI (by kernel_rfl)
      .nil (fun e1 a1 w1 hag hR hI => ?_)
  refine reg_seq tab (k := 0) (hs := []) (sy := []) (ks := [4, 5, 0, 1]) (bs := []) (gs := [0])
      (L' := [(4, .row 0), (5, .v (.slice none 0 0)), (0, .v (.slice ad xs.length cap)), (1, .v (.slice bd ys.length dap))])
      (H' := []) (G' := [⟨0, 68, 1, xs.length, (List.replicate xs.length (.int .u32 0))⟩]) (k' := 1) hR hI (by kernel_rfl)
      (.cons (by omega : (0 : Int) ≤ ((xs.length : Nat) : Int) ∧ ((xs.length : Nat) : Int) ≤ ((xs.length : Nat) : Int)) (.cons (by omega : ((4 : Nat) : Int) * ((xs.length : Nat) : Int) ≤ 281474976710656) (.cons (by have hm_ : maxLen = 9223372036854775807 := rfl; rw [hm_]; omega : xs.length ≤ maxLen) .nil))) (fun e2 a2 w2 hag hR hI => ?_)
  have er_ : List.replicate xs.length (Value.int .u32 0) = ints .u32 (List.replicate xs.length 0) := ints_replicate .u32 xs.length 0
  rw [er_] at hR
  have hren_ : Sy.ren [(0, 0)] ⟨[(4, .row 0), (5, .v (.slice none 0 0)), (0, .v (.slice ad xs.length cap)), (1, .v (.slice bd ys.length dap))], [], [⟨0, 68, 1, xs.length, (ints .u32 (List.replicate xs.length 0))⟩], 0⟩ = ⟨[(4, .row 0), (5, .v (.slice none 0 0)), (0, .v (.slice ad xs.length cap)), (1, .v (.slice bd ys.length dap))], [], [⟨0, 68, 1, xs.length, (ints .u32 (List.replicate xs.length 0))⟩], 0⟩ := by kernel_rfl
  replace hI := hI.rename (S := ⟨[(4, .row 0), (5, .v (.slice none 0 0)), (0, .v (.slice ad xs.length cap)), (1, .v (.slice bd ys.length dap))], [], [⟨0, 68, 1, xs.length, (ints .u32 (List.replicate xs.length 0))⟩], 0⟩) (S' := ⟨[(4, .row 0), (5, .v (.slice none 0 0)), (0, .v (.slice ad xs.length cap)), (1, .v (.slice bd ys.length dap))], [], [⟨0, 68, 1, xs.length, (ints .u32 (List.replicate xs.length 0))⟩], 0⟩) hren_; replace hR := hR.rename (S := ⟨[(4, .row 0), (5, .v (.slice none 0 0)), (0, .v (.slice ad xs.length cap)), (1, .v (.slice bd ys.length dap))], [], [⟨0, 68, 1, xs.length, (ints .u32 (List.replicate xs.length 0))⟩], 0⟩) (S' := ⟨[(4, .row 0), (5, .v (.slice none 0 0)), (0, .v (.slice ad xs.length cap)), (1, .v (.slice bd ys.length dap))], [], [⟨0, 68, 1, xs.length, (ints .u32 (List.replicate xs.length 0))⟩], 0⟩) hren_ (by kernel_rfl) (by kernel_rfl); dsimp only at hI hR; clear hren_
  refine wp_seq ?_
  refine reg_seq tab (k := 1) (hs := [(2, .nw), (3, .nw)]) (sy := []) (ks := [6, 4, 5, 0, 1]) (bs := []) (gs := [0])
      (L' := [(6, .v (.int .i64 (((32 * xs.length : Nat) : Int) - (1 : Int)))), (4, .row 0), (5, .v (.slice none 0 0)), (0, .v (.slice ad xs.length cap)), (1, .v (.slice bd ys.length dap))])
      (H' := []) (G' := [⟨0, 68, 1, xs.length, (ints .u32 (List.replicate xs.length 0))⟩]) (k' := 1) hR hI (by kernel_rfl)
      (.cons (inR_i64 (n := (32 : Int) * ((xs.length : Nat) : Int)) (by omega)) (.cons (inR_i64 (n := ((32 * xs.length : Nat) : Int) - (1 : Int)) (by omega)) .nil)) (fun e3 a3 w3 hag hR hI => ?_)
  refine wp_block ?_
  refine lpM (γ := Nat × List Nat × Option Addr × Nat × List Nat) (fun (n, qs, rd, rc, rs) => (⟨[(0, .v (.slice ad xs.length cap)), (1, .v (.slice bd ys.length dap)), (4, .row 0), (5, .v (.slice rd rs.length rc)), (6, .v (.int .i64 (((n : Nat) : Int) - (1 : Int))))], [], [⟨0, 68, 1, xs.length, (ints .u32 qs)⟩], 1⟩ : Sy)) (fun (n, qs, rd, rc, rs) e C F wb => Sl .u32 4294967296 C wb ad cap xs ∧ Sl .u32 4294967296 C wb bd dap ys ∧ Sl .u32 4294967296 C wb rd rc rs ∧ Trim rs ∧ n ≤ 32 * xs.length ∧ val rs < val ys ∧ qs.length = xs.length ∧ Dig qs ∧ val xs / 2 ^ n = val qs / 2 ^ n * val ys + val rs ∧ val qs % 2 ^ n = 0) (fun (n, qs, rd, rc, rs) => n) (32 * xs.length, List.replicate xs.length 0, none, 0, []) hB (⟨hx, hy, Sl.nil, .inl rfl, Nat.le_refl _, hpos, List.length_replicate .., dig_replicate _, div_start hxd rfl _⟩)
      (hR.sel [] [0] (by kernel_rfl) (by kernel_rfl)) (hI.sel [0, 1, 4, 5, 6] (by kernel_rfl)) ?_
  clear hR hI hB
  rintro ⟨n, qs, rd, rc, rs⟩ e4 C4 F4 wb4 a4 w4 hB hp hR hI
  dsimp only at hp hR hI
  obtain ⟨hx, hy, hr, htr, hn, hlt, hql, hqd, heq, hqz⟩ := hp; have hlr := len_lt_of_val hyd htr hlt
  refine wp_seq ?_
  refine reg_seq tab (k := 1) (hs := []) (sy := []) (ks := [15, 0, 1, 4, 5, 6]) (bs := []) (gs := [0])
      (L' := [(15, .v (.bool (decide (((n : Nat) : Int) - (1 : Int) ≥ (0 : Int))))), (0, .v (.slice ad xs.length cap)), (1, .v (.slice bd ys.length dap)), (4, .row 0), (5, .v (.slice rd rs.length rc)), (6, .v (.int .i64 (((n : Nat) : Int) - (1 : Int))))])
      (H' := []) (G' := [⟨0, 68, 1, xs.length, (ints .u32 qs)⟩]) (k' := 1) hR hI (by kernel_rfl)
      .nil (fun e5 a5 w5 hag hR hI => ?_)
  refine cnd (b := decide (((n : Nat) : Int) - (1 : Int) ≥ (0 : Int))) hI (by kernel_rfl) (fun hc6 => ?_) (fun hc6 => ?_)
  · skip
    replace hI := hI.re 15 (.v (.bool true)) rfl (congrArg Value.bool hc6)
    try simp only [decide_eq_true_eq, decide_eq_false_iff_not, beq_iff_eq, bne_iff_ne, beq_eq_false_iff_ne, bne_eq_false_iff_eq, Bool.and_eq_true, Bool.and_eq_false_iff, Bool.or_eq_true, Bool.or_eq_false_iff, Bool.not_eq_true', Bool.not_eq_false', ne_eq] at hc6
    obtain ⟨m, rfl⟩ : ∃ m, n = m + 1 := ⟨n - 1, by omega⟩
    replace hI := hI.re 6 (.v (.int .i64 ((m : Nat) : Int))) rfl (congrArg (Value.int .i64) (by omega))
    refine wp_skip ?_
    refine then_n ?_
    refine wp_seq ?_
    refine wp_block ?_
    refine wp_seq ?_
    refine reg (is := [0, 1, 2, 3]) (by kernel_rfl) ?_
    refine part_ tab [0, 1] [2, 3] (by rfl) (k := 1) (hs := []) (sy := []) (ks := [19, 18, 6, 0, 1, 4, 5]) (bs := []) (gs := [0])
        (L' := [(19, .v (.slice rd rs.length rc)), (18, .v (.slice rd rs.length rc)), (6, .v (.int .i64 ((m : Nat) : Int))), (0, .v (.slice ad xs.length cap)), (1, .v (.slice bd ys.length dap)), (4, .row 0), (5, .v (.slice rd rs.length rc))])
        (H' := []) (G' := [⟨0, 68, 1, xs.length, (ints .u32 qs)⟩]) (k' := 1) hR hI (by kernel_rfl)
        .nil (fun e7 a7 w7 hag hR hI => ?_)
    refine callOp (ys := [.v (.slice rd rs.length rc), .v (.slice rd rs.length rc)]) hI rfl rfl ⟨_, rfl, rfl, rfl⟩ (by kernel_rfl) Try.func46 rfl rfl ?_
    refine (magAdd_spec (hr.now hB hR) (hr.now hB hR) (by omega)).mono ?_
    rintro ex w8 ⟨p1, p1d, p1c, rfl, hk, hp1, hvp1, hlp1⟩
    replace hr := hr.next hB hR hk
    replace hx := hx.next hB hR hk
    replace hy := hy.next hB hR hk
    have hB_ := hB.next hR hk
    replace hR := hR.after hk
    replace hB := hB_; clear hB_ hk
    refine ⟨_, rfl, ?_⟩
    replace hI := hI.put (d := some 20) (x := .v (.slice p1d p1.length p1c)) (by intro t ht; cases ht; decide) rfl
    replace hI := hI.sel [20, 19, 18, 6, 0, 1, 4, 5] (by kernel_rfl : sel _ _ = some [(20, .v (.slice p1d p1.length p1c)), (19, .v (.slice rd rs.length rc)), (18, .v (.slice rd rs.length rc)), (6, .v (.int .i64 ((m : Nat) : Int))), (0, .v (.slice ad xs.length cap)), (1, .v (.slice bd ys.length dap)), (4, .row 0), (5, .v (.slice rd rs.length rc))])
    refine part_ tab [3] [] (by rfl) (k := 1) (hs := []) (sy := []) (ks := [5, 6, 0, 1, 4]) (bs := []) (gs := [0])
        (L' := [(5, .v (.slice p1d p1.length p1c)), (6, .v (.int .i64 ((m : Nat) : Int))), (0, .v (.slice ad xs.length cap)), (1, .v (.slice bd ys.length dap)), (4, .row 0)])
        (H' := []) (G' := [⟨0, 68, 1, xs.length, (ints .u32 qs)⟩]) (k' := 1) hR hI (by kernel_rfl)
        .nil (fun e9 a9 w9 hag hR hI => ?_)
    refine ops_nil ?_
    refine then_n ?_
    refine wp_seq ?_
    obtain ⟨b, hb⟩ : ∃ b, b = xs.getD (m / 32) 0 / 2 ^ (m % 32) % 2 := ⟨_, rfl⟩; have hb2 : b < 2 := by rw [hb]; exact Nat.mod_lt _ (by decide)
    have hgx := hx.get (m / 32) (by decide)
    refine reg_seq tab (k := 1) (hs := [(2, .nw), (4, .val (.v (.int .u32 ((xs.getD (m / 32) 0 : Nat) : Int)))), (6, .nw), (8, .eq (.int .u32 ((b : Nat) : Int)))]) (sy := []) (ks := [30, 5, 6, 0, 1, 4]) (bs := []) (gs := [0])
        (L' := [(30, .v (.bool (((b : Nat) : Int) == (1 : Int)))), (5, .v (.slice p1d p1.length p1c)), (6, .v (.int .i64 ((m : Nat) : Int))), (0, .v (.slice ad xs.length cap)), (1, .v (.slice bd ys.length dap)), (4, .row 0)])
        (H' := []) (G' := [⟨0, 68, 1, xs.length, (ints .u32 qs)⟩]) (k' := 1) hR hI (by kernel_rfl)
        (.cons (by omega : (0 : Int) ≤ ((m : Nat) : Int)) (.cons (by omega : (0 : Int) < (32 : Int)) (.cons (inR_i64 (n := ((m : Nat) : Int) / (32 : Int)) (by omega)) (.cons (by omega : (0 : Int) ≤ ((m / 32 : Nat) : Int) ∧ ((m / 32 : Nat) : Int) < ((xs.length : Nat) : Int)) (.cons (nats_some (i := m / 32) (hx.cells.mono hB.cls) (by omega)) (.cons (nats_load (i := m / 32) (m := 1) (hx.cells.mono hB.cls) (by omega)) (.cons (by omega : (0 : Int) ≤ ((m : Nat) : Int)) (.cons (by omega : (0 : Int) < (32 : Int)) (.cons (by omega : (0 : Int) ≤ ((m % 32 : Nat) : Int)) (.cons (by show _ ≤ (32 : Int); omega : ((m % 32 : Nat) : Int) ≤ (IntKind.u32.bits : Int)) (.cons (congrArg (Value.int .u32) ((u32_bit _ (Nat.lt_of_le_of_lt (Nat.div_le_self _ _) hgx)).trans (by rw [hb]) : bits .and .u32 (((xs.getD (m / 32) 0) / 2 ^ (m % 32) : Nat) : Int) (1 : Int) = ((b : Nat) : Int))) .nil))))))))))) (fun e10 a10 w10 hag hR hI => ?_)
    refine joinM (γ := Option Addr × Nat × List Nat) hB hI (fun (sd, sc, ss) => (⟨[(0, .v (.slice ad xs.length cap)), (1, .v (.slice bd ys.length dap)), (4, .row 0), (5, .v (.slice sd ss.length sc)), (6, .v (.int .i64 ((m : Nat) : Int)))], [], [⟨0, 68, 1, xs.length, (ints .u32 qs)⟩], 1⟩ : Sy)) (fun (sd, sc, ss) e C F wb => Sl .u32 4294967296 C wb ad cap xs ∧ Sl .u32 4294967296 C wb bd dap ys ∧ Sl .u32 4294967296 C wb sd sc ss ∧ val ss = 2 * val rs + b ∧ ss.length ≤ 2 * rs.length + 3) ?_ ?_
    · skip
      refine cnd (b := (((b : Nat) : Int) == (1 : Int))) hI (by kernel_rfl) (fun hc11 => ?_) (fun hc11 => ?_)
      · skip
        replace hI := hI.re 30 (.v (.bool true)) rfl (congrArg Value.bool hc11)
        try simp only [decide_eq_true_eq, decide_eq_false_iff_not, beq_iff_eq, bne_iff_ne, beq_eq_false_iff_ne, bne_eq_false_iff_eq, Bool.and_eq_true, Bool.and_eq_false_iff, Bool.or_eq_true, Bool.or_eq_false_iff, Bool.not_eq_true', Bool.not_eq_false', ne_eq] at hc11
        refine reg (is := [0, 1, 2, 3]) (by kernel_rfl) ?_
        refine part_ tab [0, 1] [2, 3] (by rfl) (k := 1) (hs := []) (sy := []) (ks := [32, 31, 5, 6, 0, 1, 4]) (bs := [1]) (gs := [0])
            (L' := [(32, .sl 1 0 1 1), (31, .v (.slice p1d p1.length p1c)), (5, .v (.slice p1d p1.length p1c)), (6, .v (.int .i64 ((m : Nat) : Int))), (0, .v (.slice ad xs.length cap)), (1, .v (.slice bd ys.length dap)), (4, .row 0)])
            (H' := [⟨1, 68, [.v (.int .u32 1)]⟩]) (G' := [⟨0, 68, 1, xs.length, (ints .u32 qs)⟩]) (k' := 2) hR hI (by kernel_rfl)
            .nil (fun e12 a12 w12 hag hR hI => ?_)
        obtain ⟨e13, hag_, hr_, hR_⟩ := hR.litRow (L := [(32, .sl 1 0 1 1), (31, .v (.slice p1d p1.length p1c)), (5, .v (.slice p1d p1.length p1c)), (6, .v (.int .i64 ((m : Nat) : Int))), (0, .v (.slice ad xs.length cap)), (1, .v (.slice bd ys.length dap)), (4, .row 0)]) 2 [] (by kernel_rfl) (b := ⟨1, 68, [.v (.int .u32 1)]⟩) (by simp) (by simp) (n := 1) (sz := 1) (xs := ints .u32 [1]) rfl rfl (by decide)
        replace hI := hI.agreeB (H := []) (G := [⟨0, 68, 1, xs.length, (ints .u32 qs)⟩]) (by kernel_rfl) hag_; replace hR := hR_; replace hI := hI.re 32 (.row 2) rfl hr_.symm; clear hag_ hr_ hR_
        obtain ⟨hB_, hR_, hrel_, od, oc, hv_, hcells_, hlen_, hcap_, hmax_⟩ := hB.release hR (y := ⟨2, 68, 1, 1, (ints .u32 [1])⟩) (by simp) rfl _ dropN_mem
        replace hp1 := hp1.rel hrel_
        replace hr := hr.rel hrel_
        replace hx := hx.rel hrel_
        replace hy := hy.rel hrel_
        have ho : Sl .u32 4294967296 _ _ od oc [1] := ⟨hcells_, dig_one, (by dsimp only at hlen_ hcap_; rw [ints_length] at hlen_; omega), hmax_⟩
        replace hI := hI.re 32 (.v (.slice od 1 oc)) rfl hv_
        replace hB := hB_; replace hR := hR_.sel [] [0] (by kernel_rfl : selH _ _ = some []) (by kernel_rfl : selG _ _ = some [⟨0, 68, 1, xs.length, (ints .u32 qs)⟩]); clear hB_ hR_ hrel_ hcells_ hv_
        refine callOp (ys := [.v (.slice p1d p1.length p1c), .v (.slice od 1 oc)]) hI rfl rfl ⟨_, rfl, rfl, rfl⟩ (by kernel_rfl) Try.func46 rfl rfl ?_
        refine (magAdd_spec (hp1.now hB hR) (ho.now hB hR) (by (have e1 : [1].length = 1 := rfl); omega)).mono ?_
        rintro ex w14 ⟨p2, p2d, p2c, rfl, hk, hp2, hvp2, hlp2⟩
        replace ho := ho.next hB hR hk
        replace hp1 := hp1.next hB hR hk
        replace hr := hr.next hB hR hk
        replace hx := hx.next hB hR hk
        replace hy := hy.next hB hR hk
        have hB_ := hB.next hR hk
        replace hR := hR.after hk
        replace hB := hB_; clear hB_ hk
        refine ⟨_, rfl, ?_⟩
        replace hI := hI.put (d := some 33) (x := .v (.slice p2d p2.length p2c)) (by intro t ht; cases ht; decide) rfl
        replace hI := hI.sel [33, 32, 31, 5, 6, 0, 1, 4] (by kernel_rfl : sel _ _ = some [(33, .v (.slice p2d p2.length p2c)), (32, .v (.slice od 1 oc)), (31, .v (.slice p1d p1.length p1c)), (5, .v (.slice p1d p1.length p1c)), (6, .v (.int .i64 ((m : Nat) : Int))), (0, .v (.slice ad xs.length cap)), (1, .v (.slice bd ys.length dap)), (4, .row 0)])
        refine part_ tab [3] [] (by rfl) (k := 3) (hs := []) (sy := []) (ks := [5, 6, 0, 1, 4]) (bs := []) (gs := [0])
            (L' := [(5, .v (.slice p2d p2.length p2c)), (6, .v (.int .i64 ((m : Nat) : Int))), (0, .v (.slice ad xs.length cap)), (1, .v (.slice bd ys.length dap)), (4, .row 0)])
            (H' := []) (G' := [⟨0, 68, 1, xs.length, (ints .u32 qs)⟩]) (k' := 3) hR hI (by kernel_rfl)
            .nil (fun e15 a15 w15 hag hR hI => ?_)
        refine ops_nil ?_
        refine then_n ?_
        exact ⟨(p2d, p2c, p2), _, _, _, _, hB, ⟨hx, hy, hp2, by rw [hvp2, hvp1, val_one]; omega, by (have e1 : [1].length = 1 := rfl); omega⟩, hR.sel [] [0] (by kernel_rfl) (by kernel_rfl), hI.sel [0, 1, 4, 5, 6] (by kernel_rfl)⟩
      · skip
        replace hI := hI.re 30 (.v (.bool false)) rfl (congrArg Value.bool hc11)
        try simp only [decide_eq_true_eq, decide_eq_false_iff_not, beq_iff_eq, bne_iff_ne, beq_eq_false_iff_ne, bne_eq_false_iff_eq, Bool.and_eq_true, Bool.and_eq_false_iff, Bool.or_eq_true, Bool.or_eq_false_iff, Bool.not_eq_true', Bool.not_eq_false', ne_eq] at hc11
        refine wp_skip ?_
        refine then_n ?_
        exact ⟨(p1d, p1c, p1), _, _, _, _, hB, ⟨hx, hy, hp1, by omega, by omega⟩, hR.sel [] [0] (by kernel_rfl) (by kernel_rfl), hI.sel [0, 1, 4, 5, 6] (by kernel_rfl)⟩
    · clear hR hI hB
      rintro ⟨sd, sc, ss⟩ e16 C16 F16 wb16 a16 w16 hB hp hR hI
      dsimp only at hp hR hI
      obtain ⟨hx, hy, hs, hvs, hls⟩ := hp
      refine wp_seq ?_
      refine reg (is := [0, 1, 2]) (by kernel_rfl) ?_
      refine part_ tab [0] [1, 2] (by rfl) (k := 1) (hs := []) (sy := []) (ks := [34, 0, 1, 4, 5, 6]) (bs := []) (gs := [0])
          (L' := [(34, .v (.slice sd ss.length sc)), (0, .v (.slice ad xs.length cap)), (1, .v (.slice bd ys.length dap)), (4, .row 0), (5, .v (.slice sd ss.length sc)), (6, .v (.int .i64 ((m : Nat) : Int)))])
          (H' := []) (G' := [⟨0, 68, 1, xs.length, (ints .u32 qs)⟩]) (k' := 1) hR hI (by kernel_rfl)
          .nil (fun e17 a17 w17 hag hR hI => ?_)
      refine callOp (ys := [.v (.slice sd ss.length sc)]) hI rfl rfl ⟨_, rfl, rfl, rfl⟩ (by kernel_rfl) Try.func42 rfl rfl ?_
      refine (trim_mag (hs.now hB hR)).mono ?_
      rintro ex w18 ⟨us, rfl, hk, hus, hvus, htus, hlus⟩
      replace hs := hs.next hB hR hk
      replace hx := hx.next hB hR hk
      replace hy := hy.next hB hR hk
      have hB_ := hB.next hR hk
      replace hR := hR.after hk
      replace hB := hB_; clear hB_ hk
      refine ⟨_, rfl, ?_⟩
      replace hI := hI.put (d := some 35) (x := .v (.slice sd us.length sc)) (by intro t ht; cases ht; decide) rfl
      replace hI := hI.sel [35, 34, 0, 1, 4, 5, 6] (by kernel_rfl : sel _ _ = some [(35, .v (.slice sd us.length sc)), (34, .v (.slice sd ss.length sc)), (0, .v (.slice ad xs.length cap)), (1, .v (.slice bd ys.length dap)), (4, .row 0), (5, .v (.slice sd ss.length sc)), (6, .v (.int .i64 ((m : Nat) : Int)))])
      refine part_ tab [2] [] (by rfl) (k := 1) (hs := []) (sy := []) (ks := [5, 0, 1, 4, 6]) (bs := []) (gs := [0])
          (L' := [(5, .v (.slice sd us.length sc)), (0, .v (.slice ad xs.length cap)), (1, .v (.slice bd ys.length dap)), (4, .row 0), (6, .v (.int .i64 ((m : Nat) : Int)))])
          (H' := []) (G' := [⟨0, 68, 1, xs.length, (ints .u32 qs)⟩]) (k' := 1) hR hI (by kernel_rfl)
          .nil (fun e19 a19 w19 hag hR hI => ?_)
      refine ops_nil ?_
      refine then_n ?_
      refine wp_seq ?_
      refine reg (is := [0, 1, 2, 3]) (by kernel_rfl) ?_
      refine part_ tab [0, 1] [2, 3] (by rfl) (k := 1) (hs := []) (sy := []) (ks := [37, 36, 5, 0, 1, 4, 6]) (bs := []) (gs := [0])
          (L' := [(37, .v (.slice bd ys.length dap)), (36, .v (.slice sd us.length sc)), (5, .v (.slice sd us.length sc)), (0, .v (.slice ad xs.length cap)), (1, .v (.slice bd ys.length dap)), (4, .row 0), (6, .v (.int .i64 ((m : Nat) : Int)))])
          (H' := []) (G' := [⟨0, 68, 1, xs.length, (ints .u32 qs)⟩]) (k' := 1) hR hI (by kernel_rfl)
          .nil (fun e20 a20 w20 hag hR hI => ?_)
      refine callOp (ys := [.v (.slice sd us.length sc), .v (.slice bd ys.length dap)]) hI rfl rfl ⟨_, rfl, rfl, rfl⟩ (by kernel_rfl) Try.func44 rfl rfl ?_
      refine (magCmp_spec (hus.now hB hR) (hy.now hB hR) htus hty).mono ?_
      rintro ex w21 ⟨rfl, hk⟩
      replace hR := hR.same hk; clear hk
      refine ⟨_, rfl, ?_⟩
      replace hI := hI.put (d := some 38) (x := .v (.int .i64 (cmpN (val us) (val ys)))) (by intro t ht; cases ht; decide) rfl
      replace hI := hI.sel [38, 37, 36, 5, 0, 1, 4, 6] (by kernel_rfl : sel _ _ = some [(38, .v (.int .i64 (cmpN (val us) (val ys)))), (37, .v (.slice bd ys.length dap)), (36, .v (.slice sd us.length sc)), (5, .v (.slice sd us.length sc)), (0, .v (.slice ad xs.length cap)), (1, .v (.slice bd ys.length dap)), (4, .row 0), (6, .v (.int .i64 ((m : Nat) : Int)))])
      refine part_ tab [3] [] (by rfl) (k := 1) (hs := []) (sy := []) (ks := [39, 5, 0, 1, 4, 6]) (bs := []) (gs := [0])
          (L' := [(39, .v (.bool (decide ((cmpN (val us) (val ys)) ≥ (0 : Int))))), (5, .v (.slice sd us.length sc)), (0, .v (.slice ad xs.length cap)), (1, .v (.slice bd ys.length dap)), (4, .row 0), (6, .v (.int .i64 ((m : Nat) : Int)))])
          (H' := []) (G' := [⟨0, 68, 1, xs.length, (ints .u32 qs)⟩]) (k' := 1) hR hI (by kernel_rfl)
          .nil (fun e22 a22 w22 hag hR hI => ?_)
      refine ops_nil ?_
      refine then_n ?_
      refine cnd (b := decide ((cmpN (val us) (val ys)) ≥ (0 : Int))) hI (by kernel_rfl) (fun hc23 => ?_) (fun hc23 => ?_)
      · skip
        replace hI := hI.re 39 (.v (.bool true)) rfl (congrArg Value.bool hc23)
        try simp only [decide_eq_true_eq, decide_eq_false_iff_not, beq_iff_eq, bne_iff_ne, beq_eq_false_iff_ne, bne_eq_false_iff_eq, Bool.and_eq_true, Bool.and_eq_false_iff, Bool.or_eq_true, Bool.or_eq_false_iff, Bool.not_eq_true', Bool.not_eq_false', ne_eq] at hc23
        have hge := cmpN_ge.1 hc23
        refine wp_seq ?_
        refine reg (is := [0, 1, 2, 3]) (by kernel_rfl) ?_
        refine part_ tab [0, 1] [2, 3] (by rfl) (k := 1) (hs := []) (sy := []) (ks := [41, 40, 5, 0, 1, 4, 6]) (bs := []) (gs := [0])
            (L' := [(41, .v (.slice bd ys.length dap)), (40, .v (.slice sd us.length sc)), (5, .v (.slice sd us.length sc)), (0, .v (.slice ad xs.length cap)), (1, .v (.slice bd ys.length dap)), (4, .row 0), (6, .v (.int .i64 ((m : Nat) : Int)))])
            (H' := []) (G' := [⟨0, 68, 1, xs.length, (ints .u32 qs)⟩]) (k' := 1) hR hI (by kernel_rfl)
            .nil (fun e24 a24 w24 hag hR hI => ?_)
        refine callOp (ys := [.v (.slice sd us.length sc), .v (.slice bd ys.length dap)]) hI rfl rfl ⟨_, rfl, rfl, rfl⟩ (by kernel_rfl) Try.func47 rfl rfl ?_
        refine (magSub_spec (hus.now hB hR) (hy.now hB hR) hty hge (len_pos_of_val (by omega)) (by omega)).mono ?_
        rintro ex w25 ⟨ts, td, tc, rfl, hk, hts, hvts, htts, hlts⟩
        replace hus := hus.next hB hR hk
        replace hx := hx.next hB hR hk
        replace hy := hy.next hB hR hk
        have hB_ := hB.next hR hk
        replace hR := hR.after hk
        replace hB := hB_; clear hB_ hk
        refine ⟨_, rfl, ?_⟩
        replace hI := hI.put (d := some 42) (x := .v (.slice td ts.length tc)) (by intro t ht; cases ht; decide) rfl
        replace hI := hI.sel [42, 41, 40, 5, 0, 1, 4, 6] (by kernel_rfl : sel _ _ = some [(42, .v (.slice td ts.length tc)), (41, .v (.slice bd ys.length dap)), (40, .v (.slice sd us.length sc)), (5, .v (.slice sd us.length sc)), (0, .v (.slice ad xs.length cap)), (1, .v (.slice bd ys.length dap)), (4, .row 0), (6, .v (.int .i64 ((m : Nat) : Int)))])
        refine part_ tab [3] [] (by rfl) (k := 1) (hs := []) (sy := []) (ks := [5, 0, 1, 4, 6]) (bs := []) (gs := [0])
            (L' := [(5, .v (.slice td ts.length tc)), (0, .v (.slice ad xs.length cap)), (1, .v (.slice bd ys.length dap)), (4, .row 0), (6, .v (.int .i64 ((m : Nat) : Int)))])
            (H' := []) (G' := [⟨0, 68, 1, xs.length, (ints .u32 qs)⟩]) (k' := 1) hR hI (by kernel_rfl)
            .nil (fun e26 a26 w26 hag hR hI => ?_)
        refine ops_nil ?_
        refine then_n ?_
        refine regL 10 hR (by kernel_rfl) (fun hS => ?_)
        replace hR := hR.drew; have hF := hR.fore
        refine takeL tab (H := []) (G := [⟨0, 68, 1, xs.length, (ints .u32 qs)⟩]) (hs := [(2, .nw), (4, .val (.v (.int .u32 ((qs.getD (m / 32) 0 : Nat) : Int)))), (6, .nw), (7, .eq (.int .u32 ((1 * 2 ^ (m % 32) : Nat) : Int))), (8, .eq (.int .u32 ((qs.getD (m / 32) 0 + 2 ^ (m % 32) : Nat) : Int)))]) (gs := []) (is := [0, 1, 2, 3, 4, 5, 6, 7, 8, 9]) (ks := [52, 51, 5, 0, 1, 4, 6]) (f' := 1)
            (L' := [(52, .pr 0 (m / 32)), (51, .v (.int .u32 ((qs.getD (m / 32) 0 + 2 ^ (m % 32) : Nat) : Int))), (5, .v (.slice td ts.length tc)), (0, .v (.slice ad xs.length cap)), (1, .v (.slice bd ys.length dap)), (4, .row 0), (6, .v (.int .i64 ((m : Nat) : Int)))]) hS hI (by kernel_rfl) (fun _ _ _ _ _ h => h) (by kernel_rfl)
            (.cons (by omega : (0 : Int) ≤ ((m : Nat) : Int)) (.cons (by omega : (0 : Int) < (32 : Int)) (.cons (inR_i64 (n := ((m : Nat) : Int) / (32 : Int)) (by omega)) (.cons (by omega : (0 : Int) ≤ ((m / 32 : Nat) : Int) ∧ ((m / 32 : Nat) : Int) < ((xs.length : Nat) : Int)) (.cons (ints_get (by omega) : (ints .u32 qs)[m / 32]? = some (.int .u32 ((qs.getD (m / 32) 0 : Nat) : Int))) (.cons (by omega : m / 32 < xs.length * 1) (.cons (by omega : (0 : Int) ≤ ((m : Nat) : Int)) (.cons (by omega : (0 : Int) < (32 : Int)) (.cons (congrArg (Value.int .u32) (shl_one _ (by omega) : IntKind.u32.wrap ((1 : Int) * 2 ^ (m % 32)) = ((1 * 2 ^ (m % 32) : Nat) : Int))) (.cons (by omega : (0 : Int) ≤ ((m % 32 : Nat) : Int)) (.cons (by show _ ≤ (32 : Int); omega : ((m % 32 : Nat) : Int) ≤ (IntKind.u32.bits : Int)) (.cons (congrArg (Value.int .u32) (u32_orpow _ _ (dig_get hqd _) (by omega) (digit_clear hqd m hqz) : bits .or .u32 ((qs.getD (m / 32) 0 : Nat) : Int) ((1 * 2 ^ (m % 32) : Nat) : Int) = ((qs.getD (m / 32) 0 + 2 ^ (m % 32) : Nat) : Int))) (.cons (by omega : (0 : Int) ≤ ((m / 32 : Nat) : Int) ∧ ((m / 32 : Nat) : Int) < ((xs.length : Nat) : Int)) .nil))))))))))))) (by kernel_rfl) (by kernel_rfl) (by kernel_rfl) (by rfl) (fun a27 hI => ?_)
        refine endL (i := 10) (f' := 0) (by kernel_rfl) (by rfl) (by kernel_rfl) ?_
        refine effH tab (k := 1) (hh := .no) (r := ⟨.v (undef), [], [⟨0, 68, 1, xs.length, ((ints .u32 qs).set (m / 32) (.int .u32 ((qs.getD (m / 32) 0 + 2 ^ (m % 32) : Nat) : Int)))⟩], 1, _, true⟩) hR hI (by kernel_rfl) rfl rfl rfl (by kernel_rfl) (.cons (by omega : m / 32 < xs.length * 1) .nil) (fun e28 a28 w28 hag hR2 hI => ?_)
        replace hR := hR2; clear hR2
        replace hI := hI.sel [52, 51, 5, 0, 1, 4, 6] (by kernel_rfl : sel _ _ = some [(52, .pr 0 (m / 32)), (51, .v (.int .u32 ((qs.getD (m / 32) 0 + 2 ^ (m % 32) : Nat) : Int))), (5, .v (.slice td ts.length tc)), (0, .v (.slice ad xs.length cap)), (1, .v (.slice bd ys.length dap)), (4, .row 0), (6, .v (.int .i64 ((m : Nat) : Int)))])
        refine doneL (by kernel_rfl) ?_
        replace hI := hI.sel [5, 0, 1, 4, 6] (by kernel_rfl : sel _ _ = some [(5, .v (.slice td ts.length tc)), (0, .v (.slice ad xs.length cap)), (1, .v (.slice bd ys.length dap)), (4, .row 0), (6, .v (.int .i64 ((m : Nat) : Int)))]); replace hR := hR.sel [] [0] (by kernel_rfl : selH _ _ = some []) (by kernel_rfl : selG _ _ = some [⟨0, 68, 1, xs.length, ((ints .u32 qs).set (m / 32) (.int .u32 ((qs.getD (m / 32) 0 + 2 ^ (m % 32) : Nat) : Int)))⟩])
        refine normal_block ?_
        refine then_n ?_
        refine reg_all tab (k := 1) (hs := [(1, .nw)]) (sy := []) (ks := [6, 5, 0, 1, 4]) (bs := []) (gs := [0])
            (L' := [(6, .v (.int .i64 (((m : Nat) : Int) - (1 : Int)))), (5, .v (.slice td ts.length tc)), (0, .v (.slice ad xs.length cap)), (1, .v (.slice bd ys.length dap)), (4, .row 0)])
            (H' := []) (G' := [⟨0, 68, 1, xs.length, ((ints .u32 qs).set (m / 32) (.int .u32 ((qs.getD (m / 32) 0 + 2 ^ (m % 32) : Nat) : Int)))⟩]) (k' := 1) hR hI (by kernel_rfl)
            (.cons (inR_i64 (n := ((m : Nat) : Int) - (1 : Int)) (by omega)) .nil) (fun e29 a29 w29 hag hR hI => ?_)
        refine then_n ?_
        rw [ints_set] at hR
        exact ⟨(m, qs.set (m / 32) (qs.getD (m / 32) 0 + 2 ^ (m % 32)), td, tc, ts), _, _, _, _, hB, ⟨hx, hy, hts, htts, by omega, by omega, div_next1 hxd hqd hql (by omega) hb heq hqz (by omega) (by omega)⟩, (by (try dsimp only); omega), hR.sel [] [0] (by kernel_rfl) (by kernel_rfl), hI.sel [0, 1, 4, 5, 6] (by kernel_rfl)⟩
      · skip
        replace hI := hI.re 39 (.v (.bool false)) rfl (congrArg Value.bool hc23)
        try simp only [decide_eq_true_eq, decide_eq_false_iff_not, beq_iff_eq, bne_iff_ne, beq_eq_false_iff_ne, bne_eq_false_iff_eq, Bool.and_eq_true, Bool.and_eq_false_iff, Bool.or_eq_true, Bool.or_eq_false_iff, Bool.not_eq_true', Bool.not_eq_false', ne_eq] at hc23
        have hge : ¬ val ys ≤ val us := fun h => hc23 (cmpN_ge.2 h)
        refine wp_skip ?_
        refine normal_block ?_
        refine then_n ?_
        refine reg_all tab (k := 1) (hs := [(1, .nw)]) (sy := []) (ks := [6, 5, 0, 1, 4]) (bs := []) (gs := [0])
            (L' := [(6, .v (.int .i64 (((m : Nat) : Int) - (1 : Int)))), (5, .v (.slice sd us.length sc)), (0, .v (.slice ad xs.length cap)), (1, .v (.slice bd ys.length dap)), (4, .row 0)])
            (H' := []) (G' := [⟨0, 68, 1, xs.length, (ints .u32 qs)⟩]) (k' := 1) hR hI (by kernel_rfl)
            (.cons (inR_i64 (n := ((m : Nat) : Int) - (1 : Int)) (by omega)) .nil) (fun e30 a30 w30 hag hR hI => ?_)
        refine then_n ?_
        exact ⟨(m, qs, sd, sc, us), _, _, _, _, hB, ⟨hx, hy, hus, htus, by omega, by omega, div_next0 hxd hqd hql hb heq hqz (by omega)⟩, (by (try dsimp only); omega), hR.sel [] [0] (by kernel_rfl) (by kernel_rfl), hI.sel [0, 1, 4, 5, 6] (by kernel_rfl)⟩
  · skip
    replace hI := hI.re 15 (.v (.bool false)) rfl (congrArg Value.bool hc6)
    try simp only [decide_eq_true_eq, decide_eq_false_iff_not, beq_iff_eq, bne_iff_ne, beq_eq_false_iff_ne, bne_eq_false_iff_eq, Bool.and_eq_true, Bool.and_eq_false_iff, Bool.or_eq_true, Bool.or_eq_false_iff, Bool.not_eq_true', Bool.not_eq_false', ne_eq] at hc6
    refine wp_exit ?_
    refine exit_then ?_
    refine exit_then ?_
    refine exit_hit ?_
    refine then_n ?_
    refine wp_seq ?_
    refine reg (is := [0, 1, 2, 3, 4]) (by kernel_rfl) ?_
    refine part_ tab [0] [1, 2, 3, 4] (by rfl) (k := 1) (hs := []) (sy := []) (ks := [53, 4, 5]) (bs := []) (gs := [0])
        (L' := [(53, .row 0), (4, .row 0), (5, .v (.slice rd rs.length rc))])
        (H' := []) (G' := [⟨0, 68, 1, xs.length, (ints .u32 qs)⟩]) (k' := 1) hR hI (by kernel_rfl)
        .nil (fun e31 a31 w31 hag hR hI => ?_)
    obtain ⟨hB_, hR_, hrel_, zd, zc, hv_, hcells_, hlen_, hcap_, hmax_⟩ := hB.release hR (y := ⟨0, 68, 1, xs.length, (ints .u32 qs)⟩) (by simp) rfl _ dropN_mem
    replace hr := hr.rel hrel_
    replace hx := hx.rel hrel_
    replace hy := hy.rel hrel_
    have hz : Sl .u32 4294967296 _ _ zd zc qs := ⟨hcells_, hqd, (by dsimp only at hlen_ hcap_; rw [ints_length] at hlen_; omega), hmax_⟩
    replace hI := hI.re 53 (.v (.slice zd xs.length zc)) rfl hv_
    replace hB := hB_; replace hR := hR_.sel [] [] (by kernel_rfl : selH _ _ = some []) (by kernel_rfl : selG _ _ = some []); clear hB_ hR_ hrel_ hcells_ hv_
    replace hI := hI.re 53 (.v (.slice zd qs.length zc)) rfl (by simp only [den]; rw [hql])
    refine callOp (ys := [.v (.slice zd qs.length zc)]) hI rfl rfl ⟨_, rfl, rfl, rfl⟩ (by kernel_rfl) Try.func42 rfl rfl ?_
    refine (trim_mag (hz.now hB hR)).mono ?_
    rintro ex w32 ⟨us, rfl, hk, hus, hvus, htus, hlus⟩
    replace hr := hr.next hB hR hk
    replace hx := hx.next hB hR hk
    replace hy := hy.next hB hR hk
    replace hz := hz.next hB hR hk
    have hB_ := hB.next hR hk
    replace hR := hR.after hk
    replace hB := hB_; clear hB_ hk
    refine ⟨_, rfl, ?_⟩
    replace hI := hI.put (d := some 54) (x := .v (.slice zd us.length zc)) (by intro t ht; cases ht; decide) rfl
    replace hI := hI.sel [54, 53, 4, 5] (by kernel_rfl : sel _ _ = some [(54, .v (.slice zd us.length zc)), (53, .v (.slice zd qs.length zc)), (4, .row 0), (5, .v (.slice rd rs.length rc))])
    refine part_ tab [2, 3, 4] [] (by rfl) (k := 1) (hs := []) (sy := []) (ks := [5, 4]) (bs := []) (gs := [])
        (L' := [(5, .v (.slice rd rs.length rc)), (4, .v (.slice zd us.length zc))])
        (H' := []) (G' := []) (k' := 1) hR hI (by kernel_rfl)
        .nil (fun e33 a33 w33 hag hR hI => ?_)
    refine ops_nil ?_
    refine then_n ?_
    refine wp_ret ?_
    refine outN tab (xs := [.v (.slice zd us.length zc), .v (.slice rd rs.length rc)]) hR hI rfl (by kernel_rfl) ?_
    obtain rfl : n = 0 := by omega
    have hqr := div_done heq hlt
    exact ⟨us, zd, zc, rs, rd, rc, rfl, hB.fin hR, hus.fin hB hR, hr.fin hB hR, hvus.trans hqr.1, hqr.2, htus, htr, by omega, hlr⟩

end Go.Proofs.Yteipgknmhpilfaa.Stride
