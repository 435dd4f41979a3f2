/- Walks of the program's functions, printed by a program of mine (walk.py) over the words of Stride: each function's contract. -/
import Derived.Test.YtbfbpkcepchldaaProg
import Derived.Test.YtbfbpkcepchldaaStride
import Derived.Test.YtbfbpkcepchldaaMag
namespace Go.Proofs.Ytbfbpkcepchldaa.Stride
open Go Go.RowKit Go.Proofs.Ytbfbpkcepchldaa.Mag
set_option linter.unusedVariables false
set_option linter.unusedSimpArgs false
noncomputable abbrev P : Program := Try.prog
def T : Tab := [(3, ⟨.int .i64, 1, 8, .int .i64 0⟩),
  (4, ⟨.bool, 1, 1, .bool false⟩),
  (5, ⟨.int .u8, 1, 1, .int .u8 0⟩),
  (9, ⟨.string, 1, 16, .string ⟨#[]⟩⟩),
  (22, ⟨.slice 5 1, 1, 24, .slice none 0 0⟩),
  (24, ⟨.slice 4 1, 1, 24, .slice none 0 0⟩),
  (29, ⟨.slice 33 1, 1, 24, .slice none 0 0⟩),
  (30, ⟨.slice 3 1, 1, 24, .slice none 0 0⟩),
  (33, ⟨.int .u64, 1, 8, .int .u64 0⟩),
  (45, ⟨.struct [(0, 1, false), (1, 1, false), (2, 1, false), (3, 1, false), (4, 1, false), (5, 1, false)], 6, 64, .agg #[.slice none 0 0, .int .i64 0, .int .i64 0, .int .u8 0, .int .i64 0, .int .i64 0]⟩),
  (48, ⟨.struct [(0, 1, false), (1, 1, false), (2, 1, false), (3, 1, false), (4, 1, false), (5, 1, false)], 6, 64, .agg #[.slice none 0 0, .int .i64 0, .int .i64 0, .int .i64 0, .int .i64 0, .int .u64 0]⟩),
  (51, ⟨.struct [], 0, 0, .agg #[]⟩)]

set_option maxRecDepth 100000 in
theorem tab : TabOK P T :=
  ⟨⟨(by kernel_rfl : P.underlying 3 = some (.int .i64)), by kernel_rfl, by kernel_rfl, by kernel_rfl⟩, 
  ⟨⟨(by kernel_rfl : P.underlying 4 = some .bool), by kernel_rfl, by kernel_rfl, by kernel_rfl⟩, 
  ⟨⟨(by kernel_rfl : P.underlying 5 = some (.int .u8)), by kernel_rfl, by kernel_rfl, by kernel_rfl⟩, 
  ⟨⟨(by kernel_rfl : P.underlying 9 = some .string), by kernel_rfl, by kernel_rfl, by kernel_rfl⟩, 
  ⟨⟨⟨by kernel_rfl, by kernel_rfl⟩, by kernel_rfl, by kernel_rfl, by kernel_rfl⟩, 
  ⟨⟨⟨by kernel_rfl, by kernel_rfl⟩, by kernel_rfl, by kernel_rfl, by kernel_rfl⟩, 
  ⟨⟨⟨by kernel_rfl, by kernel_rfl⟩, by kernel_rfl, by kernel_rfl, by kernel_rfl⟩, 
  ⟨⟨⟨by kernel_rfl, by kernel_rfl⟩, by kernel_rfl, by kernel_rfl, by kernel_rfl⟩, 
  ⟨⟨(by kernel_rfl : P.underlying 33 = some (.int .u64)), by kernel_rfl, by kernel_rfl, by kernel_rfl⟩, 
  ⟨⟨⟨by kernel_rfl, by kernel_rfl⟩, by kernel_rfl, by kernel_rfl, by kernel_rfl⟩, 
  ⟨⟨⟨by kernel_rfl, by kernel_rfl⟩, by kernel_rfl, by kernel_rfl, by kernel_rfl⟩, 
  ⟨⟨⟨by kernel_rfl, by kernel_rfl⟩, by kernel_rfl, by kernel_rfl, by kernel_rfl⟩, trivial⟩⟩⟩⟩⟩⟩⟩⟩⟩⟩⟩⟩

theorem u8_bit (x : Nat) (h : x < 256) : bits .and .u8 (x : Int) (1 : Int) = ((x % 2 : Nat) : Int) := by
  have := bits_mask .u8 8 (by decide) (fun n h0 h1 => by rw [IntKind.wrap_u8]; omega) 1 (by decide) (x : Int) (by omega) (by omega)
  simpa using this
/-- A bit of bytes. -/
def bitN (xs : List Nat) (i : Nat) : Bool := ((xs.getD (i / 8) 0 / 2 ^ (i % 8) % 2 : Nat) : Int) == (1 : Int)

set_option maxHeartbeats 4000000 in
set_option maxRecDepth 100000 in
theorem bit_spec {C : Nat → Prop} {w : World} {ad : Option Addr} {cap i : Nat} {xs : List Nat} (hx : Sl .u8 256 C w ad cap xs) (hi : i < 8 * xs.length) (hs : xs.length ≤ 4096) :
    Calls P 9 #[.slice ad xs.length cap, .int .i64 ((i : Nat) : Int)] w fun ex w' => ex = .returned (.bool (bitN xs i)) ∧ Keep (fun b => b < w.heap.size) w w' := by
  refine doorN (e := e0) (vs := [.v (.slice ad xs.length cap), .v (.int .i64 ((i : Nat) : Int))]) (n := 15) (m := 2) Try.func9 rfl rfl rfl (by decide) fun a_ hI => ?_
  replace hI : Is 15 [] e0 [(0, .v (.slice ad xs.length cap)), (1, .v (.int .i64 ((i : Nat) : Int)))] a_ := hI
  have hR : Rel (fun b => b < w.heap.size) w e0 [] [] w := Rel.start (fun k hk => hk)
  have hB : Base C w C (fun b => b < w.heap.size) w := Base.start
  have hrx := hx.room; have hmx := hx.max; have hgx := hx.get (i / 8) (by decide)
  refine reg_seq tab (k := 0) (hs := []) (sy := []) (ks := [0, 1]) (bs := []) (gs := [])
      (L' := [(0, .v (.slice ad xs.length cap)), (1, .v (.int .i64 ((i : Nat) : Int)))])
      (H' := []) (G' := []) (k' := 0) hR hI (by kernel_rfl)
      .nil (fun e1 a1 w1 hag hR hI => ?_)
  refine reg_seq tab (k := 0) (hs := [(2, .nw), (4, .val (.v (.int .u8 ((xs.getD (i / 8) 0 : Nat) : Int)))), (6, .nw), (8, .eq (.int .u8 ((xs.getD (i / 8) 0 / 2 ^ (i % 8) % 2 : Nat) : Int)))]) (sy := []) (ks := [4]) (bs := []) (gs := [])
      (L' := [(4, .v (.bool (((xs.getD (i / 8) 0 / 2 ^ (i % 8) % 2 : Nat) : Int) == (1 : Int))))])
      (H' := []) (G' := []) (k' := 0) hR hI (by kernel_rfl)
      (.cons (by omega : (0 : Int) ≤ ((i : Nat) : Int)) (.cons (by omega : (0 : Int) < (8 : Int)) (.cons (inR_i64 (n := ((i : Nat) : Int) / (8 : Int)) (by omega)) (.cons (by omega : (0 : Int) ≤ ((i / 8 : Nat) : Int) ∧ ((i / 8 : Nat) : Int) < ((xs.length : Nat) : Int)) (.cons (nats_some (i := i / 8) (hx.cells.mono hB.cls) (by omega)) (.cons (nats_load (i := i / 8) (m := 1) (hx.cells.mono hB.cls) (by omega)) (.cons (by omega : (0 : Int) ≤ ((i : Nat) : Int)) (.cons (by omega : (0 : Int) < (8 : Int)) (.cons (by omega : (0 : Int) ≤ ((i % 8 : Nat) : Int)) (.cons (by show _ ≤ (8 : Int); omega : ((i % 8 : Nat) : Int) ≤ (IntKind.u8.bits : Int)) (.cons (congrArg (Value.int .u8) (u8_bit _ (Nat.lt_of_le_of_lt (Nat.div_le_self _ _) hgx) : bits .and .u8 (((xs.getD (i / 8) 0) / 2 ^ (i % 8) : Nat) : Int) (1 : Int) = ((xs.getD (i / 8) 0 / 2 ^ (i % 8) % 2 : Nat) : Int))) .nil))))))))))) (fun e2 a2 w2 hag hR hI => ?_)
  refine wp_ret ?_
  refine outN tab (xs := [.v (.bool (((xs.getD (i / 8) 0 / 2 ^ (i % 8) % 2 : Nat) : Int) == (1 : Int)))]) hR hI rfl (by kernel_rfl) ?_
  exact ⟨rfl, hB.fin hR⟩

theorem same_done {xs ys : List Bool} {i : Nat} (h : i = xs.length) (h' : i = ys.length) (ht : xs.take i = ys.take i) : xs = ys := by
  rw [List.take_of_length_le (by omega), List.take_of_length_le (by omega)] at ht
  exact ht
theorem take_same {xs ys : List Bool} {i : Nat} (hx : i < xs.length) (hy : i < ys.length) (h : xs.take i = ys.take i) (he : xs.getD i false = ys.getD i false) : xs.take (i + 1) = ys.take (i + 1) := by
  rw [List.take_add_one, List.take_add_one, h]
  rw [List.getD_eq_getElem?_getD, List.getD_eq_getElem?_getD, List.getElem?_eq_getElem hx, List.getElem?_eq_getElem hy] at he
  rw [List.getElem?_eq_getElem hx, List.getElem?_eq_getElem hy]
  simp only [Option.getD_some] at he
  rw [he]

set_option maxHeartbeats 4000000 in
set_option maxRecDepth 100000 in
theorem sameBools_spec {C : Nat → Prop} {w : World} {ad bd : Option Addr} {cap dap : Nat} {xs ys : List Bool} (hx : SlB C w ad cap xs) (hy : SlB C w bd dap ys) :
    Calls P 6 #[.slice ad xs.length cap, .slice bd ys.length dap] w fun ex w' => ∃ b : Bool, ex = .returned (.bool b) ∧ Keep (fun b => b < w.heap.size) w w' ∧ (b = true ↔ xs = ys) := by
  refine doorN (e := e0) (vs := [.v (.slice ad xs.length cap), .v (.slice bd ys.length dap)]) (n := 26) (m := 2) Try.func6 rfl rfl rfl (by decide) fun a_ hI => ?_
  replace hI : Is 26 [] e0 [(0, .v (.slice ad xs.length cap)), (1, .v (.slice bd ys.length dap))] a_ := hI
  have hR : Rel (fun b => b < w.heap.size) w e0 [] [] w := Rel.start (fun k hk => hk)
  have hB : Base C w C (fun b => b < w.heap.size) w := Base.start
  have hrx := hx.room; have hmx := hx.max; have hry := hy.room; have hmy := hy.max
  refine reg_seq tab (k := 0) (hs := []) (sy := []) (ks := [0, 1]) (bs := []) (gs := [])
      (L' := [(0, .v (.slice ad xs.length cap)), (1, .v (.slice bd ys.length dap))])
      (H' := []) (G' := []) (k' := 0) hR hI (by kernel_rfl)
      .nil (fun e1 a1 w1 hag hR hI => ?_)
  refine wp_seq ?_
  refine reg_seq tab (k := 0) (hs := []) (sy := []) (ks := [10, 0, 1]) (bs := []) (gs := [])
      (L' := [(10, .v (.bool (((xs.length : Nat) : Int) != ((ys.length : Nat) : Int)))), (0, .v (.slice ad xs.length cap)), (1, .v (.slice bd ys.length dap))])
      (H' := []) (G' := []) (k' := 0) hR hI (by kernel_rfl)
      .nil (fun e2 a2 w2 hag hR hI => ?_)
  refine cnd (b := (((xs.length : Nat) : Int) != ((ys.length : Nat) : Int))) hI (by kernel_rfl) (fun hc3 => ?_) (fun hc3 => ?_)
  · skip
    replace hI := hI.re 10 (.v (.bool true)) rfl (congrArg Value.bool hc3)
    try simp only [decide_eq_true_eq, decide_eq_false_iff_not, beq_iff_eq, bne_iff_ne, beq_eq_false_iff_ne, bne_eq_false_iff_eq, Bool.and_eq_true, Bool.and_eq_false_iff, Bool.or_eq_true, Bool.or_eq_false_iff, Bool.not_eq_true', Bool.not_eq_false', ne_eq] at hc3
    refine reg_seq tab (k := 0) (hs := []) (sy := []) (ks := [4]) (bs := []) (gs := [])
        (L' := [(4, .v (.bool false))])
        (H' := []) (G' := []) (k' := 0) hR hI (by kernel_rfl)
        .nil (fun e4 a4 w4 hag hR hI => ?_)
    refine wp_ret ?_
    refine ret_then ?_
    refine outN tab (xs := [.v (.bool false)]) hR hI rfl (by kernel_rfl) ?_
    exact ⟨false, rfl, hB.fin hR, ⟨fun h => (by cases h), fun h => absurd (congrArg List.length h) (by omega)⟩⟩
  · skip
    replace hI := hI.re 10 (.v (.bool false)) rfl (congrArg Value.bool hc3)
    try simp only [decide_eq_true_eq, decide_eq_false_iff_not, beq_iff_eq, bne_iff_ne, beq_eq_false_iff_ne, bne_eq_false_iff_eq, Bool.and_eq_true, Bool.and_eq_false_iff, Bool.or_eq_true, Bool.or_eq_false_iff, Bool.not_eq_true', Bool.not_eq_false', ne_eq] at hc3
    refine wp_skip ?_
    refine then_n ?_
    refine wp_seq ?_
    refine reg_seq tab (k := 0) (hs := []) (sy := []) (ks := [13, 12, 0, 1]) (bs := []) (gs := [])
        (L' := [(13, .v (.int .i64 0)), (12, .v (.int .i64 ((xs.length : Nat) : Int))), (0, .v (.slice ad xs.length cap)), (1, .v (.slice bd ys.length dap))])
        (H' := []) (G' := []) (k' := 0) hR hI (by kernel_rfl)
        .nil (fun e5 a5 w5 hag hR hI => ?_)
    refine wp_block ?_
    refine lp (γ := Nat) (fun i => (⟨[(0, .v (.slice ad xs.length cap)), (1, .v (.slice bd ys.length dap)), (12, .v (.int .i64 ((xs.length : Nat) : Int))), (13, .v (.int .i64 ((i : Nat) : Int)))], [], [], 0⟩ : Sy)) (fun i e => i ≤ xs.length ∧ xs.length = ys.length ∧ xs.take i = ys.take i) (fun i => xs.length - i) (0) (⟨Nat.zero_le _, by omega, rfl⟩)
        (hR.sel [] [] (by kernel_rfl) (by kernel_rfl)) (hI.sel [0, 1, 12, 13] (by kernel_rfl)) ?_
    clear hR hI
    rintro i e6 a6 w6 hp hR hI
    dsimp only at hp hR hI
    obtain ⟨hi, hle, htk⟩ := hp
    refine reg_seq tab (k := 0) (hs := []) (sy := []) (ks := [14, 0, 1, 12, 13]) (bs := []) (gs := [])
        (L' := [(14, .v (.bool (decide (((i : Nat) : Int) < ((xs.length : Nat) : Int))))), (0, .v (.slice ad xs.length cap)), (1, .v (.slice bd ys.length dap)), (12, .v (.int .i64 ((xs.length : Nat) : Int))), (13, .v (.int .i64 ((i : Nat) : Int)))])
        (H' := []) (G' := []) (k' := 0) hR hI (by kernel_rfl)
        .nil (fun e7 a7 w7 hag hR hI => ?_)
    refine wp_seq ?_
    refine cnd (b := decide (((i : Nat) : Int) < ((xs.length : Nat) : Int))) hI (by kernel_rfl) (fun hc8 => ?_) (fun hc8 => ?_)
    · skip
      replace hI := hI.re 14 (.v (.bool true)) rfl (congrArg Value.bool hc8)
      try simp only [decide_eq_true_eq, decide_eq_false_iff_not, beq_iff_eq, bne_iff_ne, beq_eq_false_iff_ne, bne_eq_false_iff_eq, Bool.and_eq_true, Bool.and_eq_false_iff, Bool.or_eq_true, Bool.or_eq_false_iff, Bool.not_eq_true', Bool.not_eq_false', ne_eq] at hc8
      refine wp_skip ?_
      refine then_n ?_
      refine wp_seq ?_
      refine wp_block ?_
      refine reg_seq tab (k := 0) (hs := []) (sy := []) (ks := [5, 0, 1, 12, 13]) (bs := []) (gs := [])
          (L' := [(5, .v (.int .i64 ((i : Nat) : Int))), (0, .v (.slice ad xs.length cap)), (1, .v (.slice bd ys.length dap)), (12, .v (.int .i64 ((xs.length : Nat) : Int))), (13, .v (.int .i64 ((i : Nat) : Int)))])
          (H' := []) (G' := []) (k' := 0) hR hI (by kernel_rfl)
          .nil (fun e9 a9 w9 hag hR hI => ?_)
      refine regQ_seq tab (by kernel_rfl) (k := 0) (hs := [(3, .val (.v (.bool (xs.getD i false)))), (7, .val (.v (.bool (ys.getD i false))))]) (gs := []) (ks := [24, 0, 1, 12, 13])
          (L' := [(24, .v (.bool (!((xs.getD i false) == (ys.getD i false))))), (0, .v (.slice ad xs.length cap)), (1, .v (.slice bd ys.length dap)), (12, .v (.int .i64 ((xs.length : Nat) : Int))), (13, .v (.int .i64 ((i : Nat) : Int)))]) hR hI (by kernel_rfl) (fun _ _ _ _ _ h => h) (by kernel_rfl)
          (.cons (by omega : (0 : Int) ≤ ((i : Nat) : Int) ∧ ((i : Nat) : Int) < ((xs.length : Nat) : Int)) (.cons (bools_some (i := i) (hx.cells.mono hB.cls) (by omega)) (.cons (bools_load (i := i) (m := 1) (hx.cells.mono hB.cls) (by omega)) (.cons (by omega : (0 : Int) ≤ ((i : Nat) : Int) ∧ ((i : Nat) : Int) < ((ys.length : Nat) : Int)) (.cons (bools_some (i := i) (hy.cells.mono hB.cls) (by omega)) (.cons (bools_load (i := i) (m := 1) (hy.cells.mono hB.cls) (by omega)) .nil)))))) (by kernel_rfl) (by kernel_rfl) (fun e10 a10 w10 hag hR hI => ?_)
      refine cnd (b := (!((xs.getD i false) == (ys.getD i false)))) hI (by kernel_rfl) (fun hc11 => ?_) (fun hc11 => ?_)
      · skip
        replace hI := hI.re 24 (.v (.bool true)) rfl (congrArg Value.bool hc11)
        try simp only [decide_eq_true_eq, decide_eq_false_iff_not, beq_iff_eq, bne_iff_ne, beq_eq_false_iff_ne, bne_eq_false_iff_eq, Bool.and_eq_true, Bool.and_eq_false_iff, Bool.or_eq_true, Bool.or_eq_false_iff, Bool.not_eq_true', Bool.not_eq_false', ne_eq] at hc11
        have hne : ¬ xs.getD i false = ys.getD i false := by simpa using hc11
        refine reg_seq tab (k := 0) (hs := []) (sy := []) (ks := [4]) (bs := []) (gs := [])
            (L' := [(4, .v (.bool false))])
            (H' := []) (G' := []) (k' := 0) hR hI (by kernel_rfl)
            .nil (fun e12 a12 w12 hag hR hI => ?_)
        refine wp_ret ?_
        refine ret_block ?_
        refine ret_then ?_
        refine ret_then ?_
        refine ret_block ?_
        refine ret_then ?_
        refine outN tab (xs := [.v (.bool false)]) hR hI rfl (by kernel_rfl) ?_
        exact ⟨false, rfl, hB.fin hR, ⟨fun h => (by cases h), fun h => absurd (congrArg (fun l => l.getD i false) h) hne⟩⟩
      · skip
        replace hI := hI.re 24 (.v (.bool false)) rfl (congrArg Value.bool hc11)
        try simp only [decide_eq_true_eq, decide_eq_false_iff_not, beq_iff_eq, bne_iff_ne, beq_eq_false_iff_ne, bne_eq_false_iff_eq, Bool.and_eq_true, Bool.and_eq_false_iff, Bool.or_eq_true, Bool.or_eq_false_iff, Bool.not_eq_true', Bool.not_eq_false', ne_eq] at hc11
        have heq : xs.getD i false = ys.getD i false := by simpa using hc11
        refine wp_skip ?_
        refine normal_block ?_
        refine then_n ?_
        refine reg_all tab (k := 0) (hs := [(0, .nw)]) (sy := []) (ks := [13, 0, 1, 12]) (bs := []) (gs := [])
            (L' := [(13, .v (.int .i64 ((i + 1 : Nat) : Int))), (0, .v (.slice ad xs.length cap)), (1, .v (.slice bd ys.length dap)), (12, .v (.int .i64 ((xs.length : Nat) : Int)))])
            (H' := []) (G' := []) (k' := 0) hR hI (by kernel_rfl)
            (.cons (inR_i64 (n := ((i : Nat) : Int) + (1 : Int)) (by omega)) .nil) (fun e13 a13 w13 hag hR hI => ?_)
        refine then_n ?_
        exact ⟨(i + 1), e13, ⟨by omega, hle, take_same (by omega) (by omega) htk heq⟩, by (try dsimp only); omega, hR.sel [] [] (by kernel_rfl) (by kernel_rfl), hI.sel [0, 1, 12, 13] (by kernel_rfl)⟩
    · skip
      replace hI := hI.re 14 (.v (.bool false)) rfl (congrArg Value.bool hc8)
      try simp only [decide_eq_true_eq, decide_eq_false_iff_not, beq_iff_eq, bne_iff_ne, beq_eq_false_iff_ne, bne_eq_false_iff_eq, Bool.and_eq_true, Bool.and_eq_false_iff, Bool.or_eq_true, Bool.or_eq_false_iff, Bool.not_eq_true', Bool.not_eq_false', ne_eq] at hc8
      refine wp_exit ?_
      refine exit_then ?_
      refine exit_then ?_
      refine exit_hit ?_
      refine then_n ?_
      refine reg_seq tab (k := 0) (hs := []) (sy := []) (ks := [4]) (bs := []) (gs := [])
          (L' := [(4, .v (.bool true))])
          (H' := []) (G' := []) (k' := 0) hR hI (by kernel_rfl)
          .nil (fun e14 a14 w14 hag hR hI => ?_)
      refine wp_ret ?_
      refine outN tab (xs := [.v (.bool true)]) hR hI rfl (by kernel_rfl) ?_
      exact ⟨true, rfl, hB.fin hR, ⟨fun _ => same_done (by omega) (by omega) htk, fun _ => rfl⟩⟩

theorem u8_pick (c k : Nat) (h : c < 256) (hk : k < 8) : (bits .and .u8 (c : Int) ((1 * 2 ^ k : Nat) : Int) != (0 : Int)) = (((c / 2 ^ k % 2 : Nat) : Int) == (1 : Int)) := by
  have h2 : ∀ c : Fin 256, ∀ k : Fin 8, (bits .and .u8 (c.val : Int) ((1 * 2 ^ k.val : Nat) : Int) != (0 : Int)) = (((c.val / 2 ^ k.val % 2 : Nat) : Int) == (1 : Int)) := by decide +kernel
  exact h2 ⟨c, h⟩ ⟨k, hk⟩
theorem u8_one (k : Nat) (hk : k < 8) : IntKind.u8.wrap ((1 : Int) * 2 ^ k) = ((1 * 2 ^ k : Nat) : Int) := by
  have h2 : ∀ k : Fin 8, IntKind.u8.wrap ((1 : Int) * 2 ^ k.val) = ((1 * 2 ^ k.val : Nat) : Int) := by decide +kernel
  exact h2 ⟨k, hk⟩

set_option maxHeartbeats 4000000 in
set_option maxRecDepth 100000 in
theorem set_spec {C : Nat → Prop} {w : World} {b : Nat} {ad : Option Addr} {cap j n c p : Nat} {xs : List Nat} (hb : w.heap[b]? = some (.cells #[.slice ad xs.length cap, .int .i64 ((j : Nat) : Int), .int .i64 ((n : Nat) : Int), .int .u8 ((c : Nat) : Int), .int .i64 ((p / 8 : Nat) : Int), .int .i64 ((p % 8 : Nat) : Int)] 45 (0, 0))) (hCb : ¬ C b) (hc : c < 256) :
    Calls P 12 #[.pointer (some ⟨b, 0, none⟩)] w fun ex w' => ex = .returned (.bool (((c / 2 ^ (p % 8) % 2 : Nat) : Int) == (1 : Int))) ∧ Keep (But b w) w w' ∧ w'.heap[b]? = some (.cells #[.slice ad xs.length cap, .int .i64 ((j : Nat) : Int), .int .i64 ((n : Nat) : Int), .int .u8 ((c : Nat) : Int), .int .i64 ((p / 8 : Nat) : Int), .int .i64 ((p % 8 : Nat) : Int)] 45 (0, 0)) := by
  refine doorN (e := e0.addB 0 b) (vs := [.p 0 0]) (n := 14) (m := 1) Try.func12 rfl rfl rfl (by decide) fun a_ hI => ?_
  replace hI : Is 14 [] (e0.addB 0 b) [(0, .p 0 0)] a_ := hI
  have hR : Rel (But b w) w (e0.addB 0 b) [⟨0, 45, [.v (.slice ad xs.length cap), .v (.int .i64 ((j : Nat) : Int)), .v (.int .i64 ((n : Nat) : Int)), .v (.int .u8 ((c : Nat) : Int)), .v (.int .i64 ((p / 8 : Nat) : Int)), .v (.int .i64 ((p % 8 : Nat) : Int))]⟩] [] w := Rel.startB hb (fun k h => h.1) (fun h => h.2 rfl)
  have hbk : (e0.addB 0 b).b 0 = b := addB_b _ _ _
  have hB : BaseD (But b w) C w C (But b w) w := BaseD.start (fun k hC hlt => ⟨hlt, fun he => hCb (he ▸ hC)⟩)
  refine reg_seq tab (k := 1) (hs := []) (sy := []) (ks := [0]) (bs := [0]) (gs := [])
      (L' := [(0, .p 0 0)])
      (H' := [⟨0, 45, [.v (.slice ad xs.length cap), .v (.int .i64 ((j : Nat) : Int)), .v (.int .i64 ((n : Nat) : Int)), .v (.int .u8 ((c : Nat) : Int)), .v (.int .i64 ((p / 8 : Nat) : Int)), .v (.int .i64 ((p % 8 : Nat) : Int))]⟩]) (G' := []) (k' := 1) hR hI (by kernel_rfl)
      .nil (fun e1 a1 w1 hag hR hI => ?_)
  replace hbk := (hag 0 (by decide)).1.trans hbk
  refine regQ_seq tab (by kernel_rfl) (k := 1) (hs := [(8, .eq (.int .u8 ((1 * 2 ^ (p % 8) : Nat) : Int)))]) (gs := []) (ks := [2])
      (L' := [(2, .v (.bool ((bits .and .u8 ((c : Nat) : Int) ((1 * 2 ^ (p % 8) : Nat) : Int)) != (0 : Int))))]) hR hI (by kernel_rfl) (fun _ _ _ _ _ h => h) (by kernel_rfl)
      (.cons (congrArg (Value.int .u8) (u8_one _ (by omega) : IntKind.u8.wrap ((1 : Int) * 2 ^ (p % 8)) = ((1 * 2 ^ (p % 8) : Nat) : Int))) (.cons (by omega : (0 : Int) ≤ ((p % 8 : Nat) : Int)) (.cons (by show _ ≤ (8 : Int); omega : ((p % 8 : Nat) : Int) ≤ (IntKind.u8.bits : Int)) .nil))) (by kernel_rfl) (by kernel_rfl) (fun e2 a2 w2 hag hR hI => ?_)
  replace hbk := (hag 0 (by decide)).1.trans hbk
  refine wp_ret ?_
  refine outN tab (xs := [.v (.bool ((bits .and .u8 ((c : Nat) : Int) ((1 * 2 ^ (p % 8) : Nat) : Int)) != (0 : Int)))]) hR hI rfl (by kernel_rfl) ?_
  exact ⟨congrArg (fun z => Ending.returned (Value.bool z)) (u8_pick c (p % 8) hc (by omega)), hB.fin hR, hbk ▸ (hR.blk _ (List.mem_cons_self ..)).1⟩

set_option maxHeartbeats 4000000 in
set_option maxRecDepth 100000 in
theorem next_spec {C : Nat → Prop} {w : World} {b : Nat} {ad : Option Addr} {cap j n c p : Nat} {xs : List Nat} (hb : w.heap[b]? = some (.cells #[.slice ad xs.length cap, .int .i64 ((j : Nat) : Int), .int .i64 ((n : Nat) : Int), .int .u8 ((c : Nat) : Int), .int .i64 ((p / 8 : Nat) : Int), .int .i64 ((p % 8 : Nat) : Int)] 45 (0, 0))) (hCb : ¬ C b) (hc : c < 256) (hx : Sl .u8 256 C w ad cap xs) (hcur : c = xs.getD (p / 8) 0) (hj : j < n) (hn : p + (n - j) ≤ 8 * xs.length) (hs : xs.length ≤ 4096) (hnb : n ≤ 32768) :
    Calls P 13 #[.pointer (some ⟨b, 0, none⟩)] w fun ex w' => ∃ c' : Nat, ex = .returned (.tuple #[]) ∧ Keep (But b w) w w' ∧ w'.heap[b]? = some (.cells #[.slice ad xs.length cap, .int .i64 ((j + 1 : Nat) : Int), .int .i64 ((n : Nat) : Int), .int .u8 ((c' : Nat) : Int), .int .i64 (((p + 1) / 8 : Nat) : Int), .int .i64 (((p + 1) % 8 : Nat) : Int)] 45 (0, 0)) ∧ c' < 256 ∧ (j + 1 < n → c' = xs.getD ((p + 1) / 8) 0) := by
  refine doorN (e := e0.addB 0 b) (vs := [.p 0 0]) (n := 53) (m := 1) Try.func13 rfl rfl rfl (by decide) fun a_ hI => ?_
  replace hI : Is 53 [] (e0.addB 0 b) [(0, .p 0 0)] a_ := hI
  have hR : Rel (But b w) w (e0.addB 0 b) [⟨0, 45, [.v (.slice ad xs.length cap), .v (.int .i64 ((j : Nat) : Int)), .v (.int .i64 ((n : Nat) : Int)), .v (.int .u8 ((c : Nat) : Int)), .v (.int .i64 ((p / 8 : Nat) : Int)), .v (.int .i64 ((p % 8 : Nat) : Int))]⟩] [] w := Rel.startB hb (fun k h => h.1) (fun h => h.2 rfl)
  have hbk : (e0.addB 0 b).b 0 = b := addB_b _ _ _
  have hB : BaseD (But b w) C w C (But b w) w := BaseD.start (fun k hC hlt => ⟨hlt, fun he => hCb (he ▸ hC)⟩)
  have hrx := hx.room; have hmx := hx.max
  refine reg_seq tab (k := 1) (hs := [(4, .nw)]) (sy := []) (ks := [0]) (bs := [0]) (gs := [])
      (L' := [(0, .p 0 0)])
      (H' := [⟨0, 45, [.v (.slice ad xs.length cap), .v (.int .i64 ((j : Nat) : Int)), .v (.int .i64 ((n : Nat) : Int)), .v (.int .u8 ((c : Nat) : Int)), .v (.int .i64 ((p / 8 : Nat) : Int)), .v (.int .i64 (((p % 8) + 1 : Nat) : Int))]⟩]) (G' := []) (k' := 1) hR hI (by kernel_rfl)
      (.cons (inR_i64 (n := ((p % 8 : Nat) : Int) + (1 : Int)) (by omega)) .nil) (fun e1 a1 w1 hag hR hI => ?_)
  replace hbk := (hag 0 (by decide)).1.trans hbk
  refine reg_seq tab (k := 1) (hs := [(4, .nw)]) (sy := []) (ks := [0]) (bs := [0]) (gs := [])
      (L' := [(0, .p 0 0)])
      (H' := [⟨0, 45, [.v (.slice ad xs.length cap), .v (.int .i64 ((j + 1 : Nat) : Int)), .v (.int .i64 ((n : Nat) : Int)), .v (.int .u8 ((c : Nat) : Int)), .v (.int .i64 ((p / 8 : Nat) : Int)), .v (.int .i64 (((p % 8) + 1 : Nat) : Int))]⟩]) (G' := []) (k' := 1) hR hI (by kernel_rfl)
      (.cons (inR_i64 (n := ((j : Nat) : Int) + (1 : Int)) (by omega)) .nil) (fun e2 a2 w2 hag hR hI => ?_)
  replace hbk := (hag 0 (by decide)).1.trans hbk
  refine reg_seq tab (k := 1) (hs := []) (sy := []) (ks := [20, 0]) (bs := [0]) (gs := [])
      (L' := [(20, .v (.bool ((((p % 8) + 1 : Nat) : Int) == (8 : Int)))), (0, .p 0 0)])
      (H' := [⟨0, 45, [.v (.slice ad xs.length cap), .v (.int .i64 ((j + 1 : Nat) : Int)), .v (.int .i64 ((n : Nat) : Int)), .v (.int .u8 ((c : Nat) : Int)), .v (.int .i64 ((p / 8 : Nat) : Int)), .v (.int .i64 (((p % 8) + 1 : Nat) : Int))]⟩]) (G' := []) (k' := 1) hR hI (by kernel_rfl)
      .nil (fun e3 a3 w3 hag hR hI => ?_)
  replace hbk := (hag 0 (by decide)).1.trans hbk
  refine cnd (b := ((((p % 8) + 1 : Nat) : Int) == (8 : Int))) hI (by kernel_rfl) (fun hc4 => ?_) (fun hc4 => ?_)
  · skip
    replace hI := hI.re 20 (.v (.bool true)) rfl (congrArg Value.bool hc4)
    try simp only [decide_eq_true_eq, decide_eq_false_iff_not, beq_iff_eq, bne_iff_ne, beq_eq_false_iff_ne, bne_eq_false_iff_eq, Bool.and_eq_true, Bool.and_eq_false_iff, Bool.or_eq_true, Bool.or_eq_false_iff, Bool.not_eq_true', Bool.not_eq_false', ne_eq] at hc4
    refine reg_seq tab (k := 1) (hs := []) (sy := []) (ks := [0]) (bs := [0]) (gs := [])
        (L' := [(0, .p 0 0)])
        (H' := [⟨0, 45, [.v (.slice ad xs.length cap), .v (.int .i64 ((j + 1 : Nat) : Int)), .v (.int .i64 ((n : Nat) : Int)), .v (.int .u8 ((c : Nat) : Int)), .v (.int .i64 ((p / 8 : Nat) : Int)), .v (.int .i64 0)]⟩]) (G' := []) (k' := 1) hR hI (by kernel_rfl)
        .nil (fun e5 a5 w5 hag hR hI => ?_)
    replace hbk := (hag 0 (by decide)).1.trans hbk
    refine reg_seq tab (k := 1) (hs := [(4, .nw)]) (sy := []) (ks := [0]) (bs := [0]) (gs := [])
        (L' := [(0, .p 0 0)])
        (H' := [⟨0, 45, [.v (.slice ad xs.length cap), .v (.int .i64 ((j + 1 : Nat) : Int)), .v (.int .i64 ((n : Nat) : Int)), .v (.int .u8 ((c : Nat) : Int)), .v (.int .i64 (((p / 8) + 1 : Nat) : Int)), .v (.int .i64 0)]⟩]) (G' := []) (k' := 1) hR hI (by kernel_rfl)
        (.cons (inR_i64 (n := ((p / 8 : Nat) : Int) + (1 : Int)) (by omega)) .nil) (fun e6 a6 w6 hag hR hI => ?_)
    replace hbk := (hag 0 (by decide)).1.trans hbk
    refine regQ_seq tab (by kernel_rfl) (k := 1) (hs := []) (gs := []) (ks := [39, 0])
        (L' := [(39, .v (.bool (decide (((j + 1 : Nat) : Int) < ((n : Nat) : Int))))), (0, .p 0 0)]) hR hI (by kernel_rfl) (fun _ _ _ _ _ h => h) (by kernel_rfl)
        .nil (by kernel_rfl) (by kernel_rfl) (fun e7 a7 w7 hag hR hI => ?_)
    replace hbk := (hag 0 (by decide)).1.trans hbk
    refine cnd (b := decide (((j + 1 : Nat) : Int) < ((n : Nat) : Int))) hI (by kernel_rfl) (fun hc8 => ?_) (fun hc8 => ?_)
    · skip
      replace hI := hI.re 39 (.v (.bool true)) rfl (congrArg Value.bool hc8)
      try simp only [decide_eq_true_eq, decide_eq_false_iff_not, beq_iff_eq, bne_iff_ne, beq_eq_false_iff_ne, bne_eq_false_iff_eq, Bool.and_eq_true, Bool.and_eq_false_iff, Bool.or_eq_true, Bool.or_eq_false_iff, Bool.not_eq_true', Bool.not_eq_false', ne_eq] at hc8
      refine regL 13 hR (by kernel_rfl) (fun hS => ?_)
      replace hR := hR.drew; have hF := hR.fore
      refine takeC tab (H := [⟨0, 45, [.v (.slice ad xs.length cap), .v (.int .i64 ((j + 1 : Nat) : Int)), .v (.int .i64 ((n : Nat) : Int)), .v (.int .u8 ((c : Nat) : Int)), .v (.int .i64 (((p / 8) + 1 : Nat) : Int)), .v (.int .i64 0)]⟩]) (G := []) (hs := [(10, .val (.v (.int .u8 ((xs.getD ((p / 8) + 1) 0 : Nat) : Int))))]) (gs := []) (is := [0, 1, 2, 3, 4, 5, 6, 7, 8, 9, 10, 11, 12]) (ks := [52, 50]) (f' := 1)
          (L' := [(52, .p 0 3), (50, .v (.int .u8 ((xs.getD ((p / 8) + 1) 0 : Nat) : Int)))]) hS hI (by kernel_rfl) (fun _ _ _ _ _ h => h) (by kernel_rfl)
          (.cons (by omega : (0 : Int) ≤ (((p / 8) + 1 : Nat) : Int) ∧ (((p / 8) + 1 : Nat) : Int) < ((xs.length : Nat) : Int)) (.cons (nats_some (i := (p / 8) + 1) (hx.cells.mono hB.cls) (by omega)) (.cons (nats_load (i := (p / 8) + 1) (m := 1) (hx.cells.mono hB.cls) (by omega)) .nil))) (by kernel_rfl) (by kernel_rfl) (by kernel_rfl) (by kernel_rfl) (by rfl) (fun a9 hI => ?_)
      refine endL (i := 13) (f' := 0) (by kernel_rfl) (by rfl) (by kernel_rfl) ?_
      refine effH tab (k := 1) (hh := .no) (r := ⟨.v (undef), [⟨0, 45, [.v (.slice ad xs.length cap), .v (.int .i64 ((j + 1 : Nat) : Int)), .v (.int .i64 ((n : Nat) : Int)), .v (.int .u8 ((xs.getD ((p / 8) + 1) 0 : Nat) : Int)), .v (.int .i64 (((p / 8) + 1 : Nat) : Int)), .v (.int .i64 0)]⟩], [], 1, _, true⟩) hR hI (by kernel_rfl) rfl rfl rfl (by kernel_rfl) .nil (fun e10 a10 w10 hag hR2 hI => ?_)
      replace hbk := (hag 0 (by decide)).1.trans hbk
      replace hR := hR2; clear hR2
      replace hI := hI.sel [52, 50] (by kernel_rfl : sel _ _ = some [(52, .p 0 3), (50, .v (.int .u8 ((xs.getD ((p / 8) + 1) 0 : Nat) : Int)))])
      refine doneL (by kernel_rfl) ?_
      replace hI := hI.sel [] (by kernel_rfl : sel _ _ = some []); replace hR := hR.sel [0] [] (by kernel_rfl : selH _ _ = some [⟨0, 45, [.v (.slice ad xs.length cap), .v (.int .i64 ((j + 1 : Nat) : Int)), .v (.int .i64 ((n : Nat) : Int)), .v (.int .u8 ((xs.getD ((p / 8) + 1) 0 : Nat) : Int)), .v (.int .i64 (((p / 8) + 1 : Nat) : Int)), .v (.int .i64 0)]⟩]) (by kernel_rfl : selG _ _ = some [])
      refine outE tab (xs := []) hR hI rfl (by kernel_rfl) ?_
      refine ⟨xs.getD ((p / 8) + 1) 0, rfl, hB.fin hR, ?_, hx.get _ (by decide), fun _ => by rw [show (p + 1) / 8 = p / 8 + 1 by omega]⟩
      rw [show (((p + 1) % 8 : Nat) : Int) = 0 by omega, show (p + 1) / 8 = p / 8 + 1 by omega]
      exact hbk ▸ (hR.blk _ (List.mem_cons_self ..)).1
    · skip
      replace hI := hI.re 39 (.v (.bool false)) rfl (congrArg Value.bool hc8)
      try simp only [decide_eq_true_eq, decide_eq_false_iff_not, beq_iff_eq, bne_iff_ne, beq_eq_false_iff_ne, bne_eq_false_iff_eq, Bool.and_eq_true, Bool.and_eq_false_iff, Bool.or_eq_true, Bool.or_eq_false_iff, Bool.not_eq_true', Bool.not_eq_false', ne_eq] at hc8
      refine wp_skip ?_
      refine outE tab (xs := []) hR hI rfl (by kernel_rfl) ?_
      refine ⟨c, rfl, hB.fin hR, ?_, hc, fun h => absurd h (by omega)⟩
      rw [show (((p + 1) % 8 : Nat) : Int) = 0 by omega, show (p + 1) / 8 = p / 8 + 1 by omega]
      exact hbk ▸ (hR.blk _ (List.mem_cons_self ..)).1
  · skip
    replace hI := hI.re 20 (.v (.bool false)) rfl (congrArg Value.bool hc4)
    try simp only [decide_eq_true_eq, decide_eq_false_iff_not, beq_iff_eq, bne_iff_ne, beq_eq_false_iff_ne, bne_eq_false_iff_eq, Bool.and_eq_true, Bool.and_eq_false_iff, Bool.or_eq_true, Bool.or_eq_false_iff, Bool.not_eq_true', Bool.not_eq_false', ne_eq] at hc4
    refine wp_skip ?_
    refine outE tab (xs := []) hR hI rfl (by kernel_rfl) ?_
    refine ⟨c, rfl, hB.fin hR, ?_, hc, fun _ => by rw [show (p + 1) / 8 = p / 8 by omega]; exact hcur⟩
    rw [show (p + 1) % 8 = p % 8 + 1 by omega, show (p + 1) / 8 = p / 8 by omega]
    exact hbk ▸ (hR.blk _ (List.mem_cons_self ..)).1

set_option maxHeartbeats 4000000 in
set_option maxRecDepth 100000 in
theorem newReader_spec {C : Nat → Prop} {w : World} {ad : Option Addr} {cap n p : Nat} {xs : List Nat} (hx : Sl .u8 256 C w ad cap xs) (hn : 0 < n) (hp : p + n ≤ 8 * xs.length) (hs : xs.length ≤ 4096) :
    Calls P 11 #[.slice ad xs.length cap, .int .i64 ((p : Nat) : Int), .int .i64 ((n : Nat) : Int)] w fun ex w' => ∃ b : Nat, ex = .returned (.pointer (some ⟨b, 0, none⟩)) ∧ w.heap.size ≤ b ∧ w'.heap[b]? = some (.cells #[.slice ad xs.length cap, .int .i64 0, .int .i64 ((n : Nat) : Int), .int .u8 ((xs.getD (p / 8) 0 : Nat) : Int), .int .i64 ((p / 8 : Nat) : Int), .int .i64 ((p % 8 : Nat) : Int)] 45 (0, 0)) ∧ Keep (fun b => b < w.heap.size) w w' := by
  refine doorN (e := e0) (vs := [.v (.slice ad xs.length cap), .v (.int .i64 ((p : Nat) : Int)), .v (.int .i64 ((n : Nat) : Int))]) (n := 28) (m := 3) Try.func11 rfl rfl rfl (by decide) fun a_ hI => ?_
  replace hI : Is 28 [] e0 [(0, .v (.slice ad xs.length cap)), (1, .v (.int .i64 ((p : Nat) : Int))), (2, .v (.int .i64 ((n : Nat) : Int)))] a_ := hI
  have hR : Rel (fun b => b < w.heap.size) w e0 [] [] w := Rel.start (fun k hk => hk)
  have hB : Base C w C (fun b => b < w.heap.size) w := Base.start
  have hrx := hx.room; have hmx := hx.max
  obtain ⟨q, rfl, _⟩ := hx.cells.some_ (by rw [ints_length]; omega)
  refine reg_seq tab (k := 0) (hs := []) (sy := []) (ks := [0, 1, 2]) (bs := []) (gs := [])
      (L' := [(0, .v (.slice (some q) xs.length cap)), (1, .v (.int .i64 ((p : Nat) : Int))), (2, .v (.int .i64 ((n : Nat) : Int)))])
      (H' := []) (G' := []) (k' := 0) hR hI (by kernel_rfl)
      .nil (fun e1 a1 w1 hag hR hI => ?_)
  refine reg_seq tab (k := 0) (hs := []) (sy := []) (ks := [7, 0, 1, 2]) (bs := []) (gs := [])
      (L' := [(7, .v (.int .u8 0)), (0, .v (.slice (some q) xs.length cap)), (1, .v (.int .i64 ((p : Nat) : Int))), (2, .v (.int .i64 ((n : Nat) : Int)))])
      (H' := []) (G' := []) (k' := 0) hR hI (by kernel_rfl)
      .nil (fun e2 a2 w2 hag hR hI => ?_)
  refine wp_seq ?_
  refine reg_seq tab (k := 0) (hs := [(5, .sym)]) (sy := [3, 4]) (ks := [13, 7, 0, 1, 2]) (bs := []) (gs := [])
      (L' := [(13, .v (.bool ((decide (((n : Nat) : Int) > (0 : Int))) && true))), (7, .v (.int .u8 0)), (0, .v (.slice (some q) xs.length cap)), (1, .v (.int .i64 ((p : Nat) : Int))), (2, .v (.int .i64 ((n : Nat) : Int)))])
      (H' := []) (G' := []) (k' := 0) hR hI (by kernel_rfl)
      (.cons (rfl : (decide (((n : Nat) : Int) > (0 : Int))) = (decide (((n : Nat) : Int) > (0 : Int)))) (.cons (by first | exact Bool.beq_true _ | exact Bool.beq_false _ | rfl | simp_all : ((decide (((n : Nat) : Int) > (0 : Int))) == true) = (decide (((n : Nat) : Int) > (0 : Int)))) .nil)) (fun e3 a3 w3 hag hR hI => ?_)
  refine cnd (b := ((decide (((n : Nat) : Int) > (0 : Int))) && true)) hI (by kernel_rfl) (fun hc4 => ?_) (fun hc4 => ?_)
  · skip
    replace hI := hI.re 13 (.v (.bool true)) rfl (congrArg Value.bool hc4)
    try simp only [decide_eq_true_eq, decide_eq_false_iff_not, beq_iff_eq, bne_iff_ne, beq_eq_false_iff_ne, bne_eq_false_iff_eq, Bool.and_eq_true, Bool.and_eq_false_iff, Bool.or_eq_true, Bool.or_eq_false_iff, Bool.not_eq_true', Bool.not_eq_false', ne_eq] at hc4
    refine reg_all tab (k := 0) (hs := [(2, .nw), (4, .val (.v (.int .u8 ((xs.getD (p / 8) 0 : Nat) : Int))))]) (sy := []) (ks := [7, 0, 1, 2]) (bs := []) (gs := [])
        (L' := [(7, .v (.int .u8 ((xs.getD (p / 8) 0 : Nat) : Int))), (0, .v (.slice (some q) xs.length cap)), (1, .v (.int .i64 ((p : Nat) : Int))), (2, .v (.int .i64 ((n : Nat) : Int)))])
        (H' := []) (G' := []) (k' := 0) hR hI (by kernel_rfl)
        (.cons (by omega : (0 : Int) ≤ ((p : Nat) : Int)) (.cons (by omega : (0 : Int) < (8 : Int)) (.cons (inR_i64 (n := ((p : Nat) : Int) / (8 : Int)) (by omega)) (.cons (by omega : (0 : Int) ≤ ((p / 8 : Nat) : Int) ∧ ((p / 8 : Nat) : Int) < ((xs.length : Nat) : Int)) (.cons (nats_some (i := p / 8) (hx.cells.mono hB.cls) (by omega)) (.cons (nats_load (i := p / 8) (m := 1) (hx.cells.mono hB.cls) (by omega)) .nil)))))) (fun e5 a5 w5 hag hR hI => ?_)
    refine then_n ?_
    refine reg_seq tab (k := 0) (hs := [(2, .nw), (4, .nw)]) (sy := []) (ks := [6]) (bs := [0]) (gs := [])
        (L' := [(6, .p 0 0)])
        (H' := [⟨0, 45, [.v (.slice (some q) xs.length cap), .v (.int .i64 0), .v (.int .i64 ((n : Nat) : Int)), .v (.int .u8 ((xs.getD (p / 8) 0 : Nat) : Int)), .v (.int .i64 ((p / 8 : Nat) : Int)), .v (.int .i64 ((p % 8 : Nat) : Int))]⟩]) (G' := []) (k' := 1) hR hI (by kernel_rfl)
        (.cons (by omega : (0 : Int) ≤ ((p : Nat) : Int)) (.cons (by omega : (0 : Int) < (8 : Int)) (.cons (inR_i64 (n := ((p : Nat) : Int) / (8 : Int)) (by omega)) (.cons (by omega : (0 : Int) ≤ ((p : Nat) : Int)) (.cons (by omega : (0 : Int) < (8 : Int)) .nil))))) (fun e6 a6 w6 hag hR hI => ?_)
    refine wp_ret ?_
    refine outN tab (xs := [.p 0 0]) hR hI rfl (by kernel_rfl) ?_
    exact ⟨_, rfl, Nat.le_of_not_lt (fun h => (hR.blk _ (List.mem_cons_self ..)).2 h), (hR.blk _ (List.mem_cons_self ..)).1, hB.fin hR⟩
  · skip
    replace hI := hI.re 13 (.v (.bool false)) rfl (congrArg Value.bool hc4)
    try simp only [decide_eq_true_eq, decide_eq_false_iff_not, beq_iff_eq, bne_iff_ne, beq_eq_false_iff_ne, bne_eq_false_iff_eq, Bool.and_eq_true, Bool.and_eq_false_iff, Bool.or_eq_true, Bool.or_eq_false_iff, Bool.not_eq_true', Bool.not_eq_false', ne_eq] at hc4
    simp at hc4; omega

theorem within_law {l cap : Nat} {p n : Int} (hm : cap ≤ 9223372036854775807) (hr : l ≤ cap) (h : (((((decide (((l : Nat) : Int) ≤ (4096 : Int))) && (decide (p ≥ (0 : Int)))) && (decide (n ≥ (0 : Int)))) && (decide (p ≤ (IntKind.i64.wrap ((8 : Int) * ((l : Nat) : Int)))))) && (decide (n ≤ (IntKind.i64.wrap ((IntKind.i64.wrap ((8 : Int) * ((l : Nat) : Int))) - p))))) = true) :
    (l : Int) ≤ 4096 ∧ 0 ≤ p ∧ 0 ≤ n ∧ p + n ≤ 8 * (l : Int) := by
  simp only [Bool.and_eq_true, decide_eq_true_eq] at h
  obtain ⟨⟨⟨⟨h1, h2⟩, h3⟩, h4⟩, h5⟩ := h
  have e1 : IntKind.i64.wrap ((8 : Int) * ((l : Nat) : Int)) = 8 * (l : Int) := wrap_inR (inR_i64 (by omega))
  rw [e1] at h4 h5
  have e2 : IntKind.i64.wrap (8 * (l : Int) - p) = 8 * (l : Int) - p := wrap_inR (inR_i64 (by omega))
  rw [e2] at h5
  omega

set_option maxHeartbeats 4000000 in
set_option maxRecDepth 100000 in
theorem within_spec {C : Nat → Prop} {w : World} {ad : Option Addr} {cap : Nat} {xs : List Nat} {p n : Int} (hp : -9223372036854775808 ≤ p ∧ p ≤ 9223372036854775807) (hn : -9223372036854775808 ≤ n ∧ n ≤ 9223372036854775807) (hx : Sl .u8 256 C w ad cap xs) :
    Calls P 4 #[.slice ad xs.length cap, .int .i64 p, .int .i64 n] w fun ex w' => ∃ b : Bool, ex = .returned (.bool b) ∧ Keep (fun b => b < w.heap.size) w w' ∧ (b = true → (xs.length : Int) ≤ 4096 ∧ 0 ≤ p ∧ 0 ≤ n ∧ p + n ≤ 8 * (xs.length : Int)) := by
  refine doorN (e := e0) (vs := [.v (.slice ad xs.length cap), .v (.int .i64 p), .v (.int .i64 n)]) (n := 34) (m := 3) Try.func4 rfl rfl rfl (by decide) fun a_ hI => ?_
  replace hI : Is 34 [] e0 [(0, .v (.slice ad xs.length cap)), (1, .v (.int .i64 p)), (2, .v (.int .i64 n))] a_ := hI
  have hR : Rel (fun b => b < w.heap.size) w e0 [] [] w := Rel.start (fun k hk => hk)
  have hB : Base C w C (fun b => b < w.heap.size) w := Base.start
  have hrx := hx.room; have hmx := hx.max
  refine reg_seq tab (k := 0) (hs := []) (sy := []) (ks := [0, 1, 2]) (bs := []) (gs := [])
      (L' := [(0, .v (.slice ad xs.length cap)), (1, .v (.int .i64 p)), (2, .v (.int .i64 n))])
      (H' := []) (G' := []) (k' := 0) hR hI (by kernel_rfl)
      .nil (fun e1 a1 w1 hag hR hI => ?_)
  refine reg_seq tab (k := 0) (hs := [(6, .sym), (10, .sym), (17, .sym), (26, .sym)]) (sy := [4, 5, 8, 9, 12, 13, 14, 15, 16, 19, 20, 21, 22, 23, 24, 25]) (ks := [6]) (bs := []) (gs := [])
      (L' := [(6, .v (.bool (((((decide (((xs.length : Nat) : Int) ≤ (4096 : Int))) && (decide (p ≥ (0 : Int)))) && (decide (n ≥ (0 : Int)))) && (decide (p ≤ (IntKind.i64.wrap ((8 : Int) * ((xs.length : Nat) : Int)))))) && (decide (n ≤ (IntKind.i64.wrap ((IntKind.i64.wrap ((8 : Int) * ((xs.length : Nat) : Int))) - p)))))))])
      (H' := []) (G' := []) (k' := 0) hR hI (by kernel_rfl)
      (.cons (rfl : (decide (((xs.length : Nat) : Int) ≤ (4096 : Int))) = (decide (((xs.length : Nat) : Int) ≤ (4096 : Int)))) (.cons (by first | exact Bool.beq_true _ | exact Bool.beq_false _ | rfl | simp_all : ((decide (((xs.length : Nat) : Int) ≤ (4096 : Int))) == true) = (decide (((xs.length : Nat) : Int) ≤ (4096 : Int)))) (.cons (rfl : ((decide (((xs.length : Nat) : Int) ≤ (4096 : Int))) && (decide (p ≥ (0 : Int)))) = ((decide (((xs.length : Nat) : Int) ≤ (4096 : Int))) && (decide (p ≥ (0 : Int))))) (.cons (by first | exact Bool.beq_true _ | exact Bool.beq_false _ | rfl | simp_all : (((decide (((xs.length : Nat) : Int) ≤ (4096 : Int))) && (decide (p ≥ (0 : Int)))) == true) = ((decide (((xs.length : Nat) : Int) ≤ (4096 : Int))) && (decide (p ≥ (0 : Int))))) (.cons (rfl : (((decide (((xs.length : Nat) : Int) ≤ (4096 : Int))) && (decide (p ≥ (0 : Int)))) && (decide (n ≥ (0 : Int)))) = (((decide (((xs.length : Nat) : Int) ≤ (4096 : Int))) && (decide (p ≥ (0 : Int)))) && (decide (n ≥ (0 : Int))))) (.cons (rfl : (((decide (((xs.length : Nat) : Int) ≤ (4096 : Int))) && (decide (p ≥ (0 : Int)))) && (decide (n ≥ (0 : Int)))) = (((decide (((xs.length : Nat) : Int) ≤ (4096 : Int))) && (decide (p ≥ (0 : Int)))) && (decide (n ≥ (0 : Int))))) (.cons (rfl : (((decide (((xs.length : Nat) : Int) ≤ (4096 : Int))) && (decide (p ≥ (0 : Int)))) && (decide (n ≥ (0 : Int)))) = (((decide (((xs.length : Nat) : Int) ≤ (4096 : Int))) && (decide (p ≥ (0 : Int)))) && (decide (n ≥ (0 : Int))))) (.cons (rfl : (((decide (((xs.length : Nat) : Int) ≤ (4096 : Int))) && (decide (p ≥ (0 : Int)))) && (decide (n ≥ (0 : Int)))) = (((decide (((xs.length : Nat) : Int) ≤ (4096 : Int))) && (decide (p ≥ (0 : Int)))) && (decide (n ≥ (0 : Int))))) (.cons (rfl : (((decide (((xs.length : Nat) : Int) ≤ (4096 : Int))) && (decide (p ≥ (0 : Int)))) && (decide (n ≥ (0 : Int)))) = (((decide (((xs.length : Nat) : Int) ≤ (4096 : Int))) && (decide (p ≥ (0 : Int)))) && (decide (n ≥ (0 : Int))))) (.cons (rfl : (((decide (((xs.length : Nat) : Int) ≤ (4096 : Int))) && (decide (p ≥ (0 : Int)))) && (decide (n ≥ (0 : Int)))) = (((decide (((xs.length : Nat) : Int) ≤ (4096 : Int))) && (decide (p ≥ (0 : Int)))) && (decide (n ≥ (0 : Int))))) (.cons (rfl : (((decide (((xs.length : Nat) : Int) ≤ (4096 : Int))) && (decide (p ≥ (0 : Int)))) && (decide (n ≥ (0 : Int)))) = (((decide (((xs.length : Nat) : Int) ≤ (4096 : Int))) && (decide (p ≥ (0 : Int)))) && (decide (n ≥ (0 : Int))))) (.cons (rfl : (((decide (((xs.length : Nat) : Int) ≤ (4096 : Int))) && (decide (p ≥ (0 : Int)))) && (decide (n ≥ (0 : Int)))) = (((decide (((xs.length : Nat) : Int) ≤ (4096 : Int))) && (decide (p ≥ (0 : Int)))) && (decide (n ≥ (0 : Int))))) (.cons (rfl : (((decide (((xs.length : Nat) : Int) ≤ (4096 : Int))) && (decide (p ≥ (0 : Int)))) && (decide (n ≥ (0 : Int)))) = (((decide (((xs.length : Nat) : Int) ≤ (4096 : Int))) && (decide (p ≥ (0 : Int)))) && (decide (n ≥ (0 : Int))))) (.cons (rfl : (((decide (((xs.length : Nat) : Int) ≤ (4096 : Int))) && (decide (p ≥ (0 : Int)))) && (decide (n ≥ (0 : Int)))) = (((decide (((xs.length : Nat) : Int) ≤ (4096 : Int))) && (decide (p ≥ (0 : Int)))) && (decide (n ≥ (0 : Int))))) (.cons (by first | exact Bool.beq_true _ | exact Bool.beq_false _ | rfl | simp_all : ((((decide (((xs.length : Nat) : Int) ≤ (4096 : Int))) && (decide (p ≥ (0 : Int)))) && (decide (n ≥ (0 : Int)))) == true) = (((decide (((xs.length : Nat) : Int) ≤ (4096 : Int))) && (decide (p ≥ (0 : Int)))) && (decide (n ≥ (0 : Int))))) (.cons (rfl : ((((decide (((xs.length : Nat) : Int) ≤ (4096 : Int))) && (decide (p ≥ (0 : Int)))) && (decide (n ≥ (0 : Int)))) && (decide (p ≤ (IntKind.i64.wrap ((8 : Int) * ((xs.length : Nat) : Int)))))) = ((((decide (((xs.length : Nat) : Int) ≤ (4096 : Int))) && (decide (p ≥ (0 : Int)))) && (decide (n ≥ (0 : Int)))) && (decide (p ≤ (IntKind.i64.wrap ((8 : Int) * ((xs.length : Nat) : Int))))))) (.cons (rfl : ((((decide (((xs.length : Nat) : Int) ≤ (4096 : Int))) && (decide (p ≥ (0 : Int)))) && (decide (n ≥ (0 : Int)))) && (decide (p ≤ (IntKind.i64.wrap ((8 : Int) * ((xs.length : Nat) : Int)))))) = ((((decide (((xs.length : Nat) : Int) ≤ (4096 : Int))) && (decide (p ≥ (0 : Int)))) && (decide (n ≥ (0 : Int)))) && (decide (p ≤ (IntKind.i64.wrap ((8 : Int) * ((xs.length : Nat) : Int))))))) (.cons (rfl : ((((decide (((xs.length : Nat) : Int) ≤ (4096 : Int))) && (decide (p ≥ (0 : Int)))) && (decide (n ≥ (0 : Int)))) && (decide (p ≤ (IntKind.i64.wrap ((8 : Int) * ((xs.length : Nat) : Int)))))) = ((((decide (((xs.length : Nat) : Int) ≤ (4096 : Int))) && (decide (p ≥ (0 : Int)))) && (decide (n ≥ (0 : Int)))) && (decide (p ≤ (IntKind.i64.wrap ((8 : Int) * ((xs.length : Nat) : Int))))))) (.cons (rfl : ((((decide (((xs.length : Nat) : Int) ≤ (4096 : Int))) && (decide (p ≥ (0 : Int)))) && (decide (n ≥ (0 : Int)))) && (decide (p ≤ (IntKind.i64.wrap ((8 : Int) * ((xs.length : Nat) : Int)))))) = ((((decide (((xs.length : Nat) : Int) ≤ (4096 : Int))) && (decide (p ≥ (0 : Int)))) && (decide (n ≥ (0 : Int)))) && (decide (p ≤ (IntKind.i64.wrap ((8 : Int) * ((xs.length : Nat) : Int))))))) (.cons (rfl : ((((decide (((xs.length : Nat) : Int) ≤ (4096 : Int))) && (decide (p ≥ (0 : Int)))) && (decide (n ≥ (0 : Int)))) && (decide (p ≤ (IntKind.i64.wrap ((8 : Int) * ((xs.length : Nat) : Int)))))) = ((((decide (((xs.length : Nat) : Int) ≤ (4096 : Int))) && (decide (p ≥ (0 : Int)))) && (decide (n ≥ (0 : Int)))) && (decide (p ≤ (IntKind.i64.wrap ((8 : Int) * ((xs.length : Nat) : Int))))))) (.cons (rfl : ((((decide (((xs.length : Nat) : Int) ≤ (4096 : Int))) && (decide (p ≥ (0 : Int)))) && (decide (n ≥ (0 : Int)))) && (decide (p ≤ (IntKind.i64.wrap ((8 : Int) * ((xs.length : Nat) : Int)))))) = ((((decide (((xs.length : Nat) : Int) ≤ (4096 : Int))) && (decide (p ≥ (0 : Int)))) && (decide (n ≥ (0 : Int)))) && (decide (p ≤ (IntKind.i64.wrap ((8 : Int) * ((xs.length : Nat) : Int))))))) (.cons (rfl : ((((decide (((xs.length : Nat) : Int) ≤ (4096 : Int))) && (decide (p ≥ (0 : Int)))) && (decide (n ≥ (0 : Int)))) && (decide (p ≤ (IntKind.i64.wrap ((8 : Int) * ((xs.length : Nat) : Int)))))) = ((((decide (((xs.length : Nat) : Int) ≤ (4096 : Int))) && (decide (p ≥ (0 : Int)))) && (decide (n ≥ (0 : Int)))) && (decide (p ≤ (IntKind.i64.wrap ((8 : Int) * ((xs.length : Nat) : Int))))))) (.cons (rfl : ((((decide (((xs.length : Nat) : Int) ≤ (4096 : Int))) && (decide (p ≥ (0 : Int)))) && (decide (n ≥ (0 : Int)))) && (decide (p ≤ (IntKind.i64.wrap ((8 : Int) * ((xs.length : Nat) : Int)))))) = ((((decide (((xs.length : Nat) : Int) ≤ (4096 : Int))) && (decide (p ≥ (0 : Int)))) && (decide (n ≥ (0 : Int)))) && (decide (p ≤ (IntKind.i64.wrap ((8 : Int) * ((xs.length : Nat) : Int))))))) (.cons (rfl : ((((decide (((xs.length : Nat) : Int) ≤ (4096 : Int))) && (decide (p ≥ (0 : Int)))) && (decide (n ≥ (0 : Int)))) && (decide (p ≤ (IntKind.i64.wrap ((8 : Int) * ((xs.length : Nat) : Int)))))) = ((((decide (((xs.length : Nat) : Int) ≤ (4096 : Int))) && (decide (p ≥ (0 : Int)))) && (decide (n ≥ (0 : Int)))) && (decide (p ≤ (IntKind.i64.wrap ((8 : Int) * ((xs.length : Nat) : Int))))))) (.cons (rfl : ((((decide (((xs.length : Nat) : Int) ≤ (4096 : Int))) && (decide (p ≥ (0 : Int)))) && (decide (n ≥ (0 : Int)))) && (decide (p ≤ (IntKind.i64.wrap ((8 : Int) * ((xs.length : Nat) : Int)))))) = ((((decide (((xs.length : Nat) : Int) ≤ (4096 : Int))) && (decide (p ≥ (0 : Int)))) && (decide (n ≥ (0 : Int)))) && (decide (p ≤ (IntKind.i64.wrap ((8 : Int) * ((xs.length : Nat) : Int))))))) (.cons (rfl : ((((decide (((xs.length : Nat) : Int) ≤ (4096 : Int))) && (decide (p ≥ (0 : Int)))) && (decide (n ≥ (0 : Int)))) && (decide (p ≤ (IntKind.i64.wrap ((8 : Int) * ((xs.length : Nat) : Int)))))) = ((((decide (((xs.length : Nat) : Int) ≤ (4096 : Int))) && (decide (p ≥ (0 : Int)))) && (decide (n ≥ (0 : Int)))) && (decide (p ≤ (IntKind.i64.wrap ((8 : Int) * ((xs.length : Nat) : Int))))))) (.cons (rfl : ((((decide (((xs.length : Nat) : Int) ≤ (4096 : Int))) && (decide (p ≥ (0 : Int)))) && (decide (n ≥ (0 : Int)))) && (decide (p ≤ (IntKind.i64.wrap ((8 : Int) * ((xs.length : Nat) : Int)))))) = ((((decide (((xs.length : Nat) : Int) ≤ (4096 : Int))) && (decide (p ≥ (0 : Int)))) && (decide (n ≥ (0 : Int)))) && (decide (p ≤ (IntKind.i64.wrap ((8 : Int) * ((xs.length : Nat) : Int))))))) (.cons (rfl : ((((decide (((xs.length : Nat) : Int) ≤ (4096 : Int))) && (decide (p ≥ (0 : Int)))) && (decide (n ≥ (0 : Int)))) && (decide (p ≤ (IntKind.i64.wrap ((8 : Int) * ((xs.length : Nat) : Int)))))) = ((((decide (((xs.length : Nat) : Int) ≤ (4096 : Int))) && (decide (p ≥ (0 : Int)))) && (decide (n ≥ (0 : Int)))) && (decide (p ≤ (IntKind.i64.wrap ((8 : Int) * ((xs.length : Nat) : Int))))))) (.cons (rfl : ((((decide (((xs.length : Nat) : Int) ≤ (4096 : Int))) && (decide (p ≥ (0 : Int)))) && (decide (n ≥ (0 : Int)))) && (decide (p ≤ (IntKind.i64.wrap ((8 : Int) * ((xs.length : Nat) : Int)))))) = ((((decide (((xs.length : Nat) : Int) ≤ (4096 : Int))) && (decide (p ≥ (0 : Int)))) && (decide (n ≥ (0 : Int)))) && (decide (p ≤ (IntKind.i64.wrap ((8 : Int) * ((xs.length : Nat) : Int))))))) (.cons (rfl : ((((decide (((xs.length : Nat) : Int) ≤ (4096 : Int))) && (decide (p ≥ (0 : Int)))) && (decide (n ≥ (0 : Int)))) && (decide (p ≤ (IntKind.i64.wrap ((8 : Int) * ((xs.length : Nat) : Int)))))) = ((((decide (((xs.length : Nat) : Int) ≤ (4096 : Int))) && (decide (p ≥ (0 : Int)))) && (decide (n ≥ (0 : Int)))) && (decide (p ≤ (IntKind.i64.wrap ((8 : Int) * ((xs.length : Nat) : Int))))))) (.cons (rfl : ((((decide (((xs.length : Nat) : Int) ≤ (4096 : Int))) && (decide (p ≥ (0 : Int)))) && (decide (n ≥ (0 : Int)))) && (decide (p ≤ (IntKind.i64.wrap ((8 : Int) * ((xs.length : Nat) : Int)))))) = ((((decide (((xs.length : Nat) : Int) ≤ (4096 : Int))) && (decide (p ≥ (0 : Int)))) && (decide (n ≥ (0 : Int)))) && (decide (p ≤ (IntKind.i64.wrap ((8 : Int) * ((xs.length : Nat) : Int))))))) (.cons (rfl : ((((decide (((xs.length : Nat) : Int) ≤ (4096 : Int))) && (decide (p ≥ (0 : Int)))) && (decide (n ≥ (0 : Int)))) && (decide (p ≤ (IntKind.i64.wrap ((8 : Int) * ((xs.length : Nat) : Int)))))) = ((((decide (((xs.length : Nat) : Int) ≤ (4096 : Int))) && (decide (p ≥ (0 : Int)))) && (decide (n ≥ (0 : Int)))) && (decide (p ≤ (IntKind.i64.wrap ((8 : Int) * ((xs.length : Nat) : Int))))))) (.cons (rfl : ((((decide (((xs.length : Nat) : Int) ≤ (4096 : Int))) && (decide (p ≥ (0 : Int)))) && (decide (n ≥ (0 : Int)))) && (decide (p ≤ (IntKind.i64.wrap ((8 : Int) * ((xs.length : Nat) : Int)))))) = ((((decide (((xs.length : Nat) : Int) ≤ (4096 : Int))) && (decide (p ≥ (0 : Int)))) && (decide (n ≥ (0 : Int)))) && (decide (p ≤ (IntKind.i64.wrap ((8 : Int) * ((xs.length : Nat) : Int))))))) (.cons (rfl : ((((decide (((xs.length : Nat) : Int) ≤ (4096 : Int))) && (decide (p ≥ (0 : Int)))) && (decide (n ≥ (0 : Int)))) && (decide (p ≤ (IntKind.i64.wrap ((8 : Int) * ((xs.length : Nat) : Int)))))) = ((((decide (((xs.length : Nat) : Int) ≤ (4096 : Int))) && (decide (p ≥ (0 : Int)))) && (decide (n ≥ (0 : Int)))) && (decide (p ≤ (IntKind.i64.wrap ((8 : Int) * ((xs.length : Nat) : Int))))))) (.cons (rfl : ((((decide (((xs.length : Nat) : Int) ≤ (4096 : Int))) && (decide (p ≥ (0 : Int)))) && (decide (n ≥ (0 : Int)))) && (decide (p ≤ (IntKind.i64.wrap ((8 : Int) * ((xs.length : Nat) : Int)))))) = ((((decide (((xs.length : Nat) : Int) ≤ (4096 : Int))) && (decide (p ≥ (0 : Int)))) && (decide (n ≥ (0 : Int)))) && (decide (p ≤ (IntKind.i64.wrap ((8 : Int) * ((xs.length : Nat) : Int))))))) (.cons (rfl : ((((decide (((xs.length : Nat) : Int) ≤ (4096 : Int))) && (decide (p ≥ (0 : Int)))) && (decide (n ≥ (0 : Int)))) && (decide (p ≤ (IntKind.i64.wrap ((8 : Int) * ((xs.length : Nat) : Int)))))) = ((((decide (((xs.length : Nat) : Int) ≤ (4096 : Int))) && (decide (p ≥ (0 : Int)))) && (decide (n ≥ (0 : Int)))) && (decide (p ≤ (IntKind.i64.wrap ((8 : Int) * ((xs.length : Nat) : Int))))))) (.cons (by first | exact Bool.beq_true _ | exact Bool.beq_false _ | rfl | simp_all : (((((decide (((xs.length : Nat) : Int) ≤ (4096 : Int))) && (decide (p ≥ (0 : Int)))) && (decide (n ≥ (0 : Int)))) && (decide (p ≤ (IntKind.i64.wrap ((8 : Int) * ((xs.length : Nat) : Int)))))) == true) = ((((decide (((xs.length : Nat) : Int) ≤ (4096 : Int))) && (decide (p ≥ (0 : Int)))) && (decide (n ≥ (0 : Int)))) && (decide (p ≤ (IntKind.i64.wrap ((8 : Int) * ((xs.length : Nat) : Int))))))) .nil))))))))))))))))))))))))))))))))))))) (fun e2 a2 w2 hag hR hI => ?_)
  refine wp_ret ?_
  refine outN tab (xs := [.v (.bool (((((decide (((xs.length : Nat) : Int) ≤ (4096 : Int))) && (decide (p ≥ (0 : Int)))) && (decide (n ≥ (0 : Int)))) && (decide (p ≤ (IntKind.i64.wrap ((8 : Int) * ((xs.length : Nat) : Int)))))) && (decide (n ≤ (IntKind.i64.wrap ((IntKind.i64.wrap ((8 : Int) * ((xs.length : Nat) : Int))) - p))))))]) hR hI rfl (by kernel_rfl) ?_
  exact ⟨_, rfl, hB.fin hR, within_law hmx hrx⟩

theorem getD_set_next {zs : List Bool} {i : Nat} {f : Nat → Bool} (hi : i < zs.length) (h : ∀ j, j < i → zs.getD j false = f j) : ∀ j, j < i + 1 → (zs.set i (f i)).getD j false = f j := fun j hj => by
  by_cases he : i = j
  · subst he
    simp [List.getD_eq_getElem?_getD, List.getElem?_set, hi]
  · have := h j (by omega)
    rw [List.getD_eq_getElem?_getD] at this ⊢
    rw [List.getElem?_set_ne he]
    exact this

set_option maxHeartbeats 4000000 in
set_option maxRecDepth 100000 in
theorem bitList_spec {C : Nat → Prop} {w : World} {ad : Option Addr} {cap p n : Nat} {xs : List Nat} (hx : Sl .u8 256 C w ad cap xs) (hp : p + n ≤ 8 * xs.length) (hs : xs.length ≤ 4096) :
    Calls P 5 #[.slice ad xs.length cap, .int .i64 ((p : Nat) : Int), .int .i64 ((n : Nat) : Int)] w fun ex w' => ∃ zs zd zc, ex = .returned (.tuple #[.slice zd (List.length zs) zc, .bool true]) ∧ Keep (fun b => b < w.heap.size) w w' ∧ SlB (Grow C w w') w' zd zc zs ∧ zs.length = n ∧ ∀ j, j < n → zs.getD j false = bitN xs (p + j) := by
  refine doorN (e := e0) (vs := [.v (.slice ad xs.length cap), .v (.int .i64 ((p : Nat) : Int)), .v (.int .i64 ((n : Nat) : Int))]) (n := 42) (m := 3) Try.func5 rfl rfl rfl (by decide) fun a_ hI => ?_
  replace hI : Is 42 [] e0 [(0, .v (.slice ad xs.length cap)), (1, .v (.int .i64 ((p : Nat) : Int))), (2, .v (.int .i64 ((n : Nat) : Int)))] a_ := hI
  have hR : Rel (fun b => b < w.heap.size) w e0 [] [] w := Rel.start (fun k hk => hk)
  have hB : Base C w C (fun b => b < w.heap.size) w := Base.start
  have hrx := hx.room; have hmx := hx.max
  refine reg_seq tab (k := 0) (hs := []) (sy := []) (ks := [0, 1, 2]) (bs := []) (gs := [])
      (L' := [(0, .v (.slice ad xs.length cap)), (1, .v (.int .i64 ((p : Nat) : Int))), (2, .v (.int .i64 ((n : Nat) : Int)))])
      (H' := []) (G' := []) (k' := 0) hR hI (by kernel_rfl)
      .nil (fun e1 a1 w1 hag hR hI => ?_)
  refine wp_seq ?_
  refine reg_seq tab (k := 0) (hs := [(5, .sym), (10, .nw), (12, .nw), (14, .sym)]) (sy := [3, 4, 7, 8, 9, 10, 11, 12, 13]) (ks := [24, 0, 1, 2]) (bs := []) (gs := [])
      (L' := [(24, .v (.bool (((decide (((p : Nat) : Int) < (0 : Int))) || (decide (((n : Nat) : Int) < (0 : Int)))) || (decide (((p : Nat) : Int) > ((8 * xs.length : Nat) : Int) - ((n : Nat) : Int)))))), (0, .v (.slice ad xs.length cap)), (1, .v (.int .i64 ((p : Nat) : Int))), (2, .v (.int .i64 ((n : Nat) : Int)))])
      (H' := []) (G' := []) (k' := 0) hR hI (by kernel_rfl)
      (.cons (rfl : (decide (((p : Nat) : Int) < (0 : Int))) = (decide (((p : Nat) : Int) < (0 : Int)))) (.cons (by first | exact Bool.beq_true _ | exact Bool.beq_false _ | rfl | simp_all : ((decide (((p : Nat) : Int) < (0 : Int))) == false) = !(decide (((p : Nat) : Int) < (0 : Int)))) (.cons (rfl : ((decide (((p : Nat) : Int) < (0 : Int))) || (decide (((n : Nat) : Int) < (0 : Int)))) = ((decide (((p : Nat) : Int) < (0 : Int))) || (decide (((n : Nat) : Int) < (0 : Int))))) (.cons (rfl : ((decide (((p : Nat) : Int) < (0 : Int))) || (decide (((n : Nat) : Int) < (0 : Int)))) = ((decide (((p : Nat) : Int) < (0 : Int))) || (decide (((n : Nat) : Int) < (0 : Int))))) (.cons (rfl : ((decide (((p : Nat) : Int) < (0 : Int))) || (decide (((n : Nat) : Int) < (0 : Int)))) = ((decide (((p : Nat) : Int) < (0 : Int))) || (decide (((n : Nat) : Int) < (0 : Int))))) (.cons (rfl : ((decide (((p : Nat) : Int) < (0 : Int))) || (decide (((n : Nat) : Int) < (0 : Int)))) = ((decide (((p : Nat) : Int) < (0 : Int))) || (decide (((n : Nat) : Int) < (0 : Int))))) (.cons (rfl : ((decide (((p : Nat) : Int) < (0 : Int))) || (decide (((n : Nat) : Int) < (0 : Int)))) = ((decide (((p : Nat) : Int) < (0 : Int))) || (decide (((n : Nat) : Int) < (0 : Int))))) (.cons (rfl : ((decide (((p : Nat) : Int) < (0 : Int))) || (decide (((n : Nat) : Int) < (0 : Int)))) = ((decide (((p : Nat) : Int) < (0 : Int))) || (decide (((n : Nat) : Int) < (0 : Int))))) (.cons (fun (hg : (((decide (((p : Nat) : Int) < (0 : Int))) || (decide (((n : Nat) : Int) < (0 : Int)))) == false) = true) => (inR_i64 (n := (8 : Int) * ((xs.length : Nat) : Int)) (by skip; omega))) (.cons (rfl : ((decide (((p : Nat) : Int) < (0 : Int))) || (decide (((n : Nat) : Int) < (0 : Int)))) = ((decide (((p : Nat) : Int) < (0 : Int))) || (decide (((n : Nat) : Int) < (0 : Int))))) (.cons (rfl : ((decide (((p : Nat) : Int) < (0 : Int))) || (decide (((n : Nat) : Int) < (0 : Int)))) = ((decide (((p : Nat) : Int) < (0 : Int))) || (decide (((n : Nat) : Int) < (0 : Int))))) (.cons (rfl : ((decide (((p : Nat) : Int) < (0 : Int))) || (decide (((n : Nat) : Int) < (0 : Int)))) = ((decide (((p : Nat) : Int) < (0 : Int))) || (decide (((n : Nat) : Int) < (0 : Int))))) (.cons (rfl : ((decide (((p : Nat) : Int) < (0 : Int))) || (decide (((n : Nat) : Int) < (0 : Int)))) = ((decide (((p : Nat) : Int) < (0 : Int))) || (decide (((n : Nat) : Int) < (0 : Int))))) (.cons (rfl : ((decide (((p : Nat) : Int) < (0 : Int))) || (decide (((n : Nat) : Int) < (0 : Int)))) = ((decide (((p : Nat) : Int) < (0 : Int))) || (decide (((n : Nat) : Int) < (0 : Int))))) (.cons (rfl : ((decide (((p : Nat) : Int) < (0 : Int))) || (decide (((n : Nat) : Int) < (0 : Int)))) = ((decide (((p : Nat) : Int) < (0 : Int))) || (decide (((n : Nat) : Int) < (0 : Int))))) (.cons (rfl : ((decide (((p : Nat) : Int) < (0 : Int))) || (decide (((n : Nat) : Int) < (0 : Int)))) = ((decide (((p : Nat) : Int) < (0 : Int))) || (decide (((n : Nat) : Int) < (0 : Int))))) (.cons (rfl : ((decide (((p : Nat) : Int) < (0 : Int))) || (decide (((n : Nat) : Int) < (0 : Int)))) = ((decide (((p : Nat) : Int) < (0 : Int))) || (decide (((n : Nat) : Int) < (0 : Int))))) (.cons (rfl : ((decide (((p : Nat) : Int) < (0 : Int))) || (decide (((n : Nat) : Int) < (0 : Int)))) = ((decide (((p : Nat) : Int) < (0 : Int))) || (decide (((n : Nat) : Int) < (0 : Int))))) (.cons (fun (hg : (((decide (((p : Nat) : Int) < (0 : Int))) || (decide (((n : Nat) : Int) < (0 : Int)))) == false) = true) => (inR_i64 (n := ((8 * xs.length : Nat) : Int) - ((n : Nat) : Int)) (by skip; omega))) (.cons (rfl : ((decide (((p : Nat) : Int) < (0 : Int))) || (decide (((n : Nat) : Int) < (0 : Int)))) = ((decide (((p : Nat) : Int) < (0 : Int))) || (decide (((n : Nat) : Int) < (0 : Int))))) (.cons (rfl : ((decide (((p : Nat) : Int) < (0 : Int))) || (decide (((n : Nat) : Int) < (0 : Int)))) = ((decide (((p : Nat) : Int) < (0 : Int))) || (decide (((n : Nat) : Int) < (0 : Int))))) (.cons (rfl : ((decide (((p : Nat) : Int) < (0 : Int))) || (decide (((n : Nat) : Int) < (0 : Int)))) = ((decide (((p : Nat) : Int) < (0 : Int))) || (decide (((n : Nat) : Int) < (0 : Int))))) (.cons (rfl : ((decide (((p : Nat) : Int) < (0 : Int))) || (decide (((n : Nat) : Int) < (0 : Int)))) = ((decide (((p : Nat) : Int) < (0 : Int))) || (decide (((n : Nat) : Int) < (0 : Int))))) (.cons (rfl : ((decide (((p : Nat) : Int) < (0 : Int))) || (decide (((n : Nat) : Int) < (0 : Int)))) = ((decide (((p : Nat) : Int) < (0 : Int))) || (decide (((n : Nat) : Int) < (0 : Int))))) (.cons (rfl : ((decide (((p : Nat) : Int) < (0 : Int))) || (decide (((n : Nat) : Int) < (0 : Int)))) = ((decide (((p : Nat) : Int) < (0 : Int))) || (decide (((n : Nat) : Int) < (0 : Int))))) (.cons (by first | exact Bool.beq_true _ | exact Bool.beq_false _ | rfl | simp_all : (((decide (((p : Nat) : Int) < (0 : Int))) || (decide (((n : Nat) : Int) < (0 : Int)))) == false) = !((decide (((p : Nat) : Int) < (0 : Int))) || (decide (((n : Nat) : Int) < (0 : Int))))) .nil)))))))))))))))))))))))))) (fun e2 a2 w2 hag hR hI => ?_)
  refine cnd (b := (((decide (((p : Nat) : Int) < (0 : Int))) || (decide (((n : Nat) : Int) < (0 : Int)))) || (decide (((p : Nat) : Int) > ((8 * xs.length : Nat) : Int) - ((n : Nat) : Int))))) hI (by kernel_rfl) (fun hc3 => ?_) (fun hc3 => ?_)
  · skip
    replace hI := hI.re 24 (.v (.bool true)) rfl (congrArg Value.bool hc3)
    try simp only [decide_eq_true_eq, decide_eq_false_iff_not, beq_iff_eq, bne_iff_ne, beq_eq_false_iff_ne, bne_eq_false_iff_eq, Bool.and_eq_true, Bool.and_eq_false_iff, Bool.or_eq_true, Bool.or_eq_false_iff, Bool.not_eq_true', Bool.not_eq_false', ne_eq] at hc3
    omega
  · skip
    replace hI := hI.re 24 (.v (.bool false)) rfl (congrArg Value.bool hc3)
    try simp only [decide_eq_true_eq, decide_eq_false_iff_not, beq_iff_eq, bne_iff_ne, beq_eq_false_iff_ne, bne_eq_false_iff_eq, Bool.and_eq_true, Bool.and_eq_false_iff, Bool.or_eq_true, Bool.or_eq_false_iff, Bool.not_eq_true', Bool.not_eq_false', ne_eq] at hc3
    refine wp_skip ?_
    refine then_n ?_
    refine reg_seq tab (k := 0) (hs := []) (sy := []) (ks := [8, 0, 1]) (bs := []) (gs := [0])
        (L' := [(8, .row 0), (0, .v (.slice ad xs.length cap)), (1, .v (.int .i64 ((p : Nat) : Int)))])
        (H' := []) (G' := [⟨0, 4, 1, n, (List.replicate n (.bool false))⟩]) (k' := 1) hR hI (by kernel_rfl)
        (.cons (by omega : (0 : Int) ≤ ((n : Nat) : Int) ∧ ((n : Nat) : Int) ≤ ((n : Nat) : Int)) (.cons (by omega : ((1 : Nat) : Int) * ((n : Nat) : Int) ≤ 281474976710656) (.cons (by have hm_ : maxLen = 9223372036854775807 := rfl; rw [hm_]; omega : n ≤ maxLen) .nil))) (fun e4 a4 w4 hag hR hI => ?_)
    have er_ : List.replicate n (Value.bool false) = bools (List.replicate n false) := bools_replicate n false
    rw [er_] at hR
    have hren_ : Sy.ren [(0, 0)] ⟨[(8, .row 0), (0, .v (.slice ad xs.length cap)), (1, .v (.int .i64 ((p : Nat) : Int)))], [], [⟨0, 4, 1, n, (bools (List.replicate n false))⟩], 0⟩ = ⟨[(8, .row 0), (0, .v (.slice ad xs.length cap)), (1, .v (.int .i64 ((p : Nat) : Int)))], [], [⟨0, 4, 1, n, (bools (List.replicate n false))⟩], 0⟩ := by kernel_rfl
    replace hI := hI.rename (S := ⟨[(8, .row 0), (0, .v (.slice ad xs.length cap)), (1, .v (.int .i64 ((p : Nat) : Int)))], [], [⟨0, 4, 1, n, (bools (List.replicate n false))⟩], 0⟩) (S' := ⟨[(8, .row 0), (0, .v (.slice ad xs.length cap)), (1, .v (.int .i64 ((p : Nat) : Int)))], [], [⟨0, 4, 1, n, (bools (List.replicate n false))⟩], 0⟩) hren_; replace hR := hR.rename (S := ⟨[(8, .row 0), (0, .v (.slice ad xs.length cap)), (1, .v (.int .i64 ((p : Nat) : Int)))], [], [⟨0, 4, 1, n, (bools (List.replicate n false))⟩], 0⟩) (S' := ⟨[(8, .row 0), (0, .v (.slice ad xs.length cap)), (1, .v (.int .i64 ((p : Nat) : Int)))], [], [⟨0, 4, 1, n, (bools (List.replicate n false))⟩], 0⟩) hren_ (by kernel_rfl) (by kernel_rfl); dsimp only at hI hR; clear hren_
    refine wp_seq ?_
    refine reg_seq tab (k := 1) (hs := []) (sy := []) (ks := [29, 28, 8, 0, 1]) (bs := []) (gs := [0])
        (L' := [(29, .v (.int .i64 0)), (28, .v (.int .i64 ((n : Nat) : Int))), (8, .row 0), (0, .v (.slice ad xs.length cap)), (1, .v (.int .i64 ((p : Nat) : Int)))])
        (H' := []) (G' := [⟨0, 4, 1, n, (bools (List.replicate n false))⟩]) (k' := 1) hR hI (by kernel_rfl)
        .nil (fun e5 a5 w5 hag hR hI => ?_)
    refine wp_block ?_
    refine lp (γ := Nat × List Bool) (fun (i, zs) => (⟨[(0, .v (.slice ad xs.length cap)), (1, .v (.int .i64 ((p : Nat) : Int))), (8, .row 0), (28, .v (.int .i64 ((n : Nat) : Int))), (29, .v (.int .i64 ((i : Nat) : Int)))], [], [⟨0, 4, 1, n, (bools zs)⟩], 1⟩ : Sy)) (fun (i, zs) e => zs.length = n ∧ i ≤ n ∧ ∀ j, j < i → zs.getD j false = bitN xs (p + j)) (fun (i, zs) => n - i) (0, List.replicate n false) (⟨List.length_replicate .., Nat.zero_le _, fun j h => absurd h (Nat.not_lt_zero _)⟩)
        (hR.sel [] [0] (by kernel_rfl) (by kernel_rfl)) (hI.sel [0, 1, 8, 28, 29] (by kernel_rfl)) ?_
    clear hR hI
    rintro ⟨i, zs⟩ e6 a6 w6 hp hR hI
    dsimp only at hp hR hI
    obtain ⟨hzl, hi, hz⟩ := hp
    refine reg_seq tab (k := 1) (hs := []) (sy := []) (ks := [30, 0, 1, 8, 28, 29]) (bs := []) (gs := [0])
        (L' := [(30, .v (.bool (decide (((i : Nat) : Int) < ((n : Nat) : Int))))), (0, .v (.slice ad xs.length cap)), (1, .v (.int .i64 ((p : Nat) : Int))), (8, .row 0), (28, .v (.int .i64 ((n : Nat) : Int))), (29, .v (.int .i64 ((i : Nat) : Int)))])
        (H' := []) (G' := [⟨0, 4, 1, n, (bools zs)⟩]) (k' := 1) hR hI (by kernel_rfl)
        .nil (fun e7 a7 w7 hag hR hI => ?_)
    refine wp_seq ?_
    refine cnd (b := decide (((i : Nat) : Int) < ((n : Nat) : Int))) hI (by kernel_rfl) (fun hc8 => ?_) (fun hc8 => ?_)
    · skip
      replace hI := hI.re 30 (.v (.bool true)) rfl (congrArg Value.bool hc8)
      try simp only [decide_eq_true_eq, decide_eq_false_iff_not, beq_iff_eq, bne_iff_ne, beq_eq_false_iff_ne, bne_eq_false_iff_eq, Bool.and_eq_true, Bool.and_eq_false_iff, Bool.or_eq_true, Bool.or_eq_false_iff, Bool.not_eq_true', Bool.not_eq_false', ne_eq] at hc8
      refine wp_skip ?_
      refine then_n ?_
      refine wp_seq ?_
      refine wp_block ?_
      refine reg_seq tab (k := 1) (hs := []) (sy := []) (ks := [9, 0, 1, 8, 28, 29]) (bs := []) (gs := [0])
          (L' := [(9, .v (.int .i64 ((i : Nat) : Int))), (0, .v (.slice ad xs.length cap)), (1, .v (.int .i64 ((p : Nat) : Int))), (8, .row 0), (28, .v (.int .i64 ((n : Nat) : Int))), (29, .v (.int .i64 ((i : Nat) : Int)))])
          (H' := []) (G' := [⟨0, 4, 1, n, (bools zs)⟩]) (k' := 1) hR hI (by kernel_rfl)
          .nil (fun e9 a9 w9 hag hR hI => ?_)
      refine reg (is := [0, 1, 2, 3, 4, 5, 6, 7, 8]) (by kernel_rfl) ?_
      refine part_ tab [0, 1, 2, 3, 4, 5] [6, 7, 8] (by rfl) (k := 1) (hs := [(5, .nw)]) (sy := []) (ks := [37, 34, 33, 32, 0, 1, 8, 28, 29]) (bs := []) (gs := [0])
          (L' := [(37, .v (.int .i64 ((p + i : Nat) : Int))), (34, .v (.slice ad xs.length cap)), (33, .v (.int .i64 ((i : Nat) : Int))), (32, .row 0), (0, .v (.slice ad xs.length cap)), (1, .v (.int .i64 ((p : Nat) : Int))), (8, .row 0), (28, .v (.int .i64 ((n : Nat) : Int))), (29, .v (.int .i64 ((i : Nat) : Int)))])
          (H' := []) (G' := [⟨0, 4, 1, n, (bools zs)⟩]) (k' := 1) hR hI (by kernel_rfl)
          (.cons (inR_i64 (n := ((p : Nat) : Int) + ((i : Nat) : Int)) (by omega)) .nil) (fun e10 a10 w10 hag hR hI => ?_)
      refine callOp (ys := [.v (.slice ad xs.length cap), .v (.int .i64 ((p + i : Nat) : Int))]) hI rfl rfl ⟨_, rfl, rfl, rfl⟩ (by kernel_rfl) Try.func9 rfl rfl ?_
      refine (bit_spec (hx.now hB hR) (by omega) hs).mono ?_
      rintro ex w11 ⟨rfl, hk⟩
      replace hR := hR.same hk; clear hk
      refine ⟨_, rfl, ?_⟩
      replace hI := hI.put (d := some 38) (x := .v (.bool (bitN xs (p + i)))) (by intro t ht; cases ht; decide) rfl
      replace hI := hI.sel [38, 37, 34, 33, 32, 0, 1, 8, 28, 29] (by kernel_rfl : sel _ _ = some [(38, .v (.bool (bitN xs (p + i)))), (37, .v (.int .i64 ((p + i : Nat) : Int))), (34, .v (.slice ad xs.length cap)), (33, .v (.int .i64 ((i : Nat) : Int))), (32, .row 0), (0, .v (.slice ad xs.length cap)), (1, .v (.int .i64 ((p : Nat) : Int))), (8, .row 0), (28, .v (.int .i64 ((n : Nat) : Int))), (29, .v (.int .i64 ((i : Nat) : Int)))])
      refine part_ tab [7, 8] [] (by rfl) (k := 1) (hs := []) (sy := []) (ks := [0, 1, 8, 28, 29]) (bs := []) (gs := [0])
          (L' := [(0, .v (.slice ad xs.length cap)), (1, .v (.int .i64 ((p : Nat) : Int))), (8, .row 0), (28, .v (.int .i64 ((n : Nat) : Int))), (29, .v (.int .i64 ((i : Nat) : Int)))])
          (H' := []) (G' := [⟨0, 4, 1, n, ((bools zs).set i (.bool (bitN xs (p + i))))⟩]) (k' := 1) hR hI (by kernel_rfl)
          (.cons (by omega : (0 : Int) ≤ ((i : Nat) : Int) ∧ ((i : Nat) : Int) < ((n : Nat) : Int)) (.cons (by omega : i < n * 1) .nil)) (fun e12 a12 w12 hag hR hI => ?_)
      refine ops_nil ?_
      refine normal_block ?_
      refine then_n ?_
      refine reg_all tab (k := 1) (hs := [(0, .nw)]) (sy := []) (ks := [29, 0, 1, 8, 28]) (bs := []) (gs := [0])
          (L' := [(29, .v (.int .i64 ((i + 1 : Nat) : Int))), (0, .v (.slice ad xs.length cap)), (1, .v (.int .i64 ((p : Nat) : Int))), (8, .row 0), (28, .v (.int .i64 ((n : Nat) : Int)))])
          (H' := []) (G' := [⟨0, 4, 1, n, ((bools zs).set i (.bool (bitN xs (p + i))))⟩]) (k' := 1) hR hI (by kernel_rfl)
          (.cons (inR_i64 (n := ((i : Nat) : Int) + (1 : Int)) (by omega)) .nil) (fun e13 a13 w13 hag hR hI => ?_)
      refine then_n ?_
      rw [bools_set] at hR
      exact ⟨(i + 1, zs.set i (bitN xs (p + i))), e13, ⟨by rw [List.length_set]; exact hzl, by omega, getD_set_next (by omega) hz⟩, by (try dsimp only); omega, hR.sel [] [0] (by kernel_rfl) (by kernel_rfl), hI.sel [0, 1, 8, 28, 29] (by kernel_rfl)⟩
    · skip
      replace hI := hI.re 30 (.v (.bool false)) rfl (congrArg Value.bool hc8)
      try simp only [decide_eq_true_eq, decide_eq_false_iff_not, beq_iff_eq, bne_iff_ne, beq_eq_false_iff_ne, bne_eq_false_iff_eq, Bool.and_eq_true, Bool.and_eq_false_iff, Bool.or_eq_true, Bool.or_eq_false_iff, Bool.not_eq_true', Bool.not_eq_false', ne_eq] at hc8
      refine wp_exit ?_
      refine exit_then ?_
      refine exit_then ?_
      refine exit_hit ?_
      refine then_n ?_
      refine reg_seq tab (k := 1) (hs := []) (sy := []) (ks := [7, 6]) (bs := []) (gs := [0])
          (L' := [(7, .v (.bool true)), (6, .row 0)])
          (H' := []) (G' := [⟨0, 4, 1, n, (bools zs)⟩]) (k' := 1) hR hI (by kernel_rfl)
          .nil (fun e14 a14 w14 hag hR hI => ?_)
      refine wp_ret ?_
      obtain ⟨hB_, hR_, hrel_, zd, zc, hv_, hcells_, hlen_, hcap_, hmax_⟩ := hB.release hR (y := ⟨0, 4, 1, n, (bools zs)⟩) (by simp) rfl _ dropN_mem
      replace hx := hx.rel hrel_
      have hz0 : SlB _ _ zd zc zs := ⟨hcells_, (by dsimp only at hlen_ hcap_; rw [bools_length] at hlen_; omega), hmax_⟩
      replace hI := hI.re 6 (.v (.slice zd n zc)) rfl hv_
      replace hB := hB_; replace hR := hR_.sel [] [] (by kernel_rfl : selH _ _ = some []) (by kernel_rfl : selG _ _ = some []); clear hB_ hR_ hrel_ hcells_ hv_
      replace hI := hI.re 6 (.v (.slice zd zs.length zc)) rfl (by simp only [den]; rw [hzl])
      refine outN tab (xs := [.v (.slice zd zs.length zc), .v (.bool true)]) hR hI rfl (by kernel_rfl) ?_
      exact ⟨zs, zd, zc, rfl, hB.fin hR, hz0.fin hB hR, hzl, fun j hj => hz j (by omega)⟩

theorem idle10 (x0 : Value) : Idle P 10 #[x0] := ⟨fun w => by
  refine callsD_of_wpS Try.func10 rfl fun c₀ cs hu => ?_
  apply wpS_seq
  apply wpS_region
  simp [wpOpsS, go_sem, recoverD, hu, Try.ntmps10, Exit.thenS]
  refine wpS_cond (t := false) (by simp [Act.eval, Array.replicate]) ?_
  simp only [Bool.false_eq_true, if_false]
  refine wpS_of_wp (wp_skip ?_)
  cases c₀
  simp_all [bodyPostS, results, Try.results10]⟩
theorem inv10 (x0 : Value) (w : World) : (invoke (.fn (.func 10) #[x0]) #[]).run P w = .ok (.enter 10 #[x0]) w := by
  simp [invoke, callFunc, Try.func10, Try.f10]

theorem getD_snoc_next {zs : List Bool} {i : Nat} {f : Nat → Bool} {x : Bool} (hl : zs.length = i) (hx : x = f i) (h : ∀ j, j < i → zs.getD j false = f j) : ∀ j, j < i + 1 → (zs ++ [x]).getD j false = f j := fun j hj => by
  by_cases he : j < i
  · rw [List.getD_eq_getElem?_getD, List.getElem?_append_left (by omega), ← List.getD_eq_getElem?_getD]; exact h j he
  · obtain rfl : j = i := by omega
    rw [List.getD_eq_getElem?_getD, List.getElem?_append_right (by omega), hl]; simpa using hx

set_option maxHeartbeats 4000000 in
set_option maxRecDepth 100000 in
theorem readBits_spec {C : Nat → Prop} {w : World} {ad : Option Addr} {cap p n : Nat} {xs : List Nat} (hx : Sl .u8 256 C w ad cap xs) (hn : 0 < n) (hp : p + n ≤ 8 * xs.length) (hs : xs.length ≤ 4096) :
    Calls P 7 #[.slice ad xs.length cap, .int .i64 ((p : Nat) : Int), .int .i64 ((n : Nat) : Int)] w fun ex w' => ∃ zs zd zc, ex = .returned (.slice zd (List.length zs) zc) ∧ Keep (fun b => b < w.heap.size) w w' ∧ SlB (Grow C w w') w' zd zc zs ∧ zs.length = n ∧ ∀ j, j < n → zs.getD j false = bitN xs (p + j) := by
  refine doorD (e := e0) (vs := [.v (.slice ad xs.length cap), .v (.int .i64 ((p : Nat) : Int)), .v (.int .i64 ((n : Nat) : Int))]) (n := 27) (m := 3) Try.func7 rfl rfl rfl (by decide) fun a_ hI => ?_
  replace hI : Is 27 [] e0 [(0, .v (.slice ad xs.length cap)), (1, .v (.int .i64 ((p : Nat) : Int))), (2, .v (.int .i64 ((n : Nat) : Int)))] a_ := hI
  have hR : Rel (fun b => b < w.heap.size) w e0 [] [] w := Rel.start (fun k hk => hk)
  have hB : Base C w C (fun b => b < w.heap.size) w := Base.start
  have hrx := hx.room; have hmx := hx.max; have hnb : n ≤ 32768 := by omega
  refine reg_seq tab (k := 0) (hs := []) (sy := []) (ks := [6, 0, 1, 2]) (bs := [0]) (gs := [])
      (L' := [(6, .p 0 0), (0, .v (.slice ad xs.length cap)), (1, .v (.int .i64 ((p : Nat) : Int))), (2, .v (.int .i64 ((n : Nat) : Int)))])
      (H' := [⟨0, 24, [.v (.slice none 0 0)]⟩]) (G' := []) (k' := 1) hR hI (by kernel_rfl)
      .nil (fun e1 a1 w1 hag hR hI => ?_)
  refine wp_seq ?_
  refine reg (is := [0, 1]) (by kernel_rfl) ?_
  refine rawOp (x := .v (.func (.func 10) #[] #[.pointer (some ⟨e1.b 0, 0, none⟩)])) hI rfl rfl (by kernel_rfl) (fun ev hev => by simp [execOp, Instr.makeFunc, hev (.tmp 6) _ rfl, den]) (fun a2 hI => ?_)
  replace hI := hI.sel [9, 6, 0, 1, 2] (by kernel_rfl : sel _ _ = some [(9, .v (.func (.func 10) #[] #[.pointer (some ⟨e1.b 0, 0, none⟩)])), (6, .p 0 0), (0, .v (.slice ad xs.length cap)), (1, .v (.int .i64 ((p : Nat) : Int))), (2, .v (.int .i64 ((n : Nat) : Int)))])
  refine deferFn hI rfl rfl rfl ⟨_, rfl, rfl, rfl⟩ rfl (fun a2 hI => ?_)
  replace hI := hI.sel [9, 6, 0, 1, 2] (by kernel_rfl : sel _ _ = some [(9, .v (.func (.func 10) #[] #[.pointer (some ⟨e1.b 0, 0, none⟩)])), (6, .p 0 0), (0, .v (.slice ad xs.length cap)), (1, .v (.int .i64 ((p : Nat) : Int))), (2, .v (.int .i64 ((n : Nat) : Int)))])
  refine ops_nil ?_
  refine then_n ?_
  refine wp_seq ?_
  refine reg (is := [0, 1, 2, 3, 4]) (by kernel_rfl) ?_
  refine part_ tab [0, 1, 2] [3, 4] (by rfl) (k := 1) (hs := []) (sy := []) (ks := [12, 11, 10, 6, 2]) (bs := [0]) (gs := [])
      (L' := [(12, .v (.int .i64 ((n : Nat) : Int))), (11, .v (.int .i64 ((p : Nat) : Int))), (10, .v (.slice ad xs.length cap)), (6, .p 0 0), (2, .v (.int .i64 ((n : Nat) : Int)))])
      (H' := [⟨0, 24, [.v (.slice none 0 0)]⟩]) (G' := []) (k' := 1) hR hI (by kernel_rfl)
      .nil (fun e3 a3 w3 hag hR hI => ?_)
  refine callOp (ys := [.v (.slice ad xs.length cap), .v (.int .i64 ((p : Nat) : Int)), .v (.int .i64 ((n : Nat) : Int))]) hI rfl rfl ⟨_, rfl, rfl, rfl⟩ (by kernel_rfl) Try.func11 rfl rfl ?_
  refine (newReader_spec (hx.now hB hR) hn hp hs).mono ?_
  rintro ex w4 ⟨b, rfl, hge, hnew, hk⟩
  obtain ⟨hag_, hnb_, hR_⟩ := hR.gotX (L := []) (k := 1) (cs := [.v (.slice ad xs.length cap), .v (.int .i64 0), .v (.int .i64 ((n : Nat) : Int)), .v (.int .u8 ((xs.getD (p / 8) 0 : Nat) : Int)), .v (.int .i64 ((p / 8 : Nat) : Int)), .v (.int .i64 ((p % 8 : Nat) : Int))]) (by kernel_rfl) (by kernel_rfl) hk hge hnew
  have hkF_ := hR.keepF hk
  replace hx := hx.nextX hB hR hkF_ hge
  have hB_ := hB.nextX hR hkF_ hge
  replace hI := hI.agreeB (H := [⟨0, 24, [.v (.slice none 0 0)]⟩]) (G := []) (by kernel_rfl) hag_
  replace hR := hR_; replace hB := hB_; clear hB_ hR_ hkF_ hk
  refine ⟨_, rfl, ?_⟩
  replace hI := hI.put (d := some 13) (x := .p 1 0) (by intro t ht; cases ht; decide) rfl
  replace hI := hI.sel [13, 12, 11, 10, 6, 2] (by kernel_rfl : sel _ _ = some [(13, .p 1 0), (12, .v (.int .i64 ((n : Nat) : Int))), (11, .v (.int .i64 ((p : Nat) : Int))), (10, .v (.slice ad xs.length cap)), (6, .p 0 0), (2, .v (.int .i64 ((n : Nat) : Int)))])
  refine part_ tab [4] [] (by rfl) (k := 2) (hs := []) (sy := []) (ks := [7, 6, 2]) (bs := [1, 0]) (gs := [])
      (L' := [(7, .p 1 0), (6, .p 0 0), (2, .v (.int .i64 ((n : Nat) : Int)))])
      (H' := [⟨1, 45, [.v (.slice ad xs.length cap), .v (.int .i64 0), .v (.int .i64 ((n : Nat) : Int)), .v (.int .u8 ((xs.getD (p / 8) 0 : Nat) : Int)), .v (.int .i64 ((p / 8 : Nat) : Int)), .v (.int .i64 ((p % 8 : Nat) : Int))]⟩, ⟨0, 24, [.v (.slice none 0 0)]⟩]) (G' := []) (k' := 2) hR hI (by kernel_rfl)
      .nil (fun e5 a5 w5 hag hR hI => ?_)
  refine ops_nil ?_
  refine then_n ?_
  refine wp_seq ?_
  refine reg_seq tab (k := 2) (hs := []) (sy := []) (ks := [8, 7, 6, 2]) (bs := [1, 0]) (gs := [])
      (L' := [(8, .v (.int .i64 0)), (7, .p 1 0), (6, .p 0 0), (2, .v (.int .i64 ((n : Nat) : Int)))])
      (H' := [⟨1, 45, [.v (.slice ad xs.length cap), .v (.int .i64 0), .v (.int .i64 ((n : Nat) : Int)), .v (.int .u8 ((xs.getD (p / 8) 0 : Nat) : Int)), .v (.int .i64 ((p / 8 : Nat) : Int)), .v (.int .i64 ((p % 8 : Nat) : Int))]⟩, ⟨0, 24, [.v (.slice none 0 0)]⟩]) (G' := []) (k' := 2) hR hI (by kernel_rfl)
      .nil (fun e6 a6 w6 hag hR hI => ?_)
  refine wp_block ?_
  obtain ⟨e7, hag_, hr_, hR_⟩ := hR.nilRow (L := [(8, .v (.int .i64 0)), (7, .p 1 0), (6, .p 0 0), (2, .v (.int .i64 ((n : Nat) : Int)))]) 2 (by kernel_rfl) 4 1
  replace hI := hI.agreeB (H := [⟨1, 45, [.v (.slice ad xs.length cap), .v (.int .i64 0), .v (.int .i64 ((n : Nat) : Int)), .v (.int .u8 ((xs.getD (p / 8) 0 : Nat) : Int)), .v (.int .i64 ((p / 8 : Nat) : Int)), .v (.int .i64 ((p % 8 : Nat) : Int))]⟩, ⟨0, 24, [.v (.slice none 0 0)]⟩]) (G := []) (by kernel_rfl) hag_; replace hR := hR_; clear hag_ hR_
  replace hR := hR.reblk (b := ⟨0, 24, [.v (.slice none 0 0)]⟩) (by simp) [.row 2] [⟨1, 45, [.v (.slice ad xs.length cap), .v (.int .i64 0), .v (.int .i64 ((n : Nat) : Int)), .v (.int .u8 ((xs.getD (p / 8) 0 : Nat) : Int)), .v (.int .i64 ((p / 8 : Nat) : Int)), .v (.int .i64 ((p % 8 : Nat) : Int))]⟩] (by simp) (by simp only [dens, den, hr_])
  dsimp only at hR
  clear hr_
  replace hR := hR.reblk (b := ⟨1, 45, [.v (.slice ad xs.length cap), .v (.int .i64 0), .v (.int .i64 ((n : Nat) : Int)), .v (.int .u8 ((xs.getD (p / 8) 0 : Nat) : Int)), .v (.int .i64 ((p / 8 : Nat) : Int)), .v (.int .i64 ((p % 8 : Nat) : Int))]⟩) (by simp) [.v (.slice ad xs.length cap), .v (.int .i64 ((0 : Nat) : Int)), .v (.int .i64 ((n : Nat) : Int)), .v (.int .u8 (((xs.getD (p / 8) 0) : Nat) : Int)), .v (.int .i64 (((p + 0) / 8 : Nat) : Int)), .v (.int .i64 (((p + 0) % 8 : Nat) : Int))] [⟨0, 24, [.row 2]⟩] (by simp) (by simp only [dens, den, Nat.add_zero]; rfl)
  dsimp only at hR
  refine lpM (γ := Nat × Nat × List Bool) (fun (i, c, zs) => (⟨[(2, .v (.int .i64 ((n : Nat) : Int))), (6, .p 0 0), (7, .p 1 0), (8, .v (.int .i64 ((i : Nat) : Int)))], [⟨0, 24, [.row 2]⟩, ⟨1, 45, [.v (.slice ad xs.length cap), .v (.int .i64 ((i : Nat) : Int)), .v (.int .i64 ((n : Nat) : Int)), .v (.int .u8 ((c : Nat) : Int)), .v (.int .i64 (((p + i) / 8 : Nat) : Int)), .v (.int .i64 (((p + i) % 8 : Nat) : Int))]⟩], [⟨2, 4, 1, i, (bools zs)⟩], 3⟩ : Sy)) (fun (i, c, zs) e C F wb => Sl .u8 256 C wb ad cap xs ∧ zs.length = i ∧ i ≤ n ∧ c < 256 ∧ (i < n → c = xs.getD ((p + i) / 8) 0) ∧ ∀ j, j < i → zs.getD j false = bitN xs (p + j)) (fun (i, c, zs) => n - i) (0, xs.getD (p / 8) 0, []) hB (⟨hx, rfl, Nat.zero_le _, hx.get _ (by decide), fun _ => rfl, fun j h => absurd h (Nat.not_lt_zero _)⟩)
      (hR.sel [0, 1] [2] (by kernel_rfl) (by kernel_rfl)) (hI.sel [2, 6, 7, 8] (by kernel_rfl)) ?_
  clear hR hI hB
  rintro ⟨i, c, zs⟩ e8 C8 F8 wb8 a8 w8 hB hp hR hI
  dsimp only at hp hR hI
  obtain ⟨hx, hzl, hin, hc, hcur0, hz⟩ := hp
  refine wp_seq ?_
  refine reg_seq tab (k := 3) (hs := []) (sy := []) (ks := [16, 2, 6, 7, 8]) (bs := [0, 1]) (gs := [2])
      (L' := [(16, .v (.bool (decide (((i : Nat) : Int) < ((n : Nat) : Int))))), (2, .v (.int .i64 ((n : Nat) : Int))), (6, .p 0 0), (7, .p 1 0), (8, .v (.int .i64 ((i : Nat) : Int)))])
      (H' := [⟨0, 24, [.row 2]⟩, ⟨1, 45, [.v (.slice ad xs.length cap), .v (.int .i64 ((i : Nat) : Int)), .v (.int .i64 ((n : Nat) : Int)), .v (.int .u8 ((c : Nat) : Int)), .v (.int .i64 (((p + i) / 8 : Nat) : Int)), .v (.int .i64 (((p + i) % 8 : Nat) : Int))]⟩]) (G' := [⟨2, 4, 1, i, (bools zs)⟩]) (k' := 3) hR hI (by kernel_rfl)
      .nil (fun e9 a9 w9 hag hR hI => ?_)
  refine cnd (b := decide (((i : Nat) : Int) < ((n : Nat) : Int))) hI (by kernel_rfl) (fun hc10 => ?_) (fun hc10 => ?_)
  · skip
    replace hI := hI.re 16 (.v (.bool true)) rfl (congrArg Value.bool hc10)
    try simp only [decide_eq_true_eq, decide_eq_false_iff_not, beq_iff_eq, bne_iff_ne, beq_eq_false_iff_ne, bne_eq_false_iff_eq, Bool.and_eq_true, Bool.and_eq_false_iff, Bool.or_eq_true, Bool.or_eq_false_iff, Bool.not_eq_true', Bool.not_eq_false', ne_eq] at hc10
    have hi : i < n := by omega
    have hcur := hcur0 hi
    refine wp_skip ?_
    refine then_n ?_
    refine wp_seq ?_
    refine wp_block ?_
    refine wp_seq ?_
    refine regL 5 (hR.sel [0] [] (by kernel_rfl : selH _ _ = some [⟨0, 24, [.row 2]⟩]) (by kernel_rfl : selG _ _ = some [])) (by kernel_rfl) (fun hS => ?_)
    replace hR := hR.drew; have hF := hR.fore
    refine takeL tab (H := [⟨0, 24, [.row 2]⟩]) (G := []) (hs := []) (gs := []) (is := [0, 1]) (ks := [20, 19, 2, 6, 7, 8]) (f' := 4)
        (L' := [(20, .p 1 0), (19, .row 2), (2, .v (.int .i64 ((n : Nat) : Int))), (6, .p 0 0), (7, .p 1 0), (8, .v (.int .i64 ((i : Nat) : Int)))]) hS hI (by kernel_rfl) (fun _ _ _ _ _ h => h) (by kernel_rfl)
        .nil (by kernel_rfl) (by kernel_rfl) (by kernel_rfl) (by rfl) (fun a11 hI => ?_)
    refine oneL (i := 2) (f' := 3) (by kernel_rfl) (by rfl) ?_
    refine callH (ys := [.p 1 0]) hI rfl rfl ⟨_, rfl, rfl, rfl⟩ (by kernel_rfl) Try.func12 rfl rfl ?_
    have hblk_ := hR.blk ⟨1, 45, [.v (.slice ad xs.length cap), .v (.int .i64 ((i : Nat) : Int)), .v (.int .i64 ((n : Nat) : Int)), .v (.int .u8 ((c : Nat) : Int)), .v (.int .i64 (((p + i) / 8 : Nat) : Int)), .v (.int .i64 (((p + i) % 8 : Nat) : Int))]⟩ (by simp)
    refine (set_spec (C := fun _ => False) hblk_.1 (fun h => h) hc).mono ?_
    rintro ex w12 ⟨rfl, hk, hnew⟩
    have hkF_ := hR.keepB (b := ⟨1, 45, [.v (.slice ad xs.length cap), .v (.int .i64 ((i : Nat) : Int)), .v (.int .i64 ((n : Nat) : Int)), .v (.int .u8 ((c : Nat) : Int)), .v (.int .i64 (((p + i) / 8 : Nat) : Int)), .v (.int .i64 (((p + i) % 8 : Nat) : Int))]⟩) (by simp) hk
    have hS_ := hS.heldB hk (fun x hx => by simp only [List.mem_cons, List.not_mem_nil, or_false] at hx; subst hx; exact hR.hh _ (by simp) ⟨1, 45, [.v (.slice ad xs.length cap), .v (.int .i64 ((i : Nat) : Int)), .v (.int .i64 ((n : Nat) : Int)), .v (.int .u8 ((c : Nat) : Int)), .v (.int .i64 (((p + i) / 8 : Nat) : Int)), .v (.int .i64 (((p + i) % 8 : Nat) : Int))]⟩ (by simp) (Nat.ne_of_beq_eq_false rfl)) (fun y hy => by cases hy) (fun hf => hblk_.2 (hF.sub _ hf))
    replace hx := hx.nextF hB hR hkF_
    have hB_ := hB.nextF hR hkF_
    replace hF := hF.growB hR hkF_; replace hS := hS_; clear hS_
    replace hR := hR.turned (b := ⟨1, 45, [.v (.slice ad xs.length cap), .v (.int .i64 ((i : Nat) : Int)), .v (.int .i64 ((n : Nat) : Int)), .v (.int .u8 ((c : Nat) : Int)), .v (.int .i64 (((p + i) / 8 : Nat) : Int)), .v (.int .i64 (((p + i) % 8 : Nat) : Int))]⟩) (by simp) [.v (.slice ad xs.length cap), .v (.int .i64 ((i : Nat) : Int)), .v (.int .i64 ((n : Nat) : Int)), .v (.int .u8 ((c : Nat) : Int)), .v (.int .i64 (((p + i) / 8 : Nat) : Int)), .v (.int .i64 (((p + i) % 8 : Nat) : Int))] [⟨0, 24, [.row 2]⟩] (by simp) hk hnew
    dsimp only at hR; replace hB := hB_; clear hB_ hk hkF_ hblk_
    refine ⟨_, rfl, hS, ?_⟩
    replace hI := hI.put (d := some 21) (x := .v (.bool (((c / 2 ^ ((p + i) % 8) % 2 : Nat) : Int) == (1 : Int)))) (by intro t ht; cases ht; decide) rfl
    replace hI := hI.sel [21, 20, 19, 2, 6, 7, 8] (by kernel_rfl : sel _ _ = some [(21, .v (.bool (((c / 2 ^ ((p + i) % 8) % 2 : Nat) : Int) == (1 : Int)))), (20, .p 1 0), (19, .row 2), (2, .v (.int .i64 ((n : Nat) : Int))), (6, .p 0 0), (7, .p 1 0), (8, .v (.int .i64 ((i : Nat) : Int)))])
    refine oneL (i := 3) (f' := 2) (by kernel_rfl) (by rfl) ?_
    refine effH tab (k := 3) (hh := .no) (r := ⟨.sl 3 0 1 1, [⟨3, 4, [.v (.bool (((c / 2 ^ ((p + i) % 8) % 2 : Nat) : Int) == (1 : Int)))]⟩, ⟨1, 45, [.v (.slice ad xs.length cap), .v (.int .i64 ((i : Nat) : Int)), .v (.int .i64 ((n : Nat) : Int)), .v (.int .u8 ((c : Nat) : Int)), .v (.int .i64 (((p + i) / 8 : Nat) : Int)), .v (.int .i64 (((p + i) % 8 : Nat) : Int))]⟩, ⟨0, 24, [.row 2]⟩], [⟨2, 4, 1, i, (bools zs)⟩], 4, _, false⟩) hR hI (by kernel_rfl) rfl rfl rfl (by kernel_rfl) .nil (fun e13 a13 w13 hag hR2 hI => ?_)
    replace hS := Rel.old (k := 3) hS hR hR2 hF hag [0] [] (by kernel_rfl) (by kernel_rfl) (by kernel_rfl); replace hR := hR2
    refine ⟨hS, ?_⟩
    refine wpL_env hag (by kernel_rfl) ?_
    replace hS := hS.agree (k := 3) (L := []) (Wf.of (by kernel_rfl)) hag
    replace hI := hI.sel [22, 21, 20, 19, 2, 6, 7, 8] (by kernel_rfl : sel _ _ = some [(22, .sl 3 0 1 1), (21, .v (.bool (((c / 2 ^ ((p + i) % 8) % 2 : Nat) : Int) == (1 : Int)))), (20, .p 1 0), (19, .row 2), (2, .v (.int .i64 ((n : Nat) : Int))), (6, .p 0 0), (7, .p 1 0), (8, .v (.int .i64 ((i : Nat) : Int)))])
    refine oneL (i := 4) (f' := 1) (by kernel_rfl) (by rfl) ?_
    refine effH tab (k := 4) (hh := .no) (r := ⟨.row 4, [⟨3, 4, [.v (.bool (((c / 2 ^ ((p + i) % 8) % 2 : Nat) : Int) == (1 : Int)))]⟩, ⟨1, 45, [.v (.slice ad xs.length cap), .v (.int .i64 ((i : Nat) : Int)), .v (.int .i64 ((n : Nat) : Int)), .v (.int .u8 ((c : Nat) : Int)), .v (.int .i64 (((p + i) / 8 : Nat) : Int)), .v (.int .i64 (((p + i) % 8 : Nat) : Int))]⟩, ⟨0, 24, [.row 2]⟩], [⟨4, 4, 1, (i + 1), ((bools zs) ++ [.bool (((c / 2 ^ ((p + i) % 8) % 2 : Nat) : Int) == (1 : Int))])⟩], 5, _, false⟩) hR hI (by kernel_rfl) rfl rfl rfl (by kernel_rfl) (.cons (by have hm_ : maxLen = 9223372036854775807 := rfl; rw [hm_]; omega : i + 1 ≤ maxLen) (.cons (by omega : (i + 1) * 1 ≤ 140737488355328) .nil)) (fun e14 a14 w14 hag hR2 hI => ?_)
    replace hS := Rel.old (k := 4) hS hR hR2 hF hag [0] [] (by kernel_rfl) (by kernel_rfl) (by kernel_rfl); replace hR := hR2
    refine ⟨hS, ?_⟩
    refine wpL_env hag (by kernel_rfl) ?_
    replace hS := hS.agree (k := 4) (L := []) (Wf.of (by kernel_rfl)) hag
    replace hI := hI.sel [23, 22, 21, 20, 19, 2, 6, 7, 8] (by kernel_rfl : sel _ _ = some [(23, .row 4), (22, .sl 3 0 1 1), (21, .v (.bool (((c / 2 ^ ((p + i) % 8) % 2 : Nat) : Int) == (1 : Int)))), (20, .p 1 0), (19, .row 2), (2, .v (.int .i64 ((n : Nat) : Int))), (6, .p 0 0), (7, .p 1 0), (8, .v (.int .i64 ((i : Nat) : Int)))])
    refine endL (i := 5) (f' := 0) (by kernel_rfl) (by rfl) (by kernel_rfl) ?_
    refine effH tab (k := 5) (hh := .no) (r := ⟨.v (undef), [⟨0, 24, [.row 4]⟩, ⟨3, 4, [.v (.bool (((c / 2 ^ ((p + i) % 8) % 2 : Nat) : Int) == (1 : Int)))]⟩, ⟨1, 45, [.v (.slice ad xs.length cap), .v (.int .i64 ((i : Nat) : Int)), .v (.int .i64 ((n : Nat) : Int)), .v (.int .u8 ((c : Nat) : Int)), .v (.int .i64 (((p + i) / 8 : Nat) : Int)), .v (.int .i64 (((p + i) % 8 : Nat) : Int))]⟩], [⟨4, 4, 1, (i + 1), ((bools zs) ++ [.bool (((c / 2 ^ ((p + i) % 8) % 2 : Nat) : Int) == (1 : Int))])⟩], 5, _, true⟩) hR hI (by kernel_rfl) rfl rfl rfl (by kernel_rfl) .nil (fun e15 a15 w15 hag hR2 hI => ?_)
    replace hR := hR2; clear hR2
    replace hI := hI.sel [23, 22, 21, 20, 19, 2, 6, 7, 8] (by kernel_rfl : sel _ _ = some [(23, .row 4), (22, .sl 3 0 1 1), (21, .v (.bool (((c / 2 ^ ((p + i) % 8) % 2 : Nat) : Int) == (1 : Int)))), (20, .p 1 0), (19, .row 2), (2, .v (.int .i64 ((n : Nat) : Int))), (6, .p 0 0), (7, .p 1 0), (8, .v (.int .i64 ((i : Nat) : Int)))])
    refine doneL (by kernel_rfl) ?_
    refine then_n ?_
    replace hI := hI.sel [2, 6, 7, 8] (by kernel_rfl : sel _ _ = some [(2, .v (.int .i64 ((n : Nat) : Int))), (6, .p 0 0), (7, .p 1 0), (8, .v (.int .i64 ((i : Nat) : Int)))]); replace hR := hR.sel [0, 1] [4] (by kernel_rfl : selH _ _ = some [⟨0, 24, [.row 4]⟩, ⟨1, 45, [.v (.slice ad xs.length cap), .v (.int .i64 ((i : Nat) : Int)), .v (.int .i64 ((n : Nat) : Int)), .v (.int .u8 ((c : Nat) : Int)), .v (.int .i64 (((p + i) / 8 : Nat) : Int)), .v (.int .i64 (((p + i) % 8 : Nat) : Int))]⟩]) (by kernel_rfl : selG _ _ = some [⟨4, 4, 1, (i + 1), ((bools zs) ++ [.bool (((c / 2 ^ ((p + i) % 8) % 2 : Nat) : Int) == (1 : Int))])⟩])
    refine reg (is := [0, 1]) (by kernel_rfl) ?_
    refine part_ tab [0] [1] (by rfl) (k := 5) (hs := []) (sy := []) (ks := [24, 2, 6, 7, 8]) (bs := [0, 1]) (gs := [4])
        (L' := [(24, .p 1 0), (2, .v (.int .i64 ((n : Nat) : Int))), (6, .p 0 0), (7, .p 1 0), (8, .v (.int .i64 ((i : Nat) : Int)))])
        (H' := [⟨0, 24, [.row 4]⟩, ⟨1, 45, [.v (.slice ad xs.length cap), .v (.int .i64 ((i : Nat) : Int)), .v (.int .i64 ((n : Nat) : Int)), .v (.int .u8 ((c : Nat) : Int)), .v (.int .i64 (((p + i) / 8 : Nat) : Int)), .v (.int .i64 (((p + i) % 8 : Nat) : Int))]⟩]) (G' := [⟨4, 4, 1, (i + 1), ((bools zs) ++ [.bool (((c / 2 ^ ((p + i) % 8) % 2 : Nat) : Int) == (1 : Int))])⟩]) (k' := 5) hR hI (by kernel_rfl)
        .nil (fun e16 a16 w16 hag hR hI => ?_)
    refine callOp (ys := [.p 1 0]) hI rfl rfl ⟨_, rfl, rfl, rfl⟩ (by kernel_rfl) Try.func13 rfl rfl ?_
    have hblk_ := hR.blk ⟨1, 45, [.v (.slice ad xs.length cap), .v (.int .i64 ((i : Nat) : Int)), .v (.int .i64 ((n : Nat) : Int)), .v (.int .u8 ((c : Nat) : Int)), .v (.int .i64 (((p + i) / 8 : Nat) : Int)), .v (.int .i64 (((p + i) % 8 : Nat) : Int))]⟩ (by simp)
    refine (next_spec hblk_.1 (fun h => hblk_.2 h.2) hc (hx.now hB hR) hcur hi (by omega) hs hnb).mono ?_
    rintro ex w17 ⟨c2, rfl, hk, hnew, hc2, hcur2⟩
    have hkF_ := hR.keepB (b := ⟨1, 45, [.v (.slice ad xs.length cap), .v (.int .i64 ((i : Nat) : Int)), .v (.int .i64 ((n : Nat) : Int)), .v (.int .u8 ((c : Nat) : Int)), .v (.int .i64 (((p + i) / 8 : Nat) : Int)), .v (.int .i64 (((p + i) % 8 : Nat) : Int))]⟩) (by simp) hk
    replace hx := hx.nextF hB hR hkF_
    have hB_ := hB.nextF hR hkF_
    replace hR := hR.turned (b := ⟨1, 45, [.v (.slice ad xs.length cap), .v (.int .i64 ((i : Nat) : Int)), .v (.int .i64 ((n : Nat) : Int)), .v (.int .u8 ((c : Nat) : Int)), .v (.int .i64 (((p + i) / 8 : Nat) : Int)), .v (.int .i64 (((p + i) % 8 : Nat) : Int))]⟩) (by simp) [.v (.slice ad xs.length cap), .v (.int .i64 (((i + 1) : Nat) : Int)), .v (.int .i64 ((n : Nat) : Int)), .v (.int .u8 ((c2 : Nat) : Int)), .v (.int .i64 (((p + (i + 1)) / 8 : Nat) : Int)), .v (.int .i64 (((p + (i + 1)) % 8 : Nat) : Int))] [⟨0, 24, [.row 4]⟩] (by simp) hk hnew
    dsimp only at hR; replace hB := hB_; clear hB_ hk hkF_ hblk_
    refine ⟨_, rfl, ?_⟩
    replace hI := hI.put (d := some 25) (x := .tup []) (by intro t ht; cases ht; decide) rfl
    replace hI := hI.sel [25, 24, 2, 6, 7, 8] (by kernel_rfl : sel _ _ = some [(25, .tup []), (24, .p 1 0), (2, .v (.int .i64 ((n : Nat) : Int))), (6, .p 0 0), (7, .p 1 0), (8, .v (.int .i64 ((i : Nat) : Int)))])
    refine ops_nil ?_
    refine normal_block ?_
    refine then_n ?_
    refine reg_all tab (k := 5) (hs := [(1, .nw)]) (sy := []) (ks := [8, 2, 6, 7]) (bs := [1, 0]) (gs := [4])
        (L' := [(8, .v (.int .i64 ((i + 1 : Nat) : Int))), (2, .v (.int .i64 ((n : Nat) : Int))), (6, .p 0 0), (7, .p 1 0)])
        (H' := [⟨1, 45, [.v (.slice ad xs.length cap), .v (.int .i64 (((i + 1) : Nat) : Int)), .v (.int .i64 ((n : Nat) : Int)), .v (.int .u8 ((c2 : Nat) : Int)), .v (.int .i64 (((p + (i + 1)) / 8 : Nat) : Int)), .v (.int .i64 (((p + (i + 1)) % 8 : Nat) : Int))]⟩, ⟨0, 24, [.row 4]⟩]) (G' := [⟨4, 4, 1, (i + 1), ((bools zs) ++ [.bool (((c / 2 ^ ((p + i) % 8) % 2 : Nat) : Int) == (1 : Int))])⟩]) (k' := 5) hR hI (by kernel_rfl)
        (.cons (inR_i64 (n := ((i : Nat) : Int) + (1 : Int)) (by omega)) .nil) (fun e18 a18 w18 hag hR hI => ?_)
    refine then_n ?_
    rw [bools_snoc] at hR
    have hren_ : Sy.ren [(2, 4)] ⟨[(8, .v (.int .i64 ((i + 1 : Nat) : Int))), (2, .v (.int .i64 ((n : Nat) : Int))), (6, .p 0 0), (7, .p 1 0)], [⟨1, 45, [.v (.slice ad xs.length cap), .v (.int .i64 (((i + 1) : Nat) : Int)), .v (.int .i64 ((n : Nat) : Int)), .v (.int .u8 ((c2 : Nat) : Int)), .v (.int .i64 (((p + (i + 1)) / 8 : Nat) : Int)), .v (.int .i64 (((p + (i + 1)) % 8 : Nat) : Int))]⟩, ⟨0, 24, [.row 2]⟩], [⟨2, 4, 1, (i + 1), (bools (zs ++ [((c / 2 ^ ((p + i) % 8) % 2 : Nat) : Int) == (1 : Int)]))⟩], 0⟩ = ⟨[(8, .v (.int .i64 ((i + 1 : Nat) : Int))), (2, .v (.int .i64 ((n : Nat) : Int))), (6, .p 0 0), (7, .p 1 0)], [⟨1, 45, [.v (.slice ad xs.length cap), .v (.int .i64 (((i + 1) : Nat) : Int)), .v (.int .i64 ((n : Nat) : Int)), .v (.int .u8 ((c2 : Nat) : Int)), .v (.int .i64 (((p + (i + 1)) / 8 : Nat) : Int)), .v (.int .i64 (((p + (i + 1)) % 8 : Nat) : Int))]⟩, ⟨0, 24, [.row 4]⟩], [⟨4, 4, 1, (i + 1), (bools (zs ++ [((c / 2 ^ ((p + i) % 8) % 2 : Nat) : Int) == (1 : Int)]))⟩], 0⟩ := by kernel_rfl
    replace hI := hI.rename (S := ⟨[(8, .v (.int .i64 ((i + 1 : Nat) : Int))), (2, .v (.int .i64 ((n : Nat) : Int))), (6, .p 0 0), (7, .p 1 0)], [⟨1, 45, [.v (.slice ad xs.length cap), .v (.int .i64 (((i + 1) : Nat) : Int)), .v (.int .i64 ((n : Nat) : Int)), .v (.int .u8 ((c2 : Nat) : Int)), .v (.int .i64 (((p + (i + 1)) / 8 : Nat) : Int)), .v (.int .i64 (((p + (i + 1)) % 8 : Nat) : Int))]⟩, ⟨0, 24, [.row 4]⟩], [⟨4, 4, 1, (i + 1), (bools (zs ++ [((c / 2 ^ ((p + i) % 8) % 2 : Nat) : Int) == (1 : Int)]))⟩], 0⟩) (S' := ⟨[(8, .v (.int .i64 ((i + 1 : Nat) : Int))), (2, .v (.int .i64 ((n : Nat) : Int))), (6, .p 0 0), (7, .p 1 0)], [⟨1, 45, [.v (.slice ad xs.length cap), .v (.int .i64 (((i + 1) : Nat) : Int)), .v (.int .i64 ((n : Nat) : Int)), .v (.int .u8 ((c2 : Nat) : Int)), .v (.int .i64 (((p + (i + 1)) / 8 : Nat) : Int)), .v (.int .i64 (((p + (i + 1)) % 8 : Nat) : Int))]⟩, ⟨0, 24, [.row 2]⟩], [⟨2, 4, 1, (i + 1), (bools (zs ++ [((c / 2 ^ ((p + i) % 8) % 2 : Nat) : Int) == (1 : Int)]))⟩], 0⟩) hren_; replace hR := hR.rename (S := ⟨[(8, .v (.int .i64 ((i + 1 : Nat) : Int))), (2, .v (.int .i64 ((n : Nat) : Int))), (6, .p 0 0), (7, .p 1 0)], [⟨1, 45, [.v (.slice ad xs.length cap), .v (.int .i64 (((i + 1) : Nat) : Int)), .v (.int .i64 ((n : Nat) : Int)), .v (.int .u8 ((c2 : Nat) : Int)), .v (.int .i64 (((p + (i + 1)) / 8 : Nat) : Int)), .v (.int .i64 (((p + (i + 1)) % 8 : Nat) : Int))]⟩, ⟨0, 24, [.row 4]⟩], [⟨4, 4, 1, (i + 1), (bools (zs ++ [((c / 2 ^ ((p + i) % 8) % 2 : Nat) : Int) == (1 : Int)]))⟩], 0⟩) (S' := ⟨[(8, .v (.int .i64 ((i + 1 : Nat) : Int))), (2, .v (.int .i64 ((n : Nat) : Int))), (6, .p 0 0), (7, .p 1 0)], [⟨1, 45, [.v (.slice ad xs.length cap), .v (.int .i64 (((i + 1) : Nat) : Int)), .v (.int .i64 ((n : Nat) : Int)), .v (.int .u8 ((c2 : Nat) : Int)), .v (.int .i64 (((p + (i + 1)) / 8 : Nat) : Int)), .v (.int .i64 (((p + (i + 1)) % 8 : Nat) : Int))]⟩, ⟨0, 24, [.row 2]⟩], [⟨2, 4, 1, (i + 1), (bools (zs ++ [((c / 2 ^ ((p + i) % 8) % 2 : Nat) : Int) == (1 : Int)]))⟩], 0⟩) hren_ (by kernel_rfl) (by kernel_rfl); dsimp only at hI hR; clear hren_
    exact ⟨(i + 1, c2, zs ++ [((c / 2 ^ ((p + i) % 8) % 2 : Nat) : Int) == (1 : Int)]), _, _, _, _, hB, ⟨hx, by rw [List.length_append, hzl]; rfl, by omega, hc2, hcur2, getD_snoc_next hzl (by rw [hcur]; rfl) hz⟩, (by (try dsimp only); omega), hR.sel [0, 1] [2] (by kernel_rfl) (by kernel_rfl), hI.sel [2, 6, 7, 8] (by kernel_rfl)⟩
  · skip
    replace hI := hI.re 16 (.v (.bool false)) rfl (congrArg Value.bool hc10)
    try simp only [decide_eq_true_eq, decide_eq_false_iff_not, beq_iff_eq, bne_iff_ne, beq_eq_false_iff_ne, bne_eq_false_iff_eq, Bool.and_eq_true, Bool.and_eq_false_iff, Bool.or_eq_true, Bool.or_eq_false_iff, Bool.not_eq_true', Bool.not_eq_false', ne_eq] at hc10
    refine wp_exit ?_
    refine exit_then ?_
    refine exit_then ?_
    refine exit_hit ?_
    refine then_n ?_
    obtain ⟨hB_, hR_, hrel_, zd, zc, hv_, hcells_, hlen_, hcap_, hmax_⟩ := hB.release hR (y := ⟨2, 4, 1, i, (bools zs)⟩) (by simp) rfl _ dropN_mem
    replace hx := hx.rel hrel_
    have hz0 : SlB _ _ zd zc zs := ⟨hcells_, (by dsimp only at hlen_ hcap_; rw [bools_length] at hlen_; omega), hmax_⟩
    replace hB := hB_; replace hR := hR_.sel [0, 1] [] (by kernel_rfl : selH _ _ = some [⟨0, 24, [.row 2]⟩, ⟨1, 45, [.v (.slice ad xs.length cap), .v (.int .i64 ((i : Nat) : Int)), .v (.int .i64 ((n : Nat) : Int)), .v (.int .u8 ((c : Nat) : Int)), .v (.int .i64 (((p + i) / 8 : Nat) : Int)), .v (.int .i64 (((p + i) % 8 : Nat) : Int))]⟩]) (by kernel_rfl : selG _ _ = some []); clear hB_ hR_ hrel_ hcells_
    replace hR := hR.reblk (b := ⟨0, 24, [.row 2]⟩) (by simp) [.v (.slice zd i zc)] [⟨1, 45, [.v (.slice ad xs.length cap), .v (.int .i64 ((i : Nat) : Int)), .v (.int .i64 ((n : Nat) : Int)), .v (.int .u8 ((c : Nat) : Int)), .v (.int .i64 (((p + i) / 8 : Nat) : Int)), .v (.int .i64 (((p + i) % 8 : Nat) : Int))]⟩] (by simp) (by simp only [dens, den, hv_])
    dsimp only at hR
    clear hv_
    refine reg_seq tab (k := 3) (hs := []) (sy := []) (ks := [6]) (bs := [0]) (gs := [])
        (L' := [(6, .p 0 0)])
        (H' := [⟨0, 24, [.v (.slice zd i zc)]⟩]) (G' := []) (k' := 3) hR hI (by kernel_rfl)
        .nil (fun e19 a19 w19 hag hR hI => ?_)
    refine wp_ret ?_
    refine outF tab (xs := [.v (.slice zd i zc)]) hR hI (inv10 _ _) (idle10 _) rfl (by kernel_rfl) ?_
    exact ⟨zs, zd, zc, by rw [hzl]; rfl, hB.fin hR, hz0.fin hB hR, by omega, fun j hj => hz j (by omega)⟩

end Go.Proofs.Ytbfbpkcepchldaa.Stride
