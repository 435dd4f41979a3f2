/- Walks of the program's functions, printed by a program of mine (walk.py) over the words of Stride: each function's contract. -/
import Derived.Test.YthmklldgccopcaaDoorProg
import Derived.Test.YthmklldgccopcaaDoorStride
import Derived.Test.YthmklldgccopcaaDoorMag
namespace Go.Proofs.YthmklldgccopcaaDoor.Stride
open Go Go.RowKit Go.Proofs.YthmklldgccopcaaDoor.Mag
set_option linter.unusedVariables false
set_option linter.unusedSimpArgs false
noncomputable abbrev P : Program := Tryd.prog
def T : Tab := [(3, ⟨.int .i64, 1, 8, .int .i64 0⟩),
  (4, ⟨.bool, 1, 1, .bool false⟩),
  (5, ⟨.int .u8, 1, 1, .int .u8 0⟩),
  (9, ⟨.string, 1, 16, .string ⟨#[]⟩⟩),
  (21, ⟨.int .i32, 1, 4, .int .i32 0⟩),
  (26, ⟨.iface, 1, 16, .nilIface⟩),
  (31, ⟨.struct [(0, 1, false), (1, 1, false), (2, 1, false), (3, 1, false), (4, 1, false)], 5, 40, .agg #[.string ⟨#[]⟩, .string ⟨#[]⟩, .int .i32 0, .int .u8 0, .bool false]⟩)]

set_option maxRecDepth 100000 in
theorem tab : TabOK P T :=
  ⟨⟨(by kernel_rfl : P.underlying 3 = some (.int .i64)), by kernel_rfl, by kernel_rfl, by kernel_rfl⟩, 
  ⟨⟨(by kernel_rfl : P.underlying 4 = some .bool), by kernel_rfl, by kernel_rfl, by kernel_rfl⟩, 
  ⟨⟨(by kernel_rfl : P.underlying 5 = some (.int .u8)), by kernel_rfl, by kernel_rfl, by kernel_rfl⟩, 
  ⟨⟨(by kernel_rfl : P.underlying 9 = some .string), by kernel_rfl, by kernel_rfl, by kernel_rfl⟩, 
  ⟨⟨(by kernel_rfl : P.underlying 21 = some (.int .i32)), by kernel_rfl, by kernel_rfl, by kernel_rfl⟩, 
  ⟨⟨(by kernel_rfl : (P.underlying 26).map ifaceD = some true), by kernel_rfl, by kernel_rfl, by kernel_rfl⟩, 
  ⟨⟨⟨by kernel_rfl, by kernel_rfl⟩, by kernel_rfl, by kernel_rfl, by kernel_rfl⟩, trivial⟩⟩⟩⟩⟩⟩⟩

/-- A digit. -/
def dig (c : UInt8) : Prop := 48 ≤ c.toNat ∧ c.toNat ≤ 57
def digs (l : List UInt8) : Prop := ∀ j, j < l.length → dig (l.getD j 0)
def asc (l : List UInt8) : Prop := ∀ j, j < l.length → (l.getD j 0).toNat < 128

set_option maxHeartbeats 4000000 in
set_option maxRecDepth 100000 in
theorem digp_spec {C : Nat → Prop} {w : World} (r : Int) :
    Calls P 17 #[.int .i32 r] w fun ex w' => ex = .returned (.bool (decide (r < (48 : Int)) || decide (r > (57 : Int)))) ∧ Keep (fun b => b < w.heap.size) w w' := by
  refine doorN (e := e0) (vs := [.v (.int .i32 r)]) (n := 9) (m := 1) Tryd.func17 rfl rfl rfl (by decide) fun a_ hI => ?_
  replace hI : Is 9 [] e0 [(0, .v (.int .i32 r))] a_ := hI
  have hR : Rel (fun b => b < w.heap.size) w e0 [] [] w := Rel.start (fun k hk => hk)
  have hB : Base C w C (fun b => b < w.heap.size) w := Base.start
  refine reg_seq tab (k := 0) (hs := []) (sy := []) (ks := [0]) (bs := []) (gs := [])
      (L' := [(0, .v (.int .i32 r))])
      (H' := []) (G' := []) (k' := 0) hR hI (by kernel_rfl)
      .nil (fun e1 a1 w1 hag hR hI => ?_)
  refine reg_seq tab (k := 0) (hs := [(5, .sym)]) (sy := [3, 4]) (ks := [2]) (bs := []) (gs := [])
      (L' := [(2, .v (.bool ((decide (r < (48 : Int))) || (decide (r > (57 : Int))))))])
      (H' := []) (G' := []) (k' := 0) hR hI (by kernel_rfl)
      (.cons (rfl : (decide (r < (48 : Int))) = (decide (r < (48 : Int)))) (.cons (by first | exact Bool.beq_true _ | exact Bool.beq_false _ | rfl | simp_all : ((decide (r < (48 : Int))) == false) = !(decide (r < (48 : Int)))) .nil)) (fun e2 a2 w2 hag hR hI => ?_)
  refine wp_ret ?_
  refine outN tab (xs := [.v (.bool ((decide (r < (48 : Int))) || (decide (r > (57 : Int)))))]) hR hI rfl (by kernel_rfl) ?_
  exact ⟨rfl, hB.fin hR⟩

set_option maxHeartbeats 4000000 in
set_option maxRecDepth 100000 in
theorem isSign_spec {C : Nat → Prop} {w : World} (r : Int) :
    Calls P 10 #[.int .u8 r] w fun ex w' => ex = .returned (.bool ((r == (45 : Int)) || (r == (43 : Int)))) ∧ Keep (fun b => b < w.heap.size) w w' := by
  refine doorN (e := e0) (vs := [.v (.int .u8 r)]) (n := 9) (m := 1) Tryd.func10 rfl rfl rfl (by decide) fun a_ hI => ?_
  replace hI : Is 9 [] e0 [(0, .v (.int .u8 r))] a_ := hI
  have hR : Rel (fun b => b < w.heap.size) w e0 [] [] w := Rel.start (fun k hk => hk)
  have hB : Base C w C (fun b => b < w.heap.size) w := Base.start
  refine reg_seq tab (k := 0) (hs := []) (sy := []) (ks := [0]) (bs := []) (gs := [])
      (L' := [(0, .v (.int .u8 r))])
      (H' := []) (G' := []) (k' := 0) hR hI (by kernel_rfl)
      .nil (fun e1 a1 w1 hag hR hI => ?_)
  refine reg_seq tab (k := 0) (hs := [(5, .sym)]) (sy := [3, 4]) (ks := [2]) (bs := []) (gs := [])
      (L' := [(2, .v (.bool ((r == (45 : Int)) || (r == (43 : Int)))))])
      (H' := []) (G' := []) (k' := 0) hR hI (by kernel_rfl)
      (.cons (rfl : (r == (45 : Int)) = (r == (45 : Int))) (.cons (by first | exact Bool.beq_true _ | exact Bool.beq_false _ | rfl | simp_all : ((r == (45 : Int)) == false) = !(r == (45 : Int))) .nil)) (fun e2 a2 w2 hag hR hI => ?_)
  refine wp_ret ?_
  refine outN tab (xs := [.v (.bool ((r == (45 : Int)) || (r == (43 : Int))))]) hR hI rfl (by kernel_rfl) ?_
  exact ⟨rfl, hB.fin hR⟩

set_option maxHeartbeats 4000000 in
set_option maxRecDepth 100000 in
theorem isDot_spec {C : Nat → Prop} {w : World} (r : Int) :
    Calls P 12 #[.int .u8 r] w fun ex w' => ex = .returned (.bool (r == (46 : Int))) ∧ Keep (fun b => b < w.heap.size) w w' := by
  refine doorN (e := e0) (vs := [.v (.int .u8 r)]) (n := 5) (m := 1) Tryd.func12 rfl rfl rfl (by decide) fun a_ hI => ?_
  replace hI : Is 5 [] e0 [(0, .v (.int .u8 r))] a_ := hI
  have hR : Rel (fun b => b < w.heap.size) w e0 [] [] w := Rel.start (fun k hk => hk)
  have hB : Base C w C (fun b => b < w.heap.size) w := Base.start
  refine reg_seq tab (k := 0) (hs := []) (sy := []) (ks := [0]) (bs := []) (gs := [])
      (L' := [(0, .v (.int .u8 r))])
      (H' := []) (G' := []) (k' := 0) hR hI (by kernel_rfl)
      .nil (fun e1 a1 w1 hag hR hI => ?_)
  refine reg_seq tab (k := 0) (hs := []) (sy := []) (ks := [2]) (bs := []) (gs := [])
      (L' := [(2, .v (.bool (r == (46 : Int))))])
      (H' := []) (G' := []) (k' := 0) hR hI (by kernel_rfl)
      .nil (fun e2 a2 w2 hag hR hI => ?_)
  refine wp_ret ?_
  refine outN tab (xs := [.v (.bool (r == (46 : Int)))]) hR hI rfl (by kernel_rfl) ?_
  exact ⟨rfl, hB.fin hR⟩

set_option maxHeartbeats 4000000 in
set_option maxRecDepth 100000 in
theorem inSet_spec {C : Nat → Prop} {w : World} (c : Int) :
    Calls P 15 #[.int .i32 c, .string (str [48])] w fun ex w' => ex = .returned (.bool (decide (c = 48))) ∧ Keep (fun b => b < w.heap.size) w w' := by
  refine doorN (e := e0) (vs := [.v (.int .i32 c), .v (.string (str ([48] : List UInt8)))]) (n := 15) (m := 2) Tryd.func15 rfl rfl rfl (by decide) fun a_ hI => ?_
  replace hI : Is 15 [] e0 [(0, .v (.int .i32 c)), (1, .v (.string (str ([48] : List UInt8))))] a_ := hI
  have hR : Rel (fun b => b < w.heap.size) w e0 [] [] w := Rel.start (fun k hk => hk)
  have hB : Base C w C (fun b => b < w.heap.size) w := Base.start
  refine reg_seq tab (k := 0) (hs := []) (sy := []) (ks := [0, 1]) (bs := []) (gs := [])
      (L' := [(0, .v (.int .i32 c)), (1, .v (.string (str ([48] : List UInt8))))])
      (H' := []) (G' := []) (k' := 0) hR hI (by kernel_rfl)
      .nil (fun e1 a1 w1 hag hR hI => ?_)
  refine wp_seq ?_
  refine wp_seq ?_
  refine reg (is := [0, 1]) (by kernel_rfl) ?_
  refine part_ tab [0] [1] (by rfl) (k := 0) (hs := []) (sy := []) (ks := [7, 0]) (bs := []) (gs := [])
      (L' := [(7, .v (.string (str ([48] : List UInt8)))), (0, .v (.int .i32 c))])
      (H' := []) (G' := []) (k' := 0) hR hI (by kernel_rfl)
      .nil (fun e2 a2 w2 hag hR hI => ?_)
  refine rangeOp tab hI rfl rfl rfl rfl rfl (by kernel_rfl : arg _ _ = some (.v (.string (str ([48] : List UInt8))))) (fun a3 w3 it3 hit_ hitlt_ hk hit hI => ?_)
  have hitw : w.heap.size ≤ it3 := hit_ ▸ hB.size hR
  have hitF := hR.newIt (w' := w3) hitlt_ hit_
  have hB_ := hB.next hR hk
  replace hR := hR.after hk
  replace hB := hB_; clear hB_ hk
  replace hI := hI.sel [8, 7, 0] (by kernel_rfl : sel _ _ = some [(8, .v (.pointer (some ⟨it3, 0, none⟩))), (7, .v (.string (str ([48] : List UInt8)))), (0, .v (.int .i32 c))])
  refine ops_nil ?_
  refine then_n ?_
  refine wp_block ?_
  refine lpM (γ := Nat) (fun i => (⟨[(0, .v (.int .i32 c)), (8, .v (.pointer (some ⟨it3, 0, none⟩)))], [], [], 0⟩ : Sy)) (fun i e C F wb => wb.heap[it3]? = some (.stringIter (str [48]) i) ∧ F it3 ∧ i ≤ 1 ∧ (0 < i → c ≠ 48)) (fun i => 1 - i) (0) hB (⟨hit, hitF, Nat.zero_le _, fun h => absurd h (Nat.lt_irrefl _)⟩)
      (hR.sel [] [] (by kernel_rfl) (by kernel_rfl)) (hI.sel [0, 8] (by kernel_rfl)) ?_
  clear hR hI hB
  rintro i e4 C4 F4 wb4 a4 w4 hB hp hR hI
  dsimp only at hp hR hI
  obtain ⟨hit, hitF, hi1, hc⟩ := hp
  refine wp_seq ?_
  refine reg (is := [0, 1]) (by kernel_rfl) ?_
  refine nextOp (l := ([48] : List UInt8)) (pos := i) hI rfl rfl rfl rfl (by kernel_rfl) (hR.iter hit hitF) (fun h => by have h0 : i = 0 := by { have : List.length [(48 : UInt8)] = 1 := rfl; omega }; subst h0; decide) (fun a5 w5 hlt_ hk hit2 hI => ?_) (fun a5 hend_ hI => ?_)
  · skip
    have hB_ := hB.nextI hR hk hitw; have hitF_ := hR.keepIt (w' := w5) hitF hk.size
    replace hR := hR.nextI hitF hk; replace hB := hB_; replace hit := hit2; replace hitF := hitF_; clear hB_ hk hit2 hitF_
    replace hI := hI.sel [9, 0, 8] (by kernel_rfl : sel _ _ = some [(9, .v (.tuple #[.bool true, .int .i64 ((i : Nat) : Int), .int .i32 (((([48] : List UInt8).getD i 0).toNat : Nat) : Int)])), (0, .v (.int .i32 c)), (8, .v (.pointer (some ⟨it3, 0, none⟩)))])
    refine part_ tab [1] [] (by rfl) (k := 0) (hs := []) (sy := []) (ks := [10, 9, 0, 8]) (bs := []) (gs := [])
        (L' := [(10, .v (.bool true)), (9, .v (.tuple #[.bool true, .int .i64 ((i : Nat) : Int), .int .i32 (((([48] : List UInt8).getD i 0).toNat : Nat) : Int)])), (0, .v (.int .i32 c)), (8, .v (.pointer (some ⟨it3, 0, none⟩)))])
        (H' := []) (G' := []) (k' := 0) hR hI (by kernel_rfl)
        .nil (fun e6 a6 w6 hag hR hI => ?_)
    refine ops_nil ?_
    refine then_n ?_
    refine wp_seq ?_
    refine cnd_t hI (by kernel_rfl) ?_
    refine wp_skip ?_
    refine then_n ?_
    refine wp_block ?_
    refine reg_seq tab (k := 0) (hs := []) (sy := []) (ks := [6, 0, 8]) (bs := []) (gs := [])
        (L' := [(6, .v (.int .i32 (((([48] : List UInt8).getD i 0).toNat : Nat) : Int))), (0, .v (.int .i32 c)), (8, .v (.pointer (some ⟨it3, 0, none⟩)))])
        (H' := []) (G' := []) (k' := 0) hR hI (by kernel_rfl)
        .nil (fun e7 a7 w7 hag hR hI => ?_)
    refine reg_seq tab (k := 0) (hs := []) (sy := []) (ks := [14, 0, 8]) (bs := []) (gs := [])
        (L' := [(14, .v (.bool (c == (((([48] : List UInt8).getD i 0).toNat : Nat) : Int)))), (0, .v (.int .i32 c)), (8, .v (.pointer (some ⟨it3, 0, none⟩)))])
        (H' := []) (G' := []) (k' := 0) hR hI (by kernel_rfl)
        .nil (fun e8 a8 w8 hag hR hI => ?_)
    refine cnd (b := (c == (((([48] : List UInt8).getD i 0).toNat : Nat) : Int))) hI (by kernel_rfl) (fun hc9 => ?_) (fun hc9 => ?_)
    · skip
      replace hI := hI.re 14 (.v (.bool true)) rfl (congrArg Value.bool hc9)
      try simp only [decide_eq_true_eq, decide_eq_false_iff_not, beq_iff_eq, bne_iff_ne, beq_eq_false_iff_ne, bne_eq_false_iff_eq, Bool.and_eq_true, Bool.and_eq_false_iff, Bool.or_eq_true, Bool.or_eq_false_iff, Bool.not_eq_true', Bool.not_eq_false', ne_eq] at hc9
      have hceq : c = 48 := by { have h0 : i = 0 := by { have : List.length [(48 : UInt8)] = 1 := rfl; omega }; subst h0; exact hc9 }
      refine reg_seq tab (k := 0) (hs := []) (sy := []) (ks := [4]) (bs := []) (gs := [])
          (L' := [(4, .v (.bool true))])
          (H' := []) (G' := []) (k' := 0) hR hI (by kernel_rfl)
          .nil (fun e10 a10 w10 hag hR hI => ?_)
      refine wp_ret ?_
      refine ret_block ?_
      refine ret_then ?_
      refine ret_block ?_
      refine ret_then ?_
      refine outN tab (xs := [.v (.bool true)]) hR hI rfl (by kernel_rfl) ?_
      exact ⟨by rw [decide_eq_true hceq]; rfl, hB.fin hR⟩
    · skip
      replace hI := hI.re 14 (.v (.bool false)) rfl (congrArg Value.bool hc9)
      try simp only [decide_eq_true_eq, decide_eq_false_iff_not, beq_iff_eq, bne_iff_ne, beq_eq_false_iff_ne, bne_eq_false_iff_eq, Bool.and_eq_true, Bool.and_eq_false_iff, Bool.or_eq_true, Bool.or_eq_false_iff, Bool.not_eq_true', Bool.not_eq_false', ne_eq] at hc9
      have hne : c ≠ 48 := by { have h0 : i = 0 := by { have : List.length [(48 : UInt8)] = 1 := rfl; omega }; subst h0; exact hc9 }
      refine wp_skip ?_
      refine normal_block ?_
      refine then_n ?_
      exact ⟨(i + 1), _, _, _, _, hB, ⟨hit, hitF, by have : List.length [(48 : UInt8)] = 1 := rfl; omega, fun _ => hne⟩, (by have : List.length [(48 : UInt8)] = 1 := rfl; (try dsimp only); omega), hR.sel [] [] (by kernel_rfl) (by kernel_rfl), hI.sel [0, 8] (by kernel_rfl)⟩
  · skip
    replace hI := hI.sel [9, 0, 8] (by kernel_rfl : sel _ _ = some [(9, .v (.tuple #[.bool false])), (0, .v (.int .i32 c)), (8, .v (.pointer (some ⟨it3, 0, none⟩)))])
    refine part_ tab [1] [] (by rfl) (k := 0) (hs := []) (sy := []) (ks := [10, 9, 0, 8]) (bs := []) (gs := [])
        (L' := [(10, .v (.bool false)), (9, .v (.tuple #[.bool false])), (0, .v (.int .i32 c)), (8, .v (.pointer (some ⟨it3, 0, none⟩)))])
        (H' := []) (G' := []) (k' := 0) hR hI (by kernel_rfl)
        .nil (fun e11 a11 w11 hag hR hI => ?_)
    refine ops_nil ?_
    refine then_n ?_
    refine wp_seq ?_
    refine cnd_f hI (by kernel_rfl) ?_
    refine wp_exit ?_
    refine exit_then ?_
    refine exit_then ?_
    refine exit_hit ?_
    refine then_n ?_
    refine reg_seq tab (k := 0) (hs := []) (sy := []) (ks := [4]) (bs := []) (gs := [])
        (L' := [(4, .v (.bool false))])
        (H' := []) (G' := []) (k' := 0) hR hI (by kernel_rfl)
        .nil (fun e12 a12 w12 hag hR hI => ?_)
    refine wp_ret ?_
    refine outN tab (xs := [.v (.bool false)]) hR hI rfl (by kernel_rfl) ?_
    have hc48 : ¬ c = 48 := hc (by have : List.length [(48 : UInt8)] = 1 := rfl; omega)
    exact ⟨by rw [decide_eq_false hc48]; rfl, hB.fin hR⟩

set_option maxHeartbeats 4000000 in
set_option maxRecDepth 100000 in
theorem trim_spec {C : Nat → Prop} {w : World} {l : List UInt8} (hl : 0 < l.length) (h0 : (l.getD 0 0).toNat < 128) (h48 : (l.getD 0 0).toNat ≠ 48) :
    Calls P 9 #[.string (str l), .string (str [48])] w fun ex w' => ex = .returned (.string (str l)) ∧ Keep (fun b => b < w.heap.size) w w' := by
  refine doorN (e := e0) (vs := [.v (.string (str l)), .v (.string (str ([48] : List UInt8)))]) (n := 20) (m := 2) Tryd.func9 rfl rfl rfl (by decide) fun a_ hI => ?_
  replace hI : Is 20 [] e0 [(0, .v (.string (str l))), (1, .v (.string (str ([48] : List UInt8))))] a_ := hI
  have hR : Rel (fun b => b < w.heap.size) w e0 [] [] w := Rel.start (fun k hk => hk)
  have hB : Base C w C (fun b => b < w.heap.size) w := Base.start
  refine reg_seq tab (k := 0) (hs := []) (sy := []) (ks := [0, 1]) (bs := []) (gs := [])
      (L' := [(0, .v (.string (str l))), (1, .v (.string (str ([48] : List UInt8))))])
      (H' := []) (G' := []) (k' := 0) hR hI (by kernel_rfl)
      .nil (fun e1 a1 w1 hag hR hI => ?_)
  refine wp_seq ?_
  refine wp_seq ?_
  refine reg (is := [0, 1]) (by kernel_rfl) ?_
  refine part_ tab [0] [1] (by rfl) (k := 0) (hs := []) (sy := []) (ks := [7, 0, 1]) (bs := []) (gs := [])
      (L' := [(7, .v (.string (str l))), (0, .v (.string (str l))), (1, .v (.string (str ([48] : List UInt8))))])
      (H' := []) (G' := []) (k' := 0) hR hI (by kernel_rfl)
      .nil (fun e2 a2 w2 hag hR hI => ?_)
  refine rangeOp tab hI rfl rfl rfl rfl rfl (by kernel_rfl : arg _ _ = some (.v (.string (str l)))) (fun a3 w3 it3 hit_ hitlt_ hk hit hI => ?_)
  have hitw : w.heap.size ≤ it3 := hit_ ▸ hB.size hR
  have hitF := hR.newIt (w' := w3) hitlt_ hit_
  have hB_ := hB.next hR hk
  replace hR := hR.after hk
  replace hB := hB_; clear hB_ hk
  replace hI := hI.sel [8, 7, 0, 1] (by kernel_rfl : sel _ _ = some [(8, .v (.pointer (some ⟨it3, 0, none⟩))), (7, .v (.string (str l))), (0, .v (.string (str l))), (1, .v (.string (str ([48] : List UInt8))))])
  refine ops_nil ?_
  refine then_n ?_
  refine wp_block ?_
  refine lpM (γ := Nat) (fun i => (⟨[(0, .v (.string (str l))), (1, .v (.string (str ([48] : List UInt8)))), (8, .v (.pointer (some ⟨it3, 0, none⟩)))], [], [], 0⟩ : Sy)) (fun i e C F wb => wb.heap[it3]? = some (.stringIter (str l) i) ∧ F it3 ∧ i = 0) (fun i => 0 * i) (0) hB (⟨hit, hitF, rfl⟩)
      (hR.sel [] [] (by kernel_rfl) (by kernel_rfl)) (hI.sel [0, 1, 8] (by kernel_rfl)) ?_
  clear hR hI hB
  rintro i e4 C4 F4 wb4 a4 w4 hB hp hR hI
  dsimp only at hp hR hI
  obtain ⟨hit, hitF, hi0⟩ := hp
  refine wp_seq ?_
  refine reg (is := [0, 1]) (by kernel_rfl) ?_
  refine nextOp (l := l) (pos := i) hI rfl rfl rfl rfl (by kernel_rfl) (hR.iter hit hitF) (fun h => by rw [hi0]; exact h0) (fun a5 w5 hlt_ hk hit2 hI => ?_) (fun a5 hend_ hI => ?_)
  · skip
    have hB_ := hB.nextI hR hk hitw; have hitF_ := hR.keepIt (w' := w5) hitF hk.size
    replace hR := hR.nextI hitF hk; replace hB := hB_; replace hit := hit2; replace hitF := hitF_; clear hB_ hk hit2 hitF_
    replace hI := hI.sel [9, 0, 1, 8] (by kernel_rfl : sel _ _ = some [(9, .v (.tuple #[.bool true, .int .i64 ((i : Nat) : Int), .int .i32 (((l.getD i 0).toNat : Nat) : Int)])), (0, .v (.string (str l))), (1, .v (.string (str ([48] : List UInt8)))), (8, .v (.pointer (some ⟨it3, 0, none⟩)))])
    refine part_ tab [1] [] (by rfl) (k := 0) (hs := []) (sy := []) (ks := [10, 9, 0, 1, 8]) (bs := []) (gs := [])
        (L' := [(10, .v (.bool true)), (9, .v (.tuple #[.bool true, .int .i64 ((i : Nat) : Int), .int .i32 (((l.getD i 0).toNat : Nat) : Int)])), (0, .v (.string (str l))), (1, .v (.string (str ([48] : List UInt8)))), (8, .v (.pointer (some ⟨it3, 0, none⟩)))])
        (H' := []) (G' := []) (k' := 0) hR hI (by kernel_rfl)
        .nil (fun e6 a6 w6 hag hR hI => ?_)
    refine ops_nil ?_
    refine then_n ?_
    refine wp_seq ?_
    refine cnd_t hI (by kernel_rfl) ?_
    refine wp_skip ?_
    refine then_n ?_
    refine wp_block ?_
    refine reg_seq tab (k := 0) (hs := []) (sy := []) (ks := [6, 5, 0, 1, 8]) (bs := []) (gs := [])
        (L' := [(6, .v (.int .i32 (((l.getD i 0).toNat : Nat) : Int))), (5, .v (.int .i64 ((i : Nat) : Int))), (0, .v (.string (str l))), (1, .v (.string (str ([48] : List UInt8)))), (8, .v (.pointer (some ⟨it3, 0, none⟩)))])
        (H' := []) (G' := []) (k' := 0) hR hI (by kernel_rfl)
        .nil (fun e7 a7 w7 hag hR hI => ?_)
    refine wp_seq ?_
    refine reg (is := [0, 1, 2, 3]) (by kernel_rfl) ?_
    refine part_ tab [0, 1] [2, 3] (by rfl) (k := 0) (hs := []) (sy := []) (ks := [14, 13, 5, 0, 1, 8]) (bs := []) (gs := [])
        (L' := [(14, .v (.string (str ([48] : List UInt8)))), (13, .v (.int .i32 (((l.getD i 0).toNat : Nat) : Int))), (5, .v (.int .i64 ((i : Nat) : Int))), (0, .v (.string (str l))), (1, .v (.string (str ([48] : List UInt8)))), (8, .v (.pointer (some ⟨it3, 0, none⟩)))])
        (H' := []) (G' := []) (k' := 0) hR hI (by kernel_rfl)
        .nil (fun e8 a8 w8 hag hR hI => ?_)
    refine callOp (ys := [.v (.int .i32 (((l.getD i 0).toNat : Nat) : Int)), .v (.string (str ([48] : List UInt8)))]) hI rfl rfl ⟨_, rfl, rfl, rfl⟩ (by kernel_rfl) Tryd.func15 rfl rfl ?_
    refine (inSet_spec (C := C) _).mono ?_
    rintro ex w9 ⟨rfl, hk⟩
    replace hR := hR.same hk; clear hk
    refine ⟨_, rfl, ?_⟩
    replace hI := hI.put (d := some 15) (x := .v (.bool (decide ((((l.getD i 0).toNat : Nat) : Int) = 48)))) (by intro t ht; cases ht; decide) rfl
    replace hI := hI.sel [15, 14, 13, 5, 0, 1, 8] (by kernel_rfl : sel _ _ = some [(15, .v (.bool (decide ((((l.getD i 0).toNat : Nat) : Int) = 48)))), (14, .v (.string (str ([48] : List UInt8)))), (13, .v (.int .i32 (((l.getD i 0).toNat : Nat) : Int))), (5, .v (.int .i64 ((i : Nat) : Int))), (0, .v (.string (str l))), (1, .v (.string (str ([48] : List UInt8)))), (8, .v (.pointer (some ⟨it3, 0, none⟩)))])
    refine part_ tab [3] [] (by rfl) (k := 0) (hs := []) (sy := []) (ks := [16, 5, 0, 1, 8]) (bs := []) (gs := [])
        (L' := [(16, .v (.bool (!(decide ((((l.getD i 0).toNat : Nat) : Int) = 48))))), (5, .v (.int .i64 ((i : Nat) : Int))), (0, .v (.string (str l))), (1, .v (.string (str ([48] : List UInt8)))), (8, .v (.pointer (some ⟨it3, 0, none⟩)))])
        (H' := []) (G' := []) (k' := 0) hR hI (by kernel_rfl)
        .nil (fun e10 a10 w10 hag hR hI => ?_)
    refine ops_nil ?_
    refine then_n ?_
    refine cnd (b := (!(decide ((((l.getD i 0).toNat : Nat) : Int) = 48)))) hI (by kernel_rfl) (fun hc11 => ?_) (fun hc11 => ?_)
    · skip
      replace hI := hI.re 16 (.v (.bool true)) rfl (congrArg Value.bool hc11)
      try simp only [decide_eq_true_eq, decide_eq_false_iff_not, beq_iff_eq, bne_iff_ne, beq_eq_false_iff_ne, bne_eq_false_iff_eq, Bool.and_eq_true, Bool.and_eq_false_iff, Bool.or_eq_true, Bool.or_eq_false_iff, Bool.not_eq_true', Bool.not_eq_false', ne_eq] at hc11
      refine reg_seq tab (k := 0) (hs := [(2, .eq (.string (str l)))]) (sy := []) (ks := [4]) (bs := []) (gs := [])
          (L' := [(4, .v (.string (str l)))])
          (H' := []) (G' := []) (k' := 0) hR hI (by kernel_rfl)
          (.cons (congrArg Value.string (by rw [hi0]; exact str_from l 0 : (str l).extract i (str l).size = str l)) (.cons (by omega : (0 : Int) ≤ ((i : Nat) : Int) ∧ ((i : Nat) : Int) ≤ (l.length : Nat)) .nil)) (fun e12 a12 w12 hag hR hI => ?_)
      refine wp_ret ?_
      refine ret_block ?_
      refine ret_then ?_
      refine ret_block ?_
      refine ret_then ?_
      refine outN tab (xs := [.v (.string (str l))]) hR hI rfl (by kernel_rfl) ?_
      exact ⟨rfl, hB.fin hR⟩
    · skip
      replace hI := hI.re 16 (.v (.bool false)) rfl (congrArg Value.bool hc11)
      try simp only [decide_eq_true_eq, decide_eq_false_iff_not, beq_iff_eq, bne_iff_ne, beq_eq_false_iff_ne, bne_eq_false_iff_eq, Bool.and_eq_true, Bool.and_eq_false_iff, Bool.or_eq_true, Bool.or_eq_false_iff, Bool.not_eq_true', Bool.not_eq_false', ne_eq] at hc11
      exfalso; rw [hi0] at hc11; omega
  · skip
    replace hI := hI.sel [9, 0, 1, 8] (by kernel_rfl : sel _ _ = some [(9, .v (.tuple #[.bool false])), (0, .v (.string (str l))), (1, .v (.string (str ([48] : List UInt8)))), (8, .v (.pointer (some ⟨it3, 0, none⟩)))])
    exact absurd (by omega : i < l.length) hend_

set_option maxHeartbeats 4000000 in
set_option maxRecDepth 100000 in
theorem indexFunc_spec {C : Nat → Prop} {w : World} {l : List UInt8} (ha : asc l) :
    Calls P 20 #[.string (str l), .func (.func 17) #[] #[], .bool true] w fun ex w' => ∃ r : Int, ex = .returned (.int .i64 r) ∧ Keep (fun b => b < w.heap.size) w w' ∧ ((r = -1 ∧ digs l) ∨ ∃ k : Nat, r = (k : Int) ∧ k < l.length ∧ ¬ dig (l.getD k 0) ∧ ∀ j, j < k → dig (l.getD j 0)) := by
  refine doorN (e := e0) (vs := [.v (.string (str l)), .v (.func (.func 17) #[] #[]), .v (.bool true)]) (n := 21) (m := 3) Tryd.func20 rfl rfl rfl (by decide) fun a_ hI => ?_
  replace hI : Is 21 [] e0 [(0, .v (.string (str l))), (1, .v (.func (.func 17) #[] #[])), (2, .v (.bool true))] a_ := hI
  have hR : Rel (fun b => b < w.heap.size) w e0 [] [] w := Rel.start (fun k hk => hk)
  have hB : Base C w C (fun b => b < w.heap.size) w := Base.start
  refine reg_seq tab (k := 0) (hs := []) (sy := []) (ks := [0, 1, 2]) (bs := []) (gs := [])
      (L' := [(0, .v (.string (str l))), (1, .v (.func (.func 17) #[] #[])), (2, .v (.bool true))])
      (H' := []) (G' := []) (k' := 0) hR hI (by kernel_rfl)
      .nil (fun e1 a1 w1 hag hR hI => ?_)
  refine wp_seq ?_
  refine wp_seq ?_
  refine reg (is := [0, 1]) (by kernel_rfl) ?_
  refine part_ tab [0] [1] (by rfl) (k := 0) (hs := []) (sy := []) (ks := [9, 1, 2]) (bs := []) (gs := [])
      (L' := [(9, .v (.string (str l))), (1, .v (.func (.func 17) #[] #[])), (2, .v (.bool true))])
      (H' := []) (G' := []) (k' := 0) hR hI (by kernel_rfl)
      .nil (fun e2 a2 w2 hag hR hI => ?_)
  refine rangeOp tab hI rfl rfl rfl rfl rfl (by kernel_rfl : arg _ _ = some (.v (.string (str l)))) (fun a3 w3 it3 hit_ hitlt_ hk hit hI => ?_)
  have hitw : w.heap.size ≤ it3 := hit_ ▸ hB.size hR
  have hitF := hR.newIt (w' := w3) hitlt_ hit_
  have hB_ := hB.next hR hk
  replace hR := hR.after hk
  replace hB := hB_; clear hB_ hk
  replace hI := hI.sel [10, 9, 1, 2] (by kernel_rfl : sel _ _ = some [(10, .v (.pointer (some ⟨it3, 0, none⟩))), (9, .v (.string (str l))), (1, .v (.func (.func 17) #[] #[])), (2, .v (.bool true))])
  refine ops_nil ?_
  refine then_n ?_
  refine wp_block ?_
  refine lpM (γ := Nat) (fun i => (⟨[(1, .v (.func (.func 17) #[] #[])), (2, .v (.bool true)), (10, .v (.pointer (some ⟨it3, 0, none⟩)))], [], [], 0⟩ : Sy)) (fun i e C F wb => wb.heap[it3]? = some (.stringIter (str l) i) ∧ F it3 ∧ i ≤ l.length ∧ ∀ j, j < i → dig (l.getD j 0)) (fun i => l.length - i) (0) hB (⟨hit, hitF, Nat.zero_le _, fun j h => absurd h (Nat.not_lt_zero _)⟩)
      (hR.sel [] [] (by kernel_rfl) (by kernel_rfl)) (hI.sel [1, 2, 10] (by kernel_rfl)) ?_
  clear hR hI hB
  rintro i e4 C4 F4 wb4 a4 w4 hB hp hR hI
  dsimp only at hp hR hI
  obtain ⟨hit, hitF, hil, hd⟩ := hp
  refine wp_seq ?_
  refine reg (is := [0, 1]) (by kernel_rfl) ?_
  refine nextOp (l := l) (pos := i) hI rfl rfl rfl rfl (by kernel_rfl) (hR.iter hit hitF) (fun h => ha i h) (fun a5 w5 hlt_ hk hit2 hI => ?_) (fun a5 hend_ hI => ?_)
  · skip
    have hB_ := hB.nextI hR hk hitw; have hitF_ := hR.keepIt (w' := w5) hitF hk.size
    replace hR := hR.nextI hitF hk; replace hB := hB_; replace hit := hit2; replace hitF := hitF_; clear hB_ hk hit2 hitF_
    replace hI := hI.sel [11, 1, 2, 10] (by kernel_rfl : sel _ _ = some [(11, .v (.tuple #[.bool true, .int .i64 ((i : Nat) : Int), .int .i32 (((l.getD i 0).toNat : Nat) : Int)])), (1, .v (.func (.func 17) #[] #[])), (2, .v (.bool true)), (10, .v (.pointer (some ⟨it3, 0, none⟩)))])
    refine part_ tab [1] [] (by rfl) (k := 0) (hs := []) (sy := []) (ks := [12, 11, 1, 2, 10]) (bs := []) (gs := [])
        (L' := [(12, .v (.bool true)), (11, .v (.tuple #[.bool true, .int .i64 ((i : Nat) : Int), .int .i32 (((l.getD i 0).toNat : Nat) : Int)])), (1, .v (.func (.func 17) #[] #[])), (2, .v (.bool true)), (10, .v (.pointer (some ⟨it3, 0, none⟩)))])
        (H' := []) (G' := []) (k' := 0) hR hI (by kernel_rfl)
        .nil (fun e6 a6 w6 hag hR hI => ?_)
    refine ops_nil ?_
    refine then_n ?_
    refine wp_seq ?_
    refine cnd_t hI (by kernel_rfl) ?_
    refine wp_skip ?_
    refine then_n ?_
    refine wp_block ?_
    refine reg_seq tab (k := 0) (hs := []) (sy := []) (ks := [8, 7, 1, 2, 10]) (bs := []) (gs := [])
        (L' := [(8, .v (.int .i32 (((l.getD i 0).toNat : Nat) : Int))), (7, .v (.int .i64 ((i : Nat) : Int))), (1, .v (.func (.func 17) #[] #[])), (2, .v (.bool true)), (10, .v (.pointer (some ⟨it3, 0, none⟩)))])
        (H' := []) (G' := []) (k' := 0) hR hI (by kernel_rfl)
        .nil (fun e7 a7 w7 hag hR hI => ?_)
    refine wp_seq ?_
    refine reg (is := [0, 1, 2, 3, 4]) (by kernel_rfl) ?_
    refine part_ tab [0, 1] [2, 3, 4] (by rfl) (k := 0) (hs := []) (sy := []) (ks := [16, 15, 7, 1, 2, 10]) (bs := []) (gs := [])
        (L' := [(16, .v (.int .i32 (((l.getD i 0).toNat : Nat) : Int))), (15, .v (.func (.func 17) #[] #[])), (7, .v (.int .i64 ((i : Nat) : Int))), (1, .v (.func (.func 17) #[] #[])), (2, .v (.bool true)), (10, .v (.pointer (some ⟨it3, 0, none⟩)))])
        (H' := []) (G' := []) (k' := 0) hR hI (by kernel_rfl)
        .nil (fun e8 a8 w8 hag hR hI => ?_)
    refine callV (ys := [.v (.int .i32 (((l.getD i 0).toNat : Nat) : Int))]) hI rfl rfl ⟨_, rfl, rfl, rfl⟩ (by kernel_rfl) (by kernel_rfl) Tryd.func17 rfl rfl ?_
    refine (digp_spec (C := C) _).mono ?_
    rintro ex w9 ⟨rfl, hk⟩
    replace hR := hR.same hk; clear hk
    refine ⟨_, rfl, ?_⟩
    replace hI := hI.put (d := some 17) (x := .v (.bool (decide ((((l.getD i 0).toNat : Nat) : Int) < (48 : Int)) || decide ((((l.getD i 0).toNat : Nat) : Int) > (57 : Int))))) (by intro t ht; cases ht; decide) rfl
    replace hI := hI.sel [17, 16, 15, 7, 1, 2, 10] (by kernel_rfl : sel _ _ = some [(17, .v (.bool (decide ((((l.getD i 0).toNat : Nat) : Int) < (48 : Int)) || decide ((((l.getD i 0).toNat : Nat) : Int) > (57 : Int))))), (16, .v (.int .i32 (((l.getD i 0).toNat : Nat) : Int))), (15, .v (.func (.func 17) #[] #[])), (7, .v (.int .i64 ((i : Nat) : Int))), (1, .v (.func (.func 17) #[] #[])), (2, .v (.bool true)), (10, .v (.pointer (some ⟨it3, 0, none⟩)))])
    refine part_ tab [3, 4] [] (by rfl) (k := 0) (hs := []) (sy := []) (ks := [19, 7, 1, 2, 10]) (bs := []) (gs := [])
        (L' := [(19, .v (.bool ((decide ((((l.getD i 0).toNat : Nat) : Int) < (48 : Int)) || decide ((((l.getD i 0).toNat : Nat) : Int) > (57 : Int))) == true))), (7, .v (.int .i64 ((i : Nat) : Int))), (1, .v (.func (.func 17) #[] #[])), (2, .v (.bool true)), (10, .v (.pointer (some ⟨it3, 0, none⟩)))])
        (H' := []) (G' := []) (k' := 0) hR hI (by kernel_rfl)
        .nil (fun e10 a10 w10 hag hR hI => ?_)
    refine ops_nil ?_
    refine then_n ?_
    refine cnd (b := ((decide ((((l.getD i 0).toNat : Nat) : Int) < (48 : Int)) || decide ((((l.getD i 0).toNat : Nat) : Int) > (57 : Int))) == true)) hI (by kernel_rfl) (fun hc11 => ?_) (fun hc11 => ?_)
    · skip
      replace hI := hI.re 19 (.v (.bool true)) rfl (congrArg Value.bool hc11)
      try simp only [decide_eq_true_eq, decide_eq_false_iff_not, beq_iff_eq, bne_iff_ne, beq_eq_false_iff_ne, bne_eq_false_iff_eq, Bool.and_eq_true, Bool.and_eq_false_iff, Bool.or_eq_true, Bool.or_eq_false_iff, Bool.not_eq_true', Bool.not_eq_false', ne_eq] at hc11
      have hno : ¬ dig (l.getD i 0) := fun hd => by { unfold dig at hd; (try simp only [Bool.or_eq_true, decide_eq_true_eq, beq_iff_eq] at hc11); omega }
      refine reg_seq tab (k := 0) (hs := []) (sy := []) (ks := [6]) (bs := []) (gs := [])
          (L' := [(6, .v (.int .i64 ((i : Nat) : Int)))])
          (H' := []) (G' := []) (k' := 0) hR hI (by kernel_rfl)
          .nil (fun e12 a12 w12 hag hR hI => ?_)
      refine wp_ret ?_
      refine ret_block ?_
      refine ret_then ?_
      refine ret_block ?_
      refine ret_then ?_
      refine outN tab (xs := [.v (.int .i64 ((i : Nat) : Int))]) hR hI rfl (by kernel_rfl) ?_
      exact ⟨_, rfl, hB.fin hR, .inr ⟨i, rfl, hlt_, hno, hd⟩⟩
    · skip
      replace hI := hI.re 19 (.v (.bool false)) rfl (congrArg Value.bool hc11)
      try simp only [decide_eq_true_eq, decide_eq_false_iff_not, beq_iff_eq, bne_iff_ne, beq_eq_false_iff_ne, bne_eq_false_iff_eq, Bool.and_eq_true, Bool.and_eq_false_iff, Bool.or_eq_true, Bool.or_eq_false_iff, Bool.not_eq_true', Bool.not_eq_false', ne_eq] at hc11
      have hyes : dig (l.getD i 0) := by { unfold dig; (try simp only [Bool.or_eq_true, decide_eq_true_eq, beq_eq_false_iff_ne, ne_eq] at hc11); omega }
      refine wp_skip ?_
      refine normal_block ?_
      refine then_n ?_
      exact ⟨(i + 1), _, _, _, _, hB, ⟨hit, hitF, by omega, fun j hj => by
              by_cases hji : j < i
              · exact hd j hji
              · obtain rfl : j = i := by omega
                exact hyes⟩, (by (try dsimp only); omega), hR.sel [] [] (by kernel_rfl) (by kernel_rfl), hI.sel [1, 2, 10] (by kernel_rfl)⟩
  · skip
    replace hI := hI.sel [11, 1, 2, 10] (by kernel_rfl : sel _ _ = some [(11, .v (.tuple #[.bool false])), (1, .v (.func (.func 17) #[] #[])), (2, .v (.bool true)), (10, .v (.pointer (some ⟨it3, 0, none⟩)))])
    refine part_ tab [1] [] (by rfl) (k := 0) (hs := []) (sy := []) (ks := [12, 11, 1, 2, 10]) (bs := []) (gs := [])
        (L' := [(12, .v (.bool false)), (11, .v (.tuple #[.bool false])), (1, .v (.func (.func 17) #[] #[])), (2, .v (.bool true)), (10, .v (.pointer (some ⟨it3, 0, none⟩)))])
        (H' := []) (G' := []) (k' := 0) hR hI (by kernel_rfl)
        .nil (fun e13 a13 w13 hag hR hI => ?_)
    refine ops_nil ?_
    refine then_n ?_
    refine wp_seq ?_
    refine cnd_f hI (by kernel_rfl) ?_
    refine wp_exit ?_
    refine exit_then ?_
    refine exit_then ?_
    refine exit_hit ?_
    refine then_n ?_
    refine reg_seq tab (k := 0) (hs := []) (sy := []) (ks := [6]) (bs := []) (gs := [])
        (L' := [(6, .v (.int .i64 (-1)))])
        (H' := []) (G' := []) (k' := 0) hR hI (by kernel_rfl)
        .nil (fun e14 a14 w14 hag hR hI => ?_)
    refine wp_ret ?_
    refine outN tab (xs := [.v (.int .i64 (-1))]) hR hI rfl (by kernel_rfl) ?_
    exact ⟨_, rfl, hB.fin hR, .inl ⟨rfl, fun j hj => hd j (by omega)⟩⟩

set_option maxHeartbeats 4000000 in
set_option maxRecDepth 100000 in
theorem indexFunc2_spec {C : Nat → Prop} {w : World} {l : List UInt8} (ha : asc l) :
    Calls P 16 #[.string (str l), .func (.func 17) #[] #[]] w fun ex w' => ∃ r : Int, ex = .returned (.int .i64 r) ∧ Keep (fun b => b < w.heap.size) w w' ∧ ((r = -1 ∧ digs l) ∨ ∃ k : Nat, r = (k : Int) ∧ k < l.length ∧ ¬ dig (l.getD k 0) ∧ ∀ j, j < k → dig (l.getD j 0)) := by
  refine doorN (e := e0) (vs := [.v (.string (str l)), .v (.func (.func 17) #[] #[])]) (n := 8) (m := 2) Tryd.func16 rfl rfl rfl (by decide) fun a_ hI => ?_
  replace hI : Is 8 [] e0 [(0, .v (.string (str l))), (1, .v (.func (.func 17) #[] #[]))] a_ := hI
  have hR : Rel (fun b => b < w.heap.size) w e0 [] [] w := Rel.start (fun k hk => hk)
  have hB : Base C w C (fun b => b < w.heap.size) w := Base.start
  refine reg_seq tab (k := 0) (hs := []) (sy := []) (ks := [0, 1]) (bs := []) (gs := [])
      (L' := [(0, .v (.string (str l))), (1, .v (.func (.func 17) #[] #[]))])
      (H' := []) (G' := []) (k' := 0) hR hI (by kernel_rfl)
      .nil (fun e1 a1 w1 hag hR hI => ?_)
  refine wp_seq ?_
  refine reg (is := [0, 1, 2, 3]) (by kernel_rfl) ?_
  refine part_ tab [0, 1] [2, 3] (by rfl) (k := 0) (hs := []) (sy := []) (ks := [6, 5]) (bs := []) (gs := [])
      (L' := [(6, .v (.func (.func 17) #[] #[])), (5, .v (.string (str l)))])
      (H' := []) (G' := []) (k' := 0) hR hI (by kernel_rfl)
      .nil (fun e2 a2 w2 hag hR hI => ?_)
  refine callOp (ys := [.v (.string (str l)), .v (.func (.func 17) #[] #[]), .v (.bool true)]) hI rfl rfl ⟨_, rfl, rfl, rfl⟩ (by kernel_rfl) Tryd.func20 rfl rfl ?_
  refine (indexFunc_spec (C := C) ha).mono ?_
  rintro ex w3 ⟨r, rfl, hk, hr⟩
  replace hR := hR.same hk; clear hk
  refine ⟨_, rfl, ?_⟩
  replace hI := hI.put (d := some 7) (x := .v (.int .i64 r)) (by intro t ht; cases ht; decide) rfl
  replace hI := hI.sel [7, 6, 5] (by kernel_rfl : sel _ _ = some [(7, .v (.int .i64 r)), (6, .v (.func (.func 17) #[] #[])), (5, .v (.string (str l)))])
  refine part_ tab [3] [] (by rfl) (k := 0) (hs := []) (sy := []) (ks := [4]) (bs := []) (gs := [])
      (L' := [(4, .v (.int .i64 r))])
      (H' := []) (G' := []) (k' := 0) hR hI (by kernel_rfl)
      .nil (fun e4 a4 w4 hag hR hI => ?_)
  refine ops_nil ?_
  refine then_n ?_
  refine wp_ret ?_
  refine outN tab (xs := [.v (.int .i64 r)]) hR hI rfl (by kernel_rfl) ?_
  exact ⟨_, rfl, hB.fin hR, hr⟩

theorem getD_appL {a b : List UInt8} {j : Nat} (h : j < a.length) : (a ++ b).getD j 0 = a.getD j 0 := by
  rw [List.getD_eq_getElem?_getD, List.getElem?_append_left h, ← List.getD_eq_getElem?_getD]
theorem getD_appR {a b : List UInt8} {j : Nat} (h : a.length ≤ j) : (a ++ b).getD j 0 = b.getD (j - a.length) 0 := by
  rw [List.getD_eq_getElem?_getD, List.getElem?_append_right h, ← List.getD_eq_getElem?_getD]
theorem run_at {a b : List UInt8} {k : Nat} (ha : digs a) (hb : b = [] ∨ ¬ dig (b.getD 0 0)) (hk : k < (a ++ b).length) (hn : ¬ dig ((a ++ b).getD k 0)) (hd : ∀ j, j < k → dig ((a ++ b).getD j 0)) : k = a.length ∧ (a ++ b).take k = a ∧ (a ++ b).drop k = b := by
  have h1 : ¬ k < a.length := fun h => hn (by rw [getD_appL h]; exact ha k h)
  have h2 : ¬ a.length < k := fun h => by
    have h3 := hd a.length h
    rw [getD_appR (Nat.le_refl _), Nat.sub_self] at h3
    rcases hb with rfl | hb
    · rw [List.append_nil] at hk; omega
    · exact hb h3
  have h3 : k = a.length := by omega
  subst h3
  exact ⟨rfl, by simp, by simp⟩
theorem run_all {a b : List UInt8} (hb : b = [] ∨ ¬ dig (b.getD 0 0)) (hd : digs (a ++ b)) : b = [] := by
  rcases hb with hb | hb
  · exact hb
  · cases b with
    | nil => rfl
    | cons x r =>
      exfalso
      have := hd a.length (by simp)
      rw [getD_appR (Nat.le_refl _), Nat.sub_self] at this
      exact hb this

set_option maxHeartbeats 4000000 in
set_option maxRecDepth 100000 in
theorem run_spec {C : Nat → Prop} {w : World} {a b : List UInt8} (ha : digs a) (hb : b = [] ∨ ¬ dig (b.getD 0 0)) (hasc : asc (a ++ b)) :
    Calls P 11 #[.string (str (a ++ b))] w fun ex w' => ex = .returned (.tuple #[.string (str a), .string (str b)]) ∧ Keep (fun b => b < w.heap.size) w w' := by
  refine doorN (e := e0) (vs := [.v (.string (str (a ++ b)))]) (n := 16) (m := 1) Tryd.func11 rfl rfl rfl (by decide) fun a_ hI => ?_
  replace hI : Is 16 [] e0 [(0, .v (.string (str (a ++ b))))] a_ := hI
  have hR : Rel (fun b => b < w.heap.size) w e0 [] [] w := Rel.start (fun k hk => hk)
  have hB : Base C w C (fun b => b < w.heap.size) w := Base.start
  refine reg_seq tab (k := 0) (hs := []) (sy := []) (ks := [0]) (bs := []) (gs := [])
      (L' := [(0, .v (.string (str (a ++ b))))])
      (H' := []) (G' := []) (k' := 0) hR hI (by kernel_rfl)
      .nil (fun e1 a1 w1 hag hR hI => ?_)
  refine wp_seq ?_
  refine reg (is := [0, 1, 2]) (by kernel_rfl) ?_
  refine part_ tab [0] [1, 2] (by rfl) (k := 0) (hs := []) (sy := []) (ks := [5, 0]) (bs := []) (gs := [])
      (L' := [(5, .v (.string (str (a ++ b)))), (0, .v (.string (str (a ++ b))))])
      (H' := []) (G' := []) (k' := 0) hR hI (by kernel_rfl)
      .nil (fun e2 a2 w2 hag hR hI => ?_)
  refine callOp (ys := [.v (.string (str (a ++ b))), .v (.func (.func 17) #[] #[])]) hI rfl rfl ⟨_, rfl, rfl, rfl⟩ (by kernel_rfl) Tryd.func16 rfl rfl ?_
  refine (indexFunc2_spec (C := C) hasc).mono ?_
  rintro ex w3 ⟨r, rfl, hk, hr⟩
  replace hR := hR.same hk; clear hk
  refine ⟨_, rfl, ?_⟩
  replace hI := hI.put (d := some 6) (x := .v (.int .i64 r)) (by intro t ht; cases ht; decide) rfl
  replace hI := hI.sel [6, 5, 0] (by kernel_rfl : sel _ _ = some [(6, .v (.int .i64 r)), (5, .v (.string (str (a ++ b)))), (0, .v (.string (str (a ++ b))))])
  refine part_ tab [2] [] (by rfl) (k := 0) (hs := []) (sy := []) (ks := [4, 0]) (bs := []) (gs := [])
      (L' := [(4, .v (.int .i64 r)), (0, .v (.string (str (a ++ b))))])
      (H' := []) (G' := []) (k' := 0) hR hI (by kernel_rfl)
      .nil (fun e4 a4 w4 hag hR hI => ?_)
  refine ops_nil ?_
  refine then_n ?_
  refine wp_seq ?_
  refine reg_seq tab (k := 0) (hs := []) (sy := []) (ks := [8, 4, 0]) (bs := []) (gs := [])
      (L' := [(8, .v (.bool (r == (-1 : Int)))), (4, .v (.int .i64 r)), (0, .v (.string (str (a ++ b))))])
      (H' := []) (G' := []) (k' := 0) hR hI (by kernel_rfl)
      .nil (fun e5 a5 w5 hag hR hI => ?_)
  refine cnd (b := (r == (-1 : Int))) hI (by kernel_rfl) (fun hc6 => ?_) (fun hc6 => ?_)
  · skip
    replace hI := hI.re 8 (.v (.bool true)) rfl (congrArg Value.bool hc6)
    try simp only [decide_eq_true_eq, decide_eq_false_iff_not, beq_iff_eq, bne_iff_ne, beq_eq_false_iff_ne, bne_eq_false_iff_eq, Bool.and_eq_true, Bool.and_eq_false_iff, Bool.or_eq_true, Bool.or_eq_false_iff, Bool.not_eq_true', Bool.not_eq_false', ne_eq] at hc6
    have hdl : digs (a ++ b) := by { rcases hr with ⟨_, h1⟩ | ⟨k, h1, _⟩; exact h1; rw [hc6] at h1; omega }
    have hb0 := run_all hb hdl
    refine reg_seq tab (k := 0) (hs := []) (sy := []) (ks := [3, 2]) (bs := []) (gs := [])
        (L' := [(3, .v (.string (str ([] : List UInt8)))), (2, .v (.string (str (a ++ b))))])
        (H' := []) (G' := []) (k' := 0) hR hI (by kernel_rfl)
        .nil (fun e7 a7 w7 hag hR hI => ?_)
    refine wp_ret ?_
    refine ret_then ?_
    refine outN tab (xs := [.v (.string (str (a ++ b))), .v (.string (str ([] : List UInt8)))]) hR hI rfl (by kernel_rfl) ?_
    exact ⟨by rw [hb0, List.append_nil]; rfl, hB.fin hR⟩
  · skip
    replace hI := hI.re 8 (.v (.bool false)) rfl (congrArg Value.bool hc6)
    try simp only [decide_eq_true_eq, decide_eq_false_iff_not, beq_iff_eq, bne_iff_ne, beq_eq_false_iff_ne, bne_eq_false_iff_eq, Bool.and_eq_true, Bool.and_eq_false_iff, Bool.or_eq_true, Bool.or_eq_false_iff, Bool.not_eq_true', Bool.not_eq_false', ne_eq] at hc6
    have hk_ : ∃ k : Nat, r = (k : Int) ∧ k < (a ++ b).length ∧ ¬ dig ((a ++ b).getD k 0) ∧ ∀ j, j < k → dig ((a ++ b).getD j 0) := by { rcases hr with ⟨h1, _⟩ | h1; exact absurd h1 hc6; exact h1 }
    obtain ⟨k, hrk, hkl, hkn, hkd⟩ := hk_
    obtain ⟨hka, ht, hdp⟩ := run_at ha hb hkl hkn hkd
    replace hI := hI.re 4 (.v (.int .i64 ((k : Nat) : Int))) rfl (congrArg (Value.int .i64) (hrk))
    refine wp_skip ?_
    refine then_n ?_
    refine regQ_seq tab (by kernel_rfl) (k := 0) (hs := [(2, .eq (.string (str a))), (5, .eq (.string (str b)))]) (gs := []) (ks := [3, 2])
        (L' := [(3, .v (.string (str b))), (2, .v (.string (str a)))]) hR hI (by kernel_rfl) (fun _ _ _ _ _ h => h) (by kernel_rfl)
        (.cons (congrArg Value.string ((str_to _ _).trans (by rw [ht]) : (str (a ++ b)).extract 0 k = str a)) (.cons (by omega : (0 : Int) ≤ ((k : Nat) : Int) ∧ ((k : Nat) : Int) ≤ ((a ++ b).length : Nat)) (.cons (congrArg Value.string ((str_from _ _).trans (by rw [hdp]) : (str (a ++ b)).extract k (str (a ++ b)).size = str b)) (.cons (by omega : (0 : Int) ≤ ((k : Nat) : Int) ∧ ((k : Nat) : Int) ≤ ((a ++ b).length : Nat)) .nil)))) (by kernel_rfl) (by kernel_rfl) (fun e8 a8 w8 hag hR hI => ?_)
    refine wp_ret ?_
    refine outN tab (xs := [.v (.string (str a)), .v (.string (str b))]) hR hI rfl (by kernel_rfl) ?_
    exact ⟨rfl, hB.fin hR⟩

def sgn (neg : Bool) : List UInt8 := if neg then [45] else []
def tailOf (b : List UInt8) : List UInt8 := if b.length = 0 then [] else 46 :: b
theorem asc_of {a : List UInt8} (h : digs a) : asc a := fun j hj => by have := h j hj; unfold dig at this; omega
theorem asc_app {a b : List UInt8} (h : asc a) (h' : asc b) : asc (a ++ b) := fun j hj => by
  by_cases hj2 : j < a.length
  · rw [getD_appL hj2]; exact h j hj2
  · rw [getD_appR (by omega)]; exact h' _ (by rw [List.length_append] at hj; omega)
theorem tail_len (b : List UInt8) : (tailOf b).length = if b.length = 0 then 0 else b.length + 1 := by unfold tailOf; split <;> rfl
theorem asc_tail {b : List UInt8} (h : digs b) : asc (tailOf b) := fun j hj => by
  unfold tailOf at hj ⊢
  split
  · rename_i h0; rw [if_pos h0] at hj; exact absurd hj (Nat.not_lt_zero _)
  · rename_i h0
    rw [if_neg h0] at hj
    cases j with
    | zero => show (46 : UInt8).toNat < 128; decide
    | succ j => exact asc_of h j (by simpa using hj)
theorem tail_hd (b : List UInt8) : tailOf b = [] ∨ ¬ dig ((tailOf b).getD 0 0) := by
  unfold tailOf
  split
  · exact .inl rfl
  · right; show ¬ dig 46; unfold dig; decide
theorem tail_dot {b : List UInt8} (h : ¬ (tailOf b).length = 0) : ((tailOf b).getD 0 0).toNat = 46 ∧ (tailOf b).drop 1 = b ++ [] := by
  unfold tailOf at h ⊢
  split
  · rename_i h0; rw [if_pos h0] at h; exact absurd rfl h
  · exact ⟨rfl, by simp⟩
theorem tail_nil {b : List UInt8} (h : (tailOf b).length = 0) : b = [] := by
  rw [tail_len] at h
  split at h
  · rename_i h0; exact List.length_eq_zero_iff.1 h0
  · omega
theorem sgn_len (neg : Bool) : (sgn neg).length ≤ 1 := by cases neg <;> decide
theorem sgn_yes {neg : Bool} {a t l : List UInt8} (hl : l = sgn neg ++ (a ++ t)) (ha : digs a) (hal : 0 < a.length) (h : (((l.getD 0 0).toNat : Nat) : Int) = 45 ∨ (((l.getD 0 0).toNat : Nat) : Int) = 43) : l.drop 1 = a ++ t := by
  cases neg
  · exfalso
    have h0 := ha 0 hal
    unfold dig at h0
    rw [hl, show sgn false ++ (a ++ t) = a ++ t from rfl, getD_appL hal] at h
    omega
  · rw [hl]; rfl
theorem sgn_no {neg : Bool} {a t l : List UInt8} (hl : l = sgn neg ++ (a ++ t)) (h : ¬ (((l.getD 0 0).toNat : Nat) : Int) = 45) : l = a ++ t := by
  cases neg
  · exact hl
  · exfalso; rw [hl] at h; exact h rfl

set_option maxHeartbeats 4000000 in
set_option maxRecDepth 100000 in
theorem parse_spec {C : Nat → Prop} {w : World} {neg : Bool} {a b l : List UInt8} (hl : l = sgn neg ++ (a ++ tailOf b)) (ha : digs a) (hb : digs b) (hal : 0 < a.length) (h60 : a.length + b.length ≤ 60) :
    Calls P 8 #[.string (str l)] w fun ex w' => ∃ sg : Int, ex = .returned (.tuple #[.agg #[.string (str a), .string (str b), .int .i32 0, .int .u8 sg, .bool false], .bool true]) ∧ Keep (fun b => b < w.heap.size) w w' := by
  refine doorN (e := e0) (vs := [.v (.string (str l))]) (n := 87) (m := 1) Tryd.func8 rfl rfl rfl (by decide) fun a_ hI => ?_
  replace hI : Is 87 [] e0 [(0, .v (.string (str l)))] a_ := hI
  have hR : Rel (fun b => b < w.heap.size) w e0 [] [] w := Rel.start (fun k hk => hk)
  have hB : Base C w C (fun b => b < w.heap.size) w := Base.start
  have hll : l.length = (sgn neg).length + (a.length + (tailOf b).length) := by rw [hl, List.length_append, List.length_append]
  have hsl := sgn_len neg; have htl := tail_len b
  refine reg_seq tab (k := 0) (hs := []) (sy := []) (ks := [3, 2, 0]) (bs := [0]) (gs := [])
      (L' := [(3, .v (.bool false)), (2, .p 0 0), (0, .v (.string (str l)))])
      (H' := [⟨0, 31, [.v (.string ⟨#[]⟩), .v (.string ⟨#[]⟩), .v (.int .i32 0), .v (.int .u8 0), .v (.bool false)]⟩]) (G' := []) (k' := 1) hR hI (by kernel_rfl)
      .nil (fun e1 a1 w1 hag hR hI => ?_)
  refine wp_seq ?_
  refine reg_seq tab (k := 1) (hs := []) (sy := []) (ks := [8, 3, 2, 0]) (bs := [0]) (gs := [])
      (L' := [(8, .v (.bool (((l.length : Nat) : Int) == (0 : Int)))), (3, .v (.bool false)), (2, .p 0 0), (0, .v (.string (str l)))])
      (H' := [⟨0, 31, [.v (.string ⟨#[]⟩), .v (.string ⟨#[]⟩), .v (.int .i32 0), .v (.int .u8 0), .v (.bool false)]⟩]) (G' := []) (k' := 1) hR hI (by kernel_rfl)
      .nil (fun e2 a2 w2 hag hR hI => ?_)
  refine cnd (b := (((l.length : Nat) : Int) == (0 : Int))) hI (by kernel_rfl) (fun hc3 => ?_) (fun hc3 => ?_)
  · skip
    replace hI := hI.re 8 (.v (.bool true)) rfl (congrArg Value.bool hc3)
    try simp only [decide_eq_true_eq, decide_eq_false_iff_not, beq_iff_eq, bne_iff_ne, beq_eq_false_iff_ne, bne_eq_false_iff_eq, Bool.and_eq_true, Bool.and_eq_false_iff, Bool.or_eq_true, Bool.or_eq_false_iff, Bool.not_eq_true', Bool.not_eq_false', ne_eq] at hc3
    omega
  · skip
    replace hI := hI.re 8 (.v (.bool false)) rfl (congrArg Value.bool hc3)
    try simp only [decide_eq_true_eq, decide_eq_false_iff_not, beq_iff_eq, bne_iff_ne, beq_eq_false_iff_ne, bne_eq_false_iff_eq, Bool.and_eq_true, Bool.and_eq_false_iff, Bool.or_eq_true, Bool.or_eq_false_iff, Bool.not_eq_true', Bool.not_eq_false', ne_eq] at hc3
    refine wp_skip ?_
    refine then_n ?_
    refine wp_seq ?_
    refine wp_seq ?_
    refine reg (is := [0, 1, 2]) (by kernel_rfl) ?_
    refine part_ tab [0, 1] [2] (by rfl) (k := 1) (hs := []) (sy := []) (ks := [10, 3, 2, 0]) (bs := [0]) (gs := [])
        (L' := [(10, .v (.int .u8 (((l.getD 0 0).toNat : Nat) : Int))), (3, .v (.bool false)), (2, .p 0 0), (0, .v (.string (str l)))])
        (H' := [⟨0, 31, [.v (.string ⟨#[]⟩), .v (.string ⟨#[]⟩), .v (.int .i32 0), .v (.int .u8 0), .v (.bool false)]⟩]) (G' := []) (k' := 1) hR hI (by kernel_rfl)
        (.cons (by omega : (0 : Int) ≤ (0 : Int) ∧ (0 : Int) < (l.length : Nat)) .nil) (fun e4 a4 w4 hag hR hI => ?_)
    refine callOp (ys := [.v (.int .u8 (((l.getD 0 0).toNat : Nat) : Int))]) hI rfl rfl ⟨_, rfl, rfl, rfl⟩ (by kernel_rfl) Tryd.func10 rfl rfl ?_
    refine (isSign_spec (C := C) _).mono ?_
    rintro ex w5 ⟨rfl, hk⟩
    replace hR := hR.same hk; clear hk
    refine ⟨_, rfl, ?_⟩
    replace hI := hI.put (d := some 11) (x := .v (.bool (((((l.getD 0 0).toNat : Nat) : Int) == (45 : Int)) || ((((l.getD 0 0).toNat : Nat) : Int) == (43 : Int))))) (by intro t ht; cases ht; decide) rfl
    replace hI := hI.sel [11, 10, 3, 2, 0] (by kernel_rfl : sel _ _ = some [(11, .v (.bool (((((l.getD 0 0).toNat : Nat) : Int) == (45 : Int)) || ((((l.getD 0 0).toNat : Nat) : Int) == (43 : Int))))), (10, .v (.int .u8 (((l.getD 0 0).toNat : Nat) : Int))), (3, .v (.bool false)), (2, .p 0 0), (0, .v (.string (str l)))])
    refine ops_nil ?_
    refine then_n ?_
    refine join (γ := Int) hR hI (fun sg => (⟨[(0, .v (.string (str (a ++ tailOf b)))), (2, .p 0 0)], [⟨0, 31, [.v (.string ⟨#[]⟩), .v (.string ⟨#[]⟩), .v (.int .i32 0), .v (.int .u8 sg), .v (.bool false)]⟩], [], 1⟩ : Sy)) (fun sg e => sg = sg) ?_ ?_
    · skip
      refine cnd (b := ((((l.getD 0 0).toNat : Nat) : Int) == (45 : Int)) || ((((l.getD 0 0).toNat : Nat) : Int) == (43 : Int))) hI (by kernel_rfl) (fun hc6 => ?_) (fun hc6 => ?_)
      · skip
        replace hI := hI.re 11 (.v (.bool true)) rfl (congrArg Value.bool hc6)
        try simp only [decide_eq_true_eq, decide_eq_false_iff_not, beq_iff_eq, bne_iff_ne, beq_eq_false_iff_ne, bne_eq_false_iff_eq, Bool.and_eq_true, Bool.and_eq_false_iff, Bool.or_eq_true, Bool.or_eq_false_iff, Bool.not_eq_true', Bool.not_eq_false', ne_eq] at hc6
        have hdr := sgn_yes hl ha hal (by omega)
        refine reg_seq tab (k := 1) (hs := []) (sy := []) (ks := [2, 0]) (bs := [0]) (gs := [])
            (L' := [(2, .p 0 0), (0, .v (.string (str l)))])
            (H' := [⟨0, 31, [.v (.string ⟨#[]⟩), .v (.string ⟨#[]⟩), .v (.int .i32 0), .v (.int .u8 (((l.getD 0 0).toNat : Nat) : Int)), .v (.bool false)]⟩]) (G' := []) (k' := 1) hR hI (by kernel_rfl)
            (.cons (by omega : (0 : Int) ≤ (0 : Int) ∧ (0 : Int) < (l.length : Nat)) .nil) (fun e7 a7 w7 hag hR hI => ?_)
        refine reg_all tab (k := 1) (hs := [(1, .eq (.string (str (a ++ tailOf b))))]) (sy := []) (ks := [0, 2]) (bs := [0]) (gs := [])
            (L' := [(0, .v (.string (str (a ++ tailOf b)))), (2, .p 0 0)])
            (H' := [⟨0, 31, [.v (.string ⟨#[]⟩), .v (.string ⟨#[]⟩), .v (.int .i32 0), .v (.int .u8 (((l.getD 0 0).toNat : Nat) : Int)), .v (.bool false)]⟩]) (G' := []) (k' := 1) hR hI (by kernel_rfl)
            (.cons (congrArg Value.string ((str_from _ _).trans (by rw [hdr]) : (str l).extract 1 (str l).size = str (a ++ tailOf b))) (.cons (by omega : (0 : Int) ≤ (1 : Int) ∧ (1 : Int) ≤ (l.length : Nat)) .nil)) (fun e8 a8 w8 hag hR hI => ?_)
        refine then_n ?_
        exact ⟨(((l.getD 0 0).toNat : Nat) : Int), e8, rfl, hR.sel [0] [] (by kernel_rfl) (by kernel_rfl), hI.sel [0, 2] (by kernel_rfl)⟩
      · skip
        replace hI := hI.re 11 (.v (.bool false)) rfl (congrArg Value.bool hc6)
        try simp only [decide_eq_true_eq, decide_eq_false_iff_not, beq_iff_eq, bne_iff_ne, beq_eq_false_iff_ne, bne_eq_false_iff_eq, Bool.and_eq_true, Bool.and_eq_false_iff, Bool.or_eq_true, Bool.or_eq_false_iff, Bool.not_eq_true', Bool.not_eq_false', ne_eq] at hc6
        have hlt := sgn_no hl (by omega)
        replace hI := hI.re 0 (.v (.string (str (a ++ tailOf b)))) rfl (congrArg (fun z => Value.string (str z)) (hlt : l = a ++ tailOf b))
        refine wp_skip ?_
        refine then_n ?_
        exact ⟨0, e4, rfl, hR.sel [0] [] (by kernel_rfl) (by kernel_rfl), hI.sel [0, 2] (by kernel_rfl)⟩
    · clear hR hI
      rintro sg e9 a9 w9 hp hR hI
      dsimp only at hp hR hI
      
      refine wp_seq ?_
      refine reg (is := [0, 1, 2, 3, 4, 5, 6, 7]) (by kernel_rfl) ?_
      refine part_ tab [0] [1, 2, 3, 4, 5, 6, 7] (by rfl) (k := 1) (hs := []) (sy := []) (ks := [18, 0, 2]) (bs := [0]) (gs := [])
          (L' := [(18, .v (.string (str (a ++ tailOf b)))), (0, .v (.string (str (a ++ tailOf b)))), (2, .p 0 0)])
          (H' := [⟨0, 31, [.v (.string ⟨#[]⟩), .v (.string ⟨#[]⟩), .v (.int .i32 0), .v (.int .u8 sg), .v (.bool false)]⟩]) (G' := []) (k' := 1) hR hI (by kernel_rfl)
          .nil (fun e10 a10 w10 hag hR hI => ?_)
      refine callOp (ys := [.v (.string (str (a ++ tailOf b)))]) hI rfl rfl ⟨_, rfl, rfl, rfl⟩ (by kernel_rfl) Tryd.func11 rfl rfl ?_
      refine (run_spec (C := C) ha (tail_hd b) (asc_app (asc_of ha) (asc_tail hb))).mono ?_
      rintro ex w11 ⟨rfl, hk⟩
      replace hR := hR.same hk; clear hk
      refine ⟨_, rfl, ?_⟩
      replace hI := hI.put (d := some 19) (x := .v (.tuple #[.string (str a), .string (str (tailOf b))])) (by intro t ht; cases ht; decide) rfl
      replace hI := hI.sel [19, 18, 0, 2] (by kernel_rfl : sel _ _ = some [(19, .v (.tuple #[.string (str a), .string (str (tailOf b))])), (18, .v (.string (str (a ++ tailOf b)))), (0, .v (.string (str (a ++ tailOf b)))), (2, .p 0 0)])
      refine part_ tab [2, 3, 4, 5, 6, 7] [] (by rfl) (k := 1) (hs := []) (sy := []) (ks := [0, 2]) (bs := [0]) (gs := [])
          (L' := [(0, .v (.string (str (tailOf b)))), (2, .p 0 0)])
          (H' := [⟨0, 31, [.v (.string (str a)), .v (.string ⟨#[]⟩), .v (.int .i32 0), .v (.int .u8 sg), .v (.bool false)]⟩]) (G' := []) (k' := 1) hR hI (by kernel_rfl)
          .nil (fun e12 a12 w12 hag hR hI => ?_)
      refine ops_nil ?_
      refine then_n ?_
      refine wp_seq ?_
      refine reg_seq tab (k := 1) (hs := []) (sy := []) (ks := [25, 0, 2]) (bs := [0]) (gs := [])
          (L' := [(25, .v (.bool ((((tailOf b).length : Nat) : Int) == (0 : Int)))), (0, .v (.string (str (tailOf b)))), (2, .p 0 0)])
          (H' := [⟨0, 31, [.v (.string (str a)), .v (.string ⟨#[]⟩), .v (.int .i32 0), .v (.int .u8 sg), .v (.bool false)]⟩]) (G' := []) (k' := 1) hR hI (by kernel_rfl)
          .nil (fun e13 a13 w13 hag hR hI => ?_)
      refine cnd (b := ((((tailOf b).length : Nat) : Int) == (0 : Int))) hI (by kernel_rfl) (fun hc14 => ?_) (fun hc14 => ?_)
      · skip
        replace hI := hI.re 25 (.v (.bool true)) rfl (congrArg Value.bool hc14)
        try simp only [decide_eq_true_eq, decide_eq_false_iff_not, beq_iff_eq, bne_iff_ne, beq_eq_false_iff_ne, bne_eq_false_iff_eq, Bool.and_eq_true, Bool.and_eq_false_iff, Bool.or_eq_true, Bool.or_eq_false_iff, Bool.not_eq_true', Bool.not_eq_false', ne_eq] at hc14
        refine reg_seq tab (k := 1) (hs := []) (sy := []) (ks := [3, 2]) (bs := [0]) (gs := [])
            (L' := [(3, .v (.bool (decide (((a.length : Nat) : Int) > (0 : Int))))), (2, .p 0 0)])
            (H' := [⟨0, 31, [.v (.string (str a)), .v (.string ⟨#[]⟩), .v (.int .i32 0), .v (.int .u8 sg), .v (.bool false)]⟩]) (G' := []) (k' := 1) hR hI (by kernel_rfl)
            .nil (fun e15 a15 w15 hag hR hI => ?_)
        refine wp_ret ?_
        refine ret_then ?_
        refine outN tab (xs := [.agg [.v (.string (str a)), .v (.string ⟨#[]⟩), .v (.int .i32 0), .v (.int .u8 sg), .v (.bool false)], .v (.bool (decide (((a.length : Nat) : Int) > (0 : Int))))]) hR hI rfl (by kernel_rfl) ?_
        have hb0 : b = [] := tail_nil (by omega)
        have hal2 : decide (((a.length : Nat) : Int) > (0 : Int)) = true := decide_eq_true (by omega)
        exact ⟨_, by rw [hb0, ← hal2]; rfl, hB.fin hR⟩
      · skip
        replace hI := hI.re 25 (.v (.bool false)) rfl (congrArg Value.bool hc14)
        try simp only [decide_eq_true_eq, decide_eq_false_iff_not, beq_iff_eq, bne_iff_ne, beq_eq_false_iff_ne, bne_eq_false_iff_eq, Bool.and_eq_true, Bool.and_eq_false_iff, Bool.or_eq_true, Bool.or_eq_false_iff, Bool.not_eq_true', Bool.not_eq_false', ne_eq] at hc14
        have htn : ¬ (tailOf b).length = 0 := by omega
        refine wp_skip ?_
        refine then_n ?_
        refine wp_seq ?_
        refine wp_seq ?_
        refine reg (is := [0, 1, 2]) (by kernel_rfl) ?_
        refine part_ tab [0, 1] [2] (by rfl) (k := 1) (hs := []) (sy := []) (ks := [32, 0, 2]) (bs := [0]) (gs := [])
            (L' := [(32, .v (.int .u8 ((((tailOf b).getD 0 0).toNat : Nat) : Int))), (0, .v (.string (str (tailOf b)))), (2, .p 0 0)])
            (H' := [⟨0, 31, [.v (.string (str a)), .v (.string ⟨#[]⟩), .v (.int .i32 0), .v (.int .u8 sg), .v (.bool false)]⟩]) (G' := []) (k' := 1) hR hI (by kernel_rfl)
            (.cons (by omega : (0 : Int) ≤ (0 : Int) ∧ (0 : Int) < ((tailOf b).length : Nat)) .nil) (fun e16 a16 w16 hag hR hI => ?_)
        refine callOp (ys := [.v (.int .u8 ((((tailOf b).getD 0 0).toNat : Nat) : Int))]) hI rfl rfl ⟨_, rfl, rfl, rfl⟩ (by kernel_rfl) Tryd.func12 rfl rfl ?_
        refine (isDot_spec (C := C) _).mono ?_
        rintro ex w17 ⟨rfl, hk⟩
        replace hR := hR.same hk; clear hk
        refine ⟨_, rfl, ?_⟩
        replace hI := hI.put (d := some 33) (x := .v (.bool (((((tailOf b).getD 0 0).toNat : Nat) : Int) == (46 : Int)))) (by intro t ht; cases ht; decide) rfl
        replace hI := hI.sel [33, 32, 0, 2] (by kernel_rfl : sel _ _ = some [(33, .v (.bool (((((tailOf b).getD 0 0).toNat : Nat) : Int) == (46 : Int)))), (32, .v (.int .u8 ((((tailOf b).getD 0 0).toNat : Nat) : Int))), (0, .v (.string (str (tailOf b)))), (2, .p 0 0)])
        refine ops_nil ?_
        refine then_n ?_
        refine cnd (b := (((((tailOf b).getD 0 0).toNat : Nat) : Int) == (46 : Int))) hI (by kernel_rfl) (fun hc18 => ?_) (fun hc18 => ?_)
        · skip
          replace hI := hI.re 33 (.v (.bool true)) rfl (congrArg Value.bool hc18)
          try simp only [decide_eq_true_eq, decide_eq_false_iff_not, beq_iff_eq, bne_iff_ne, beq_eq_false_iff_ne, bne_eq_false_iff_eq, Bool.and_eq_true, Bool.and_eq_false_iff, Bool.or_eq_true, Bool.or_eq_false_iff, Bool.not_eq_true', Bool.not_eq_false', ne_eq] at hc18
          refine reg_seq tab (k := 1) (hs := [(1, .eq (.string (str (b ++ []))))]) (sy := []) (ks := [0, 2]) (bs := [0]) (gs := [])
              (L' := [(0, .v (.string (str (b ++ [])))), (2, .p 0 0)])
              (H' := [⟨0, 31, [.v (.string (str a)), .v (.string ⟨#[]⟩), .v (.int .i32 0), .v (.int .u8 sg), .v (.bool false)]⟩]) (G' := []) (k' := 1) hR hI (by kernel_rfl)
              (.cons (congrArg Value.string ((str_from _ _).trans (by rw [(tail_dot htn).2]) : (str (tailOf b)).extract 1 (str (tailOf b)).size = str (b ++ []))) (.cons (by omega : (0 : Int) ≤ (1 : Int) ∧ (1 : Int) ≤ ((tailOf b).length : Nat)) .nil)) (fun e19 a19 w19 hag hR hI => ?_)
          refine reg (is := [0, 1, 2, 3, 4, 5, 6, 7]) (by kernel_rfl) ?_
          refine part_ tab [0] [1, 2, 3, 4, 5, 6, 7] (by rfl) (k := 1) (hs := []) (sy := []) (ks := [37, 0, 2]) (bs := [0]) (gs := [])
              (L' := [(37, .v (.string (str (b ++ [])))), (0, .v (.string (str (b ++ [])))), (2, .p 0 0)])
              (H' := [⟨0, 31, [.v (.string (str a)), .v (.string ⟨#[]⟩), .v (.int .i32 0), .v (.int .u8 sg), .v (.bool false)]⟩]) (G' := []) (k' := 1) hR hI (by kernel_rfl)
              .nil (fun e20 a20 w20 hag hR hI => ?_)
          refine callOp (ys := [.v (.string (str (b ++ [])))]) hI rfl rfl ⟨_, rfl, rfl, rfl⟩ (by kernel_rfl) Tryd.func11 rfl rfl ?_
          refine (run_spec (C := C) hb (.inl rfl) (asc_app (asc_of hb) (fun j h => absurd h (Nat.not_lt_zero _)))).mono ?_
          rintro ex w21 ⟨rfl, hk⟩
          replace hR := hR.same hk; clear hk
          refine ⟨_, rfl, ?_⟩
          replace hI := hI.put (d := some 38) (x := .v (.tuple #[.string (str b), .string (str ([] : List UInt8))])) (by intro t ht; cases ht; decide) rfl
          replace hI := hI.sel [38, 37, 0, 2] (by kernel_rfl : sel _ _ = some [(38, .v (.tuple #[.string (str b), .string (str ([] : List UInt8))])), (37, .v (.string (str (b ++ [])))), (0, .v (.string (str (b ++ [])))), (2, .p 0 0)])
          refine part_ tab [2, 3, 4, 5, 6, 7] [] (by rfl) (k := 1) (hs := []) (sy := []) (ks := [0, 2]) (bs := [0]) (gs := [])
              (L' := [(0, .v (.string (str ([] : List UInt8)))), (2, .p 0 0)])
              (H' := [⟨0, 31, [.v (.string (str a)), .v (.string (str b)), .v (.int .i32 0), .v (.int .u8 sg), .v (.bool false)]⟩]) (G' := []) (k' := 1) hR hI (by kernel_rfl)
              .nil (fun e22 a22 w22 hag hR hI => ?_)
          refine ops_nil ?_
          refine then_n ?_
          refine wp_seq ?_
          refine reg_seq tab (k := 1) (hs := [(9, .sym)]) (sy := [5, 6, 7, 8]) (ks := [51, 0, 2]) (bs := [0]) (gs := [])
              (L' := [(51, .v (.bool ((((a.length : Nat) : Int) == (0 : Int)) && (((b.length : Nat) : Int) == (0 : Int))))), (0, .v (.string (str ([] : List UInt8)))), (2, .p 0 0)])
              (H' := [⟨0, 31, [.v (.string (str a)), .v (.string (str b)), .v (.int .i32 0), .v (.int .u8 sg), .v (.bool false)]⟩]) (G' := []) (k' := 1) hR hI (by kernel_rfl)
              (.cons (rfl : (((a.length : Nat) : Int) == (0 : Int)) = (((a.length : Nat) : Int) == (0 : Int))) (.cons (rfl : (((a.length : Nat) : Int) == (0 : Int)) = (((a.length : Nat) : Int) == (0 : Int))) (.cons (rfl : (((a.length : Nat) : Int) == (0 : Int)) = (((a.length : Nat) : Int) == (0 : Int))) (.cons (rfl : (((a.length : Nat) : Int) == (0 : Int)) = (((a.length : Nat) : Int) == (0 : Int))) (.cons (rfl : (((a.length : Nat) : Int) == (0 : Int)) = (((a.length : Nat) : Int) == (0 : Int))) (.cons (rfl : (((a.length : Nat) : Int) == (0 : Int)) = (((a.length : Nat) : Int) == (0 : Int))) (.cons (by first | exact Bool.beq_true _ | exact Bool.beq_false _ | rfl | simp_all : ((((a.length : Nat) : Int) == (0 : Int)) == true) = (((a.length : Nat) : Int) == (0 : Int))) .nil))))))) (fun e23 a23 w23 hag hR hI => ?_)
          refine cnd (b := ((((a.length : Nat) : Int) == (0 : Int)) && (((b.length : Nat) : Int) == (0 : Int)))) hI (by kernel_rfl) (fun hc24 => ?_) (fun hc24 => ?_)
          · skip
            replace hI := hI.re 51 (.v (.bool true)) rfl (congrArg Value.bool hc24)
            try simp only [decide_eq_true_eq, decide_eq_false_iff_not, beq_iff_eq, bne_iff_ne, beq_eq_false_iff_ne, bne_eq_false_iff_eq, Bool.and_eq_true, Bool.and_eq_false_iff, Bool.or_eq_true, Bool.or_eq_false_iff, Bool.not_eq_true', Bool.not_eq_false', ne_eq] at hc24
            omega
          · skip
            replace hI := hI.re 51 (.v (.bool false)) rfl (congrArg Value.bool hc24)
            try simp only [decide_eq_true_eq, decide_eq_false_iff_not, beq_iff_eq, bne_iff_ne, beq_eq_false_iff_ne, bne_eq_false_iff_eq, Bool.and_eq_true, Bool.and_eq_false_iff, Bool.or_eq_true, Bool.or_eq_false_iff, Bool.not_eq_true', Bool.not_eq_false', ne_eq] at hc24
            refine wp_skip ?_
            refine then_n ?_
            refine wp_seq ?_
            refine reg_seq tab (k := 1) (hs := []) (sy := []) (ks := [54, 0, 2]) (bs := [0]) (gs := [])
                (L' := [(54, .v (.bool (((([] : List UInt8).length : Nat) : Int) == (0 : Int)))), (0, .v (.string (str ([] : List UInt8)))), (2, .p 0 0)])
                (H' := [⟨0, 31, [.v (.string (str a)), .v (.string (str b)), .v (.int .i32 0), .v (.int .u8 sg), .v (.bool false)]⟩]) (G' := []) (k' := 1) hR hI (by kernel_rfl)
                .nil (fun e25 a25 w25 hag hR hI => ?_)
            refine cnd (b := (((([] : List UInt8).length : Nat) : Int) == (0 : Int))) hI (by kernel_rfl) (fun hc26 => ?_) (fun hc26 => ?_)
            · skip
              replace hI := hI.re 54 (.v (.bool true)) rfl (congrArg Value.bool hc26)
              try simp only [decide_eq_true_eq, decide_eq_false_iff_not, beq_iff_eq, bne_iff_ne, beq_eq_false_iff_ne, bne_eq_false_iff_eq, Bool.and_eq_true, Bool.and_eq_false_iff, Bool.or_eq_true, Bool.or_eq_false_iff, Bool.not_eq_true', Bool.not_eq_false', ne_eq] at hc26
              refine reg_seq tab (k := 1) (hs := []) (sy := []) (ks := [3, 2]) (bs := [0]) (gs := [])
                  (L' := [(3, .v (.bool true)), (2, .p 0 0)])
                  (H' := [⟨0, 31, [.v (.string (str a)), .v (.string (str b)), .v (.int .i32 0), .v (.int .u8 sg), .v (.bool false)]⟩]) (G' := []) (k' := 1) hR hI (by kernel_rfl)
                  .nil (fun e27 a27 w27 hag hR hI => ?_)
              refine wp_ret ?_
              refine ret_then ?_
              refine outN tab (xs := [.agg [.v (.string (str a)), .v (.string (str b)), .v (.int .i32 0), .v (.int .u8 sg), .v (.bool false)], .v (.bool true)]) hR hI rfl (by kernel_rfl) ?_
              exact ⟨_, rfl, hB.fin hR⟩
            · skip
              replace hI := hI.re 54 (.v (.bool false)) rfl (congrArg Value.bool hc26)
              try simp only [decide_eq_true_eq, decide_eq_false_iff_not, beq_iff_eq, bne_iff_ne, beq_eq_false_iff_ne, bne_eq_false_iff_eq, Bool.and_eq_true, Bool.and_eq_false_iff, Bool.or_eq_true, Bool.or_eq_false_iff, Bool.not_eq_true', Bool.not_eq_false', ne_eq] at hc26
              exact absurd rfl hc26
        · skip
          replace hI := hI.re 33 (.v (.bool false)) rfl (congrArg Value.bool hc18)
          try simp only [decide_eq_true_eq, decide_eq_false_iff_not, beq_iff_eq, bne_iff_ne, beq_eq_false_iff_ne, bne_eq_false_iff_eq, Bool.and_eq_true, Bool.and_eq_false_iff, Bool.or_eq_true, Bool.or_eq_false_iff, Bool.not_eq_true', Bool.not_eq_false', ne_eq] at hc18
          have := (tail_dot htn).1; omega

set_option maxHeartbeats 4000000 in
set_option maxRecDepth 100000 in
theorem psf_spec {C : Nat → Prop} {w : World} {neg : Bool} {a b l : List UInt8} (hl : l = sgn neg ++ (a ++ tailOf b)) (ha : digs a) (hb : digs b) (hal : 0 < a.length) (h60 : a.length + b.length ≤ 60) (h48 : (a.getD 0 0).toNat ≠ 48) :
    Calls P 6 #[.string (str l)] w fun ex w' => ex = .returned (.tuple #[.int .i32 ((b.length + a.length : Nat) : Int), .int .i32 ((b.length : Nat) : Int), .nilIface]) ∧ Keep (fun b => b < w.heap.size) w w' := by
  refine doorN (e := e0) (vs := [.v (.string (str l))]) (n := 48) (m := 1) Tryd.func6 rfl rfl rfl (by decide) fun a_ hI => ?_
  replace hI : Is 48 [] e0 [(0, .v (.string (str l)))] a_ := hI
  have hR : Rel (fun b => b < w.heap.size) w e0 [] [] w := Rel.start (fun k hk => hk)
  have hB : Base C w C (fun b => b < w.heap.size) w := Base.start
  have hll : l.length = (sgn neg).length + (a.length + (tailOf b).length) := by rw [hl, List.length_append, List.length_append]
  have hsl := sgn_len neg; have htl := tail_len b
  refine reg_seq tab (k := 0) (hs := []) (sy := []) (ks := [4, 0]) (bs := []) (gs := [])
      (L' := [(4, .v (.nilIface)), (0, .v (.string (str l)))])
      (H' := []) (G' := []) (k' := 0) hR hI (by kernel_rfl)
      .nil (fun e1 a1 w1 hag hR hI => ?_)
  refine wp_seq ?_
  refine reg_seq tab (k := 0) (hs := []) (sy := []) (ks := [12, 4, 0]) (bs := []) (gs := [])
      (L' := [(12, .v (.bool (((l.length : Nat) : Int) == (0 : Int)))), (4, .v (.nilIface)), (0, .v (.string (str l)))])
      (H' := []) (G' := []) (k' := 0) hR hI (by kernel_rfl)
      .nil (fun e2 a2 w2 hag hR hI => ?_)
  refine cnd (b := (((l.length : Nat) : Int) == (0 : Int))) hI (by kernel_rfl) (fun hc3 => ?_) (fun hc3 => ?_)
  · skip
    replace hI := hI.re 12 (.v (.bool true)) rfl (congrArg Value.bool hc3)
    try simp only [decide_eq_true_eq, decide_eq_false_iff_not, beq_iff_eq, bne_iff_ne, beq_eq_false_iff_ne, bne_eq_false_iff_eq, Bool.and_eq_true, Bool.and_eq_false_iff, Bool.or_eq_true, Bool.or_eq_false_iff, Bool.not_eq_true', Bool.not_eq_false', ne_eq] at hc3
    omega
  · skip
    replace hI := hI.re 12 (.v (.bool false)) rfl (congrArg Value.bool hc3)
    try simp only [decide_eq_true_eq, decide_eq_false_iff_not, beq_iff_eq, bne_iff_ne, beq_eq_false_iff_ne, bne_eq_false_iff_eq, Bool.and_eq_true, Bool.and_eq_false_iff, Bool.or_eq_true, Bool.or_eq_false_iff, Bool.not_eq_true', Bool.not_eq_false', ne_eq] at hc3
    refine wp_skip ?_
    refine then_n ?_
    refine wp_seq ?_
    refine reg (is := [0, 1, 2, 3, 4, 5, 6, 7]) (by kernel_rfl) ?_
    refine part_ tab [0] [1, 2, 3, 4, 5, 6, 7] (by rfl) (k := 0) (hs := []) (sy := []) (ks := [15, 4]) (bs := []) (gs := [])
        (L' := [(15, .v (.string (str l))), (4, .v (.nilIface))])
        (H' := []) (G' := []) (k' := 0) hR hI (by kernel_rfl)
        .nil (fun e4 a4 w4 hag hR hI => ?_)
    refine callOp (ys := [.v (.string (str l))]) hI rfl rfl ⟨_, rfl, rfl, rfl⟩ (by kernel_rfl) Tryd.func8 rfl rfl ?_
    refine (parse_spec (C := C) hl ha hb hal h60).mono ?_
    rintro ex w5 ⟨sg, rfl, hk⟩
    replace hR := hR.same hk; clear hk
    refine ⟨_, rfl, ?_⟩
    replace hI := hI.put (d := some 16) (x := .v (.tuple #[.agg #[.string (str a), .string (str b), .int .i32 0, .int .u8 sg, .bool false], .bool true])) (by intro t ht; cases ht; decide) rfl
    replace hI := hI.sel [16, 15, 4] (by kernel_rfl : sel _ _ = some [(16, .v (.tuple #[.agg #[.string (str a), .string (str b), .int .i32 0, .int .u8 sg, .bool false], .bool true])), (15, .v (.string (str l))), (4, .v (.nilIface))])
    refine part_ tab [2, 3, 4, 5, 6, 7] [] (by rfl) (k := 0) (hs := []) (sy := []) (ks := [6, 5, 4]) (bs := [0]) (gs := [])
        (L' := [(6, .v (.bool true)), (5, .p 0 0), (4, .v (.nilIface))])
        (H' := [⟨0, 31, [.v (.string (str a)), .v (.string (str b)), .v (.int .i32 0), .v (.int .u8 sg), .v (.bool false)]⟩]) (G' := []) (k' := 1) hR hI (by kernel_rfl)
        .nil (fun e6 a6 w6 hag hR hI => ?_)
    refine ops_nil ?_
    refine then_n ?_
    refine wp_seq ?_
    refine reg_seq tab (k := 1) (hs := []) (sy := []) (ks := [20, 5, 4]) (bs := [0]) (gs := [])
        (L' := [(20, .v (.bool false)), (5, .p 0 0), (4, .v (.nilIface))])
        (H' := [⟨0, 31, [.v (.string (str a)), .v (.string (str b)), .v (.int .i32 0), .v (.int .u8 sg), .v (.bool false)]⟩]) (G' := []) (k' := 1) hR hI (by kernel_rfl)
        .nil (fun e7 a7 w7 hag hR hI => ?_)
    refine cnd_f hI (by kernel_rfl) ?_
    refine wp_skip ?_
    refine then_n ?_
    refine wp_seq ?_
    refine reg (is := [0, 1, 2, 3]) (by kernel_rfl) ?_
    refine part_ tab [0, 1] [2, 3] (by rfl) (k := 1) (hs := []) (sy := []) (ks := [23, 5, 4]) (bs := [0]) (gs := [])
        (L' := [(23, .v (.string (str a))), (5, .p 0 0), (4, .v (.nilIface))])
        (H' := [⟨0, 31, [.v (.string (str a)), .v (.string (str b)), .v (.int .i32 0), .v (.int .u8 sg), .v (.bool false)]⟩]) (G' := []) (k' := 1) hR hI (by kernel_rfl)
        .nil (fun e8 a8 w8 hag hR hI => ?_)
    refine callOp (ys := [.v (.string (str a)), .v (.string (str ([48] : List UInt8)))]) hI rfl rfl ⟨_, rfl, rfl, rfl⟩ (by kernel_rfl) Tryd.func9 rfl rfl ?_
    refine (trim_spec (C := C) hal (asc_of ha 0 hal) h48).mono ?_
    rintro ex w9 ⟨rfl, hk⟩
    replace hR := hR.same hk; clear hk
    refine ⟨_, rfl, ?_⟩
    replace hI := hI.put (d := some 24) (x := .v (.string (str a))) (by intro t ht; cases ht; decide) rfl
    replace hI := hI.sel [24, 23, 5, 4] (by kernel_rfl : sel _ _ = some [(24, .v (.string (str a))), (23, .v (.string (str a))), (5, .p 0 0), (4, .v (.nilIface))])
    refine part_ tab [3] [] (by rfl) (k := 1) (hs := []) (sy := []) (ks := [7, 5, 4]) (bs := [0]) (gs := [])
        (L' := [(7, .v (.string (str a))), (5, .p 0 0), (4, .v (.nilIface))])
        (H' := [⟨0, 31, [.v (.string (str a)), .v (.string (str b)), .v (.int .i32 0), .v (.int .u8 sg), .v (.bool false)]⟩]) (G' := []) (k' := 1) hR hI (by kernel_rfl)
        .nil (fun e10 a10 w10 hag hR hI => ?_)
    refine ops_nil ?_
    refine then_n ?_
    refine reg_seq tab (k := 1) (hs := [(5, .nw)]) (sy := []) (ks := [8, 5, 4]) (bs := [0]) (gs := [])
        (L' := [(8, .v (.int .i64 ((b.length + a.length : Nat) : Int))), (5, .p 0 0), (4, .v (.nilIface))])
        (H' := [⟨0, 31, [.v (.string (str a)), .v (.string (str b)), .v (.int .i32 0), .v (.int .u8 sg), .v (.bool false)]⟩]) (G' := []) (k' := 1) hR hI (by kernel_rfl)
        (.cons (inR_i64 (n := ((b.length : Nat) : Int) + ((a.length : Nat) : Int)) (by omega)) .nil) (fun e11 a11 w11 hag hR hI => ?_)
    refine reg_seq tab (k := 1) (hs := [(1, .nw)]) (sy := []) (ks := [2, 5, 4]) (bs := [0]) (gs := [])
        (L' := [(2, .v (.int .i32 ((b.length + a.length : Nat) : Int))), (5, .p 0 0), (4, .v (.nilIface))])
        (H' := [⟨0, 31, [.v (.string (str a)), .v (.string (str b)), .v (.int .i32 0), .v (.int .u8 sg), .v (.bool false)]⟩]) (G' := []) (k' := 1) hR hI (by kernel_rfl)
        (.cons (inR_i32 (n := ((b.length + a.length : Nat) : Int)) (by omega)) .nil) (fun e12 a12 w12 hag hR hI => ?_)
    refine wp_seq ?_
    refine reg_seq tab (k := 1) (hs := []) (sy := []) (ks := [34, 2, 5, 4]) (bs := [0]) (gs := [])
        (L' := [(34, .v (.bool false)), (2, .v (.int .i32 ((b.length + a.length : Nat) : Int))), (5, .p 0 0), (4, .v (.nilIface))])
        (H' := [⟨0, 31, [.v (.string (str a)), .v (.string (str b)), .v (.int .i32 0), .v (.int .u8 sg), .v (.bool false)]⟩]) (G' := []) (k' := 1) hR hI (by kernel_rfl)
        .nil (fun e13 a13 w13 hag hR hI => ?_)
    refine cnd_f hI (by kernel_rfl) ?_
    refine reg_all tab (k := 1) (hs := [(3, .nw)]) (sy := []) (ks := [3, 2, 4]) (bs := []) (gs := [])
        (L' := [(3, .v (.int .i32 ((b.length : Nat) : Int))), (2, .v (.int .i32 ((b.length + a.length : Nat) : Int))), (4, .v (.nilIface))])
        (H' := []) (G' := []) (k' := 1) hR hI (by kernel_rfl)
        (.cons (inR_i32 (n := ((b.length : Nat) : Int)) (by omega)) .nil) (fun e14 a14 w14 hag hR hI => ?_)
    refine then_n ?_
    refine wp_ret ?_
    refine outN tab (xs := [.v (.int .i32 ((b.length + a.length : Nat) : Int)), .v (.int .i32 ((b.length : Nat) : Int)), .v (.nilIface)]) hR hI rfl (by kernel_rfl) ?_
    exact ⟨rfl, hB.fin hR⟩

theorem idle5 (x0 x1 x2 : Value) : Idle P 5 #[x0, x1, x2] := ⟨fun w => by
  refine callsD_of_wpS Tryd.func5 rfl fun c₀ cs hu => ?_
  apply wpS_seq
  apply wpS_region
  simp [wpOpsS, go_sem, recoverD, hu, Tryd.ntmps5, Exit.thenS]
  refine wpS_cond (t := false) (by simp [Act.eval, Array.replicate]) ?_
  simp only [Bool.false_eq_true, if_false]
  refine wpS_of_wp (wp_skip ?_)
  cases c₀
  simp_all [bodyPostS, results, Tryd.results5]⟩
theorem inv5 (x0 x1 x2 : Value) (w : World) : (invoke (.fn (.func 5) #[x0, x1, x2]) #[]).run P w = .ok (.enter 5 #[x0, x1, x2]) w := by
  simp [invoke, callFunc, Tryd.func5, Tryd.f5]

set_option maxHeartbeats 4000000 in
set_option maxRecDepth 100000 in
theorem ps_spec {C : Nat → Prop} {w : World} {neg : Bool} {a b l : List UInt8} (hl : l = sgn neg ++ (a ++ tailOf b)) (ha : digs a) (hb : digs b) (hal : 0 < a.length) (h60 : a.length + b.length ≤ 60) (h48 : (a.getD 0 0).toNat ≠ 48) :
    Calls P 4 #[.string (str l)] w fun ex w' => ex = .returned (.tuple #[.int .i64 ((b.length + a.length : Nat) : Int), .int .i64 ((b.length : Nat) : Int), .bool true]) ∧ Keep (fun b => b < w.heap.size) w w' := by
  refine doorD (e := e0) (vs := [.v (.string (str l))]) (n := 21) (m := 1) Tryd.func4 rfl rfl rfl (by decide) fun a_ hI => ?_
  replace hI : Is 21 [] e0 [(0, .v (.string (str l)))] a_ := hI
  have hR : Rel (fun b => b < w.heap.size) w e0 [] [] w := Rel.start (fun k hk => hk)
  have hB : Base C w C (fun b => b < w.heap.size) w := Base.start
  refine reg_seq tab (k := 0) (hs := []) (sy := []) (ks := [4, 3, 2, 0]) (bs := [2, 1, 0]) (gs := [])
      (L' := [(4, .p 2 0), (3, .p 1 0), (2, .p 0 0), (0, .v (.string (str l)))])
      (H' := [⟨2, 4, [.v (.bool false)]⟩, ⟨1, 3, [.v (.int .i64 0)]⟩, ⟨0, 3, [.v (.int .i64 0)]⟩]) (G' := []) (k' := 3) hR hI (by kernel_rfl)
      .nil (fun e1 a1 w1 hag hR hI => ?_)
  refine wp_seq ?_
  refine reg (is := [0, 1]) (by kernel_rfl) ?_
  refine rawOp (x := .v (.func (.func 5) #[] #[.pointer (some ⟨e1.b 0, 0, none⟩), .pointer (some ⟨e1.b 1, 0, none⟩), .pointer (some ⟨e1.b 2, 0, none⟩)])) hI rfl rfl (by kernel_rfl) (fun ev hev => by simp [execOp, Instr.makeFunc, hev (.tmp 2) _ rfl, hev (.tmp 3) _ rfl, hev (.tmp 4) _ rfl, den]) (fun a2 hI => ?_)
  replace hI := hI.sel [8, 4, 3, 2, 0] (by kernel_rfl : sel _ _ = some [(8, .v (.func (.func 5) #[] #[.pointer (some ⟨e1.b 0, 0, none⟩), .pointer (some ⟨e1.b 1, 0, none⟩), .pointer (some ⟨e1.b 2, 0, none⟩)])), (4, .p 2 0), (3, .p 1 0), (2, .p 0 0), (0, .v (.string (str l)))])
  refine deferFn hI rfl rfl rfl ⟨_, rfl, rfl, rfl⟩ rfl (fun a2 hI => ?_)
  replace hI := hI.sel [8, 4, 3, 2, 0] (by kernel_rfl : sel _ _ = some [(8, .v (.func (.func 5) #[] #[.pointer (some ⟨e1.b 0, 0, none⟩), .pointer (some ⟨e1.b 1, 0, none⟩), .pointer (some ⟨e1.b 2, 0, none⟩)])), (4, .p 2 0), (3, .p 1 0), (2, .p 0 0), (0, .v (.string (str l)))])
  refine ops_nil ?_
  refine then_n ?_
  refine wp_seq ?_
  refine reg (is := [0, 1, 2, 3, 4, 5, 6, 7, 8]) (by kernel_rfl) ?_
  refine part_ tab [0] [1, 2, 3, 4, 5, 6, 7, 8] (by rfl) (k := 3) (hs := []) (sy := []) (ks := [10, 4, 3, 2]) (bs := [2, 1, 0]) (gs := [])
      (L' := [(10, .v (.string (str l))), (4, .p 2 0), (3, .p 1 0), (2, .p 0 0)])
      (H' := [⟨2, 4, [.v (.bool false)]⟩, ⟨1, 3, [.v (.int .i64 0)]⟩, ⟨0, 3, [.v (.int .i64 0)]⟩]) (G' := []) (k' := 3) hR hI (by kernel_rfl)
      .nil (fun e3 a3 w3 hag hR hI => ?_)
  refine callOp (ys := [.v (.string (str l))]) hI rfl rfl ⟨_, rfl, rfl, rfl⟩ (by kernel_rfl) Tryd.func6 rfl rfl ?_
  refine (psf_spec (C := C) hl ha hb hal h60 h48).mono ?_
  rintro ex w4 ⟨rfl, hk⟩
  replace hR := hR.same hk; clear hk
  refine ⟨_, rfl, ?_⟩
  replace hI := hI.put (d := some 11) (x := .v (.tuple #[.int .i32 ((b.length + a.length : Nat) : Int), .int .i32 ((b.length : Nat) : Int), .nilIface])) (by intro t ht; cases ht; decide) rfl
  replace hI := hI.sel [11, 10, 4, 3, 2] (by kernel_rfl : sel _ _ = some [(11, .v (.tuple #[.int .i32 ((b.length + a.length : Nat) : Int), .int .i32 ((b.length : Nat) : Int), .nilIface])), (10, .v (.string (str l))), (4, .p 2 0), (3, .p 1 0), (2, .p 0 0)])
  refine part_ tab [2, 3, 4, 5, 6, 7, 8] [] (by rfl) (k := 3) (hs := []) (sy := []) (ks := [7, 6, 5, 4, 3, 2]) (bs := [2, 1, 0]) (gs := [])
      (L' := [(7, .v (.nilIface)), (6, .v (.int .i32 ((b.length : Nat) : Int))), (5, .v (.int .i32 ((b.length + a.length : Nat) : Int))), (4, .p 2 0), (3, .p 1 0), (2, .p 0 0)])
      (H' := [⟨2, 4, [.v (.bool false)]⟩, ⟨1, 3, [.v (.int .i64 0)]⟩, ⟨0, 3, [.v (.int .i64 0)]⟩]) (G' := []) (k' := 3) hR hI (by kernel_rfl)
      .nil (fun e5 a5 w5 hag hR hI => ?_)
  refine ops_nil ?_
  refine then_n ?_
  refine wp_seq ?_
  refine reg_seq tab (k := 3) (hs := []) (sy := []) (ks := [16, 6, 5, 4, 3, 2]) (bs := [2, 1, 0]) (gs := [])
      (L' := [(16, .v (.bool false)), (6, .v (.int .i32 ((b.length : Nat) : Int))), (5, .v (.int .i32 ((b.length + a.length : Nat) : Int))), (4, .p 2 0), (3, .p 1 0), (2, .p 0 0)])
      (H' := [⟨2, 4, [.v (.bool false)]⟩, ⟨1, 3, [.v (.int .i64 0)]⟩, ⟨0, 3, [.v (.int .i64 0)]⟩]) (G' := []) (k' := 3) hR hI (by kernel_rfl)
      .nil (fun e6 a6 w6 hag hR hI => ?_)
  refine cnd_f hI (by kernel_rfl) ?_
  refine wp_skip ?_
  refine then_n ?_
  refine reg_seq tab (k := 3) (hs := [(1, .nw), (3, .nw)]) (sy := []) (ks := [4, 3, 2]) (bs := [2, 1, 0]) (gs := [])
      (L' := [(4, .p 2 0), (3, .p 1 0), (2, .p 0 0)])
      (H' := [⟨2, 4, [.v (.bool true)]⟩, ⟨1, 3, [.v (.int .i64 ((b.length : Nat) : Int))]⟩, ⟨0, 3, [.v (.int .i64 ((b.length + a.length : Nat) : Int))]⟩]) (G' := []) (k' := 3) hR hI (by kernel_rfl)
      (.cons (inR_i64 (n := ((b.length + a.length : Nat) : Int)) (by omega)) (.cons (inR_i64 (n := ((b.length : Nat) : Int)) (by omega)) .nil)) (fun e7 a7 w7 hag hR hI => ?_)
  refine wp_ret ?_
  refine outF tab (xs := [.v (.int .i64 ((b.length + a.length : Nat) : Int)), .v (.int .i64 ((b.length : Nat) : Int)), .v (.bool true)]) hR hI (inv5 _ _ _ _) (idle5 _ _ _) rfl (by kernel_rfl) ?_
  exact ⟨rfl, hB.fin hR⟩

theorem tl_p {b : List UInt8} (h : 0 < b.length) : tailOf b = 46 :: b := by unfold tailOf; rw [if_neg (by omega)]
theorem tl_n {b : List UInt8} (h : ¬ 0 < b.length) : tailOf b = [] := by unfold tailOf; rw [if_pos (by omega)]

set_option maxHeartbeats 4000000 in
set_option maxRecDepth 100000 in
theorem law_spec {C : Nat → Prop} {w : World} (neg : Bool) (f sc : List UInt8) (hf : f.length ≤ 9223372036854775807) (hs : sc.length ≤ 9223372036854775807) :
    Calls P 3 #[.bool neg, .string (str f), .string (str sc)] w fun ex w' => ex = .returned (.bool true) ∧ Keep (fun b => b < w.heap.size) w w' := by
  refine doorN (e := e0) (vs := [.v (.bool neg), .v (.string (str f)), .v (.string (str sc))]) (n := 112) (m := 3) Tryd.func3 rfl rfl rfl (by decide) fun a_ hI => ?_
  replace hI : Is 112 [] e0 [(0, .v (.bool neg)), (1, .v (.string (str f))), (2, .v (.string (str sc)))] a_ := hI
  have hR : Rel (fun b => b < w.heap.size) w e0 [] [] w := Rel.start (fun k hk => hk)
  have hB : Base C w C (fun b => b < w.heap.size) w := Base.start
  refine reg_seq tab (k := 0) (hs := []) (sy := []) (ks := [0, 1, 2]) (bs := []) (gs := [])
      (L' := [(0, .v (.bool neg)), (1, .v (.string (str f))), (2, .v (.string (str sc)))])
      (H' := []) (G' := []) (k' := 0) hR hI (by kernel_rfl)
      .nil (fun e1 a1 w1 hag hR hI => ?_)
  refine wp_seq ?_
  refine reg_seq tab (k := 0) (hs := [(7, .sym)]) (sy := [4, 5, 6]) (ks := [24, 0, 1, 2]) (bs := []) (gs := [])
      (L' := [(24, .v (.bool ((decide (((f.length : Nat) : Int) > (2147483647 : Int))) || (decide (((sc.length : Nat) : Int) > (2147483647 : Int)))))), (0, .v (.bool neg)), (1, .v (.string (str f))), (2, .v (.string (str sc)))])
      (H' := []) (G' := []) (k' := 0) hR hI (by kernel_rfl)
      (.cons (rfl : (decide (((f.length : Nat) : Int) > (2147483647 : Int))) = (decide (((f.length : Nat) : Int) > (2147483647 : Int)))) (.cons (rfl : (decide (((f.length : Nat) : Int) > (2147483647 : Int))) = (decide (((f.length : Nat) : Int) > (2147483647 : Int)))) (.cons (rfl : (decide (((f.length : Nat) : Int) > (2147483647 : Int))) = (decide (((f.length : Nat) : Int) > (2147483647 : Int)))) (.cons (by first | exact Bool.beq_true _ | exact Bool.beq_false _ | rfl | simp_all : ((decide (((f.length : Nat) : Int) > (2147483647 : Int))) == false) = !(decide (((f.length : Nat) : Int) > (2147483647 : Int)))) .nil)))) (fun e2 a2 w2 hag hR hI => ?_)
  refine cnd (b := ((decide (((f.length : Nat) : Int) > (2147483647 : Int))) || (decide (((sc.length : Nat) : Int) > (2147483647 : Int))))) hI (by kernel_rfl) (fun hc3 => ?_) (fun hc3 => ?_)
  · skip
    replace hI := hI.re 24 (.v (.bool true)) rfl (congrArg Value.bool hc3)
    try simp only [decide_eq_true_eq, decide_eq_false_iff_not, beq_iff_eq, bne_iff_ne, beq_eq_false_iff_ne, bne_eq_false_iff_eq, Bool.and_eq_true, Bool.and_eq_false_iff, Bool.or_eq_true, Bool.or_eq_false_iff, Bool.not_eq_true', Bool.not_eq_false', ne_eq] at hc3
    refine reg_seq tab (k := 0) (hs := []) (sy := []) (ks := [6]) (bs := []) (gs := [])
        (L' := [(6, .v (.bool true))])
        (H' := []) (G' := []) (k' := 0) hR hI (by kernel_rfl)
        .nil (fun e4 a4 w4 hag hR hI => ?_)
    refine wp_ret ?_
    refine ret_then ?_
    refine outN tab (xs := [.v (.bool true)]) hR hI rfl (by kernel_rfl) ?_
    exact ⟨rfl, hB.fin hR⟩
  · skip
    replace hI := hI.re 24 (.v (.bool false)) rfl (congrArg Value.bool hc3)
    try simp only [decide_eq_true_eq, decide_eq_false_iff_not, beq_iff_eq, bne_iff_ne, beq_eq_false_iff_ne, bne_eq_false_iff_eq, Bool.and_eq_true, Bool.and_eq_false_iff, Bool.or_eq_true, Bool.or_eq_false_iff, Bool.not_eq_true', Bool.not_eq_false', ne_eq] at hc3
    refine wp_skip ?_
    refine then_n ?_
    refine wp_seq ?_
    refine reg (is := [0, 1, 2, 3, 4, 5, 6, 7]) (by kernel_rfl) ?_
    refine callOp (ys := [.v (.string (str ([49, 46, 53] : List UInt8)))]) hI rfl rfl ⟨_, rfl, rfl, rfl⟩ (by kernel_rfl) Tryd.func4 rfl rfl ?_
    refine (ps_spec (C := C) (neg := false) (a := [49]) (b := [53]) rfl (by unfold digs dig; decide) (by unfold digs dig; decide) (by decide) (by decide) (by decide)).mono ?_
    rintro ex w5 ⟨rfl, hk⟩
    replace hR := hR.same hk; clear hk
    refine ⟨_, rfl, ?_⟩
    replace hI := hI.put (d := some 26) (x := .v (.tuple #[.int .i64 2, .int .i64 1, .bool true])) (by intro t ht; cases ht; decide) rfl
    replace hI := hI.sel [26, 24, 0, 1, 2] (by kernel_rfl : sel _ _ = some [(26, .v (.tuple #[.int .i64 2, .int .i64 1, .bool true])), (24, .v (.bool false)), (0, .v (.bool neg)), (1, .v (.string (str f))), (2, .v (.string (str sc)))])
    refine part_ tab [1, 2, 3, 4, 5, 6, 7] [] (by rfl) (k := 0) (hs := []) (sy := []) (ks := [9, 8, 7, 0, 1, 2]) (bs := []) (gs := [])
        (L' := [(9, .v (.bool true)), (8, .v (.int .i64 1)), (7, .v (.int .i64 2)), (0, .v (.bool neg)), (1, .v (.string (str f))), (2, .v (.string (str sc)))])
        (H' := []) (G' := []) (k' := 0) hR hI (by kernel_rfl)
        .nil (fun e6 a6 w6 hag hR hI => ?_)
    refine ops_nil ?_
    refine then_n ?_
    refine reg_seq tab (k := 0) (hs := []) (sy := []) (ks := [10, 0, 1, 2]) (bs := []) (gs := [])
        (L' := [(10, .v (.bool true)), (0, .v (.bool neg)), (1, .v (.string (str f))), (2, .v (.string (str sc)))])
        (H' := []) (G' := []) (k' := 0) hR hI (by kernel_rfl)
        .nil (fun e7 a7 w7 hag hR hI => ?_)
    refine wp_seq ?_
    refine reg_seq tab (k := 0) (hs := [(8, .nw), (10, .sym), (15, .sym)]) (sy := [4, 5, 6, 7, 8, 9, 12, 13, 14]) (ks := [54, 10, 0, 1, 2]) (bs := []) (gs := [])
        (L' := [(54, .v (.bool (((((f.length : Nat) : Int) == (0 : Int)) || (decide (((f.length + sc.length : Nat) : Int) > (60 : Int)))) || ((((f.getD 0 0).toNat : Nat) : Int) == (48 : Int))))), (10, .v (.bool true)), (0, .v (.bool neg)), (1, .v (.string (str f))), (2, .v (.string (str sc)))])
        (H' := []) (G' := []) (k' := 0) hR hI (by kernel_rfl)
        (.cons (rfl : (((f.length : Nat) : Int) == (0 : Int)) = (((f.length : Nat) : Int) == (0 : Int))) (.cons (rfl : (((f.length : Nat) : Int) == (0 : Int)) = (((f.length : Nat) : Int) == (0 : Int))) (.cons (rfl : (((f.length : Nat) : Int) == (0 : Int)) = (((f.length : Nat) : Int) == (0 : Int))) (.cons (rfl : (((f.length : Nat) : Int) == (0 : Int)) = (((f.length : Nat) : Int) == (0 : Int))) (.cons (rfl : (((f.length : Nat) : Int) == (0 : Int)) = (((f.length : Nat) : Int) == (0 : Int))) (.cons (rfl : (((f.length : Nat) : Int) == (0 : Int)) = (((f.length : Nat) : Int) == (0 : Int))) (.cons (rfl : (((f.length : Nat) : Int) == (0 : Int)) = (((f.length : Nat) : Int) == (0 : Int))) (.cons (rfl : (((f.length : Nat) : Int) == (0 : Int)) = (((f.length : Nat) : Int) == (0 : Int))) (.cons (rfl : (((f.length : Nat) : Int) == (0 : Int)) = (((f.length : Nat) : Int) == (0 : Int))) (.cons (rfl : (((f.length : Nat) : Int) == (0 : Int)) = (((f.length : Nat) : Int) == (0 : Int))) (.cons (fun (hg : ((((f.length : Nat) : Int) == (0 : Int)) == false) = true) => (inR_i64 (n := ((f.length : Nat) : Int) + ((sc.length : Nat) : Int)) (by simp only [beq_true, beq_false, decide_eq_true_eq, Bool.not_eq_true', decide_eq_false_iff_not, Bool.or_eq_true, Bool.or_eq_false_iff, Bool.and_eq_true, beq_eq_false_iff_ne, ne_eq] at hg; omega))) (.cons (rfl : (((f.length : Nat) : Int) == (0 : Int)) = (((f.length : Nat) : Int) == (0 : Int))) (.cons (rfl : (((f.length : Nat) : Int) == (0 : Int)) = (((f.length : Nat) : Int) == (0 : Int))) (.cons (rfl : (((f.length : Nat) : Int) == (0 : Int)) = (((f.length : Nat) : Int) == (0 : Int))) (.cons (rfl : (((f.length : Nat) : Int) == (0 : Int)) = (((f.length : Nat) : Int) == (0 : Int))) (.cons (rfl : (((f.length : Nat) : Int) == (0 : Int)) = (((f.length : Nat) : Int) == (0 : Int))) (.cons (by first | exact Bool.beq_true _ | exact Bool.beq_false _ | rfl | simp_all : ((((f.length : Nat) : Int) == (0 : Int)) == false) = !(((f.length : Nat) : Int) == (0 : Int))) (.cons (rfl : ((((f.length : Nat) : Int) == (0 : Int)) || (decide (((f.length + sc.length : Nat) : Int) > (60 : Int)))) = ((((f.length : Nat) : Int) == (0 : Int)) || (decide (((f.length + sc.length : Nat) : Int) > (60 : Int))))) (.cons (fun (hg : (((((f.length : Nat) : Int) == (0 : Int)) || (decide (((f.length + sc.length : Nat) : Int) > (60 : Int)))) == false) = true) => (by simp only [beq_true, beq_false, decide_eq_true_eq, Bool.not_eq_true', decide_eq_false_iff_not, Bool.or_eq_true, Bool.or_eq_false_iff, Bool.and_eq_true, beq_eq_false_iff_ne, ne_eq] at hg; omega : (0 : Int) ≤ (0 : Int) ∧ (0 : Int) < (f.length : Nat))) (.cons (rfl : ((((f.length : Nat) : Int) == (0 : Int)) || (decide (((f.length + sc.length : Nat) : Int) > (60 : Int)))) = ((((f.length : Nat) : Int) == (0 : Int)) || (decide (((f.length + sc.length : Nat) : Int) > (60 : Int))))) (.cons (rfl : ((((f.length : Nat) : Int) == (0 : Int)) || (decide (((f.length + sc.length : Nat) : Int) > (60 : Int)))) = ((((f.length : Nat) : Int) == (0 : Int)) || (decide (((f.length + sc.length : Nat) : Int) > (60 : Int))))) (.cons (by first | exact Bool.beq_true _ | exact Bool.beq_false _ | rfl | simp_all : (((((f.length : Nat) : Int) == (0 : Int)) || (decide (((f.length + sc.length : Nat) : Int) > (60 : Int)))) == false) = !((((f.length : Nat) : Int) == (0 : Int)) || (decide (((f.length + sc.length : Nat) : Int) > (60 : Int))))) .nil)))))))))))))))))))))) (fun e8 a8 w8 hag hR hI => ?_)
    refine cnd (b := (((((f.length : Nat) : Int) == (0 : Int)) || (decide (((f.length + sc.length : Nat) : Int) > (60 : Int)))) || ((((f.getD 0 0).toNat : Nat) : Int) == (48 : Int)))) hI (by kernel_rfl) (fun hc9 => ?_) (fun hc9 => ?_)
    · skip
      replace hI := hI.re 54 (.v (.bool true)) rfl (congrArg Value.bool hc9)
      try simp only [decide_eq_true_eq, decide_eq_false_iff_not, beq_iff_eq, bne_iff_ne, beq_eq_false_iff_ne, bne_eq_false_iff_eq, Bool.and_eq_true, Bool.and_eq_false_iff, Bool.or_eq_true, Bool.or_eq_false_iff, Bool.not_eq_true', Bool.not_eq_false', ne_eq] at hc9
      refine reg_seq tab (k := 0) (hs := []) (sy := []) (ks := [6]) (bs := []) (gs := [])
          (L' := [(6, .v (.bool true))])
          (H' := []) (G' := []) (k' := 0) hR hI (by kernel_rfl)
          .nil (fun e10 a10 w10 hag hR hI => ?_)
      refine wp_ret ?_
      refine ret_then ?_
      refine outN tab (xs := [.v (.bool true)]) hR hI rfl (by kernel_rfl) ?_
      exact ⟨rfl, hB.fin hR⟩
    · skip
      replace hI := hI.re 54 (.v (.bool false)) rfl (congrArg Value.bool hc9)
      try simp only [decide_eq_true_eq, decide_eq_false_iff_not, beq_iff_eq, bne_iff_ne, beq_eq_false_iff_ne, bne_eq_false_iff_eq, Bool.and_eq_true, Bool.and_eq_false_iff, Bool.or_eq_true, Bool.or_eq_false_iff, Bool.not_eq_true', Bool.not_eq_false', ne_eq] at hc9
      refine wp_skip ?_
      refine then_n ?_
      refine wp_seq ?_
      refine reg_seq tab (k := 0) (hs := []) (sy := []) (ks := [11, 10, 0, 1, 2]) (bs := []) (gs := [])
          (L' := [(11, .v (.int .i64 0)), (10, .v (.bool true)), (0, .v (.bool neg)), (1, .v (.string (str f))), (2, .v (.string (str sc)))])
          (H' := []) (G' := []) (k' := 0) hR hI (by kernel_rfl)
          .nil (fun e11 a11 w11 hag hR hI => ?_)
      refine wp_block ?_
      refine lp (γ := Nat) (fun i => (⟨[(0, .v (.bool neg)), (1, .v (.string (str f))), (2, .v (.string (str sc))), (10, .v (.bool true)), (11, .v (.int .i64 ((i : Nat) : Int)))], [], [], 0⟩ : Sy)) (fun i e => i ≤ (f ++ sc).length ∧ ∀ j, j < i → dig ((f ++ sc).getD j 0)) (fun i => (f ++ sc).length - i) (0) (⟨Nat.zero_le _, fun j h => absurd h (Nat.not_lt_zero _)⟩)
          (hR.sel [] [] (by kernel_rfl) (by kernel_rfl)) (hI.sel [0, 1, 2, 10, 11] (by kernel_rfl)) ?_
      clear hR hI
      rintro i e12 a12 w12 hp hR hI
      dsimp only at hp hR hI
      obtain ⟨hil, hd⟩ := hp
      have hfl0 : (f ++ sc).length = f.length + sc.length := List.length_append
      refine wp_seq ?_
      refine reg_seq tab (k := 0) (hs := [(3, .eq (.string (str (f ++ sc))))]) (sy := []) (ks := [61, 0, 1, 2, 10, 11]) (bs := []) (gs := [])
          (L' := [(61, .v (.bool (decide (((i : Nat) : Int) < (((f ++ sc).length : Nat) : Int))))), (0, .v (.bool neg)), (1, .v (.string (str f))), (2, .v (.string (str sc))), (10, .v (.bool true)), (11, .v (.int .i64 ((i : Nat) : Int)))])
          (H' := []) (G' := []) (k' := 0) hR hI (by kernel_rfl)
          (.cons (congrArg Value.string (str_app _ _ : (str f) ++ (str sc) = str (f ++ sc))) (.cons (by rw [str_size, str_size]; omega : (str f).size + (str sc).size ≤ 9223372036854775807) .nil)) (fun e13 a13 w13 hag hR hI => ?_)
      refine cnd (b := decide (((i : Nat) : Int) < (((f ++ sc).length : Nat) : Int))) hI (by kernel_rfl) (fun hc14 => ?_) (fun hc14 => ?_)
      · skip
        replace hI := hI.re 61 (.v (.bool true)) rfl (congrArg Value.bool hc14)
        try simp only [decide_eq_true_eq, decide_eq_false_iff_not, beq_iff_eq, bne_iff_ne, beq_eq_false_iff_ne, bne_eq_false_iff_eq, Bool.and_eq_true, Bool.and_eq_false_iff, Bool.or_eq_true, Bool.or_eq_false_iff, Bool.not_eq_true', Bool.not_eq_false', ne_eq] at hc14
        have hil2 : i < (f ++ sc).length := by omega
        refine wp_skip ?_
        refine then_n ?_
        refine wp_seq ?_
        refine wp_block ?_
        refine reg_seq tab (k := 0) (hs := [(2, .eq (.string (str (f ++ sc))))]) (sy := []) (ks := [12, 0, 1, 2, 10, 11]) (bs := []) (gs := [])
            (L' := [(12, .v (.int .u8 ((((f ++ sc).getD i 0).toNat : Nat) : Int))), (0, .v (.bool neg)), (1, .v (.string (str f))), (2, .v (.string (str sc))), (10, .v (.bool true)), (11, .v (.int .i64 ((i : Nat) : Int)))])
            (H' := []) (G' := []) (k' := 0) hR hI (by kernel_rfl)
            (.cons (congrArg Value.string (str_app _ _ : (str f) ++ (str sc) = str (f ++ sc))) (.cons (by rw [str_size, str_size]; omega : (str f).size + (str sc).size ≤ 9223372036854775807) (.cons (by rw [List.length_append]; rw [List.length_append] at hil2; omega : (0 : Int) ≤ ((i : Nat) : Int) ∧ ((i : Nat) : Int) < ((f ++ sc).length : Nat)) .nil))) (fun e15 a15 w15 hag hR hI => ?_)
        refine reg_seq tab (k := 0) (hs := [(5, .sym)]) (sy := [3, 4]) (ks := [74, 0, 1, 2, 10, 11]) (bs := []) (gs := [])
            (L' := [(74, .v (.bool ((decide (((((f ++ sc).getD i 0).toNat : Nat) : Int) < (48 : Int))) || (decide (((((f ++ sc).getD i 0).toNat : Nat) : Int) > (57 : Int)))))), (0, .v (.bool neg)), (1, .v (.string (str f))), (2, .v (.string (str sc))), (10, .v (.bool true)), (11, .v (.int .i64 ((i : Nat) : Int)))])
            (H' := []) (G' := []) (k' := 0) hR hI (by kernel_rfl)
            (.cons (rfl : (decide (((((f ++ sc).getD i 0).toNat : Nat) : Int) < (48 : Int))) = (decide (((((f ++ sc).getD i 0).toNat : Nat) : Int) < (48 : Int)))) (.cons (by first | exact Bool.beq_true _ | exact Bool.beq_false _ | rfl | simp_all : ((decide (((((f ++ sc).getD i 0).toNat : Nat) : Int) < (48 : Int))) == false) = !(decide (((((f ++ sc).getD i 0).toNat : Nat) : Int) < (48 : Int)))) .nil)) (fun e16 a16 w16 hag hR hI => ?_)
        refine cnd (b := ((decide (((((f ++ sc).getD i 0).toNat : Nat) : Int) < (48 : Int))) || (decide (((((f ++ sc).getD i 0).toNat : Nat) : Int) > (57 : Int))))) hI (by kernel_rfl) (fun hc17 => ?_) (fun hc17 => ?_)
        · skip
          replace hI := hI.re 74 (.v (.bool true)) rfl (congrArg Value.bool hc17)
          try simp only [decide_eq_true_eq, decide_eq_false_iff_not, beq_iff_eq, bne_iff_ne, beq_eq_false_iff_ne, bne_eq_false_iff_eq, Bool.and_eq_true, Bool.and_eq_false_iff, Bool.or_eq_true, Bool.or_eq_false_iff, Bool.not_eq_true', Bool.not_eq_false', ne_eq] at hc17
          refine reg_seq tab (k := 0) (hs := []) (sy := []) (ks := [6]) (bs := []) (gs := [])
              (L' := [(6, .v (.bool true))])
              (H' := []) (G' := []) (k' := 0) hR hI (by kernel_rfl)
              .nil (fun e18 a18 w18 hag hR hI => ?_)
          refine wp_ret ?_
          refine ret_block ?_
          refine ret_then ?_
          refine ret_then ?_
          refine ret_block ?_
          refine ret_then ?_
          refine outN tab (xs := [.v (.bool true)]) hR hI rfl (by kernel_rfl) ?_
          exact ⟨rfl, hB.fin hR⟩
        · skip
          replace hI := hI.re 74 (.v (.bool false)) rfl (congrArg Value.bool hc17)
          try simp only [decide_eq_true_eq, decide_eq_false_iff_not, beq_iff_eq, bne_iff_ne, beq_eq_false_iff_ne, bne_eq_false_iff_eq, Bool.and_eq_true, Bool.and_eq_false_iff, Bool.or_eq_true, Bool.or_eq_false_iff, Bool.not_eq_true', Bool.not_eq_false', ne_eq] at hc17
          refine wp_skip ?_
          refine normal_block ?_
          refine then_n ?_
          refine reg_all tab (k := 0) (hs := [(1, .nw)]) (sy := []) (ks := [11, 0, 1, 2, 10]) (bs := []) (gs := [])
              (L' := [(11, .v (.int .i64 ((i + 1 : Nat) : Int))), (0, .v (.bool neg)), (1, .v (.string (str f))), (2, .v (.string (str sc))), (10, .v (.bool true))])
              (H' := []) (G' := []) (k' := 0) hR hI (by kernel_rfl)
              (.cons (inR_i64 (n := ((i : Nat) : Int) + (1 : Int)) (by omega)) .nil) (fun e19 a19 w19 hag hR hI => ?_)
          refine then_n ?_
          exact ⟨(i + 1), e19, ⟨by omega, fun j hj => by
                  by_cases hji : j < i
                  · exact hd j hji
                  · obtain rfl : j = i := by omega
                    unfold dig; omega⟩, by (try dsimp only); omega, hR.sel [] [] (by kernel_rfl) (by kernel_rfl), hI.sel [0, 1, 2, 10, 11] (by kernel_rfl)⟩
      · skip
        replace hI := hI.re 61 (.v (.bool false)) rfl (congrArg Value.bool hc14)
        try simp only [decide_eq_true_eq, decide_eq_false_iff_not, beq_iff_eq, bne_iff_ne, beq_eq_false_iff_ne, bne_eq_false_iff_eq, Bool.and_eq_true, Bool.and_eq_false_iff, Bool.or_eq_true, Bool.or_eq_false_iff, Bool.not_eq_true', Bool.not_eq_false', ne_eq] at hc14
        have hfl : (f ++ sc).length = f.length + sc.length := List.length_append
        have hfd : digs f := fun j hj => by have h := hd j (by omega); rwa [getD_appL hj] at h
        have hsd : digs sc := fun j hj => by have h := hd (f.length + j) (by omega); rwa [getD_appR (by omega), Nat.add_sub_cancel_left] at h
        refine wp_exit ?_
        refine exit_then ?_
        refine exit_then ?_
        refine exit_hit ?_
        refine then_n ?_
        refine reg_seq tab (k := 0) (hs := []) (sy := []) (ks := [13, 0, 1, 2, 10]) (bs := []) (gs := [])
            (L' := [(13, .v (.string (str f))), (0, .v (.bool neg)), (1, .v (.string (str f))), (2, .v (.string (str sc))), (10, .v (.bool true))])
            (H' := []) (G' := []) (k' := 0) hR hI (by kernel_rfl)
            .nil (fun e20 a20 w20 hag hR hI => ?_)
        refine wp_seq ?_
        refine reg_seq tab (k := 0) (hs := []) (sy := []) (ks := [77, 13, 1, 2, 10]) (bs := []) (gs := [])
            (L' := [(77, .v (.bool neg)), (13, .v (.string (str f))), (1, .v (.string (str f))), (2, .v (.string (str sc))), (10, .v (.bool true))])
            (H' := []) (G' := []) (k' := 0) hR hI (by kernel_rfl)
            .nil (fun e21 a21 w21 hag hR hI => ?_)
        refine cnd (b := neg) hI (by kernel_rfl) (fun hc22 => ?_) (fun hc22 => ?_)
        · skip
          replace hI := hI.re 77 (.v (.bool true)) rfl (congrArg Value.bool hc22)
          try simp only [decide_eq_true_eq, decide_eq_false_iff_not, beq_iff_eq, bne_iff_ne, beq_eq_false_iff_ne, bne_eq_false_iff_eq, Bool.and_eq_true, Bool.and_eq_false_iff, Bool.or_eq_true, Bool.or_eq_false_iff, Bool.not_eq_true', Bool.not_eq_false', ne_eq] at hc22
          refine reg_all tab (k := 0) (hs := [(1, .eq (.string (str ([45] ++ f))))]) (sy := []) (ks := [13, 1, 2, 10]) (bs := []) (gs := [])
              (L' := [(13, .v (.string (str ([45] ++ f)))), (1, .v (.string (str f))), (2, .v (.string (str sc))), (10, .v (.bool true))])
              (H' := []) (G' := []) (k' := 0) hR hI (by kernel_rfl)
              (.cons (congrArg Value.string (str_app _ _ : (str ([45] : List UInt8)) ++ (str f) = str ([45] ++ f))) (.cons (by rw [str_size, str_size]; simp; omega : (str ([45] : List UInt8)).size + (str f).size ≤ 9223372036854775807) .nil)) (fun e23 a23 w23 hag hR hI => ?_)
          refine then_n ?_
          refine wp_seq ?_
          refine reg_seq tab (k := 0) (hs := []) (sy := []) (ks := [82, 13, 1, 2, 10]) (bs := []) (gs := [])
              (L' := [(82, .v (.bool (decide (((sc.length : Nat) : Int) > (0 : Int))))), (13, .v (.string (str ([45] ++ f)))), (1, .v (.string (str f))), (2, .v (.string (str sc))), (10, .v (.bool true))])
              (H' := []) (G' := []) (k' := 0) hR hI (by kernel_rfl)
              .nil (fun e24 a24 w24 hag hR hI => ?_)
          refine cnd (b := decide (((sc.length : Nat) : Int) > (0 : Int))) hI (by kernel_rfl) (fun hc25 => ?_) (fun hc25 => ?_)
          · skip
            replace hI := hI.re 82 (.v (.bool true)) rfl (congrArg Value.bool hc25)
            try simp only [decide_eq_true_eq, decide_eq_false_iff_not, beq_iff_eq, bne_iff_ne, beq_eq_false_iff_ne, bne_eq_false_iff_eq, Bool.and_eq_true, Bool.and_eq_false_iff, Bool.or_eq_true, Bool.or_eq_false_iff, Bool.not_eq_true', Bool.not_eq_false', ne_eq] at hc25
            have hpt : 0 < sc.length := by omega
            refine reg_all tab (k := 0) (hs := [(2, .eq (.string (str ([46] ++ sc)))), (3, .eq (.string (str ([45] ++ f ++ ([46] ++ sc)))))]) (sy := []) (ks := [13, 1, 2, 10]) (bs := []) (gs := [])
                (L' := [(13, .v (.string (str ([45] ++ f ++ ([46] ++ sc))))), (1, .v (.string (str f))), (2, .v (.string (str sc))), (10, .v (.bool true))])
                (H' := []) (G' := []) (k' := 0) hR hI (by kernel_rfl)
                (.cons (congrArg Value.string (str_app _ _ : (str ([46] : List UInt8)) ++ (str sc) = str ([46] ++ sc))) (.cons (by rw [str_size, str_size]; simp; omega : (str ([46] : List UInt8)).size + (str sc).size ≤ 9223372036854775807) (.cons (congrArg Value.string (str_app _ _ : (str ([45] ++ f)) ++ (str ([46] ++ sc)) = str ([45] ++ f ++ ([46] ++ sc)))) (.cons (by rw [str_size, str_size]; simp; omega : (str ([45] ++ f)).size + (str ([46] ++ sc)).size ≤ 9223372036854775807) .nil)))) (fun e26 a26 w26 hag hR hI => ?_)
            refine then_n ?_
            refine wp_seq ?_
            refine reg (is := [0, 1, 2, 3, 4, 5, 6, 7, 8]) (by kernel_rfl) ?_
            refine part_ tab [0] [1, 2, 3, 4, 5, 6, 7, 8] (by rfl) (k := 0) (hs := []) (sy := []) (ks := [88, 1, 2, 10]) (bs := []) (gs := [])
                (L' := [(88, .v (.string (str ([45] ++ f ++ ([46] ++ sc))))), (1, .v (.string (str f))), (2, .v (.string (str sc))), (10, .v (.bool true))])
                (H' := []) (G' := []) (k' := 0) hR hI (by kernel_rfl)
                .nil (fun e27 a27 w27 hag hR hI => ?_)
            refine callOp (ys := [.v (.string (str ([45] ++ f ++ ([46] ++ sc))))]) hI rfl rfl ⟨_, rfl, rfl, rfl⟩ (by kernel_rfl) Tryd.func4 rfl rfl ?_
            refine (ps_spec (C := C) (neg := true) (a := f) (b := sc) (by rw [tl_p hpt]; simp [sgn]) hfd hsd (by omega) (by omega) (by omega)).mono ?_
            rintro ex w28 ⟨rfl, hk⟩
            replace hR := hR.same hk; clear hk
            refine ⟨_, rfl, ?_⟩
            replace hI := hI.put (d := some 89) (x := .v (.tuple #[.int .i64 ((sc.length + f.length : Nat) : Int), .int .i64 ((sc.length : Nat) : Int), .bool true])) (by intro t ht; cases ht; decide) rfl
            replace hI := hI.sel [89, 88, 1, 2, 10] (by kernel_rfl : sel _ _ = some [(89, .v (.tuple #[.int .i64 ((sc.length + f.length : Nat) : Int), .int .i64 ((sc.length : Nat) : Int), .bool true])), (88, .v (.string (str ([45] ++ f ++ ([46] ++ sc))))), (1, .v (.string (str f))), (2, .v (.string (str sc))), (10, .v (.bool true))])
            refine part_ tab [2, 3, 4, 5, 6, 7, 8] [] (by rfl) (k := 0) (hs := []) (sy := []) (ks := [16, 15, 14, 1, 2, 10]) (bs := []) (gs := [])
                (L' := [(16, .v (.bool true)), (15, .v (.int .i64 ((sc.length : Nat) : Int))), (14, .v (.int .i64 ((sc.length + f.length : Nat) : Int))), (1, .v (.string (str f))), (2, .v (.string (str sc))), (10, .v (.bool true))])
                (H' := []) (G' := []) (k' := 0) hR hI (by kernel_rfl)
                .nil (fun e29 a29 w29 hag hR hI => ?_)
            refine ops_nil ?_
            refine then_n ?_
            refine reg_seq tab (k := 0) (hs := [(7, .nw), (8, .eq (.bool true)), (14, .eq (.bool true))]) (sy := []) (ks := [6]) (bs := []) (gs := [])
                (L' := [(6, .v (.bool true))])
                (H' := []) (G' := []) (k' := 0) hR hI (by kernel_rfl)
                (.cons (inR_i64 (n := ((f.length : Nat) : Int) + ((sc.length : Nat) : Int)) (by omega)) (.cons (congrArg Value.bool (beq_iff_eq.2 (by omega) : (((sc.length + f.length : Nat) : Int) == ((f.length + sc.length : Nat) : Int)) = true)) (.cons (congrArg Value.bool (beq_iff_eq.2 rfl : (((sc.length : Nat) : Int) == ((sc.length : Nat) : Int)) = true)) .nil))) (fun e30 a30 w30 hag hR hI => ?_)
            refine wp_ret ?_
            refine outN tab (xs := [.v (.bool true)]) hR hI rfl (by kernel_rfl) ?_
            exact ⟨rfl, hB.fin hR⟩
          · skip
            replace hI := hI.re 82 (.v (.bool false)) rfl (congrArg Value.bool hc25)
            try simp only [decide_eq_true_eq, decide_eq_false_iff_not, beq_iff_eq, bne_iff_ne, beq_eq_false_iff_ne, bne_eq_false_iff_eq, Bool.and_eq_true, Bool.and_eq_false_iff, Bool.or_eq_true, Bool.or_eq_false_iff, Bool.not_eq_true', Bool.not_eq_false', ne_eq] at hc25
            have hpt : ¬ 0 < sc.length := by omega
            refine wp_skip ?_
            refine then_n ?_
            refine wp_seq ?_
            refine reg (is := [0, 1, 2, 3, 4, 5, 6, 7, 8]) (by kernel_rfl) ?_
            refine part_ tab [0] [1, 2, 3, 4, 5, 6, 7, 8] (by rfl) (k := 0) (hs := []) (sy := []) (ks := [88, 1, 2, 10]) (bs := []) (gs := [])
                (L' := [(88, .v (.string (str ([45] ++ f)))), (1, .v (.string (str f))), (2, .v (.string (str sc))), (10, .v (.bool true))])
                (H' := []) (G' := []) (k' := 0) hR hI (by kernel_rfl)
                .nil (fun e31 a31 w31 hag hR hI => ?_)
            refine callOp (ys := [.v (.string (str ([45] ++ f)))]) hI rfl rfl ⟨_, rfl, rfl, rfl⟩ (by kernel_rfl) Tryd.func4 rfl rfl ?_
            refine (ps_spec (C := C) (neg := true) (a := f) (b := sc) (by rw [tl_n hpt]; simp [sgn]) hfd hsd (by omega) (by omega) (by omega)).mono ?_
            rintro ex w32 ⟨rfl, hk⟩
            replace hR := hR.same hk; clear hk
            refine ⟨_, rfl, ?_⟩
            replace hI := hI.put (d := some 89) (x := .v (.tuple #[.int .i64 ((sc.length + f.length : Nat) : Int), .int .i64 ((sc.length : Nat) : Int), .bool true])) (by intro t ht; cases ht; decide) rfl
            replace hI := hI.sel [89, 88, 1, 2, 10] (by kernel_rfl : sel _ _ = some [(89, .v (.tuple #[.int .i64 ((sc.length + f.length : Nat) : Int), .int .i64 ((sc.length : Nat) : Int), .bool true])), (88, .v (.string (str ([45] ++ f)))), (1, .v (.string (str f))), (2, .v (.string (str sc))), (10, .v (.bool true))])
            refine part_ tab [2, 3, 4, 5, 6, 7, 8] [] (by rfl) (k := 0) (hs := []) (sy := []) (ks := [16, 15, 14, 1, 2, 10]) (bs := []) (gs := [])
                (L' := [(16, .v (.bool true)), (15, .v (.int .i64 ((sc.length : Nat) : Int))), (14, .v (.int .i64 ((sc.length + f.length : Nat) : Int))), (1, .v (.string (str f))), (2, .v (.string (str sc))), (10, .v (.bool true))])
                (H' := []) (G' := []) (k' := 0) hR hI (by kernel_rfl)
                .nil (fun e33 a33 w33 hag hR hI => ?_)
            refine ops_nil ?_
            refine then_n ?_
            refine reg_seq tab (k := 0) (hs := [(7, .nw), (8, .eq (.bool true)), (14, .eq (.bool true))]) (sy := []) (ks := [6]) (bs := []) (gs := [])
                (L' := [(6, .v (.bool true))])
                (H' := []) (G' := []) (k' := 0) hR hI (by kernel_rfl)
                (.cons (inR_i64 (n := ((f.length : Nat) : Int) + ((sc.length : Nat) : Int)) (by omega)) (.cons (congrArg Value.bool (beq_iff_eq.2 (by omega) : (((sc.length + f.length : Nat) : Int) == ((f.length + sc.length : Nat) : Int)) = true)) (.cons (congrArg Value.bool (beq_iff_eq.2 rfl : (((sc.length : Nat) : Int) == ((sc.length : Nat) : Int)) = true)) .nil))) (fun e34 a34 w34 hag hR hI => ?_)
            refine wp_ret ?_
            refine outN tab (xs := [.v (.bool true)]) hR hI rfl (by kernel_rfl) ?_
            exact ⟨rfl, hB.fin hR⟩
        · skip
          replace hI := hI.re 77 (.v (.bool false)) rfl (congrArg Value.bool hc22)
          try simp only [decide_eq_true_eq, decide_eq_false_iff_not, beq_iff_eq, bne_iff_ne, beq_eq_false_iff_ne, bne_eq_false_iff_eq, Bool.and_eq_true, Bool.and_eq_false_iff, Bool.or_eq_true, Bool.or_eq_false_iff, Bool.not_eq_true', Bool.not_eq_false', ne_eq] at hc22
          refine wp_skip ?_
          refine then_n ?_
          refine wp_seq ?_
          refine reg_seq tab (k := 0) (hs := []) (sy := []) (ks := [82, 13, 1, 2, 10]) (bs := []) (gs := [])
              (L' := [(82, .v (.bool (decide (((sc.length : Nat) : Int) > (0 : Int))))), (13, .v (.string (str f))), (1, .v (.string (str f))), (2, .v (.string (str sc))), (10, .v (.bool true))])
              (H' := []) (G' := []) (k' := 0) hR hI (by kernel_rfl)
              .nil (fun e35 a35 w35 hag hR hI => ?_)
          refine cnd (b := decide (((sc.length : Nat) : Int) > (0 : Int))) hI (by kernel_rfl) (fun hc36 => ?_) (fun hc36 => ?_)
          · skip
            replace hI := hI.re 82 (.v (.bool true)) rfl (congrArg Value.bool hc36)
            try simp only [decide_eq_true_eq, decide_eq_false_iff_not, beq_iff_eq, bne_iff_ne, beq_eq_false_iff_ne, bne_eq_false_iff_eq, Bool.and_eq_true, Bool.and_eq_false_iff, Bool.or_eq_true, Bool.or_eq_false_iff, Bool.not_eq_true', Bool.not_eq_false', ne_eq] at hc36
            have hpt : 0 < sc.length := by omega
            refine reg_all tab (k := 0) (hs := [(2, .eq (.string (str ([46] ++ sc)))), (3, .eq (.string (str (f ++ ([46] ++ sc)))))]) (sy := []) (ks := [13, 1, 2, 10]) (bs := []) (gs := [])
                (L' := [(13, .v (.string (str (f ++ ([46] ++ sc))))), (1, .v (.string (str f))), (2, .v (.string (str sc))), (10, .v (.bool true))])
                (H' := []) (G' := []) (k' := 0) hR hI (by kernel_rfl)
                (.cons (congrArg Value.string (str_app _ _ : (str ([46] : List UInt8)) ++ (str sc) = str ([46] ++ sc))) (.cons (by rw [str_size, str_size]; simp; omega : (str ([46] : List UInt8)).size + (str sc).size ≤ 9223372036854775807) (.cons (congrArg Value.string (str_app _ _ : (str f) ++ (str ([46] ++ sc)) = str (f ++ ([46] ++ sc)))) (.cons (by rw [str_size, str_size]; simp; omega : (str f).size + (str ([46] ++ sc)).size ≤ 9223372036854775807) .nil)))) (fun e37 a37 w37 hag hR hI => ?_)
            refine then_n ?_
            refine wp_seq ?_
            refine reg (is := [0, 1, 2, 3, 4, 5, 6, 7, 8]) (by kernel_rfl) ?_
            refine part_ tab [0] [1, 2, 3, 4, 5, 6, 7, 8] (by rfl) (k := 0) (hs := []) (sy := []) (ks := [88, 1, 2, 10]) (bs := []) (gs := [])
                (L' := [(88, .v (.string (str (f ++ ([46] ++ sc))))), (1, .v (.string (str f))), (2, .v (.string (str sc))), (10, .v (.bool true))])
                (H' := []) (G' := []) (k' := 0) hR hI (by kernel_rfl)
                .nil (fun e38 a38 w38 hag hR hI => ?_)
            refine callOp (ys := [.v (.string (str (f ++ ([46] ++ sc))))]) hI rfl rfl ⟨_, rfl, rfl, rfl⟩ (by kernel_rfl) Tryd.func4 rfl rfl ?_
            refine (ps_spec (C := C) (neg := false) (a := f) (b := sc) (by rw [tl_p hpt]; simp [sgn]) hfd hsd (by omega) (by omega) (by omega)).mono ?_
            rintro ex w39 ⟨rfl, hk⟩
            replace hR := hR.same hk; clear hk
            refine ⟨_, rfl, ?_⟩
            replace hI := hI.put (d := some 89) (x := .v (.tuple #[.int .i64 ((sc.length + f.length : Nat) : Int), .int .i64 ((sc.length : Nat) : Int), .bool true])) (by intro t ht; cases ht; decide) rfl
            replace hI := hI.sel [89, 88, 1, 2, 10] (by kernel_rfl : sel _ _ = some [(89, .v (.tuple #[.int .i64 ((sc.length + f.length : Nat) : Int), .int .i64 ((sc.length : Nat) : Int), .bool true])), (88, .v (.string (str (f ++ ([46] ++ sc))))), (1, .v (.string (str f))), (2, .v (.string (str sc))), (10, .v (.bool true))])
            refine part_ tab [2, 3, 4, 5, 6, 7, 8] [] (by rfl) (k := 0) (hs := []) (sy := []) (ks := [16, 15, 14, 1, 2, 10]) (bs := []) (gs := [])
                (L' := [(16, .v (.bool true)), (15, .v (.int .i64 ((sc.length : Nat) : Int))), (14, .v (.int .i64 ((sc.length + f.length : Nat) : Int))), (1, .v (.string (str f))), (2, .v (.string (str sc))), (10, .v (.bool true))])
                (H' := []) (G' := []) (k' := 0) hR hI (by kernel_rfl)
                .nil (fun e40 a40 w40 hag hR hI => ?_)
            refine ops_nil ?_
            refine then_n ?_
            refine reg_seq tab (k := 0) (hs := [(7, .nw), (8, .eq (.bool true)), (14, .eq (.bool true))]) (sy := []) (ks := [6]) (bs := []) (gs := [])
                (L' := [(6, .v (.bool true))])
                (H' := []) (G' := []) (k' := 0) hR hI (by kernel_rfl)
                (.cons (inR_i64 (n := ((f.length : Nat) : Int) + ((sc.length : Nat) : Int)) (by omega)) (.cons (congrArg Value.bool (beq_iff_eq.2 (by omega) : (((sc.length + f.length : Nat) : Int) == ((f.length + sc.length : Nat) : Int)) = true)) (.cons (congrArg Value.bool (beq_iff_eq.2 rfl : (((sc.length : Nat) : Int) == ((sc.length : Nat) : Int)) = true)) .nil))) (fun e41 a41 w41 hag hR hI => ?_)
            refine wp_ret ?_
            refine outN tab (xs := [.v (.bool true)]) hR hI rfl (by kernel_rfl) ?_
            exact ⟨rfl, hB.fin hR⟩
          · skip
            replace hI := hI.re 82 (.v (.bool false)) rfl (congrArg Value.bool hc36)
            try simp only [decide_eq_true_eq, decide_eq_false_iff_not, beq_iff_eq, bne_iff_ne, beq_eq_false_iff_ne, bne_eq_false_iff_eq, Bool.and_eq_true, Bool.and_eq_false_iff, Bool.or_eq_true, Bool.or_eq_false_iff, Bool.not_eq_true', Bool.not_eq_false', ne_eq] at hc36
            have hpt : ¬ 0 < sc.length := by omega
            refine wp_skip ?_
            refine then_n ?_
            refine wp_seq ?_
            refine reg (is := [0, 1, 2, 3, 4, 5, 6, 7, 8]) (by kernel_rfl) ?_
            refine part_ tab [0] [1, 2, 3, 4, 5, 6, 7, 8] (by rfl) (k := 0) (hs := []) (sy := []) (ks := [88, 1, 2, 10]) (bs := []) (gs := [])
                (L' := [(88, .v (.string (str f))), (1, .v (.string (str f))), (2, .v (.string (str sc))), (10, .v (.bool true))])
                (H' := []) (G' := []) (k' := 0) hR hI (by kernel_rfl)
                .nil (fun e42 a42 w42 hag hR hI => ?_)
            refine callOp (ys := [.v (.string (str f))]) hI rfl rfl ⟨_, rfl, rfl, rfl⟩ (by kernel_rfl) Tryd.func4 rfl rfl ?_
            refine (ps_spec (C := C) (neg := false) (a := f) (b := sc) (by rw [tl_n hpt]; simp [sgn]) hfd hsd (by omega) (by omega) (by omega)).mono ?_
            rintro ex w43 ⟨rfl, hk⟩
            replace hR := hR.same hk; clear hk
            refine ⟨_, rfl, ?_⟩
            replace hI := hI.put (d := some 89) (x := .v (.tuple #[.int .i64 ((sc.length + f.length : Nat) : Int), .int .i64 ((sc.length : Nat) : Int), .bool true])) (by intro t ht; cases ht; decide) rfl
            replace hI := hI.sel [89, 88, 1, 2, 10] (by kernel_rfl : sel _ _ = some [(89, .v (.tuple #[.int .i64 ((sc.length + f.length : Nat) : Int), .int .i64 ((sc.length : Nat) : Int), .bool true])), (88, .v (.string (str f))), (1, .v (.string (str f))), (2, .v (.string (str sc))), (10, .v (.bool true))])
            refine part_ tab [2, 3, 4, 5, 6, 7, 8] [] (by rfl) (k := 0) (hs := []) (sy := []) (ks := [16, 15, 14, 1, 2, 10]) (bs := []) (gs := [])
                (L' := [(16, .v (.bool true)), (15, .v (.int .i64 ((sc.length : Nat) : Int))), (14, .v (.int .i64 ((sc.length + f.length : Nat) : Int))), (1, .v (.string (str f))), (2, .v (.string (str sc))), (10, .v (.bool true))])
                (H' := []) (G' := []) (k' := 0) hR hI (by kernel_rfl)
                .nil (fun e44 a44 w44 hag hR hI => ?_)
            refine ops_nil ?_
            refine then_n ?_
            refine reg_seq tab (k := 0) (hs := [(7, .nw), (8, .eq (.bool true)), (14, .eq (.bool true))]) (sy := []) (ks := [6]) (bs := []) (gs := [])
                (L' := [(6, .v (.bool true))])
                (H' := []) (G' := []) (k' := 0) hR hI (by kernel_rfl)
                (.cons (inR_i64 (n := ((f.length : Nat) : Int) + ((sc.length : Nat) : Int)) (by omega)) (.cons (congrArg Value.bool (beq_iff_eq.2 (by omega) : (((sc.length + f.length : Nat) : Int) == ((f.length + sc.length : Nat) : Int)) = true)) (.cons (congrArg Value.bool (beq_iff_eq.2 rfl : (((sc.length : Nat) : Int) == ((sc.length : Nat) : Int)) = true)) .nil))) (fun e45 a45 w45 hag hR hI => ?_)
            refine wp_ret ?_
            refine outN tab (xs := [.v (.bool true)]) hR hI rfl (by kernel_rfl) ?_
            exact ⟨rfl, hB.fin hR⟩

end Go.Proofs.YthmklldgccopcaaDoor.Stride
