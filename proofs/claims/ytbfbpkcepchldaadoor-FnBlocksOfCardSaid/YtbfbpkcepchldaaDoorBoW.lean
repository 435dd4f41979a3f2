/- Walks of the program's functions, printed by a program of mine (walk.py) over the words of Stride: each function's contract. -/
import Derived.Test.YtbfbpkcepchldaaDoorProg
import Derived.Test.YtbfbpkcepchldaaDoorStride
import Derived.Test.YtbfbpkcepchldaaDoorMag
namespace Go.Proofs.YtbfbpkcepchldaaDoor.Stride
open Go Go.RowKit Go.Proofs.YtbfbpkcepchldaaDoor.Mag
set_option linter.unusedVariables false
set_option linter.unusedSimpArgs false
noncomputable abbrev P : Program := Tryd.prog
def T : Tab := [(2, ⟨.int .i64, 1, 8, .int .i64 0⟩),
  (3, ⟨.int .i64, 1, 8, .int .i64 0⟩),
  (4, ⟨.bool, 1, 1, .bool false⟩),
  (5, ⟨.int .u8, 1, 1, .int .u8 0⟩),
  (9, ⟨.string, 1, 16, .string ⟨#[]⟩⟩),
  (22, ⟨.slice 5 1, 1, 24, .slice none 0 0⟩),
  (24, ⟨.slice 4 1, 1, 24, .slice none 0 0⟩),
  (27, ⟨.slice 30 2, 1, 24, .slice none 0 0⟩),
  (30, ⟨.struct [(0, 1, false), (1, 1, false)], 2, 16, .agg #[.int .i64 0, .int .i64 0]⟩),
  (34, ⟨.ptr, 1, 8, .pointer none⟩),
  (38, ⟨.int .i16, 1, 2, .int .i16 0⟩),
  (40, ⟨.struct [(0, 1, false), (1, 1, false)], 2, 4, .agg #[.int .i16 0, .int .i16 0]⟩),
  (41, ⟨.int .i8, 1, 1, .int .i8 0⟩),
  (43, ⟨.struct [(0, 1, false), (1, 1, false), (2, 1, false)], 3, 40, .agg #[.slice none 0 0, .int .i64 0, .int .i8 0]⟩),
  (46, ⟨.int .u64, 1, 8, .int .u64 0⟩),
  (51, ⟨.struct [(0, 1, false), (1, 1, false), (2, 1, false), (3, 1, false)], 4, 32, .agg #[.bool false, .int .i64 0, .int .i64 0, .pointer none]⟩),
  (54, ⟨.int .u64, 1, 8, .int .u64 0⟩),
  (56, ⟨.struct [], 0, 0, .agg #[]⟩),
  (57, ⟨.slice 46 1, 1, 24, .slice none 0 0⟩),
  (61, ⟨.array 8 1 false, 8, 8, .agg #[.int .u8 0, .int .u8 0, .int .u8 0, .int .u8 0, .int .u8 0, .int .u8 0, .int .u8 0, .int .u8 0]⟩)]

set_option maxRecDepth 100000 in
theorem tab : TabOK P T :=
  ⟨⟨(by kernel_rfl : P.underlying 2 = some (.int .i64)), by kernel_rfl, by kernel_rfl, by kernel_rfl⟩, 
  ⟨⟨(by kernel_rfl : P.underlying 3 = some (.int .i64)), by kernel_rfl, by kernel_rfl, by kernel_rfl⟩, 
  ⟨⟨(by kernel_rfl : P.underlying 4 = some .bool), by kernel_rfl, by kernel_rfl, by kernel_rfl⟩, 
  ⟨⟨(by kernel_rfl : P.underlying 5 = some (.int .u8)), by kernel_rfl, by kernel_rfl, by kernel_rfl⟩, 
  ⟨⟨(by kernel_rfl : P.underlying 9 = some .string), by kernel_rfl, by kernel_rfl, by kernel_rfl⟩, 
  ⟨⟨⟨by kernel_rfl, by kernel_rfl⟩, by kernel_rfl, by kernel_rfl, by kernel_rfl⟩, 
  ⟨⟨⟨by kernel_rfl, by kernel_rfl⟩, by kernel_rfl, by kernel_rfl, by kernel_rfl⟩, 
  ⟨⟨⟨by kernel_rfl, by kernel_rfl⟩, by kernel_rfl, by kernel_rfl, by kernel_rfl⟩, 
  ⟨⟨⟨by kernel_rfl, by kernel_rfl⟩, by kernel_rfl, by kernel_rfl, by kernel_rfl⟩, 
  ⟨⟨(by kernel_rfl : (P.underlying 34).map ptrD = some true), by kernel_rfl, by kernel_rfl, by kernel_rfl⟩, 
  ⟨⟨(by kernel_rfl : P.underlying 38 = some (.int .i16)), by kernel_rfl, by kernel_rfl, by kernel_rfl⟩, 
  ⟨⟨⟨by kernel_rfl, by kernel_rfl⟩, by kernel_rfl, by kernel_rfl, by kernel_rfl⟩, 
  ⟨⟨(by kernel_rfl : P.underlying 41 = some (.int .i8)), by kernel_rfl, by kernel_rfl, by kernel_rfl⟩, 
  ⟨⟨⟨by kernel_rfl, by kernel_rfl⟩, by kernel_rfl, by kernel_rfl, by kernel_rfl⟩, 
  ⟨⟨(by kernel_rfl : P.underlying 46 = some (.int .u64)), by kernel_rfl, by kernel_rfl, by kernel_rfl⟩, 
  ⟨⟨⟨by kernel_rfl, by kernel_rfl⟩, by kernel_rfl, by kernel_rfl, by kernel_rfl⟩, 
  ⟨⟨(by kernel_rfl : P.underlying 54 = some (.int .u64)), by kernel_rfl, by kernel_rfl, by kernel_rfl⟩, 
  ⟨⟨⟨by kernel_rfl, by kernel_rfl⟩, by kernel_rfl, by kernel_rfl, by kernel_rfl⟩, 
  ⟨⟨⟨by kernel_rfl, by kernel_rfl⟩, by kernel_rfl, by kernel_rfl, by kernel_rfl⟩, 
  ⟨⟨⟨_, (by kernel_rfl : P.underlying 61 = some (.array 8 5)), by kernel_rfl, by kernel_rfl⟩, by kernel_rfl, by kernel_rfl, by kernel_rfl⟩, trivial⟩⟩⟩⟩⟩⟩⟩⟩⟩⟩⟩⟩⟩⟩⟩⟩⟩⟩⟩⟩

theorem u8_bit (x : Nat) (h : x < 256) : bits .and .u8 (x : Int) (1 : Int) = ((x % 2 : Nat) : Int) := by
  have := bits_mask .u8 8 (by decide) (fun n h0 h1 => by rw [IntKind.wrap_u8]; omega) 1 (by decide) (x : Int) (by omega) (by omega)
  simpa using this
/-- A bit of bytes. -/
def bitN (xs : List Nat) (i : Nat) : Bool := ((xs.getD (i / 8) 0 / 2 ^ (i % 8) % 2 : Nat) : Int) == (1 : Int)

set_option maxHeartbeats 4000000 in
set_option maxRecDepth 100000 in
theorem bit_spec {C : Nat → Prop} {w : World} {ad : Option Addr} {cap i : Nat} {xs : List Nat} (hx : Sl .u8 256 C w ad cap xs) (hi : i < 8 * xs.length) (hs : xs.length ≤ 4096) :
    Calls P 7 #[.slice ad xs.length cap, .int .i64 ((i : Nat) : Int)] w fun ex w' => ex = .returned (.bool (bitN xs i)) ∧ Keep (fun b => b < w.heap.size) w w' := by
  refine doorN (e := e0) (vs := [.v (.slice ad xs.length cap), .v (.int .i64 ((i : Nat) : Int))]) (n := 15) (m := 2) Tryd.func7 rfl rfl rfl (by decide) fun a_ hI => ?_
  replace hI : Is 15 [] e0 [(0, .v (.slice ad xs.length cap)), (1, .v (.int .i64 ((i : Nat) : Int)))] a_ := hI
  have hR : Rel (fun b => b < w.heap.size) w e0 [] [] w := Rel.start (fun k hk => hk)
  have hB : Base C w C (fun b => b < w.heap.size) w := Base.start
  have hrx := hx.room; have hmx := hx.max; have hgx := hx.get (i / 8) (by decide)
  refine reg_seq tab (k := 0) (hs := []) (sy := []) (ks := [0, 1]) (bs := []) (gs := [])
      (L' := [(0, .v (.slice ad xs.length cap)), (1, .v (.int .i64 ((i : Nat) : Int)))])
      (H' := []) (G' := []) (k' := 0) hR hI (by kernel_rfl)
      .nil (fun e1 a1 w1 hag hR hI => ?_)
  refine reg_seq tab (k := 0) (hs := [(2, .nw), (4, .val (.v (.int .u8 ((xs.getD (i / 8) 0 : Nat) : Int)))), (6, .nw), (8, .eq (.int .u8 ((xs.getD (i / 8) 0 / 2 ^ (i % 8) % 2 : Nat) : Int)))]) (sy := []) (ks := [4]) (bs := []) (gs := [])
      (L' := [(4, .v (.bool (((xs.getD (i / 8) 0 / 2 ^ (i % 8) % 2 : Nat) : Int) == (1 : Int))))])
      (H' := []) (G' := []) (k' := 0) hR hI (by kernel_rfl)
      (.cons (by omega : (0 : Int) ≤ ((i : Nat) : Int)) (.cons (by omega : (0 : Int) < (8 : Int)) (.cons (inR_i64 (n := ((i : Nat) : Int) / (8 : Int)) (by omega)) (.cons (by omega : (0 : Int) ≤ ((i / 8 : Nat) : Int) ∧ ((i / 8 : Nat) : Int) < ((xs.length : Nat) : Int)) (.cons (nats_some (i := i / 8) (hx.cells.mono hB.cls) (by omega)) (.cons (nats_load (i := i / 8) (m := 1) (hx.cells.mono hB.cls) (by omega)) (.cons (by omega : (0 : Int) ≤ ((i : Nat) : Int)) (.cons (by omega : (0 : Int) < (8 : Int)) (.cons (by omega : (0 : Int) ≤ ((i % 8 : Nat) : Int)) (.cons (by show _ ≤ (8 : Int); omega : ((i % 8 : Nat) : Int) ≤ (IntKind.u8.bits : Int)) (.cons (congrArg (Value.int .u8) (u8_bit _ (Nat.lt_of_le_of_lt (Nat.div_le_self _ _) hgx) : bits .and .u8 (((xs.getD (i / 8) 0) / 2 ^ (i % 8) : Nat) : Int) (1 : Int) = ((xs.getD (i / 8) 0 / 2 ^ (i % 8) % 2 : Nat) : Int))) .nil))))))))))) (fun e2 a2 w2 hag hR hI => ?_)
  refine wp_ret ?_
  refine outN tab (xs := [.v (.bool (((xs.getD (i / 8) 0 / 2 ^ (i % 8) % 2 : Nat) : Int) == (1 : Int)))]) hR hI rfl (by kernel_rfl) ?_
  exact ⟨rfl, hB.fin hR⟩

theorem within_law {l cap : Nat} {p n : Int} (hm : cap ≤ 9223372036854775807) (hr : l ≤ cap) (h : (((((decide (((l : Nat) : Int) ≤ (4096 : Int))) && (decide (p ≥ (0 : Int)))) && (decide (n ≥ (0 : Int)))) && (decide (p ≤ (IntKind.i64.wrap ((8 : Int) * ((l : Nat) : Int)))))) && (decide (n ≤ (IntKind.i64.wrap ((IntKind.i64.wrap ((8 : Int) * ((l : Nat) : Int))) - p))))) = true) :
    (l : Int) ≤ 4096 ∧ 0 ≤ p ∧ 0 ≤ n ∧ p + n ≤ 8 * (l : Int) := by
  simp only [Bool.and_eq_true, decide_eq_true_eq] at h
  obtain ⟨⟨⟨⟨h1, h2⟩, h3⟩, h4⟩, h5⟩ := h
  have e1 : IntKind.i64.wrap ((8 : Int) * ((l : Nat) : Int)) = 8 * (l : Int) := wrap_inR (inR_i64 (by omega))
  rw [e1] at h4 h5
  have e2 : IntKind.i64.wrap (8 * (l : Int) - p) = 8 * (l : Int) - p := wrap_inR (inR_i64 (by omega))
  rw [e2] at h5
  omega

set_option maxHeartbeats 4000000 in
set_option maxRecDepth 100000 in
theorem within_spec {C : Nat → Prop} {w : World} {ad : Option Addr} {cap : Nat} {xs : List Nat} {p n : Int} (hp : -9223372036854775808 ≤ p ∧ p ≤ 9223372036854775807) (hn : -9223372036854775808 ≤ n ∧ n ≤ 9223372036854775807) (hx : Sl .u8 256 C w ad cap xs) :
    Calls P 4 #[.slice ad xs.length cap, .int .i64 p, .int .i64 n] w fun ex w' => ∃ b : Bool, ex = .returned (.bool b) ∧ Keep (fun b => b < w.heap.size) w w' ∧ (b = true → (xs.length : Int) ≤ 4096 ∧ 0 ≤ p ∧ 0 ≤ n ∧ p + n ≤ 8 * (xs.length : Int)) := by
  refine doorN (e := e0) (vs := [.v (.slice ad xs.length cap), .v (.int .i64 p), .v (.int .i64 n)]) (n := 34) (m := 3) Tryd.func4 rfl rfl rfl (by decide) fun a_ hI => ?_
  replace hI : Is 34 [] e0 [(0, .v (.slice ad xs.length cap)), (1, .v (.int .i64 p)), (2, .v (.int .i64 n))] a_ := hI
  have hR : Rel (fun b => b < w.heap.size) w e0 [] [] w := Rel.start (fun k hk => hk)
  have hB : Base C w C (fun b => b < w.heap.size) w := Base.start
  have hrx := hx.room; have hmx := hx.max
  refine reg_seq tab (k := 0) (hs := []) (sy := []) (ks := [0, 1, 2]) (bs := []) (gs := [])
      (L' := [(0, .v (.slice ad xs.length cap)), (1, .v (.int .i64 p)), (2, .v (.int .i64 n))])
      (H' := []) (G' := []) (k' := 0) hR hI (by kernel_rfl)
      .nil (fun e1 a1 w1 hag hR hI => ?_)
  refine reg_seq tab (k := 0) (hs := [(6, .sym), (10, .sym), (17, .sym), (26, .sym)]) (sy := [4, 5, 8, 9, 12, 13, 14, 15, 16, 19, 20, 21, 22, 23, 24, 25]) (ks := [6]) (bs := []) (gs := [])
      (L' := [(6, .v (.bool (((((decide (((xs.length : Nat) : Int) ≤ (4096 : Int))) && (decide (p ≥ (0 : Int)))) && (decide (n ≥ (0 : Int)))) && (decide (p ≤ (IntKind.i64.wrap ((8 : Int) * ((xs.length : Nat) : Int)))))) && (decide (n ≤ (IntKind.i64.wrap ((IntKind.i64.wrap ((8 : Int) * ((xs.length : Nat) : Int))) - p)))))))])
      (H' := []) (G' := []) (k' := 0) hR hI (by kernel_rfl)
      (.cons (rfl : (decide (((xs.length : Nat) : Int) ≤ (4096 : Int))) = (decide (((xs.length : Nat) : Int) ≤ (4096 : Int)))) (.cons (by first | exact Bool.beq_true _ | exact Bool.beq_false _ | rfl | simp_all : ((decide (((xs.length : Nat) : Int) ≤ (4096 : Int))) == true) = (decide (((xs.length : Nat) : Int) ≤ (4096 : Int)))) (.cons (rfl : ((decide (((xs.length : Nat) : Int) ≤ (4096 : Int))) && (decide (p ≥ (0 : Int)))) = ((decide (((xs.length : Nat) : Int) ≤ (4096 : Int))) && (decide (p ≥ (0 : Int))))) (.cons (by first | exact Bool.beq_true _ | exact Bool.beq_false _ | rfl | simp_all : (((decide (((xs.length : Nat) : Int) ≤ (4096 : Int))) && (decide (p ≥ (0 : Int)))) == true) = ((decide (((xs.length : Nat) : Int) ≤ (4096 : Int))) && (decide (p ≥ (0 : Int))))) (.cons (rfl : (((decide (((xs.length : Nat) : Int) ≤ (4096 : Int))) && (decide (p ≥ (0 : Int)))) && (decide (n ≥ (0 : Int)))) = (((decide (((xs.length : Nat) : Int) ≤ (4096 : Int))) && (decide (p ≥ (0 : Int)))) && (decide (n ≥ (0 : Int))))) (.cons (rfl : (((decide (((xs.length : Nat) : Int) ≤ (4096 : Int))) && (decide (p ≥ (0 : Int)))) && (decide (n ≥ (0 : Int)))) = (((decide (((xs.length : Nat) : Int) ≤ (4096 : Int))) && (decide (p ≥ (0 : Int)))) && (decide (n ≥ (0 : Int))))) (.cons (rfl : (((decide (((xs.length : Nat) : Int) ≤ (4096 : Int))) && (decide (p ≥ (0 : Int)))) && (decide (n ≥ (0 : Int)))) = (((decide (((xs.length : Nat) : Int) ≤ (4096 : Int))) && (decide (p ≥ (0 : Int)))) && (decide (n ≥ (0 : Int))))) (.cons (rfl : (((decide (((xs.length : Nat) : Int) ≤ (4096 : Int))) && (decide (p ≥ (0 : Int)))) && (decide (n ≥ (0 : Int)))) = (((decide (((xs.length : Nat) : Int) ≤ (4096 : Int))) && (decide (p ≥ (0 : Int)))) && (decide (n ≥ (0 : Int))))) (.cons (rfl : (((decide (((xs.length : Nat) : Int) ≤ (4096 : Int))) && (decide (p ≥ (0 : Int)))) && (decide (n ≥ (0 : Int)))) = (((decide (((xs.length : Nat) : Int) ≤ (4096 : Int))) && (decide (p ≥ (0 : Int)))) && (decide (n ≥ (0 : Int))))) (.cons (rfl : (((decide (((xs.length : Nat) : Int) ≤ (4096 : Int))) && (decide (p ≥ (0 : Int)))) && (decide (n ≥ (0 : Int)))) = (((decide (((xs.length : Nat) : Int) ≤ (4096 : Int))) && (decide (p ≥ (0 : Int)))) && (decide (n ≥ (0 : Int))))) (.cons (rfl : (((decide (((xs.length : Nat) : Int) ≤ (4096 : Int))) && (decide (p ≥ (0 : Int)))) && (decide (n ≥ (0 : Int)))) = (((decide (((xs.length : Nat) : Int) ≤ (4096 : Int))) && (decide (p ≥ (0 : Int)))) && (decide (n ≥ (0 : Int))))) (.cons (rfl : (((decide (((xs.length : Nat) : Int) ≤ (4096 : Int))) && (decide (p ≥ (0 : Int)))) && (decide (n ≥ (0 : Int)))) = (((decide (((xs.length : Nat) : Int) ≤ (4096 : Int))) && (decide (p ≥ (0 : Int)))) && (decide (n ≥ (0 : Int))))) (.cons (rfl : (((decide (((xs.length : Nat) : Int) ≤ (4096 : Int))) && (decide (p ≥ (0 : Int)))) && (decide (n ≥ (0 : Int)))) = (((decide (((xs.length : Nat) : Int) ≤ (4096 : Int))) && (decide (p ≥ (0 : Int)))) && (decide (n ≥ (0 : Int))))) (.cons (rfl : (((decide (((xs.length : Nat) : Int) ≤ (4096 : Int))) && (decide (p ≥ (0 : Int)))) && (decide (n ≥ (0 : Int)))) = (((decide (((xs.length : Nat) : Int) ≤ (4096 : Int))) && (decide (p ≥ (0 : Int)))) && (decide (n ≥ (0 : Int))))) (.cons (by first | exact Bool.beq_true _ | exact Bool.beq_false _ | rfl | simp_all : ((((decide (((xs.length : Nat) : Int) ≤ (4096 : Int))) && (decide (p ≥ (0 : Int)))) && (decide (n ≥ (0 : Int)))) == true) = (((decide (((xs.length : Nat) : Int) ≤ (4096 : Int))) && (decide (p ≥ (0 : Int)))) && (decide (n ≥ (0 : Int))))) (.cons (rfl : ((((decide (((xs.length : Nat) : Int) ≤ (4096 : Int))) && (decide (p ≥ (0 : Int)))) && (decide (n ≥ (0 : Int)))) && (decide (p ≤ (IntKind.i64.wrap ((8 : Int) * ((xs.length : Nat) : Int)))))) = ((((decide (((xs.length : Nat) : Int) ≤ (4096 : Int))) && (decide (p ≥ (0 : Int)))) && (decide (n ≥ (0 : Int)))) && (decide (p ≤ (IntKind.i64.wrap ((8 : Int) * ((xs.length : Nat) : Int))))))) (.cons (rfl : ((((decide (((xs.length : Nat) : Int) ≤ (4096 : Int))) && (decide (p ≥ (0 : Int)))) && (decide (n ≥ (0 : Int)))) && (decide (p ≤ (IntKind.i64.wrap ((8 : Int) * ((xs.length : Nat) : Int)))))) = ((((decide (((xs.length : Nat) : Int) ≤ (4096 : Int))) && (decide (p ≥ (0 : Int)))) && (decide (n ≥ (0 : Int)))) && (decide (p ≤ (IntKind.i64.wrap ((8 : Int) * ((xs.length : Nat) : Int))))))) (.cons (rfl : ((((decide (((xs.length : Nat) : Int) ≤ (4096 : Int))) && (decide (p ≥ (0 : Int)))) && (decide (n ≥ (0 : Int)))) && (decide (p ≤ (IntKind.i64.wrap ((8 : Int) * ((xs.length : Nat) : Int)))))) = ((((decide (((xs.length : Nat) : Int) ≤ (4096 : Int))) && (decide (p ≥ (0 : Int)))) && (decide (n ≥ (0 : Int)))) && (decide (p ≤ (IntKind.i64.wrap ((8 : Int) * ((xs.length : Nat) : Int))))))) (.cons (rfl : ((((decide (((xs.length : Nat) : Int) ≤ (4096 : Int))) && (decide (p ≥ (0 : Int)))) && (decide (n ≥ (0 : Int)))) && (decide (p ≤ (IntKind.i64.wrap ((8 : Int) * ((xs.length : Nat) : Int)))))) = ((((decide (((xs.length : Nat) : Int) ≤ (4096 : Int))) && (decide (p ≥ (0 : Int)))) && (decide (n ≥ (0 : Int)))) && (decide (p ≤ (IntKind.i64.wrap ((8 : Int) * ((xs.length : Nat) : Int))))))) (.cons (rfl : ((((decide (((xs.length : Nat) : Int) ≤ (4096 : Int))) && (decide (p ≥ (0 : Int)))) && (decide (n ≥ (0 : Int)))) && (decide (p ≤ (IntKind.i64.wrap ((8 : Int) * ((xs.length : Nat) : Int)))))) = ((((decide (((xs.length : Nat) : Int) ≤ (4096 : Int))) && (decide (p ≥ (0 : Int)))) && (decide (n ≥ (0 : Int)))) && (decide (p ≤ (IntKind.i64.wrap ((8 : Int) * ((xs.length : Nat) : Int))))))) (.cons (rfl : ((((decide (((xs.length : Nat) : Int) ≤ (4096 : Int))) && (decide (p ≥ (0 : Int)))) && (decide (n ≥ (0 : Int)))) && (decide (p ≤ (IntKind.i64.wrap ((8 : Int) * ((xs.length : Nat) : Int)))))) = ((((decide (((xs.length : Nat) : Int) ≤ (4096 : Int))) && (decide (p ≥ (0 : Int)))) && (decide (n ≥ (0 : Int)))) && (decide (p ≤ (IntKind.i64.wrap ((8 : Int) * ((xs.length : Nat) : Int))))))) (.cons (rfl : ((((decide (((xs.length : Nat) : Int) ≤ (4096 : Int))) && (decide (p ≥ (0 : Int)))) && (decide (n ≥ (0 : Int)))) && (decide (p ≤ (IntKind.i64.wrap ((8 : Int) * ((xs.length : Nat) : Int)))))) = ((((decide (((xs.length : Nat) : Int) ≤ (4096 : Int))) && (decide (p ≥ (0 : Int)))) && (decide (n ≥ (0 : Int)))) && (decide (p ≤ (IntKind.i64.wrap ((8 : Int) * ((xs.length : Nat) : Int))))))) (.cons (rfl : ((((decide (((xs.length : Nat) : Int) ≤ (4096 : Int))) && (decide (p ≥ (0 : Int)))) && (decide (n ≥ (0 : Int)))) && (decide (p ≤ (IntKind.i64.wrap ((8 : Int) * ((xs.length : Nat) : Int)))))) = ((((decide (((xs.length : Nat) : Int) ≤ (4096 : Int))) && (decide (p ≥ (0 : Int)))) && (decide (n ≥ (0 : Int)))) && (decide (p ≤ (IntKind.i64.wrap ((8 : Int) * ((xs.length : Nat) : Int))))))) (.cons (rfl : ((((decide (((xs.length : Nat) : Int) ≤ (4096 : Int))) && (decide (p ≥ (0 : Int)))) && (decide (n ≥ (0 : Int)))) && (decide (p ≤ (IntKind.i64.wrap ((8 : Int) * ((xs.length : Nat) : Int)))))) = ((((decide (((xs.length : Nat) : Int) ≤ (4096 : Int))) && (decide (p ≥ (0 : Int)))) && (decide (n ≥ (0 : Int)))) && (decide (p ≤ (IntKind.i64.wrap ((8 : Int) * ((xs.length : Nat) : Int))))))) (.cons (rfl : ((((decide (((xs.length : Nat) : Int) ≤ (4096 : Int))) && (decide (p ≥ (0 : Int)))) && (decide (n ≥ (0 : Int)))) && (decide (p ≤ (IntKind.i64.wrap ((8 : Int) * ((xs.length : Nat) : Int)))))) = ((((decide (((xs.length : Nat) : Int) ≤ (4096 : Int))) && (decide (p ≥ (0 : Int)))) && (decide (n ≥ (0 : Int)))) && (decide (p ≤ (IntKind.i64.wrap ((8 : Int) * ((xs.length : Nat) : Int))))))) (.cons (rfl : ((((decide (((xs.length : Nat) : Int) ≤ (4096 : Int))) && (decide (p ≥ (0 : Int)))) && (decide (n ≥ (0 : Int)))) && (decide (p ≤ (IntKind.i64.wrap ((8 : Int) * ((xs.length : Nat) : Int)))))) = ((((decide (((xs.length : Nat) : Int) ≤ (4096 : Int))) && (decide (p ≥ (0 : Int)))) && (decide (n ≥ (0 : Int)))) && (decide (p ≤ (IntKind.i64.wrap ((8 : Int) * ((xs.length : Nat) : Int))))))) (.cons (rfl : ((((decide (((xs.length : Nat) : Int) ≤ (4096 : Int))) && (decide (p ≥ (0 : Int)))) && (decide (n ≥ (0 : Int)))) && (decide (p ≤ (IntKind.i64.wrap ((8 : Int) * ((xs.length : Nat) : Int)))))) = ((((decide (((xs.length : Nat) : Int) ≤ (4096 : Int))) && (decide (p ≥ (0 : Int)))) && (decide (n ≥ (0 : Int)))) && (decide (p ≤ (IntKind.i64.wrap ((8 : Int) * ((xs.length : Nat) : Int))))))) (.cons (rfl : ((((decide (((xs.length : Nat) : Int) ≤ (4096 : Int))) && (decide (p ≥ (0 : Int)))) && (decide (n ≥ (0 : Int)))) && (decide (p ≤ (IntKind.i64.wrap ((8 : Int) * ((xs.length : Nat) : Int)))))) = ((((decide (((xs.length : Nat) : Int) ≤ (4096 : Int))) && (decide (p ≥ (0 : Int)))) && (decide (n ≥ (0 : Int)))) && (decide (p ≤ (IntKind.i64.wrap ((8 : Int) * ((xs.length : Nat) : Int))))))) (.cons (rfl : ((((decide (((xs.length : Nat) : Int) ≤ (4096 : Int))) && (decide (p ≥ (0 : Int)))) && (decide (n ≥ (0 : Int)))) && (decide (p ≤ (IntKind.i64.wrap ((8 : Int) * ((xs.length : Nat) : Int)))))) = ((((decide (((xs.length : Nat) : Int) ≤ (4096 : Int))) && (decide (p ≥ (0 : Int)))) && (decide (n ≥ (0 : Int)))) && (decide (p ≤ (IntKind.i64.wrap ((8 : Int) * ((xs.length : Nat) : Int))))))) (.cons (rfl : ((((decide (((xs.length : Nat) : Int) ≤ (4096 : Int))) && (decide (p ≥ (0 : Int)))) && (decide (n ≥ (0 : Int)))) && (decide (p ≤ (IntKind.i64.wrap ((8 : Int) * ((xs.length : Nat) : Int)))))) = ((((decide (((xs.length : Nat) : Int) ≤ (4096 : Int))) && (decide (p ≥ (0 : Int)))) && (decide (n ≥ (0 : Int)))) && (decide (p ≤ (IntKind.i64.wrap ((8 : Int) * ((xs.length : Nat) : Int))))))) (.cons (rfl : ((((decide (((xs.length : Nat) : Int) ≤ (4096 : Int))) && (decide (p ≥ (0 : Int)))) && (decide (n ≥ (0 : Int)))) && (decide (p ≤ (IntKind.i64.wrap ((8 : Int) * ((xs.length : Nat) : Int)))))) = ((((decide (((xs.length : Nat) : Int) ≤ (4096 : Int))) && (decide (p ≥ (0 : Int)))) && (decide (n ≥ (0 : Int)))) && (decide (p ≤ (IntKind.i64.wrap ((8 : Int) * ((xs.length : Nat) : Int))))))) (.cons (rfl : ((((decide (((xs.length : Nat) : Int) ≤ (4096 : Int))) && (decide (p ≥ (0 : Int)))) && (decide (n ≥ (0 : Int)))) && (decide (p ≤ (IntKind.i64.wrap ((8 : Int) * ((xs.length : Nat) : Int)))))) = ((((decide (((xs.length : Nat) : Int) ≤ (4096 : Int))) && (decide (p ≥ (0 : Int)))) && (decide (n ≥ (0 : Int)))) && (decide (p ≤ (IntKind.i64.wrap ((8 : Int) * ((xs.length : Nat) : Int))))))) (.cons (rfl : ((((decide (((xs.length : Nat) : Int) ≤ (4096 : Int))) && (decide (p ≥ (0 : Int)))) && (decide (n ≥ (0 : Int)))) && (decide (p ≤ (IntKind.i64.wrap ((8 : Int) * ((xs.length : Nat) : Int)))))) = ((((decide (((xs.length : Nat) : Int) ≤ (4096 : Int))) && (decide (p ≥ (0 : Int)))) && (decide (n ≥ (0 : Int)))) && (decide (p ≤ (IntKind.i64.wrap ((8 : Int) * ((xs.length : Nat) : Int))))))) (.cons (rfl : ((((decide (((xs.length : Nat) : Int) ≤ (4096 : Int))) && (decide (p ≥ (0 : Int)))) && (decide (n ≥ (0 : Int)))) && (decide (p ≤ (IntKind.i64.wrap ((8 : Int) * ((xs.length : Nat) : Int)))))) = ((((decide (((xs.length : Nat) : Int) ≤ (4096 : Int))) && (decide (p ≥ (0 : Int)))) && (decide (n ≥ (0 : Int)))) && (decide (p ≤ (IntKind.i64.wrap ((8 : Int) * ((xs.length : Nat) : Int))))))) (.cons (rfl : ((((decide (((xs.length : Nat) : Int) ≤ (4096 : Int))) && (decide (p ≥ (0 : Int)))) && (decide (n ≥ (0 : Int)))) && (decide (p ≤ (IntKind.i64.wrap ((8 : Int) * ((xs.length : Nat) : Int)))))) = ((((decide (((xs.length : Nat) : Int) ≤ (4096 : Int))) && (decide (p ≥ (0 : Int)))) && (decide (n ≥ (0 : Int)))) && (decide (p ≤ (IntKind.i64.wrap ((8 : Int) * ((xs.length : Nat) : Int))))))) (.cons (rfl : ((((decide (((xs.length : Nat) : Int) ≤ (4096 : Int))) && (decide (p ≥ (0 : Int)))) && (decide (n ≥ (0 : Int)))) && (decide (p ≤ (IntKind.i64.wrap ((8 : Int) * ((xs.length : Nat) : Int)))))) = ((((decide (((xs.length : Nat) : Int) ≤ (4096 : Int))) && (decide (p ≥ (0 : Int)))) && (decide (n ≥ (0 : Int)))) && (decide (p ≤ (IntKind.i64.wrap ((8 : Int) * ((xs.length : Nat) : Int))))))) (.cons (by first | exact Bool.beq_true _ | exact Bool.beq_false _ | rfl | simp_all : (((((decide (((xs.length : Nat) : Int) ≤ (4096 : Int))) && (decide (p ≥ (0 : Int)))) && (decide (n ≥ (0 : Int)))) && (decide (p ≤ (IntKind.i64.wrap ((8 : Int) * ((xs.length : Nat) : Int)))))) == true) = ((((decide (((xs.length : Nat) : Int) ≤ (4096 : Int))) && (decide (p ≥ (0 : Int)))) && (decide (n ≥ (0 : Int)))) && (decide (p ≤ (IntKind.i64.wrap ((8 : Int) * ((xs.length : Nat) : Int))))))) .nil))))))))))))))))))))))))))))))))))))) (fun e2 a2 w2 hag hR hI => ?_)
  refine wp_ret ?_
  refine outN tab (xs := [.v (.bool (((((decide (((xs.length : Nat) : Int) ≤ (4096 : Int))) && (decide (p ≥ (0 : Int)))) && (decide (n ≥ (0 : Int)))) && (decide (p ≤ (IntKind.i64.wrap ((8 : Int) * ((xs.length : Nat) : Int)))))) && (decide (n ≤ (IntKind.i64.wrap ((IntKind.i64.wrap ((8 : Int) * ((xs.length : Nat) : Int))) - p))))))]) hR hI rfl (by kernel_rfl) ?_
  exact ⟨_, rfl, hB.fin hR, within_law hmx hrx⟩

theorem getD_set_next {zs : List Bool} {i : Nat} {f : Nat → Bool} (hi : i < zs.length) (h : ∀ j, j < i → zs.getD j false = f j) : ∀ j, j < i + 1 → (zs.set i (f i)).getD j false = f j := fun j hj => by
  by_cases he : i = j
  · subst he
    simp [List.getD_eq_getElem?_getD, List.getElem?_set, hi]
  · have := h j (by omega)
    rw [List.getD_eq_getElem?_getD] at this ⊢
    rw [List.getElem?_set_ne he]
    exact this

set_option maxHeartbeats 4000000 in
set_option maxRecDepth 100000 in
theorem bitList_spec {C : Nat → Prop} {w : World} {ad : Option Addr} {cap p n : Nat} {xs : List Nat} (hx : Sl .u8 256 C w ad cap xs) (hp : p + n ≤ 8 * xs.length) (hs : xs.length ≤ 4096) :
    Calls P 5 #[.slice ad xs.length cap, .int .i64 ((p : Nat) : Int), .int .i64 ((n : Nat) : Int)] w fun ex w' => ∃ zs zd zc, ex = .returned (.tuple #[.slice zd (List.length zs) zc, .bool true]) ∧ Keep (fun b => b < w.heap.size) w w' ∧ SlB (Grow C w w') w' zd zc zs ∧ zs.length = n ∧ ∀ j, j < n → zs.getD j false = bitN xs (p + j) := by
  refine doorN (e := e0) (vs := [.v (.slice ad xs.length cap), .v (.int .i64 ((p : Nat) : Int)), .v (.int .i64 ((n : Nat) : Int))]) (n := 42) (m := 3) Tryd.func5 rfl rfl rfl (by decide) fun a_ hI => ?_
  replace hI : Is 42 [] e0 [(0, .v (.slice ad xs.length cap)), (1, .v (.int .i64 ((p : Nat) : Int))), (2, .v (.int .i64 ((n : Nat) : Int)))] a_ := hI
  have hR : Rel (fun b => b < w.heap.size) w e0 [] [] w := Rel.start (fun k hk => hk)
  have hB : Base C w C (fun b => b < w.heap.size) w := Base.start
  have hrx := hx.room; have hmx := hx.max
  refine reg_seq tab (k := 0) (hs := []) (sy := []) (ks := [0, 1, 2]) (bs := []) (gs := [])
      (L' := [(0, .v (.slice ad xs.length cap)), (1, .v (.int .i64 ((p : Nat) : Int))), (2, .v (.int .i64 ((n : Nat) : Int)))])
      (H' := []) (G' := []) (k' := 0) hR hI (by kernel_rfl)
      .nil (fun e1 a1 w1 hag hR hI => ?_)
  refine wp_seq ?_
  refine reg_seq tab (k := 0) (hs := [(5, .sym), (10, .nw), (12, .nw), (14, .sym)]) (sy := [3, 4, 7, 8, 9, 10, 11, 12, 13]) (ks := [24, 0, 1, 2]) (bs := []) (gs := [])
      (L' := [(24, .v (.bool (((decide (((p : Nat) : Int) < (0 : Int))) || (decide (((n : Nat) : Int) < (0 : Int)))) || (decide (((p : Nat) : Int) > ((8 * xs.length : Nat) : Int) - ((n : Nat) : Int)))))), (0, .v (.slice ad xs.length cap)), (1, .v (.int .i64 ((p : Nat) : Int))), (2, .v (.int .i64 ((n : Nat) : Int)))])
      (H' := []) (G' := []) (k' := 0) hR hI (by kernel_rfl)
      (.cons (rfl : (decide (((p : Nat) : Int) < (0 : Int))) = (decide (((p : Nat) : Int) < (0 : Int)))) (.cons (by first | exact Bool.beq_true _ | exact Bool.beq_false _ | rfl | simp_all : ((decide (((p : Nat) : Int) < (0 : Int))) == false) = !(decide (((p : Nat) : Int) < (0 : Int)))) (.cons (rfl : ((decide (((p : Nat) : Int) < (0 : Int))) || (decide (((n : Nat) : Int) < (0 : Int)))) = ((decide (((p : Nat) : Int) < (0 : Int))) || (decide (((n : Nat) : Int) < (0 : Int))))) (.cons (rfl : ((decide (((p : Nat) : Int) < (0 : Int))) || (decide (((n : Nat) : Int) < (0 : Int)))) = ((decide (((p : Nat) : Int) < (0 : Int))) || (decide (((n : Nat) : Int) < (0 : Int))))) (.cons (rfl : ((decide (((p : Nat) : Int) < (0 : Int))) || (decide (((n : Nat) : Int) < (0 : Int)))) = ((decide (((p : Nat) : Int) < (0 : Int))) || (decide (((n : Nat) : Int) < (0 : Int))))) (.cons (rfl : ((decide (((p : Nat) : Int) < (0 : Int))) || (decide (((n : Nat) : Int) < (0 : Int)))) = ((decide (((p : Nat) : Int) < (0 : Int))) || (decide (((n : Nat) : Int) < (0 : Int))))) (.cons (rfl : ((decide (((p : Nat) : Int) < (0 : Int))) || (decide (((n : Nat) : Int) < (0 : Int)))) = ((decide (((p : Nat) : Int) < (0 : Int))) || (decide (((n : Nat) : Int) < (0 : Int))))) (.cons (rfl : ((decide (((p : Nat) : Int) < (0 : Int))) || (decide (((n : Nat) : Int) < (0 : Int)))) = ((decide (((p : Nat) : Int) < (0 : Int))) || (decide (((n : Nat) : Int) < (0 : Int))))) (.cons (fun (hg : (((decide (((p : Nat) : Int) < (0 : Int))) || (decide (((n : Nat) : Int) < (0 : Int)))) == false) = true) => (inR_i64 (n := (8 : Int) * ((xs.length : Nat) : Int)) (by skip; omega))) (.cons (rfl : ((decide (((p : Nat) : Int) < (0 : Int))) || (decide (((n : Nat) : Int) < (0 : Int)))) = ((decide (((p : Nat) : Int) < (0 : Int))) || (decide (((n : Nat) : Int) < (0 : Int))))) (.cons (rfl : ((decide (((p : Nat) : Int) < (0 : Int))) || (decide (((n : Nat) : Int) < (0 : Int)))) = ((decide (((p : Nat) : Int) < (0 : Int))) || (decide (((n : Nat) : Int) < (0 : Int))))) (.cons (rfl : ((decide (((p : Nat) : Int) < (0 : Int))) || (decide (((n : Nat) : Int) < (0 : Int)))) = ((decide (((p : Nat) : Int) < (0 : Int))) || (decide (((n : Nat) : Int) < (0 : Int))))) (.cons (rfl : ((decide (((p : Nat) : Int) < (0 : Int))) || (decide (((n : Nat) : Int) < (0 : Int)))) = ((decide (((p : Nat) : Int) < (0 : Int))) || (decide (((n : Nat) : Int) < (0 : Int))))) (.cons (rfl : ((decide (((p : Nat) : Int) < (0 : Int))) || (decide (((n : Nat) : Int) < (0 : Int)))) = ((decide (((p : Nat) : Int) < (0 : Int))) || (decide (((n : Nat) : Int) < (0 : Int))))) (.cons (rfl : ((decide (((p : Nat) : Int) < (0 : Int))) || (decide (((n : Nat) : Int) < (0 : Int)))) = ((decide (((p : Nat) : Int) < (0 : Int))) || (decide (((n : Nat) : Int) < (0 : Int))))) (.cons (rfl : ((decide (((p : Nat) : Int) < (0 : Int))) || (decide (((n : Nat) : Int) < (0 : Int)))) = ((decide (((p : Nat) : Int) < (0 : Int))) || (decide (((n : Nat) : Int) < (0 : Int))))) (.cons (rfl : ((decide (((p : Nat) : Int) < (0 : Int))) || (decide (((n : Nat) : Int) < (0 : Int)))) = ((decide (((p : Nat) : Int) < (0 : Int))) || (decide (((n : Nat) : Int) < (0 : Int))))) (.cons (rfl : ((decide (((p : Nat) : Int) < (0 : Int))) || (decide (((n : Nat) : Int) < (0 : Int)))) = ((decide (((p : Nat) : Int) < (0 : Int))) || (decide (((n : Nat) : Int) < (0 : Int))))) (.cons (fun (hg : (((decide (((p : Nat) : Int) < (0 : Int))) || (decide (((n : Nat) : Int) < (0 : Int)))) == false) = true) => (inR_i64 (n := ((8 * xs.length : Nat) : Int) - ((n : Nat) : Int)) (by skip; omega))) (.cons (rfl : ((decide (((p : Nat) : Int) < (0 : Int))) || (decide (((n : Nat) : Int) < (0 : Int)))) = ((decide (((p : Nat) : Int) < (0 : Int))) || (decide (((n : Nat) : Int) < (0 : Int))))) (.cons (rfl : ((decide (((p : Nat) : Int) < (0 : Int))) || (decide (((n : Nat) : Int) < (0 : Int)))) = ((decide (((p : Nat) : Int) < (0 : Int))) || (decide (((n : Nat) : Int) < (0 : Int))))) (.cons (rfl : ((decide (((p : Nat) : Int) < (0 : Int))) || (decide (((n : Nat) : Int) < (0 : Int)))) = ((decide (((p : Nat) : Int) < (0 : Int))) || (decide (((n : Nat) : Int) < (0 : Int))))) (.cons (rfl : ((decide (((p : Nat) : Int) < (0 : Int))) || (decide (((n : Nat) : Int) < (0 : Int)))) = ((decide (((p : Nat) : Int) < (0 : Int))) || (decide (((n : Nat) : Int) < (0 : Int))))) (.cons (rfl : ((decide (((p : Nat) : Int) < (0 : Int))) || (decide (((n : Nat) : Int) < (0 : Int)))) = ((decide (((p : Nat) : Int) < (0 : Int))) || (decide (((n : Nat) : Int) < (0 : Int))))) (.cons (rfl : ((decide (((p : Nat) : Int) < (0 : Int))) || (decide (((n : Nat) : Int) < (0 : Int)))) = ((decide (((p : Nat) : Int) < (0 : Int))) || (decide (((n : Nat) : Int) < (0 : Int))))) (.cons (by first | exact Bool.beq_true _ | exact Bool.beq_false _ | rfl | simp_all : (((decide (((p : Nat) : Int) < (0 : Int))) || (decide (((n : Nat) : Int) < (0 : Int)))) == false) = !((decide (((p : Nat) : Int) < (0 : Int))) || (decide (((n : Nat) : Int) < (0 : Int))))) .nil)))))))))))))))))))))))))) (fun e2 a2 w2 hag hR hI => ?_)
  refine cnd (b := (((decide (((p : Nat) : Int) < (0 : Int))) || (decide (((n : Nat) : Int) < (0 : Int)))) || (decide (((p : Nat) : Int) > ((8 * xs.length : Nat) : Int) - ((n : Nat) : Int))))) hI (by kernel_rfl) (fun hc3 => ?_) (fun hc3 => ?_)
  · skip
    replace hI := hI.re 24 (.v (.bool true)) rfl (congrArg Value.bool hc3)
    try simp only [decide_eq_true_eq, decide_eq_false_iff_not, beq_iff_eq, bne_iff_ne, beq_eq_false_iff_ne, bne_eq_false_iff_eq, Bool.and_eq_true, Bool.and_eq_false_iff, Bool.or_eq_true, Bool.or_eq_false_iff, Bool.not_eq_true', Bool.not_eq_false', ne_eq] at hc3
    omega
  · skip
    replace hI := hI.re 24 (.v (.bool false)) rfl (congrArg Value.bool hc3)
    try simp only [decide_eq_true_eq, decide_eq_false_iff_not, beq_iff_eq, bne_iff_ne, beq_eq_false_iff_ne, bne_eq_false_iff_eq, Bool.and_eq_true, Bool.and_eq_false_iff, Bool.or_eq_true, Bool.or_eq_false_iff, Bool.not_eq_true', Bool.not_eq_false', ne_eq] at hc3
    refine wp_skip ?_
    refine then_n ?_
    refine reg_seq tab (k := 0) (hs := []) (sy := []) (ks := [8, 0, 1]) (bs := []) (gs := [0])
        (L' := [(8, .row 0), (0, .v (.slice ad xs.length cap)), (1, .v (.int .i64 ((p : Nat) : Int)))])
        (H' := []) (G' := [⟨0, 4, 1, n, (List.replicate n (.bool false))⟩]) (k' := 1) hR hI (by kernel_rfl)
        (.cons (by omega : (0 : Int) ≤ ((n : Nat) : Int) ∧ ((n : Nat) : Int) ≤ ((n : Nat) : Int)) (.cons (by omega : ((1 : Nat) : Int) * ((n : Nat) : Int) ≤ 281474976710656) (.cons (by have hm_ : maxLen = 9223372036854775807 := rfl; rw [hm_]; omega : n ≤ maxLen) .nil))) (fun e4 a4 w4 hag hR hI => ?_)
    have er_ : List.replicate n (Value.bool false) = bools (List.replicate n false) := bools_replicate n false
    rw [er_] at hR
    have hren_ : Sy.ren [(0, 0)] ⟨[(8, .row 0), (0, .v (.slice ad xs.length cap)), (1, .v (.int .i64 ((p : Nat) : Int)))], [], [⟨0, 4, 1, n, (bools (List.replicate n false))⟩], 0⟩ = ⟨[(8, .row 0), (0, .v (.slice ad xs.length cap)), (1, .v (.int .i64 ((p : Nat) : Int)))], [], [⟨0, 4, 1, n, (bools (List.replicate n false))⟩], 0⟩ := by kernel_rfl
    replace hI := hI.rename (S := ⟨[(8, .row 0), (0, .v (.slice ad xs.length cap)), (1, .v (.int .i64 ((p : Nat) : Int)))], [], [⟨0, 4, 1, n, (bools (List.replicate n false))⟩], 0⟩) (S' := ⟨[(8, .row 0), (0, .v (.slice ad xs.length cap)), (1, .v (.int .i64 ((p : Nat) : Int)))], [], [⟨0, 4, 1, n, (bools (List.replicate n false))⟩], 0⟩) hren_; replace hR := hR.rename (S := ⟨[(8, .row 0), (0, .v (.slice ad xs.length cap)), (1, .v (.int .i64 ((p : Nat) : Int)))], [], [⟨0, 4, 1, n, (bools (List.replicate n false))⟩], 0⟩) (S' := ⟨[(8, .row 0), (0, .v (.slice ad xs.length cap)), (1, .v (.int .i64 ((p : Nat) : Int)))], [], [⟨0, 4, 1, n, (bools (List.replicate n false))⟩], 0⟩) hren_ (by kernel_rfl) (by kernel_rfl); dsimp only at hI hR; clear hren_
    refine wp_seq ?_
    refine reg_seq tab (k := 1) (hs := []) (sy := []) (ks := [29, 28, 8, 0, 1]) (bs := []) (gs := [0])
        (L' := [(29, .v (.int .i64 0)), (28, .v (.int .i64 ((n : Nat) : Int))), (8, .row 0), (0, .v (.slice ad xs.length cap)), (1, .v (.int .i64 ((p : Nat) : Int)))])
        (H' := []) (G' := [⟨0, 4, 1, n, (bools (List.replicate n false))⟩]) (k' := 1) hR hI (by kernel_rfl)
        .nil (fun e5 a5 w5 hag hR hI => ?_)
    refine wp_block ?_
    refine lp (γ := Nat × List Bool) (fun (i, zs) => (⟨[(0, .v (.slice ad xs.length cap)), (1, .v (.int .i64 ((p : Nat) : Int))), (8, .row 0), (28, .v (.int .i64 ((n : Nat) : Int))), (29, .v (.int .i64 ((i : Nat) : Int)))], [], [⟨0, 4, 1, n, (bools zs)⟩], 1⟩ : Sy)) (fun (i, zs) e => zs.length = n ∧ i ≤ n ∧ ∀ j, j < i → zs.getD j false = bitN xs (p + j)) (fun (i, zs) => n - i) (0, List.replicate n false) (⟨List.length_replicate .., Nat.zero_le _, fun j h => absurd h (Nat.not_lt_zero _)⟩)
        (hR.sel [] [0] (by kernel_rfl) (by kernel_rfl)) (hI.sel [0, 1, 8, 28, 29] (by kernel_rfl)) ?_
    clear hR hI
    rintro ⟨i, zs⟩ e6 a6 w6 hp hR hI
    dsimp only at hp hR hI
    obtain ⟨hzl, hi, hz⟩ := hp
    refine reg_seq tab (k := 1) (hs := []) (sy := []) (ks := [30, 0, 1, 8, 28, 29]) (bs := []) (gs := [0])
        (L' := [(30, .v (.bool (decide (((i : Nat) : Int) < ((n : Nat) : Int))))), (0, .v (.slice ad xs.length cap)), (1, .v (.int .i64 ((p : Nat) : Int))), (8, .row 0), (28, .v (.int .i64 ((n : Nat) : Int))), (29, .v (.int .i64 ((i : Nat) : Int)))])
        (H' := []) (G' := [⟨0, 4, 1, n, (bools zs)⟩]) (k' := 1) hR hI (by kernel_rfl)
        .nil (fun e7 a7 w7 hag hR hI => ?_)
    refine wp_seq ?_
    refine cnd (b := decide (((i : Nat) : Int) < ((n : Nat) : Int))) hI (by kernel_rfl) (fun hc8 => ?_) (fun hc8 => ?_)
    · skip
      replace hI := hI.re 30 (.v (.bool true)) rfl (congrArg Value.bool hc8)
      try simp only [decide_eq_true_eq, decide_eq_false_iff_not, beq_iff_eq, bne_iff_ne, beq_eq_false_iff_ne, bne_eq_false_iff_eq, Bool.and_eq_true, Bool.and_eq_false_iff, Bool.or_eq_true, Bool.or_eq_false_iff, Bool.not_eq_true', Bool.not_eq_false', ne_eq] at hc8
      refine wp_skip ?_
      refine then_n ?_
      refine wp_seq ?_
      refine wp_block ?_
      refine reg_seq tab (k := 1) (hs := []) (sy := []) (ks := [9, 0, 1, 8, 28, 29]) (bs := []) (gs := [0])
          (L' := [(9, .v (.int .i64 ((i : Nat) : Int))), (0, .v (.slice ad xs.length cap)), (1, .v (.int .i64 ((p : Nat) : Int))), (8, .row 0), (28, .v (.int .i64 ((n : Nat) : Int))), (29, .v (.int .i64 ((i : Nat) : Int)))])
          (H' := []) (G' := [⟨0, 4, 1, n, (bools zs)⟩]) (k' := 1) hR hI (by kernel_rfl)
          .nil (fun e9 a9 w9 hag hR hI => ?_)
      refine reg (is := [0, 1, 2, 3, 4, 5, 6, 7, 8]) (by kernel_rfl) ?_
      refine part_ tab [0, 1, 2, 3, 4, 5] [6, 7, 8] (by rfl) (k := 1) (hs := [(5, .nw)]) (sy := []) (ks := [37, 34, 33, 32, 0, 1, 8, 28, 29]) (bs := []) (gs := [0])
          (L' := [(37, .v (.int .i64 ((p + i : Nat) : Int))), (34, .v (.slice ad xs.length cap)), (33, .v (.int .i64 ((i : Nat) : Int))), (32, .row 0), (0, .v (.slice ad xs.length cap)), (1, .v (.int .i64 ((p : Nat) : Int))), (8, .row 0), (28, .v (.int .i64 ((n : Nat) : Int))), (29, .v (.int .i64 ((i : Nat) : Int)))])
          (H' := []) (G' := [⟨0, 4, 1, n, (bools zs)⟩]) (k' := 1) hR hI (by kernel_rfl)
          (.cons (inR_i64 (n := ((p : Nat) : Int) + ((i : Nat) : Int)) (by omega)) .nil) (fun e10 a10 w10 hag hR hI => ?_)
      refine callOp (ys := [.v (.slice ad xs.length cap), .v (.int .i64 ((p + i : Nat) : Int))]) hI rfl rfl ⟨_, rfl, rfl, rfl⟩ (by kernel_rfl) Tryd.func7 rfl rfl ?_
      refine (bit_spec (hx.now hB hR) (by omega) hs).mono ?_
      rintro ex w11 ⟨rfl, hk⟩
      replace hR := hR.same hk; clear hk
      refine ⟨_, rfl, ?_⟩
      replace hI := hI.put (d := some 38) (x := .v (.bool (bitN xs (p + i)))) (by intro t ht; cases ht; decide) rfl
      replace hI := hI.sel [38, 37, 34, 33, 32, 0, 1, 8, 28, 29] (by kernel_rfl : sel _ _ = some [(38, .v (.bool (bitN xs (p + i)))), (37, .v (.int .i64 ((p + i : Nat) : Int))), (34, .v (.slice ad xs.length cap)), (33, .v (.int .i64 ((i : Nat) : Int))), (32, .row 0), (0, .v (.slice ad xs.length cap)), (1, .v (.int .i64 ((p : Nat) : Int))), (8, .row 0), (28, .v (.int .i64 ((n : Nat) : Int))), (29, .v (.int .i64 ((i : Nat) : Int)))])
      refine part_ tab [7, 8] [] (by rfl) (k := 1) (hs := []) (sy := []) (ks := [0, 1, 8, 28, 29]) (bs := []) (gs := [0])
          (L' := [(0, .v (.slice ad xs.length cap)), (1, .v (.int .i64 ((p : Nat) : Int))), (8, .row 0), (28, .v (.int .i64 ((n : Nat) : Int))), (29, .v (.int .i64 ((i : Nat) : Int)))])
          (H' := []) (G' := [⟨0, 4, 1, n, ((bools zs).set i (.bool (bitN xs (p + i))))⟩]) (k' := 1) hR hI (by kernel_rfl)
          (.cons (by omega : (0 : Int) ≤ ((i : Nat) : Int) ∧ ((i : Nat) : Int) < ((n : Nat) : Int)) (.cons (by omega : i < n * 1) .nil)) (fun e12 a12 w12 hag hR hI => ?_)
      refine ops_nil ?_
      refine normal_block ?_
      refine then_n ?_
      refine reg_all tab (k := 1) (hs := [(0, .nw)]) (sy := []) (ks := [29, 0, 1, 8, 28]) (bs := []) (gs := [0])
          (L' := [(29, .v (.int .i64 ((i + 1 : Nat) : Int))), (0, .v (.slice ad xs.length cap)), (1, .v (.int .i64 ((p : Nat) : Int))), (8, .row 0), (28, .v (.int .i64 ((n : Nat) : Int)))])
          (H' := []) (G' := [⟨0, 4, 1, n, ((bools zs).set i (.bool (bitN xs (p + i))))⟩]) (k' := 1) hR hI (by kernel_rfl)
          (.cons (inR_i64 (n := ((i : Nat) : Int) + (1 : Int)) (by omega)) .nil) (fun e13 a13 w13 hag hR hI => ?_)
      refine then_n ?_
      rw [bools_set] at hR
      exact ⟨(i + 1, zs.set i (bitN xs (p + i))), e13, ⟨by rw [List.length_set]; exact hzl, by omega, getD_set_next (by omega) hz⟩, by (try dsimp only); omega, hR.sel [] [0] (by kernel_rfl) (by kernel_rfl), hI.sel [0, 1, 8, 28, 29] (by kernel_rfl)⟩
    · skip
      replace hI := hI.re 30 (.v (.bool false)) rfl (congrArg Value.bool hc8)
      try simp only [decide_eq_true_eq, decide_eq_false_iff_not, beq_iff_eq, bne_iff_ne, beq_eq_false_iff_ne, bne_eq_false_iff_eq, Bool.and_eq_true, Bool.and_eq_false_iff, Bool.or_eq_true, Bool.or_eq_false_iff, Bool.not_eq_true', Bool.not_eq_false', ne_eq] at hc8
      refine wp_exit ?_
      refine exit_then ?_
      refine exit_then ?_
      refine exit_hit ?_
      refine then_n ?_
      refine reg_seq tab (k := 1) (hs := []) (sy := []) (ks := [7, 6]) (bs := []) (gs := [0])
          (L' := [(7, .v (.bool true)), (6, .row 0)])
          (H' := []) (G' := [⟨0, 4, 1, n, (bools zs)⟩]) (k' := 1) hR hI (by kernel_rfl)
          .nil (fun e14 a14 w14 hag hR hI => ?_)
      refine wp_ret ?_
      obtain ⟨hB_, hR_, hrel_, zd, zc, hv_, hcells_, hlen_, hcap_, hmax_⟩ := hB.release hR (y := ⟨0, 4, 1, n, (bools zs)⟩) (by simp) rfl _ dropN_mem
      replace hx := hx.rel hrel_
      have hz0 : SlB _ _ zd zc zs := ⟨hcells_, (by dsimp only at hlen_ hcap_; rw [bools_length] at hlen_; omega), hmax_⟩
      replace hI := hI.re 6 (.v (.slice zd n zc)) rfl hv_
      replace hB := hB_; replace hR := hR_.sel [] [] (by kernel_rfl : selH _ _ = some []) (by kernel_rfl : selG _ _ = some []); clear hB_ hR_ hrel_ hcells_ hv_
      replace hI := hI.re 6 (.v (.slice zd zs.length zc)) rfl (by simp only [den]; rw [hzl])
      refine outN tab (xs := [.v (.slice zd zs.length zc), .v (.bool true)]) hR hI rfl (by kernel_rfl) ?_
      exact ⟨zs, zd, zc, rfl, hB.fin hR, hz0.fin hB hR, hzl, fun j hj => hz j (by omega)⟩

theorem u64_or (a b : Nat) (ha : a < 18446744073709551616) (hb : b < 18446744073709551616) : bits .or .u64 (a : Int) (b : Int) = ((a ||| b : Nat) : Int) :=
  (bits_nat .u64 64 (by decide) (fun n h0 h1 => by rw [wrap_u64]; omega) a b ha hb).2
theorem or64 {a b : Nat} (ha : a < 18446744073709551616) (hb : b < 18446744073709551616) : a ||| b < 18446744073709551616 := Nat.or_lt_two_pow (n := 64) ha hb
theorem u8_or (a b : Nat) (ha : a < 256) (hb : b < 256) : bits .or .u8 (a : Int) (b : Int) = ((a ||| b : Nat) : Int) :=
  (bits_nat .u8 8 (by decide) (fun n h0 h1 => by rw [IntKind.wrap_u8]; omega) a b ha hb).2
theorem or8 {a b : Nat} (ha : a < 256) (hb : b < 256) : a ||| b < 256 := Nat.or_lt_two_pow (n := 8) ha hb
theorem u64_bit (x : Nat) (h : x < 18446744073709551616) : bits .and .u64 (x : Int) (1 : Int) = ((x % 2 : Nat) : Int) := by
  have := bits_mask .u64 64 (by decide) (fun n h0 h1 => by rw [wrap_u64]; omega) 1 (by decide) (x : Int) (by omega) (by omega)
  simpa using this
theorem shl64 (a n : Nat) : IntKind.u64.wrap ((a : Int) * 2 ^ n) = ((a * 2 ^ n % 18446744073709551616 : Nat) : Int) := by
  rw [← wrap_u64_nat]; push_cast; rfl
theorem shl8 (a n : Nat) : IntKind.u8.wrap ((a : Int) * 2 ^ n) = ((a * 2 ^ n % 256 : Nat) : Int) := by
  rw [← wrap_u8_nat]; push_cast; rfl
theorem bitT (v i : Nat) : (((v / 2 ^ i % 2 : Nat) : Int) == (1 : Int)) = v.testBit i := by
  rw [Nat.testBit_eq_decide_div_mod_eq]
  rcases Nat.mod_two_eq_zero_or_one (v / 2 ^ i) with h | h <;> rw [h] <;> rfl
theorem bitN_T (xs : List Nat) (i : Nat) : bitN xs i = (xs.getD (i / 8) 0).testBit (i % 8) := bitT _ _
/-- Eight bytes as a word, the lowest first. -/
def le64 (ys : List Nat) : Nat := ys.getD 0 0 ||| ys.getD 1 0 * 256 ||| ys.getD 2 0 * 65536 ||| ys.getD 3 0 * 16777216 ||| ys.getD 4 0 * 4294967296 ||| ys.getD 5 0 * 1099511627776 ||| ys.getD 6 0 * 281474976710656 ||| ys.getD 7 0 * 72057594037927936
theorem byte_hi {x : Nat} (h : x < 256) {i : Nat} (hi : 8 ≤ i) : x.testBit i = false := Nat.testBit_lt_two_pow (Nat.lt_of_lt_of_le h (by have : 2 ^ 8 ≤ 2 ^ i := Nat.pow_le_pow_right (by decide) hi; simpa using this))
theorem le64_bit {ys : List Nat} (h : ∀ i, ys.getD i 0 < 256) {k : Nat} (hk : k < 64) : (le64 ys).testBit k = bitN ys k := by
  rw [bitN_T]
  have e : ∀ x : Nat, (x * 256).testBit k = (decide (8 ≤ k) && x.testBit (k - 8)) ∧ (x * 65536).testBit k = (decide (16 ≤ k) && x.testBit (k - 16)) ∧ (x * 16777216).testBit k = (decide (24 ≤ k) && x.testBit (k - 24)) ∧
      (x * 4294967296).testBit k = (decide (32 ≤ k) && x.testBit (k - 32)) ∧ (x * 1099511627776).testBit k = (decide (40 ≤ k) && x.testBit (k - 40)) ∧ (x * 281474976710656).testBit k = (decide (48 ≤ k) && x.testBit (k - 48)) ∧ (x * 72057594037927936).testBit k = (decide (56 ≤ k) && x.testBit (k - 56)) := fun x =>
    ⟨Nat.testBit_mul_two_pow x k 8, Nat.testBit_mul_two_pow x k 16, Nat.testBit_mul_two_pow x k 24, Nat.testBit_mul_two_pow x k 32, Nat.testBit_mul_two_pow x k 40, Nat.testBit_mul_two_pow x k 48, Nat.testBit_mul_two_pow x k 56⟩
  unfold le64
  simp only [Nat.testBit_or]
  rw [(e _).1, (e _).2.1, (e _).2.2.1, (e _).2.2.2.1, (e _).2.2.2.2.1, (e _).2.2.2.2.2.1, (e _).2.2.2.2.2.2]
  have hq : k = 8 * (k / 8) + k % 8 := by omega
  have hr : k % 8 < 8 := Nat.mod_lt _ (by decide)
  have hk8 : k / 8 < 8 := by omega
  generalize k / 8 = q at hq hk8 ⊢
  generalize k % 8 = r at hq hr ⊢
  subst hq
  have z : ∀ (j m : Nat), 8 ≤ m → (ys.getD j 0).testBit m = false := fun j m hm => byte_hi (h j) hm
  have cases8 : q = 0 ∨ q = 1 ∨ q = 2 ∨ q = 3 ∨ q = 4 ∨ q = 5 ∨ q = 6 ∨ q = 7 := by omega
  have d : ∀ (p : Prop) [Decidable p], ¬ p → decide p = false := fun p _ h => decide_eq_false h
  have t : ∀ (p : Prop) [Decidable p], p → decide p = true := fun p _ h => decide_eq_true h
  have s : ∀ m, 8 * m + r - 8 * m = r := fun m => by omega
  rcases cases8 with rfl | rfl | rfl | rfl | rfl | rfl | rfl | rfl
  · rw [d (8 ≤ _) (by omega), d (16 ≤ _) (by omega), d (24 ≤ _) (by omega), d (32 ≤ _) (by omega), d (40 ≤ _) (by omega), d (48 ≤ _) (by omega), d (56 ≤ _) (by omega)]; simp
  · rw [z 0 _ (by omega), t (8 ≤ _) (by omega), d (16 ≤ _) (by omega), d (24 ≤ _) (by omega), d (32 ≤ _) (by omega), d (40 ≤ _) (by omega), d (48 ≤ _) (by omega), d (56 ≤ _) (by omega)]; simp
  · rw [z 0 _ (by omega), z 1 _ (by omega), t (16 ≤ _) (by omega), d (24 ≤ _) (by omega), d (32 ≤ _) (by omega), d (40 ≤ _) (by omega), d (48 ≤ _) (by omega), d (56 ≤ _) (by omega)]; simp
  · rw [z 0 _ (by omega), z 1 _ (by omega), z 2 _ (by omega), t (24 ≤ _) (by omega), d (32 ≤ _) (by omega), d (40 ≤ _) (by omega), d (48 ≤ _) (by omega), d (56 ≤ _) (by omega)]; simp
  · rw [z 0 _ (by omega), z 1 _ (by omega), z 2 _ (by omega), z 3 _ (by omega), t (32 ≤ _) (by omega), d (40 ≤ _) (by omega), d (48 ≤ _) (by omega), d (56 ≤ _) (by omega)]; simp
  · rw [z 0 _ (by omega), z 1 _ (by omega), z 2 _ (by omega), z 3 _ (by omega), z 4 _ (by omega), t (40 ≤ _) (by omega), d (48 ≤ _) (by omega), d (56 ≤ _) (by omega)]; simp
  · rw [z 0 _ (by omega), z 1 _ (by omega), z 2 _ (by omega), z 3 _ (by omega), z 4 _ (by omega), z 5 _ (by omega), t (48 ≤ _) (by omega), d (56 ≤ _) (by omega)]; simp
  · rw [z 0 _ (by omega), z 1 _ (by omega), z 2 _ (by omega), z 3 _ (by omega), z 4 _ (by omega), z 5 _ (by omega), z 6 _ (by omega), t (56 ≤ _) (by omega)]; simp
theorem le64_lt {ys : List Nat} (h : ∀ i, ys.getD i 0 < 256) : le64 ys < 18446744073709551616 := by
  have h0 := h 0; have h1 := h 1; have h2 := h 2; have h3 := h 3; have h4 := h 4; have h5 := h 5; have h6 := h 6; have h7 := h 7
  exact or64 (or64 (or64 (or64 (or64 (or64 (or64 (by omega) (by omega)) (by omega)) (by omega)) (by omega)) (by omega)) (by omega)) (by omega)
theorem le64_low {ys : List Nat} (h : ∀ i, ys.getD i 0 < 256) : le64 ys % 256 = ys.getD 0 0 := by
  refine Nat.eq_of_testBit_eq fun i => ?_
  rw [show (256 : Nat) = 2 ^ 8 from rfl, Nat.testBit_mod_two_pow]
  by_cases hi : i < 8
  · rw [decide_eq_true hi, Bool.true_and, le64_bit h (by omega), bitN_T, show i / 8 = 0 by omega, show i % 8 = i by omega]
  · rw [decide_eq_false hi, Bool.false_and, byte_hi (h 0) (by omega)]
theorem getD_drop0 (ys : List Nat) (m i : Nat) : (ys.drop m).getD i 0 = ys.getD (m + i) 0 := by simp [List.getD_eq_getElem?_getD, List.getElem?_drop]
theorem getD_take0 {ys : List Nat} {m i : Nat} (h : i < m) : (ys.take m).getD i 0 = ys.getD i 0 := by simp [List.getD_eq_getElem?_getD, List.getElem?_take, h]
theorem bitN_drop (ys : List Nat) (m k : Nat) : bitN (ys.drop m) k = bitN ys (8 * m + k) := by
  rw [bitN_T, bitN_T, getD_drop0, show (8 * m + k) / 8 = m + k / 8 by omega, show (8 * m + k) % 8 = k % 8 by omega]
theorem bitN_take {ys : List Nat} {m k : Nat} (h : k < 8 * m) : bitN (ys.take m) k = bitN ys k := by
  rw [bitN_T, bitN_T, getD_take0 (by omega)]
theorem word_bits {ys : List Nat} (h : ∀ i, ys.getD i 0 < 256) {o k : Nat} (ho : 0 < o) (ho8 : o < 8) (hk : k < 64) :
    (le64 ys / 2 ^ o ||| le64 (ys.drop 8) * 2 ^ (64 - o) % 18446744073709551616).testBit k = bitN ys (o + k) := by
  have h' : ∀ i, (ys.drop 8).getD i 0 < 256 := fun i => by rw [getD_drop0]; exact h _
  rw [Nat.testBit_or, Nat.testBit_div_two_pow, show (18446744073709551616 : Nat) = 2 ^ 64 from rfl, Nat.testBit_mod_two_pow, Nat.testBit_mul_two_pow, decide_eq_true hk, Bool.true_and]
  by_cases hc : k + o < 64
  · rw [le64_bit h hc, decide_eq_false (by omega), Bool.false_and, Bool.or_false, Nat.add_comm]
  · rw [decide_eq_true (by omega), Bool.true_and, le64_bit h' (by omega), bitN_drop, Nat.testBit_lt_two_pow (x := le64 ys) (Nat.lt_of_lt_of_le (le64_lt h) (by have : 2 ^ 64 ≤ 2 ^ (k + o) := Nat.pow_le_pow_right (by decide) (by omega); simpa using this)), Bool.false_or]
    congr 1; omega
theorem byte_bits {c x y o k : Nat} {ys : List Nat} (hc : c = ys.getD 0 0) (hy : y = ys.getD 1 0) (hcb : c < 256) (hyb : y < 256) (ho8 : o < 8) (hk : k < 8) (hx : x = c / 2 ^ o ||| y * 2 ^ (8 - o) % 256) : x.testBit k = bitN ys (o + k) := by
  subst hx
  rw [Nat.testBit_or, Nat.testBit_div_two_pow, show (256 : Nat) = 2 ^ 8 from rfl, Nat.testBit_mod_two_pow, Nat.testBit_mul_two_pow, decide_eq_true hk, Bool.true_and, bitN_T]
  by_cases hc8 : k + o < 8
  · rw [decide_eq_false (by omega), Bool.false_and, Bool.or_false, show (o + k) / 8 = 0 by omega, show (o + k) % 8 = k + o by omega, hc]
  · rw [byte_hi hcb (by omega), decide_eq_true (by omega), Bool.true_and, Bool.false_or, show (o + k) / 8 = 1 by omega, show (o + k) % 8 = k - (8 - o) by omega, hy]
theorem div_le_self' {a n b : Nat} (h : a < b) : a / 2 ^ n < b := Nat.lt_of_le_of_lt (Nat.div_le_self _ _) h
theorem u64_clear (c : Nat) (hc : c < 18446744073709551616) : ∃ m : Nat, bits .andNot .u64 (c : Int) (255 : Int) = ((m : Nat) : Int) ∧ m % 256 = 0 ∧ m < 18446744073709551616 := by
  refine ⟨c &&& 18446744073709551360, ?_, ?_, Nat.lt_of_le_of_lt Nat.and_le_left hc⟩
  · have h1 : bits .andNot .u64 (c : Int) (255 : Int) = bits .and .u64 (c : Int) ((18446744073709551360 : Nat) : Int) := by
      simp only [bits]
      congr 2
    rw [h1]
    exact (bits_nat .u64 64 (by decide) (fun n h0 h1 => by rw [wrap_u64]; omega) c _ hc (by decide)).1
  · refine Nat.eq_of_testBit_eq fun i => ?_
    rw [show (256 : Nat) = 2 ^ 8 from rfl, Nat.testBit_mod_two_pow, Nat.testBit_and, Nat.zero_testBit]
    by_cases hi : i < 8
    · have : Nat.testBit 18446744073709551360 i = false := by
        have h2 : ∀ j : Fin 8, Nat.testBit 18446744073709551360 j.val = false := by decide
        exact h2 ⟨i, hi⟩
      rw [this]; simp
    · rw [decide_eq_false hi]; rfl
theorem or_low {m v : Nat} (hm : m % 256 = 0) (hv : v < 256) : (m ||| v) % 256 = v := by
  refine Nat.eq_of_testBit_eq fun i => ?_
  rw [show (256 : Nat) = 2 ^ 8 from rfl, Nat.testBit_mod_two_pow, Nat.testBit_or]
  by_cases hi : i < 8
  · have h0 : (m % 256).testBit i = false := by rw [hm]; simp
    rw [show (256 : Nat) = 2 ^ 8 from rfl, Nat.testBit_mod_two_pow, decide_eq_true hi, Bool.true_and] at h0
    rw [decide_eq_true hi, h0]; simp
  · rw [decide_eq_false hi, byte_hi hv (by omega)]; rfl
theorem sh64 {x m : Nat} (h : x < 256) (hm : 256 * m ≤ 18446744073709551616) (h0 : 0 < m) : x * m < 18446744073709551616 := Nat.lt_of_lt_of_le (Nat.mul_lt_mul_of_pos_right h h0) hm
theorem Sl.pos {k : IntKind} {B : Nat} {C : Nat → Prop} {w : World} {ad : Option Addr} {cap : Nat} {xs : List Nat} (h : Sl k B C w ad cap xs) (hne : 0 < xs.length) : 0 < w.heap.size := by
  obtain ⟨p, _, _, h3⟩ := h.cells 0 _ (ints_get hne)
  have := World.block_lt_of_cell? w _ h3
  omega
theorem Sl.growX {k : IntKind} {B : Nat} {C : Nat → Prop} {w w' : World} {b : Nat} {ad : Option Addr} {cap : Nat} {xs : List Nat} (h : Sl k B C w ad cap xs) (hk : Keep (fun b => b < w.heap.size) w w') (hb : w.heap.size ≤ b) : Sl k B (GrowX C w w' b) w' ad cap xs := by
  refine ⟨fun i v hi => ?_, h.dig, h.room, h.max⟩
  obtain ⟨p, e1, e2, e3⟩ := h.cells i v hi
  have h3 := World.block_lt_of_cell? w _ e3
  rw [add_block] at h3
  have hs := hk.size
  exact ⟨p, e1, ⟨by omega, by omega, .inl e2⟩, by rw [hk.cell (by rw [add_block]; exact h3)]; exact e3⟩
theorem last_step {v v' o i : Nat} {b : Bool} {ys : List Nat} (hb : b = bitN ys (o + i)) (hi : i < 8) (hv' : v' = if b then v / 2 ||| 128 else v / 2) (hvb : v < 256) (h : ∀ j, j < 8 → v.testBit j = (decide (8 - i ≤ j) && bitN ys (o + (j + i - 8)))) :
    ∀ j, j < 8 → v'.testBit j = (decide (8 - (i + 1) ≤ j) && bitN ys (o + (j + (i + 1) - 8))) := fun j hj => by
  have h0 : (v / 2).testBit j = (decide (8 - (i + 1) ≤ j ∧ j < 7) && bitN ys (o + (j + (i + 1) - 8))) := by
    rw [Nat.testBit_div_two]
    by_cases hj7 : j = 7
    · rw [byte_hi hvb (by omega), decide_eq_false (by omega), Bool.false_and]
    · rw [h (j + 1) (by omega), show j + 1 + i = j + (i + 1) by omega]
      congr 1
      simp only [decide_eq_decide]; omega
  have h1 : Nat.testBit 128 j = decide (j = 7) := by
    have h2 : ∀ j : Fin 8, Nat.testBit 128 j.val = decide (j.val = 7) := by decide
    exact h2 ⟨j, hj⟩
  subst hv'
  by_cases hj7 : j = 7
  · subst hj7
    rw [decide_eq_false (by omega), Bool.false_and] at h0
    rw [decide_eq_true (by omega), Bool.true_and, show o + (7 + (i + 1) - 8) = o + i by omega, ← hb]
    cases b
    · simpa using h0
    · simp only [if_true]; rw [Nat.testBit_or, h0, h1]; rfl
  · have h4 : decide (8 - (i + 1) ≤ j ∧ j < 7) = decide (8 - (i + 1) ≤ j) := by simp only [decide_eq_decide]; omega
    rw [h4] at h0
    cases b
    · simpa using h0
    · simp only [if_true]; rw [Nat.testBit_or, h0, h1, decide_eq_false hj7, Bool.or_false]
theorem last_done {v o t : Nat} {ys : List Nat} (ht : t ≤ 8) (h : ∀ j, j < 8 → v.testBit j = (decide (8 - t ≤ j) && bitN ys (o + (j + t - 8)))) : ∀ j, j < t → (v / 2 ^ (8 - t)).testBit j = bitN ys (o + j) := fun j hj => by
  rw [Nat.testBit_div_two_pow, h _ (by omega), decide_eq_true (by omega), Bool.true_and]
  congr 2; omega
theorem u8_or128' (v : Nat) (hv : v < 256) : bits .or .u8 ((v / 2 : Nat) : Int) (128 : Int) = ((v / 2 ||| 128 : Nat) : Int) := u8_or (v / 2) 128 (by omega) (by decide)


end Go.Proofs.YtbfbpkcepchldaaDoor.Stride
