/- Walks of the program's functions, printed by a program of mine (walk.py) over the words of Stride: each function's contract. -/
import Derived.Test.YtmendapdibnbdaaGreatDoorDdD
import Derived.Test.YtmendapdibnbdaaGreatDoorNag
import Derived.LaidEqlPtr
namespace Go.Proofs.YtmendapdibnbdaaGreatDoor.Stride
open Go Go.RowKit Go.Proofs.YtmendapdibnbdaaGreatDoor.Mag
set_option linter.unusedVariables false
set_option linter.unusedSimpArgs false
set_option maxHeartbeats 4000000
set_option maxRecDepth 100000
theorem len64_spec {C : Nat → Prop} {w : World} {x : Nat} (hx : x < 18446744073709551616) :
    Calls P 121 #[.int .u64 (x : Int)] w fun ex w' => ex = .returned (.int .i64 ((lent x : Nat) : Int)) ∧ KS w w' := by
 refine dN (C := C) [vU x] 25 1 Tryz.func121 fun a_ hI hR hB => ?_
 replace hI : Is 25 [] e0 [(0, vU x)] a_ := hI
 refine rZ tab 0 [(2, .v (.int .i64 0))] [0] hR hI fun e1 a1 w1 hag hR hI => ?_
 refine wp_seq ?_
 refine rZ tab 0 [(4, vB (decide ((x : Int) ≥ (4294967296 : Int))))] [2, 0] hR hI fun e2 a2 w2 hag hR hI => ?_
 refine cnd (b := decide ((x : Int) ≥ (4294967296 : Int))) hI (by kernel_rfl) (fun hc3 => ?_) (fun hc3 => ?_)
 ·
  replace hI := hI.rb 4 hc3
  try simp only [tolds] at hc3
  have hd32 : lent x = 32 + lent (x / 4294967296) := lent_div (k := 32) (by omega)
  refine rK tab 0 [] [] [(0, vU (x / 4294967296))] [] [] [] [] [] 0 hR hI (.cons (by decide : (0 : Int) ≤ 32) (.cons (by decide : (32 : Int) ≤ (IntKind.u64.bits : Int)) .nil)) fun e4 a4 w4 hag hR hI => ?_
  refine aZ tab 0 [(2, .v (.int .i64 32))] [0] hR hI fun e5 a5 w5 hag hR hI => ?_
  refine then_n ?_
  refine wp_seq ?_
  refine rZ tab 0 [(8, vB (decide (((x / 4294967296 : Nat) : Int) ≥ (65536 : Int))))] [2, 0] hR hI fun e6 a6 w6 hag hR hI => ?_
  refine cnd (b := decide (((x / 4294967296 : Nat) : Int) ≥ (65536 : Int))) hI (by kernel_rfl) (fun hc7 => ?_) (fun hc7 => ?_)
  ·
   replace hI := hI.rb 8 hc7
   try simp only [tolds] at hc7
   have hd16 : lent (x / 4294967296) = 16 + lent ((x / 4294967296) / 65536) := lent_div (k := 16) (by omega)
   refine rK tab 0 [] [] [(0, vU ((x / 4294967296) / 65536))] [2] [] [] [] [] 0 hR hI (.cons (by decide : (0 : Int) ≤ 16) (.cons (by decide : (16 : Int) ≤ (IntKind.u64.bits : Int)) .nil)) fun e8 a8 w8 hag hR hI => ?_
   refine aK tab 0 [(1, .nw)] [] [(2, .v (.int .i64 ((32 : Int) + (16 : Int))))] [0] [] [] [] [] 0 hR hI (.cons (inR_i64 (n := (32 : Int) + (16 : Int)) (by omega)) .nil) fun e9 a9 w9 hag hR hI => ?_
   refine then_n ?_
   refine wp_seq ?_
   refine rZ tab 0 [(14, vB (decide ((((x / 4294967296) / 65536 : Nat) : Int) ≥ (256 : Int))))] [2, 0] hR hI fun e10 a10 w10 hag hR hI => ?_
   refine cnd (b := decide ((((x / 4294967296) / 65536 : Nat) : Int) ≥ (256 : Int))) hI (by kernel_rfl) (fun hc11 => ?_) (fun hc11 => ?_)
   ·
    replace hI := hI.rb 14 hc11
    try simp only [tolds] at hc11
    have hd8 : lent ((x / 4294967296) / 65536) = 8 + lent (((x / 4294967296) / 65536) / 256) := lent_div (k := 8) (by omega)
    refine rK tab 0 [] [] [(0, vU (((x / 4294967296) / 65536) / 256))] [2] [] [] [] [] 0 hR hI (.cons (by decide : (0 : Int) ≤ 8) (.cons (by decide : (8 : Int) ≤ (IntKind.u64.bits : Int)) .nil)) fun e12 a12 w12 hag hR hI => ?_
    refine aK tab 0 [(1, .nw)] [] [(2, .v (.int .i64 (((32 : Int) + (16 : Int)) + (8 : Int))))] [0] [] [] [] [] 0 hR hI (.cons (inR_i64 (n := ((32 : Int) + (16 : Int)) + (8 : Int)) (by omega)) .nil) fun e13 a13 w13 hag hR hI => ?_
    refine then_n ?_
    have hlb := lent_lt (x := ((x / 4294967296) / 65536) / 256) (n := 8) (by omega); have hl8 : len8.length = 256 := by decide
    refine rK tab 0 [(2, .nw), (3, .eq (.int .u8 ((lent (((x / 4294967296) / 65536) / 256) : Nat) : Int))), (4, .nw), (5, .nw)] [] [(2, .v (.int .i64 ((((32 : Int) + (16 : Int)) + (8 : Int)) + ((lent (((x / 4294967296) / 65536) / 256) : Nat) : Int))))] [] [] [] [] [] 0 hR hI (.cons (inR_u8 (n := ((((x / 4294967296) / 65536) / 256 : Nat) : Int)) (by omega)) (.cons (congrArg (Value.int .u8) (len8_int (x := ((x / 4294967296) / 65536) / 256) (by omega) : ((len8.getD (((x / 4294967296) / 65536) / 256) 0).toNat : Int) = ((lent (((x / 4294967296) / 65536) / 256) : Nat) : Int))) (.cons (by omega : (0 : Int) ≤ ((((x / 4294967296) / 65536) / 256 : Nat) : Int) ∧ ((((x / 4294967296) / 65536) / 256 : Nat) : Int) < (len8.length : Nat)) (.cons (inR_i64 (n := ((lent (((x / 4294967296) / 65536) / 256) : Nat) : Int)) (by omega)) (.cons (inR_i64 (n := (((32 : Int) + (16 : Int)) + (8 : Int)) + ((lent (((x / 4294967296) / 65536) / 256) : Nat) : Int)) (by omega)) .nil))))) fun e14 a14 w14 hag hR hI => ?_
    refine wp_ret (oN tab [.v (.int .i64 ((((32 : Int) + (16 : Int)) + (8 : Int)) + ((lent (((x / 4294967296) / 65536) / 256) : Nat) : Int)))] hR hI ?_)
    have hl_ : ((((32 : Int) + (16 : Int)) + (8 : Int)) + ((lent (((x / 4294967296) / 65536) / 256) : Nat) : Int) : Int) = ((lent x : Nat) : Int) := by first | omega | simp_all
    exact ⟨congrArg (fun z_ => Ending.returned (.int .i64 z_)) hl_, hB.fin hR⟩
   ·
    replace hI := hI.rb 14 hc11
    try simp only [tolds] at hc11
    refine wp_skip ?_
    refine then_n ?_
    have hlb := lent_lt (x := (x / 4294967296) / 65536) (n := 8) (by omega); have hl8 : len8.length = 256 := by decide
    refine rK tab 0 [(2, .nw), (3, .eq (.int .u8 ((lent ((x / 4294967296) / 65536) : Nat) : Int))), (4, .nw), (5, .nw)] [] [(2, .v (.int .i64 (((32 : Int) + (16 : Int)) + ((lent ((x / 4294967296) / 65536) : Nat) : Int))))] [] [] [] [] [] 0 hR hI (.cons (inR_u8 (n := (((x / 4294967296) / 65536 : Nat) : Int)) (by omega)) (.cons (congrArg (Value.int .u8) (len8_int (x := (x / 4294967296) / 65536) (by omega) : ((len8.getD ((x / 4294967296) / 65536) 0).toNat : Int) = ((lent ((x / 4294967296) / 65536) : Nat) : Int))) (.cons (by omega : (0 : Int) ≤ (((x / 4294967296) / 65536 : Nat) : Int) ∧ (((x / 4294967296) / 65536 : Nat) : Int) < (len8.length : Nat)) (.cons (inR_i64 (n := ((lent ((x / 4294967296) / 65536) : Nat) : Int)) (by omega)) (.cons (inR_i64 (n := ((32 : Int) + (16 : Int)) + ((lent ((x / 4294967296) / 65536) : Nat) : Int)) (by omega)) .nil))))) fun e15 a15 w15 hag hR hI => ?_
    refine wp_ret (oN tab [.v (.int .i64 (((32 : Int) + (16 : Int)) + ((lent ((x / 4294967296) / 65536) : Nat) : Int)))] hR hI ?_)
    have hl_ : (((32 : Int) + (16 : Int)) + ((lent ((x / 4294967296) / 65536) : Nat) : Int) : Int) = ((lent x : Nat) : Int) := by first | omega | simp_all
    exact ⟨congrArg (fun z_ => Ending.returned (.int .i64 z_)) hl_, hB.fin hR⟩
  ·
   replace hI := hI.rb 8 hc7
   try simp only [tolds] at hc7
   refine wp_skip ?_
   refine then_n ?_
   refine wp_seq ?_
   refine rZ tab 0 [(14, vB (decide (((x / 4294967296 : Nat) : Int) ≥ (256 : Int))))] [2, 0] hR hI fun e16 a16 w16 hag hR hI => ?_
   refine cnd (b := decide (((x / 4294967296 : Nat) : Int) ≥ (256 : Int))) hI (by kernel_rfl) (fun hc17 => ?_) (fun hc17 => ?_)
   ·
    replace hI := hI.rb 14 hc17
    try simp only [tolds] at hc17
    have hd8 : lent (x / 4294967296) = 8 + lent ((x / 4294967296) / 256) := lent_div (k := 8) (by omega)
    refine rK tab 0 [] [] [(0, vU ((x / 4294967296) / 256))] [2] [] [] [] [] 0 hR hI (.cons (by decide : (0 : Int) ≤ 8) (.cons (by decide : (8 : Int) ≤ (IntKind.u64.bits : Int)) .nil)) fun e18 a18 w18 hag hR hI => ?_
    refine aK tab 0 [(1, .nw)] [] [(2, .v (.int .i64 ((32 : Int) + (8 : Int))))] [0] [] [] [] [] 0 hR hI (.cons (inR_i64 (n := (32 : Int) + (8 : Int)) (by omega)) .nil) fun e19 a19 w19 hag hR hI => ?_
    refine then_n ?_
    have hlb := lent_lt (x := (x / 4294967296) / 256) (n := 8) (by omega); have hl8 : len8.length = 256 := by decide
    refine rK tab 0 [(2, .nw), (3, .eq (.int .u8 ((lent ((x / 4294967296) / 256) : Nat) : Int))), (4, .nw), (5, .nw)] [] [(2, .v (.int .i64 (((32 : Int) + (8 : Int)) + ((lent ((x / 4294967296) / 256) : Nat) : Int))))] [] [] [] [] [] 0 hR hI (.cons (inR_u8 (n := (((x / 4294967296) / 256 : Nat) : Int)) (by omega)) (.cons (congrArg (Value.int .u8) (len8_int (x := (x / 4294967296) / 256) (by omega) : ((len8.getD ((x / 4294967296) / 256) 0).toNat : Int) = ((lent ((x / 4294967296) / 256) : Nat) : Int))) (.cons (by omega : (0 : Int) ≤ (((x / 4294967296) / 256 : Nat) : Int) ∧ (((x / 4294967296) / 256 : Nat) : Int) < (len8.length : Nat)) (.cons (inR_i64 (n := ((lent ((x / 4294967296) / 256) : Nat) : Int)) (by omega)) (.cons (inR_i64 (n := ((32 : Int) + (8 : Int)) + ((lent ((x / 4294967296) / 256) : Nat) : Int)) (by omega)) .nil))))) fun e20 a20 w20 hag hR hI => ?_
    refine wp_ret (oN tab [.v (.int .i64 (((32 : Int) + (8 : Int)) + ((lent ((x / 4294967296) / 256) : Nat) : Int)))] hR hI ?_)
    have hl_ : (((32 : Int) + (8 : Int)) + ((lent ((x / 4294967296) / 256) : Nat) : Int) : Int) = ((lent x : Nat) : Int) := by first | omega | simp_all
    exact ⟨congrArg (fun z_ => Ending.returned (.int .i64 z_)) hl_, hB.fin hR⟩
   ·
    replace hI := hI.rb 14 hc17
    try simp only [tolds] at hc17
    refine wp_skip ?_
    refine then_n ?_
    have hlb := lent_lt (x := x / 4294967296) (n := 8) (by omega); have hl8 : len8.length = 256 := by decide
    refine rK tab 0 [(2, .nw), (3, .eq (.int .u8 ((lent (x / 4294967296) : Nat) : Int))), (4, .nw), (5, .nw)] [] [(2, vI (32 + (lent (x / 4294967296))))] [] [] [] [] [] 0 hR hI (.cons (inR_u8 (n := ((x / 4294967296 : Nat) : Int)) (by omega)) (.cons (congrArg (Value.int .u8) (len8_int (x := x / 4294967296) (by omega) : ((len8.getD (x / 4294967296) 0).toNat : Int) = ((lent (x / 4294967296) : Nat) : Int))) (.cons (by omega : (0 : Int) ≤ ((x / 4294967296 : Nat) : Int) ∧ ((x / 4294967296 : Nat) : Int) < (len8.length : Nat)) (.cons (inR_i64 (n := ((lent (x / 4294967296) : Nat) : Int)) (by omega)) (.cons (inR_i64 (n := (32 : Int) + ((lent (x / 4294967296) : Nat) : Int)) (by omega)) .nil))))) fun e21 a21 w21 hag hR hI => ?_
    refine wp_ret (oN tab [vI (32 + (lent (x / 4294967296)))] hR hI ?_)
    have hl_ : (((32 + (lent (x / 4294967296)) : Nat) : Int) : Int) = ((lent x : Nat) : Int) := by first | omega | simp_all
    exact ⟨congrArg (fun z_ => Ending.returned (.int .i64 z_)) hl_, hB.fin hR⟩
 ·
  replace hI := hI.rb 4 hc3
  try simp only [tolds] at hc3
  refine wp_skip ?_
  refine then_n ?_
  refine wp_seq ?_
  refine rZ tab 0 [(8, vB (decide ((x : Int) ≥ (65536 : Int))))] [2, 0] hR hI fun e22 a22 w22 hag hR hI => ?_
  refine cnd (b := decide ((x : Int) ≥ (65536 : Int))) hI (by kernel_rfl) (fun hc23 => ?_) (fun hc23 => ?_)
  ·
   replace hI := hI.rb 8 hc23
   try simp only [tolds] at hc23
   have hd16 : lent x = 16 + lent (x / 65536) := lent_div (k := 16) (by omega)
   refine rK tab 0 [] [] [(0, vU (x / 65536))] [2] [] [] [] [] 0 hR hI (.cons (by decide : (0 : Int) ≤ 16) (.cons (by decide : (16 : Int) ≤ (IntKind.u64.bits : Int)) .nil)) fun e24 a24 w24 hag hR hI => ?_
   refine aK tab 0 [(1, .nw)] [] [(2, .v (.int .i64 ((0 : Int) + (16 : Int))))] [0] [] [] [] [] 0 hR hI (.cons (inR_i64 (n := (0 : Int) + (16 : Int)) (by omega)) .nil) fun e25 a25 w25 hag hR hI => ?_
   refine then_n ?_
   refine wp_seq ?_
   refine rZ tab 0 [(14, vB (decide (((x / 65536 : Nat) : Int) ≥ (256 : Int))))] [2, 0] hR hI fun e26 a26 w26 hag hR hI => ?_
   refine cnd (b := decide (((x / 65536 : Nat) : Int) ≥ (256 : Int))) hI (by kernel_rfl) (fun hc27 => ?_) (fun hc27 => ?_)
   ·
    replace hI := hI.rb 14 hc27
    try simp only [tolds] at hc27
    have hd8 : lent (x / 65536) = 8 + lent ((x / 65536) / 256) := lent_div (k := 8) (by omega)
    refine rK tab 0 [] [] [(0, vU ((x / 65536) / 256))] [2] [] [] [] [] 0 hR hI (.cons (by decide : (0 : Int) ≤ 8) (.cons (by decide : (8 : Int) ≤ (IntKind.u64.bits : Int)) .nil)) fun e28 a28 w28 hag hR hI => ?_
    refine aK tab 0 [(1, .nw)] [] [(2, .v (.int .i64 (((0 : Int) + (16 : Int)) + (8 : Int))))] [0] [] [] [] [] 0 hR hI (.cons (inR_i64 (n := ((0 : Int) + (16 : Int)) + (8 : Int)) (by omega)) .nil) fun e29 a29 w29 hag hR hI => ?_
    refine then_n ?_
    have hlb := lent_lt (x := (x / 65536) / 256) (n := 8) (by omega); have hl8 : len8.length = 256 := by decide
    refine rK tab 0 [(2, .nw), (3, .eq (.int .u8 ((lent ((x / 65536) / 256) : Nat) : Int))), (4, .nw), (5, .nw)] [] [(2, .v (.int .i64 ((((0 : Int) + (16 : Int)) + (8 : Int)) + ((lent ((x / 65536) / 256) : Nat) : Int))))] [] [] [] [] [] 0 hR hI (.cons (inR_u8 (n := (((x / 65536) / 256 : Nat) : Int)) (by omega)) (.cons (congrArg (Value.int .u8) (len8_int (x := (x / 65536) / 256) (by omega) : ((len8.getD ((x / 65536) / 256) 0).toNat : Int) = ((lent ((x / 65536) / 256) : Nat) : Int))) (.cons (by omega : (0 : Int) ≤ (((x / 65536) / 256 : Nat) : Int) ∧ (((x / 65536) / 256 : Nat) : Int) < (len8.length : Nat)) (.cons (inR_i64 (n := ((lent ((x / 65536) / 256) : Nat) : Int)) (by omega)) (.cons (inR_i64 (n := (((0 : Int) + (16 : Int)) + (8 : Int)) + ((lent ((x / 65536) / 256) : Nat) : Int)) (by omega)) .nil))))) fun e30 a30 w30 hag hR hI => ?_
    refine wp_ret (oN tab [.v (.int .i64 ((((0 : Int) + (16 : Int)) + (8 : Int)) + ((lent ((x / 65536) / 256) : Nat) : Int)))] hR hI ?_)
    have hl_ : ((((0 : Int) + (16 : Int)) + (8 : Int)) + ((lent ((x / 65536) / 256) : Nat) : Int) : Int) = ((lent x : Nat) : Int) := by first | omega | simp_all
    exact ⟨congrArg (fun z_ => Ending.returned (.int .i64 z_)) hl_, hB.fin hR⟩
   ·
    replace hI := hI.rb 14 hc27
    try simp only [tolds] at hc27
    refine wp_skip ?_
    refine then_n ?_
    have hlb := lent_lt (x := x / 65536) (n := 8) (by omega); have hl8 : len8.length = 256 := by decide
    refine rK tab 0 [(2, .nw), (3, .eq (.int .u8 ((lent (x / 65536) : Nat) : Int))), (4, .nw), (5, .nw)] [] [(2, .v (.int .i64 (((0 : Int) + (16 : Int)) + ((lent (x / 65536) : Nat) : Int))))] [] [] [] [] [] 0 hR hI (.cons (inR_u8 (n := ((x / 65536 : Nat) : Int)) (by omega)) (.cons (congrArg (Value.int .u8) (len8_int (x := x / 65536) (by omega) : ((len8.getD (x / 65536) 0).toNat : Int) = ((lent (x / 65536) : Nat) : Int))) (.cons (by omega : (0 : Int) ≤ ((x / 65536 : Nat) : Int) ∧ ((x / 65536 : Nat) : Int) < (len8.length : Nat)) (.cons (inR_i64 (n := ((lent (x / 65536) : Nat) : Int)) (by omega)) (.cons (inR_i64 (n := ((0 : Int) + (16 : Int)) + ((lent (x / 65536) : Nat) : Int)) (by omega)) .nil))))) fun e31 a31 w31 hag hR hI => ?_
    refine wp_ret (oN tab [.v (.int .i64 (((0 : Int) + (16 : Int)) + ((lent (x / 65536) : Nat) : Int)))] hR hI ?_)
    have hl_ : (((0 : Int) + (16 : Int)) + ((lent (x / 65536) : Nat) : Int) : Int) = ((lent x : Nat) : Int) := by first | omega | simp_all
    exact ⟨congrArg (fun z_ => Ending.returned (.int .i64 z_)) hl_, hB.fin hR⟩
  ·
   replace hI := hI.rb 8 hc23
   try simp only [tolds] at hc23
   refine wp_skip ?_
   refine then_n ?_
   refine wp_seq ?_
   refine rZ tab 0 [(14, vB (decide ((x : Int) ≥ (256 : Int))))] [2, 0] hR hI fun e32 a32 w32 hag hR hI => ?_
   refine cnd (b := decide ((x : Int) ≥ (256 : Int))) hI (by kernel_rfl) (fun hc33 => ?_) (fun hc33 => ?_)
   ·
    replace hI := hI.rb 14 hc33
    try simp only [tolds] at hc33
    have hd8 : lent x = 8 + lent (x / 256) := lent_div (k := 8) (by omega)
    refine rK tab 0 [] [] [(0, vU (x / 256))] [2] [] [] [] [] 0 hR hI (.cons (by decide : (0 : Int) ≤ 8) (.cons (by decide : (8 : Int) ≤ (IntKind.u64.bits : Int)) .nil)) fun e34 a34 w34 hag hR hI => ?_
    refine aK tab 0 [(1, .nw)] [] [(2, .v (.int .i64 ((0 : Int) + (8 : Int))))] [0] [] [] [] [] 0 hR hI (.cons (inR_i64 (n := (0 : Int) + (8 : Int)) (by omega)) .nil) fun e35 a35 w35 hag hR hI => ?_
    refine then_n ?_
    have hlb := lent_lt (x := x / 256) (n := 8) (by omega); have hl8 : len8.length = 256 := by decide
    refine rK tab 0 [(2, .nw), (3, .eq (.int .u8 ((lent (x / 256) : Nat) : Int))), (4, .nw), (5, .nw)] [] [(2, .v (.int .i64 (((0 : Int) + (8 : Int)) + ((lent (x / 256) : Nat) : Int))))] [] [] [] [] [] 0 hR hI (.cons (inR_u8 (n := ((x / 256 : Nat) : Int)) (by omega)) (.cons (congrArg (Value.int .u8) (len8_int (x := x / 256) (by omega) : ((len8.getD (x / 256) 0).toNat : Int) = ((lent (x / 256) : Nat) : Int))) (.cons (by omega : (0 : Int) ≤ ((x / 256 : Nat) : Int) ∧ ((x / 256 : Nat) : Int) < (len8.length : Nat)) (.cons (inR_i64 (n := ((lent (x / 256) : Nat) : Int)) (by omega)) (.cons (inR_i64 (n := ((0 : Int) + (8 : Int)) + ((lent (x / 256) : Nat) : Int)) (by omega)) .nil))))) fun e36 a36 w36 hag hR hI => ?_
    refine wp_ret (oN tab [.v (.int .i64 (((0 : Int) + (8 : Int)) + ((lent (x / 256) : Nat) : Int)))] hR hI ?_)
    have hl_ : (((0 : Int) + (8 : Int)) + ((lent (x / 256) : Nat) : Int) : Int) = ((lent x : Nat) : Int) := by first | omega | simp_all
    exact ⟨congrArg (fun z_ => Ending.returned (.int .i64 z_)) hl_, hB.fin hR⟩
   ·
    replace hI := hI.rb 14 hc33
    try simp only [tolds] at hc33
    refine wp_skip ?_
    refine then_n ?_
    have hlb := lent_lt (x := x) (n := 8) (by omega); have hl8 : len8.length = 256 := by decide
    refine rK tab 0 [(2, .nw), (3, .eq (.int .u8 ((lent x : Nat) : Int))), (4, .nw), (5, .nw)] [] [(2, vI (0 + (lent x)))] [] [] [] [] [] 0 hR hI (.cons (inR_u8 (n := (x : Int)) (by omega)) (.cons (congrArg (Value.int .u8) (len8_int (x := x) (by omega) : ((len8.getD x 0).toNat : Int) = ((lent x : Nat) : Int))) (.cons (by omega : (0 : Int) ≤ (x : Int) ∧ (x : Int) < (len8.length : Nat)) (.cons (inR_i64 (n := ((lent x : Nat) : Int)) (by omega)) (.cons (inR_i64 (n := (0 : Int) + ((lent x : Nat) : Int)) (by omega)) .nil))))) fun e37 a37 w37 hag hR hI => ?_
    refine wp_ret (oN tab [vI (0 + (lent x))] hR hI ?_)
    have hl_ : (((0 + (lent x) : Nat) : Int) : Int) = ((lent x : Nat) : Int) := by first | omega | simp_all
    exact ⟨congrArg (fun z_ => Ending.returned (.int .i64 z_)) hl_, hB.fin hR⟩

theorem len_spec {C : Nat → Prop} {w : World} {x : Nat} (hx : x < 18446744073709551616) :
    Calls P 89 #[.int .u64 (x : Int)] w fun ex w' => ex = .returned (.int .i64 ((lent x : Nat) : Int)) ∧ KS w w' := by
 refine dN (C := C) [vU x] 8 1 Tryz.func89 fun a_ hI hR hB => ?_
 replace hI : Is 8 [] e0 [(0, vU x)] a_ := hI
 refine rZ tab 0 [] [0] hR hI fun e1 a1 w1 hag hR hI => ?_
 refine wp_seq ?_
 refine cnd_f hI (by kernel_rfl) ?_
 refine wp_skip ?_
 refine then_n ?_
 refine wp_seq (reg (is := [0, 1, 2]) (by kernel_rfl) ?_)
 refine pZ tab [0] [1, 2] 0 [(6, vU x)] [] hR hI fun e2 a2 w2 hag hR hI => ?_
 refine cO [vU x] hI Tryz.func121 ?_
 refine (len64_spec (C := C) (x := x) hx).mono ?_
 rintro ex w3 ⟨rfl, hk⟩
 replace hR := hR.same hk; clear hk
 refine ⟨_, rfl, ?_⟩
 replace hI := hI.pt 7 (vI (lent x)) [7, 6]
 refine pZ tab [2] [] 0 [(2, vI (lent x))] [] hR hI fun e4 a4 w4 hag hR hI => ?_
 refine ops_nil (then_n ?_)
 refine wp_ret (oN tab [vI (lent x)] hR hI ?_)
 exact ⟨rfl, hB.fin hR⟩

theorem leadingZeros64_spec {C : Nat → Prop} {w : World} {x : Nat} (hx : x < 18446744073709551616) :
    Calls P 164 #[.int .u64 (x : Int)] w fun ex w' => ex = .returned (.int .i64 ((64 - lent x : Nat) : Int)) ∧ KS w w' := by
 refine dN (C := C) [vU x] 6 1 Tryz.func164 fun a_ hI hR hB => ?_
 replace hI : Is 6 [] e0 [(0, vU x)] a_ := hI
 have hl64 : lent x ≤ 64 := lent_lt (n := 64) hx
 refine rZ tab 0 [] [0] hR hI fun e1 a1 w1 hag hR hI => ?_
 refine wp_seq (reg (is := [0, 1, 2, 3]) (by kernel_rfl) ?_)
 refine pZ tab [0] [1, 2, 3] 0 [(3, vU x)] [] hR hI fun e2 a2 w2 hag hR hI => ?_
 refine cO [vU x] hI Tryz.func121 ?_
 refine (len64_spec (C := C) (x := x) hx).mono ?_
 rintro ex w3 ⟨rfl, hk⟩
 replace hR := hR.same hk; clear hk
 refine ⟨_, rfl, ?_⟩
 replace hI := hI.pt 4 (vI (lent x)) [4, 3]
 refine pK tab [2, 3] [] 0 [(2, .eq (.int .i64 ((64 - lent x : Nat) : Int)))] [] [(2, vI (64 - lent x))] [] [] [] [] [] 0 hR hI (.cons (wI ((64 : Int) - ((lent x : Nat) : Int)) ((64 - lent x : Nat) : Int) (by omega) (by omega)) .nil) fun e4 a4 w4 hag hR hI => ?_
 refine ops_nil (then_n ?_)
 refine wp_ret (oN tab [vI (64 - lent x)] hR hI ?_)
 exact ⟨rfl, hB.fin hR⟩

theorem leadingZeros_spec {C : Nat → Prop} {w : World} {x : Nat} (hx : x < 18446744073709551616) :
    Calls P 110 #[.int .u64 (x : Int)] w fun ex w' => ex = .returned (.int .i64 ((64 - lent x : Nat) : Int)) ∧ KS w w' := by
 refine dN (C := C) [vU x] 6 1 Tryz.func110 fun a_ hI hR hB => ?_
 replace hI : Is 6 [] e0 [(0, vU x)] a_ := hI
 have hl64 : lent x ≤ 64 := lent_lt (n := 64) hx
 refine rZ tab 0 [] [0] hR hI fun e1 a1 w1 hag hR hI => ?_
 refine wp_seq (reg (is := [0, 1, 2, 3]) (by kernel_rfl) ?_)
 refine pZ tab [0] [1, 2, 3] 0 [(3, vU x)] [] hR hI fun e2 a2 w2 hag hR hI => ?_
 refine cO [vU x] hI Tryz.func89 ?_
 refine (len_spec (C := C) (x := x) hx).mono ?_
 rintro ex w3 ⟨rfl, hk⟩
 replace hR := hR.same hk; clear hk
 refine ⟨_, rfl, ?_⟩
 replace hI := hI.pt 4 (vI (lent x)) [4, 3]
 refine pK tab [2, 3] [] 0 [(2, .eq (.int .i64 ((64 - lent x : Nat) : Int)))] [] [(2, vI (64 - lent x))] [] [] [] [] [] 0 hR hI (.cons (wI ((64 : Int) - ((lent x : Nat) : Int)) ((64 - lent x : Nat) : Int) (by omega) (by omega)) .nil) fun e4 a4 w4 hag hR hI => ?_
 refine ops_nil (then_n ?_)
 refine wp_ret (oN tab [vI (64 - lent x)] hR hI ?_)
 exact ⟨rfl, hB.fin hR⟩

theorem nlz_spec {C : Nat → Prop} {w : World} {x : Nat} (hx : x < 18446744073709551616) :
    Calls P 83 #[.int .u64 (x : Int)] w fun ex w' => ex = .returned (.int .u64 ((64 - lent x : Nat) : Int)) ∧ KS w w' := by
 refine dN (C := C) [vU x] 6 1 Tryz.func83 fun a_ hI hR hB => ?_
 replace hI : Is 6 [] e0 [(0, vU x)] a_ := hI
 have hl64 : lent x ≤ 64 := lent_lt (n := 64) hx
 refine rZ tab 0 [] [0] hR hI fun e1 a1 w1 hag hR hI => ?_
 refine wp_seq (reg (is := [0, 1, 2, 3]) (by kernel_rfl) ?_)
 refine pZ tab [0] [1, 2, 3] 0 [(3, vU x)] [] hR hI fun e2 a2 w2 hag hR hI => ?_
 refine cO [vU x] hI Tryz.func110 ?_
 refine (leadingZeros_spec (C := C) hx).mono ?_
 rintro ex w3 ⟨rfl, hk⟩
 replace hR := hR.same hk; clear hk
 refine ⟨_, rfl, ?_⟩
 replace hI := hI.pt 4 (vI (64 - lent x)) [4, 3]
 refine pK tab [2, 3] [] 0 [(2, .nw)] [] [(2, vU (64 - lent x))] [] [] [] [] [] 0 hR hI (.cons (inR_u64 (n := ((64 - lent x : Nat) : Int)) (by omega)) .nil) fun e4 a4 w4 hag hR hI => ?_
 refine ops_nil (then_n ?_)
 refine wp_ret (oN tab [vU (64 - lent x)] hR hI ?_)
 exact ⟨rfl, hB.fin hR⟩

theorem run_add64 {x y c : Nat} (hc : c ≤ 1) (w : World) : (callFunc 168 #[.int .u64 ((x : Nat) : Int), .int .u64 ((y : Nat) : Int), .int .u64 ((c : Nat) : Int)]).run P w = .ok (.value (.tuple #[.int .u64 (((x + y + c) % 18446744073709551616 : Nat) : Int), .int .u64 (((x + y + c) / 18446744073709551616 : Nat) : Int)])) w := by
 rw [run_callFunc_extern (e := fun args => do
  let (x, y, c) ← Extern.MathBitsCarry.three "Add64" args
  pure (Extern.MathBitsCarry.pair ((x + y + c) % Extern.MathBitsCarry.m64) ((x + y + c) / Extern.MathBitsCarry.m64))) Tryz.func168 (by kernel_rfl) (by kernel_rfl) (by kernel_rfl) (by kernel_rfl)]
 have h : c = 0 ∨ c = 1 := by omega
 rcases h with rfl | rfl <;> rfl
theorem run_sub64 {x y c : Nat} (hc : c ≤ 1) (w : World) : (callFunc 163 #[.int .u64 ((x : Nat) : Int), .int .u64 ((y : Nat) : Int), .int .u64 ((c : Nat) : Int)]).run P w = .ok (.value (.tuple #[.int .u64 (((x + 18446744073709551616 - y - c) % 18446744073709551616 : Nat) : Int), .int .u64 (((if x < y + c then 1 else 0) : Nat) : Int)])) w := by
 rw [run_callFunc_extern (e := fun args => do
  let (x, y, b) ← Extern.MathBitsCarry.three "Sub64" args
  pure (Extern.MathBitsCarry.pair ((x + Extern.MathBitsCarry.m64 - y - b) % Extern.MathBitsCarry.m64) (if x < y + b then 1 else 0))) Tryz.func163 (by kernel_rfl) (by kernel_rfl) (by kernel_rfl) (by kernel_rfl)]
 have h : c = 0 ∨ c = 1 := by omega
 rcases h with rfl | rfl <;> rfl

theorem add_spec {C : Nat → Prop} {w : World} {x y c : Nat} (hx : x < 18446744073709551616) (hy : y < 18446744073709551616) (hc : c ≤ 1) :
    Calls P 145 #[.int .u64 (x : Int), .int .u64 (y : Int), .int .u64 (c : Int)] w fun ex w' => ∃ z d : Nat, ex = .returned (.tuple #[.int .u64 (z : Int), .int .u64 (d : Int)]) ∧ KS w w' ∧ z + 18446744073709551616 * d = x + y + c ∧ z < 18446744073709551616 ∧ d ≤ 1 := by
 refine dN (C := C) [vU x, vU y, vU c] 35 3 Tryz.func145 fun a_ hI hR hB => ?_
 replace hI : Is 35 [] e0 [(0, vU x), (1, vU y), (2, vU c)] a_ := hI
 refine rZ tab 0 [] [0, 1, 2] hR hI fun e1 a1 w1 hag hR hI => ?_
 refine wp_seq ?_
 refine cnd_f hI (by kernel_rfl) ?_
 refine wp_skip ?_
 refine then_n ?_
 refine wp_seq (reg (is := [0, 1, 2, 3, 4, 5, 6, 7, 8]) (by kernel_rfl) ?_)
 refine pZ tab [0, 1, 2] [3, 4, 5, 6, 7, 8] 0 [(29, vU c), (28, vU y), (27, vU x)] [] hR hI fun e2 a2 w2 hag hR hI => ?_
 refine callX (ys := [vU x, vU y, vU c]) (v := .v (.tuple #[.int .u64 (((x + y + c) % 18446744073709551616 : Nat) : Int), .int .u64 (((x + y + c) / 18446744073709551616 : Nat) : Int)])) hI rfl rfl rfl ⟨_, rfl, rfl, rfl⟩ (by kernel_rfl) (run_add64 hc _) (fun a3 hI => ?_)
 replace hI := hI.sl [30, 29, 28, 27] rfl
 refine pZ tab [4, 5, 6, 7, 8] [] 0 [(11, vU ((x + y + c) / 18446744073709551616)), (10, vU ((x + y + c) % 18446744073709551616))] [] hR hI fun e4 a4 w4 hag hR hI => ?_
 refine ops_nil (then_n ?_)
 refine rZ tab 0 [(7, vU ((x + y + c) / 18446744073709551616)), (6, vU ((x + y + c) % 18446744073709551616))] [] hR hI fun e5 a5 w5 hag hR hI => ?_
 refine wp_ret (oN tab [vU ((x + y + c) % 18446744073709551616), vU ((x + y + c) / 18446744073709551616)] hR hI ?_)
 exact ⟨_, _, rfl, hB.fin hR, by omega, by omega, by omega⟩

theorem sub_spec {C : Nat → Prop} {w : World} {x y c : Nat} (hx : x < 18446744073709551616) (hy : y < 18446744073709551616) (hc : c ≤ 1) :
    Calls P 142 #[.int .u64 (x : Int), .int .u64 (y : Int), .int .u64 (c : Int)] w fun ex w' => ∃ z d : Nat, ex = .returned (.tuple #[.int .u64 (z : Int), .int .u64 (d : Int)]) ∧ KS w w' ∧ z + y + c = x + 18446744073709551616 * d ∧ z < 18446744073709551616 ∧ d ≤ 1 := by
 refine dN (C := C) [vU x, vU y, vU c] 35 3 Tryz.func142 fun a_ hI hR hB => ?_
 replace hI : Is 35 [] e0 [(0, vU x), (1, vU y), (2, vU c)] a_ := hI
 refine rZ tab 0 [] [0, 1, 2] hR hI fun e1 a1 w1 hag hR hI => ?_
 refine wp_seq ?_
 refine cnd_f hI (by kernel_rfl) ?_
 refine wp_skip ?_
 refine then_n ?_
 refine wp_seq (reg (is := [0, 1, 2, 3, 4, 5, 6, 7, 8]) (by kernel_rfl) ?_)
 refine pZ tab [0, 1, 2] [3, 4, 5, 6, 7, 8] 0 [(29, vU c), (28, vU y), (27, vU x)] [] hR hI fun e2 a2 w2 hag hR hI => ?_
 refine callX (ys := [vU x, vU y, vU c]) (v := .v (.tuple #[.int .u64 (((x + 18446744073709551616 - y - c) % 18446744073709551616 : Nat) : Int), .int .u64 ((if x < y + c then 1 else 0 : Nat) : Int)])) hI rfl rfl rfl ⟨_, rfl, rfl, rfl⟩ (by kernel_rfl) (run_sub64 hc _) (fun a3 hI => ?_)
 replace hI := hI.sl [30, 29, 28, 27] rfl
 refine pZ tab [4, 5, 6, 7, 8] [] 0 [(11, vU (if x < y + c then 1 else 0)), (10, vU ((x + 18446744073709551616 - y - c) % 18446744073709551616))] [] hR hI fun e4 a4 w4 hag hR hI => ?_
 refine ops_nil (then_n ?_)
 refine rZ tab 0 [(7, vU (if x < y + c then 1 else 0)), (6, vU ((x + 18446744073709551616 - y - c) % 18446744073709551616))] [] hR hI fun e5 a5 w5 hag hR hI => ?_
 refine wp_ret (oN tab [vU ((x + 18446744073709551616 - y - c) % 18446744073709551616), vU (if x < y + c then 1 else 0)] hR hI ?_)
 refine ⟨_, _, rfl, hB.fin hR, ?_, by omega, by split <;> omega⟩
 split <;> omega

theorem mul_spec {C : Nat → Prop} {w : World} {x y : Nat} (hx : x < 18446744073709551616) (hy : y < 18446744073709551616) :
    Calls P 144 #[.int .u64 (x : Int), .int .u64 (y : Int)] w fun ex w' => ∃ h l : Nat, ex = .returned (.tuple #[.int .u64 (h : Int), .int .u64 (l : Int)]) ∧ KS w w' ∧ 18446744073709551616 * h + l = x * y ∧ h < 18446744073709551616 ∧ l < 18446744073709551616 := by
 refine dN (C := C) [vU x, vU y] 30 2 Tryz.func144 fun a_ hI hR hB => ?_
 replace hI : Is 30 [] e0 [(0, vU x), (1, vU y)] a_ := hI
 refine rZ tab 0 [] [0, 1] hR hI fun e1 a1 w1 hag hR hI => ?_
 refine wp_seq ?_
 refine cnd_f hI (by kernel_rfl) ?_
 refine wp_skip ?_
 refine then_n ?_
 refine wp_seq (reg (is := [0, 1, 2, 3, 4, 5, 6, 7]) (by kernel_rfl) ?_)
 refine pZ tab [0, 1] [2, 3, 4, 5, 6, 7] 0 [(24, vU y), (23, vU x)] [] hR hI fun e2 a2 w2 hag hR hI => ?_
 refine cO [vU x, vU y] hI Tryz.func166 ?_
 refine (mul64_spec (C := C) hx hy).mono ?_
 rintro ex w3 ⟨h, l, rfl, hk, he, hhb, hlb⟩
 replace hR := hR.same hk; clear hk
 rw [Nat.mul_comm h] at he
 refine ⟨_, rfl, ?_⟩
 replace hI := hI.pt 25 (.v (.tuple #[.int .u64 (h : Int), .int .u64 (l : Int)])) [25, 24, 23]
 refine pZ tab [3, 4, 5, 6, 7] [] 0 [(9, vU l), (8, vU h)] [] hR hI fun e4 a4 w4 hag hR hI => ?_
 refine ops_nil (then_n ?_)
 refine rZ tab 0 [(5, vU l), (4, vU h)] [] hR hI fun e5 a5 w5 hag hR hI => ?_
 refine wp_ret (oN tab [vU h, vU l] hR hI ?_)
 exact ⟨h, l, rfl, hB.fin hR, he, hhb, hlb⟩

theorem mulWW_spec {C : Nat → Prop} {w : World} {x y : Nat} (hx : x < 18446744073709551616) (hy : y < 18446744073709551616) :
    Calls P 114 #[.int .u64 (x : Int), .int .u64 (y : Int)] w fun ex w' => ∃ h l : Nat, ex = .returned (.tuple #[.int .u64 (h : Int), .int .u64 (l : Int)]) ∧ KS w w' ∧ 18446744073709551616 * h + l = x * y ∧ h < 18446744073709551616 ∧ l < 18446744073709551616 := by
 refine dN (C := C) [vU x, vU y] 16 2 Tryz.func114 fun a_ hI hR hB => ?_
 replace hI : Is 16 [] e0 [(0, vU x), (1, vU y)] a_ := hI
 refine rZ tab 0 [] [0, 1] hR hI fun e1 a1 w1 hag hR hI => ?_
 refine wp_seq (reg (is := [0, 1, 2, 3, 4, 5, 6, 7]) (by kernel_rfl) ?_)
 refine pZ tab [0, 1] [2, 3, 4, 5, 6, 7] 0 [(10, vU y), (9, vU x)] [] hR hI fun e2 a2 w2 hag hR hI => ?_
 refine cO [vU x, vU y] hI Tryz.func144 ?_
 refine (mul_spec (C := C) hx hy).mono ?_
 rintro ex w3 ⟨h, l, rfl, hk, he, hhb, hlb⟩
 replace hR := hR.same hk; clear hk
 refine ⟨_, rfl, ?_⟩
 replace hI := hI.pt 11 (.v (.tuple #[.int .u64 (h : Int), .int .u64 (l : Int)])) [11, 10, 9]
 refine pZ tab [3, 4, 5, 6, 7] [] 0 [(7, vU l), (6, vU h)] [] hR hI fun e4 a4 w4 hag hR hI => ?_
 refine ops_nil (then_n ?_)
 refine rZ tab 0 [(5, vU l), (4, vU h)] [] hR hI fun e5 a5 w5 hag hR hI => ?_
 refine wp_ret (oN tab [vU h, vU l] hR hI ?_)
 exact ⟨h, l, rfl, hB.fin hR, he, hhb, hlb⟩

theorem mul_top {x y c h l z d : Nat} (hx : x < 18446744073709551616) (hy : y < 18446744073709551616) (hc : c < 18446744073709551616) (he : 18446744073709551616 * h + l = x * y) (hz : z + 18446744073709551616 * d = l + c + 0) : 18446744073709551616 * (h + d) + z = x * y + c ∧ h + d < 18446744073709551616 := by
 have h1 : x * y ≤ 340282366920938463426481119284349108225 := Nat.le_trans (Nat.mul_le_mul (show x ≤ 18446744073709551615 by omega) (show y ≤ 18446744073709551615 by omega)) (by decide)
 omega

theorem mulAddWWW_spec {C : Nat → Prop} {w : World} {x y c : Nat} (hx : x < 18446744073709551616) (hy : y < 18446744073709551616) (hc : c < 18446744073709551616) :
    Calls P 169 #[.int .u64 (x : Int), .int .u64 (y : Int), .int .u64 (c : Int)] w fun ex w' => ∃ h l : Nat, ex = .returned (.tuple #[.int .u64 (h : Int), .int .u64 (l : Int)]) ∧ KS w w' ∧ 18446744073709551616 * h + l = x * y + c ∧ h < 18446744073709551616 ∧ l < 18446744073709551616 := by
 refine dN (C := C) [vU x, vU y, vU c] 27 3 Tryz.func169 fun a_ hI hR hB => ?_
 replace hI : Is 27 [] e0 [(0, vU x), (1, vU y), (2, vU c)] a_ := hI
 refine rZ tab 0 [] [0, 1, 2] hR hI fun e1 a1 w1 hag hR hI => ?_
 refine wp_seq (reg (is := [0, 1, 2, 3, 4, 5, 6, 7]) (by kernel_rfl) ?_)
 refine pZ tab [0, 1] [2, 3, 4, 5, 6, 7] 0 [(13, vU y), (12, vU x)] [2] hR hI fun e2 a2 w2 hag hR hI => ?_
 refine cO [vU x, vU y] hI Tryz.func144 ?_
 refine (mul_spec (C := C) hx hy).mono ?_
 rintro ex w3 ⟨h, l, rfl, hk, he, hhb, hlb⟩
 replace hR := hR.same hk; clear hk
 refine ⟨_, rfl, ?_⟩
 replace hI := hI.pt 14 (.v (.tuple #[.int .u64 (h : Int), .int .u64 (l : Int)])) [14, 13, 12, 2]
 refine pZ tab [3, 4, 5, 6, 7] [] 0 [(9, vU l), (8, vU h)] [2] hR hI fun e4 a4 w4 hag hR hI => ?_
 refine ops_nil (then_n ?_)
 refine rZ tab 0 [] [9, 8, 2] hR hI fun e5 a5 w5 hag hR hI => ?_
 refine wp_seq (reg (is := [0, 1, 2, 3, 4, 5, 6, 7]) (by kernel_rfl) ?_)
 refine pZ tab [0, 1] [2, 3, 4, 5, 6, 7] 0 [(19, vU c), (18, vU l)] [9, 8] hR hI fun e6 a6 w6 hag hR hI => ?_
 refine cO [vU l, vU c, .v (.int .u64 0)] hI Tryz.func145 ?_
 refine (add_spec (C := C) hlb hc (c := 0) (by decide)).mono ?_
 rintro ex w7 ⟨z, d, rfl, hk, hz, hzb, hdb⟩
 replace hR := hR.same hk; clear hk
 have hmt := mul_top hx hy hc he hz
 refine ⟨_, rfl, ?_⟩
 replace hI := hI.pt 20 (.v (.tuple #[.int .u64 (z : Int), .int .u64 (d : Int)])) [20, 19, 18, 9, 8]
 refine pZ tab [3, 4, 5, 6, 7] [] 0 [(10, vU d), (9, vU z)] [8] hR hI fun e8 a8 w8 hag hR hI => ?_
 refine ops_nil (then_n ?_)
 refine rK tab 0 [(2, .nw)] [] [(7, vU z), (6, vU (h + d))] [] [] [] [] [] 0 hR hI (.cons (inR_u64 (n := (h : Int) + (d : Int)) (by omega)) .nil) fun e9 a9 w9 hag hR hI => ?_
 refine wp_ret (oN tab [vU (h + d), vU z] hR hI ?_)
 exact ⟨h + d, z, rfl, hB.fin hR, hmt.1, hmt.2, hzb⟩

theorem join_lo {hi lo u1 u0 : Nat} (h1 : u1 = lo / 4294967296) (h0 : u0 = lo % 4294967296) : hi * 18446744073709551616 + lo = (hi * 4294967296 + u1) * 4294967296 + u0 := by omega
theorem quo_in (a b : Nat) : (0 : Int) ≤ (a : Int) / (b : Int) ∧ (a : Int) / (b : Int) ≤ (a : Int) := by
 have h1 : (a : Int) / (b : Int) = ((a / b : Nat) : Int) := by simp
 have h2 := Nat.div_le_self a b
 rw [h1]
 exact ⟨Int.natCast_nonneg _, Int.ofNat_le.2 h2⟩
theorem u64_or0 (x : Nat) (hx : x < 18446744073709551616) : bits .or .u64 ((x : Nat) : Int) 0 = ((x : Nat) : Int) := by
 have := (bits_nat .u64 64 (by decide) (fun n h0 h1 => by rw [wrap_u64]; omega) x 0 hx (by decide)).2
 rw [Nat.or_zero] at this
 exact this

theorem bitsDiv64_spec {C : Nat → Prop} {w : World} {hi lo y : Nat} (hh : hi < y) (hl : lo < 18446744073709551616) (hy : 9223372036854775808 ≤ y) (hyb : y < 18446744073709551616) :
    Calls P 143 #[.int .u64 (hi : Int), .int .u64 (lo : Int), .int .u64 (y : Int)] w fun ex w' => ex = .returned (.tuple #[.int .u64 (((hi * 18446744073709551616 + lo) / y : Nat) : Int), .int .u64 (((hi * 18446744073709551616 + lo) % y : Nat) : Int)]) ∧ KS w w' := by
 refine dN (C := C) [vU hi, vU lo, vU y] 135 3 Tryz.func143 fun a_ hI hR hB => ?_
 replace hI : Is 135 [] e0 [(0, vU hi), (1, vU lo), (2, vU y)] a_ := hI
 have hy0 : 0 < y := by omega
 refine rZ tab 0 [] [0, 1, 2] hR hI fun e1 a1 w1 hag hR hI => ?_
 refine wp_seq ?_
 refine rK tab 0 [(1, .eq (.bool false))] [] [(20, vB false)] [0, 1, 2] [] [] [] [] 0 hR hI (.cons (congrArg Value.bool (beq_eq_false_iff_ne.2 (by omega) : ((y : Int) == (0 : Int)) = false)) .nil) fun e2 a2 w2 hag hR hI => ?_
 refine cnd_f hI (by kernel_rfl) ?_
 refine wp_skip ?_
 refine then_n ?_
 refine wp_seq ?_
 refine rK tab 0 [(2, .eq (.bool false))] [] [(24, vB false)] [0, 1, 2] [] [] [] [] 0 hR hI (.cons (congrArg Value.bool (decide_eq_false (by omega) : (decide ((y : Int) ≤ (hi : Int))) = false)) .nil) fun e3 a3 w3 hag hR hI => ?_
 refine cnd_f hI (by kernel_rfl) ?_
 refine wp_skip ?_
 refine then_n ?_
 refine wp_seq ?_
 refine rZ tab 0 [(27, vB ((hi : Int) == (0 : Int)))] [0, 1, 2] hR hI fun e4 a4 w4 hag hR hI => ?_
 refine cnd (b := ((hi : Int) == (0 : Int))) hI (by kernel_rfl) (fun hc5 => ?_) (fun hc5 => ?_)
 ·
  replace hI := hI.rb 27 hc5
  try simp only [tolds] at hc5
  refine regQ_seq tab (by kernel_rfl) (k := 0) (hs := [(2, .nw), (5, .nw)]) (gs := []) (ks := [7, 6])
    (L' := [(7, vU (lo % y)), (6, vU (lo / y))]) hR hI (by kernel_rfl) (fun _ _ _ _ _ h => h) (by kernel_rfl)
    (.cons (by have h_ := quo_in lo y; omega : (0 : Int) ≤ (lo : Int)) (.cons (by have h_ := quo_in lo y; omega : (0 : Int) < (y : Int)) (.cons (inR_u64 (n := (lo : Int) / (y : Int)) (by have h_ := quo_in lo y; omega)) (.cons (by omega : (0 : Int) ≤ (lo : Int)) (.cons (by omega : (0 : Int) < (y : Int)) .nil))))) (by kernel_rfl) (by kernel_rfl) (fun e6 a6 w6 hag hR hI => ?_)
  refine wp_ret ?_
  refine ret_then ?_
  refine oN tab [vU (lo / y), vU (lo % y)] hR hI ?_
  exact ⟨by rw [show hi = 0 by omega, Nat.zero_mul, Nat.zero_add]; rfl, hB.fin hR⟩
 ·
  replace hI := hI.rb 27 hc5
  try simp only [tolds] at hc5
  refine wp_skip ?_
  refine then_n ?_
  refine wp_seq (reg (is := [0, 1, 2, 3]) (by kernel_rfl) ?_)
  refine pZ tab [0] [1, 2, 3] 0 [(34, vU y)] [0, 1, 2] hR hI fun e7 a7 w7 hag hR hI => ?_
  refine cO [vU y] hI Tryz.func164 ?_
  refine (leadingZeros64_spec (C := C) hyb).mono ?_
  rintro ex w8 ⟨rfl, hk⟩
  replace hR := hR.same hk; clear hk
  rw [lent_top hy hyb]
  refine ⟨_, rfl, ?_⟩
  replace hI := hI.pt 35 (.v (.int .i64 0)) [35, 34, 0, 1, 2]
  refine pK tab [2, 3] [] 0 [(2, .nw)] [] [(8, .v (.int .u64 0))] [0, 1, 2] [] [] [] [] 0 hR hI (.cons (inR_u64 (n := 0) (by omega)) .nil) fun e9 a9 w9 hag hR hI => ?_
  refine ops_nil (then_n ?_)
  refine rK tab 0 [(2, .eq (.int .u64 (y : Int)))] [] [] [2, 8, 0, 1] [] [] [] [] 0 hR hI (.cons (congrArg (Value.int .u64) (by rw [wrap_inR (inR_u64 (by omega))]; omega : IntKind.u64.wrap ((y : Int) * 1) = (y : Int))) (.cons (by decide : (0 : Int) ≤ 0) (.cons (by decide : (0 : Int) ≤ (IntKind.u64.bits : Int)) .nil))) fun e10 a10 w10 hag hR hI => ?_
  refine rK tab 0 [] [] [(9, vU (y / 4294967296))] [2, 8, 0, 1] [] [] [] [] 0 hR hI (.cons (by decide : (0 : Int) ≤ 32) (.cons (by decide : (32 : Int) ≤ (IntKind.u64.bits : Int)) .nil)) fun e11 a11 w11 hag hR hI => ?_
  obtain ⟨v1, hdv1⟩ : ∃ v_, v_ = y / 4294967296 := ⟨_, rfl⟩
  replace hI := hI.re 9 (vU v1) rfl (congrArg (Value.int .u64) (by rw [hdv1]))
  refine rK tab 0 [(1, .eq (.int .u64 ((y % 4294967296 : Nat) : Int)))] [] [(10, vU (y % 4294967296))] [9, 2, 8, 0, 1] [] [] [] [] 0 hR hI (.cons (congrArg (Value.int .u64) (u64_mask32 y hyb : bits .and .u64 (y : Int) (4294967295 : Int) = ((y % 4294967296 : Nat) : Int))) .nil) fun e12 a12 w12 hag hR hI => ?_
  obtain ⟨v0, hdv0⟩ : ∃ v_, v_ = y % 4294967296 := ⟨_, rfl⟩
  replace hI := hI.re 10 (vU v0) rfl (congrArg (Value.int .u64) (by rw [hdv0]))
  have hvs : v1 * 4294967296 + v0 = y := by omega
  have hv1p : 0 < v1 := by omega
  refine rK tab 0 [(2, .eq (.int .u64 (hi : Int))), (5, .eq (.int .u64 64)), (6, .eq (.int .u64 0)), (7, .eq (.int .u64 (hi : Int)))] [] [(11, vU hi)] [10, 9, 2, 8, 1] [] [] [] [] 0 hR hI (.cons (congrArg (Value.int .u64) (by rw [wrap_inR (inR_u64 (by omega))]; omega : IntKind.u64.wrap ((hi : Int) * 1) = (hi : Int))) (.cons (by decide : (0 : Int) ≤ 0) (.cons (by decide : (0 : Int) ≤ (IntKind.u64.bits : Int)) (.cons (congrArg (Value.int .u64) (by decide : IntKind.u64.wrap ((64 : Int) - (0 : Int)) = 64)) (.cons (congrArg (Value.int .u64) (by omega : (lo : Int) / 18446744073709551616 = 0)) (.cons (by decide : (0 : Int) ≤ 64) (.cons (by decide : (64 : Int) ≤ (IntKind.u64.bits : Int)) (.cons (congrArg (Value.int .u64) (u64_or0 hi (by omega) : bits .or .u64 (hi : Int) (0 : Int) = (hi : Int))) .nil)))))))) fun e13 a13 w13 hag hR hI => ?_
  refine rK tab 0 [(2, .eq (.int .u64 (lo : Int)))] [] [(12, vU lo)] [11, 10, 9, 2, 8] [] [] [] [] 0 hR hI (.cons (congrArg (Value.int .u64) (by rw [wrap_inR (inR_u64 (by omega))]; omega : IntKind.u64.wrap ((lo : Int) * 1) = (lo : Int))) (.cons (by decide : (0 : Int) ≤ 0) (.cons (by decide : (0 : Int) ≤ (IntKind.u64.bits : Int)) .nil))) fun e14 a14 w14 hag hR hI => ?_
  refine rK tab 0 [] [] [(13, vU (lo / 4294967296))] [12, 11, 10, 9, 2, 8] [] [] [] [] 0 hR hI (.cons (by decide : (0 : Int) ≤ 32) (.cons (by decide : (32 : Int) ≤ (IntKind.u64.bits : Int)) .nil)) fun e15 a15 w15 hag hR hI => ?_
  obtain ⟨u1, hdu1⟩ : ∃ v_, v_ = lo / 4294967296 := ⟨_, rfl⟩
  replace hI := hI.re 13 (vU u1) rfl (congrArg (Value.int .u64) (by rw [hdu1]))
  refine rK tab 0 [(1, .eq (.int .u64 ((lo % 4294967296 : Nat) : Int)))] [] [(14, vU (lo % 4294967296))] [13, 11, 10, 9, 2, 8] [] [] [] [] 0 hR hI (.cons (congrArg (Value.int .u64) (u64_mask32 lo hl : bits .and .u64 (lo : Int) (4294967295 : Int) = ((lo % 4294967296 : Nat) : Int))) .nil) fun e16 a16 w16 hag hR hI => ?_
  obtain ⟨u0, hdu0⟩ : ∃ v_, v_ = lo % 4294967296 := ⟨_, rfl⟩
  replace hI := hI.re 14 (vU u0) rfl (congrArg (Value.int .u64) (by rw [hdu0]))
  have hUa : hi < y := hh
  have hst1 := ref_start (U := hi) (v := v1); have hst2 := r32_first (U := hi) (u := u1) hvs hv1p (by omega); have hst3 := Nat.mod_lt hi hv1p; have hst4 := Nat.div_mul_le_self hi v1; have hst5 := Nat.div_le_self hi v1
  refine rK tab 0 [(2, .nw)] [] [(15, vU (hi / v1))] [14, 13, 11, 10, 9, 2, 8] [] [] [] [] 0 hR hI (.cons (by have h_ := quo_in hi v1; omega : (0 : Int) ≤ (hi : Int)) (.cons (by have h_ := quo_in hi v1; omega : (0 : Int) < (v1 : Int)) (.cons (inR_u64 (n := (hi : Int) / (v1 : Int)) (by have h_ := quo_in hi v1; omega)) .nil))) fun e17 a17 w17 hag hR hI => ?_
  refine rK tab 0 [(3, .nw), (4, .eq (.int .u64 ((hi % v1 : Nat) : Int)))] [] [(16, vU (hi % v1))] [15, 14, 13, 11, 10, 9, 2, 8] [] [] [] [] 0 hR hI (.cons (inR_u64 (n := ((hi / v1 : Nat) : Int) * (v1 : Int)) (by omega)) (.cons (congrArg (Value.int .u64) (by rw [wrap_inR (inR_u64 (by omega))]; omega : IntKind.u64.wrap ((hi : Int) - (((hi / v1) * v1 : Nat) : Int)) = ((hi % v1 : Nat) : Int))) .nil)) fun e18 a18 w18 hag hR hI => ?_
  refine wp_seq ?_
  refine join (γ := Nat × Nat) hR hI (fun (Qa, Ra) => (⟨[(11, vU hi), (13, vU u1), (14, vU u0), (15, vU Qa), (2, vU y), (9, vU v1), (10, vU v0), (8, .v (.int .u64 0))], [], [], 0⟩ : Sy)) (fun (Qa, Ra) e => Qa = (hi * 4294967296 + u1) / y ∧ Ra = (hi * 4294967296 + u1) % y ∧ Qa * y + Ra = hi * 4294967296 + u1 ∧ Ra < y ∧ Qa < 4294967296) ?_ ?_
  ·
   refine wp_block ?_
   refine lp (γ := Nat × Nat) (fun (q, r) => (⟨[(11, vU hi), (13, vU u1), (14, vU u0), (15, vU q), (16, vU r), (2, vU y), (9, vU v1), (10, vU v0), (8, .v (.int .u64 0))], [], [], 0⟩ : Sy)) (fun (q, r) e => q * v1 + r = hi ∧ (hi * 4294967296 + u1) / y ≤ q ∧ r < 4294967296) (fun (q, r) => 4294967296 - r) (hi / v1, hi % v1) (⟨hst1, hst2, by omega⟩)
     (hR.sel [] [] (by kernel_rfl) (by kernel_rfl)) (hI.sel [11, 13, 14, 15, 16, 2, 9, 10, 8] (by kernel_rfl)) ?_
   clear hR hI
   rintro ⟨q, r⟩ e19 a19 w19 hp hR hI
   dsimp only at hp hR hI
   obtain ⟨hqe, hQle, hrb⟩ := hp
   have hqU := Nat.le_mul_of_pos_right q hv1p
   refine wp_seq ?_
   refine rK tab 0 [(5, .nw), (7, .nw), (9, .nw), (11, .sym)] [3, 4, 5, 6, 7, 8, 9, 10] [(78, vB ((decide ((q : Int) ≥ (4294967296 : Int))) || (decide (((q * v0 : Nat) : Int) > (((4294967296 * r) + u1 : Nat) : Int)))))] [11, 13, 14, 15, 16, 2, 9, 10, 8] [] [] [] [] 0 hR hI (.cons (rfl : (decide ((q : Int) ≥ (4294967296 : Int))) = (decide ((q : Int) ≥ (4294967296 : Int)))) (.cons (rfl : (decide ((q : Int) ≥ (4294967296 : Int))) = (decide ((q : Int) ≥ (4294967296 : Int)))) (.cons (rfl : (decide ((q : Int) ≥ (4294967296 : Int))) = (decide ((q : Int) ≥ (4294967296 : Int)))) (.cons (fun (hg : ((decide ((q : Int) ≥ (4294967296 : Int))) == false) = true) => have hg := gd_f hg; (inR_u64 (n := (q : Int) * (v0 : Int)) (by have h_ := mul32 (x := q) (y := v0) (by omega) (by omega); omega))) (.cons (rfl : (decide ((q : Int) ≥ (4294967296 : Int))) = (decide ((q : Int) ≥ (4294967296 : Int)))) (.cons (rfl : (decide ((q : Int) ≥ (4294967296 : Int))) = (decide ((q : Int) ≥ (4294967296 : Int)))) (.cons (rfl : (decide ((q : Int) ≥ (4294967296 : Int))) = (decide ((q : Int) ≥ (4294967296 : Int)))) (.cons (rfl : (decide ((q : Int) ≥ (4294967296 : Int))) = (decide ((q : Int) ≥ (4294967296 : Int)))) (.cons (rfl : (decide ((q : Int) ≥ (4294967296 : Int))) = (decide ((q : Int) ≥ (4294967296 : Int)))) (.cons (rfl : (decide ((q : Int) ≥ (4294967296 : Int))) = (decide ((q : Int) ≥ (4294967296 : Int)))) (.cons (rfl : (decide ((q : Int) ≥ (4294967296 : Int))) = (decide ((q : Int) ≥ (4294967296 : Int)))) (.cons (fun (hg : ((decide ((q : Int) ≥ (4294967296 : Int))) == false) = true) => have hg := gd_f hg; (inR_u64 (n := (4294967296 : Int) * (r : Int)) (by omega))) (.cons (rfl : (decide ((q : Int) ≥ (4294967296 : Int))) = (decide ((q : Int) ≥ (4294967296 : Int)))) (.cons (rfl : (decide ((q : Int) ≥ (4294967296 : Int))) = (decide ((q : Int) ≥ (4294967296 : Int)))) (.cons (rfl : (decide ((q : Int) ≥ (4294967296 : Int))) = (decide ((q : Int) ≥ (4294967296 : Int)))) (.cons (rfl : (decide ((q : Int) ≥ (4294967296 : Int))) = (decide ((q : Int) ≥ (4294967296 : Int)))) (.cons (rfl : (decide ((q : Int) ≥ (4294967296 : Int))) = (decide ((q : Int) ≥ (4294967296 : Int)))) (.cons (rfl : (decide ((q : Int) ≥ (4294967296 : Int))) = (decide ((q : Int) ≥ (4294967296 : Int)))) (.cons (rfl : (decide ((q : Int) ≥ (4294967296 : Int))) = (decide ((q : Int) ≥ (4294967296 : Int)))) (.cons (rfl : (decide ((q : Int) ≥ (4294967296 : Int))) = (decide ((q : Int) ≥ (4294967296 : Int)))) (.cons (rfl : (decide ((q : Int) ≥ (4294967296 : Int))) = (decide ((q : Int) ≥ (4294967296 : Int)))) (.cons (rfl : (decide ((q : Int) ≥ (4294967296 : Int))) = (decide ((q : Int) ≥ (4294967296 : Int)))) (.cons (rfl : (decide ((q : Int) ≥ (4294967296 : Int))) = (decide ((q : Int) ≥ (4294967296 : Int)))) (.cons (fun (hg : ((decide ((q : Int) ≥ (4294967296 : Int))) == false) = true) => have hg := gd_f hg; (inR_u64 (n := ((4294967296 * r : Nat) : Int) + (u1 : Int)) (by omega))) (.cons (rfl : (decide ((q : Int) ≥ (4294967296 : Int))) = (decide ((q : Int) ≥ (4294967296 : Int)))) (.cons (rfl : (decide ((q : Int) ≥ (4294967296 : Int))) = (decide ((q : Int) ≥ (4294967296 : Int)))) (.cons (rfl : (decide ((q : Int) ≥ (4294967296 : Int))) = (decide ((q : Int) ≥ (4294967296 : Int)))) (.cons (rfl : (decide ((q : Int) ≥ (4294967296 : Int))) = (decide ((q : Int) ≥ (4294967296 : Int)))) (.cons (rfl : (decide ((q : Int) ≥ (4294967296 : Int))) = (decide ((q : Int) ≥ (4294967296 : Int)))) (.cons (rfl : (decide ((q : Int) ≥ (4294967296 : Int))) = (decide ((q : Int) ≥ (4294967296 : Int)))) (.cons (rfl : (decide ((q : Int) ≥ (4294967296 : Int))) = (decide ((q : Int) ≥ (4294967296 : Int)))) (.cons (by first | exact (by intro b_; cases b_ <;> rfl : ∀ b_ : Bool, (b_ == true) = b_) _ | exact (by intro b_; cases b_ <;> rfl : ∀ b_ : Bool, (b_ == false) = !b_) _ | exact Bool.beq_true _ | exact Bool.beq_false _ | rfl | simp_all : ((decide ((q : Int) ≥ (4294967296 : Int))) == false) = !(decide ((q : Int) ≥ (4294967296 : Int)))) .nil)))))))))))))))))))))))))))))))) fun e20 a20 w20 hag hR hI => ?_
   refine cnd (b := ((decide ((q : Int) ≥ (4294967296 : Int))) || (decide (((q * v0 : Nat) : Int) > (((4294967296 * r) + u1 : Nat) : Int))))) hI (by kernel_rfl) (fun hc21 => ?_) (fun hc21 => ?_)
   ·
    replace hI := hI.rb 78 hc21
    try simp only [tolds] at hc21
    obtain ⟨hn1, hn2, hn3⟩ := r32_next hvs hy0 hUa (u := u1) (by omega) hqe hQle (by first | exact .inl (by omega) | exact .inr (by omega) | omega)
    refine wp_skip ?_
    refine then_n ?_
    refine wp_block ?_
    refine rK tab 0 [(1, .eq (.int .u64 ((q - 1 : Nat) : Int)))] [] [(15, vU (q - 1))] [11, 13, 14, 16, 2, 9, 10, 8] [] [] [] [] 0 hR hI (.cons (congrArg (Value.int .u64) (by rw [wrap_inR (inR_u64 (by omega))]; omega : IntKind.u64.wrap ((q : Int) - (1 : Int)) = ((q - 1 : Nat) : Int))) .nil) fun e22 a22 w22 hag hR hI => ?_
    refine rK tab 0 [(2, .nw)] [] [(16, vU (r + v1))] [15, 11, 13, 14, 2, 9, 10, 8] [] [] [] [] 0 hR hI (.cons (inR_u64 (n := (r : Int) + (v1 : Int)) (by omega)) .nil) fun e23 a23 w23 hag hR hI => ?_
    refine rZ tab 0 [(85, vB (decide (((r + v1 : Nat) : Int) ≥ (4294967296 : Int))))] [16, 15, 11, 13, 14, 2, 9, 10, 8] hR hI fun e24 a24 w24 hag hR hI => ?_
    refine cnd (b := decide (((r + v1 : Nat) : Int) ≥ (4294967296 : Int))) hI (by kernel_rfl) (fun hc25 => ?_) (fun hc25 => ?_)
    ·
     replace hI := hI.rb 85 hc25
     try simp only [tolds] at hc25
     have hX : q - 1 = (hi * 4294967296 + u1) / y := r32_break hvs hy0 (by omega) hUa hn3 hn2 (by omega)
     obtain ⟨Qa, hQa⟩ : ∃ Q_, Q_ = (hi * 4294967296 + u1) / y := ⟨_, rfl⟩
     have hQXa : q - 1 = Qa := hX.trans hQa.symm
     obtain ⟨Ra, hRa_⟩ : ∃ R_, R_ = (hi * 4294967296 + u1) % y := ⟨_, rfl⟩
     obtain ⟨hrea, hrla⟩ := r32_rest hy0 hQa
     rw [← hRa_] at hrea hrla
     have hQba : Qa < 4294967296 := by rw [hQa]; exact quot_lt hUa (by omega)
     replace hI := hI.re 15 (vU Qa) rfl (congrArg (Value.int .u64) (by rw [← hQXa]))
     refine wp_exit ?_
     refine exit_miss (by decide) ?_
     refine exit_then ?_
     refine exit_hit ?_
     refine then_n ?_
     exact ⟨(Qa, Ra), e24, ⟨hQa, hRa_, hrea, hrla, hQba⟩, hR.sel [] [] (by kernel_rfl) (by kernel_rfl), hI.sel [11, 13, 14, 15, 2, 9, 10, 8] (by kernel_rfl)⟩
    ·
     replace hI := hI.rb 85 hc25
     try simp only [tolds] at hc25
     refine wp_skip ?_
     refine normal_block ?_
     refine then_n ?_
     exact ⟨(q - 1, r + v1), e24, ⟨hn3, hn2, by omega⟩, by (try dsimp only); omega, hR.sel [] [] (by kernel_rfl) (by kernel_rfl), hI.sel [11, 13, 14, 15, 16, 2, 9, 10, 8] (by kernel_rfl)⟩
   ·
    replace hI := hI.rb 78 hc21
    try simp only [tolds] at hc21
    have hX : q = (hi * 4294967296 + u1) / y := r32_done hvs hy0 hqe hQle (by omega)
    obtain ⟨Qa, hQa⟩ : ∃ Q_, Q_ = (hi * 4294967296 + u1) / y := ⟨_, rfl⟩
    have hQXa : q = Qa := hX.trans hQa.symm
    obtain ⟨Ra, hRa_⟩ : ∃ R_, R_ = (hi * 4294967296 + u1) % y := ⟨_, rfl⟩
    obtain ⟨hrea, hrla⟩ := r32_rest hy0 hQa
    rw [← hRa_] at hrea hrla
    have hQba : Qa < 4294967296 := by rw [hQa]; exact quot_lt hUa (by omega)
    replace hI := hI.re 15 (vU Qa) rfl (congrArg (Value.int .u64) (by rw [← hQXa]))
    refine wp_exit ?_
    refine exit_then ?_
    refine exit_then ?_
    refine exit_hit ?_
    refine then_n ?_
    exact ⟨(Qa, Ra), e20, ⟨hQa, hRa_, hrea, hrla, hQba⟩, hR.sel [] [] (by kernel_rfl) (by kernel_rfl), hI.sel [11, 13, 14, 15, 2, 9, 10, 8] (by kernel_rfl)⟩
  ·
   clear hR hI
   rintro ⟨Qa, Ra⟩ e26 a26 w26 hp hR hI
   dsimp only at hp hR hI
   obtain ⟨hQa, hRa_, hrea, hrla, hQba⟩ := hp
   refine rK tab 0 [(7, .eq (.int .u64 (Ra : Int)))] [] [(17, vU Ra)] [14, 15, 2, 9, 10, 8] [] [] [] [] 0 hR hI (.cons (congrArg (Value.int .u64) (by rw [wrap_u64, wrap_u64, wrap_u64, wrap_u64]; omega : IntKind.u64.wrap ((IntKind.u64.wrap ((IntKind.u64.wrap ((hi : Int) * (4294967296 : Int))) + (u1 : Int))) - (IntKind.u64.wrap ((Qa : Int) * (y : Int)))) = (Ra : Int))) .nil) fun e27 a27 w27 hag hR hI => ?_
   have hUb : Ra < y := hrla
   have hst1 := ref_start (U := Ra) (v := v1); have hst2 := r32_first (U := Ra) (u := u0) hvs hv1p (by omega); have hst3 := Nat.mod_lt Ra hv1p; have hst4 := Nat.div_mul_le_self Ra v1; have hst5 := Nat.div_le_self Ra v1
   refine rK tab 0 [(2, .nw)] [] [(18, vU (Ra / v1))] [17, 14, 15, 2, 9, 10, 8] [] [] [] [] 0 hR hI (.cons (by have h_ := quo_in Ra v1; omega : (0 : Int) ≤ (Ra : Int)) (.cons (by have h_ := quo_in Ra v1; omega : (0 : Int) < (v1 : Int)) (.cons (inR_u64 (n := (Ra : Int) / (v1 : Int)) (by have h_ := quo_in Ra v1; omega)) .nil))) fun e28 a28 w28 hag hR hI => ?_
   refine rK tab 0 [(3, .nw), (4, .eq (.int .u64 ((Ra % v1 : Nat) : Int)))] [] [(16, vU (Ra % v1))] [18, 17, 14, 15, 2, 9, 10, 8] [] [] [] [] 0 hR hI (.cons (inR_u64 (n := ((Ra / v1 : Nat) : Int) * (v1 : Int)) (by omega)) (.cons (congrArg (Value.int .u64) (by rw [wrap_inR (inR_u64 (by omega))]; omega : IntKind.u64.wrap ((Ra : Int) - (((Ra / v1) * v1 : Nat) : Int)) = ((Ra % v1 : Nat) : Int))) .nil)) fun e29 a29 w29 hag hR hI => ?_
   refine wp_seq ?_
   refine wp_block ?_
   refine lp (γ := Nat × Nat) (fun (q, r) => (⟨[(14, vU u0), (15, vU Qa), (16, vU r), (17, vU Ra), (18, vU q), (2, vU y), (9, vU v1), (10, vU v0), (8, .v (.int .u64 0))], [], [], 0⟩ : Sy)) (fun (q, r) e => q * v1 + r = Ra ∧ (Ra * 4294967296 + u0) / y ≤ q ∧ r < 4294967296) (fun (q, r) => 4294967296 - r) (Ra / v1, Ra % v1) (⟨hst1, hst2, by omega⟩)
     (hR.sel [] [] (by kernel_rfl) (by kernel_rfl)) (hI.sel [14, 15, 16, 17, 18, 2, 9, 10, 8] (by kernel_rfl)) ?_
   clear hR hI
   rintro ⟨q, r⟩ e30 a30 w30 hp hR hI
   dsimp only at hp hR hI
   obtain ⟨hqe, hQle, hrb⟩ := hp
   have hqU := Nat.le_mul_of_pos_right q hv1p
   refine wp_seq ?_
   refine rK tab 0 [(5, .nw), (7, .nw), (9, .nw), (11, .sym)] [3, 4, 5, 6, 7, 8, 9, 10] [(113, vB ((decide ((q : Int) ≥ (4294967296 : Int))) || (decide (((q * v0 : Nat) : Int) > (((4294967296 * r) + u0 : Nat) : Int)))))] [14, 15, 16, 17, 18, 2, 9, 10, 8] [] [] [] [] 0 hR hI (.cons (rfl : (decide ((q : Int) ≥ (4294967296 : Int))) = (decide ((q : Int) ≥ (4294967296 : Int)))) (.cons (rfl : (decide ((q : Int) ≥ (4294967296 : Int))) = (decide ((q : Int) ≥ (4294967296 : Int)))) (.cons (rfl : (decide ((q : Int) ≥ (4294967296 : Int))) = (decide ((q : Int) ≥ (4294967296 : Int)))) (.cons (fun (hg : ((decide ((q : Int) ≥ (4294967296 : Int))) == false) = true) => have hg := gd_f hg; (inR_u64 (n := (q : Int) * (v0 : Int)) (by have h_ := mul32 (x := q) (y := v0) (by omega) (by omega); omega))) (.cons (rfl : (decide ((q : Int) ≥ (4294967296 : Int))) = (decide ((q : Int) ≥ (4294967296 : Int)))) (.cons (rfl : (decide ((q : Int) ≥ (4294967296 : Int))) = (decide ((q : Int) ≥ (4294967296 : Int)))) (.cons (rfl : (decide ((q : Int) ≥ (4294967296 : Int))) = (decide ((q : Int) ≥ (4294967296 : Int)))) (.cons (rfl : (decide ((q : Int) ≥ (4294967296 : Int))) = (decide ((q : Int) ≥ (4294967296 : Int)))) (.cons (rfl : (decide ((q : Int) ≥ (4294967296 : Int))) = (decide ((q : Int) ≥ (4294967296 : Int)))) (.cons (rfl : (decide ((q : Int) ≥ (4294967296 : Int))) = (decide ((q : Int) ≥ (4294967296 : Int)))) (.cons (rfl : (decide ((q : Int) ≥ (4294967296 : Int))) = (decide ((q : Int) ≥ (4294967296 : Int)))) (.cons (fun (hg : ((decide ((q : Int) ≥ (4294967296 : Int))) == false) = true) => have hg := gd_f hg; (inR_u64 (n := (4294967296 : Int) * (r : Int)) (by omega))) (.cons (rfl : (decide ((q : Int) ≥ (4294967296 : Int))) = (decide ((q : Int) ≥ (4294967296 : Int)))) (.cons (rfl : (decide ((q : Int) ≥ (4294967296 : Int))) = (decide ((q : Int) ≥ (4294967296 : Int)))) (.cons (rfl : (decide ((q : Int) ≥ (4294967296 : Int))) = (decide ((q : Int) ≥ (4294967296 : Int)))) (.cons (rfl : (decide ((q : Int) ≥ (4294967296 : Int))) = (decide ((q : Int) ≥ (4294967296 : Int)))) (.cons (rfl : (decide ((q : Int) ≥ (4294967296 : Int))) = (decide ((q : Int) ≥ (4294967296 : Int)))) (.cons (rfl : (decide ((q : Int) ≥ (4294967296 : Int))) = (decide ((q : Int) ≥ (4294967296 : Int)))) (.cons (rfl : (decide ((q : Int) ≥ (4294967296 : Int))) = (decide ((q : Int) ≥ (4294967296 : Int)))) (.cons (rfl : (decide ((q : Int) ≥ (4294967296 : Int))) = (decide ((q : Int) ≥ (4294967296 : Int)))) (.cons (rfl : (decide ((q : Int) ≥ (4294967296 : Int))) = (decide ((q : Int) ≥ (4294967296 : Int)))) (.cons (rfl : (decide ((q : Int) ≥ (4294967296 : Int))) = (decide ((q : Int) ≥ (4294967296 : Int)))) (.cons (rfl : (decide ((q : Int) ≥ (4294967296 : Int))) = (decide ((q : Int) ≥ (4294967296 : Int)))) (.cons (fun (hg : ((decide ((q : Int) ≥ (4294967296 : Int))) == false) = true) => have hg := gd_f hg; (inR_u64 (n := ((4294967296 * r : Nat) : Int) + (u0 : Int)) (by omega))) (.cons (rfl : (decide ((q : Int) ≥ (4294967296 : Int))) = (decide ((q : Int) ≥ (4294967296 : Int)))) (.cons (rfl : (decide ((q : Int) ≥ (4294967296 : Int))) = (decide ((q : Int) ≥ (4294967296 : Int)))) (.cons (rfl : (decide ((q : Int) ≥ (4294967296 : Int))) = (decide ((q : Int) ≥ (4294967296 : Int)))) (.cons (rfl : (decide ((q : Int) ≥ (4294967296 : Int))) = (decide ((q : Int) ≥ (4294967296 : Int)))) (.cons (rfl : (decide ((q : Int) ≥ (4294967296 : Int))) = (decide ((q : Int) ≥ (4294967296 : Int)))) (.cons (rfl : (decide ((q : Int) ≥ (4294967296 : Int))) = (decide ((q : Int) ≥ (4294967296 : Int)))) (.cons (rfl : (decide ((q : Int) ≥ (4294967296 : Int))) = (decide ((q : Int) ≥ (4294967296 : Int)))) (.cons (by first | exact (by intro b_; cases b_ <;> rfl : ∀ b_ : Bool, (b_ == true) = b_) _ | exact (by intro b_; cases b_ <;> rfl : ∀ b_ : Bool, (b_ == false) = !b_) _ | exact Bool.beq_true _ | exact Bool.beq_false _ | rfl | simp_all : ((decide ((q : Int) ≥ (4294967296 : Int))) == false) = !(decide ((q : Int) ≥ (4294967296 : Int)))) .nil)))))))))))))))))))))))))))))))) fun e31 a31 w31 hag hR hI => ?_
   refine cnd (b := ((decide ((q : Int) ≥ (4294967296 : Int))) || (decide (((q * v0 : Nat) : Int) > (((4294967296 * r) + u0 : Nat) : Int))))) hI (by kernel_rfl) (fun hc32 => ?_) (fun hc32 => ?_)
   ·
    replace hI := hI.rb 113 hc32
    try simp only [tolds] at hc32
    obtain ⟨hn1, hn2, hn3⟩ := r32_next hvs hy0 hUb (u := u0) (by omega) hqe hQle (by first | exact .inl (by omega) | exact .inr (by omega) | omega)
    refine wp_skip ?_
    refine then_n ?_
    refine wp_block ?_
    refine rK tab 0 [(1, .eq (.int .u64 ((q - 1 : Nat) : Int)))] [] [(18, vU (q - 1))] [14, 15, 16, 17, 2, 9, 10, 8] [] [] [] [] 0 hR hI (.cons (congrArg (Value.int .u64) (by rw [wrap_inR (inR_u64 (by omega))]; omega : IntKind.u64.wrap ((q : Int) - (1 : Int)) = ((q - 1 : Nat) : Int))) .nil) fun e33 a33 w33 hag hR hI => ?_
    refine rK tab 0 [(2, .nw)] [] [(16, vU (r + v1))] [18, 14, 15, 17, 2, 9, 10, 8] [] [] [] [] 0 hR hI (.cons (inR_u64 (n := (r : Int) + (v1 : Int)) (by omega)) .nil) fun e34 a34 w34 hag hR hI => ?_
    refine rZ tab 0 [(120, vB (decide (((r + v1 : Nat) : Int) ≥ (4294967296 : Int))))] [16, 18, 14, 15, 17, 2, 9, 10, 8] hR hI fun e35 a35 w35 hag hR hI => ?_
    refine cnd (b := decide (((r + v1 : Nat) : Int) ≥ (4294967296 : Int))) hI (by kernel_rfl) (fun hc36 => ?_) (fun hc36 => ?_)
    ·
     replace hI := hI.rb 120 hc36
     try simp only [tolds] at hc36
     have hX : q - 1 = (Ra * 4294967296 + u0) / y := r32_break hvs hy0 (by omega) hUb hn3 hn2 (by omega)
     obtain ⟨Qb, hQb⟩ : ∃ Q_, Q_ = (Ra * 4294967296 + u0) / y := ⟨_, rfl⟩
     have hQXb : q - 1 = Qb := hX.trans hQb.symm
     obtain ⟨Rb, hRb_⟩ : ∃ R_, R_ = (Ra * 4294967296 + u0) % y := ⟨_, rfl⟩
     obtain ⟨hreb, hrlb⟩ := r32_rest hy0 hQb
     rw [← hRb_] at hreb hrlb
     have hQbb : Qb < 4294967296 := by rw [hQb]; exact quot_lt hUb (by omega)
     replace hI := hI.re 18 (vU Qb) rfl (congrArg (Value.int .u64) (by rw [← hQXb]))
     refine wp_exit ?_
     refine exit_miss (by decide) ?_
     refine exit_then ?_
     refine exit_hit ?_
     refine then_n ?_
     refine rK tab 0 [(1, .nw), (3, .nw), (11, .eq (.int .u64 (Rb : Int))), (13, .eq (.int .u64 (Rb : Int)))] [] [(7, vU Rb), (6, vU ((Qa * 4294967296) + Qb))] [] [] [] [] [] 0 hR hI (.cons (inR_u64 (n := (Qa : Int) * (4294967296 : Int)) (by omega)) (.cons (inR_u64 (n := ((Qa * 4294967296 : Nat) : Int) + (Qb : Int)) (by omega)) (.cons (congrArg (Value.int .u64) (by rw [wrap_u64, wrap_u64, wrap_u64, wrap_u64]; omega : IntKind.u64.wrap ((IntKind.u64.wrap ((IntKind.u64.wrap ((Ra : Int) * (4294967296 : Int))) + (u0 : Int))) - (IntKind.u64.wrap ((Qb : Int) * (y : Int)))) = (Rb : Int))) (.cons (congrArg (Value.int .u64) (by omega : (Rb : Int) / 1 = (Rb : Int))) (.cons (by decide : (0 : Int) ≤ 0) (.cons (by decide : (0 : Int) ≤ (IntKind.u64.bits : Int)) .nil)))))) fun e37 a37 w37 hag hR hI => ?_
     refine wp_ret (oN tab [vU ((Qa * 4294967296) + Qb), vU Rb] hR hI ?_)
     have hsp : hi * 18446744073709551616 + lo = (hi * 4294967296 + u1) * 4294967296 + u0 := join_lo hdu1 hdu0
     obtain ⟨hj1, hj2⟩ := div_join (A := hi * 4294967296 + u1) (b := 4294967296) (u := u0) hrea.symm hy0
     rw [← hQb] at hj1; rw [← hRb_] at hj2
     exact ⟨by rw [hsp, hj1, hj2]; rfl, hB.fin hR⟩
    ·
     replace hI := hI.rb 120 hc36
     try simp only [tolds] at hc36
     refine wp_skip ?_
     refine normal_block ?_
     refine then_n ?_
     exact ⟨(q - 1, r + v1), e35, ⟨hn3, hn2, by omega⟩, by (try dsimp only); omega, hR.sel [] [] (by kernel_rfl) (by kernel_rfl), hI.sel [14, 15, 16, 17, 18, 2, 9, 10, 8] (by kernel_rfl)⟩
   ·
    replace hI := hI.rb 113 hc32
    try simp only [tolds] at hc32
    have hX : q = (Ra * 4294967296 + u0) / y := r32_done hvs hy0 hqe hQle (by omega)
    obtain ⟨Qb, hQb⟩ : ∃ Q_, Q_ = (Ra * 4294967296 + u0) / y := ⟨_, rfl⟩
    have hQXb : q = Qb := hX.trans hQb.symm
    obtain ⟨Rb, hRb_⟩ : ∃ R_, R_ = (Ra * 4294967296 + u0) % y := ⟨_, rfl⟩
    obtain ⟨hreb, hrlb⟩ := r32_rest hy0 hQb
    rw [← hRb_] at hreb hrlb
    have hQbb : Qb < 4294967296 := by rw [hQb]; exact quot_lt hUb (by omega)
    replace hI := hI.re 18 (vU Qb) rfl (congrArg (Value.int .u64) (by rw [← hQXb]))
    refine wp_exit ?_
    refine exit_then ?_
    refine exit_then ?_
    refine exit_hit ?_
    refine then_n ?_
    refine rK tab 0 [(1, .nw), (3, .nw), (11, .eq (.int .u64 (Rb : Int))), (13, .eq (.int .u64 (Rb : Int)))] [] [(7, vU Rb), (6, vU ((Qa * 4294967296) + Qb))] [] [] [] [] [] 0 hR hI (.cons (inR_u64 (n := (Qa : Int) * (4294967296 : Int)) (by omega)) (.cons (inR_u64 (n := ((Qa * 4294967296 : Nat) : Int) + (Qb : Int)) (by omega)) (.cons (congrArg (Value.int .u64) (by rw [wrap_u64, wrap_u64, wrap_u64, wrap_u64]; omega : IntKind.u64.wrap ((IntKind.u64.wrap ((IntKind.u64.wrap ((Ra : Int) * (4294967296 : Int))) + (u0 : Int))) - (IntKind.u64.wrap ((Qb : Int) * (y : Int)))) = (Rb : Int))) (.cons (congrArg (Value.int .u64) (by omega : (Rb : Int) / 1 = (Rb : Int))) (.cons (by decide : (0 : Int) ≤ 0) (.cons (by decide : (0 : Int) ≤ (IntKind.u64.bits : Int)) .nil)))))) fun e38 a38 w38 hag hR hI => ?_
    refine wp_ret (oN tab [vU ((Qa * 4294967296) + Qb), vU Rb] hR hI ?_)
    have hsp : hi * 18446744073709551616 + lo = (hi * 4294967296 + u1) * 4294967296 + u0 := join_lo hdu1 hdu0
    obtain ⟨hj1, hj2⟩ := div_join (A := hi * 4294967296 + u1) (b := 4294967296) (u := u0) hrea.symm hy0
    rw [← hQb] at hj1; rw [← hRb_] at hj2
    exact ⟨by rw [hsp, hj1, hj2]; rfl, hB.fin hR⟩

theorem bitsDiv64z_spec {C : Nat → Prop} {w : World} {lo y : Nat} (hl : lo < 18446744073709551616) (hy : 0 < y) (hyb : y < 18446744073709551616) :
    Calls P 143 #[.int .u64 0, .int .u64 (lo : Int), .int .u64 (y : Int)] w fun ex w' => ex = .returned (.tuple #[.int .u64 ((lo / y : Nat) : Int), .int .u64 ((lo % y : Nat) : Int)]) ∧ KS w w' := by
 refine dN (C := C) [.v (.int .u64 0), vU lo, vU y] 135 3 Tryz.func143 fun a_ hI hR hB => ?_
 replace hI : Is 135 [] e0 [(0, .v (.int .u64 0)), (1, vU lo), (2, vU y)] a_ := hI
 refine rZ tab 0 [] [0, 1, 2] hR hI fun e1 a1 w1 hag hR hI => ?_
 refine wp_seq ?_
 refine rK tab 0 [(1, .eq (.bool false))] [] [(20, vB false)] [0, 1, 2] [] [] [] [] 0 hR hI (.cons (congrArg Value.bool (beq_eq_false_iff_ne.2 (by omega) : ((y : Int) == (0 : Int)) = false)) .nil) fun e2 a2 w2 hag hR hI => ?_
 refine cnd_f hI (by kernel_rfl) ?_
 refine wp_skip ?_
 refine then_n ?_
 refine wp_seq ?_
 refine rK tab 0 [(2, .eq (.bool false))] [] [(24, vB false)] [0, 1, 2] [] [] [] [] 0 hR hI (.cons (congrArg Value.bool (decide_eq_false (by omega) : (decide ((y : Int) ≤ (0 : Int))) = false)) .nil) fun e3 a3 w3 hag hR hI => ?_
 refine cnd_f hI (by kernel_rfl) ?_
 refine wp_skip ?_
 refine then_n ?_
 refine wp_seq ?_
 refine rZ tab 0 [(27, vB true)] [0, 1, 2] hR hI fun e4 a4 w4 hag hR hI => ?_
 refine cnd_t hI (by kernel_rfl) ?_
 refine regQ_seq tab (by kernel_rfl) (k := 0) (hs := [(2, .nw), (5, .nw)]) (gs := []) (ks := [7, 6])
   (L' := [(7, vU (lo % y)), (6, vU (lo / y))]) hR hI (by kernel_rfl) (fun _ _ _ _ _ h => h) (by kernel_rfl)
   (.cons (by have h_ := quo_in lo y; omega : (0 : Int) ≤ (lo : Int)) (.cons (by have h_ := quo_in lo y; omega : (0 : Int) < (y : Int)) (.cons (inR_u64 (n := (lo : Int) / (y : Int)) (by have h_ := quo_in lo y; omega)) (.cons (by omega : (0 : Int) ≤ (lo : Int)) (.cons (by omega : (0 : Int) < (y : Int)) .nil))))) (by kernel_rfl) (by kernel_rfl) (fun e5 a5 w5 hag hR hI => ?_)
 refine wp_ret ?_
 refine ret_then ?_
 refine oN tab [vU (lo / y), vU (lo % y)] hR hI ?_
 exact ⟨rfl, hB.fin hR⟩

theorem bitsDiv_spec {C : Nat → Prop} {w : World} {hi lo y : Nat} (hh : hi < y) (hl : lo < 18446744073709551616) (hy : 9223372036854775808 ≤ y) (hyb : y < 18446744073709551616) :
    Calls P 105 #[.int .u64 (hi : Int), .int .u64 (lo : Int), .int .u64 (y : Int)] w fun ex w' => ex = .returned (.tuple #[.int .u64 (((hi * 18446744073709551616 + lo) / y : Nat) : Int), .int .u64 (((hi * 18446744073709551616 + lo) % y : Nat) : Int)]) ∧ KS w w' := by
 refine dN (C := C) [vU hi, vU lo, vU y] 19 3 Tryz.func105 fun a_ hI hR hB => ?_
 replace hI : Is 19 [] e0 [(0, vU hi), (1, vU lo), (2, vU y)] a_ := hI
 refine rZ tab 0 [] [0, 1, 2] hR hI fun e1 a1 w1 hag hR hI => ?_
 refine wp_seq (reg (is := [0, 1, 2, 3, 4, 5, 6, 7, 8]) (by kernel_rfl) ?_)
 refine pZ tab [0, 1, 2] [3, 4, 5, 6, 7, 8] 0 [(13, vU y), (12, vU lo), (11, vU hi)] [] hR hI fun e2 a2 w2 hag hR hI => ?_
 refine cO [vU hi, vU lo, vU y] hI Tryz.func143 ?_
 refine (bitsDiv64_spec (C := C) hh hl hy hyb).mono ?_
 rintro ex w3 ⟨rfl, hk⟩
 replace hR := hR.same hk; clear hk
 refine ⟨_, rfl, ?_⟩
 replace hI := hI.pt 14 (.v (.tuple #[.int .u64 (((hi * 18446744073709551616 + lo) / y : Nat) : Int), .int .u64 (((hi * 18446744073709551616 + lo) % y : Nat) : Int)])) [14, 13, 12, 11]
 refine pZ tab [4, 5, 6, 7, 8] [] 0 [(9, vU ((hi * 18446744073709551616 + lo) % y)), (8, vU ((hi * 18446744073709551616 + lo) / y))] [] hR hI fun e4 a4 w4 hag hR hI => ?_
 refine ops_nil (then_n ?_)
 refine rZ tab 0 [(7, vU ((hi * 18446744073709551616 + lo) % y)), (6, vU ((hi * 18446744073709551616 + lo) / y))] [] hR hI fun e5 a5 w5 hag hR hI => ?_
 refine wp_ret (oN tab [vU ((hi * 18446744073709551616 + lo) / y), vU ((hi * 18446744073709551616 + lo) % y)] hR hI ?_)
 exact ⟨rfl, hB.fin hR⟩

theorem bitsDivz_spec {C : Nat → Prop} {w : World} {lo y : Nat} (hl : lo < 18446744073709551616) (hy : 0 < y) (hyb : y < 18446744073709551616) :
    Calls P 105 #[.int .u64 0, .int .u64 (lo : Int), .int .u64 (y : Int)] w fun ex w' => ex = .returned (.tuple #[.int .u64 ((lo / y : Nat) : Int), .int .u64 ((lo % y : Nat) : Int)]) ∧ KS w w' := by
 refine dN (C := C) [.v (.int .u64 0), vU lo, vU y] 19 3 Tryz.func105 fun a_ hI hR hB => ?_
 replace hI : Is 19 [] e0 [(0, .v (.int .u64 0)), (1, vU lo), (2, vU y)] a_ := hI
 refine rZ tab 0 [] [0, 1, 2] hR hI fun e1 a1 w1 hag hR hI => ?_
 refine wp_seq (reg (is := [0, 1, 2, 3, 4, 5, 6, 7, 8]) (by kernel_rfl) ?_)
 refine pZ tab [0, 1, 2] [3, 4, 5, 6, 7, 8] 0 [(13, vU y), (12, vU lo), (11, .v (.int .u64 0))] [] hR hI fun e2 a2 w2 hag hR hI => ?_
 refine cO [.v (.int .u64 0), vU lo, vU y] hI Tryz.func143 ?_
 refine (bitsDiv64z_spec (C := C) hl hy hyb).mono ?_
 rintro ex w3 ⟨rfl, hk⟩
 replace hR := hR.same hk; clear hk
 refine ⟨_, rfl, ?_⟩
 replace hI := hI.pt 14 (.v (.tuple #[.int .u64 ((lo / y : Nat) : Int), .int .u64 ((lo % y : Nat) : Int)])) [14, 13, 12, 11]
 refine pZ tab [4, 5, 6, 7, 8] [] 0 [(9, vU (lo % y)), (8, vU (lo / y))] [] hR hI fun e4 a4 w4 hag hR hI => ?_
 refine ops_nil (then_n ?_)
 refine rZ tab 0 [(7, vU (lo % y)), (6, vU (lo / y))] [] hR hI fun e5 a5 w5 hag hR hI => ?_
 refine wp_ret (oN tab [vU (lo / y), vU (lo % y)] hR hI ?_)
 exact ⟨rfl, hB.fin hR⟩

theorem shl_nw {x s : Nat} (h : x * 2 ^ s < 18446744073709551616) : IntKind.u64.wrap (((x : Nat) : Int) * 2 ^ s) = ((x * 2 ^ s : Nat) : Int) := by
 have e : ((x : Nat) : Int) * 2 ^ s = ((x * 2 ^ s : Nat) : Int) := by simp
 rw [e, wrap_inR (inR_u64 (by omega))]
theorem shl_md {x s : Nat} : IntKind.u64.wrap (((x : Nat) : Int) * 2 ^ s) = ((x * 2 ^ s % 18446744073709551616 : Nat) : Int) := by
 have e : ((x : Nat) : Int) * 2 ^ s = ((x * 2 ^ s : Nat) : Int) := by simp
 rw [e, wrap_u64_nat]
theorem u64_not (x : Nat) (h : x < 18446744073709551616) : bits .xor .u64 (18446744073709551615 : Int) ((x : Nat) : Int) = ((18446744073709551615 - x : Nat) : Int) := by
 have h0 : (BitVec.ofInt 64 (18446744073709551615 : Int) ^^^ BitVec.ofInt 64 ((x : Nat) : Int)).toNat = 18446744073709551615 - x := by
  have h1 : BitVec.ofInt 64 (18446744073709551615 : Int) = BitVec.allOnes 64 := by decide
  have h2 : BitVec.ofInt 64 ((x : Nat) : Int) = BitVec.ofNat 64 x := by simp
  rw [h1, h2, BitVec.allOnes_xor, BitVec.toNat_not, BitVec.toNat_ofNat, Nat.mod_eq_of_lt h]
 show IntKind.u64.wrap ((BitVec.ofInt 64 (18446744073709551615 : Int) ^^^ BitVec.ofInt 64 ((x : Nat) : Int)).toNat : Int) = _
 rw [h0, wrap_inR (inR_u64 (by omega))]
theorem shr_nat {x s : Nat} : ((x : Nat) : Int) / 2 ^ s = ((x / 2 ^ s : Nat) : Int) := by simp
theorem u64_or (x y : Nat) (hx : x < 18446744073709551616) (hy : y < 18446744073709551616) : bits .or .u64 ((x : Nat) : Int) ((y : Nat) : Int) = ((x ||| y : Nat) : Int) :=
 (bits_nat .u64 64 (by decide) (fun n h0 h1 => by rw [wrap_u64]; omega) x y hx hy).2

theorem reciprocalWord_spec {C : Nat → Prop} {w : World} {d : Nat} (hd : 0 < d) (hdb : d < 18446744073709551616) :
    Calls P 106 #[.int .u64 (d : Int)] w fun ex w' => ∃ m : Nat, ex = .returned (.int .u64 (m : Int)) ∧ KS w w' ∧ Recip m (d * 2 ^ (64 - lent d)) ∧ m < 18446744073709551616 := by
 refine dN (C := C) [vU d] 22 1 Tryz.func106 fun a_ hI hR hB => ?_
 replace hI : Is 22 [] e0 [(0, vU d)] a_ := hI
 refine rZ tab 0 [] [0] hR hI fun e1 a1 w1 hag hR hI => ?_
 refine wp_seq (reg (is := [0, 1, 2, 3, 4]) (by kernel_rfl) ?_)
 refine pZ tab [0, 1] [2, 3, 4] 0 [(9, vU d), (8, vU d)] [] hR hI fun e2 a2 w2 hag hR hI => ?_
 refine cO [vU d] hI Tryz.func83 ?_
 refine (nlz_spec (C := C) (x := d) hdb).mono ?_
 rintro ex w3 ⟨rfl, hk⟩
 replace hR := hR.same hk; clear hk
 refine ⟨_, rfl, ?_⟩
 replace hI := hI.pt 10 (vU (64 - lent d)) [10, 9, 8]
 refine pK tab [3, 4] [] 0 [(3, .eq (.int .u64 ((d * 2 ^ (64 - lent d) : Nat) : Int)))] [] [(3, vU (d * 2 ^ (64 - lent d)))] [] [] [] [] [] 0 hR hI (.cons (congrArg (Value.int .u64) (shl_nw (lent_shift hd hdb).2.1 : IntKind.u64.wrap ((d : Int) * 2 ^ (64 - lent d)) = ((d * 2 ^ (64 - lent d) : Nat) : Int))) (.cons (by omega : (0 : Int) ≤ ((64 - lent d : Nat) : Int)) (.cons (by show _ ≤ (64 : Int); omega : ((64 - lent d : Nat) : Int) ≤ (IntKind.u64.bits : Int)) .nil))) fun e4 a4 w4 hag hR hI => ?_
 refine ops_nil (then_n ?_)
 obtain ⟨u, hu⟩ : ∃ u_, u_ = d * 2 ^ (64 - lent d) := ⟨_, rfl⟩
 obtain ⟨hu1, hu2, hu3⟩ := lent_shift hd hdb
 rw [← hu] at hu1 hu2
 replace hI := hI.re 3 (vU u) rfl (congrArg (Value.int .u64) (by rw [hu]))
 refine rK tab 0 [(1, .eq (.int .u64 ((18446744073709551615 - u : Nat) : Int)))] [] [(4, vU (18446744073709551615 - u))] [3] [] [] [] [] 0 hR hI (.cons (congrArg (Value.int .u64) (u64_not u hu2 : bits .xor .u64 18446744073709551615 (u : Int) = ((18446744073709551615 - u : Nat) : Int))) .nil) fun e5 a5 w5 hag hR hI => ?_
 refine rZ tab 0 [(5, .v (.int .u64 18446744073709551615))] [4, 3] hR hI fun e6 a6 w6 hag hR hI => ?_
 refine wp_seq (reg (is := [0, 1, 2, 3, 4, 5, 6, 7, 8]) (by kernel_rfl) ?_)
 refine pZ tab [0, 1, 2] [3, 4, 5, 6, 7, 8] 0 [(17, vU u), (16, .v (.int .u64 18446744073709551615)), (15, vU (18446744073709551615 - u))] [] hR hI fun e7 a7 w7 hag hR hI => ?_
 refine cO [vU (18446744073709551615 - u), .v (.int .u64 18446744073709551615), vU u] hI Tryz.func105 ?_
 refine (bitsDiv_spec (C := C) (hi := 18446744073709551615 - u) (lo := 18446744073709551615) (y := u) (by omega) (by decide) hu1 hu2).mono ?_
 rintro ex w8 ⟨rfl, hk⟩
 replace hR := hR.same hk; clear hk
 refine ⟨_, rfl, ?_⟩
 replace hI := hI.pt 18 (.v (.tuple #[.int .u64 ((((18446744073709551615 - u) * 18446744073709551616 + 18446744073709551615) / u : Nat) : Int), .int .u64 ((((18446744073709551615 - u) * 18446744073709551616 + 18446744073709551615) % u : Nat) : Int)])) [18, 17, 16, 15]
 refine pZ tab [4, 5, 6, 7, 8] [] 0 [(6, vU (((18446744073709551615 - u) * 18446744073709551616 + 18446744073709551615) / u))] [] hR hI fun e9 a9 w9 hag hR hI => ?_
 refine ops_nil (then_n ?_)
 refine rZ tab 0 [(2, vU (((18446744073709551615 - u) * 18446744073709551616 + 18446744073709551615) / u))] [] hR hI fun e10 a10 w10 hag hR hI => ?_
 refine wp_ret (oN tab [vU (((18446744073709551615 - u) * 18446744073709551616 + 18446744073709551615) / u)] hR hI ?_)
 exact ⟨_, rfl, hB.fin hR, by rw [← hu]; exact recip_of hu1 hu2, by rw [show (18446744073709551616 : Nat) = 18446744073709551615 + 1 from rfl]; exact quot_lt (by omega) (by omega)⟩

theorem divWW_spec {C : Nat → Prop} {w : World} {x1 x0 y m : Nat} (hx : x1 < y) (hx0 : x0 < 18446744073709551616) (hy : 0 < y) (hyb : y < 18446744073709551616) (hm : Recip m (y * 2 ^ (64 - lent y))) (hmb : m < 18446744073709551616) :
    Calls P 107 #[.int .u64 (x1 : Int), .int .u64 (x0 : Int), .int .u64 (y : Int), .int .u64 (m : Int)] w fun ex w' => ∃ q r : Nat, ex = .returned (.tuple #[.int .u64 (q : Int), .int .u64 (r : Int)]) ∧ KS w w' ∧ q * y + r = 18446744073709551616 * x1 + x0 ∧ r < y ∧ q < 18446744073709551616 := by
 refine dN (C := C) [vU x1, vU x0, vU y, vU m] 100 4 Tryz.func107 fun a_ hI hR hB => ?_
 replace hI : Is 100 [] e0 [(0, vU x1), (1, vU x0), (2, vU y), (3, vU m)] a_ := hI
 refine rZ tab 0 [] [0, 1, 2, 3] hR hI fun e1 a1 w1 hag hR hI => ?_
 refine wp_seq (reg (is := [0, 1, 2]) (by kernel_rfl) ?_)
 refine pZ tab [0] [1, 2] 0 [(23, vU y)] [0, 1, 2, 3] hR hI fun e2 a2 w2 hag hR hI => ?_
 refine cO [vU y] hI Tryz.func83 ?_
 refine (nlz_spec (C := C) (x := y) hyb).mono ?_
 rintro ex w3 ⟨rfl, hk⟩
 replace hR := hR.same hk; clear hk
 refine ⟨_, rfl, ?_⟩
 replace hI := hI.pt 24 (vU (64 - lent y)) [24, 23, 0, 1, 2, 3]
 refine pZ tab [2] [] 0 [(10, vU (64 - lent y))] [0, 1, 2, 3] hR hI fun e4 a4 w4 hag hR hI => ?_
 refine ops_nil (then_n ?_)
 obtain ⟨s, hs⟩ : ∃ s_, s_ = 64 - lent y := ⟨_, rfl⟩
 obtain ⟨hl1, hl2, hl3⟩ := lent_shift hy hyb
 have hl4 := (lent_pos hy).2.2
 rw [← hs] at hl1 hl2 hm
 replace hI := hI.re 10 (vU s) rfl (congrArg (Value.int .u64) (by rw [hs]))
 refine wp_seq ?_
 refine rZ tab 0 [(26, vB ((s : Int) != (0 : Int)))] [10, 0, 1, 2, 3] hR hI fun e5 a5 w5 hag hR hI => ?_
 refine join (γ := Nat × Nat × Nat) hR hI (fun (X1, X0, D) => (⟨[(0, vU X1), (1, vU X0), (2, vU D), (3, vU m), (10, vU s)], [], [], 0⟩ : Sy)) (fun (X1, X0, D) e => X1 < D ∧ X0 < 18446744073709551616 ∧ 9223372036854775808 ≤ D ∧ D < 18446744073709551616 ∧ Held (18446744073709551616 * X1 + X0 = (18446744073709551616 * x1 + x0) * 2 ^ s ∧ D = y * 2 ^ s)) ?_ ?_
 ·
  refine cnd (b := ((s : Int) != (0 : Int))) hI (by kernel_rfl) (fun hc6 => ?_) (fun hc6 => ?_)
  ·
   replace hI := hI.rb 26 hc6
   try simp only [tolds] at hc6
   have hs0 : 0 < s := by omega
   obtain ⟨hk1, hk2, hk3, hk4⟩ := shl_two hs0 (by omega) hx0 hx hl2
   refine rK tab 0 [(2, .eq (.int .u64 ((x1 * 2 ^ s : Nat) : Int))), (5, .eq (.int .u64 ((64 - s : Nat) : Int))), (6, .eq (.int .u64 ((x0 / 2 ^ (64 - s) : Nat) : Int))), (7, .eq (.int .u64 ((x1 * 2 ^ s + x0 / 2 ^ (64 - s) : Nat) : Int)))] [] [(0, vU (x1 * 2 ^ s + x0 / 2 ^ (64 - s)))] [10, 1, 2, 3] [] [] [] [] 0 hR hI (.cons (congrArg (Value.int .u64) (shl_nw hk1 : IntKind.u64.wrap ((x1 : Int) * 2 ^ s) = ((x1 * 2 ^ s : Nat) : Int))) (.cons (by omega : (0 : Int) ≤ (s : Int)) (.cons (by show _ ≤ (64 : Int); omega : (s : Int) ≤ (IntKind.u64.bits : Int)) (.cons (congrArg (Value.int .u64) (by rw [wrap_inR (inR_u64 (by omega))]; omega : IntKind.u64.wrap ((64 : Int) - (s : Int)) = ((64 - s : Nat) : Int))) (.cons (congrArg (Value.int .u64) (shr_nat : (x0 : Int) / 2 ^ (64 - s) = ((x0 / 2 ^ (64 - s) : Nat) : Int))) (.cons (by omega : (0 : Int) ≤ ((64 - s : Nat) : Int)) (.cons (by show _ ≤ (64 : Int); omega : ((64 - s : Nat) : Int) ≤ (IntKind.u64.bits : Int)) (.cons (congrArg (Value.int .u64) ((u64_or _ _ hk1 (by omega)).trans (by rw [or_shl hk2]) : bits .or .u64 ((x1 * 2 ^ s : Nat) : Int) ((x0 / 2 ^ (64 - s) : Nat) : Int) = ((x1 * 2 ^ s + x0 / 2 ^ (64 - s) : Nat) : Int))) .nil)))))))) fun e7 a7 w7 hag hR hI => ?_
   refine rK tab 0 [(2, .eq (.int .u64 ((x0 * 2 ^ s % 18446744073709551616 : Nat) : Int)))] [] [(1, vU (x0 * 2 ^ s % 18446744073709551616))] [0, 10, 2, 3] [] [] [] [] 0 hR hI (.cons (congrArg (Value.int .u64) (shl_md : IntKind.u64.wrap ((x0 : Int) * 2 ^ s) = ((x0 * 2 ^ s % 18446744073709551616 : Nat) : Int))) (.cons (by omega : (0 : Int) ≤ (s : Int)) (.cons (by show _ ≤ (64 : Int); omega : (s : Int) ≤ (IntKind.u64.bits : Int)) .nil))) fun e8 a8 w8 hag hR hI => ?_
   refine aK tab 0 [(2, .eq (.int .u64 ((y * 2 ^ s : Nat) : Int)))] [] [(2, vU (y * 2 ^ s))] [1, 0, 10, 3] [] [] [] [] 0 hR hI (.cons (congrArg (Value.int .u64) (shl_nw hl2 : IntKind.u64.wrap ((y : Int) * 2 ^ s) = ((y * 2 ^ s : Nat) : Int))) (.cons (by omega : (0 : Int) ≤ (s : Int)) (.cons (by show _ ≤ (64 : Int); omega : (s : Int) ≤ (IntKind.u64.bits : Int)) .nil))) fun e9 a9 w9 hag hR hI => ?_
   refine then_n ?_
   exact ⟨(x1 * 2 ^ s + x0 / 2 ^ (64 - s), x0 * 2 ^ s % 18446744073709551616, y * 2 ^ s), e9, ⟨hk3, Nat.mod_lt _ (by decide), hl1, hl2, held ⟨hk4, rfl⟩⟩, hR.sel [] [] (by kernel_rfl) (by kernel_rfl), hI.sel [0, 1, 2, 3, 10] (by kernel_rfl)⟩
  ·
   replace hI := hI.rb 26 hc6
   try simp only [tolds] at hc6
   have hs0 : s = 0 := by omega
   refine wp_skip ?_
   refine then_n ?_
   exact ⟨(x1, x0, y), e5, ⟨hx, hx0, by rw [hs0, Nat.pow_zero, Nat.mul_one] at hl1; exact hl1, hyb, held ⟨by rw [hs0, Nat.pow_zero, Nat.mul_one], by rw [hs0, Nat.pow_zero, Nat.mul_one]⟩⟩, hR.sel [] [] (by kernel_rfl) (by kernel_rfl), hI.sel [0, 1, 2, 3, 10] (by kernel_rfl)⟩
 ·
  clear hR hI
  rintro ⟨X1, X0, D⟩ e10 a10 w10 hp hR hI
  dsimp only at hp hR hI
  obtain ⟨hX1, hX0, hD1, hD2, hXh⟩ := hp
  rw [← hXh.out.2] at hm
  clear hl1 hl2
  obtain ⟨hq1, hq2, hq3⟩ := recipL (by omega) hD2 hm.1 hm.2 hX1 hX0
  have hXD := dw_x hX1 hX0
  refine rZ tab 0 [(11, vU D)] [0, 1, 3, 10] hR hI fun e11 a11 w11 hag hR hI => ?_
  refine wp_seq (reg (is := [0, 1, 2, 3, 4, 5, 6, 7]) (by kernel_rfl) ?_)
  refine pZ tab [0, 1] [2, 3, 4, 5, 6, 7] 0 [(44, vU X1), (43, vU m)] [11, 0, 1, 10] hR hI fun e12 a12 w12 hag hR hI => ?_
  refine cO [vU m, vU X1] hI Tryz.func144 ?_
  refine (mul_spec (C := C) (x := m) (y := X1) hmb (by omega)).mono ?_
  rintro ex w13 ⟨t1, t0, rfl, hk, he7, ht1, ht0⟩
  replace hR := hR.same hk; clear hk
  refine ⟨_, rfl, ?_⟩
  replace hI := hI.pt 45 (.v (.tuple #[.int .u64 (t1 : Int), .int .u64 (t0 : Int)])) [45, 44, 43, 11, 0, 1, 10]
  refine pZ tab [3, 4, 5, 6, 7] [] 0 [(13, vU t0), (12, vU t1)] [11, 0, 1, 10] hR hI fun e14 a14 w14 hag hR hI => ?_
  refine ops_nil (then_n ?_)
  refine wp_seq (reg (is := [0, 1, 2, 3, 4, 5, 6, 7]) (by kernel_rfl) ?_)
  refine pZ tab [0, 1] [2, 3, 4, 5, 6, 7] 0 [(50, vU X0), (49, vU t0)] [12, 11, 0, 1, 10] hR hI fun e15 a15 w15 hag hR hI => ?_
  refine cO [vU t0, vU X0, .v (.int .u64 0)] hI Tryz.func145 ?_
  refine (add_spec (C := C) (x := t0) (y := X0) (c := 0) ht0 hX0 (by decide)).mono ?_
  rintro ex w16 ⟨z8, c8, rfl, hk, he8, hz8, hc8⟩
  replace hR := hR.same hk; clear hk
  refine ⟨_, rfl, ?_⟩
  replace hI := hI.pt 51 (.v (.tuple #[.int .u64 (z8 : Int), .int .u64 (c8 : Int)])) [51, 50, 49, 12, 11, 0, 1, 10]
  refine pZ tab [3, 4, 5, 6, 7] [] 0 [(15, vU c8)] [12, 11, 0, 1, 10] hR hI fun e17 a17 w17 hag hR hI => ?_
  refine ops_nil (then_n ?_)
  refine wp_seq (reg (is := [0, 1, 2, 3, 4, 5, 6, 7]) (by kernel_rfl) ?_)
  refine pZ tab [0, 1, 2] [3, 4, 5, 6, 7] 0 [(57, vU c8), (56, vU X1), (55, vU t1)] [12, 11, 0, 1, 10] hR hI fun e18 a18 w18 hag hR hI => ?_
  refine cO [vU t1, vU X1, vU c8] hI Tryz.func145 ?_
  refine (add_spec (C := C) (x := t1) (y := X1) (c := c8) ht1 (by omega) hc8).mono ?_
  rintro ex w19 ⟨qq, d9, rfl, hk, he9, hqq, hd9⟩
  replace hR := hR.same hk; clear hk
  have hqe := dw_q he7 he8 hz8 he9 hq1 hqq
  rw [← hqe] at hq1 hq2 hq3
  clear hqe
  refine ⟨_, rfl, ?_⟩
  replace hI := hI.pt 58 (.v (.tuple #[.int .u64 (qq : Int), .int .u64 (d9 : Int)])) [58, 57, 56, 55, 12, 11, 0, 1, 10]
  refine pZ tab [4, 5, 6, 7] [] 0 [(12, vU qq)] [11, 0, 1, 10] hR hI fun e20 a20 w20 hag hR hI => ?_
  refine ops_nil (then_n ?_)
  refine rZ tab 0 [(16, vU qq)] [11, 0, 1, 10] hR hI fun e21 a21 w21 hag hR hI => ?_
  refine wp_seq (reg (is := [0, 1, 2, 3, 4, 5, 6, 7]) (by kernel_rfl) ?_)
  refine pZ tab [0, 1] [2, 3, 4, 5, 6, 7] 0 [(64, vU qq), (63, vU D)] [16, 11, 0, 1, 10] hR hI fun e22 a22 w22 hag hR hI => ?_
  refine cO [vU D, vU qq] hI Tryz.func144 ?_
  refine (mul_spec (C := C) (x := D) (y := qq) hD2 hqq).mono ?_
  rintro ex w23 ⟨dq1, dq0, rfl, hk, he11, hdq1, hdq0⟩
  replace hR := hR.same hk; clear hk
  refine ⟨_, rfl, ?_⟩
  replace hI := hI.pt 65 (.v (.tuple #[.int .u64 (dq1 : Int), .int .u64 (dq0 : Int)])) [65, 64, 63, 16, 11, 0, 1, 10]
  refine pZ tab [3, 4, 5, 6, 7] [] 0 [(18, vU dq0), (17, vU dq1)] [16, 11, 0, 1, 10] hR hI fun e24 a24 w24 hag hR hI => ?_
  refine ops_nil (then_n ?_)
  refine wp_seq (reg (is := [0, 1, 2, 3, 4, 5, 6, 7]) (by kernel_rfl) ?_)
  refine pZ tab [0, 1] [2, 3, 4, 5, 6, 7] 0 [(70, vU dq0), (69, vU X0)] [17, 16, 11, 0, 10] hR hI fun e25 a25 w25 hag hR hI => ?_
  refine cO [vU X0, vU dq0, .v (.int .u64 0)] hI Tryz.func142 ?_
  refine (sub_spec (C := C) (x := X0) (y := dq0) (c := 0) hX0 hdq0 (by decide)).mono ?_
  rintro ex w26 ⟨r0, b1, rfl, hk, he12, hr0, hb1⟩
  replace hR := hR.same hk; clear hk
  refine ⟨_, rfl, ?_⟩
  replace hI := hI.pt 71 (.v (.tuple #[.int .u64 (r0 : Int), .int .u64 (b1 : Int)])) [71, 70, 69, 17, 16, 11, 0, 10]
  refine pZ tab [3, 4, 5, 6, 7] [] 0 [(20, vU b1), (19, vU r0)] [17, 16, 11, 0, 10] hR hI fun e27 a27 w27 hag hR hI => ?_
  refine ops_nil (then_n ?_)
  refine wp_seq (reg (is := [0, 1, 2, 3, 4, 5, 6, 7, 8]) (by kernel_rfl) ?_)
  refine pZ tab [0, 1, 2] [3, 4, 5, 6, 7, 8] 0 [(77, vU b1), (76, vU dq1), (75, vU X1)] [19, 16, 11, 10] hR hI fun e28 a28 w28 hag hR hI => ?_
  refine cO [vU X1, vU dq1, vU b1] hI Tryz.func142 ?_
  refine (sub_spec (C := C) (x := X1) (y := dq1) (c := b1) (by omega) hdq1 hb1).mono ?_
  rintro ex w29 ⟨r1, b2, rfl, hk, he13, hr1, hb2⟩
  replace hR := hR.same hk; clear hk
  have hre := dw_r he11 he12 he13 hq2 hr1 hr0
  have hr11 := dw_one (b := 18446744073709551616) (r1 := r1) (r0 := r0) (D := D) (by omega) hD2
  have hr1c : r1 = 0 ∨ r1 = 1 := by omega
  refine ⟨_, rfl, ?_⟩
  replace hI := hI.pt 78 (.v (.tuple #[.int .u64 (r1 : Int), .int .u64 (b2 : Int)])) [78, 77, 76, 75, 19, 16, 11, 10]
  refine pZ tab [4, 5, 6, 7, 8] [] 0 [(21, vU r1)] [19, 16, 11, 10] hR hI fun e30 a30 w30 hag hR hI => ?_
  refine ops_nil (then_n ?_)
  refine wp_seq ?_
  refine rZ tab 0 [(82, vB ((r1 : Int) != (0 : Int)))] [19, 16, 11, 10] hR hI fun e31 a31 w31 hag hR hI => ?_
  refine cnd (b := ((r1 : Int) != (0 : Int))) hI (by kernel_rfl) (fun hc32 => ?_) (fun hc32 => ?_)
  ·
   replace hI := hI.rb 82 hc32
   try simp only [tolds] at hc32
   obtain rfl : r1 = 1 := by omega
   obtain ⟨hf1, hf2⟩ := dw_fin (k := 1) (Rf := r0 + 18446744073709551616 - D) hre (by omega) hXD
   refine rK tab 0 [(1, .nw)] [] [(16, vU (qq + 1))] [19, 11, 10] [] [] [] [] 0 hR hI (.cons (inR_u64 (n := (qq : Int) + (1 : Int)) (by omega)) .nil) fun e33 a33 w33 hag hR hI => ?_
   refine aK tab 0 [(2, .eq (.int .u64 ((r0 + 18446744073709551616 - D : Nat) : Int)))] [] [(19, vU (r0 + 18446744073709551616 - D))] [16, 11, 10] [] [] [] [] 0 hR hI (.cons (congrArg (Value.int .u64) (by rw [wrap_u64]; omega : IntKind.u64.wrap ((r0 : Int) - (D : Int)) = ((r0 + 18446744073709551616 - D : Nat) : Int))) .nil) fun e34 a34 w34 hag hR hI => ?_
   refine then_n ?_
   refine wp_seq ?_
   refine rZ tab 0 [(90, vB (decide (((r0 + 18446744073709551616 - D : Nat) : Int) ≥ (D : Int))))] [19, 16, 11, 10] hR hI fun e35 a35 w35 hag hR hI => ?_
   refine cnd (b := decide (((r0 + 18446744073709551616 - D : Nat) : Int) ≥ (D : Int))) hI (by kernel_rfl) (fun hc36 => ?_) (fun hc36 => ?_)
   ·
    replace hI := hI.rb 90 hc36
    try simp only [tolds] at hc36
    obtain ⟨hg1, hg2⟩ := dw_fin (k := 2) (Rf := r0 + 18446744073709551616 - D - D) hre (by omega) hXD
    refine rK tab 0 [(1, .nw)] [] [(16, vU ((qq + 1) + 1))] [19, 11, 10] [] [] [] [] 0 hR hI (.cons (inR_u64 (n := ((qq + 1 : Nat) : Int) + (1 : Int)) (by omega)) .nil) fun e37 a37 w37 hag hR hI => ?_
    refine aK tab 0 [(2, .eq (.int .u64 ((r0 + 18446744073709551616 - D - D : Nat) : Int)))] [] [(19, vU (r0 + 18446744073709551616 - D - D))] [16, 10] [] [] [] [] 0 hR hI (.cons (congrArg (Value.int .u64) (by rw [wrap_inR (inR_u64 (by omega))]; omega : IntKind.u64.wrap (((r0 + 18446744073709551616 - D : Nat) : Int) - (D : Int)) = ((r0 + 18446744073709551616 - D - D : Nat) : Int))) .nil) fun e38 a38 w38 hag hR hI => ?_
    refine then_n ?_
    refine rK tab 0 [(3, .eq (.int .u64 (((r0 + 18446744073709551616 - D - D) / 2 ^ s : Nat) : Int)))] [] [(9, vU ((r0 + 18446744073709551616 - D - D) / 2 ^ s)), (8, vU ((qq + 1) + 1))] [] [] [] [] [] 0 hR hI (.cons (congrArg (Value.int .u64) (shr_nat : ((r0 + 18446744073709551616 - D - D : Nat) : Int) / 2 ^ s = (((r0 + 18446744073709551616 - D - D) / 2 ^ s : Nat) : Int))) (.cons (by omega : (0 : Int) ≤ (s : Int)) (.cons (by show _ ≤ (64 : Int); omega : (s : Int) ≤ (IntKind.u64.bits : Int)) .nil))) fun e39 a39 w39 hag hR hI => ?_
    refine wp_ret (oN tab [vU ((qq + 1) + 1), vU ((r0 + 18446744073709551616 - D - D) / 2 ^ s)] hR hI ?_)
    have hz := div_scale (X := 18446744073709551616 * x1 + x0) (y := y) (q := qq + 2) (R := r0 + 18446744073709551616 - D - D) (k := 2 ^ s) (by rw [← hXh.out.2, ← hXh.out.1]; exact hg1) (by rw [← hXh.out.2]; omega) (Nat.two_pow_pos s)
    exact ⟨_, _, rfl, hB.fin hR, hz.1, hz.2, hg2⟩
   ·
    replace hI := hI.rb 90 hc36
    try simp only [tolds] at hc36
    obtain ⟨hg1, hg2⟩ := dw_fin (k := 1) (Rf := r0 + 18446744073709551616 - D) hre (by omega) hXD
    refine wp_skip ?_
    refine then_n ?_
    refine rK tab 0 [(3, .eq (.int .u64 (((r0 + 18446744073709551616 - D) / 2 ^ s : Nat) : Int)))] [] [(9, vU ((r0 + 18446744073709551616 - D) / 2 ^ s)), (8, vU (qq + 1))] [] [] [] [] [] 0 hR hI (.cons (congrArg (Value.int .u64) (shr_nat : ((r0 + 18446744073709551616 - D : Nat) : Int) / 2 ^ s = (((r0 + 18446744073709551616 - D) / 2 ^ s : Nat) : Int))) (.cons (by omega : (0 : Int) ≤ (s : Int)) (.cons (by show _ ≤ (64 : Int); omega : (s : Int) ≤ (IntKind.u64.bits : Int)) .nil))) fun e40 a40 w40 hag hR hI => ?_
    refine wp_ret (oN tab [vU (qq + 1), vU ((r0 + 18446744073709551616 - D) / 2 ^ s)] hR hI ?_)
    have hz := div_scale (X := 18446744073709551616 * x1 + x0) (y := y) (q := qq + 1) (R := r0 + 18446744073709551616 - D) (k := 2 ^ s) (by rw [← hXh.out.2, ← hXh.out.1]; exact hg1) (by rw [← hXh.out.2]; omega) (Nat.two_pow_pos s)
    exact ⟨_, _, rfl, hB.fin hR, hz.1, hz.2, hg2⟩
  ·
   replace hI := hI.rb 82 hc32
   try simp only [tolds] at hc32
   obtain rfl : r1 = 0 := by omega
   refine wp_skip ?_
   refine then_n ?_
   refine wp_seq ?_
   refine rZ tab 0 [(90, vB (decide ((r0 : Int) ≥ (D : Int))))] [19, 16, 11, 10] hR hI fun e41 a41 w41 hag hR hI => ?_
   refine cnd (b := decide ((r0 : Int) ≥ (D : Int))) hI (by kernel_rfl) (fun hc42 => ?_) (fun hc42 => ?_)
   ·
    replace hI := hI.rb 90 hc42
    try simp only [tolds] at hc42
    obtain ⟨hg1, hg2⟩ := dw_fin (k := 1) (Rf := r0 - D) hre (by omega) hXD
    refine rK tab 0 [(1, .nw)] [] [(16, vU (qq + 1))] [19, 11, 10] [] [] [] [] 0 hR hI (.cons (inR_u64 (n := (qq : Int) + (1 : Int)) (by omega)) .nil) fun e43 a43 w43 hag hR hI => ?_
    refine aK tab 0 [(2, .eq (.int .u64 ((r0 - D : Nat) : Int)))] [] [(19, vU (r0 - D))] [16, 10] [] [] [] [] 0 hR hI (.cons (congrArg (Value.int .u64) (by rw [wrap_inR (inR_u64 (by omega))]; omega : IntKind.u64.wrap ((r0 : Int) - (D : Int)) = ((r0 - D : Nat) : Int))) .nil) fun e44 a44 w44 hag hR hI => ?_
    refine then_n ?_
    refine rK tab 0 [(3, .eq (.int .u64 (((r0 - D) / 2 ^ s : Nat) : Int)))] [] [(9, vU ((r0 - D) / 2 ^ s)), (8, vU (qq + 1))] [] [] [] [] [] 0 hR hI (.cons (congrArg (Value.int .u64) (shr_nat : ((r0 - D : Nat) : Int) / 2 ^ s = (((r0 - D) / 2 ^ s : Nat) : Int))) (.cons (by omega : (0 : Int) ≤ (s : Int)) (.cons (by show _ ≤ (64 : Int); omega : (s : Int) ≤ (IntKind.u64.bits : Int)) .nil))) fun e45 a45 w45 hag hR hI => ?_
    refine wp_ret (oN tab [vU (qq + 1), vU ((r0 - D) / 2 ^ s)] hR hI ?_)
    have hz := div_scale (X := 18446744073709551616 * x1 + x0) (y := y) (q := qq + 1) (R := r0 - D) (k := 2 ^ s) (by rw [← hXh.out.2, ← hXh.out.1]; exact hg1) (by rw [← hXh.out.2]; omega) (Nat.two_pow_pos s)
    exact ⟨_, _, rfl, hB.fin hR, hz.1, hz.2, hg2⟩
   ·
    replace hI := hI.rb 90 hc42
    try simp only [tolds] at hc42
    obtain ⟨hg1, hg2⟩ := dw_fin (k := 0) (Rf := r0) hre (by omega) hXD
    refine wp_skip ?_
    refine then_n ?_
    refine rK tab 0 [(3, .eq (.int .u64 ((r0 / 2 ^ s : Nat) : Int)))] [] [(9, vU (r0 / 2 ^ s)), (8, vU qq)] [] [] [] [] [] 0 hR hI (.cons (congrArg (Value.int .u64) (shr_nat : (r0 : Int) / 2 ^ s = ((r0 / 2 ^ s : Nat) : Int))) (.cons (by omega : (0 : Int) ≤ (s : Int)) (.cons (by show _ ≤ (64 : Int); omega : (s : Int) ≤ (IntKind.u64.bits : Int)) .nil))) fun e46 a46 w46 hag hR hI => ?_
    refine wp_ret (oN tab [vU qq, vU (r0 / 2 ^ s)] hR hI ?_)
    have hz := div_scale (X := 18446744073709551616 * x1 + x0) (y := y) (q := qq + 0) (R := r0) (k := 2 ^ s) (by rw [← hXh.out.2, ← hXh.out.1]; exact hg1) (by rw [← hXh.out.2]; omega) (Nat.two_pow_pos s)
    exact ⟨_, _, rfl, hB.fin hR, hz.1, hz.2, hg2⟩

theorem mav_step {rs xs : List Nat} {i cc y r h l : Nat} (hl : rs.length = i) (hv : nval rs + pn i * cc = nval (xs.take i) * y + r) (he : 18446744073709551616 * h + l = xs.getD i 0 * y + cc) :
  nval (rs ++ [l]) + pn (i + 1) * h = nval (xs.take (i + 1)) * y + r := by
 rw [nval_snoc, hl, nval_take_succ, pn_succ]
 generalize nval rs = A at *
 generalize nval (xs.take i) = X at *
 generalize xs.getD i 0 = x at *
 have e1 : pn i * (18446744073709551616 * h + l) = pn i * (x * y + cc) := by rw [he]
 generalize pn i = p at *
 grind
abbrev seg (zs : List Nat) (o n : Nat) : List Nat := (zs.drop o).take n
theorem seg_length {zs : List Nat} {o n : Nat} (h : o + n ≤ zs.length) : (seg zs o n).length = n := by rw [List.length_take, List.length_drop]; omega
theorem seg_succ (zs : List Nat) (o i : Nat) : nval (seg zs o (i + 1)) = nval (seg zs o i) + pn i * zs.getD (o + i) 0 := by
 rw [nval_take_succ, getD_drop]
theorem seg_dig {zs : List Nat} (h : Ndig zs) (o n : Nat) : Ndig (seg zs o n) := ndig_take (ndig_drop h o) n
theorem sub_vstep {rs ys zs : List Nat} {oz i b b2 z : Nat} (hl : rs.length = i) (hv : nval rs + nval (ys.take i) = nval (seg zs oz i) + pn i * b) (hs : z + ys.getD i 0 + b = zs.getD (oz + i) 0 + 18446744073709551616 * b2) :
  nval (rs ++ [z]) + nval (ys.take (i + 1)) = nval (seg zs oz (i + 1)) + pn (i + 1) * b2 := by
 rw [nval_snoc, hl, seg_succ, nval_take_succ ys, pn_succ]
 generalize nval rs = A at *
 generalize nval (ys.take i) = Y at *
 generalize nval (seg zs oz i) = Z at *
 generalize ys.getD i 0 = y at *
 generalize zs.getD (oz + i) 0 = x at *
 have e1 : pn i * (z + y + b) = pn i * (x + 18446744073709551616 * b2) := by rw [hs]
 generalize pn i = p at *
 grind
theorem add_vstep {rs ys zs : List Nat} {oz i c c2 z : Nat} (hl : rs.length = i) (hv : nval rs + pn i * c = nval (seg zs oz i) + nval (ys.take i)) (hs : z + 18446744073709551616 * c2 = zs.getD (oz + i) 0 + ys.getD i 0 + c) :
  nval (rs ++ [z]) + pn (i + 1) * c2 = nval (seg zs oz (i + 1)) + nval (ys.take (i + 1)) := by
 rw [nval_snoc, hl, seg_succ, nval_take_succ ys, pn_succ]
 generalize nval rs = A at *
 generalize nval (ys.take i) = Y at *
 generalize nval (seg zs oz i) = Z at *
 generalize ys.getD i 0 = y at *
 generalize zs.getD (oz + i) 0 = x at *
 have e1 : pn i * (z + 18446744073709551616 * c2) = pn i * (x + y + c) := by rw [hs]
 generalize pn i = p at *
 grind
theorem pow_split64 {s : Nat} (h : s ≤ 64) : (2 : Nat) ^ s * 2 ^ (64 - s) = 18446744073709551616 := by rw [← Nat.pow_add, show s + (64 - s) = 64 by omega]
theorem u64_and63 {s : Nat} (h : s < 64) : bits .and .u64 ((s : Nat) : Int) 63 = ((s : Nat) : Int) := by
 have := bits_mask .u64 64 (by decide) (fun n h0 h1 => by rw [wrap_u64]; omega) 6 (by decide) ((s : Nat) : Int) (by omega) (by omega)
 rw [show ((63 : Int)) = 2 ^ 6 - 1 by decide]
 rw [this]
 omega
theorem lsh_or {x y s : Nat} (hs : s < 64) (hs0 : 0 < s) (hy : y < 18446744073709551616) : bits .or .u64 ((x * 2 ^ s % 18446744073709551616 : Nat) : Int) ((y / 2 ^ (64 - s) : Nat) : Int) = ((x * 2 ^ s % 18446744073709551616 + y / 2 ^ (64 - s) : Nat) : Int) ∧ x * 2 ^ s % 18446744073709551616 + y / 2 ^ (64 - s) < 18446744073709551616 := by
 have hpp := pow_split64 (s := s) (by omega)
 have hp := Nat.two_pow_pos s
 have hp2 := Nat.two_pow_pos (64 - s)
 have e1 : x * 2 ^ s % 18446744073709551616 = x % 2 ^ (64 - s) * 2 ^ s := by
  rw [← hpp, Nat.mul_comm (2 ^ s), Nat.mul_mod_mul_right]
 have h3 : y / 2 ^ (64 - s) < 2 ^ s := by rw [Nat.div_lt_iff_lt_mul hp2, hpp]; exact hy
 have h4 : x % 2 ^ (64 - s) < 2 ^ (64 - s) := Nat.mod_lt _ hp2
 have h5 : (x % 2 ^ (64 - s) + 1) * 2 ^ s ≤ 2 ^ (64 - s) * 2 ^ s := Nat.mul_le_mul_right _ h4
 have h6 : (x % 2 ^ (64 - s) + 1) * 2 ^ s = x % 2 ^ (64 - s) * 2 ^ s + 2 ^ s := by grind
 rw [Nat.mul_comm] at hpp
 rw [hpp] at h5
 have h7 : x * 2 ^ s % 18446744073709551616 + y / 2 ^ (64 - s) < 18446744073709551616 := by rw [e1]; omega
 refine ⟨?_, h7⟩
 rw [(bits_nat .u64 64 (by decide) (fun n h0 h1 => by rw [wrap_u64]; omega) _ _ (by omega) (by omega)).2, e1, or_shl h3]
theorem lsh_start {xs : List Nat} {s co : Nat} (hs : s < 64) (hl : 0 < xs.length) (hco : co = xs.getD (xs.length - 1) 0 / 2 ^ (64 - s)) : nval [] + pn 0 * co = nval (xs.drop (xs.length - 1)) * 2 ^ s / 18446744073709551616 := by
 have e : xs.drop (xs.length - 1) = [xs.getD (xs.length - 1) 0] := by
  rw [List.drop_eq_getElem_cons (by omega), List.drop_of_length_le (by omega)]
  simp [List.getD_eq_getElem?_getD, List.getElem?_eq_getElem (show xs.length - 1 < xs.length by omega)]
 rw [e, hco, ← pow_split64 (s := s) (by omega)]
 simp only [nval, pn_zero, Nat.zero_add, Nat.one_mul, Nat.mul_zero, Nat.add_zero]
 rw [Nat.mul_comm _ (2 ^ s), Nat.mul_div_mul_left _ _ (Nat.two_pow_pos s)]
theorem mul_mod_first (x D p : Nat) : (x + 18446744073709551616 * D) * p = x * p % 18446744073709551616 + 18446744073709551616 * (x * p / 18446744073709551616 + D * p) := by
 have h := Nat.div_add_mod (x * p) 18446744073709551616
 have e : (x + 18446744073709551616 * D) * p = x * p + 18446744073709551616 * (D * p) := by grind
 omega
theorem lsh_step {xs rs : List Nat} {i s co : Nat} (hs : s < 64) (hi : 0 < i) (hv : nval rs + pn rs.length * co = nval (xs.drop i) * 2 ^ s / 18446744073709551616) :
  nval ((xs.getD i 0 * 2 ^ s % 18446744073709551616 + xs.getD (i - 1) 0 / 2 ^ (64 - s)) :: rs) + pn (rs.length + 1) * co = nval (xs.drop (i - 1)) * 2 ^ s / 18446744073709551616 := by
 have hpp := pow_split64 (s := s) (by omega)
 have e0 : i - 1 + 1 = i := by omega
 rw [nval_drop xs (i - 1), e0, pn_succ]
 have h1 := nval_drop xs i
 generalize nval (xs.drop (i + 1)) = D at h1
 rw [h1] at hv ⊢
 generalize xs.getD i 0 = x at hv ⊢
 generalize xs.getD (i - 1) 0 = y at hv ⊢
 have h2 := mul_mod_first x D (2 ^ s)
 rw [h2] at hv
 have e3 : (x * 2 ^ s % 18446744073709551616 + 18446744073709551616 * (x * 2 ^ s / 18446744073709551616 + D * 2 ^ s)) / 18446744073709551616 = x * 2 ^ s / 18446744073709551616 + D * 2 ^ s := by
  rw [Nat.add_mul_div_left _ _ (by decide), Nat.div_eq_of_lt (Nat.mod_lt _ (by decide)), Nat.zero_add]
 rw [e3] at hv
 have e4 : y / 2 ^ (64 - s) = y * 2 ^ s / 18446744073709551616 := by rw [← hpp, Nat.mul_comm y, Nat.mul_div_mul_left _ _ (Nat.two_pow_pos s)]
 have e5 : (y + 18446744073709551616 * (x + 18446744073709551616 * D)) * 2 ^ s = y * 2 ^ s + 18446744073709551616 * ((x + 18446744073709551616 * D) * 2 ^ s) := by grind
 rw [e5, Nat.add_mul_div_left _ _ (by decide), h2, e4]
 simp only [nval]
 have e6 : 18446744073709551616 * (nval rs + pn rs.length * co) = 18446744073709551616 * nval rs + 18446744073709551616 * pn rs.length * co := by grind
 rw [hv] at e6
 omega
theorem lsh_end {xs rs : List Nat} {s co : Nat} (hv : nval rs + pn rs.length * co = nval (xs.drop 0) * 2 ^ s / 18446744073709551616) :
  nval ((xs.getD 0 0 * 2 ^ s % 18446744073709551616) :: rs) + pn (rs.length + 1) * co = nval xs * 2 ^ s := by
 rw [pn_succ]
 have h1 := nval_drop xs 0
 rw [List.drop_zero] at h1 hv
 generalize nval (xs.drop (0 + 1)) = D at h1
 rw [h1] at hv ⊢
 generalize xs.getD 0 0 = x at hv ⊢
 have h2 := mul_mod_first x D (2 ^ s)
 rw [h2] at hv ⊢
 rw [Nat.add_mul_div_left _ _ (by decide), Nat.div_eq_of_lt (Nat.mod_lt _ (by decide)), Nat.zero_add] at hv
 simp only [nval]
 have e6 : 18446744073709551616 * (nval rs + pn rs.length * co) = 18446744073709551616 * nval rs + 18446744073709551616 * pn rs.length * co := by grind
 rw [hv] at e6
 omega
theorem rsh_step {us rs : List Nat} {i s V : Nat} (hs : s < 64) (hl : rs.length = i) (hv : nval rs + pn i * (nval (us.drop i) / 2 ^ s) = V) :
  nval (rs ++ [us.getD i 0 / 2 ^ s + us.getD (i + 1) 0 * 2 ^ (64 - s) % 18446744073709551616]) + pn (i + 1) * (nval (us.drop (i + 1)) / 2 ^ s) = V := by
 have hpp := pow_split64 (s := s) (by omega)
 have hp := Nat.two_pow_pos s
 rw [nval_snoc, hl, pn_succ]
 have h1 := nval_drop us i
 have h2 := nval_drop us (i + 1)
 generalize nval (us.drop (i + 1 + 1)) = D at h2
 generalize us.getD (i + 1) 0 = x at h2 ⊢
 rw [h1, h2] at hv
 rw [h2]
 generalize us.getD i 0 = y at hv ⊢
 have e1 : (y + 18446744073709551616 * (x + 18446744073709551616 * D)) / 2 ^ s = y / 2 ^ s + 2 ^ (64 - s) * (x + 18446744073709551616 * D) := by
  have : y + 18446744073709551616 * (x + 18446744073709551616 * D) = y + 2 ^ s * (2 ^ (64 - s) * (x + 18446744073709551616 * D)) := by rw [← Nat.mul_assoc, hpp]
  rw [this, Nat.add_mul_div_left _ _ hp]
 have e2 := mul_mod_first x D (2 ^ (64 - s))
 have e3 : (x + 18446744073709551616 * D) / 2 ^ s = x * 2 ^ (64 - s) / 18446744073709551616 + D * 2 ^ (64 - s) := by
  have h3 : x + 18446744073709551616 * D = x + 2 ^ s * (2 ^ (64 - s) * D) := by rw [← Nat.mul_assoc, hpp]
  rw [h3, Nat.add_mul_div_left _ _ hp, Nat.mul_comm D]
  congr 1
  have h4 : (18446744073709551616 : Nat) = 2 ^ (64 - s) * 2 ^ s := by rw [Nat.mul_comm]; exact hpp.symm
  rw [h4, Nat.mul_comm x, Nat.mul_div_mul_left _ _ (Nat.two_pow_pos _)]
 rw [e1, Nat.mul_comm (2 ^ (64 - s)), e2] at hv
 rw [e3]
 generalize x * 2 ^ (64 - s) % 18446744073709551616 = a at *
 generalize x * 2 ^ (64 - s) / 18446744073709551616 + D * 2 ^ (64 - s) = b at *
 generalize y / 2 ^ s = c at *
 generalize pn i = p at *
 grind
theorem rsh_end {us rs : List Nat} {i s V : Nat} (hl : rs.length = i) (hn : us.length = i + 1) (hv : nval rs + pn i * (nval (us.drop i) / 2 ^ s) = V) : nval (rs ++ [us.getD i 0 / 2 ^ s]) = V := by
 rw [nval_snoc, hl]
 have h1 := nval_drop us i
 rw [List.drop_of_length_le (show us.length ≤ i + 1 by omega)] at h1
 simp only [nval, Nat.mul_zero, Nat.add_zero] at h1
 rw [h1] at hv
 exact hv
theorem rsh_or {x y s : Nat} (hs : s < 64) (hs0 : 0 < s) (hx : x < 18446744073709551616) : bits .or .u64 ((x / 2 ^ s : Nat) : Int) ((y * 2 ^ (64 - s) % 18446744073709551616 : Nat) : Int) = ((x / 2 ^ s + y * 2 ^ (64 - s) % 18446744073709551616 : Nat) : Int) ∧ x / 2 ^ s + y * 2 ^ (64 - s) % 18446744073709551616 < 18446744073709551616 := by
 obtain ⟨h1, h2⟩ := lsh_or (x := y) (y := x) (s := 64 - s) (by omega) (by omega) hx
 rw [show 64 - (64 - s) = s by omega] at h1 h2
 refine ⟨?_, by omega⟩
 have h3 : x / 2 ^ s < 18446744073709551616 := by omega
 have h4 := bits_nat .u64 64 (by decide) (fun n h0 h1 => by rw [wrap_u64]; omega) (x / 2 ^ s) (y * 2 ^ (64 - s) % 18446744073709551616) (by omega) (by omega)
 have h5 := bits_nat .u64 64 (by decide) (fun n h0 h1 => by rw [wrap_u64]; omega) (y * 2 ^ (64 - s) % 18446744073709551616) (x / 2 ^ s) (by omega) (by omega)
 rw [h4.2, Nat.or_comm, ← h5.2, h1, Nat.add_comm]
theorem seg_get {zs : List Nat} {o n i : Nat} (h : i < n) : (seg zs o n).getD i 0 = zs.getD (o + i) 0 := by
 simp [seg, List.getD_eq_getElem?_getD, List.getElem?_take, h]
theorem dvw_step {qs xs : List Nat} {J y r q r2 : Nat} (hJ : 0 < J) (hv : nval qs * y + r = nval (xs.drop J)) (h : q * y + r2 = 18446744073709551616 * r + xs.getD (J - 1) 0) : nval (q :: qs) * y + r2 = nval (xs.drop (J - 1)) := by
 rw [nval_drop xs (J - 1), show J - 1 + 1 = J by omega, ← hv]
 simp only [nval]
 generalize nval qs = Q
 grind
theorem nval_one {xs : List Nat} (h : xs.length = 1) : nval xs = xs.getD 0 0 := by
 match xs, h with
 | [a], _ => simp [nval]
theorem seg_put {zs rs : List Nat} {o : Nat} (h : o + rs.length ≤ zs.length) : seg (put zs o rs) o rs.length = rs := by
 have h1 : (zs.take o).length = o := by rw [List.length_take]; omega
 unfold seg put
 rw [List.append_assoc, List.drop_left' h1, List.take_left' rfl]
theorem put_seg {zs : List Nat} {n : Nat} : put zs 0 (seg zs 0 n) = zs := by
 unfold put seg
 rw [List.take_zero, List.nil_append, List.drop_zero, List.length_take, Nat.zero_add]
 by_cases h : n ≤ zs.length
 · rw [Nat.min_eq_left h, List.take_append_drop]
 · rw [Nat.min_eq_right (by omega), List.drop_of_length_le (Nat.le_refl _), List.append_nil, List.take_of_length_le (by omega)]
theorem put0_seg {zs rs : List Nat} {n : Nat} (h : rs.length = n) (hn : n ≤ zs.length) : seg (put zs 0 rs) 0 n = rs := by rw [← h]; exact seg_put (by omega)
theorem rowOut {F : Nat → Prop} {wc w0 : World} {e : Env} {H : List Blk} {G : List Row} (hR : Rel F w0 e H G wc) {y : Row} (hy : y ∈ G) {k : IntKind} {B : Nat} {ws : List Nat} (ht : Full e y.n y.len) (hxs : y.xs = ints k ws) (hs : y.sz = 1) (hd : ∀ d ∈ ws, d < B) {l c : Nat} (hl : l ≤ ws.length) (hc : l ≤ c) (hm : c ≤ 9223372036854775807) {g m : Nat} (hg : headOf (e.r y.n) = g) (hge : m ≤ g) :
  Sl k B (fun b => m ≤ b) wc (some ⟨headOf (e.r y.n), 0, none⟩) c (seg ws 0 l) :=
 (hR.rowRead hy ht hxs hs hd 0 l (by omega) hc hm).cls_ (fun b hb _ => by rw [hb, hg]; exact hge)
theorem Sl.up {k : IntKind} {B cap : Nat} {ad : Option Addr} {xs : List Nat} {w w' : World} {C : Nat → Prop} (h : Sl k B (fun b => w.heap.size ≤ b) w' ad cap xs) : Sl k B (Grow C w w') w' ad cap xs := h.cls_ (fun b hb hlt => ⟨hlt, .inr hb⟩)
theorem ndig_put {zs rs : List Nat} {o : Nat} (hz : Ndig zs) (hr : Ndig rs) : Ndig (put zs o rs) := put_dig hz hr
theorem keepBut0 {w w' : World} (h : Keep (fun b => b < w.heap.size) w w') : Keep (ButN [] w) w w' := h.mono fun _ hb => hb.1
theorem ints_setL {k : IntKind} {xs : List Nat} {i : Nat} {x : Nat} {v : Int} (h : (x : Int) = v) : (ints k xs).set i (.int k v) = ints k (xs.set i x) := by rw [← h]; exact ints_set _ _ _ _
theorem nval_seg (xs : List Nat) (j k : Nat) : nval (xs.drop j) = nval (seg xs j k) + pn k * nval (xs.drop (j + k)) := by
 have h := nval_app ((xs.drop j).take k) ((xs.drop j).drop k)
 rw [List.take_append_drop, List.drop_drop] at h
 rw [h]
 by_cases hk : k ≤ (xs.drop j).length
 · rw [List.length_take, Nat.min_eq_left hk]
 ·
  rw [List.length_drop] at hk
  rw [List.drop_of_length_le (show xs.length ≤ j + k by omega)]
  simp [nval]
theorem drop_put {us rr : List Nat} {j : Nat} (h : j + rr.length ≤ us.length) : (put us j rr).drop j = rr ++ us.drop (j + rr.length) := by
 have h1 : (us.take j).length = j := by rw [List.length_take]; omega
 unfold put
 rw [List.append_assoc, List.drop_left' h1]
theorem take_put {us rr : List Nat} {j : Nat} (h : j + rr.length ≤ us.length) : (put us j rr).take j = us.take j := by
 have h1 : (us.take j).length = j := by rw [List.length_take]; omega
 unfold put
 rw [List.append_assoc, List.take_left' h1]
theorem put_put {us rr r2 : List Nat} {j : Nat} (h : j + rr.length ≤ us.length) (h2 : r2.length = rr.length) : put (put us j rr) j r2 = put us j r2 := by
 have e1 : put (put us j rr) j r2 = (put us j rr).take j ++ r2 ++ ((put us j rr).drop j).drop r2.length := by unfold put; rw [List.drop_drop]
 rw [e1, take_put h, drop_put h, h2, List.drop_left' rfl]
 unfold put
 rw [h2]
theorem nval_cut (xs : List Nat) (j : Nat) (h : j ≤ xs.length) : nval xs = nval (xs.take j) + pn j * nval (xs.drop j) := by
 have := nval_app (xs.take j) (xs.drop j)
 rw [List.take_append_drop, List.length_take, Nat.min_eq_left h] at this
 exact this
theorem dv_tops {us vs : List Nat} {n j : Nat} (hv : Ndig vs) (hu : Ndig us) (hn : vs.length = n) (hn2 : 2 ≤ n) (hW : nval (us.drop j) < 18446744073709551616 * nval vs) :
  nval (us.drop (j + (n + 1))) = 0 ∧ nval vs < pn n ∧ ∃ P ul vl, 0 < P ∧ ul < P ∧ vl < P ∧ nval (us.drop j) = ((us.getD (j + n) 0 * 18446744073709551616 + us.getD (j + n - 1) 0) * 18446744073709551616 + us.getD (j + n - 2) 0) * P + ul ∧ nval vs = (vs.getD (n - 1) 0 * 18446744073709551616 + vs.getD (n - 2) 0) * P + vl := by
 obtain ⟨m, rfl⟩ : ∃ m, n = m + 2 := ⟨n - 2, by omega⟩
 have hV : nval vs < pn (m + 2) := by rw [← hn]; exact nval_lt hv
 have hz : nval (us.drop (j + (m + 2 + 1))) = 0 := by
  have h1 := nval_seg us j (m + 2 + 1)
  rcases Nat.eq_zero_or_pos (nval (us.drop (j + (m + 2 + 1)))) with h | h
  · exact h
  ·
   have h2 : pn (m + 2 + 1) * 1 ≤ pn (m + 2 + 1) * nval (us.drop (j + (m + 2 + 1))) := Nat.mul_le_mul_left _ h
   have h3 := pn_succ (m + 2)
   omega
 refine ⟨hz, hV, pn m, nval (seg us j m), nval (vs.take m), pn_pos m, ?_, ?_, ?_, ?_⟩
 · exact Nat.lt_of_lt_of_le (nval_lt (seg_dig hu j m)) (pn_le (by rw [List.length_take]; omega))
 · exact Nat.lt_of_lt_of_le (nval_lt (ndig_take hv m)) (pn_le (by rw [List.length_take]; omega))
 ·
  have h1 := nval_seg us j m
  have e1 := nval_drop us (j + m)
  have e2 := nval_drop us (j + m + 1)
  have e3 := nval_drop us (j + m + 1 + 1)
  rw [show j + m + 1 + 1 + 1 = j + (m + 2 + 1) by omega, hz] at e3
  rw [h1, e1, e2, e3, show j + (m + 2) = j + m + 1 + 1 by omega, show j + m + 1 + 1 - 1 = j + m + 1 by omega, show j + m + 1 + 1 - 2 = j + m by omega]
  grind
 ·
  have h1 := nval_cut vs m (by omega)
  have e1 := nval_drop vs m
  have e2 := nval_drop vs (m + 1)
  rw [List.drop_of_length_le (show vs.length ≤ m + 1 + 1 by omega)] at e2
  rw [h1, e1, e2, show m + 2 - 1 = m + 1 by omega, show m + 2 - 2 = m by omega]
  simp only [nval]
  grind
theorem dv_le {b P ul vl t u1 u2 v1 v2 V W : Nat} (hP : 0 < P) (hvl : vl < P) (hW : W = ((t * b + u1) * b + u2) * P + ul) (hV : V = (v1 * b + v2) * P + vl) (hv2 : v2 < b) (hlt : W < b * V) : t ≤ v1 := by
 rcases Nat.lt_or_ge v1 t with h | h
 ·
  exfalso
  have h1 : (v1 + 1) * b * b * P ≤ t * b * b * P := Nat.mul_le_mul_right _ (Nat.mul_le_mul_right _ (Nat.mul_le_mul_right _ h))
  have h2 : V < (v1 * b + v2 + 1) * P := by rw [hV]; grind
  have h3 : (v1 * b + v2 + 1) * P ≤ (v1 * b + b) * P := Nat.mul_le_mul_right _ (by omega)
  have h4 : b * V < b * ((v1 * b + b) * P) := Nat.mul_lt_mul_of_pos_left (by omega) (Nat.pos_of_ne_zero fun h0 => by rw [h0] at hlt; simp at hlt)
  have h5 : b * ((v1 * b + b) * P) = (v1 + 1) * b * b * P := by grind
  have h6 : t * b * b * P ≤ W := by rw [hW]; grind
  omega
 · exact h
theorem dv_est {b P ul vl t u1 u2 v1 v2 V W q : Nat} (hP : 0 < P) (hul : ul < P) (hvl : vl < P) (hW : W = ((t * b + u1) * b + u2) * P + ul) (hV : V = (v1 * b + v2) * P + vl) (hv1 : 1 ≤ v1) (hu1 : u1 < b) (hu2 : u2 < b) (ht : t < v1) (hq : q = ((t * b + u1) * b + u2) / (v1 * b + v2)) :
  W / V ≤ q ∧ q ≤ W / V + 1 ∧ q < b := by
 have hb : 0 < b := by omega
 have hVV : b ≤ v1 * b + v2 := by have := Nat.mul_le_mul_right b hv1; omega
 have hU : t * b + u1 < v1 * b + v2 := by have := Nat.mul_le_mul_right b (show t + 1 ≤ v1 by omega); grind
 have hlt : ((t * b + u1) * b + u2) / (v1 * b + v2) < b := quot_lt hU hu2
 have h := knuth (b := b) hP hV hvl hW hul hVV (by omega) (by omega)
 rw [hq]
 exact ⟨h.1, h.2, hlt⟩
theorem dv_top {b P ul vl u1 u2 v1 v2 V W : Nat} (hP : 0 < P) (hvl : vl < P) (hW : W = ((v1 * b + u1) * b + u2) * P + ul) (hV : V = (v1 * b + v2) * P + vl) (hv1 : b ≤ 2 * v1) (hv2 : v2 < b) (hb2 : 2 ≤ b) (hlt : W < b * V) : W / V ≤ b - 1 ∧ b - 1 ≤ W / V + 1 := by
 refine knuth_top (P := P) (v1 := v1) ?_ ?_ ?_ hlt (by omega) hb2
 ·
  rw [hV]
  have h1 : (v1 * b + v2 + 1) * P ≤ (v1 * b + b) * P := Nat.mul_le_mul_right _ (by omega)
  grind
 ·
  rcases Nat.eq_zero_or_pos V with h | h
  · rw [h] at hlt; simp at hlt
  · exact h
 · rw [hW]; grind
theorem dv_nob {W V q R p : Nat} (hV : 0 < V) (h1 : W / V ≤ q) (hs : R + q * V = W + p * 0) : q = W / V ∧ R = W % V := by
 have h := est_fit hV h1 (by omega : q * V ≤ W)
 refine ⟨h.1, ?_⟩
 rw [← h.2]; omega
theorem dv_bor {W V q R p R2 c2 x n1 Rl : Nat} (hV : 0 < V) (hVp : V < n1) (hp : p = 18446744073709551616 * n1) (hR : R < p) (hR2 : R2 < n1) (h2 : q ≤ W / V + 1) (hs : R + q * V = W + p * 1) (hRl : R = Rl + n1 * x) (ha : R2 + n1 * c2 = Rl + V) :
  1 ≤ q ∧ q - 1 = W / V ∧ R2 = W % V ∧ (x + c2) % 18446744073709551616 = 0 := by
 have h := est_over hV h2 (by omega : W < q * V)
 have h3 : W % V < V := Nat.mod_lt _ hV
 have h7 : q * V ≤ W + V := by
  have a1 := Nat.mul_le_mul_right V h2
  have a2 := Nat.div_mul_le_self W V
  grind
 have h4 : R + V = W % V + 18446744073709551616 * n1 := by rw [← h.2.2]; omega
 have h5 : R2 + n1 * (x + c2) = W % V + n1 * 18446744073709551616 := by grind
 have h6 : x + c2 = 18446744073709551616 := by
  rcases Nat.lt_trichotomy (x + c2) 18446744073709551616 with h | h | h
  ·
   exfalso
   have : n1 * (x + c2 + 1) ≤ n1 * 18446744073709551616 := Nat.mul_le_mul_left _ h
   grind
  · exact h
  ·
   exfalso
   have : n1 * (18446744073709551616 + 1) ≤ n1 * (x + c2) := Nat.mul_le_mul_left _ h
   grind
 rw [h6] at h5
 exact ⟨h.1, h.2.1, by omega, by rw [h6]⟩
theorem dv_next {us ds rr : List Nat} {j V U W : Nat} (hU : U = nval ds * pn (j + 1) * V + nval us) (hl : j + rr.length ≤ us.length) (hW : W = nval (us.drop j)) (hz : nval (us.drop (j + rr.length)) = 0) (hr : nval rr = W % V) : U = nval (W / V :: ds) * pn j * V + nval (put us j rr) ∧ nval ((put us j rr).drop j) = W % V := by
 have e1 : nval ((put us j rr).drop j) = W % V := by rw [drop_put hl, nval_app, hz, hr]; simp
 refine ⟨?_, e1⟩
 have e2 := nval_cut (put us j rr) j (by rw [put_length hl]; omega)
 have e3 := nval_cut us j (by omega)
 rw [take_put hl, e1] at e2
 rw [← hW] at e3
 rw [hU, e2, e3, pn_succ]
 have h := Nat.div_add_mod W V
 generalize W / V = q at *
 generalize W % V = r at *
 simp only [nval]
 rw [← h]
 grind
theorem seg_of_put {hq ys : List Nat} {l : Nat} (h : ys.length ≤ hq.length) (hl : l ≤ ys.length) : seg (put hq 0 ys) 0 l = seg ys 0 l := by
 show ((put hq 0 ys).drop 0).take l = (ys.drop 0).take l
 rw [drop_put (by omega), List.drop_zero, List.take_append_of_le_length hl]
theorem put_snocL {xs zs : List Nat} {o x k : Nat} (hk : zs.length = k) (h : o + k < xs.length) : (put xs o zs).set (o + k) x = put xs o (zs ++ [x]) := by subst hk; exact put_snoc h
def DvInv (zu us ds vs : List Nat) (J ujn mb : Nat) : Prop := (0 < J → ujn = us.getD (J - 1 + vs.length) 0) ∧ (J = mb + 1 → us = zu) ∧ nval (us.drop J) < nval vs ∧ nval zu = nval ds * pn J * nval vs + nval us
def DvRnd (us vs : List Nat) (j mb ujn u1 u2 v1 v2 : Nat) : Prop := (j = mb → ujn = 0 ∧ u1 < v1 ∧ nval (us.drop j) < nval vs) ∧ nval (us.drop j) < 18446744073709551616 * nval vs ∧ nval (us.drop (j + (vs.length + 1))) = 0 ∧ nval vs < pn vs.length ∧ 0 < nval vs ∧
 ∃ P ul vl, 0 < P ∧ ul < P ∧ vl < P ∧ nval (us.drop j) = ((ujn * 18446744073709551616 + u1) * 18446744073709551616 + u2) * P + ul ∧ nval vs = (v1 * 18446744073709551616 + v2) * P + vl
def DvRef (j mb ujn u1 u2 v1 v2 q r x1 x2 : Nat) : Prop := q * v1 + r = ujn * 18446744073709551616 + u1 ∧ x1 * 18446744073709551616 + x2 = q * v2 ∧ ((ujn * 18446744073709551616 + u1) * 18446744073709551616 + u2) / (v1 * 18446744073709551616 + v2) ≤ q ∧ (j = mb → q = 0)
def DvEst (us vs : List Nat) (j mb q : Nat) : Prop := nval (us.drop j) / nval vs ≤ q ∧ q ≤ nval (us.drop j) / nval vs + 1 ∧ (j = mb → q = 0)
def DvDone (us vs : List Nat) (j q : Nat) (rr : List Nat) : Prop := q = nval (us.drop j) / nval vs ∧ nval rr = nval (us.drop j) % nval vs ∧ nval (us.drop (j + rr.length)) = 0
theorem nval_drop_zero {xs : List Nat} {i k : Nat} (h : nval (xs.drop i) < pn k) : nval (xs.drop (i + k)) = 0 := by
 have h1 := nval_seg xs i k
 rcases Nat.eq_zero_or_pos (nval (xs.drop (i + k))) with h2 | h2
 · exact h2
 ·
  have h3 : pn k * 1 ≤ pn k * nval (xs.drop (i + k)) := Nat.mul_le_mul_left _ h2
  omega
theorem getD_zero {xs : List Nat} {i : Nat} (h : nval (xs.drop i) = 0) : xs.getD i 0 = 0 := by
 have := nval_drop xs i
 omega
theorem dvInv_start {zu vs : List Nat} {mb : Nat} (hv : Ndig vs) (hW : nval (zu.drop mb) < nval vs) : DvInv zu zu [] vs (mb + 1) 0 mb := by
 have hV := nval_lt hv
 have h1 := nval_drop zu mb
 refine ⟨fun _ => ?_, fun _ => rfl, by omega, by simp [nval]⟩
 rw [show mb + 1 - 1 + vs.length = mb + vs.length by omega]
 exact (getD_zero (nval_drop_zero (by omega))).symm
theorem dvRnd_of {zu us ds vs : List Nat} {J j ujn mb : Nat} (h : DvInv zu us ds vs J ujn mb) (hJ : J = j + 1) (hu : Ndig us) (hv : Ndig vs) (hn2 : 2 ≤ vs.length) (htu : zu.getD (vs.length + mb - 1) 0 < vs.getD (vs.length - 1) 0) (hW : nval (zu.drop mb) < nval vs) :
  DvRnd us vs j mb ujn (us.getD (j + vs.length - 1) 0) (us.getD (j + vs.length - 2) 0) (vs.getD (vs.length - 1) 0) (vs.getD (vs.length - 2) 0) := by
 obtain ⟨h1, h2, h3, h4⟩ := h
 have hWd : nval (us.drop j) < 18446744073709551616 * nval vs := by
  have h1_ := nval_drop us j
  have h2_ := ndig_get hu j
  rw [hJ] at h3
  omega
 obtain ⟨hz1, hVn, P, ul, vl, hP, hul, hvl, hWt, hVt⟩ := dv_tops hv hu rfl hn2 hWd
 have e1 : us.getD (j + vs.length) 0 = ujn := by rw [h1 (by omega)]; congr 1; omega
 rw [e1] at hWt
 refine ⟨fun hj => ?_, hWd, hz1, hVn, by omega, P, ul, vl, hP, hul, hvl, hWt, hVt⟩
 have e2 := h2 (by omega)
 subst e2
 subst hj
 refine ⟨?_, ?_, hW⟩
 ·
  rw [← e1]
  exact getD_zero (nval_drop_zero (by omega))
 · rw [show j + vs.length - 1 = vs.length + j - 1 by omega]; exact htu
theorem DvRnd.le {us vs : List Nat} {j mb ujn u1 u2 v1 v2 : Nat} (h : DvRnd us vs j mb ujn u1 u2 v1 v2) (hv2 : v2 < 18446744073709551616) : ujn ≤ v1 := by
 obtain ⟨_, hlt, _, _, _, P, ul, vl, hP, hul, hvl, hW, hV⟩ := h
 exact dv_le hP hvl hW hV hv2 hlt
theorem dvRef_first {us vs : List Nat} {j mb ujn u1 u2 v1 v2 q r x1 x2 : Nat} (h : DvRnd us vs j mb ujn u1 u2 v1 v2) (hv1 : 0 < v1) (hr : r < v1) (hq : q * v1 + r = 18446744073709551616 * ujn + u1) (hx : 18446744073709551616 * x1 + x2 = q * v2) (hu2 : u2 < 18446744073709551616) : DvRef j mb ujn u1 u2 v1 v2 q r x1 x2 := by
 refine ⟨by rw [hq, Nat.mul_comm], by rw [← hx, Nat.mul_comm], ?_, fun hj => ?_⟩
 ·
  have hp : 0 < v1 * 18446744073709551616 := Nat.mul_pos hv1 (by decide)
  rw [Nat.mul_comm 18446744073709551616] at hq
  have h1 : (ujn * 18446744073709551616 + u1) * 18446744073709551616 + u2 < (q + 1) * (v1 * 18446744073709551616 + v2) := by
   have h2 : ujn * 18446744073709551616 + u1 + 1 ≤ (q + 1) * v1 := by rw [← hq]; grind
   have h3 := Nat.mul_le_mul_right 18446744073709551616 h2
   grind
  exact Nat.lt_succ_iff.1 ((Nat.div_lt_iff_lt_mul (Nat.lt_of_lt_of_le hp (Nat.le_add_right _ _))).2 h1)
 ·
  obtain ⟨h1, h2, _⟩ := h.1 hj
  rw [h1, Nat.mul_zero, Nat.zero_add] at hq
  rcases Nat.eq_zero_or_pos q with h3 | h3
  · exact h3
  ·
   have := Nat.mul_le_mul_right v1 h3
   omega
theorem DvRef.down {j mb ujn u1 u2 v1 v2 q r x1 x2 : Nat} (h : DvRef j mb ujn u1 u2 v1 v2 q r x1 x2) (hv1 : 0 < v1) (hgt : 18446744073709551616 * r + u2 < 18446744073709551616 * x1 + x2) :
  1 ≤ q ∧ v2 ≤ 18446744073709551616 * x1 + x2 ∧ ∀ y1 y2, 18446744073709551616 * y1 + y2 + v2 = 18446744073709551616 * x1 + x2 → DvRef j mb ujn u1 u2 v1 v2 (q - 1) (r + v1) y1 y2 := by
 obtain ⟨h1, h2, h3, h4⟩ := h
 have hp : 0 < v1 * 18446744073709551616 := Nat.mul_pos hv1 (by decide)
 have hg2 : r * 18446744073709551616 + u2 < q * v2 := by rw [← h2, Nat.mul_comm r, Nat.mul_comm x1]; exact hgt
 obtain ⟨a1, a2, a3⟩ := ref_step h1 hg2 h3 (Nat.lt_of_lt_of_le hp (Nat.le_add_right _ _))
 have a4 : (q - 1) * v2 + v2 = q * v2 := by
  obtain ⟨p, rfl⟩ : ∃ p, q = p + 1 := ⟨q - 1, by omega⟩
  simp only [Nat.add_sub_cancel]; grind
 refine ⟨a1, ?_, fun y1 y2 hy => ⟨a3, ?_, a2, fun hj => by have := h4 hj; omega⟩⟩
 · rw [Nat.mul_comm 18446744073709551616, h2, ← a4]; exact Nat.le_add_left _ _
 ·
  rw [Nat.mul_comm 18446744073709551616 x1, h2, ← a4] at hy
  rw [Nat.mul_comm y1]
  omega
theorem DvRnd.est {us vs : List Nat} {j mb ujn u1 u2 v1 v2 q : Nat} (h : DvRnd us vs j mb ujn u1 u2 v1 v2) (hv1 : 1 ≤ v1) (hu1 : u1 < 18446744073709551616) (hu2 : u2 < 18446744073709551616) (ht : ujn < v1) (hj : j = mb → q = 0) (hq : q = ((ujn * 18446744073709551616 + u1) * 18446744073709551616 + u2) / (v1 * 18446744073709551616 + v2)) : DvEst us vs j mb q ∧ q < 18446744073709551616 := by
 obtain ⟨_, hlt, _, _, _, P, ul, vl, hP, hul, hvl, hW, hV⟩ := h
 obtain ⟨a1, a2, a3⟩ := dv_est hP hul hvl hW hV hv1 hu1 hu2 ht hq
 exact ⟨⟨a1, a2, hj⟩, a3⟩
theorem DvRef.stop {us vs : List Nat} {j mb ujn u1 u2 v1 v2 q r x1 x2 : Nat} (h : DvRef j mb ujn u1 u2 v1 v2 q r x1 x2) (hd : DvRnd us vs j mb ujn u1 u2 v1 v2) (hv1 : 1 ≤ v1) (hu1 : u1 < 18446744073709551616) (hu2 : u2 < 18446744073709551616) (ht : ujn < v1) (hle : ¬ 18446744073709551616 * r + u2 < 18446744073709551616 * x1 + x2) : DvEst us vs j mb q ∧ q < 18446744073709551616 := by
 have hp : 0 < v1 * 18446744073709551616 := Nat.mul_pos hv1 (by decide)
 obtain ⟨h1, h2, h3, h4⟩ := h
 refine hd.est hv1 hu1 hu2 ht h4 (ref_done h1 ?_ h3 (Nat.lt_of_lt_of_le hp (Nat.le_add_right _ _)))
 rw [← h2, Nat.mul_comm x1, Nat.mul_comm r]
 exact Nat.le_of_not_lt hle
theorem DvRef.out {us vs : List Nat} {j mb ujn u1 u2 v1 v2 q r x1 x2 : Nat} (h : DvRef j mb ujn u1 u2 v1 v2 q r x1 x2) (hd : DvRnd us vs j mb ujn u1 u2 v1 v2) (hv1 : 1 ≤ v1) (hu1 : u1 < 18446744073709551616) (hu2 : u2 < 18446744073709551616) (hv2 : v2 < 18446744073709551616) (ht : ujn < v1) (hr : 18446744073709551616 ≤ r) : DvEst us vs j mb q ∧ q < 18446744073709551616 := by
 have hp : 0 < v1 * 18446744073709551616 := Nat.mul_pos hv1 (by decide)
 obtain ⟨h1, h2, h3, h4⟩ := h
 have hU : ujn * 18446744073709551616 + u1 < v1 * 18446744073709551616 + v2 := by
  have := Nat.mul_le_mul_right 18446744073709551616 (show ujn + 1 ≤ v1 from ht)
  grind
 refine hd.est hv1 hu1 hu2 ht h4 (ref_done h1 (ref_break u2 h1 hU hv2 hr).2 h3 (Nat.lt_of_lt_of_le hp (Nat.le_add_right _ _)))
theorem DvRnd.top {us vs : List Nat} {j mb ujn u1 u2 v1 v2 : Nat} (h : DvRnd us vs j mb ujn u1 u2 v1 v2) (hv1 : 9223372036854775808 ≤ v1) (hv2 : v2 < 18446744073709551616) (ht : ujn = v1) : DvEst us vs j mb 18446744073709551615 ∧ 18446744073709551615 < 18446744073709551616 := by
 obtain ⟨h0, hlt, _, _, _, P, ul, vl, hP, hul, hvl, hW, hV⟩ := h
 subst ht
 have := dv_top hP hvl hW hV (by omega) hv2 (by decide) hlt
 exact ⟨⟨this.1, this.2, fun hj => by have := (h0 hj).1; omega⟩, by decide⟩
theorem dv_prod {us vs rs : List Nat} {j mb q co l : Nat} (he : DvEst us vs j mb q) (hl : rs.length = vs.length) (hr : Ndig rs) (hv : nval rs + pn vs.length * co = nval vs * q + 0) :
  (j = mb → co = 0) ∧ ((l = vs.length ∧ j = mb ∨ l = vs.length + 1 ∧ j < mb) → nval (seg (rs ++ [co]) 0 l) = q * nval vs) := by
 have h0 : j = mb → co = 0 := fun hj => by
  have := he.2.2 hj
  rw [this, Nat.mul_zero] at hv
  rcases Nat.eq_zero_or_pos co with h | h
  · exact h
  ·
   have := Nat.mul_le_mul_left (pn vs.length) h
   have := pn_pos vs.length
   omega
 refine ⟨h0, ?_⟩
 rintro (⟨rfl, hj⟩ | ⟨rfl, hj⟩)
 ·
  have := h0 hj
  rw [this, Nat.mul_zero] at hv
  show nval (((rs ++ [co]).drop 0).take vs.length) = _
  rw [List.drop_zero, List.take_append_of_le_length (by omega), ← hl, List.take_length, Nat.mul_comm]
  omega
 ·
  show nval (((rs ++ [co]).drop 0).take (vs.length + 1)) = _
  rw [List.drop_zero, List.take_of_length_le (by rw [List.length_append, hl]; simp), nval_snoc, hl, hv, Nat.mul_comm]; rfl
theorem DvRnd.cut {us vs : List Nat} {j mb ujn u1 u2 v1 v2 l : Nat} (h : DvRnd us vs j mb ujn u1 u2 v1 v2) (hl : l = vs.length ∧ j = mb ∨ l = vs.length + 1 ∧ j < mb) : nval (us.drop j) = nval (seg us j l) ∧ nval (us.drop (j + l)) = 0 := by
 obtain ⟨h0, hlt, hz, hV, _⟩ := h
 have e1 := nval_seg us j l
 have e2 : nval (us.drop (j + l)) = 0 := by
  rcases hl with ⟨rfl, hj⟩ | ⟨rfl, _⟩
  ·
   have := (h0 hj).2.2
   exact nval_drop_zero (by omega)
  · exact hz
 rw [e2, Nat.mul_zero, Nat.add_zero] at e1
 exact ⟨e1, e2⟩
theorem dvDone_sub {us vs ys rs : List Nat} {j mb ujn u1 u2 v1 v2 q l c : Nat} (h : DvRnd us vs j mb ujn u1 u2 v1 v2) (he : DvEst us vs j mb q) (hl : l = vs.length ∧ j = mb ∨ l = vs.length + 1 ∧ j < mb) (hy : nval ys = q * nval vs) (hrl : rs.length = l) (hs : nval rs + nval ys = nval (seg us j l) + pn l * c) (hc : c = 0) : DvDone us vs j q rs := by
 obtain ⟨e1, e2⟩ := h.cut hl
 subst hc
 rw [hy, ← e1] at hs
 obtain ⟨a1, a2⟩ := dv_nob h.2.2.2.2.1 he.1 hs
 exact ⟨a1, a2, by rw [hrl]; exact e2⟩
theorem dvDone_add {us vs ys rs r2 : List Nat} {j mb ujn u1 u2 v1 v2 q l c c2 : Nat} (h : DvRnd us vs j mb ujn u1 u2 v1 v2) (he : DvEst us vs j mb q) (hl : l = vs.length ∧ j = mb ∨ l = vs.length + 1 ∧ j < mb) (hy : nval ys = q * nval vs) (hrl : rs.length = l) (hrd : Ndig rs) (hju : j + l ≤ us.length) (hs : nval rs + nval ys = nval (seg us j l) + pn l * c) (hc1 : c ≤ 1) (hc : c ≠ 0)
  (h2l : r2.length = vs.length) (h2d : Ndig r2) (ha : nval r2 + pn vs.length * c2 = nval (seg (put us j rs) j vs.length) + nval vs) :
  l = vs.length + 1 ∧ 1 ≤ q ∧ (rs.getD vs.length 0 + c2) % 18446744073709551616 = 0 ∧ DvDone us vs j (q - 1) (r2 ++ [0]) := by
 obtain ⟨e1, e2⟩ := h.cut hl
 have hcc : c = 1 := by omega
 subst hcc
 rw [hy, ← e1] at hs
 have hR : nval rs < pn l := by rw [← hrl]; exact nval_lt hrd
 have hl2 : l = vs.length + 1 ∧ j < mb := by
  rcases hl with ⟨rfl, hj⟩ | h
  ·
   exfalso
   have := he.2.2 hj
   rw [this] at hs
   omega
  · exact h
 obtain ⟨hl2, _⟩ := hl2
 subst hl2
 have e3 : seg (put us j rs) j vs.length = rs.take vs.length := by
  show ((put us j rs).drop j).take vs.length = _
  rw [drop_put (by omega), List.take_append_of_le_length (by omega)]
 have e4 : nval rs = nval (rs.take vs.length) + pn vs.length * rs.getD vs.length 0 := by
  rw [← nval_take_succ, List.take_of_length_le (by omega)]
 rw [e3] at ha
 obtain ⟨a1, a2, a3, a4⟩ := dv_bor h.2.2.2.2.1 h.2.2.2.1 (pn_succ vs.length) hR (by rw [← h2l]; exact nval_lt h2d) he.2.1 hs e4 ha
 refine ⟨rfl, a1, a4, a2, ?_, by rw [List.length_append, h2l]; exact e2⟩
 rw [nval_snoc, Nat.mul_zero, Nat.add_zero]
 exact a3
theorem dvInv_next {zu us ds vs rr : List Nat} {J j ujn mb q : Nat} (h : DvInv zu us ds vs J ujn mb) (hJ : J = j + 1) (hd : DvDone us vs j q rr) (hV : 0 < nval vs) (hju : j + rr.length ≤ us.length) (hm : j < mb) : DvInv zu (put us j rr) (q :: ds) vs j ((put us j rr).getD (0 + (j + vs.length - 1)) 0) mb := by
 obtain ⟨h1, h2, h3, h4⟩ := h
 obtain ⟨d1, d2, d3⟩ := hd
 subst hJ
 obtain ⟨a1, a2⟩ := dv_next h4 hju rfl d3 d2
 refine ⟨fun _ => by congr 1; omega, fun _ => by omega, by rw [a2]; exact Nat.mod_lt _ hV, by rw [d1]; exact a1⟩
theorem dvInv_skip {zu us ds vs rr : List Nat} {J j ujn mb q u1 u2 v1 v2 : Nat} (h : DvInv zu us ds vs J ujn mb) (hr : DvRnd us vs j mb ujn u1 u2 v1 v2) (hJ : J = j + 1) (hd : DvDone us vs j q rr) (hV : 0 < nval vs) (hju : j + rr.length ≤ us.length) (hm : j = mb) (hds : ds = []) (hmb : 0 < mb) : DvInv zu (put us j rr) ds vs j ((put us j rr).getD (0 + (j + vs.length - 1)) 0) mb := by
 obtain ⟨h1, h2, h3, h4⟩ := h
 obtain ⟨d1, d2, d3⟩ := hd
 subst hJ
 obtain ⟨a1, a2⟩ := dv_next h4 hju rfl d3 d2
 have e0 : nval (us.drop j) / nval vs = 0 := Nat.div_eq_of_lt (hr.1 hm).2.2
 refine ⟨fun _ => by congr 1; omega, fun _ => by omega, by rw [a2]; exact Nat.mod_lt _ hV, ?_⟩
 rw [a1, e0, hds]
 simp [nval]
theorem DvDone.first {us vs rr : List Nat} {j mb ujn u1 u2 v1 v2 q : Nat} (h : DvDone us vs j q rr) (hr : DvRnd us vs j mb ujn u1 u2 v1 v2) (hm : j = mb) : q = 0 := by
 rw [h.1]; exact Nat.div_eq_of_lt (hr.1 hm).2.2
theorem top_le {vs : List Nat} {n : Nat} (hn : vs.length = n) (h1 : 1 ≤ n) : nval vs = nval (vs.take (n - 1)) + pn (n - 1) * vs.getD (n - 1) 0 := by
 rw [← nval_take_succ, show n - 1 + 1 = n by omega, List.take_of_length_le (by omega)]
theorem top_low {vs : List Nat} {n : Nat} (hv : Ndig vs) (hn : vs.length = n) : nval (vs.take (n - 1)) < pn (n - 1) := Nat.lt_of_lt_of_le (nval_lt (ndig_take hv _)) (pn_le (by rw [List.length_take]; omega))
theorem lsh_top {vs rs : List Nat} {n s co : Nat} (hv : Ndig vs) (hr : Ndig rs) (hn : vs.length = n) (h1 : 1 ≤ n) (hrl : rs.length = n) (ht : 0 < vs.getD (n - 1) 0) (hs : s = 64 - lent (vs.getD (n - 1) 0)) (h : nval rs + pn n * co = nval vs * 2 ^ s) :
  co = 0 ∧ nval rs = nval vs * 2 ^ s ∧ 9223372036854775808 ≤ rs.getD (n - 1) 0 := by
 have e1 := top_le hn h1
 have e2 := top_low hv hn
 have e3 := top_le hrl h1
 have e4 := top_low hr hrl
 have hb := ndig_get hv (n - 1)
 have hrb := ndig_get hr (n - 1)
 obtain ⟨a1, a2, a3⟩ := lent_shift ht hb
 obtain ⟨b1, b2, b3⟩ := lent_pos ht
 rw [← hs] at a1 a2
 generalize vs.getD (n - 1) 0 = t at *
 generalize rs.getD (n - 1) 0 = u at *
 generalize nval (vs.take (n - 1)) = x at *
 generalize nval (rs.take (n - 1)) = y at *
 have hpn : pn n = 18446744073709551616 * pn (n - 1) := by rw [← pn_succ, show n - 1 + 1 = n by omega]
 generalize pn (n - 1) = p at *
 have hp64 : 2 ^ lent t * 2 ^ s = 18446744073709551616 := by rw [hs]; exact pow_split64 a3
 have c1 : (t + 1) * 2 ^ s ≤ 18446744073709551616 := by rw [← hp64]; exact Nat.mul_le_mul_right _ b2
 have hps := Nat.two_pow_pos s
 generalize 2 ^ s = q at *
 have c2 : nval vs * q < 18446744073709551616 * p := by
  have d1 : nval vs < p * (t + 1) := by rw [e1]; grind
  have d2 : nval vs * q < p * (t + 1) * q := Nat.mul_lt_mul_of_pos_right d1 hps
  have d3 : p * ((t + 1) * q) ≤ p * 18446744073709551616 := Nat.mul_le_mul_left _ c1
  have d4 : p * (t + 1) * q = p * ((t + 1) * q) := by grind
  omega
 have c3 : co = 0 := by
  rcases Nat.eq_zero_or_pos co with h0 | h0
  · exact h0
  ·
   have := Nat.mul_le_mul_left (pn n) h0
   omega
 rw [c3, Nat.mul_zero, Nat.add_zero] at h
 refine ⟨c3, h, ?_⟩
 rcases Nat.lt_or_ge u 9223372036854775808 with hu | hu
 ·
  exfalso
  have d1 : p * (u + 1) ≤ p * 9223372036854775808 := Nat.mul_le_mul_left _ hu
  have d2 : p * 9223372036854775808 ≤ p * (t * q) := Nat.mul_le_mul_left _ a1
  have d3 : p * (t * q) ≤ nval vs * q := by rw [e1]; grind
  grind
 · exact hu
def DlSt (us vs vl ul : List Nat) (m s : Nat) : Prop := nval vl = nval vs * 2 ^ s ∧ nval ul = nval us * 2 ^ s ∧ 9223372036854775808 ≤ vl.getD (vs.length - 1) 0 ∧ ul.getD (vs.length + m) 0 < 9223372036854775808
theorem dlSt_no {us vs : List Nat} {m : Nat} (hv : Ndig vs) (hul : us.length = vs.length + m) (ht : lent (vs.getD (vs.length - 1) 0) = 64) : DlSt us vs vs (us ++ [0]) m 0 := by
 refine ⟨by simp, by rw [nval_snoc]; simp, ?_, ?_⟩
 ·
  have hp : 0 < vs.getD (vs.length - 1) 0 := by
   rcases Nat.eq_zero_or_pos (vs.getD (vs.length - 1) 0) with h | h
   · rw [h] at ht; simp [lent] at ht
   · exact h
  have := (lent_pos hp).1
  rw [ht] at this
  exact this
 · rw [← hul]; simp [List.getD_eq_getElem?_getD]
theorem dlSt_sh {us vs vl rs : List Nat} {m s cv cu : Nat} (hv : Ndig vs) (hvl : Ndig vl) (hl : vl.length = vs.length) (hn : 1 ≤ vs.length) (hul : us.length = vs.length + m) (hrl : rs.length = vs.length + m) (ht : 0 < vs.getD (vs.length - 1) 0) (hs : s = 64 - lent (vs.getD (vs.length - 1) 0)) (hs0 : s < 64)
  (h1 : nval vl + pn vs.length * cv = nval vs * 2 ^ s) (h2 : nval rs + pn (vs.length + m) * cu = nval us * 2 ^ s) (hcu : cu < 2 ^ s) : DlSt us vs vl (rs ++ [cu]) m s := by
 obtain ⟨a1, a2, a3⟩ := lsh_top hv hvl rfl hn hl ht hs h1
 refine ⟨a2, by rw [nval_snoc, hrl]; exact h2, a3, ?_⟩
 have e : (rs ++ [cu]).getD (vs.length + m) 0 = cu := by rw [← hrl]; simp [List.getD_eq_getElem?_getD]
 rw [e]
 have : 2 ^ s ≤ 2 ^ 63 := Nat.pow_le_pow_right (by decide) (by omega)
 omega
theorem nval_pad {ul : List Nat} {c : Nat} (h : ul.length ≤ c) : nval (put (List.replicate c 0) 0 ul) = nval ul := by
 have e := nval_cut (put (List.replicate c 0) 0 ul) 0 (Nat.zero_le _)
 rw [drop_put (by rw [List.length_replicate]; omega), nval_app] at e
 rw [e, List.drop_replicate, nval_replicate]
 simp [nval, pn_zero]
theorem dlSt_pre {us vs vl ul : List Nat} {m s c : Nat} (h : DlSt us vs vl ul m s) (hu : Ndig ul) (hl : vl.length = vs.length) (hul : ul.length = vs.length + (m + 1)) (hc : vs.length + (m + 1) ≤ c) (hn : 1 ≤ vs.length) :
  9223372036854775808 ≤ vl.getD (vl.length - 1) 0 ∧ (put (List.replicate c 0) 0 ul).getD (vl.length + (m + 1) - 1) 0 < vl.getD (vl.length - 1) 0 ∧ nval ((put (List.replicate c 0) 0 ul).drop (m + 1)) < nval vl ∧ 0 < nval vl := by
 obtain ⟨h1, h2, h3, h4⟩ := h
 rw [hl]
 have hcl : (List.replicate c 0).length = c := List.length_replicate
 have e1 : (put (List.replicate c 0) 0 ul).getD (vs.length + (m + 1) - 1) 0 = ul.getD (vs.length + m) 0 := by
  rw [put_getD_in (by omega) (by omega) (by omega)]; congr 1
 have e2 := top_le hl hn
 have hpp := pn_pos (vs.length - 1)
 have e3 : nval ((put (List.replicate c 0) 0 ul).drop (m + 1)) < 9223372036854775808 * pn (vs.length - 1) := by
  have f1 := nval_seg (put (List.replicate c 0) 0 ul) (m + 1) (vs.length - 1)
  have f2 := nval_drop (put (List.replicate c 0) 0 ul) (m + 1 + (vs.length - 1))
  have f3 : (put (List.replicate c 0) 0 ul).drop (m + 1 + (vs.length - 1) + 1) = List.replicate (c - ul.length) 0 := by
   rw [show m + 1 + (vs.length - 1) + 1 = ul.length by omega]
   have := drop_put (us := List.replicate c 0) (rr := ul) (j := 0) (by omega)
   rw [List.drop_zero] at this
   rw [this, Nat.zero_add, List.drop_left' rfl, List.drop_replicate]
  rw [f3, nval_replicate, show m + 1 + (vs.length - 1) = vs.length + (m + 1) - 1 by omega, e1] at f2
  rw [show m + 1 + (vs.length - 1) = vs.length + (m + 1) - 1 by omega, f2] at f1
  have f4 : nval (seg (put (List.replicate c 0) 0 ul) (m + 1) (vs.length - 1)) < pn (vs.length - 1) := Nat.lt_of_lt_of_le (nval_lt (seg_dig (ndig_put (ndig_replicate _) hu) _ _)) (pn_le (by rw [List.length_take]; omega))
  have f5 : pn (vs.length - 1) * (ul.getD (vs.length + m) 0 + 1) ≤ pn (vs.length - 1) * 9223372036854775808 := Nat.mul_le_mul_left _ h4
  grind
 have e4 : 9223372036854775808 * pn (vs.length - 1) ≤ nval vl := by
  have := Nat.mul_le_mul_left (pn (vs.length - 1)) h3
  rw [e2]
  grind
 have e5 : 0 < 9223372036854775808 * pn (vs.length - 1) := by omega
 exact ⟨h3, by rw [e1]; omega, by omega, by omega⟩
theorem dl_quot {U V q r s : Nat} (hV : 0 < V) (h : U * 2 ^ s = q * (V * 2 ^ s) + r) (hr : r < V * 2 ^ s) : q = U / V ∧ r / 2 ^ s = U % V := by
 have hs := Nat.two_pow_pos s
 have h1 := div_scale (X := U) (y := V) (q := q) (R := r) (k := 2 ^ s) h.symm hr hs
 obtain ⟨a1, a2⟩ := h1
 have e : U / V = q := by
  rw [← a1, Nat.add_comm, Nat.add_mul_div_right _ _ hV, Nat.div_eq_of_lt a2, Nat.zero_add]
 refine ⟨e.symm, ?_⟩
 have h2 := Nat.div_add_mod U V
 rw [e, Nat.mul_comm] at h2
 omega
theorem rawL {P : Program} {n : Nat} {ds : List Deferred} {e : Env} {L : Regs} {a : Act} {w : World} {ops : Array Oper} {Q : Exit → Act → World → Prop} {o : Oper} {i : Nat} {K : Act → World → Prop} {x : SV} (hI : Is n ds e L a) (ho : ops[i]? = some o) (hw : want L ops o.guard = some true) (hd : dstOK n o.dst = true)
  (h : ∀ ev : Operand → Value, (∀ q y, arg L q = some y → ev q = den e y) → (execOp ev o).run P w = .ok (.value (den e x)) w) (hk : ∀ a', Is n ds e (upd L o.dst x) a' → K a' w) : wpOp P ops Q i K a w := by
 unfold wpOp
 simp only [ho, wanted_eq hI hw, if_true]
 refine .inl ?_
 unfold Oper.wp
 rw [h _ (fun q y h => hI.arg h), Oper.upon_value]
 exact hk _ (hI.put (dst_lt hd) rfl)
theorem ptr_ne {P : Program} {w : World} {t t2 te : TypeId} {j : TypeInfo} {x y : Operand} {g g2 o1 o2 : Nat} {ca cb : Array Value} {ta tb : TypeId} (ev : Operand → Value) {o : Oper} (ho : o.op = .binOp .eql t x y t2) (h1 : ev x = .pointer (some ⟨g, o1, none⟩)) (h2 : ev y = .pointer (some ⟨g2, o2, none⟩)) (hp : P.underlying t = some (.pointer te)) (hte : P.info? te = some j) (hsz : j.size ≠ 0) (hne : g ≠ g2)
  (ha : w.heap[g]? = some (.cells ca ta (0, 0))) (hb : w.heap[g2]? = some (.cells cb tb (0, 0))) : (execOp ev o).run P w = .ok (.value (.bool false)) w := by
 have hE := run_eql_ptr_other (P := P) (a := ⟨g, o1, none⟩) (b := ⟨g2, o2, none⟩) w hp hte hsz (fun h => hne (congrArg Addr.block h)) ha hb
 have hg : (eqGuard .eql t x y (.pointer (some ⟨g, o1, none⟩)) (.pointer (some ⟨g2, o2, none⟩))).run P w = .ok () w := by simp [eqGuard]
 simp only [execOp, ho, h1, h2, Sem.run_bind, hg, Result.andThen_ok, hE]
 rfl
theorem seg_put_take {zs ds : List Nat} {k : Nat} (h : ds.length ≤ zs.length) (hk : k ≤ ds.length) : seg (put zs 0 ds) 0 k = ds.take k := by
 show ((put zs 0 ds).drop 0).take k = _
 rw [drop_put (by omega), List.take_append_of_le_length hk]
theorem dl_low {u2 vs : List Nat} {l s : Nat} (hl : vs.length ≤ l) (hv : Ndig vs) (hlt : nval u2 < nval vs * 2 ^ s) (hs : s < 64) (ht : 0 < vs.getD (vs.length - 1) 0) (hsh : s = 64 - lent (vs.getD (vs.length - 1) 0)) : nval (seg u2 0 l) = nval u2 := by
 have hn : 1 ≤ vs.length := by
  rcases Nat.eq_zero_or_pos vs.length with h | h
  · rw [List.eq_nil_of_length_eq_zero h] at ht; simp at ht
  · exact h
 have e1 := top_le (vs := vs) rfl hn
 have e2 := top_low hv rfl
 have hb := ndig_get hv (vs.length - 1)
 obtain ⟨b1, b2, b3⟩ := lent_pos ht
 obtain ⟨_, _, a3⟩ := lent_shift ht hb
 have hp64 : 2 ^ lent (vs.getD (vs.length - 1) 0) * 2 ^ s = 18446744073709551616 := by rw [hsh]; exact pow_split64 a3
 have c1 : (vs.getD (vs.length - 1) 0 + 1) * 2 ^ s ≤ 18446744073709551616 := by rw [← hp64]; exact Nat.mul_le_mul_right _ b2
 have hpn : pn vs.length = 18446744073709551616 * pn (vs.length - 1) := by rw [← pn_succ, show vs.length - 1 + 1 = vs.length by omega]
 have hle := pn_le hl
 have hps := Nat.two_pow_pos s
 have hlow : nval (u2.drop 0) < pn l := by
  rw [List.drop_zero]
  generalize vs.getD (vs.length - 1) 0 = t at *
  generalize nval (vs.take (vs.length - 1)) = x at *
  generalize pn (vs.length - 1) = p at *
  generalize 2 ^ s = q at *
  have d1 : nval vs < p * (t + 1) := by rw [e1]; grind
  have d2 : nval vs * q < p * (t + 1) * q := Nat.mul_lt_mul_of_pos_right d1 hps
  have d3 : p * ((t + 1) * q) ≤ p * 18446744073709551616 := Nat.mul_le_mul_left _ c1
  have d4 : p * (t + 1) * q = p * ((t + 1) * q) := by grind
  omega
 have h1 := nval_seg u2 0 l
 rw [nval_drop_zero hlow, Nat.mul_zero, Nat.add_zero, List.drop_zero] at h1
 exact h1.symm
theorem div_of {q y r U : Nat} (h : q * y + r = U) (hr : r < y) : q = U / y ∧ r = U % y := by
 have e : U / y = q := by rw [← h, Nat.add_comm, Nat.add_mul_div_right _ _ (by omega), Nat.div_eq_of_lt hr, Nat.zero_add]
 have h2 := Nat.div_add_mod U y
 rw [e, Nat.mul_comm] at h2
 exact ⟨e.symm, by omega⟩
theorem seg_zero {zs : List Nat} : seg zs 0 0 = [] := by simp [seg]
theorem nval_nil : nval [] = 0 := rfl
theorem Sl.cls2 {k : IntKind} {B cap : Nat} {ad : Option Addr} {xs : List Nat} {w : World} {hd g m b2 : Nat} (h : Sl k B (fun b => b = hd) w ad cap xs) (hg : hd = g) (hge : m ≤ g) (hne : b2 ≠ g) : Sl k B (fun j => m ≤ j ∧ j ≠ b2) w ad cap xs := h.cls_ fun b hb _ => by rw [hb, hg]; exact ⟨hge, Ne.symm hne⟩
theorem Sl.upN {k : IntKind} {B cap : Nat} {ad : Option Addr} {xs : List Nat} {w w' : World} {C : Nat → Prop} {b2 : Nat} (h : Sl k B (fun j => w.heap.size ≤ j ∧ j ≠ b2) w' ad cap xs) : Sl k B (GrowN [b2] C w w') w' ad cap xs := h.cls_ (fun b hb hlt => ⟨hlt, fun hm => hb.2 (List.mem_singleton.1 hm), .inr hb.1⟩)
theorem ntrim_top {vs : List Nat} (h : Ntrim vs) (hn : 0 < vs.length) : 0 < vs.getD (vs.length - 1) 0 := by
 rcases h with h | h
 · rw [h] at hn; simp at hn
 · omega
theorem smear {x y d k : Nat} (h : x ≤ y) (h2 : y < 2 ^ k) (hd : d ≤ y) : x ≤ (y ||| d) ∧ (y ||| d) < 2 ^ k := ⟨Nat.le_trans h Nat.left_le_or, Nat.or_lt_two_pow h2 (Nat.lt_of_le_of_lt hd h2)⟩
theorem bitlen_of {xs : List Nat} {y m : Nat} (hn : 0 < xs.length) (hy : y < 2 ^ lent (xs.getD (xs.length - 1) 0)) (ht : 0 < xs.getD (xs.length - 1) 0) (hb : nval xs < 2 ^ m) : 64 * (xs.length - 1) + lent y ≤ m := by
 have h1 : lent y ≤ lent (xs.getD (xs.length - 1) 0) := lent_lt hy
 have h2 := lent_pos ht
 have e1 := top_le (vs := xs) rfl hn
 have h3 : pn (xs.length - 1) * 2 ^ (lent (xs.getD (xs.length - 1) 0) - 1) ≤ pn (xs.length - 1) * xs.getD (xs.length - 1) 0 := Nat.mul_le_mul_left _ h2.1
 rw [pn_two, ← Nat.pow_add] at h3
 rw [pn_two] at e1
 have h4 : 2 ^ (64 * (xs.length - 1) + (lent (xs.getD (xs.length - 1) 0) - 1)) < 2 ^ m := by omega
 have h5 := (Nat.pow_lt_pow_iff_right (a := 2) (by decide)).1 h4
 omega
theorem ptr_self {P : Program} {w : World} {t t2 te : TypeId} {j : TypeInfo} {x y : Operand} {p : Addr} (ev : Operand → Value) {o : Oper} (ho : o.op = .binOp .neq t x y t2) (h1 : ev x = .pointer (some p)) (h2 : ev y = .pointer (some p)) (hp : P.underlying t = some (.pointer te)) (hte : P.info? te = some j) : (execOp ev o).run P w = .ok (.value (.bool false)) w := by
 have h : ∀ d : Nat, (Op.equalIn (d + 1) t (.pointer (some p)) (.pointer (some p))).run P w = .ok true w := fun d => by
  simp [Op.equalIn, run_underlying hp, sizeOf, typeInfo, hte, run_sameAddr_same]
 have hE : (Op.equal t (.pointer (some p)) (.pointer (some p))).run P w = .ok true w := run_equal_top h
 have hg : (eqGuard .neq t x y (.pointer (some p)) (.pointer (some p))).run P w = .ok () w := by simp [eqGuard]
 have h3 : (binOp .neq t (.pointer (some p)) (.pointer (some p))) = (do pure (.bool (!(← Op.equal t (.pointer (some p)) (.pointer (some p)))))) := rfl
 simp only [execOp, ho, h1, h2, Sem.run_bind, hg, Result.andThen_ok, h3, hE]
 simp
theorem Rel.heldN {F : Nat → Prop} {w0 wc w' : World} {e : Env} {Hs : List Blk} {Gs : List Row} {N : List Nat} (hS : Rel F w0 e Hs Gs wc) (hk : Keep (ButN N wc) wc w') (hN : ∀ b ∈ N, ¬ F b) (h1 : ∀ x ∈ Hs, e.b x.n ∉ N) (h2 : ∀ y ∈ Gs, ∀ g, (e.r y.n).ownBlock = some g → g ∉ N) : Rel F w0 e Hs Gs w' := by
 have hsz := hS.keep.size
 refine ⟨hS.keep.trans (hk.mono fun k h => ⟨Nat.lt_of_lt_of_le (hS.low k h) hsz, fun hm => hN k hm h⟩), hS.low, fun x hx => ?_, fun y hy => ?_, hS.hh, hS.hg, hS.gg⟩
 ·
  have hxlt := (Array.getElem?_eq_some_iff.1 (hS.blk x hx).1).1
  exact ⟨by rw [hk.block _ ⟨hxlt, h1 x hx⟩]; exact (hS.blk x hx).1, (hS.blk x hx).2⟩
 ·
  obtain ⟨q1, q2⟩ := hS.row y hy
  refine ⟨?_, q2⟩
  obtain ⟨hl, h3⟩ := q1
  refine ⟨hl, ?_⟩
  rcases h3 with h3 | ⟨g, cap, cur, r1, r2, r3, r4⟩
  · exact .inl h3
  ·
   have hg : (e.r y.n).ownBlock = some g := by rw [r1]; rfl
   have hglt := (Array.getElem?_eq_some_iff.1 r3).1
   exact .inr ⟨g, cap, cur, r1, r2, by rw [hk.block _ ⟨hglt, h2 y hy g hg⟩]; exact r3, r4⟩
section
variable {P : Program} {ops : Array Oper} {Q : Exit → Act → World → Prop} {R : World → Prop} {last : Nat} {a : Act} {w : World}
theorem lastTwoL {i j fuel f' : Nat} {listed : Array Bool} (hr : Region.ready .any ops listed = [i, j]) (hf : fuel = f' + 1) (hl : (listed.setIfInBounds j true).getD last true = true)
  (h1 : wpOp P ops Q i (fun a' w' => R w' ∧ wpL P ops Q R last f' (listed.setIfInBounds i true) a' w') a w) (h2 : wpOp P ops Q j (fun a' w' => wpL P ops Q R last f' (listed.setIfInBounds j true) a' w') a w) : wpL P ops Q R last fuel listed a w := by
 subst hf
 refine ⟨fun h0 => (by rw [hr] at h0; cases h0), fun k hk => ?_⟩
 rw [hr] at hk
 rcases List.mem_cons.1 hk with rfl | hk
 · exact wpOp_mono (fun a' w' h => ⟨fun _ => h.1, h.2⟩) h1
 ·
  obtain rfl := List.mem_singleton.1 hk
  exact wpOp_mono (fun a' w' h => ⟨fun h0 => (by rw [hl] at h0; cases h0), h⟩) h2
theorem pastTwoL {i j fuel f' : Nat} {listed : Array Bool} (hr : Region.ready .any ops listed = [i, j]) (hf : fuel = f' + 1) (hl : (listed.setIfInBounds i true).getD last true = true) (hl2 : (listed.setIfInBounds j true).getD last true = true)
  (h1 : wpOp P ops Q i (fun a' w' => wpL P ops Q R last f' (listed.setIfInBounds i true) a' w') a w) (h2 : wpOp P ops Q j (fun a' w' => wpL P ops Q R last f' (listed.setIfInBounds j true) a' w') a w) : wpL P ops Q R last fuel listed a w := by
 subst hf
 refine ⟨fun h0 => (by rw [hr] at h0; cases h0), fun k hk => ?_⟩
 rw [hr] at hk
 rcases List.mem_cons.1 hk with rfl | hk
 · exact wpOp_mono (fun a' w' h => ⟨fun h0 => (by rw [hl] at h0; cases h0), h⟩) h1
 ·
  obtain rfl := List.mem_singleton.1 hk
  exact wpOp_mono (fun a' w' h => ⟨fun h0 => (by rw [hl2] at h0; cases h0), h⟩) h2
end
section
variable {P : Program} {ops : Array Oper} {Q : Exit → Act → World → Prop} {R : World → Prop} {last : Nat} {a : Act} {w : World}
theorem lastThreeL {i j k fuel f' : Nat} {listed : Array Bool} (hr : Region.ready .any ops listed = [i, j, k]) (hf : fuel = f' + 1) (hl : (listed.setIfInBounds k true).getD last true = true)
  (h1 : wpOp P ops Q i (fun a' w' => R w' ∧ wpL P ops Q R last f' (listed.setIfInBounds i true) a' w') a w) (h2 : wpOp P ops Q j (fun a' w' => R w' ∧ wpL P ops Q R last f' (listed.setIfInBounds j true) a' w') a w) (h3 : wpOp P ops Q k (fun a' w' => wpL P ops Q R last f' (listed.setIfInBounds k true) a' w') a w) : wpL P ops Q R last fuel listed a w := by
 subst hf
 refine ⟨fun h0 => (by rw [hr] at h0; cases h0), fun m hm => ?_⟩
 rw [hr] at hm
 rcases List.mem_cons.1 hm with rfl | hm
 · exact wpOp_mono (fun a' w' h => ⟨fun _ => h.1, h.2⟩) h1
 ·
  rcases List.mem_cons.1 hm with rfl | hm
  · exact wpOp_mono (fun a' w' h => ⟨fun _ => h.1, h.2⟩) h2
  ·
   obtain rfl := List.mem_singleton.1 hm
   exact wpOp_mono (fun a' w' h => ⟨fun h0 => (by rw [hl] at h0; cases h0), h⟩) h3
end


end Go.Proofs.YtmendapdibnbdaaGreatDoor.Stride
