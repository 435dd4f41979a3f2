/- Walks of the program's functions, printed by a program of mine (walk.py) over the words of Stride: each function's contract. -/
import Derived.Test.YtmendapdibnbdaaGreatDoorDdD
import Derived.Test.YtmendapdibnbdaaGreatDoorNag
import Derived.LaidEqlPtr
namespace Go.Proofs.YtmendapdibnbdaaGreatDoor.Stride
open Go Go.RowKit Go.Proofs.YtmendapdibnbdaaGreatDoor.Mag
set_option linter.unusedVariables false
set_option linter.unusedSimpArgs false
set_option maxHeartbeats 4000000
set_option maxRecDepth 100000
theorem len64_spec {C : Nat → Prop} {w : World} {x : Nat} (hx : x < 18446744073709551616) :
    Calls P 121 #[.int .u64 (x : Int)] w fun ex w' => ex = .returned (.int .i64 ((lent x : Nat) : Int)) ∧ KS w w' := by
 refine dN (C := C) [vU x] 25 1 Tryz.func121 fun a_ hI hR hB => ?_
 replace hI : Is 25 [] e0 [(0, vU x)] a_ := hI
 refine rZ tab 0 [(2, .v (.int .i64 0))] [0] hR hI fun e1 a1 w1 hag hR hI => ?_
 refine wp_seq ?_
 refine rZ tab 0 [(4, vB (decide ((x : Int) ≥ (4294967296 : Int))))] [2, 0] hR hI fun e2 a2 w2 hag hR hI => ?_
 refine cnd (b := decide ((x : Int) ≥ (4294967296 : Int))) hI (by kernel_rfl) (fun hc3 => ?_) (fun hc3 => ?_)
 ·
  replace hI := hI.rb 4 hc3
  try simp only [tolds] at hc3
  have hd32 : lent x = 32 + lent (x / 4294967296) := lent_div (k := 32) (by omega)
  refine rK tab 0 [] [] [(0, vU (x / 4294967296))] [] [] [] [] [] 0 hR hI (.cons (by decide : (0 : Int) ≤ 32) (.cons (by decide : (32 : Int) ≤ (IntKind.u64.bits : Int)) .nil)) fun e4 a4 w4 hag hR hI => ?_
  refine aZ tab 0 [(2, .v (.int .i64 32))] [0] hR hI fun e5 a5 w5 hag hR hI => ?_
  refine then_n ?_
  refine wp_seq ?_
  refine rZ tab 0 [(8, vB (decide (((x / 4294967296 : Nat) : Int) ≥ (65536 : Int))))] [2, 0] hR hI fun e6 a6 w6 hag hR hI => ?_
  refine cnd (b := decide (((x / 4294967296 : Nat) : Int) ≥ (65536 : Int))) hI (by kernel_rfl) (fun hc7 => ?_) (fun hc7 => ?_)
  ·
   replace hI := hI.rb 8 hc7
   try simp only [tolds] at hc7
   have hd16 : lent (x / 4294967296) = 16 + lent ((x / 4294967296) / 65536) := lent_div (k := 16) (by omega)
   refine rK tab 0 [] [] [(0, vU ((x / 4294967296) / 65536))] [2] [] [] [] [] 0 hR hI (.cons (by decide : (0 : Int) ≤ 16) (.cons (by decide : (16 : Int) ≤ (IntKind.u64.bits : Int)) .nil)) fun e8 a8 w8 hag hR hI => ?_
   refine aK tab 0 [(1, .nw)] [] [(2, .v (.int .i64 ((32 : Int) + (16 : Int))))] [0] [] [] [] [] 0 hR hI (.cons (inR_i64 (n := (32 : Int) + (16 : Int)) (by omega)) .nil) fun e9 a9 w9 hag hR hI => ?_
   refine then_n ?_
   refine wp_seq ?_
   refine rZ tab 0 [(14, vB (decide ((((x / 4294967296) / 65536 : Nat) : Int) ≥ (256 : Int))))] [2, 0] hR hI fun e10 a10 w10 hag hR hI => ?_
   refine cnd (b := decide ((((x / 4294967296) / 65536 : Nat) : Int) ≥ (256 : Int))) hI (by kernel_rfl) (fun hc11 => ?_) (fun hc11 => ?_)
   ·
    replace hI := hI.rb 14 hc11
    try simp only [tolds] at hc11
    have hd8 : lent ((x / 4294967296) / 65536) = 8 + lent (((x / 4294967296) / 65536) / 256) := lent_div (k := 8) (by omega)
    refine rK tab 0 [] [] [(0, vU (((x / 4294967296) / 65536) / 256))] [2] [] [] [] [] 0 hR hI (.cons (by decide : (0 : Int) ≤ 8) (.cons (by decide : (8 : Int) ≤ (IntKind.u64.bits : Int)) .nil)) fun e12 a12 w12 hag hR hI => ?_
    refine aK tab 0 [(1, .nw)] [] [(2, .v (.int .i64 (((32 : Int) + (16 : Int)) + (8 : Int))))] [0] [] [] [] [] 0 hR hI (.cons (inR_i64 (n := ((32 : Int) + (16 : Int)) + (8 : Int)) (by omega)) .nil) fun e13 a13 w13 hag hR hI => ?_
    refine then_n ?_
    have hlb := lent_lt (x := ((x / 4294967296) / 65536) / 256) (n := 8) (by omega); have hl8 : len8.length = 256 := by decide
    refine rK tab 0 [(2, .nw), (3, .eq (.int .u8 ((lent (((x / 4294967296) / 65536) / 256) : Nat) : Int))), (4, .nw), (5, .nw)] [] [(2, .v (.int .i64 ((((32 : Int) + (16 : Int)) + (8 : Int)) + ((lent (((x / 4294967296) / 65536) / 256) : Nat) : Int))))] [] [] [] [] [] 0 hR hI (.cons (inR_u8 (n := ((((x / 4294967296) / 65536) / 256 : Nat) : Int)) (by omega)) (.cons (congrArg (Value.int .u8) (len8_int (x := ((x / 4294967296) / 65536) / 256) (by omega) : ((len8.getD (((x / 4294967296) / 65536) / 256) 0).toNat : Int) = ((lent (((x / 4294967296) / 65536) / 256) : Nat) : Int))) (.cons (by omega : (0 : Int) ≤ ((((x / 4294967296) / 65536) / 256 : Nat) : Int) ∧ ((((x / 4294967296) / 65536) / 256 : Nat) : Int) < (len8.length : Nat)) (.cons (inR_i64 (n := ((lent (((x / 4294967296) / 65536) / 256) : Nat) : Int)) (by omega)) (.cons (inR_i64 (n := (((32 : Int) + (16 : Int)) + (8 : Int)) + ((lent (((x / 4294967296) / 65536) / 256) : Nat) : Int)) (by omega)) .nil))))) fun e14 a14 w14 hag hR hI => ?_
    refine wp_ret (oN tab [.v (.int .i64 ((((32 : Int) + (16 : Int)) + (8 : Int)) + ((lent (((x / 4294967296) / 65536) / 256) : Nat) : Int)))] hR hI ?_)
    have hl_ : ((((32 : Int) + (16 : Int)) + (8 : Int)) + ((lent (((x / 4294967296) / 65536) / 256) : Nat) : Int) : Int) = ((lent x : Nat) : Int) := by first | omega | simp_all
    exact ⟨congrArg (fun z_ => Ending.returned (.int .i64 z_)) hl_, hB.fin hR⟩
   ·
    replace hI := hI.rb 14 hc11
    try simp only [tolds] at hc11
    refine wp_skip ?_
    refine then_n ?_
    have hlb := lent_lt (x := (x / 4294967296) / 65536) (n := 8) (by omega); have hl8 : len8.length = 256 := by decide
    refine rK tab 0 [(2, .nw), (3, .eq (.int .u8 ((lent ((x / 4294967296) / 65536) : Nat) : Int))), (4, .nw), (5, .nw)] [] [(2, .v (.int .i64 (((32 : Int) + (16 : Int)) + ((lent ((x / 4294967296) / 65536) : Nat) : Int))))] [] [] [] [] [] 0 hR hI (.cons (inR_u8 (n := (((x / 4294967296) / 65536 : Nat) : Int)) (by omega)) (.cons (congrArg (Value.int .u8) (len8_int (x := (x / 4294967296) / 65536) (by omega) : ((len8.getD ((x / 4294967296) / 65536) 0).toNat : Int) = ((lent ((x / 4294967296) / 65536) : Nat) : Int))) (.cons (by omega : (0 : Int) ≤ (((x / 4294967296) / 65536 : Nat) : Int) ∧ (((x / 4294967296) / 65536 : Nat) : Int) < (len8.length : Nat)) (.cons (inR_i64 (n := ((lent ((x / 4294967296) / 65536) : Nat) : Int)) (by omega)) (.cons (inR_i64 (n := ((32 : Int) + (16 : Int)) + ((lent ((x / 4294967296) / 65536) : Nat) : Int)) (by omega)) .nil))))) fun e15 a15 w15 hag hR hI => ?_
    refine wp_ret (oN tab [.v (.int .i64 (((32 : Int) + (16 : Int)) + ((lent ((x / 4294967296) / 65536) : Nat) : Int)))] hR hI ?_)
    have hl_ : (((32 : Int) + (16 : Int)) + ((lent ((x / 4294967296) / 65536) : Nat) : Int) : Int) = ((lent x : Nat) : Int) := by first | omega | simp_all
    exact ⟨congrArg (fun z_ => Ending.returned (.int .i64 z_)) hl_, hB.fin hR⟩
  ·
   replace hI := hI.rb 8 hc7
   try simp only [tolds] at hc7
   refine wp_skip ?_
   refine then_n ?_
   refine wp_seq ?_
   refine rZ tab 0 [(14, vB (decide (((x / 4294967296 : Nat) : Int) ≥ (256 : Int))))] [2, 0] hR hI fun e16 a16 w16 hag hR hI => ?_
   refine cnd (b := decide (((x / 4294967296 : Nat) : Int) ≥ (256 : Int))) hI (by kernel_rfl) (fun hc17 => ?_) (fun hc17 => ?_)
   ·
    replace hI := hI.rb 14 hc17
    try simp only [tolds] at hc17
    have hd8 : lent (x / 4294967296) = 8 + lent ((x / 4294967296) / 256) := lent_div (k := 8) (by omega)
    refine rK tab 0 [] [] [(0, vU ((x / 4294967296) / 256))] [2] [] [] [] [] 0 hR hI (.cons (by decide : (0 : Int) ≤ 8) (.cons (by decide : (8 : Int) ≤ (IntKind.u64.bits : Int)) .nil)) fun e18 a18 w18 hag hR hI => ?_
    refine aK tab 0 [(1, .nw)] [] [(2, .v (.int .i64 ((32 : Int) + (8 : Int))))] [0] [] [] [] [] 0 hR hI (.cons (inR_i64 (n := (32 : Int) + (8 : Int)) (by omega)) .nil) fun e19 a19 w19 hag hR hI => ?_
    refine then_n ?_
    have hlb := lent_lt (x := (x / 4294967296) / 256) (n := 8) (by omega); have hl8 : len8.length = 256 := by decide
    refine rK tab 0 [(2, .nw), (3, .eq (.int .u8 ((lent ((x / 4294967296) / 256) : Nat) : Int))), (4, .nw), (5, .nw)] [] [(2, .v (.int .i64 (((32 : Int) + (8 : Int)) + ((lent ((x / 4294967296) / 256) : Nat) : Int))))] [] [] [] [] [] 0 hR hI (.cons (inR_u8 (n := (((x / 4294967296) / 256 : Nat) : Int)) (by omega)) (.cons (congrArg (Value.int .u8) (len8_int (x := (x / 4294967296) / 256) (by omega) : ((len8.getD ((x / 4294967296) / 256) 0).toNat : Int) = ((lent ((x / 4294967296) / 256) : Nat) : Int))) (.cons (by omega : (0 : Int) ≤ (((x / 4294967296) / 256 : Nat) : Int) ∧ (((x / 4294967296) / 256 : Nat) : Int) < (len8.length : Nat)) (.cons (inR_i64 (n := ((lent ((x / 4294967296) / 256) : Nat) : Int)) (by omega)) (.cons (inR_i64 (n := ((32 : Int) + (8 : Int)) + ((lent ((x / 4294967296) / 256) : Nat) : Int)) (by omega)) .nil))))) fun e20 a20 w20 hag hR hI => ?_
    refine wp_ret (oN tab [.v (.int .i64 (((32 : Int) + (8 : Int)) + ((lent ((x / 4294967296) / 256) : Nat) : Int)))] hR hI ?_)
    have hl_ : (((32 : Int) + (8 : Int)) + ((lent ((x / 4294967296) / 256) : Nat) : Int) : Int) = ((lent x : Nat) : Int) := by first | omega | simp_all
    exact ⟨congrArg (fun z_ => Ending.returned (.int .i64 z_)) hl_, hB.fin hR⟩
   ·
    replace hI := hI.rb 14 hc17
    try simp only [tolds] at hc17
    refine wp_skip ?_
    refine then_n ?_
    have hlb := lent_lt (x := x / 4294967296) (n := 8) (by omega); have hl8 : len8.length = 256 := by decide
    refine rK tab 0 [(2, .nw), (3, .eq (.int .u8 ((lent (x / 4294967296) : Nat) : Int))), (4, .nw), (5, .nw)] [] [(2, vI (32 + (lent (x / 4294967296))))] [] [] [] [] [] 0 hR hI (.cons (inR_u8 (n := ((x / 4294967296 : Nat) : Int)) (by omega)) (.cons (congrArg (Value.int .u8) (len8_int (x := x / 4294967296) (by omega) : ((len8.getD (x / 4294967296) 0).toNat : Int) = ((lent (x / 4294967296) : Nat) : Int))) (.cons (by omega : (0 : Int) ≤ ((x / 4294967296 : Nat) : Int) ∧ ((x / 4294967296 : Nat) : Int) < (len8.length : Nat)) (.cons (inR_i64 (n := ((lent (x / 4294967296) : Nat) : Int)) (by omega)) (.cons (inR_i64 (n := (32 : Int) + ((lent (x / 4294967296) : Nat) : Int)) (by omega)) .nil))))) fun e21 a21 w21 hag hR hI => ?_
    refine wp_ret (oN tab [vI (32 + (lent (x / 4294967296)))] hR hI ?_)
    have hl_ : (((32 + (lent (x / 4294967296)) : Nat) : Int) : Int) = ((lent x : Nat) : Int) := by first | omega | simp_all
    exact ⟨congrArg (fun z_ => Ending.returned (.int .i64 z_)) hl_, hB.fin hR⟩
 ·
  replace hI := hI.rb 4 hc3
  try simp only [tolds] at hc3
  refine wp_skip ?_
  refine then_n ?_
  refine wp_seq ?_
  refine rZ tab 0 [(8, vB (decide ((x : Int) ≥ (65536 : Int))))] [2, 0] hR hI fun e22 a22 w22 hag hR hI => ?_
  refine cnd (b := decide ((x : Int) ≥ (65536 : Int))) hI (by kernel_rfl) (fun hc23 => ?_) (fun hc23 => ?_)
  ·
   replace hI := hI.rb 8 hc23
   try simp only [tolds] at hc23
   have hd16 : lent x = 16 + lent (x / 65536) := lent_div (k := 16) (by omega)
   refine rK tab 0 [] [] [(0, vU (x / 65536))] [2] [] [] [] [] 0 hR hI (.cons (by decide : (0 : Int) ≤ 16) (.cons (by decide : (16 : Int) ≤ (IntKind.u64.bits : Int)) .nil)) fun e24 a24 w24 hag hR hI => ?_
   refine aK tab 0 [(1, .nw)] [] [(2, .v (.int .i64 ((0 : Int) + (16 : Int))))] [0] [] [] [] [] 0 hR hI (.cons (inR_i64 (n := (0 : Int) + (16 : Int)) (by omega)) .nil) fun e25 a25 w25 hag hR hI => ?_
   refine then_n ?_
   refine wp_seq ?_
   refine rZ tab 0 [(14, vB (decide (((x / 65536 : Nat) : Int) ≥ (256 : Int))))] [2, 0] hR hI fun e26 a26 w26 hag hR hI => ?_
   refine cnd (b := decide (((x / 65536 : Nat) : Int) ≥ (256 : Int))) hI (by kernel_rfl) (fun hc27 => ?_) (fun hc27 => ?_)
   ·
    replace hI := hI.rb 14 hc27
    try simp only [tolds] at hc27
    have hd8 : lent (x / 65536) = 8 + lent ((x / 65536) / 256) := lent_div (k := 8) (by omega)
    refine rK tab 0 [] [] [(0, vU ((x / 65536) / 256))] [2] [] [] [] [] 0 hR hI (.cons (by decide : (0 : Int) ≤ 8) (.cons (by decide : (8 : Int) ≤ (IntKind.u64.bits : Int)) .nil)) fun e28 a28 w28 hag hR hI => ?_
    refine aK tab 0 [(1, .nw)] [] [(2, .v (.int .i64 (((0 : Int) + (16 : Int)) + (8 : Int))))] [0] [] [] [] [] 0 hR hI (.cons (inR_i64 (n := ((0 : Int) + (16 : Int)) + (8 : Int)) (by omega)) .nil) fun e29 a29 w29 hag hR hI => ?_
    refine then_n ?_
    have hlb := lent_lt (x := (x / 65536) / 256) (n := 8) (by omega); have hl8 : len8.length = 256 := by decide
    refine rK tab 0 [(2, .nw), (3, .eq (.int .u8 ((lent ((x / 65536) / 256) : Nat) : Int))), (4, .nw), (5, .nw)] [] [(2, .v (.int .i64 ((((0 : Int) + (16 : Int)) + (8 : Int)) + ((lent ((x / 65536) / 256) : Nat) : Int))))] [] [] [] [] [] 0 hR hI (.cons (inR_u8 (n := (((x / 65536) / 256 : Nat) : Int)) (by omega)) (.cons (congrArg (Value.int .u8) (len8_int (x := (x / 65536) / 256) (by omega) : ((len8.getD ((x / 65536) / 256) 0).toNat : Int) = ((lent ((x / 65536) / 256) : Nat) : Int))) (.cons (by omega : (0 : Int) ≤ (((x / 65536) / 256 : Nat) : Int) ∧ (((x / 65536) / 256 : Nat) : Int) < (len8.length : Nat)) (.cons (inR_i64 (n := ((lent ((x / 65536) / 256) : Nat) : Int)) (by omega)) (.cons (inR_i64 (n := (((0 : Int) + (16 : Int)) + (8 : Int)) + ((lent ((x / 65536) / 256) : Nat) : Int)) (by omega)) .nil))))) fun e30 a30 w30 hag hR hI => ?_
    refine wp_ret (oN tab [.v (.int .i64 ((((0 : Int) + (16 : Int)) + (8 : Int)) + ((lent ((x / 65536) / 256) : Nat) : Int)))] hR hI ?_)
    have hl_ : ((((0 : Int) + (16 : Int)) + (8 : Int)) + ((lent ((x / 65536) / 256) : Nat) : Int) : Int) = ((lent x : Nat) : Int) := by first | omega | simp_all
    exact ⟨congrArg (fun z_ => Ending.returned (.int .i64 z_)) hl_, hB.fin hR⟩
   ·
    replace hI := hI.rb 14 hc27
    try simp only [tolds] at hc27
    refine wp_skip ?_
    refine then_n ?_
    have hlb := lent_lt (x := x / 65536) (n := 8) (by omega); have hl8 : len8.length = 256 := by decide
    refine rK tab 0 [(2, .nw), (3, .eq (.int .u8 ((lent (x / 65536) : Nat) : Int))), (4, .nw), (5, .nw)] [] [(2, .v (.int .i64 (((0 : Int) + (16 : Int)) + ((lent (x / 65536) : Nat) : Int))))] [] [] [] [] [] 0 hR hI (.cons (inR_u8 (n := ((x / 65536 : Nat) : Int)) (by omega)) (.cons (congrArg (Value.int .u8) (len8_int (x := x / 65536) (by omega) : ((len8.getD (x / 65536) 0).toNat : Int) = ((lent (x / 65536) : Nat) : Int))) (.cons (by omega : (0 : Int) ≤ ((x / 65536 : Nat) : Int) ∧ ((x / 65536 : Nat) : Int) < (len8.length : Nat)) (.cons (inR_i64 (n := ((lent (x / 65536) : Nat) : Int)) (by omega)) (.cons (inR_i64 (n := ((0 : Int) + (16 : Int)) + ((lent (x / 65536) : Nat) : Int)) (by omega)) .nil))))) fun e31 a31 w31 hag hR hI => ?_
    refine wp_ret (oN tab [.v (.int .i64 (((0 : Int) + (16 : Int)) + ((lent (x / 65536) : Nat) : Int)))] hR hI ?_)
    have hl_ : (((0 : Int) + (16 : Int)) + ((lent (x / 65536) : Nat) : Int) : Int) = ((lent x : Nat) : Int) := by first | omega | simp_all
    exact ⟨congrArg (fun z_ => Ending.returned (.int .i64 z_)) hl_, hB.fin hR⟩
  ·
   replace hI := hI.rb 8 hc23
   try simp only [tolds] at hc23
   refine wp_skip ?_
   refine then_n ?_
   refine wp_seq ?_
   refine rZ tab 0 [(14, vB (decide ((x : Int) ≥ (256 : Int))))] [2, 0] hR hI fun e32 a32 w32 hag hR hI => ?_
   refine cnd (b := decide ((x : Int) ≥ (256 : Int))) hI (by kernel_rfl) (fun hc33 => ?_) (fun hc33 => ?_)
   ·
    replace hI := hI.rb 14 hc33
    try simp only [tolds] at hc33
    have hd8 : lent x = 8 + lent (x / 256) := lent_div (k := 8) (by omega)
    refine rK tab 0 [] [] [(0, vU (x / 256))] [2] [] [] [] [] 0 hR hI (.cons (by decide : (0 : Int) ≤ 8) (.cons (by decide : (8 : Int) ≤ (IntKind.u64.bits : Int)) .nil)) fun e34 a34 w34 hag hR hI => ?_
    refine aK tab 0 [(1, .nw)] [] [(2, .v (.int .i64 ((0 : Int) + (8 : Int))))] [0] [] [] [] [] 0 hR hI (.cons (inR_i64 (n := (0 : Int) + (8 : Int)) (by omega)) .nil) fun e35 a35 w35 hag hR hI => ?_
    refine then_n ?_
    have hlb := lent_lt (x := x / 256) (n := 8) (by omega); have hl8 : len8.length = 256 := by decide
    refine rK tab 0 [(2, .nw), (3, .eq (.int .u8 ((lent (x / 256) : Nat) : Int))), (4, .nw), (5, .nw)] [] [(2, .v (.int .i64 (((0 : Int) + (8 : Int)) + ((lent (x / 256) : Nat) : Int))))] [] [] [] [] [] 0 hR hI (.cons (inR_u8 (n := ((x / 256 : Nat) : Int)) (by omega)) (.cons (congrArg (Value.int .u8) (len8_int (x := x / 256) (by omega) : ((len8.getD (x / 256) 0).toNat : Int) = ((lent (x / 256) : Nat) : Int))) (.cons (by omega : (0 : Int) ≤ ((x / 256 : Nat) : Int) ∧ ((x / 256 : Nat) : Int) < (len8.length : Nat)) (.cons (inR_i64 (n := ((lent (x / 256) : Nat) : Int)) (by omega)) (.cons (inR_i64 (n := ((0 : Int) + (8 : Int)) + ((lent (x / 256) : Nat) : Int)) (by omega)) .nil))))) fun e36 a36 w36 hag hR hI => ?_
    refine wp_ret (oN tab [.v (.int .i64 (((0 : Int) + (8 : Int)) + ((lent (x / 256) : Nat) : Int)))] hR hI ?_)
    have hl_ : (((0 : Int) + (8 : Int)) + ((lent (x / 256) : Nat) : Int) : Int) = ((lent x : Nat) : Int) := by first | omega | simp_all
    exact ⟨congrArg (fun z_ => Ending.returned (.int .i64 z_)) hl_, hB.fin hR⟩
   ·
    replace hI := hI.rb 14 hc33
    try simp only [tolds] at hc33
    refine wp_skip ?_
    refine then_n ?_
    have hlb := lent_lt (x := x) (n := 8) (by omega); have hl8 : len8.length = 256 := by decide
    refine rK tab 0 [(2, .nw), (3, .eq (.int .u8 ((lent x : Nat) : Int))), (4, .nw), (5, .nw)] [] [(2, vI (0 + (lent x)))] [] [] [] [] [] 0 hR hI (.cons (inR_u8 (n := (x : Int)) (by omega)) (.cons (congrArg (Value.int .u8) (len8_int (x := x) (by omega) : ((len8.getD x 0).toNat : Int) = ((lent x : Nat) : Int))) (.cons (by omega : (0 : Int) ≤ (x : Int) ∧ (x : Int) < (len8.length : Nat)) (.cons (inR_i64 (n := ((lent x : Nat) : Int)) (by omega)) (.cons (inR_i64 (n := (0 : Int) + ((lent x : Nat) : Int)) (by omega)) .nil))))) fun e37 a37 w37 hag hR hI => ?_
    refine wp_ret (oN tab [vI (0 + (lent x))] hR hI ?_)
    have hl_ : (((0 + (lent x) : Nat) : Int) : Int) = ((lent x : Nat) : Int) := by first | omega | simp_all
    exact ⟨congrArg (fun z_ => Ending.returned (.int .i64 z_)) hl_, hB.fin hR⟩

theorem len_spec {C : Nat → Prop} {w : World} {x : Nat} (hx : x < 18446744073709551616) :
    Calls P 89 #[.int .u64 (x : Int)] w fun ex w' => ex = .returned (.int .i64 ((lent x : Nat) : Int)) ∧ KS w w' := by
 refine dN (C := C) [vU x] 8 1 Tryz.func89 fun a_ hI hR hB => ?_
 replace hI : Is 8 [] e0 [(0, vU x)] a_ := hI
 refine rZ tab 0 [] [0] hR hI fun e1 a1 w1 hag hR hI => ?_
 refine wp_seq ?_
 refine cnd_f hI (by kernel_rfl) ?_
 refine wp_skip ?_
 refine then_n ?_
 refine wp_seq (reg (is := [0, 1, 2]) (by kernel_rfl) ?_)
 refine pZ tab [0] [1, 2] 0 [(6, vU x)] [] hR hI fun e2 a2 w2 hag hR hI => ?_
 refine cO [vU x] hI Tryz.func121 ?_
 refine (len64_spec (C := C) (x := x) hx).mono ?_
 rintro ex w3 ⟨rfl, hk⟩
 replace hR := hR.same hk; clear hk
 refine ⟨_, rfl, ?_⟩
 replace hI := hI.pt 7 (vI (lent x)) [7, 6]
 refine pZ tab [2] [] 0 [(2, vI (lent x))] [] hR hI fun e4 a4 w4 hag hR hI => ?_
 refine ops_nil (then_n ?_)
 refine wp_ret (oN tab [vI (lent x)] hR hI ?_)
 exact ⟨rfl, hB.fin hR⟩

theorem leadingZeros_spec {C : Nat → Prop} {w : World} {x : Nat} (hx : x < 18446744073709551616) :
    Calls P 110 #[.int .u64 (x : Int)] w fun ex w' => ex = .returned (.int .i64 ((64 - lent x : Nat) : Int)) ∧ KS w w' := by
 refine dN (C := C) [vU x] 6 1 Tryz.func110 fun a_ hI hR hB => ?_
 replace hI : Is 6 [] e0 [(0, vU x)] a_ := hI
 have hl64 : lent x ≤ 64 := lent_lt (n := 64) hx
 refine rZ tab 0 [] [0] hR hI fun e1 a1 w1 hag hR hI => ?_
 refine wp_seq (reg (is := [0, 1, 2, 3]) (by kernel_rfl) ?_)
 refine pZ tab [0] [1, 2, 3] 0 [(3, vU x)] [] hR hI fun e2 a2 w2 hag hR hI => ?_
 refine cO [vU x] hI Tryz.func89 ?_
 refine (len_spec (C := C) (x := x) hx).mono ?_
 rintro ex w3 ⟨rfl, hk⟩
 replace hR := hR.same hk; clear hk
 refine ⟨_, rfl, ?_⟩
 replace hI := hI.pt 4 (vI (lent x)) [4, 3]
 refine pK tab [2, 3] [] 0 [(2, .eq (.int .i64 ((64 - lent x : Nat) : Int)))] [] [(2, vI (64 - lent x))] [] [] [] [] [] 0 hR hI (.cons (wI ((64 : Int) - ((lent x : Nat) : Int)) ((64 - lent x : Nat) : Int) (by omega) (by omega)) .nil) fun e4 a4 w4 hag hR hI => ?_
 refine ops_nil (then_n ?_)
 refine wp_ret (oN tab [vI (64 - lent x)] hR hI ?_)
 exact ⟨rfl, hB.fin hR⟩

theorem nlz_spec {C : Nat → Prop} {w : World} {x : Nat} (hx : x < 18446744073709551616) :
    Calls P 83 #[.int .u64 (x : Int)] w fun ex w' => ex = .returned (.int .u64 ((64 - lent x : Nat) : Int)) ∧ KS w w' := by
 refine dN (C := C) [vU x] 6 1 Tryz.func83 fun a_ hI hR hB => ?_
 replace hI : Is 6 [] e0 [(0, vU x)] a_ := hI
 have hl64 : lent x ≤ 64 := lent_lt (n := 64) hx
 refine rZ tab 0 [] [0] hR hI fun e1 a1 w1 hag hR hI => ?_
 refine wp_seq (reg (is := [0, 1, 2, 3]) (by kernel_rfl) ?_)
 refine pZ tab [0] [1, 2, 3] 0 [(3, vU x)] [] hR hI fun e2 a2 w2 hag hR hI => ?_
 refine cO [vU x] hI Tryz.func110 ?_
 refine (leadingZeros_spec (C := C) hx).mono ?_
 rintro ex w3 ⟨rfl, hk⟩
 replace hR := hR.same hk; clear hk
 refine ⟨_, rfl, ?_⟩
 replace hI := hI.pt 4 (vI (64 - lent x)) [4, 3]
 refine pK tab [2, 3] [] 0 [(2, .nw)] [] [(2, vU (64 - lent x))] [] [] [] [] [] 0 hR hI (.cons (inR_u64 (n := ((64 - lent x : Nat) : Int)) (by omega)) .nil) fun e4 a4 w4 hag hR hI => ?_
 refine ops_nil (then_n ?_)
 refine wp_ret (oN tab [vU (64 - lent x)] hR hI ?_)
 exact ⟨rfl, hB.fin hR⟩

theorem run_add64 {x y c : Nat} (hc : c ≤ 1) (w : World) : (callFunc 168 #[.int .u64 ((x : Nat) : Int), .int .u64 ((y : Nat) : Int), .int .u64 ((c : Nat) : Int)]).run P w = .ok (.value (.tuple #[.int .u64 (((x + y + c) % 18446744073709551616 : Nat) : Int), .int .u64 (((x + y + c) / 18446744073709551616 : Nat) : Int)])) w := by
 rw [run_callFunc_extern (e := fun args => do
  let (x, y, c) ← Extern.MathBitsCarry.three "Add64" args
  pure (Extern.MathBitsCarry.pair ((x + y + c) % Extern.MathBitsCarry.m64) ((x + y + c) / Extern.MathBitsCarry.m64))) Tryz.func168 (by kernel_rfl) (by kernel_rfl) (by kernel_rfl) (by kernel_rfl)]
 have h : c = 0 ∨ c = 1 := by omega
 rcases h with rfl | rfl <;> rfl
theorem add_spec {C : Nat → Prop} {w : World} {x y c : Nat} (hx : x < 18446744073709551616) (hy : y < 18446744073709551616) (hc : c ≤ 1) :
    Calls P 145 #[.int .u64 (x : Int), .int .u64 (y : Int), .int .u64 (c : Int)] w fun ex w' => ∃ z d : Nat, ex = .returned (.tuple #[.int .u64 (z : Int), .int .u64 (d : Int)]) ∧ KS w w' ∧ z + 18446744073709551616 * d = x + y + c ∧ z < 18446744073709551616 ∧ d ≤ 1 := by
 refine dN (C := C) [vU x, vU y, vU c] 35 3 Tryz.func145 fun a_ hI hR hB => ?_
 replace hI : Is 35 [] e0 [(0, vU x), (1, vU y), (2, vU c)] a_ := hI
 refine rZ tab 0 [] [0, 1, 2] hR hI fun e1 a1 w1 hag hR hI => ?_
 refine wp_seq ?_
 refine cnd_f hI (by kernel_rfl) ?_
 refine wp_skip ?_
 refine then_n ?_
 refine wp_seq (reg (is := [0, 1, 2, 3, 4, 5, 6, 7, 8]) (by kernel_rfl) ?_)
 refine pZ tab [0, 1, 2] [3, 4, 5, 6, 7, 8] 0 [(29, vU c), (28, vU y), (27, vU x)] [] hR hI fun e2 a2 w2 hag hR hI => ?_
 refine callX (ys := [vU x, vU y, vU c]) (v := .v (.tuple #[.int .u64 (((x + y + c) % 18446744073709551616 : Nat) : Int), .int .u64 (((x + y + c) / 18446744073709551616 : Nat) : Int)])) hI rfl rfl rfl ⟨_, rfl, rfl, rfl⟩ (by kernel_rfl) (run_add64 hc _) (fun a3 hI => ?_)
 replace hI := hI.sl [30, 29, 28, 27] rfl
 refine pZ tab [4, 5, 6, 7, 8] [] 0 [(11, vU ((x + y + c) / 18446744073709551616)), (10, vU ((x + y + c) % 18446744073709551616))] [] hR hI fun e4 a4 w4 hag hR hI => ?_
 refine ops_nil (then_n ?_)
 refine rZ tab 0 [(7, vU ((x + y + c) / 18446744073709551616)), (6, vU ((x + y + c) % 18446744073709551616))] [] hR hI fun e5 a5 w5 hag hR hI => ?_
 refine wp_ret (oN tab [vU ((x + y + c) % 18446744073709551616), vU ((x + y + c) / 18446744073709551616)] hR hI ?_)
 exact ⟨_, _, rfl, hB.fin hR, by omega, by omega, by omega⟩

theorem mul_spec {C : Nat → Prop} {w : World} {x y : Nat} (hx : x < 18446744073709551616) (hy : y < 18446744073709551616) :
    Calls P 144 #[.int .u64 (x : Int), .int .u64 (y : Int)] w fun ex w' => ∃ h l : Nat, ex = .returned (.tuple #[.int .u64 (h : Int), .int .u64 (l : Int)]) ∧ KS w w' ∧ 18446744073709551616 * h + l = x * y ∧ h < 18446744073709551616 ∧ l < 18446744073709551616 := by
 refine dN (C := C) [vU x, vU y] 30 2 Tryz.func144 fun a_ hI hR hB => ?_
 replace hI : Is 30 [] e0 [(0, vU x), (1, vU y)] a_ := hI
 refine rZ tab 0 [] [0, 1] hR hI fun e1 a1 w1 hag hR hI => ?_
 refine wp_seq ?_
 refine cnd_f hI (by kernel_rfl) ?_
 refine wp_skip ?_
 refine then_n ?_
 refine wp_seq (reg (is := [0, 1, 2, 3, 4, 5, 6, 7]) (by kernel_rfl) ?_)
 refine pZ tab [0, 1] [2, 3, 4, 5, 6, 7] 0 [(24, vU y), (23, vU x)] [] hR hI fun e2 a2 w2 hag hR hI => ?_
 refine cO [vU x, vU y] hI Tryz.func166 ?_
 refine (mul64_spec (C := C) hx hy).mono ?_
 rintro ex w3 ⟨h, l, rfl, hk, he, hhb, hlb⟩
 replace hR := hR.same hk; clear hk
 rw [Nat.mul_comm h] at he
 refine ⟨_, rfl, ?_⟩
 replace hI := hI.pt 25 (.v (.tuple #[.int .u64 (h : Int), .int .u64 (l : Int)])) [25, 24, 23]
 refine pZ tab [3, 4, 5, 6, 7] [] 0 [(9, vU l), (8, vU h)] [] hR hI fun e4 a4 w4 hag hR hI => ?_
 refine ops_nil (then_n ?_)
 refine rZ tab 0 [(5, vU l), (4, vU h)] [] hR hI fun e5 a5 w5 hag hR hI => ?_
 refine wp_ret (oN tab [vU h, vU l] hR hI ?_)
 exact ⟨h, l, rfl, hB.fin hR, he, hhb, hlb⟩

theorem mulWW_spec {C : Nat → Prop} {w : World} {x y : Nat} (hx : x < 18446744073709551616) (hy : y < 18446744073709551616) :
    Calls P 114 #[.int .u64 (x : Int), .int .u64 (y : Int)] w fun ex w' => ∃ h l : Nat, ex = .returned (.tuple #[.int .u64 (h : Int), .int .u64 (l : Int)]) ∧ KS w w' ∧ 18446744073709551616 * h + l = x * y ∧ h < 18446744073709551616 ∧ l < 18446744073709551616 := by
 refine dN (C := C) [vU x, vU y] 16 2 Tryz.func114 fun a_ hI hR hB => ?_
 replace hI : Is 16 [] e0 [(0, vU x), (1, vU y)] a_ := hI
 refine rZ tab 0 [] [0, 1] hR hI fun e1 a1 w1 hag hR hI => ?_
 refine wp_seq (reg (is := [0, 1, 2, 3, 4, 5, 6, 7]) (by kernel_rfl) ?_)
 refine pZ tab [0, 1] [2, 3, 4, 5, 6, 7] 0 [(10, vU y), (9, vU x)] [] hR hI fun e2 a2 w2 hag hR hI => ?_
 refine cO [vU x, vU y] hI Tryz.func144 ?_
 refine (mul_spec (C := C) hx hy).mono ?_
 rintro ex w3 ⟨h, l, rfl, hk, he, hhb, hlb⟩
 replace hR := hR.same hk; clear hk
 refine ⟨_, rfl, ?_⟩
 replace hI := hI.pt 11 (.v (.tuple #[.int .u64 (h : Int), .int .u64 (l : Int)])) [11, 10, 9]
 refine pZ tab [3, 4, 5, 6, 7] [] 0 [(7, vU l), (6, vU h)] [] hR hI fun e4 a4 w4 hag hR hI => ?_
 refine ops_nil (then_n ?_)
 refine rZ tab 0 [(5, vU l), (4, vU h)] [] hR hI fun e5 a5 w5 hag hR hI => ?_
 refine wp_ret (oN tab [vU h, vU l] hR hI ?_)
 exact ⟨h, l, rfl, hB.fin hR, he, hhb, hlb⟩

theorem mul_top {x y c h l z d : Nat} (hx : x < 18446744073709551616) (hy : y < 18446744073709551616) (hc : c < 18446744073709551616) (he : 18446744073709551616 * h + l = x * y) (hz : z + 18446744073709551616 * d = l + c + 0) : 18446744073709551616 * (h + d) + z = x * y + c ∧ h + d < 18446744073709551616 := by
 have h1 : x * y ≤ 340282366920938463426481119284349108225 := Nat.le_trans (Nat.mul_le_mul (show x ≤ 18446744073709551615 by omega) (show y ≤ 18446744073709551615 by omega)) (by decide)
 omega

theorem mulAddWWW_spec {C : Nat → Prop} {w : World} {x y c : Nat} (hx : x < 18446744073709551616) (hy : y < 18446744073709551616) (hc : c < 18446744073709551616) :
    Calls P 169 #[.int .u64 (x : Int), .int .u64 (y : Int), .int .u64 (c : Int)] w fun ex w' => ∃ h l : Nat, ex = .returned (.tuple #[.int .u64 (h : Int), .int .u64 (l : Int)]) ∧ KS w w' ∧ 18446744073709551616 * h + l = x * y + c ∧ h < 18446744073709551616 ∧ l < 18446744073709551616 := by
 refine dN (C := C) [vU x, vU y, vU c] 27 3 Tryz.func169 fun a_ hI hR hB => ?_
 replace hI : Is 27 [] e0 [(0, vU x), (1, vU y), (2, vU c)] a_ := hI
 refine rZ tab 0 [] [0, 1, 2] hR hI fun e1 a1 w1 hag hR hI => ?_
 refine wp_seq (reg (is := [0, 1, 2, 3, 4, 5, 6, 7]) (by kernel_rfl) ?_)
 refine pZ tab [0, 1] [2, 3, 4, 5, 6, 7] 0 [(13, vU y), (12, vU x)] [2] hR hI fun e2 a2 w2 hag hR hI => ?_
 refine cO [vU x, vU y] hI Tryz.func144 ?_
 refine (mul_spec (C := C) hx hy).mono ?_
 rintro ex w3 ⟨h, l, rfl, hk, he, hhb, hlb⟩
 replace hR := hR.same hk; clear hk
 refine ⟨_, rfl, ?_⟩
 replace hI := hI.pt 14 (.v (.tuple #[.int .u64 (h : Int), .int .u64 (l : Int)])) [14, 13, 12, 2]
 refine pZ tab [3, 4, 5, 6, 7] [] 0 [(9, vU l), (8, vU h)] [2] hR hI fun e4 a4 w4 hag hR hI => ?_
 refine ops_nil (then_n ?_)
 refine rZ tab 0 [] [9, 8, 2] hR hI fun e5 a5 w5 hag hR hI => ?_
 refine wp_seq (reg (is := [0, 1, 2, 3, 4, 5, 6, 7]) (by kernel_rfl) ?_)
 refine pZ tab [0, 1] [2, 3, 4, 5, 6, 7] 0 [(19, vU c), (18, vU l)] [9, 8] hR hI fun e6 a6 w6 hag hR hI => ?_
 refine cO [vU l, vU c, .v (.int .u64 0)] hI Tryz.func145 ?_
 refine (add_spec (C := C) hlb hc (c := 0) (by decide)).mono ?_
 rintro ex w7 ⟨z, d, rfl, hk, hz, hzb, hdb⟩
 replace hR := hR.same hk; clear hk
 have hmt := mul_top hx hy hc he hz
 refine ⟨_, rfl, ?_⟩
 replace hI := hI.pt 20 (.v (.tuple #[.int .u64 (z : Int), .int .u64 (d : Int)])) [20, 19, 18, 9, 8]
 refine pZ tab [3, 4, 5, 6, 7] [] 0 [(10, vU d), (9, vU z)] [8] hR hI fun e8 a8 w8 hag hR hI => ?_
 refine ops_nil (then_n ?_)
 refine rK tab 0 [(2, .nw)] [] [(7, vU z), (6, vU (h + d))] [] [] [] [] [] 0 hR hI (.cons (inR_u64 (n := (h : Int) + (d : Int)) (by omega)) .nil) fun e9 a9 w9 hag hR hI => ?_
 refine wp_ret (oN tab [vU (h + d), vU z] hR hI ?_)
 exact ⟨h + d, z, rfl, hB.fin hR, hmt.1, hmt.2, hzb⟩

theorem u64_not (x : Nat) (h : x < 18446744073709551616) : bits .xor .u64 (18446744073709551615 : Int) ((x : Nat) : Int) = ((18446744073709551615 - x : Nat) : Int) := by
 have h0 : (BitVec.ofInt 64 (18446744073709551615 : Int) ^^^ BitVec.ofInt 64 ((x : Nat) : Int)).toNat = 18446744073709551615 - x := by
  have h1 : BitVec.ofInt 64 (18446744073709551615 : Int) = BitVec.allOnes 64 := by decide
  have h2 : BitVec.ofInt 64 ((x : Nat) : Int) = BitVec.ofNat 64 x := by simp
  rw [h1, h2, BitVec.allOnes_xor, BitVec.toNat_not, BitVec.toNat_ofNat, Nat.mod_eq_of_lt h]
 show IntKind.u64.wrap ((BitVec.ofInt 64 (18446744073709551615 : Int) ^^^ BitVec.ofInt 64 ((x : Nat) : Int)).toNat : Int) = _
 rw [h0, wrap_inR (inR_u64 (by omega))]
theorem u64_or (x y : Nat) (hx : x < 18446744073709551616) (hy : y < 18446744073709551616) : bits .or .u64 ((x : Nat) : Int) ((y : Nat) : Int) = ((x ||| y : Nat) : Int) :=
 (bits_nat .u64 64 (by decide) (fun n h0 h1 => by rw [wrap_u64]; omega) x y hx hy).2

theorem mav_step {rs xs : List Nat} {i cc y r h l : Nat} (hl : rs.length = i) (hv : nval rs + pn i * cc = nval (xs.take i) * y + r) (he : 18446744073709551616 * h + l = xs.getD i 0 * y + cc) :
  nval (rs ++ [l]) + pn (i + 1) * h = nval (xs.take (i + 1)) * y + r := by
 rw [nval_snoc, hl, nval_take_succ, pn_succ]
 generalize nval rs = A at *
 generalize nval (xs.take i) = X at *
 generalize xs.getD i 0 = x at *
 have e1 : pn i * (18446744073709551616 * h + l) = pn i * (x * y + cc) := by rw [he]
 generalize pn i = p at *
 grind
abbrev seg (zs : List Nat) (o n : Nat) : List Nat := (zs.drop o).take n
theorem seg_length {zs : List Nat} {o n : Nat} (h : o + n ≤ zs.length) : (seg zs o n).length = n := by rw [List.length_take, List.length_drop]; omega
theorem seg_succ (zs : List Nat) (o i : Nat) : nval (seg zs o (i + 1)) = nval (seg zs o i) + pn i * zs.getD (o + i) 0 := by
 rw [nval_take_succ, getD_drop]
theorem seg_dig {zs : List Nat} (h : Ndig zs) (o n : Nat) : Ndig (seg zs o n) := ndig_take (ndig_drop h o) n
theorem seg_put {zs rs : List Nat} {o : Nat} (h : o + rs.length ≤ zs.length) : seg (put zs o rs) o rs.length = rs := by
 have h1 : (zs.take o).length = o := by rw [List.length_take]; omega
 unfold seg put
 rw [List.append_assoc, List.drop_left' h1, List.take_left' rfl]
theorem put0_seg {zs rs : List Nat} {n : Nat} (h : rs.length = n) (hn : n ≤ zs.length) : seg (put zs 0 rs) 0 n = rs := by rw [← h]; exact seg_put (by omega)
theorem rowOut {F : Nat → Prop} {wc w0 : World} {e : Env} {H : List Blk} {G : List Row} (hR : Rel F w0 e H G wc) {y : Row} (hy : y ∈ G) {k : IntKind} {B : Nat} {ws : List Nat} (ht : Full e y.n y.len) (hxs : y.xs = ints k ws) (hs : y.sz = 1) (hd : ∀ d ∈ ws, d < B) {l c : Nat} (hl : l ≤ ws.length) (hc : l ≤ c) (hm : c ≤ 9223372036854775807) {g m : Nat} (hg : headOf (e.r y.n) = g) (hge : m ≤ g) :
  Sl k B (fun b => m ≤ b) wc (some ⟨headOf (e.r y.n), 0, none⟩) c (seg ws 0 l) :=
 (hR.rowRead hy ht hxs hs hd 0 l (by omega) hc hm).cls_ (fun b hb _ => by rw [hb, hg]; exact hge)
theorem Sl.up {k : IntKind} {B cap : Nat} {ad : Option Addr} {xs : List Nat} {w w' : World} {C : Nat → Prop} (h : Sl k B (fun b => w.heap.size ≤ b) w' ad cap xs) : Sl k B (Grow C w w') w' ad cap xs := h.cls_ (fun b hb hlt => ⟨hlt, .inr hb⟩)
theorem ndig_put {zs rs : List Nat} {o : Nat} (hz : Ndig zs) (hr : Ndig rs) : Ndig (put zs o rs) := put_dig hz hr
theorem keepBut0 {w w' : World} (h : Keep (fun b => b < w.heap.size) w w') : Keep (ButN [] w) w w' := h.mono fun _ hb => hb.1
theorem nval_cut (xs : List Nat) (j : Nat) (h : j ≤ xs.length) : nval xs = nval (xs.take j) + pn j * nval (xs.drop j) := by
 have := nval_app (xs.take j) (xs.drop j)
 rw [List.take_append_drop, List.length_take, Nat.min_eq_left h] at this
 exact this
theorem top_le {vs : List Nat} {n : Nat} (hn : vs.length = n) (h1 : 1 ≤ n) : nval vs = nval (vs.take (n - 1)) + pn (n - 1) * vs.getD (n - 1) 0 := by
 rw [← nval_take_succ, show n - 1 + 1 = n by omega, List.take_of_length_le (by omega)]
theorem rawL {P : Program} {n : Nat} {ds : List Deferred} {e : Env} {L : Regs} {a : Act} {w : World} {ops : Array Oper} {Q : Exit → Act → World → Prop} {o : Oper} {i : Nat} {K : Act → World → Prop} {x : SV} (hI : Is n ds e L a) (ho : ops[i]? = some o) (hw : want L ops o.guard = some true) (hd : dstOK n o.dst = true)
  (h : ∀ ev : Operand → Value, (∀ q y, arg L q = some y → ev q = den e y) → (execOp ev o).run P w = .ok (.value (den e x)) w) (hk : ∀ a', Is n ds e (upd L o.dst x) a' → K a' w) : wpOp P ops Q i K a w := by
 unfold wpOp
 simp only [ho, wanted_eq hI hw, if_true]
 refine .inl ?_
 unfold Oper.wp
 rw [h _ (fun q y h => hI.arg h), Oper.upon_value]
 exact hk _ (hI.put (dst_lt hd) rfl)
theorem ptr_ne {P : Program} {w : World} {t t2 te : TypeId} {j : TypeInfo} {x y : Operand} {g g2 o1 o2 : Nat} {ca cb : Array Value} {ta tb : TypeId} (ev : Operand → Value) {o : Oper} (ho : o.op = .binOp .eql t x y t2) (h1 : ev x = .pointer (some ⟨g, o1, none⟩)) (h2 : ev y = .pointer (some ⟨g2, o2, none⟩)) (hp : P.underlying t = some (.pointer te)) (hte : P.info? te = some j) (hsz : j.size ≠ 0) (hne : g ≠ g2)
  (ha : w.heap[g]? = some (.cells ca ta (0, 0))) (hb : w.heap[g2]? = some (.cells cb tb (0, 0))) : (execOp ev o).run P w = .ok (.value (.bool false)) w := by
 have hE := run_eql_ptr_other (P := P) (a := ⟨g, o1, none⟩) (b := ⟨g2, o2, none⟩) w hp hte hsz (fun h => hne (congrArg Addr.block h)) ha hb
 have hg : (eqGuard .eql t x y (.pointer (some ⟨g, o1, none⟩)) (.pointer (some ⟨g2, o2, none⟩))).run P w = .ok () w := by simp [eqGuard]
 simp only [execOp, ho, h1, h2, Sem.run_bind, hg, Result.andThen_ok, hE]
 rfl
theorem seg_zero {zs : List Nat} : seg zs 0 0 = [] := by simp [seg]
theorem nval_nil : nval [] = 0 := rfl
theorem Sl.cls2 {k : IntKind} {B cap : Nat} {ad : Option Addr} {xs : List Nat} {w : World} {hd g m b2 : Nat} (h : Sl k B (fun b => b = hd) w ad cap xs) (hg : hd = g) (hge : m ≤ g) (hne : b2 ≠ g) : Sl k B (fun j => m ≤ j ∧ j ≠ b2) w ad cap xs := h.cls_ fun b hb _ => by rw [hb, hg]; exact ⟨hge, Ne.symm hne⟩
theorem Sl.upN {k : IntKind} {B cap : Nat} {ad : Option Addr} {xs : List Nat} {w w' : World} {C : Nat → Prop} {b2 : Nat} (h : Sl k B (fun j => w.heap.size ≤ j ∧ j ≠ b2) w' ad cap xs) : Sl k B (GrowN [b2] C w w') w' ad cap xs := h.cls_ (fun b hb hlt => ⟨hlt, fun hm => hb.2 (List.mem_singleton.1 hm), .inr hb.1⟩)
theorem ntrim_top {vs : List Nat} (h : Ntrim vs) (hn : 0 < vs.length) : 0 < vs.getD (vs.length - 1) 0 := by
 rcases h with h | h
 · rw [h] at hn; simp at hn
 · omega
theorem smear {x y d k : Nat} (h : x ≤ y) (h2 : y < 2 ^ k) (hd : d ≤ y) : x ≤ (y ||| d) ∧ (y ||| d) < 2 ^ k := ⟨Nat.le_trans h Nat.left_le_or, Nat.or_lt_two_pow h2 (Nat.lt_of_le_of_lt hd h2)⟩
theorem bitlen_of {xs : List Nat} {y m : Nat} (hn : 0 < xs.length) (hy : y < 2 ^ lent (xs.getD (xs.length - 1) 0)) (ht : 0 < xs.getD (xs.length - 1) 0) (hb : nval xs < 2 ^ m) : 64 * (xs.length - 1) + lent y ≤ m := by
 have h1 : lent y ≤ lent (xs.getD (xs.length - 1) 0) := lent_lt hy
 have h2 := lent_pos ht
 have e1 := top_le (vs := xs) rfl hn
 have h3 : pn (xs.length - 1) * 2 ^ (lent (xs.getD (xs.length - 1) 0) - 1) ≤ pn (xs.length - 1) * xs.getD (xs.length - 1) 0 := Nat.mul_le_mul_left _ h2.1
 rw [pn_two, ← Nat.pow_add] at h3
 rw [pn_two] at e1
 have h4 : 2 ^ (64 * (xs.length - 1) + (lent (xs.getD (xs.length - 1) 0) - 1)) < 2 ^ m := by omega
 have h5 := (Nat.pow_lt_pow_iff_right (a := 2) (by decide)).1 h4
 omega
theorem ptr_self {P : Program} {w : World} {t t2 te : TypeId} {j : TypeInfo} {x y : Operand} {p : Addr} (ev : Operand → Value) {o : Oper} (ho : o.op = .binOp .neq t x y t2) (h1 : ev x = .pointer (some p)) (h2 : ev y = .pointer (some p)) (hp : P.underlying t = some (.pointer te)) (hte : P.info? te = some j) : (execOp ev o).run P w = .ok (.value (.bool false)) w := by
 have h : ∀ d : Nat, (Op.equalIn (d + 1) t (.pointer (some p)) (.pointer (some p))).run P w = .ok true w := fun d => by
  simp [Op.equalIn, run_underlying hp, sizeOf, typeInfo, hte, run_sameAddr_same]
 have hE : (Op.equal t (.pointer (some p)) (.pointer (some p))).run P w = .ok true w := run_equal_top h
 have hg : (eqGuard .neq t x y (.pointer (some p)) (.pointer (some p))).run P w = .ok () w := by simp [eqGuard]
 have h3 : (binOp .neq t (.pointer (some p)) (.pointer (some p))) = (do pure (.bool (!(← Op.equal t (.pointer (some p)) (.pointer (some p)))))) := rfl
 simp only [execOp, ho, h1, h2, Sem.run_bind, hg, Result.andThen_ok, h3, hE]
 simp
theorem Rel.heldN {F : Nat → Prop} {w0 wc w' : World} {e : Env} {Hs : List Blk} {Gs : List Row} {N : List Nat} (hS : Rel F w0 e Hs Gs wc) (hk : Keep (ButN N wc) wc w') (hN : ∀ b ∈ N, ¬ F b) (h1 : ∀ x ∈ Hs, e.b x.n ∉ N) (h2 : ∀ y ∈ Gs, ∀ g, (e.r y.n).ownBlock = some g → g ∉ N) : Rel F w0 e Hs Gs w' := by
 have hsz := hS.keep.size
 refine ⟨hS.keep.trans (hk.mono fun k h => ⟨Nat.lt_of_lt_of_le (hS.low k h) hsz, fun hm => hN k hm h⟩), hS.low, fun x hx => ?_, fun y hy => ?_, hS.hh, hS.hg, hS.gg⟩
 ·
  have hxlt := (Array.getElem?_eq_some_iff.1 (hS.blk x hx).1).1
  exact ⟨by rw [hk.block _ ⟨hxlt, h1 x hx⟩]; exact (hS.blk x hx).1, (hS.blk x hx).2⟩
 ·
  obtain ⟨q1, q2⟩ := hS.row y hy
  refine ⟨?_, q2⟩
  obtain ⟨hl, h3⟩ := q1
  refine ⟨hl, ?_⟩
  rcases h3 with h3 | ⟨g, cap, cur, r1, r2, r3, r4⟩
  · exact .inl h3
  ·
   have hg : (e.r y.n).ownBlock = some g := by rw [r1]; rfl
   have hglt := (Array.getElem?_eq_some_iff.1 r3).1
   exact .inr ⟨g, cap, cur, r1, r2, by rw [hk.block _ ⟨hglt, h2 y hy g hg⟩]; exact r3, r4⟩
section
variable {P : Program} {ops : Array Oper} {Q : Exit → Act → World → Prop} {R : World → Prop} {last : Nat} {a : Act} {w : World}
end
section
variable {P : Program} {ops : Array Oper} {Q : Exit → Act → World → Prop} {R : World → Prop} {last : Nat} {a : Act} {w : World}
end


end Go.Proofs.YtmendapdibnbdaaGreatDoor.Stride
