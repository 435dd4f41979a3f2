/- Words for floats in a walk: Float64bits and its kin, arithmetic and conversions under a guard. -/
import Derived.Test.YtahbgcjcfbjbmaaProg
import Derived.Laws.FloatArith
import Derived.Laws.Cover2
import Derived.Laws.Externs
import Derived.WalkKit
namespace Go.Proofs.Ytahbgcjcfbjbmaa.HalfWords

theorem run_b64 (x : Nat) (w : World) : (callFunc 40 #[.float .f64 x]).run Try.prog w = .ok (.value (.int .u64 (x : Nat))) w := by
  rw [run_callFunc_extern (e := Extern.MathFloatBits.float64bits) Try.func40 (by kernel_rfl) (by kernel_rfl) (by kernel_rfl) (by kernel_rfl)]; rfl
theorem run_f64 (x : Int) (w : World) : (callFunc 39 #[.int .u64 x]).run Try.prog w = .ok (.value (.float .f64 x.toNat)) w := by
  rw [run_callFunc_extern (e := Extern.MathFloatBits.float64frombits) Try.func39 (by kernel_rfl) (by kernel_rfl) (by kernel_rfl) (by kernel_rfl)]; rfl
theorem run_b32 (x : Nat) (w : World) : (callFunc 45 #[.float .f32 x]).run Try.prog w = .ok (.value (.int .u32 (x : Nat))) w := by
  rw [run_callFunc_extern (e := Extern.MathFloatBits.float32bits) Try.func45 (by kernel_rfl) (by kernel_rfl) (by kernel_rfl) (by kernel_rfl)]; rfl
theorem run_f32 (x : Int) (w : World) : (callFunc 46 #[.int .u32 x]).run Try.prog w = .ok (.value (.float .f32 x.toNat)) w := by
  rw [run_callFunc_extern (e := Extern.MathFloatBits.float32frombits) Try.func46 (by kernel_rfl) (by kernel_rfl) (by kernel_rfl) (by kernel_rfl)]; rfl

theorem run_arith {P : Program} (op : BinOp) (t : TypeId) (k : FloatKind) (x y : Nat) (w : World) (h : (floatBits op k x y).isSome = true) :
    (binOp op t (.float k x) (.float k y)).run P w = .ok (.float k ((floatBits op k x y).getD 0)) w := by
  obtain ⟨r, hr⟩ := Option.isSome_iff_exists.1 h
  rw [run_float_arith w op t k x y r hr, hr]; rfl
theorem run_f2i {P : Program} (src dst : TypeId) (s : FloatKind) (k : IntKind) (b : Nat) (w : World) (hs : (P.underlying src).isSome = true) (hd : P.underlying dst = some (.int k)) (h : (floatToIntVal s b k).isSome = true) :
    (convert src dst (.float s b)).run P w = .ok (.int k ((floatToIntVal s b k).getD 0)) w := by
  obtain ⟨r, hr⟩ := Option.isSome_iff_exists.1 h
  rw [run_convert_float_int w src dst s k b r hs hd hr, hr]; rfl
theorem run_f2f {P : Program} (src dst : TypeId) (s k : FloatKind) (b : Nat) (w : World) (hs : (P.underlying src).isSome = true) (hd : P.underlying dst = some (.float k)) (h : (floatToFloatBits s b k).isSome = true) :
    (convert src dst (.float s b)).run P w = .ok (.float k ((floatToFloatBits s b k).getD 0)) w := by
  obtain ⟨r, hr⟩ := Option.isSome_iff_exists.1 h
  rw [run_convert_float_float w src dst s k b r hs hd hr, hr]; rfl
end Go.Proofs.Ytahbgcjcfbjbmaa.HalfWords
