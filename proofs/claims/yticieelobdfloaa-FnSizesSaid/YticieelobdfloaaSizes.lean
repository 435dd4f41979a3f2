/- FnSizes: the machine side, function by function: what each function of the law returns for a number from 1 to 2^40. -/
import Derived.Test.YticieelobdfloaaRows
import Derived.Test.YticieelobdfloaaSizesPlain
import Derived.Handy
import Derived.WalkKit
import Derived.Below
import Derived.Lib.Hide
import Derived.Outline
import Derived.Deep.Light
import Derived.Lib.BitFns
import Derived.Deep.LoopGhost
namespace Go.Proofs.Yticieelobdfloaa
open Go.RowKit

set_option maxHeartbeats 4000000 in
set_option maxRecDepth 100000 in
theorem len64_any (x : Int) (w : World) (h0 : 0 ≤ x) (h1 : x ≤ 18446744073709551615) :
    Calls Try.prog 25 #[.int .u64 x] w fun e w' => e = .returned (.int .i64 (Lib.bitLen x.toNat)) ∧ w' = w := by
  go_enter Try.func25, Try.ntmps25
  go_wp2
  all_goals first
    | (go_ret; refine ⟨congrArg Ending.returned (congrArg (Value.int IntKind.i64) ?_), rfl⟩; go_light)
    | (exfalso
       go_light
       have hs := SizesPlain.tab_size
       omega)
  · exact SizesPlain.way x _ 56 _ (by decide) (show _ = x.toNat / 72057594037927936 by omega) (by omega) (by omega) (Lib.bitLen_shift56 x.toNat (by omega) (by omega)) _
  · exact SizesPlain.way x _ 48 _ (by decide) (show _ = x.toNat / 281474976710656 by omega) (by omega) (by omega) (Lib.bitLen_shift48 x.toNat (by omega) (by omega)) _
  · exact SizesPlain.way x _ 40 _ (by decide) (show _ = x.toNat / 1099511627776 by omega) (by omega) (by omega) (Lib.bitLen_shift40 x.toNat (by omega) (by omega)) _
  · exact SizesPlain.way x _ 32 _ (by decide) (show _ = x.toNat / 4294967296 by omega) (by omega) (by omega) (Lib.bitLen_shift32 x.toNat (by omega) (by omega)) _
  · exact SizesPlain.way x _ 24 _ (by decide) (show _ = x.toNat / 16777216 by omega) (by omega) (by omega) (Lib.bitLen_shift24 x.toNat (by omega) (by omega)) _
  · exact SizesPlain.way x _ 16 _ (by decide) (show _ = x.toNat / 65536 by omega) (by omega) (by omega) (Lib.bitLen_shift16 x.toNat (by omega) (by omega)) _
  · exact SizesPlain.way x _ 8 _ (by decide) (show _ = x.toNat / 256 by omega) (by omega) (by omega) (Lib.bitLen_shift8 x.toNat (by omega) (by omega)) _
  · rw [SizesPlain.tab_get x (by omega) (by omega)]
    exact SizesPlain.wrap_wrap _ (Lib.bitLen_le8' x (by omega) (by omega))

theorem len_any (x : Int) (w : World) (h0 : 0 ≤ x) (h1 : x ≤ 18446744073709551615) :
    Calls Try.prog 22 #[.int .u64 x] w fun e w' => e = .returned (.int .i64 (Lib.bitLen x.toNat)) ∧ w' = w := by
  go_enter Try.func22, Try.ntmps22
  go_wp2_with (go_at_call 25; refine (len64_any x _ h0 h1).mono ?_; rintro e w' ⟨rfl, rfl⟩)
  go_ret
  exact ⟨rfl, rfl⟩

theorem power_any (n : Int) (w : World) (h1 : 1 ≤ n) (h2 : n ≤ 1099511627776) :
    Calls Try.prog 14 #[.int .i64 n] w fun e w' => e = .returned (.int .i64 (2 ^ Lib.bitLen n.toNat)) ∧ w' = w := by
  have hl := SizesPlain.len_facts n h1 h2
  go_enter Try.func14, Try.ntmps14
  go_wp2_with (go_at_call 22; refine (len_any n _ (by omega) (by omega)).mono ?_; rintro e w' ⟨rfl, rfl⟩)
  go_ret
  exact ⟨congrArg Ending.returned (congrArg (Value.int IntKind.i64) (SizesPlain.wrap_pow _ hl.2.1)), rfl⟩

theorem bytes_any (n : Int) (w : World) (h1 : 1 ≤ n) (h2 : n ≤ 1099511627776) :
    Calls Try.prog 11 #[.int .i64 n] w fun e w' => e = .returned (.int .i64 ((n + 7) / 8)) ∧ w' = w := by
  go_enter Try.func11, Try.ntmps11
  go_wp2
  go_ret
  exact ⟨rfl, rfl⟩

theorem ceil_any (n : Int) (w : World) (h1 : 1 ≤ n) (h2 : n ≤ 1099511627776) :
    Calls Try.prog 12 #[.int .i64 n] w fun e w' => e = .returned (.int .i64 ((n + 7) / 8 * 8)) ∧ w' = w := by
  go_enter Try.func12, Try.ntmps12
  go_wp2
  go_ret
  exact ⟨congrArg Ending.returned (congrArg (Value.int IntKind.i64) (SizesPlain.ceil_bits n h1 h2)), rfl⟩

theorem ceil64_any (n : Int) (w : World) (h1 : 1 ≤ n) (h2 : n ≤ 1099511627776) :
    Calls Try.prog 13 #[.int .i64 n] w fun e w' => e = .returned (.int .i64 ((n + 7) / 8 * 8)) ∧ w' = w := by
  go_enter Try.func13, Try.ntmps13
  go_wp2
  go_ret
  exact ⟨congrArg Ending.returned (congrArg (Value.int IntKind.i64) (SizesPlain.ceil_bits n h1 h2)), rfl⟩

theorem of8_any (n : Int) (w : World) (h1 : 1 ≤ n) (h2 : n ≤ 1099511627776) :
    Calls Try.prog 15 #[.int .i64 n] w fun e w' => e = .returned (.bool (n % 8 == 0)) ∧ w' = w := by
  go_enter Try.func15, Try.ntmps15
  go_wp2
  go_ret
  exact ⟨congrArg Ending.returned (congrArg Value.bool (SizesPlain.mask8 n h1 h2)), rfl⟩

theorem of64_any (n : Int) (w : World) (h1 : 1 ≤ n) (h2 : n ≤ 1099511627776) :
    Calls Try.prog 16 #[.int .i64 n] w fun e w' => e = .returned (.bool (n % 64 == 0)) ∧ w' = w := by
  go_enter Try.func16, Try.ntmps16
  go_wp2
  go_ret
  exact ⟨congrArg Ending.returned (congrArg Value.bool (SizesPlain.mask64 n h1 h2)), rfl⟩

theorem sizes_any (n : Int) (w : World) (h1 : 1 ≤ n) (h2 : n ≤ 1099511627776) :
    Calls Try.prog 7 #[.int .i64 n] w fun e w' => e = .returned (.tuple #[.int .i64 ((n + 7) / 8), .int .i64 ((n + 7) / 8 * 8), .int .i64 ((n + 7) / 8 * 8), .int .i64 (2 ^ Lib.bitLen n.toNat), .bool (n % 8 == 0), .bool (n % 64 == 0)]) ∧ Below w.heap.size w w' := by
  go_enter Try.func7, Try.ntmps7
  go_wp2_with (first
    | (go_at_call 11; refine (bytes_any n _ h1 h2).mono ?_; rintro e w' ⟨rfl, rfl⟩)
    | (go_at_call 12; refine (ceil_any n _ h1 h2).mono ?_; rintro e w' ⟨rfl, rfl⟩)
    | (go_at_call 13; refine (ceil64_any n _ h1 h2).mono ?_; rintro e w' ⟨rfl, rfl⟩)
    | (go_at_call 14; refine (power_any n _ h1 h2).mono ?_; rintro e w' ⟨rfl, rfl⟩)
    | (go_at_call 15; refine (of8_any n _ h1 h2).mono ?_; rintro e w' ⟨rfl, rfl⟩)
    | (go_at_call 16; refine (of64_any n _ h1 h2).mono ?_; rintro e w' ⟨rfl, rfl⟩))
  exact bodyPost_ret (v := .tuple #[.int .i64 ((n + 7) / 8), .int .i64 ((n + 7) / 8 * 8), .int .i64 ((n + 7) / 8 * 8), .int .i64 (2 ^ Lib.bitLen n.toNat), .bool (n % 8 == 0), .bool (n % 64 == 0)]) (by simp [results, Try.results7, go_sem]) rfl ⟨rfl, Below.refl _ _⟩

theorem law_out (n : Int) (w : World) (h : n < 1 ∨ 1099511627776 < n) :
    Calls Try.prog 4 #[.int .i64 n] w fun e w' => e = .returned (.bool true) ∧ Below w.heap.size w w' := by
  by_cases h1 : n < 1
  · go_enter Try.func4, Try.ntmps4
    go_wp2
    go_ret
    exact ⟨rfl, Below.refl _ _⟩
  · have h2 : 1099511627776 < n := by omega
    clear h
    go_enter Try.func4, Try.ntmps4
    go_wp2
    go_ret
    exact ⟨rfl, Below.refl _ _⟩

set_option maxHeartbeats 1000000 in
theorem law_in (n : Int) (w : World) (h1 : 1 ≤ n) (h2 : n ≤ 1099511627776) :
    Calls Try.prog 4 #[.int .i64 n] w fun e w' => e = .returned (.bool true) ∧ Below w.heap.size w w' := by
  obtain ⟨l1, l2, l3, l4⟩ := SizesPlain.len_facts n h1 h2
  have hs : SizesPlain.Pw n (2 ^ Lib.bitLen n.toNat) 1 := SizesPlain.Pw.start n _ _ rfl l1 l3
  obtain ⟨P, hP⟩ : ∃ P : Int, P = 2 ^ Lib.bitLen n.toNat := ⟨_, rfl⟩
  rw [← hP] at hs l4
  have HP := Lib.hid hP
  clear hP l1 l2 l3
  go_enter Try.func4, Try.ntmps4
  go_wp2_with (go_at_call 7; refine (sizes_any n _ h1 h2).mono ?_; rw [← HP.out]; rintro e w' ⟨rfl, hb⟩)
  go_loop [9] (fun v => ∃ p : Int, v = .int .i64 p ∧ SizesPlain.Pw n P p) (fun v => (4398046511104 - intOf v).toNat)
  case atStart => exact ⟨1, rfl, hs⟩
  case round =>
    obtain ⟨p, rfl, hp⟩ := hrel
    by_cases hpp : p = P
    · subst hpp
      go_wp2
      go_ret
      exact ⟨rfl, hb⟩
    · obtain ⟨a1, a2, a3⟩ := hp.le hpp
      clear hp hpp
      go_wp2
      go_round
      case rel => exact ⟨p * 2, rfl, a3⟩
      case measure => simp [intOf]; omega

end Go.Proofs.Yticieelobdfloaa
