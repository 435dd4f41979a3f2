/- Walks of the program's functions, printed by a program of mine (walk.py) over the words of Stride: each function's contract. -/
import Derived.Test.YtmendapdibnbdaaGreatDoorPwH
namespace Go.Proofs.YtmendapdibnbdaaGreatDoor.Stride
open Go Go.RowKit Go.Proofs.YtmendapdibnbdaaGreatDoor.Mag
set_option linter.unusedVariables false
set_option linter.unusedSimpArgs false
set_option maxHeartbeats 4000000
set_option maxRecDepth 100000
theorem dig_split {x : Nat} (h : x < 18446744073709551616) : Dig [x % 4294967296, x / 4294967296] := fun d hd => by
 have h1 : d = x % 4294967296 ∨ d = x / 4294967296 := by simpa using hd
 omega
theorem val_split2 (x : Nat) : val [x % 4294967296, x / 4294967296] = x := by simp only [val]; omega
theorem wd_neg {C : Nat → Prop} {w : World} {n : Bool} {ad : Option Addr} {cap L : Nat} {xs : List Nat} {z : Int} (h : Wd C w n ad cap xs z L) : z < 0 ↔ n = true := by
 have h1 := h.sign
 rw [← h.eq]
 cases n
 · simp only [sg]; simp
 ·
  have h2 := h1 rfl
  simp only [sg]; simp; omega
theorem fits_abs {k v : Int} (hk : k = 128 ∨ k = 256) (h : -((2 ^ (64 * nwords k - 1) : Nat) : Int) ≤ v ∧ v < ((2 ^ (64 * nwords k - 1) : Nat) : Int)) (hl : NotLeast k v) : Int.natAbs v < 2 ^ (64 * nwords k - 1) := by
 rcases hk with rfl | rfl
 ·
  have e : 2 ^ (64 * nwords 128 - 1) = 170141183460469231731687303715884105728 := by decide
  rw [e] at h ⊢
  have := hl.1 rfl
  omega
 ·
  have e : 2 ^ (64 * nwords 256 - 1) = 57896044618658097711785492504343953926634992332820282019728792003956564819968 := by decide
  rw [e] at h ⊢
  have := hl.2 rfl
  omega
theorem one_abs {k a : Int} (hk : k = 128 ∨ k = 256) : Int.natAbs (a ^ 0) < 2 ^ (64 * nwords k - 1) := by
 rw [Int.pow_zero]
 rcases hk with rfl | rfl <;> decide
theorem cmpZ_gt0 {a b : Int} : cmpZ a b > 0 ↔ b < a := by
 unfold cmpZ
 by_cases h1 : a < b
 · rw [if_pos h1]; omega
 ·
  rw [if_neg h1]
  by_cases h2 : b < a
  · rw [if_pos h2]; omega
  · rw [if_neg h2]; omega
theorem natAbs_pow_ (a : Int) : ∀ n : Nat, Int.natAbs (a ^ n) = Int.natAbs a ^ n
 | 0 => by simp
 | n + 1 => by rw [Int.pow_succ, Int.natAbs_mul, natAbs_pow_ a n, Nat.pow_succ]
def PowPost (k a b : Int) (f : Bool) (us : List Nat) : Prop := f = true → 0 ≤ b ∧ b ≤ 20 ∧ Int.natAbs a ^ Int.natAbs b < 2 ^ (64 * nwords k - 1) ∧ Wrapped k (a ^ Int.natAbs b) us
theorem tells_eight {us : List Nat} (hu : ∀ d ∈ us, d < 18446744073709551616) (h : Tells 128 ((((([2, 0] : List Nat).getD 0 0 : Nat) : Int) + 18446744073709551616 * IntKind.i64.wrap ((([2, 0] : List Nat).getD 1 0 : Nat) : Int)) ^ Int.natAbs (((([3, 0] : List Nat).getD 0 0 : Nat) : Int) + 18446744073709551616 * IntKind.i64.wrap ((([3, 0] : List Nat).getD 1 0 : Nat) : Int))) us) : us = [8, 0] := by
 refine wval_inj (h.1.trans (by decide)) hu (dig2 (by decide) (by decide)) ?_
 have h2 := h.2
 have e : ((((([2, 0] : List Nat).getD 0 0 : Nat) : Int) + 18446744073709551616 * IntKind.i64.wrap ((([2, 0] : List Nat).getD 1 0 : Nat) : Int)) ^ Int.natAbs (((([3, 0] : List Nat).getD 0 0 : Nat) : Int) + 18446744073709551616 * IntKind.i64.wrap ((([3, 0] : List Nat).getD 1 0 : Nat) : Int))) % ((2 ^ (64 * nwords 128) : Nat) : Int) = 8 := by decide
 rw [e] at h2
 have e2 : wval [8, 0] = 8 := by decide
 omega


theorem wideSign2_spec {C : Nat → Prop} {w : World} {na : Bool} {ad : Option Addr} {cap L : Nat} {xs : List Nat} {a : Int} (ha : Wd C w na ad cap xs a L) :
    Calls P 8 #[.agg #[.bool na, .slice ad xs.length cap]] w fun ex w' => ∃ z : Int, ex = .returned (.int .i64 z) ∧ KS w w' ∧ (z < 0 ↔ a < 0) := by
 refine dN (C := C) [.v (.agg #[.bool na, .slice ad xs.length cap])] 11 1 Tryz.func8 fun a_ hI hR hB => ?_
 replace hI : Is 11 [] e0 [(0, .v (.agg #[.bool na, .slice ad xs.length cap]))] a_ := hI
 have hrx := ha.sl.room; have hmx := ha.sl.max; have hz_ := wd_neg ha
 refine rK tab 0 [] [] [(1, .p 0 0)] [] [⟨0, 29, [vB na, vS ad xs.length cap]⟩] [] [] [] 1 hR hI .nil fun e1 a1 w1 hag hR hI => ?_
 refine wp_seq ?_
 refine wp_block ?_
 refine rZ tab 1 [(3, vB na)] [1] hR hI fun e2 a2 w2 hag hR hI => ?_
 refine cnd (b := na) hI (by kernel_rfl) (fun hc3 => ?_) (fun hc3 => ?_)
 ·
  replace hI := hI.rb 3 hc3
  try simp only [tolds] at hc3
  have hw_ := hc3
  refine rK tab 1 [] [] [(2, .v (.int .i64 (-1)))] [] [] [] [] [] 1 hR hI .nil fun e4 a4 w4 hag hR hI => ?_
  refine wp_ret ?_
  refine ret_block ?_
  refine ret_then ?_
  refine oN tab [.v (.int .i64 (-1))] hR hI ?_
  exact ⟨-1, rfl, hB.fin hR, ⟨fun _ => hz_.2 hw_, fun _ => by decide⟩⟩
 ·
  replace hI := hI.rb 3 hc3
  try simp only [tolds] at hc3
  have hw_ := hc3
  refine rK tab 1 [] [] [(6, vB ((xs.length : Int) == (0 : Int)))] [] [] [] [] [] 1 hR hI .nil fun e5 a5 w5 hag hR hI => ?_
  refine cnd (b := ((xs.length : Int) == (0 : Int))) hI (by kernel_rfl) (fun hc6 => ?_) (fun hc6 => ?_)
  ·
   replace hI := hI.rb 6 hc6
   try simp only [tolds] at hc6
   refine rZ tab 1 [(2, .v (.int .i64 0))] [] hR hI fun e7 a7 w7 hag hR hI => ?_
   refine wp_ret ?_
   refine ret_block ?_
   refine ret_then ?_
   refine oN tab [.v (.int .i64 0)] hR hI ?_
   exact ⟨0, rfl, hB.fin hR, ⟨fun h_ => by omega, fun h_ => by have h2_ := hz_.1 h_; simp_all⟩⟩
  ·
   replace hI := hI.rb 6 hc6
   try simp only [tolds] at hc6
   refine wp_skip ?_
   refine normal_block ?_
   refine then_n ?_
   refine rZ tab 1 [(2, .v (.int .i64 1))] [] hR hI fun e8 a8 w8 hag hR hI => ?_
   refine wp_ret (oN tab [.v (.int .i64 1)] hR hI ?_)
   exact ⟨1, rfl, hB.fin hR, ⟨fun h_ => by omega, fun h_ => by have h2_ := hz_.1 h_; simp_all⟩⟩

theorem wrappedF_spec {C : Nat → Prop} {w : World} {na : Bool} {ad : Option Addr} {cap L : Nat} {xs : List Nat} {a : Int} (ha : Wd C w na ad cap xs a L) (k : Int) (hkc : k = 128 ∨ k = 256) (hL : L ≤ 10000) :
    Calls P 11 #[.int .i64 k, .agg #[.bool na, .slice ad xs.length cap]] w fun ex w' => ∃ vs vd vc, ex = .returned (.tuple #[.slice vd (List.length vs) vc, .bool (decide (-((2 ^ (64 * nwords k - 1) : Nat) : Int) ≤ a ∧ a < ((2 ^ (64 * nwords k - 1) : Nat) : Int)))]) ∧ KS w w' ∧ Sl .u64 18446744073709551616 (Grow C w w') w' vd vc vs ∧ Wrapped k a vs := by
 refine dN (C := C) [.v (.int .i64 k), .v (.agg #[.bool na, .slice ad xs.length cap])] 42 2 Tryz.func11 fun a_ hI hR hB => ?_
 replace hI : Is 42 [] e0 [(0, .v (.int .i64 k)), (1, .v (.agg #[.bool na, .slice ad xs.length cap]))] a_ := hI
 have hk : okw k = true := by rcases hkc with rfl | rfl <;> decide
 have hnp := nwords_pos hk; have hnw := nwords_le k
 refine rK tab 0 [] [] [(3, .p 0 0)] [0] [⟨0, 29, [vB na, vS ad xs.length cap]⟩] [] [] [] 1 hR hI .nil fun e1 a1 w1 hag hR hI => ?_
 refine wp_seq (reg (is := [0, 1, 2, 3, 4, 5, 6]) (by kernel_rfl) ?_)
 refine pZ tab [0] [1, 2, 3, 4, 5, 6] 1 [(12, .v (.int .i64 k))] [3, 0] hR hI fun e2 a2 w2 hag hR hI => ?_
 refine cO [.v (.int .i64 k)] hI Tryz.func19 ?_
 refine (wordsOf_spec (C := C) k).mono ?_
 rintro ex w3 ⟨rfl, hk⟩
 replace hR := hR.same hk; clear hk
 refine ⟨_, rfl, ?_⟩
 replace hI := hI.pt 13 (.v (.tuple #[.int .i64 ((nwords k : Nat) : Int), .bool (okw k)])) [13, 12, 3, 0]
 refine pZ tab [2, 3, 4, 5, 6] [] 1 [(6, vI (nwords k))] [3, 0] hR hI fun e4 a4 w4 hag hR hI => ?_
 refine ops_nil (then_n ?_)
 refine wp_seq (reg (is := [0, 1, 2, 3, 4, 5, 6, 7]) (by kernel_rfl) ?_)
 refine pK tab [0, 1] [2, 3, 4, 5, 6, 7] 1 [] [] [(18, vI (nwords k)), (17, .agg [vB na, vS ad xs.length cap])] [0] [] [] [] [] 1 hR hI .nil fun e5 a5 w5 hag hR hI => ?_
 refine cO [.agg [vB na, vS ad xs.length cap], vI (nwords k)] hI Tryz.func26 ?_
 refine (toWords_spec (ha.now hB hR) hL ⟨hnp, hnw⟩).mono ?_
 rintro ex w6 ⟨ws, wd, wc, rfl, hk, hw, hwl, hwv⟩
 replace ha := ha.next hB hR hk
 obtain ⟨hB, hR⟩ := nx hB hR hk
 have hrw := hw.room; have hmw := hw.max
 refine ⟨_, rfl, ?_⟩
 replace hI := hI.pt 19 (.v (.tuple #[.slice wd ws.length wc, .bool (decide (-((2 ^ (64 * nwords k - 1) : Nat) : Int) ≤ a ∧ a < ((2 ^ (64 * nwords k - 1) : Nat) : Int)))])) [19, 18, 17, 0]
 refine pZ tab [3, 4, 5, 6, 7] [] 1 [(9, vB (decide (-((2 ^ (64 * nwords k - 1) : Nat) : Int) ≤ a ∧ a < ((2 ^ (64 * nwords k - 1) : Nat) : Int)))), (8, vS wd ws.length wc)] [0] hR hI fun e7 a7 w7 hag hR hI => ?_
 refine ops_nil (then_n ?_)
 refine wp_seq ?_
 refine rZ tab 1 [(23, vB (k == (32 : Int)))] [9, 8] hR hI fun e8 a8 w8 hag hR hI => ?_
 refine cnd (b := (k == (32 : Int))) hI (by kernel_rfl) (fun hc9 => ?_) (fun hc9 => ?_)
 ·
  replace hI := hI.rb 23 hc9
  try simp only [tolds] at hc9
  exfalso; omega
 ·
  replace hI := hI.rb 23 hc9
  try simp only [tolds] at hc9
  have hc32 := hc9
  refine wp_skip ?_
  refine then_n ?_
  refine rZ tab 1 [(5, vB (decide (-((2 ^ (64 * nwords k - 1) : Nat) : Int) ≤ a ∧ a < ((2 ^ (64 * nwords k - 1) : Nat) : Int)))), (4, vS wd ws.length wc)] [] hR hI fun e10 a10 w10 hag hR hI => ?_
  refine wp_ret (oN tab [vS wd ws.length wc, vB (decide (-((2 ^ (64 * nwords k - 1) : Nat) : Int) ≤ a ∧ a < ((2 ^ (64 * nwords k - 1) : Nat) : Int)))] hR hI ?_)
  exact ⟨ws, wd, wc, rfl, hB.fin hR, hw.fin hB hR, fun h => absurd h hc32, fun _ => ⟨hwl, hwv⟩⟩

theorem wideInt_spec {C : Nat → Prop} {w : World} {v : Int} (hv : -9223372036854775808 ≤ v ∧ v ≤ 9223372036854775807) :
    Calls P 30 #[.int .i64 v] w fun ex w' => ∃ nz zd zc zs, ex = .returned (.agg #[.bool nz, .slice zd (List.length zs) zc]) ∧ KS w w' ∧ Wd (Grow C w w') w' nz zd zc zs v 2 := by
 refine dN (C := C) [.v (.int .i64 v)] 19 1 Tryz.func30 fun a_ hI hR hB => ?_
 replace hI : Is 19 [] e0 [(0, .v (.int .i64 v))] a_ := hI
 obtain ⟨m, hm, hmb⟩ := u64_nat v; have hm2 := hm; rw [wrap_u64] at hm2
 refine rK tab 0 [] [] [(2, .p 0 0)] [0] [⟨0, 29, [vB false, vS none 0 0]⟩] [] [] [] 1 hR hI .nil fun e1 a1 w1 hag hR hI => ?_
 refine rK tab 1 [(1, .eq (.int .u64 (m : Int)))] [] [(3, vU m)] [2, 0] [] [0] [] [] 1 hR hI (.cons (congrArg (Value.int .u64) (hm : IntKind.u64.wrap v = (m : Int))) .nil) fun e2 a2 w2 hag hR hI => ?_
 refine wp_seq ?_
 refine rZ tab 1 [(7, vB (decide (v < (0 : Int))))] [3, 2, 0] hR hI fun e3 a3 w3 hag hR hI => ?_
 refine cnd (b := decide (v < (0 : Int))) hI (by kernel_rfl) (fun hc4 => ?_) (fun hc4 => ?_)
 ·
  replace hI := hI.rb 7 hc4
  try simp only [tolds] at hc4
  have hneg := hc4
  obtain ⟨m2, hn, hnb⟩ := u64_nat (0 - (m : Int)); have hn2 := hn; rw [wrap_u64] at hn2
  refine aK tab 1 [(1, .eq (.int .u64 (m2 : Int)))] [] [(3, vU m2)] [2, 0] [] [0] [] [] 1 hR hI (.cons (congrArg (Value.int .u64) (hn : IntKind.u64.wrap (0 - (m : Int)) = (m2 : Int))) .nil) fun e5 a5 w5 hag hR hI => ?_
  refine then_n ?_
  have hxb : m2 < 18446744073709551616 := by omega
  refine wp_seq (reg (is := [0, 1, 2, 3, 4, 5, 6, 7, 8, 9]) (by kernel_rfl) ?_)
  refine pK tab [0, 1, 2, 3, 4, 5, 6, 7] [8, 9] 1 [(3, .eq (.int .u32 ((m2 % 4294967296 : Nat) : Int))), (6, .nw)] [] [(17, .sl 1 0 2 2), (11, vB (decide (v < (0 : Int))))] [2] [⟨1, 90, [.v (.int .u32 ((m2 % 4294967296 : Nat) : Int)), .v (.int .u32 ((m2 / 4294967296 : Nat) : Int))]⟩] [0] [] [] 2 hR hI (.cons (congrArg (Value.int .u32) (wrap_u32_nat _ : IntKind.u32.wrap (m2 : Int) = ((m2 % 4294967296 : Nat) : Int))) (.cons (by decide : (0 : Int) ≤ 32) (.cons (by decide : (32 : Int) ≤ (IntKind.u64.bits : Int)) (.cons (inR_u32 (n := ((m2 / 4294967296 : Nat) : Int)) (by omega)) .nil)))) fun e6 a6 w6 hag hR hI => ?_
  obtain ⟨e7, hag_, hr_, hR_⟩ := hR.litRow (L := [(17, .sl 1 0 2 2), (11, vB (decide (v < (0 : Int)))), (2, .p 0 0)]) 2 [⟨0, 29, [vB false, vS none 0 0]⟩] (by kernel_rfl) (b := ⟨1, 90, [.v (.int .u32 ((m2 % 4294967296 : Nat) : Int)), .v (.int .u32 ((m2 / 4294967296 : Nat) : Int))]⟩) (by simp) (by simp) (n := 2) (sz := 1) (xs := ints .u32 [m2 % 4294967296, m2 / 4294967296]) rfl rfl (by decide)
  replace hI := hI.agreeB (H := [⟨0, 29, [vB false, vS none 0 0]⟩]) (G := []) (by kernel_rfl) hag_; replace hR := hR_; replace hI := hI.re 17 (.row 2) rfl hr_.symm; clear hag_ hr_ hR_
  obtain ⟨hB_, hR_, hrel_, zd, zc, hv_, hcells_, hlen_, hcap_, hmax_⟩ := hB.release hR (y := ⟨2, 90, 1, 2, (ints .u32 [m2 % 4294967296, m2 / 4294967296])⟩) (by simp) rfl _ dropN_mem
  have hm_ : Sl .u32 4294967296 _ _ zd zc [m2 % 4294967296, m2 / 4294967296] := ⟨hcells_, (dig_split (by omega)), (by dsimp only at hlen_ hcap_; rw [ints_length] at hlen_; omega), hmax_⟩
  replace hI := hI.re 17 (vS zd 2 zc) rfl hv_
  replace hB := hB_; replace hR := hR_.sel [0] [] rfl rfl; clear hB_ hR_ hrel_ hcells_ hv_
  refine cO [vB (decide (v < (0 : Int))), vS zd 2 zc] hI Tryz.func25 ?_
  refine (wide_wd (decide (v < (0 : Int))) (xs := [m2 % 4294967296, m2 / 4294967296]) (hm_.now hB hR)).mono ?_
  rintro ex w8 ⟨nz, zs, rfl, hk, hz⟩
  replace hm_ := hm_.next hB hR hk
  obtain ⟨hB, hR⟩ := nx hB hR hk
  refine ⟨_, rfl, ?_⟩
  replace hI := hI.pt 18 (.v (.agg #[.bool nz, .slice zd zs.length zc])) [18, 17, 11, 2]
  refine pK tab [9] [] 3 [] [] [] [2] [⟨0, 29, [vB nz, vS zd zs.length zc]⟩] [] [] [] 3 hR hI .nil fun e9 a9 w9 hag hR hI => ?_
  refine ops_nil (then_n ?_)
  refine wp_ret (oN tab [.agg [vB nz, vS zd zs.length zc]] hR hI ?_)
  exact ⟨nz, zd, zc, zs, rfl, hB.fin hR, (hz.fin hB hR).to (by rw [val_split2, decide_eq_true hneg]; simp only [sg]; omega) (Nat.le_refl _)⟩
 ·
  replace hI := hI.rb 7 hc4
  try simp only [tolds] at hc4
  have hneg := hc4
  refine wp_skip ?_
  refine then_n ?_
  have hxb : m < 18446744073709551616 := by omega
  refine wp_seq (reg (is := [0, 1, 2, 3, 4, 5, 6, 7, 8, 9]) (by kernel_rfl) ?_)
  refine pK tab [0, 1, 2, 3, 4, 5, 6, 7] [8, 9] 1 [(3, .eq (.int .u32 ((m % 4294967296 : Nat) : Int))), (6, .nw)] [] [(17, .sl 1 0 2 2), (11, vB (decide (v < (0 : Int))))] [2] [⟨1, 90, [.v (.int .u32 ((m % 4294967296 : Nat) : Int)), .v (.int .u32 ((m / 4294967296 : Nat) : Int))]⟩] [0] [] [] 2 hR hI (.cons (congrArg (Value.int .u32) (wrap_u32_nat _ : IntKind.u32.wrap (m : Int) = ((m % 4294967296 : Nat) : Int))) (.cons (by decide : (0 : Int) ≤ 32) (.cons (by decide : (32 : Int) ≤ (IntKind.u64.bits : Int)) (.cons (inR_u32 (n := ((m / 4294967296 : Nat) : Int)) (by omega)) .nil)))) fun e10 a10 w10 hag hR hI => ?_
  obtain ⟨e11, hag_, hr_, hR_⟩ := hR.litRow (L := [(17, .sl 1 0 2 2), (11, vB (decide (v < (0 : Int)))), (2, .p 0 0)]) 2 [⟨0, 29, [vB false, vS none 0 0]⟩] (by kernel_rfl) (b := ⟨1, 90, [.v (.int .u32 ((m % 4294967296 : Nat) : Int)), .v (.int .u32 ((m / 4294967296 : Nat) : Int))]⟩) (by simp) (by simp) (n := 2) (sz := 1) (xs := ints .u32 [m % 4294967296, m / 4294967296]) rfl rfl (by decide)
  replace hI := hI.agreeB (H := [⟨0, 29, [vB false, vS none 0 0]⟩]) (G := []) (by kernel_rfl) hag_; replace hR := hR_; replace hI := hI.re 17 (.row 2) rfl hr_.symm; clear hag_ hr_ hR_
  obtain ⟨hB_, hR_, hrel_, zd, zc, hv_, hcells_, hlen_, hcap_, hmax_⟩ := hB.release hR (y := ⟨2, 90, 1, 2, (ints .u32 [m % 4294967296, m / 4294967296])⟩) (by simp) rfl _ dropN_mem
  have hm_ : Sl .u32 4294967296 _ _ zd zc [m % 4294967296, m / 4294967296] := ⟨hcells_, (dig_split (by omega)), (by dsimp only at hlen_ hcap_; rw [ints_length] at hlen_; omega), hmax_⟩
  replace hI := hI.re 17 (vS zd 2 zc) rfl hv_
  replace hB := hB_; replace hR := hR_.sel [0] [] rfl rfl; clear hB_ hR_ hrel_ hcells_ hv_
  refine cO [vB (decide (v < (0 : Int))), vS zd 2 zc] hI Tryz.func25 ?_
  refine (wide_wd (decide (v < (0 : Int))) (xs := [m % 4294967296, m / 4294967296]) (hm_.now hB hR)).mono ?_
  rintro ex w12 ⟨nz, zs, rfl, hk, hz⟩
  replace hm_ := hm_.next hB hR hk
  obtain ⟨hB, hR⟩ := nx hB hR hk
  refine ⟨_, rfl, ?_⟩
  replace hI := hI.pt 18 (.v (.agg #[.bool nz, .slice zd zs.length zc])) [18, 17, 11, 2]
  refine pK tab [9] [] 3 [] [] [] [2] [⟨0, 29, [vB nz, vS zd zs.length zc]⟩] [] [] [] 3 hR hI .nil fun e13 a13 w13 hag hR hI => ?_
  refine ops_nil (then_n ?_)
  refine wp_ret (oN tab [.agg [vB nz, vS zd zs.length zc]] hR hI ?_)
  exact ⟨nz, zd, zc, zs, rfl, hB.fin hR, (hz.fin hB hR).to (by rw [val_split2, decide_eq_false hneg]; simp only [sg]; omega) (Nat.le_refl _)⟩

theorem power_spec {C : Nat → Prop} {w : World} {na nb : Bool} {ad bd : Option Addr} {cap dap : Nat} {xs ys : List Nat} {a b : Int} (k : Int) (hkc : k = 128 ∨ k = 256) (ha : Wd C w na ad cap xs a 18) (hb : Wd C w nb bd dap ys b 18) :
    Calls P 13 #[.int .i64 k, .agg #[.bool na, .slice ad (List.length xs) cap], .agg #[.bool nb, .slice bd (List.length ys) dap]] w fun ex w' => ∃ us ud uc f, ex = .returned (.tuple #[.slice ud (List.length us) uc, .bool f]) ∧ KS w w' ∧ Sl .u64 18446744073709551616 (Grow C w w') w' ud uc us ∧ PowPost k a b f us := by
 refine dN (C := C) [.v (.int .i64 k), .v (.agg #[.bool na, .slice ad xs.length cap]), .v (.agg #[.bool nb, .slice bd ys.length dap])] 52 3 Tryz.func13 fun a_ hI hR hB => ?_
 replace hI : Is 52 [] e0 [(0, .v (.int .i64 k)), (1, .v (.agg #[.bool na, .slice ad xs.length cap])), (2, .v (.agg #[.bool nb, .slice bd ys.length dap]))] a_ := hI
 refine rK tab 0 [] [] [(5, .p 1 0), (4, .p 0 0)] [0] [⟨1, 29, [vB nb, vS bd ys.length dap]⟩, ⟨0, 29, [vB na, vS ad xs.length cap]⟩] [] [] [] 2 hR hI .nil fun e1 a1 w1 hag hR hI => ?_
 refine wp_seq ?_
 refine wp_seq ?_
 refine regL 8 hR (by kernel_rfl) (fun hS => ?_)
 replace hR := hR.drew; have hF := hR.fore
 refine cK tab [] [] [0] 8 [(12, .agg [vB nb, vS bd ys.length dap])] [5, 4, 0] hS hI .nil fun a2 hI => ?_
 refine oneL (i := 1) (f' := 7) (by kernel_rfl) (by rfl) ?_
 refine cH [.agg [vB nb, vS bd ys.length dap]] hI Tryz.func8 ?_
 refine (wideSign2_spec (hb.now hB hR)).mono ?_
 rintro ex w3 ⟨sz, rfl, hk, hsz⟩
 replace hS := hS.same hk; replace hR := hR.same hk; clear hk
 refine ⟨_, rfl, hS, ?_⟩
 replace hI := hI.pt 13 (.v (.int .i64 sz)) [13, 12, 5, 4, 0]
 refine cK tab [] [4] [2, 3, 4] 4 [(16, .gd 3 false (decide (sz < (0 : Int))) (.agg [vB nb, vS bd ys.length dap])), (15, vB (decide (sz < (0 : Int))))] [5, 4, 0] hS hI .nil fun a4 hI => ?_
 rcases Bool.eq_false_or_eq_true (decide (sz < (0 : Int))) with hc5 | hc5
 ·
  replace hI := hI.rb 15 hc5
  try simp only [tolds] at hc5
  refine cK tab [] [] [5] 3 [] [15, 5, 4, 0] hS hI .nil fun a6 hI => ?_
  refine cK tab [] [] [6, 7] 1 [] [15, 5, 4, 0] hS hI .nil fun a7 hI => ?_
  refine endL (i := 8) (f' := 0) (by kernel_rfl) (by rfl) (by kernel_rfl) ?_
  refine quietL tab (hh := .no) (x := vB true) hR hI rfl rfl rfl (by kernel_rfl) .nil (fun a8 hI => ?_)
  replace hI := hI.sl [20, 15, 5, 4, 0] rfl
  refine doneL (by kernel_rfl) ?_
  refine then_n ?_
  replace hI := hI.sl [20, 5, 4, 0] rfl; replace hR := hR.sel [1, 0] [] rfl rfl
  refine cnd_t hI (by kernel_rfl) ?_
  refine rK tab 2 [] [] [(7, vB false), (6, vS none 0 0)] [] [] [] [] [] 2 hR hI .nil fun e9 a9 w9 hag hR hI => ?_
  refine wp_ret ?_
  refine ret_then ?_
  refine oN tab [vS none 0 0, vB false] hR hI ?_
  exact ⟨[], none, 0, false, rfl, hB.fin hR, Sl.nil, fun h_ => by cases h_⟩
 ·
  replace hI := hI.re 16 (.agg [vB nb, vS bd ys.length dap]) rfl (by rw [den, hc5]; rfl)
  replace hI := hI.rb 15 hc5
  try simp only [tolds] at hc5
  refine oneL (i := 5) (f' := 3) (by kernel_rfl) (by rfl) ?_
  refine cH [.v (.int .i64 20)] hI Tryz.func30 ?_
  refine (wideInt_spec (C := Now hB) (v := 20) (by decide)).mono ?_
  rintro ex w10 ⟨nt, td, tc, ts, rfl, hk, ht⟩
  replace hF := hF.grow hR hk; replace hS := hS.same hk
  replace ha := ha.next hB hR hk
  replace hb := hb.next hB hR hk
  obtain ⟨hB, hR⟩ := nx hB hR hk
  refine ⟨_, rfl, hS, ?_⟩
  replace hI := hI.pt 17 (.v (.agg #[.bool nt, .slice td ts.length tc])) [17, 15, 16, 5, 4, 0]
  refine oneL (i := 6) (f' := 2) (by kernel_rfl) (by rfl) ?_
  refine cH [.agg [vB nb, vS bd ys.length dap], .v (.agg #[.bool nt, .slice td ts.length tc])] hI Tryz.func21 ?_
  refine (wideCmp_spec (hb.now hB hR) (ht.now hB hR)).mono ?_
  rintro ex w11 ⟨rfl, hk⟩
  replace hS := hS.same hk; replace hR := hR.same hk; clear hk
  refine ⟨_, rfl, hS, ?_⟩
  replace hI := hI.pt 18 (.v (.int .i64 (cmpZ b 20))) [18, 17, 15, 16, 5, 4, 0]
  refine lK tab [] [] [7] 1 [(19, vB (decide ((cmpZ b 20) > (0 : Int))))] [15, 5, 4, 0] hS hI .nil fun a12 hI => ?_
  refine endL (i := 8) (f' := 0) (by kernel_rfl) (by rfl) (by kernel_rfl) ?_
  refine quietL tab (hh := .no) (x := vB (decide ((cmpZ b 20) > (0 : Int)))) hR hI rfl rfl rfl (by kernel_rfl) .nil (fun a13 hI => ?_)
  replace hI := hI.sl [20, 19, 15, 5, 4, 0] rfl
  refine doneL (by kernel_rfl) ?_
  refine then_n ?_
  replace hI := hI.sl [20, 5, 4, 0] rfl; replace hR := hR.sel [1, 0] [] rfl rfl
  refine cnd (b := decide ((cmpZ b 20) > (0 : Int))) hI (by kernel_rfl) (fun hc14 => ?_) (fun hc14 => ?_)
  ·
   replace hI := hI.rb 20 hc14
   try simp only [tolds] at hc14
   refine rK tab 2 [] [] [(7, vB false), (6, vS none 0 0)] [] [] [] [] [] 2 hR hI .nil fun e15 a15 w15 hag hR hI => ?_
   refine wp_ret ?_
   refine ret_then ?_
   refine oN tab [vS none 0 0, vB false] hR hI ?_
   exact ⟨[], none, 0, false, rfl, hB.fin hR, Sl.nil, fun h_ => by cases h_⟩
  ·
   replace hI := hI.rb 20 hc14
   try simp only [tolds] at hc14
   have hb20 : b ≤ 20 := by have h_ : ¬ 20 < b := fun h2_ => hc14 (cmpZ_gt0.2 h2_); omega
   refine wp_skip ?_
   refine then_n ?_
   refine wp_seq (reg (is := [0, 1, 2]) (by kernel_rfl) ?_)
   refine cO [.v (.int .i64 1)] hI Tryz.func30 ?_
   refine (wideInt_spec (C := Now hB) (v := 1) (by decide)).mono ?_
   rintro ex w16 ⟨n1, d1, c1, x1, rfl, hk, h1⟩
   replace ha := ha.next hB hR hk
   replace hb := hb.next hB hR hk
   replace ht := ht.next hB hR hk
   obtain ⟨hB, hR⟩ := nx hB hR hk
   refine ⟨_, rfl, ?_⟩
   replace hI := hI.pt 21 (.v (.agg #[.bool n1, .slice d1 x1.length c1])) [21, 20, 5, 4, 0]
   refine pK tab [1, 2] [] 2 [] [] [(8, .p 2 0)] [5, 4, 0] [⟨2, 29, [vB n1, vS d1 x1.length c1]⟩] [1, 0] [] [] 3 hR hI .nil fun e17 a17 w17 hag hR hI => ?_
   refine ops_nil (then_n ?_)
   refine wp_seq ?_
   refine wp_seq (reg (is := [0, 1, 2]) (by kernel_rfl) ?_)
   refine cO [.v (.int .i64 0)] hI Tryz.func30 ?_
   refine (wideInt_spec (C := Now hB) (v := 0) (by decide)).mono ?_
   rintro ex w18 ⟨n0, d0, c0, x0, rfl, hk, h0⟩
   replace h1 := h1.next hB hR hk
   replace ha := ha.next hB hR hk
   replace hb := hb.next hB hR hk
   replace ht := ht.next hB hR hk
   obtain ⟨hB, hR⟩ := nx hB hR hk
   refine ⟨_, rfl, ?_⟩
   replace hI := hI.pt 22 (.v (.agg #[.bool n0, .slice d0 x0.length c0])) [22, 8, 5, 4, 0]
   refine pK tab [1, 2] [] 3 [] [] [(9, .p 3 0)] [8, 5, 4, 0] [⟨3, 29, [vB n0, vS d0 x0.length c0]⟩] [2, 1, 0] [] [] 4 hR hI .nil fun e19 a19 w19 hag hR hI => ?_
   refine ops_nil (then_n ?_)
   refine wp_block ?_
   refine lpM (γ := Nat × Bool × Option Addr × Nat × List Nat × Bool × Option Addr × Nat × List Nat) (fun (i, ni, id_, ic, js, nz, zd, zc, zs) => (⟨[(0, .v (.int .i64 k)), (4, .p 0 0), (5, .p 1 0), (8, .p 2 0), (9, .p 3 0)], [⟨0, 29, [vB na, vS ad xs.length cap]⟩, ⟨1, 29, [vB nb, vS bd ys.length dap]⟩, ⟨2, 29, [vB nz, vS zd zs.length zc]⟩, ⟨3, 29, [vB ni, vS id_ js.length ic]⟩], [], 4⟩ : Sy)) (fun (i, ni, id_, ic, js, nz, zd, zc, zs) e C F wb => (Wd C wb na ad cap xs a 18 ∧ Wd C wb nb bd dap ys b 18) ∧ (i ≤ 20 ∧ (i : Int) ≤ b) ∧ Wd C wb ni id_ ic js (i : Int) (2 + 3 * i) ∧ Wd C wb nz zd zc zs (a ^ i) (2 + 18 * i) ∧ Int.natAbs (a ^ i) < 2 ^ (64 * nwords k - 1)) (fun (i, ni, id_, ic, js, nz, zd, zc, zs) => 20 - i) (0, n0, d0, c0, x0, n1, d1, c1, x1) hB (⟨⟨ha, hb⟩, ⟨by omega, by omega⟩, h0, by rw [Int.pow_zero]; exact h1, one_abs hkc⟩)
     (hR.sel [0, 1, 2, 3] [] (by kernel_rfl) (by kernel_rfl)) (hI.sel [0, 4, 5, 8, 9] (by kernel_rfl)) ?_
   clear hR hI hB
   rintro ⟨i, ni, id_, ic, js, nz, zd, zc, zs⟩ e20 C20 F20 wb20 a20 w20 hB hp hR hI
   dsimp only at hp hR hI
   obtain ⟨⟨ha, hb⟩, ⟨hi20, hib⟩, hi, hz, hzl⟩ := hp
   refine wp_seq ?_
   refine wp_seq (reg (is := [0, 1, 2, 3]) (by kernel_rfl) ?_)
   refine pZ tab [0, 1] [2, 3] 4 [(24, .agg [vB nb, vS bd ys.length dap]), (23, .agg [vB ni, vS id_ js.length ic])] [0, 4, 5, 8, 9] hR hI fun e21 a21 w21 hag hR hI => ?_
   refine cO [.agg [vB ni, vS id_ js.length ic], .agg [vB nb, vS bd ys.length dap]] hI Tryz.func21 ?_
   refine (wideCmp_spec (hi.now hB hR) (hb.now hB hR)).mono ?_
   rintro ex w22 ⟨rfl, hk⟩
   replace hR := hR.same hk; clear hk
   refine ⟨_, rfl, ?_⟩
   replace hI := hI.pt 25 (.v (.int .i64 (cmpZ (i : Int) b))) [25, 24, 23, 0, 4, 5, 8, 9]
   refine pZ tab [3] [] 4 [(26, vB (decide ((cmpZ (i : Int) b) < (0 : Int))))] [0, 4, 5, 8, 9] hR hI fun e23 a23 w23 hag hR hI => ?_
   refine ops_nil (then_n ?_)
   refine cnd (b := decide ((cmpZ (i : Int) b) < (0 : Int))) hI (by kernel_rfl) (fun hc24 => ?_) (fun hc24 => ?_)
   ·
    replace hI := hI.rb 26 hc24
    try simp only [tolds] at hc24
    have hib2 : (i : Int) < b := cmpZ_lt0.1 hc24
    refine wp_skip ?_
    refine then_n ?_
    refine wp_seq ?_
    refine wp_block ?_
    refine wp_seq (reg (is := [0, 1, 2, 3]) (by kernel_rfl) ?_)
    refine pZ tab [0, 1] [2, 3] 4 [(31, .agg [vB na, vS ad xs.length cap]), (30, .agg [vB nz, vS zd zs.length zc])] [0, 4, 5, 8, 9] hR hI fun e25 a25 w25 hag hR hI => ?_
    refine cO [.agg [vB nz, vS zd zs.length zc], .agg [vB na, vS ad xs.length cap]] hI Tryz.func32 ?_
    refine (wideMul_spec (hz.now hB hR) (ha.now hB hR) (by omega)).mono ?_
    rintro ex w26 ⟨nq, qd, qc, qs, rfl, hk, hq⟩
    replace ha := ha.next hB hR hk
    replace hb := hb.next hB hR hk
    replace hi := hi.next hB hR hk
    replace hz := hz.next hB hR hk
    obtain ⟨hB, hR⟩ := nx hB hR hk
    refine ⟨_, rfl, ?_⟩
    replace hI := hI.pt 32 (.v (.agg #[.bool nq, .slice qd qs.length qc])) [32, 31, 30, 0, 4, 5, 8, 9]
    refine pK tab [3] [] 4 [] [] [] [0, 4, 5, 8, 9] [⟨2, 29, [vB nq, vS qd qs.length qc]⟩] [0, 1, 3] [] [] 4 hR hI .nil fun e27 a27 w27 hag hR hI => ?_
    refine ops_nil (then_n ?_)
    refine wp_seq (reg (is := [0, 1, 2, 3, 4, 5, 6, 7]) (by kernel_rfl) ?_)
    refine pZ tab [0, 1] [2, 3, 4, 5, 6, 7] 4 [(35, .agg [vB nq, vS qd qs.length qc]), (34, .v (.int .i64 k))] [0, 4, 5, 8, 9] hR hI fun e28 a28 w28 hag hR hI => ?_
    refine cO [.v (.int .i64 k), .agg [vB nq, vS qd qs.length qc]] hI Tryz.func11 ?_
    refine (wrappedF_spec (hq.now hB hR) k hkc (by omega)).mono ?_
    rintro ex w29 ⟨vs, vd, vc, rfl, hk, hv, hvw⟩
    replace ha := ha.next hB hR hk
    replace hb := hb.next hB hR hk
    replace hi := hi.next hB hR hk
    replace hq := hq.next hB hR hk
    replace hz := hz.next hB hR hk
    obtain ⟨hB, hR⟩ := nx hB hR hk
    refine ⟨_, rfl, ?_⟩
    replace hI := hI.pt 36 (.v (.tuple #[.slice vd vs.length vc, .bool (decide (-((2 ^ (64 * nwords k - 1) : Nat) : Int) ≤ a ^ i * a ∧ a ^ i * a < ((2 ^ (64 * nwords k - 1) : Nat) : Int)))])) [36, 35, 34, 0, 4, 5, 8, 9]
    refine pZ tab [3, 4, 5, 6, 7] [] 4 [(11, vB (decide (-((2 ^ (64 * nwords k - 1) : Nat) : Int) ≤ a ^ i * a ∧ a ^ i * a < ((2 ^ (64 * nwords k - 1) : Nat) : Int))))] [0, 4, 5, 8, 9] hR hI fun e30 a30 w30 hag hR hI => ?_
    refine ops_nil (then_n ?_)
    refine wp_seq (reg (is := [0, 1, 2, 3, 4, 5, 6]) (by kernel_rfl) ?_)
    refine pK tab [0, 1, 2, 3, 4] [5, 6] 4 [] [3, 4] [(43, .gd 2 false (!(decide (-((2 ^ (64 * nwords k - 1) : Nat) : Int) ≤ a ^ i * a ∧ a ^ i * a < ((2 ^ (64 * nwords k - 1) : Nat) : Int)))) (.agg [vB nq, vS qd qs.length qc])), (42, .gd 2 false (!(decide (-((2 ^ (64 * nwords k - 1) : Nat) : Int) ≤ a ^ i * a ∧ a ^ i * a < ((2 ^ (64 * nwords k - 1) : Nat) : Int)))) (.v (.int .i64 k))), (41, vB (!(decide (-((2 ^ (64 * nwords k - 1) : Nat) : Int) ≤ a ^ i * a ∧ a ^ i * a < ((2 ^ (64 * nwords k - 1) : Nat) : Int)))))] [0, 4, 5, 8, 9] [] [2, 0, 1, 3] [] [] 4 hR hI (.cons (rfl : (!(decide (-((2 ^ (64 * nwords k - 1) : Nat) : Int) ≤ a ^ i * a ∧ a ^ i * a < ((2 ^ (64 * nwords k - 1) : Nat) : Int)))) = (!(decide (-((2 ^ (64 * nwords k - 1) : Nat) : Int) ≤ a ^ i * a ∧ a ^ i * a < ((2 ^ (64 * nwords k - 1) : Nat) : Int))))) .nil) fun e31 a31 w31 hag hR hI => ?_
    rcases Bool.eq_false_or_eq_true (!(decide (-((2 ^ (64 * nwords k - 1) : Nat) : Int) ≤ a ^ i * a ∧ a ^ i * a < ((2 ^ (64 * nwords k - 1) : Nat) : Int)))) with hc32 | hc32
    ·
     replace hI := hI.rb 41 hc32
     try simp only [tolds] at hc32
     refine pZ tab [5, 6] [] 4 [(45, vB true)] [0, 4, 5, 8, 9] hR hI fun e33 a33 w33 hag hR hI => ?_
     refine ops_nil (then_n ?_)
     refine cnd_t hI (by kernel_rfl) ?_
     refine rK tab 4 [] [] [(7, vB false), (6, vS none 0 0)] [] [] [] [] [] 4 hR hI .nil fun e34 a34 w34 hag hR hI => ?_
     refine wp_ret ?_
     refine ret_block ?_
     refine ret_then ?_
     refine ret_then ?_
     refine ret_block ?_
     refine ret_then ?_
     refine oN tab [vS none 0 0, vB false] hR hI ?_
     exact ⟨[], none, 0, false, rfl, hB.fin hR, Sl.nil, fun h_ => by cases h_⟩
    ·
     replace hI := hI.re 43 (.agg [vB nq, vS qd qs.length qc]) rfl (by rw [den, hc32]; rfl)
     replace hI := hI.re 42 (.v (.int .i64 k)) rfl (by rw [den, hc32]; rfl)
     replace hI := hI.rb 41 hc32
     try simp only [tolds] at hc32
     refine cO [.v (.int .i64 k), .agg [vB nq, vS qd qs.length qc]] hI Tryz.func9 ?_
     have hfit := hc32
     refine (least_spec (hq.now hB hR) hkc).mono ?_
     rintro ex w35 ⟨f1, rfl, hk, hf1⟩
     replace hR := hR.same hk; clear hk
     refine ⟨_, rfl, ?_⟩
     replace hI := hI.pt 44 (vB f1) [44, 41, 42, 43, 0, 4, 5, 8, 9]
     refine pZ tab [6] [] 4 [(45, vB f1)] [0, 4, 5, 8, 9] hR hI fun e36 a36 w36 hag hR hI => ?_
     refine ops_nil (then_n ?_)
     refine cnd (b := f1) hI (by kernel_rfl) (fun hc37 => ?_) (fun hc37 => ?_)
     ·
      replace hI := hI.rb 45 hc37
      try simp only [tolds] at hc37
      refine rK tab 4 [] [] [(7, vB false), (6, vS none 0 0)] [] [] [] [] [] 4 hR hI .nil fun e38 a38 w38 hag hR hI => ?_
      refine wp_ret ?_
      refine ret_block ?_
      refine ret_then ?_
      refine ret_then ?_
      refine ret_block ?_
      refine ret_then ?_
      refine oN tab [vS none 0 0, vB false] hR hI ?_
      exact ⟨[], none, 0, false, rfl, hB.fin hR, Sl.nil, fun h_ => by cases h_⟩
     ·
      replace hI := hI.rb 45 hc37
      try simp only [tolds] at hc37
      have hnl := hf1 hc37
      refine wp_skip ?_
      refine normal_block ?_
      refine then_n ?_
      refine wp_seq ?_
      refine rK tab 4 [] [] [(46, .agg [vB ni, vS id_ js.length ic])] [0, 4, 5, 8] [] [2, 0, 1] [] [] 4 hR hI .nil fun e39 a39 w39 hag hR hI => ?_
      refine aK tab 4 [] [] [(9, .p 4 0)] [0, 4, 5, 8] [⟨4, 29, [vB ni, vS id_ js.length ic]⟩] [2, 0, 1] [] [] 5 hR hI .nil fun e40 a40 w40 hag hR hI => ?_
      refine then_n ?_
      refine regL 3 hR (by kernel_rfl) (fun hS => ?_)
      replace hR := hR.drew; have hF := hR.fore
      refine lK tab [] [] [0] 3 [(27, .agg [vB ni, vS id_ js.length ic])] [9, 0, 4, 5, 8] hS hI .nil fun a41 hI => ?_
      refine oneL (i := 1) (f' := 2) (by kernel_rfl) (by rfl) ?_
      refine cH [.v (.int .i64 1)] hI Tryz.func30 ?_
      refine (wideInt_spec (C := Now hB) (v := 1) (by decide)).mono ?_
      rintro ex w42 ⟨n1, d1, c1, x1, rfl, hk, h1⟩
      replace hF := hF.grow hR hk; replace hS := hS.same hk
      replace ha := ha.next hB hR hk
      replace hb := hb.next hB hR hk
      replace hi := hi.next hB hR hk
      replace hq := hq.next hB hR hk
      replace hv := hv.next hB hR hk
      replace hz := hz.next hB hR hk
      obtain ⟨hB, hR⟩ := nx hB hR hk
      refine ⟨_, rfl, hS, ?_⟩
      replace hI := hI.pt 28 (.v (.agg #[.bool n1, .slice d1 x1.length c1])) [28, 27, 9, 0, 4, 5, 8]
      refine oneL (i := 2) (f' := 1) (by kernel_rfl) (by rfl) ?_
      refine cH [.agg [vB ni, vS id_ js.length ic], .v (.agg #[.bool n1, .slice d1 x1.length c1])] hI Tryz.func31 ?_
      refine (wideAdd_spec (hi.now hB hR) (h1.now hB hR) (by omega)).mono ?_
      rintro ex w43 ⟨nj, jd, jc, ws, rfl, hk, hj⟩
      replace hF := hF.grow hR hk; replace hS := hS.same hk
      replace h1 := h1.next hB hR hk
      replace ha := ha.next hB hR hk
      replace hb := hb.next hB hR hk
      replace hi := hi.next hB hR hk
      replace hq := hq.next hB hR hk
      replace hv := hv.next hB hR hk
      replace hz := hz.next hB hR hk
      obtain ⟨hB, hR⟩ := nx hB hR hk
      refine ⟨_, rfl, hS, ?_⟩
      replace hI := hI.pt 29 (.v (.agg #[.bool nj, .slice jd ws.length jc])) [29, 28, 27, 9, 0, 4, 5, 8]
      refine endL (i := 3) (f' := 0) (by kernel_rfl) (by rfl) (by kernel_rfl) ?_
      refine eK tab 5 .no (.v (undef)) [⟨4, 29, [vB nj, vS jd ws.length jc]⟩] [2, 0, 1] [] [] 5 true hR hI .nil fun e44 a44 w44 hag hR2 hI => ?_
      replace hR := hR2; clear hR2
      replace hI := hI.sl [29, 28, 27, 9, 0, 4, 5, 8] rfl
      refine doneL (by kernel_rfl) ?_
      replace hI := hI.sl [9, 0, 4, 5, 8] rfl; replace hR := hR.sel [4, 2, 0, 1] [] rfl rfl
      refine then_n ?_
      obtain ⟨hR, hI⟩ := rnm [(3, 4)] ⟨[(9, .p 3 0), (0, .v (.int .i64 k)), (4, .p 0 0), (5, .p 1 0), (8, .p 2 0)], [⟨3, 29, [vB nj, vS jd ws.length jc]⟩, ⟨2, 29, [vB nq, vS qd qs.length qc]⟩, ⟨0, 29, [vB na, vS ad xs.length cap]⟩, ⟨1, 29, [vB nb, vS bd ys.length dap]⟩], [], 0⟩ hR hI; dsimp only at hI hR
      exact ⟨(i + 1, nj, jd, jc, ws, nq, qd, qc, qs), (Env.ren e44 [(3, 4)]), _, _, _, hB, ⟨⟨ha, hb⟩, ⟨by omega, by omega⟩, hj.to (by omega) (by omega), hq.to (Int.pow_succ _ _).symm (by omega), by rw [Int.pow_succ]; exact fits_abs hkc hfit hnl⟩, (by (try dsimp only); omega), hR.sel [0, 1, 2, 3] [] (by kernel_rfl) (by kernel_rfl), hI.sel [0, 4, 5, 8, 9] (by kernel_rfl)⟩
   ·
    replace hI := hI.rb 26 hc24
    try simp only [tolds] at hc24
    have hib2 : b = (i : Int) := by have h_ : ¬ (i : Int) < b := fun h2_ => hc24 (cmpZ_lt0.2 h2_); omega
    refine wp_exit ?_
    refine exit_then ?_
    refine exit_then ?_
    refine exit_hit ?_
    refine then_n ?_
    refine wp_seq (reg (is := [0, 1, 2, 3, 4, 5, 6]) (by kernel_rfl) ?_)
    refine pK tab [0, 1] [2, 3, 4, 5, 6] 4 [] [] [(48, .agg [vB nz, vS zd zs.length zc]), (47, .v (.int .i64 k))] [] [] [] [] [] 4 hR hI .nil fun e45 a45 w45 hag hR hI => ?_
    refine cO [.v (.int .i64 k), .agg [vB nz, vS zd zs.length zc]] hI Tryz.func11 ?_
    refine (wrappedF_spec (hz.now hB hR) k hkc (by omega)).mono ?_
    rintro ex w46 ⟨vs, vd, vc, rfl, hk, hv, hvw⟩
    replace ha := ha.next hB hR hk
    replace hb := hb.next hB hR hk
    replace hi := hi.next hB hR hk
    replace hz := hz.next hB hR hk
    obtain ⟨hB, hR⟩ := nx hB hR hk
    refine ⟨_, rfl, ?_⟩
    replace hI := hI.pt 49 (.v (.tuple #[.slice vd vs.length vc, .bool (decide (-((2 ^ (64 * nwords k - 1) : Nat) : Int) ≤ a ^ i ∧ a ^ i < ((2 ^ (64 * nwords k - 1) : Nat) : Int)))])) [49, 48, 47]
    refine pZ tab [3, 4, 5, 6] [] 4 [(7, vB (decide (-((2 ^ (64 * nwords k - 1) : Nat) : Int) ≤ a ^ i ∧ a ^ i < ((2 ^ (64 * nwords k - 1) : Nat) : Int)))), (6, vS vd vs.length vc)] [] hR hI fun e47 a47 w47 hag hR hI => ?_
    refine ops_nil (then_n ?_)
    refine wp_ret (oN tab [vS vd vs.length vc, vB (decide (-((2 ^ (64 * nwords k - 1) : Nat) : Int) ≤ a ^ i ∧ a ^ i < ((2 ^ (64 * nwords k - 1) : Nat) : Int)))] hR hI ?_)
    exact ⟨vs, vd, vc, _, rfl, hB.fin hR, hv.fin hB hR, fun _ => ⟨by omega, by omega, by rw [hib2, Int.natAbs_natCast, ← natAbs_pow_]; exact hzl, by rw [hib2, Int.natAbs_natCast]; exact hvw⟩⟩

theorem decPowWide_spec {C : Nat → Prop} {w : World} {ad bd : Option Addr} {cap dap : Nat} {ws vs : List Nat} (k : Int) (hkc : k = 128 ∨ k = 256) (hx : Sl .u64 18446744073709551616 C w ad cap ws) (hy : Sl .u64 18446744073709551616 C w bd dap vs) (hk1 : Sl .i64 18446744073709551616 C w (some ⟨1, 0, none⟩) 1 [12]) (hk2 : Sl .i64 18446744073709551616 C w (some ⟨2, 0, none⟩) 1 [80]) (hk3 : Sl .i64 18446744073709551616 C w (some ⟨3, 0, none⟩) 1 [40]) (hk1' : decOK k ws) (hk2' : decOK k vs) (h0 : 0 ≤ swv vs) (h20 : swv vs ≤ 20) (hpb : Int.natAbs (swv ws) ^ Int.natAbs (swv vs) < 2 ^ (64 * nwords k - 1)) :
  Calls P 12 #[.int .i64 k, .slice ad ws.length cap, .slice bd vs.length dap] w fun ex w' => ∃ us ud uc, ex = .returned (.tuple #[.slice ud (List.length us) uc, .bool true]) ∧ Keep (fun b => b < w.heap.size) w w' ∧ Sl .u64 18446744073709551616 (Grow C w w') w' ud uc us ∧ Tells k (swv ws ^ Int.natAbs (swv vs)) us := by
 rcases hkc with rfl | rfl
 ·
  obtain ⟨x, y, rfl⟩ := len_two (show ws.length = 2 from hk1'.2.1)
  obtain ⟨z, v, rfl⟩ := len_two (show vs.length = 2 from hk2'.2.1)
  have hx1 := hx.dig_ 1; have hy1 := hy.dig_ 1
  have e1 := swv_two (x := x) (y := y) hx1; have e2 := swv_two (x := z) (y := v) hy1
  rw [e1, e2] at hpb; rw [e2] at h0 h20; rw [e1, e2]
  exact decPowWide128_spec hx hy hk1 hk2 hk3 rfl rfl h0 h20 hpb
 ·
  obtain ⟨a, b, c, d, rfl⟩ := len_four (show ws.length = 4 from hk1'.2.1)
  obtain ⟨p, q, r, s, rfl⟩ := len_four (show vs.length = 4 from hk2'.2.1)
  exact decPowWide256_spec hx hy hk1 hk2 hk3 rfl rfl h0 h20 hpb

theorem law_spec_ {C : Nat → Prop} {w : World} {ad bd : Option Addr} {cap dap : Nat} {xs ys : List Nat} (k : Int) (hx : Sl .u64 18446744073709551616 C w ad cap xs) (hy : Sl .u64 18446744073709551616 C w bd dap ys) (hk1 : Sl .i64 18446744073709551616 C w (some ⟨1, 0, none⟩) 1 [12]) (hk2 : Sl .i64 18446744073709551616 C w (some ⟨2, 0, none⟩) 1 [80]) (hk3 : Sl .i64 18446744073709551616 C w (some ⟨3, 0, none⟩) 1 [40]) :
    Calls P 4 #[.int .i64 k, .slice ad xs.length cap, .slice bd ys.length dap] w fun ex w' => ex = .returned (.bool true) ∧ KS w w' := by
 refine dN (C := C) [.v (.int .i64 k), vS ad xs.length cap, vS bd ys.length dap] 84 3 Tryz.func4 fun a_ hI hR hB => ?_
 replace hI : Is 84 [] e0 [(0, .v (.int .i64 k)), (1, vS ad xs.length cap), (2, vS bd ys.length dap)] a_ := hI
 have hrx := hx.room; have hmx := hx.max; have hry := hy.room; have hmy := hy.max
 refine rZ tab 0 [] [0, 1, 2] hR hI fun e1 a1 w1 hag hR hI => ?_
 refine wp_seq ?_
 refine rK tab 0 [(7, .sym)] [4, 5, 6] [(22, vB ((decide ((xs.length : Int) > (2147483647 : Int))) || (decide ((ys.length : Int) > (2147483647 : Int)))))] [0, 1, 2] [] [] [] [] 0 hR hI (.cons (rfl : (decide ((xs.length : Int) > (2147483647 : Int))) = (decide ((xs.length : Int) > (2147483647 : Int)))) (.cons (rfl : (decide ((xs.length : Int) > (2147483647 : Int))) = (decide ((xs.length : Int) > (2147483647 : Int)))) (.cons (rfl : (decide ((xs.length : Int) > (2147483647 : Int))) = (decide ((xs.length : Int) > (2147483647 : Int)))) (.cons (by first | exact (by intro b_; cases b_ <;> rfl : ∀ b_ : Bool, (b_ == true) = b_) _ | exact (by intro b_; cases b_ <;> rfl : ∀ b_ : Bool, (b_ == false) = !b_) _ | exact Bool.beq_true _ | exact Bool.beq_false _ | rfl | simp_all : ((decide ((xs.length : Int) > (2147483647 : Int))) == false) = !(decide ((xs.length : Int) > (2147483647 : Int)))) .nil)))) fun e2 a2 w2 hag hR hI => ?_
 refine cnd (b := ((decide ((xs.length : Int) > (2147483647 : Int))) || (decide ((ys.length : Int) > (2147483647 : Int))))) hI (by kernel_rfl) (fun hc3 => ?_) (fun hc3 => ?_)
 ·
  replace hI := hI.rb 22 hc3
  try simp only [tolds] at hc3
  refine rZ tab 0 [(6, vB true)] [] hR hI fun e4 a4 w4 hag hR hI => ?_
  refine wp_ret ?_
  refine ret_then ?_
  refine oN tab [vB true] hR hI ?_
  exact ⟨rfl, hB.fin hR⟩
 ·
  replace hI := hI.rb 22 hc3
  try simp only [tolds] at hc3
  refine wp_skip ?_
  refine then_n ?_
  refine wp_seq (reg (is := [0, 1, 2, 3, 4, 5, 6, 7]) (by kernel_rfl) ?_)
  refine pK tab [0, 1] [2, 3, 4, 5, 6, 7] 0 [] [] [(25, .sl 1 0 2 2), (24, .sl 0 0 2 2)] [0, 1, 2] [⟨1, 25, [.v (.int .u64 3), .v (.int .u64 0)]⟩, ⟨0, 25, [.v (.int .u64 2), .v (.int .u64 0)]⟩] [] [] [] 2 hR hI .nil fun e5 a5 w5 hag hR hI => ?_
  obtain ⟨e6, hag_, hr_, hR_⟩ := hR.litRow (L := [(25, .sl 1 0 2 2), (24, .sl 0 0 2 2), (0, .v (.int .i64 k)), (1, vS ad xs.length cap), (2, vS bd ys.length dap)]) 2 [⟨1, 25, [.v (.int .u64 3), .v (.int .u64 0)]⟩] (by kernel_rfl) (b := ⟨0, 25, [.v (.int .u64 2), .v (.int .u64 0)]⟩) (by simp) (by simp) (n := 2) (sz := 1) (xs := ints .u64 [2, 0]) rfl rfl (by decide)
  replace hI := hI.agreeB (H := [⟨1, 25, [.v (.int .u64 3), .v (.int .u64 0)]⟩]) (G := []) (by kernel_rfl) hag_; replace hR := hR_; replace hI := hI.re 24 (.row 2) rfl hr_.symm; clear hag_ hr_ hR_
  obtain ⟨hB_, hR_, hrel_, u1d, u1c, hv_, hcells_, hlen_, hcap_, hmax_⟩ := hB.release hR (y := ⟨2, 25, 1, 2, (ints .u64 [2, 0])⟩) (by simp) rfl _ dropN_mem
  replace hk1 := hk1.rel hrel_
  replace hk2 := hk2.rel hrel_
  replace hk3 := hk3.rel hrel_
  replace hx := hx.rel hrel_
  replace hy := hy.rel hrel_
  have hu1 : Sl .u64 18446744073709551616 _ _ u1d u1c [2, 0] := ⟨hcells_, (dig2 (by decide) (by decide)), (by dsimp only at hlen_ hcap_; rw [ints_length] at hlen_; omega), hmax_⟩
  replace hI := hI.re 24 (vS u1d 2 u1c) rfl hv_
  replace hB := hB_; replace hR := hR_.sel [1] [] rfl rfl; clear hB_ hR_ hrel_ hcells_ hv_
  obtain ⟨e7, hag_, hr_, hR_⟩ := hR.litRow (L := [(24, vS u1d 2 u1c), (25, .sl 1 0 2 2), (0, .v (.int .i64 k)), (1, vS ad xs.length cap), (2, vS bd ys.length dap)]) 3 [] (by kernel_rfl) (b := ⟨1, 25, [.v (.int .u64 3), .v (.int .u64 0)]⟩) (by simp) (by simp) (n := 2) (sz := 1) (xs := ints .u64 [3, 0]) rfl rfl (by decide)
  replace hI := hI.agreeB (H := []) (G := []) (by kernel_rfl) hag_; replace hR := hR_; replace hI := hI.re 25 (.row 3) rfl hr_.symm; clear hag_ hr_ hR_
  obtain ⟨hB_, hR_, hrel_, u2d, u2c, hv_, hcells_, hlen_, hcap_, hmax_⟩ := hB.release hR (y := ⟨3, 25, 1, 2, (ints .u64 [3, 0])⟩) (by simp) rfl _ dropN_mem
  replace hk1 := hk1.rel hrel_
  replace hk2 := hk2.rel hrel_
  replace hk3 := hk3.rel hrel_
  replace hu1 := hu1.rel hrel_
  replace hx := hx.rel hrel_
  replace hy := hy.rel hrel_
  have hu2 : Sl .u64 18446744073709551616 _ _ u2d u2c [3, 0] := ⟨hcells_, (dig2 (by decide) (by decide)), (by dsimp only at hlen_ hcap_; rw [ints_length] at hlen_; omega), hmax_⟩
  replace hI := hI.re 25 (vS u2d 2 u2c) rfl hv_
  replace hB := hB_; replace hR := hR_.sel [] [] rfl rfl; clear hB_ hR_ hrel_ hcells_ hv_
  refine cO [.v (.int .i64 128), vS u1d 2 u1c, vS u2d 2 u2c] hI Tryz.func12 ?_
  refine (decPowWide128_spec (C := Now hB) (hu1.now hB hR) (hu2.now hB hR) (hk1.now hB hR) (hk2.now hB hR) (hk3.now hB hR) rfl rfl (by decide) (by decide) (by decide)).mono ?_
  rintro ex w8 ⟨g, gd, gc, rfl, hk, hg, hgm⟩
  replace hk1 := hk1.next hB hR hk
  replace hk2 := hk2.next hB hR hk
  replace hk3 := hk3.next hB hR hk
  replace hu1 := hu1.next hB hR hk
  replace hu2 := hu2.next hB hR hk
  replace hx := hx.next hB hR hk
  replace hy := hy.next hB hR hk
  obtain ⟨hB, hR⟩ := nx hB hR hk
  have hgu := tells_eight hg.dig hgm
  refine ⟨_, rfl, ?_⟩
  replace hI := hI.pt 26 (.v (.tuple #[.slice gd g.length gc, .bool true])) [26, 25, 24, 0, 1, 2]
  refine pZ tab [3, 4, 5, 6, 7] [] 4 [(8, vB true), (7, vS gd g.length gc)] [0, 1, 2] hR hI fun e9 a9 w9 hag hR hI => ?_
  refine ops_nil (then_n ?_)
  refine wp_seq (reg (is := [0, 1, 2, 3, 4, 5, 6]) (by kernel_rfl) ?_)
  refine pK tab [0, 1, 2, 3] [4, 5, 6] 4 [] [] [(32, .sl 4 0 2 2), (31, vS gd g.length gc), (30, vB true)] [0, 1, 2] [⟨4, 25, [.v (.int .u64 8), .v (.int .u64 0)]⟩] [] [] [] 5 hR hI .nil fun e10 a10 w10 hag hR hI => ?_
  obtain ⟨e11, hag_, hr_, hR_⟩ := hR.litRow (L := [(32, .sl 4 0 2 2), (31, vS gd g.length gc), (30, vB true), (0, .v (.int .i64 k)), (1, vS ad xs.length cap), (2, vS bd ys.length dap)]) 5 [] (by kernel_rfl) (b := ⟨4, 25, [.v (.int .u64 8), .v (.int .u64 0)]⟩) (by simp) (by simp) (n := 2) (sz := 1) (xs := ints .u64 [8, 0]) rfl rfl (by decide)
  replace hI := hI.agreeB (H := []) (G := []) (by kernel_rfl) hag_; replace hR := hR_; replace hI := hI.re 32 (.row 5) rfl hr_.symm; clear hag_ hr_ hR_
  obtain ⟨hB_, hR_, hrel_, u3d, u3c, hv_, hcells_, hlen_, hcap_, hmax_⟩ := hB.release hR (y := ⟨5, 25, 1, 2, (ints .u64 [8, 0])⟩) (by simp) rfl _ dropN_mem
  replace hg := hg.rel hrel_
  replace hk1 := hk1.rel hrel_
  replace hk2 := hk2.rel hrel_
  replace hk3 := hk3.rel hrel_
  replace hu1 := hu1.rel hrel_
  replace hu2 := hu2.rel hrel_
  replace hx := hx.rel hrel_
  replace hy := hy.rel hrel_
  have hu3 : Sl .u64 18446744073709551616 _ _ u3d u3c [8, 0] := ⟨hcells_, (dig2 (by decide) (by decide)), (by dsimp only at hlen_ hcap_; rw [ints_length] at hlen_; omega), hmax_⟩
  replace hI := hI.re 32 (vS u3d 2 u3c) rfl hv_
  replace hB := hB_; replace hR := hR_.sel [] [] rfl rfl; clear hB_ hR_ hrel_ hcells_ hv_
  refine cO [vS gd g.length gc, vS u3d 2 u3c] hI Tryz.func6 ?_
  refine (sameWords_spec (hg.now hB hR) (hu3.now hB hR)).mono ?_
  rintro ex w12 ⟨b, rfl, hk, hb⟩
  replace hR := hR.same hk; clear hk
  obtain rfl : b = true := hb.2 hgu
  refine ⟨_, rfl, ?_⟩
  replace hI := hI.pt 33 (vB true) [33, 32, 31, 30, 0, 1, 2]
  refine pZ tab [5, 6] [] 6 [(9, vB true)] [0, 1, 2] hR hI fun e13 a13 w13 hag hR hI => ?_
  refine ops_nil (then_n ?_)
  refine wp_seq (reg (is := [0, 1, 2, 3, 4, 5, 6, 7, 8]) (by kernel_rfl) ?_)
  refine pZ tab [0, 1] [2, 3, 4, 5, 6, 7, 8] 6 [(37, vS ad xs.length cap), (36, .v (.int .i64 k))] [9, 0, 1, 2] hR hI fun e14 a14 w14 hag hR hI => ?_
  refine cO [.v (.int .i64 k), vS ad xs.length cap] hI Tryz.func7 ?_
  refine (decimal_spec k (hx.now hB hR)).mono ?_
  rintro ex w15 ⟨o1, n1, d1, c1, x1, rfl, hk, z1, h1, hok1, hno1⟩
  replace hg := hg.next hB hR hk
  replace hk1 := hk1.next hB hR hk
  replace hk2 := hk2.next hB hR hk
  replace hk3 := hk3.next hB hR hk
  replace hu1 := hu1.next hB hR hk
  replace hu2 := hu2.next hB hR hk
  replace hu3 := hu3.next hB hR hk
  replace hx := hx.next hB hR hk
  replace hy := hy.next hB hR hk
  obtain ⟨hB, hR⟩ := nx hB hR hk
  refine ⟨_, rfl, ?_⟩
  replace hI := hI.pt 38 (.v (.tuple #[.agg #[.bool n1, .slice d1 x1.length c1], .bool o1])) [38, 37, 36, 9, 0, 1, 2]
  refine pK tab [3, 4, 5, 6, 7, 8] [] 6 [] [] [(11, vB o1), (10, .p 6 0)] [9, 0, 1, 2] [⟨6, 29, [vB n1, vS d1 x1.length c1]⟩] [] [] [] 7 hR hI .nil fun e16 a16 w16 hag hR hI => ?_
  refine ops_nil (then_n ?_)
  refine wp_seq (reg (is := [0, 1, 2, 3, 4, 5, 6, 7, 8]) (by kernel_rfl) ?_)
  refine pZ tab [0, 1] [2, 3, 4, 5, 6, 7, 8] 7 [(43, vS bd ys.length dap), (42, .v (.int .i64 k))] [11, 10, 9, 0, 1, 2] hR hI fun e17 a17 w17 hag hR hI => ?_
  refine cO [.v (.int .i64 k), vS bd ys.length dap] hI Tryz.func7 ?_
  refine (decimal_spec k (hy.now hB hR)).mono ?_
  rintro ex w18 ⟨o2, n2, d2, c2, x2, rfl, hk, z2, h2, hok2, hno2⟩
  replace h1 := h1.next hB hR hk
  replace hg := hg.next hB hR hk
  replace hk1 := hk1.next hB hR hk
  replace hk2 := hk2.next hB hR hk
  replace hk3 := hk3.next hB hR hk
  replace hu1 := hu1.next hB hR hk
  replace hu2 := hu2.next hB hR hk
  replace hu3 := hu3.next hB hR hk
  replace hx := hx.next hB hR hk
  replace hy := hy.next hB hR hk
  obtain ⟨hB, hR⟩ := nx hB hR hk
  refine ⟨_, rfl, ?_⟩
  replace hI := hI.pt 44 (.v (.tuple #[.agg #[.bool n2, .slice d2 x2.length c2], .bool o2])) [44, 43, 42, 11, 10, 9, 0, 1, 2]
  refine pK tab [3, 4, 5, 6, 7, 8] [] 7 [] [] [(13, vB o2), (12, .p 7 0)] [11, 10, 9, 0, 1, 2] [⟨7, 29, [vB n2, vS d2 x2.length c2]⟩] [6] [] [] 8 hR hI .nil fun e19 a19 w19 hag hR hI => ?_
  refine ops_nil (then_n ?_)
  refine wp_seq ?_
  refine rK tab 8 [(5, .sym), (9, .sym)] [3, 4, 7, 8] [(56, vB (((!o1) || (!o2)) || (decide (k < (128 : Int)))))] [12, 10, 9, 0, 1, 2] [] [7, 6] [] [] 8 hR hI (.cons (rfl : (!o1) = (!o1)) (.cons (by first | exact (by intro b_; cases b_ <;> rfl : ∀ b_ : Bool, (b_ == true) = b_) _ | exact (by intro b_; cases b_ <;> rfl : ∀ b_ : Bool, (b_ == false) = !b_) _ | exact Bool.beq_true _ | exact Bool.beq_false _ | rfl | simp_all : ((!o1) == false) = !(!o1)) (.cons (rfl : ((!o1) || (!o2)) = ((!o1) || (!o2))) (.cons (by first | exact (by intro b_; cases b_ <;> rfl : ∀ b_ : Bool, (b_ == true) = b_) _ | exact (by intro b_; cases b_ <;> rfl : ∀ b_ : Bool, (b_ == false) = !b_) _ | exact Bool.beq_true _ | exact Bool.beq_false _ | rfl | simp_all : (((!o1) || (!o2)) == false) = !((!o1) || (!o2))) .nil)))) fun e20 a20 w20 hag hR hI => ?_
  refine cnd (b := (((!o1) || (!o2)) || (decide (k < (128 : Int))))) hI (by kernel_rfl) (fun hc21 => ?_) (fun hc21 => ?_)
  ·
   replace hI := hI.rb 56 hc21
   try simp only [tolds] at hc21
   refine rK tab 8 [] [] [(6, vB true)] [] [] [] [] [] 8 hR hI .nil fun e22 a22 w22 hag hR hI => ?_
   refine wp_ret ?_
   refine ret_then ?_
   refine oN tab [vB true] hR hI ?_
   exact ⟨rfl, hB.fin hR⟩
  ·
   replace hI := hI.rb 56 hc21
   try simp only [tolds] at hc21
   obtain ⟨⟨ho1, ho2⟩, hk128⟩ := hc21
   obtain ⟨hk1_, hz1⟩ := hok1 ho1; obtain ⟨hk2_, hz2⟩ := hok2 ho2
   have hkc : k = 128 ∨ k = 256 := (dec_wide hk1_ (by omega)).imp And.left And.left
   refine wp_skip ?_
   refine then_n ?_
   refine wp_seq (reg (is := [0, 1, 2, 3, 4, 5, 6, 7, 8]) (by kernel_rfl) ?_)
   refine pK tab [0, 1, 2] [3, 4, 5, 6, 7, 8] 8 [] [] [(61, .agg [vB n2, vS d2 x2.length c2]), (60, .agg [vB n1, vS d1 x1.length c1]), (59, .v (.int .i64 k))] [9, 0, 1, 2] [] [] [] [] 8 hR hI .nil fun e23 a23 w23 hag hR hI => ?_
   refine cO [.v (.int .i64 k), .agg [vB n1, vS d1 x1.length c1], .agg [vB n2, vS d2 x2.length c2]] hI Tryz.func13 ?_
   refine (power_spec k hkc (h1.now hB hR) (h2.now hB hR)).mono ?_
   rintro ex w24 ⟨ts, td, tc, f, rfl, hk, ht, htp⟩
   replace h1 := h1.next hB hR hk
   replace h2 := h2.next hB hR hk
   replace hg := hg.next hB hR hk
   replace hk1 := hk1.next hB hR hk
   replace hk2 := hk2.next hB hR hk
   replace hk3 := hk3.next hB hR hk
   replace hu1 := hu1.next hB hR hk
   replace hu2 := hu2.next hB hR hk
   replace hu3 := hu3.next hB hR hk
   replace hx := hx.next hB hR hk
   replace hy := hy.next hB hR hk
   obtain ⟨hB, hR⟩ := nx hB hR hk
   refine ⟨_, rfl, ?_⟩
   replace hI := hI.pt 62 (.v (.tuple #[.slice td ts.length tc, .bool f])) [62, 61, 60, 59, 9, 0, 1, 2]
   refine pZ tab [4, 5, 6, 7, 8] [] 8 [(11, vB f), (14, vS td ts.length tc)] [9, 0, 1, 2] hR hI fun e25 a25 w25 hag hR hI => ?_
   refine ops_nil (then_n ?_)
   refine wp_seq ?_
   refine rZ tab 8 [(66, vB (!f))] [14, 9, 0, 1, 2] hR hI fun e26 a26 w26 hag hR hI => ?_
   refine cnd (b := (!f)) hI (by kernel_rfl) (fun hc27 => ?_) (fun hc27 => ?_)
   ·
    replace hI := hI.rb 66 hc27
    try simp only [tolds] at hc27
    refine rZ tab 8 [(6, vB true)] [] hR hI fun e28 a28 w28 hag hR hI => ?_
    refine wp_ret ?_
    refine ret_then ?_
    refine oN tab [vB true] hR hI ?_
    exact ⟨rfl, hB.fin hR⟩
   ·
    replace hI := hI.rb 66 hc27
    try simp only [tolds] at hc27
    obtain ⟨hp0, hp20, hpb, hpw⟩ := htp hc27
    rw [hz1, hz2] at hpb hpw; rw [hz2] at hp0 hp20
    refine wp_skip ?_
    refine then_n ?_
    refine wp_seq (reg (is := [0, 1, 2, 3, 4, 5, 6, 7, 8]) (by kernel_rfl) ?_)
    refine pZ tab [0, 1, 2] [3, 4, 5, 6, 7, 8] 8 [(71, vS bd ys.length dap), (70, vS ad xs.length cap), (69, .v (.int .i64 k))] [14, 9] hR hI fun e29 a29 w29 hag hR hI => ?_
    refine cO [.v (.int .i64 k), vS ad xs.length cap, vS bd ys.length dap] hI Tryz.func12 ?_
    refine (decPowWide_spec k hkc (hx.now hB hR) (hy.now hB hR) (hk1.now hB hR) (hk2.now hB hR) (hk3.now hB hR) hk1_ hk2_ hp0 hp20 hpb).mono ?_
    rintro ex w30 ⟨us, ud, uc, rfl, hk, hu, hm⟩
    replace h1 := h1.next hB hR hk
    replace h2 := h2.next hB hR hk
    replace hg := hg.next hB hR hk
    replace hk1 := hk1.next hB hR hk
    replace hk2 := hk2.next hB hR hk
    replace hk3 := hk3.next hB hR hk
    replace ht := ht.next hB hR hk
    replace hu1 := hu1.next hB hR hk
    replace hu2 := hu2.next hB hR hk
    replace hu3 := hu3.next hB hR hk
    replace hx := hx.next hB hR hk
    replace hy := hy.next hB hR hk
    obtain ⟨hB, hR⟩ := nx hB hR hk
    refine ⟨_, rfl, ?_⟩
    replace hI := hI.pt 72 (.v (.tuple #[.slice ud us.length uc, .bool true])) [72, 71, 70, 69, 14, 9]
    refine pZ tab [4, 5, 6, 7, 8] [] 8 [(8, vB true), (7, vS ud us.length uc)] [14, 9] hR hI fun e31 a31 w31 hag hR hI => ?_
    refine ops_nil (then_n ?_)
    refine wp_seq (reg (is := [0, 1, 2, 3, 4, 5, 6, 7, 8, 9]) (by kernel_rfl) ?_)
    refine pZ tab [0, 1, 2, 3] [4, 5, 6, 7, 8, 9] 8 [(78, vS td ts.length tc), (77, vS ud us.length uc), (76, vB true)] [9] hR hI fun e32 a32 w32 hag hR hI => ?_
    refine cO [vS ud us.length uc, vS td ts.length tc] hI Tryz.func6 ?_
    refine (sameWords_spec (hu.now hB hR) (ht.now hB hR)).mono ?_
    rintro ex w33 ⟨b, rfl, hk, hb⟩
    replace hR := hR.same hk; clear hk
    obtain rfl : b = true := hb.2 (tells_eq (by omega) hu.dig ht.dig hm hpw)
    refine ⟨_, rfl, ?_⟩
    replace hI := hI.pt 79 (vB true) [79, 78, 77, 76, 9]
    refine pZ tab [5, 6, 7, 8, 9] [] 8 [(6, vB true)] [] hR hI fun e34 a34 w34 hag hR hI => ?_
    refine ops_nil (then_n ?_)
    refine wp_ret (oN tab [vB true] hR hI ?_)
    exact ⟨rfl, hB.fin hR⟩

end Go.Proofs.YtmendapdibnbdaaGreatDoor.Stride
