/- Walks of the program's functions, printed by a program of mine (walk.py) over the words of Stride: each function's contract. -/
import Derived.Test.YtmendapdibnbdaaGreatDoorDeJ
import Derived.LaidEqlPtr
namespace Go.Proofs.YtmendapdibnbdaaGreatDoor.Stride
open Go Go.RowKit Go.Proofs.YtmendapdibnbdaaGreatDoor.Mag
set_option linter.unusedVariables false
set_option linter.unusedSimpArgs false
set_option maxHeartbeats 4000000
set_option maxRecDepth 100000
theorem nbitLen_spec {C : Nat → Prop} {w : World} {ad : Option Addr} {xc : Nat} {xs : List Nat} (hx : Sl .u64 18446744073709551616 C w ad xc xs) (htx : Ntrim xs) (hl4 : xs.length ≤ 4) :
    Calls P 71 #[.slice ad xs.length xc] w fun ex w' => ∃ k : Nat, ex = .returned (.int .i64 (k : Int)) ∧ KS w w' ∧ (k = 0 ↔ xs = []) ∧ (∀ m, nval xs < 2 ^ m → k ≤ m) := by
 refine dN (C := C) [vS ad xs.length xc] 44 1 Tryz.func71 fun a_ hI hR hB => ?_
 replace hI : Is 44 [] e0 [(0, vS ad xs.length xc)] a_ := hI
 have hrx := hx.room; have hmx := hx.max
 refine rZ tab 0 [] [0] hR hI fun e1 a1 w1 hag hR hI => ?_
 refine wp_seq ?_
 refine rK tab 0 [(2, .eq (.int .i64 ((xs.length : Int) - 1)))] [] [(3, .v (.int .i64 ((xs.length : Int) - 1)))] [0] [] [] [] [] 0 hR hI (.cons (congrArg (Value.int .i64) (by rw [wrap_inR (inR_i64 (by omega))] : IntKind.i64.wrap ((xs.length : Int) - (1 : Int)) = ((xs.length : Int) - 1))) .nil) fun e2 a2 w2 hag hR hI => ?_
 refine rZ tab 0 [(9, vB (decide (((xs.length : Int) - 1) ≥ (0 : Int))))] [3, 0] hR hI fun e3 a3 w3 hag hR hI => ?_
 refine cnd (b := decide (((xs.length : Int) - 1) ≥ (0 : Int))) hI (by kernel_rfl) (fun hc4 => ?_) (fun hc4 => ?_)
 ·
  replace hI := hI.rb 9 hc4
  try simp only [tolds] at hc4
  replace hI := hI.re 3 (vI (xs.length - 1)) rfl (congrArg (Value.int .i64) (by omega))
  refine rK tab 0 [(3, .val (vU (xs.getD (xs.length - 1) 0)))] [] [(4, vU (xs.getD (xs.length - 1) 0))] [3] [] [] [] [] 0 hR hI (.cons (by omega : (0 : Int) ≤ ((xs.length - 1 : Nat) : Int) ∧ ((xs.length - 1 : Nat) : Int) < (xs.length : Int)) (.cons (nats_some (i := xs.length - 1) (hx.cells.mono hB.cls) (by omega)) (.cons (nats_load (i := xs.length - 1) (m := 1) (hx.cells.mono hB.cls) (by omega)) .nil))) fun e5 a5 w5 hag hR hI => ?_
  have htp := ntrim_top htx (by omega)
  have hb1 := ndig_get hx.dig (xs.length - 1)
  have hpw : 2 ^ lent (xs.getD (xs.length - 1) 0) ≤ 18446744073709551616 := by
   have h_ : lent (xs.getD (xs.length - 1) 0) ≤ 64 := lent_lt (n := 64) hb1
   exact (Nat.pow_le_pow_right (by decide : 0 < 2) h_ : 2 ^ lent (xs.getD (xs.length - 1) 0) ≤ 2 ^ 64)
  have hlt0 := (lent_pos htp).2.1
  refine rK tab 0 [(3, .eq (.int .u64 (((xs.getD (xs.length - 1) 0) ||| (xs.getD (xs.length - 1) 0) / 2 : Nat) : Int)))] [] [(4, vU ((xs.getD (xs.length - 1) 0) ||| (xs.getD (xs.length - 1) 0) / 2))] [3] [] [] [] [] 0 hR hI (.cons (by decide : (0 : Int) ≤ 1) (.cons (by decide : (1 : Int) ≤ (IntKind.u64.bits : Int)) (.cons (congrArg (Value.int .u64) (u64_or _ _ (by omega) (by omega) : bits .or .u64 ((xs.getD (xs.length - 1) 0 : Nat) : Int) (((xs.getD (xs.length - 1) 0) / 2 : Nat) : Int) = (((xs.getD (xs.length - 1) 0) ||| (xs.getD (xs.length - 1) 0) / 2 : Nat) : Int))) .nil))) fun e6 a6 w6 hag hR hI => ?_
  obtain ⟨y0, hy0⟩ : ∃ z, z = ((xs.getD (xs.length - 1) 0) ||| (xs.getD (xs.length - 1) 0) / 2) := ⟨_, rfl⟩
  have hs0 := smear (x := (xs.getD (xs.length - 1) 0)) (y := (xs.getD (xs.length - 1) 0)) (d := (xs.getD (xs.length - 1) 0) / 2) (k := lent (xs.getD (xs.length - 1) 0)) (by omega) (by omega) (by omega)
  rw [← hy0] at hs0
  replace hI := hI.re 4 (vU y0) rfl (congrArg (Value.int .u64) (by rw [hy0]))
  have hsb0 : y0 < 18446744073709551616 := Nat.lt_of_lt_of_le hs0.2 hpw
  refine rK tab 0 [(3, .eq (.int .u64 ((y0 ||| y0 / 4 : Nat) : Int)))] [] [(4, vU (y0 ||| y0 / 4))] [3] [] [] [] [] 0 hR hI (.cons (by decide : (0 : Int) ≤ 2) (.cons (by decide : (2 : Int) ≤ (IntKind.u64.bits : Int)) (.cons (congrArg (Value.int .u64) (u64_or _ _ (by omega) (by omega) : bits .or .u64 (y0 : Int) ((y0 / 4 : Nat) : Int) = ((y0 ||| y0 / 4 : Nat) : Int))) .nil))) fun e7 a7 w7 hag hR hI => ?_
  obtain ⟨y1, hy1⟩ : ∃ z, z = (y0 ||| y0 / 4) := ⟨_, rfl⟩
  have hs1 := smear (x := (xs.getD (xs.length - 1) 0)) (y := y0) (d := y0 / 4) (k := lent (xs.getD (xs.length - 1) 0)) (by omega) (by omega) (by omega)
  rw [← hy1] at hs1
  replace hI := hI.re 4 (vU y1) rfl (congrArg (Value.int .u64) (by rw [hy1]))
  have hsb1 : y1 < 18446744073709551616 := Nat.lt_of_lt_of_le hs1.2 hpw
  refine rK tab 0 [(3, .eq (.int .u64 ((y1 ||| y1 / 16 : Nat) : Int)))] [] [(4, vU (y1 ||| y1 / 16))] [3] [] [] [] [] 0 hR hI (.cons (by decide : (0 : Int) ≤ 4) (.cons (by decide : (4 : Int) ≤ (IntKind.u64.bits : Int)) (.cons (congrArg (Value.int .u64) (u64_or _ _ (by omega) (by omega) : bits .or .u64 (y1 : Int) ((y1 / 16 : Nat) : Int) = ((y1 ||| y1 / 16 : Nat) : Int))) .nil))) fun e8 a8 w8 hag hR hI => ?_
  obtain ⟨y2, hy2⟩ : ∃ z, z = (y1 ||| y1 / 16) := ⟨_, rfl⟩
  have hs2 := smear (x := (xs.getD (xs.length - 1) 0)) (y := y1) (d := y1 / 16) (k := lent (xs.getD (xs.length - 1) 0)) (by omega) (by omega) (by omega)
  rw [← hy2] at hs2
  replace hI := hI.re 4 (vU y2) rfl (congrArg (Value.int .u64) (by rw [hy2]))
  have hsb2 : y2 < 18446744073709551616 := Nat.lt_of_lt_of_le hs2.2 hpw
  refine rK tab 0 [(3, .eq (.int .u64 ((y2 ||| y2 / 256 : Nat) : Int)))] [] [(4, vU (y2 ||| y2 / 256))] [3] [] [] [] [] 0 hR hI (.cons (by decide : (0 : Int) ≤ 8) (.cons (by decide : (8 : Int) ≤ (IntKind.u64.bits : Int)) (.cons (congrArg (Value.int .u64) (u64_or _ _ (by omega) (by omega) : bits .or .u64 (y2 : Int) ((y2 / 256 : Nat) : Int) = ((y2 ||| y2 / 256 : Nat) : Int))) .nil))) fun e9 a9 w9 hag hR hI => ?_
  obtain ⟨y3, hy3⟩ : ∃ z, z = (y2 ||| y2 / 256) := ⟨_, rfl⟩
  have hs3 := smear (x := (xs.getD (xs.length - 1) 0)) (y := y2) (d := y2 / 256) (k := lent (xs.getD (xs.length - 1) 0)) (by omega) (by omega) (by omega)
  rw [← hy3] at hs3
  replace hI := hI.re 4 (vU y3) rfl (congrArg (Value.int .u64) (by rw [hy3]))
  have hsb3 : y3 < 18446744073709551616 := Nat.lt_of_lt_of_le hs3.2 hpw
  refine rK tab 0 [(3, .eq (.int .u64 ((y3 ||| y3 / 65536 : Nat) : Int)))] [] [(4, vU (y3 ||| y3 / 65536))] [3] [] [] [] [] 0 hR hI (.cons (by decide : (0 : Int) ≤ 16) (.cons (by decide : (16 : Int) ≤ (IntKind.u64.bits : Int)) (.cons (congrArg (Value.int .u64) (u64_or _ _ (by omega) (by omega) : bits .or .u64 (y3 : Int) ((y3 / 65536 : Nat) : Int) = ((y3 ||| y3 / 65536 : Nat) : Int))) .nil))) fun e10 a10 w10 hag hR hI => ?_
  obtain ⟨y4, hy4⟩ : ∃ z, z = (y3 ||| y3 / 65536) := ⟨_, rfl⟩
  have hs4 := smear (x := (xs.getD (xs.length - 1) 0)) (y := y3) (d := y3 / 65536) (k := lent (xs.getD (xs.length - 1) 0)) (by omega) (by omega) (by omega)
  rw [← hy4] at hs4
  replace hI := hI.re 4 (vU y4) rfl (congrArg (Value.int .u64) (by rw [hy4]))
  have hsb4 : y4 < 18446744073709551616 := Nat.lt_of_lt_of_le hs4.2 hpw
  refine rK tab 0 [(4, .eq (.int .u64 ((y4 ||| y4 / 65536 / 65536 : Nat) : Int)))] [] [(4, vU (y4 ||| y4 / 65536 / 65536))] [3] [] [] [] [] 0 hR hI (.cons (by decide : (0 : Int) ≤ 16) (.cons (by decide : (16 : Int) ≤ (IntKind.u64.bits : Int)) (.cons (by decide : (0 : Int) ≤ 16) (.cons (by decide : (16 : Int) ≤ (IntKind.u64.bits : Int)) (.cons (congrArg (Value.int .u64) (u64_or _ _ (by omega) (by omega) : bits .or .u64 (y4 : Int) (((y4 / 65536) / 65536 : Nat) : Int) = ((y4 ||| y4 / 65536 / 65536 : Nat) : Int))) .nil))))) fun e11 a11 w11 hag hR hI => ?_
  obtain ⟨y5, hy5⟩ : ∃ z, z = (y4 ||| y4 / 65536 / 65536) := ⟨_, rfl⟩
  have hs5 := smear (x := (xs.getD (xs.length - 1) 0)) (y := y4) (d := y4 / 65536 / 65536) (k := lent (xs.getD (xs.length - 1) 0)) (by omega) (by omega) (by omega)
  rw [← hy5] at hs5
  replace hI := hI.re 4 (vU y5) rfl (congrArg (Value.int .u64) (by rw [hy5]))
  have hsb5 : y5 < 18446744073709551616 := Nat.lt_of_lt_of_le hs5.2 hpw
  refine wp_seq (reg (is := [0, 1, 2, 3, 4, 5]) (by kernel_rfl) ?_)
  refine pK tab [0, 1, 2] [3, 4, 5] 0 [(1, .eq (.int .i64 ((64 * (xs.length - 1) : Nat) : Int)))] [] [(41, vU y5), (40, vI (64 * (xs.length - 1)))] [] [] [] [] [] 0 hR hI (.cons (wI (((xs.length - 1 : Nat) : Int) * (64 : Int)) ((64 * (xs.length - 1) : Nat) : Int) (by omega) (by omega)) .nil) fun e12 a12 w12 hag hR hI => ?_
  refine cO [vU y5] hI Tryz.func89 ?_
  refine (len_spec (C := C) (x := y5) hsb5).mono ?_
  rintro ex w13 ⟨rfl, hk⟩
  replace hR := hR.same hk; clear hk
  have hlp := (lent_pos (x := y5) (by omega)).2.2
  have hl64 : lent y5 ≤ 64 := lent_lt (n := 64) hsb5
  refine ⟨_, rfl, ?_⟩
  replace hI := hI.pt 42 (vI (lent y5)) [42, 41, 40]
  refine pK tab [4, 5] [] 0 [(4, .eq (.int .i64 ((64 * (xs.length - 1) + lent y5 : Nat) : Int)))] [] [(2, vI (64 * (xs.length - 1) + lent y5))] [] [] [] [] [] 0 hR hI (.cons (wI (((64 * (xs.length - 1) : Nat) : Int) + ((lent y5 : Nat) : Int)) ((64 * (xs.length - 1) + lent y5 : Nat) : Int) (by omega) (by omega)) .nil) fun e14 a14 w14 hag hR hI => ?_
  refine ops_nil (then_n ?_)
  refine wp_ret ?_
  refine ret_then ?_
  refine oN tab [vI (64 * (xs.length - 1) + lent y5)] hR hI ?_
  exact ⟨_, rfl, hB.fin hR, ⟨fun h_ => by omega, fun h_ => by rw [h_] at htp; simp at htp⟩, fun m h_ => bitlen_of (by omega) hs5.2 htp h_⟩
 ·
  replace hI := hI.rb 9 hc4
  try simp only [tolds] at hc4
  refine wp_skip ?_
  refine then_n ?_
  refine rZ tab 0 [(2, .v (.int .i64 0))] [] hR hI fun e15 a15 w15 hag hR hI => ?_
  refine wp_ret (oN tab [.v (.int .i64 0)] hR hI ?_)
  have hnil : xs = [] := List.eq_nil_of_length_eq_zero (by omega)
  exact ⟨0, rfl, hB.fin hR, ⟨fun _ => hnil, fun _ => rfl⟩, fun _ _ => Nat.zero_le _⟩

theorem isign_spec {C : Nat → Prop} {w : World} {b l xc : Nat} {ng : Bool} {ad : Option Addr} (hb : w.heap[b]? = some (.cells #[.bool ng, .slice ad l xc] 84)) (hCb : ¬ C b) :
    Calls P 57 #[.pointer (some ⟨b, 0, none⟩)] w fun ex w' => ex = .returned (.int .i64 (if l = 0 then 0 else if ng = true then -1 else 1)) ∧ Keep (ButN [b] w) w w' ∧ w'.heap[b]? = some (.cells #[.bool ng, .slice ad l xc] 84) := by
 refine doorN (e := (e0.addB 0 b)) (vs := [.p 0 0]) (n := 13) (m := 1) Tryz.func57 rfl rfl rfl (by decide) fun a_ hI => ?_
 replace hI : Is 13 [] (e0.addB 0 b) [(0, .p 0 0)] a_ := hI
 have hbk0 : (e0.addB 0 b).b 0 = b := rfl
 have hR : Rel (ButN [b] w) w (e0.addB 0 b) [⟨0, 84, [vB ng, vS ad l xc]⟩] [] w := Rel.startN (fun k_ h_ => h_.1) (all_cons ⟨hb, (fun hm_ => hm_.2 m0)⟩ all_no) all_no (all_cons (all_cons (fun hn_ => absurd rfl hn_) all_no) all_no) (all_cons all_no all_no) all_no
 have hB : BaseD (ButN [b] w) C w C (ButN [b] w) w := BaseD.start (fun k_ hC_ hlt_ => ⟨hlt_, notin2 (fun he_ => hCb (he_ ▸ hC_)) (fun hm_ => by cases hm_)⟩)
 refine rZ tab 1 [] [0] hR hI fun e1 a1 w1 hag hR hI => ?_
 have hA := hag
 refine wp_seq ?_
 refine rZ tab 1 [(8, vB ((l : Int) == (0 : Int)))] [0] hR hI fun e2 a2 w2 hag hR hI => ?_
 replace hA := hA.trans hag (by decide)
 refine cnd (b := ((l : Int) == (0 : Int))) hI (by kernel_rfl) (fun hc3 => ?_) (fun hc3 => ?_)
 ·
  replace hI := hI.rb 8 hc3
  try simp only [tolds] at hc3
  refine rZ tab 1 [(2, .v (.int .i64 0))] [] hR hI fun e4 a4 w4 hag hR hI => ?_
  replace hA := hA.trans hag (by decide)
  refine wp_ret ?_
  refine ret_then ?_
  refine oN tab [.v (.int .i64 0)] hR hI ?_
  replace hbk0 := tb hA hbk0
  exact ⟨by rw [if_pos (show l = 0 by omega)]; rfl, hB.fin hR, (by have h_ := (hR.blk ⟨0, 84, [vB ng, vS ad l xc]⟩ m0).1; rw [hbk0] at h_; exact h_)⟩
 ·
  replace hI := hI.rb 8 hc3
  try simp only [tolds] at hc3
  refine wp_skip ?_
  refine then_n ?_
  refine wp_seq ?_
  refine rZ tab 1 [(12, vB ng)] [] hR hI fun e5 a5 w5 hag hR hI => ?_
  replace hA := hA.trans hag (by decide)
  refine cnd (b := ng) hI (by kernel_rfl) (fun hc6 => ?_) (fun hc6 => ?_)
  ·
   replace hI := hI.rb 12 hc6
   try simp only [tolds] at hc6
   have hng := hc6
   refine rZ tab 1 [(2, .v (.int .i64 (-1)))] [] hR hI fun e7 a7 w7 hag hR hI => ?_
   replace hA := hA.trans hag (by decide)
   refine wp_ret ?_
   refine ret_then ?_
   refine oN tab [.v (.int .i64 (-1))] hR hI ?_
   replace hbk0 := tb hA hbk0
   exact ⟨by rw [if_neg (show ¬ l = 0 by omega), if_pos hng]; rfl, hB.fin hR, (by have h_ := (hR.blk ⟨0, 84, [vB ng, vS ad l xc]⟩ m0).1; rw [hbk0] at h_; exact h_)⟩
  ·
   replace hI := hI.rb 12 hc6
   try simp only [tolds] at hc6
   have hng := hc6
   refine wp_skip ?_
   refine then_n ?_
   refine rZ tab 1 [(2, .v (.int .i64 1))] [] hR hI fun e8 a8 w8 hag hR hI => ?_
   replace hA := hA.trans hag (by decide)
   refine wp_ret (oN tab [.v (.int .i64 1)] hR hI ?_)
   replace hbk0 := tb hA hbk0
   exact ⟨by rw [if_neg (show ¬ l = 0 by omega), if_neg (by rw [hng]; decide)]; rfl, hB.fin hR, (by have h_ := (hR.blk ⟨0, 84, [vB ng, vS ad l xc]⟩ m0).1; rw [hbk0] at h_; exact h_)⟩

theorem ibits_spec {C : Nat → Prop} {w : World} {b l xc : Nat} {ng : Bool} {ad : Option Addr} (hb : w.heap[b]? = some (.cells #[.bool ng, .slice ad l xc] 84)) (hCb : ¬ C b) :
    Calls P 56 #[.pointer (some ⟨b, 0, none⟩)] w fun ex w' => ex = .returned (.slice ad l xc) ∧ Keep (ButN [b] w) w w' ∧ w'.heap[b]? = some (.cells #[.bool ng, .slice ad l xc] 84) := by
 refine doorN (e := (e0.addB 0 b)) (vs := [.p 0 0]) (n := 7) (m := 1) Tryz.func56 rfl rfl rfl (by decide) fun a_ hI => ?_
 replace hI : Is 7 [] (e0.addB 0 b) [(0, .p 0 0)] a_ := hI
 have hbk0 : (e0.addB 0 b).b 0 = b := rfl
 have hR : Rel (ButN [b] w) w (e0.addB 0 b) [⟨0, 84, [vB ng, vS ad l xc]⟩] [] w := Rel.startN (fun k_ h_ => h_.1) (all_cons ⟨hb, (fun hm_ => hm_.2 m0)⟩ all_no) all_no (all_cons (all_cons (fun hn_ => absurd rfl hn_) all_no) all_no) (all_cons all_no all_no) all_no
 have hB : BaseD (ButN [b] w) C w C (ButN [b] w) w := BaseD.start (fun k_ hC_ hlt_ => ⟨hlt_, notin2 (fun he_ => hCb (he_ ▸ hC_)) (fun hm_ => by cases hm_)⟩)
 refine rZ tab 1 [] [0] hR hI fun e1 a1 w1 hag hR hI => ?_
 have hA := hag
 refine rZ tab 1 [(2, vS ad l xc)] [] hR hI fun e2 a2 w2 hag hR hI => ?_
 replace hA := hA.trans hag (by decide)
 refine wp_ret (oN tab [vS ad l xc] hR hI ?_)
 replace hbk0 := tb hA hbk0
 exact ⟨rfl, hB.fin hR, (by have h_ := (hR.blk ⟨0, 84, [vB ng, vS ad l xc]⟩ m0).1; rw [hbk0] at h_; exact h_)⟩

theorem nbitLenL_spec {C : Nat → Prop} {w : World} {ad : Option Addr} {xc l : Nat} {xs : List Nat} (hxl : xs.length = l) (hx : Sl .u64 18446744073709551616 C w ad xc xs) (htx : Ntrim xs) (hl4 : l ≤ 4) :
  Calls P 71 #[.slice ad l xc] w fun ex w' => ∃ k : Nat, ex = .returned (.int .i64 ((k : Nat) : Int)) ∧ Keep (fun b => b < w.heap.size) w w' ∧ (k = 0 ↔ xs = []) ∧ (∀ m, nval xs < 2 ^ m → k ≤ m) := by
 subst hxl
 exact nbitLen_spec hx htx hl4

theorem iset_spec {C : Nat → Prop} {w : World} {b l xc : Nat} {ng : Bool} {ad : Option Addr} (hb : w.heap[b]? = some (.cells #[.bool ng, .slice ad l xc] 84)) (hCb : ¬ C b) :
    Calls P 63 #[.pointer (some ⟨b, 0, none⟩), .pointer (some ⟨b, 0, none⟩)] w fun ex w' => ex = .returned (.pointer (some ⟨b, 0, none⟩)) ∧ Keep (ButN [b] w) w w' ∧ w'.heap[b]? = some (.cells #[.bool ng, .slice ad l xc] 84) := by
 refine doorN (e := (e0.addB 0 b)) (vs := [.p 0 0, .p 0 0]) (n := 28) (m := 2) Tryz.func63 rfl rfl rfl (by decide) fun a_ hI => ?_
 replace hI : Is 28 [] (e0.addB 0 b) [(0, .p 0 0), (1, .p 0 0)] a_ := hI
 have hbk0 : (e0.addB 0 b).b 0 = b := rfl
 have hR : Rel (ButN [b] w) w (e0.addB 0 b) [⟨0, 84, [vB ng, vS ad l xc]⟩] [] w := Rel.startN (fun k_ h_ => h_.1) (all_cons ⟨hb, (fun hm_ => hm_.2 m0)⟩ all_no) all_no (all_cons (all_cons (fun hn_ => absurd rfl hn_) all_no) all_no) (all_cons all_no all_no) all_no
 have hB : BaseD (ButN [b] w) C w C (ButN [b] w) w := BaseD.start (fun k_ hC_ hlt_ => ⟨hlt_, notin2 (fun he_ => hCb (he_ ▸ hC_)) (fun hm_ => by cases hm_)⟩)
 refine rZ tab 1 [] [0, 1] hR hI fun e1 a1 w1 hag hR hI => ?_
 have hA := hag
 refine wp_seq ?_
 refine wp_seq (reg (is := [0, 1, 2]) (by kernel_rfl) ?_)
 refine pZ tab [0, 1] [2] 1 [(6, .p 0 0), (5, .p 0 0)] [0, 1] hR hI fun e2 a2 w2 hag hR hI => ?_
 replace hA := hA.trans hag (by decide)
 refine rawOp (x := vB false) hI rfl rfl (by kernel_rfl) (fun ev hev => ptr_self ev rfl (hev (.tmp 5) (.p 0 0) (by kernel_rfl)) (hev (.tmp 6) (.p 0 0) (by kernel_rfl)) (te := 84) (by kernel_rfl) rfl) (fun a3 hI => ?_)
 replace hI := hI.sl [7, 6, 5, 0, 1] rfl
 refine ops_nil (then_n ?_)
 refine cnd_f hI (by kernel_rfl) ?_
 refine wp_skip ?_
 refine then_n ?_
 refine rZ tab 1 [(4, .p 0 0)] [] hR hI fun e4 a4 w4 hag hR hI => ?_
 replace hA := hA.trans hag (by decide)
 refine wp_ret (oN tab [.p 0 0] hR hI ?_)
 replace hbk0 := tb hA hbk0
 exact ⟨by rw [← hbk0]; rfl, hB.fin hR, (by have h_ := (hR.blk ⟨0, 84, [vB ng, vS ad l xc]⟩ m0).1; rw [hbk0] at h_; exact h_)⟩

theorem ineg_spec {C : Nat → Prop} {w : World} {b l xc : Nat} {ng : Bool} {ad : Option Addr} (hb : w.heap[b]? = some (.cells #[.bool ng, .slice ad l xc] 84)) (hCb : ¬ C b) :
    Calls P 53 #[.pointer (some ⟨b, 0, none⟩), .pointer (some ⟨b, 0, none⟩)] w fun ex w' => ex = .returned (.pointer (some ⟨b, 0, none⟩)) ∧ Keep (ButN [b] w) w w' ∧ ∃ ng2, (0 < l → ng2 = !ng) ∧ (l = 0 → ng2 = false) ∧ w'.heap[b]? = some (.cells #[.bool ng2, .slice ad l xc] 84) := by
 refine doorN (e := (e0.addB 0 b)) (vs := [.p 0 0, .p 0 0]) (n := 25) (m := 2) Tryz.func53 rfl rfl rfl (by decide) fun a_ hI => ?_
 replace hI : Is 25 [] (e0.addB 0 b) [(0, .p 0 0), (1, .p 0 0)] a_ := hI
 have hbk0 : (e0.addB 0 b).b 0 = b := rfl
 have hR : Rel (ButN [b] w) w (e0.addB 0 b) [⟨0, 84, [vB ng, vS ad l xc]⟩] [] w := Rel.startN (fun k_ h_ => h_.1) (all_cons ⟨hb, (fun hm_ => hm_.2 m0)⟩ all_no) all_no (all_cons (all_cons (fun hn_ => absurd rfl hn_) all_no) all_no) (all_cons all_no all_no) all_no
 have hB : BaseD (ButN [b] w) C w C (ButN [b] w) w := BaseD.start (fun k_ hC_ hlt_ => ⟨hlt_, notin2 (fun he_ => hCb (he_ ▸ hC_)) (fun hm_ => by cases hm_)⟩)
 refine rZ tab 1 [] [0, 1] hR hI fun e1 a1 w1 hag hR hI => ?_
 have hA := hag
 refine wp_seq (reg (is := [0, 1, 2]) (by kernel_rfl) ?_)
 refine pZ tab [0, 1] [2] 1 [(6, .p 0 0), (5, .p 0 0)] [0] hR hI fun e2 a2 w2 hag hR hI => ?_
 replace hA := hA.trans hag (by decide)
 refine cO [.p 0 0, .p 0 0] hI Tryz.func63 ?_
 have hq0_ := hR.blk ⟨0, 84, [vB ng, vS ad l xc]⟩ m0
 refine (iset_spec (C := fun _ => False) (b := e2.b 0) hq0_.1 (fun h_ => h_)).mono ?_
 rintro ex w3 ⟨rfl, hk, hw0⟩
 have hkF_ := hR.keepN hk (all_cons hq0_.2 all_no)
 have hR_ : Rel (Grow _ _ w3) w3 e2 [⟨0, 84, [vB ng, vS ad l xc]⟩] [] w3 := hR.turnedN hk (all_cons hq0_.2 all_no) (all_cons ⟨⟨_, m0, rfl⟩, .inr hw0⟩ all_no) all_no
 have hB_ := hB.nextF hR hkF_
 replace hR := hR_; clear hR_
 replace hB := hB_; clear hB_ hk hkF_ hq0_ hw0
 refine ⟨_, rfl, ?_⟩
 replace hI := hI.pt 7 (.p 0 0) [7, 6, 5, 0]
 refine ops_nil (then_n ?_)
 refine rK tab 1 [(13, .sym)] [8, 9, 10, 11, 12] [] [0] [⟨0, 84, [vB ((decide ((l : Int) > (0 : Int))) && (!ng)), vS ad l xc]⟩] [] [] [] 1 hR hI (.cons (rfl : (decide ((l : Int) > (0 : Int))) = (decide ((l : Int) > (0 : Int)))) (.cons (rfl : (decide ((l : Int) > (0 : Int))) = (decide ((l : Int) > (0 : Int)))) (.cons (rfl : (decide ((l : Int) > (0 : Int))) = (decide ((l : Int) > (0 : Int)))) (.cons (rfl : (decide ((l : Int) > (0 : Int))) = (decide ((l : Int) > (0 : Int)))) (.cons (rfl : (decide ((l : Int) > (0 : Int))) = (decide ((l : Int) > (0 : Int)))) (.cons (rfl : (decide ((l : Int) > (0 : Int))) = (decide ((l : Int) > (0 : Int)))) (.cons (rfl : (decide ((l : Int) > (0 : Int))) = (decide ((l : Int) > (0 : Int)))) (.cons (rfl : (decide ((l : Int) > (0 : Int))) = (decide ((l : Int) > (0 : Int)))) (.cons (rfl : (decide ((l : Int) > (0 : Int))) = (decide ((l : Int) > (0 : Int)))) (.cons (rfl : (decide ((l : Int) > (0 : Int))) = (decide ((l : Int) > (0 : Int)))) (.cons (by first | exact (by intro b_; cases b_ <;> rfl : ∀ b_ : Bool, (b_ == true) = b_) _ | exact (by intro b_; cases b_ <;> rfl : ∀ b_ : Bool, (b_ == false) = !b_) _ | exact Bool.beq_true _ | exact Bool.beq_false _ | rfl | simp_all : ((decide ((l : Int) > (0 : Int))) == true) = (decide ((l : Int) > (0 : Int)))) .nil))))))))))) fun e4 a4 w4 hag hR hI => ?_
 replace hA := hA.trans hag (by decide)
 refine rZ tab 1 [(4, .p 0 0)] [] hR hI fun e5 a5 w5 hag hR hI => ?_
 replace hA := hA.trans hag (by decide)
 refine wp_ret (oN tab [.p 0 0] hR hI ?_)
 replace hbk0 := tb hA hbk0
 exact ⟨by rw [← hbk0]; rfl, hB.fin hR, (decide ((l : Int) > (0 : Int)) && !ng), (fun h_ => by rw [decide_eq_true (by omega : (l : Int) > (0 : Int)), Bool.true_and]), (fun h_ => by rw [decide_eq_false (by omega : ¬ (l : Int) > (0 : Int)), Bool.false_and]), (by have h_ := (hR.blk ⟨0, 84, [vB ((decide ((l : Int) > (0 : Int))) && (!ng)), vS ad l xc]⟩ m0).1; rw [hbk0] at h_; exact h_)⟩

theorem ibitLen_spec {C : Nat → Prop} {w : World} {b l xc : Nat} {ng : Bool} {ad : Option Addr} {xs : List Nat} (hb : w.heap[b]? = some (.cells #[.bool ng, .slice ad l xc] 84)) (hCb : ¬ C b) (hx : Sl .u64 18446744073709551616 C w ad xc xs) (hxl : xs.length = l) (htx : Ntrim xs) (hl4 : l ≤ 4) :
    Calls P 55 #[.pointer (some ⟨b, 0, none⟩)] w fun ex w' => ∃ k : Nat, ex = .returned (.int .i64 (k : Int)) ∧ Keep (ButN [b] w) w w' ∧ w'.heap[b]? = some (.cells #[.bool ng, .slice ad l xc] 84) ∧ (k = 0 ↔ xs = []) ∧ (∀ m, nval xs < 2 ^ m → k ≤ m) := by
 refine doorN (e := (e0.addB 0 b)) (vs := [.p 0 0]) (n := 8) (m := 1) Tryz.func55 rfl rfl rfl (by decide) fun a_ hI => ?_
 replace hI : Is 8 [] (e0.addB 0 b) [(0, .p 0 0)] a_ := hI
 have hbk0 : (e0.addB 0 b).b 0 = b := rfl
 have hR : Rel (ButN [b] w) w (e0.addB 0 b) [⟨0, 84, [vB ng, vS ad l xc]⟩] [] w := Rel.startN (fun k_ h_ => h_.1) (all_cons ⟨hb, (fun hm_ => hm_.2 m0)⟩ all_no) all_no (all_cons (all_cons (fun hn_ => absurd rfl hn_) all_no) all_no) (all_cons all_no all_no) all_no
 have hB : BaseD (ButN [b] w) C w C (ButN [b] w) w := BaseD.start (fun k_ hC_ hlt_ => ⟨hlt_, notin2 (fun he_ => hCb (he_ ▸ hC_)) (fun hm_ => by cases hm_)⟩)
 refine rZ tab 1 [] [0] hR hI fun e1 a1 w1 hag hR hI => ?_
 have hA := hag
 refine wp_seq (reg (is := [0, 1, 2, 3, 4, 5]) (by kernel_rfl) ?_)
 refine pZ tab [0, 1, 2, 3] [4, 5] 1 [(6, vS ad l xc)] [] hR hI fun e2 a2 w2 hag hR hI => ?_
 replace hA := hA.trans hag (by decide)
 refine cO [vS ad l xc] hI Tryz.func71 ?_
 refine (nbitLenL_spec (C := Now hB) hxl (hx.now hB hR) htx hl4).mono ?_
 rintro ex w3 ⟨k, rfl, hk, hk0, hk255⟩
 replace hR := hR.same hk; clear hk
 refine ⟨_, rfl, ?_⟩
 replace hI := hI.pt 7 (vI k) [7, 6]
 refine pZ tab [5] [] 1 [(2, vI k)] [] hR hI fun e4 a4 w4 hag hR hI => ?_
 replace hA := hA.trans hag (by decide)
 refine ops_nil (then_n ?_)
 refine wp_ret (oN tab [vI k] hR hI ?_)
 replace hbk0 := tb hA hbk0
 exact ⟨k, rfl, hB.fin hR, (by have h_ := (hR.blk ⟨0, 84, [vB ng, vS ad l xc]⟩ m0).1; rw [hbk0] at h_; exact h_), hk0, hk255⟩

theorem isetBits_spec {C : Nat → Prop} {w : World} {b l l0 xc xc0 : Nat} {ng : Bool} {ad ad0 : Option Addr} {xs : List Nat} (hb : w.heap[b]? = some (.cells #[.bool ng, .slice ad0 l0 xc0] 84)) (hCb : ¬ C b) (hx : Sl .u64 18446744073709551616 C w ad xc xs) (hxl : xs.length = l) :
    Calls P 62 #[.pointer (some ⟨b, 0, none⟩), .slice ad l xc] w fun ex w' => ∃ m : Nat, ex = .returned (.pointer (some ⟨b, 0, none⟩)) ∧ Keep (ButN [b] w) w w' ∧ w'.heap[b]? = some (.cells #[.bool false, .slice ad m xc] 84) ∧ m ≤ l ∧ Ntrim (xs.take m) ∧ nval (xs.take m) = nval xs := by
 refine doorN (e := (e0.addB 0 b)) (vs := [.p 0 0, vS ad l xc]) (n := 14) (m := 2) Tryz.func62 rfl rfl rfl (by decide) fun a_ hI => ?_
 replace hI : Is 14 [] (e0.addB 0 b) [(0, .p 0 0), (1, vS ad l xc)] a_ := hI
 have hbk0 : (e0.addB 0 b).b 0 = b := rfl
 have hR : Rel (ButN [b] w) w (e0.addB 0 b) [⟨0, 84, [vB ng, vS ad0 l0 xc0]⟩] [] w := Rel.startN (fun k_ h_ => h_.1) (all_cons ⟨hb, (fun hm_ => hm_.2 m0)⟩ all_no) all_no (all_cons (all_cons (fun hn_ => absurd rfl hn_) all_no) all_no) (all_cons all_no all_no) all_no
 have hB : BaseD (ButN [b] w) C w C (ButN [b] w) w := BaseD.start (fun k_ hC_ hlt_ => ⟨hlt_, notin2 (fun he_ => hCb (he_ ▸ hC_)) (fun hm_ => by cases hm_)⟩)
 refine rZ tab 1 [] [0, 1] hR hI fun e1 a1 w1 hag hR hI => ?_
 have hA := hag
 refine wp_seq (reg (is := [0, 1, 2, 3, 4, 5]) (by kernel_rfl) ?_)
 refine pZ tab [0, 1] [2, 3, 4, 5] 1 [(6, vS ad l xc), (5, .p 0 0)] [0] hR hI fun e2 a2 w2 hag hR hI => ?_
 replace hA := hA.trans hag (by decide)
 refine cO [vS ad l xc] hI Tryz.func77 ?_
 refine (normL_spec (C := Now hB) hxl (hx.now hB hR)).mono ?_
 rintro ex w3 ⟨m, rfl, hk, hm, htx, hvx⟩
 replace hR := hR.same hk; clear hk
 refine ⟨_, rfl, ?_⟩
 replace hI := hI.pt 7 (vS ad m xc) [7, 6, 5, 0]
 refine pK tab [3, 4, 5] [] 1 [] [] [] [0] [⟨0, 84, [vB ng, vS ad m xc]⟩] [] [] [] 1 hR hI .nil fun e4 a4 w4 hag hR hI => ?_
 replace hA := hA.trans hag (by decide)
 refine ops_nil (then_n ?_)
 refine rK tab 1 [] [] [] [0] [⟨0, 84, [vB false, vS ad m xc]⟩] [] [] [] 1 hR hI .nil fun e5 a5 w5 hag hR hI => ?_
 replace hA := hA.trans hag (by decide)
 refine rZ tab 1 [(4, .p 0 0)] [] hR hI fun e6 a6 w6 hag hR hI => ?_
 replace hA := hA.trans hag (by decide)
 refine wp_ret (oN tab [.p 0 0] hR hI ?_)
 replace hbk0 := tb hA hbk0
 exact ⟨m, by rw [← hbk0]; rfl, hB.fin hR, (by have h_ := (hR.blk ⟨0, 84, [vB false, vS ad m xc]⟩ m0).1; rw [hbk0] at h_; exact h_), hm, htx, hvx⟩

end Go.Proofs.YtmendapdibnbdaaGreatDoor.Stride
