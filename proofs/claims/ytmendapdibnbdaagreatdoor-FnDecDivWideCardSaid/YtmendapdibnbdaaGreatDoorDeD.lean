/- Walks of the program's functions, printed by a program of mine (walk.py) over the words of Stride: each function's contract. -/
import Derived.Test.YtmendapdibnbdaaGreatDoorDeC
import Derived.LaidEqlPtr
namespace Go.Proofs.YtmendapdibnbdaaGreatDoor.Stride
open Go Go.RowKit Go.Proofs.YtmendapdibnbdaaGreatDoor.Mag
set_option linter.unusedVariables false
set_option linter.unusedSimpArgs false
set_option maxHeartbeats 4000000
set_option maxRecDepth 100000
theorem norm_spec {C : Nat → Prop} {w : World} {ad : Option Addr} {xc : Nat} {xs : List Nat} (hx : Sl .u64 18446744073709551616 C w ad xc xs) :
    Calls P 77 #[.slice ad xs.length xc] w fun ex w' => ∃ m, ex = .returned (.slice ad m xc) ∧ KS w w' ∧ m ≤ xs.length ∧ Ntrim (xs.take m) ∧ nval (xs.take m) = nval xs := by
 refine dN (C := C) [vS ad xs.length xc] 21 1 Tryz.func77 fun a_ hI hR hB => ?_
 replace hI : Is 21 [] e0 [(0, vS ad xs.length xc)] a_ := hI
 have hroom := hx.room; have hmax := hx.max
 refine rZ tab 0 [] [0] hR hI fun e1 a1 w1 hag hR hI => ?_
 refine rZ tab 0 [(3, vI xs.length)] [0] hR hI fun e2 a2 w2 hag hR hI => ?_
 refine wp_seq ?_
 refine wp_block ?_
 refine lp (γ := Nat) (fun m => (⟨[(0, vS ad xs.length xc), (3, vI m)], [], [], 0⟩ : Sy)) (fun m e => m ≤ xs.length ∧ ∀ i, m ≤ i → i < xs.length → xs.getD i 0 = 0) (fun m => m) (xs.length) (⟨Nat.le_refl _, fun i h1 h2 => by omega⟩)
   (hR.sel [] [] (by kernel_rfl) (by kernel_rfl)) (hI.sel [0, 3] (by kernel_rfl)) ?_
 clear hR hI
 rintro m e3 a3 w3 hp hR hI
 dsimp only at hp hR hI
 obtain ⟨hm, hz⟩ := hp
 refine wp_seq ?_
 refine rK tab 0 [(5, .nw), (7, .val (vU (xs.getD (((m : Int) - (1 : Int) : Int).toNat) 0))), (9, .sym)] [3, 4, 5, 6, 7, 8] [(15, vB ((decide ((m : Int) > (0 : Int))) && (((xs.getD (((m : Int) - (1 : Int) : Int).toNat) 0 : Nat) : Int) == (0 : Int))))] [0, 3] [] [] [] [] 0 hR hI (.cons (rfl : (decide ((m : Int) > (0 : Int))) = (decide ((m : Int) > (0 : Int)))) (.cons (rfl : (decide ((m : Int) > (0 : Int))) = (decide ((m : Int) > (0 : Int)))) (.cons (rfl : (decide ((m : Int) > (0 : Int))) = (decide ((m : Int) > (0 : Int)))) (.cons (fun (hg : ((decide ((m : Int) > (0 : Int))) == true) = true) => have hg := gd_t hg; (inR_i64 (n := (m : Int) - (1 : Int)) (by omega))) (.cons (rfl : (decide ((m : Int) > (0 : Int))) = (decide ((m : Int) > (0 : Int)))) (.cons (rfl : (decide ((m : Int) > (0 : Int))) = (decide ((m : Int) > (0 : Int)))) (.cons (rfl : (decide ((m : Int) > (0 : Int))) = (decide ((m : Int) > (0 : Int)))) (.cons (fun (hg : ((decide ((m : Int) > (0 : Int))) == true) = true) => have hg := gd_t hg; (by omega : (0 : Int) ≤ ((m : Int) - (1 : Int)) ∧ ((m : Int) - (1 : Int)) < (xs.length : Int))) (.cons (fun (hg : ((decide ((m : Int) > (0 : Int))) == true) = true) => have hg := gd_t hg; (nats_some (i := ((m : Int) - (1 : Int) : Int).toNat) (hx.cells.mono hB.cls) (by omega))) (.cons (rfl : (decide ((m : Int) > (0 : Int))) = (decide ((m : Int) > (0 : Int)))) (.cons (rfl : (decide ((m : Int) > (0 : Int))) = (decide ((m : Int) > (0 : Int)))) (.cons (rfl : (decide ((m : Int) > (0 : Int))) = (decide ((m : Int) > (0 : Int)))) (.cons (rfl : (decide ((m : Int) > (0 : Int))) = (decide ((m : Int) > (0 : Int)))) (.cons (fun (hg : ((decide ((m : Int) > (0 : Int))) == true) = true) => have hg := gd_t hg; (nats_load (i := ((m : Int) - (1 : Int) : Int).toNat) (m := 1) (hx.cells.mono hB.cls) (by have := hx.room; omega))) (.cons (rfl : (decide ((m : Int) > (0 : Int))) = (decide ((m : Int) > (0 : Int)))) (.cons (rfl : (decide ((m : Int) > (0 : Int))) = (decide ((m : Int) > (0 : Int)))) (.cons (rfl : (decide ((m : Int) > (0 : Int))) = (decide ((m : Int) > (0 : Int)))) (.cons (rfl : (decide ((m : Int) > (0 : Int))) = (decide ((m : Int) > (0 : Int)))) (.cons (rfl : (decide ((m : Int) > (0 : Int))) = (decide ((m : Int) > (0 : Int)))) (.cons (by first | exact (by intro b_; cases b_ <;> rfl : ∀ b_ : Bool, (b_ == true) = b_) _ | exact (by intro b_; cases b_ <;> rfl : ∀ b_ : Bool, (b_ == false) = !b_) _ | exact Bool.beq_true _ | exact Bool.beq_false _ | rfl | simp_all : ((decide ((m : Int) > (0 : Int))) == true) = (decide ((m : Int) > (0 : Int)))) .nil)))))))))))))))))))) fun e4 a4 w4 hag hR hI => ?_
 refine cnd (b := ((decide ((m : Int) > (0 : Int))) && (((xs.getD (((m : Int) - (1 : Int) : Int).toNat) 0 : Nat) : Int) == (0 : Int)))) hI (by kernel_rfl) (fun hc5 => ?_) (fun hc5 => ?_)
 ·
  replace hI := hI.rb 15 hc5
  try simp only [tolds] at hc5
  have hcz := hc5; have hcm := hcz.1
  refine wp_skip ?_
  refine then_n ?_
  refine wp_block ?_
  refine aK tab 0 [(1, .eq (.int .i64 ((m - 1 : Nat) : Int)))] [] [(3, vI (m - 1))] [0] [] [] [] [] 0 hR hI (.cons (congrArg (Value.int .i64) (natsub_i64 (q := 1) (by omega) (by omega) : IntKind.i64.wrap ((m : Int) - (1 : Int)) = ((m - 1 : Nat) : Int))) .nil) fun e6 a6 w6 hag hR hI => ?_
  refine normal_block ?_
  refine then_n ?_
  exact ⟨(m - 1), e6, ⟨by omega, fun i h1 h2 => by
     by_cases h3 : m ≤ i
     · exact hz i h3 h2
     ·
      obtain rfl : i = m - 1 := by omega
      have h5 := hcz.2
      have e1 : ((m : Int) - 1).toNat = m - 1 := by omega
      rw [e1] at h5
      omega⟩, by show _ < _; omega, hR.sel [] [] (by kernel_rfl) (by kernel_rfl), hI.sel [0, 3] (by kernel_rfl)⟩
 ·
  replace hI := hI.rb 15 hc5
  try simp only [tolds] at hc5
  have hcz := hc5
  refine wp_exit ?_
  refine exit_then ?_
  refine exit_then ?_
  refine exit_hit ?_
  refine then_n ?_
  refine rK tab 0 [(2, .sym)] [] [(2, vS (cutA ad xc 0 1) (m - 0) (xc - 0))] [] [] [] [] [] 0 hR hI (.cons (by omega : (0 : Int) ≤ (0 : Int) ∧ (0 : Int) ≤ (m : Int) ∧ (m : Int) ≤ (xc : Nat)) .nil) fun e7 a7 w7 hag hR hI => ?_
  refine wp_ret (oN tab [vS (cutA ad xc 0 1) (m - 0) (xc - 0)] hR hI ?_)
  refine ⟨m, by simp only [cutA_zero, Int.toNat_zero, Nat.sub_zero]; rfl, hB.fin hR, hm, ntrim_take hm ?_, nval_take hz⟩
  by_cases h0 : m = 0
  · exact .inl h0
  ·
   refine .inr fun h1 => ?_
   have e1 : ((m : Int) - 1).toNat = m - 1 := by omega
   rw [e1, h1] at hcz
   rcases hcz with hcz | hcz
   · exact hcz (by omega)
   · exact hcz rfl

theorem cmp1_spec {C : Nat → Prop} {w : World} {ad bd : Option Addr} {xc yc : Nat} {xs ys : List Nat} (hx : Sl .u64 18446744073709551616 C w ad xc xs) (hy : Sl .u64 18446744073709551616 C w bd yc ys) (htx : Ntrim xs) (hty : Ntrim ys) :
    Calls P 66 #[.slice ad xs.length xc, .slice bd ys.length yc] w fun ex w' => ex = .returned (.int .i64 (cmpN (nval xs) (nval ys))) ∧ KS w w' := by
 refine dN (C := C) [vS ad xs.length xc, vS bd ys.length yc] 64 2 Tryz.func66 fun a_ hI hR hB => ?_
 replace hI : Is 64 [] e0 [(0, vS ad xs.length xc), (1, vS bd ys.length yc)] a_ := hI
 have hrx := hx.room; have hmx := hx.max; have hry := hy.room; have hmy := hy.max
 refine rZ tab 0 [(4, .v (.int .i64 0))] [0, 1] hR hI fun e1 a1 w1 hag hR hI => ?_
 refine rZ tab 0 [(5, vI xs.length)] [4, 0, 1] hR hI fun e2 a2 w2 hag hR hI => ?_
 refine rZ tab 0 [(6, vI ys.length)] [5, 4, 0, 1] hR hI fun e3 a3 w3 hag hR hI => ?_
 refine wp_seq ?_
 refine rK tab 0 [(6, .sym)] [4, 5] [(18, vB (((xs.length : Int) != (ys.length : Int)) || ((xs.length : Int) == (0 : Int))))] [6, 5, 4, 0, 1] [] [] [] [] 0 hR hI (.cons (rfl : ((xs.length : Int) != (ys.length : Int)) = ((xs.length : Int) != (ys.length : Int))) (.cons (by first | exact (by intro b_; cases b_ <;> rfl : ∀ b_ : Bool, (b_ == true) = b_) _ | exact (by intro b_; cases b_ <;> rfl : ∀ b_ : Bool, (b_ == false) = !b_) _ | exact Bool.beq_true _ | exact Bool.beq_false _ | rfl | simp_all : (((xs.length : Int) != (ys.length : Int)) == false) = !((xs.length : Int) != (ys.length : Int))) .nil)) fun e4 a4 w4 hag hR hI => ?_
 refine cnd (b := (((xs.length : Int) != (ys.length : Int)) || ((xs.length : Int) == (0 : Int)))) hI (by kernel_rfl) (fun hc5 => ?_) (fun hc5 => ?_)
 ·
  replace hI := hI.rb 18 hc5
  try simp only [tolds] at hc5
  refine wp_seq ?_
  refine wp_block ?_
  refine rZ tab 0 [(19, vB (decide ((xs.length : Int) < (ys.length : Int))))] [6, 5, 4] hR hI fun e6 a6 w6 hag hR hI => ?_
  refine cnd (b := decide ((xs.length : Int) < (ys.length : Int))) hI (by kernel_rfl) (fun hc7 => ?_) (fun hc7 => ?_)
  ·
   replace hI := hI.rb 19 hc7
   try simp only [tolds] at hc7
   refine aZ tab 0 [(4, .v (.int .i64 (-1)))] [] hR hI fun e8 a8 w8 hag hR hI => ?_
   refine normal_block ?_
   refine then_n ?_
   refine wp_ret ?_
   refine ret_then ?_
   refine oN tab [.v (.int .i64 (-1))] hR hI ?_
   exact ⟨by rw [cmpN_lt (nval_lt_of_len hx.dig hty (by omega))]; rfl, hB.fin hR⟩
  ·
   replace hI := hI.rb 19 hc7
   try simp only [tolds] at hc7
   refine rZ tab 0 [(23, vB (decide ((xs.length : Int) > (ys.length : Int))))] [4] hR hI fun e9 a9 w9 hag hR hI => ?_
   refine cnd (b := decide ((xs.length : Int) > (ys.length : Int))) hI (by kernel_rfl) (fun hc10 => ?_) (fun hc10 => ?_)
   ·
    replace hI := hI.rb 23 hc10
    try simp only [tolds] at hc10
    refine aZ tab 0 [(4, .v (.int .i64 1))] [] hR hI fun e11 a11 w11 hag hR hI => ?_
    refine normal_block ?_
    refine then_n ?_
    refine wp_ret ?_
    refine ret_then ?_
    refine oN tab [.v (.int .i64 1)] hR hI ?_
    exact ⟨by rw [cmpN_gt (nval_lt_of_len hy.dig htx (by omega))]; rfl, hB.fin hR⟩
   ·
    replace hI := hI.rb 23 hc10
    try simp only [tolds] at hc10
    refine wp_skip ?_
    refine normal_block ?_
    refine then_n ?_
    refine wp_ret ?_
    refine ret_then ?_
    refine oN tab [.v (.int .i64 0)] hR hI ?_
    have hl0 : xs = [] := List.eq_nil_of_length_eq_zero (by omega)
    have hl1 : ys = [] := List.eq_nil_of_length_eq_zero (by omega)
    exact ⟨by rw [hl0, hl1, cmpN_eq]; rfl, hB.fin hR⟩
 ·
  replace hI := hI.rb 18 hc5
  try simp only [tolds] at hc5
  refine wp_skip ?_
  refine then_n ?_
  refine rK tab 0 [(1, .eq (.int .i64 ((xs.length - 1 : Nat) : Int)))] [] [(7, vI (xs.length - 1))] [4, 0, 1] [] [] [] [] 0 hR hI (.cons (congrArg (Value.int .i64) (natsub_i64 (q := 1) (by omega) (by omega) : IntKind.i64.wrap ((xs.length : Int) - (1 : Int)) = ((xs.length - 1 : Nat) : Int))) .nil) fun e12 a12 w12 hag hR hI => ?_
  refine wp_seq ?_
  refine wp_block ?_
  refine lp (γ := Nat) (fun i => (⟨[(0, vS ad xs.length xc), (1, vS bd ys.length yc), (4, .v (.int .i64 0)), (7, vI i)], [], [], 0⟩ : Sy)) (fun i e => i < xs.length ∧ xs.length = ys.length ∧ xs.drop (i + 1) = ys.drop (i + 1)) (fun i => i) (xs.length - 1) (⟨by omega, by omega, by rw [List.drop_of_length_le (by omega), List.drop_of_length_le (by omega)]⟩)
    (hR.sel [] [] (by kernel_rfl) (by kernel_rfl)) (hI.sel [0, 1, 4, 7] (by kernel_rfl)) ?_
  clear hR hI
  rintro i e13 a13 w13 hp hR hI
  dsimp only at hp hR hI
  obtain ⟨hi, hle, hdr⟩ := hp
  refine wp_seq ?_
  refine regQ_seq tab (by kernel_rfl) (k := 0) (hs := [(6, .val (vU (xs.getD i 0))), (10, .val (vU (ys.getD i 0))), (12, .sym)]) (gs := [3, 4, 5, 6, 7, 8, 9, 10, 11]) (ks := [41, 0, 1, 4, 7])
    (L' := [(41, vB ((decide ((i : Int) > (0 : Int))) && (((xs.getD i 0 : Nat) : Int) == ((ys.getD i 0 : Nat) : Int)))), (0, vS ad xs.length xc), (1, vS bd ys.length yc), (4, .v (.int .i64 0)), (7, vI i)]) hR hI (by kernel_rfl) (fun _ _ _ _ _ h => h) (by kernel_rfl)
    (.cons (rfl : (decide ((i : Int) > (0 : Int))) = (decide ((i : Int) > (0 : Int)))) (.cons (rfl : (decide ((i : Int) > (0 : Int))) = (decide ((i : Int) > (0 : Int)))) (.cons (rfl : (decide ((i : Int) > (0 : Int))) = (decide ((i : Int) > (0 : Int)))) (.cons (fun (hg : ((decide ((i : Int) > (0 : Int))) == true) = true) => have hg := gd_t hg; (by omega : (0 : Int) ≤ (i : Int) ∧ (i : Int) < (xs.length : Int))) (.cons (fun (hg : ((decide ((i : Int) > (0 : Int))) == true) = true) => have hg := gd_t hg; (nats_some (i := i) (hx.cells.mono hB.cls) (by omega))) (.cons (rfl : (decide ((i : Int) > (0 : Int))) = (decide ((i : Int) > (0 : Int)))) (.cons (rfl : (decide ((i : Int) > (0 : Int))) = (decide ((i : Int) > (0 : Int)))) (.cons (rfl : (decide ((i : Int) > (0 : Int))) = (decide ((i : Int) > (0 : Int)))) (.cons (fun (hg : ((decide ((i : Int) > (0 : Int))) == true) = true) => have hg := gd_t hg; (nats_load (i := i) (m := 1) (hx.cells.mono hB.cls) (by omega))) (.cons (rfl : (decide ((i : Int) > (0 : Int))) = (decide ((i : Int) > (0 : Int)))) (.cons (rfl : (decide ((i : Int) > (0 : Int))) = (decide ((i : Int) > (0 : Int)))) (.cons (rfl : (decide ((i : Int) > (0 : Int))) = (decide ((i : Int) > (0 : Int)))) (.cons (rfl : (decide ((i : Int) > (0 : Int))) = (decide ((i : Int) > (0 : Int)))) (.cons (rfl : (decide ((i : Int) > (0 : Int))) = (decide ((i : Int) > (0 : Int)))) (.cons (rfl : (decide ((i : Int) > (0 : Int))) = (decide ((i : Int) > (0 : Int)))) (.cons (rfl : (decide ((i : Int) > (0 : Int))) = (decide ((i : Int) > (0 : Int)))) (.cons (rfl : (decide ((i : Int) > (0 : Int))) = (decide ((i : Int) > (0 : Int)))) (.cons (rfl : (decide ((i : Int) > (0 : Int))) = (decide ((i : Int) > (0 : Int)))) (.cons (rfl : (decide ((i : Int) > (0 : Int))) = (decide ((i : Int) > (0 : Int)))) (.cons (rfl : (decide ((i : Int) > (0 : Int))) = (decide ((i : Int) > (0 : Int)))) (.cons (rfl : (decide ((i : Int) > (0 : Int))) = (decide ((i : Int) > (0 : Int)))) (.cons (rfl : (decide ((i : Int) > (0 : Int))) = (decide ((i : Int) > (0 : Int)))) (.cons (rfl : (decide ((i : Int) > (0 : Int))) = (decide ((i : Int) > (0 : Int)))) (.cons (rfl : (decide ((i : Int) > (0 : Int))) = (decide ((i : Int) > (0 : Int)))) (.cons (fun (hg : ((decide ((i : Int) > (0 : Int))) == true) = true) => have hg := gd_t hg; (by omega : (0 : Int) ≤ (i : Int) ∧ (i : Int) < (ys.length : Int))) (.cons (fun (hg : ((decide ((i : Int) > (0 : Int))) == true) = true) => have hg := gd_t hg; (nats_some (i := i) (hy.cells.mono hB.cls) (by omega))) (.cons (rfl : (decide ((i : Int) > (0 : Int))) = (decide ((i : Int) > (0 : Int)))) (.cons (rfl : (decide ((i : Int) > (0 : Int))) = (decide ((i : Int) > (0 : Int)))) (.cons (rfl : (decide ((i : Int) > (0 : Int))) = (decide ((i : Int) > (0 : Int)))) (.cons (rfl : (decide ((i : Int) > (0 : Int))) = (decide ((i : Int) > (0 : Int)))) (.cons (rfl : (decide ((i : Int) > (0 : Int))) = (decide ((i : Int) > (0 : Int)))) (.cons (rfl : (decide ((i : Int) > (0 : Int))) = (decide ((i : Int) > (0 : Int)))) (.cons (rfl : (decide ((i : Int) > (0 : Int))) = (decide ((i : Int) > (0 : Int)))) (.cons (fun (hg : ((decide ((i : Int) > (0 : Int))) == true) = true) => have hg := gd_t hg; (nats_load (i := i) (m := 1) (hy.cells.mono hB.cls) (by omega))) (.cons (rfl : (decide ((i : Int) > (0 : Int))) = (decide ((i : Int) > (0 : Int)))) (.cons (rfl : (decide ((i : Int) > (0 : Int))) = (decide ((i : Int) > (0 : Int)))) (.cons (rfl : (decide ((i : Int) > (0 : Int))) = (decide ((i : Int) > (0 : Int)))) (.cons (rfl : (decide ((i : Int) > (0 : Int))) = (decide ((i : Int) > (0 : Int)))) (.cons (rfl : (decide ((i : Int) > (0 : Int))) = (decide ((i : Int) > (0 : Int)))) (.cons (rfl : (decide ((i : Int) > (0 : Int))) = (decide ((i : Int) > (0 : Int)))) (.cons (rfl : (decide ((i : Int) > (0 : Int))) = (decide ((i : Int) > (0 : Int)))) (.cons (rfl : (decide ((i : Int) > (0 : Int))) = (decide ((i : Int) > (0 : Int)))) (.cons (by first | exact (by intro b_; cases b_ <;> rfl : ∀ b_ : Bool, (b_ == true) = b_) _ | exact (by intro b_; cases b_ <;> rfl : ∀ b_ : Bool, (b_ == false) = !b_) _ | exact Bool.beq_true _ | exact Bool.beq_false _ | rfl | simp_all : ((decide ((i : Int) > (0 : Int))) == true) = (decide ((i : Int) > (0 : Int)))) .nil))))))))))))))))))))))))))))))))))))))))))) (by kernel_rfl) (by kernel_rfl) (fun e14 a14 w14 hag hR hI => ?_)
  refine cnd (b := ((decide ((i : Int) > (0 : Int))) && (((xs.getD i 0 : Nat) : Int) == ((ys.getD i 0 : Nat) : Int)))) hI (by kernel_rfl) (fun hc15 => ?_) (fun hc15 => ?_)
  ·
   replace hI := hI.rb 41 hc15
   try simp only [tolds] at hc15
   have hcz := hc15; have hcm := hcz.1
   refine wp_skip ?_
   refine then_n ?_
   refine wp_block ?_
   refine aK tab 0 [(1, .eq (.int .i64 ((i - 1 : Nat) : Int)))] [] [(7, vI (i - 1))] [0, 1, 4] [] [] [] [] 0 hR hI (.cons (congrArg (Value.int .i64) (natsub_i64 (q := 1) (by omega) (by omega) : IntKind.i64.wrap ((i : Int) - (1 : Int)) = ((i - 1 : Nat) : Int))) .nil) fun e16 a16 w16 hag hR hI => ?_
   refine normal_block ?_
   refine then_n ?_
   exact ⟨i - 1, e16, ⟨by omega, hle, by rw [show i - 1 + 1 = i by omega]; exact drop_step hi (by omega) hdr (by omega)⟩, by (try dsimp only); omega, hR.sel [] [] (by kernel_rfl) (by kernel_rfl), hI.sel [0, 1, 4, 7] (by kernel_rfl)⟩
  ·
   replace hI := hI.rb 41 hc15
   try simp only [tolds] at hc15
   have hcz := hc15
   refine wp_exit ?_
   refine exit_then ?_
   refine exit_then ?_
   refine exit_hit ?_
   refine then_n ?_
   refine wp_seq ?_
   refine wp_block ?_
   refine regQ_seq tab (by kernel_rfl) (k := 0) (hs := [(3, .val (vU (xs.getD i 0))), (7, .val (vU (ys.getD i 0)))]) (gs := []) (ks := [44, 0, 1, 4, 7])
     (L' := [(44, vB (decide (((xs.getD i 0 : Nat) : Int) < ((ys.getD i 0 : Nat) : Int)))), (0, vS ad xs.length xc), (1, vS bd ys.length yc), (4, .v (.int .i64 0)), (7, vI i)]) hR hI (by kernel_rfl) (fun _ _ _ _ _ h => h) (by kernel_rfl)
     (.cons (by omega : (0 : Int) ≤ (i : Int) ∧ (i : Int) < (xs.length : Int)) (.cons (nats_some (i := i) (hx.cells.mono hB.cls) (by omega)) (.cons (nats_load (i := i) (m := 1) (hx.cells.mono hB.cls) (by omega)) (.cons (by omega : (0 : Int) ≤ (i : Int) ∧ (i : Int) < (ys.length : Int)) (.cons (nats_some (i := i) (hy.cells.mono hB.cls) (by omega)) (.cons (nats_load (i := i) (m := 1) (hy.cells.mono hB.cls) (by omega)) .nil)))))) (by kernel_rfl) (by kernel_rfl) (fun e17 a17 w17 hag hR hI => ?_)
   refine cnd (b := decide (((xs.getD i 0 : Nat) : Int) < ((ys.getD i 0 : Nat) : Int))) hI (by kernel_rfl) (fun hc18 => ?_) (fun hc18 => ?_)
   ·
    replace hI := hI.rb 44 hc18
    try simp only [tolds] at hc18
    refine aZ tab 0 [(4, .v (.int .i64 (-1)))] [] hR hI fun e19 a19 w19 hag hR hI => ?_
    refine normal_block ?_
    refine then_n ?_
    refine wp_ret (oN tab [.v (.int .i64 (-1))] hR hI ?_)
    exact ⟨by rw [cmpN_lt (nval_lt_at hx.dig i hi hle hdr (by omega))]; rfl, hB.fin hR⟩
   ·
    replace hI := hI.rb 44 hc18
    try simp only [tolds] at hc18
    refine regQ_seq tab (by kernel_rfl) (k := 0) (hs := [(3, .val (vU (xs.getD i 0))), (7, .val (vU (ys.getD i 0)))]) (gs := []) (ks := [54, 4])
      (L' := [(54, vB (decide (((xs.getD i 0 : Nat) : Int) > ((ys.getD i 0 : Nat) : Int)))), (4, .v (.int .i64 0))]) hR hI (by kernel_rfl) (fun _ _ _ _ _ h => h) (by kernel_rfl)
      (.cons (by omega : (0 : Int) ≤ (i : Int) ∧ (i : Int) < (xs.length : Int)) (.cons (nats_some (i := i) (hx.cells.mono hB.cls) (by omega)) (.cons (nats_load (i := i) (m := 1) (hx.cells.mono hB.cls) (by omega)) (.cons (by omega : (0 : Int) ≤ (i : Int) ∧ (i : Int) < (ys.length : Int)) (.cons (nats_some (i := i) (hy.cells.mono hB.cls) (by omega)) (.cons (nats_load (i := i) (m := 1) (hy.cells.mono hB.cls) (by omega)) .nil)))))) (by kernel_rfl) (by kernel_rfl) (fun e20 a20 w20 hag hR hI => ?_)
    refine cnd (b := decide (((xs.getD i 0 : Nat) : Int) > ((ys.getD i 0 : Nat) : Int))) hI (by kernel_rfl) (fun hc21 => ?_) (fun hc21 => ?_)
    ·
     replace hI := hI.rb 54 hc21
     try simp only [tolds] at hc21
     refine aZ tab 0 [(4, .v (.int .i64 1))] [] hR hI fun e22 a22 w22 hag hR hI => ?_
     refine normal_block ?_
     refine then_n ?_
     refine wp_ret (oN tab [.v (.int .i64 1)] hR hI ?_)
     exact ⟨by rw [cmpN_gt (nval_lt_at hy.dig i (by omega) hle.symm hdr.symm (by omega))]; rfl, hB.fin hR⟩
    ·
     replace hI := hI.rb 54 hc21
     try simp only [tolds] at hc21
     refine wp_skip ?_
     refine normal_block ?_
     refine then_n ?_
     refine wp_ret (oN tab [.v (.int .i64 0)] hR hI ?_)
     have he_ : xs.getD i 0 = ys.getD i 0 := by omega
     have hi0 : i = 0 := by
      rcases hcz with hcz | hcz
      · omega
      · exact absurd (by rw [he_]) hcz
     have hd0 := drop_step hi (by omega) hdr he_
     rw [hi0, List.drop_zero, List.drop_zero] at hd0
     exact ⟨by rw [hd0, cmpN_eq]; rfl, hB.fin hR⟩

theorem cmp_spec {C C2 : Nat → Prop} {w : World} {ad bd : Option Addr} {xc yc : Nat} {xs ys : List Nat} (hx : Sl .u64 18446744073709551616 C w ad xc xs) (hy : Sl .u64 18446744073709551616 C2 w bd yc ys) (htx : Ntrim xs) (hty : Ntrim ys) :
  Calls P 66 #[.slice ad xs.length xc, .slice bd ys.length yc] w fun ex w' => ex = .returned (.int .i64 (cmpN (nval xs) (nval ys))) ∧ Keep (fun b => b < w.heap.size) w w' :=
 cmp1_spec (C := fun b => C b ∨ C2 b) (hx.cls_ fun b h_ _ => .inl h_) (hy.cls_ fun b h_ _ => .inr h_) htx hty

theorem makeNew_spec {C : Nat → Prop} {w : World} {n : Nat} (hn : 0 < n) (hnb : n ≤ 65536) :
    Calls P 78 #[.slice none 0 0, .int .i64 (n : Int)] w fun ex w' => ∃ g c, ex = .returned (.slice (some ⟨g, 0, none⟩) n c) ∧ KS w w' ∧ w.heap.size ≤ g ∧ w'.heap[g]? = some (.cells (ints .u64 (List.replicate c 0)).toArray 102) ∧ n ≤ c ∧ c ≤ n + 4 := by
 refine dN (C := C) [vS none 0 0, vI n] 19 2 Tryz.func78 fun a_ hI hR hB => ?_
 replace hI : Is 19 [] e0 [(0, vS none 0 0), (1, vI n)] a_ := hI
 refine rZ tab 0 [] [0, 1] hR hI fun e1 a1 w1 hag hR hI => ?_
 refine wp_seq ?_
 refine rK tab 0 [(3, .eq (.bool false))] [] [(8, vB false)] [0, 1] [] [] [] [] 0 hR hI (.cons (congrArg Value.bool (decide_eq_false (by omega) : (decide ((n : Int) ≤ (0 : Int))) = false)) .nil) fun e2 a2 w2 hag hR hI => ?_
 refine cnd_f hI (by kernel_rfl) ?_
 refine wp_skip ?_
 refine then_n ?_
 refine wp_seq ?_
 refine rZ tab 0 [(13, vB ((n : Int) == (1 : Int)))] [1] hR hI fun e3 a3 w3 hag hR hI => ?_
 refine cnd (b := ((n : Int) == (1 : Int))) hI (by kernel_rfl) (fun hc4 => ?_) (fun hc4 => ?_)
 ·
  replace hI := hI.rb 13 hc4
  try simp only [tolds] at hc4
  refine wp_seq (reg (is := [0, 1]) (by kernel_rfl) ?_)
  refine makeFull (kl := .i64) (kc := .i64) (k := 0) (l := 1) (c := 1) tab hR hI rfl rfl (by kernel_rfl) rfl rfl rfl rfl (by kernel_rfl) (by kernel_rfl) (by kernel_rfl) (by omega) (by show 8 * _ ≤ _; omega) (by omega) (fun a5 w5 g5 hge hk hR hI => ?_)
  have hag_ := agree_addR e3 0 (.slice (some ⟨g5, 0, none⟩) 1 1)
  have hf0 : Full (e3.addR 0 (.slice (some ⟨g5, 0, none⟩) 1 1)) 0 1 := full_addR _ _ _ _; have hnew0 : headOf ((e3.addR 0 (.slice (some ⟨g5, 0, none⟩) 1 1)).r 0) = g5 := head_addR _ _ _ _
  rw [show (List.replicate 1 (.int .u64 0) : List Value) = ints .u64 (List.replicate 1 0) from ints_replicate .u64 1 0] at hR
  clear hag_ hk
  replace hI := hI.sl [14, 13, 1] rfl
  refine pZ tab [1] [] 1 [(4, .rsl 0 0 1 1)] [] hR hI fun e6 a6 w6 hag hR hI => ?_
  have hA := hag
  refine ops_nil (then_n ?_)
  refine wp_ret ?_
  refine ret_then ?_
  refine oN tab [.rsl 0 0 1 1] hR hI ?_
  replace hf0 := tf hA hf0
  replace hnew0 := tg hA hnew0
  obtain rfl : n = 1 := by omega
  have hrc_ := hR.rowCells (y := ⟨0, 102, 1, 1, (ints .u64 (List.replicate 1 0))⟩) m0 hf0 rfl
  exact ⟨_, 1, rfl, hB.fin hR, Nat.le_of_not_lt hrc_.2, hrc_.1, by omega, by omega⟩
 ·
  replace hI := hI.rb 13 hc4
  try simp only [tolds] at hc4
  refine wp_skip ?_
  refine then_n ?_
  refine wp_seq (reg (is := [0, 1, 2, 3, 4]) (by kernel_rfl) ?_)
  refine pK tab [0, 1, 2] [3, 4] 0 [(2, .nw)] [] [(17, vI (n + 4)), (15, vI n)] [] [] [] [] [] 0 hR hI (.cons (inR_i64 (n := (n : Int) + (4 : Int)) (by omega)) .nil) fun e7 a7 w7 hag hR hI => ?_
  refine makeFull (kl := .i64) (kc := .i64) (k := 0) (l := n) (c := n + 4) tab hR hI rfl rfl (by kernel_rfl) rfl rfl rfl rfl (by kernel_rfl) (by kernel_rfl) (by kernel_rfl) (by omega) (by show 8 * _ ≤ _; omega) (by omega) (fun a8 w8 g8 hge hk hR hI => ?_)
  have hag_ := agree_addR e7 0 (.slice (some ⟨g8, 0, none⟩) (n + 4) (n + 4))
  have hf0 : Full (e7.addR 0 (.slice (some ⟨g8, 0, none⟩) (n + 4) (n + 4))) 0 (n + 4) := full_addR _ _ _ _; have hnew0 : headOf ((e7.addR 0 (.slice (some ⟨g8, 0, none⟩) (n + 4) (n + 4))).r 0) = g8 := head_addR _ _ _ _
  rw [show (List.replicate (n + 4) (.int .u64 0) : List Value) = ints .u64 (List.replicate (n + 4) 0) from ints_replicate .u64 (n + 4) 0] at hR
  clear hag_ hk
  replace hI := hI.sl [18, 17, 15] rfl
  refine pZ tab [4] [] 1 [(4, .rsl 0 0 n (n + 4))] [] hR hI fun e9 a9 w9 hag hR hI => ?_
  have hA := hag
  refine ops_nil (then_n ?_)
  refine wp_ret (oN tab [.rsl 0 0 n (n + 4)] hR hI ?_)
  replace hf0 := tf hA hf0
  replace hnew0 := tg hA hnew0
  have hrc_ := hR.rowCells (y := ⟨0, 102, 1, (n + 4), (ints .u64 (List.replicate (n + 4) 0))⟩) m0 hf0 rfl
  exact ⟨_, n + 4, rfl, hB.fin hR, Nat.le_of_not_lt hrc_.2, hrc_.1, by omega, by omega⟩

theorem makeNil_spec {C : Nat → Prop} {w : World} :
    Calls P 78 #[.slice none 0 0, .int .i64 0] w fun ex w' => ex = .returned (.slice none 0 0) ∧ KS w w' := by
 refine dN (C := C) [vS none 0 0, .v (.int .i64 0)] 19 2 Tryz.func78 fun a_ hI hR hB => ?_
 replace hI : Is 19 [] e0 [(0, vS none 0 0), (1, .v (.int .i64 0))] a_ := hI
 refine rZ tab 0 [] [0, 1] hR hI fun e1 a1 w1 hag hR hI => ?_
 refine wp_seq ?_
 refine rZ tab 0 [(8, vB true)] [0, 1] hR hI fun e2 a2 w2 hag hR hI => ?_
 refine cnd_t hI (by kernel_rfl) ?_
 refine rK tab 0 [] [] [(4, vS none 0 0)] [] [] [] [] [] 0 hR hI (.cons (by omega : (0 : Int) ≤ (0 : Int) ∧ (0 : Int) ≤ (0 : Nat)) .nil) fun e3 a3 w3 hag hR hI => ?_
 refine wp_ret ?_
 refine ret_then ?_
 refine oN tab [vS none 0 0] hR hI ?_
 exact ⟨rfl, hB.fin hR⟩

theorem makeOld_spec {C : Nat → Prop} {w : World} {ad : Option Addr} {l c n : Nat} (hn : n ≤ c) :
    Calls P 78 #[.slice ad l c, .int .i64 (n : Int)] w fun ex w' => ex = .returned (.slice ad n c) ∧ KS w w' := by
 refine dN (C := C) [vS ad l c, vI n] 19 2 Tryz.func78 fun a_ hI hR hB => ?_
 replace hI : Is 19 [] e0 [(0, vS ad l c), (1, vI n)] a_ := hI
 refine rZ tab 0 [] [0, 1] hR hI fun e1 a1 w1 hag hR hI => ?_
 refine wp_seq ?_
 refine rK tab 0 [(3, .eq (.bool true))] [] [(8, vB true)] [0, 1] [] [] [] [] 0 hR hI (.cons (congrArg Value.bool (decide_eq_true (by omega) : (decide ((n : Int) ≤ (c : Int))) = true)) .nil) fun e2 a2 w2 hag hR hI => ?_
 refine cnd_t hI (by kernel_rfl) ?_
 refine rK tab 0 [] [] [(4, vS ad n c)] [] [] [] [] [] 0 hR hI (.cons (by omega : (0 : Int) ≤ (n : Int) ∧ (n : Int) ≤ (c : Nat)) .nil) fun e3 a3 w3 hag hR hI => ?_
 refine wp_ret ?_
 refine ret_then ?_
 refine oN tab [vS ad n c] hR hI ?_
 exact ⟨rfl, hB.fin hR⟩

theorem setWord_spec {C : Nat → Prop} {w : World} {x : Nat} (hx : x < 18446744073709551616) :
    Calls P 65 #[.slice none 0 0, .int .u64 (x : Int)] w fun ex w' => ∃ ad l c rs, ex = .returned (.slice ad l c) ∧ rs.length = l ∧ KS w w' ∧ Sl .u64 18446744073709551616 (fun b => w.heap.size ≤ b) w' ad c rs ∧  Ntrim rs ∧ nval rs = x := by
 refine dN (C := C) [vS none 0 0, vU x] 15 2 Tryz.func65 fun a_ hI hR hB => ?_
 replace hI : Is 15 [] e0 [(0, vS none 0 0), (1, vU x)] a_ := hI
 refine rZ tab 0 [] [0, 1] hR hI fun e1 a1 w1 hag hR hI => ?_
 refine wp_seq ?_
 refine rZ tab 0 [(6, vB ((x : Int) == (0 : Int)))] [0, 1] hR hI fun e2 a2 w2 hag hR hI => ?_
 refine cnd (b := ((x : Int) == (0 : Int))) hI (by kernel_rfl) (fun hc3 => ?_) (fun hc3 => ?_)
 ·
  replace hI := hI.rb 6 hc3
  try simp only [tolds] at hc3
  refine rK tab 0 [] [] [(4, vS none 0 0)] [] [] [] [] [] 0 hR hI (.cons (by omega : (0 : Int) ≤ (0 : Int) ∧ (0 : Int) ≤ (0 : Nat)) .nil) fun e4 a4 w4 hag hR hI => ?_
  refine wp_ret ?_
  refine ret_then ?_
  refine oN tab [vS none 0 0] hR hI ?_
  exact ⟨none, 0, 0, [], rfl, rfl, hB.fin hR, ⟨Cells.nil, fun _ h => by simp at h, Nat.le_refl _, by decide⟩, .inl rfl, by simp [nval]; omega⟩
 ·
  replace hI := hI.rb 6 hc3
  try simp only [tolds] at hc3
  refine wp_skip ?_
  refine then_n ?_
  refine wp_seq (reg (is := [0, 1, 2]) (by kernel_rfl) ?_)
  refine pZ tab [0] [1, 2] 0 [(9, vS none 0 0)] [0, 1] hR hI fun e5 a5 w5 hag hR hI => ?_
  refine cO [vS none 0 0, .v (.int .i64 1)] hI Tryz.func78 ?_
  have hsz_ := (hB.fin hR).size
  refine (makeNew_spec (C := Now hB) (n := 1) (by decide) (by decide)).mono ?_
  rintro ex w6 ⟨g1, c1, rfl, hk, hge, hwg, hc1, hc2⟩
  replace hk := keepBut0 hk
  have hkF_ := hR.keepN hk all_no
  have hR_ : Rel (Grow _ _ w6) w6 e5 [] [] w6 := hR.turnedN hk all_no all_no all_no
  have hM_ : ∀ b_ ∈ ([g1] : List Nat), _ ≤ b_ := (all_cons hge all_no)
  have hB_ := hB.nextN hR hkF_ hM_; have hR1_ := hR_.shrinkN (M := [g1])
  obtain ⟨hfr1_, hfr2_⟩ := hR.fresh (H' := []) (G' := []) all_no all_no hge
  obtain ⟨hag_, hR2_⟩ := hR1_.gotRow (L := []) (k := 0) (g := g1) (n := c1) (t := 102) (xs := (ints .u64 (List.replicate c1 0))) (by kernel_rfl) hwg (by rw [ints_length, List.length_replicate]) (by omega) (fun hf_ => hf_.2.1 m0) hfr1_ hfr2_
  replace hI := hI.agreeB (H := []) (G := []) (by kernel_rfl) hag_
  have hf0 : Full (e5.addR 0 (.slice (some ⟨g1, 0, none⟩) c1 c1)) 0 c1 := full_addR _ _ _ _; have hnew0 : headOf ((e5.addR 0 (.slice (some ⟨g1, 0, none⟩) c1 c1)).r 0) = g1 := head_addR _ _ _ _
  replace hR := hR2_; clear hR2_ hR_ hR1_
  replace hB := hB_; clear hB_ hk hkF_ 
  have hgw := Nat.le_trans hsz_ hge
  have hrl_ : (List.replicate c1 0).length = c1 := List.length_replicate
  refine ⟨_, rfl, ?_⟩
  replace hI := hI.pt 10 (.rsl 0 0 1 c1) [10, 9, 0, 1]
  refine pZ tab [2] [] 1 [(0, .rsl 0 0 1 c1)] [1] hR hI fun e7 a7 w7 hag hR hI => ?_
  have hA := hag
  refine ops_nil (then_n ?_)
  refine rK tab 1 [] [] [] [0] [] [] [⟨0, 102, 1, c1, ((ints .u64 (List.replicate c1 0)).set 0 (.int .u64 (x : Int)))⟩] [] 1 hR hI (.cons (by omega : (0 : Int) ≤ (0 : Int) ∧ (0 : Int) < ((1 : Nat) : Int)) (.cons (by omega : 0 < c1 * 1) .nil)) fun e8 a8 w8 hag hR hI => ?_
  replace hA := hA.trans hag (by decide)
  rw [ints_set] at hR
  rw [(by rw [(put_nil (xs := List.replicate c1 0) (o := 0)).symm]; exact put_snoc (xs := List.replicate c1 0) (zs := []) (o := 0) (by simp only [List.length_nil]; omega) : ((List.replicate c1 0).set 0 x) = put (List.replicate c1 0) 0 [x])] at hR
  refine rZ tab 1 [(4, .rsl 0 0 1 c1)] [] hR hI fun e9 a9 w9 hag hR hI => ?_
  replace hA := hA.trans hag (by decide)
  refine wp_ret (oN tab [.rsl 0 0 1 c1] hR hI ?_)
  replace hf0 := tf hA hf0
  replace hnew0 := tg hA hnew0
  have hsl := rowOut (y := ⟨0, 102, 1, c1, (ints .u64 (put (List.replicate c1 0) 0 [x]))⟩) hR m0 hf0 rfl rfl (ndig_put (ndig_replicate _) (fun d h => by rw [List.mem_singleton] at h; omega)) (l := 1) (by rw [put_length (by simp only [List.length_singleton]; omega)]; omega) (by omega) (by omega) hnew0 hgw
  rw [put0_seg (zs := List.replicate c1 0) (rs := [x]) (n := 1) rfl (by omega)] at hsl
  exact ⟨_, 1, c1, [x], rfl, rfl, hB.fin hR, hsl, .inr (by simp; omega), by simp [nval]⟩

theorem setNew_spec {C : Nat → Prop} {w : World} {ad : Option Addr} {xc : Nat} {xs : List Nat} (hx : Sl .u64 18446744073709551616 C w ad xc xs) (hn : 0 < xs.length) (hnb : xs.length ≤ 65536) :
    Calls P 67 #[.slice none 0 0, .slice ad xs.length xc] w fun ex w' => ∃ ad l c rs, ex = .returned (.slice ad l c) ∧ rs.length = l ∧ KS w w' ∧ Sl .u64 18446744073709551616 (fun b => w.heap.size ≤ b) w' ad c rs ∧  rs = xs := by
 refine dN (C := C) [vS none 0 0, vS ad xs.length xc] 13 2 Tryz.func67 fun a_ hI hR hB => ?_
 replace hI : Is 13 [] e0 [(0, vS none 0 0), (1, vS ad xs.length xc)] a_ := hI
 refine rZ tab 0 [] [0, 1] hR hI fun e1 a1 w1 hag hR hI => ?_
 refine wp_seq (reg (is := [0, 1, 2, 3, 4]) (by kernel_rfl) ?_)
 refine pZ tab [0, 1, 2] [3, 4] 0 [(7, vI xs.length), (5, vS none 0 0)] [0, 1] hR hI fun e2 a2 w2 hag hR hI => ?_
 refine cO [vS none 0 0, vI xs.length] hI Tryz.func78 ?_
 have hsz_ := (hB.fin hR).size
 refine (makeNew_spec (C := Now hB) (n := xs.length) (by omega) (by omega)).mono ?_
 rintro ex w3 ⟨g1, c1, rfl, hk, hge, hwg, hc1, hc2⟩
 replace hk := keepBut0 hk
 have hkF_ := hR.keepN hk all_no
 have hR_ : Rel (Grow _ _ w3) w3 e2 [] [] w3 := hR.turnedN hk all_no all_no all_no
 have hM_ : ∀ b_ ∈ ([g1] : List Nat), _ ≤ b_ := (all_cons hge all_no)
 replace hx := hx.nextN hB hR hkF_ hM_
 have hB_ := hB.nextN hR hkF_ hM_; have hR1_ := hR_.shrinkN (M := [g1])
 obtain ⟨hfr1_, hfr2_⟩ := hR.fresh (H' := []) (G' := []) all_no all_no hge
 obtain ⟨hag_, hR2_⟩ := hR1_.gotRow (L := []) (k := 0) (g := g1) (n := c1) (t := 102) (xs := (ints .u64 (List.replicate c1 0))) (by kernel_rfl) hwg (by rw [ints_length, List.length_replicate]) (by omega) (fun hf_ => hf_.2.1 m0) hfr1_ hfr2_
 replace hI := hI.agreeB (H := []) (G := []) (by kernel_rfl) hag_
 have hf0 : Full (e2.addR 0 (.slice (some ⟨g1, 0, none⟩) c1 c1)) 0 c1 := full_addR _ _ _ _; have hnew0 : headOf ((e2.addR 0 (.slice (some ⟨g1, 0, none⟩) c1 c1)).r 0) = g1 := head_addR _ _ _ _
 replace hR := hR2_; clear hR2_ hR_ hR1_
 replace hB := hB_; clear hB_ hk hkF_ 
 have hgw := Nat.le_trans hsz_ hge
 have hrl_ : (List.replicate c1 0).length = c1 := List.length_replicate
 refine ⟨_, rfl, ?_⟩
 replace hI := hI.pt 8 (.rsl 0 0 xs.length c1) [8, 7, 5, 0, 1]
 refine pZ tab [4] [] 1 [(0, .rsl 0 0 xs.length c1)] [1] hR hI fun e4 a4 w4 hag hR hI => ?_
 have hA := hag
 refine ops_nil (then_n ?_)
 refine wp_seq (reg (is := [0, 1, 2]) (by kernel_rfl) ?_)
 refine pZ tab [0, 1] [2] 1 [(10, vS ad xs.length xc), (9, .rsl 0 0 xs.length c1)] [0] hR hI fun e5 a5 w5 hag hR hI => ?_
 replace hA := hA.trans hag (by decide)
 replace hf0 := tf hA hf0
 replace hnew0 := tg hA hnew0
 refine copyOp (sv := vS ad xs.length xc) (m := 0) (off := 0) (l := xs.length) (c := c1) (sl := xs.length) (sc := xc) (cs := ints .u64 xs) (y := ⟨0, 102, 1, c1, (ints .u64 (List.replicate c1 0))⟩) tab hR hI rfl rfl (by kernel_rfl) ⟨_, rfl, rfl, rfl, rfl⟩ rfl (by kernel_rfl) hf0 rfl (by kernel_rfl) (by kernel_rfl) rfl ((hx.now hB hR).cells) (by rw [ints_length]; exact (Nat.min_self _).symm) (by rw [ints_length]; (try dsimp only); omega) ints_one (fun a6 w6 hR hI => ?_)
 dsimp only at hR; rw [ints_put] at hR; replace hR := hR.sel [] [0] rfl rfl
 replace hI := hI.sl [11, 10, 9, 0] rfl
 refine ops_nil (then_n ?_)
 refine rZ tab 1 [(4, .rsl 0 0 xs.length c1)] [] hR hI fun e7 a7 w7 hag hR hI => ?_
 have hA := hag
 refine wp_ret (oN tab [.rsl 0 0 xs.length c1] hR hI ?_)
 replace hf0 := tf hA hf0
 replace hnew0 := tg hA hnew0
 have hsl := rowOut (y := ⟨0, 102, 1, c1, (ints .u64 (put (List.replicate c1 0) 0 xs))⟩) hR m0 hf0 rfl rfl (ndig_put (ndig_replicate _) hx.dig) (l := xs.length) (by rw [put_length (by omega)]; omega) (by omega) (by omega) hnew0 hgw
 rw [put0_seg rfl (by omega)] at hsl
 exact ⟨_, _, c1, xs, rfl, rfl, hB.fin hR, hsl, rfl⟩

theorem setNil_spec {C : Nat → Prop} {w : World} {ad : Option Addr} {xc : Nat} :
    Calls P 67 #[.slice none 0 0, .slice ad 0 xc] w fun ex w' => ex = .returned (.slice none 0 0) ∧ KS w w' := by
 refine dN (C := C) [vS none 0 0, vS ad 0 xc] 13 2 Tryz.func67 fun a_ hI hR hB => ?_
 replace hI : Is 13 [] e0 [(0, vS none 0 0), (1, vS ad 0 xc)] a_ := hI
 refine rZ tab 0 [] [0, 1] hR hI fun e1 a1 w1 hag hR hI => ?_
 refine wp_seq (reg (is := [0, 1, 2, 3, 4]) (by kernel_rfl) ?_)
 refine pZ tab [0, 1, 2] [3, 4] 0 [(7, .v (.int .i64 0)), (5, vS none 0 0)] [0, 1] hR hI fun e2 a2 w2 hag hR hI => ?_
 refine cO [vS none 0 0, .v (.int .i64 0)] hI Tryz.func78 ?_
 refine (makeNil_spec (C := C)).mono ?_
 rintro ex w3 ⟨rfl, hk⟩
 replace hR := hR.same hk; clear hk
 refine ⟨_, rfl, ?_⟩
 replace hI := hI.pt 8 (vS none 0 0) [8, 7, 5, 0, 1]
 refine pZ tab [4] [] 0 [] [0, 1] hR hI fun e4 a4 w4 hag hR hI => ?_
 refine ops_nil (then_n ?_)
 refine wp_seq (reg (is := [0, 1, 2]) (by kernel_rfl) ?_)
 refine pZ tab [0, 1] [2] 0 [(10, vS ad 0 xc), (9, vS none 0 0)] [0] hR hI fun e5 a5 w5 hag hR hI => ?_
 refine rawOp (x := .v (.int .i64 0)) hI rfl rfl (by kernel_rfl) (fun ev hev => by have ht_ := (tab.get (t := 82) rfl).k; have h_ := run_copy_none (P := P) w5 82 82 3 102 none ad 0 0 0 xc ht_.1 ht_.2 rfl; simp [execOp, resolve, hev (.tmp 9) _ rfl, hev (.tmp 10) _ rfl, invoke, builtin, den, h_, goInt]) (fun a6 hI => ?_)
 replace hI := hI.sl [11, 10, 9, 0] rfl
 refine ops_nil (then_n ?_)
 refine rZ tab 0 [(4, vS none 0 0)] [] hR hI fun e7 a7 w7 hag hR hI => ?_
 refine wp_ret (oN tab [vS none 0 0] hR hI ?_)
 exact ⟨rfl, hB.fin hR⟩

theorem setSelf_spec {C : Nat → Prop} {w : World} {g N c n : Nat} {zs : List Nat} (hz : w.heap[g]? = some (.cells (ints .u64 zs).toArray 102)) (hzl : zs.length = N) (hzm : N ≤ 9223372036854775807) (hCg : ¬ C g) (hzd : Ndig zs) (hfit : n ≤ N) (hnc : n ≤ c) (hcm : c ≤ 9223372036854775807) :
    Calls P 67 #[.slice (some ⟨g, 0, none⟩) n c, .slice (some ⟨g, 0, none⟩) n c] w fun ex w' => ex = .returned (.slice (some ⟨g, 0, none⟩) n c) ∧ Keep (ButN [g] w) w w' ∧ w'.heap[g]? = some (.cells (ints .u64 zs).toArray 102) := by
 refine doorN (e := (e0.addR 0 (.slice (some ⟨g, 0, none⟩) N N))) (vs := [.rsl 0 0 n c, .rsl 0 0 n c]) (n := 13) (m := 2) Tryz.func67 rfl rfl rfl (by decide) fun a_ hI => ?_
 replace hI : Is 13 [] (e0.addR 0 (.slice (some ⟨g, 0, none⟩) N N)) [(0, .rsl 0 0 n c), (1, .rsl 0 0 n c)] a_ := hI
 have hf0 : Full (e0.addR 0 (.slice (some ⟨g, 0, none⟩) N N)) 0 N := rfl; have hg0 : headOf ((e0.addR 0 (.slice (some ⟨g, 0, none⟩) N N)).r 0) = g := rfl
 have hR : Rel (ButN [g] w) w (e0.addR 0 (.slice (some ⟨g, 0, none⟩) N N)) [] [⟨0, 102, 1, N, (ints .u64 zs)⟩] w := Rel.startN (fun k_ h_ => h_.1) all_no (all_cons ⟨ownsRow_fullN hz (by first | exact hzl | (rw [ints_length]; exact hzl)) hzm, fun g_ he_ => by cases he_; exact (fun hm_ => hm_.2 m0)⟩ all_no) all_no all_no (all_cons (all_cons (fun hn_ => absurd rfl hn_) all_no) all_no)
 have hB : BaseD (ButN [g] w) C w C (ButN [g] w) w := BaseD.start (fun k_ hC_ hlt_ => ⟨hlt_, notin2 (fun he_ => hCg (he_ ▸ hC_)) (fun hm_ => by cases hm_)⟩)
 have hd0 := hzd
 refine rZ tab 1 [] [0, 1] hR hI fun e1 a1 w1 hag hR hI => ?_
 have hA := hag
 refine wp_seq (reg (is := [0, 1, 2, 3, 4]) (by kernel_rfl) ?_)
 refine pZ tab [0, 1, 2] [3, 4] 1 [(7, vI n), (5, .rsl 0 0 n c)] [0, 1] hR hI fun e2 a2 w2 hag hR hI => ?_
 replace hA := hA.trans hag (by decide)
 refine cO [.rsl 0 0 n c, vI n] hI Tryz.func78 ?_
 refine (makeOld_spec (C := C) hnc).mono ?_
 rintro ex w3 ⟨rfl, hk⟩
 replace hR := hR.same hk; clear hk
 refine ⟨_, rfl, ?_⟩
 replace hI := hI.pt 8 (.rsl 0 0 n c) [8, 7, 5, 0, 1]
 refine pZ tab [4] [] 1 [] [0, 1] hR hI fun e4 a4 w4 hag hR hI => ?_
 replace hA := hA.trans hag (by decide)
 refine ops_nil (then_n ?_)
 refine wp_seq (reg (is := [0, 1, 2]) (by kernel_rfl) ?_)
 refine pZ tab [0, 1] [2] 1 [(10, .rsl 0 0 n c), (9, .rsl 0 0 n c)] [0] hR hI fun e5 a5 w5 hag hR hI => ?_
 replace hA := hA.trans hag (by decide)
 replace hf0 := tf hA hf0
 replace hg0 := tg hA hg0
 refine copyOp (sv := .rsl 0 0 n c) (m := 0) (off := 0) (l := n) (c := c) (sl := n) (sc := c) (cs := ints .u64 ((zs.drop 0).take n)) (y := ⟨0, 102, 1, N, (ints .u64 zs)⟩) tab hR hI rfl rfl (by kernel_rfl) ⟨_, rfl, rfl, rfl, rfl⟩ rfl (by kernel_rfl) hf0 rfl (by kernel_rfl) (by kernel_rfl) rfl ((hR.rowRead (y := ⟨0, 102, 1, N, (ints .u64 zs)⟩) m0 hf0 rfl rfl hd0 0 n (by omega) (c := c) (by omega) (by omega)).cells) (by rw [ints_length, seg_length (by omega)]; exact (Nat.min_self _).symm) (by rw [ints_length, seg_length (by omega)]; (try dsimp only); omega) ints_one (fun a6 w6 hR hI => ?_)
 dsimp only at hR; rw [ints_put] at hR; replace hR := hR.sel [] [0] rfl rfl
 replace hI := hI.sl [11, 10, 9, 0] rfl
 refine ops_nil (then_n ?_)
 rw [(put_seg : (put zs 0 ((zs.drop 0).take n)) = zs)] at hR
 refine rZ tab 1 [(4, .rsl 0 0 n c)] [] hR hI fun e7 a7 w7 hag hR hI => ?_
 have hA := hag
 refine wp_ret (oN tab [.rsl 0 0 n c] hR hI ?_)
 replace hf0 := tf hA hf0
 replace hg0 := tg hA hg0
 exact ⟨by rw [← hg0]; rfl, hB.fin hR, (hR.rowFin (y := ⟨0, 102, 1, N, (ints .u64 zs)⟩) m0 hf0 rfl hg0)⟩

theorem saveN_spec {C : Nat → Prop} {w : World} {b : Nat} (hb : w.heap[b]? = some (.cells #[.pointer none] 124)) (hCb : ¬ C b) :
    Calls P 82 #[.pointer (some ⟨b, 0, none⟩)] w fun ex w' => ex = .returned (.int .i64 0) ∧ Keep (ButN [b] w) w w' ∧ w'.heap[b]? = some (.cells #[.pointer none] 124) := by
 refine doorN (e := (e0.addB 0 b)) (vs := [.p 0 0]) (n := 12) (m := 1) Tryz.func82 rfl rfl rfl (by decide) fun a_ hI => ?_
 replace hI : Is 12 [] (e0.addB 0 b) [(0, .p 0 0)] a_ := hI
 have hbk0 : (e0.addB 0 b).b 0 = b := rfl
 have hR : Rel (ButN [b] w) w (e0.addB 0 b) [⟨0, 124, [.v (.pointer none)]⟩] [] w := Rel.startN (fun k_ h_ => h_.1) (all_cons ⟨hb, (fun hm_ => hm_.2 m0)⟩ all_no) all_no (all_cons (all_cons (fun hn_ => absurd rfl hn_) all_no) all_no) (all_cons all_no all_no) all_no
 have hB : BaseD (ButN [b] w) C w C (ButN [b] w) w := BaseD.start (fun k_ hC_ hlt_ => ⟨hlt_, notin2 (fun he_ => hCb (he_ ▸ hC_)) (fun hm_ => by cases hm_)⟩)
 refine rZ tab 1 [] [0] hR hI fun e1 a1 w1 hag hR hI => ?_
 have hA := hag
 refine rZ tab 1 [(3, .v (.pointer none))] [] hR hI fun e2 a2 w2 hag hR hI => ?_
 replace hA := hA.trans hag (by decide)
 refine wp_seq ?_
 refine rZ tab 1 [(9, vB true)] [3] hR hI fun e3 a3 w3 hag hR hI => ?_
 replace hA := hA.trans hag (by decide)
 refine cnd_t hI (by kernel_rfl) ?_
 refine rZ tab 1 [(2, .v (.int .i64 0))] [] hR hI fun e4 a4 w4 hag hR hI => ?_
 replace hA := hA.trans hag (by decide)
 refine wp_ret ?_
 refine ret_then ?_
 refine oN tab [.v (.int .i64 0)] hR hI ?_
 replace hbk0 := tb hA hbk0
 exact ⟨rfl, hB.fin hR, (by have h_ := (hR.blk ⟨0, 124, [.v (.pointer none)]⟩ m0).1; rw [hbk0] at h_; exact h_)⟩

theorem restoreN_spec {C : Nat → Prop} {w : World} {b : Nat} (hb : w.heap[b]? = some (.cells #[.pointer none] 124)) (hCb : ¬ C b) :
    CallsD P 81 #[.pointer (some ⟨b, 0, none⟩), .int .i64 0] .returning w fun ex u' w' => u' = .returning ∧ (ex = .returned (.tuple #[]) ∧ Keep (ButN [b] w) w w' ∧ w'.heap[b]? = some (.cells #[.pointer none] 124)) := by
 refine doorL (e := (e0.addB 0 b)) (vs := [.p 0 0, .v (.int .i64 0)]) (n := 14) (m := 2) Tryz.func81 rfl rfl rfl (by decide) fun a_ hI => ?_
 replace hI : Is 14 [] (e0.addB 0 b) [(0, .p 0 0), (1, .v (.int .i64 0))] a_ := hI
 have hbk0 : (e0.addB 0 b).b 0 = b := rfl
 have hR : Rel (ButN [b] w) w (e0.addB 0 b) [⟨0, 124, [.v (.pointer none)]⟩] [] w := Rel.startN (fun k_ h_ => h_.1) (all_cons ⟨hb, (fun hm_ => hm_.2 m0)⟩ all_no) all_no (all_cons (all_cons (fun hn_ => absurd rfl hn_) all_no) all_no) (all_cons all_no all_no) all_no
 have hB : BaseD (ButN [b] w) C w C (ButN [b] w) w := BaseD.start (fun k_ hC_ hlt_ => ⟨hlt_, notin2 (fun he_ => hCb (he_ ▸ hC_)) (fun hm_ => by cases hm_)⟩)
 refine rZ tab 1 [(4, .v (.pointer none))] [1] hR hI fun e1 a1 w1 hag hR hI => ?_
 have hA := hag
 refine wp_seq ?_
 refine rZ tab 1 [(10, vB true)] [4, 1] hR hI fun e2 a2 w2 hag hR hI => ?_
 replace hA := hA.trans hag (by decide)
 refine cnd_t hI (by kernel_rfl) ?_
 refine wp_ret ?_
 refine ret_then ?_
 refine oN tab [] hR hI ?_
 replace hbk0 := tb hA hbk0
 exact ⟨rfl, hB.fin hR, (by have h_ := (hR.blk ⟨0, 124, [.v (.pointer none)]⟩ m0).1; rw [hbk0] at h_; exact h_)⟩

theorem freeN_spec {C : Nat → Prop} {w : World} {b : Nat} (hb : w.heap[b]? = some (.cells #[.pointer none] 124)) (hCb : ¬ C b) :
    CallsD P 69 #[.pointer (some ⟨b, 0, none⟩)] .returning w fun ex u' w' => u' = .returning ∧ (ex = .returned (.tuple #[]) ∧ Keep (ButN [b] w) w w' ∧ w'.heap[b]? = some (.cells #[.pointer none] 124)) := by
 refine doorL (e := (e0.addB 0 b)) (vs := [.p 0 0]) (n := 11) (m := 1) Tryz.func69 rfl rfl rfl (by decide) fun a_ hI => ?_
 replace hI : Is 11 [] (e0.addB 0 b) [(0, .p 0 0)] a_ := hI
 have hbk0 : (e0.addB 0 b).b 0 = b := rfl
 have hR : Rel (ButN [b] w) w (e0.addB 0 b) [⟨0, 124, [.v (.pointer none)]⟩] [] w := Rel.startN (fun k_ h_ => h_.1) (all_cons ⟨hb, (fun hm_ => hm_.2 m0)⟩ all_no) all_no (all_cons (all_cons (fun hn_ => absurd rfl hn_) all_no) all_no) (all_cons all_no all_no) all_no
 have hB : BaseD (ButN [b] w) C w C (ButN [b] w) w := BaseD.start (fun k_ hC_ hlt_ => ⟨hlt_, notin2 (fun he_ => hCb (he_ ▸ hC_)) (fun hm_ => by cases hm_)⟩)
 refine rZ tab 1 [(2, .v (.pointer none))] [] hR hI fun e1 a1 w1 hag hR hI => ?_
 have hA := hag
 refine rZ tab 1 [(8, vB false)] [2] hR hI fun e2 a2 w2 hag hR hI => ?_
 replace hA := hA.trans hag (by decide)
 refine cnd_f hI (by kernel_rfl) ?_
 refine wp_skip ?_
 refine outE tab (xs := []) hR hI rfl (by kernel_rfl) ?_
 replace hbk0 := tb hA hbk0
 exact ⟨rfl, hB.fin hR, (by have h_ := (hR.blk ⟨0, 124, [.v (.pointer none)]⟩ m0).1; rw [hbk0] at h_; exact h_)⟩

theorem getStack_spec {C : Nat → Prop} {w : World} :
    Calls P 68 #[] w fun ex w' => ∃ b, ex = .returned (.pointer (some ⟨b, 0, none⟩)) ∧ KS w w' ∧ w.heap.size ≤ b ∧ w'.heap[b]? = some (.cells #[.pointer none] 124) := by
 refine dN (C := C) [] 3 0 Tryz.func68 fun a_ hI hR hB => ?_
 replace hI : Is 3 [] e0 [] a_ := hI
 refine rZ tab 0 [] [] hR hI fun e1 a1 w1 hag hR hI => ?_
 refine rK tab 0 [] [] [(0, .p 0 0)] [] [⟨0, 124, [.v (.pointer none)]⟩] [] [] [] 1 hR hI .nil fun e2 a2 w2 hag hR hI => ?_
 refine wp_ret (oN tab [.p 0 0] hR hI ?_)
 have hq_ := hR.blk (x := ⟨0, 124, [.v (.pointer none)]⟩) m0
 exact ⟨_, rfl, hB.fin hR, Nat.le_of_not_lt hq_.2, hq_.1⟩

theorem growN_spec {C : Nat → Prop} {w : World} {n : Nat} (hn : 0 < n) (hnb : n ≤ 65536) :
    Calls P 111 #[.slice none 0 0, .int .i64 (n : Int)] w fun ex w' => ∃ g c, ex = .returned (.slice (some ⟨g, 0, none⟩) 0 c) ∧ KS w w' ∧ w.heap.size ≤ g ∧ w'.heap[g]? = some (.cells (ints .u64 (List.replicate c 0)).toArray 102) ∧ n ≤ c ∧ c ≤ 9223372036854775807 := by
 refine dN (C := C) [vS none 0 0, vI n] 27 2 Tryz.func111 fun a_ hI hR hB => ?_
 replace hI : Is 27 [] e0 [(0, vS none 0 0), (1, vI n)] a_ := hI
 refine rZ tab 0 [] [0, 1] hR hI fun e1 a1 w1 hag hR hI => ?_
 refine wp_seq ?_
 refine rK tab 0 [(1, .eq (.bool false))] [] [(6, vB false)] [0, 1] [] [] [] [] 0 hR hI (.cons (congrArg Value.bool (decide_eq_false (by omega) : (decide ((n : Int) < (0 : Int))) = false)) .nil) fun e2 a2 w2 hag hR hI => ?_
 refine cnd_f hI (by kernel_rfl) ?_
 refine wp_skip ?_
 refine then_n ?_
 refine wp_seq ?_
 refine rK tab 0 [(5, .eq (.int .i64 0)), (6, .eq (.int .i64 (n : Int)))] [] [] [1, 0] [] [] [] [] 0 hR hI (.cons (congrArg (Value.int .i64) (by decide : IntKind.i64.wrap ((0 : Int) - (0 : Int)) = 0)) (.cons (wI ((n : Int) - (0 : Int)) (n : Int) (by omega) (by omega)) .nil)) fun e3 a3 w3 hag hR hI => ?_
 refine rK tab 0 [(1, .eq (.bool true))] [] [(16, vB true)] [1, 0] [] [] [] [] 0 hR hI (.cons (congrArg Value.bool (decide_eq_true (by omega) : (decide ((n : Int) > (0 : Int))) = true)) .nil) fun e4 a4 w4 hag hR hI => ?_
 refine cnd_t hI (by kernel_rfl) ?_
 refine reg (is := [0, 1, 2, 3, 4, 5, 6, 7, 8, 9]) (by kernel_rfl) ?_
 refine pK tab [0, 1, 2, 3, 4] [5, 6, 7, 8, 9] 0 [] [] [(21, vI n), (20, vS none 0 0)] [0] [] [] [] [] 0 hR hI (.cons (by omega : (0 : Int) ≤ (0 : Int) ∧ (0 : Int) ≤ (0 : Nat)) .nil) fun e5 a5 w5 hag hR hI => ?_
 refine growNil (kv := .i64) (k := 0) (m := n) tab hR hI rfl rfl (by kernel_rfl) ⟨_, rfl, rfl, rfl, rfl⟩ rfl rfl rfl rfl (by kernel_rfl) (by kernel_rfl) (by kernel_rfl) (by omega) (by omega) (by show _ * 8 ≤ _; omega) (fun a6 w6 g6 cap6 hge hcap0 hcmax0 hk hR hI => ?_)
 have hag_ := agree_addR e5 0 (.slice (some ⟨g6, 0, none⟩) cap6 cap6)
 have hf0 : Full (e5.addR 0 (.slice (some ⟨g6, 0, none⟩) cap6 cap6)) 0 cap6 := full_addR _ _ _ _; have hnew0 : headOf ((e5.addR 0 (.slice (some ⟨g6, 0, none⟩) cap6 cap6)).r 0) = g6 := head_addR _ _ _ _
 rw [show (List.replicate cap6 (.int .u64 0) : List Value) = ints .u64 (List.replicate cap6 0) from ints_replicate .u64 cap6 0] at hR
 clear hag_ hk
 replace hI := hI.sl [22, 21, 20, 0] rfl
 refine pK tab [6, 7, 8, 9] [] 1 [] [] [(0, .rsl 0 0 0 cap6)] [] [] [] [] [0] 1 hR hI (.cons (by omega : (0 : Int) ≤ (0 : Int) ∧ (0 : Int) ≤ (cap6 : Nat)) .nil) fun e7 a7 w7 hag hR hI => ?_
 have hA := hag
 refine ops_nil (then_n ?_)
 refine rZ tab 1 [(4, .rsl 0 0 0 cap6)] [] hR hI fun e8 a8 w8 hag hR hI => ?_
 replace hA := hA.trans hag (by decide)
 refine wp_ret (oN tab [.rsl 0 0 0 cap6] hR hI ?_)
 replace hf0 := tf hA hf0
 replace hnew0 := tg hA hnew0
 have hrc_ := hR.rowCells (y := ⟨0, 102, 1, cap6, (ints .u64 (List.replicate cap6 0))⟩) m0 hf0 rfl
 exact ⟨_, cap6, rfl, hB.fin hR, Nat.le_of_not_lt hrc_.2, hrc_.1, by omega, by omega⟩

theorem growW_spec {C : Nat → Prop} {w : World} {n : Nat} (hn : 0 < n) (hnb : n ≤ 65536) :
    Calls P 146 #[.slice none 0 0, .int .i64 (n : Int)] w fun ex w' => ∃ g c, ex = .returned (.slice (some ⟨g, 0, none⟩) 0 c) ∧ KS w w' ∧ w.heap.size ≤ g ∧ w'.heap[g]? = some (.cells (ints .u64 (List.replicate c 0)).toArray 102) ∧ n ≤ c ∧ c ≤ 9223372036854775807 := by
 refine dN (C := C) [vS none 0 0, vI n] 27 2 Tryz.func146 fun a_ hI hR hB => ?_
 replace hI : Is 27 [] e0 [(0, vS none 0 0), (1, vI n)] a_ := hI
 refine rZ tab 0 [] [0, 1] hR hI fun e1 a1 w1 hag hR hI => ?_
 refine wp_seq ?_
 refine rK tab 0 [(1, .eq (.bool false))] [] [(6, vB false)] [0, 1] [] [] [] [] 0 hR hI (.cons (congrArg Value.bool (decide_eq_false (by omega) : (decide ((n : Int) < (0 : Int))) = false)) .nil) fun e2 a2 w2 hag hR hI => ?_
 refine cnd_f hI (by kernel_rfl) ?_
 refine wp_skip ?_
 refine then_n ?_
 refine wp_seq ?_
 refine rK tab 0 [(5, .eq (.int .i64 0)), (6, .eq (.int .i64 (n : Int)))] [] [] [1, 0] [] [] [] [] 0 hR hI (.cons (congrArg (Value.int .i64) (by decide : IntKind.i64.wrap ((0 : Int) - (0 : Int)) = 0)) (.cons (wI ((n : Int) - (0 : Int)) (n : Int) (by omega) (by omega)) .nil)) fun e3 a3 w3 hag hR hI => ?_
 refine rK tab 0 [(1, .eq (.bool true))] [] [(16, vB true)] [1, 0] [] [] [] [] 0 hR hI (.cons (congrArg Value.bool (decide_eq_true (by omega) : (decide ((n : Int) > (0 : Int))) = true)) .nil) fun e4 a4 w4 hag hR hI => ?_
 refine cnd_t hI (by kernel_rfl) ?_
 refine reg (is := [0, 1, 2, 3, 4, 5, 6, 7, 8, 9]) (by kernel_rfl) ?_
 refine pK tab [0, 1, 2, 3, 4] [5, 6, 7, 8, 9] 0 [] [] [(21, vI n), (20, vS none 0 0)] [0] [] [] [] [] 0 hR hI (.cons (by omega : (0 : Int) ≤ (0 : Int) ∧ (0 : Int) ≤ (0 : Nat)) .nil) fun e5 a5 w5 hag hR hI => ?_
 refine growNil (kv := .i64) (k := 0) (m := n) tab hR hI rfl rfl (by kernel_rfl) ⟨_, rfl, rfl, rfl, rfl⟩ rfl rfl rfl rfl (by kernel_rfl) (by kernel_rfl) (by kernel_rfl) (by omega) (by omega) (by show _ * 8 ≤ _; omega) (fun a6 w6 g6 cap6 hge hcap0 hcmax0 hk hR hI => ?_)
 have hag_ := agree_addR e5 0 (.slice (some ⟨g6, 0, none⟩) cap6 cap6)
 have hf0 : Full (e5.addR 0 (.slice (some ⟨g6, 0, none⟩) cap6 cap6)) 0 cap6 := full_addR _ _ _ _; have hnew0 : headOf ((e5.addR 0 (.slice (some ⟨g6, 0, none⟩) cap6 cap6)).r 0) = g6 := head_addR _ _ _ _
 rw [show (List.replicate cap6 (.int .u64 0) : List Value) = ints .u64 (List.replicate cap6 0) from ints_replicate .u64 cap6 0] at hR
 clear hag_ hk
 replace hI := hI.sl [22, 21, 20, 0] rfl
 refine pK tab [6, 7, 8, 9] [] 1 [] [] [(0, .rsl 0 0 0 cap6)] [] [] [] [] [0] 1 hR hI (.cons (by omega : (0 : Int) ≤ (0 : Int) ∧ (0 : Int) ≤ (cap6 : Nat)) .nil) fun e7 a7 w7 hag hR hI => ?_
 have hA := hag
 refine ops_nil (then_n ?_)
 refine rZ tab 1 [(4, .rsl 0 0 0 cap6)] [] hR hI fun e8 a8 w8 hag hR hI => ?_
 replace hA := hA.trans hag (by decide)
 refine wp_ret (oN tab [.rsl 0 0 0 cap6] hR hI ?_)
 replace hf0 := tf hA hf0
 replace hnew0 := tg hA hnew0
 have hrc_ := hR.rowCells (y := ⟨0, 102, 1, cap6, (ints .u64 (List.replicate cap6 0))⟩) m0 hf0 rfl
 exact ⟨_, cap6, rfl, hB.fin hR, Nat.le_of_not_lt hrc_.2, hrc_.1, by omega, by omega⟩

theorem natS_spec {C : Nat → Prop} {w : World} {b n : Nat} (hb : w.heap[b]? = some (.cells #[.pointer none] 124)) (hCb : ¬ C b) (hn : 0 < n) (hnb : n ≤ 4) :
    Calls P 84 #[.pointer (some ⟨b, 0, none⟩), .int .i64 (n : Int)] w fun ex w' => ∃ g c zs, ex = .returned (.slice (some ⟨g, 0, none⟩) n c) ∧ Keep (ButN [b] w) w w' ∧ w'.heap[b]? = some (.cells #[.pointer none] 124) ∧ w.heap.size ≤ g ∧ w'.heap[g]? = some (.cells (ints .u64 zs).toArray 102) ∧ zs.length = c ∧ n ≤ c ∧ c ≤ 9223372036854775807 ∧ Ndig zs := by
 refine doorN (e := (e0.addB 0 b)) (vs := [.p 0 0, vI n]) (n := 33) (m := 2) Tryz.func84 rfl rfl rfl (by decide) fun a_ hI => ?_
 replace hI : Is 33 [] (e0.addB 0 b) [(0, .p 0 0), (1, vI n)] a_ := hI
 have hbk0 : (e0.addB 0 b).b 0 = b := rfl
 have hR : Rel (ButN [b] w) w (e0.addB 0 b) [⟨0, 124, [.v (.pointer none)]⟩] [] w := Rel.startN (fun k_ h_ => h_.1) (all_cons ⟨hb, (fun hm_ => hm_.2 m0)⟩ all_no) all_no (all_cons (all_cons (fun hn_ => absurd rfl hn_) all_no) all_no) (all_cons all_no all_no) all_no
 have hB : BaseD (ButN [b] w) C w C (ButN [b] w) w := BaseD.start (fun k_ hC_ hlt_ => ⟨hlt_, notin2 (fun he_ => hCb (he_ ▸ hC_)) (fun hm_ => by cases hm_)⟩)
 refine rZ tab 1 [] [0, 1] hR hI fun e1 a1 w1 hag hR hI => ?_
 have hA := hag
 refine rZ tab 1 [(5, .v (.pointer none))] [0, 1] hR hI fun e2 a2 w2 hag hR hI => ?_
 replace hA := hA.trans hag (by decide)
 refine wp_seq ?_
 refine rZ tab 1 [(12, vB true)] [5, 0, 1] hR hI fun e3 a3 w3 hag hR hI => ?_
 replace hA := hA.trans hag (by decide)
 refine cnd_t hI (by kernel_rfl) ?_
 refine wp_seq ?_
 refine rK tab 1 [(1, .eq (.bool true))] [] [(14, vB true)] [0, 1] [] [0] [] [] 1 hR hI (.cons (congrArg Value.bool (decide_eq_true (by omega) : (decide ((n : Int) ≤ (4 : Int))) = true)) .nil) fun e4 a4 w4 hag hR hI => ?_
 replace hA := hA.trans hag (by decide)
 refine cnd_t hI (by kernel_rfl) ?_
 refine wp_seq (reg (is := [0, 1, 2]) (by kernel_rfl) ?_)
 refine pZ tab [0] [1, 2] 1 [(15, vI n)] [1] hR hI fun e5 a5 w5 hag hR hI => ?_
 replace hA := hA.trans hag (by decide)
 refine cO [vS none 0 0, vI n] hI Tryz.func111 ?_
 have hsz_ := (hB.fin hR).size
 refine (growN_spec (C := Now hB) (n := n) (by omega) (by omega)).mono ?_
 rintro ex w6 ⟨g1, c1, rfl, hk, hge, hwg, hc1, hc2⟩
 replace hk := keepBut0 hk
 have hkF_ := hR.keepN hk all_no
 have hR_ : Rel (Grow _ _ w6) w6 e5 [⟨0, 124, [.v (.pointer none)]⟩] [] w6 := hR.turnedN hk all_no (all_cons ⟨⟨_, m0, rfl⟩, .inl ⟨m0, (fun hm_ => by cases hm_)⟩⟩ all_no) all_no
 have hM_ : ∀ b_ ∈ ([g1] : List Nat), _ ≤ b_ := (all_cons hge all_no)
 have hB_ := hB.nextN hR hkF_ hM_; have hR1_ := hR_.shrinkN (M := [g1])
 obtain ⟨hfr1_, hfr2_⟩ := hR.fresh (H' := [⟨0, 124, [.v (.pointer none)]⟩]) (G' := []) (all_cons ⟨_, m0, rfl⟩ all_no) all_no hge
 obtain ⟨hag_, hR2_⟩ := hR1_.gotRow (L := []) (k := 1) (g := g1) (n := c1) (t := 102) (xs := (ints .u64 (List.replicate c1 0))) (by kernel_rfl) hwg (by rw [ints_length, List.length_replicate]) (by omega) (fun hf_ => hf_.2.1 m0) hfr1_ hfr2_
 replace hI := hI.agreeB (H := []) (G := []) (by kernel_rfl) hag_
 replace hbk0 := tb hA hbk0
 replace hbk0 := tb hag_ hbk0
 have hf1 : Full (e5.addR 1 (.slice (some ⟨g1, 0, none⟩) c1 c1)) 1 c1 := full_addR _ _ _ _; have hnew1 : headOf ((e5.addR 1 (.slice (some ⟨g1, 0, none⟩) c1 c1)).r 1) = g1 := head_addR _ _ _ _
 replace hR := hR2_; clear hR2_ hR_ hR1_
 replace hB := hB_; clear hB_ hk hkF_ 
 have hgw := Nat.le_trans hsz_ hge
 have hrl_ : (List.replicate c1 0).length = c1 := List.length_replicate
 refine ⟨_, rfl, ?_⟩
 replace hI := hI.pt 16 (.rsl 1 0 0 c1) [16, 15, 1]
 refine pZ tab [2] [] 2 [(6, .rsl 1 0 0 c1)] [1] hR hI fun e7 a7 w7 hag hR hI => ?_
 have hA := hag
 refine ops_nil (then_n ?_)
 refine rK tab 2 [] [] [(6, .rsl 1 0 n c1)] [1] [] [0] [] [1] 2 hR hI (.cons (by omega : (0 : Int) ≤ (n : Int) ∧ (n : Int) ≤ (c1 : Nat)) .nil) fun e8 a8 w8 hag hR hI => ?_
 replace hA := hA.trans hag (by decide)
 refine wp_seq ?_
 refine rK tab 2 [(1, .eq (.bool true))] [] [(21, vB true)] [6] [] [0] [] [1] 2 hR hI (.cons (congrArg Value.bool (decide_eq_true (by omega) : (decide ((n : Int) > (0 : Int))) = true)) .nil) fun e9 a9 w9 hag hR hI => ?_
 replace hA := hA.trans hag (by decide)
 refine cnd_t hI (by kernel_rfl) ?_
 refine aK tab 2 [] [] [] [6] [] [0] [⟨1, 102, 1, c1, ((ints .u64 (List.replicate c1 0)).set 0 (.int .u64 11259375))⟩] [] 2 hR hI (.cons (by omega : (0 : Int) ≤ (0 : Int) ∧ (0 : Int) < (n : Int)) (.cons (by omega : 0 < c1 * 1) .nil)) fun e10 a10 w10 hag hR hI => ?_
 replace hA := hA.trans hag (by decide)
 rw [ints_setL (x := 11259375) (v := 11259375) rfl] at hR
 refine then_n ?_
 refine rZ tab 2 [(4, .rsl 1 0 n c1)] [] hR hI fun e11 a11 w11 hag hR hI => ?_
 replace hA := hA.trans hag (by decide)
 refine wp_ret ?_
 refine ret_then ?_
 refine ret_then ?_
 refine oN tab [.rsl 1 0 n c1] hR hI ?_
 replace hbk0 := tb hA hbk0
 replace hf1 := tf hA hf1
 replace hnew1 := tg hA hnew1
 have hrc_ := (hR.rowCells (y := ⟨1, 102, 1, c1, (ints .u64 ((List.replicate c1 0).set 0 11259375))⟩) m0 hf1 rfl).1
 exact ⟨_, c1, ((List.replicate c1 0).set 0 11259375), rfl, hB.fin hR, (by have h_ := (hR.blk ⟨0, 124, [.v (.pointer none)]⟩ m0).1; rw [hbk0] at h_; exact h_), (by rw [hnew1]; exact hgw), hrc_, by simp, by omega, by omega, ndig_set (ndig_replicate _) _ (by decide)⟩

theorem inat_spec {C : Nat → Prop} {w : World} {b : Nat} (hb : w.heap[b]? = some (.cells #[.slice none 0 0] 148)) (hCb : ¬ C b) :
    Calls P 112 #[.pointer (some ⟨b, 0, none⟩), .int .i64 5] w fun ex w' => ∃ g c zs, ex = .returned (.slice (some ⟨g, 0, none⟩) 5 5) ∧ Keep (ButN [b] w) w w' ∧ w'.heap[b]? = some (.cells #[.slice (some ⟨g, 0, none⟩) 8 c] 148) ∧ w.heap.size ≤ g ∧ w'.heap[g]? = some (.cells (ints .u64 zs).toArray 102) ∧ zs.length = c ∧ 8 ≤ c ∧ c ≤ 9223372036854775807 ∧ Ndig zs := by
 refine doorN (e := (e0.addB 0 b)) (vs := [.p 0 0, .v (.int .i64 5)]) (n := 53) (m := 2) Tryz.func112 rfl rfl rfl (by decide) fun a_ hI => ?_
 replace hI : Is 53 [] (e0.addB 0 b) [(0, .p 0 0), (1, .v (.int .i64 5))] a_ := hI
 have hbk0 : (e0.addB 0 b).b 0 = b := rfl
 have hR : Rel (ButN [b] w) w (e0.addB 0 b) [⟨0, 148, [vS none 0 0]⟩] [] w := Rel.startN (fun k_ h_ => h_.1) (all_cons ⟨hb, (fun hm_ => hm_.2 m0)⟩ all_no) all_no (all_cons (all_cons (fun hn_ => absurd rfl hn_) all_no) all_no) (all_cons all_no all_no) all_no
 have hB : BaseD (ButN [b] w) C w C (ButN [b] w) w := BaseD.start (fun k_ hC_ hlt_ => ⟨hlt_, notin2 (fun he_ => hCb (he_ ▸ hC_)) (fun hm_ => by cases hm_)⟩)
 refine rZ tab 1 [] [0, 1] hR hI fun e1 a1 w1 hag hR hI => ?_
 have hA := hag
 refine rK tab 1 [(1, .nw), (2, .eq (.int .i64 8))] [] [(5, .v (.int .i64 8))] [0, 1] [] [0] [] [] 1 hR hI (.cons (inR_i64 (n := (5 : Int) + (3 : Int)) (by omega)) (.cons (congrArg (Value.int .i64) (by decide : bits .andNot .i64 ((5 : Int) + (3 : Int)) (3 : Int) = 8)) .nil)) fun e2 a2 w2 hag hR hI => ?_
 replace hA := hA.trans hag (by decide)
 refine rZ tab 1 [(6, .v (.int .i64 0))] [5, 0, 1] hR hI fun e3 a3 w3 hag hR hI => ?_
 replace hA := hA.trans hag (by decide)
 refine wp_seq (reg (is := [0, 1, 2, 3, 4, 5, 6, 7, 8, 9]) (by kernel_rfl) ?_)
 refine pZ tab [0, 1, 2, 3, 4, 5] [6, 7, 8, 9] 1 [(21, .v (.int .i64 8)), (20, vS none 0 0), (16, .p 0 0)] [6, 5, 0, 1] hR hI fun e4 a4 w4 hag hR hI => ?_
 replace hA := hA.trans hag (by decide)
 refine cO [vS none 0 0, .v (.int .i64 8)] hI Tryz.func146 ?_
 have hsz_ := (hB.fin hR).size
 refine (growW_spec (C := Now hB) (n := 8) (by decide) (by decide)).mono ?_
 rintro ex w5 ⟨g1, c1, rfl, hk, hge, hwg, hc1, hc2⟩
 replace hk := keepBut0 hk
 have hkF_ := hR.keepN hk all_no
 have hR_ : Rel (Grow _ _ w5) w5 e4 [⟨0, 148, [vS none 0 0]⟩] [] w5 := hR.turnedN hk all_no (all_cons ⟨⟨_, m0, rfl⟩, .inl ⟨m0, (fun hm_ => by cases hm_)⟩⟩ all_no) all_no
 have hM_ : ∀ b_ ∈ ([g1] : List Nat), _ ≤ b_ := (all_cons hge all_no)
 have hB_ := hB.nextN hR hkF_ hM_; have hR1_ := hR_.shrinkN (M := [g1])
 obtain ⟨hfr1_, hfr2_⟩ := hR.fresh (H' := [⟨0, 148, [vS none 0 0]⟩]) (G' := []) (all_cons ⟨_, m0, rfl⟩ all_no) all_no hge
 obtain ⟨hag_, hR2_⟩ := hR1_.gotRow (L := []) (k := 1) (g := g1) (n := c1) (t := 102) (xs := (ints .u64 (List.replicate c1 0))) (by kernel_rfl) hwg (by rw [ints_length, List.length_replicate]) (by omega) (fun hf_ => hf_.2.1 m0) hfr1_ hfr2_
 replace hI := hI.agreeB (H := []) (G := []) (by kernel_rfl) hag_
 replace hbk0 := tb hA hbk0
 replace hbk0 := tb hag_ hbk0
 have hf1 : Full (e4.addR 1 (.slice (some ⟨g1, 0, none⟩) c1 c1)) 1 c1 := full_addR _ _ _ _; have hnew1 : headOf ((e4.addR 1 (.slice (some ⟨g1, 0, none⟩) c1 c1)).r 1) = g1 := head_addR _ _ _ _
 replace hR := hR2_; clear hR2_ hR_ hR1_
 replace hB := hB_; clear hB_ hk hkF_ 
 have hgw := Nat.le_trans hsz_ hge
 have hrl_ : (List.replicate c1 0).length = c1 := List.length_replicate
 refine ⟨_, rfl, ?_⟩
 replace hI := hI.pt 22 (.rsl 1 0 0 c1) [22, 21, 20, 16, 6, 5, 0, 1]
 refine pK tab [7, 8, 9] [] 2 [] [] [] [6, 5, 0, 1] [⟨0, 148, [.rsl 1 0 0 c1]⟩] [] [] [1] 2 hR hI .nil fun e6 a6 w6 hag hR hI => ?_
 have hA := hag
 refine ops_nil (then_n ?_)
 refine rK tab 2 [(7, .eq (.int .i64 8))] [] [] [6, 0, 1] [⟨0, 148, [.rsl 1 0 8 c1]⟩] [] [] [1] 2 hR hI (.cons (congrArg (Value.int .i64) (by decide : IntKind.i64.wrap ((0 : Int) + (8 : Int)) = 8)) (.cons (by omega : (0 : Int) ≤ (8 : Int) ∧ (8 : Int) ≤ (c1 : Nat)) .nil)) fun e7 a7 w7 hag hR hI => ?_
 replace hA := hA.trans hag (by decide)
 refine rK tab 2 [(7, .eq (.int .i64 5)), (10, .eq (.int .i64 5))] [] [(7, .rsl 1 0 5 5)] [1] [] [0] [] [1] 2 hR hI (.cons (congrArg (Value.int .i64) (by decide : IntKind.i64.wrap ((0 : Int) + (5 : Int)) = 5)) (.cons (congrArg (Value.int .i64) (by decide : IntKind.i64.wrap ((0 : Int) + (5 : Int)) = 5)) (.cons (by omega : (0 : Int) ≤ (0 : Int) ∧ (0 : Int) ≤ (5 : Int) ∧ (5 : Int) ≤ (5 : Int) ∧ (5 : Int) ≤ (c1 : Nat)) (.cons (by omega : (0 : Int) < (5 : Int) ∨ ((0 : Int) : Int) = 0) .nil)))) fun e8 a8 w8 hag hR hI => ?_
 replace hA := hA.trans hag (by decide)
 refine wp_seq ?_
 refine rZ tab 2 [(49, vB true)] [7] hR hI fun e9 a9 w9 hag hR hI => ?_
 replace hA := hA.trans hag (by decide)
 refine cnd_t hI (by kernel_rfl) ?_
 refine aK tab 2 [] [] [] [7] [] [0] [⟨1, 102, 1, c1, ((ints .u64 (List.replicate c1 0)).set 0 (.int .u64 1043915))⟩] [] 2 hR hI (.cons (by omega : (0 : Int) ≤ (0 : Int) ∧ (0 : Int) < ((5 : Nat) : Int)) (.cons (by omega : 0 < c1 * 1) .nil)) fun e10 a10 w10 hag hR hI => ?_
 replace hA := hA.trans hag (by decide)
 rw [ints_setL (x := 1043915) (v := 1043915) rfl] at hR
 refine then_n ?_
 refine rZ tab 2 [(4, .rsl 1 0 5 5)] [] hR hI fun e11 a11 w11 hag hR hI => ?_
 replace hA := hA.trans hag (by decide)
 refine wp_ret (oN tab [.rsl 1 0 5 5] hR hI ?_)
 replace hbk0 := tb hA hbk0
 replace hf1 := tf hA hf1
 replace hnew1 := tg hA hnew1
 have hrc_ := (hR.rowCells (y := ⟨1, 102, 1, c1, (ints .u64 ((List.replicate c1 0).set 0 1043915))⟩) m0 hf1 rfl).1
 have hbb_ := (hR.blk ⟨0, 148, [.rsl 1 0 8 c1]⟩ m0).1
 rw [hbk0] at hbb_
 exact ⟨_, c1, ((List.replicate c1 0).set 0 1043915), rfl, hB.fin hR, hbb_, (by rw [hnew1]; exact hgw), hrc_, by simp, by omega, by omega, ndig_set (ndig_replicate _) _ (by decide)⟩

theorem irestore_spec {C : Nat → Prop} {w : World} {b2 g2 l c : Nat} (hb2 : w.heap[b2]? = some (.cells #[.slice (some ⟨g2, 0, none⟩) l c] 148)) (hCb2 : ¬ C b2) (hc : c ≤ 9223372036854775807) :
    Calls P 108 #[.pointer (some ⟨b2, 0, none⟩), .int .i64 0] w fun ex w' => ex = .returned (.tuple #[]) ∧ Keep (ButN [b2] w) w w' ∧ w'.heap[b2]? = some (.cells #[.slice (some ⟨g2, 0, none⟩) 0 c] 148) := by
 refine doorN (e := (e0.addB 0 b2)) (vs := [.p 0 0, .v (.int .i64 0)]) (n := 13) (m := 2) Tryz.func108 rfl rfl rfl (by decide) fun a_ hI => ?_
 replace hI : Is 13 [] (e0.addB 0 b2) [(0, .p 0 0), (1, .v (.int .i64 0))] a_ := hI
 have hbk0 : (e0.addB 0 b2).b 0 = b2 := rfl
 have hR : Rel (ButN [b2] w) w (e0.addB 0 b2) [⟨0, 148, [vS (some ⟨g2, 0, none⟩) l c]⟩] [] w := Rel.startN (fun k_ h_ => h_.1) (all_cons ⟨hb2, (fun hm_ => hm_.2 m0)⟩ all_no) all_no (all_cons (all_cons (fun hn_ => absurd rfl hn_) all_no) all_no) (all_cons all_no all_no) all_no
 have hB : BaseD (ButN [b2] w) C w C (ButN [b2] w) w := BaseD.start (fun k_ hC_ hlt_ => ⟨hlt_, notin2 (fun he_ => hCb2 (he_ ▸ hC_)) (fun hm_ => by cases hm_)⟩)
 refine aK tab 1 [] [] [] [] [⟨0, 148, [vS (some ⟨g2, 0, none⟩) 0 c]⟩] [] [] [] 1 hR hI (.cons (by omega : (0 : Int) ≤ (0 : Int) ∧ (0 : Int) ≤ (c : Nat)) .nil) fun e1 a1 w1 hag hR hI => ?_
 have hA := hag
 refine outE tab (xs := []) hR hI rfl (by kernel_rfl) ?_
 replace hbk0 := tb hA hbk0
 exact ⟨rfl, hB.fin hR, (by have h_ := (hR.blk ⟨0, 148, [vS (some ⟨g2, 0, none⟩) 0 c]⟩ m0).1; rw [hbk0] at h_; exact h_)⟩

theorem ifree_spec {C : Nat → Prop} {w : World} {b2 g2 l c : Nat} (hb2 : w.heap[b2]? = some (.cells #[.slice (some ⟨g2, 0, none⟩) l c] 148)) (hCb2 : ¬ C b2) (hc : c ≤ 9223372036854775807) :
    Calls P 80 #[.pointer (some ⟨b2, 0, none⟩)] w fun ex w' => ex = .returned (.tuple #[]) ∧ Keep (ButN [b2] w) w w' ∧ w'.heap[b2]? = some (.cells #[.slice (some ⟨g2, 0, none⟩) 0 c] 148) := by
 refine doorN (e := (e0.addB 0 b2)) (vs := [.p 0 0]) (n := 10) (m := 1) Tryz.func80 rfl rfl rfl (by decide) fun a_ hI => ?_
 replace hI : Is 10 [] (e0.addB 0 b2) [(0, .p 0 0)] a_ := hI
 have hbk0 : (e0.addB 0 b2).b 0 = b2 := rfl
 have hR : Rel (ButN [b2] w) w (e0.addB 0 b2) [⟨0, 148, [vS (some ⟨g2, 0, none⟩) l c]⟩] [] w := Rel.startN (fun k_ h_ => h_.1) (all_cons ⟨hb2, (fun hm_ => hm_.2 m0)⟩ all_no) all_no (all_cons (all_cons (fun hn_ => absurd rfl hn_) all_no) all_no) (all_cons all_no all_no) all_no
 have hB : BaseD (ButN [b2] w) C w C (ButN [b2] w) w := BaseD.start (fun k_ hC_ hlt_ => ⟨hlt_, notin2 (fun he_ => hCb2 (he_ ▸ hC_)) (fun hm_ => by cases hm_)⟩)
 refine aK tab 1 [] [] [] [] [⟨0, 148, [vS (some ⟨g2, 0, none⟩) 0 c]⟩] [] [] [] 1 hR hI (.cons (by omega : (0 : Int) ≤ (0 : Int) ∧ (0 : Int) ≤ (c : Nat)) .nil) fun e1 a1 w1 hag hR hI => ?_
 have hA := hag
 refine outE tab (xs := []) hR hI rfl (by kernel_rfl) ?_
 replace hbk0 := tb hA hbk0
 exact ⟨rfl, hB.fin hR, (by have h_ := (hR.blk ⟨0, 148, [vS (some ⟨g2, 0, none⟩) 0 c]⟩ m0).1; rw [hbk0] at h_; exact h_)⟩

theorem natB_spec {C : Nat → Prop} {w : World} {b : Nat} (hb : w.heap[b]? = some (.cells #[.pointer none] 124)) (hCb : ¬ C b) :
    Calls P 84 #[.pointer (some ⟨b, 0, none⟩), .int .i64 5] w fun ex w' => ∃ b2 g c zs, ex = .returned (.slice (some ⟨g, 0, none⟩) 5 5) ∧ Keep (ButN [b] w) w w' ∧ w'.heap[b]? = some (.cells #[.pointer (some ⟨b2, 0, none⟩)] 124) ∧ w'.heap[b2]? = some (.cells #[.slice (some ⟨g, 0, none⟩) 8 c] 148) ∧ w.heap.size ≤ b2 ∧ b2 ≠ g ∧ w.heap.size ≤ g ∧ w'.heap[g]? = some (.cells (ints .u64 zs).toArray 102) ∧ zs.length = c ∧ 8 ≤ c ∧ c ≤ 9223372036854775807 ∧ Ndig zs := by
 refine doorN (e := (e0.addB 0 b)) (vs := [.p 0 0, .v (.int .i64 5)]) (n := 33) (m := 2) Tryz.func84 rfl rfl rfl (by decide) fun a_ hI => ?_
 replace hI : Is 33 [] (e0.addB 0 b) [(0, .p 0 0), (1, .v (.int .i64 5))] a_ := hI
 have hbk0 : (e0.addB 0 b).b 0 = b := rfl
 have hR : Rel (ButN [b] w) w (e0.addB 0 b) [⟨0, 124, [.v (.pointer none)]⟩] [] w := Rel.startN (fun k_ h_ => h_.1) (all_cons ⟨hb, (fun hm_ => hm_.2 m0)⟩ all_no) all_no (all_cons (all_cons (fun hn_ => absurd rfl hn_) all_no) all_no) (all_cons all_no all_no) all_no
 have hB : BaseD (ButN [b] w) C w C (ButN [b] w) w := BaseD.start (fun k_ hC_ hlt_ => ⟨hlt_, notin2 (fun he_ => hCb (he_ ▸ hC_)) (fun hm_ => by cases hm_)⟩)
 refine rZ tab 1 [] [0, 1] hR hI fun e1 a1 w1 hag hR hI => ?_
 have hA := hag
 refine rZ tab 1 [(5, .v (.pointer none))] [0, 1] hR hI fun e2 a2 w2 hag hR hI => ?_
 replace hA := hA.trans hag (by decide)
 refine wp_seq ?_
 refine rZ tab 1 [(12, vB true)] [5, 0, 1] hR hI fun e3 a3 w3 hag hR hI => ?_
 replace hA := hA.trans hag (by decide)
 refine cnd_t hI (by kernel_rfl) ?_
 refine wp_seq ?_
 refine rZ tab 1 [(14, vB false)] [0, 1] hR hI fun e4 a4 w4 hag hR hI => ?_
 replace hA := hA.trans hag (by decide)
 refine cnd_f hI (by kernel_rfl) ?_
 refine wp_skip ?_
 refine then_n ?_
 refine rK tab 1 [] [] [(5, .p 1 0)] [0, 1] [⟨1, 148, [vS none 0 0]⟩] [0] [] [] 2 hR hI .nil fun e5 a5 w5 hag hR hI => ?_
 replace hA := hA.trans hag (by decide)
 refine aK tab 2 [] [] [] [5, 1] [⟨0, 124, [.p 1 0]⟩] [1] [] [] 2 hR hI .nil fun e6 a6 w6 hag hR hI => ?_
 replace hA := hA.trans hag (by decide)
 refine then_n ?_
 refine wp_seq (reg (is := [0, 1, 2, 3]) (by kernel_rfl) ?_)
 refine pZ tab [0, 1] [2, 3] 2 [(31, .v (.int .i64 5)), (30, .p 1 0)] [] hR hI fun e7 a7 w7 hag hR hI => ?_
 replace hA := hA.trans hag (by decide)
 refine cO [.p 1 0, .v (.int .i64 5)] hI Tryz.func112 ?_
 replace hbk0 := tb hA hbk0
 have hsz_ := (hB.fin hR).size
 have hbn_ := (hR.blk ⟨1, 148, [vS none 0 0]⟩ m1).2
 have hne_ := hR.hh _ m1 _ m0 (by dsimp only; decide)
 obtain ⟨b2, hbk1⟩ : ∃ b2, e7.b 1 = b2 := ⟨_, rfl⟩
 dsimp only at hbn_ hne_
 rw [hbk1] at hbn_ hne_
 rw [hbk0] at hne_
 have hb2n : w.heap.size ≤ b2 := Nat.le_of_not_lt fun h_ => hbn_ ⟨h_, fun hm_ => hne_ (List.mem_singleton.1 hm_)⟩
 have hq1_ := hR.blk ⟨1, 148, [vS none 0 0]⟩ m1
 refine (inat_spec (C := Now hB) hq1_.1 (fun h_ => hq1_.2 h_.2)).mono ?_
 rintro ex w8 ⟨g1, c1, zs, rfl, hk, hw1, hge, hwg, hzl, hc1, hc2, hzd⟩
 have hkF_ := hR.keepN hk (all_cons hq1_.2 all_no)
 have hR_ : Rel (Grow _ _ w8) w8 e7 [⟨0, 124, [.p 1 0]⟩, ⟨1, 148, [vS (some ⟨g1, 0, none⟩) 8 c1]⟩] [] w8 := hR.turnedN hk (all_cons hq1_.2 all_no) (all_cons ⟨⟨_, m0, rfl⟩, .inl ⟨m0, (notin2 (hR.hh _ m0 _ m1 (by dsimp only; decide)) (fun hm_ => by cases hm_))⟩⟩ (all_cons ⟨⟨_, m1, rfl⟩, .inr hw1⟩ all_no)) all_no
 have hM_ : ∀ b_ ∈ ([g1] : List Nat), _ ≤ b_ := (all_cons hge all_no)
 have hB_ := hB.nextN hR hkF_ hM_; have hR1_ := hR_.shrinkN (M := [g1])
 obtain ⟨hfr1_, hfr2_⟩ := hR.fresh (H' := [⟨0, 124, [.p 1 0]⟩, ⟨1, 148, [vS (some ⟨g1, 0, none⟩) 8 c1]⟩]) (G' := []) (all_cons ⟨_, m0, rfl⟩ (all_cons ⟨_, m1, rfl⟩ all_no)) all_no hge
 obtain ⟨hag_, hR2_⟩ := hR1_.gotRow (L := []) (k := 2) (g := g1) (n := c1) (t := 102) (xs := (ints .u64 zs)) (by kernel_rfl) hwg (by rw [ints_length]; exact hzl) (by omega) (fun hf_ => hf_.2.1 m0) hfr1_ hfr2_
 replace hI := hI.agreeB (H := []) (G := []) (by kernel_rfl) hag_
 replace hbk0 := tb hag_ hbk0
 replace hbk1 := tb hag_ hbk1
 have hf2 : Full (e7.addR 2 (.slice (some ⟨g1, 0, none⟩) c1 c1)) 2 c1 := full_addR _ _ _ _; have hnew2 : headOf ((e7.addR 2 (.slice (some ⟨g1, 0, none⟩) c1 c1)).r 2) = g1 := head_addR _ _ _ _
 replace hR := hR2_; clear hR2_ hR_ hR1_
 replace hB := hB_; clear hB_ hk hkF_ hq1_ hw1
 have hgw := Nat.le_trans hsz_ hge
 refine ⟨_, rfl, ?_⟩
 replace hI := hI.pt 32 (.rsl 2 0 5 5) [32, 31, 30]
 refine pZ tab [3] [] 3 [(4, .rsl 2 0 5 5)] [] hR hI fun e9 a9 w9 hag hR hI => ?_
 have hA := hag
 refine ops_nil (then_n ?_)
 refine wp_ret (oN tab [.rsl 2 0 5 5] hR hI ?_)
 replace hbk0 := tb hA hbk0
 replace hbk1 := tb hA hbk1
 replace hf2 := tf hA hf2
 replace hnew2 := tg hA hnew2
 have hrc_ := (hR.rowCells (y := ⟨2, 102, 1, c1, (ints .u64 zs)⟩) m0 hf2 rfl).1
 have hb2_ := (hR.blk ⟨1, 148, [vS (some ⟨g1, 0, none⟩) 8 c1]⟩ m1).1
 have hb_ := (hR.blk ⟨0, 124, [.p 1 0]⟩ m0).1
 rw [hbk0] at hb_
 rw [hnew2] at hrc_
 have hgb_ := hR.hgN m1 m0 hf2
 rw [hnew2] at hgb_
 simp only [dens, den, hbk1] at hb_
 dsimp only at hb2_ hgb_
 rw [hbk1] at hb2_ hgb_
 exact ⟨b2, g1, c1, _, by rw [← hnew2]; rfl, hB.fin hR, hb_, hb2_, hb2n, hgb_, hgw, hrc_, hzl, by omega, by omega, hzd⟩

theorem restoreP_spec {C : Nat → Prop} {w : World} {b b2 g2 l c : Nat} (hb : w.heap[b]? = some (.cells #[.pointer (some ⟨b2, 0, none⟩)] 124)) (hb2 : w.heap[b2]? = some (.cells #[.slice (some ⟨g2, 0, none⟩) l c] 148)) (hne : b ≠ b2) (hCb : ¬ C b) (hCb2 : ¬ C b2) (hc : c ≤ 9223372036854775807) :
    CallsD P 81 #[.pointer (some ⟨b, 0, none⟩), .int .i64 0] .returning w fun ex u' w' => u' = .returning ∧ (ex = .returned (.tuple #[]) ∧ Keep (ButN [b, b2] w) w w' ∧ w'.heap[b]? = some (.cells #[.pointer (some ⟨b2, 0, none⟩)] 124) ∧ w'.heap[b2]? = some (.cells #[.slice (some ⟨g2, 0, none⟩) 0 c] 148)) := by
 refine doorL (e := ((e0.addB 0 b).addB 1 b2)) (vs := [.p 0 0, .v (.int .i64 0)]) (n := 14) (m := 2) Tryz.func81 rfl rfl rfl (by decide) fun a_ hI => ?_
 replace hI : Is 14 [] ((e0.addB 0 b).addB 1 b2) [(0, .p 0 0), (1, .v (.int .i64 0))] a_ := hI
 have hbk0 : ((e0.addB 0 b).addB 1 b2).b 0 = b := rfl
 have hbk1 : ((e0.addB 0 b).addB 1 b2).b 1 = b2 := rfl
 have hR : Rel (ButN [b, b2] w) w ((e0.addB 0 b).addB 1 b2) [⟨0, 124, [.p 1 0]⟩, ⟨1, 148, [vS (some ⟨g2, 0, none⟩) l c]⟩] [] w := Rel.startN (fun k_ h_ => h_.1) (all_cons ⟨hb, (fun hm_ => hm_.2 m0)⟩ (all_cons ⟨hb2, (fun hm_ => hm_.2 m1)⟩ all_no)) all_no (all_cons (all_cons (fun hn_ => absurd rfl hn_) (all_cons (fun _ => hne) all_no)) (all_cons (all_cons (fun _ => (Ne.symm hne)) (all_cons (fun hn_ => absurd rfl hn_) all_no)) all_no)) (all_cons all_no (all_cons all_no all_no)) all_no
 have hB : BaseD (ButN [b, b2] w) C w C (ButN [b, b2] w) w := BaseD.start (fun k_ hC_ hlt_ => ⟨hlt_, notin2 (fun he_ => hCb (he_ ▸ hC_)) (notin2 (fun he_ => hCb2 (he_ ▸ hC_)) (fun hm_ => by cases hm_))⟩)
 refine rZ tab 2 [(4, .p 1 0)] [1] hR hI fun e1 a1 w1 hag hR hI => ?_
 have hA := hag
 refine wp_seq ?_
 refine rZ tab 2 [(10, vB false)] [4, 1] hR hI fun e2 a2 w2 hag hR hI => ?_
 replace hA := hA.trans hag (by decide)
 refine cnd_f hI (by kernel_rfl) ?_
 refine wp_skip ?_
 refine then_n ?_
 refine reg (is := [0, 1, 2]) (by kernel_rfl) ?_
 refine pZ tab [0, 1] [2] 2 [(12, .v (.int .i64 0)), (11, .p 1 0)] [] hR hI fun e3 a3 w3 hag hR hI => ?_
 replace hA := hA.trans hag (by decide)
 refine cO [.p 1 0, .v (.int .i64 0)] hI Tryz.func108 ?_
 have hq1_ := hR.blk ⟨1, 148, [vS (some ⟨g2, 0, none⟩) l c]⟩ m1
 refine (irestore_spec (C := Now hB) hq1_.1 (fun h_ => hq1_.2 h_.2) hc).mono ?_
 rintro ex w4 ⟨rfl, hk, hw1⟩
 have hkF_ := hR.keepN hk (all_cons hq1_.2 all_no)
 have hR_ : Rel (Grow _ _ w4) w4 e3 [⟨0, 124, [.p 1 0]⟩, ⟨1, 148, [vS (some ⟨g2, 0, none⟩) 0 c]⟩] [] w4 := hR.turnedN hk (all_cons hq1_.2 all_no) (all_cons ⟨⟨_, m0, rfl⟩, .inl ⟨m0, (notin2 (hR.hh _ m0 _ m1 (by dsimp only; decide)) (fun hm_ => by cases hm_))⟩⟩ (all_cons ⟨⟨_, m1, rfl⟩, .inr hw1⟩ all_no)) all_no
 have hB_ := hB.nextF hR hkF_
 replace hR := hR_; clear hR_
 replace hB := hB_; clear hB_ hk hkF_ hq1_ hw1
 refine ⟨_, rfl, ?_⟩
 replace hI := hI.pt 13 (.v (.tuple #[])) [13, 12, 11]
 refine ops_nil ?_
 refine outE tab (xs := []) hR hI rfl (by kernel_rfl) ?_
 replace hbk0 := tb hA hbk0
 replace hbk1 := tb hA hbk1
 have hb_ := (hR.blk ⟨0, 124, [.p 1 0]⟩ m0).1
 have hb2_ := (hR.blk ⟨1, 148, [vS (some ⟨g2, 0, none⟩) 0 c]⟩ m1).1
 rw [hbk0] at hb_
 rw [hbk1] at hb2_
 simp only [dens, den, hbk1] at hb_
 exact ⟨rfl, hB.fin hR, hb_, hb2_⟩

theorem freeP_spec {C : Nat → Prop} {w : World} {b b2 g2 l c : Nat} (hb : w.heap[b]? = some (.cells #[.pointer (some ⟨b2, 0, none⟩)] 124)) (hb2 : w.heap[b2]? = some (.cells #[.slice (some ⟨g2, 0, none⟩) l c] 148)) (hne : b ≠ b2) (hCb : ¬ C b) (hCb2 : ¬ C b2) (hc : c ≤ 9223372036854775807) :
    CallsD P 69 #[.pointer (some ⟨b, 0, none⟩)] .returning w fun ex u' w' => u' = .returning ∧ (ex = .returned (.tuple #[]) ∧ Keep (ButN [b, b2] w) w w' ∧ w'.heap[b]? = some (.cells #[.pointer (some ⟨b2, 0, none⟩)] 124) ∧ w'.heap[b2]? = some (.cells #[.slice (some ⟨g2, 0, none⟩) 0 c] 148)) := by
 refine doorL (e := ((e0.addB 0 b).addB 1 b2)) (vs := [.p 0 0]) (n := 11) (m := 1) Tryz.func69 rfl rfl rfl (by decide) fun a_ hI => ?_
 replace hI : Is 11 [] ((e0.addB 0 b).addB 1 b2) [(0, .p 0 0)] a_ := hI
 have hbk0 : ((e0.addB 0 b).addB 1 b2).b 0 = b := rfl
 have hbk1 : ((e0.addB 0 b).addB 1 b2).b 1 = b2 := rfl
 have hR : Rel (ButN [b, b2] w) w ((e0.addB 0 b).addB 1 b2) [⟨0, 124, [.p 1 0]⟩, ⟨1, 148, [vS (some ⟨g2, 0, none⟩) l c]⟩] [] w := Rel.startN (fun k_ h_ => h_.1) (all_cons ⟨hb, (fun hm_ => hm_.2 m0)⟩ (all_cons ⟨hb2, (fun hm_ => hm_.2 m1)⟩ all_no)) all_no (all_cons (all_cons (fun hn_ => absurd rfl hn_) (all_cons (fun _ => hne) all_no)) (all_cons (all_cons (fun _ => (Ne.symm hne)) (all_cons (fun hn_ => absurd rfl hn_) all_no)) all_no)) (all_cons all_no (all_cons all_no all_no)) all_no
 have hB : BaseD (ButN [b, b2] w) C w C (ButN [b, b2] w) w := BaseD.start (fun k_ hC_ hlt_ => ⟨hlt_, notin2 (fun he_ => hCb (he_ ▸ hC_)) (notin2 (fun he_ => hCb2 (he_ ▸ hC_)) (fun hm_ => by cases hm_))⟩)
 refine rZ tab 2 [(2, .p 1 0)] [] hR hI fun e1 a1 w1 hag hR hI => ?_
 have hA := hag
 refine rZ tab 2 [(8, vB true)] [2] hR hI fun e2 a2 w2 hag hR hI => ?_
 replace hA := hA.trans hag (by decide)
 refine cnd_t hI (by kernel_rfl) ?_
 refine reg (is := [0, 1]) (by kernel_rfl) ?_
 refine pZ tab [0] [1] 2 [(9, .p 1 0)] [] hR hI fun e3 a3 w3 hag hR hI => ?_
 replace hA := hA.trans hag (by decide)
 refine cO [.p 1 0] hI Tryz.func80 ?_
 have hq1_ := hR.blk ⟨1, 148, [vS (some ⟨g2, 0, none⟩) l c]⟩ m1
 refine (ifree_spec (C := Now hB) hq1_.1 (fun h_ => hq1_.2 h_.2) hc).mono ?_
 rintro ex w4 ⟨rfl, hk, hw1⟩
 have hkF_ := hR.keepN hk (all_cons hq1_.2 all_no)
 have hR_ : Rel (Grow _ _ w4) w4 e3 [⟨0, 124, [.p 1 0]⟩, ⟨1, 148, [vS (some ⟨g2, 0, none⟩) 0 c]⟩] [] w4 := hR.turnedN hk (all_cons hq1_.2 all_no) (all_cons ⟨⟨_, m0, rfl⟩, .inl ⟨m0, (notin2 (hR.hh _ m0 _ m1 (by dsimp only; decide)) (fun hm_ => by cases hm_))⟩⟩ (all_cons ⟨⟨_, m1, rfl⟩, .inr hw1⟩ all_no)) all_no
 have hB_ := hB.nextF hR hkF_
 replace hR := hR_; clear hR_
 replace hB := hB_; clear hB_ hk hkF_ hq1_ hw1
 refine ⟨_, rfl, ?_⟩
 replace hI := hI.pt 10 (.v (.tuple #[])) [10, 9]
 refine ops_nil ?_
 refine outE tab (xs := []) hR hI rfl (by kernel_rfl) ?_
 replace hbk0 := tb hA hbk0
 replace hbk1 := tb hA hbk1
 have hb_ := (hR.blk ⟨0, 124, [.p 1 0]⟩ m0).1
 have hb2_ := (hR.blk ⟨1, 148, [vS (some ⟨g2, 0, none⟩) 0 c]⟩ m1).1
 rw [hbk0] at hb_
 rw [hbk1] at hb2_
 simp only [dens, den, hbk1] at hb_
 exact ⟨rfl, hB.fin hR, hb_, hb2_⟩

theorem subVVl_spec {C : Nat → Prop} {w : World} {g N oz c l : Nat} {zs ys : List Nat} {ad : Option Addr} {yc : Nat} (hyl : ys.length = l) (hz : w.heap[g]? = some (.cells (ints .u64 zs).toArray 102 (0, 0))) (hzl : zs.length = N) (hzm : N ≤ 9223372036854775807) (hCg : ¬ C g) (hzd : Ndig zs) (hy : Sl .u64 18446744073709551616 C w ad yc ys) (hfit : oz + l ≤ N) :
  Calls P 103 #[.slice (some ⟨g, oz, none⟩) l c, .slice (some ⟨g, oz, none⟩) l c, .slice ad l yc] w fun ex w' => ∃ (rs : List Nat) (co : Nat), ex = .returned (.int .u64 ((co : Nat) : Int)) ∧ Keep (ButN [g] w) w w' ∧ w'.heap[g]? = some (.cells (ints .u64 (put zs oz rs)).toArray 102 (0, 0)) ∧ rs.length = l ∧ Ndig rs ∧ co ≤ 1 ∧ nval rs + nval ys = nval (seg zs oz l) + pn l * co := by
 subst hyl
 exact subVV_spec hz hzl hzm hCg hzd hy hfit

end Go.Proofs.YtmendapdibnbdaaGreatDoor.Stride
