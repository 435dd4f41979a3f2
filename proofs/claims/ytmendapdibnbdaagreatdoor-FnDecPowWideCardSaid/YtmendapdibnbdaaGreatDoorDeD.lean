/- Walks of the program's functions, printed by a program of mine (walk.py) over the words of Stride: each function's contract. -/
import Derived.Test.YtmendapdibnbdaaGreatDoorDeC
import Derived.LaidEqlPtr
namespace Go.Proofs.YtmendapdibnbdaaGreatDoor.Stride
open Go Go.RowKit Go.Proofs.YtmendapdibnbdaaGreatDoor.Mag
set_option linter.unusedVariables false
set_option linter.unusedSimpArgs false
set_option maxHeartbeats 4000000
set_option maxRecDepth 100000
theorem norm_spec {C : Nat → Prop} {w : World} {ad : Option Addr} {xc : Nat} {xs : List Nat} (hx : Sl .u64 18446744073709551616 C w ad xc xs) :
    Calls P 77 #[.slice ad xs.length xc] w fun ex w' => ∃ m, ex = .returned (.slice ad m xc) ∧ KS w w' ∧ m ≤ xs.length ∧ Ntrim (xs.take m) ∧ nval (xs.take m) = nval xs := by
 refine dN (C := C) [vS ad xs.length xc] 21 1 Tryz.func77 fun a_ hI hR hB => ?_
 replace hI : Is 21 [] e0 [(0, vS ad xs.length xc)] a_ := hI
 have hroom := hx.room; have hmax := hx.max
 refine rZ tab 0 [] [0] hR hI fun e1 a1 w1 hag hR hI => ?_
 refine rZ tab 0 [(3, vI xs.length)] [0] hR hI fun e2 a2 w2 hag hR hI => ?_
 refine wp_seq ?_
 refine wp_block ?_
 refine lp (γ := Nat) (fun m => (⟨[(0, vS ad xs.length xc), (3, vI m)], [], [], 0⟩ : Sy)) (fun m e => m ≤ xs.length ∧ ∀ i, m ≤ i → i < xs.length → xs.getD i 0 = 0) (fun m => m) (xs.length) (⟨Nat.le_refl _, fun i h1 h2 => by omega⟩)
   (hR.sel [] [] (by kernel_rfl) (by kernel_rfl)) (hI.sel [0, 3] (by kernel_rfl)) ?_
 clear hR hI
 rintro m e3 a3 w3 hp hR hI
 dsimp only at hp hR hI
 obtain ⟨hm, hz⟩ := hp
 refine wp_seq ?_
 refine rK tab 0 [(5, .nw), (7, .val (vU (xs.getD (((m : Int) - (1 : Int) : Int).toNat) 0))), (9, .sym)] [3, 4, 5, 6, 7, 8] [(15, vB ((decide ((m : Int) > (0 : Int))) && (((xs.getD (((m : Int) - (1 : Int) : Int).toNat) 0 : Nat) : Int) == (0 : Int))))] [0, 3] [] [] [] [] 0 hR hI (.cons (rfl : (decide ((m : Int) > (0 : Int))) = (decide ((m : Int) > (0 : Int)))) (.cons (rfl : (decide ((m : Int) > (0 : Int))) = (decide ((m : Int) > (0 : Int)))) (.cons (rfl : (decide ((m : Int) > (0 : Int))) = (decide ((m : Int) > (0 : Int)))) (.cons (fun (hg : ((decide ((m : Int) > (0 : Int))) == true) = true) => have hg := gd_t hg; (inR_i64 (n := (m : Int) - (1 : Int)) (by omega))) (.cons (rfl : (decide ((m : Int) > (0 : Int))) = (decide ((m : Int) > (0 : Int)))) (.cons (rfl : (decide ((m : Int) > (0 : Int))) = (decide ((m : Int) > (0 : Int)))) (.cons (rfl : (decide ((m : Int) > (0 : Int))) = (decide ((m : Int) > (0 : Int)))) (.cons (fun (hg : ((decide ((m : Int) > (0 : Int))) == true) = true) => have hg := gd_t hg; (by omega : (0 : Int) ≤ ((m : Int) - (1 : Int)) ∧ ((m : Int) - (1 : Int)) < (xs.length : Int))) (.cons (fun (hg : ((decide ((m : Int) > (0 : Int))) == true) = true) => have hg := gd_t hg; (nats_some (i := ((m : Int) - (1 : Int) : Int).toNat) (hx.cells.mono hB.cls) (by omega))) (.cons (rfl : (decide ((m : Int) > (0 : Int))) = (decide ((m : Int) > (0 : Int)))) (.cons (rfl : (decide ((m : Int) > (0 : Int))) = (decide ((m : Int) > (0 : Int)))) (.cons (rfl : (decide ((m : Int) > (0 : Int))) = (decide ((m : Int) > (0 : Int)))) (.cons (rfl : (decide ((m : Int) > (0 : Int))) = (decide ((m : Int) > (0 : Int)))) (.cons (fun (hg : ((decide ((m : Int) > (0 : Int))) == true) = true) => have hg := gd_t hg; (nats_load (i := ((m : Int) - (1 : Int) : Int).toNat) (m := 1) (hx.cells.mono hB.cls) (by have := hx.room; omega))) (.cons (rfl : (decide ((m : Int) > (0 : Int))) = (decide ((m : Int) > (0 : Int)))) (.cons (rfl : (decide ((m : Int) > (0 : Int))) = (decide ((m : Int) > (0 : Int)))) (.cons (rfl : (decide ((m : Int) > (0 : Int))) = (decide ((m : Int) > (0 : Int)))) (.cons (rfl : (decide ((m : Int) > (0 : Int))) = (decide ((m : Int) > (0 : Int)))) (.cons (rfl : (decide ((m : Int) > (0 : Int))) = (decide ((m : Int) > (0 : Int)))) (.cons (by first | exact (by intro b_; cases b_ <;> rfl : ∀ b_ : Bool, (b_ == true) = b_) _ | exact (by intro b_; cases b_ <;> rfl : ∀ b_ : Bool, (b_ == false) = !b_) _ | exact Bool.beq_true _ | exact Bool.beq_false _ | rfl | simp_all : ((decide ((m : Int) > (0 : Int))) == true) = (decide ((m : Int) > (0 : Int)))) .nil)))))))))))))))))))) fun e4 a4 w4 hag hR hI => ?_
 refine cnd (b := ((decide ((m : Int) > (0 : Int))) && (((xs.getD (((m : Int) - (1 : Int) : Int).toNat) 0 : Nat) : Int) == (0 : Int)))) hI (by kernel_rfl) (fun hc5 => ?_) (fun hc5 => ?_)
 ·
  replace hI := hI.rb 15 hc5
  try simp only [tolds] at hc5
  have hcz := hc5; have hcm := hcz.1
  refine wp_skip ?_
  refine then_n ?_
  refine wp_block ?_
  refine aK tab 0 [(1, .eq (.int .i64 ((m - 1 : Nat) : Int)))] [] [(3, vI (m - 1))] [0] [] [] [] [] 0 hR hI (.cons (congrArg (Value.int .i64) (natsub_i64 (q := 1) (by omega) (by omega) : IntKind.i64.wrap ((m : Int) - (1 : Int)) = ((m - 1 : Nat) : Int))) .nil) fun e6 a6 w6 hag hR hI => ?_
  refine normal_block ?_
  refine then_n ?_
  exact ⟨(m - 1), e6, ⟨by omega, fun i h1 h2 => by
     by_cases h3 : m ≤ i
     · exact hz i h3 h2
     ·
      obtain rfl : i = m - 1 := by omega
      have h5 := hcz.2
      have e1 : ((m : Int) - 1).toNat = m - 1 := by omega
      rw [e1] at h5
      omega⟩, by show _ < _; omega, hR.sel [] [] (by kernel_rfl) (by kernel_rfl), hI.sel [0, 3] (by kernel_rfl)⟩
 ·
  replace hI := hI.rb 15 hc5
  try simp only [tolds] at hc5
  have hcz := hc5
  refine wp_exit ?_
  refine exit_then ?_
  refine exit_then ?_
  refine exit_hit ?_
  refine then_n ?_
  refine rK tab 0 [(2, .sym)] [] [(2, vS (cutA ad xc 0 1) (m - 0) (xc - 0))] [] [] [] [] [] 0 hR hI (.cons (by omega : (0 : Int) ≤ (0 : Int) ∧ (0 : Int) ≤ (m : Int) ∧ (m : Int) ≤ (xc : Nat)) .nil) fun e7 a7 w7 hag hR hI => ?_
  refine wp_ret (oN tab [vS (cutA ad xc 0 1) (m - 0) (xc - 0)] hR hI ?_)
  refine ⟨m, by simp only [cutA_zero, Int.toNat_zero, Nat.sub_zero]; rfl, hB.fin hR, hm, ntrim_take hm ?_, nval_take hz⟩
  by_cases h0 : m = 0
  · exact .inl h0
  ·
   refine .inr fun h1 => ?_
   have e1 : ((m : Int) - 1).toNat = m - 1 := by omega
   rw [e1, h1] at hcz
   rcases hcz with hcz | hcz
   · exact hcz (by omega)
   · exact hcz rfl

theorem makeNew_spec {C : Nat → Prop} {w : World} {n : Nat} (hn : 0 < n) (hnb : n ≤ 65536) :
    Calls P 78 #[.slice none 0 0, .int .i64 (n : Int)] w fun ex w' => ∃ g c, ex = .returned (.slice (some ⟨g, 0, none⟩) n c) ∧ KS w w' ∧ w.heap.size ≤ g ∧ w'.heap[g]? = some (.cells (ints .u64 (List.replicate c 0)).toArray 102) ∧ n ≤ c ∧ c ≤ n + 4 := by
 refine dN (C := C) [vS none 0 0, vI n] 19 2 Tryz.func78 fun a_ hI hR hB => ?_
 replace hI : Is 19 [] e0 [(0, vS none 0 0), (1, vI n)] a_ := hI
 refine rZ tab 0 [] [0, 1] hR hI fun e1 a1 w1 hag hR hI => ?_
 refine wp_seq ?_
 refine rK tab 0 [(3, .eq (.bool false))] [] [(8, vB false)] [0, 1] [] [] [] [] 0 hR hI (.cons (congrArg Value.bool (decide_eq_false (by omega) : (decide ((n : Int) ≤ (0 : Int))) = false)) .nil) fun e2 a2 w2 hag hR hI => ?_
 refine cnd_f hI (by kernel_rfl) ?_
 refine wp_skip ?_
 refine then_n ?_
 refine wp_seq ?_
 refine rZ tab 0 [(13, vB ((n : Int) == (1 : Int)))] [1] hR hI fun e3 a3 w3 hag hR hI => ?_
 refine cnd (b := ((n : Int) == (1 : Int))) hI (by kernel_rfl) (fun hc4 => ?_) (fun hc4 => ?_)
 ·
  replace hI := hI.rb 13 hc4
  try simp only [tolds] at hc4
  refine wp_seq (reg (is := [0, 1]) (by kernel_rfl) ?_)
  refine makeFull (kl := .i64) (kc := .i64) (k := 0) (l := 1) (c := 1) tab hR hI rfl rfl (by kernel_rfl) rfl rfl rfl rfl (by kernel_rfl) (by kernel_rfl) (by kernel_rfl) (by omega) (by show 8 * _ ≤ _; omega) (by omega) (fun a5 w5 g5 hge hk hR hI => ?_)
  have hag_ := agree_addR e3 0 (.slice (some ⟨g5, 0, none⟩) 1 1)
  have hf0 : Full (e3.addR 0 (.slice (some ⟨g5, 0, none⟩) 1 1)) 0 1 := full_addR _ _ _ _; have hnew0 : headOf ((e3.addR 0 (.slice (some ⟨g5, 0, none⟩) 1 1)).r 0) = g5 := head_addR _ _ _ _
  rw [show (List.replicate 1 (.int .u64 0) : List Value) = ints .u64 (List.replicate 1 0) from ints_replicate .u64 1 0] at hR
  clear hag_ hk
  replace hI := hI.sl [14, 13, 1] rfl
  refine pZ tab [1] [] 1 [(4, .rsl 0 0 1 1)] [] hR hI fun e6 a6 w6 hag hR hI => ?_
  have hA := hag
  refine ops_nil (then_n ?_)
  refine wp_ret ?_
  refine ret_then ?_
  refine oN tab [.rsl 0 0 1 1] hR hI ?_
  replace hf0 := tf hA hf0
  replace hnew0 := tg hA hnew0
  obtain rfl : n = 1 := by omega
  have hrc_ := hR.rowCells (y := ⟨0, 102, 1, 1, (ints .u64 (List.replicate 1 0))⟩) m0 hf0 rfl
  exact ⟨_, 1, rfl, hB.fin hR, Nat.le_of_not_lt hrc_.2, hrc_.1, by omega, by omega⟩
 ·
  replace hI := hI.rb 13 hc4
  try simp only [tolds] at hc4
  refine wp_skip ?_
  refine then_n ?_
  refine wp_seq (reg (is := [0, 1, 2, 3, 4]) (by kernel_rfl) ?_)
  refine pK tab [0, 1, 2] [3, 4] 0 [(2, .nw)] [] [(17, vI (n + 4)), (15, vI n)] [] [] [] [] [] 0 hR hI (.cons (inR_i64 (n := (n : Int) + (4 : Int)) (by omega)) .nil) fun e7 a7 w7 hag hR hI => ?_
  refine makeFull (kl := .i64) (kc := .i64) (k := 0) (l := n) (c := n + 4) tab hR hI rfl rfl (by kernel_rfl) rfl rfl rfl rfl (by kernel_rfl) (by kernel_rfl) (by kernel_rfl) (by omega) (by show 8 * _ ≤ _; omega) (by omega) (fun a8 w8 g8 hge hk hR hI => ?_)
  have hag_ := agree_addR e7 0 (.slice (some ⟨g8, 0, none⟩) (n + 4) (n + 4))
  have hf0 : Full (e7.addR 0 (.slice (some ⟨g8, 0, none⟩) (n + 4) (n + 4))) 0 (n + 4) := full_addR _ _ _ _; have hnew0 : headOf ((e7.addR 0 (.slice (some ⟨g8, 0, none⟩) (n + 4) (n + 4))).r 0) = g8 := head_addR _ _ _ _
  rw [show (List.replicate (n + 4) (.int .u64 0) : List Value) = ints .u64 (List.replicate (n + 4) 0) from ints_replicate .u64 (n + 4) 0] at hR
  clear hag_ hk
  replace hI := hI.sl [18, 17, 15] rfl
  refine pZ tab [4] [] 1 [(4, .rsl 0 0 n (n + 4))] [] hR hI fun e9 a9 w9 hag hR hI => ?_
  have hA := hag
  refine ops_nil (then_n ?_)
  refine wp_ret (oN tab [.rsl 0 0 n (n + 4)] hR hI ?_)
  replace hf0 := tf hA hf0
  replace hnew0 := tg hA hnew0
  have hrc_ := hR.rowCells (y := ⟨0, 102, 1, (n + 4), (ints .u64 (List.replicate (n + 4) 0))⟩) m0 hf0 rfl
  exact ⟨_, n + 4, rfl, hB.fin hR, Nat.le_of_not_lt hrc_.2, hrc_.1, by omega, by omega⟩

theorem makeNil_spec {C : Nat → Prop} {w : World} :
    Calls P 78 #[.slice none 0 0, .int .i64 0] w fun ex w' => ex = .returned (.slice none 0 0) ∧ KS w w' := by
 refine dN (C := C) [vS none 0 0, .v (.int .i64 0)] 19 2 Tryz.func78 fun a_ hI hR hB => ?_
 replace hI : Is 19 [] e0 [(0, vS none 0 0), (1, .v (.int .i64 0))] a_ := hI
 refine rZ tab 0 [] [0, 1] hR hI fun e1 a1 w1 hag hR hI => ?_
 refine wp_seq ?_
 refine rZ tab 0 [(8, vB true)] [0, 1] hR hI fun e2 a2 w2 hag hR hI => ?_
 refine cnd_t hI (by kernel_rfl) ?_
 refine rK tab 0 [] [] [(4, vS none 0 0)] [] [] [] [] [] 0 hR hI (.cons (by omega : (0 : Int) ≤ (0 : Int) ∧ (0 : Int) ≤ (0 : Nat)) .nil) fun e3 a3 w3 hag hR hI => ?_
 refine wp_ret ?_
 refine ret_then ?_
 refine oN tab [vS none 0 0] hR hI ?_
 exact ⟨rfl, hB.fin hR⟩

theorem makeOld_spec {C : Nat → Prop} {w : World} {ad : Option Addr} {l c n : Nat} (hn : n ≤ c) :
    Calls P 78 #[.slice ad l c, .int .i64 (n : Int)] w fun ex w' => ex = .returned (.slice ad n c) ∧ KS w w' := by
 refine dN (C := C) [vS ad l c, vI n] 19 2 Tryz.func78 fun a_ hI hR hB => ?_
 replace hI : Is 19 [] e0 [(0, vS ad l c), (1, vI n)] a_ := hI
 refine rZ tab 0 [] [0, 1] hR hI fun e1 a1 w1 hag hR hI => ?_
 refine wp_seq ?_
 refine rK tab 0 [(3, .eq (.bool true))] [] [(8, vB true)] [0, 1] [] [] [] [] 0 hR hI (.cons (congrArg Value.bool (decide_eq_true (by omega) : (decide ((n : Int) ≤ (c : Int))) = true)) .nil) fun e2 a2 w2 hag hR hI => ?_
 refine cnd_t hI (by kernel_rfl) ?_
 refine rK tab 0 [] [] [(4, vS ad n c)] [] [] [] [] [] 0 hR hI (.cons (by omega : (0 : Int) ≤ (n : Int) ∧ (n : Int) ≤ (c : Nat)) .nil) fun e3 a3 w3 hag hR hI => ?_
 refine wp_ret ?_
 refine ret_then ?_
 refine oN tab [vS ad n c] hR hI ?_
 exact ⟨rfl, hB.fin hR⟩

theorem setWord_spec {C : Nat → Prop} {w : World} {x : Nat} (hx : x < 18446744073709551616) :
    Calls P 65 #[.slice none 0 0, .int .u64 (x : Int)] w fun ex w' => ∃ ad l c rs, ex = .returned (.slice ad l c) ∧ rs.length = l ∧ KS w w' ∧ Sl .u64 18446744073709551616 (fun b => w.heap.size ≤ b) w' ad c rs ∧  Ntrim rs ∧ nval rs = x := by
 refine dN (C := C) [vS none 0 0, vU x] 15 2 Tryz.func65 fun a_ hI hR hB => ?_
 replace hI : Is 15 [] e0 [(0, vS none 0 0), (1, vU x)] a_ := hI
 refine rZ tab 0 [] [0, 1] hR hI fun e1 a1 w1 hag hR hI => ?_
 refine wp_seq ?_
 refine rZ tab 0 [(6, vB ((x : Int) == (0 : Int)))] [0, 1] hR hI fun e2 a2 w2 hag hR hI => ?_
 refine cnd (b := ((x : Int) == (0 : Int))) hI (by kernel_rfl) (fun hc3 => ?_) (fun hc3 => ?_)
 ·
  replace hI := hI.rb 6 hc3
  try simp only [tolds] at hc3
  refine rK tab 0 [] [] [(4, vS none 0 0)] [] [] [] [] [] 0 hR hI (.cons (by omega : (0 : Int) ≤ (0 : Int) ∧ (0 : Int) ≤ (0 : Nat)) .nil) fun e4 a4 w4 hag hR hI => ?_
  refine wp_ret ?_
  refine ret_then ?_
  refine oN tab [vS none 0 0] hR hI ?_
  exact ⟨none, 0, 0, [], rfl, rfl, hB.fin hR, ⟨Cells.nil, fun _ h => by simp at h, Nat.le_refl _, by decide⟩, .inl rfl, by simp [nval]; omega⟩
 ·
  replace hI := hI.rb 6 hc3
  try simp only [tolds] at hc3
  refine wp_skip ?_
  refine then_n ?_
  refine wp_seq (reg (is := [0, 1, 2]) (by kernel_rfl) ?_)
  refine pZ tab [0] [1, 2] 0 [(9, vS none 0 0)] [0, 1] hR hI fun e5 a5 w5 hag hR hI => ?_
  refine cO [vS none 0 0, .v (.int .i64 1)] hI Tryz.func78 ?_
  have hsz_ := (hB.fin hR).size
  refine (makeNew_spec (C := Now hB) (n := 1) (by decide) (by decide)).mono ?_
  rintro ex w6 ⟨g1, c1, rfl, hk, hge, hwg, hc1, hc2⟩
  replace hk := keepBut0 hk
  have hkF_ := hR.keepN hk all_no
  have hR_ : Rel (Grow _ _ w6) w6 e5 [] [] w6 := hR.turnedN hk all_no all_no all_no
  have hM_ : ∀ b_ ∈ ([g1] : List Nat), _ ≤ b_ := (all_cons hge all_no)
  have hB_ := hB.nextN hR hkF_ hM_; have hR1_ := hR_.shrinkN (M := [g1])
  obtain ⟨hfr1_, hfr2_⟩ := hR.fresh (H' := []) (G' := []) all_no all_no hge
  obtain ⟨hag_, hR2_⟩ := hR1_.gotRow (L := []) (k := 0) (g := g1) (n := c1) (t := 102) (xs := (ints .u64 (List.replicate c1 0))) (by kernel_rfl) hwg (by rw [ints_length, List.length_replicate]) (by omega) (fun hf_ => hf_.2.1 m0) hfr1_ hfr2_
  replace hI := hI.agreeB (H := []) (G := []) (by kernel_rfl) hag_
  have hf0 : Full (e5.addR 0 (.slice (some ⟨g1, 0, none⟩) c1 c1)) 0 c1 := full_addR _ _ _ _; have hnew0 : headOf ((e5.addR 0 (.slice (some ⟨g1, 0, none⟩) c1 c1)).r 0) = g1 := head_addR _ _ _ _
  replace hR := hR2_; clear hR2_ hR_ hR1_
  replace hB := hB_; clear hB_ hk hkF_ 
  have hgw := Nat.le_trans hsz_ hge
  have hrl_ : (List.replicate c1 0).length = c1 := List.length_replicate
  refine ⟨_, rfl, ?_⟩
  replace hI := hI.pt 10 (.rsl 0 0 1 c1) [10, 9, 0, 1]
  refine pZ tab [2] [] 1 [(0, .rsl 0 0 1 c1)] [1] hR hI fun e7 a7 w7 hag hR hI => ?_
  have hA := hag
  refine ops_nil (then_n ?_)
  refine rK tab 1 [] [] [] [0] [] [] [⟨0, 102, 1, c1, ((ints .u64 (List.replicate c1 0)).set 0 (.int .u64 (x : Int)))⟩] [] 1 hR hI (.cons (by omega : (0 : Int) ≤ (0 : Int) ∧ (0 : Int) < ((1 : Nat) : Int)) (.cons (by omega : 0 < c1 * 1) .nil)) fun e8 a8 w8 hag hR hI => ?_
  replace hA := hA.trans hag (by decide)
  rw [ints_set] at hR
  rw [(by rw [(put_nil (xs := List.replicate c1 0) (o := 0)).symm]; exact put_snoc (xs := List.replicate c1 0) (zs := []) (o := 0) (by simp only [List.length_nil]; omega) : ((List.replicate c1 0).set 0 x) = put (List.replicate c1 0) 0 [x])] at hR
  refine rZ tab 1 [(4, .rsl 0 0 1 c1)] [] hR hI fun e9 a9 w9 hag hR hI => ?_
  replace hA := hA.trans hag (by decide)
  refine wp_ret (oN tab [.rsl 0 0 1 c1] hR hI ?_)
  replace hf0 := tf hA hf0
  replace hnew0 := tg hA hnew0
  have hsl := rowOut (y := ⟨0, 102, 1, c1, (ints .u64 (put (List.replicate c1 0) 0 [x]))⟩) hR m0 hf0 rfl rfl (ndig_put (ndig_replicate _) (fun d h => by rw [List.mem_singleton] at h; omega)) (l := 1) (by rw [put_length (by simp only [List.length_singleton]; omega)]; omega) (by omega) (by omega) hnew0 hgw
  rw [put0_seg (zs := List.replicate c1 0) (rs := [x]) (n := 1) rfl (by omega)] at hsl
  exact ⟨_, 1, c1, [x], rfl, rfl, hB.fin hR, hsl, .inr (by simp; omega), by simp [nval]⟩

theorem setNew_spec {C : Nat → Prop} {w : World} {ad : Option Addr} {xc : Nat} {xs : List Nat} (hx : Sl .u64 18446744073709551616 C w ad xc xs) (hn : 0 < xs.length) (hnb : xs.length ≤ 65536) :
    Calls P 67 #[.slice none 0 0, .slice ad xs.length xc] w fun ex w' => ∃ ad l c rs, ex = .returned (.slice ad l c) ∧ rs.length = l ∧ KS w w' ∧ Sl .u64 18446744073709551616 (fun b => w.heap.size ≤ b) w' ad c rs ∧  rs = xs := by
 refine dN (C := C) [vS none 0 0, vS ad xs.length xc] 13 2 Tryz.func67 fun a_ hI hR hB => ?_
 replace hI : Is 13 [] e0 [(0, vS none 0 0), (1, vS ad xs.length xc)] a_ := hI
 refine rZ tab 0 [] [0, 1] hR hI fun e1 a1 w1 hag hR hI => ?_
 refine wp_seq (reg (is := [0, 1, 2, 3, 4]) (by kernel_rfl) ?_)
 refine pZ tab [0, 1, 2] [3, 4] 0 [(7, vI xs.length), (5, vS none 0 0)] [0, 1] hR hI fun e2 a2 w2 hag hR hI => ?_
 refine cO [vS none 0 0, vI xs.length] hI Tryz.func78 ?_
 have hsz_ := (hB.fin hR).size
 refine (makeNew_spec (C := Now hB) (n := xs.length) (by omega) (by omega)).mono ?_
 rintro ex w3 ⟨g1, c1, rfl, hk, hge, hwg, hc1, hc2⟩
 replace hk := keepBut0 hk
 have hkF_ := hR.keepN hk all_no
 have hR_ : Rel (Grow _ _ w3) w3 e2 [] [] w3 := hR.turnedN hk all_no all_no all_no
 have hM_ : ∀ b_ ∈ ([g1] : List Nat), _ ≤ b_ := (all_cons hge all_no)
 replace hx := hx.nextN hB hR hkF_ hM_
 have hB_ := hB.nextN hR hkF_ hM_; have hR1_ := hR_.shrinkN (M := [g1])
 obtain ⟨hfr1_, hfr2_⟩ := hR.fresh (H' := []) (G' := []) all_no all_no hge
 obtain ⟨hag_, hR2_⟩ := hR1_.gotRow (L := []) (k := 0) (g := g1) (n := c1) (t := 102) (xs := (ints .u64 (List.replicate c1 0))) (by kernel_rfl) hwg (by rw [ints_length, List.length_replicate]) (by omega) (fun hf_ => hf_.2.1 m0) hfr1_ hfr2_
 replace hI := hI.agreeB (H := []) (G := []) (by kernel_rfl) hag_
 have hf0 : Full (e2.addR 0 (.slice (some ⟨g1, 0, none⟩) c1 c1)) 0 c1 := full_addR _ _ _ _; have hnew0 : headOf ((e2.addR 0 (.slice (some ⟨g1, 0, none⟩) c1 c1)).r 0) = g1 := head_addR _ _ _ _
 replace hR := hR2_; clear hR2_ hR_ hR1_
 replace hB := hB_; clear hB_ hk hkF_ 
 have hgw := Nat.le_trans hsz_ hge
 have hrl_ : (List.replicate c1 0).length = c1 := List.length_replicate
 refine ⟨_, rfl, ?_⟩
 replace hI := hI.pt 8 (.rsl 0 0 xs.length c1) [8, 7, 5, 0, 1]
 refine pZ tab [4] [] 1 [(0, .rsl 0 0 xs.length c1)] [1] hR hI fun e4 a4 w4 hag hR hI => ?_
 have hA := hag
 refine ops_nil (then_n ?_)
 refine wp_seq (reg (is := [0, 1, 2]) (by kernel_rfl) ?_)
 refine pZ tab [0, 1] [2] 1 [(10, vS ad xs.length xc), (9, .rsl 0 0 xs.length c1)] [0] hR hI fun e5 a5 w5 hag hR hI => ?_
 replace hA := hA.trans hag (by decide)
 replace hf0 := tf hA hf0
 replace hnew0 := tg hA hnew0
 refine copyOp (sv := vS ad xs.length xc) (m := 0) (off := 0) (l := xs.length) (c := c1) (sl := xs.length) (sc := xc) (cs := ints .u64 xs) (y := ⟨0, 102, 1, c1, (ints .u64 (List.replicate c1 0))⟩) tab hR hI rfl rfl (by kernel_rfl) ⟨_, rfl, rfl, rfl, rfl⟩ rfl (by kernel_rfl) hf0 rfl (by kernel_rfl) (by kernel_rfl) rfl ((hx.now hB hR).cells) (by rw [ints_length]; exact (Nat.min_self _).symm) (by rw [ints_length]; (try dsimp only); omega) ints_one (fun a6 w6 hR hI => ?_)
 dsimp only at hR; rw [ints_put] at hR; replace hR := hR.sel [] [0] rfl rfl
 replace hI := hI.sl [11, 10, 9, 0] rfl
 refine ops_nil (then_n ?_)
 refine rZ tab 1 [(4, .rsl 0 0 xs.length c1)] [] hR hI fun e7 a7 w7 hag hR hI => ?_
 have hA := hag
 refine wp_ret (oN tab [.rsl 0 0 xs.length c1] hR hI ?_)
 replace hf0 := tf hA hf0
 replace hnew0 := tg hA hnew0
 have hsl := rowOut (y := ⟨0, 102, 1, c1, (ints .u64 (put (List.replicate c1 0) 0 xs))⟩) hR m0 hf0 rfl rfl (ndig_put (ndig_replicate _) hx.dig) (l := xs.length) (by rw [put_length (by omega)]; omega) (by omega) (by omega) hnew0 hgw
 rw [put0_seg rfl (by omega)] at hsl
 exact ⟨_, _, c1, xs, rfl, rfl, hB.fin hR, hsl, rfl⟩

theorem setNil_spec {C : Nat → Prop} {w : World} {ad : Option Addr} {xc : Nat} :
    Calls P 67 #[.slice none 0 0, .slice ad 0 xc] w fun ex w' => ex = .returned (.slice none 0 0) ∧ KS w w' := by
 refine dN (C := C) [vS none 0 0, vS ad 0 xc] 13 2 Tryz.func67 fun a_ hI hR hB => ?_
 replace hI : Is 13 [] e0 [(0, vS none 0 0), (1, vS ad 0 xc)] a_ := hI
 refine rZ tab 0 [] [0, 1] hR hI fun e1 a1 w1 hag hR hI => ?_
 refine wp_seq (reg (is := [0, 1, 2, 3, 4]) (by kernel_rfl) ?_)
 refine pZ tab [0, 1, 2] [3, 4] 0 [(7, .v (.int .i64 0)), (5, vS none 0 0)] [0, 1] hR hI fun e2 a2 w2 hag hR hI => ?_
 refine cO [vS none 0 0, .v (.int .i64 0)] hI Tryz.func78 ?_
 refine (makeNil_spec (C := C)).mono ?_
 rintro ex w3 ⟨rfl, hk⟩
 replace hR := hR.same hk; clear hk
 refine ⟨_, rfl, ?_⟩
 replace hI := hI.pt 8 (vS none 0 0) [8, 7, 5, 0, 1]
 refine pZ tab [4] [] 0 [] [0, 1] hR hI fun e4 a4 w4 hag hR hI => ?_
 refine ops_nil (then_n ?_)
 refine wp_seq (reg (is := [0, 1, 2]) (by kernel_rfl) ?_)
 refine pZ tab [0, 1] [2] 0 [(10, vS ad 0 xc), (9, vS none 0 0)] [0] hR hI fun e5 a5 w5 hag hR hI => ?_
 refine rawOp (x := .v (.int .i64 0)) hI rfl rfl (by kernel_rfl) (fun ev hev => by have ht_ := (tab.get (t := 82) rfl).k; have h_ := run_copy_none (P := P) w5 82 82 3 102 none ad 0 0 0 xc ht_.1 ht_.2 rfl; simp [execOp, resolve, hev (.tmp 9) _ rfl, hev (.tmp 10) _ rfl, invoke, builtin, den, h_, goInt]) (fun a6 hI => ?_)
 replace hI := hI.sl [11, 10, 9, 0] rfl
 refine ops_nil (then_n ?_)
 refine rZ tab 0 [(4, vS none 0 0)] [] hR hI fun e7 a7 w7 hag hR hI => ?_
 refine wp_ret (oN tab [vS none 0 0] hR hI ?_)
 exact ⟨rfl, hB.fin hR⟩

theorem freeN_spec {C : Nat → Prop} {w : World} {b : Nat} (hb : w.heap[b]? = some (.cells #[.pointer none] 124)) (hCb : ¬ C b) :
    CallsD P 69 #[.pointer (some ⟨b, 0, none⟩)] .returning w fun ex u' w' => u' = .returning ∧ (ex = .returned (.tuple #[]) ∧ Keep (ButN [b] w) w w' ∧ w'.heap[b]? = some (.cells #[.pointer none] 124)) := by
 refine doorL (e := (e0.addB 0 b)) (vs := [.p 0 0]) (n := 11) (m := 1) Tryz.func69 rfl rfl rfl (by decide) fun a_ hI => ?_
 replace hI : Is 11 [] (e0.addB 0 b) [(0, .p 0 0)] a_ := hI
 have hbk0 : (e0.addB 0 b).b 0 = b := rfl
 have hR : Rel (ButN [b] w) w (e0.addB 0 b) [⟨0, 124, [.v (.pointer none)]⟩] [] w := Rel.startN (fun k_ h_ => h_.1) (all_cons ⟨hb, (fun hm_ => hm_.2 m0)⟩ all_no) all_no (all_cons (all_cons (fun hn_ => absurd rfl hn_) all_no) all_no) (all_cons all_no all_no) all_no
 have hB : BaseD (ButN [b] w) C w C (ButN [b] w) w := BaseD.start (fun k_ hC_ hlt_ => ⟨hlt_, notin2 (fun he_ => hCb (he_ ▸ hC_)) (fun hm_ => by cases hm_)⟩)
 refine rZ tab 1 [(2, .v (.pointer none))] [] hR hI fun e1 a1 w1 hag hR hI => ?_
 have hA := hag
 refine rZ tab 1 [(8, vB false)] [2] hR hI fun e2 a2 w2 hag hR hI => ?_
 replace hA := hA.trans hag (by decide)
 refine cnd_f hI (by kernel_rfl) ?_
 refine wp_skip ?_
 refine outE tab (xs := []) hR hI rfl (by kernel_rfl) ?_
 replace hbk0 := tb hA hbk0
 exact ⟨rfl, hB.fin hR, (by have h_ := (hR.blk ⟨0, 124, [.v (.pointer none)]⟩ m0).1; rw [hbk0] at h_; exact h_)⟩

theorem getStack_spec {C : Nat → Prop} {w : World} :
    Calls P 68 #[] w fun ex w' => ∃ b, ex = .returned (.pointer (some ⟨b, 0, none⟩)) ∧ KS w w' ∧ w.heap.size ≤ b ∧ w'.heap[b]? = some (.cells #[.pointer none] 124) := by
 refine dN (C := C) [] 3 0 Tryz.func68 fun a_ hI hR hB => ?_
 replace hI : Is 3 [] e0 [] a_ := hI
 refine rZ tab 0 [] [] hR hI fun e1 a1 w1 hag hR hI => ?_
 refine rK tab 0 [] [] [(0, .p 0 0)] [] [⟨0, 124, [.v (.pointer none)]⟩] [] [] [] 1 hR hI .nil fun e2 a2 w2 hag hR hI => ?_
 refine wp_ret (oN tab [.p 0 0] hR hI ?_)
 have hq_ := hR.blk (x := ⟨0, 124, [.v (.pointer none)]⟩) m0
 exact ⟨_, rfl, hB.fin hR, Nat.le_of_not_lt hq_.2, hq_.1⟩

end Go.Proofs.YtmendapdibnbdaaGreatDoor.Stride
