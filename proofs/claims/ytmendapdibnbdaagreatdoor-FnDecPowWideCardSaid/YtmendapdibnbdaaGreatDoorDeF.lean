/- Walks of the program's functions, printed by a program of mine (walk.py) over the words of Stride: each function's contract. -/
import Derived.Test.YtmendapdibnbdaaGreatDoorDeE
import Derived.LaidEqlPtr
namespace Go.Proofs.YtmendapdibnbdaaGreatDoor.Stride
open Go Go.RowKit Go.Proofs.YtmendapdibnbdaaGreatDoor.Mag
set_option linter.unusedVariables false
set_option linter.unusedSimpArgs false
set_option maxHeartbeats 4000000
set_option maxRecDepth 100000
theorem alias_spec {C : Nat → Prop} {w : World} {g g2 N N2 l l2 c c2 : Nat} {zs us : List Nat} (hz : w.heap[g]? = some (.cells (ints .u64 zs).toArray 102)) (hzl : zs.length = N) (hzm : N ≤ 9223372036854775807) (hu : w.heap[g2]? = some (.cells (ints .u64 us).toArray 102)) (hul : us.length = N2) (hum : N2 ≤ 9223372036854775807) (hne : g ≠ g2) (hCg : ¬ C g) (hCu : ¬ C g2) (hc : 0 < c) (hc2 : 0 < c2) (hcb : c ≤ 9223372036854775807) (hcb2 : c2 ≤ 9223372036854775807) :
    Calls P 74 #[.slice (some ⟨g, 0, none⟩) l c, .slice (some ⟨g2, 0, none⟩) l2 c2] w fun ex w' => ex = .returned (.bool false) ∧ Keep (ButN [g, g2] w) w w' ∧ w'.heap[g]? = some (.cells (ints .u64 zs).toArray 102) ∧ w'.heap[g2]? = some (.cells (ints .u64 us).toArray 102) := by
 refine doorN (e := ((e0.addR 0 (.slice (some ⟨g, 0, none⟩) N N)).addR 1 (.slice (some ⟨g2, 0, none⟩) N2 N2))) (vs := [.rsl 0 0 l c, .rsl 1 0 l2 c2]) (n := 32) (m := 2) Tryz.func74 rfl rfl rfl (by decide) fun a_ hI => ?_
 replace hI : Is 32 [] ((e0.addR 0 (.slice (some ⟨g, 0, none⟩) N N)).addR 1 (.slice (some ⟨g2, 0, none⟩) N2 N2)) [(0, .rsl 0 0 l c), (1, .rsl 1 0 l2 c2)] a_ := hI
 have hf0 : Full ((e0.addR 0 (.slice (some ⟨g, 0, none⟩) N N)).addR 1 (.slice (some ⟨g2, 0, none⟩) N2 N2)) 0 N := rfl; have hg0 : headOf (((e0.addR 0 (.slice (some ⟨g, 0, none⟩) N N)).addR 1 (.slice (some ⟨g2, 0, none⟩) N2 N2)).r 0) = g := rfl
 have hf1 : Full ((e0.addR 0 (.slice (some ⟨g, 0, none⟩) N N)).addR 1 (.slice (some ⟨g2, 0, none⟩) N2 N2)) 1 N2 := rfl; have hg1 : headOf (((e0.addR 0 (.slice (some ⟨g, 0, none⟩) N N)).addR 1 (.slice (some ⟨g2, 0, none⟩) N2 N2)).r 1) = g2 := rfl
 have hR : Rel (ButN [g, g2] w) w ((e0.addR 0 (.slice (some ⟨g, 0, none⟩) N N)).addR 1 (.slice (some ⟨g2, 0, none⟩) N2 N2)) [] [⟨0, 102, 1, N, (ints .u64 zs)⟩, ⟨1, 102, 1, N2, (ints .u64 us)⟩] w := Rel.startN (fun k_ h_ => h_.1) all_no (all_cons ⟨ownsRow_fullN hz (by first | exact hzl | (rw [ints_length]; exact hzl)) hzm, fun g_ he_ => by cases he_; exact (fun hm_ => hm_.2 m0)⟩ (all_cons ⟨ownsRow_fullN hu (by first | exact hul | (rw [ints_length]; exact hul)) hum, fun g_ he_ => by cases he_; exact (fun hm_ => hm_.2 m1)⟩ all_no)) all_no all_no (all_cons (all_cons (fun hn_ => absurd rfl hn_) (all_cons (fun _ g_ h1_ h2_ => hne ((Option.some.inj h1_).trans (Option.some.inj h2_).symm)) all_no)) (all_cons (all_cons (fun _ g_ h1_ h2_ => (Ne.symm hne) ((Option.some.inj h1_).trans (Option.some.inj h2_).symm)) (all_cons (fun hn_ => absurd rfl hn_) all_no)) all_no))
 have hB : BaseD (ButN [g, g2] w) C w C (ButN [g, g2] w) w := BaseD.start (fun k_ hC_ hlt_ => ⟨hlt_, notin2 (fun he_ => hCg (he_ ▸ hC_)) (notin2 (fun he_ => hCu (he_ ▸ hC_)) (fun hm_ => by cases hm_))⟩)
 refine rZ tab 2 [] [0, 1] hR hI fun e1 a1 w1 hag hR hI => ?_
 have hA := hag
 refine wp_seq ?_
 refine regL 25 hR (by kernel_rfl) (fun hS => ?_)
 replace hR := hR.drew; have hF := hR.fore
 refine cK tab [(2, .eq (.bool true)), (6, .eq (.bool true)), (15, .eq (.int .i64 ((c - 1 : Nat) : Int))), (23, .eq (.int .i64 ((c2 - 1 : Nat) : Int)))] [] [0, 1, 2, 3, 4, 5, 6, 7, 8, 9, 10, 11, 12, 13, 14, 15, 16, 17, 18, 19, 20, 21, 22, 23, 24] 3 [(29, .pr 1 (0 + (c2 - 1))), (21, .pr 0 (0 + (c - 1))), (13, vB true)] [] hS hI (.cons (congrArg Value.bool (decide_eq_true (by omega) : (decide ((c : Int) > (0 : Int))) = true)) (.cons (congrArg Value.bool (decide_eq_true (by omega) : (decide ((c2 : Int) > (0 : Int))) = true)) (.cons (by omega : (0 : Int) ≤ (0 : Int) ∧ (0 : Int) ≤ (c : Int) ∧ (c : Int) ≤ (c : Nat)) (.cons (by omega : ((0 : Int) : Int) < (c : Nat) ∨ ((0 : Int) : Int) = 0) (.cons (wI ((c : Int) - (1 : Int)) ((c - 1 : Nat) : Int) (by omega) (by omega)) (.cons (by omega : (0 : Int) ≤ ((c - 1 : Nat) : Int) ∧ ((c - 1 : Nat) : Int) < (c : Int)) (.cons (by omega : (0 : Int) ≤ (0 : Int) ∧ (0 : Int) ≤ (c2 : Int) ∧ (c2 : Int) ≤ (c2 : Nat)) (.cons (by omega : ((0 : Int) : Int) < (c2 : Nat) ∨ ((0 : Int) : Int) = 0) (.cons (wI ((c2 : Int) - (1 : Int)) ((c2 - 1 : Nat) : Int) (by omega) (by omega)) (.cons (by omega : (0 : Int) ≤ ((c2 - 1 : Nat) : Int) ∧ ((c2 - 1 : Nat) : Int) < (c2 : Int)) .nil)))))))))) fun a2 hI => ?_
 refine endL (i := 25) (f' := 2) (by kernel_rfl) (by rfl) (by kernel_rfl) ?_
 replace hf0 := tf hA hf0
 replace hg0 := tg hA hg0
 replace hf1 := tf hA hf1
 replace hg1 := tg hA hg1
 refine rawL (x := vB false) hI rfl rfl (by kernel_rfl) (fun ev hev => ptr_ne ev rfl (hev (.tmp 21) (.pr 0 (0 + (c - 1))) (by kernel_rfl)) (hev (.tmp 29) (.pr 1 (0 + (c2 - 1))) (by kernel_rfl)) (te := 102) (by kernel_rfl) rfl (by decide) (hR.ggN m0 m1 (by dsimp only; decide) hf0 hf1) (hR.rowCells (y := ⟨0, 102, 1, N, (ints .u64 zs)⟩) m0 hf0 rfl).1 (hR.rowCells (y := ⟨1, 102, 1, N2, (ints .u64 us)⟩) m1 hf1 rfl).1) (fun a3 hI => ?_)
 replace hI := hI.sl [30, 29, 21, 13] rfl
 refine endL (i := 26) (f' := 1) (by kernel_rfl) (by rfl) (by kernel_rfl) ?_
 refine quietL tab (hh := .no) (x := vB false) hR hI rfl rfl rfl (by kernel_rfl) .nil (fun a4 hI => ?_)
 replace hI := hI.sl [31, 30, 29, 21, 13] rfl
 refine endL (i := 27) (f' := 0) (by kernel_rfl) (by rfl) (by kernel_rfl) ?_
 refine quietL tab (hh := .no) (x := vB false) hR hI rfl rfl rfl (by kernel_rfl) .nil (fun a5 hI => ?_)
 replace hI := hI.sl [4, 31, 30, 29, 21, 13] rfl
 refine doneL (by kernel_rfl) ?_
 refine then_n ?_
 replace hI := hI.sl [4] rfl; replace hR := hR.sel [] [0, 1] rfl rfl
 refine wp_ret (oN tab [vB false] hR hI ?_)
 exact ⟨rfl, hB.fin hR, (hR.rowFin (y := ⟨0, 102, 1, N, (ints .u64 zs)⟩) m0 hf0 rfl hg0), (hR.rowFin (y := ⟨1, 102, 1, N2, (ints .u64 us)⟩) m1 hf1 rfl hg1)⟩

theorem normL_spec {C : Nat → Prop} {w : World} {ad : Option Addr} {xc l : Nat} {xs : List Nat} (hxl : xs.length = l) (hx : Sl .u64 18446744073709551616 C w ad xc xs) :
  Calls P 77 #[.slice ad l xc] w fun ex w' => ∃ m, ex = .returned (.slice ad m xc) ∧ Keep (fun b => b < w.heap.size) w w' ∧ m ≤ l ∧ Ntrim (xs.take m) ∧ nval (xs.take m) = nval xs := by
 subst hxl
 exact norm_spec hx

end Go.Proofs.YtmendapdibnbdaaGreatDoor.Stride
