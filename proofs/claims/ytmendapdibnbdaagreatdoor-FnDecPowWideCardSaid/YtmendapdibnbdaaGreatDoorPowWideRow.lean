/- The row of FnDecPowWide, out of the walk (law_spec) and what came in; then the card. -/
import Derived.Test.YtmendapdibnbdaaGreatDoorRows
import Derived.Test.YtmendapdibnbdaaGreatDoorPwI
import Derived.Test.YtmendapdibnbdaaGreatDoorTie
import Derived.Test.YtmendapdibnbdaaGreatDoorCards
import Derived.Lay
import Derived.LaidOnce
import Derived.LaidLaws
import Derived.WalkKit
import Derived.ProofKit
import Derived.OpenShut
import Derived.ShutString
import Derived.ChangeOld
import Derived.Below
import Derived.SizedLaws
import Derived.Lib.LaidU8
import Derived.MakeChecks
import Derived.OpenVars
namespace Go.Proofs.YtmendapdibnbdaaGreatDoor.fnDecPowWide
open Go.ChangeShapes Go.WideShapes Go.ChangeAt Go.RowKit
open Go.ChangeMaps (open_string shut_string)
set_option linter.unusedVariables false
theorem own : ownKnob Tryz.prog.godebug = none := by kernel_rfl
theorem laidOut : laidOutB Tryz.prog = true := by kernel_rfl
open Stride in
theorem sl_of {H : Type} {P : Program} {enc : TypeId × Value → H} {W : World} {sp : Nat → Bool} {held : Bool} {b0 : Nat} {k : IntKind} {B : Nat} {t e : TypeId} {a : Option Addr} {len cap : Nat} {d : DataW H} {p : List MemPlace}
  (ht : P.underlying t = some (.slice e)) (he : P.underlying e = some (.int k)) (hc : P.cellsOf e = 1) (hB : ∀ n : Int, (Lit.int k n).wf = true → 0 ≤ n ∧ n < (B : Int))
  (h : DataW.Trod enc P W b0 sp held t (.slice a len cap) d p) : ∃ xs : List Nat, xs.length = len ∧ Sl k B (fun b => b < W.heap.size) W a cap xs := by
 obtain ⟨fuel, hf⟩ := h
 rcases open_ints ht he hc hf with ⟨hcs, _⟩ | ⟨x, l, c, zs, hcs, _, hl, hm, hz, _, hcell, hwz⟩
 ·
  simp [Value.cells] at hcs
  obtain ⟨rfl, rfl, rfl⟩ := hcs
  exact ⟨[], rfl, Sl.nil⟩
 ·
  simp [Value.cells] at hcs
  obtain ⟨rfl, rfl, rfl⟩ := hcs
  have hle : len ≤ zs.length := by split at hz <;> omega
  have hn : ∀ i, i < zs.length → 0 ≤ zs.getD i 0 ∧ zs.getD i 0 < (B : Int) := fun i hi => by
   refine hB _ (hwz _ ?_)
   rw [List.getD_eq_getElem?_getD, List.getElem?_eq_getElem hi]
   exact List.getElem_mem hi
  have hlen : ((zs.take len).map Int.toNat).length = len := by rw [List.length_map, List.length_take, Nat.min_eq_left hle]
  have hg : ∀ i, i < len → ((zs.take len).map Int.toNat)[i]? = some (zs.getD i 0).toNat := fun i hi => by
   rw [List.getElem?_map, List.getElem?_take, if_pos hi, List.getD_eq_getElem?_getD, List.getElem?_eq_getElem (by omega)]
   rfl
  refine ⟨(zs.take len).map Int.toNat, hlen, fun i v hv => ?_, fun d hd => ?_, by rw [hlen]; exact hl, by simpa [maxLen] using hm⟩
  ·
   have hi : i < len := by
    have := (List.getElem?_eq_some_iff.1 hv).1
    rw [ints_length, hlen] at this
    exact this
   have hv2 : v = .int k (zs.getD i 0) := by
    unfold ints at hv
    rw [List.getElem?_map, hg i hi] at hv
    simp only [Option.map_some, Option.some.injEq] at hv
    rw [← hv, Int.toNat_of_nonneg (hn i (by omega)).1]
   have hcl := hcell i (by omega)
   refine ⟨x, rfl, ?_, by rw [hv2]; exact hcl⟩
   have := World.block_lt_of_cell? W _ hcl
   rwa [add_block] at this
  ·
   obtain ⟨i, hi, he⟩ := List.getElem_of_mem hd
   rw [hlen] at hi
   have h1 := hg i hi
   rw [List.getElem?_eq_getElem (by rw [hlen]; exact hi), he] at h1
   have h2 := hn i (by omega)
   have h3 : d = (zs.getD i 0).toNat := Option.some.inj h1
   omega
open Stride in
theorem sl_glob {P : Program} {W : World} {n : String} {x g : Nat} {t : TypeId} {B : Nat}
  (hg : P.globalNamed n = some g) (hty : (P.globals[g]?).map (·.type) = some t) (ht : P.underlying t = some (.int .i64)) (hd : x < B) (h : Lib.VarReads P W n (.lit (.int .i64 (x : Int)))) : Sl .i64 B (fun b => b < W.heap.size) W (some ⟨g, 0, none⟩) 1 [x] := by
 obtain ⟨g', t', cs, fuel, p, hg', ht', hvar, hdd⟩ := h
 obtain rfl := Option.some.inj (hg.symm.trans hg')
 obtain rfl := Option.some.inj (hty.symm.trans ht')
 obtain ⟨n', hcs, hx, _⟩ := DataW.trod_int ht hdd
 have hn : n' = (x : Int) := by
  have := congrArg Prod.fst hx
  simp only [DataW.lit.injEq, Lit.int.injEq, true_and] at this
  exact this.symm
 subst hn
 refine ⟨fun i v hi => ?_, fun d hd' => by rw [List.mem_singleton.1 hd']; exact hd, Nat.le_refl _, by decide⟩
 have hil : i < 1 := by
  have := (List.getElem?_eq_some_iff.1 hi).1
  rwa [ints_length] at this
 obtain rfl : i = 0 := by omega
 have hv : v = .int .i64 (x : Int) := (Option.some.inj hi).symm
 have hc := World.var?_cell hg hvar 0
 have hcell : W.cell? ((⟨g, 0, none⟩ : Addr).add 0) = some v := by
  rw [addr_add, Nat.zero_add]
  refine hc.trans ?_
  have h2 : cs = #[.int .i64 (x : Int)] := by cases cs; simp_all
  rw [h2, hv]; rfl
 refine ⟨_, rfl, ?_, hcell⟩
 have := World.block_lt_of_cell? W _ hcell
 rwa [add_block] at this
theorem trodVars_len {H : Type} {enc : TypeId × Value → H} {P : Program} {W : World} {sp : Nat → Bool} : ∀ {ns : List String} {gs : List (DataW H)} {q : List MemPlace}, DataW.TrodVars enc P W sp ns gs q → gs.length = ns.length
 | [], [], _, _ => rfl
 | [], _ :: _, _, h => by simp [DataW.TrodVars] at h
 | _ :: _, [], _, h => by simp [DataW.TrodVars] at h
 | n :: ns, d :: ds, q, h => by
  obtain ⟨_, _, _, _, _, q', _, _, _, _, hs, _⟩ := h
  simpa using trodVars_len hs
theorem four_of {α : Type} {gs : List α} (h : gs.length = 4) : ∃ a b c d, gs = [a, b, c, d] := by
 match gs, h with
 | [a, b, c, d], _ => exact ⟨a, b, c, d, rfl⟩
set_option maxRecDepth 100000 in
theorem lifted (os : Os) (started : os.Started) (H : Type) (enc : TypeId × Value → H) :
  ReturnsInHanded {} Tryz.checked os 4 .any (fun w args => (Rows.fnDecPowWideSpec.pre enc Tryz.prog Tryz.f4 Rows.fnDecPowWideRow.domain false w args ∧ laidMetH Tryz.prog Rows.fnDecPowWideRow.laid w) ∧ sizedMet enc Tryz.prog Tryz.f4 (OpenSpec.ofChange Rows.fnDecPowWideSpec) false w args) (Rows.fnDecPowWideSpec.post enc Tryz.prog Tryz.f4 false true false false) := by
 refine returnsInHanded_of_change_and (C := Tryz.checked) (X := fun w _ => laidMetH Tryz.prog Rows.fnDecPowWideRow.laid w) (fun _ _ _ hh h => h.of_heap hh) own started (by kernel_rfl) Tryz.func4
  (ChangeSpec.witness_shaped (enc := enc) (C := Tryz.checked) (os := os) (X := fun w _ => laidMetH Tryz.prog Rows.fnDecPowWideRow.laid w) false (World.laidAll Tryz.prog os Rows.fnDecPowWideRow.laid) #[.int .i64 0, .slice none 0 0, .slice none 0 0] 8 (World.laidAll_os _ _ _)
   (World.shaped_of_ZipB (by kernel_rfl) (by kernel_rfl)) (by kernel_rfl) (by kernel_rfl) (by kernel_rfl)
   (by rw [MakeChecks.laidMetH_plain _ _ _ (by kernel_rfl)]; exact laidMet_laidAll _ (by kernel_rfl) (by kernel_rfl))) ?_
 intro W base args ds gs before hval0 hW hcnd hsz0 hL _
 have hval : ∀ (j : Nat) t v, Tryz.f4.params[j]? = some t → args[j]? = some v → Value.okWide Tryz.prog W .any base t v := hval0
 have hW' := hW
 obtain ⟨p, q, hA0, hV0, rfl, hfz, hnd⟩ := hW
 have hV : DataW.TrodVars enc Tryz.prog W (fun _ => true) Rows.fnDecPowWideSpec.vars gs q := hV0
 have hA : DataW.TrodAll enc Tryz.prog W 0 (fun _ => true) true Tryz.f4.params.toList args.toList ds p := hA0
 rw [Tryz.params4] at hA hval
 obtain ⟨v0, vs0, d0, ds0, p0, q0, hargs, rfl, rfl, h0, r0⟩ := trodAll_cons hA
 obtain ⟨v1, vs1, d1, ds1, p1, q1, rfl, rfl, rfl, h1, r1⟩ := trodAll_cons r0
 obtain ⟨v2, vs2, d2, ds2, p2, q2, rfl, rfl, rfl, h2, r2⟩ := trodAll_cons r1
 obtain ⟨rfl, rfl, rfl⟩ := trodAll_nil r2
 obtain rfl : args = #[v0, v1, v2] := by cases args; simp_all
 obtain ⟨a0, rfl, rfl, rfl, w0⟩ := open_int Tryz.underlying3 (hval 0 3 v0 rfl rfl) h0
 obtain ⟨a1, len1, cap1, rfl⟩ := okWide_slice Tryz.underlying22 (hval 1 22 v1 rfl rfl)
 obtain ⟨a2, len2, cap2, rfl⟩ := okWide_slice Tryz.underlying22 (hval 2 22 v2 rfl rfl)
 have lt1 : ∀ x ∈ p1, x.block < W.heap.size := by obtain ⟨m, hm⟩ := h1; exact DataW.trod_lt m _ _ _ hm
 have lt2 : ∀ x ∈ p2, x.block < W.heap.size := by obtain ⟨m, hm⟩ := h2; exact DataW.trod_lt m _ _ _ hm
 have hb64 : ∀ n : Int, (Lit.int .u64 n).wf = true → 0 ≤ n ∧ n < ((18446744073709551616 : Nat) : Int) := fun n hn => by have := bounds_u64 hn; omega
 obtain ⟨xs, rfl, hx⟩ := sl_of Tryz.underlying22 Tryz.underlying25 (by kernel_rfl) hb64 h1
 obtain ⟨ys, rfl, hy⟩ := sl_of Tryz.underlying22 Tryz.underlying25 (by kernel_rfl) hb64 h2
 clear hA0 hval0 hsz0 hV0
 obtain ⟨g0, g1, g2, g3, rfl⟩ := four_of (trodVars_len hV)
 rw [MakeChecks.laidMetH_plain _ _ _ (by kernel_rfl)] at hL
 have hg3 := sl_glob (g := 3) (t := 3) (x := 40) (B := 18446744073709551616) (by kernel_rfl) (by kernel_rfl) Tryz.underlying3 (by decide) (Lib.laidMet.reads hL (.tail _ (.tail _ (.tail _ (.head _)))))
 have hg1 := sl_glob (g := 1) (t := 3) (x := 12) (B := 18446744073709551616) (by kernel_rfl) (by kernel_rfl) Tryz.underlying3 (by decide) (Lib.laidMet.reads hL (.tail _ (.tail _ (.tail _ (.tail _ (.head _))))))
 have hg2 := sl_glob (g := 2) (t := 3) (x := 80) (B := 18446744073709551616) (by kernel_rfl) (by kernel_rfl) Tryz.underlying3 (by decide) (Lib.laidMet.reads hL (.tail _ (.tail _ (.tail _ (.tail _ (.tail _ (.head _)))))))
 refine (Stride.law_spec_ a0 hx hy hg1 hg2 hg3).mono fun e W' ⟨he, hk⟩ => ?_
 have bel := hk.below
 subst he
 exact ⟨_, rfl, _, _, _, [], _, _, hW', trodAll_mk1 (shut_bool Tryz.underlying4 _), (trodAll_cons_mk (shut_int Tryz.underlying3 w0) (trodAll_cons_mk (Below.trod laidOut (by kernel_rfl) (of_decide_eq_true (by kernel_rfl)) h1 bel lt1) (trodAll_cons_mk (Below.trod laidOut (by kernel_rfl) (of_decide_eq_true (by kernel_rfl)) h2 bel lt2) trodAll_mk0))), Below.trodVars laidOut bel (by kernel_rfl) hV, bel.frame _, fun h => by cases h⟩
theorem over : Rows.fnDecPowWideRow.holds Tryz.pinned (OpenSpec.ofChange Rows.fnDecPowWideSpec) :=
 OpenClaim.holds_of_wide 4 Tryz.f4 rfl rfl rfl rfl rfl rfl rfl ⟨rfl, rfl, rfl, rfl, rfl⟩ rfl rfl rfl rfl rfl (by kernel_rfl) Tryz.func4 (by kernel_rfl)
  (of_decide_eq_true (by kernel_rfl)) (by unfold Func.isWrapper; first | (rw [if_pos (by decide +kernel)]; kernel_rfl) | (rw [if_neg (by decide +kernel)]; exact ⟨rfl, rfl⟩))
  (fun os started H enc _ => lifted os started H enc)
theorem proved : Rows.FnDecPowWideSaid := over
#print axioms proved
end Go.Proofs.YtmendapdibnbdaaGreatDoor.fnDecPowWide
namespace Go.Proofs.YtmendapdibnbdaaGreatDoor
theorem fnDecPowWide_row : Rows.FnDecPowWideSaid := fnDecPowWide.proved
theorem fnDecPowWide_holds : Rows.FnDecPowWideCardSaid :=
 Claim7.holds_tied_plain_at .later [] [.data, .data, .data, .data, .data, .data] true (true, "b7f108ddd1f7ca220dd61a66968072c80a12a30508fe4f5871b97cfa7f149061") false
  fnDecPowWide_row (fun _ h => by cases h) (by kernel_rfl) (fun _ h => by cases h) fnDecPowWide_row_tie rfl ⟨rfl, rfl⟩ (by kernel_rfl) rfl
  (fun f fn hf hfn => by
   obtain rfl : f = 4 := Option.some.inj ((show Tryz.prog.funcNamed "given.example/pub-fletching/laws.FnDecPowWide" = some 4 by kernel_rfl).symm.trans hf) |>.symm
   obtain rfl : fn = Tryz.f4 := (Option.some.inj (Tryz.func4.symm.trans hfn)).symm
   exact ⟨by kernel_rfl, fun j t ht => by
    rw [Tryz.params4] at ht
    have h3 : t = 3 ∨ t = 22 := by
     rcases j with _ | _ | _ | j <;> simp at ht <;> simp [ht]
    rcases h3 with rfl | rfl
    · exact (show Tryz.prog.wantsStandIn 3 = false by kernel_rfl)
    · exact (show Tryz.prog.wantsStandIn 22 = false by kernel_rfl)⟩)
  (by kernel_rfl)
end Go.Proofs.YtmendapdibnbdaaGreatDoor
