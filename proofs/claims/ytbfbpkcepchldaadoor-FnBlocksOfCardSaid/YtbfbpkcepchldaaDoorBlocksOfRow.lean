/- The row of FnBlocksOf, out of the walk (law_spec) and what came in; then the card. -/
import Derived.Test.YtbfbpkcepchldaaDoorRows
import Derived.Test.YtbfbpkcepchldaaDoorBoV
import Derived.Test.YtbfbpkcepchldaaDoorTie
import Derived.Test.YtbfbpkcepchldaaDoorCards
import Derived.Lay
import Derived.LaidOnce
import Derived.LaidLaws
import Derived.WalkKit
import Derived.ProofKit
import Derived.OpenShut
import Derived.ShutString
import Derived.ChangeOld
import Derived.Below
import Derived.SizedLaws
import Derived.Lib.LaidU8
import Derived.MakeChecks
import Derived.OpenVars
namespace Go.Proofs.YtbfbpkcepchldaaDoor.fnBlocksOf
open Go.ChangeShapes Go.WideShapes Go.ChangeAt Go.RowKit
open Go.ChangeMaps (open_string shut_string)
set_option linter.unusedVariables false
theorem own : ownKnob Tryd.prog.godebug = none := by kernel_rfl
theorem laidOut : laidOutB Tryd.prog = true := by kernel_rfl
open Stride in
/-- A slice of numbers that came in. -/
theorem sl_of {H : Type} {P : Program} {enc : TypeId × Value → H} {W : World} {sp : Nat → Bool} {held : Bool} {b0 : Nat} {k : IntKind} {B : Nat} {t e : TypeId} {a : Option Addr} {len cap : Nat} {d : DataW H} {p : List MemPlace}
    (ht : P.underlying t = some (.slice e)) (he : P.underlying e = some (.int k)) (hc : P.cellsOf e = 1) (hB : ∀ n : Int, (Lit.int k n).wf = true → 0 ≤ n ∧ n < (B : Int))
    (h : DataW.Trod enc P W b0 sp held t (.slice a len cap) d p) : ∃ xs : List Nat, xs.length = len ∧ Sl k B (fun b => b < W.heap.size) W a cap xs := by
  obtain ⟨fuel, hf⟩ := h
  rcases open_ints ht he hc hf with ⟨hcs, _⟩ | ⟨x, l, c, zs, hcs, _, hl, hm, hz, _, hcell, hwz⟩
  · simp [Value.cells] at hcs
    obtain ⟨rfl, rfl, rfl⟩ := hcs
    exact ⟨[], rfl, Sl.nil⟩
  · simp [Value.cells] at hcs
    obtain ⟨rfl, rfl, rfl⟩ := hcs
    have hle : len ≤ zs.length := by split at hz <;> omega
    have hn : ∀ i, i < zs.length → 0 ≤ zs.getD i 0 ∧ zs.getD i 0 < (B : Int) := fun i hi => by
      refine hB _ (hwz _ ?_)
      rw [List.getD_eq_getElem?_getD, List.getElem?_eq_getElem hi]
      exact List.getElem_mem hi
    have hlen : ((zs.take len).map Int.toNat).length = len := by rw [List.length_map, List.length_take, Nat.min_eq_left hle]
    have hg : ∀ i, i < len → ((zs.take len).map Int.toNat)[i]? = some (zs.getD i 0).toNat := fun i hi => by
      rw [List.getElem?_map, List.getElem?_take, if_pos hi, List.getD_eq_getElem?_getD, List.getElem?_eq_getElem (by omega)]
      rfl
    refine ⟨(zs.take len).map Int.toNat, hlen, fun i v hv => ?_, fun d hd => ?_, by rw [hlen]; exact hl, by simpa [maxLen] using hm⟩
    · have hi : i < len := by
        have := (List.getElem?_eq_some_iff.1 hv).1
        rw [ints_length, hlen] at this
        exact this
      have hv2 : v = .int k (zs.getD i 0) := by
        unfold ints at hv
        rw [List.getElem?_map, hg i hi] at hv
        simp only [Option.map_some, Option.some.injEq] at hv
        rw [← hv, Int.toNat_of_nonneg (hn i (by omega)).1]
      have hcl := hcell i (by omega)
      refine ⟨x, rfl, ?_, by rw [hv2]; exact hcl⟩
      have := World.block_lt_of_cell? W _ hcl
      rwa [add_block] at this
    · obtain ⟨i, hi, he⟩ := List.getElem_of_mem hd
      rw [hlen] at hi
      have h1 := hg i hi
      rw [List.getElem?_eq_getElem (by rw [hlen]; exact hi), he] at h1
      have h2 := hn i (by omega)
      have h3 : d = (zs.getD i 0).toNat := Option.some.inj h1
      omega
open Stride in
/-- A package-level array of whole numbers that the row lists. -/
theorem sl_glob {P : Program} {W : World} {n : String} {k : IntKind} {B : Nat} {xs : List Nat} {g : Nat} {t e : TypeId} {m : Nat}
    (hg : P.globalNamed n = some g) (hty : (P.globals[g]?).map (·.type) = some t) (ht : P.underlying t = some (.array m e)) (he : P.underlying e = some (.int k)) (hce : P.cellsOf e = 1) (hct : P.cellsOf t = m)
    (hd : ∀ d ∈ xs, d < B) (hz : xs.length ≤ 9223372036854775807) (h : Lib.VarReads P W n (Lib.tabData k (xs.map fun x : Nat => (x : Int)))) : Sl k B (fun b => b < W.heap.size) W (some ⟨g, 0, none⟩) xs.length xs := by
  obtain ⟨g', t', cs, fuel, p, hg', ht', hvar, hdd⟩ := h
  obtain rfl := Option.some.inj (hg.symm.trans hg')
  obtain rfl := Option.some.inj (hty.symm.trans ht')
  have hT : Lib.TabIs P W n k (xs.map fun x : Nat => (x : Int)) := by
    unfold Lib.TabIs
    rw [hvar, ← Lib.cells_of_tab ht he hce hct hdd]
  refine ⟨fun i v hi => ?_, hd, Nat.le_refl _, hz⟩
  have hil : i < xs.length := by
    have := (List.getElem?_eq_some_iff.1 hi).1
    rwa [ints_length] at this
  have hv : v = .int k ((xs.getD i 0 : Nat) : Int) := by
    have := ints_get (k := k) hil
    rw [this] at hi
    exact (Option.some.inj hi).symm
  have hc := hT.cell hg i (by rw [List.length_map]; exact hil)
  have hval : (xs.map fun x : Nat => (x : Int)).getD i 0 = ((xs.getD i 0 : Nat) : Int) := by
    rw [List.getD_eq_getElem?_getD, List.getD_eq_getElem?_getD, List.getElem?_map, List.getElem?_eq_getElem hil]; rfl
  have hcell : W.cell? ((⟨g, 0, none⟩ : Addr).add i) = some v := by
    rw [hv, ← hval, addr_add, Nat.zero_add]
    exact hc
  refine ⟨_, rfl, ?_, hcell⟩
  have := World.block_lt_of_cell? W _ hcell
  rwa [add_block] at this
set_option maxRecDepth 100000 in
theorem lifted (os : Os) (started : os.Started) (H : Type) (enc : TypeId × Value → H) :
    ReturnsInHanded {} Tryd.checked os 3 .any (fun w args => (Rows.fnBlocksOfSpec.pre enc Tryd.prog Tryd.f3 Rows.fnBlocksOfRow.domain false w args ∧ laidMetH Tryd.prog Rows.fnBlocksOfRow.laid w) ∧ sizedMet enc Tryd.prog Tryd.f3 (OpenSpec.ofChange Rows.fnBlocksOfSpec) false w args) (Rows.fnBlocksOfSpec.post enc Tryd.prog Tryd.f3 false true false false) := by
  refine returnsInHanded_of_change_and (C := Tryd.checked) (X := fun w _ => laidMetH Tryd.prog Rows.fnBlocksOfRow.laid w) (fun _ _ _ hh h => h.of_heap hh) own started (by kernel_rfl) Tryd.func3
    (ChangeSpec.witness_shaped (enc := enc) (C := Tryd.checked) (os := os) (X := fun w _ => laidMetH Tryd.prog Rows.fnBlocksOfRow.laid w) false (World.laidAll Tryd.prog os Rows.fnBlocksOfRow.laid) #[.slice none 0 0, .int .i64 0, .int .i64 0, .int .i64 0, .bool false] 8 (World.laidAll_os _ _ _)
      (World.shaped_of_ZipB (by kernel_rfl) (by kernel_rfl)) (by kernel_rfl) (by kernel_rfl) (by kernel_rfl)
      (by rw [MakeChecks.laidMetH_plain _ _ _ (by kernel_rfl)]; exact laidMet_laidAll _ (by kernel_rfl) (by kernel_rfl))) ?_
  intro W base args ds gs before hval0 hW hcnd hsz0 hL _
  have hval : ∀ (j : Nat) t v, Tryd.f3.params[j]? = some t → args[j]? = some v → Value.okWide Tryd.prog W .any base t v := hval0
  have hW' := hW
  obtain ⟨p, q, hA0, hV0, rfl, hfz, hnd⟩ := hW
  have hV : DataW.TrodVars enc Tryd.prog W (fun _ => true) Rows.fnBlocksOfSpec.vars gs q := hV0
  have hA : DataW.TrodAll enc Tryd.prog W 0 (fun _ => true) true Tryd.f3.params.toList args.toList ds p := hA0
  rw [Tryd.params3] at hA hval
  obtain ⟨v0, vs0, d0, ds0, p0, q0, hargs, rfl, rfl, h0, r0⟩ := trodAll_cons hA
  obtain ⟨v1, vs1, d1, ds1, p1, q1, rfl, rfl, rfl, h1, r1⟩ := trodAll_cons r0
  obtain ⟨v2, vs2, d2, ds2, p2, q2, rfl, rfl, rfl, h2, r2⟩ := trodAll_cons r1
  obtain ⟨v3, vs3, d3, ds3, p3, q3, rfl, rfl, rfl, h3, r3⟩ := trodAll_cons r2
  obtain ⟨v4, vs4, d4, ds4, p4, q4, rfl, rfl, rfl, h4, r4⟩ := trodAll_cons r3
  obtain ⟨rfl, rfl, rfl⟩ := trodAll_nil r4
  obtain rfl : args = #[v0, v1, v2, v3, v4] := by cases args; simp_all
  obtain ⟨a0, len0, cap0, rfl⟩ := okWide_slice Tryd.underlying22 (hval 0 22 v0 rfl rfl)
  obtain ⟨a1, rfl, rfl, rfl, w1⟩ := open_int Tryd.underlying3 (hval 1 3 v1 rfl rfl) h1
  obtain ⟨a2, rfl, rfl, rfl, w2⟩ := open_int Tryd.underlying3 (hval 2 3 v2 rfl rfl) h2
  obtain ⟨a3, rfl, rfl, rfl, w3⟩ := open_int Tryd.underlying3 (hval 3 3 v3 rfl rfl) h3
  obtain ⟨a4, rfl, rfl, rfl⟩ := open_bool Tryd.underlying4 (hval 4 4 v4 rfl rfl) h4
  have lt0 : ∀ x ∈ p0, x.block < W.heap.size := by obtain ⟨m, hm⟩ := h0; exact DataW.trod_lt m _ _ _ hm
  have hb8 : ∀ n : Int, (Lit.int .u8 n).wf = true → 0 ≤ n ∧ n < ((256 : Nat) : Int) := fun n hn => by have := bounds_u8 hn; omega
  obtain ⟨xs, rfl, hx⟩ := sl_of Tryd.underlying22 Tryd.underlying5 (by kernel_rfl) hb8 h0
  clear hA0 hval0 hsz0 hV0
  obtain ⟨_, _, _, _, dg0, _, rfl, -⟩ := trodVars_one hV
  rw [MakeChecks.laidMetH_plain _ _ _ (by kernel_rfl)] at hL
  have hg1 := sl_glob (g := 1) (t := 61) (e := 5) (m := 8) (B := 256) (xs := Stride.bitMask) (by kernel_rfl) (by kernel_rfl) (by kernel_rfl) (by kernel_rfl) (by kernel_rfl) (by kernel_rfl) (by decide) (by decide) (Lib.laidMet.reads hL (.head _))
  refine (Stride.law_spec a4 (by have := bounds_i64 w1; omega) (by have := bounds_i64 w2; omega) hg1 hx (how := a3)).mono fun e W' ⟨he, hk⟩ => ?_
  have bel := hk.below
  subst he
  exact ⟨_, rfl, _, _, _, [], _, _, hW', trodAll_mk1 (shut_bool Tryd.underlying4 _), (trodAll_cons_mk (Below.trod laidOut (by kernel_rfl) (of_decide_eq_true (by kernel_rfl)) h0 bel lt0) (trodAll_cons_mk (shut_int Tryd.underlying3 w1) (trodAll_cons_mk (shut_int Tryd.underlying3 w2) (trodAll_cons_mk (shut_int Tryd.underlying3 w3) (trodAll_cons_mk (shut_bool Tryd.underlying4 _) trodAll_mk0))))), Below.trodVars laidOut bel (by kernel_rfl) hV, bel.frame _, fun h => by cases h⟩
theorem over : Rows.fnBlocksOfRow.holds Tryd.pinned (OpenSpec.ofChange Rows.fnBlocksOfSpec) :=
  OpenClaim.holds_of_wide 3 Tryd.f3 rfl rfl rfl rfl rfl rfl rfl ⟨rfl, rfl, rfl, rfl, rfl⟩ rfl rfl rfl rfl rfl (by kernel_rfl) Tryd.func3 (by kernel_rfl)
    (of_decide_eq_true (by kernel_rfl)) (by unfold Func.isWrapper; first | (rw [if_pos (by decide +kernel)]; kernel_rfl) | (rw [if_neg (by decide +kernel)]; exact ⟨rfl, rfl⟩))
    (fun os started H enc _ => lifted os started H enc)
theorem proved : Rows.FnBlocksOfSaid := over
#print axioms proved
end Go.Proofs.YtbfbpkcepchldaaDoor.fnBlocksOf
namespace Go.Proofs.YtbfbpkcepchldaaDoor
theorem fnBlocksOf_row : Rows.FnBlocksOfSaid := fnBlocksOf.proved
/-- The card. -/
theorem fnBlocksOf_holds : Rows.FnBlocksOfCardSaid :=
  Claim7.holds_tied_plain_at .later [] [.data] true (true, "f3dda3d9e518941e8393cd720e40dae7583f5050f262e3e935d2a3233fec01cf") false
    fnBlocksOf_row (fun _ h => by cases h) (by kernel_rfl) (fun _ h => by cases h) fnBlocksOf_row_tie rfl ⟨rfl, rfl⟩ (by kernel_rfl) rfl
    (fun f fn hf hfn => by
      obtain rfl : f = 3 := Option.some.inj ((show Tryd.prog.funcNamed "given.example/pub-fletching/laws.FnBlocksOf" = some 3 by kernel_rfl).symm.trans hf) |>.symm
      obtain rfl : fn = Tryd.f3 := (Option.some.inj (Tryd.func3.symm.trans hfn)).symm
      exact ⟨by kernel_rfl, fun j t ht => by
        rw [Tryd.params3] at ht
        have h3 : t = 22 ∨ t = 3 ∨ t = 4 := by
          rcases j with _ | _ | _ | _ | _ | j <;> simp at ht <;> simp [ht]
        rcases h3 with rfl | rfl | rfl
        · exact (show Tryd.prog.wantsStandIn 22 = false by kernel_rfl)
        · exact (show Tryd.prog.wantsStandIn 3 = false by kernel_rfl)
        · exact (show Tryd.prog.wantsStandIn 4 = false by kernel_rfl)⟩)
    (by kernel_rfl)
end Go.Proofs.YtbfbpkcepchldaaDoor
