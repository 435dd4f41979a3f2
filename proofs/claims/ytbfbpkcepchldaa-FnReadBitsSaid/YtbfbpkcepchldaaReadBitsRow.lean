/- The row of FnReadBits, out of the walk (law_spec) and what came in. -/
import Derived.Test.YtbfbpkcepchldaaRows
import Derived.Test.YtbfbpkcepchldaaRbY
import Derived.WalkKit
import Derived.ProofKit
import Derived.OpenShut
import Derived.ShutString
import Derived.ChangeOld
import Derived.Below
import Derived.SizedLaws
namespace Go.Proofs.Ytbfbpkcepchldaa.fnReadBits
open Go.ChangeShapes Go.WideShapes Go.ChangeAt Go.RowKit
open Go.ChangeMaps (open_string shut_string)
set_option linter.unusedVariables false
theorem own : ownKnob Try.prog.godebug = none := by kernel_rfl
theorem laidOut : laidOutB Try.prog = true := by kernel_rfl
open Stride in
/-- A slice of numbers that came in. -/
theorem sl_of {H : Type} {P : Program} {enc : TypeId × Value → H} {W : World} {sp : Nat → Bool} {held : Bool} {b0 : Nat} {k : IntKind} {B : Nat} {t e : TypeId} {a : Option Addr} {len cap : Nat} {d : DataW H} {p : List MemPlace}
    (ht : P.underlying t = some (.slice e)) (he : P.underlying e = some (.int k)) (hc : P.cellsOf e = 1) (hB : ∀ n : Int, (Lit.int k n).wf = true → 0 ≤ n ∧ n < (B : Int))
    (h : DataW.Trod enc P W b0 sp held t (.slice a len cap) d p) : ∃ xs : List Nat, xs.length = len ∧ Sl k B (fun b => b < W.heap.size) W a cap xs := by
  obtain ⟨fuel, hf⟩ := h
  rcases open_ints ht he hc hf with ⟨hcs, _⟩ | ⟨x, l, c, zs, hcs, _, hl, hm, hz, _, hcell, hwz⟩
  · simp [Value.cells] at hcs
    obtain ⟨rfl, rfl, rfl⟩ := hcs
    exact ⟨[], rfl, Sl.nil⟩
  · simp [Value.cells] at hcs
    obtain ⟨rfl, rfl, rfl⟩ := hcs
    have hle : len ≤ zs.length := by split at hz <;> omega
    have hn : ∀ i, i < zs.length → 0 ≤ zs.getD i 0 ∧ zs.getD i 0 < (B : Int) := fun i hi => by
      refine hB _ (hwz _ ?_)
      rw [List.getD_eq_getElem?_getD, List.getElem?_eq_getElem hi]
      exact List.getElem_mem hi
    have hlen : ((zs.take len).map Int.toNat).length = len := by rw [List.length_map, List.length_take, Nat.min_eq_left hle]
    have hg : ∀ i, i < len → ((zs.take len).map Int.toNat)[i]? = some (zs.getD i 0).toNat := fun i hi => by
      rw [List.getElem?_map, List.getElem?_take, if_pos hi, List.getD_eq_getElem?_getD, List.getElem?_eq_getElem (by omega)]
      rfl
    refine ⟨(zs.take len).map Int.toNat, hlen, fun i v hv => ?_, fun d hd => ?_, by rw [hlen]; exact hl, by simpa [maxLen] using hm⟩
    · have hi : i < len := by
        have := (List.getElem?_eq_some_iff.1 hv).1
        rw [ints_length, hlen] at this
        exact this
      have hv2 : v = .int k (zs.getD i 0) := by
        unfold ints at hv
        rw [List.getElem?_map, hg i hi] at hv
        simp only [Option.map_some, Option.some.injEq] at hv
        rw [← hv, Int.toNat_of_nonneg (hn i (by omega)).1]
      have hcl := hcell i (by omega)
      refine ⟨x, rfl, ?_, by rw [hv2]; exact hcl⟩
      have := World.block_lt_of_cell? W _ hcl
      rwa [add_block] at this
    · obtain ⟨i, hi, he⟩ := List.getElem_of_mem hd
      rw [hlen] at hi
      have h1 := hg i hi
      rw [List.getElem?_eq_getElem (by rw [hlen]; exact hi), he] at h1
      have h2 := hn i (by omega)
      have h3 : d = (zs.getD i 0).toNat := Option.some.inj h1
      omega
set_option maxRecDepth 100000 in
theorem lifted (os : Os) (started : os.Started) (H : Type) (enc : TypeId × Value → H) :
    ReturnsInHanded {} Try.checked os 3 .any (Rows.fnReadBitsSpec.pre6 enc Try.prog Try.f3 Rows.fnReadBitsRow.domain false) (Rows.fnReadBitsSpec.post enc Try.prog Try.f3 false true false false) := by
  refine returnsInHanded_of_change_sized (C := Try.checked) own started (by kernel_rfl) Try.func3
    (ChangeSpec.witness6 (enc := enc) (C := Try.checked) false ⟨#[], #[.slice none 0 0, .int .i64 0, .int .i64 0], []⟩ 8 (by kernel_rfl) (by kernel_rfl) (by kernel_rfl) (by kernel_rfl)) ?_
  intro W base args ds gs before hval0 hW hcnd hsz0 _
  have hval : ∀ (j : Nat) t v, Try.f3.params[j]? = some t → args[j]? = some v → Value.okWide Try.prog W .any base t v := hval0
  have hW' := hW
  obtain ⟨p, q, hA0, hV, rfl, hfz, hnd⟩ := hW
  have hA : DataW.TrodAll enc Try.prog W 0 (fun _ => true) true Try.f3.params.toList args.toList ds p := hA0
  rw [Try.params3] at hA hval
  obtain ⟨v0, vs0, d0, ds0, p0, q0, hargs, rfl, rfl, h0, r0⟩ := trodAll_cons hA
  obtain ⟨v1, vs1, d1, ds1, p1, q1, rfl, rfl, rfl, h1, r1⟩ := trodAll_cons r0
  obtain ⟨v2, vs2, d2, ds2, p2, q2, rfl, rfl, rfl, h2, r2⟩ := trodAll_cons r1
  obtain ⟨rfl, rfl, rfl⟩ := trodAll_nil r2
  obtain rfl : args = #[v0, v1, v2] := by cases args; simp_all
  obtain ⟨rfl, rfl⟩ := trodVars_none hV
  obtain ⟨a0, len0, cap0, rfl⟩ := okWide_slice Try.underlying22 (hval 0 22 v0 rfl rfl)
  obtain ⟨a1, rfl, rfl, rfl, w1⟩ := open_int Try.underlying3 (hval 1 3 v1 rfl rfl) h1
  obtain ⟨a2, rfl, rfl, rfl, w2⟩ := open_int Try.underlying3 (hval 2 3 v2 rfl rfl) h2
  have lt0 : ∀ x ∈ p0, x.block < W.heap.size := by obtain ⟨m, hm⟩ := h0; exact DataW.trod_lt m _ _ _ hm
  have hb8 : ∀ n : Int, (Lit.int .u8 n).wf = true → 0 ≤ n ∧ n < ((256 : Nat) : Int) := fun n hn => by have := bounds_u8 hn; omega
  obtain ⟨xs, rfl, hx⟩ := sl_of Try.underlying22 Try.underlying5 (by kernel_rfl) hb8 h0
  clear hA0 hval0 hsz0
  refine (Stride.law_spec (by have := bounds_i64 w1; omega) (by have := bounds_i64 w2; omega) hx).mono fun e W' ⟨he, hk⟩ => ?_
  have bel := hk.below
  subst he
  exact ⟨_, rfl, _, _, _, [], _, [], hW', trodAll_mk1 (shut_bool Try.underlying4 _), (trodAll_cons_mk (Below.trod laidOut (by kernel_rfl) (of_decide_eq_true (by kernel_rfl)) h0 bel lt0) (trodAll_cons_mk (shut_int Try.underlying3 w1) (trodAll_cons_mk (shut_int Try.underlying3 w2) trodAll_mk0))), rfl, bel.frame _, fun h => by cases h⟩
theorem over : Rows.fnReadBitsRow.holds Try.pinned (OpenSpec.ofChange Rows.fnReadBitsSpec) :=
  OpenClaim.holds_of_wide 3 Try.f3 rfl rfl rfl rfl rfl rfl rfl ⟨rfl, rfl, rfl, rfl, rfl⟩ rfl rfl rfl rfl rfl (by kernel_rfl) Try.func3 (by kernel_rfl)
    (of_decide_eq_true (by kernel_rfl)) (by unfold Func.isWrapper; first | (rw [if_pos (by decide +kernel)]; kernel_rfl) | (rw [if_neg (by decide +kernel)]; exact ⟨rfl, rfl⟩))
    (fun os started H enc _ => lifted os started H enc)
theorem proved : Rows.FnReadBitsSaid := over
#print axioms proved
end Go.Proofs.Ytbfbpkcepchldaa.fnReadBits
namespace Go.Proofs.Ytbfbpkcepchldaa
/-- The row, under a short name, for the claim. -/
theorem fnReadBits_holds : Rows.FnReadBitsSaid := fnReadBits.proved
end Go.Proofs.Ytbfbpkcepchldaa
