/- FnMetaFind: for every list of pairs and every key the law returns true (a key is found at the first place where it stands, with its value; -1 if it stands nowhere) and leaves its arguments as they were; no condition. -/
import Derived.Test.YticieelobdfloaaRows
import Derived.Test.YticieelobdfloaaQMetax3
import Derived.Test.YticieelobdfloaaMetaPlain
import Derived.Test.YticieelobdfloaaOpen
import Derived.WalkKit
import Derived.ProofKit
import Derived.OpenShut
import Derived.ShutString
import Derived.ChangeOld
import Derived.Below
import Derived.SizedLaws
import Derived.Carry
namespace Go.Proofs.Yticieelobdfloaa.fnMetaFind
open Go.ChangeShapes Go.WideShapes Go.ChangeAt Go.RowKit
open Go.ChangeMaps (open_string shut_string)
open Go.Proofs.YticieelobdfloaaW.PrintWords Go.Proofs.Yticieelobdfloaa.QMeta
set_option linter.unusedVariables false
theorem own : ownKnob Try.prog.godebug = none := by kernel_rfl
theorem laidOut : laidOutB Try.prog = true := by kernel_rfl

/-- The list of pairs that an argument is. -/
theorem open_pairs {H : Type} {enc : TypeId × Value → H} {W : World} {fuel : Nat} {cs : List Value} {x : DataW H × List MemPlace} (h : DataW.trod enc Try.prog W 0 (fun _ => true) true fuel 25 cs = some x) :
    ∃ (A : Option Addr) (c : Nat) (l : List S30), cs = [.slice A l.length c] ∧ Kd.C k30 W A l.length l ∧ l.length ≤ c := by
  rcases Aid.open_slice_fields Try.underlying25 Try.underlying30 (by kernel_rfl) (by kernel_rfl) h with ⟨hcs, _⟩ | ⟨a, len, cap, m, D, Pl, hcs, _, hl, hm, hmm, _, hi⟩
  · exact ⟨none, 0, [], hcs, Kd.C_nil _ _, by simp⟩
  · have hc : ∀ i, ∃ x : S30, i < len → W.cell? (a.add (i * 2 + 0)) = some (.string x.f0) ∧ W.cell? (a.add (i * 2 + 1)) = some (.string x.f1) := by
      intro i
      by_cases hil : i < len
      · obtain ⟨ys, n, _, _, _, hf⟩ := hi i (by rw [hmm]; split <;> omega)
        obtain ⟨v0, y0, c0, _, t0⟩ := hf 0 _ rfl
        obtain ⟨v1, y1, c1, _, t1⟩ := hf 1 _ rfl
        obtain ⟨s0, e0, _, _⟩ := DataW.trod_string Try.underlying9 t0
        obtain ⟨s1, e1, _, _⟩ := DataW.trod_string Try.underlying9 t1
        simp only [List.cons.injEq, and_true] at e0 e1
        subst e0; subst e1
        exact ⟨⟨s0, s1⟩, fun _ => ⟨c0, c1⟩⟩
      · exact ⟨z30, fun h => absurd h hil⟩
    let f : Nat → S30 := fun i => Classical.choose (hc i)
    have hfc : ∀ i, i < len → W.cell? (a.add (i * 2 + 0)) = some (.string (f i).f0) ∧ W.cell? (a.add (i * 2 + 1)) = some (.string (f i).f1) := fun i => Classical.choose_spec (hc i)
    have hlen : ((List.range len).map f).length = len := by simp
    refine ⟨some a, cap, (List.range len).map f, by rw [hlen]; exact hcs, ?_, by rw [hlen]; exact hl⟩
    rw [hlen]
    refine ⟨hlen, by unfold maxLen at hm; omega, fun _ => ⟨a, rfl, fun j p hp => ?_⟩⟩
    have hj : j < len := by
      have := (List.getElem?_eq_some_iff.1 hp).1
      simpa using this
    have hpj : p = f j := by
      have := (List.getElem?_eq_some_iff.1 hp).2
      simpa using this.symm
    subst hpj
    refine ⟨_, rfl, k30_mk W (f j), fun i u hu => ?_⟩
    match i, hu with
    | 0, hu => simp only [List.getElem?_cons_zero, Option.some.injEq] at hu; subst hu; exact (hfc j hj).1
    | 1, hu => simp only [List.getElem?_cons_succ, List.getElem?_cons_zero, Option.some.injEq] at hu; subst hu; exact (hfc j hj).2
    | i + 2, hu => simp at hu

set_option maxRecDepth 100000 in
theorem lifted (os : Os) (started : os.Started) (H : Type) (enc : TypeId × Value → H) :
    ReturnsInHanded {} Try.checked os 5 .any (Rows.fnMetaFindSpec.pre6 enc Try.prog Try.f5 Rows.fnMetaFindRow.domain false) (Rows.fnMetaFindSpec.post enc Try.prog Try.f5 false true false false) := by
  refine returnsInHanded_of_change_sized (C := Try.checked) own started (by kernel_rfl) Try.func5
    (ChangeSpec.witness6 (enc := enc) (C := Try.checked) false ⟨#[], #[.slice none 0 0, .string ByteArray.empty], []⟩ 8 (by kernel_rfl) (by kernel_rfl) (by kernel_rfl) (by kernel_rfl)) ?_
  intro W base args ds gs before hval0 hW hcnd hsz0 _
  have hval : ∀ (j : Nat) t v, Try.f5.params[j]? = some t → args[j]? = some v → Value.okWide Try.prog W .any base t v := hval0
  have hW' := hW
  obtain ⟨p, q, hA0, hV, rfl, hfz, hnd⟩ := hW
  have hA : DataW.TrodAll enc Try.prog W 0 (fun _ => true) true Try.f5.params.toList args.toList ds p := hA0
  rw [Try.params5] at hA hval
  obtain ⟨v0, vs0, d0, ds0, p0, q0, hargs, rfl, rfl, h0, r0⟩ := trodAll_cons hA
  obtain ⟨v1, vs1, d1, ds1, p1, q1, rfl, rfl, rfl, h1, r1⟩ := trodAll_cons r0
  obtain ⟨rfl, rfl, rfl⟩ := trodAll_nil r1
  obtain rfl : args = #[v0, v1] := by cases args; simp_all
  obtain ⟨rfl, rfl⟩ := trodVars_none hV
  obtain ⟨a0, len0, cap0, rfl⟩ := okWide_slice Try.underlying25 (hval 0 25 v0 rfl rfl)
  have k0 := h0
  have lt0 : ∀ x ∈ p0, x.block < W.heap.size := by obtain ⟨m, hm⟩ := k0; exact DataW.trod_lt m _ _ _ hm
  obtain ⟨fuel, hf⟩ := h0
  obtain ⟨A, c, l, hcs, hC, hc⟩ := open_pairs hf
  simp [Value.cells] at hcs
  obtain ⟨rfl, rfl, rfl⟩ := hcs
  obtain ⟨a1, rfl, rfl, rfl, y1⟩ := open_string Try.underlying9 (hval 1 9 v1 rfl rfl) h1
  clear hA0 hval0 hsz0
  obtain ⟨k, hk⟩ := MetaPlain.FnMetaFind l a1
  refine (QMeta.laws_FnMetaFind.calls k _ _ l a1 true W hC hc hk).mono fun e W' ⟨he, bel⟩ => ?_
  subst he
  exact ⟨_, rfl, _, _, _, [], _, [], hW', trodAll_mk1 (shut_bool Try.underlying4 _), (trodAll_cons_mk (Below.trod laidOut (by kernel_rfl) (of_decide_eq_true (by kernel_rfl)) k0 bel lt0) (trodAll_cons_mk (shut_string Try.underlying9 y1) trodAll_mk0)), rfl, bel.frame _, fun h => by cases h⟩
theorem over : Rows.fnMetaFindRow.holds Try.pinned (OpenSpec.ofChange Rows.fnMetaFindSpec) :=
  OpenClaim.holds_of_wide 5 Try.f5 rfl rfl rfl rfl rfl rfl rfl ⟨rfl, rfl, rfl, rfl, rfl⟩ rfl rfl rfl rfl rfl (by kernel_rfl) Try.func5 (by kernel_rfl)
    (of_decide_eq_true (by kernel_rfl)) (by unfold Func.isWrapper; first | (rw [if_pos (by decide +kernel)]; kernel_rfl) | (rw [if_neg (by decide +kernel)]; exact ⟨rfl, rfl⟩))
    (fun os started H enc _ => lifted os started H enc)
theorem proved : Rows.FnMetaFindSaid := over
#print axioms proved
end Go.Proofs.Yticieelobdfloaa.fnMetaFind
namespace Go.Proofs.Yticieelobdfloaa
/-- The row, under a short name, for the claim. -/
theorem fnMetaFind_holds : Rows.FnMetaFindSaid := fnMetaFind.proved
end Go.Proofs.Yticieelobdfloaa
