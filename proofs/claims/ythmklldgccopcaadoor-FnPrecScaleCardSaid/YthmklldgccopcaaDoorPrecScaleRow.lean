/- The row of FnPrecScale, out of the walk (law_spec) and what came in; then the card. -/
import Derived.Test.YthmklldgccopcaaDoorRows
import Derived.Test.YthmklldgccopcaaDoorPsW
import Derived.Test.YthmklldgccopcaaDoorTie
import Derived.Test.YthmklldgccopcaaDoorCards
import Derived.Lay
import Derived.LaidOnce
import Derived.LaidLaws
import Derived.WalkKit
import Derived.ProofKit
import Derived.OpenShut
import Derived.ShutString
import Derived.ChangeOld
import Derived.Below
import Derived.SizedLaws
namespace Go.Proofs.YthmklldgccopcaaDoor.fnPrecScale
open Go.ChangeShapes Go.WideShapes Go.ChangeAt Go.RowKit
open Go.ChangeMaps (open_string shut_string)
set_option linter.unusedVariables false
theorem own : ownKnob Tryd.prog.godebug = none := by kernel_rfl
theorem laidOut : laidOutB Tryd.prog = true := by kernel_rfl
set_option maxRecDepth 100000 in
theorem lifted (os : Os) (started : os.Started) (H : Type) (enc : TypeId × Value → H) :
    ReturnsInHanded {} Tryd.checked os 3 .any (fun w args => (Rows.fnPrecScaleSpec.pre enc Tryd.prog Tryd.f3 Rows.fnPrecScaleRow.domain false w args ∧ laidMetH Tryd.prog Rows.fnPrecScaleRow.laid w) ∧ sizedMet enc Tryd.prog Tryd.f3 (OpenSpec.ofChange Rows.fnPrecScaleSpec) false w args) (Rows.fnPrecScaleSpec.post enc Tryd.prog Tryd.f3 false true false false) := by
  refine returnsInHanded_of_change_and (C := Tryd.checked) (X := fun w _ => laidMetH Tryd.prog Rows.fnPrecScaleRow.laid w) (fun _ _ _ hh h => h.of_heap hh) own started (by kernel_rfl) Tryd.func3
    (ChangeSpec.witness_shaped (enc := enc) (C := Tryd.checked) (os := os) (X := fun w _ => laidMetH Tryd.prog Rows.fnPrecScaleRow.laid w) false (World.laidAll Tryd.prog os Rows.fnPrecScaleRow.laid) #[.bool false, .string ⟨#[]⟩, .string ⟨#[]⟩] 8 (World.laidAll_os _ _ _)
      (World.shaped_of_ZipB (by kernel_rfl) (by kernel_rfl)) (by kernel_rfl) (by kernel_rfl) (by kernel_rfl)
      (by rw [MakeChecks.laidMetH_plain _ _ _ (by kernel_rfl)]; exact laidMet_laidAll _ (by kernel_rfl) (by kernel_rfl))) ?_
  intro W base args ds gs before hval0 hW hcnd hsz0 hL _
  have hval : ∀ (j : Nat) t v, Tryd.f3.params[j]? = some t → args[j]? = some v → Value.okWide Tryd.prog W .any base t v := hval0
  have hW' := hW
  obtain ⟨p, q, hA0, hV, rfl, hfz, hnd⟩ := hW
  have hA : DataW.TrodAll enc Tryd.prog W 0 (fun _ => true) true Tryd.f3.params.toList args.toList ds p := hA0
  rw [Tryd.params3] at hA hval
  obtain ⟨v0, vs0, d0, ds0, p0, q0, hargs, rfl, rfl, h0, r0⟩ := trodAll_cons hA
  obtain ⟨v1, vs1, d1, ds1, p1, q1, rfl, rfl, rfl, h1, r1⟩ := trodAll_cons r0
  obtain ⟨v2, vs2, d2, ds2, p2, q2, rfl, rfl, rfl, h2, r2⟩ := trodAll_cons r1
  obtain ⟨rfl, rfl, rfl⟩ := trodAll_nil r2
  obtain rfl : args = #[v0, v1, v2] := by cases args; simp_all
  obtain ⟨rfl, rfl⟩ := trodVars_none hV
  obtain ⟨a0, rfl, rfl, rfl⟩ := open_bool Tryd.underlying4 (hval 0 4 v0 rfl rfl) h0
  obtain ⟨a1, rfl, rfl, rfl, y1⟩ := open_string Tryd.underlying9 (hval 1 9 v1 rfl rfl) h1
  obtain ⟨a2, rfl, rfl, rfl, y2⟩ := open_string Tryd.underlying9 (hval 2 9 v2 rfl rfl) h2
  clear hA0 hval0 hsz0
  have z1 : a1.data.toList.length ≤ 9223372036854775807 := by have : a1.size ≤ 9223372036854775807 := y1; exact this
  have z2 : a2.data.toList.length ≤ 9223372036854775807 := by have : a2.size ≤ 9223372036854775807 := y2; exact this
  refine (Stride.law_spec (C := fun _ => False) a0 a1.data.toList a2.data.toList z1 z2).mono fun e W' ⟨he, hk⟩ => ?_
  have bel := hk.below
  subst he
  exact ⟨_, rfl, _, _, _, [], _, [], hW', trodAll_mk1 (shut_bool Tryd.underlying4 _), (trodAll_cons_mk (shut_bool Tryd.underlying4 _) (trodAll_cons_mk (shut_string Tryd.underlying9 y1) (trodAll_cons_mk (shut_string Tryd.underlying9 y2) trodAll_mk0))), rfl, bel.frame _, fun h => by cases h⟩
theorem over : Rows.fnPrecScaleRow.holds Tryd.pinned (OpenSpec.ofChange Rows.fnPrecScaleSpec) :=
  OpenClaim.holds_of_wide 3 Tryd.f3 rfl rfl rfl rfl rfl rfl rfl ⟨rfl, rfl, rfl, rfl, rfl⟩ rfl rfl rfl rfl rfl (by kernel_rfl) Tryd.func3 (by kernel_rfl)
    (of_decide_eq_true (by kernel_rfl)) (by unfold Func.isWrapper; first | (rw [if_pos (by decide +kernel)]; kernel_rfl) | (rw [if_neg (by decide +kernel)]; exact ⟨rfl, rfl⟩))
    (fun os started H enc _ => lifted os started H enc)
theorem proved : Rows.FnPrecScaleSaid := over
#print axioms proved
end Go.Proofs.YthmklldgccopcaaDoor.fnPrecScale
namespace Go.Proofs.YthmklldgccopcaaDoor
theorem fnPrecScale_row : Rows.FnPrecScaleSaid := fnPrecScale.proved
/-- The card. -/
theorem fnPrecScale_holds : Rows.FnPrecScaleCardSaid :=
  Claim7.holds_tied_plain_at .later [] [.data, .data, .data, .sentinel, .sentinel] true (true, "bc979aca681a522f6da0061d38cccb1933d9124441c0d960cc7cbd7ff48e40ae") true
    fnPrecScale_row (fun _ h => by cases h) (by kernel_rfl) (fun _ h => by cases h) fnPrecScale_row_tie rfl ⟨rfl, rfl⟩ (by kernel_rfl) rfl
    (fun f fn hf hfn => by
      obtain rfl : f = 3 := Option.some.inj ((show Tryd.prog.funcNamed "given.example/pub-fletching/laws.FnPrecScale" = some 3 by kernel_rfl).symm.trans hf) |>.symm
      obtain rfl : fn = Tryd.f3 := (Option.some.inj (Tryd.func3.symm.trans hfn)).symm
      exact ⟨by kernel_rfl, fun j t ht => by
        rw [Tryd.params3] at ht
        have h3 : t = 4 ∨ t = 9 := by
          rcases j with _ | _ | _ | j <;> simp at ht <;> simp [ht]
        rcases h3 with rfl | rfl
        · exact (show Tryd.prog.wantsStandIn 4 = false by kernel_rfl)
        · exact (show Tryd.prog.wantsStandIn 9 = false by kernel_rfl)⟩)
    (by kernel_rfl)
end Go.Proofs.YthmklldgccopcaaDoor
