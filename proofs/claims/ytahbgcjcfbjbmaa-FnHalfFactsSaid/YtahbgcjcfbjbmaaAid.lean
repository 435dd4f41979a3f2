/- Words for functions whose named results lie in variables that a deferred closure captures: the closure finds nothing to recover; the results are read out of their variables. No program in sight. -/
import Derived.Test.YtahbgcjcfbjbmaaWWords
import Derived.Recover
import Derived.Defers
import Derived.Laws.Rows
namespace Go.Proofs.Ytahbgcjcfbjbmaa.Aid
open Go.RowKit Go.Proofs.YtahbgcjcfbjbmaaW.PrintWords

/-- A deferred call that finds nothing to recover: it returns and leaves the world as it is. -/
structure Idle (P : Program) (G : FuncId) (args : Array Value) : Prop where
  out : ∀ w, CallsD P G args .returning w fun e u' w' => e = .returned (.tuple #[]) ∧ u' = .returning ∧ w' = w

/-- The door of a function with one deferred call, on a way that returns. -/
theorem door_ {P : Program} {fn : Func} {R : Ending → World → Prop} {tmps cap dargs args : Array Value} {fv : Fn} {w : World} {v : Value} {G : FuncId}
    (hi : (invoke (.fn fv cap) dargs).run P w = .ok (.enter G args) w) (hidle : Idle P G args) (hr : (results fn tmps).run P w = .ok v w) (hR : R (.returned v) w) :
    bodyPostD P fn R .ret { tmps := tmps, defers := [{ target := .fn fv cap, args := dargs }] } w := by
  refine leaves_cons (by simp) hi ((hidle.out w).mono ?_)
  rintro e u' w' ⟨rfl, rfl, rfl⟩
  exact ⟨v, hr, hR⟩

/-- A cell into which its own value is stored again. -/
theorem cell_same {W : World} {a : Addr} {v u : Value} (h : W.cell? a = some v) : (W.setCell a u).cell? a = some u := World.cell?_setCell_same' W a u (by simp [h])

/-- What is asked of an end, and that it is no panic: so what is asked does not hang on the temporaries where it panics. -/
abbrev noPanic (Q : Exit → Act → World → Prop) : Exit → Act → World → Prop
  | .panic _, _, _ => False
  | e, a, w => Q e a w

theorem noPanic_le (Q : Exit → Act → World → Prop) : ∀ e a w, noPanic Q e a w → Q e a w := by
  intro e a w h
  cases e <;> first | exact h | exact h.elim

inductive ValsB (P : Program) (tmps : Array Value) (w : World) : List ResultVar → List Value → Prop where
  | nil : ValsB P tmps w [] []
  | tmp {u : Tmp} {rs : List ResultVar} {vs : List Value} (h : ValsB P tmps w rs vs) : ValsB P tmps w (.tmp u :: rs) (tmps.getD u undef :: vs)
  | cell {p : Tmp} {ty : TypeId} {rs : List ResultVar} {vs : List Value} (g : Nat) (t : TypeId) (cs : Array Value) (fr : Nat × Nat) (d : TypeDesc)
      (hp : tmps.getD p undef = .pointer (some ⟨g, 0, none⟩)) (hg : w.heap[g]? = some (.cells cs t fr))
      (hu : P.underlying ty = some d) (hd : (match d with | .struct _ | .array _ _ => true | _ => false) = true) (hi : (P.info? ty).map (·.size) = some cs.size)
      (h : ValsB P tmps w rs vs) : ValsB P tmps w (.cell p ty :: rs) (.agg cs :: vs)
  | one {p : Tmp} {ty : TypeId} {rs : List ResultVar} {vs : List Value} (g : Nat) (t : TypeId) (v : Value) (d : TypeDesc)
      (hp : tmps.getD p undef = .pointer (some ⟨g, 0, none⟩)) (hg : w.heap[g]? = some (.cells #[v] t (0, 0)))
      (hu : P.underlying ty = some d) (hd : (match d with | .struct _ | .array _ _ => true | _ => false) = false)
      (h : ValsB P tmps w rs vs) : ValsB P tmps w (.cell p ty :: rs) (v :: vs)

section
variable {P : Program} {tmps : Array Value} {w : World}
theorem run_loadVar_one (g : Nat) (t ty : TypeId) (v : Value) (d : TypeDesc) (hg : w.heap[g]? = some (.cells #[v] t (0, 0))) (hu : P.underlying ty = some d)
    (hd : (match d with | .struct _ | .array _ _ => true | _ => false) = false) : (loadVar ty ⟨g, 0, none⟩).run P w = .ok v w := by
  have hc : w.cell? ⟨g, 0, none⟩ = some v := (blk_cell hg 0).trans rfl
  have ha : (isAgg ty).run P w = .ok false w := by
    unfold isAgg
    simp only [Sem.run_bind, run_underlying hu, Result.andThen_ok]
    cases d <;> simp_all
  unfold loadVar
  simp only [Sem.run_bind, ha, Result.andThen_ok]
  simp [hc]

theorem valsB_run {rs : List ResultVar} {vs : List Value} (hv : ValsB P tmps w rs vs) (f : ResultVar → Sem Value) (hf : ∀ u, f (.tmp u) = pure (tmps.getD u undef)) (hc : ∀ a t, f (.cell a t) = (do loadVar t (← asAddr (tmps.getD a undef)))) :
    (rs.mapM f).run P w = .ok vs w := by
  induction hv with
  | nil => simp
  | tmp h ih => simp [List.mapM_cons, hf, ih]
  | cell g t cs fr d hp hg hu hd hi h ih =>
    rw [List.mapM_cons, hc, hp]
    simp [asAddr, run_loadVar_row w g t _ cs fr d hg hu hd hi, ih]
  | one g t v d hp hg hu hd h ih =>
    rw [List.mapM_cons, hc, hp]
    simp [asAddr, run_loadVar_one g t _ v d hg hu hd, ih]

/-- Two results or more, or none. -/
theorem resultsB_list {fn : Func} {rs : List ResultVar} {vs : List Value} (h : fn.results = rs.toArray) (hl : vs.length ≠ 1) (hv : ValsB P tmps w rs vs) : (results fn tmps).run P w = .ok (.tuple vs.toArray) w := by
  unfold results
  rw [h, List.mapM_toArray]
  simp only [Sem.run_bind, Sem.run_map]
  rw [valsB_run hv]
  · simp [hl]
  · intro u
    rfl
  · intro a t
    rfl
theorem resultsB_single {fn : Func} {r : ResultVar} {v : Value} (h : fn.results = #[r]) (hv : ValsB P tmps w [r] [v]) : (results fn tmps).run P w = .ok v w := by
  unfold results
  rw [show fn.results = [r].toArray from h, List.mapM_toArray]
  simp only [Sem.run_bind, Sem.run_map]
  rw [valsB_run hv]
  · simp
  · intro u
    rfl
  · intro a t
    rfl
end
theorem u8_mod (x : Int) {c : Int} (_hc : 0 < c) : (IntKind.u8.wrap x).tmod c = x % 256 % c := by
  have h : IntKind.u8.wrap x = x % 256 := by simp [IntKind.wrap, IntKind.bits, IntKind.signed]
  rw [h, Int.tmod_eq_emod_of_nonneg (by omega)]

end Go.Proofs.Ytahbgcjcfbjbmaa.Aid
