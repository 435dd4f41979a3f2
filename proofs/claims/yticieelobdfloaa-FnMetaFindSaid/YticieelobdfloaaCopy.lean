/- copy(dst, src) of one-cell elements, dst a row of the call's own, whole, as long as src: behind it the row holds src's elements. No program in sight. -/
import Derived.Test.YticieelobdfloaaWWords
import Derived.Laws.CopyOwn
import Derived.Laws.CopyRow
import Derived.Laws.IdiomCopy
namespace Go.Proofs.Yticieelobdfloaa.Aid
open Go.RowKit Go.Proofs.YticieelobdfloaaW.PrintWords

theorem grownBy_setRow (w : World) (g : Nat) (cs : Array Value) : w.grownBy (w.setRow g cs) (some g) :=
  ⟨rfl, rfl, rfl, by simp [World.setRow], fun k _ hne => setRow_other w g k cs (by intro e; subst e; exact hne rfl)⟩

/-- An owned row that is written over whole. -/
theorem run_copy_whole {α : Type} {P : Program} (enc : α → Value) (dz : α) {h1 : ∀ x, (enc x).oneCell' = true} {e : Nat} {W : World} {base : Nat} {ok : Nat → Prop} {v : Value} {xs ys : List α}
    {A : Option Addr} {m c : Nat} (dT sT ty : TypeId) (hu : P.underlying dT = some (.slice e)) (hsz : (P.info? e).map (·.size) = some 1)
    (HO : (Kd.scalar enc h1).R e W base ok v xs) (HR : (Kd.scalar enc h1).C W A m ys) (hl : ys.length = xs.length) (hm : m = xs.length) :
    ∃ w1, (Builtin.copy_ #[dT, sT] ty #[v, .slice A m c]).run P W = .ok (goInt xs.length) w1 ∧ (Kd.scalar enc h1).R e w1 base ok v ys ∧ W.grownBy w1 v.ownBlock := by
  have ho := Kd.own_of_R HO
  have hr := Kd.reads_of_C (d := dz) HR
  have hok := HO.1
  subst hm
  rcases ho.2 with ⟨rfl, h0⟩ | ⟨g, cap, cur, rfl, hbase, hg, hnc, hcm, hcs, htk⟩
  · have hy : ys = [] := List.eq_nil_of_length_eq_zero (by omega)
    have hx : xs = [] := List.eq_nil_of_length_eq_zero h0
    subst hy; subst hx
    refine ⟨W, run_copy_none (P := P) W dT sT ty e none A 0 0 0 c hu hsz (by simp), HO, World.grownBy.refl W _⟩
  · rcases Nat.eq_zero_or_pos xs.length with h0 | hpos
    · have hy : ys = [] := List.eq_nil_of_length_eq_zero (by omega)
      have hx : xs = [] := List.eq_nil_of_length_eq_zero h0
      subst hy; subst hx
      refine ⟨W, ?_, HO, World.grownBy.refl W _⟩
      exact run_copy_none (P := P) W dT sT ty e _ A _ _ _ c hu hsz (by simp)
    · obtain ⟨_, _, hrd⟩ := hr
      obtain ⟨ad, rfl, hcell⟩ := hrd (by omega)
      have hlen : (encs enc ys).length = ys.length := by simp [encs]
      have hsrc : ∀ j u, (encs enc ys)[j]? = some u → W.cell? (ad.add j) = some u := by
        intro j u hj
        have hjl : j < ys.length := by
          rw [List.getElem?_eq_some_iff] at hj
          obtain ⟨h, _⟩ := hj
          omega
        have := hcell j (by omega)
        rw [this]
        simp [encs] at hj ⊢
        obtain ⟨a, ha, rfl⟩ := hj
        simp [ha]
      have hsz' : xs.length ≤ cur.size := by omega
      have hrun := run_copy_row (P := P) W dT sT ty e g 0 xs.length cap ad xs.length c cur e (encs enc ys) hu hsz hg (by rw [hlen, hl]; simp) hsrc (by omega)
        (by intro u hu'; simp [encs] at hu'; obtain ⟨a, _, rfl⟩ := hu'; exact h1 a)
      refine ⟨W.setRow g (cur.toList.take 0 ++ encs enc ys ++ cur.toList.drop (0 + (encs enc ys).length)).toArray, by rw [hrun, hlen, hl], ?_, grownBy_setRow W g _⟩
      have hh := setRow_heap W g cur (cur.toList.take 0 ++ encs enc ys ++ cur.toList.drop (0 + (encs enc ys).length)).toArray e (0, 0) hg
      refine Kd.R_of_own (h1 := h1) ?_ (fun k hk => hok k hk)
      refine ⟨by simp [encs], .inr ⟨g, cap, _, by rw [hl], hbase, hh, by omega, hcm, ?_, ?_⟩⟩
      · simp [encs]; omega
      · simp [encs]

theorem wpList_copy_whole {α : Type} {P : Program} {ops : Array Oper} {rest : List Oper} {o : Oper} {a : Act} {Q : Exit → Act → World → Prop} (enc : α → Value) (dz : α) {h1 : ∀ x, (enc x).oneCell' = true} {e : Nat} {W : World} {base : Nat} {ok : Nat → Prop} {v : Value} {xs ys : List α}
    {A : Option Addr} {m c : Nat} (hgd : o.guard = none) (d s : Operand) (dT sT : TypeId) (ho : o.op = .call { callee := .builtin .copy, args := #[d, s], argTypes := #[dT, sT] })
    (hu : P.underlying dT = some (.slice e)) (hsz : (P.info? e).map (·.size) = some 1) (hd : a.eval d = v) (hs : a.eval s = .slice A m c)
    (HO : (Kd.scalar enc h1).R e W base ok v xs) (HR : (Kd.scalar enc h1).C W A m ys) (hl : ys.length = xs.length) (hm : m = xs.length)
    (h : ∀ w1, (Kd.scalar enc h1).R e w1 base ok v ys → W.grownBy w1 v.ownBlock → wpList P ops Q rest (a.put o.dst (goInt xs.length)) w1) : wpList P ops Q (o :: rest) a W := by
  obtain ⟨w1, hrun, h2, h3⟩ := run_copy_whole (P := P) enc dz dT sT o.type hu hsz HO HR hl hm (c := c)
  refine wpList_plain hgd fun K hK => ?_
  unfold Oper.wp
  simp only [execOp, ho, resolve, invoke, builtin, Sem.run_bind, Sem.run_pure, Result.andThen_ok, List.map_toArray, List.map_cons, List.map_nil, hd, hs, hrun]
  exact hK _ _ (h w1 h2 h3)
end Go.Proofs.Yticieelobdfloaa.Aid
