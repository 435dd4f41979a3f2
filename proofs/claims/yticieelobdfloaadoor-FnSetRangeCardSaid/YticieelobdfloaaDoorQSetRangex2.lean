/- Written by a program of mine over the kit's print program, turned at a few places (variables of one cell in memory; deferred closures): each Go function as a Lean function, with the proof of its call. -/
import Derived.Test.YticieelobdfloaaDoorQSetRangex0
namespace Go.Proofs.YticieelobdfloaaDoor.QSetRange
open Go.RowKit Go.Proofs.YticieelobdfloaaDoorW.PrintWords Go.Proofs.YticieelobdfloaaDoorW.PrintLast Go.Proofs.YticieelobdfloaaDoorW.PrintMore
attribute [local go_sem] max2_int min2_int max_two min_two max_three min_three max_four min_four   -- for this text's walks alone
set_option linter.unusedVariables false
set_option linter.unusedSimpArgs false

/-! ### memory_Set: function 25 -/
mutual
def memory_Set.j0 : Nat → List Int → Int → Int → Int → Option (List Int)
  | 0, _, _, _, _ => none
  | k + 1, x0, x1, x2, x3 => if x2 < 0 then (if 0 < 0 then (memory_Set.j1 k x0 x1 x2 x3) else (none)) else (memory_Set.j1 k x0 x1 x2 x3)
def memory_Set.j1 : Nat → List Int → Int → Int → Int → Option (List Int)
  | 0, _, _, _, _ => none
  | k + 1, x0, x1, x2, x3 => if (x0.length : Int) < x3 then (if 0 < 0 then (memory_Set.j2 k x0 x1 x2 x3) else (none)) else (memory_Set.j2 k x0 x1 x2 x3)
def memory_Set.j2 : Nat → List Int → Int → Int → Int → Option (List Int)
  | 0, _, _, _, _ => none
  | k + 1, x0, x1, x2, x3 => memory_Set.l0 k x0 x1 x3 x2
def memory_Set.l0 : Nat → List Int → Int → Int → Int → Option (List Int)
  | 0, _, _, _, _ => none
  | k + 1, x0, x1, x3, x4 => if x4 < x3 then (if 0 ≤ x4 then (if x4 < (x0.length : Int) then (memory_Set.l0 k (x0.set (x4 : Int).toNat x1) x1 x3 (wrap64 (x4 + 1))) else (none)) else (none)) else (some x0)
end
def memory_Set.f (k : Nat) (l0 : List Int) (a1 : Int) (a2 : Int) (a3 : Int) : Option (List Int) := if a2 ≥ a3 then (if 0 < 0 then (memory_Set.j0 k l0 a1 a2 a3) else (none)) else (memory_Set.j0 k l0 a1 a2 a3)
theorem memory_Set.mono_l : ∀ k, (∀ y0 y1 y2 y3, LeO (memory_Set.j0 k y0 y1 y2 y3) (memory_Set.j0 (k + 1) y0 y1 y2 y3)) ∧ (∀ y0 y1 y2 y3, LeO (memory_Set.j1 k y0 y1 y2 y3) (memory_Set.j1 (k + 1) y0 y1 y2 y3)) ∧ (∀ y0 y1 y2 y3, LeO (memory_Set.j2 k y0 y1 y2 y3) (memory_Set.j2 (k + 1) y0 y1 y2 y3)) ∧ (∀ y0 y1 y2 y3, LeO (memory_Set.l0 k y0 y1 y2 y3) (memory_Set.l0 (k + 1) y0 y1 y2 y3))
  | 0 => ⟨fun _ _ _ _ r h => by simp [memory_Set.j0] at h, fun _ _ _ _ r h => by simp [memory_Set.j1] at h, fun _ _ _ _ r h => by simp [memory_Set.j2] at h, fun _ _ _ _ r h => by simp [memory_Set.l0] at h⟩
  | k + 1 => by
    obtain ⟨ih0, ih1, ih2, ih3⟩ := memory_Set.mono_l k
    refine ⟨?_, ?_, ?_, ?_⟩
    · intro y0 y1 y2 y3
      unfold memory_Set.j0
      repeat' first
      | (with_reducible exact ih0 _ _ _ _)
      | (with_reducible exact ih1 _ _ _ _)
      | (with_reducible exact ih2 _ _ _ _)
      | (with_reducible exact ih3 _ _ _ _)
      | (with_reducible exact LeO.refl _)
      | (with_reducible exact LeO.none _)
      | (with_reducible refine LeO.ite ?_ ?_)
      | (with_reducible refine LeO.bind ?_ (fun _ => ?_))
      | exact ih0 _ _ _ _
      | exact ih1 _ _ _ _
      | exact ih2 _ _ _ _
      | exact ih3 _ _ _ _
      | exact LeO.none _
      | refine LeO.ite ?_ ?_
      | refine LeO.bind ?_ (fun _ => ?_)
    · intro y0 y1 y2 y3
      unfold memory_Set.j1
      repeat' first
      | (with_reducible exact ih0 _ _ _ _)
      | (with_reducible exact ih1 _ _ _ _)
      | (with_reducible exact ih2 _ _ _ _)
      | (with_reducible exact ih3 _ _ _ _)
      | (with_reducible exact LeO.refl _)
      | (with_reducible exact LeO.none _)
      | (with_reducible refine LeO.ite ?_ ?_)
      | (with_reducible refine LeO.bind ?_ (fun _ => ?_))
      | exact ih0 _ _ _ _
      | exact ih1 _ _ _ _
      | exact ih2 _ _ _ _
      | exact ih3 _ _ _ _
      | exact LeO.none _
      | refine LeO.ite ?_ ?_
      | refine LeO.bind ?_ (fun _ => ?_)
    · intro y0 y1 y2 y3
      unfold memory_Set.j2
      repeat' first
      | (with_reducible exact ih0 _ _ _ _)
      | (with_reducible exact ih1 _ _ _ _)
      | (with_reducible exact ih2 _ _ _ _)
      | (with_reducible exact ih3 _ _ _ _)
      | (with_reducible exact LeO.refl _)
      | (with_reducible exact LeO.none _)
      | (with_reducible refine LeO.ite ?_ ?_)
      | (with_reducible refine LeO.bind ?_ (fun _ => ?_))
      | exact ih0 _ _ _ _
      | exact ih1 _ _ _ _
      | exact ih2 _ _ _ _
      | exact ih3 _ _ _ _
      | exact LeO.none _
      | refine LeO.ite ?_ ?_
      | refine LeO.bind ?_ (fun _ => ?_)
    · intro y0 y1 y2 y3
      unfold memory_Set.l0
      repeat' first
      | (with_reducible exact ih0 _ _ _ _)
      | (with_reducible exact ih1 _ _ _ _)
      | (with_reducible exact ih2 _ _ _ _)
      | (with_reducible exact ih3 _ _ _ _)
      | (with_reducible exact LeO.refl _)
      | (with_reducible exact LeO.none _)
      | (with_reducible refine LeO.ite ?_ ?_)
      | (with_reducible refine LeO.bind ?_ (fun _ => ?_))
      | exact ih0 _ _ _ _
      | exact ih1 _ _ _ _
      | exact ih2 _ _ _ _
      | exact ih3 _ _ _ _
      | exact LeO.none _
      | refine LeO.ite ?_ ?_
      | refine LeO.bind ?_ (fun _ => ?_)
theorem memory_Set.mono : ∀ a0 a1 a2 a3 k, LeO (memory_Set.f k a0 a1 a2 a3) (memory_Set.f (k + 1) a0 a1 a2 a3) := by
  intro a0 a1 a2 a3 k
  obtain ⟨ih0, ih1, ih2, ih3⟩ := memory_Set.mono_l k
  unfold memory_Set.f
  repeat' first
      | (with_reducible exact ih0 _ _ _ _)
      | (with_reducible exact ih1 _ _ _ _)
      | (with_reducible exact ih2 _ _ _ _)
      | (with_reducible exact ih3 _ _ _ _)
      | (with_reducible exact LeO.refl _)
      | (with_reducible exact LeO.none _)
      | (with_reducible refine LeO.ite ?_ ?_)
      | (with_reducible refine LeO.bind ?_ (fun _ => ?_))
      | exact ih0 _ _ _ _
      | exact ih1 _ _ _ _
      | exact ih2 _ _ _ _
      | exact ih3 _ _ _ _
      | exact LeO.none _
      | refine LeO.ite ?_ ?_
      | refine LeO.bind ?_ (fun _ => ?_)
set_option maxHeartbeats 8000000 in
set_option maxRecDepth 100000 in
theorem memory_Set.part26 (k : Nat) (P0_ : Nat → Prop) (go co c' L m : Nat) (l0 : List Int) (a1 : Int) (r : List Int) (w0 w : World) (hLm : L + m ≤ l0.length) (hB : Below w0.heap.size w0 w) (ho0 : Kd.R (Kd.int .u8) 5 w w0.heap.size P0_ (.slice (some ⟨go, 0, none⟩) l0.length co) l0) (h : memory_Set.l0 k l0 a1 ((L : Int) + (m : Int)) ((L : Int) + ((0 : Nat) : Int)) = some r) :
    Calls Tryd.prog 26 #[.slice (some ⟨go, L, none⟩) m c', .int .u8 a1] w fun e w' => e = .returned (.tuple #[]) ∧ Kd.R (Kd.int .u8) 5 w' w0.heap.size (fun k_ => (P0_ k_ ∨ w.heap.size ≤ k_)) (.slice (some ⟨go, 0, none⟩) l0.length co) r ∧ Below w0.heap.size w0 w' ∧ Kept w w' (fun k_ => P0_ k_) := by
  have HO0 := Aside0.mk (show Kd.R (Kd.int .u8) 5 w w0.heap.size (fun k_ => (P0_ k_ ∨ w.heap.size ≤ k_)) (.slice (some ⟨go, 0, none⟩) l0.length co) l0 from Kd.R_mono ho0 (fun k_ hk => (.inl hk)))
  have hmax : l0.length ≤ 9223372036854775807 := (Kd.R_reads' ho0).2.2.2.1
  have HK := Aside0.mk (Kept.refl w (fun k_ => P0_ k_))
  have HW0 := Aside0.mk hB.size
  have HB := Aside0.mk hB
  clear hB
  have H' := Aside0.mk h
  clear h
  go_enter Tryd.func26, Tryd.ntmps26
  go_wp2
  go_loopg [4] k (fun kq v4 w' => ∃ (x0_1 : List Int) (i : Nat), v4 = .int .i64 (i : Int) ∧ i ≤ m ∧ x0_1.length = l0.length ∧ Aside0 (memory_Set.l0 kq x0_1 a1 ((L : Int) + (m : Int)) ((L : Int) + (i : Int)) = some r) ∧ Aside0 (kq ≤ k) ∧ Aside0 (Kd.R (Kd.int .u8) 5 w' w0.heap.size (fun k_ => (P0_ k_ ∨ w.heap.size ≤ k_)) (.slice (some ⟨go, 0, none⟩) l0.length co) x0_1) ∧ Aside0 (Kept w w' (fun k_ => P0_ k_)) ∧ Aside0 (Below w0.heap.size w0 w'))
  case atStart => exact ⟨l0, 0, rfl, Nat.zero_le _, rfl, H', ⟨Nat.le_refl _⟩, ⟨HO0.out⟩, ⟨HK.out⟩, ⟨HB.out⟩⟩
  case round =>
    clear H'
    obtain ⟨x0_1, i, rfl, him, hlen, HA, HK1, HO_0, HK, HB⟩ := hrel
    cases gk with
    | zero => exact absurd HA.out (by simp [memory_Set.l0])
    | succ k1 =>
      have H := HA.out
      clear HA
      rw [memory_Set.l0] at H
      by_cases c3 : i < m
      · rw [if_pos (by omega), if_pos (by omega), if_pos (by omega)] at H
        have c3b0 : decide ((i : Int) < (m : Int)) = true := decide_eq_true (by omega)
        have c3b1 : ((i : Int) < (m : Int)) = True := eq_true (by omega)
        have c4b0 : (0 ≤ (i : Int)) = True := eq_true (by omega)
        have e1 : ((L : Int) + (i : Int)).toNat = L + i := by omega
        have e2 : wrap64 ((L : Int) + (i : Int) + 1) = (L : Int) + ((i + 1 : Nat) : Int) := by unfold wrap64; omega
        have e3 : wrap64 ((i : Int) + 1) = ((i + 1 : Nat) : Int) := by unfold wrap64; omega
        rw [e1, e2] at H
        obtain ⟨y118, hy118⟩ : ∃ y_ : List Int, y_ = (x0_1.set (L + i) a1) := ⟨_, rfl⟩
        rw [← hy118] at H
        have Ny118 := Aside0.mk hy118
        clear hy118
        have H' := Aside0.mk H
        clear H
        have HOx := HO_0.out
        rw [← hlen] at HOx
        obtain ⟨go5, co5, eo5, gb5, gl5, cl5, HG5⟩ := Kd.R_form HOx (by omega)
        injection eo5 with ea_ en_ ec_
        injection ea_ with ea_
        injection ea_ with ea1_ ea2_ ea3_
        subst ea1_
        subst ec_
        have GB5 := Aside0.mk gb5
        have GG5 := Aside0.mk HG5
        clear gb5 gl5 HG5
        have HMgo5 := Aside0.mk (show (P0_ go ∨ w.heap.size ≤ go) from (HO_0.out.1 _ rfl))
        obtain ⟨hx5_0, hf5_0⟩ := Kd.R_celln 0 HOx ((L : Int) + (i : Int)) (by omega) (by omega)
        have HP7 := Kd.R_putg HOx ((L : Int) + (i : Int)) a1
        rw [e1] at hx5_0 hf5_0 HP7
        rw [hlen] at HP7
        clear HOx
        go_wp2_with (first | ((with_reducible refine gate_store (t := 5) (p := 14) rfl ?_); refine store_event (t := 5) (p := 14) (v := ?vo_w8) (w1 := (wr.setCell ⟨go, L + i, none⟩ (.int .u8 a1))) ?hg ?ho ?hn ?hr ?_; (case ho => rfl); (case hg => rfl); (case hn => rfl); (case hr => first | (go_simp; done) | (go_simp; rfl)); intro w8 hw; have hg : wr.grownBy w8 (some go) := (by rw [hw]; exact HP7.2); have hp_ : Kd.R (Kd.int .u8) 5 w8 w0.heap.size (fun k_ => (P0_ k_ ∨ w.heap.size ≤ k_)) (.slice (some ⟨go, 0, none⟩) l0.length co) y118 := (by rw [hw, Ny118.out]; exact HP7.1); clear HP7; have n0_ := Aside0.mk (hp_); have n1_ := Aside0.mk ((by rw [hw]; exact below_set (HB.out) GB5.out : Below w0.heap.size w0 w8)); have n2_ := Aside0.mk (Kept.of_grown (S := (fun k_ => P0_ k_)) hg (by repeat (first | (with_reducible first | exact HK.out | apply Kept.alloc | apply Kept.drewN | apply Kept.drew) | exact HK.out)) (fun k_ e_ => (HO_0.out.1 k_ e_))); clear HO_0; clear HB; clear HK; have HO_0 := n0_; have HB := n1_; have HK := n2_; clear n0_ n1_ n2_; clear hg hw hp_))
        go_roundg k1
        case measure => have := HK1.out; omega
        case rel => exact ⟨y118, i + 1, (by first | rfl | simp), by omega, by rw [Ny118.out, List.length_set]; exact hlen, H', ⟨by have := HK1.out; omega⟩, ⟨HO_0.out⟩, ⟨HK.out⟩, ⟨HB.out⟩⟩
      · rw [if_neg (by omega)] at H
        have c3b0 : decide ((i : Int) < (m : Int)) = false := decide_eq_false (by omega)
        obtain rfl := Option.some.inj H
        go_wp2
        first | go_end0 | ((try simp only [Exit.inBlock, Exit.then]); refine bodyPost_ret (results_none rfl _ _ _) rfl ?_)
        exact ⟨rfl, HO_0.out, HB.out, HK.out⟩

theorem memory_Set.guards {k : Nat} {l0 : List Int} {a1 a2 a3 : Int} {r : List Int} (h : memory_Set.f k l0 a1 a2 a3 = some r) : 0 ≤ a2 ∧ a2 < a3 ∧ a3 ≤ (l0.length : Int) ∧ ∃ k', memory_Set.l0 k' l0 a1 a3 a2 = some r := by
  unfold memory_Set.f at h
  by_cases c1 : a2 ≥ a3
  · rw [if_pos c1, if_neg (by decide)] at h; cases h
  rw [if_neg c1] at h
  cases k with
  | zero => simp [memory_Set.j0] at h
  | succ k =>
    rw [memory_Set.j0] at h
    by_cases c2 : a2 < 0
    · rw [if_pos c2, if_neg (by decide)] at h; cases h
    rw [if_neg c2] at h
    cases k with
    | zero => simp [memory_Set.j1] at h
    | succ k =>
      rw [memory_Set.j1] at h
      by_cases c3 : (l0.length : Int) < a3
      · rw [if_pos c3, if_neg (by decide)] at h; cases h
      rw [if_neg c3] at h
      cases k with
      | zero => simp [memory_Set.j2] at h
      | succ k =>
        rw [memory_Set.j2] at h
        exact ⟨by omega, by omega, by omega, k, h⟩

/-- A part of a row of the call's own. -/
theorem cut_own {P : Program} (t e : TypeId) {i : TypeInfo} (ht : P.underlying t = some (.slice e)) (hi : P.info? e = some i) (hsz : i.size = 1) (go n c : Nat) (a b : Int) (h0 : 0 ≤ a) (h1 : a < b) (hm : b ≤ n) (hc : n ≤ c) :
    ∀ W : World, (Instr.slice t (.slice (some ⟨go, 0, none⟩) n c) (some (.int .i64 a)) (some (.int .i64 b)) none).run P W = .ok (.slice (some ⟨go, a.toNat, none⟩) (b.toNat - a.toNat) (c - a.toNat)) W := by
  intro W
  have hel : P.elem t = e := by simp [Program.elem, ht]
  have hu : P.underlying t = some (.slice (P.elem t)) := by rw [hel]; exact ht
  rw [run_slice_lh W t _ n c hu .i64 .i64 a b h0 (by omega) (by omega), hel]
  have hne : ¬ c = a.toNat := by omega
  by_cases hz : a.toNat = 0
  · simp [sizeOf, typeInfo, hi, hsz, sliced, Result.andThen, hne, Addr.add, hz]
  · simp [sizeOf, typeInfo, hi, hsz, sliced, Result.andThen, hne, Addr.add, hz]
theorem own_cap {w : World} {base : Nat} {ok : Nat → Prop} {A : Option Addr} {n c : Nat} {xs : List Int} (h : Kd.R (Kd.int .u8) 5 w base ok (.slice A n c) xs) : n ≤ c := by
  obtain ⟨_, _, _, _, ho⟩ : True ∧ True ∧ True ∧ True ∧ True := ⟨trivial, trivial, trivial, trivial, trivial⟩
  obtain ⟨inner, ho⟩ := Kd.R_own h
  rcases ho.2 with ⟨e, _⟩ | ⟨g, cap, cur, e, _, _, hn, _⟩
  · injection e with _ e2 e3; omega
  · injection e with _ e2 e3; omega

set_option maxHeartbeats 8000000 in
set_option maxRecDepth 100000 in
/-- memory.Set at a part of a row of the call's own. -/
theorem memory_Set.calls (k : Nat) (P0_ : Nat → Prop) (go co c' L m n : Nat) (l0 : List Int) (a1 : Int) (a2 : Int) (a3 : Int) (r : List Int) (w0 w : World) (hL : (L : Int) = a2) (hm : (m : Int) = a3 - a2) (hn : n = l0.length) (hB : Below w0.heap.size w0 w) (ho0 : Kd.R (Kd.int .u8) 5 w w0.heap.size P0_ (.slice (some ⟨go, 0, none⟩) n co) l0) (h : memory_Set.f k l0 a1 a2 a3 = some r) :
    Calls Tryd.prog 25 #[.slice (some ⟨go, L, none⟩) m c', .int .u8 a1] w fun e w' => e = .returned (.tuple #[]) ∧ Kd.R (Kd.int .u8) 5 w' w0.heap.size (fun k_ => (P0_ k_ ∨ w.heap.size ≤ k_)) (.slice (some ⟨go, 0, none⟩) n co) r ∧ Below w0.heap.size w0 w' ∧ Kept w w' (fun k_ => P0_ k_) := by
  subst hn
  obtain ⟨g1, g2, g3, k', hl⟩ := memory_Set.guards h
  have e1 : a3 = (L : Int) + (m : Int) := by omega
  have e2 : a2 = (L : Int) + ((0 : Nat) : Int) := by omega
  rw [e1, e2] at hl
  have hc := memory_Set.part26 k' P0_ go co c' L m l0 a1 r w0 w (by omega) hB ho0 hl
  go_enter Tryd.func25, Tryd.ntmps25
  go_wp2_with fail
  refine hc.mono ?_
  rintro e w' ⟨rfl, h1, h2, h3⟩
  go_wp2
  first | go_end0 | ((try simp only [Exit.inBlock, Exit.then]); refine bodyPost_ret (results_none rfl _ _ _) rfl ?_)
  exact ⟨rfl, h1, h2, h3⟩

end Go.Proofs.YticieelobdfloaaDoor.QSetRange
