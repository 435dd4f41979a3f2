/- The plain law behind FnSetRange: a run of bits put to a value, byte by byte or bit by bit; no program. -/
import Derived.Test.YticieelobdfloaaDoorQSetRangex3
import Derived.Test.YticieelobdfloaaDoorBitLists
namespace Go.Proofs.YticieelobdfloaaDoor.Pure
open Go Go.RowKit Go.Proofs.YticieelobdfloaaDoor.QSetRange Go.Proofs.YticieelobdfloaaDoor.BitLists Go.Proofs.YticieelobdfloaaDoorW.PrintWords Go.Proofs.YticieelobdfloaaDoorW.PrintLast Go.Proofs.YticieelobdfloaaDoorW.PrintMore

theorem v64 (n : Int) (h : -9223372036854775808 ≤ n ∧ n ≤ 9223372036854775807) : wrap64 n = n := by unfold wrap64; omega
theorem wN (m : Nat) (h : m < 1000000) : wrap64 (m : Int) = (m : Int) := v64 _ (by omega)
theorem wAdd (m n : Nat) (h : m + n < 1000000) : wrap64 ((m : Int) + (n : Int)) = ((m + n : Nat) : Int) := by rw [v64 _ (by omega)]; omega
theorem wS (m : Nat) (h : m < 1000000) : wrap64 ((m : Int) + 1) = ((m + 1 : Nat) : Int) := by rw [v64 _ (by omega)]; omega
theorem wSub (m n : Nat) (h : m < 1000000) (h' : n < 1000000) : wrap64 ((m : Int) - (n : Int)) = (m : Int) - (n : Int) := v64 _ (by omega)
theorem wSub1 (m : Nat) (h : m < 1000000) : wrap64 (((m + 1 : Nat) : Int) - 1) = (m : Int) := by rw [v64 _ (by omega)]; omega
theorem w8 (m : Nat) (h : m < 1000000) : wrap64 (8 * (m : Int)) = 8 * (m : Int) := v64 _ (by omega)
theorem tdiv8 (m : Nat) : Int.tdiv (m : Int) 8 = ((m / 8 : Nat) : Int) := by rw [Int.tdiv_eq_ediv_of_nonneg (by omega)]; omega
theorem tmod8 (m : Nat) : Int.tmod (m : Int) 8 = ((m % 8 : Nat) : Int) := by rw [Int.tmod_eq_emod_of_nonneg (by omega)]; omega
theorem rd_nat (l : List Int) (q : Nat) : rd l (q : Int) = l.getD q 0 := rfl

/-- The bits of r are those of x, but those from a to b, which are v. -/
def Put (l r : List Int) (a b : Nat) (v : Bool) : Prop := By r ∧ r.length = l.length ∧ ∀ j, j < 8 * l.length → tb r j = if a ≤ j ∧ j < b then v else tb l j

theorem changed_loop (v : Bool) (a n : Nat) : ∀ (d i k : Nat) (x : List Int), d = n - i → i ≤ n → d < k → By x → x.length ≤ 4096 → a + n ≤ 8 * x.length →
    ∃ r, laws_changed.l0 k (a : Int) x (List.replicate n v) (n : Int) (i : Int) = some r ∧ Put x r (a + i) (a + n) v
  | 0, i, k, x, hd, hi, hk, hx, hl, han => by
    obtain ⟨k, rfl⟩ : ∃ k', k = k' + 1 := ⟨k - 1, by omega⟩
    refine ⟨x, ?_, hx, rfl, fun j _ => by rw [if_neg (by omega)]⟩
    rw [laws_changed.l0, if_neg (by omega)]
  | d + 1, i, k, x, hd, hi, hk, hx, hl, han => by
    obtain ⟨k, rfl⟩ : ∃ k', k = k' + 1 := ⟨k - 1, by omega⟩
    have e6 : rdOf false (List.replicate n v) (i : Int) = v := by
      unfold rdOf
      rw [Int.toNat_natCast, List.getD_eq_getElem?_getD, List.getElem?_replicate, if_pos (by omega)]; rfl
    have hq : (a + i) / 8 < x.length := by omega
    rw [laws_changed.l0, if_pos (by omega), if_pos (by omega), if_pos (by rw [List.length_replicate]; omega), wAdd a i (by omega), tdiv8, tmod8, wN _ (by omega), wS i (by omega), e6, if_pos (by omega), if_pos (by omega), if_pos (by omega)]
    simp only [Option.bind_some, Int.toNat_natCast, rd_nat]
    have P := putBit hx hq (show (a + i) % 8 < 8 by omega) v rfl rfl
    generalize hy : x.set ((a + i) / 8) (bits .andNot .u8 (x.getD ((a + i) / 8) 0) (shl .u8 1 (((a + i) % 8 : Nat) : Int))) = y at P ⊢
    have step : ∀ z, (if v then y.set ((a + i) / 8) (bits .or .u8 (y.getD ((a + i) / 8) 0) (shl .u8 1 (((a + i) % 8 : Nat) : Int))) else y) = z →
        ∃ r, laws_changed.l0 k (a : Int) z (List.replicate n v) (n : Int) ((i + 1 : Nat) : Int) = some r ∧ Put x r (a + i) (a + n) v := by
      rintro z rfl
      obtain ⟨b1, b2, b3⟩ := P
      obtain ⟨r, hr, c1, c2, c3⟩ := changed_loop v a n d (i + 1) k _ (by omega) (by omega) (by omega) b1 (by omega) (by omega)
      refine ⟨r, hr, c1, by omega, fun j hj => ?_⟩
      rw [c3 j (by omega), b3 j]
      by_cases h1 : j = a + i
      · rw [if_neg (by omega), if_pos (by omega), if_pos (by omega)]
      · by_cases h2 : a + (i + 1) ≤ j ∧ j < a + n
        · rw [if_pos h2, if_pos (by omega)]
        · rw [if_neg h2, if_neg (by omega), if_neg (by omega)]
    cases v with
    | true => exact step _ rfl
    | false => exact step _ rfl

theorem changed (v : Bool) (a n k : Nat) (x : List Int) (hk : n < k) (hx : By x) (hl : x.length ≤ 4096) (han : a + n ≤ 8 * x.length) :
    ∃ r, laws_changed.f k x (a : Int) (List.replicate n v) = some r ∧ Put x r a (a + n) v := by
  obtain ⟨r, hr, h⟩ := changed_loop v a n n 0 k x (by omega) (by omega) hk hx hl han
  refine ⟨r, ?_, h⟩
  unfold laws_changed.f
  simp only [Option.bind_some, List.length_nil, List.nil_append, List.length_replicate]
  rw [if_pos (by omega)]
  exact hr

theorem set_loop (c : Int) (hc : Byte c) (hi : Nat) : ∀ (d i k : Nat) (x : List Int), d = hi - i → i ≤ hi → d < k → By x → x.length ≤ 4096 → hi ≤ x.length →
    ∃ r, memory_Set.l0 k x c (hi : Int) (i : Int) = some r ∧ By r ∧ r.length = x.length ∧ ∀ j, tb r j = if i ≤ j / 8 ∧ j / 8 < hi then bt1 c (j % 8) else tb x j
  | 0, i, k, x, hd, hi', hk, hx, hl, han => by
    obtain ⟨k, rfl⟩ : ∃ k', k = k' + 1 := ⟨k - 1, by omega⟩
    refine ⟨x, ?_, hx, rfl, fun j => by rw [if_neg (by omega)]⟩
    rw [memory_Set.l0, if_neg (by omega)]
  | d + 1, i, k, x, hd, hi', hk, hx, hl, han => by
    obtain ⟨k, rfl⟩ : ∃ k', k = k' + 1 := ⟨k - 1, by omega⟩
    rw [memory_Set.l0, if_pos (by omega), if_pos (by omega), if_pos (by omega), wS i (by omega), Int.toNat_natCast]
    obtain ⟨r, hr, c1, c2, c3⟩ := set_loop c hc hi d (i + 1) k (x.set i c) (by omega) (by omega) (by omega) (hx.set i hc) (by simpa using hl) (by simpa using han)
    refine ⟨r, hr, c1, by simpa using c2, fun j => ?_⟩
    rw [c3 j, tb_set x i j c (by omega)]
    by_cases h1 : j / 8 = i
    · rw [if_neg (by omega), if_pos h1, if_pos (by omega)]
    · by_cases h2 : i + 1 ≤ j / 8 ∧ j / 8 < hi
      · rw [if_pos h2, if_pos (by omega)]
      · rw [if_neg h2, if_neg h1, if_neg (by omega)]

theorem memSet (c : Int) (hc : Byte c) (lo hi k : Nat) (x : List Int) (hlo : lo < hi) (hk : 5000 ≤ k) (hx : By x) (hl : x.length ≤ 4096) (hh : hi ≤ x.length) :
    ∃ r, memory_Set.f k x c (lo : Int) (hi : Int) = some r ∧ By r ∧ r.length = x.length ∧ ∀ j, tb r j = if lo ≤ j / 8 ∧ j / 8 < hi then bt1 c (j % 8) else tb x j := by
  obtain ⟨k, rfl⟩ : ∃ k', k = k' + 3 := ⟨k - 3, by omega⟩
  obtain ⟨r, hr, h⟩ := set_loop c hc hi (hi - lo) lo k x rfl (by omega) (by omega) hx hl hh
  refine ⟨r, ?_, h⟩
  unfold memory_Set.f
  rw [if_neg (by omega), memory_Set.j0, if_neg (by omega), memory_Set.j1, if_neg (by omega), memory_Set.j2]
  exact hr

theorem pre_fin : ∀ b : Fin 8, (0 ≤ rd gtab2 (b.val : Int) ∧ rd gtab2 (b.val : Int) < 256) ∧ (0 ≤ rd gtab3 (b.val : Int) ∧ rd gtab3 (b.val : Int) < 256) ∧
    ∀ r : Fin 8, bt1 (rd gtab2 (b.val : Int)) r.val = decide (r.val < b.val) ∧ bt1 (rd gtab3 (b.val : Int)) r.val = decide (b.val ≤ r.val) := by decide +kernel
theorem pre_byte {b : Nat} (hb : b < 8) : Byte (rd gtab2 (b : Int)) ∧ ∀ r, r < 8 → bt1 (rd gtab2 (b : Int)) r = decide (r < b) :=
  ⟨(pre_fin ⟨b, hb⟩).1, fun r hr => ((pre_fin ⟨b, hb⟩).2.2 ⟨r, hr⟩).1⟩
theorem trail_byte {b : Nat} (hb : b < 8) : Byte (rd gtab3 (b : Int)) ∧ ∀ r, r < 8 → bt1 (rd gtab3 (b : Int)) r = decide (b ≤ r) :=
  ⟨(pre_fin ⟨b, hb⟩).2.1, fun r hr => ((pre_fin ⟨b, hb⟩).2.2 ⟨r, hr⟩).2⟩
def fillOf (v : Bool) : Int := if v then 255 else 0
theorem fill_fin : ∀ v : Bool, (0 ≤ fillOf v ∧ fillOf v < 256) ∧ ∀ r : Fin 8, bt1 (fillOf v) r.val = v := by decide +kernel
theorem fill_byte (v : Bool) : Byte (fillOf v) ∧ ∀ r, r < 8 → bt1 (fillOf v) r = v := ⟨(fill_fin v).1, fun r hr => (fill_fin v).2 ⟨r, hr⟩⟩

theorem setBits_j0 (v : Bool) (A E k : Nat) (l : List Int) (hAE : A < E) (hk : 6000 ≤ k) (hl : By l) (hlen : l.length ≤ 4096) (hE : E ≤ 8 * l.length) :
    ∃ r, bitutil_SetBitsTo.j0 k l (A : Int) (E : Int) (fillOf v) = some r ∧ Put l r A E v := by
  obtain ⟨k, rfl⟩ : ∃ k', k = k' + 1 := ⟨k - 1, by omega⟩
  have F := fill_byte v
  have PB := pre_byte (show A % 8 < 8 by omega)
  have TB := trail_byte (show E % 8 < 8 by omega)
  have hqA : A / 8 < l.length := by omega
  rw [bitutil_SetBitsTo.j0]
  simp only [tmod8, tdiv8, wN (A / 8) (by omega), wN (E / 8) (by omega), wS (E / 8) (by omega), wS (A / 8) (by omega), wSub (E / 8 + 1) (A / 8) (by omega) (by omega), wSub1 (E / 8) (by omega), Int.toNat_natCast]
  rw [if_pos (by omega), if_pos (by omega), if_pos (by omega), if_pos (by omega)]
  by_cases c1 : ((E / 8 + 1 : Nat) : Int) = ((A / 8 + 1 : Nat) : Int)
  · rw [if_pos c1, if_neg (by omega), if_pos (by omega), if_pos (by omega)]
    simp only [Option.bind_some]
    have O := or_byte PB.1 TB.1
    obtain ⟨m1, m2, m3⟩ := merge hl hqA O.1 F.1 rfl rfl
    refine ⟨_, rfl, m1, m2, fun j hj => ?_⟩
    refine (m3 j).trans ?_
    have hj8 : j % 8 < 8 := by omega
    simp only [O.2, PB.2 _ hj8, TB.2 _ hj8, F.2 _ hj8]
    by_cases h1 : j / 8 = A / 8
    · rw [if_pos h1]
      by_cases h2 : A ≤ j ∧ j < E
      · rw [if_pos h2, if_neg (by simp; omega)]
      · rw [if_neg h2, if_pos (by simp; omega)]
    · rw [if_neg h1, if_neg (by omega)]
  · rw [if_neg c1, if_pos (by omega), if_pos (by omega)]
    simp only [Option.bind_some]
    obtain ⟨m1, m2, m3⟩ := merge hl hqA PB.1 F.1 rfl rfl
    simp only [rd_nat] at m1 m2 m3 ⊢
    generalize hy : (l.set (A / 8) (bits .and .u8 (l.getD (A / 8) 0) (gtab2.getD (A % 8) 0))).set (A / 8) _ = y at m1 m2 m3 ⊢
    have m4 : ∀ j, j < 8 * l.length → tb y j = if A ≤ j ∧ j < 8 * (A / 8) + 8 then v else tb l j := by
      intro j hj
      refine (m3 j).trans ?_
      have hj8 : j % 8 < 8 := by omega
      have hp := PB.2 (j % 8) hj8
      rw [rd_nat] at hp
      simp only [hp, F.2 _ hj8]
      by_cases h1 : j / 8 = A / 8
      · rw [if_pos h1]
        by_cases h2 : A ≤ j ∧ j < 8 * (A / 8) + 8
        · rw [if_pos h2, if_neg (by simp; omega)]
        · rw [if_neg h2, if_pos (by simp; omega)]
      · rw [if_neg h1, if_neg (by omega)]
    -- the whole bytes between
    have mid : ∃ z, By z ∧ z.length = l.length ∧ (∀ j, j < 8 * l.length → tb z j = if A ≤ j ∧ j < 8 * (E / 8) then v else tb l j) ∧
        ∀ (g : List Int → Option (List Int)), (if ((E / 8 + 1 : Nat) : Int) - ((A / 8 : Nat) : Int) > 2 then (memory_Set.f k y (fillOf v) ((A / 8 + 1 : Nat) : Int) ((E / 8 : Nat) : Int)).bind g else g y) = g z := by
      by_cases c2 : ((E / 8 + 1 : Nat) : Int) - ((A / 8 : Nat) : Int) > 2
      · obtain ⟨z, hz, z1, z2, z3⟩ := memSet (fillOf v) F.1 (A / 8 + 1) (E / 8) k y (by omega) (by omega) m1 (by omega) (by omega)
        refine ⟨z, z1, by omega, fun j hj => ?_, fun g => by rw [if_pos c2, hz]; rfl⟩
        rw [z3 j, m4 j hj, F.2 _ (by omega)]
        by_cases h1 : A / 8 + 1 ≤ j / 8 ∧ j / 8 < E / 8
        · rw [if_pos h1, if_pos (by omega)]
        · rw [if_neg h1]
          by_cases h2 : A ≤ j ∧ j < 8 * (A / 8) + 8
          · rw [if_pos h2, if_pos (by omega)]
          · rw [if_neg h2, if_neg (by omega)]
      · refine ⟨y, m1, m2, fun j hj => ?_, fun g => by rw [if_neg c2]⟩
        rw [m4 j hj]
        have : E / 8 = A / 8 + 1 := by omega
        rw [this]
        by_cases h2 : A ≤ j ∧ j < 8 * (A / 8) + 8
        · rw [if_pos h2, if_pos (by omega)]
        · rw [if_neg h2, if_neg (by omega)]
    obtain ⟨z, z1, z2, z3, z4⟩ := mid
    have key : ∃ r, (if ((E % 8 : Nat) : Int) = 0 then some z else (if 0 ≤ ((E / 8 : Nat) : Int) then (if ((E / 8 : Nat) : Int) < (l.length : Int) then some ((z.set (E / 8) (bits .and .u8 (z.getD (E / 8) 0) (rd gtab3 ((E % 8 : Nat) : Int)))).set (E / 8) (bits .or .u8 ((z.set (E / 8) (bits .and .u8 (z.getD (E / 8) 0) (rd gtab3 ((E % 8 : Nat) : Int)))).getD (E / 8) 0) (bits .andNot .u8 (fillOf v) (rd gtab3 ((E % 8 : Nat) : Int))))) else none) else none)) = some r ∧ Put l r A E v := by
      by_cases c3 : E % 8 = 0
      · rw [if_pos (by omega)]
        refine ⟨z, rfl, z1, z2, fun j hj => ?_⟩
        rw [z3 j hj, show 8 * (E / 8) = E by omega]
      · rw [if_neg (by omega), if_pos (by omega), if_pos (by omega)]
        obtain ⟨n1, n2, n3⟩ := merge z1 (show E / 8 < z.length by omega) TB.1 F.1 rfl rfl
        refine ⟨_, rfl, n1, by omega, fun j hj => ?_⟩
        refine (n3 j).trans ?_
        have hj8 : j % 8 < 8 := by omega
        simp only [TB.2 _ hj8, F.2 _ hj8, z3 j hj]
        by_cases h1 : j / 8 = E / 8
        · rw [if_pos h1]
          by_cases h2 : A ≤ j ∧ j < E
          · rw [if_pos h2, if_neg (by simp; omega)]
          · rw [if_neg h2, if_pos (by simp; omega), if_neg (by omega)]
        · rw [if_neg h1]
          by_cases h2 : A ≤ j ∧ j < E
          · rw [if_pos h2, if_pos (by omega)]
          · rw [if_neg h2, if_neg (by omega)]
    obtain ⟨r, hr, h⟩ := key
    refine ⟨r, ?_, h⟩
    rw [← hr]
    exact z4 fun t => (if ((E % 8 : Nat) : Int) = 0 then some t else (if 0 ≤ ((E / 8 : Nat) : Int) then (if ((E / 8 : Nat) : Int) < (l.length : Int) then some ((t.set (E / 8) (bits .and .u8 (t.getD (E / 8) 0) (rd gtab3 ((E % 8 : Nat) : Int)))).set (E / 8) (bits .or .u8 ((t.set (E / 8) (bits .and .u8 (t.getD (E / 8) 0) (rd gtab3 ((E % 8 : Nat) : Int)))).getD (E / 8) 0) (bits .andNot .u8 (fillOf v) (rd gtab3 ((E % 8 : Nat) : Int))))) else none) else none))

theorem setRange (v : Bool) (a n k : Nat) (l : List Int) (hk : 6000 ≤ k) (hl : By l) (hlen : l.length ≤ 4096) (han : a + n ≤ 8 * l.length) :
    ∃ r, impl_SetRange.f k l (a : Int) (n : Int) v = some r ∧ Put l r a (a + n) v := by
  have hc : impl_copied.f l = some l := by
    unfold impl_copied.f
    simp only [Option.bind_some, List.length_nil, List.nil_append]
    rw [if_pos (by omega)]
  by_cases hn : n = 0
  · subst hn
    refine ⟨l, ?_, hl, rfl, fun j _ => by rw [if_neg (by omega)]⟩
    unfold impl_SetRange.f bitutil_SetBitsTo.f
    rw [hc]
    simp
  · obtain ⟨r, hr, h⟩ := setBits_j0 v a (a + n) k l (by omega) hk hl hlen han
    refine ⟨r, ?_, h⟩
    unfold impl_SetRange.f bitutil_SetBitsTo.f
    rw [hc]
    simp only [Option.bind_some]
    rw [if_neg (by omega), wAdd a n (by omega)]
    cases v with
    | true => rw [if_pos rfl, show (255 : Int) = fillOf true from rfl, hr]; rfl
    | false => rw [if_neg (by decide), show (0 : Int) = fillOf false from rfl]; rw [hr]; rfl

theorem law_loop (v : Bool) (l : List Int) (a n : Nat) (hl : By l) (hlen : l.length ≤ 4096) (han : a + n ≤ 8 * l.length) : ∀ (d i k : Nat) (x : List Bool), d = n - i → i ≤ n → d + 40000 ≤ k → x.length = n → (∀ j, j < i → x.getD j false = v) →
    laws_FnSetRange.l0 k l (a : Int) (n : Int) v x (n : Int) (i : Int) = some true
  | 0, i, k, x, hd, hi, hk, hx, hxv => by
    obtain ⟨k, rfl⟩ : ∃ k', k = k' + 1 := ⟨k - 1, by omega⟩
    have hx' : x = List.replicate n v := by
      apply List.ext_getElem (by simp [hx])
      intro j h1 h2
      have := hxv j (by omega)
      rw [List.getD_eq_getElem?_getD, List.getElem?_eq_getElem h1] at this
      simpa using this
    obtain ⟨r1, h1, p1, p2, p3⟩ := setRange v a n k l (by omega) hl hlen han
    obtain ⟨r2, h2, q1, q2, q3⟩ := changed v a n k l (by omega) hl hlen han
    have e : r1 = r2 := ext p1 q1 (by omega) fun j hj => by rw [p3 j (by omega), q3 j (by omega)]
    rw [laws_FnSetRange.l0, if_neg (by omega), h1, hx', h2, e]
    simp [laws_same.f]
  | d + 1, i, k, x, hd, hi, hk, hx, hxv => by
    obtain ⟨k, rfl⟩ : ∃ k', k = k' + 1 := ⟨k - 1, by omega⟩
    rw [laws_FnSetRange.l0, if_pos (by omega), if_pos (by omega), if_pos (by omega), wS i (by omega), Int.toNat_natCast]
    refine law_loop v l a n hl hlen han d (i + 1) k (x.set i v) (by omega) (by omega) (by omega) (by simpa using hx) fun j hj => ?_
    rw [List.getD_eq_getElem?_getD, List.getElem?_set]
    by_cases h : i = j
    · have hil : i < x.length := by omega
      subst h
      rw [if_pos rfl, if_pos hil]; rfl
    · simp only [h, if_false]
      rw [← List.getD_eq_getElem?_getD]
      exact hxv j (by omega)

theorem FnSetRange : laws_FnSetRange.Pure := by
  intro l a n v hm hy hwf w1 w2
  refine ⟨100000, ?_⟩
  unfold laws_FnSetRange.f
  by_cases hbig : (l.length : Int) > 2147483647
  · rw [if_pos hbig]
  rw [if_neg hbig]
  have hw : ∃ b, laws_within.f l a n = some b ∧ (b = true → l.length ≤ 4096 ∧ 0 ≤ a ∧ 0 ≤ n ∧ a + n ≤ 8 * (l.length : Int)) := by
    unfold laws_within.f
    by_cases c1 : (l.length : Int) ≤ 4096
    · rw [if_pos c1]
      have e8 := w8 l.length (by omega)
      rw [e8]
      by_cases c2 : a ≥ 0
      · rw [if_pos c2]
        by_cases c4 : n ≥ 0
        · rw [if_pos c4]
          by_cases c3 : a ≤ 8 * (l.length : Int)
          · rw [if_pos c3, v64 _ (by omega)]
            exact ⟨_, rfl, fun h => by simp at h; omega⟩
          · rw [if_neg c3]; exact ⟨_, rfl, fun h => by cases h⟩
        · rw [if_neg c4]; exact ⟨_, rfl, fun h => by cases h⟩
      · rw [if_neg c2]; exact ⟨_, rfl, fun h => by cases h⟩
    · rw [if_neg c1]; exact ⟨_, rfl, fun h => by cases h⟩
  obtain ⟨b, hb, hin⟩ := hw
  rw [hb]
  simp only [Option.bind_some]
  cases b with
  | false => rfl
  | true =>
    obtain ⟨hl, h0, h1, h2⟩ := hin rfl
    obtain ⟨A, rfl⟩ : ∃ A : Nat, a = A := ⟨a.toNat, by omega⟩
    obtain ⟨n, rfl⟩ : ∃ A : Nat, n = A := ⟨n.toNat, by omega⟩
    rw [if_pos rfl, if_pos h1, if_pos (by omega)]
    simp only [List.length_replicate, Int.toNat_natCast]
    have hby : By l := fun x hx => by
      have : 0 ≤ x ∧ x ≤ 255 := by simpa [Lit.wf, IntKind.min, IntKind.max, IntKind.signed, IntKind.bits] using hwf x hx
      exact ⟨this.1, by omega⟩
    exact law_loop v l A n hby hl (by omega) n 0 100000 _ (by omega) (by omega) (by omega) (by simp) (fun j hj => by omega)
end Go.Proofs.YticieelobdfloaaDoor.Pure
