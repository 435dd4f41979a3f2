/- FnMetaFind, over the plain Lean functions of the program: a key is found at its first place, with its value; for every list of fewer than 2^40 pairs and every key. -/
import Derived.Test.YticieelobdfloaaQMetax3
namespace Go.Proofs.Yticieelobdfloaa.MetaPlain
open Go.RowKit Go.Proofs.Yticieelobdfloaa.QMeta Go.Proofs.YticieelobdfloaaW.PrintWords Go.Proofs.YticieelobdfloaaW.PrintLast

theorem wrap_up {i n : Int} (h0 : 0 ≤ i) (h : i < n) (hn : n ≤ 1099511627776) : wrap64 (i + 1) = i + 1 := by
  unfold wrap64
  omega

theorem fits5 (a b : ByteArray) : ∃ t, laws_zzFits5.f a b = some t := by
  unfold laws_zzFits5.f
  repeat (first | exact ⟨_, rfl⟩ | split)

theorem fits4_l (l : List S30) (hn : (l.length : Int) ≤ 1099511627776) (d : Nat) : ∀ (k : Nat) (i : Int), 0 ≤ i → i ≤ l.length → (l.length : Int) - i = d → d < k →
    ∃ b, laws_zzFits4.l0 k l (l.length : Int) i = some b := by
  induction d with
  | zero =>
    intro k i h0 h1 hd hk
    obtain ⟨k, rfl⟩ : ∃ m, k = m + 1 := ⟨k - 1, by omega⟩
    exact ⟨true, by simp only [laws_zzFits4.l0]; rw [if_neg (by omega)]⟩
  | succ d ih =>
    intro k i h0 h1 hd hk
    obtain ⟨k, rfl⟩ : ∃ m, k = m + 1 := ⟨k - 1, by omega⟩
    have hlt : i < (l.length : Int) := by omega
    obtain ⟨t, ht⟩ := fits5 (rd_T30 l i).f0 (rd_T30 l i).f1
    simp only [laws_zzFits4.l0]
    rw [if_pos hlt, if_pos h0, if_pos hlt, ht]
    simp only [Option.bind_some]
    cases t with
    | true =>
      simp only [if_true]
      rw [wrap_up h0 hlt hn]
      exact ih k (i + 1) (by omega) (by omega) (by omega) (by omega)
    | false => exact ⟨false, by simp⟩

theorem fits4 (l : List S30) (hn : (l.length : Int) ≤ 1099511627776) (k : Nat) (hk : l.length < k) : ∃ b, laws_zzFits4.f k l = some b := by
  unfold laws_zzFits4.f
  by_cases h : (l.length : Int) > 2147483647
  · exact ⟨false, by rw [if_pos h]⟩
  · rw [if_neg h]
    exact fits4_l l hn l.length k 0 (by omega) (by omega) (by omega) hk

/-- Where a key stands first, from place i on. -/
structure Found (ks : List ByteArray) (a : ByteArray) (i r : Int) : Prop where mk ::
  (out : (r = -1 ∧ ∀ j : Int, i ≤ j → j < ks.length → (rdOf ByteArray.empty ks j).toList ≠ a.toList) ∨
    (i ≤ r ∧ r < ks.length ∧ (rdOf ByteArray.empty ks r).toList = a.toList ∧ ∀ j : Int, i ≤ j → j < r → (rdOf ByteArray.empty ks j).toList ≠ a.toList))

theorem find_l (a : ByteArray) (ks : List ByteArray) (hn : (ks.length : Int) ≤ 1099511627776) (d : Nat) : ∀ (k : Nat) (i : Int), 0 ≤ i → i ≤ ks.length → (ks.length : Int) - i = d → d < k →
    ∃ r, arrow_Metadata_FindKey.l0 k a ks (ks.length : Int) i = some r ∧ Found ks a i r := by
  induction d with
  | zero =>
    intro k i h0 h1 hd hk
    obtain ⟨k, rfl⟩ : ∃ m, k = m + 1 := ⟨k - 1, by omega⟩
    exact ⟨-1, by simp only [arrow_Metadata_FindKey.l0]; rw [if_neg (by omega)], ⟨.inl ⟨rfl, fun j h2 h3 => by omega⟩⟩⟩
  | succ d ih =>
    intro k i h0 h1 hd hk
    obtain ⟨k, rfl⟩ : ∃ m, k = m + 1 := ⟨k - 1, by omega⟩
    have hlt : i < (ks.length : Int) := by omega
    simp only [arrow_Metadata_FindKey.l0]
    rw [if_pos hlt, if_pos h0, if_pos hlt]
    by_cases hm : (rdOf ByteArray.empty ks i).toList = a.toList
    · rw [if_pos hm]
      exact ⟨i, rfl, ⟨.inr ⟨by omega, hlt, hm, fun j h2 h3 => by omega⟩⟩⟩
    · rw [if_neg hm, wrap_up h0 hlt hn]
      obtain ⟨r, hr, hf⟩ := ih k (i + 1) (by omega) (by omega) (by omega) (by omega)
      refine ⟨r, hr, ⟨?_⟩⟩
      rcases hf.out with ⟨e, h⟩ | ⟨h2, h3, h4, h5⟩
      · refine .inl ⟨e, fun j hj1 hj2 => ?_⟩
        by_cases e2 : j = i
        · subst e2; exact hm
        · exact h j (by omega) hj2
      · refine .inr ⟨by omega, h3, h4, fun j hj1 hj2 => ?_⟩
        by_cases e2 : j = i
        · subst e2; exact hm
        · exact h5 j (by omega) hj2

theorem find_f (a : ByteArray) (ks vs : List ByteArray) (hn : (ks.length : Int) ≤ 1099511627776) (k : Nat) (hk : ks.length < k) :
    ∃ r, arrow_Metadata_FindKey.f k ks vs a = some r ∧ Found ks a 0 r := by
  unfold arrow_Metadata_FindKey.f
  exact find_l a ks hn ks.length k 0 (by omega) (by omega) (by omega) hk

/-- The pairs' keys and values. -/
theorem make_l (l : List S30) (hn : (l.length : Int) ≤ 1099511627776) (d : Nat) : ∀ (k : Nat) (i : Int), 0 ≤ i → i ≤ l.length → (l.length : Int) - i = d → d < k →
    impl_arrowMeta.l0 k ((l.take i.toNat).map S30.f0) ((l.take i.toNat).map S30.f1) l (l.length : Int) i = some (l.map S30.f0, l.map S30.f1) := by
  induction d with
  | zero =>
    intro k i h0 h1 hd hk
    obtain ⟨k, rfl⟩ : ∃ m, k = m + 1 := ⟨k - 1, by omega⟩
    have e : l.take i.toNat = l := List.take_of_length_le (by omega)
    simp only [impl_arrowMeta.l0]
    rw [if_neg (by omega), e]
    have hm : arrow_NewMetadata.f (l.map S30.f0) (l.map S30.f1) = some (l.map S30.f0, l.map S30.f1) := by
      unfold arrow_NewMetadata.f
      rw [if_pos (by simp)]
      by_cases h : ((l.map S30.f0).length : Int) = 0
      · rw [if_pos h]
        have hl : l = [] := List.eq_nil_of_length_eq_zero (by simpa using h)
        rw [hl]; rfl
      · rw [if_neg h, if_pos (by simp; omega), if_pos (by simp; omega)]
        simp
    rw [hm]
    simp only [Option.bind_some]
  | succ d ih =>
    intro k i h0 h1 hd hk
    obtain ⟨k, rfl⟩ : ∃ m, k = m + 1 := ⟨k - 1, by omega⟩
    have hlt : i < (l.length : Int) := by omega
    have hiN : i.toNat < l.length := by omega
    have hrd : rd_T30 l i = l[i.toNat] := by simp [rd_T30, List.getD_eq_getElem?_getD, hiN]
    have e1 : (i + 1).toNat = i.toNat + 1 := by omega
    have ht : l.take (i.toNat + 1) = l.take i.toNat ++ [l[i.toNat]] := by rw [List.take_succ_eq_append_getElem hiN]
    simp only [impl_arrowMeta.l0]
    rw [if_pos hlt, if_pos h0, if_pos hlt]
    simp only [Option.bind_some, hrd]
    rw [if_pos (by simp; omega), if_pos (by simp; omega), wrap_up h0 hlt hn]
    have := ih k (i + 1) (by omega) (by omega) (by omega) (by omega)
    rw [e1, ht, List.map_append, List.map_append] at this
    exact this

theorem make_f (l : List S30) (hn : (l.length : Int) ≤ 1099511627776) (k : Nat) (hk : l.length < k) : impl_arrowMeta.f k l = some (l.map S30.f0, l.map S30.f1) := by
  unfold impl_arrowMeta.f
  have := make_l l hn l.length k 0 (by omega) (by omega) (by omega) hk
  simpa using this

/-- What is told of a key: its place, its value, whether it is there. -/
theorem meta_f (l : List S30) (a : ByteArray) (hn : (l.length : Int) ≤ 1099511627776) (k : Nat) (hk : l.length < k) :
    ∃ r v b, impl_MetaFind.f k l a = some (r, v, b, true) ∧ Found (l.map S30.f0) a 0 r ∧ b = !decide (r < 0) ∧ (0 ≤ r → v = rdOf ByteArray.empty (l.map S30.f1) r) := by
  obtain ⟨r, hr, hf⟩ := find_f a (l.map S30.f0) (l.map S30.f1) (by simpa using hn) k (by simpa using hk)
  unfold impl_MetaFind.f arrow_Metadata_GetValue.f
  rw [make_f l hn k hk]
  simp only [Option.bind_some]
  rw [hr]
  simp only [Option.bind_some]
  by_cases h : r < 0
  · rw [if_pos h]
    exact ⟨r, _, _, rfl, hf, by simp [h], fun h2 => by omega⟩
  · have hlt : r < ((l.map S30.f1).length : Int) := by
      rcases hf.out with ⟨e, _⟩ | ⟨_, h3, _⟩
      · omega
      · simpa using h3
    rw [if_neg h, if_pos (by omega), if_pos hlt]
    exact ⟨r, _, _, rfl, hf, by simp [h], fun _ => rfl⟩

theorem rd_f0 (l : List S30) (i : Int) (h0 : 0 ≤ i) (h : i < l.length) : rdOf ByteArray.empty (l.map S30.f0) i = (rd_T30 l i).f0 := by
  have hiN : i.toNat < l.length := by omega
  simp [rdOf, rd_T30, List.getD_eq_getElem?_getD, hiN]
theorem rd_f1 (l : List S30) (i : Int) (h0 : 0 ≤ i) (h : i < l.length) : rdOf ByteArray.empty (l.map S30.f1) i = (rd_T30 l i).f1 := by
  have hiN : i.toNat < l.length := by omega
  simp [rdOf, rd_T30, List.getD_eq_getElem?_getD, hiN]

theorem law_l (l : List S30) (a : ByteArray) (hn : (l.length : Int) ≤ 1099511627776) (r : Int) (v : ByteArray) (b : Bool) (hf : Found (l.map S30.f0) a 0 r) (hb : b = !decide (r < 0)) (hv : 0 ≤ r → v = rdOf ByteArray.empty (l.map S30.f1) r)
    (d : Nat) : ∀ (k : Nat) (i : Int), 0 ≤ i → i ≤ l.length → (∀ j : Int, 0 ≤ j → j < i → (rdOf ByteArray.empty (l.map S30.f0) j).toList ≠ a.toList) → (l.length : Int) - i = d → d < k →
    laws_FnMetaFind.l0 k a b true true r v l (l.length : Int) i = some true := by
  induction d with
  | zero =>
    intro k i h0 h1 hj hd hk
    obtain ⟨k, rfl⟩ : ∃ m, k = m + 1 := ⟨k - 1, by omega⟩
    simp only [laws_FnMetaFind.l0]
    rw [if_neg (by omega), if_pos trivial]
    rcases hf.out with ⟨e, _⟩ | ⟨h2, h3, h4, _⟩
    · subst e
      rw [hb]
      simp
    · exact absurd h4 (hj r (by omega) (by simp at h3; omega))
  | succ d ih =>
    intro k i h0 h1 hj hd hk
    obtain ⟨k, rfl⟩ : ∃ m, k = m + 1 := ⟨k - 1, by omega⟩
    have hlt : i < (l.length : Int) := by omega
    have hr0 := rd_f0 l i h0 hlt
    have hr1 := rd_f1 l i h0 hlt
    simp only [laws_FnMetaFind.l0]
    rw [if_pos hlt, if_pos h0, if_pos hlt]
    by_cases hm : ((rd_T30 l i).f0).toList = a.toList
    · rw [if_pos hm, if_pos trivial]
      rw [← hr0] at hm
      have hri : r = i := by
        rcases hf.out with ⟨_, h⟩ | ⟨h2, h3, h4, h5⟩
        · exact absurd hm (h i (by omega) (by simpa using hlt))
        · rcases Int.lt_trichotomy r i with h | h | h
          · exact absurd h4 (hj r (by omega) h)
          · exact h
          · exact absurd hm (h5 i (by omega) h)
      subst hri
      rw [hv (by omega), hr1, hb]
      rw [if_pos (by simp; omega), if_pos rfl, if_pos rfl]
    · rw [if_neg hm, wrap_up h0 hlt hn]
      refine ih k (i + 1) (by omega) (by omega) (fun j hj0 hj1 => ?_) (by omega) (by omega)
      by_cases e : j = i
      · subst e; rw [hr0]; exact hm
      · exact hj j hj0 (by omega)

/-- The pair of the law's own check: 'a', 'b'. -/
def one : S30 := ⟨(⟨#[97]⟩ : ByteArray), (⟨#[98]⟩ : ByteArray)⟩
theorem awake (k : Nat) (hk : 2 ≤ k) : ∃ v, impl_MetaFind.f k [one] (⟨#[97]⟩ : ByteArray) = some (0, v, true, true) := by
  obtain ⟨r, v, b, h, hf, hb, hv⟩ := meta_f [one] (⟨#[97]⟩ : ByteArray) (by simp) k (by simp; omega)
  have e0 : r = 0 := by
    have hm : (rdOf ByteArray.empty ([one].map S30.f0) 0).toList = (⟨#[97]⟩ : ByteArray).toList := rfl
    rcases hf.out with ⟨_, h⟩ | ⟨h2, h3, h4, h5⟩
    · exact absurd hm (h 0 (by omega) (by simp))
    · simp at h3
      omega
  subst e0
  refine ⟨v, ?_⟩
  rw [h, hb]
  rfl

theorem FnMetaFind_in (l : List S30) (a : ByteArray) (hn : (l.length : Int) ≤ 1099511627776) : laws_FnMetaFind.f (l.length + 5) l a = some true := by
  unfold laws_FnMetaFind.f
  obtain ⟨b, hb⟩ := fits4 l hn (l.length + 5) (by omega)
  have h0 : ∀ c : Bool, laws_FnMetaFind.j0 (l.length + 5) l a c = some true := by
    intro c
    simp only [laws_FnMetaFind.j0]
    cases c with
    | true => rfl
    | false =>
      rw [if_neg (by decide)]
      obtain ⟨v, hv⟩ := awake (l.length + 4) (by omega)
      change (impl_MetaFind.f (l.length + 4) [one] (⟨#[97]⟩ : ByteArray)).bind _ = _
      rw [hv]
      simp only [Option.bind_some, if_true]
      simp only [laws_FnMetaFind.j1]
      by_cases h100 : (l.length : Int) > 100
      · rw [if_pos h100]; rfl
      · rw [if_neg h100]
        obtain ⟨r, v2, b2, h2, hf, hb2, hv2⟩ := meta_f l a hn (l.length + 3) (by omega)
        rw [h2]
        simp only [Option.bind_some]
        exact law_l l a hn r v2 b2 hf hb2 hv2 l.length (l.length + 3) 0 (by omega) (by omega) (fun j h h' => by omega) (by omega) (by omega)
  rw [hb]
  simp only [Option.bind_some]
  split <;> exact h0 _

/-- For every list of pairs and every key. -/
theorem FnMetaFind (l : List S30) (a : ByteArray) : ∃ k, laws_FnMetaFind.f k l a = some true := by
  by_cases h : (l.length : Int) > 2147483647
  · refine ⟨1, ?_⟩
    unfold laws_FnMetaFind.f laws_zzFits4.f
    rw [if_pos h]
    simp only [Option.bind_some, laws_FnMetaFind.j0]
    rfl
  · exact ⟨_, FnMetaFind_in l a (by omega)⟩
end Go.Proofs.Yticieelobdfloaa.MetaPlain
