/- Walks of the program's functions, printed by a program of mine (walk.py) over the words of Stride: each function's contract. -/
import Derived.Test.YtmendapdibnbdaaGreatDoorDeL
import Derived.ChangeKeysEq
namespace Go.Proofs.YtmendapdibnbdaaGreatDoor.Stride
open Go Go.RowKit Go.Proofs.YtmendapdibnbdaaGreatDoor.Mag
set_option linter.unusedVariables false
set_option linter.unusedSimpArgs false
set_option maxHeartbeats 4000000
set_option maxRecDepth 100000
theorem wval_nval : ∀ xs : List Nat, wval xs = nval xs
 | [] => rfl
 | x :: xs => by simp only [wval, nval]; rw [wval_nval xs]
theorem sl_lit {w : World} {b c : Nat} {t : TypeId} {vs : List Nat} (h : w.heap[b]? = some (.cells (ints .u64 vs).toArray t (0, 0))) (hd : Ndig vs) (hc : vs.length ≤ c) (hm : c ≤ 9223372036854775807) : Sl .u64 18446744073709551616 (fun x => x = b) w (some ⟨b, 0, none⟩) c vs := by
 refine ⟨fun i v hi => ⟨⟨b, 0, none⟩, rfl, rfl, ?_⟩, hd, hc, hm⟩
 rw [addr_add]
 simpa [World.cell?, h] using hi
set_option maxRecDepth 100000 in
theorem equal47 {w : World} {a b c d : Int} : (Op.equal 47 (.agg #[.int .u64 a, .int .i64 b]) (.agg #[.int .u64 c, .int .i64 d])).run P w = .ok ((a == c) && (b == d)) w := by
 have hs : P.stoodInHeld 47 = false := by kernel_rfl
 have hf := show Tryz.prog.fieldsOf 47 = _ by simp [Program.fieldsOf, Tryz.underlying47]; rfl
 show (Op.equalIn (9999 + 1) 47 _ _).run P w = _
 rw [run_equalIn_struct (P := P) w 9999 47 _ _ (by rw [hf]; exact Tryz.underlying47) hs, hf]
 simp [Op.eqFields, go_sem]
 by_cases h1 : a = c <;> by_cases h2 : b = d <;> simp [h1, h2]
theorem eq47 {w : World} {ev : Operand → Value} {o : Oper} {x y : Operand} {a b c d : Int} (ho : o.op = .binOp .eql 47 x y 47) (h3 : ev x = .agg #[.int .u64 a, .int .i64 b]) (h4 : ev y = .agg #[.int .u64 c, .int .i64 d]) :
  (execOp ev o).run P w = .ok (.value (.bool ((a == c) && (b == d)))) w := by
 have hg := run_eqGuard_agg (P := P) w .eql 47 x y #[.int .u64 a, .int .i64 b] #[.int .u64 c, .int .i64 d] (by kernel_rfl)
 have hb : (binOp .eql 47 (.agg #[.int .u64 a, .int .i64 b]) (.agg #[.int .u64 c, .int .i64 d])).run P w = .ok (.bool ((a == c) && (b == d))) w := by simp [binOp, equal47]
 simp [execOp, ho, h3, h4, hg, hb]
set_option maxRecDepth 100000 in
theorem equal50 {w : World} {a b c d : Int} : (Op.equal 50 (.agg #[.int .u64 a, .int .u64 b, .int .u64 c, .int .u64 d]) (.agg #[.int .u64 0, .int .u64 0, .int .u64 0, .int .u64 0])).run P w = .ok ((a == 0) && ((b == 0) && ((c == 0) && (d == 0)))) w := by
 have hs : P.stoodInHeld 50 = false := by kernel_rfl
 have hf := show Tryz.prog.fieldsOf 50 = _ by simp [Program.fieldsOf, Tryz.underlying50]; rfl
 show (Op.equalIn (9999 + 1) 50 _ _).run P w = _
 rw [run_equalIn_struct (P := P) w 9999 50 _ _ (by rw [hf]; exact Tryz.underlying50) hs, hf]
 obtain ⟨i, hi⟩ := Option.isSome_iff_exists.1 (by kernel_rfl : (P.info? 25).isSome = true)
 have hc : P.cellsOf 25 = 1 := by kernel_rfl
 have h48 : ∀ (xs ys : Array Value), (Op.equalIn 9999 48 (.agg xs) (.agg ys)).run P w = (Op.eqItems 9998 25 (P.cellsOf 25) xs ys (List.range 4)).run P w := fun xs ys => run_equalIn_array (P := P) (w := w) 9998 xs ys (by kernel_rfl : P.underlying 48 = some (.array 4 25)) hi
 have hr : List.range 4 = [0, 1, 2, 3] := by decide
 simp [Op.eqFields, Op.eqItems, go_sem, h48, hr, hc]
 by_cases h1 : a = 0 <;> by_cases h2 : b = 0 <;> by_cases h3 : c = 0 <;> by_cases h4 : d = 0 <;> simp [h1, h2, h3, h4]
theorem eq50 {w : World} {ev : Operand → Value} {o : Oper} {x y : Operand} {a b c d : Int} (ho : o.op = .binOp .eql 50 x y 50) (h3 : ev x = .agg #[.int .u64 a, .int .u64 b, .int .u64 c, .int .u64 d]) (h4 : ev y = .agg #[.int .u64 0, .int .u64 0, .int .u64 0, .int .u64 0]) :
  (execOp ev o).run P w = .ok (.value (.bool ((a == 0) && ((b == 0) && ((c == 0) && (d == 0)))))) w := by
 have hg := run_eqGuard_agg (P := P) w .eql 50 x y #[.int .u64 a, .int .u64 b, .int .u64 c, .int .u64 d] #[.int .u64 0, .int .u64 0, .int .u64 0, .int .u64 0] (by kernel_rfl)
 have hb : (binOp .eql 50 (.agg #[.int .u64 a, .int .u64 b, .int .u64 c, .int .u64 d]) (.agg #[.int .u64 0, .int .u64 0, .int .u64 0, .int .u64 0])).run P w = .ok (.bool ((a == 0) && ((b == 0) && ((c == 0) && (d == 0))))) w := by simp [binOp, equal50]
 simp [execOp, ho, h3, h4, hg, hb]
theorem sign_or {hi : Int} (h1 : -9223372036854775808 ≤ hi) (h2 : hi ≤ 9223372036854775807) : (bits .or .i64 1 (hi / 9223372036854775808) < 0) ↔ hi < 0 := by
 have h : hi / 9223372036854775808 = 0 ∨ hi / 9223372036854775808 = -1 := by omega
 rcases h with h | h
 ·
  rw [h]
  have e : bits .or .i64 1 0 = 1 := by decide
  rw [e]; omega
 ·
  rw [h]
  have e : bits .or .i64 1 (-1) = -1 := by decide
  rw [e]; omega
theorem i64_not (h : Int) (h1 : -9223372036854775808 ≤ h) (h2 : h ≤ 9223372036854775807) : bits .xor .i64 (-1 : Int) h = -1 - h := by
 have e : bits .xor .i64 (-1 : Int) h = IntKind.i64.wrap ((BitVec.ofInt 64 (-1) ^^^ BitVec.ofInt 64 h).toNat : Int) := rfl
 have e1 : (BitVec.ofInt 64 (-1) : BitVec 64) = BitVec.allOnes 64 := by decide
 rw [e, e1, BitVec.allOnes_xor, BitVec.toNat_not, BitVec.toNat_ofInt, IntKind.wrap_i64]
 omega
theorem neg128_of {l : Nat} {hi h2 : Int} (hl : l < 18446744073709551616) (h1 : -9223372036854775808 ≤ hi) (h1' : hi ≤ 9223372036854775807) (h : h2 = if (18446744073709551616 - l) % 18446744073709551616 = 0 then IntKind.i64.wrap (-1 - hi + 1) else -1 - hi) :
  -9223372036854775808 ≤ h2 ∧ h2 ≤ 9223372036854775807 ∧ (((18446744073709551616 - l) % 18446744073709551616 : Nat) : Int) + 18446744073709551616 * (h2 % 18446744073709551616) = (-((l : Int) + 18446744073709551616 * hi)) % 340282366920938463463374607431768211456 := by
 rw [IntKind.wrap_i64] at h
 split at h <;> omega
def NegI (i c q0 q1 q2 q3 a0 a1 a2 a3 : Nat) : Prop :=
 c ≤ 1 ∧ a0 < 18446744073709551616 ∧ a1 < 18446744073709551616 ∧ a2 < 18446744073709551616 ∧ a3 < 18446744073709551616 ∧
 (i = 0 → c = 1 ∧ a0 = q0) ∧ (i ≤ 1 → a1 = q1) ∧ (i ≤ 2 → a2 = q2) ∧ (i ≤ 3 → a3 = q3) ∧
 (1 ≤ i → ∃ c0, c0 ≤ 1 ∧ a0 + q0 + 18446744073709551616 * c0 = 18446744073709551616 ∧ (i = 1 → c = c0) ∧
  (2 ≤ i → ∃ c1, c1 ≤ 1 ∧ a1 + q1 + 18446744073709551616 * c1 = 18446744073709551615 + c0 ∧ (i = 2 → c = c1) ∧
   (3 ≤ i → ∃ c2, c2 ≤ 1 ∧ a2 + q2 + 18446744073709551616 * c2 = 18446744073709551615 + c1 ∧ (i = 3 → c = c2) ∧
    (4 ≤ i → ∃ c3, c3 ≤ 1 ∧ a3 + q3 + 18446744073709551616 * c3 = 18446744073709551615 + c2))))
theorem negI_start {q0 q1 q2 q3 : Nat} (hq : q0 < 18446744073709551616 ∧ q1 < 18446744073709551616 ∧ q2 < 18446744073709551616 ∧ q3 < 18446744073709551616) : NegI 0 1 q0 q1 q2 q3 q0 q1 q2 q3 :=
 ⟨by decide, hq.1, hq.2.1, hq.2.2.1, hq.2.2.2, fun _ => ⟨rfl, rfl⟩, fun _ => rfl, fun _ => rfl, fun _ => rfl, fun h => by omega⟩
theorem negI_0 {c c' a q0 q1 q2 q3 a0 a1 a2 a3 : Nat} (h : NegI 0 c q0 q1 q2 q3 a0 a1 a2 a3) (hc : c' ≤ 1) (ha : a < 18446744073709551616) (he : a + a0 + 18446744073709551616 * c' = 18446744073709551615 + c) : NegI 1 c' q0 q1 q2 q3 a a1 a2 a3 := by
 obtain ⟨h0, h1, h2, h3, h4, h5, h6, h7, h8, -⟩ := h
 have h5' := h5 rfl
 exact ⟨hc, ha, h2, h3, h4, fun h => by omega, fun _ => h6 (by omega), fun _ => h7 (by omega), fun _ => h8 (by omega), fun _ => ⟨c', hc, by omega, fun _ => rfl, fun h => by omega⟩⟩
theorem negI_1 {c c' a q0 q1 q2 q3 a0 a1 a2 a3 : Nat} (h : NegI 1 c q0 q1 q2 q3 a0 a1 a2 a3) (hc : c' ≤ 1) (ha : a < 18446744073709551616) (he : a + a1 + 18446744073709551616 * c' = 18446744073709551615 + c) : NegI 2 c' q0 q1 q2 q3 a0 a a2 a3 := by
 obtain ⟨h0, h1, h2, h3, h4, h5, h6, h7, h8, h9⟩ := h
 obtain ⟨c0, k1, k2, k3, -⟩ := h9 (by omega)
 have h6' := h6 (by omega)
 have k3' := k3 rfl
 exact ⟨hc, h1, ha, h3, h4, fun h => by omega, fun h => by omega, fun _ => h7 (by omega), fun _ => h8 (by omega), fun _ => ⟨c0, k1, k2, fun h => by omega, fun _ => ⟨c', hc, by omega, fun _ => rfl, fun h => by omega⟩⟩⟩
theorem negI_2 {c c' a q0 q1 q2 q3 a0 a1 a2 a3 : Nat} (h : NegI 2 c q0 q1 q2 q3 a0 a1 a2 a3) (hc : c' ≤ 1) (ha : a < 18446744073709551616) (he : a + a2 + 18446744073709551616 * c' = 18446744073709551615 + c) : NegI 3 c' q0 q1 q2 q3 a0 a1 a a3 := by
 obtain ⟨h0, h1, h2, h3, h4, h5, h6, h7, h8, h9⟩ := h
 obtain ⟨c0, k1, k2, -, k4⟩ := h9 (by omega)
 obtain ⟨c1, m1, m2, m3, -⟩ := k4 (by omega)
 have h7' := h7 (by omega)
 have m3' := m3 rfl
 exact ⟨hc, h1, h2, ha, h4, fun h => by omega, fun h => by omega, fun h => by omega, fun _ => h8 (by omega), fun _ => ⟨c0, k1, k2, fun h => by omega, fun _ => ⟨c1, m1, m2, fun h => by omega, fun _ => ⟨c', hc, by omega, fun _ => rfl, fun h => by omega⟩⟩⟩⟩
theorem negI_3 {c c' a q0 q1 q2 q3 a0 a1 a2 a3 : Nat} (h : NegI 3 c q0 q1 q2 q3 a0 a1 a2 a3) (hc : c' ≤ 1) (ha : a < 18446744073709551616) (he : a + a3 + 18446744073709551616 * c' = 18446744073709551615 + c) : NegI 4 c' q0 q1 q2 q3 a0 a1 a2 a := by
 obtain ⟨h0, h1, h2, h3, h4, h5, h6, h7, h8, h9⟩ := h
 obtain ⟨c0, k1, k2, -, k4⟩ := h9 (by omega)
 obtain ⟨c1, m1, m2, -, m4⟩ := k4 (by omega)
 obtain ⟨c2, n1, n2, n3, -⟩ := m4 (by omega)
 have h8' := h8 (by omega)
 have n3' := n3 rfl
 exact ⟨hc, h1, h2, h3, ha, fun h => by omega, fun h => by omega, fun h => by omega, fun h => by omega, fun _ => ⟨c0, k1, k2, fun h => by omega, fun _ => ⟨c1, m1, m2, fun h => by omega, fun _ => ⟨c2, n1, n2, fun h => by omega, fun _ => ⟨c', hc, by omega⟩⟩⟩⟩⟩
theorem negI_end {c q0 q1 q2 q3 a0 a1 a2 a3 : Nat} (h : NegI 4 c q0 q1 q2 q3 a0 a1 a2 a3) (hpos : 0 < nval [q0, q1, q2, q3]) (hq : nval [q0, q1, q2, q3] < 115792089237316195423570985008687907853269984665640564039457584007913129639936) :
  (a0 < 18446744073709551616 ∧ a1 < 18446744073709551616 ∧ a2 < 18446744073709551616 ∧ a3 < 18446744073709551616) ∧ nval [a0, a1, a2, a3] = 115792089237316195423570985008687907853269984665640564039457584007913129639936 - nval [q0, q1, q2, q3] := by
 obtain ⟨h0, h1, h2, h3, h4, h5, h6, h7, h8, h9⟩ := h
 obtain ⟨c0, k1, k2, -, k4⟩ := h9 (by omega)
 obtain ⟨c1, m1, m2, -, m4⟩ := k4 (by omega)
 obtain ⟨c2, n1, n2, -, n4⟩ := m4 (by omega)
 obtain ⟨c3, p1, p2⟩ := n4 (by omega)
 refine ⟨⟨h1, h2, h3, h4⟩, ?_⟩
 simp only [nval] at hpos hq ⊢
 omega
theorem dig4 {q0 q1 q2 q3 : Nat} (h : q0 < 18446744073709551616 ∧ q1 < 18446744073709551616 ∧ q2 < 18446744073709551616 ∧ q3 < 18446744073709551616) : Ndig [q0, q1, q2, q3] := fun x hx => by
 have h1 : x = q0 ∨ x = q1 ∨ x = q2 ∨ x = q3 := by simpa using hx
 omega
theorem dig2 {l m : Nat} (h : l < 18446744073709551616) (h' : m < 18446744073709551616) : Ndig [l, m] := fun x hx => by
 have h1 : x = l ∨ x = m := by simpa using hx
 omega
theorem nval4_lt {q0 q1 q2 q3 : Nat} (h : q0 < 18446744073709551616 ∧ q1 < 18446744073709551616 ∧ q2 < 18446744073709551616 ∧ q3 < 18446744073709551616) : nval [q0, q1, q2, q3] < 115792089237316195423570985008687907853269984665640564039457584007913129639936 := by
 simp only [nval]; omega
theorem nval_two (l m : Nat) : nval [l, m] = l + 18446744073709551616 * m := by simp [nval]
theorem swv4 {q0 q1 q2 q3 : Nat} : swv [q0, q1, q2, q3] = if 9223372036854775808 ≤ q3 then (nval [q0, q1, q2, q3] : Int) - 115792089237316195423570985008687907853269984665640564039457584007913129639936 else (nval [q0, q1, q2, q3] : Int) := by
 by_cases h : 9223372036854775808 ≤ q3
 ·
  rw [if_pos h, swv_neg (ws := [q0, q1, q2, q3]) ⟨by simp, h⟩, wval_nval]
  have e2 : ((2 ^ (64 * [q0, q1, q2, q3].length) : Nat) : Int) = 115792089237316195423570985008687907853269984665640564039457584007913129639936 := by
   show ((2 ^ (64 * 4) : Nat) : Int) = _
   decide
  rw [e2]
 · rw [if_neg h, swv_pos (ws := [q0, q1, q2, q3]) (fun h' => h h'.2), wval_nval]
theorem swv4_npos {q0 q1 q2 q3 : Nat} (h : 9223372036854775808 ≤ q3) : 0 < nval [q0, q1, q2, q3] := by simp only [nval]; omega
theorem nval_take_pos {zs : List Nat} {m : Nat} (h : 0 < nval (zs.take m)) : 0 < m := by
 rcases Nat.eq_zero_or_pos m with rfl | h1
 · simp [nval] at h
 · exact h1
theorem big128n {l2 m : Nat} {l : Nat} {hi hi2 : Int} {xs : List Nat} (hneg : hi < 0) (h1 : -9223372036854775808 ≤ hi) (hl : l < 18446744073709551616) (hl2 : l2 < 18446744073709551616) (hmb : m < 18446744073709551616) (hv2 : (l2 : Int) + 18446744073709551616 * (hi2 % 18446744073709551616) = (-((l : Int) + 18446744073709551616 * hi)) % 340282366920938463463374607431768211456) (hm2 : hi2 % 18446744073709551616 = (m : Int)) (hvx : nval xs = nval [l2, m]) :
  ((l : Int) + 18446744073709551616 * hi) < 0 ∧ nval xs = Int.natAbs ((l : Int) + 18446744073709551616 * hi) ∧ 0 < nval xs := by
 rw [nval_two] at hvx
 omega
theorem big128p {l m : Nat} {hi : Int} {xs : List Nat} (hneg : ¬ hi < 0) (h2 : hi ≤ 9223372036854775807) (hl : l < 18446744073709551616) (hm2 : hi % 18446744073709551616 = (m : Int)) (hvx : nval xs = nval [l, m]) : ¬ ((l : Int) + 18446744073709551616 * hi) < 0 ∧ nval xs = Int.natAbs ((l : Int) + 18446744073709551616 * hi) := by
 rw [nval_two] at hvx
 omega
theorem big256n {q0 q1 q2 q3 : Nat} {xs bs : List Nat} (hneg : 9223372036854775808 ≤ q3) (hq : q0 < 18446744073709551616 ∧ q1 < 18446744073709551616 ∧ q2 < 18446744073709551616 ∧ q3 < 18446744073709551616) (hva : nval bs = 115792089237316195423570985008687907853269984665640564039457584007913129639936 - nval [q0, q1, q2, q3]) (hvx : nval xs = nval bs) : swv [q0, q1, q2, q3] < 0 ∧ nval xs = Int.natAbs (swv [q0, q1, q2, q3]) ∧ 0 < nval xs := by
 have h1 := nval4_lt hq
 rw [swv4, if_pos hneg]
 omega
theorem big256p {q0 q1 q2 q3 : Nat} {xs : List Nat} (hneg : ¬ 9223372036854775808 ≤ q3) (hvx : nval xs = nval [q0, q1, q2, q3]) : ¬ swv [q0, q1, q2, q3] < 0 ∧ nval xs = Int.natAbs (swv [q0, q1, q2, q3]) := by
 rw [swv4, if_neg hneg]
 omega
theorem from128_len {xs : List Nat} (htx : Ntrim xs) (hd : Ndig xs) (hl : nval xs < 2 ^ 127) : xs.length ≤ 2 ∧ (xs.length = 2 → xs.getD 1 0 < 9223372036854775808 ∧ nval xs = xs.getD 0 0 + 18446744073709551616 * xs.getD 1 0) ∧ (xs.length = 1 → nval xs = xs.getD 0 0) := by
 have e127 : 2 ^ 127 = 170141183460469231731687303715884105728 := by decide
 rw [e127] at hl
 match xs, htx, hd, hl with
 | [], _, _, _ => exact ⟨by decide, fun h => by simp at h, fun h => by simp at h⟩
 | [a], _, _, _ => exact ⟨by simp, fun h => by simp at h, fun _ => by simp [nval]⟩
 | [a, b], _, _, hl => refine ⟨by simp, fun _ => ?_, fun h => by simp at h⟩; simp only [nval] at hl ⊢; simp only [List.getD_cons_zero, List.getD_cons_succ]; omega
 | a :: b :: c :: r, htx, hd, hl =>
  exfalso
  have h1 := ntrim_ge htx (by simp)
  have h2 : pn 2 ≤ pn ((a :: b :: c :: r).length - 1) := pn_le (by simp)
  have h3 : pn 2 = 340282366920938463463374607431768211456 := by decide
  omega
theorem from128_neg {l l2 : Nat} {hi hi2 : Int} {n : Nat} (hn : (n : Int) = (l : Int) + 18446744073709551616 * hi) (hpos : 0 < n) (hlim : n < 2 ^ 127) (h2 : l2 < 18446744073709551616) (h3 : -9223372036854775808 ≤ hi2) (h4 : hi2 ≤ 9223372036854775807)
  (hv : (l2 : Int) + 18446744073709551616 * (hi2 % 18446744073709551616) = (-((l : Int) + 18446744073709551616 * hi)) % 340282366920938463463374607431768211456) : (l2 : Int) + 18446744073709551616 * hi2 = -(n : Int) := by
 have e127 : 2 ^ 127 = 170141183460469231731687303715884105728 := by decide
 rw [e127] at hlim
 rw [← hn] at hv
 omega
def FromI (xs : List Nat) (i a0 a1 a2 a3 : Nat) : Prop :=
 (0 < i → a0 = xs.getD 0 0) ∧ (i ≤ 0 → a0 = 0) ∧ (1 < i → a1 = xs.getD 1 0) ∧ (i ≤ 1 → a1 = 0) ∧ (2 < i → a2 = xs.getD 2 0) ∧ (i ≤ 2 → a2 = 0) ∧ (3 < i → a3 = xs.getD 3 0) ∧ (i ≤ 3 → a3 = 0)
theorem getD_over {xs : List Nat} {j : Nat} (h : xs.length ≤ j) : xs.getD j 0 = 0 := by
 rw [List.getD_eq_getElem?_getD, List.getElem?_eq_none h]; rfl
theorem fromI_end {xs : List Nat} {i a0 a1 a2 a3 : Nat} (h : FromI xs i a0 a1 a2 a3) (hi : i = xs.length) (hl : xs.length ≤ 4) (hd : Ndig xs) : (a0 < 18446744073709551616 ∧ a1 < 18446744073709551616 ∧ a2 < 18446744073709551616 ∧ a3 < 18446744073709551616) ∧ nval [a0, a1, a2, a3] = nval xs := by
 obtain ⟨h0, k0, h1, k1, h2, k2, h3, k3⟩ := h
 have d0 := ndig_get hd 0
 have d1 := ndig_get hd 1
 have d2 := ndig_get hd 2
 have d3 := ndig_get hd 3
 refine ⟨by omega, ?_⟩
 have e0 : a0 = xs.getD 0 0 := by rcases Nat.lt_or_ge 0 i with h | h; exact h0 h; rw [k0 h, getD_over (by omega)]
 have e1 : a1 = xs.getD 1 0 := by rcases Nat.lt_or_ge 1 i with h | h; exact h1 h; rw [k1 h, getD_over (by omega)]
 have e2 : a2 = xs.getD 2 0 := by rcases Nat.lt_or_ge 2 i with h | h; exact h2 h; rw [k2 h, getD_over (by omega)]
 have e3 : a3 = xs.getD 3 0 := by rcases Nat.lt_or_ge 3 i with h | h; exact h3 h; rw [k3 h, getD_over (by omega)]
 rw [e0, e1, e2, e3]
 match xs, hl with
 | [], _ => simp [nval]
 | [a], _ => simp [nval]
 | [a, b], _ => simp [nval]
 | [a, b, c], _ => simp [nval]
 | [a, b, c, d], _ => simp [nval]
 | a :: b :: c :: d :: f :: r, hl => simp at hl
theorem swv4_of {q0 q1 q2 q3 : Nat} (hq : q0 < 18446744073709551616 ∧ q1 < 18446744073709551616 ∧ q2 < 18446744073709551616 ∧ q3 < 18446744073709551616) {n : Nat} (hlim : n < 2 ^ 255) : (nval [q0, q1, q2, q3] = n → swv [q0, q1, q2, q3] = (n : Int)) ∧ (0 < n → nval [q0, q1, q2, q3] = 115792089237316195423570985008687907853269984665640564039457584007913129639936 - n → swv [q0, q1, q2, q3] = -(n : Int)) := by
 have e255 : 2 ^ 255 = 57896044618658097711785492504343953926634992332820282019728792003956564819968 := by decide
 rw [e255] at hlim
 rw [swv4]
 have h := nval4_lt hq
 simp only [nval] at h ⊢
 constructor
 ·
  intro he
  split <;> omega
 ·
  intro h0 he
  split <;> omega
theorem trim_len {rs : List Nat} {m : Nat} (h : Ntrim rs) (hv : nval rs < pn m) : rs.length ≤ m := by
 rcases Nat.lt_or_ge m rs.length with h1 | h1
 ·
  exfalso
  have h2 := ntrim_ge h (fun h_ => by rw [h_] at h1; simp at h1)
  have h3 : pn m ≤ pn (rs.length - 1) := pn_le (by omega)
  omega
 · exact h1
theorem new256_spec {w : World} {C : Nat → Prop} (a b c d : Int) :
    Calls P 34 #[.int .u64 a, .int .u64 b, .int .u64 c, .int .u64 d] w fun ex w' => ex = .returned (.agg #[.int .u64 d, .int .u64 c, .int .u64 b, .int .u64 a]) ∧ KS w w' := by
 refine dN (C := C) [.v (.int .u64 a), .v (.int .u64 b), .v (.int .u64 c), .v (.int .u64 d)] 15 4 Tryz.func34 fun a_ hI hR hB => ?_
 replace hI : Is 15 [] e0 [(0, .v (.int .u64 a)), (1, .v (.int .u64 b)), (2, .v (.int .u64 c)), (3, .v (.int .u64 d))] a_ := hI
 refine rK tab 0 [] [] [(8, .p 0 0)] [0, 1, 2, 3] [⟨0, 50, [.v (.int .u64 0), .v (.int .u64 0), .v (.int .u64 0), .v (.int .u64 0)]⟩] [] [] [] 1 hR hI .nil fun e1 a1 w1 hag hR hI => ?_
 refine rK tab 1 [] [] [] [8] [⟨0, 50, [.v (.int .u64 d), .v (.int .u64 c), .v (.int .u64 b), .v (.int .u64 a)]⟩] [] [] [] 1 hR hI .nil fun e2 a2 w2 hag hR hI => ?_
 refine wp_ret (oN tab [.agg [.v (.int .u64 d), .v (.int .u64 c), .v (.int .u64 b), .v (.int .u64 a)]] hR hI ?_)
 exact ⟨rfl, hB.fin hR⟩

theorem array_spec {w : World} {C : Nat → Prop} (q0 q1 q2 q3 : Nat) :
    Calls P 42 #[.agg #[.int .u64 (q0 : Int), .int .u64 (q1 : Int), .int .u64 (q2 : Int), .int .u64 (q3 : Int)]] w fun ex w' => ex = .returned (.agg #[.int .u64 (q0 : Int), .int .u64 (q1 : Int), .int .u64 (q2 : Int), .int .u64 (q3 : Int)]) ∧ KS w w' := by
 refine dN (C := C) [.v (.agg #[.int .u64 (q0 : Int), .int .u64 (q1 : Int), .int .u64 (q2 : Int), .int .u64 (q3 : Int)])] 5 1 Tryz.func42 fun a_ hI hR hB => ?_
 replace hI : Is 5 [] e0 [(0, .v (.agg #[.int .u64 (q0 : Int), .int .u64 (q1 : Int), .int .u64 (q2 : Int), .int .u64 (q3 : Int)]))] a_ := hI
 refine rK tab 0 [] [] [(2, .p 1 0), (1, .p 0 0)] [] [⟨1, 48, [.v (.int .u64 0), .v (.int .u64 0), .v (.int .u64 0), .v (.int .u64 0)]⟩, ⟨0, 50, [vU q0, vU q1, vU q2, vU q3]⟩] [] [] [] 2 hR hI .nil fun e1 a1 w1 hag hR hI => ?_
 refine rK tab 2 [] [] [] [2] [⟨1, 48, [vU q0, vU q1, vU q2, vU q3]⟩] [] [] [] 2 hR hI .nil fun e2 a2 w2 hag hR hI => ?_
 refine wp_ret (oN tab [.agg [vU q0, vU q1, vU q2, vU q3]] hR hI ?_)
 exact ⟨rfl, hB.fin hR⟩

theorem sign128_spec {w : World} {C : Nat → Prop} {l : Nat} {hi : Int} (h1 : -9223372036854775808 ≤ hi) (h2 : hi ≤ 9223372036854775807) :
    Calls P 50 #[.agg #[.int .u64 (l : Int), .int .i64 hi]] w fun ex w' => ∃ z : Int, ex = .returned (.int .i64 z) ∧ KS w w' ∧ (z < 0 ↔ hi < 0) := by
 refine dN (C := C) [.v (.agg #[.int .u64 (l : Int), .int .i64 hi])] 10 1 Tryz.func50 fun a_ hI hR hB => ?_
 replace hI : Is 10 [] e0 [(0, .v (.agg #[.int .u64 (l : Int), .int .i64 hi]))] a_ := hI
 refine rK tab 0 [] [] [(1, .p 0 0)] [] [⟨0, 47, [vU l, .v (.int .i64 hi)]⟩] [] [] [] 1 hR hI .nil fun e1 a1 w1 hag hR hI => ?_
 refine wp_seq ?_
 refine wp_seq (reg (is := [0, 1, 2]) (by kernel_rfl) ?_)
 refine pZ tab [0, 1] [2] 1 [(4, .agg [.v (.int .u64 0), .v (.int .i64 0)]), (3, .agg [vU l, .v (.int .i64 hi)])] [1] hR hI fun e2 a2 w2 hag hR hI => ?_
 refine rawOp (x := vB (((l : Int) == (0 : Int)) && (hi == (0 : Int)))) hI rfl rfl (by kernel_rfl) (fun ev hev => eq47 (x := .tmp 3) (y := .tmp 4) rfl (hev (.tmp 3) _ rfl) (hev (.tmp 4) _ rfl)) (fun a3 hI => ?_)
 replace hI := hI.sl [5, 4, 3, 1] rfl
 refine ops_nil (then_n ?_)
 refine cnd (b := (((l : Int) == (0 : Int)) && (hi == (0 : Int)))) hI (by kernel_rfl) (fun hc4 => ?_) (fun hc4 => ?_)
 ·
  replace hI := hI.rb 5 hc4
  try simp only [tolds] at hc4
  refine rK tab 1 [] [] [(2, .v (.int .i64 0))] [] [] [] [] [] 1 hR hI .nil fun e5 a5 w5 hag hR hI => ?_
  refine wp_ret ?_
  refine ret_then ?_
  refine oN tab [.v (.int .i64 0)] hR hI ?_
  exact ⟨_, rfl, hB.fin hR, by omega⟩
 ·
  replace hI := hI.rb 5 hc4
  try simp only [tolds] at hc4
  refine wp_skip ?_
  refine then_n ?_
  refine rK tab 1 [] [] [(2, .v (.int .i64 (bits .or .i64 (1 : Int) (hi / 9223372036854775808))))] [] [] [] [] [] 1 hR hI (.cons (by decide : (0 : Int) ≤ 63) (.cons (by decide : (63 : Int) ≤ (IntKind.i64.bits : Int)) .nil)) fun e6 a6 w6 hag hR hI => ?_
  refine wp_ret (oN tab [.v (.int .i64 (bits .or .i64 (1 : Int) (hi / 9223372036854775808)))] hR hI ?_)
  exact ⟨_, rfl, hB.fin hR, sign_or h1 h2⟩

theorem sign256_spec {w : World} {C : Nat → Prop} {q0 q1 q2 q3 : Nat} (hq : q0 < 18446744073709551616 ∧ q1 < 18446744073709551616 ∧ q2 < 18446744073709551616 ∧ q3 < 18446744073709551616) :
    Calls P 58 #[.agg #[.int .u64 (q0 : Int), .int .u64 (q1 : Int), .int .u64 (q2 : Int), .int .u64 (q3 : Int)]] w fun ex w' => ∃ z : Int, ex = .returned (.int .i64 z) ∧ KS w w' ∧ (z < 0 ↔ 9223372036854775808 ≤ q3) := by
 refine dN (C := C) [.v (.agg #[.int .u64 (q0 : Int), .int .u64 (q1 : Int), .int .u64 (q2 : Int), .int .u64 (q3 : Int)])] 12 1 Tryz.func58 fun a_ hI hR hB => ?_
 replace hI : Is 12 [] e0 [(0, .v (.agg #[.int .u64 (q0 : Int), .int .u64 (q1 : Int), .int .u64 (q2 : Int), .int .u64 (q3 : Int)]))] a_ := hI
 refine rK tab 0 [] [] [(1, .p 0 0)] [] [⟨0, 50, [vU q0, vU q1, vU q2, vU q3]⟩] [] [] [] 1 hR hI .nil fun e1 a1 w1 hag hR hI => ?_
 refine wp_seq ?_
 refine wp_seq (reg (is := [0, 1, 2]) (by kernel_rfl) ?_)
 refine pZ tab [0, 1] [2] 1 [(4, .agg [.v (.int .u64 0), .v (.int .u64 0), .v (.int .u64 0), .v (.int .u64 0)]), (3, .agg [vU q0, vU q1, vU q2, vU q3])] [1] hR hI fun e2 a2 w2 hag hR hI => ?_
 refine rawOp (x := vB (((q0 : Int) == (0 : Int)) && (((q1 : Int) == (0 : Int)) && (((q2 : Int) == (0 : Int)) && ((q3 : Int) == (0 : Int)))))) hI rfl rfl (by kernel_rfl) (fun ev hev => eq50 (x := .tmp 3) (y := .tmp 4) rfl (hev (.tmp 3) _ rfl) (hev (.tmp 4) _ rfl)) (fun a3 hI => ?_)
 replace hI := hI.sl [5, 4, 3, 1] rfl
 refine ops_nil (then_n ?_)
 refine cnd (b := (((q0 : Int) == (0 : Int)) && (((q1 : Int) == (0 : Int)) && (((q2 : Int) == (0 : Int)) && ((q3 : Int) == (0 : Int)))))) hI (by kernel_rfl) (fun hc4 => ?_) (fun hc4 => ?_)
 ·
  replace hI := hI.rb 5 hc4
  try simp only [tolds] at hc4
  refine rK tab 1 [] [] [(2, .v (.int .i64 0))] [] [] [] [] [] 1 hR hI .nil fun e5 a5 w5 hag hR hI => ?_
  refine wp_ret ?_
  refine ret_then ?_
  refine oN tab [.v (.int .i64 0)] hR hI ?_
  exact ⟨_, rfl, hB.fin hR, by omega⟩
 ·
  replace hI := hI.rb 5 hc4
  try simp only [tolds] at hc4
  refine wp_skip ?_
  refine then_n ?_
  refine rK tab 1 [] [] [(2, .v (.int .i64 (bits .or .i64 (1 : Int) ((IntKind.i64.wrap (q3 : Int)) / 9223372036854775808))))] [] [] [] [] [] 1 hR hI (.cons (by omega : (0 : Int) ≤ (3 : Int) ∧ (3 : Int) < (4 : Int)) (.cons (by decide : (0 : Int) ≤ 63) (.cons (by decide : (63 : Int) ≤ (IntKind.i64.bits : Int)) .nil))) fun e6 a6 w6 hag hR hI => ?_
  refine wp_ret (oN tab [.v (.int .i64 (bits .or .i64 (1 : Int) ((IntKind.i64.wrap (q3 : Int)) / 9223372036854775808)))] hR hI ?_)
  exact ⟨_, rfl, hB.fin hR, (sign_or (i64_in _).1 (i64_in _).2).trans (by rw [IntKind.wrap_i64]; omega)⟩

theorem neg128_spec {w : World} {C : Nat → Prop} {l : Nat} {hi : Int} (hl : l < 18446744073709551616) (h1 : -9223372036854775808 ≤ hi) (h2 : hi ≤ 9223372036854775807) :
    Calls P 52 #[.agg #[.int .u64 (l : Int), .int .i64 hi]] w fun ex w' => ∃ (l2 : Nat) (hi2 : Int), ex = .returned (.agg #[.int .u64 (l2 : Int), .int .i64 hi2]) ∧ KS w w' ∧ l2 < 18446744073709551616 ∧ -9223372036854775808 ≤ hi2 ∧ hi2 ≤ 9223372036854775807 ∧ (l2 : Int) + 18446744073709551616 * (hi2 % 18446744073709551616) = (-((l : Int) + 18446744073709551616 * hi)) % 340282366920938463463374607431768211456 := by
 refine dN (C := C) [.v (.agg #[.int .u64 (l : Int), .int .i64 hi])] 20 1 Tryz.func52 fun a_ hI hR hB => ?_
 replace hI : Is 20 [] e0 [(0, .v (.agg #[.int .u64 (l : Int), .int .i64 hi]))] a_ := hI
 refine rK tab 0 [] [] [(2, .p 1 0), (1, .p 0 0)] [] [⟨1, 47, [.v (.int .u64 0), .v (.int .i64 0)]⟩, ⟨0, 47, [vU l, .v (.int .i64 hi)]⟩] [] [] [] 2 hR hI .nil fun e1 a1 w1 hag hR hI => ?_
 refine rK tab 2 [(2, .eq (.int .u64 ((18446744073709551615 - l : Nat) : Int))), (3, .eq (.int .u64 (((18446744073709551616 - l) % 18446744073709551616 : Nat) : Int)))] [] [] [2, 1] [⟨0, 47, [vU ((18446744073709551616 - l) % 18446744073709551616), .v (.int .i64 hi)]⟩] [1] [] [] 2 hR hI (.cons (congrArg (Value.int .u64) (u64_not _ hl : bits .xor .u64 18446744073709551615 (l : Int) = ((18446744073709551615 - l : Nat) : Int))) (.cons (congrArg (Value.int .u64) (by rw [wrap_u64]; omega : IntKind.u64.wrap (((18446744073709551615 - l : Nat) : Int) + (1 : Int)) = (((18446744073709551616 - l) % 18446744073709551616 : Nat) : Int))) .nil)) fun e2 a2 w2 hag hR hI => ?_
 refine rK tab 2 [(2, .eq (.int .i64 (-1 - hi)))] [] [] [2, 1] [⟨0, 47, [vU ((18446744073709551616 - l) % 18446744073709551616), .v (.int .i64 (-1 - hi))]⟩] [1] [] [] 2 hR hI (.cons (congrArg (Value.int .i64) (i64_not hi h1 h2 : bits .xor .i64 (-1) hi = (-1 - hi))) .nil) fun e3 a3 w3 hag hR hI => ?_
 refine wp_seq ?_
 refine rZ tab 2 [(14, vB ((((18446744073709551616 - l) % 18446744073709551616 : Nat) : Int) == (0 : Int)))] [2, 1] hR hI fun e4 a4 w4 hag hR hI => ?_
 refine cnd (b := ((((18446744073709551616 - l) % 18446744073709551616 : Nat) : Int) == (0 : Int))) hI (by kernel_rfl) (fun hc5 => ?_) (fun hc5 => ?_)
 ·
  replace hI := hI.rb 14 hc5
  try simp only [tolds] at hc5
  have hz := hc5
  refine aK tab 2 [(2, .eq (.int .i64 (IntKind.i64.wrap (-1 - hi + 1))))] [] [] [2, 1] [⟨0, 47, [vU ((18446744073709551616 - l) % 18446744073709551616), .v (.int .i64 (IntKind.i64.wrap (-1 - hi + 1)))]⟩] [1] [] [] 2 hR hI (.cons (congrArg (Value.int .i64) (rfl : IntKind.i64.wrap ((-1 - hi) + (1 : Int)) = (IntKind.i64.wrap (-1 - hi + 1)))) .nil) fun e6 a6 w6 hag hR hI => ?_
  refine then_n ?_
  refine rK tab 2 [] [] [] [2] [⟨1, 47, [vU ((18446744073709551616 - l) % 18446744073709551616), .v (.int .i64 (IntKind.i64.wrap (-1 - hi + 1)))]⟩] [] [] [] 2 hR hI .nil fun e7 a7 w7 hag hR hI => ?_
  refine wp_ret (oN tab [.agg [vU ((18446744073709551616 - l) % 18446744073709551616), .v (.int .i64 (IntKind.i64.wrap (-1 - hi + 1)))]] hR hI ?_)
  exact ⟨(18446744073709551616 - l) % 18446744073709551616, IntKind.i64.wrap (-1 - hi + 1), rfl, hB.fin hR, by omega, neg128_of hl h1 h2 (by rw [if_pos (by omega)])⟩
 ·
  replace hI := hI.rb 14 hc5
  try simp only [tolds] at hc5
  have hz := hc5
  refine wp_skip ?_
  refine then_n ?_
  refine rK tab 2 [] [] [] [2] [⟨1, 47, [vU ((18446744073709551616 - l) % 18446744073709551616), .v (.int .i64 (-1 - hi))]⟩] [] [] [] 2 hR hI .nil fun e8 a8 w8 hag hR hI => ?_
  refine wp_ret (oN tab [.agg [vU ((18446744073709551616 - l) % 18446744073709551616), .v (.int .i64 (-1 - hi))]] hR hI ?_)
  exact ⟨(18446744073709551616 - l) % 18446744073709551616, -1 - hi, rfl, hB.fin hR, by omega, neg128_of hl h1 h2 (by rw [if_neg (by omega)])⟩

theorem neg256_spec {w : World} {C : Nat → Prop} {q0 q1 q2 q3 : Nat} (hq : q0 < 18446744073709551616 ∧ q1 < 18446744073709551616 ∧ q2 < 18446744073709551616 ∧ q3 < 18446744073709551616) (hpos : 0 < nval [q0, q1, q2, q3]) :
    Calls P 60 #[.agg #[.int .u64 (q0 : Int), .int .u64 (q1 : Int), .int .u64 (q2 : Int), .int .u64 (q3 : Int)]] w fun ex w' => ∃ a0 a1 a2 a3 : Nat, ex = .returned (.agg #[.int .u64 (a0 : Int), .int .u64 (a1 : Int), .int .u64 (a2 : Int), .int .u64 (a3 : Int)]) ∧ KS w w' ∧ (a0 < 18446744073709551616 ∧ a1 < 18446744073709551616 ∧ a2 < 18446744073709551616 ∧ a3 < 18446744073709551616) ∧ nval [a0, a1, a2, a3] = 115792089237316195423570985008687907853269984665640564039457584007913129639936 - nval [q0, q1, q2, q3] := by
 refine dN (C := C) [.v (.agg #[.int .u64 (q0 : Int), .int .u64 (q1 : Int), .int .u64 (q2 : Int), .int .u64 (q3 : Int)])] 25 1 Tryz.func60 fun a_ hI hR hB => ?_
 replace hI : Is 25 [] e0 [(0, .v (.agg #[.int .u64 (q0 : Int), .int .u64 (q1 : Int), .int .u64 (q2 : Int), .int .u64 (q3 : Int)]))] a_ := hI
 refine rK tab 0 [] [] [(2, .p 1 0), (1, .p 0 0)] [] [⟨1, 50, [.v (.int .u64 0), .v (.int .u64 0), .v (.int .u64 0), .v (.int .u64 0)]⟩, ⟨0, 50, [vU q0, vU q1, vU q2, vU q3]⟩] [] [] [] 2 hR hI .nil fun e1 a1 w1 hag hR hI => ?_
 refine rZ tab 2 [(3, .v (.int .u64 1))] [2, 1] hR hI fun e2 a2 w2 hag hR hI => ?_
 refine wp_seq ?_
 refine rZ tab 2 [(5, .v (.int .i64 0))] [3, 2, 1] hR hI fun e3 a3 w3 hag hR hI => ?_
 refine wp_block ?_
 refine lp (γ := Nat × Nat × Nat × Nat × Nat × Nat) (fun (i, c, a0, a1, a2, a3) => (⟨[(1, .p 0 0), (2, .p 1 0), (3, vU c), (5, vI i)], [⟨0, 50, [vU a0, vU a1, vU a2, vU a3]⟩, ⟨1, 50, [.v (.int .u64 0), .v (.int .u64 0), .v (.int .u64 0), .v (.int .u64 0)]⟩], [], 2⟩ : Sy)) (fun (i, c, a0, a1, a2, a3) e => i ≤ 4 ∧ NegI i c q0 q1 q2 q3 a0 a1 a2 a3) (fun (i, c, a0, a1, a2, a3) => 4 - i) (0, 1, q0, q1, q2, q3) (⟨by decide, negI_start hq⟩)
   (hR.sel [0, 1] [] (by kernel_rfl) (by kernel_rfl)) (hI.sel [1, 2, 3, 5] (by kernel_rfl)) ?_
 clear hR hI
 rintro ⟨i, c, a0, a1, a2, a3⟩ e4 a4 w4 hp hR hI
 dsimp only at hp hR hI
 obtain ⟨hi4, hp⟩ := hp
 have hpc := hp.1; obtain ⟨hpa0, hpa1, hpa2, hpa3⟩ := (⟨hp.2.1, hp.2.2.1, hp.2.2.2.1, hp.2.2.2.2.1⟩ : a0 < 18446744073709551616 ∧ a1 < 18446744073709551616 ∧ a2 < 18446744073709551616 ∧ a3 < 18446744073709551616)
 have hi_ : i = 0 ∨ i = 1 ∨ i = 2 ∨ i = 3 ∨ i = 4 := by omega
 rcases hi_ with rfl | rfl | rfl | rfl | rfl
 ·
  replace hI := hI.re 5 (.v (.int .i64 0)) rfl (congrArg (Value.int .i64) (rfl))
  refine rZ tab 2 [(6, vB true)] [5, 1, 2, 3] hR hI fun e5 a5 w5 hag hR hI => ?_
  refine wp_seq ?_
  refine cnd_t hI (by kernel_rfl) ?_
  refine wp_skip ?_
  refine then_n ?_
  refine wp_seq ?_
  refine wp_block ?_
  refine rZ tab 2 [(4, .v (.int .i64 0))] [5, 1, 2, 3] hR hI fun e6 a6 w6 hag hR hI => ?_
  refine rK tab 2 [(5, .eq (.int .u64 ((18446744073709551615 - a0 : Nat) : Int))), (7, .eq (.int .u64 (((18446744073709551615 - a0 + c) % 18446744073709551616 : Nat) : Int)))] [] [] [4, 5, 1, 2, 3] [⟨0, 50, [vU ((18446744073709551615 - a0 + c) % 18446744073709551616), vU a1, vU a2, vU a3]⟩] [1] [] [] 2 hR hI (.cons (by omega : (0 : Int) ≤ (0 : Int) ∧ (0 : Int) < (4 : Int)) (.cons (congrArg (Value.int .u64) (u64_not _ hpa0 : bits .xor .u64 18446744073709551615 (a0 : Int) = ((18446744073709551615 - a0 : Nat) : Int))) (.cons (congrArg (Value.int .u64) (by rw [wrap_u64]; omega : IntKind.u64.wrap (((18446744073709551615 - a0 : Nat) : Int) + (c : Int)) = (((18446744073709551615 - a0 + c) % 18446744073709551616 : Nat) : Int))) (.cons (by omega : (0 : Int) ≤ (0 : Int) ∧ (0 : Int) < (4 : Int)) .nil)))) fun e7 a7 w7 hag hR hI => ?_
  refine rK tab 2 [] [] [(22, vB ((((18446744073709551615 - a0 + c) % 18446744073709551616 : Nat) : Int) != (0 : Int)))] [5, 1, 2, 3] [] [0, 1] [] [] 2 hR hI (.cons (by omega : (0 : Int) ≤ (0 : Int) ∧ (0 : Int) < (4 : Int)) .nil) fun e8 a8 w8 hag hR hI => ?_
  refine cnd (b := ((((18446744073709551615 - a0 + c) % 18446744073709551616 : Nat) : Int) != (0 : Int))) hI (by kernel_rfl) (fun hc9 => ?_) (fun hc9 => ?_)
  ·
   replace hI := hI.rb 22 hc9
   try simp only [tolds] at hc9
   refine aZ tab 2 [(3, .v (.int .u64 0))] [5, 1, 2] hR hI fun e10 a10 w10 hag hR hI => ?_
   refine normal_block ?_
   refine then_n ?_
   refine aK tab 2 [(0, .eq (.int .i64 1))] [] [(5, .v (.int .i64 1))] [3, 1, 2] [] [0, 1] [] [] 2 hR hI (.cons (congrArg (Value.int .i64) (by decide : IntKind.i64.wrap ((0 : Int) + (1 : Int)) = 1)) .nil) fun e11 a11 w11 hag hR hI => ?_
   refine then_n ?_
   exact ⟨(1, 0, (18446744073709551615 - a0 + c) % 18446744073709551616, a1, a2, a3), e11, ⟨by decide, negI_0 hp (by omega) (by omega) (by omega)⟩, by dsimp only; omega, hR.sel [0, 1] [] (by kernel_rfl) (by kernel_rfl), hI.sel [1, 2, 3, 5] (by kernel_rfl)⟩
  ·
   replace hI := hI.rb 22 hc9
   try simp only [tolds] at hc9
   refine wp_skip ?_
   refine normal_block ?_
   refine then_n ?_
   refine aK tab 2 [(0, .eq (.int .i64 1))] [] [(5, .v (.int .i64 1))] [1, 2, 3] [] [0, 1] [] [] 2 hR hI (.cons (congrArg (Value.int .i64) (by decide : IntKind.i64.wrap ((0 : Int) + (1 : Int)) = 1)) .nil) fun e12 a12 w12 hag hR hI => ?_
   refine then_n ?_
   exact ⟨(1, c, (18446744073709551615 - a0 + c) % 18446744073709551616, a1, a2, a3), e12, ⟨by decide, negI_0 hp (by omega) (by omega) (by omega)⟩, by dsimp only; omega, hR.sel [0, 1] [] (by kernel_rfl) (by kernel_rfl), hI.sel [1, 2, 3, 5] (by kernel_rfl)⟩
 ·
  replace hI := hI.re 5 (.v (.int .i64 1)) rfl (congrArg (Value.int .i64) (rfl))
  refine rZ tab 2 [(6, vB true)] [5, 1, 2, 3] hR hI fun e13 a13 w13 hag hR hI => ?_
  refine wp_seq ?_
  refine cnd_t hI (by kernel_rfl) ?_
  refine wp_skip ?_
  refine then_n ?_
  refine wp_seq ?_
  refine wp_block ?_
  refine rZ tab 2 [(4, .v (.int .i64 1))] [5, 1, 2, 3] hR hI fun e14 a14 w14 hag hR hI => ?_
  refine rK tab 2 [(5, .eq (.int .u64 ((18446744073709551615 - a1 : Nat) : Int))), (7, .eq (.int .u64 (((18446744073709551615 - a1 + c) % 18446744073709551616 : Nat) : Int)))] [] [] [4, 5, 1, 2, 3] [⟨0, 50, [vU a0, vU ((18446744073709551615 - a1 + c) % 18446744073709551616), vU a2, vU a3]⟩] [1] [] [] 2 hR hI (.cons (by omega : (0 : Int) ≤ (1 : Int) ∧ (1 : Int) < (4 : Int)) (.cons (congrArg (Value.int .u64) (u64_not _ hpa1 : bits .xor .u64 18446744073709551615 (a1 : Int) = ((18446744073709551615 - a1 : Nat) : Int))) (.cons (congrArg (Value.int .u64) (by rw [wrap_u64]; omega : IntKind.u64.wrap (((18446744073709551615 - a1 : Nat) : Int) + (c : Int)) = (((18446744073709551615 - a1 + c) % 18446744073709551616 : Nat) : Int))) (.cons (by omega : (0 : Int) ≤ (1 : Int) ∧ (1 : Int) < (4 : Int)) .nil)))) fun e15 a15 w15 hag hR hI => ?_
  refine rK tab 2 [] [] [(22, vB ((((18446744073709551615 - a1 + c) % 18446744073709551616 : Nat) : Int) != (0 : Int)))] [5, 1, 2, 3] [] [0, 1] [] [] 2 hR hI (.cons (by omega : (0 : Int) ≤ (1 : Int) ∧ (1 : Int) < (4 : Int)) .nil) fun e16 a16 w16 hag hR hI => ?_
  refine cnd (b := ((((18446744073709551615 - a1 + c) % 18446744073709551616 : Nat) : Int) != (0 : Int))) hI (by kernel_rfl) (fun hc17 => ?_) (fun hc17 => ?_)
  ·
   replace hI := hI.rb 22 hc17
   try simp only [tolds] at hc17
   refine aZ tab 2 [(3, .v (.int .u64 0))] [5, 1, 2] hR hI fun e18 a18 w18 hag hR hI => ?_
   refine normal_block ?_
   refine then_n ?_
   refine aK tab 2 [(0, .eq (.int .i64 2))] [] [(5, .v (.int .i64 2))] [3, 1, 2] [] [0, 1] [] [] 2 hR hI (.cons (congrArg (Value.int .i64) (by decide : IntKind.i64.wrap ((1 : Int) + (1 : Int)) = 2)) .nil) fun e19 a19 w19 hag hR hI => ?_
   refine then_n ?_
   exact ⟨(2, 0, a0, (18446744073709551615 - a1 + c) % 18446744073709551616, a2, a3), e19, ⟨by decide, negI_1 hp (by omega) (by omega) (by omega)⟩, by dsimp only; omega, hR.sel [0, 1] [] (by kernel_rfl) (by kernel_rfl), hI.sel [1, 2, 3, 5] (by kernel_rfl)⟩
  ·
   replace hI := hI.rb 22 hc17
   try simp only [tolds] at hc17
   refine wp_skip ?_
   refine normal_block ?_
   refine then_n ?_
   refine aK tab 2 [(0, .eq (.int .i64 2))] [] [(5, .v (.int .i64 2))] [1, 2, 3] [] [0, 1] [] [] 2 hR hI (.cons (congrArg (Value.int .i64) (by decide : IntKind.i64.wrap ((1 : Int) + (1 : Int)) = 2)) .nil) fun e20 a20 w20 hag hR hI => ?_
   refine then_n ?_
   exact ⟨(2, c, a0, (18446744073709551615 - a1 + c) % 18446744073709551616, a2, a3), e20, ⟨by decide, negI_1 hp (by omega) (by omega) (by omega)⟩, by dsimp only; omega, hR.sel [0, 1] [] (by kernel_rfl) (by kernel_rfl), hI.sel [1, 2, 3, 5] (by kernel_rfl)⟩
 ·
  replace hI := hI.re 5 (.v (.int .i64 2)) rfl (congrArg (Value.int .i64) (rfl))
  refine rZ tab 2 [(6, vB true)] [5, 1, 2, 3] hR hI fun e21 a21 w21 hag hR hI => ?_
  refine wp_seq ?_
  refine cnd_t hI (by kernel_rfl) ?_
  refine wp_skip ?_
  refine then_n ?_
  refine wp_seq ?_
  refine wp_block ?_
  refine rZ tab 2 [(4, .v (.int .i64 2))] [5, 1, 2, 3] hR hI fun e22 a22 w22 hag hR hI => ?_
  refine rK tab 2 [(5, .eq (.int .u64 ((18446744073709551615 - a2 : Nat) : Int))), (7, .eq (.int .u64 (((18446744073709551615 - a2 + c) % 18446744073709551616 : Nat) : Int)))] [] [] [4, 5, 1, 2, 3] [⟨0, 50, [vU a0, vU a1, vU ((18446744073709551615 - a2 + c) % 18446744073709551616), vU a3]⟩] [1] [] [] 2 hR hI (.cons (by omega : (0 : Int) ≤ (2 : Int) ∧ (2 : Int) < (4 : Int)) (.cons (congrArg (Value.int .u64) (u64_not _ hpa2 : bits .xor .u64 18446744073709551615 (a2 : Int) = ((18446744073709551615 - a2 : Nat) : Int))) (.cons (congrArg (Value.int .u64) (by rw [wrap_u64]; omega : IntKind.u64.wrap (((18446744073709551615 - a2 : Nat) : Int) + (c : Int)) = (((18446744073709551615 - a2 + c) % 18446744073709551616 : Nat) : Int))) (.cons (by omega : (0 : Int) ≤ (2 : Int) ∧ (2 : Int) < (4 : Int)) .nil)))) fun e23 a23 w23 hag hR hI => ?_
  refine rK tab 2 [] [] [(22, vB ((((18446744073709551615 - a2 + c) % 18446744073709551616 : Nat) : Int) != (0 : Int)))] [5, 1, 2, 3] [] [0, 1] [] [] 2 hR hI (.cons (by omega : (0 : Int) ≤ (2 : Int) ∧ (2 : Int) < (4 : Int)) .nil) fun e24 a24 w24 hag hR hI => ?_
  refine cnd (b := ((((18446744073709551615 - a2 + c) % 18446744073709551616 : Nat) : Int) != (0 : Int))) hI (by kernel_rfl) (fun hc25 => ?_) (fun hc25 => ?_)
  ·
   replace hI := hI.rb 22 hc25
   try simp only [tolds] at hc25
   refine aZ tab 2 [(3, .v (.int .u64 0))] [5, 1, 2] hR hI fun e26 a26 w26 hag hR hI => ?_
   refine normal_block ?_
   refine then_n ?_
   refine aK tab 2 [(0, .eq (.int .i64 3))] [] [(5, .v (.int .i64 3))] [3, 1, 2] [] [0, 1] [] [] 2 hR hI (.cons (congrArg (Value.int .i64) (by decide : IntKind.i64.wrap ((2 : Int) + (1 : Int)) = 3)) .nil) fun e27 a27 w27 hag hR hI => ?_
   refine then_n ?_
   exact ⟨(3, 0, a0, a1, (18446744073709551615 - a2 + c) % 18446744073709551616, a3), e27, ⟨by decide, negI_2 hp (by omega) (by omega) (by omega)⟩, by dsimp only; omega, hR.sel [0, 1] [] (by kernel_rfl) (by kernel_rfl), hI.sel [1, 2, 3, 5] (by kernel_rfl)⟩
  ·
   replace hI := hI.rb 22 hc25
   try simp only [tolds] at hc25
   refine wp_skip ?_
   refine normal_block ?_
   refine then_n ?_
   refine aK tab 2 [(0, .eq (.int .i64 3))] [] [(5, .v (.int .i64 3))] [1, 2, 3] [] [0, 1] [] [] 2 hR hI (.cons (congrArg (Value.int .i64) (by decide : IntKind.i64.wrap ((2 : Int) + (1 : Int)) = 3)) .nil) fun e28 a28 w28 hag hR hI => ?_
   refine then_n ?_
   exact ⟨(3, c, a0, a1, (18446744073709551615 - a2 + c) % 18446744073709551616, a3), e28, ⟨by decide, negI_2 hp (by omega) (by omega) (by omega)⟩, by dsimp only; omega, hR.sel [0, 1] [] (by kernel_rfl) (by kernel_rfl), hI.sel [1, 2, 3, 5] (by kernel_rfl)⟩
 ·
  replace hI := hI.re 5 (.v (.int .i64 3)) rfl (congrArg (Value.int .i64) (rfl))
  refine rZ tab 2 [(6, vB true)] [5, 1, 2, 3] hR hI fun e29 a29 w29 hag hR hI => ?_
  refine wp_seq ?_
  refine cnd_t hI (by kernel_rfl) ?_
  refine wp_skip ?_
  refine then_n ?_
  refine wp_seq ?_
  refine wp_block ?_
  refine rZ tab 2 [(4, .v (.int .i64 3))] [5, 1, 2, 3] hR hI fun e30 a30 w30 hag hR hI => ?_
  refine rK tab 2 [(5, .eq (.int .u64 ((18446744073709551615 - a3 : Nat) : Int))), (7, .eq (.int .u64 (((18446744073709551615 - a3 + c) % 18446744073709551616 : Nat) : Int)))] [] [] [4, 5, 1, 2, 3] [⟨0, 50, [vU a0, vU a1, vU a2, vU ((18446744073709551615 - a3 + c) % 18446744073709551616)]⟩] [1] [] [] 2 hR hI (.cons (by omega : (0 : Int) ≤ (3 : Int) ∧ (3 : Int) < (4 : Int)) (.cons (congrArg (Value.int .u64) (u64_not _ hpa3 : bits .xor .u64 18446744073709551615 (a3 : Int) = ((18446744073709551615 - a3 : Nat) : Int))) (.cons (congrArg (Value.int .u64) (by rw [wrap_u64]; omega : IntKind.u64.wrap (((18446744073709551615 - a3 : Nat) : Int) + (c : Int)) = (((18446744073709551615 - a3 + c) % 18446744073709551616 : Nat) : Int))) (.cons (by omega : (0 : Int) ≤ (3 : Int) ∧ (3 : Int) < (4 : Int)) .nil)))) fun e31 a31 w31 hag hR hI => ?_
  refine rK tab 2 [] [] [(22, vB ((((18446744073709551615 - a3 + c) % 18446744073709551616 : Nat) : Int) != (0 : Int)))] [5, 1, 2, 3] [] [0, 1] [] [] 2 hR hI (.cons (by omega : (0 : Int) ≤ (3 : Int) ∧ (3 : Int) < (4 : Int)) .nil) fun e32 a32 w32 hag hR hI => ?_
  refine cnd (b := ((((18446744073709551615 - a3 + c) % 18446744073709551616 : Nat) : Int) != (0 : Int))) hI (by kernel_rfl) (fun hc33 => ?_) (fun hc33 => ?_)
  ·
   replace hI := hI.rb 22 hc33
   try simp only [tolds] at hc33
   refine aZ tab 2 [(3, .v (.int .u64 0))] [5, 1, 2] hR hI fun e34 a34 w34 hag hR hI => ?_
   refine normal_block ?_
   refine then_n ?_
   refine aK tab 2 [(0, .eq (.int .i64 4))] [] [(5, .v (.int .i64 4))] [3, 1, 2] [] [0, 1] [] [] 2 hR hI (.cons (congrArg (Value.int .i64) (by decide : IntKind.i64.wrap ((3 : Int) + (1 : Int)) = 4)) .nil) fun e35 a35 w35 hag hR hI => ?_
   refine then_n ?_
   exact ⟨(4, 0, a0, a1, a2, (18446744073709551615 - a3 + c) % 18446744073709551616), e35, ⟨by decide, negI_3 hp (by omega) (by omega) (by omega)⟩, by dsimp only; omega, hR.sel [0, 1] [] (by kernel_rfl) (by kernel_rfl), hI.sel [1, 2, 3, 5] (by kernel_rfl)⟩
  ·
   replace hI := hI.rb 22 hc33
   try simp only [tolds] at hc33
   refine wp_skip ?_
   refine normal_block ?_
   refine then_n ?_
   refine aK tab 2 [(0, .eq (.int .i64 4))] [] [(5, .v (.int .i64 4))] [1, 2, 3] [] [0, 1] [] [] 2 hR hI (.cons (congrArg (Value.int .i64) (by decide : IntKind.i64.wrap ((3 : Int) + (1 : Int)) = 4)) .nil) fun e36 a36 w36 hag hR hI => ?_
   refine then_n ?_
   exact ⟨(4, c, a0, a1, a2, (18446744073709551615 - a3 + c) % 18446744073709551616), e36, ⟨by decide, negI_3 hp (by omega) (by omega) (by omega)⟩, by dsimp only; omega, hR.sel [0, 1] [] (by kernel_rfl) (by kernel_rfl), hI.sel [1, 2, 3, 5] (by kernel_rfl)⟩
 ·
  replace hI := hI.re 5 (.v (.int .i64 4)) rfl (congrArg (Value.int .i64) (rfl))
  refine rZ tab 2 [(6, vB false)] [5, 1, 2, 3] hR hI fun e37 a37 w37 hag hR hI => ?_
  refine wp_seq ?_
  refine cnd_f hI (by kernel_rfl) ?_
  refine wp_exit ?_
  refine exit_then ?_
  refine exit_then ?_
  refine exit_hit ?_
  refine then_n ?_
  refine rK tab 2 [] [] [] [2] [⟨1, 50, [vU a0, vU a1, vU a2, vU a3]⟩] [] [] [] 2 hR hI .nil fun e38 a38 w38 hag hR hI => ?_
  refine wp_ret (oN tab [.agg [vU a0, vU a1, vU a2, vU a3]] hR hI ?_)
  exact ⟨a0, a1, a2, a3, rfl, hB.fin hR, negI_end hp hpos (nval4_lt hq)⟩

theorem toBig128_spec {w : World} {C : Nat → Prop} {l m : Nat} {hi : Int} (hl : l < 18446744073709551616) (hm : IntKind.u64.wrap hi = (m : Int)) (hmb : m < 18446744073709551616) :
    Calls P 51 #[.agg #[.int .u64 (l : Int), .int .i64 hi]] w fun ex w' => ∃ b g mm : Nat, ex = .returned (.pointer (some ⟨b, 0, none⟩)) ∧ KS w w' ∧ w.heap.size ≤ b ∧ w.heap.size ≤ g ∧ b ≠ g ∧ w'.heap[b]? = some (.cells #[.bool false, .slice (some ⟨g, 0, none⟩) mm 2] 84) ∧ w'.heap[g]? = some (.cells (ints .u64 [l, m]).toArray 102) ∧ mm ≤ 2 ∧ Ntrim ([l, m].take mm) ∧ nval ([l, m].take mm) = nval [l, m] := by
 refine dN (C := C) [.v (.agg #[.int .u64 (l : Int), .int .i64 hi])] 12 1 Tryz.func51 fun a_ hI hR hB => ?_
 replace hI : Is 12 [] e0 [(0, .v (.agg #[.int .u64 (l : Int), .int .i64 hi]))] a_ := hI
 refine rK tab 0 [] [] [(1, .p 0 0)] [] [⟨0, 47, [vU l, .v (.int .i64 hi)]⟩] [] [] [] 1 hR hI .nil fun e1 a1 w1 hag hR hI => ?_
 refine wp_seq (reg (is := [0, 1, 2, 3, 4, 5, 6, 7, 8, 9]) (by kernel_rfl) ?_)
 refine pK tab [0, 1, 2, 3, 4, 5, 6, 7] [8, 9] 1 [(6, .eq (.int .u64 (m : Int)))] [] [(10, .sl 2 0 2 2), (4, .p 1 0)] [] [⟨2, 102, [vU l, vU m]⟩, ⟨1, 84, [vB false, vS none 0 0]⟩] [] [] [] 3 hR hI (.cons (congrArg (Value.int .u64) (hm : IntKind.u64.wrap hi = (m : Int))) .nil) fun e2 a2 w2 hag hR hI => ?_
 refine cO [.p 1 0, .sl 2 0 2 2] hI Tryz.func62 ?_
 have hqw_ := hR.blk ⟨2, 102, [vU l, vU m]⟩ m0; have hgi_ := Nat.le_of_not_lt (hR.blk ⟨1, 84, [vB false, vS none 0 0]⟩ m1).2; have hgw_ := Nat.le_of_not_lt hqw_.2; have hne_ := hR.hh _ m1 _ m0 (by dsimp only; decide)
 dsimp only at hgi_ hgw_ hne_
 have hq1_ := hR.blk ⟨1, 84, [vB false, vS none 0 0]⟩ m1
 refine (isetBits_spec (C := fun x_ => x_ = e2.b 2) (l := 2) (xs := [l, m]) hq1_.1 (fun h_ => hne_ h_) (sl_lit (vs := [l, m]) hqw_.1 (dig2 hl hmb) (c := 2) (Nat.le_refl _) (by decide)) rfl).mono ?_
 rintro ex w3 ⟨mm, rfl, hk, hw1, hmm, htx, hvx⟩
 have hkF_ := hR.keepN hk (all_cons hq1_.2 all_no)
 have hR_ : Rel (Grow _ _ w3) w3 e2 [⟨2, 102, [vU l, vU m]⟩, ⟨1, 84, [vB false, .sl 2 0 mm 2]⟩] [] w3 := hR.turnedN hk (all_cons hq1_.2 all_no) (all_cons ⟨⟨_, m0, rfl⟩, .inl ⟨m0, (notin2 (hR.hh _ m0 _ m1 (by dsimp only; decide)) (fun hm_ => by cases hm_))⟩⟩ (all_cons ⟨⟨_, m1, rfl⟩, .inr hw1⟩ all_no)) all_no
 have hB_ := hB.nextF hR hkF_
 replace hR := hR_; clear hR_
 replace hB := hB_; clear hB_ hk hkF_ hq1_ hw1
 obtain ⟨bI, hbk1⟩ : ∃ b_, e2.b 1 = b_ := ⟨_, rfl⟩; obtain ⟨bW, hbk2⟩ : ∃ b_, e2.b 2 = b_ := ⟨_, rfl⟩; rw [hbk1] at hgi_ hne_; rw [hbk2] at hgw_ hne_
 refine ⟨_, rfl, ?_⟩
 replace hI := hI.pt 11 (.p 1 0) [11, 10, 4]
 refine pZ tab [9] [] 3 [(2, .p 1 0)] [] hR hI fun e4 a4 w4 hag hR hI => ?_
 have hA := hag
 refine ops_nil (then_n ?_)
 refine wp_ret (oN tab [.p 1 0] hR hI ?_)
 replace hbk1 := tb hA hbk1
 replace hbk2 := tb hA hbk2
 have hqi_ := hR.blk ⟨1, 84, [vB false, .sl 2 0 mm 2]⟩ m1; have hqw_ := hR.blk ⟨2, 102, [vU l, vU m]⟩ m0
 exact ⟨bI, bW, mm, by rw [← hbk1]; rfl, hB.fin hR, hgi_, hgw_, hne_, by have h_ := hqi_.1; simp only [dens, den, hbk1, hbk2] at h_; exact h_, by have h_ := hqw_.1; rw [hbk2] at h_; exact h_, hmm, htx, hvx⟩

theorem toBig256_spec {w : World} {C : Nat → Prop} {q0 q1 q2 q3 : Nat} (hq : q0 < 18446744073709551616 ∧ q1 < 18446744073709551616 ∧ q2 < 18446744073709551616 ∧ q3 < 18446744073709551616) :
    Calls P 59 #[.agg #[.int .u64 (q0 : Int), .int .u64 (q1 : Int), .int .u64 (q2 : Int), .int .u64 (q3 : Int)]] w fun ex w' => ∃ b g mm : Nat, ex = .returned (.pointer (some ⟨b, 0, none⟩)) ∧ KS w w' ∧ w.heap.size ≤ b ∧ w.heap.size ≤ g ∧ b ≠ g ∧ w'.heap[b]? = some (.cells #[.bool false, .slice (some ⟨g, 0, none⟩) mm 4] 84) ∧ w'.heap[g]? = some (.cells (ints .u64 [q0, q1, q2, q3]).toArray 102) ∧ mm ≤ 4 ∧ Ntrim ([q0, q1, q2, q3].take mm) ∧ nval ([q0, q1, q2, q3].take mm) = nval [q0, q1, q2, q3] := by
 refine dN (C := C) [.v (.agg #[.int .u64 (q0 : Int), .int .u64 (q1 : Int), .int .u64 (q2 : Int), .int .u64 (q3 : Int)])] 18 1 Tryz.func59 fun a_ hI hR hB => ?_
 replace hI : Is 18 [] e0 [(0, .v (.agg #[.int .u64 (q0 : Int), .int .u64 (q1 : Int), .int .u64 (q2 : Int), .int .u64 (q3 : Int)]))] a_ := hI
 refine rK tab 0 [] [] [(1, .p 0 0)] [] [⟨0, 50, [vU q0, vU q1, vU q2, vU q3]⟩] [] [] [] 1 hR hI .nil fun e1 a1 w1 hag hR hI => ?_
 refine wp_seq (reg (is := [0, 1, 2, 3, 4, 5, 6, 7, 8, 9, 10, 11, 12, 13, 14, 15]) (by kernel_rfl) ?_)
 refine pK tab [0, 1, 2, 3, 4, 5, 6, 7, 8, 9, 10, 11, 12, 13] [14, 15] 1 [] [] [(16, .sl 2 0 4 4), (3, .p 1 0)] [] [⟨2, 102, [vU q0, vU q1, vU q2, vU q3]⟩, ⟨1, 84, [vB false, vS none 0 0]⟩] [] [] [] 3 hR hI (.cons (by omega : (0 : Int) ≤ (0 : Int) ∧ (0 : Int) < (4 : Int)) (.cons (by omega : (0 : Int) ≤ (1 : Int) ∧ (1 : Int) < (4 : Int)) (.cons (by omega : (0 : Int) ≤ (2 : Int) ∧ (2 : Int) < (4 : Int)) (.cons (by omega : (0 : Int) ≤ (3 : Int) ∧ (3 : Int) < (4 : Int)) .nil)))) fun e2 a2 w2 hag hR hI => ?_
 refine cO [.p 1 0, .sl 2 0 4 4] hI Tryz.func62 ?_
 have hqw_ := hR.blk ⟨2, 102, [vU q0, vU q1, vU q2, vU q3]⟩ m0; have hgi_ := Nat.le_of_not_lt (hR.blk ⟨1, 84, [vB false, vS none 0 0]⟩ m1).2; have hgw_ := Nat.le_of_not_lt hqw_.2; have hne_ := hR.hh _ m1 _ m0 (by dsimp only; decide)
 dsimp only at hgi_ hgw_ hne_
 have hq1_ := hR.blk ⟨1, 84, [vB false, vS none 0 0]⟩ m1
 refine (isetBits_spec (C := fun x_ => x_ = e2.b 2) (l := 4) (xs := [q0, q1, q2, q3]) hq1_.1 (fun h_ => hne_ h_) (sl_lit (vs := [q0, q1, q2, q3]) hqw_.1 (dig4 hq) (c := 4) (Nat.le_refl _) (by decide)) rfl).mono ?_
 rintro ex w3 ⟨mm, rfl, hk, hw1, hmm, htx, hvx⟩
 have hkF_ := hR.keepN hk (all_cons hq1_.2 all_no)
 have hR_ : Rel (Grow _ _ w3) w3 e2 [⟨2, 102, [vU q0, vU q1, vU q2, vU q3]⟩, ⟨1, 84, [vB false, .sl 2 0 mm 4]⟩] [] w3 := hR.turnedN hk (all_cons hq1_.2 all_no) (all_cons ⟨⟨_, m0, rfl⟩, .inl ⟨m0, (notin2 (hR.hh _ m0 _ m1 (by dsimp only; decide)) (fun hm_ => by cases hm_))⟩⟩ (all_cons ⟨⟨_, m1, rfl⟩, .inr hw1⟩ all_no)) all_no
 have hB_ := hB.nextF hR hkF_
 replace hR := hR_; clear hR_
 replace hB := hB_; clear hB_ hk hkF_ hq1_ hw1
 obtain ⟨bI, hbk1⟩ : ∃ b_, e2.b 1 = b_ := ⟨_, rfl⟩; obtain ⟨bW, hbk2⟩ : ∃ b_, e2.b 2 = b_ := ⟨_, rfl⟩; rw [hbk1] at hgi_ hne_; rw [hbk2] at hgw_ hne_
 refine ⟨_, rfl, ?_⟩
 replace hI := hI.pt 17 (.p 1 0) [17, 16, 3]
 refine pZ tab [15] [] 3 [(2, .p 1 0)] [] hR hI fun e4 a4 w4 hag hR hI => ?_
 have hA := hag
 refine ops_nil (then_n ?_)
 refine wp_ret (oN tab [.p 1 0] hR hI ?_)
 replace hbk1 := tb hA hbk1
 replace hbk2 := tb hA hbk2
 have hqi_ := hR.blk ⟨1, 84, [vB false, .sl 2 0 mm 4]⟩ m1; have hqw_ := hR.blk ⟨2, 102, [vU q0, vU q1, vU q2, vU q3]⟩ m0
 exact ⟨bI, bW, mm, by rw [← hbk1]; rfl, hB.fin hR, hgi_, hgw_, hne_, by have h_ := hqi_.1; simp only [dens, den, hbk1, hbk2] at h_; exact h_, by have h_ := hqw_.1; rw [hbk2] at h_; exact h_, hmm, htx, hvx⟩

theorem bigInt128_spec {w : World} {C : Nat → Prop} {l : Nat} {hi : Int} (hl : l < 18446744073709551616) (h1 : -9223372036854775808 ≤ hi) (h2 : hi ≤ 9223372036854775807) :
    Calls P 35 #[.agg #[.int .u64 (l : Int), .int .i64 hi]] w fun ex w' => ∃ b g mm : Nat, ∃ (ng : Bool) (zs : List Nat), ex = .returned (.pointer (some ⟨b, 0, none⟩)) ∧ KS w w' ∧ w.heap.size ≤ b ∧ w.heap.size ≤ g ∧ b ≠ g ∧ w'.heap[b]? = some (.cells #[.bool ng, .slice (some ⟨g, 0, none⟩) mm 2] 84) ∧ w'.heap[g]? = some (.cells (ints .u64 zs).toArray 102) ∧ zs.length = 2 ∧ Ndig zs ∧ mm ≤ 2 ∧ Ntrim (zs.take mm) ∧ ng = decide (((l : Int) + 18446744073709551616 * hi) < 0) ∧ nval (zs.take mm) = Int.natAbs (((l : Int) + 18446744073709551616 * hi)) := by
 refine dN (C := C) [.v (.agg #[.int .u64 (l : Int), .int .i64 hi])] 15 1 Tryz.func35 fun a_ hI hR hB => ?_
 replace hI : Is 15 [] e0 [(0, .v (.agg #[.int .u64 (l : Int), .int .i64 hi]))] a_ := hI
 refine rK tab 0 [] [] [(1, .p 0 0)] [] [⟨0, 47, [vU l, .v (.int .i64 hi)]⟩] [] [] [] 1 hR hI .nil fun e1 a1 w1 hag hR hI => ?_
 refine wp_seq ?_
 refine wp_seq (reg (is := [0, 1, 2]) (by kernel_rfl) ?_)
 refine pZ tab [0] [1, 2] 1 [(4, .agg [vU l, .v (.int .i64 hi)])] [1] hR hI fun e2 a2 w2 hag hR hI => ?_
 refine cO [.agg [vU l, .v (.int .i64 hi)]] hI Tryz.func50 ?_
 refine (sign128_spec (C := C) h1 h2).mono ?_
 rintro ex w3 ⟨z, rfl, hk, hz⟩
 replace hR := hR.same hk; clear hk
 refine ⟨_, rfl, ?_⟩
 replace hI := hI.pt 5 (.v (.int .i64 z)) [5, 4, 1]
 refine pZ tab [2] [] 1 [(6, vB (decide (z < (0 : Int))))] [1] hR hI fun e4 a4 w4 hag hR hI => ?_
 refine ops_nil (then_n ?_)
 refine cnd (b := decide (z < (0 : Int))) hI (by kernel_rfl) (fun hc5 => ?_) (fun hc5 => ?_)
 ·
  replace hI := hI.rb 6 hc5
  try simp only [tolds] at hc5
  have hneg := hz.1 hc5
  refine wp_seq (reg (is := [0, 1, 2, 3]) (by kernel_rfl) ?_)
  refine pK tab [0] [1, 2, 3] 1 [] [] [(7, .agg [vU l, .v (.int .i64 hi)])] [] [] [] [] [] 1 hR hI .nil fun e6 a6 w6 hag hR hI => ?_
  refine cO [.agg [vU l, .v (.int .i64 hi)]] hI Tryz.func52 ?_
  refine (neg128_spec (C := C) hl h1 h2).mono ?_
  rintro ex w7 ⟨l2, hi2, rfl, hk, hl2, h12, h22, hv2⟩
  replace hR := hR.same hk; clear hk
  obtain ⟨m, hm, hmb⟩ := u64_nat hi2; have hm2 := hm; rw [wrap_u64] at hm2
  refine ⟨_, rfl, ?_⟩
  replace hI := hI.pt 8 (.v (.agg #[.int .u64 (l2 : Int), .int .i64 hi2])) [8, 7]
  refine cO [.v (.agg #[.int .u64 (l2 : Int), .int .i64 hi2])] hI Tryz.func51 ?_
  have hsz_ := (hB.fin hR).size
  refine (toBig128_spec (C := Now hB) hl2 hm hmb).mono ?_
  rintro ex w8 ⟨b1, g1, mm, rfl, hk, hgb, hgg, hbg, hwb, hwg, hmm, htx, hvx⟩
  replace hk := keepBut0 hk
  have hkF_ := hR.keepN hk all_no
  have hR_ : Rel (Grow _ _ w8) w8 e6 [] [] w8 := hR.turnedN hk all_no all_no all_no
  have hM_ : ∀ b_ ∈ ([b1, g1] : List Nat), _ ≤ b_ := (all_cons hgb (all_cons hgg all_no))
  have hB_ := hB.nextN hR hkF_ hM_; have hR1_ := hR_.shrinkN (M := [b1, g1])
  obtain ⟨hfr1_, hfr2_⟩ := hR.fresh (H' := []) (G' := []) all_no all_no hgb
  obtain ⟨hag_, hR2_⟩ := hR1_.gotBlk (L := []) (k := 1) (b := b1) (t := 84) (cs := [vB false, vS (some ⟨g1, 0, none⟩) mm 2]) (by kernel_rfl) (by kernel_rfl) hwb (fun hf_ => hf_.2.1 m0) hfr1_ hfr2_
  replace hI := hI.agreeB (H := []) (G := []) (by kernel_rfl) hag_
  have hbk1 : (e6.addB 1 b1).b 1 = b1 := addB_b _ _ _
  replace hR1_ := hR2_; clear hR2_
  obtain ⟨hfr1_, hfr2_⟩ := hR.fresh (H' := []) (G' := []) all_no all_no hgg
  replace hfr1_ : ∀ x ∈ ([⟨1, 84, [vB false, vS (some ⟨g1, 0, none⟩) mm 2]⟩] : List Blk), ((e6.addB 1 b1)).b x.n ≠ g1 := fun x hx_ => (List.mem_cons.1 hx_).elim (fun he_ => by rw [he_]; dsimp only; rw [addB_b]; exact hbg) (fun hm_ => by rw [(hag_ x.n (by simp only [List.mem_cons, List.not_mem_nil, or_false] at hm_ <;> (first | (rcases hm_ with rfl | rfl | rfl | rfl) <;> (dsimp only; decide) | (rcases hm_ with rfl | rfl | rfl) <;> (dsimp only; decide) | (rcases hm_ with rfl | rfl) <;> (dsimp only; decide) | (subst hm_; dsimp only; decide)))).1]; exact hfr1_ x hm_)
  replace hfr2_ : ∀ y ∈ ([] : List Row), (((e6.addB 1 b1)).r y.n).ownBlock ≠ some g1 := fun y hy_ => by rw [(hag_ y.n (by simp only [List.mem_cons, List.not_mem_nil, or_false] at hy_ <;> (first | (rcases hy_ with rfl | rfl | rfl | rfl) <;> (dsimp only; decide) | (rcases hy_ with rfl | rfl | rfl) <;> (dsimp only; decide) | (rcases hy_ with rfl | rfl) <;> (dsimp only; decide) | (subst hy_; dsimp only; decide)))).2]; exact hfr2_ y hy_
  obtain ⟨hag_, hR2_⟩ := hR1_.gotRow (L := []) (k := 2) (g := g1) (n := 2) (t := 102) (xs := (ints .u64 [l2, m])) (by kernel_rfl) hwg (rfl) (by decide) (fun hf_ => hf_.2.1 m1) hfr1_ hfr2_
  replace hI := hI.agreeB (H := []) (G := []) (by kernel_rfl) hag_
  replace hbk1 := tb hag_ hbk1
  have hf2 : Full ((e6.addB 1 b1).addR 2 (.slice (some ⟨g1, 0, none⟩) 2 2)) 2 2 := full_addR _ _ _ _; have hnew2 : headOf (((e6.addB 1 b1).addR 2 (.slice (some ⟨g1, 0, none⟩) 2 2)).r 2) = g1 := head_addR _ _ _ _
  replace hR := hR2_; clear hR2_ hR_ hR1_
  replace hB := hB_; clear hB_ hk hkF_ 
  replace hR := hR.reblk (b := ⟨1, 84, [vB false, vS (some ⟨g1, 0, none⟩) mm 2]⟩) (by simp) [vB false, .rsl 2 0 mm 2] [] (by simp) (by simp only [dens, den, hnew2])
  dsimp only at hR
  refine ⟨_, rfl, ?_⟩
  replace hI := hI.pt 9 (.p 1 0) [9, 8, 7]
  refine pZ tab [3] [] 3 [(3, .p 1 0)] [] hR hI fun e9 a9 w9 hag hR hI => ?_
  have hA := hag
  refine ops_nil (then_n ?_)
  refine wp_seq (reg (is := [0, 1, 2, 3]) (by kernel_rfl) ?_)
  refine pZ tab [0, 1] [2, 3] 3 [(11, .p 1 0), (10, .p 1 0)] [] hR hI fun e10 a10 w10 hag hR hI => ?_
  replace hA := hA.trans hag (by decide)
  refine cO [.p 1 0, .p 1 0] hI Tryz.func53 ?_
  have hq1_ := hR.blk ⟨1, 84, [vB false, .rsl 2 0 mm 2]⟩ m0
  refine (ineg_spec (C := fun _ => False) (b := e10.b 1) hq1_.1 (fun h_ => h_)).mono ?_
  rintro ex w11 ⟨rfl, hk, ng2, hn1, hn0, hw1⟩
  have hkF_ := hR.keepN hk (all_cons hq1_.2 all_no)
  replace hbk1 := tb hA hbk1
  replace hf2 := tf hA hf2
  replace hnew2 := tg hA hnew2
  have hR_ : Rel (Grow _ _ w11) w11 e10 [⟨1, 84, [vB ng2, .rsl 2 0 mm 2]⟩] [⟨2, 102, 1, 2, (ints .u64 [l2, m])⟩] w11 := hR.turnedN hk (all_cons hq1_.2 all_no) (all_cons ⟨⟨_, m0, rfl⟩, .inr hw1⟩ all_no) (all_cons ⟨⟨_, m0, rfl⟩, .inl ⟨m0, fun g_ he_ => own_ne hf2 (notin2 (hR.ghN m0 m0 hf2) (fun hm_ => by cases hm_)) he_⟩⟩ all_no)
  have hB_ := hB.nextF hR hkF_
  replace hR := hR_; clear hR_
  replace hB := hB_; clear hB_ hk hkF_ hq1_ hw1
  refine ⟨_, rfl, ?_⟩
  replace hI := hI.pt 12 (.p 1 0) [12, 11, 10]
  refine pZ tab [3] [] 3 [(2, .p 1 0)] [] hR hI fun e12 a12 w12 hag hR hI => ?_
  have hA := hag
  refine ops_nil (then_n ?_)
  refine wp_ret ?_
  refine ret_then ?_
  refine oN tab [.p 1 0] hR hI ?_
  replace hbk1 := tb hA hbk1
  replace hf2 := tf hA hf2
  replace hnew2 := tg hA hnew2
  have hv_ := big128n hneg h1 hl hl2 hmb hv2 hm2 hvx
  have hqi_ := (hR.blk ⟨1, 84, [vB ng2, .rsl 2 0 mm 2]⟩ m0).1; simp only [dens, den, hbk1, hnew2] at hqi_
  exact ⟨b1, g1, mm, ng2, [l2, m], by rw [← hbk1]; rfl, hB.fin hR, Nat.le_trans hsz_ hgb, Nat.le_trans hsz_ hgg, hbg, hqi_, (hR.rowFin (y := ⟨2, 102, 1, 2, (ints .u64 [l2, m])⟩) m0 hf2 rfl hnew2), rfl, (dig2 hl2 hmb), hmm, htx, by rw [decide_eq_true hv_.1, hn1 (nval_take_pos hv_.2.2)]; rfl, hv_.2.1⟩
 ·
  replace hI := hI.rb 6 hc5
  try simp only [tolds] at hc5
  have hneg := fun h_ => hc5 (hz.2 h_)
  refine wp_skip ?_
  refine then_n ?_
  refine wp_seq (reg (is := [0, 1, 2]) (by kernel_rfl) ?_)
  refine pK tab [0] [1, 2] 1 [] [] [(13, .agg [vU l, .v (.int .i64 hi)])] [] [] [] [] [] 1 hR hI .nil fun e13 a13 w13 hag hR hI => ?_
  refine cO [.agg [vU l, .v (.int .i64 hi)]] hI Tryz.func51 ?_
  obtain ⟨m, hm, hmb⟩ := u64_nat hi; have hm2 := hm; rw [wrap_u64] at hm2
  have hsz_ := (hB.fin hR).size
  refine (toBig128_spec (C := Now hB) hl hm hmb).mono ?_
  rintro ex w14 ⟨b1, g1, mm, rfl, hk, hgb, hgg, hbg, hwb, hwg, hmm, htx, hvx⟩
  replace hk := keepBut0 hk
  have hkF_ := hR.keepN hk all_no
  have hR_ : Rel (Grow _ _ w14) w14 e13 [] [] w14 := hR.turnedN hk all_no all_no all_no
  have hM_ : ∀ b_ ∈ ([b1, g1] : List Nat), _ ≤ b_ := (all_cons hgb (all_cons hgg all_no))
  have hB_ := hB.nextN hR hkF_ hM_; have hR1_ := hR_.shrinkN (M := [b1, g1])
  obtain ⟨hfr1_, hfr2_⟩ := hR.fresh (H' := []) (G' := []) all_no all_no hgb
  obtain ⟨hag_, hR2_⟩ := hR1_.gotBlk (L := []) (k := 1) (b := b1) (t := 84) (cs := [vB false, vS (some ⟨g1, 0, none⟩) mm 2]) (by kernel_rfl) (by kernel_rfl) hwb (fun hf_ => hf_.2.1 m0) hfr1_ hfr2_
  replace hI := hI.agreeB (H := []) (G := []) (by kernel_rfl) hag_
  have hbk1 : (e13.addB 1 b1).b 1 = b1 := addB_b _ _ _
  replace hR1_ := hR2_; clear hR2_
  obtain ⟨hfr1_, hfr2_⟩ := hR.fresh (H' := []) (G' := []) all_no all_no hgg
  replace hfr1_ : ∀ x ∈ ([⟨1, 84, [vB false, vS (some ⟨g1, 0, none⟩) mm 2]⟩] : List Blk), ((e13.addB 1 b1)).b x.n ≠ g1 := fun x hx_ => (List.mem_cons.1 hx_).elim (fun he_ => by rw [he_]; dsimp only; rw [addB_b]; exact hbg) (fun hm_ => by rw [(hag_ x.n (by simp only [List.mem_cons, List.not_mem_nil, or_false] at hm_ <;> (first | (rcases hm_ with rfl | rfl | rfl | rfl) <;> (dsimp only; decide) | (rcases hm_ with rfl | rfl | rfl) <;> (dsimp only; decide) | (rcases hm_ with rfl | rfl) <;> (dsimp only; decide) | (subst hm_; dsimp only; decide)))).1]; exact hfr1_ x hm_)
  replace hfr2_ : ∀ y ∈ ([] : List Row), (((e13.addB 1 b1)).r y.n).ownBlock ≠ some g1 := fun y hy_ => by rw [(hag_ y.n (by simp only [List.mem_cons, List.not_mem_nil, or_false] at hy_ <;> (first | (rcases hy_ with rfl | rfl | rfl | rfl) <;> (dsimp only; decide) | (rcases hy_ with rfl | rfl | rfl) <;> (dsimp only; decide) | (rcases hy_ with rfl | rfl) <;> (dsimp only; decide) | (subst hy_; dsimp only; decide)))).2]; exact hfr2_ y hy_
  obtain ⟨hag_, hR2_⟩ := hR1_.gotRow (L := []) (k := 2) (g := g1) (n := 2) (t := 102) (xs := (ints .u64 [l, m])) (by kernel_rfl) hwg (rfl) (by decide) (fun hf_ => hf_.2.1 m1) hfr1_ hfr2_
  replace hI := hI.agreeB (H := []) (G := []) (by kernel_rfl) hag_
  replace hbk1 := tb hag_ hbk1
  have hf2 : Full ((e13.addB 1 b1).addR 2 (.slice (some ⟨g1, 0, none⟩) 2 2)) 2 2 := full_addR _ _ _ _; have hnew2 : headOf (((e13.addB 1 b1).addR 2 (.slice (some ⟨g1, 0, none⟩) 2 2)).r 2) = g1 := head_addR _ _ _ _
  replace hR := hR2_; clear hR2_ hR_ hR1_
  replace hB := hB_; clear hB_ hk hkF_ 
  replace hR := hR.reblk (b := ⟨1, 84, [vB false, vS (some ⟨g1, 0, none⟩) mm 2]⟩) (by simp) [vB false, .rsl 2 0 mm 2] [] (by simp) (by simp only [dens, den, hnew2])
  dsimp only at hR
  refine ⟨_, rfl, ?_⟩
  replace hI := hI.pt 14 (.p 1 0) [14, 13]
  refine pZ tab [2] [] 3 [(2, .p 1 0)] [] hR hI fun e15 a15 w15 hag hR hI => ?_
  have hA := hag
  refine ops_nil (then_n ?_)
  refine wp_ret (oN tab [.p 1 0] hR hI ?_)
  replace hbk1 := tb hA hbk1
  replace hf2 := tf hA hf2
  replace hnew2 := tg hA hnew2
  have hv_ := big128p hneg h2 hl hm2 hvx
  have hqi_ := (hR.blk ⟨1, 84, [vB false, .rsl 2 0 mm 2]⟩ m0).1; simp only [dens, den, hbk1, hnew2] at hqi_
  exact ⟨b1, g1, mm, false, [l, m], by rw [← hbk1]; rfl, hB.fin hR, Nat.le_trans hsz_ hgb, Nat.le_trans hsz_ hgg, hbg, hqi_, (hR.rowFin (y := ⟨2, 102, 1, 2, (ints .u64 [l, m])⟩) m0 hf2 rfl hnew2), rfl, (dig2 hl hmb), hmm, htx, by rw [decide_eq_false hv_.1], hv_.2⟩

theorem bigInt256_spec {w : World} {C : Nat → Prop} {q0 q1 q2 q3 : Nat} (hq : q0 < 18446744073709551616 ∧ q1 < 18446744073709551616 ∧ q2 < 18446744073709551616 ∧ q3 < 18446744073709551616) :
    Calls P 38 #[.agg #[.int .u64 (q0 : Int), .int .u64 (q1 : Int), .int .u64 (q2 : Int), .int .u64 (q3 : Int)]] w fun ex w' => ∃ b g mm : Nat, ∃ (ng : Bool) (zs : List Nat), ex = .returned (.pointer (some ⟨b, 0, none⟩)) ∧ KS w w' ∧ w.heap.size ≤ b ∧ w.heap.size ≤ g ∧ b ≠ g ∧ w'.heap[b]? = some (.cells #[.bool ng, .slice (some ⟨g, 0, none⟩) mm 4] 84) ∧ w'.heap[g]? = some (.cells (ints .u64 zs).toArray 102) ∧ zs.length = 4 ∧ Ndig zs ∧ mm ≤ 4 ∧ Ntrim (zs.take mm) ∧ ng = decide ((swv [q0, q1, q2, q3]) < 0) ∧ nval (zs.take mm) = Int.natAbs ((swv [q0, q1, q2, q3])) := by
 refine dN (C := C) [.v (.agg #[.int .u64 (q0 : Int), .int .u64 (q1 : Int), .int .u64 (q2 : Int), .int .u64 (q3 : Int)])] 15 1 Tryz.func38 fun a_ hI hR hB => ?_
 replace hI : Is 15 [] e0 [(0, .v (.agg #[.int .u64 (q0 : Int), .int .u64 (q1 : Int), .int .u64 (q2 : Int), .int .u64 (q3 : Int)]))] a_ := hI
 refine rK tab 0 [] [] [(1, .p 0 0)] [] [⟨0, 50, [vU q0, vU q1, vU q2, vU q3]⟩] [] [] [] 1 hR hI .nil fun e1 a1 w1 hag hR hI => ?_
 refine wp_seq ?_
 refine wp_seq (reg (is := [0, 1, 2]) (by kernel_rfl) ?_)
 refine pZ tab [0] [1, 2] 1 [(4, .agg [vU q0, vU q1, vU q2, vU q3])] [1] hR hI fun e2 a2 w2 hag hR hI => ?_
 refine cO [.agg [vU q0, vU q1, vU q2, vU q3]] hI Tryz.func58 ?_
 refine (sign256_spec (C := C) hq).mono ?_
 rintro ex w3 ⟨z, rfl, hk, hz⟩
 replace hR := hR.same hk; clear hk
 refine ⟨_, rfl, ?_⟩
 replace hI := hI.pt 5 (.v (.int .i64 z)) [5, 4, 1]
 refine pZ tab [2] [] 1 [(6, vB (decide (z < (0 : Int))))] [1] hR hI fun e4 a4 w4 hag hR hI => ?_
 refine ops_nil (then_n ?_)
 refine cnd (b := decide (z < (0 : Int))) hI (by kernel_rfl) (fun hc5 => ?_) (fun hc5 => ?_)
 ·
  replace hI := hI.rb 6 hc5
  try simp only [tolds] at hc5
  have hneg := hz.1 hc5
  refine wp_seq (reg (is := [0, 1, 2, 3]) (by kernel_rfl) ?_)
  refine pK tab [0] [1, 2, 3] 1 [] [] [(7, .agg [vU q0, vU q1, vU q2, vU q3])] [] [] [] [] [] 1 hR hI .nil fun e6 a6 w6 hag hR hI => ?_
  refine cO [.agg [vU q0, vU q1, vU q2, vU q3]] hI Tryz.func60 ?_
  have hpos := swv4_npos (q0 := q0) (q1 := q1) (q2 := q2) hneg
  refine (neg256_spec (C := C) hq hpos).mono ?_
  rintro ex w7 ⟨a0, a1, a2, a3, rfl, hk, ha, hva⟩
  replace hR := hR.same hk; clear hk
  refine ⟨_, rfl, ?_⟩
  replace hI := hI.pt 8 (.v (.agg #[.int .u64 (a0 : Int), .int .u64 (a1 : Int), .int .u64 (a2 : Int), .int .u64 (a3 : Int)])) [8, 7]
  refine cO [.v (.agg #[.int .u64 (a0 : Int), .int .u64 (a1 : Int), .int .u64 (a2 : Int), .int .u64 (a3 : Int)])] hI Tryz.func59 ?_
  have hsz_ := (hB.fin hR).size
  refine (toBig256_spec (C := Now hB) ha).mono ?_
  rintro ex w8 ⟨b1, g1, mm, rfl, hk, hgb, hgg, hbg, hwb, hwg, hmm, htx, hvx⟩
  replace hk := keepBut0 hk
  have hkF_ := hR.keepN hk all_no
  have hR_ : Rel (Grow _ _ w8) w8 e6 [] [] w8 := hR.turnedN hk all_no all_no all_no
  have hM_ : ∀ b_ ∈ ([b1, g1] : List Nat), _ ≤ b_ := (all_cons hgb (all_cons hgg all_no))
  have hB_ := hB.nextN hR hkF_ hM_; have hR1_ := hR_.shrinkN (M := [b1, g1])
  obtain ⟨hfr1_, hfr2_⟩ := hR.fresh (H' := []) (G' := []) all_no all_no hgb
  obtain ⟨hag_, hR2_⟩ := hR1_.gotBlk (L := []) (k := 1) (b := b1) (t := 84) (cs := [vB false, vS (some ⟨g1, 0, none⟩) mm 4]) (by kernel_rfl) (by kernel_rfl) hwb (fun hf_ => hf_.2.1 m0) hfr1_ hfr2_
  replace hI := hI.agreeB (H := []) (G := []) (by kernel_rfl) hag_
  have hbk1 : (e6.addB 1 b1).b 1 = b1 := addB_b _ _ _
  replace hR1_ := hR2_; clear hR2_
  obtain ⟨hfr1_, hfr2_⟩ := hR.fresh (H' := []) (G' := []) all_no all_no hgg
  replace hfr1_ : ∀ x ∈ ([⟨1, 84, [vB false, vS (some ⟨g1, 0, none⟩) mm 4]⟩] : List Blk), ((e6.addB 1 b1)).b x.n ≠ g1 := fun x hx_ => (List.mem_cons.1 hx_).elim (fun he_ => by rw [he_]; dsimp only; rw [addB_b]; exact hbg) (fun hm_ => by rw [(hag_ x.n (by simp only [List.mem_cons, List.not_mem_nil, or_false] at hm_ <;> (first | (rcases hm_ with rfl | rfl | rfl | rfl) <;> (dsimp only; decide) | (rcases hm_ with rfl | rfl | rfl) <;> (dsimp only; decide) | (rcases hm_ with rfl | rfl) <;> (dsimp only; decide) | (subst hm_; dsimp only; decide)))).1]; exact hfr1_ x hm_)
  replace hfr2_ : ∀ y ∈ ([] : List Row), (((e6.addB 1 b1)).r y.n).ownBlock ≠ some g1 := fun y hy_ => by rw [(hag_ y.n (by simp only [List.mem_cons, List.not_mem_nil, or_false] at hy_ <;> (first | (rcases hy_ with rfl | rfl | rfl | rfl) <;> (dsimp only; decide) | (rcases hy_ with rfl | rfl | rfl) <;> (dsimp only; decide) | (rcases hy_ with rfl | rfl) <;> (dsimp only; decide) | (subst hy_; dsimp only; decide)))).2]; exact hfr2_ y hy_
  obtain ⟨hag_, hR2_⟩ := hR1_.gotRow (L := []) (k := 2) (g := g1) (n := 4) (t := 102) (xs := (ints .u64 [a0, a1, a2, a3])) (by kernel_rfl) hwg (rfl) (by decide) (fun hf_ => hf_.2.1 m1) hfr1_ hfr2_
  replace hI := hI.agreeB (H := []) (G := []) (by kernel_rfl) hag_
  replace hbk1 := tb hag_ hbk1
  have hf2 : Full ((e6.addB 1 b1).addR 2 (.slice (some ⟨g1, 0, none⟩) 4 4)) 2 4 := full_addR _ _ _ _; have hnew2 : headOf (((e6.addB 1 b1).addR 2 (.slice (some ⟨g1, 0, none⟩) 4 4)).r 2) = g1 := head_addR _ _ _ _
  replace hR := hR2_; clear hR2_ hR_ hR1_
  replace hB := hB_; clear hB_ hk hkF_ 
  replace hR := hR.reblk (b := ⟨1, 84, [vB false, vS (some ⟨g1, 0, none⟩) mm 4]⟩) (by simp) [vB false, .rsl 2 0 mm 4] [] (by simp) (by simp only [dens, den, hnew2])
  dsimp only at hR
  refine ⟨_, rfl, ?_⟩
  replace hI := hI.pt 9 (.p 1 0) [9, 8, 7]
  refine pZ tab [3] [] 3 [(3, .p 1 0)] [] hR hI fun e9 a9 w9 hag hR hI => ?_
  have hA := hag
  refine ops_nil (then_n ?_)
  refine wp_seq (reg (is := [0, 1, 2, 3]) (by kernel_rfl) ?_)
  refine pZ tab [0, 1] [2, 3] 3 [(11, .p 1 0), (10, .p 1 0)] [] hR hI fun e10 a10 w10 hag hR hI => ?_
  replace hA := hA.trans hag (by decide)
  refine cO [.p 1 0, .p 1 0] hI Tryz.func53 ?_
  have hq1_ := hR.blk ⟨1, 84, [vB false, .rsl 2 0 mm 4]⟩ m0
  refine (ineg_spec (C := fun _ => False) (b := e10.b 1) hq1_.1 (fun h_ => h_)).mono ?_
  rintro ex w11 ⟨rfl, hk, ng2, hn1, hn0, hw1⟩
  have hkF_ := hR.keepN hk (all_cons hq1_.2 all_no)
  replace hbk1 := tb hA hbk1
  replace hf2 := tf hA hf2
  replace hnew2 := tg hA hnew2
  have hR_ : Rel (Grow _ _ w11) w11 e10 [⟨1, 84, [vB ng2, .rsl 2 0 mm 4]⟩] [⟨2, 102, 1, 4, (ints .u64 [a0, a1, a2, a3])⟩] w11 := hR.turnedN hk (all_cons hq1_.2 all_no) (all_cons ⟨⟨_, m0, rfl⟩, .inr hw1⟩ all_no) (all_cons ⟨⟨_, m0, rfl⟩, .inl ⟨m0, fun g_ he_ => own_ne hf2 (notin2 (hR.ghN m0 m0 hf2) (fun hm_ => by cases hm_)) he_⟩⟩ all_no)
  have hB_ := hB.nextF hR hkF_
  replace hR := hR_; clear hR_
  replace hB := hB_; clear hB_ hk hkF_ hq1_ hw1
  refine ⟨_, rfl, ?_⟩
  replace hI := hI.pt 12 (.p 1 0) [12, 11, 10]
  refine pZ tab [3] [] 3 [(2, .p 1 0)] [] hR hI fun e12 a12 w12 hag hR hI => ?_
  have hA := hag
  refine ops_nil (then_n ?_)
  refine wp_ret ?_
  refine ret_then ?_
  refine oN tab [.p 1 0] hR hI ?_
  replace hbk1 := tb hA hbk1
  replace hf2 := tf hA hf2
  replace hnew2 := tg hA hnew2
  have hv_ := big256n hneg hq hva hvx
  have hqi_ := (hR.blk ⟨1, 84, [vB ng2, .rsl 2 0 mm 4]⟩ m0).1; simp only [dens, den, hbk1, hnew2] at hqi_
  exact ⟨b1, g1, mm, ng2, [a0, a1, a2, a3], by rw [← hbk1]; rfl, hB.fin hR, Nat.le_trans hsz_ hgb, Nat.le_trans hsz_ hgg, hbg, hqi_, (hR.rowFin (y := ⟨2, 102, 1, 4, (ints .u64 [a0, a1, a2, a3])⟩) m0 hf2 rfl hnew2), rfl, (dig4 ha), hmm, htx, by rw [decide_eq_true hv_.1, hn1 (nval_take_pos hv_.2.2)]; rfl, hv_.2.1⟩
 ·
  replace hI := hI.rb 6 hc5
  try simp only [tolds] at hc5
  have hneg := fun h_ => hc5 (hz.2 h_)
  refine wp_skip ?_
  refine then_n ?_
  refine wp_seq (reg (is := [0, 1, 2]) (by kernel_rfl) ?_)
  refine pK tab [0] [1, 2] 1 [] [] [(13, .agg [vU q0, vU q1, vU q2, vU q3])] [] [] [] [] [] 1 hR hI .nil fun e13 a13 w13 hag hR hI => ?_
  refine cO [.agg [vU q0, vU q1, vU q2, vU q3]] hI Tryz.func59 ?_
  have hsz_ := (hB.fin hR).size
  refine (toBig256_spec (C := Now hB) hq).mono ?_
  rintro ex w14 ⟨b1, g1, mm, rfl, hk, hgb, hgg, hbg, hwb, hwg, hmm, htx, hvx⟩
  replace hk := keepBut0 hk
  have hkF_ := hR.keepN hk all_no
  have hR_ : Rel (Grow _ _ w14) w14 e13 [] [] w14 := hR.turnedN hk all_no all_no all_no
  have hM_ : ∀ b_ ∈ ([b1, g1] : List Nat), _ ≤ b_ := (all_cons hgb (all_cons hgg all_no))
  have hB_ := hB.nextN hR hkF_ hM_; have hR1_ := hR_.shrinkN (M := [b1, g1])
  obtain ⟨hfr1_, hfr2_⟩ := hR.fresh (H' := []) (G' := []) all_no all_no hgb
  obtain ⟨hag_, hR2_⟩ := hR1_.gotBlk (L := []) (k := 1) (b := b1) (t := 84) (cs := [vB false, vS (some ⟨g1, 0, none⟩) mm 4]) (by kernel_rfl) (by kernel_rfl) hwb (fun hf_ => hf_.2.1 m0) hfr1_ hfr2_
  replace hI := hI.agreeB (H := []) (G := []) (by kernel_rfl) hag_
  have hbk1 : (e13.addB 1 b1).b 1 = b1 := addB_b _ _ _
  replace hR1_ := hR2_; clear hR2_
  obtain ⟨hfr1_, hfr2_⟩ := hR.fresh (H' := []) (G' := []) all_no all_no hgg
  replace hfr1_ : ∀ x ∈ ([⟨1, 84, [vB false, vS (some ⟨g1, 0, none⟩) mm 4]⟩] : List Blk), ((e13.addB 1 b1)).b x.n ≠ g1 := fun x hx_ => (List.mem_cons.1 hx_).elim (fun he_ => by rw [he_]; dsimp only; rw [addB_b]; exact hbg) (fun hm_ => by rw [(hag_ x.n (by simp only [List.mem_cons, List.not_mem_nil, or_false] at hm_ <;> (first | (rcases hm_ with rfl | rfl | rfl | rfl) <;> (dsimp only; decide) | (rcases hm_ with rfl | rfl | rfl) <;> (dsimp only; decide) | (rcases hm_ with rfl | rfl) <;> (dsimp only; decide) | (subst hm_; dsimp only; decide)))).1]; exact hfr1_ x hm_)
  replace hfr2_ : ∀ y ∈ ([] : List Row), (((e13.addB 1 b1)).r y.n).ownBlock ≠ some g1 := fun y hy_ => by rw [(hag_ y.n (by simp only [List.mem_cons, List.not_mem_nil, or_false] at hy_ <;> (first | (rcases hy_ with rfl | rfl | rfl | rfl) <;> (dsimp only; decide) | (rcases hy_ with rfl | rfl | rfl) <;> (dsimp only; decide) | (rcases hy_ with rfl | rfl) <;> (dsimp only; decide) | (subst hy_; dsimp only; decide)))).2]; exact hfr2_ y hy_
  obtain ⟨hag_, hR2_⟩ := hR1_.gotRow (L := []) (k := 2) (g := g1) (n := 4) (t := 102) (xs := (ints .u64 [q0, q1, q2, q3])) (by kernel_rfl) hwg (rfl) (by decide) (fun hf_ => hf_.2.1 m1) hfr1_ hfr2_
  replace hI := hI.agreeB (H := []) (G := []) (by kernel_rfl) hag_
  replace hbk1 := tb hag_ hbk1
  have hf2 : Full ((e13.addB 1 b1).addR 2 (.slice (some ⟨g1, 0, none⟩) 4 4)) 2 4 := full_addR _ _ _ _; have hnew2 : headOf (((e13.addB 1 b1).addR 2 (.slice (some ⟨g1, 0, none⟩) 4 4)).r 2) = g1 := head_addR _ _ _ _
  replace hR := hR2_; clear hR2_ hR_ hR1_
  replace hB := hB_; clear hB_ hk hkF_ 
  replace hR := hR.reblk (b := ⟨1, 84, [vB false, vS (some ⟨g1, 0, none⟩) mm 4]⟩) (by simp) [vB false, .rsl 2 0 mm 4] [] (by simp) (by simp only [dens, den, hnew2])
  dsimp only at hR
  refine ⟨_, rfl, ?_⟩
  replace hI := hI.pt 14 (.p 1 0) [14, 13]
  refine pZ tab [2] [] 3 [(2, .p 1 0)] [] hR hI fun e15 a15 w15 hag hR hI => ?_
  have hA := hag
  refine ops_nil (then_n ?_)
  refine wp_ret (oN tab [.p 1 0] hR hI ?_)
  replace hbk1 := tb hA hbk1
  replace hf2 := tf hA hf2
  replace hnew2 := tg hA hnew2
  have hv_ := big256p hneg hvx
  have hqi_ := (hR.blk ⟨1, 84, [vB false, .rsl 2 0 mm 4]⟩ m0).1; simp only [dens, den, hbk1, hnew2] at hqi_
  exact ⟨b1, g1, mm, false, [q0, q1, q2, q3], by rw [← hbk1]; rfl, hB.fin hR, Nat.le_trans hsz_ hgb, Nat.le_trans hsz_ hgg, hbg, hqi_, (hR.rowFin (y := ⟨2, 102, 1, 4, (ints .u64 [q0, q1, q2, q3])⟩) m0 hf2 rfl hnew2), rfl, (dig4 hq), hmm, htx, by rw [decide_eq_false hv_.1], hv_.2⟩

theorem fromBig128_spec {C : Nat → Prop} {w : World} {b l xc : Nat} {ng : Bool} {ad : Option Addr} {xs : List Nat} (hb : w.heap[b]? = some (.cells #[.bool ng, .slice ad l xc] 84)) (hCb : ¬ C b) (hx : Sl .u64 18446744073709551616 C w ad xc xs) (hxl : xs.length = l) (htx : Ntrim xs) (hl4 : l ≤ 4) (hlim : nval xs < 2 ^ 127) :
    Calls P 37 #[.pointer (some ⟨b, 0, none⟩)] w fun ex w' => ∃ (l2 : Nat) (hi2 : Int), ex = .returned (.agg #[.int .u64 (l2 : Int), .int .i64 hi2]) ∧ Keep (ButN [b] w) w w' ∧ w'.heap[b]? = some (.cells #[.bool ng, .slice ad l xc] 84) ∧ l2 < 18446744073709551616 ∧ -9223372036854775808 ≤ hi2 ∧ hi2 ≤ 9223372036854775807 ∧ (l2 : Int) + 18446744073709551616 * hi2 = (if ng = true then -((nval xs : Nat) : Int) else ((nval xs : Nat) : Int)) := by
 refine doorN (e := (e0.addB 0 b)) (vs := [.p 0 0]) (n := 31) (m := 1) Tryz.func37 rfl rfl rfl (by decide) fun a_ hI => ?_
 replace hI : Is 31 [] (e0.addB 0 b) [(0, .p 0 0)] a_ := hI
 have hbk0 : (e0.addB 0 b).b 0 = b := rfl
 have hR : Rel (ButN [b] w) w (e0.addB 0 b) [⟨0, 84, [vB ng, vS ad l xc]⟩] [] w := Rel.startN (fun k_ h_ => h_.1) (all_cons ⟨hb, (fun hm_ => hm_.2 m0)⟩ all_no) all_no (all_cons (all_cons (fun hn_ => absurd rfl hn_) all_no) all_no) (all_cons all_no all_no) all_no
 have hB : BaseD (ButN [b] w) C w C (ButN [b] w) w := BaseD.start (fun k_ hC_ hlt_ => ⟨hlt_, notin2 (fun he_ => hCb (he_ ▸ hC_)) (fun hm_ => by cases hm_)⟩)
 have hkb_ : nval xs < 2 ^ 127 → True := fun _ => trivial; have hrx := hx.room; have hmx := hx.max
 refine rK tab 1 [] [] [(2, .p 1 0)] [0] [⟨1, 47, [.v (.int .u64 0), .v (.int .i64 0)]⟩] [0] [] [] 2 hR hI .nil fun e1 a1 w1 hag hR hI => ?_
 have hA := hag
 refine wp_seq (reg (is := [0, 1, 2]) (by kernel_rfl) ?_)
 refine pZ tab [0] [1, 2] 2 [(5, .p 0 0)] [2, 0] hR hI fun e2 a2 w2 hag hR hI => ?_
 replace hA := hA.trans hag (by decide)
 refine cO [.p 0 0] hI Tryz.func55 ?_
 have hq0_ := hR.blk ⟨0, 84, [vB ng, vS ad l xc]⟩ m1
 refine (ibitLen_spec (C := Now hB) hq0_.1 (fun h_ => hq0_.2 h_.2) (hx.now hB hR) hxl htx hl4).mono ?_
 rintro ex w3 ⟨k, rfl, hk, hw0, hk0, hk255⟩
 have hkF_ := hR.keepN hk (all_cons hq0_.2 all_no)
 have hR_ : Rel (Grow _ _ w3) w3 e2 [⟨1, 47, [.v (.int .u64 0), .v (.int .i64 0)]⟩, ⟨0, 84, [vB ng, vS ad l xc]⟩] [] w3 := hR.turnedN hk (all_cons hq0_.2 all_no) (all_cons ⟨⟨_, m0, rfl⟩, .inl ⟨m0, (notin2 (hR.hh _ m0 _ m1 (by dsimp only; decide)) (fun hm_ => by cases hm_))⟩⟩ (all_cons ⟨⟨_, m1, rfl⟩, .inr hw0⟩ all_no)) all_no
 replace hx := hx.nextF hB hR hkF_
 have hB_ := hB.nextF hR hkF_
 replace hR := hR_; clear hR_
 replace hB := hB_; clear hB_ hk hkF_ hq0_ hw0
 refine ⟨_, rfl, ?_⟩
 replace hI := hI.pt 6 (vI k) [6, 5, 2, 0]
 refine pZ tab [2] [] 2 [(3, vI k)] [2, 0] hR hI fun e4 a4 w4 hag hR hI => ?_
 replace hA := hA.trans hag (by decide)
 refine ops_nil (then_n ?_)
 refine wp_seq ?_
 refine rZ tab 2 [(8, vB (decide ((k : Int) > (127 : Int))))] [3, 2, 0] hR hI fun e5 a5 w5 hag hR hI => ?_
 replace hA := hA.trans hag (by decide)
 refine cnd (b := decide ((k : Int) > (127 : Int))) hI (by kernel_rfl) (fun hc6 => ?_) (fun hc6 => ?_)
 ·
  replace hI := hI.rb 8 hc6
  try simp only [tolds] at hc6
  exfalso; have := hk255 _ hlim; omega
 ·
  replace hI := hI.rb 8 hc6
  try simp only [tolds] at hc6
  refine rZ tab 2 [(11, vB ((k : Int) == (0 : Int)))] [2, 0] hR hI fun e7 a7 w7 hag hR hI => ?_
  replace hA := hA.trans hag (by decide)
  refine cnd (b := ((k : Int) == (0 : Int))) hI (by kernel_rfl) (fun hc8 => ?_) (fun hc8 => ?_)
  ·
   replace hI := hI.rb 11 hc8
   try simp only [tolds] at hc8
   have hnil := hk0.1 (by omega); subst hnil
   refine wp_ret ?_
   refine ret_then ?_
   refine oN tab [.agg [.v (.int .u64 0), .v (.int .i64 0)]] hR hI ?_
   replace hbk0 := tb hA hbk0
   exact ⟨0, 0, rfl, hB.fin hR, (by have h_ := (hR.blk ⟨0, 84, [vB ng, vS ad l xc]⟩ m1).1; rw [hbk0] at h_; exact h_), by decide, by decide, by decide, by cases ng <;> decide⟩
  ·
   replace hI := hI.rb 11 hc8
   try simp only [tolds] at hc8
   have hxn : xs ≠ [] := fun h_ => by have h2_ := hk0.2 h_; omega
   have hl0 : 0 < l := by have := List.length_pos_iff.2 hxn; omega
   have hvp : 0 < nval xs := Nat.pos_of_ne_zero fun h_ => hxn ((nval_eq_zero htx).1 h_)
   obtain ⟨hl2, hv2_, hv1_⟩ := from128_len htx hx.dig hlim; have d0 := ndig_get hx.dig 0
   refine wp_skip ?_
   refine then_n ?_
   refine wp_seq (reg (is := [0, 1, 2]) (by kernel_rfl) ?_)
   refine pZ tab [0] [1, 2] 2 [(12, .p 0 0)] [2, 0] hR hI fun e9 a9 w9 hag hR hI => ?_
   replace hA := hA.trans hag (by decide)
   refine cO [.p 0 0] hI Tryz.func56 ?_
   have hq0_ := hR.blk ⟨0, 84, [vB ng, vS ad l xc]⟩ m1
   refine (ibits_spec (C := fun _ => False) hq0_.1 (fun h_ => h_)).mono ?_
   rintro ex w10 ⟨rfl, hk, hw0⟩
   have hkF_ := hR.keepN hk (all_cons hq0_.2 all_no)
   have hR_ : Rel (Grow _ _ w10) w10 e9 [⟨1, 47, [.v (.int .u64 0), .v (.int .i64 0)]⟩, ⟨0, 84, [vB ng, vS ad l xc]⟩] [] w10 := hR.turnedN hk (all_cons hq0_.2 all_no) (all_cons ⟨⟨_, m0, rfl⟩, .inl ⟨m0, (notin2 (hR.hh _ m0 _ m1 (by dsimp only; decide)) (fun hm_ => by cases hm_))⟩⟩ (all_cons ⟨⟨_, m1, rfl⟩, .inr hw0⟩ all_no)) all_no
   replace hx := hx.nextF hB hR hkF_
   have hB_ := hB.nextF hR hkF_
   replace hR := hR_; clear hR_
   replace hB := hB_; clear hB_ hk hkF_ hq0_ hw0
   refine ⟨_, rfl, ?_⟩
   replace hI := hI.pt 13 (vS ad l xc) [13, 12, 2, 0]
   refine pZ tab [2] [] 2 [(4, vS ad l xc)] [2, 0] hR hI fun e11 a11 w11 hag hR hI => ?_
   replace hA := hA.trans hag (by decide)
   refine ops_nil (then_n ?_)
   refine rK tab 2 [(2, .val (vU (xs.getD 0 0)))] [] [] [4, 2, 0] [⟨1, 47, [vU (xs.getD 0 0), .v (.int .i64 0)]⟩] [0] [] [] 2 hR hI (.cons (by omega : (0 : Int) ≤ (0 : Int) ∧ (0 : Int) < (l : Int)) (.cons (nats_some (i := 0) (hx.cells.mono hB.cls) (by omega)) (.cons (nats_load (i := 0) (m := 1) (hx.cells.mono hB.cls) (by omega)) .nil))) fun e12 a12 w12 hag hR hI => ?_
   replace hA := hA.trans hag (by decide)
   refine wp_seq ?_
   refine rZ tab 2 [(20, vB (decide ((l : Int) > (1 : Int))))] [4, 2, 0] hR hI fun e13 a13 w13 hag hR hI => ?_
   replace hA := hA.trans hag (by decide)
   refine cnd (b := decide ((l : Int) > (1 : Int))) hI (by kernel_rfl) (fun hc14 => ?_) (fun hc14 => ?_)
   ·
    replace hI := hI.rb 20 hc14
    try simp only [tolds] at hc14
    have hv_ := hv2_ (by omega); have hvI : ((nval xs : Nat) : Int) = ((xs.getD 0 0 : Nat) : Int) + 18446744073709551616 * ((xs.getD 1 0 : Nat) : Int) := by omega
    refine aK tab 2 [(2, .val (vU (xs.getD 1 0))), (3, .eq (.int .i64 ((xs.getD 1 0 : Nat) : Int)))] [] [] [2, 0] [⟨1, 47, [vU (xs.getD 0 0), vI (xs.getD 1 0)]⟩] [0] [] [] 2 hR hI (.cons (by omega : (0 : Int) ≤ (1 : Int) ∧ (1 : Int) < (l : Int)) (.cons (nats_some (i := 1) (hx.cells.mono hB.cls) (by omega)) (.cons (nats_load (i := 1) (m := 1) (hx.cells.mono hB.cls) (by omega)) (.cons (congrArg (Value.int .i64) (wrap_inR (inR_i64 (by omega)) : IntKind.i64.wrap ((xs.getD 1 0 : Nat) : Int) = ((xs.getD 1 0 : Nat) : Int))) .nil)))) fun e15 a15 w15 hag hR hI => ?_
    replace hA := hA.trans hag (by decide)
    refine then_n ?_
    refine wp_seq ?_
    refine wp_seq (reg (is := [0, 1, 2]) (by kernel_rfl) ?_)
    refine pZ tab [0] [1, 2] 2 [(26, .p 0 0)] [2] hR hI fun e16 a16 w16 hag hR hI => ?_
    replace hA := hA.trans hag (by decide)
    refine cO [.p 0 0] hI Tryz.func57 ?_
    have hq0_ := hR.blk ⟨0, 84, [vB ng, vS ad l xc]⟩ m1
    refine (isign_spec (C := fun _ => False) hq0_.1 (fun h_ => h_)).mono ?_
    rintro ex w17 ⟨rfl, hk, hw0⟩
    have hkF_ := hR.keepN hk (all_cons hq0_.2 all_no)
    have hR_ : Rel (Grow _ _ w17) w17 e16 [⟨1, 47, [vU (xs.getD 0 0), vI (xs.getD 1 0)]⟩, ⟨0, 84, [vB ng, vS ad l xc]⟩] [] w17 := hR.turnedN hk (all_cons hq0_.2 all_no) (all_cons ⟨⟨_, m0, rfl⟩, .inl ⟨m0, (notin2 (hR.hh _ m0 _ m1 (by dsimp only; decide)) (fun hm_ => by cases hm_))⟩⟩ (all_cons ⟨⟨_, m1, rfl⟩, .inr hw0⟩ all_no)) all_no
    replace hx := hx.nextF hB hR hkF_
    have hB_ := hB.nextF hR hkF_
    replace hR := hR_; clear hR_
    replace hB := hB_; clear hB_ hk hkF_ hq0_ hw0
    refine ⟨_, rfl, ?_⟩
    replace hI := hI.pt 27 (.v (.int .i64 (if l = 0 then 0 else if ng = true then -1 else 1))) [27, 26, 2]
    refine pZ tab [2] [] 2 [(28, vB (decide ((if l = 0 then 0 else if ng = true then -1 else 1) < (0 : Int))))] [2] hR hI fun e18 a18 w18 hag hR hI => ?_
    replace hA := hA.trans hag (by decide)
    refine ops_nil (then_n ?_)
    refine cnd (b := decide ((if l = 0 then 0 else if ng = true then -1 else 1) < (0 : Int))) hI (by kernel_rfl) (fun hc19 => ?_) (fun hc19 => ?_)
    ·
     replace hI := hI.rb 28 hc19
     try simp only [tolds] at hc19
     have hng : ng = true := by
      cases ng
      · first | rfl | (exfalso; have h_ := hc19; rw [if_neg (by omega : ¬ l = 0)] at h_; revert h_; decide)
      · first | rfl | (exfalso; have h_ := hc19; rw [if_neg (by omega : ¬ l = 0)] at h_; revert h_; decide)
     refine wp_seq (reg (is := [0, 1, 2]) (by kernel_rfl) ?_)
     refine pZ tab [0] [1, 2] 2 [(29, .agg [vU (xs.getD 0 0), vI (xs.getD 1 0)])] [2] hR hI fun e20 a20 w20 hag hR hI => ?_
     replace hA := hA.trans hag (by decide)
     refine cO [.agg [vU (xs.getD 0 0), vI (xs.getD 1 0)]] hI Tryz.func52 ?_
     refine (neg128_spec (C := C) (l := xs.getD 0 0) (hi := ((xs.getD 1 0 : Nat) : Int)) d0 (by omega) (by omega)).mono ?_
     rintro ex w21 ⟨l2, hi2, rfl, hk, hn2, h12, h22, hnv⟩
     replace hR := hR.same hk; clear hk
     refine ⟨_, rfl, ?_⟩
     replace hI := hI.pt 30 (.v (.agg #[.int .u64 (l2 : Int), .int .i64 hi2])) [30, 29, 2]
     refine pK tab [2] [] 2 [] [] [] [2] [⟨1, 47, [vU l2, .v (.int .i64 hi2)]⟩] [0] [] [] 2 hR hI .nil fun e22 a22 w22 hag hR hI => ?_
     replace hA := hA.trans hag (by decide)
     refine ops_nil (then_n ?_)
     refine wp_ret ?_
     refine ret_then ?_
     refine oN tab [.agg [vU l2, .v (.int .i64 hi2)]] hR hI ?_
     replace hbk0 := tb hA hbk0
     exact ⟨l2, hi2, rfl, hB.fin hR, (by have h_ := (hR.blk ⟨0, 84, [vB ng, vS ad l xc]⟩ m1).1; rw [hbk0] at h_; exact h_), hn2, h12, h22, by rw [if_pos hng]; exact from128_neg hvI hvp hlim hn2 h12 h22 hnv⟩
    ·
     replace hI := hI.rb 28 hc19
     try simp only [tolds] at hc19
     have hng : ng = false := by
      cases ng
      · first | rfl | (exfalso; have h_ := hc19; rw [if_neg (by omega : ¬ l = 0)] at h_; revert h_; decide)
      · first | rfl | (exfalso; have h_ := hc19; rw [if_neg (by omega : ¬ l = 0)] at h_; revert h_; decide)
     refine wp_skip ?_
     refine then_n ?_
     refine wp_ret (oN tab [.agg [vU (xs.getD 0 0), vI (xs.getD 1 0)]] hR hI ?_)
     replace hbk0 := tb hA hbk0
     exact ⟨xs.getD 0 0, ((xs.getD 1 0 : Nat) : Int), rfl, hB.fin hR, (by have h_ := (hR.blk ⟨0, 84, [vB ng, vS ad l xc]⟩ m1).1; rw [hbk0] at h_; exact h_), d0, by omega, by omega, by rw [if_neg (by rw [hng]; decide)]; exact hvI.symm⟩
   ·
    replace hI := hI.rb 20 hc14
    try simp only [tolds] at hc14
    have hv_ := hv1_ (by omega); have hvI : ((nval xs : Nat) : Int) = ((xs.getD 0 0 : Nat) : Int) + 18446744073709551616 * 0 := by omega
    refine wp_skip ?_
    refine then_n ?_
    refine wp_seq ?_
    refine wp_seq (reg (is := [0, 1, 2]) (by kernel_rfl) ?_)
    refine pZ tab [0] [1, 2] 2 [(26, .p 0 0)] [2] hR hI fun e23 a23 w23 hag hR hI => ?_
    replace hA := hA.trans hag (by decide)
    refine cO [.p 0 0] hI Tryz.func57 ?_
    have hq0_ := hR.blk ⟨0, 84, [vB ng, vS ad l xc]⟩ m1
    refine (isign_spec (C := fun _ => False) hq0_.1 (fun h_ => h_)).mono ?_
    rintro ex w24 ⟨rfl, hk, hw0⟩
    have hkF_ := hR.keepN hk (all_cons hq0_.2 all_no)
    have hR_ : Rel (Grow _ _ w24) w24 e23 [⟨1, 47, [vU (xs.getD 0 0), .v (.int .i64 0)]⟩, ⟨0, 84, [vB ng, vS ad l xc]⟩] [] w24 := hR.turnedN hk (all_cons hq0_.2 all_no) (all_cons ⟨⟨_, m0, rfl⟩, .inl ⟨m0, (notin2 (hR.hh _ m0 _ m1 (by dsimp only; decide)) (fun hm_ => by cases hm_))⟩⟩ (all_cons ⟨⟨_, m1, rfl⟩, .inr hw0⟩ all_no)) all_no
    replace hx := hx.nextF hB hR hkF_
    have hB_ := hB.nextF hR hkF_
    replace hR := hR_; clear hR_
    replace hB := hB_; clear hB_ hk hkF_ hq0_ hw0
    refine ⟨_, rfl, ?_⟩
    replace hI := hI.pt 27 (.v (.int .i64 (if l = 0 then 0 else if ng = true then -1 else 1))) [27, 26, 2]
    refine pZ tab [2] [] 2 [(28, vB (decide ((if l = 0 then 0 else if ng = true then -1 else 1) < (0 : Int))))] [2] hR hI fun e25 a25 w25 hag hR hI => ?_
    replace hA := hA.trans hag (by decide)
    refine ops_nil (then_n ?_)
    refine cnd (b := decide ((if l = 0 then 0 else if ng = true then -1 else 1) < (0 : Int))) hI (by kernel_rfl) (fun hc26 => ?_) (fun hc26 => ?_)
    ·
     replace hI := hI.rb 28 hc26
     try simp only [tolds] at hc26
     have hng : ng = true := by
      cases ng
      · first | rfl | (exfalso; have h_ := hc26; rw [if_neg (by omega : ¬ l = 0)] at h_; revert h_; decide)
      · first | rfl | (exfalso; have h_ := hc26; rw [if_neg (by omega : ¬ l = 0)] at h_; revert h_; decide)
     refine wp_seq (reg (is := [0, 1, 2]) (by kernel_rfl) ?_)
     refine pZ tab [0] [1, 2] 2 [(29, .agg [vU (xs.getD 0 0), .v (.int .i64 0)])] [2] hR hI fun e27 a27 w27 hag hR hI => ?_
     replace hA := hA.trans hag (by decide)
     refine cO [.agg [vU (xs.getD 0 0), .v (.int .i64 0)]] hI Tryz.func52 ?_
     refine (neg128_spec (C := C) (l := xs.getD 0 0) (hi := 0) d0 (by omega) (by omega)).mono ?_
     rintro ex w28 ⟨l2, hi2, rfl, hk, hn2, h12, h22, hnv⟩
     replace hR := hR.same hk; clear hk
     refine ⟨_, rfl, ?_⟩
     replace hI := hI.pt 30 (.v (.agg #[.int .u64 (l2 : Int), .int .i64 hi2])) [30, 29, 2]
     refine pK tab [2] [] 2 [] [] [] [2] [⟨1, 47, [vU l2, .v (.int .i64 hi2)]⟩] [0] [] [] 2 hR hI .nil fun e29 a29 w29 hag hR hI => ?_
     replace hA := hA.trans hag (by decide)
     refine ops_nil (then_n ?_)
     refine wp_ret ?_
     refine ret_then ?_
     refine oN tab [.agg [vU l2, .v (.int .i64 hi2)]] hR hI ?_
     replace hbk0 := tb hA hbk0
     exact ⟨l2, hi2, rfl, hB.fin hR, (by have h_ := (hR.blk ⟨0, 84, [vB ng, vS ad l xc]⟩ m1).1; rw [hbk0] at h_; exact h_), hn2, h12, h22, by rw [if_pos hng]; exact from128_neg hvI hvp hlim hn2 h12 h22 hnv⟩
    ·
     replace hI := hI.rb 28 hc26
     try simp only [tolds] at hc26
     have hng : ng = false := by
      cases ng
      · first | rfl | (exfalso; have h_ := hc26; rw [if_neg (by omega : ¬ l = 0)] at h_; revert h_; decide)
      · first | rfl | (exfalso; have h_ := hc26; rw [if_neg (by omega : ¬ l = 0)] at h_; revert h_; decide)
     refine wp_skip ?_
     refine then_n ?_
     refine wp_ret (oN tab [.agg [vU (xs.getD 0 0), .v (.int .i64 0)]] hR hI ?_)
     replace hbk0 := tb hA hbk0
     exact ⟨xs.getD 0 0, 0, rfl, hB.fin hR, (by have h_ := (hR.blk ⟨0, 84, [vB ng, vS ad l xc]⟩ m1).1; rw [hbk0] at h_; exact h_), d0, by omega, by omega, by rw [if_neg (by rw [hng]; decide)]; exact hvI.symm⟩

theorem fromBig256_spec {C : Nat → Prop} {w : World} {b l xc : Nat} {ng : Bool} {ad : Option Addr} {xs : List Nat} (hb : w.heap[b]? = some (.cells #[.bool ng, .slice ad l xc] 84)) (hCb : ¬ C b) (hx : Sl .u64 18446744073709551616 C w ad xc xs) (hxl : xs.length = l) (htx : Ntrim xs) (hl4 : l ≤ 4) (hlim : nval xs < 2 ^ 255) :
    Calls P 39 #[.pointer (some ⟨b, 0, none⟩)] w fun ex w' => ∃ q0 q1 q2 q3 : Nat, ex = .returned (.agg #[.int .u64 (q0 : Int), .int .u64 (q1 : Int), .int .u64 (q2 : Int), .int .u64 (q3 : Int)]) ∧ Keep (ButN [b] w) w w' ∧ w'.heap[b]? = some (.cells #[.bool ng, .slice ad l xc] 84) ∧ (q0 < 18446744073709551616 ∧ q1 < 18446744073709551616 ∧ q2 < 18446744073709551616 ∧ q3 < 18446744073709551616) ∧ swv [q0, q1, q2, q3] = (if ng = true then -((nval xs : Nat) : Int) else ((nval xs : Nat) : Int)) := by
 refine doorN (e := (e0.addB 0 b)) (vs := [.p 0 0]) (n := 33) (m := 1) Tryz.func39 rfl rfl rfl (by decide) fun a_ hI => ?_
 replace hI : Is 33 [] (e0.addB 0 b) [(0, .p 0 0)] a_ := hI
 have hbk0 : (e0.addB 0 b).b 0 = b := rfl
 have hR : Rel (ButN [b] w) w (e0.addB 0 b) [⟨0, 84, [vB ng, vS ad l xc]⟩] [] w := Rel.startN (fun k_ h_ => h_.1) (all_cons ⟨hb, (fun hm_ => hm_.2 m0)⟩ all_no) all_no (all_cons (all_cons (fun hn_ => absurd rfl hn_) all_no) all_no) (all_cons all_no all_no) all_no
 have hB : BaseD (ButN [b] w) C w C (ButN [b] w) w := BaseD.start (fun k_ hC_ hlt_ => ⟨hlt_, notin2 (fun he_ => hCb (he_ ▸ hC_)) (fun hm_ => by cases hm_)⟩)
 have hrx := hx.room; have hmx := hx.max
 refine rK tab 1 [] [] [(2, .p 1 0)] [0] [⟨1, 50, [.v (.int .u64 0), .v (.int .u64 0), .v (.int .u64 0), .v (.int .u64 0)]⟩] [0] [] [] 2 hR hI .nil fun e1 a1 w1 hag hR hI => ?_
 have hA := hag
 refine wp_seq (reg (is := [0, 1, 2]) (by kernel_rfl) ?_)
 refine pZ tab [0] [1, 2] 2 [(7, .p 0 0)] [2, 0] hR hI fun e2 a2 w2 hag hR hI => ?_
 replace hA := hA.trans hag (by decide)
 refine cO [.p 0 0] hI Tryz.func55 ?_
 have hq0_ := hR.blk ⟨0, 84, [vB ng, vS ad l xc]⟩ m1
 refine (ibitLen_spec (C := Now hB) hq0_.1 (fun h_ => hq0_.2 h_.2) (hx.now hB hR) hxl htx hl4).mono ?_
 rintro ex w3 ⟨k, rfl, hk, hw0, hk0, hk255⟩
 have hkF_ := hR.keepN hk (all_cons hq0_.2 all_no)
 have hR_ : Rel (Grow _ _ w3) w3 e2 [⟨1, 50, [.v (.int .u64 0), .v (.int .u64 0), .v (.int .u64 0), .v (.int .u64 0)]⟩, ⟨0, 84, [vB ng, vS ad l xc]⟩] [] w3 := hR.turnedN hk (all_cons hq0_.2 all_no) (all_cons ⟨⟨_, m0, rfl⟩, .inl ⟨m0, (notin2 (hR.hh _ m0 _ m1 (by dsimp only; decide)) (fun hm_ => by cases hm_))⟩⟩ (all_cons ⟨⟨_, m1, rfl⟩, .inr hw0⟩ all_no)) all_no
 replace hx := hx.nextF hB hR hkF_
 have hB_ := hB.nextF hR hkF_
 replace hR := hR_; clear hR_
 replace hB := hB_; clear hB_ hk hkF_ hq0_ hw0
 refine ⟨_, rfl, ?_⟩
 replace hI := hI.pt 8 (vI k) [8, 7, 2, 0]
 refine pZ tab [2] [] 2 [(3, vI k)] [2, 0] hR hI fun e4 a4 w4 hag hR hI => ?_
 replace hA := hA.trans hag (by decide)
 refine ops_nil (then_n ?_)
 refine wp_seq ?_
 refine rZ tab 2 [(10, vB (decide ((k : Int) > (255 : Int))))] [3, 2, 0] hR hI fun e5 a5 w5 hag hR hI => ?_
 replace hA := hA.trans hag (by decide)
 refine cnd (b := decide ((k : Int) > (255 : Int))) hI (by kernel_rfl) (fun hc6 => ?_) (fun hc6 => ?_)
 ·
  replace hI := hI.rb 10 hc6
  try simp only [tolds] at hc6
  exfalso; have := hk255 _ hlim; omega
 ·
  replace hI := hI.rb 10 hc6
  try simp only [tolds] at hc6
  refine rZ tab 2 [(13, vB ((k : Int) == (0 : Int)))] [2, 0] hR hI fun e7 a7 w7 hag hR hI => ?_
  replace hA := hA.trans hag (by decide)
  refine cnd (b := ((k : Int) == (0 : Int))) hI (by kernel_rfl) (fun hc8 => ?_) (fun hc8 => ?_)
  ·
   replace hI := hI.rb 13 hc8
   try simp only [tolds] at hc8
   have hnil := hk0.1 (by omega); subst hnil
   refine wp_ret ?_
   refine ret_then ?_
   refine oN tab [.agg [.v (.int .u64 0), .v (.int .u64 0), .v (.int .u64 0), .v (.int .u64 0)]] hR hI ?_
   replace hbk0 := tb hA hbk0
   exact ⟨0, 0, 0, 0, rfl, hB.fin hR, (by have h_ := (hR.blk ⟨0, 84, [vB ng, vS ad l xc]⟩ m1).1; rw [hbk0] at h_; exact h_), by decide, by cases ng <;> decide⟩
  ·
   replace hI := hI.rb 13 hc8
   try simp only [tolds] at hc8
   have hxn : xs ≠ [] := fun h_ => by have h2_ := hk0.2 h_; omega
   have hl0 : 0 < l := by have := List.length_pos_iff.2 hxn; omega
   have hvp : 0 < nval xs := Nat.pos_of_ne_zero fun h_ => hxn ((nval_eq_zero htx).1 h_)
   refine wp_skip ?_
   refine then_n ?_
   refine wp_seq (reg (is := [0, 1, 2]) (by kernel_rfl) ?_)
   refine pZ tab [0] [1, 2] 2 [(14, .p 0 0)] [2, 0] hR hI fun e9 a9 w9 hag hR hI => ?_
   replace hA := hA.trans hag (by decide)
   refine cO [.p 0 0] hI Tryz.func56 ?_
   have hq0_ := hR.blk ⟨0, 84, [vB ng, vS ad l xc]⟩ m1
   refine (ibits_spec (C := fun _ => False) hq0_.1 (fun h_ => h_)).mono ?_
   rintro ex w10 ⟨rfl, hk, hw0⟩
   have hkF_ := hR.keepN hk (all_cons hq0_.2 all_no)
   have hR_ : Rel (Grow _ _ w10) w10 e9 [⟨1, 50, [.v (.int .u64 0), .v (.int .u64 0), .v (.int .u64 0), .v (.int .u64 0)]⟩, ⟨0, 84, [vB ng, vS ad l xc]⟩] [] w10 := hR.turnedN hk (all_cons hq0_.2 all_no) (all_cons ⟨⟨_, m0, rfl⟩, .inl ⟨m0, (notin2 (hR.hh _ m0 _ m1 (by dsimp only; decide)) (fun hm_ => by cases hm_))⟩⟩ (all_cons ⟨⟨_, m1, rfl⟩, .inr hw0⟩ all_no)) all_no
   replace hx := hx.nextF hB hR hkF_
   have hB_ := hB.nextF hR hkF_
   replace hR := hR_; clear hR_
   replace hB := hB_; clear hB_ hk hkF_ hq0_ hw0
   refine ⟨_, rfl, ?_⟩
   replace hI := hI.pt 15 (vS ad l xc) [15, 14, 2, 0]
   refine pZ tab [2] [] 2 [(4, vS ad l xc)] [2, 0] hR hI fun e11 a11 w11 hag hR hI => ?_
   replace hA := hA.trans hag (by decide)
   refine ops_nil (then_n ?_)
   refine wp_seq ?_
   refine rZ tab 2 [(18, .v (.int .i64 0)), (17, vI l), (16, vS ad l xc)] [2, 0] hR hI fun e12 a12 w12 hag hR hI => ?_
   replace hA := hA.trans hag (by decide)
   refine wp_block ?_
   replace hbk0 := tb hA hbk0
   refine lpM (γ := Nat × Nat × Nat × Nat × Nat) (fun (i, a0, a1, a2, a3) => (⟨[(0, .p 0 0), (2, .p 1 0), (16, vS ad l xc), (17, vI l), (18, vI i)], [⟨0, 84, [vB ng, vS ad l xc]⟩, ⟨1, 50, [vU a0, vU a1, vU a2, vU a3]⟩], [], 2⟩ : Sy)) (fun (i, a0, a1, a2, a3) e C F wb => ((e.b 0 = b)) ∧ ((Sl .u64 18446744073709551616 C wb ad xc xs ∧ i ≤ l) ∧ FromI xs i a0 a1 a2 a3)) (fun (i, a0, a1, a2, a3) => l - i) (0, 0, 0, 0, 0) hB (⟨hbk0, ⟨⟨hx, Nat.zero_le _⟩, by unfold FromI; omega⟩⟩)
     (hR.sel [0, 1] [] (by kernel_rfl) (by kernel_rfl)) (hI.sel [0, 2, 16, 17, 18] (by kernel_rfl)) ?_
   clear hR hI hB
   rintro ⟨i, a0, a1, a2, a3⟩ e13 C13 F13 wb13 a13 w13 hB hp hR hI
   dsimp only at hp hR hI
   obtain ⟨hbk0, hp⟩ := hp
   obtain ⟨⟨hx, hil⟩, hp⟩ := hp
   refine rZ tab 2 [(19, vB (decide ((i : Int) < (l : Int))))] [0, 2, 16, 17, 18] hR hI fun e14 a14 w14 hag hR hI => ?_
   have hA := hag
   refine wp_seq ?_
   refine cnd (b := decide ((i : Int) < (l : Int))) hI (by kernel_rfl) (fun hc15 => ?_) (fun hc15 => ?_)
   ·
    replace hI := hI.rb 19 hc15
    try simp only [tolds] at hc15
    have hi_ : i = 0 ∨ i = 1 ∨ i = 2 ∨ i = 3 := by omega
    rcases hi_ with rfl | rfl | rfl | rfl
    ·
     replace hI := hI.re 18 (.v (.int .i64 0)) rfl (congrArg (Value.int .i64) (rfl))
     refine wp_skip ?_
     refine then_n ?_
     refine wp_seq ?_
     refine wp_block ?_
     refine rK tab 2 [(2, .val (vU (xs.getD 0 0)))] [] [(6, vU (xs.getD 0 0)), (5, .v (.int .i64 0))] [18, 0, 2, 16, 17] [] [0, 1] [] [] 2 hR hI (.cons (by omega : (0 : Int) ≤ (0 : Int) ∧ (0 : Int) < (l : Int)) (.cons (nats_some (i := 0) (hx.cells.mono hB.cls) (by omega)) (.cons (nats_load (i := 0) (m := 1) (hx.cells.mono hB.cls) (by omega)) .nil))) fun e16 a16 w16 hag hR hI => ?_
     replace hA := hA.trans hag (by decide)
     refine aK tab 2 [] [] [] [18, 0, 2, 16, 17] [⟨1, 50, [vU (xs.getD 0 0), vU a1, vU a2, vU a3]⟩] [0] [] [] 2 hR hI (.cons (by omega : (0 : Int) ≤ (0 : Int) ∧ (0 : Int) < (4 : Int)) .nil) fun e17 a17 w17 hag hR hI => ?_
     replace hA := hA.trans hag (by decide)
     refine normal_block ?_
     refine then_n ?_
     refine aK tab 2 [(0, .eq (.int .i64 1))] [] [(18, .v (.int .i64 1))] [0, 2, 16, 17] [] [1, 0] [] [] 2 hR hI (.cons (congrArg (Value.int .i64) (by decide : IntKind.i64.wrap ((0 : Int) + (1 : Int)) = 1)) .nil) fun e18 a18 w18 hag hR hI => ?_
     replace hA := hA.trans hag (by decide)
     refine then_n ?_
     replace hbk0 := tb hA hbk0
     exact ⟨(1, xs.getD 0 0, a1, a2, a3), _, _, _, _, hB, ⟨hbk0, ⟨⟨hx, by omega⟩, by unfold FromI at hp ⊢; omega⟩⟩, (by dsimp only; omega), hR.sel [0, 1] [] (by kernel_rfl) (by kernel_rfl), hI.sel [0, 2, 16, 17, 18] (by kernel_rfl)⟩
    ·
     replace hI := hI.re 18 (.v (.int .i64 1)) rfl (congrArg (Value.int .i64) (rfl))
     refine wp_skip ?_
     refine then_n ?_
     refine wp_seq ?_
     refine wp_block ?_
     refine rK tab 2 [(2, .val (vU (xs.getD 1 0)))] [] [(6, vU (xs.getD 1 0)), (5, .v (.int .i64 1))] [18, 0, 2, 16, 17] [] [0, 1] [] [] 2 hR hI (.cons (by omega : (0 : Int) ≤ (1 : Int) ∧ (1 : Int) < (l : Int)) (.cons (nats_some (i := 1) (hx.cells.mono hB.cls) (by omega)) (.cons (nats_load (i := 1) (m := 1) (hx.cells.mono hB.cls) (by omega)) .nil))) fun e19 a19 w19 hag hR hI => ?_
     replace hA := hA.trans hag (by decide)
     refine aK tab 2 [] [] [] [18, 0, 2, 16, 17] [⟨1, 50, [vU a0, vU (xs.getD 1 0), vU a2, vU a3]⟩] [0] [] [] 2 hR hI (.cons (by omega : (0 : Int) ≤ (1 : Int) ∧ (1 : Int) < (4 : Int)) .nil) fun e20 a20 w20 hag hR hI => ?_
     replace hA := hA.trans hag (by decide)
     refine normal_block ?_
     refine then_n ?_
     refine aK tab 2 [(0, .eq (.int .i64 2))] [] [(18, .v (.int .i64 2))] [0, 2, 16, 17] [] [1, 0] [] [] 2 hR hI (.cons (congrArg (Value.int .i64) (by decide : IntKind.i64.wrap ((1 : Int) + (1 : Int)) = 2)) .nil) fun e21 a21 w21 hag hR hI => ?_
     replace hA := hA.trans hag (by decide)
     refine then_n ?_
     replace hbk0 := tb hA hbk0
     exact ⟨(2, a0, xs.getD 1 0, a2, a3), _, _, _, _, hB, ⟨hbk0, ⟨⟨hx, by omega⟩, by unfold FromI at hp ⊢; omega⟩⟩, (by dsimp only; omega), hR.sel [0, 1] [] (by kernel_rfl) (by kernel_rfl), hI.sel [0, 2, 16, 17, 18] (by kernel_rfl)⟩
    ·
     replace hI := hI.re 18 (.v (.int .i64 2)) rfl (congrArg (Value.int .i64) (rfl))
     refine wp_skip ?_
     refine then_n ?_
     refine wp_seq ?_
     refine wp_block ?_
     refine rK tab 2 [(2, .val (vU (xs.getD 2 0)))] [] [(6, vU (xs.getD 2 0)), (5, .v (.int .i64 2))] [18, 0, 2, 16, 17] [] [0, 1] [] [] 2 hR hI (.cons (by omega : (0 : Int) ≤ (2 : Int) ∧ (2 : Int) < (l : Int)) (.cons (nats_some (i := 2) (hx.cells.mono hB.cls) (by omega)) (.cons (nats_load (i := 2) (m := 1) (hx.cells.mono hB.cls) (by omega)) .nil))) fun e22 a22 w22 hag hR hI => ?_
     replace hA := hA.trans hag (by decide)
     refine aK tab 2 [] [] [] [18, 0, 2, 16, 17] [⟨1, 50, [vU a0, vU a1, vU (xs.getD 2 0), vU a3]⟩] [0] [] [] 2 hR hI (.cons (by omega : (0 : Int) ≤ (2 : Int) ∧ (2 : Int) < (4 : Int)) .nil) fun e23 a23 w23 hag hR hI => ?_
     replace hA := hA.trans hag (by decide)
     refine normal_block ?_
     refine then_n ?_
     refine aK tab 2 [(0, .eq (.int .i64 3))] [] [(18, .v (.int .i64 3))] [0, 2, 16, 17] [] [1, 0] [] [] 2 hR hI (.cons (congrArg (Value.int .i64) (by decide : IntKind.i64.wrap ((2 : Int) + (1 : Int)) = 3)) .nil) fun e24 a24 w24 hag hR hI => ?_
     replace hA := hA.trans hag (by decide)
     refine then_n ?_
     replace hbk0 := tb hA hbk0
     exact ⟨(3, a0, a1, xs.getD 2 0, a3), _, _, _, _, hB, ⟨hbk0, ⟨⟨hx, by omega⟩, by unfold FromI at hp ⊢; omega⟩⟩, (by dsimp only; omega), hR.sel [0, 1] [] (by kernel_rfl) (by kernel_rfl), hI.sel [0, 2, 16, 17, 18] (by kernel_rfl)⟩
    ·
     replace hI := hI.re 18 (.v (.int .i64 3)) rfl (congrArg (Value.int .i64) (rfl))
     refine wp_skip ?_
     refine then_n ?_
     refine wp_seq ?_
     refine wp_block ?_
     refine rK tab 2 [(2, .val (vU (xs.getD 3 0)))] [] [(6, vU (xs.getD 3 0)), (5, .v (.int .i64 3))] [18, 0, 2, 16, 17] [] [0, 1] [] [] 2 hR hI (.cons (by omega : (0 : Int) ≤ (3 : Int) ∧ (3 : Int) < (l : Int)) (.cons (nats_some (i := 3) (hx.cells.mono hB.cls) (by omega)) (.cons (nats_load (i := 3) (m := 1) (hx.cells.mono hB.cls) (by omega)) .nil))) fun e25 a25 w25 hag hR hI => ?_
     replace hA := hA.trans hag (by decide)
     refine aK tab 2 [] [] [] [18, 0, 2, 16, 17] [⟨1, 50, [vU a0, vU a1, vU a2, vU (xs.getD 3 0)]⟩] [0] [] [] 2 hR hI (.cons (by omega : (0 : Int) ≤ (3 : Int) ∧ (3 : Int) < (4 : Int)) .nil) fun e26 a26 w26 hag hR hI => ?_
     replace hA := hA.trans hag (by decide)
     refine normal_block ?_
     refine then_n ?_
     refine aK tab 2 [(0, .eq (.int .i64 4))] [] [(18, .v (.int .i64 4))] [0, 2, 16, 17] [] [1, 0] [] [] 2 hR hI (.cons (congrArg (Value.int .i64) (by decide : IntKind.i64.wrap ((3 : Int) + (1 : Int)) = 4)) .nil) fun e27 a27 w27 hag hR hI => ?_
     replace hA := hA.trans hag (by decide)
     refine then_n ?_
     replace hbk0 := tb hA hbk0
     exact ⟨(4, a0, a1, a2, xs.getD 3 0), _, _, _, _, hB, ⟨hbk0, ⟨⟨hx, by omega⟩, by unfold FromI at hp ⊢; omega⟩⟩, (by dsimp only; omega), hR.sel [0, 1] [] (by kernel_rfl) (by kernel_rfl), hI.sel [0, 2, 16, 17, 18] (by kernel_rfl)⟩
   ·
    replace hI := hI.rb 19 hc15
    try simp only [tolds] at hc15
    replace hil : i = xs.length := by omega
    refine wp_exit ?_
    refine exit_then ?_
    refine exit_then ?_
    refine exit_hit ?_
    refine then_n ?_
    refine wp_seq ?_
    refine wp_seq (reg (is := [0, 1, 2]) (by kernel_rfl) ?_)
    refine pZ tab [0] [1, 2] 2 [(28, .p 0 0)] [2] hR hI fun e28 a28 w28 hag hR hI => ?_
    replace hA := hA.trans hag (by decide)
    refine cO [.p 0 0] hI Tryz.func57 ?_
    have hq0_ := hR.blk ⟨0, 84, [vB ng, vS ad l xc]⟩ m0
    refine (isign_spec (C := fun _ => False) hq0_.1 (fun h_ => h_)).mono ?_
    rintro ex w29 ⟨rfl, hk, hw0⟩
    have hkF_ := hR.keepN hk (all_cons hq0_.2 all_no)
    have hR_ : Rel (Grow _ _ w29) w29 e28 [⟨0, 84, [vB ng, vS ad l xc]⟩, ⟨1, 50, [vU a0, vU a1, vU a2, vU a3]⟩] [] w29 := hR.turnedN hk (all_cons hq0_.2 all_no) (all_cons ⟨⟨_, m0, rfl⟩, .inr hw0⟩ (all_cons ⟨⟨_, m1, rfl⟩, .inl ⟨m1, (notin2 (hR.hh _ m1 _ m0 (by dsimp only; decide)) (fun hm_ => by cases hm_))⟩⟩ all_no)) all_no
    replace hx := hx.nextF hB hR hkF_
    have hB_ := hB.nextF hR hkF_
    replace hR := hR_; clear hR_
    replace hB := hB_; clear hB_ hk hkF_ hq0_ hw0
    refine ⟨_, rfl, ?_⟩
    replace hI := hI.pt 29 (.v (.int .i64 (if l = 0 then 0 else if ng = true then -1 else 1))) [29, 28, 2]
    refine pZ tab [2] [] 2 [(30, vB (decide ((if l = 0 then 0 else if ng = true then -1 else 1) < (0 : Int))))] [2] hR hI fun e30 a30 w30 hag hR hI => ?_
    replace hA := hA.trans hag (by decide)
    refine ops_nil (then_n ?_)
    refine cnd (b := decide ((if l = 0 then 0 else if ng = true then -1 else 1) < (0 : Int))) hI (by kernel_rfl) (fun hc31 => ?_) (fun hc31 => ?_)
    ·
     replace hI := hI.rb 30 hc31
     try simp only [tolds] at hc31
     have hng : ng = true := by
      cases ng
      · first | rfl | (exfalso; have h_ := hc31; rw [if_neg (by omega : ¬ l = 0)] at h_; revert h_; decide)
      · first | rfl | (exfalso; have h_ := hc31; rw [if_neg (by omega : ¬ l = 0)] at h_; revert h_; decide)
     refine wp_seq (reg (is := [0, 1, 2]) (by kernel_rfl) ?_)
     refine pZ tab [0] [1, 2] 2 [(31, .agg [vU a0, vU a1, vU a2, vU a3])] [2] hR hI fun e32 a32 w32 hag hR hI => ?_
     replace hA := hA.trans hag (by decide)
     refine cO [.agg [vU a0, vU a1, vU a2, vU a3]] hI Tryz.func60 ?_
     obtain ⟨haq, hae⟩ := fromI_end hp hil (by omega) hx.dig
     refine (neg256_spec (C := C) haq (by omega)).mono ?_
     rintro ex w33 ⟨q0, q1, q2, q3, rfl, hk, hq, hvq⟩
     replace hR := hR.same hk; clear hk
     refine ⟨_, rfl, ?_⟩
     replace hI := hI.pt 32 (.v (.agg #[.int .u64 (q0 : Int), .int .u64 (q1 : Int), .int .u64 (q2 : Int), .int .u64 (q3 : Int)])) [32, 31, 2]
     refine pK tab [2] [] 2 [] [] [] [2] [⟨1, 50, [vU q0, vU q1, vU q2, vU q3]⟩] [0] [] [] 2 hR hI .nil fun e34 a34 w34 hag hR hI => ?_
     replace hA := hA.trans hag (by decide)
     refine ops_nil (then_n ?_)
     refine wp_ret ?_
     refine ret_then ?_
     refine oN tab [.agg [vU q0, vU q1, vU q2, vU q3]] hR hI ?_
     replace hbk0 := tb hA hbk0
     exact ⟨q0, q1, q2, q3, rfl, hB.fin hR, (by have h_ := (hR.blk ⟨0, 84, [vB ng, vS ad l xc]⟩ m1).1; rw [hbk0] at h_; exact h_), hq, by rw [if_pos hng]; exact (swv4_of hq hlim).2 hvp (by rw [hvq, hae])⟩
    ·
     replace hI := hI.rb 30 hc31
     try simp only [tolds] at hc31
     have hng : ng = false := by
      cases ng
      · first | rfl | (exfalso; have h_ := hc31; rw [if_neg (by omega : ¬ l = 0)] at h_; revert h_; decide)
      · first | rfl | (exfalso; have h_ := hc31; rw [if_neg (by omega : ¬ l = 0)] at h_; revert h_; decide)
     refine wp_skip ?_
     refine then_n ?_
     refine wp_ret (oN tab [.agg [vU a0, vU a1, vU a2, vU a3]] hR hI ?_)
     replace hbk0 := tb hA hbk0
     obtain ⟨haq, hae⟩ := fromI_end hp hil (by omega) hx.dig
     exact ⟨a0, a1, a2, a3, rfl, hB.fin hR, (by have h_ := (hR.blk ⟨0, 84, [vB ng, vS ad l xc]⟩ m0).1; rw [hbk0] at h_; exact h_), haq, by rw [if_neg (by rw [hng]; decide)]; exact (swv4_of haq hlim).1 hae⟩

end Go.Proofs.YtmendapdibnbdaaGreatDoor.Stride
