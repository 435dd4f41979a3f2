/- Walks of the program's functions, printed by a program of mine (walk.py) over the words of Stride: each function's contract. -/
import Derived.Test.YteipgknmhpilfaaDecR
namespace Go.Proofs.Yteipgknmhpilfaa.Stride
open Go Go.RowKit Go.Proofs.Yteipgknmhpilfaa.Mag
set_option linter.unusedVariables false
set_option linter.unusedSimpArgs false
/-- Four words tell a number, cut to 256 bits. -/
def Four (q0 q1 q2 q3 : Nat) (v : Int) : Prop := (q0 < 18446744073709551616 ∧ q1 < 18446744073709551616 ∧ q2 < 18446744073709551616 ∧ q3 < 18446744073709551616) ∧ (wval [q0, q1, q2, q3] : Int) = v % ((2 ^ (64 * 4) : Nat) : Int)
theorem two256 : ((2 ^ (64 * 4) : Nat) : Int) = 115792089237316195423570985008687907853269984665640564039457584007913129639936 := by decide
theorem wval4 (a b c d : Nat) : wval [a, b, c, d] = a + 18446744073709551616 * (b + 18446744073709551616 * (c + 18446744073709551616 * d)) := by simp [wval]
theorem four_pos {m : Nat} {v : Int} (h : m < 18446744073709551616) (hv : (m : Int) = v) : Four m 0 0 0 v := by
  refine ⟨⟨h, by decide, by decide, by decide⟩, ?_⟩
  rw [wval4, two256]; omega
theorem four_neg {m : Nat} {v : Int} (h : m < 18446744073709551616) (hv : (m : Int) = v + 18446744073709551616) : Four m 18446744073709551615 18446744073709551615 18446744073709551615 v := by
  refine ⟨⟨h, by decide, by decide, by decide⟩, ?_⟩
  rw [wval4, two256]; omega
set_option maxRecDepth 100000 in
theorem equal46 {w : World} {a b c d : Int} : (Op.equal 46 (.agg #[.int .u64 a, .int .i64 b]) (.agg #[.int .u64 c, .int .i64 d])).run P w = .ok ((a == c) && (b == d)) w := by
  have hs : P.stoodInHeld 46 = false := by kernel_rfl
  have hf := show Try.prog.fieldsOf 46 = _ by simp [Program.fieldsOf, Try.underlying46]; rfl
  show (Op.equalIn (9999 + 1) 46 _ _).run P w = _
  rw [run_equalIn_struct (P := P) w 9999 46 _ _ (by rw [hf]; exact Try.underlying46) hs, hf]
  simp [Op.eqFields, go_sem]
  by_cases h1 : a = c <;> by_cases h2 : b = d <;> simp [h1, h2]
theorem eq46 {w : World} {ev : Operand → Value} {o : Oper} {x y : Operand} {a b c d : Int} (ho : o.op = .binOp .eql 46 x y 46) (h3 : ev x = .agg #[.int .u64 a, .int .i64 b]) (h4 : ev y = .agg #[.int .u64 c, .int .i64 d]) :
    (execOp ev o).run P w = .ok (.value (.bool ((a == c) && (b == d)))) w := by
  have hg := run_eqGuard_agg (P := P) w .eql 46 x y #[.int .u64 a, .int .i64 b] #[.int .u64 c, .int .i64 d] (by kernel_rfl)
  have hb : (binOp .eql 46 (.agg #[.int .u64 a, .int .i64 b]) (.agg #[.int .u64 c, .int .i64 d])).run P w = .ok (.bool ((a == c) && (b == d))) w := by simp [binOp, equal46]
  simp [execOp, ho, h3, h4, hg, hb]
theorem sign_or {hi : Int} (h1 : -9223372036854775808 ≤ hi) (h2 : hi ≤ 9223372036854775807) : (bits .or .i64 1 (hi / 9223372036854775808) < 0) ↔ hi < 0 := by
  have h : hi / 9223372036854775808 = 0 ∨ hi / 9223372036854775808 = -1 := by omega
  rcases h with h | h
  · rw [h]
    have e : bits .or .i64 1 0 = 1 := by decide
    rw [e]; omega
  · rw [h]
    have e : bits .or .i64 1 (-1) = -1 := by decide
    rw [e]; omega
theorem four_of {l m : Nat} {hi : Int} (hl : l < 18446744073709551616) (h1 : -9223372036854775808 ≤ hi) (h2 : hi ≤ 9223372036854775807) (hm : IntKind.u64.wrap hi = (m : Int)) (hmb : m < 18446744073709551616) :
    (hi < 0 → Four l m 18446744073709551615 18446744073709551615 ((l : Int) + 18446744073709551616 * hi)) ∧ (¬ hi < 0 → Four l m 0 0 ((l : Int) + 18446744073709551616 * hi)) := by
  rw [wrap_u64] at hm
  constructor
  · intro h
    refine ⟨⟨hl, hmb, by decide, by decide⟩, ?_⟩
    rw [wval4, two256]; omega
  · intro h
    refine ⟨⟨hl, hmb, by decide, by decide⟩, ?_⟩
    rw [wval4, two256]; omega
theorem dig64_4 {a b c d : Nat} (h : a < 18446744073709551616 ∧ b < 18446744073709551616 ∧ c < 18446744073709551616 ∧ d < 18446744073709551616) : ∀ x ∈ [a, b, c, d], x < 18446744073709551616 := fun x hx => by
  have h1 : x = a ∨ x = b ∨ x = c ∨ x = d := by simpa using hx
  omega
theorem dig_split {x : Nat} (h : x < 18446744073709551616) : Dig [x % 4294967296, x / 4294967296] := fun d hd => by
  have h1 : d = x % 4294967296 ∨ d = x / 4294967296 := by simpa using hd
  omega
theorem val_split2 (x : Nat) : val [x % 4294967296, x / 4294967296] = x := by simp only [val]; omega
/-- What DecFrom is asked to tell. -/
def fromV (n : Nat) (sg : Bool) : Int := if sg then IntKind.i64.wrap (n : Int) else (n : Int)
/-- Words that tell a number, cut. -/
def Tells (k v : Int) (us : List Nat) : Prop := us.length = nwords k ∧ (wval us : Int) = v % ((2 ^ (64 * nwords k) : Nat) : Int)
theorem two128 : ((2 ^ (64 * nwords 128) : Nat) : Int) = 340282366920938463463374607431768211456 := by decide
theorem tells128 {l m : Nat} {hi v : Int} (hl : l < 18446744073709551616) (hm : IntKind.u64.wrap hi = (m : Int)) (he : (l : Int) + 18446744073709551616 * hi = v) : Tells 128 v [l, m] := by
  refine ⟨show 2 = nwords 128 by decide, ?_⟩
  have e1 : wval [l, m] = l + 18446744073709551616 * m := by simp [wval]
  rw [wrap_u64] at hm
  rw [e1, two128]; omega
theorem tells256 {q0 q1 q2 q3 : Nat} {v : Int} (h : Four q0 q1 q2 q3 v) : Tells 256 v [q0, q1, q2, q3] := ⟨rfl, h.2⟩
theorem wval_inj : ∀ {xs ys : List Nat}, xs.length = ys.length → (∀ d ∈ xs, d < 18446744073709551616) → (∀ d ∈ ys, d < 18446744073709551616) → wval xs = wval ys → xs = ys
  | [], [], _, _, _, _ => rfl
  | x :: xs, y :: ys, hl, hx, hy, h => by
    have h1 := hx x (by simp)
    have h2 := hy y (by simp)
    simp only [wval] at h
    have e1 : x = y := by omega
    have e2 : wval xs = wval ys := by omega
    have hl' : xs.length = ys.length := by simpa using hl
    rw [e1, wval_inj hl' (fun d hd => hx d (by simp [hd])) (fun d hd => hy d (by simp [hd])) e2]
theorem from_law {k v : Int} {us ts : List Nat} (h32 : k ≠ 32) (hu : ∀ d ∈ us, d < 18446744073709551616) (ht : ∀ d ∈ ts, d < 18446744073709551616) (h : Tells k v us) (hW : Wrapped k v ts) : us = ts := by
  obtain ⟨h1, h2⟩ := hW.2 h32
  refine wval_inj (by rw [h.1, h1]) hu ht ?_
  have := h.2
  omega
theorem from_two {us : List Nat} (hu : ∀ d ∈ us, d < 18446744073709551616) (h : Tells 128 (fromV 2 true) us) : us = [2, 0] := by
  refine wval_inj (h.1.trans (by decide)) hu (dig64_2 (by decide) (by decide)) ?_
  have h2 := h.2
  have e : fromV 2 true % ((2 ^ (64 * nwords 128) : Nat) : Int) = 2 := by decide
  rw [e] at h2
  have e2 : wval [2, 0] = 2 := by decide
  omega
theorem from_ok {k : Int} {b : Bool} (h : (((k != (128 : Int)) && (k != (256 : Int))) || (b && (k != (256 : Int)))) = false) : (k = 128 ∧ b = false) ∨ k = 256 := by
  simp only [Bool.or_eq_false_iff, Bool.and_eq_false_iff, bne_eq_false_iff_eq] at h
  obtain ⟨h1, h2⟩ := h
  rcases h1 with h1 | h1
  · rcases h2 with h2 | h2
    · exact .inl ⟨h1, h2⟩
    · exact .inr h2
  · exact .inr h1


set_option maxHeartbeats 4000000 in
set_option maxRecDepth 100000 in
theorem new256_spec {w : World} {C : Nat → Prop} (a b c d : Int) :
    Calls P 31 #[.int .u64 a, .int .u64 b, .int .u64 c, .int .u64 d] w fun ex w' => ex = .returned (.agg #[.int .u64 d, .int .u64 c, .int .u64 b, .int .u64 a]) ∧ Keep (fun b => b < w.heap.size) w w' := by
  refine doorN (e := e0) (vs := [.v (.int .u64 a), .v (.int .u64 b), .v (.int .u64 c), .v (.int .u64 d)]) (n := 15) (m := 4) Try.func31 rfl rfl rfl (by decide) fun a_ hI => ?_
  replace hI : Is 15 [] e0 [(0, .v (.int .u64 a)), (1, .v (.int .u64 b)), (2, .v (.int .u64 c)), (3, .v (.int .u64 d))] a_ := hI
  have hR : Rel (fun b => b < w.heap.size) w e0 [] [] w := Rel.start (fun k hk => hk)
  have hB : Base C w C (fun b => b < w.heap.size) w := Base.start
  refine reg_seq tab (k := 0) (hs := []) (sy := []) (ks := [8, 0, 1, 2, 3]) (bs := [0]) (gs := [])
      (L' := [(8, .p 0 0), (0, .v (.int .u64 a)), (1, .v (.int .u64 b)), (2, .v (.int .u64 c)), (3, .v (.int .u64 d))])
      (H' := [⟨0, 49, [.v (.int .u64 0), .v (.int .u64 0), .v (.int .u64 0), .v (.int .u64 0)]⟩]) (G' := []) (k' := 1) hR hI (by kernel_rfl)
      .nil (fun e1 a1 w1 hag hR hI => ?_)
  refine reg_seq tab (k := 1) (hs := []) (sy := []) (ks := [8]) (bs := [0]) (gs := [])
      (L' := [(8, .p 0 0)])
      (H' := [⟨0, 49, [.v (.int .u64 d), .v (.int .u64 c), .v (.int .u64 b), .v (.int .u64 a)]⟩]) (G' := []) (k' := 1) hR hI (by kernel_rfl)
      .nil (fun e2 a2 w2 hag hR hI => ?_)
  refine wp_ret ?_
  refine outN tab (xs := [.agg [.v (.int .u64 d), .v (.int .u64 c), .v (.int .u64 b), .v (.int .u64 a)]]) hR hI rfl (by kernel_rfl) ?_
  exact ⟨rfl, hB.fin hR⟩

set_option maxHeartbeats 4000000 in
set_option maxRecDepth 100000 in
theorem fromI64_128 {w : World} {C : Nat → Prop} (v : Int) (hv : -9223372036854775808 ≤ v ∧ v ≤ 9223372036854775807) :
    Calls P 25 #[.int .i64 v] w fun ex w' => ∃ (l : Nat) (hi : Int), ex = .returned (.agg #[.int .u64 ((l : Nat) : Int), .int .i64 hi]) ∧ Keep (fun b => b < w.heap.size) w w' ∧ l < 18446744073709551616 ∧ -9223372036854775808 ≤ hi ∧ hi ≤ 9223372036854775807 ∧ (l : Int) + 18446744073709551616 * hi =  v := by
  refine doorN (e := e0) (vs := [.v (.int .i64 v)]) (n := 16) (m := 1) Try.func25 rfl rfl rfl (by decide) fun a_ hI => ?_
  replace hI : Is 16 [] e0 [(0, .v (.int .i64 v))] a_ := hI
  have hR : Rel (fun b => b < w.heap.size) w e0 [] [] w := Rel.start (fun k hk => hk)
  have hB : Base C w C (fun b => b < w.heap.size) w := Base.start
  obtain ⟨m, hm, hmb⟩ := u64_nat v; have hm2 := hm; rw [wrap_u64] at hm2
  refine reg_seq tab (k := 0) (hs := []) (sy := []) (ks := [2, 0]) (bs := [0]) (gs := [])
      (L' := [(2, .p 0 0), (0, .v (.int .i64 v))])
      (H' := [⟨0, 46, [.v (.int .u64 0), .v (.int .i64 0)]⟩]) (G' := []) (k' := 1) hR hI (by kernel_rfl)
      .nil (fun e1 a1 w1 hag hR hI => ?_)
  refine wp_block ?_
  refine reg_seq tab (k := 1) (hs := []) (sy := []) (ks := [4, 2, 0]) (bs := [0]) (gs := [])
      (L' := [(4, .v (.bool (decide (v > (0 : Int))))), (2, .p 0 0), (0, .v (.int .i64 v))])
      (H' := [⟨0, 46, [.v (.int .u64 0), .v (.int .i64 0)]⟩]) (G' := []) (k' := 1) hR hI (by kernel_rfl)
      .nil (fun e2 a2 w2 hag hR hI => ?_)
  refine cnd (b := decide (v > (0 : Int))) hI (by kernel_rfl) (fun hc3 => ?_) (fun hc3 => ?_)
  · skip
    replace hI := hI.re 4 (.v (.bool true)) rfl (congrArg Value.bool hc3)
    try simp only [decide_eq_true_eq, decide_eq_false_iff_not, beq_iff_eq, bne_iff_ne, beq_eq_false_iff_ne, bne_eq_false_iff_eq, Bool.and_eq_true, Bool.and_eq_false_iff, Bool.or_eq_true, Bool.or_eq_false_iff, Bool.not_eq_true', Bool.not_eq_false', ne_eq] at hc3
    refine wp_seq ?_
    refine reg (is := [0, 1, 2, 3]) (by kernel_rfl) ?_
    refine part_ tab [0, 1] [2, 3] (by rfl) (k := 1) (hs := [(1, .eq (.int .u64 ((m : Nat) : Int)))]) (sy := []) (ks := [8, 2]) (bs := [0]) (gs := [])
        (L' := [(8, .v (.int .u64 ((m : Nat) : Int))), (2, .p 0 0)])
        (H' := [⟨0, 46, [.v (.int .u64 0), .v (.int .i64 0)]⟩]) (G' := []) (k' := 1) hR hI (by kernel_rfl)
        (.cons (congrArg (Value.int .u64) (hm : IntKind.u64.wrap v = ((m : Nat) : Int))) .nil) (fun e4 a4 w4 hag hR hI => ?_)
    refine callOp (ys := [.v (.int .i64 0), .v (.int .u64 ((m : Nat) : Int))]) hI rfl rfl ⟨_, rfl, rfl, rfl⟩ (by kernel_rfl) Try.func30 rfl rfl ?_
    refine (new128_spec (C := C) (0 : Int) ((m : Nat) : Int)).mono ?_
    rintro ex w5 ⟨rfl, hk⟩
    replace hR := hR.same hk; clear hk
    refine ⟨_, rfl, ?_⟩
    replace hI := hI.put (d := some 9) (x := .v (.agg #[.int .u64 ((m : Nat) : Int), .int .i64 0])) (by intro t ht; cases ht; decide) rfl
    replace hI := hI.sel [9, 8, 2] (by kernel_rfl : sel _ _ = some [(9, .v (.agg #[.int .u64 ((m : Nat) : Int), .int .i64 0])), (8, .v (.int .u64 ((m : Nat) : Int))), (2, .p 0 0)])
    refine part_ tab [3] [] (by rfl) (k := 1) (hs := []) (sy := []) (ks := [2]) (bs := [0]) (gs := [])
        (L' := [(2, .p 0 0)])
        (H' := [⟨0, 46, [.v (.int .u64 ((m : Nat) : Int)), .v (.int .i64 0)]⟩]) (G' := []) (k' := 1) hR hI (by kernel_rfl)
        .nil (fun e6 a6 w6 hag hR hI => ?_)
    refine ops_nil ?_
    refine then_n ?_
    refine wp_ret ?_
    refine ret_block ?_
    refine outN tab (xs := [.agg [.v (.int .u64 ((m : Nat) : Int)), .v (.int .i64 0)]]) hR hI rfl (by kernel_rfl) ?_
    exact ⟨m, 0, rfl, hB.fin hR, hmb, by decide, by decide, by omega⟩
  · skip
    replace hI := hI.re 4 (.v (.bool false)) rfl (congrArg Value.bool hc3)
    try simp only [decide_eq_true_eq, decide_eq_false_iff_not, beq_iff_eq, bne_iff_ne, beq_eq_false_iff_ne, bne_eq_false_iff_eq, Bool.and_eq_true, Bool.and_eq_false_iff, Bool.or_eq_true, Bool.or_eq_false_iff, Bool.not_eq_true', Bool.not_eq_false', ne_eq] at hc3
    refine reg_seq tab (k := 1) (hs := []) (sy := []) (ks := [10, 2, 0]) (bs := [0]) (gs := [])
        (L' := [(10, .v (.bool (decide (v < (0 : Int))))), (2, .p 0 0), (0, .v (.int .i64 v))])
        (H' := [⟨0, 46, [.v (.int .u64 0), .v (.int .i64 0)]⟩]) (G' := []) (k' := 1) hR hI (by kernel_rfl)
        .nil (fun e7 a7 w7 hag hR hI => ?_)
    refine cnd (b := decide (v < (0 : Int))) hI (by kernel_rfl) (fun hc8 => ?_) (fun hc8 => ?_)
    · skip
      replace hI := hI.re 10 (.v (.bool true)) rfl (congrArg Value.bool hc8)
      try simp only [decide_eq_true_eq, decide_eq_false_iff_not, beq_iff_eq, bne_iff_ne, beq_eq_false_iff_ne, bne_eq_false_iff_eq, Bool.and_eq_true, Bool.and_eq_false_iff, Bool.or_eq_true, Bool.or_eq_false_iff, Bool.not_eq_true', Bool.not_eq_false', ne_eq] at hc8
      refine wp_seq ?_
      refine reg (is := [0, 1, 2, 3]) (by kernel_rfl) ?_
      refine part_ tab [0, 1] [2, 3] (by rfl) (k := 1) (hs := [(1, .eq (.int .u64 ((m : Nat) : Int)))]) (sy := []) (ks := [14, 2]) (bs := [0]) (gs := [])
          (L' := [(14, .v (.int .u64 ((m : Nat) : Int))), (2, .p 0 0)])
          (H' := [⟨0, 46, [.v (.int .u64 0), .v (.int .i64 0)]⟩]) (G' := []) (k' := 1) hR hI (by kernel_rfl)
          (.cons (congrArg (Value.int .u64) (hm : IntKind.u64.wrap v = ((m : Nat) : Int))) .nil) (fun e9 a9 w9 hag hR hI => ?_)
      refine callOp (ys := [.v (.int .i64 (-1)), .v (.int .u64 ((m : Nat) : Int))]) hI rfl rfl ⟨_, rfl, rfl, rfl⟩ (by kernel_rfl) Try.func30 rfl rfl ?_
      refine (new128_spec (C := C) (-1 : Int) ((m : Nat) : Int)).mono ?_
      rintro ex w10 ⟨rfl, hk⟩
      replace hR := hR.same hk; clear hk
      refine ⟨_, rfl, ?_⟩
      replace hI := hI.put (d := some 15) (x := .v (.agg #[.int .u64 ((m : Nat) : Int), .int .i64 (-1)])) (by intro t ht; cases ht; decide) rfl
      replace hI := hI.sel [15, 14, 2] (by kernel_rfl : sel _ _ = some [(15, .v (.agg #[.int .u64 ((m : Nat) : Int), .int .i64 (-1)])), (14, .v (.int .u64 ((m : Nat) : Int))), (2, .p 0 0)])
      refine part_ tab [3] [] (by rfl) (k := 1) (hs := []) (sy := []) (ks := [2]) (bs := [0]) (gs := [])
          (L' := [(2, .p 0 0)])
          (H' := [⟨0, 46, [.v (.int .u64 ((m : Nat) : Int)), .v (.int .i64 (-1))]⟩]) (G' := []) (k' := 1) hR hI (by kernel_rfl)
          .nil (fun e11 a11 w11 hag hR hI => ?_)
      refine ops_nil ?_
      refine then_n ?_
      refine wp_ret ?_
      refine ret_block ?_
      refine outN tab (xs := [.agg [.v (.int .u64 ((m : Nat) : Int)), .v (.int .i64 (-1))]]) hR hI rfl (by kernel_rfl) ?_
      exact ⟨m, -1, rfl, hB.fin hR, hmb, by decide, by decide, by omega⟩
    · skip
      replace hI := hI.re 10 (.v (.bool false)) rfl (congrArg Value.bool hc8)
      try simp only [decide_eq_true_eq, decide_eq_false_iff_not, beq_iff_eq, bne_iff_ne, beq_eq_false_iff_ne, bne_eq_false_iff_eq, Bool.and_eq_true, Bool.and_eq_false_iff, Bool.or_eq_true, Bool.or_eq_false_iff, Bool.not_eq_true', Bool.not_eq_false', ne_eq] at hc8
      refine reg_seq tab (k := 1) (hs := []) (sy := []) (ks := [2]) (bs := [0]) (gs := [])
          (L' := [(2, .p 0 0)])
          (H' := [⟨0, 46, [.v (.int .u64 0), .v (.int .i64 0)]⟩]) (G' := []) (k' := 1) hR hI (by kernel_rfl)
          .nil (fun e12 a12 w12 hag hR hI => ?_)
      refine wp_ret ?_
      refine ret_block ?_
      refine outN tab (xs := [.agg [.v (.int .u64 0), .v (.int .i64 0)]]) hR hI rfl (by kernel_rfl) ?_
      exact ⟨0, 0, rfl, hB.fin hR, by decide, by decide, by decide, by omega⟩

set_option maxHeartbeats 4000000 in
set_option maxRecDepth 100000 in
theorem fromU64_128 {w : World} {C : Nat → Prop} (v : Nat) (hv : v < 18446744073709551616) :
    Calls P 27 #[.int .u64 ((v : Nat) : Int)] w fun ex w' => ∃ (l : Nat) (hi : Int), ex = .returned (.agg #[.int .u64 ((l : Nat) : Int), .int .i64 hi]) ∧ Keep (fun b => b < w.heap.size) w w' ∧ l < 18446744073709551616 ∧ -9223372036854775808 ≤ hi ∧ hi ≤ 9223372036854775807 ∧ (l : Int) + 18446744073709551616 * hi =  (v : Int) := by
  refine doorN (e := e0) (vs := [.v (.int .u64 ((v : Nat) : Int))]) (n := 5) (m := 1) Try.func27 rfl rfl rfl (by decide) fun a_ hI => ?_
  replace hI : Is 5 [] e0 [(0, .v (.int .u64 ((v : Nat) : Int)))] a_ := hI
  have hR : Rel (fun b => b < w.heap.size) w e0 [] [] w := Rel.start (fun k hk => hk)
  have hB : Base C w C (fun b => b < w.heap.size) w := Base.start
  refine reg_seq tab (k := 0) (hs := []) (sy := []) (ks := [2, 0]) (bs := [0]) (gs := [])
      (L' := [(2, .p 0 0), (0, .v (.int .u64 ((v : Nat) : Int)))])
      (H' := [⟨0, 46, [.v (.int .u64 0), .v (.int .i64 0)]⟩]) (G' := []) (k' := 1) hR hI (by kernel_rfl)
      .nil (fun e1 a1 w1 hag hR hI => ?_)
  refine wp_seq ?_
  refine reg (is := [0, 1, 2]) (by kernel_rfl) ?_
  refine part_ tab [0] [1, 2] (by rfl) (k := 1) (hs := []) (sy := []) (ks := [3, 2]) (bs := [0]) (gs := [])
      (L' := [(3, .v (.int .u64 ((v : Nat) : Int))), (2, .p 0 0)])
      (H' := [⟨0, 46, [.v (.int .u64 0), .v (.int .i64 0)]⟩]) (G' := []) (k' := 1) hR hI (by kernel_rfl)
      .nil (fun e2 a2 w2 hag hR hI => ?_)
  refine callOp (ys := [.v (.int .i64 0), .v (.int .u64 ((v : Nat) : Int))]) hI rfl rfl ⟨_, rfl, rfl, rfl⟩ (by kernel_rfl) Try.func30 rfl rfl ?_
  refine (new128_spec (C := C) (0 : Int) ((v : Nat) : Int)).mono ?_
  rintro ex w3 ⟨rfl, hk⟩
  replace hR := hR.same hk; clear hk
  refine ⟨_, rfl, ?_⟩
  replace hI := hI.put (d := some 4) (x := .v (.agg #[.int .u64 ((v : Nat) : Int), .int .i64 0])) (by intro t ht; cases ht; decide) rfl
  replace hI := hI.sel [4, 3, 2] (by kernel_rfl : sel _ _ = some [(4, .v (.agg #[.int .u64 ((v : Nat) : Int), .int .i64 0])), (3, .v (.int .u64 ((v : Nat) : Int))), (2, .p 0 0)])
  refine part_ tab [2] [] (by rfl) (k := 1) (hs := []) (sy := []) (ks := [2]) (bs := [0]) (gs := [])
      (L' := [(2, .p 0 0)])
      (H' := [⟨0, 46, [.v (.int .u64 ((v : Nat) : Int)), .v (.int .i64 0)]⟩]) (G' := []) (k' := 1) hR hI (by kernel_rfl)
      .nil (fun e4 a4 w4 hag hR hI => ?_)
  refine ops_nil ?_
  refine then_n ?_
  refine wp_ret ?_
  refine outN tab (xs := [.agg [.v (.int .u64 ((v : Nat) : Int)), .v (.int .i64 0)]]) hR hI rfl (by kernel_rfl) ?_
  exact ⟨v, 0, rfl, hB.fin hR, hv, by decide, by decide, by omega⟩

set_option maxHeartbeats 4000000 in
set_option maxRecDepth 100000 in
theorem fromI64_256 {w : World} {C : Nat → Prop} (v : Int) (hv : -9223372036854775808 ≤ v ∧ v ≤ 9223372036854775807) :
    Calls P 26 #[.int .i64 v] w fun ex w' => ∃ q0 q1 q2 q3 : Nat, ex = .returned (.agg #[.int .u64 ((q0 : Nat) : Int), .int .u64 ((q1 : Nat) : Int), .int .u64 ((q2 : Nat) : Int), .int .u64 ((q3 : Nat) : Int)]) ∧ Keep (fun b => b < w.heap.size) w w' ∧ Four q0 q1 q2 q3  v := by
  refine doorN (e := e0) (vs := [.v (.int .i64 v)]) (n := 16) (m := 1) Try.func26 rfl rfl rfl (by decide) fun a_ hI => ?_
  replace hI : Is 16 [] e0 [(0, .v (.int .i64 v))] a_ := hI
  have hR : Rel (fun b => b < w.heap.size) w e0 [] [] w := Rel.start (fun k hk => hk)
  have hB : Base C w C (fun b => b < w.heap.size) w := Base.start
  obtain ⟨m, hm, hmb⟩ := u64_nat v; have hm2 := hm; rw [wrap_u64] at hm2
  refine reg_seq tab (k := 0) (hs := []) (sy := []) (ks := [2, 0]) (bs := [0]) (gs := [])
      (L' := [(2, .p 0 0), (0, .v (.int .i64 v))])
      (H' := [⟨0, 49, [.v (.int .u64 0), .v (.int .u64 0), .v (.int .u64 0), .v (.int .u64 0)]⟩]) (G' := []) (k' := 1) hR hI (by kernel_rfl)
      .nil (fun e1 a1 w1 hag hR hI => ?_)
  refine wp_block ?_
  refine reg_seq tab (k := 1) (hs := []) (sy := []) (ks := [4, 2, 0]) (bs := [0]) (gs := [])
      (L' := [(4, .v (.bool (decide (v > (0 : Int))))), (2, .p 0 0), (0, .v (.int .i64 v))])
      (H' := [⟨0, 49, [.v (.int .u64 0), .v (.int .u64 0), .v (.int .u64 0), .v (.int .u64 0)]⟩]) (G' := []) (k' := 1) hR hI (by kernel_rfl)
      .nil (fun e2 a2 w2 hag hR hI => ?_)
  refine cnd (b := decide (v > (0 : Int))) hI (by kernel_rfl) (fun hc3 => ?_) (fun hc3 => ?_)
  · skip
    replace hI := hI.re 4 (.v (.bool true)) rfl (congrArg Value.bool hc3)
    try simp only [decide_eq_true_eq, decide_eq_false_iff_not, beq_iff_eq, bne_iff_ne, beq_eq_false_iff_ne, bne_eq_false_iff_eq, Bool.and_eq_true, Bool.and_eq_false_iff, Bool.or_eq_true, Bool.or_eq_false_iff, Bool.not_eq_true', Bool.not_eq_false', ne_eq] at hc3
    refine wp_seq ?_
    refine reg (is := [0, 1, 2, 3]) (by kernel_rfl) ?_
    refine part_ tab [0, 1] [2, 3] (by rfl) (k := 1) (hs := [(1, .eq (.int .u64 ((m : Nat) : Int)))]) (sy := []) (ks := [8, 2]) (bs := [0]) (gs := [])
        (L' := [(8, .v (.int .u64 ((m : Nat) : Int))), (2, .p 0 0)])
        (H' := [⟨0, 49, [.v (.int .u64 0), .v (.int .u64 0), .v (.int .u64 0), .v (.int .u64 0)]⟩]) (G' := []) (k' := 1) hR hI (by kernel_rfl)
        (.cons (congrArg (Value.int .u64) (hm : IntKind.u64.wrap v = ((m : Nat) : Int))) .nil) (fun e4 a4 w4 hag hR hI => ?_)
    refine callOp (ys := [.v (.int .u64 0), .v (.int .u64 0), .v (.int .u64 0), .v (.int .u64 ((m : Nat) : Int))]) hI rfl rfl ⟨_, rfl, rfl, rfl⟩ (by kernel_rfl) Try.func31 rfl rfl ?_
    refine (new256_spec (C := C) (0 : Int) (0 : Int) (0 : Int) ((m : Nat) : Int)).mono ?_
    rintro ex w5 ⟨rfl, hk⟩
    replace hR := hR.same hk; clear hk
    refine ⟨_, rfl, ?_⟩
    replace hI := hI.put (d := some 9) (x := .v (.agg #[.int .u64 ((m : Nat) : Int), .int .u64 0, .int .u64 0, .int .u64 0])) (by intro t ht; cases ht; decide) rfl
    replace hI := hI.sel [9, 8, 2] (by kernel_rfl : sel _ _ = some [(9, .v (.agg #[.int .u64 ((m : Nat) : Int), .int .u64 0, .int .u64 0, .int .u64 0])), (8, .v (.int .u64 ((m : Nat) : Int))), (2, .p 0 0)])
    refine part_ tab [3] [] (by rfl) (k := 1) (hs := []) (sy := []) (ks := [2]) (bs := [0]) (gs := [])
        (L' := [(2, .p 0 0)])
        (H' := [⟨0, 49, [.v (.int .u64 ((m : Nat) : Int)), .v (.int .u64 0), .v (.int .u64 0), .v (.int .u64 0)]⟩]) (G' := []) (k' := 1) hR hI (by kernel_rfl)
        .nil (fun e6 a6 w6 hag hR hI => ?_)
    refine ops_nil ?_
    refine then_n ?_
    refine wp_ret ?_
    refine ret_block ?_
    refine outN tab (xs := [.agg [.v (.int .u64 ((m : Nat) : Int)), .v (.int .u64 0), .v (.int .u64 0), .v (.int .u64 0)]]) hR hI rfl (by kernel_rfl) ?_
    exact ⟨m, 0, 0, 0, rfl, hB.fin hR, four_pos hmb (by omega)⟩
  · skip
    replace hI := hI.re 4 (.v (.bool false)) rfl (congrArg Value.bool hc3)
    try simp only [decide_eq_true_eq, decide_eq_false_iff_not, beq_iff_eq, bne_iff_ne, beq_eq_false_iff_ne, bne_eq_false_iff_eq, Bool.and_eq_true, Bool.and_eq_false_iff, Bool.or_eq_true, Bool.or_eq_false_iff, Bool.not_eq_true', Bool.not_eq_false', ne_eq] at hc3
    refine reg_seq tab (k := 1) (hs := []) (sy := []) (ks := [10, 2, 0]) (bs := [0]) (gs := [])
        (L' := [(10, .v (.bool (decide (v < (0 : Int))))), (2, .p 0 0), (0, .v (.int .i64 v))])
        (H' := [⟨0, 49, [.v (.int .u64 0), .v (.int .u64 0), .v (.int .u64 0), .v (.int .u64 0)]⟩]) (G' := []) (k' := 1) hR hI (by kernel_rfl)
        .nil (fun e7 a7 w7 hag hR hI => ?_)
    refine cnd (b := decide (v < (0 : Int))) hI (by kernel_rfl) (fun hc8 => ?_) (fun hc8 => ?_)
    · skip
      replace hI := hI.re 10 (.v (.bool true)) rfl (congrArg Value.bool hc8)
      try simp only [decide_eq_true_eq, decide_eq_false_iff_not, beq_iff_eq, bne_iff_ne, beq_eq_false_iff_ne, bne_eq_false_iff_eq, Bool.and_eq_true, Bool.and_eq_false_iff, Bool.or_eq_true, Bool.or_eq_false_iff, Bool.not_eq_true', Bool.not_eq_false', ne_eq] at hc8
      refine wp_seq ?_
      refine reg (is := [0, 1, 2, 3]) (by kernel_rfl) ?_
      refine part_ tab [0, 1] [2, 3] (by rfl) (k := 1) (hs := [(1, .eq (.int .u64 ((m : Nat) : Int)))]) (sy := []) (ks := [14, 2]) (bs := [0]) (gs := [])
          (L' := [(14, .v (.int .u64 ((m : Nat) : Int))), (2, .p 0 0)])
          (H' := [⟨0, 49, [.v (.int .u64 0), .v (.int .u64 0), .v (.int .u64 0), .v (.int .u64 0)]⟩]) (G' := []) (k' := 1) hR hI (by kernel_rfl)
          (.cons (congrArg (Value.int .u64) (hm : IntKind.u64.wrap v = ((m : Nat) : Int))) .nil) (fun e9 a9 w9 hag hR hI => ?_)
      refine callOp (ys := [.v (.int .u64 18446744073709551615), .v (.int .u64 18446744073709551615), .v (.int .u64 18446744073709551615), .v (.int .u64 ((m : Nat) : Int))]) hI rfl rfl ⟨_, rfl, rfl, rfl⟩ (by kernel_rfl) Try.func31 rfl rfl ?_
      refine (new256_spec (C := C) (18446744073709551615 : Int) (18446744073709551615 : Int) (18446744073709551615 : Int) ((m : Nat) : Int)).mono ?_
      rintro ex w10 ⟨rfl, hk⟩
      replace hR := hR.same hk; clear hk
      refine ⟨_, rfl, ?_⟩
      replace hI := hI.put (d := some 15) (x := .v (.agg #[.int .u64 ((m : Nat) : Int), .int .u64 18446744073709551615, .int .u64 18446744073709551615, .int .u64 18446744073709551615])) (by intro t ht; cases ht; decide) rfl
      replace hI := hI.sel [15, 14, 2] (by kernel_rfl : sel _ _ = some [(15, .v (.agg #[.int .u64 ((m : Nat) : Int), .int .u64 18446744073709551615, .int .u64 18446744073709551615, .int .u64 18446744073709551615])), (14, .v (.int .u64 ((m : Nat) : Int))), (2, .p 0 0)])
      refine part_ tab [3] [] (by rfl) (k := 1) (hs := []) (sy := []) (ks := [2]) (bs := [0]) (gs := [])
          (L' := [(2, .p 0 0)])
          (H' := [⟨0, 49, [.v (.int .u64 ((m : Nat) : Int)), .v (.int .u64 18446744073709551615), .v (.int .u64 18446744073709551615), .v (.int .u64 18446744073709551615)]⟩]) (G' := []) (k' := 1) hR hI (by kernel_rfl)
          .nil (fun e11 a11 w11 hag hR hI => ?_)
      refine ops_nil ?_
      refine then_n ?_
      refine wp_ret ?_
      refine ret_block ?_
      refine outN tab (xs := [.agg [.v (.int .u64 ((m : Nat) : Int)), .v (.int .u64 18446744073709551615), .v (.int .u64 18446744073709551615), .v (.int .u64 18446744073709551615)]]) hR hI rfl (by kernel_rfl) ?_
      exact ⟨m, 18446744073709551615, 18446744073709551615, 18446744073709551615, rfl, hB.fin hR, four_neg hmb (by omega)⟩
    · skip
      replace hI := hI.re 10 (.v (.bool false)) rfl (congrArg Value.bool hc8)
      try simp only [decide_eq_true_eq, decide_eq_false_iff_not, beq_iff_eq, bne_iff_ne, beq_eq_false_iff_ne, bne_eq_false_iff_eq, Bool.and_eq_true, Bool.and_eq_false_iff, Bool.or_eq_true, Bool.or_eq_false_iff, Bool.not_eq_true', Bool.not_eq_false', ne_eq] at hc8
      refine reg_seq tab (k := 1) (hs := []) (sy := []) (ks := [2]) (bs := [0]) (gs := [])
          (L' := [(2, .p 0 0)])
          (H' := [⟨0, 49, [.v (.int .u64 0), .v (.int .u64 0), .v (.int .u64 0), .v (.int .u64 0)]⟩]) (G' := []) (k' := 1) hR hI (by kernel_rfl)
          .nil (fun e12 a12 w12 hag hR hI => ?_)
      refine wp_ret ?_
      refine ret_block ?_
      refine outN tab (xs := [.agg [.v (.int .u64 0), .v (.int .u64 0), .v (.int .u64 0), .v (.int .u64 0)]]) hR hI rfl (by kernel_rfl) ?_
      exact ⟨0, 0, 0, 0, rfl, hB.fin hR, four_pos (by decide) (by omega)⟩

set_option maxHeartbeats 4000000 in
set_option maxRecDepth 100000 in
theorem fromU64_256 {w : World} {C : Nat → Prop} (v : Nat) (hv : v < 18446744073709551616) :
    Calls P 28 #[.int .u64 ((v : Nat) : Int)] w fun ex w' => ∃ q0 q1 q2 q3 : Nat, ex = .returned (.agg #[.int .u64 ((q0 : Nat) : Int), .int .u64 ((q1 : Nat) : Int), .int .u64 ((q2 : Nat) : Int), .int .u64 ((q3 : Nat) : Int)]) ∧ Keep (fun b => b < w.heap.size) w w' ∧ Four q0 q1 q2 q3  (v : Int) := by
  refine doorN (e := e0) (vs := [.v (.int .u64 ((v : Nat) : Int))]) (n := 6) (m := 1) Try.func28 rfl rfl rfl (by decide) fun a_ hI => ?_
  replace hI : Is 6 [] e0 [(0, .v (.int .u64 ((v : Nat) : Int)))] a_ := hI
  have hR : Rel (fun b => b < w.heap.size) w e0 [] [] w := Rel.start (fun k hk => hk)
  have hB : Base C w C (fun b => b < w.heap.size) w := Base.start
  refine reg_seq tab (k := 0) (hs := []) (sy := []) (ks := [2, 0]) (bs := [0]) (gs := [])
      (L' := [(2, .p 0 0), (0, .v (.int .u64 ((v : Nat) : Int)))])
      (H' := [⟨0, 49, [.v (.int .u64 0), .v (.int .u64 0), .v (.int .u64 0), .v (.int .u64 0)]⟩]) (G' := []) (k' := 1) hR hI (by kernel_rfl)
      .nil (fun e1 a1 w1 hag hR hI => ?_)
  refine reg_seq tab (k := 1) (hs := []) (sy := []) (ks := [2]) (bs := [0]) (gs := [])
      (L' := [(2, .p 0 0)])
      (H' := [⟨0, 49, [.v (.int .u64 ((v : Nat) : Int)), .v (.int .u64 0), .v (.int .u64 0), .v (.int .u64 0)]⟩]) (G' := []) (k' := 1) hR hI (by kernel_rfl)
      .nil (fun e2 a2 w2 hag hR hI => ?_)
  refine wp_ret ?_
  refine outN tab (xs := [.agg [.v (.int .u64 ((v : Nat) : Int)), .v (.int .u64 0), .v (.int .u64 0), .v (.int .u64 0)]]) hR hI rfl (by kernel_rfl) ?_
  exact ⟨v, 0, 0, 0, rfl, hB.fin hR, four_pos hv (by omega)⟩

set_option maxHeartbeats 4000000 in
set_option maxRecDepth 100000 in
theorem sign_spec {w : World} {C : Nat → Prop} {l : Nat} {hi : Int} (h1 : -9223372036854775808 ≤ hi) (h2 : hi ≤ 9223372036854775807) :
    Calls P 43 #[.agg #[.int .u64 ((l : Nat) : Int), .int .i64 hi]] w fun ex w' => ∃ z : Int, ex = .returned (.int .i64 z) ∧ Keep (fun b => b < w.heap.size) w w' ∧ (z < 0 ↔ hi < 0) := by
  refine doorN (e := e0) (vs := [.v (.agg #[.int .u64 ((l : Nat) : Int), .int .i64 hi])]) (n := 10) (m := 1) Try.func43 rfl rfl rfl (by decide) fun a_ hI => ?_
  replace hI : Is 10 [] e0 [(0, .v (.agg #[.int .u64 ((l : Nat) : Int), .int .i64 hi]))] a_ := hI
  have hR : Rel (fun b => b < w.heap.size) w e0 [] [] w := Rel.start (fun k hk => hk)
  have hB : Base C w C (fun b => b < w.heap.size) w := Base.start
  refine reg_seq tab (k := 0) (hs := []) (sy := []) (ks := [1]) (bs := [0]) (gs := [])
      (L' := [(1, .p 0 0)])
      (H' := [⟨0, 46, [.v (.int .u64 ((l : Nat) : Int)), .v (.int .i64 hi)]⟩]) (G' := []) (k' := 1) hR hI (by kernel_rfl)
      .nil (fun e1 a1 w1 hag hR hI => ?_)
  refine wp_seq ?_
  refine wp_seq ?_
  refine reg (is := [0, 1, 2]) (by kernel_rfl) ?_
  refine part_ tab [0, 1] [2] (by rfl) (k := 1) (hs := []) (sy := []) (ks := [4, 3, 1]) (bs := [0]) (gs := [])
      (L' := [(4, .agg [.v (.int .u64 0), .v (.int .i64 0)]), (3, .agg [.v (.int .u64 ((l : Nat) : Int)), .v (.int .i64 hi)]), (1, .p 0 0)])
      (H' := [⟨0, 46, [.v (.int .u64 ((l : Nat) : Int)), .v (.int .i64 hi)]⟩]) (G' := []) (k' := 1) hR hI (by kernel_rfl)
      .nil (fun e2 a2 w2 hag hR hI => ?_)
  refine rawOp (x := .v (.bool ((((l : Nat) : Int) == (0 : Int)) && (hi == (0 : Int))))) hI rfl rfl (by kernel_rfl) (fun ev hev => eq46 (x := .tmp 3) (y := .tmp 4) rfl (hev (.tmp 3) _ rfl) (hev (.tmp 4) _ rfl)) (fun a3 hI => ?_)
  replace hI := hI.sel [5, 4, 3, 1] (by kernel_rfl : sel _ _ = some [(5, .v (.bool ((((l : Nat) : Int) == (0 : Int)) && (hi == (0 : Int))))), (4, .agg [.v (.int .u64 0), .v (.int .i64 0)]), (3, .agg [.v (.int .u64 ((l : Nat) : Int)), .v (.int .i64 hi)]), (1, .p 0 0)])
  refine ops_nil ?_
  refine then_n ?_
  refine cnd (b := ((((l : Nat) : Int) == (0 : Int)) && (hi == (0 : Int)))) hI (by kernel_rfl) (fun hc4 => ?_) (fun hc4 => ?_)
  · skip
    replace hI := hI.re 5 (.v (.bool true)) rfl (congrArg Value.bool hc4)
    try simp only [decide_eq_true_eq, decide_eq_false_iff_not, beq_iff_eq, bne_iff_ne, beq_eq_false_iff_ne, bne_eq_false_iff_eq, Bool.and_eq_true, Bool.and_eq_false_iff, Bool.or_eq_true, Bool.or_eq_false_iff, Bool.not_eq_true', Bool.not_eq_false', ne_eq] at hc4
    refine reg_seq tab (k := 1) (hs := []) (sy := []) (ks := [2]) (bs := []) (gs := [])
        (L' := [(2, .v (.int .i64 0))])
        (H' := []) (G' := []) (k' := 1) hR hI (by kernel_rfl)
        .nil (fun e5 a5 w5 hag hR hI => ?_)
    refine wp_ret ?_
    refine ret_then ?_
    refine outN tab (xs := [.v (.int .i64 0)]) hR hI rfl (by kernel_rfl) ?_
    exact ⟨_, rfl, hB.fin hR, by omega⟩
  · skip
    replace hI := hI.re 5 (.v (.bool false)) rfl (congrArg Value.bool hc4)
    try simp only [decide_eq_true_eq, decide_eq_false_iff_not, beq_iff_eq, bne_iff_ne, beq_eq_false_iff_ne, bne_eq_false_iff_eq, Bool.and_eq_true, Bool.and_eq_false_iff, Bool.or_eq_true, Bool.or_eq_false_iff, Bool.not_eq_true', Bool.not_eq_false', ne_eq] at hc4
    refine wp_skip ?_
    refine then_n ?_
    refine reg_seq tab (k := 1) (hs := []) (sy := []) (ks := [2]) (bs := []) (gs := [])
        (L' := [(2, .v (.int .i64 (bits .or .i64 (1 : Int) (hi / 9223372036854775808))))])
        (H' := []) (G' := []) (k' := 1) hR hI (by kernel_rfl)
        (.cons (by decide : (0 : Int) ≤ 63) (.cons (by decide : (63 : Int) ≤ (IntKind.i64.bits : Int)) .nil)) (fun e6 a6 w6 hag hR hI => ?_)
    refine wp_ret ?_
    refine outN tab (xs := [.v (.int .i64 (bits .or .i64 (1 : Int) (hi / 9223372036854775808)))]) hR hI rfl (by kernel_rfl) ?_
    exact ⟨_, rfl, hB.fin hR, sign_or h1 h2⟩

set_option maxHeartbeats 4000000 in
set_option maxRecDepth 100000 in
theorem fromD128_spec {w : World} {C : Nat → Prop} {l : Nat} {hi : Int} (hl : l < 18446744073709551616) (h1 : -9223372036854775808 ≤ hi) (h2 : hi ≤ 9223372036854775807) :
    Calls P 29 #[.agg #[.int .u64 ((l : Nat) : Int), .int .i64 hi]] w fun ex w' => ∃ q0 q1 q2 q3 : Nat, ex = .returned (.agg #[.int .u64 ((q0 : Nat) : Int), .int .u64 ((q1 : Nat) : Int), .int .u64 ((q2 : Nat) : Int), .int .u64 ((q3 : Nat) : Int)]) ∧ Keep (fun b => b < w.heap.size) w w' ∧ Four q0 q1 q2 q3  ((l : Int) + 18446744073709551616 * hi) := by
  refine doorN (e := e0) (vs := [.v (.agg #[.int .u64 ((l : Nat) : Int), .int .i64 hi])]) (n := 15) (m := 1) Try.func29 rfl rfl rfl (by decide) fun a_ hI => ?_
  replace hI : Is 15 [] e0 [(0, .v (.agg #[.int .u64 ((l : Nat) : Int), .int .i64 hi]))] a_ := hI
  have hR : Rel (fun b => b < w.heap.size) w e0 [] [] w := Rel.start (fun k hk => hk)
  have hB : Base C w C (fun b => b < w.heap.size) w := Base.start
  obtain ⟨m, hm, hmb⟩ := u64_nat hi
  refine reg_seq tab (k := 0) (hs := []) (sy := []) (ks := [2, 1]) (bs := [1, 0]) (gs := [])
      (L' := [(2, .p 1 0), (1, .p 0 0)])
      (H' := [⟨1, 49, [.v (.int .u64 0), .v (.int .u64 0), .v (.int .u64 0), .v (.int .u64 0)]⟩, ⟨0, 46, [.v (.int .u64 ((l : Nat) : Int)), .v (.int .i64 hi)]⟩]) (G' := []) (k' := 2) hR hI (by kernel_rfl)
      .nil (fun e1 a1 w1 hag hR hI => ?_)
  refine reg_seq tab (k := 2) (hs := []) (sy := []) (ks := [3, 2, 1]) (bs := [1, 0]) (gs := [])
      (L' := [(3, .v (.int .u64 0)), (2, .p 1 0), (1, .p 0 0)])
      (H' := [⟨1, 49, [.v (.int .u64 0), .v (.int .u64 0), .v (.int .u64 0), .v (.int .u64 0)]⟩, ⟨0, 46, [.v (.int .u64 ((l : Nat) : Int)), .v (.int .i64 hi)]⟩]) (G' := []) (k' := 2) hR hI (by kernel_rfl)
      .nil (fun e2 a2 w2 hag hR hI => ?_)
  refine wp_seq ?_
  refine wp_seq ?_
  refine reg (is := [0, 1, 2]) (by kernel_rfl) ?_
  refine part_ tab [0] [1, 2] (by rfl) (k := 2) (hs := []) (sy := []) (ks := [4, 3, 2, 1]) (bs := [1, 0]) (gs := [])
      (L' := [(4, .agg [.v (.int .u64 ((l : Nat) : Int)), .v (.int .i64 hi)]), (3, .v (.int .u64 0)), (2, .p 1 0), (1, .p 0 0)])
      (H' := [⟨1, 49, [.v (.int .u64 0), .v (.int .u64 0), .v (.int .u64 0), .v (.int .u64 0)]⟩, ⟨0, 46, [.v (.int .u64 ((l : Nat) : Int)), .v (.int .i64 hi)]⟩]) (G' := []) (k' := 2) hR hI (by kernel_rfl)
      .nil (fun e3 a3 w3 hag hR hI => ?_)
  refine callOp (ys := [.agg [.v (.int .u64 ((l : Nat) : Int)), .v (.int .i64 hi)]]) hI rfl rfl ⟨_, rfl, rfl, rfl⟩ (by kernel_rfl) Try.func43 rfl rfl ?_
  refine (sign_spec (C := C) h1 h2).mono ?_
  rintro ex w4 ⟨z, rfl, hk, hz⟩
  replace hR := hR.same hk; clear hk
  refine ⟨_, rfl, ?_⟩
  replace hI := hI.put (d := some 5) (x := .v (.int .i64 z)) (by intro t ht; cases ht; decide) rfl
  replace hI := hI.sel [5, 4, 3, 2, 1] (by kernel_rfl : sel _ _ = some [(5, .v (.int .i64 z)), (4, .agg [.v (.int .u64 ((l : Nat) : Int)), .v (.int .i64 hi)]), (3, .v (.int .u64 0)), (2, .p 1 0), (1, .p 0 0)])
  refine part_ tab [2] [] (by rfl) (k := 2) (hs := []) (sy := []) (ks := [6, 3, 2, 1]) (bs := [1, 0]) (gs := [])
      (L' := [(6, .v (.bool (decide (z < (0 : Int))))), (3, .v (.int .u64 0)), (2, .p 1 0), (1, .p 0 0)])
      (H' := [⟨1, 49, [.v (.int .u64 0), .v (.int .u64 0), .v (.int .u64 0), .v (.int .u64 0)]⟩, ⟨0, 46, [.v (.int .u64 ((l : Nat) : Int)), .v (.int .i64 hi)]⟩]) (G' := []) (k' := 2) hR hI (by kernel_rfl)
      .nil (fun e5 a5 w5 hag hR hI => ?_)
  refine ops_nil ?_
  refine then_n ?_
  refine cnd (b := decide (z < (0 : Int))) hI (by kernel_rfl) (fun hc6 => ?_) (fun hc6 => ?_)
  · skip
    replace hI := hI.re 6 (.v (.bool true)) rfl (congrArg Value.bool hc6)
    try simp only [decide_eq_true_eq, decide_eq_false_iff_not, beq_iff_eq, bne_iff_ne, beq_eq_false_iff_ne, bne_eq_false_iff_eq, Bool.and_eq_true, Bool.and_eq_false_iff, Bool.or_eq_true, Bool.or_eq_false_iff, Bool.not_eq_true', Bool.not_eq_false', ne_eq] at hc6
    have hneg := hz.1 hc6
    refine reg_all tab (k := 2) (hs := []) (sy := []) (ks := [3, 2, 1]) (bs := [1, 0]) (gs := [])
        (L' := [(3, .v (.int .u64 18446744073709551615)), (2, .p 1 0), (1, .p 0 0)])
        (H' := [⟨1, 49, [.v (.int .u64 0), .v (.int .u64 0), .v (.int .u64 0), .v (.int .u64 0)]⟩, ⟨0, 46, [.v (.int .u64 ((l : Nat) : Int)), .v (.int .i64 hi)]⟩]) (G' := []) (k' := 2) hR hI (by kernel_rfl)
        .nil (fun e7 a7 w7 hag hR hI => ?_)
    refine then_n ?_
    refine wp_seq ?_
    refine regL 8 hR (by kernel_rfl) (fun hS => ?_)
    replace hR := hR.drew; have hF := hR.fore
    refine takeL tab (H := [⟨1, 49, [.v (.int .u64 0), .v (.int .u64 0), .v (.int .u64 0), .v (.int .u64 0)]⟩, ⟨0, 46, [.v (.int .u64 ((l : Nat) : Int)), .v (.int .i64 hi)]⟩]) (G := []) (hs := []) (gs := []) (is := [0, 1, 2, 5]) (ks := [12, 9, 8, 7, 2]) (f' := 5)
        (L' := [(12, .agg [.v (.int .u64 ((l : Nat) : Int)), .v (.int .i64 hi)]), (9, .agg [.v (.int .u64 ((l : Nat) : Int)), .v (.int .i64 hi)]), (8, .v (.int .u64 18446744073709551615)), (7, .v (.int .u64 18446744073709551615)), (2, .p 1 0)]) hS hI (by kernel_rfl) (fun _ _ _ _ _ h => h) (by kernel_rfl)
        .nil (by kernel_rfl) (by kernel_rfl) (by kernel_rfl) (by rfl) (fun a8 hI => ?_)
    refine oneL (i := 3) (f' := 4) (by kernel_rfl) (by rfl) ?_
    refine callH (ys := [.agg [.v (.int .u64 ((l : Nat) : Int)), .v (.int .i64 hi)]]) hI rfl rfl ⟨_, rfl, rfl, rfl⟩ (by kernel_rfl) Try.func34 rfl rfl ?_
    refine (highBits_spec (C := C) hi ((l : Nat) : Int)).mono ?_
    rintro ex w9 ⟨rfl, hk⟩
    replace hS := hS.same hk; replace hR := hR.same hk; clear hk
    refine ⟨_, rfl, hS, ?_⟩
    replace hI := hI.put (d := some 10) (x := .v (.int .i64 hi)) (by intro t ht; cases ht; decide) rfl
    replace hI := hI.sel [10, 12, 9, 8, 7, 2] (by kernel_rfl : sel _ _ = some [(10, .v (.int .i64 hi)), (12, .agg [.v (.int .u64 ((l : Nat) : Int)), .v (.int .i64 hi)]), (9, .agg [.v (.int .u64 ((l : Nat) : Int)), .v (.int .i64 hi)]), (8, .v (.int .u64 18446744073709551615)), (7, .v (.int .u64 18446744073709551615)), (2, .p 1 0)])
    refine takeL tab (H := [⟨1, 49, [.v (.int .u64 0), .v (.int .u64 0), .v (.int .u64 0), .v (.int .u64 0)]⟩, ⟨0, 46, [.v (.int .u64 ((l : Nat) : Int)), .v (.int .i64 hi)]⟩]) (G := []) (hs := [(4, .eq (.int .u64 ((m : Nat) : Int)))]) (gs := []) (is := [4]) (ks := [11, 12, 8, 7, 2]) (f' := 3)
        (L' := [(11, .v (.int .u64 ((m : Nat) : Int))), (12, .agg [.v (.int .u64 ((l : Nat) : Int)), .v (.int .i64 hi)]), (8, .v (.int .u64 18446744073709551615)), (7, .v (.int .u64 18446744073709551615)), (2, .p 1 0)]) hS hI (by kernel_rfl) (fun _ _ _ _ _ h => h) (by kernel_rfl)
        (.cons (congrArg (Value.int .u64) (hm : IntKind.u64.wrap hi = ((m : Nat) : Int))) .nil) (by kernel_rfl) (by kernel_rfl) (by kernel_rfl) (by rfl) (fun a10 hI => ?_)
    refine oneL (i := 6) (f' := 2) (by kernel_rfl) (by rfl) ?_
    refine callH (ys := [.agg [.v (.int .u64 ((l : Nat) : Int)), .v (.int .i64 hi)]]) hI rfl rfl ⟨_, rfl, rfl, rfl⟩ (by kernel_rfl) Try.func33 rfl rfl ?_
    refine (lowBits_spec (C := C) hi ((l : Nat) : Int)).mono ?_
    rintro ex w11 ⟨rfl, hk⟩
    replace hS := hS.same hk; replace hR := hR.same hk; clear hk
    refine ⟨_, rfl, hS, ?_⟩
    replace hI := hI.put (d := some 13) (x := .v (.int .u64 ((l : Nat) : Int))) (by intro t ht; cases ht; decide) rfl
    replace hI := hI.sel [13, 11, 12, 8, 7, 2] (by kernel_rfl : sel _ _ = some [(13, .v (.int .u64 ((l : Nat) : Int))), (11, .v (.int .u64 ((m : Nat) : Int))), (12, .agg [.v (.int .u64 ((l : Nat) : Int)), .v (.int .i64 hi)]), (8, .v (.int .u64 18446744073709551615)), (7, .v (.int .u64 18446744073709551615)), (2, .p 1 0)])
    refine oneL (i := 7) (f' := 1) (by kernel_rfl) (by rfl) ?_
    refine callH (ys := [.v (.int .u64 18446744073709551615), .v (.int .u64 18446744073709551615), .v (.int .u64 ((m : Nat) : Int)), .v (.int .u64 ((l : Nat) : Int))]) hI rfl rfl ⟨_, rfl, rfl, rfl⟩ (by kernel_rfl) Try.func31 rfl rfl ?_
    refine (new256_spec (C := C) (18446744073709551615 : Int) (18446744073709551615 : Int) ((m : Nat) : Int) ((l : Nat) : Int)).mono ?_
    rintro ex w12 ⟨rfl, hk⟩
    replace hS := hS.same hk; replace hR := hR.same hk; clear hk
    refine ⟨_, rfl, hS, ?_⟩
    replace hI := hI.put (d := some 14) (x := .v (.agg #[.int .u64 ((l : Nat) : Int), .int .u64 ((m : Nat) : Int), .int .u64 18446744073709551615, .int .u64 18446744073709551615])) (by intro t ht; cases ht; decide) rfl
    replace hI := hI.sel [14, 13, 11, 12, 8, 7, 2] (by kernel_rfl : sel _ _ = some [(14, .v (.agg #[.int .u64 ((l : Nat) : Int), .int .u64 ((m : Nat) : Int), .int .u64 18446744073709551615, .int .u64 18446744073709551615])), (13, .v (.int .u64 ((l : Nat) : Int))), (11, .v (.int .u64 ((m : Nat) : Int))), (12, .agg [.v (.int .u64 ((l : Nat) : Int)), .v (.int .i64 hi)]), (8, .v (.int .u64 18446744073709551615)), (7, .v (.int .u64 18446744073709551615)), (2, .p 1 0)])
    refine endL (i := 8) (f' := 0) (by kernel_rfl) (by rfl) (by kernel_rfl) ?_
    refine effH tab (k := 2) (hh := .no) (r := ⟨.v (undef), [⟨1, 49, [.v (.int .u64 ((l : Nat) : Int)), .v (.int .u64 ((m : Nat) : Int)), .v (.int .u64 18446744073709551615), .v (.int .u64 18446744073709551615)]⟩, ⟨0, 46, [.v (.int .u64 ((l : Nat) : Int)), .v (.int .i64 hi)]⟩], [], 2, _, true⟩) hR hI (by kernel_rfl) rfl rfl rfl (by kernel_rfl) .nil (fun e13 a13 w13 hag hR2 hI => ?_)
    replace hR := hR2; clear hR2
    replace hI := hI.sel [14, 13, 11, 12, 8, 7, 2] (by kernel_rfl : sel _ _ = some [(14, .v (.agg #[.int .u64 ((l : Nat) : Int), .int .u64 ((m : Nat) : Int), .int .u64 18446744073709551615, .int .u64 18446744073709551615])), (13, .v (.int .u64 ((l : Nat) : Int))), (11, .v (.int .u64 ((m : Nat) : Int))), (12, .agg [.v (.int .u64 ((l : Nat) : Int)), .v (.int .i64 hi)]), (8, .v (.int .u64 18446744073709551615)), (7, .v (.int .u64 18446744073709551615)), (2, .p 1 0)])
    refine doneL (by kernel_rfl) ?_
    refine then_n ?_
    replace hI := hI.sel [2] (by kernel_rfl : sel _ _ = some [(2, .p 1 0)]); replace hR := hR.sel [1] [] (by kernel_rfl : selH _ _ = some [⟨1, 49, [.v (.int .u64 ((l : Nat) : Int)), .v (.int .u64 ((m : Nat) : Int)), .v (.int .u64 18446744073709551615), .v (.int .u64 18446744073709551615)]⟩]) (by kernel_rfl : selG _ _ = some [])
    refine wp_ret ?_
    refine outN tab (xs := [.agg [.v (.int .u64 ((l : Nat) : Int)), .v (.int .u64 ((m : Nat) : Int)), .v (.int .u64 18446744073709551615), .v (.int .u64 18446744073709551615)]]) hR hI rfl (by kernel_rfl) ?_
    exact ⟨l, m, 18446744073709551615, 18446744073709551615, rfl, hB.fin hR, (four_of hl h1 h2 hm hmb).1 hneg⟩
  · skip
    replace hI := hI.re 6 (.v (.bool false)) rfl (congrArg Value.bool hc6)
    try simp only [decide_eq_true_eq, decide_eq_false_iff_not, beq_iff_eq, bne_iff_ne, beq_eq_false_iff_ne, bne_eq_false_iff_eq, Bool.and_eq_true, Bool.and_eq_false_iff, Bool.or_eq_true, Bool.or_eq_false_iff, Bool.not_eq_true', Bool.not_eq_false', ne_eq] at hc6
    have hneg : ¬ hi < 0 := fun h => hc6 (hz.2 h)
    refine wp_skip ?_
    refine then_n ?_
    refine wp_seq ?_
    refine regL 8 hR (by kernel_rfl) (fun hS => ?_)
    replace hR := hR.drew; have hF := hR.fore
    refine takeL tab (H := [⟨1, 49, [.v (.int .u64 0), .v (.int .u64 0), .v (.int .u64 0), .v (.int .u64 0)]⟩, ⟨0, 46, [.v (.int .u64 ((l : Nat) : Int)), .v (.int .i64 hi)]⟩]) (G := []) (hs := []) (gs := []) (is := [0, 1, 2, 5]) (ks := [12, 9, 8, 7, 2]) (f' := 5)
        (L' := [(12, .agg [.v (.int .u64 ((l : Nat) : Int)), .v (.int .i64 hi)]), (9, .agg [.v (.int .u64 ((l : Nat) : Int)), .v (.int .i64 hi)]), (8, .v (.int .u64 0)), (7, .v (.int .u64 0)), (2, .p 1 0)]) hS hI (by kernel_rfl) (fun _ _ _ _ _ h => h) (by kernel_rfl)
        .nil (by kernel_rfl) (by kernel_rfl) (by kernel_rfl) (by rfl) (fun a14 hI => ?_)
    refine oneL (i := 3) (f' := 4) (by kernel_rfl) (by rfl) ?_
    refine callH (ys := [.agg [.v (.int .u64 ((l : Nat) : Int)), .v (.int .i64 hi)]]) hI rfl rfl ⟨_, rfl, rfl, rfl⟩ (by kernel_rfl) Try.func34 rfl rfl ?_
    refine (highBits_spec (C := C) hi ((l : Nat) : Int)).mono ?_
    rintro ex w15 ⟨rfl, hk⟩
    replace hS := hS.same hk; replace hR := hR.same hk; clear hk
    refine ⟨_, rfl, hS, ?_⟩
    replace hI := hI.put (d := some 10) (x := .v (.int .i64 hi)) (by intro t ht; cases ht; decide) rfl
    replace hI := hI.sel [10, 12, 9, 8, 7, 2] (by kernel_rfl : sel _ _ = some [(10, .v (.int .i64 hi)), (12, .agg [.v (.int .u64 ((l : Nat) : Int)), .v (.int .i64 hi)]), (9, .agg [.v (.int .u64 ((l : Nat) : Int)), .v (.int .i64 hi)]), (8, .v (.int .u64 0)), (7, .v (.int .u64 0)), (2, .p 1 0)])
    refine takeL tab (H := [⟨1, 49, [.v (.int .u64 0), .v (.int .u64 0), .v (.int .u64 0), .v (.int .u64 0)]⟩, ⟨0, 46, [.v (.int .u64 ((l : Nat) : Int)), .v (.int .i64 hi)]⟩]) (G := []) (hs := [(4, .eq (.int .u64 ((m : Nat) : Int)))]) (gs := []) (is := [4]) (ks := [11, 12, 8, 7, 2]) (f' := 3)
        (L' := [(11, .v (.int .u64 ((m : Nat) : Int))), (12, .agg [.v (.int .u64 ((l : Nat) : Int)), .v (.int .i64 hi)]), (8, .v (.int .u64 0)), (7, .v (.int .u64 0)), (2, .p 1 0)]) hS hI (by kernel_rfl) (fun _ _ _ _ _ h => h) (by kernel_rfl)
        (.cons (congrArg (Value.int .u64) (hm : IntKind.u64.wrap hi = ((m : Nat) : Int))) .nil) (by kernel_rfl) (by kernel_rfl) (by kernel_rfl) (by rfl) (fun a16 hI => ?_)
    refine oneL (i := 6) (f' := 2) (by kernel_rfl) (by rfl) ?_
    refine callH (ys := [.agg [.v (.int .u64 ((l : Nat) : Int)), .v (.int .i64 hi)]]) hI rfl rfl ⟨_, rfl, rfl, rfl⟩ (by kernel_rfl) Try.func33 rfl rfl ?_
    refine (lowBits_spec (C := C) hi ((l : Nat) : Int)).mono ?_
    rintro ex w17 ⟨rfl, hk⟩
    replace hS := hS.same hk; replace hR := hR.same hk; clear hk
    refine ⟨_, rfl, hS, ?_⟩
    replace hI := hI.put (d := some 13) (x := .v (.int .u64 ((l : Nat) : Int))) (by intro t ht; cases ht; decide) rfl
    replace hI := hI.sel [13, 11, 12, 8, 7, 2] (by kernel_rfl : sel _ _ = some [(13, .v (.int .u64 ((l : Nat) : Int))), (11, .v (.int .u64 ((m : Nat) : Int))), (12, .agg [.v (.int .u64 ((l : Nat) : Int)), .v (.int .i64 hi)]), (8, .v (.int .u64 0)), (7, .v (.int .u64 0)), (2, .p 1 0)])
    refine oneL (i := 7) (f' := 1) (by kernel_rfl) (by rfl) ?_
    refine callH (ys := [.v (.int .u64 0), .v (.int .u64 0), .v (.int .u64 ((m : Nat) : Int)), .v (.int .u64 ((l : Nat) : Int))]) hI rfl rfl ⟨_, rfl, rfl, rfl⟩ (by kernel_rfl) Try.func31 rfl rfl ?_
    refine (new256_spec (C := C) (0 : Int) (0 : Int) ((m : Nat) : Int) ((l : Nat) : Int)).mono ?_
    rintro ex w18 ⟨rfl, hk⟩
    replace hS := hS.same hk; replace hR := hR.same hk; clear hk
    refine ⟨_, rfl, hS, ?_⟩
    replace hI := hI.put (d := some 14) (x := .v (.agg #[.int .u64 ((l : Nat) : Int), .int .u64 ((m : Nat) : Int), .int .u64 0, .int .u64 0])) (by intro t ht; cases ht; decide) rfl
    replace hI := hI.sel [14, 13, 11, 12, 8, 7, 2] (by kernel_rfl : sel _ _ = some [(14, .v (.agg #[.int .u64 ((l : Nat) : Int), .int .u64 ((m : Nat) : Int), .int .u64 0, .int .u64 0])), (13, .v (.int .u64 ((l : Nat) : Int))), (11, .v (.int .u64 ((m : Nat) : Int))), (12, .agg [.v (.int .u64 ((l : Nat) : Int)), .v (.int .i64 hi)]), (8, .v (.int .u64 0)), (7, .v (.int .u64 0)), (2, .p 1 0)])
    refine endL (i := 8) (f' := 0) (by kernel_rfl) (by rfl) (by kernel_rfl) ?_
    refine effH tab (k := 2) (hh := .no) (r := ⟨.v (undef), [⟨1, 49, [.v (.int .u64 ((l : Nat) : Int)), .v (.int .u64 ((m : Nat) : Int)), .v (.int .u64 0), .v (.int .u64 0)]⟩, ⟨0, 46, [.v (.int .u64 ((l : Nat) : Int)), .v (.int .i64 hi)]⟩], [], 2, _, true⟩) hR hI (by kernel_rfl) rfl rfl rfl (by kernel_rfl) .nil (fun e19 a19 w19 hag hR2 hI => ?_)
    replace hR := hR2; clear hR2
    replace hI := hI.sel [14, 13, 11, 12, 8, 7, 2] (by kernel_rfl : sel _ _ = some [(14, .v (.agg #[.int .u64 ((l : Nat) : Int), .int .u64 ((m : Nat) : Int), .int .u64 0, .int .u64 0])), (13, .v (.int .u64 ((l : Nat) : Int))), (11, .v (.int .u64 ((m : Nat) : Int))), (12, .agg [.v (.int .u64 ((l : Nat) : Int)), .v (.int .i64 hi)]), (8, .v (.int .u64 0)), (7, .v (.int .u64 0)), (2, .p 1 0)])
    refine doneL (by kernel_rfl) ?_
    refine then_n ?_
    replace hI := hI.sel [2] (by kernel_rfl : sel _ _ = some [(2, .p 1 0)]); replace hR := hR.sel [1] [] (by kernel_rfl : selH _ _ = some [⟨1, 49, [.v (.int .u64 ((l : Nat) : Int)), .v (.int .u64 ((m : Nat) : Int)), .v (.int .u64 0), .v (.int .u64 0)]⟩]) (by kernel_rfl : selG _ _ = some [])
    refine wp_ret ?_
    refine outN tab (xs := [.agg [.v (.int .u64 ((l : Nat) : Int)), .v (.int .u64 ((m : Nat) : Int)), .v (.int .u64 0), .v (.int .u64 0)]]) hR hI rfl (by kernel_rfl) ?_
    exact ⟨l, m, 0, 0, rfl, hB.fin hR, (four_of hl h1 h2 hm hmb).2 hneg⟩

set_option maxHeartbeats 4000000 in
set_option maxRecDepth 100000 in
theorem array_spec {w : World} {C : Nat → Prop} (q0 q1 q2 q3 : Nat) :
    Calls P 35 #[.agg #[.int .u64 ((q0 : Nat) : Int), .int .u64 ((q1 : Nat) : Int), .int .u64 ((q2 : Nat) : Int), .int .u64 ((q3 : Nat) : Int)]] w fun ex w' => ex = .returned (.agg #[.int .u64 ((q0 : Nat) : Int), .int .u64 ((q1 : Nat) : Int), .int .u64 ((q2 : Nat) : Int), .int .u64 ((q3 : Nat) : Int)]) ∧ Keep (fun b => b < w.heap.size) w w' := by
  refine doorN (e := e0) (vs := [.v (.agg #[.int .u64 ((q0 : Nat) : Int), .int .u64 ((q1 : Nat) : Int), .int .u64 ((q2 : Nat) : Int), .int .u64 ((q3 : Nat) : Int)])]) (n := 5) (m := 1) Try.func35 rfl rfl rfl (by decide) fun a_ hI => ?_
  replace hI : Is 5 [] e0 [(0, .v (.agg #[.int .u64 ((q0 : Nat) : Int), .int .u64 ((q1 : Nat) : Int), .int .u64 ((q2 : Nat) : Int), .int .u64 ((q3 : Nat) : Int)]))] a_ := hI
  have hR : Rel (fun b => b < w.heap.size) w e0 [] [] w := Rel.start (fun k hk => hk)
  have hB : Base C w C (fun b => b < w.heap.size) w := Base.start
  refine reg_seq tab (k := 0) (hs := []) (sy := []) (ks := [2, 1]) (bs := [1, 0]) (gs := [])
      (L' := [(2, .p 1 0), (1, .p 0 0)])
      (H' := [⟨1, 47, [.v (.int .u64 0), .v (.int .u64 0), .v (.int .u64 0), .v (.int .u64 0)]⟩, ⟨0, 49, [.v (.int .u64 ((q0 : Nat) : Int)), .v (.int .u64 ((q1 : Nat) : Int)), .v (.int .u64 ((q2 : Nat) : Int)), .v (.int .u64 ((q3 : Nat) : Int))]⟩]) (G' := []) (k' := 2) hR hI (by kernel_rfl)
      .nil (fun e1 a1 w1 hag hR hI => ?_)
  refine reg_seq tab (k := 2) (hs := []) (sy := []) (ks := [2]) (bs := [1]) (gs := [])
      (L' := [(2, .p 1 0)])
      (H' := [⟨1, 47, [.v (.int .u64 ((q0 : Nat) : Int)), .v (.int .u64 ((q1 : Nat) : Int)), .v (.int .u64 ((q2 : Nat) : Int)), .v (.int .u64 ((q3 : Nat) : Int))]⟩]) (G' := []) (k' := 2) hR hI (by kernel_rfl)
      .nil (fun e2 a2 w2 hag hR hI => ?_)
  refine wp_ret ?_
  refine outN tab (xs := [.agg [.v (.int .u64 ((q0 : Nat) : Int)), .v (.int .u64 ((q1 : Nat) : Int)), .v (.int .u64 ((q2 : Nat) : Int)), .v (.int .u64 ((q3 : Nat) : Int))]]) hR hI rfl (by kernel_rfl) ?_
  exact ⟨rfl, hB.fin hR⟩

set_option maxHeartbeats 4000000 in
set_option maxRecDepth 100000 in
theorem wordsG_spec {C : Nat → Prop} {w : World} {r0 r1 r2 r3 : Int} (l : Nat) (d : Int) (hlb : l < 18446744073709551616) :
    Calls P 19 #[.agg #[.int .i64 128, .int .i32 0, .int .i64 0, .int .u64 ((l : Nat) : Int), .int .i64 d, .int .u64 r0, .int .u64 r1, .int .u64 r2, .int .u64 r3]] w fun ex w' => ∃ wd wc ws, ex = .returned (.slice wd (List.length ws) wc) ∧ Keep (fun b => b < w.heap.size) w w' ∧ Sl .u64 18446744073709551616 (Grow C w w') w' wd wc ws ∧ ∃ m : Nat, ws = [l, m] ∧ IntKind.u64.wrap d = (m : Int) := by
  refine doorN (e := e0) (vs := [.v (.agg #[.int .i64 128, .int .i32 0, .int .i64 0, .int .u64 ((l : Nat) : Int), .int .i64 d, .int .u64 r0, .int .u64 r1, .int .u64 r2, .int .u64 r3])]) (n := 33) (m := 1) Try.func19 rfl rfl rfl (by decide) fun a_ hI => ?_
  replace hI : Is 33 [] e0 [(0, .v (.agg #[.int .i64 128, .int .i32 0, .int .i64 0, .int .u64 ((l : Nat) : Int), .int .i64 d, .int .u64 r0, .int .u64 r1, .int .u64 r2, .int .u64 r3]))] a_ := hI
  have hR : Rel (fun b => b < w.heap.size) w e0 [] [] w := Rel.start (fun k hk => hk)
  have hB : Base C w C (fun b => b < w.heap.size) w := Base.start
  obtain ⟨m, hm, hmb⟩ := u64_nat d
  refine reg_seq tab (k := 0) (hs := []) (sy := []) (ks := [1]) (bs := [0]) (gs := [])
      (L' := [(1, .p 0 0)])
      (H' := [⟨0, 51, [.v (.int .i64 128), .v (.int .i32 0), .v (.int .i64 0), .v (.int .u64 ((l : Nat) : Int)), .v (.int .i64 d), .v (.int .u64 r0), .v (.int .u64 r1), .v (.int .u64 r2), .v (.int .u64 r3)]⟩]) (G' := []) (k' := 1) hR hI (by kernel_rfl)
      .nil (fun e1 a1 w1 hag hR hI => ?_)
  refine wp_seq ?_
  refine reg_seq tab (k := 1) (hs := []) (sy := []) (ks := [5, 1]) (bs := [0]) (gs := [])
      (L' := [(5, .v (.int .i64 128)), (1, .p 0 0)])
      (H' := [⟨0, 51, [.v (.int .i64 128), .v (.int .i32 0), .v (.int .i64 0), .v (.int .u64 ((l : Nat) : Int)), .v (.int .i64 d), .v (.int .u64 r0), .v (.int .u64 r1), .v (.int .u64 r2), .v (.int .u64 r3)]⟩]) (G' := []) (k' := 1) hR hI (by kernel_rfl)
      .nil (fun e2 a2 w2 hag hR hI => ?_)
  refine wp_block ?_
  refine reg_seq tab (k := 1) (hs := []) (sy := []) (ks := [6, 5, 1]) (bs := [0]) (gs := [])
      (L' := [(6, .v (.bool false)), (5, .v (.int .i64 128)), (1, .p 0 0)])
      (H' := [⟨0, 51, [.v (.int .i64 128), .v (.int .i32 0), .v (.int .i64 0), .v (.int .u64 ((l : Nat) : Int)), .v (.int .i64 d), .v (.int .u64 r0), .v (.int .u64 r1), .v (.int .u64 r2), .v (.int .u64 r3)]⟩]) (G' := []) (k' := 1) hR hI (by kernel_rfl)
      .nil (fun e3 a3 w3 hag hR hI => ?_)
  refine cnd_f hI (by kernel_rfl) ?_
  refine reg_seq tab (k := 1) (hs := []) (sy := []) (ks := [13, 5, 1]) (bs := [0]) (gs := [])
      (L' := [(13, .v (.bool false)), (5, .v (.int .i64 128)), (1, .p 0 0)])
      (H' := [⟨0, 51, [.v (.int .i64 128), .v (.int .i32 0), .v (.int .i64 0), .v (.int .u64 ((l : Nat) : Int)), .v (.int .i64 d), .v (.int .u64 r0), .v (.int .u64 r1), .v (.int .u64 r2), .v (.int .u64 r3)]⟩]) (G' := []) (k' := 1) hR hI (by kernel_rfl)
      .nil (fun e4 a4 w4 hag hR hI => ?_)
  refine cnd_f hI (by kernel_rfl) ?_
  refine reg_seq tab (k := 1) (hs := []) (sy := []) (ks := [19, 1]) (bs := [0]) (gs := [])
      (L' := [(19, .v (.bool true)), (1, .p 0 0)])
      (H' := [⟨0, 51, [.v (.int .i64 128), .v (.int .i32 0), .v (.int .i64 0), .v (.int .u64 ((l : Nat) : Int)), .v (.int .i64 d), .v (.int .u64 r0), .v (.int .u64 r1), .v (.int .u64 r2), .v (.int .u64 r3)]⟩]) (G' := []) (k' := 1) hR hI (by kernel_rfl)
      .nil (fun e5 a5 w5 hag hR hI => ?_)
  refine cnd_t hI (by kernel_rfl) ?_
  refine wp_seq ?_
  refine regL 8 hR (by kernel_rfl) (fun hS => ?_)
  replace hR := hR.drew; have hF := hR.fore
  refine takeL tab (H := [⟨0, 51, [.v (.int .i64 128), .v (.int .i32 0), .v (.int .i64 0), .v (.int .u64 ((l : Nat) : Int)), .v (.int .i64 d), .v (.int .u64 r0), .v (.int .u64 r1), .v (.int .u64 r2), .v (.int .u64 r3)]⟩]) (G := []) (hs := []) (gs := []) (is := [0, 1, 3, 4]) (ks := [25, 22]) (f' := 5)
      (L' := [(25, .agg [.v (.int .u64 ((l : Nat) : Int)), .v (.int .i64 d)]), (22, .agg [.v (.int .u64 ((l : Nat) : Int)), .v (.int .i64 d)])]) hS hI (by kernel_rfl) (fun _ _ _ _ _ h => h) (by kernel_rfl)
      .nil (by kernel_rfl) (by kernel_rfl) (by kernel_rfl) (by rfl) (fun a6 hI => ?_)
  refine oneL (i := 2) (f' := 4) (by kernel_rfl) (by rfl) ?_
  refine callH (ys := [.agg [.v (.int .u64 ((l : Nat) : Int)), .v (.int .i64 d)]]) hI rfl rfl ⟨_, rfl, rfl, rfl⟩ (by kernel_rfl) Try.func33 rfl rfl ?_
  refine (lowBits_spec (C := C) d ((l : Nat) : Int)).mono ?_
  rintro ex w7 ⟨rfl, hk⟩
  replace hS := hS.same hk; replace hR := hR.same hk; clear hk
  refine ⟨_, rfl, hS, ?_⟩
  replace hI := hI.put (d := some 23) (x := .v (.int .u64 ((l : Nat) : Int))) (by intro t ht; cases ht; decide) rfl
  replace hI := hI.sel [23, 25, 22] (by kernel_rfl : sel _ _ = some [(23, .v (.int .u64 ((l : Nat) : Int))), (25, .agg [.v (.int .u64 ((l : Nat) : Int)), .v (.int .i64 d)]), (22, .agg [.v (.int .u64 ((l : Nat) : Int)), .v (.int .i64 d)])])
  refine oneL (i := 5) (f' := 3) (by kernel_rfl) (by rfl) ?_
  refine callH (ys := [.agg [.v (.int .u64 ((l : Nat) : Int)), .v (.int .i64 d)]]) hI rfl rfl ⟨_, rfl, rfl, rfl⟩ (by kernel_rfl) Try.func34 rfl rfl ?_
  refine (highBits_spec (C := C) d ((l : Nat) : Int)).mono ?_
  rintro ex w8 ⟨rfl, hk⟩
  replace hS := hS.same hk; replace hR := hR.same hk; clear hk
  refine ⟨_, rfl, hS, ?_⟩
  replace hI := hI.put (d := some 26) (x := .v (.int .i64 d)) (by intro t ht; cases ht; decide) rfl
  replace hI := hI.sel [26, 23, 25, 22] (by kernel_rfl : sel _ _ = some [(26, .v (.int .i64 d)), (23, .v (.int .u64 ((l : Nat) : Int))), (25, .agg [.v (.int .u64 ((l : Nat) : Int)), .v (.int .i64 d)]), (22, .agg [.v (.int .u64 ((l : Nat) : Int)), .v (.int .i64 d)])])
  refine takeL tab (H := [⟨0, 51, [.v (.int .i64 128), .v (.int .i32 0), .v (.int .i64 0), .v (.int .u64 ((l : Nat) : Int)), .v (.int .i64 d), .v (.int .u64 r0), .v (.int .u64 r1), .v (.int .u64 r2), .v (.int .u64 r3)]⟩]) (G := []) (hs := [(6, .eq (.int .u64 ((m : Nat) : Int)))]) (gs := []) (is := [6]) (ks := [27, 23]) (f' := 2)
      (L' := [(27, .v (.int .u64 ((m : Nat) : Int))), (23, .v (.int .u64 ((l : Nat) : Int)))]) hS hI (by kernel_rfl) (fun _ _ _ _ _ h => h) (by kernel_rfl)
      (.cons (congrArg (Value.int .u64) (hm : IntKind.u64.wrap d = ((m : Nat) : Int))) .nil) (by kernel_rfl) (by kernel_rfl) (by kernel_rfl) (by rfl) (fun a9 hI => ?_)
  refine oneL (i := 7) (f' := 1) (by kernel_rfl) (by rfl) ?_
  refine effH tab (k := 1) (hh := .no) (r := ⟨.sl 1 0 2 2, [⟨1, 35, [.v (.int .u64 ((l : Nat) : Int)), .v (.int .u64 ((m : Nat) : Int))]⟩, ⟨0, 51, [.v (.int .i64 128), .v (.int .i32 0), .v (.int .i64 0), .v (.int .u64 ((l : Nat) : Int)), .v (.int .i64 d), .v (.int .u64 r0), .v (.int .u64 r1), .v (.int .u64 r2), .v (.int .u64 r3)]⟩], [], 2, _, false⟩) hR hI (by kernel_rfl) rfl rfl rfl (by kernel_rfl) .nil (fun e10 a10 w10 hag hR2 hI => ?_)
  replace hS := Rel.old (k := 1) hS hR hR2 hF hag [0] [] (by kernel_rfl) (by kernel_rfl) (by kernel_rfl); replace hR := hR2
  refine ⟨hS, ?_⟩
  refine wpL_env hag (by kernel_rfl) ?_
  replace hS := hS.agree (k := 1) (L := []) (Wf.of (by kernel_rfl)) hag
  replace hI := hI.sel [28, 27, 23] (by kernel_rfl : sel _ _ = some [(28, .sl 1 0 2 2), (27, .v (.int .u64 ((m : Nat) : Int))), (23, .v (.int .u64 ((l : Nat) : Int)))])
  refine endL (i := 8) (f' := 0) (by kernel_rfl) (by rfl) (by kernel_rfl) ?_
  refine quietL tab (hh := .no) (x := .sl 1 0 2 2) hR hI rfl rfl rfl (by kernel_rfl) .nil (fun a11 hI => ?_)
  replace hI := hI.sel [2, 28, 27, 23] (by kernel_rfl : sel _ _ = some [(2, .sl 1 0 2 2), (28, .sl 1 0 2 2), (27, .v (.int .u64 ((m : Nat) : Int))), (23, .v (.int .u64 ((l : Nat) : Int)))])
  refine doneL (by kernel_rfl) ?_
  refine then_n ?_
  replace hI := hI.sel [2] (by kernel_rfl : sel _ _ = some [(2, .sl 1 0 2 2)]); replace hR := hR.sel [1] [] (by kernel_rfl : selH _ _ = some [⟨1, 35, [.v (.int .u64 ((l : Nat) : Int)), .v (.int .u64 ((m : Nat) : Int))]⟩]) (by kernel_rfl : selG _ _ = some [])
  refine wp_ret ?_
  refine ret_block ?_
  refine ret_then ?_
  obtain ⟨e12, hag_, hr_, hR_⟩ := hR.litRow (L := [(2, .sl 1 0 2 2)]) 2 [] (by kernel_rfl) (b := ⟨1, 35, [.v (.int .u64 ((l : Nat) : Int)), .v (.int .u64 ((m : Nat) : Int))]⟩) (by simp) (by simp) (n := 2) (sz := 1) (xs := ints .u64 [l, m]) rfl rfl (by decide)
  replace hI := hI.agreeB (H := []) (G := []) (by kernel_rfl) hag_; replace hR := hR_; replace hI := hI.re 2 (.row 2) rfl hr_.symm; clear hag_ hr_ hR_
  obtain ⟨hB_, hR_, hrel_, wd, wc, hv_, hcells_, hlen_, hcap_, hmax_⟩ := hB.release hR (y := ⟨2, 35, 1, 2, (ints .u64 [l, m])⟩) (by simp) rfl _ dropN_mem
  have hw : Sl .u64 18446744073709551616 _ _ wd wc [l, m] := ⟨hcells_, (dig64_2 hlb hmb), (by dsimp only at hlen_ hcap_; rw [ints_length] at hlen_; omega), hmax_⟩
  replace hI := hI.re 2 (.v (.slice wd 2 wc)) rfl hv_
  replace hB := hB_; replace hR := hR_.sel [] [] (by kernel_rfl : selH _ _ = some []) (by kernel_rfl : selG _ _ = some []); clear hB_ hR_ hrel_ hcells_ hv_
  refine outN tab (xs := [.v (.slice wd 2 wc)]) hR hI rfl (by kernel_rfl) ?_
  exact ⟨wd, wc, [l, m], rfl, hB.fin hR, hw.fin hB hR, m, rfl, hm⟩

set_option maxHeartbeats 4000000 in
set_option maxRecDepth 100000 in
theorem words256_spec {C : Nat → Prop} {w : World} {x3 x4 : Int} {q0 q1 q2 q3 : Nat} (hq : q0 < 18446744073709551616 ∧ q1 < 18446744073709551616 ∧ q2 < 18446744073709551616 ∧ q3 < 18446744073709551616) :
    Calls P 19 #[.agg #[.int .i64 256, .int .i32 0, .int .i64 0, .int .u64 x3, .int .i64 x4, .int .u64 ((q0 : Nat) : Int), .int .u64 ((q1 : Nat) : Int), .int .u64 ((q2 : Nat) : Int), .int .u64 ((q3 : Nat) : Int)]] w fun ex w' => ∃ wd wc, ex = .returned (.slice wd (List.length [q0, q1, q2, q3]) wc) ∧ Keep (fun b => b < w.heap.size) w w' ∧ Sl .u64 18446744073709551616 (Grow C w w') w' wd wc [q0, q1, q2, q3] := by
  refine doorN (e := e0) (vs := [.v (.agg #[.int .i64 256, .int .i32 0, .int .i64 0, .int .u64 x3, .int .i64 x4, .int .u64 ((q0 : Nat) : Int), .int .u64 ((q1 : Nat) : Int), .int .u64 ((q2 : Nat) : Int), .int .u64 ((q3 : Nat) : Int)])]) (n := 33) (m := 1) Try.func19 rfl rfl rfl (by decide) fun a_ hI => ?_
  replace hI : Is 33 [] e0 [(0, .v (.agg #[.int .i64 256, .int .i32 0, .int .i64 0, .int .u64 x3, .int .i64 x4, .int .u64 ((q0 : Nat) : Int), .int .u64 ((q1 : Nat) : Int), .int .u64 ((q2 : Nat) : Int), .int .u64 ((q3 : Nat) : Int)]))] a_ := hI
  have hR : Rel (fun b => b < w.heap.size) w e0 [] [] w := Rel.start (fun k hk => hk)
  have hB : Base C w C (fun b => b < w.heap.size) w := Base.start
  refine reg_seq tab (k := 0) (hs := []) (sy := []) (ks := [1]) (bs := [0]) (gs := [])
      (L' := [(1, .p 0 0)])
      (H' := [⟨0, 51, [.v (.int .i64 256), .v (.int .i32 0), .v (.int .i64 0), .v (.int .u64 x3), .v (.int .i64 x4), .v (.int .u64 ((q0 : Nat) : Int)), .v (.int .u64 ((q1 : Nat) : Int)), .v (.int .u64 ((q2 : Nat) : Int)), .v (.int .u64 ((q3 : Nat) : Int))]⟩]) (G' := []) (k' := 1) hR hI (by kernel_rfl)
      .nil (fun e1 a1 w1 hag hR hI => ?_)
  refine wp_seq ?_
  refine reg_seq tab (k := 1) (hs := []) (sy := []) (ks := [5, 1]) (bs := [0]) (gs := [])
      (L' := [(5, .v (.int .i64 256)), (1, .p 0 0)])
      (H' := [⟨0, 51, [.v (.int .i64 256), .v (.int .i32 0), .v (.int .i64 0), .v (.int .u64 x3), .v (.int .i64 x4), .v (.int .u64 ((q0 : Nat) : Int)), .v (.int .u64 ((q1 : Nat) : Int)), .v (.int .u64 ((q2 : Nat) : Int)), .v (.int .u64 ((q3 : Nat) : Int))]⟩]) (G' := []) (k' := 1) hR hI (by kernel_rfl)
      .nil (fun e2 a2 w2 hag hR hI => ?_)
  refine wp_block ?_
  refine reg_seq tab (k := 1) (hs := []) (sy := []) (ks := [6, 5, 1]) (bs := [0]) (gs := [])
      (L' := [(6, .v (.bool false)), (5, .v (.int .i64 256)), (1, .p 0 0)])
      (H' := [⟨0, 51, [.v (.int .i64 256), .v (.int .i32 0), .v (.int .i64 0), .v (.int .u64 x3), .v (.int .i64 x4), .v (.int .u64 ((q0 : Nat) : Int)), .v (.int .u64 ((q1 : Nat) : Int)), .v (.int .u64 ((q2 : Nat) : Int)), .v (.int .u64 ((q3 : Nat) : Int))]⟩]) (G' := []) (k' := 1) hR hI (by kernel_rfl)
      .nil (fun e3 a3 w3 hag hR hI => ?_)
  refine cnd_f hI (by kernel_rfl) ?_
  refine reg_seq tab (k := 1) (hs := []) (sy := []) (ks := [13, 5, 1]) (bs := [0]) (gs := [])
      (L' := [(13, .v (.bool false)), (5, .v (.int .i64 256)), (1, .p 0 0)])
      (H' := [⟨0, 51, [.v (.int .i64 256), .v (.int .i32 0), .v (.int .i64 0), .v (.int .u64 x3), .v (.int .i64 x4), .v (.int .u64 ((q0 : Nat) : Int)), .v (.int .u64 ((q1 : Nat) : Int)), .v (.int .u64 ((q2 : Nat) : Int)), .v (.int .u64 ((q3 : Nat) : Int))]⟩]) (G' := []) (k' := 1) hR hI (by kernel_rfl)
      .nil (fun e4 a4 w4 hag hR hI => ?_)
  refine cnd_f hI (by kernel_rfl) ?_
  refine reg_seq tab (k := 1) (hs := []) (sy := []) (ks := [19, 1]) (bs := [0]) (gs := [])
      (L' := [(19, .v (.bool false)), (1, .p 0 0)])
      (H' := [⟨0, 51, [.v (.int .i64 256), .v (.int .i32 0), .v (.int .i64 0), .v (.int .u64 x3), .v (.int .i64 x4), .v (.int .u64 ((q0 : Nat) : Int)), .v (.int .u64 ((q1 : Nat) : Int)), .v (.int .u64 ((q2 : Nat) : Int)), .v (.int .u64 ((q3 : Nat) : Int))]⟩]) (G' := []) (k' := 1) hR hI (by kernel_rfl)
      .nil (fun e5 a5 w5 hag hR hI => ?_)
  refine cnd_f hI (by kernel_rfl) ?_
  refine wp_skip ?_
  refine normal_block ?_
  refine then_n ?_
  refine wp_seq ?_
  refine reg (is := [0, 1, 2, 3, 4]) (by kernel_rfl) ?_
  refine part_ tab [0, 1] [2, 3, 4] (by rfl) (k := 1) (hs := []) (sy := []) (ks := [30]) (bs := []) (gs := [])
      (L' := [(30, .agg [.v (.int .u64 ((q0 : Nat) : Int)), .v (.int .u64 ((q1 : Nat) : Int)), .v (.int .u64 ((q2 : Nat) : Int)), .v (.int .u64 ((q3 : Nat) : Int))])])
      (H' := []) (G' := []) (k' := 1) hR hI (by kernel_rfl)
      .nil (fun e6 a6 w6 hag hR hI => ?_)
  refine callOp (ys := [.agg [.v (.int .u64 ((q0 : Nat) : Int)), .v (.int .u64 ((q1 : Nat) : Int)), .v (.int .u64 ((q2 : Nat) : Int)), .v (.int .u64 ((q3 : Nat) : Int))]]) hI rfl rfl ⟨_, rfl, rfl, rfl⟩ (by kernel_rfl) Try.func35 rfl rfl ?_
  refine (array_spec (C := C) q0 q1 q2 q3).mono ?_
  rintro ex w7 ⟨rfl, hk⟩
  replace hR := hR.same hk; clear hk
  refine ⟨_, rfl, ?_⟩
  replace hI := hI.put (d := some 31) (x := .v (.agg #[.int .u64 ((q0 : Nat) : Int), .int .u64 ((q1 : Nat) : Int), .int .u64 ((q2 : Nat) : Int), .int .u64 ((q3 : Nat) : Int)])) (by intro t ht; cases ht; decide) rfl
  replace hI := hI.sel [31, 30] (by kernel_rfl : sel _ _ = some [(31, .v (.agg #[.int .u64 ((q0 : Nat) : Int), .int .u64 ((q1 : Nat) : Int), .int .u64 ((q2 : Nat) : Int), .int .u64 ((q3 : Nat) : Int)])), (30, .agg [.v (.int .u64 ((q0 : Nat) : Int)), .v (.int .u64 ((q1 : Nat) : Int)), .v (.int .u64 ((q2 : Nat) : Int)), .v (.int .u64 ((q3 : Nat) : Int))])])
  refine part_ tab [3, 4] [] (by rfl) (k := 1) (hs := []) (sy := []) (ks := [3]) (bs := [1]) (gs := [])
      (L' := [(3, .p 1 0)])
      (H' := [⟨1, 47, [.v (.int .u64 ((q0 : Nat) : Int)), .v (.int .u64 ((q1 : Nat) : Int)), .v (.int .u64 ((q2 : Nat) : Int)), .v (.int .u64 ((q3 : Nat) : Int))]⟩]) (G' := []) (k' := 2) hR hI (by kernel_rfl)
      .nil (fun e8 a8 w8 hag hR hI => ?_)
  refine ops_nil ?_
  refine then_n ?_
  refine reg_seq tab (k := 2) (hs := []) (sy := []) (ks := [2]) (bs := [1]) (gs := [])
      (L' := [(2, .sl 1 0 4 4)])
      (H' := [⟨1, 47, [.v (.int .u64 ((q0 : Nat) : Int)), .v (.int .u64 ((q1 : Nat) : Int)), .v (.int .u64 ((q2 : Nat) : Int)), .v (.int .u64 ((q3 : Nat) : Int))]⟩]) (G' := []) (k' := 2) hR hI (by kernel_rfl)
      .nil (fun e9 a9 w9 hag hR hI => ?_)
  refine wp_ret ?_
  obtain ⟨e10, hag_, hr_, hR_⟩ := hR.litRow (L := [(2, .sl 1 0 4 4)]) 2 [] (by kernel_rfl) (b := ⟨1, 47, [.v (.int .u64 ((q0 : Nat) : Int)), .v (.int .u64 ((q1 : Nat) : Int)), .v (.int .u64 ((q2 : Nat) : Int)), .v (.int .u64 ((q3 : Nat) : Int))]⟩) (by simp) (by simp) (n := 4) (sz := 1) (xs := ints .u64 [q0, q1, q2, q3]) rfl rfl (by decide)
  replace hI := hI.agreeB (H := []) (G := []) (by kernel_rfl) hag_; replace hR := hR_; replace hI := hI.re 2 (.row 2) rfl hr_.symm; clear hag_ hr_ hR_
  obtain ⟨hB_, hR_, hrel_, wd, wc, hv_, hcells_, hlen_, hcap_, hmax_⟩ := hB.release hR (y := ⟨2, 47, 1, 4, (ints .u64 [q0, q1, q2, q3])⟩) (by simp) rfl _ dropN_mem
  have hw : Sl .u64 18446744073709551616 _ _ wd wc [q0, q1, q2, q3] := ⟨hcells_, (dig64_4 hq), (by dsimp only at hlen_ hcap_; rw [ints_length] at hlen_; omega), hmax_⟩
  replace hI := hI.re 2 (.v (.slice wd 4 wc)) rfl hv_
  replace hB := hB_; replace hR := hR_.sel [] [] (by kernel_rfl : selH _ _ = some []) (by kernel_rfl : selG _ _ = some []); clear hB_ hR_ hrel_ hcells_ hv_
  refine outN tab (xs := [.v (.slice wd 4 wc)]) hR hI rfl (by kernel_rfl) ?_
  exact ⟨wd, wc, rfl, hB.fin hR, hw.fin hB hR⟩

set_option maxHeartbeats 4000000 in
set_option maxRecDepth 100000 in
theorem wideUint_spec {C : Nat → Prop} {w : World} {u : Nat} (hu : u < 18446744073709551616) :
    Calls P 12 #[.int .u64 ((u : Nat) : Int)] w fun ex w' => ∃ nz zd zc zs, ex = .returned (.agg #[.bool nz, .slice zd (List.length zs) zc]) ∧ Keep (fun b => b < w.heap.size) w w' ∧ Wd (Grow C w w') w' nz zd zc zs ((u : Int)) (2) := by
  refine doorN (e := e0) (vs := [.v (.int .u64 ((u : Nat) : Int))]) (n := 10) (m := 1) Try.func12 rfl rfl rfl (by decide) fun a_ hI => ?_
  replace hI : Is 10 [] e0 [(0, .v (.int .u64 ((u : Nat) : Int)))] a_ := hI
  have hR : Rel (fun b => b < w.heap.size) w e0 [] [] w := Rel.start (fun k hk => hk)
  have hB : Base C w C (fun b => b < w.heap.size) w := Base.start
  refine reg_seq tab (k := 0) (hs := []) (sy := []) (ks := [2, 0]) (bs := [0]) (gs := [])
      (L' := [(2, .p 0 0), (0, .v (.int .u64 ((u : Nat) : Int)))])
      (H' := [⟨0, 29, [.v (.bool false), .v (.slice none 0 0)]⟩]) (G' := []) (k' := 1) hR hI (by kernel_rfl)
      .nil (fun e1 a1 w1 hag hR hI => ?_)
  refine wp_seq ?_
  refine reg (is := [0, 1, 2, 3, 4, 5, 6, 7]) (by kernel_rfl) ?_
  refine part_ tab [0, 1, 2, 3, 4, 5] [6, 7] (by rfl) (k := 1) (hs := [(1, .eq (.int .u32 ((u % 4294967296 : Nat) : Int))), (4, .nw)]) (sy := []) (ks := [8, 2]) (bs := [1, 0]) (gs := [])
      (L' := [(8, .sl 1 0 2 2), (2, .p 0 0)])
      (H' := [⟨1, 68, [.v (.int .u32 ((u % 4294967296 : Nat) : Int)), .v (.int .u32 ((u / 4294967296 : Nat) : Int))]⟩, ⟨0, 29, [.v (.bool false), .v (.slice none 0 0)]⟩]) (G' := []) (k' := 2) hR hI (by kernel_rfl)
      (.cons (congrArg (Value.int .u32) (wrap_u32_nat _ : IntKind.u32.wrap ((u : Nat) : Int) = ((u % 4294967296 : Nat) : Int))) (.cons (by decide : (0 : Int) ≤ 32) (.cons (by decide : (32 : Int) ≤ (IntKind.u64.bits : Int)) (.cons (inR_u32 (n := ((u / 4294967296 : Nat) : Int)) (by omega)) .nil)))) (fun e2 a2 w2 hag hR hI => ?_)
  obtain ⟨e3, hag_, hr_, hR_⟩ := hR.litRow (L := [(8, .sl 1 0 2 2), (2, .p 0 0)]) 2 [⟨0, 29, [.v (.bool false), .v (.slice none 0 0)]⟩] (by kernel_rfl) (b := ⟨1, 68, [.v (.int .u32 ((u % 4294967296 : Nat) : Int)), .v (.int .u32 ((u / 4294967296 : Nat) : Int))]⟩) (by simp) (by simp) (n := 2) (sz := 1) (xs := ints .u32 [u % 4294967296, u / 4294967296]) rfl rfl (by decide)
  replace hI := hI.agreeB (H := [⟨0, 29, [.v (.bool false), .v (.slice none 0 0)]⟩]) (G := []) (by kernel_rfl) hag_; replace hR := hR_; replace hI := hI.re 8 (.row 2) rfl hr_.symm; clear hag_ hr_ hR_
  obtain ⟨hB_, hR_, hrel_, zd, zc, hv_, hcells_, hlen_, hcap_, hmax_⟩ := hB.release hR (y := ⟨2, 68, 1, 2, (ints .u32 [u % 4294967296, u / 4294967296])⟩) (by simp) rfl _ dropN_mem
  have hm_ : Sl .u32 4294967296 _ _ zd zc [u % 4294967296, u / 4294967296] := ⟨hcells_, (dig_split (by omega)), (by dsimp only at hlen_ hcap_; rw [ints_length] at hlen_; omega), hmax_⟩
  replace hI := hI.re 8 (.v (.slice zd 2 zc)) rfl hv_
  replace hB := hB_; replace hR := hR_.sel [0] [] (by kernel_rfl : selH _ _ = some [⟨0, 29, [.v (.bool false), .v (.slice none 0 0)]⟩]) (by kernel_rfl : selG _ _ = some []); clear hB_ hR_ hrel_ hcells_ hv_
  refine callOp (ys := [.v (.bool false), .v (.slice zd 2 zc)]) hI rfl rfl ⟨_, rfl, rfl, rfl⟩ (by kernel_rfl) Try.func23 rfl rfl ?_
  refine (wide_wd false (xs := [u % 4294967296, u / 4294967296]) (hm_.now hB hR)).mono ?_
  rintro ex w4 ⟨nz, zs, rfl, hk, hz⟩
  replace hm_ := hm_.next hB hR hk
  have hB_ := hB.next hR hk
  replace hR := hR.after hk
  replace hB := hB_; clear hB_ hk
  refine ⟨_, rfl, ?_⟩
  replace hI := hI.put (d := some 9) (x := .v (.agg #[.bool nz, .slice zd zs.length zc])) (by intro t ht; cases ht; decide) rfl
  replace hI := hI.sel [9, 8, 2] (by kernel_rfl : sel _ _ = some [(9, .v (.agg #[.bool nz, .slice zd zs.length zc])), (8, .v (.slice zd 2 zc)), (2, .p 0 0)])
  refine part_ tab [7] [] (by rfl) (k := 3) (hs := []) (sy := []) (ks := [2]) (bs := [0]) (gs := [])
      (L' := [(2, .p 0 0)])
      (H' := [⟨0, 29, [.v (.bool nz), .v (.slice zd zs.length zc)]⟩]) (G' := []) (k' := 3) hR hI (by kernel_rfl)
      .nil (fun e5 a5 w5 hag hR hI => ?_)
  refine ops_nil ?_
  refine then_n ?_
  refine wp_ret ?_
  refine outN tab (xs := [.agg [.v (.bool nz), .v (.slice zd zs.length zc)]]) hR hI rfl (by kernel_rfl) ?_
  exact ⟨nz, zd, zc, zs, rfl, hB.fin hR, (hz.fin hB hR).to (by rw [val_split2]; rfl) (Nat.le_refl _)⟩

set_option maxHeartbeats 4000000 in
set_option maxRecDepth 100000 in
theorem wideInt_spec {C : Nat → Prop} {w : World} {v : Int} (hv : -9223372036854775808 ≤ v ∧ v ≤ 9223372036854775807) :
    Calls P 13 #[.int .i64 v] w fun ex w' => ∃ nz zd zc zs, ex = .returned (.agg #[.bool nz, .slice zd (List.length zs) zc]) ∧ Keep (fun b => b < w.heap.size) w w' ∧ Wd (Grow C w w') w' nz zd zc zs (v) (2) := by
  refine doorN (e := e0) (vs := [.v (.int .i64 v)]) (n := 19) (m := 1) Try.func13 rfl rfl rfl (by decide) fun a_ hI => ?_
  replace hI : Is 19 [] e0 [(0, .v (.int .i64 v))] a_ := hI
  have hR : Rel (fun b => b < w.heap.size) w e0 [] [] w := Rel.start (fun k hk => hk)
  have hB : Base C w C (fun b => b < w.heap.size) w := Base.start
  obtain ⟨m, hm, hmb⟩ := u64_nat v; have hm2 := hm; rw [wrap_u64] at hm2
  refine reg_seq tab (k := 0) (hs := []) (sy := []) (ks := [2, 0]) (bs := [0]) (gs := [])
      (L' := [(2, .p 0 0), (0, .v (.int .i64 v))])
      (H' := [⟨0, 29, [.v (.bool false), .v (.slice none 0 0)]⟩]) (G' := []) (k' := 1) hR hI (by kernel_rfl)
      .nil (fun e1 a1 w1 hag hR hI => ?_)
  refine reg_seq tab (k := 1) (hs := [(1, .eq (.int .u64 ((m : Nat) : Int)))]) (sy := []) (ks := [3, 2, 0]) (bs := [0]) (gs := [])
      (L' := [(3, .v (.int .u64 ((m : Nat) : Int))), (2, .p 0 0), (0, .v (.int .i64 v))])
      (H' := [⟨0, 29, [.v (.bool false), .v (.slice none 0 0)]⟩]) (G' := []) (k' := 1) hR hI (by kernel_rfl)
      (.cons (congrArg (Value.int .u64) (hm : IntKind.u64.wrap v = ((m : Nat) : Int))) .nil) (fun e2 a2 w2 hag hR hI => ?_)
  refine wp_seq ?_
  refine reg_seq tab (k := 1) (hs := []) (sy := []) (ks := [7, 3, 2, 0]) (bs := [0]) (gs := [])
      (L' := [(7, .v (.bool (decide (v < (0 : Int))))), (3, .v (.int .u64 ((m : Nat) : Int))), (2, .p 0 0), (0, .v (.int .i64 v))])
      (H' := [⟨0, 29, [.v (.bool false), .v (.slice none 0 0)]⟩]) (G' := []) (k' := 1) hR hI (by kernel_rfl)
      .nil (fun e3 a3 w3 hag hR hI => ?_)
  refine cnd (b := decide (v < (0 : Int))) hI (by kernel_rfl) (fun hc4 => ?_) (fun hc4 => ?_)
  · skip
    replace hI := hI.re 7 (.v (.bool true)) rfl (congrArg Value.bool hc4)
    try simp only [decide_eq_true_eq, decide_eq_false_iff_not, beq_iff_eq, bne_iff_ne, beq_eq_false_iff_ne, bne_eq_false_iff_eq, Bool.and_eq_true, Bool.and_eq_false_iff, Bool.or_eq_true, Bool.or_eq_false_iff, Bool.not_eq_true', Bool.not_eq_false', ne_eq] at hc4
    have hneg := hc4
    obtain ⟨m2, hn, hnb⟩ := u64_nat (0 - ((m : Nat) : Int)); have hn2 := hn; rw [wrap_u64] at hn2
    refine reg_all tab (k := 1) (hs := [(1, .eq (.int .u64 ((m2 : Nat) : Int)))]) (sy := []) (ks := [3, 2, 0]) (bs := [0]) (gs := [])
        (L' := [(3, .v (.int .u64 ((m2 : Nat) : Int))), (2, .p 0 0), (0, .v (.int .i64 v))])
        (H' := [⟨0, 29, [.v (.bool false), .v (.slice none 0 0)]⟩]) (G' := []) (k' := 1) hR hI (by kernel_rfl)
        (.cons (congrArg (Value.int .u64) (hn : IntKind.u64.wrap (0 - ((m : Nat) : Int)) = ((m2 : Nat) : Int))) .nil) (fun e5 a5 w5 hag hR hI => ?_)
    refine then_n ?_
    have hxb : m2 < 18446744073709551616 := by omega
    refine wp_seq ?_
    refine reg (is := [0, 1, 2, 3, 4, 5, 6, 7, 8, 9]) (by kernel_rfl) ?_
    refine part_ tab [0, 1, 2, 3, 4, 5, 6, 7] [8, 9] (by rfl) (k := 1) (hs := [(3, .eq (.int .u32 ((m2 % 4294967296 : Nat) : Int))), (6, .nw)]) (sy := []) (ks := [17, 11, 2]) (bs := [1, 0]) (gs := [])
        (L' := [(17, .sl 1 0 2 2), (11, .v (.bool (decide (v < (0 : Int))))), (2, .p 0 0)])
        (H' := [⟨1, 68, [.v (.int .u32 ((m2 % 4294967296 : Nat) : Int)), .v (.int .u32 ((m2 / 4294967296 : Nat) : Int))]⟩, ⟨0, 29, [.v (.bool false), .v (.slice none 0 0)]⟩]) (G' := []) (k' := 2) hR hI (by kernel_rfl)
        (.cons (congrArg (Value.int .u32) (wrap_u32_nat _ : IntKind.u32.wrap ((m2 : Nat) : Int) = ((m2 % 4294967296 : Nat) : Int))) (.cons (by decide : (0 : Int) ≤ 32) (.cons (by decide : (32 : Int) ≤ (IntKind.u64.bits : Int)) (.cons (inR_u32 (n := ((m2 / 4294967296 : Nat) : Int)) (by omega)) .nil)))) (fun e6 a6 w6 hag hR hI => ?_)
    obtain ⟨e7, hag_, hr_, hR_⟩ := hR.litRow (L := [(17, .sl 1 0 2 2), (11, .v (.bool (decide (v < (0 : Int))))), (2, .p 0 0)]) 2 [⟨0, 29, [.v (.bool false), .v (.slice none 0 0)]⟩] (by kernel_rfl) (b := ⟨1, 68, [.v (.int .u32 ((m2 % 4294967296 : Nat) : Int)), .v (.int .u32 ((m2 / 4294967296 : Nat) : Int))]⟩) (by simp) (by simp) (n := 2) (sz := 1) (xs := ints .u32 [m2 % 4294967296, m2 / 4294967296]) rfl rfl (by decide)
    replace hI := hI.agreeB (H := [⟨0, 29, [.v (.bool false), .v (.slice none 0 0)]⟩]) (G := []) (by kernel_rfl) hag_; replace hR := hR_; replace hI := hI.re 17 (.row 2) rfl hr_.symm; clear hag_ hr_ hR_
    obtain ⟨hB_, hR_, hrel_, zd, zc, hv_, hcells_, hlen_, hcap_, hmax_⟩ := hB.release hR (y := ⟨2, 68, 1, 2, (ints .u32 [m2 % 4294967296, m2 / 4294967296])⟩) (by simp) rfl _ dropN_mem
    have hm_ : Sl .u32 4294967296 _ _ zd zc [m2 % 4294967296, m2 / 4294967296] := ⟨hcells_, (dig_split (by omega)), (by dsimp only at hlen_ hcap_; rw [ints_length] at hlen_; omega), hmax_⟩
    replace hI := hI.re 17 (.v (.slice zd 2 zc)) rfl hv_
    replace hB := hB_; replace hR := hR_.sel [0] [] (by kernel_rfl : selH _ _ = some [⟨0, 29, [.v (.bool false), .v (.slice none 0 0)]⟩]) (by kernel_rfl : selG _ _ = some []); clear hB_ hR_ hrel_ hcells_ hv_
    refine callOp (ys := [.v (.bool (decide (v < (0 : Int)))), .v (.slice zd 2 zc)]) hI rfl rfl ⟨_, rfl, rfl, rfl⟩ (by kernel_rfl) Try.func23 rfl rfl ?_
    refine (wide_wd (decide (v < (0 : Int))) (xs := [m2 % 4294967296, m2 / 4294967296]) (hm_.now hB hR)).mono ?_
    rintro ex w8 ⟨nz, zs, rfl, hk, hz⟩
    replace hm_ := hm_.next hB hR hk
    have hB_ := hB.next hR hk
    replace hR := hR.after hk
    replace hB := hB_; clear hB_ hk
    refine ⟨_, rfl, ?_⟩
    replace hI := hI.put (d := some 18) (x := .v (.agg #[.bool nz, .slice zd zs.length zc])) (by intro t ht; cases ht; decide) rfl
    replace hI := hI.sel [18, 17, 11, 2] (by kernel_rfl : sel _ _ = some [(18, .v (.agg #[.bool nz, .slice zd zs.length zc])), (17, .v (.slice zd 2 zc)), (11, .v (.bool (decide (v < (0 : Int))))), (2, .p 0 0)])
    refine part_ tab [9] [] (by rfl) (k := 3) (hs := []) (sy := []) (ks := [2]) (bs := [0]) (gs := [])
        (L' := [(2, .p 0 0)])
        (H' := [⟨0, 29, [.v (.bool nz), .v (.slice zd zs.length zc)]⟩]) (G' := []) (k' := 3) hR hI (by kernel_rfl)
        .nil (fun e9 a9 w9 hag hR hI => ?_)
    refine ops_nil ?_
    refine then_n ?_
    refine wp_ret ?_
    refine outN tab (xs := [.agg [.v (.bool nz), .v (.slice zd zs.length zc)]]) hR hI rfl (by kernel_rfl) ?_
    exact ⟨nz, zd, zc, zs, rfl, hB.fin hR, (hz.fin hB hR).to (by rw [val_split2, decide_eq_true hneg]; simp only [sg]; omega) (Nat.le_refl _)⟩
  · skip
    replace hI := hI.re 7 (.v (.bool false)) rfl (congrArg Value.bool hc4)
    try simp only [decide_eq_true_eq, decide_eq_false_iff_not, beq_iff_eq, bne_iff_ne, beq_eq_false_iff_ne, bne_eq_false_iff_eq, Bool.and_eq_true, Bool.and_eq_false_iff, Bool.or_eq_true, Bool.or_eq_false_iff, Bool.not_eq_true', Bool.not_eq_false', ne_eq] at hc4
    have hneg := hc4
    refine wp_skip ?_
    refine then_n ?_
    have hxb : m < 18446744073709551616 := by omega
    refine wp_seq ?_
    refine reg (is := [0, 1, 2, 3, 4, 5, 6, 7, 8, 9]) (by kernel_rfl) ?_
    refine part_ tab [0, 1, 2, 3, 4, 5, 6, 7] [8, 9] (by rfl) (k := 1) (hs := [(3, .eq (.int .u32 ((m % 4294967296 : Nat) : Int))), (6, .nw)]) (sy := []) (ks := [17, 11, 2]) (bs := [1, 0]) (gs := [])
        (L' := [(17, .sl 1 0 2 2), (11, .v (.bool (decide (v < (0 : Int))))), (2, .p 0 0)])
        (H' := [⟨1, 68, [.v (.int .u32 ((m % 4294967296 : Nat) : Int)), .v (.int .u32 ((m / 4294967296 : Nat) : Int))]⟩, ⟨0, 29, [.v (.bool false), .v (.slice none 0 0)]⟩]) (G' := []) (k' := 2) hR hI (by kernel_rfl)
        (.cons (congrArg (Value.int .u32) (wrap_u32_nat _ : IntKind.u32.wrap ((m : Nat) : Int) = ((m % 4294967296 : Nat) : Int))) (.cons (by decide : (0 : Int) ≤ 32) (.cons (by decide : (32 : Int) ≤ (IntKind.u64.bits : Int)) (.cons (inR_u32 (n := ((m / 4294967296 : Nat) : Int)) (by omega)) .nil)))) (fun e10 a10 w10 hag hR hI => ?_)
    obtain ⟨e11, hag_, hr_, hR_⟩ := hR.litRow (L := [(17, .sl 1 0 2 2), (11, .v (.bool (decide (v < (0 : Int))))), (2, .p 0 0)]) 2 [⟨0, 29, [.v (.bool false), .v (.slice none 0 0)]⟩] (by kernel_rfl) (b := ⟨1, 68, [.v (.int .u32 ((m % 4294967296 : Nat) : Int)), .v (.int .u32 ((m / 4294967296 : Nat) : Int))]⟩) (by simp) (by simp) (n := 2) (sz := 1) (xs := ints .u32 [m % 4294967296, m / 4294967296]) rfl rfl (by decide)
    replace hI := hI.agreeB (H := [⟨0, 29, [.v (.bool false), .v (.slice none 0 0)]⟩]) (G := []) (by kernel_rfl) hag_; replace hR := hR_; replace hI := hI.re 17 (.row 2) rfl hr_.symm; clear hag_ hr_ hR_
    obtain ⟨hB_, hR_, hrel_, zd, zc, hv_, hcells_, hlen_, hcap_, hmax_⟩ := hB.release hR (y := ⟨2, 68, 1, 2, (ints .u32 [m % 4294967296, m / 4294967296])⟩) (by simp) rfl _ dropN_mem
    have hm_ : Sl .u32 4294967296 _ _ zd zc [m % 4294967296, m / 4294967296] := ⟨hcells_, (dig_split (by omega)), (by dsimp only at hlen_ hcap_; rw [ints_length] at hlen_; omega), hmax_⟩
    replace hI := hI.re 17 (.v (.slice zd 2 zc)) rfl hv_
    replace hB := hB_; replace hR := hR_.sel [0] [] (by kernel_rfl : selH _ _ = some [⟨0, 29, [.v (.bool false), .v (.slice none 0 0)]⟩]) (by kernel_rfl : selG _ _ = some []); clear hB_ hR_ hrel_ hcells_ hv_
    refine callOp (ys := [.v (.bool (decide (v < (0 : Int)))), .v (.slice zd 2 zc)]) hI rfl rfl ⟨_, rfl, rfl, rfl⟩ (by kernel_rfl) Try.func23 rfl rfl ?_
    refine (wide_wd (decide (v < (0 : Int))) (xs := [m % 4294967296, m / 4294967296]) (hm_.now hB hR)).mono ?_
    rintro ex w12 ⟨nz, zs, rfl, hk, hz⟩
    replace hm_ := hm_.next hB hR hk
    have hB_ := hB.next hR hk
    replace hR := hR.after hk
    replace hB := hB_; clear hB_ hk
    refine ⟨_, rfl, ?_⟩
    replace hI := hI.put (d := some 18) (x := .v (.agg #[.bool nz, .slice zd zs.length zc])) (by intro t ht; cases ht; decide) rfl
    replace hI := hI.sel [18, 17, 11, 2] (by kernel_rfl : sel _ _ = some [(18, .v (.agg #[.bool nz, .slice zd zs.length zc])), (17, .v (.slice zd 2 zc)), (11, .v (.bool (decide (v < (0 : Int))))), (2, .p 0 0)])
    refine part_ tab [9] [] (by rfl) (k := 3) (hs := []) (sy := []) (ks := [2]) (bs := [0]) (gs := [])
        (L' := [(2, .p 0 0)])
        (H' := [⟨0, 29, [.v (.bool nz), .v (.slice zd zs.length zc)]⟩]) (G' := []) (k' := 3) hR hI (by kernel_rfl)
        .nil (fun e13 a13 w13 hag hR hI => ?_)
    refine ops_nil ?_
    refine then_n ?_
    refine wp_ret ?_
    refine outN tab (xs := [.agg [.v (.bool nz), .v (.slice zd zs.length zc)]]) hR hI rfl (by kernel_rfl) ?_
    exact ⟨nz, zd, zc, zs, rfl, hB.fin hR, (hz.fin hB hR).to (by rw [val_split2, decide_eq_false hneg]; simp only [sg]; omega) (Nat.le_refl _)⟩

set_option maxHeartbeats 4000000 in
set_option maxRecDepth 100000 in
theorem decFrom128s_spec {C : Nat → Prop} {w : World} {n : Nat} (hn : n < 18446744073709551616) :
    Calls P 11 #[.int .i64 128, .int .u64 ((n : Nat) : Int), .bool true, .bool false] w fun ex w' => ∃ us wd wc, ex = .returned (.tuple #[.slice wd (List.length us) wc, .bool true]) ∧ Keep (fun b => b < w.heap.size) w w' ∧ Sl .u64 18446744073709551616 (Grow C w w') w' wd wc us ∧ Tells 128 (fromV n true) us := by
  refine doorD (e := e0) (vs := [.v (.int .i64 128), .v (.int .u64 ((n : Nat) : Int)), .v (.bool true), .v (.bool false)]) (n := 48) (m := 4) Try.func11 rfl rfl rfl (by decide) fun a_ hI => ?_
  replace hI : Is 48 [] e0 [(0, .v (.int .i64 128)), (1, .v (.int .u64 ((n : Nat) : Int))), (2, .v (.bool true)), (3, .v (.bool false))] a_ := hI
  have hR : Rel (fun b => b < w.heap.size) w e0 [] [] w := Rel.start (fun k hk => hk)
  have hB : Base C w C (fun b => b < w.heap.size) w := Base.start
  refine reg_seq tab (k := 0) (hs := []) (sy := []) (ks := [9, 8, 0, 1, 2, 3]) (bs := [1, 0]) (gs := [])
      (L' := [(9, .p 1 0), (8, .p 0 0), (0, .v (.int .i64 128)), (1, .v (.int .u64 ((n : Nat) : Int))), (2, .v (.bool true)), (3, .v (.bool false))])
      (H' := [⟨1, 4, [.v (.bool false)]⟩, ⟨0, 22, [.v (.slice none 0 0)]⟩]) (G' := []) (k' := 2) hR hI (by kernel_rfl)
      .nil (fun e1 a1 w1 hag hR hI => ?_)
  refine wp_seq ?_
  refine reg (is := [0]) (by kernel_rfl) ?_
  refine deferOp (ys := [.p 0 0, .p 1 0]) hI rfl rfl rfl ⟨_, rfl, rfl, rfl⟩ (by kernel_rfl) (fun a1 hI => ?_)
  replace hI := hI.sel [9, 8, 0, 1, 2, 3] (by kernel_rfl : sel _ _ = some [(9, .p 1 0), (8, .p 0 0), (0, .v (.int .i64 128)), (1, .v (.int .u64 ((n : Nat) : Int))), (2, .v (.bool true)), (3, .v (.bool false))])
  refine ops_nil ?_
  refine then_n ?_
  refine reg_seq tab (k := 2) (hs := []) (sy := []) (ks := [10, 9, 8, 0, 1, 2, 3]) (bs := [2, 1, 0]) (gs := [])
      (L' := [(10, .p 2 0), (9, .p 1 0), (8, .p 0 0), (0, .v (.int .i64 128)), (1, .v (.int .u64 ((n : Nat) : Int))), (2, .v (.bool true)), (3, .v (.bool false))])
      (H' := [⟨2, 51, [.v (.int .i64 128), .v (.int .i32 0), .v (.int .i64 0), .v (.int .u64 0), .v (.int .i64 0), .v (.int .u64 0), .v (.int .u64 0), .v (.int .u64 0), .v (.int .u64 0)]⟩, ⟨1, 4, [.v (.bool false)]⟩, ⟨0, 22, [.v (.slice none 0 0)]⟩]) (G' := []) (k' := 3) hR hI (by kernel_rfl)
      .nil (fun e2 a2 w2 hag hR hI => ?_)
  refine wp_seq ?_
  refine reg_seq tab (k := 3) (hs := []) (sy := []) (ks := [13, 10, 9, 8, 0, 1, 3]) (bs := [2, 1, 0]) (gs := [])
      (L' := [(13, .v (.bool true)), (10, .p 2 0), (9, .p 1 0), (8, .p 0 0), (0, .v (.int .i64 128)), (1, .v (.int .u64 ((n : Nat) : Int))), (3, .v (.bool false))])
      (H' := [⟨2, 51, [.v (.int .i64 128), .v (.int .i32 0), .v (.int .i64 0), .v (.int .u64 0), .v (.int .i64 0), .v (.int .u64 0), .v (.int .u64 0), .v (.int .u64 0), .v (.int .u64 0)]⟩, ⟨1, 4, [.v (.bool false)]⟩, ⟨0, 22, [.v (.slice none 0 0)]⟩]) (G' := []) (k' := 3) hR hI (by kernel_rfl)
      .nil (fun e3 a3 w3 hag hR hI => ?_)
  refine cnd_t hI (by kernel_rfl) ?_
  refine reg (is := [0, 1, 2, 3, 4, 5, 6, 7, 8, 9]) (by kernel_rfl) ?_
  refine part_ tab [0, 1] [2, 3, 4, 5, 6, 7, 8, 9] (by rfl) (k := 3) (hs := []) (sy := []) (ks := [15, 10, 9, 8, 0, 1, 3]) (bs := [2, 1, 0]) (gs := [])
      (L' := [(15, .v (.int .i64 (IntKind.i64.wrap ((n : Nat) : Int)))), (10, .p 2 0), (9, .p 1 0), (8, .p 0 0), (0, .v (.int .i64 128)), (1, .v (.int .u64 ((n : Nat) : Int))), (3, .v (.bool false))])
      (H' := [⟨2, 51, [.v (.int .i64 128), .v (.int .i32 0), .v (.int .i64 0), .v (.int .u64 0), .v (.int .i64 0), .v (.int .u64 0), .v (.int .u64 0), .v (.int .u64 0), .v (.int .u64 0)]⟩, ⟨1, 4, [.v (.bool false)]⟩, ⟨0, 22, [.v (.slice none 0 0)]⟩]) (G' := []) (k' := 3) hR hI (by kernel_rfl)
      .nil (fun e4 a4 w4 hag hR hI => ?_)
  refine callOp (ys := [.v (.int .i64 (IntKind.i64.wrap ((n : Nat) : Int)))]) hI rfl rfl ⟨_, rfl, rfl, rfl⟩ (by kernel_rfl) Try.func25 rfl rfl ?_
  refine (fromI64_128 (C := C) _ (i64_in _)).mono ?_
  rintro ex w5 ⟨l, hi, rfl, hk, hlb, hi1, hi2, hlv⟩
  replace hR := hR.same hk; clear hk
  refine ⟨_, rfl, ?_⟩
  replace hI := hI.put (d := some 16) (x := .v (.agg #[.int .u64 ((l : Nat) : Int), .int .i64 hi])) (by intro t ht; cases ht; decide) rfl
  replace hI := hI.sel [16, 15, 10, 9, 8, 0, 1, 3] (by kernel_rfl : sel _ _ = some [(16, .v (.agg #[.int .u64 ((l : Nat) : Int), .int .i64 hi])), (15, .v (.int .i64 (IntKind.i64.wrap ((n : Nat) : Int)))), (10, .p 2 0), (9, .p 1 0), (8, .p 0 0), (0, .v (.int .i64 128)), (1, .v (.int .u64 ((n : Nat) : Int))), (3, .v (.bool false))])
  refine part_ tab [3, 4] [5, 6, 7, 8, 9] (by rfl) (k := 3) (hs := []) (sy := []) (ks := [18, 16, 10, 9, 8, 0, 3]) (bs := [2, 1, 0]) (gs := [])
      (L' := [(18, .v (.int .i64 (IntKind.i64.wrap ((n : Nat) : Int)))), (16, .v (.agg #[.int .u64 ((l : Nat) : Int), .int .i64 hi])), (10, .p 2 0), (9, .p 1 0), (8, .p 0 0), (0, .v (.int .i64 128)), (3, .v (.bool false))])
      (H' := [⟨2, 51, [.v (.int .i64 128), .v (.int .i32 0), .v (.int .i64 0), .v (.int .u64 0), .v (.int .i64 0), .v (.int .u64 0), .v (.int .u64 0), .v (.int .u64 0), .v (.int .u64 0)]⟩, ⟨1, 4, [.v (.bool false)]⟩, ⟨0, 22, [.v (.slice none 0 0)]⟩]) (G' := []) (k' := 3) hR hI (by kernel_rfl)
      .nil (fun e6 a6 w6 hag hR hI => ?_)
  refine callOp (ys := [.v (.int .i64 (IntKind.i64.wrap ((n : Nat) : Int)))]) hI rfl rfl ⟨_, rfl, rfl, rfl⟩ (by kernel_rfl) Try.func26 rfl rfl ?_
  refine (fromI64_256 (C := C) _ (i64_in _)).mono ?_
  rintro ex w7 ⟨q0, q1, q2, q3, rfl, hk, hq⟩
  replace hR := hR.same hk; clear hk
  refine ⟨_, rfl, ?_⟩
  replace hI := hI.put (d := some 19) (x := .v (.agg #[.int .u64 ((q0 : Nat) : Int), .int .u64 ((q1 : Nat) : Int), .int .u64 ((q2 : Nat) : Int), .int .u64 ((q3 : Nat) : Int)])) (by intro t ht; cases ht; decide) rfl
  replace hI := hI.sel [19, 18, 16, 10, 9, 8, 0, 3] (by kernel_rfl : sel _ _ = some [(19, .v (.agg #[.int .u64 ((q0 : Nat) : Int), .int .u64 ((q1 : Nat) : Int), .int .u64 ((q2 : Nat) : Int), .int .u64 ((q3 : Nat) : Int)])), (18, .v (.int .i64 (IntKind.i64.wrap ((n : Nat) : Int)))), (16, .v (.agg #[.int .u64 ((l : Nat) : Int), .int .i64 hi])), (10, .p 2 0), (9, .p 1 0), (8, .p 0 0), (0, .v (.int .i64 128)), (3, .v (.bool false))])
  refine part_ tab [6, 7, 8, 9] [] (by rfl) (k := 3) (hs := []) (sy := []) (ks := [10, 9, 8, 0, 3]) (bs := [2, 1, 0]) (gs := [])
      (L' := [(10, .p 2 0), (9, .p 1 0), (8, .p 0 0), (0, .v (.int .i64 128)), (3, .v (.bool false))])
      (H' := [⟨2, 51, [.v (.int .i64 128), .v (.int .i32 0), .v (.int .i64 0), .v (.int .u64 ((l : Nat) : Int)), .v (.int .i64 hi), .v (.int .u64 ((q0 : Nat) : Int)), .v (.int .u64 ((q1 : Nat) : Int)), .v (.int .u64 ((q2 : Nat) : Int)), .v (.int .u64 ((q3 : Nat) : Int))]⟩, ⟨1, 4, [.v (.bool false)]⟩, ⟨0, 22, [.v (.slice none 0 0)]⟩]) (G' := []) (k' := 3) hR hI (by kernel_rfl)
      .nil (fun e8 a8 w8 hag hR hI => ?_)
  refine ops_nil ?_
  refine then_n ?_
  refine wp_seq ?_
  refine reg_seq tab (k := 3) (hs := []) (sy := []) (ks := [28, 10, 9, 8, 0, 3]) (bs := [2, 1, 0]) (gs := [])
      (L' := [(28, .v (.bool false)), (10, .p 2 0), (9, .p 1 0), (8, .p 0 0), (0, .v (.int .i64 128)), (3, .v (.bool false))])
      (H' := [⟨2, 51, [.v (.int .i64 128), .v (.int .i32 0), .v (.int .i64 0), .v (.int .u64 ((l : Nat) : Int)), .v (.int .i64 hi), .v (.int .u64 ((q0 : Nat) : Int)), .v (.int .u64 ((q1 : Nat) : Int)), .v (.int .u64 ((q2 : Nat) : Int)), .v (.int .u64 ((q3 : Nat) : Int))]⟩, ⟨1, 4, [.v (.bool false)]⟩, ⟨0, 22, [.v (.slice none 0 0)]⟩]) (G' := []) (k' := 3) hR hI (by kernel_rfl)
      .nil (fun e9 a9 w9 hag hR hI => ?_)
  refine cnd_f hI (by kernel_rfl) ?_
  refine wp_skip ?_
  refine then_n ?_
  refine wp_seq ?_
  refine reg_seq tab (k := 3) (hs := []) (sy := []) (ks := [45, 10, 9, 8]) (bs := [2, 1, 0]) (gs := [])
      (L' := [(45, .v (.bool false)), (10, .p 2 0), (9, .p 1 0), (8, .p 0 0)])
      (H' := [⟨2, 51, [.v (.int .i64 128), .v (.int .i32 0), .v (.int .i64 0), .v (.int .u64 ((l : Nat) : Int)), .v (.int .i64 hi), .v (.int .u64 ((q0 : Nat) : Int)), .v (.int .u64 ((q1 : Nat) : Int)), .v (.int .u64 ((q2 : Nat) : Int)), .v (.int .u64 ((q3 : Nat) : Int))]⟩, ⟨1, 4, [.v (.bool false)]⟩, ⟨0, 22, [.v (.slice none 0 0)]⟩]) (G' := []) (k' := 3) hR hI (by kernel_rfl)
      .nil (fun e10 a10 w10 hag hR hI => ?_)
  refine cnd_f hI (by kernel_rfl) ?_
  refine wp_skip ?_
  refine then_n ?_
  refine wp_seq ?_
  refine reg (is := [0, 1, 2, 3]) (by kernel_rfl) ?_
  refine part_ tab [0] [1, 2, 3] (by rfl) (k := 3) (hs := []) (sy := []) (ks := [46, 9, 8]) (bs := [1, 0]) (gs := [])
      (L' := [(46, .agg [.v (.int .i64 128), .v (.int .i32 0), .v (.int .i64 0), .v (.int .u64 ((l : Nat) : Int)), .v (.int .i64 hi), .v (.int .u64 ((q0 : Nat) : Int)), .v (.int .u64 ((q1 : Nat) : Int)), .v (.int .u64 ((q2 : Nat) : Int)), .v (.int .u64 ((q3 : Nat) : Int))]), (9, .p 1 0), (8, .p 0 0)])
      (H' := [⟨1, 4, [.v (.bool false)]⟩, ⟨0, 22, [.v (.slice none 0 0)]⟩]) (G' := []) (k' := 3) hR hI (by kernel_rfl)
      .nil (fun e11 a11 w11 hag hR hI => ?_)
  refine callOp (ys := [.agg [.v (.int .i64 128), .v (.int .i32 0), .v (.int .i64 0), .v (.int .u64 ((l : Nat) : Int)), .v (.int .i64 hi), .v (.int .u64 ((q0 : Nat) : Int)), .v (.int .u64 ((q1 : Nat) : Int)), .v (.int .u64 ((q2 : Nat) : Int)), .v (.int .u64 ((q3 : Nat) : Int))]]) hI rfl rfl ⟨_, rfl, rfl, rfl⟩ (by kernel_rfl) Try.func19 rfl rfl ?_
  refine (wordsG_spec (C := Now hB) l hi hlb).mono ?_
  rintro ex w12 ⟨wd, wc, us, rfl, hk, hw, m, hus, hm⟩
  have hB_ := hB.next hR hk
  replace hR := hR.after hk
  replace hB := hB_; clear hB_ hk
  refine ⟨_, rfl, ?_⟩
  replace hI := hI.put (d := some 47) (x := .v (.slice wd us.length wc)) (by intro t ht; cases ht; decide) rfl
  replace hI := hI.sel [47, 46, 9, 8] (by kernel_rfl : sel _ _ = some [(47, .v (.slice wd us.length wc)), (46, .agg [.v (.int .i64 128), .v (.int .i32 0), .v (.int .i64 0), .v (.int .u64 ((l : Nat) : Int)), .v (.int .i64 hi), .v (.int .u64 ((q0 : Nat) : Int)), .v (.int .u64 ((q1 : Nat) : Int)), .v (.int .u64 ((q2 : Nat) : Int)), .v (.int .u64 ((q3 : Nat) : Int))]), (9, .p 1 0), (8, .p 0 0)])
  refine part_ tab [2, 3] [] (by rfl) (k := 3) (hs := []) (sy := []) (ks := [9, 8]) (bs := [1, 0]) (gs := [])
      (L' := [(9, .p 1 0), (8, .p 0 0)])
      (H' := [⟨1, 4, [.v (.bool true)]⟩, ⟨0, 22, [.v (.slice wd us.length wc)]⟩]) (G' := []) (k' := 3) hR hI (by kernel_rfl)
      .nil (fun e13 a13 w13 hag hR hI => ?_)
  refine ops_nil ?_
  refine then_n ?_
  refine wp_ret ?_
  refine outD tab (xs := [.v (.slice wd us.length wc), .v (.bool true)]) hR hI Try.func14 rfl rfl (idle14 _ _) rfl (by kernel_rfl) ?_
  exact ⟨us, wd, wc, rfl, hB.fin hR, hw.fin hB hR, by rw [hus]; exact tells128 hlb hm hlv⟩

set_option maxHeartbeats 4000000 in
set_option maxRecDepth 100000 in
theorem decFrom128u_spec {C : Nat → Prop} {w : World} {n : Nat} (hn : n < 18446744073709551616) :
    Calls P 11 #[.int .i64 128, .int .u64 ((n : Nat) : Int), .bool false, .bool false] w fun ex w' => ∃ us wd wc, ex = .returned (.tuple #[.slice wd (List.length us) wc, .bool true]) ∧ Keep (fun b => b < w.heap.size) w w' ∧ Sl .u64 18446744073709551616 (Grow C w w') w' wd wc us ∧ Tells 128 (fromV n false) us := by
  refine doorD (e := e0) (vs := [.v (.int .i64 128), .v (.int .u64 ((n : Nat) : Int)), .v (.bool false), .v (.bool false)]) (n := 48) (m := 4) Try.func11 rfl rfl rfl (by decide) fun a_ hI => ?_
  replace hI : Is 48 [] e0 [(0, .v (.int .i64 128)), (1, .v (.int .u64 ((n : Nat) : Int))), (2, .v (.bool false)), (3, .v (.bool false))] a_ := hI
  have hR : Rel (fun b => b < w.heap.size) w e0 [] [] w := Rel.start (fun k hk => hk)
  have hB : Base C w C (fun b => b < w.heap.size) w := Base.start
  refine reg_seq tab (k := 0) (hs := []) (sy := []) (ks := [9, 8, 0, 1, 2, 3]) (bs := [1, 0]) (gs := [])
      (L' := [(9, .p 1 0), (8, .p 0 0), (0, .v (.int .i64 128)), (1, .v (.int .u64 ((n : Nat) : Int))), (2, .v (.bool false)), (3, .v (.bool false))])
      (H' := [⟨1, 4, [.v (.bool false)]⟩, ⟨0, 22, [.v (.slice none 0 0)]⟩]) (G' := []) (k' := 2) hR hI (by kernel_rfl)
      .nil (fun e1 a1 w1 hag hR hI => ?_)
  refine wp_seq ?_
  refine reg (is := [0]) (by kernel_rfl) ?_
  refine deferOp (ys := [.p 0 0, .p 1 0]) hI rfl rfl rfl ⟨_, rfl, rfl, rfl⟩ (by kernel_rfl) (fun a1 hI => ?_)
  replace hI := hI.sel [9, 8, 0, 1, 2, 3] (by kernel_rfl : sel _ _ = some [(9, .p 1 0), (8, .p 0 0), (0, .v (.int .i64 128)), (1, .v (.int .u64 ((n : Nat) : Int))), (2, .v (.bool false)), (3, .v (.bool false))])
  refine ops_nil ?_
  refine then_n ?_
  refine reg_seq tab (k := 2) (hs := []) (sy := []) (ks := [10, 9, 8, 0, 1, 2, 3]) (bs := [2, 1, 0]) (gs := [])
      (L' := [(10, .p 2 0), (9, .p 1 0), (8, .p 0 0), (0, .v (.int .i64 128)), (1, .v (.int .u64 ((n : Nat) : Int))), (2, .v (.bool false)), (3, .v (.bool false))])
      (H' := [⟨2, 51, [.v (.int .i64 128), .v (.int .i32 0), .v (.int .i64 0), .v (.int .u64 0), .v (.int .i64 0), .v (.int .u64 0), .v (.int .u64 0), .v (.int .u64 0), .v (.int .u64 0)]⟩, ⟨1, 4, [.v (.bool false)]⟩, ⟨0, 22, [.v (.slice none 0 0)]⟩]) (G' := []) (k' := 3) hR hI (by kernel_rfl)
      .nil (fun e2 a2 w2 hag hR hI => ?_)
  refine wp_seq ?_
  refine reg_seq tab (k := 3) (hs := []) (sy := []) (ks := [13, 10, 9, 8, 0, 1, 3]) (bs := [2, 1, 0]) (gs := [])
      (L' := [(13, .v (.bool false)), (10, .p 2 0), (9, .p 1 0), (8, .p 0 0), (0, .v (.int .i64 128)), (1, .v (.int .u64 ((n : Nat) : Int))), (3, .v (.bool false))])
      (H' := [⟨2, 51, [.v (.int .i64 128), .v (.int .i32 0), .v (.int .i64 0), .v (.int .u64 0), .v (.int .i64 0), .v (.int .u64 0), .v (.int .u64 0), .v (.int .u64 0), .v (.int .u64 0)]⟩, ⟨1, 4, [.v (.bool false)]⟩, ⟨0, 22, [.v (.slice none 0 0)]⟩]) (G' := []) (k' := 3) hR hI (by kernel_rfl)
      .nil (fun e3 a3 w3 hag hR hI => ?_)
  refine cnd_f hI (by kernel_rfl) ?_
  refine reg (is := [0, 1, 2, 3, 4, 5, 6, 7]) (by kernel_rfl) ?_
  refine part_ tab [0] [1, 2, 3, 4, 5, 6, 7] (by rfl) (k := 3) (hs := []) (sy := []) (ks := [22, 10, 9, 8, 0, 1, 3]) (bs := [2, 1, 0]) (gs := [])
      (L' := [(22, .v (.int .u64 ((n : Nat) : Int))), (10, .p 2 0), (9, .p 1 0), (8, .p 0 0), (0, .v (.int .i64 128)), (1, .v (.int .u64 ((n : Nat) : Int))), (3, .v (.bool false))])
      (H' := [⟨2, 51, [.v (.int .i64 128), .v (.int .i32 0), .v (.int .i64 0), .v (.int .u64 0), .v (.int .i64 0), .v (.int .u64 0), .v (.int .u64 0), .v (.int .u64 0), .v (.int .u64 0)]⟩, ⟨1, 4, [.v (.bool false)]⟩, ⟨0, 22, [.v (.slice none 0 0)]⟩]) (G' := []) (k' := 3) hR hI (by kernel_rfl)
      .nil (fun e4 a4 w4 hag hR hI => ?_)
  refine callOp (ys := [.v (.int .u64 ((n : Nat) : Int))]) hI rfl rfl ⟨_, rfl, rfl, rfl⟩ (by kernel_rfl) Try.func27 rfl rfl ?_
  refine (fromU64_128 (C := C) n hn).mono ?_
  rintro ex w5 ⟨l, hi, rfl, hk, hlb, hi1, hi2, hlv⟩
  replace hR := hR.same hk; clear hk
  refine ⟨_, rfl, ?_⟩
  replace hI := hI.put (d := some 23) (x := .v (.agg #[.int .u64 ((l : Nat) : Int), .int .i64 hi])) (by intro t ht; cases ht; decide) rfl
  replace hI := hI.sel [23, 22, 10, 9, 8, 0, 1, 3] (by kernel_rfl : sel _ _ = some [(23, .v (.agg #[.int .u64 ((l : Nat) : Int), .int .i64 hi])), (22, .v (.int .u64 ((n : Nat) : Int))), (10, .p 2 0), (9, .p 1 0), (8, .p 0 0), (0, .v (.int .i64 128)), (1, .v (.int .u64 ((n : Nat) : Int))), (3, .v (.bool false))])
  refine part_ tab [2] [3, 4, 5, 6, 7] (by rfl) (k := 3) (hs := []) (sy := []) (ks := [24, 23, 10, 9, 8, 0, 3]) (bs := [2, 1, 0]) (gs := [])
      (L' := [(24, .v (.int .u64 ((n : Nat) : Int))), (23, .v (.agg #[.int .u64 ((l : Nat) : Int), .int .i64 hi])), (10, .p 2 0), (9, .p 1 0), (8, .p 0 0), (0, .v (.int .i64 128)), (3, .v (.bool false))])
      (H' := [⟨2, 51, [.v (.int .i64 128), .v (.int .i32 0), .v (.int .i64 0), .v (.int .u64 0), .v (.int .i64 0), .v (.int .u64 0), .v (.int .u64 0), .v (.int .u64 0), .v (.int .u64 0)]⟩, ⟨1, 4, [.v (.bool false)]⟩, ⟨0, 22, [.v (.slice none 0 0)]⟩]) (G' := []) (k' := 3) hR hI (by kernel_rfl)
      .nil (fun e6 a6 w6 hag hR hI => ?_)
  refine callOp (ys := [.v (.int .u64 ((n : Nat) : Int))]) hI rfl rfl ⟨_, rfl, rfl, rfl⟩ (by kernel_rfl) Try.func28 rfl rfl ?_
  refine (fromU64_256 (C := C) n hn).mono ?_
  rintro ex w7 ⟨q0, q1, q2, q3, rfl, hk, hq⟩
  replace hR := hR.same hk; clear hk
  refine ⟨_, rfl, ?_⟩
  replace hI := hI.put (d := some 25) (x := .v (.agg #[.int .u64 ((q0 : Nat) : Int), .int .u64 ((q1 : Nat) : Int), .int .u64 ((q2 : Nat) : Int), .int .u64 ((q3 : Nat) : Int)])) (by intro t ht; cases ht; decide) rfl
  replace hI := hI.sel [25, 24, 23, 10, 9, 8, 0, 3] (by kernel_rfl : sel _ _ = some [(25, .v (.agg #[.int .u64 ((q0 : Nat) : Int), .int .u64 ((q1 : Nat) : Int), .int .u64 ((q2 : Nat) : Int), .int .u64 ((q3 : Nat) : Int)])), (24, .v (.int .u64 ((n : Nat) : Int))), (23, .v (.agg #[.int .u64 ((l : Nat) : Int), .int .i64 hi])), (10, .p 2 0), (9, .p 1 0), (8, .p 0 0), (0, .v (.int .i64 128)), (3, .v (.bool false))])
  refine part_ tab [4, 5, 6, 7] [] (by rfl) (k := 3) (hs := []) (sy := []) (ks := [10, 9, 8, 0, 3]) (bs := [2, 1, 0]) (gs := [])
      (L' := [(10, .p 2 0), (9, .p 1 0), (8, .p 0 0), (0, .v (.int .i64 128)), (3, .v (.bool false))])
      (H' := [⟨2, 51, [.v (.int .i64 128), .v (.int .i32 0), .v (.int .i64 0), .v (.int .u64 ((l : Nat) : Int)), .v (.int .i64 hi), .v (.int .u64 ((q0 : Nat) : Int)), .v (.int .u64 ((q1 : Nat) : Int)), .v (.int .u64 ((q2 : Nat) : Int)), .v (.int .u64 ((q3 : Nat) : Int))]⟩, ⟨1, 4, [.v (.bool false)]⟩, ⟨0, 22, [.v (.slice none 0 0)]⟩]) (G' := []) (k' := 3) hR hI (by kernel_rfl)
      .nil (fun e8 a8 w8 hag hR hI => ?_)
  refine ops_nil ?_
  refine then_n ?_
  refine wp_seq ?_
  refine reg_seq tab (k := 3) (hs := []) (sy := []) (ks := [28, 10, 9, 8, 0, 3]) (bs := [2, 1, 0]) (gs := [])
      (L' := [(28, .v (.bool false)), (10, .p 2 0), (9, .p 1 0), (8, .p 0 0), (0, .v (.int .i64 128)), (3, .v (.bool false))])
      (H' := [⟨2, 51, [.v (.int .i64 128), .v (.int .i32 0), .v (.int .i64 0), .v (.int .u64 ((l : Nat) : Int)), .v (.int .i64 hi), .v (.int .u64 ((q0 : Nat) : Int)), .v (.int .u64 ((q1 : Nat) : Int)), .v (.int .u64 ((q2 : Nat) : Int)), .v (.int .u64 ((q3 : Nat) : Int))]⟩, ⟨1, 4, [.v (.bool false)]⟩, ⟨0, 22, [.v (.slice none 0 0)]⟩]) (G' := []) (k' := 3) hR hI (by kernel_rfl)
      .nil (fun e9 a9 w9 hag hR hI => ?_)
  refine cnd_f hI (by kernel_rfl) ?_
  refine wp_skip ?_
  refine then_n ?_
  refine wp_seq ?_
  refine reg_seq tab (k := 3) (hs := []) (sy := []) (ks := [45, 10, 9, 8]) (bs := [2, 1, 0]) (gs := [])
      (L' := [(45, .v (.bool false)), (10, .p 2 0), (9, .p 1 0), (8, .p 0 0)])
      (H' := [⟨2, 51, [.v (.int .i64 128), .v (.int .i32 0), .v (.int .i64 0), .v (.int .u64 ((l : Nat) : Int)), .v (.int .i64 hi), .v (.int .u64 ((q0 : Nat) : Int)), .v (.int .u64 ((q1 : Nat) : Int)), .v (.int .u64 ((q2 : Nat) : Int)), .v (.int .u64 ((q3 : Nat) : Int))]⟩, ⟨1, 4, [.v (.bool false)]⟩, ⟨0, 22, [.v (.slice none 0 0)]⟩]) (G' := []) (k' := 3) hR hI (by kernel_rfl)
      .nil (fun e10 a10 w10 hag hR hI => ?_)
  refine cnd_f hI (by kernel_rfl) ?_
  refine wp_skip ?_
  refine then_n ?_
  refine wp_seq ?_
  refine reg (is := [0, 1, 2, 3]) (by kernel_rfl) ?_
  refine part_ tab [0] [1, 2, 3] (by rfl) (k := 3) (hs := []) (sy := []) (ks := [46, 9, 8]) (bs := [1, 0]) (gs := [])
      (L' := [(46, .agg [.v (.int .i64 128), .v (.int .i32 0), .v (.int .i64 0), .v (.int .u64 ((l : Nat) : Int)), .v (.int .i64 hi), .v (.int .u64 ((q0 : Nat) : Int)), .v (.int .u64 ((q1 : Nat) : Int)), .v (.int .u64 ((q2 : Nat) : Int)), .v (.int .u64 ((q3 : Nat) : Int))]), (9, .p 1 0), (8, .p 0 0)])
      (H' := [⟨1, 4, [.v (.bool false)]⟩, ⟨0, 22, [.v (.slice none 0 0)]⟩]) (G' := []) (k' := 3) hR hI (by kernel_rfl)
      .nil (fun e11 a11 w11 hag hR hI => ?_)
  refine callOp (ys := [.agg [.v (.int .i64 128), .v (.int .i32 0), .v (.int .i64 0), .v (.int .u64 ((l : Nat) : Int)), .v (.int .i64 hi), .v (.int .u64 ((q0 : Nat) : Int)), .v (.int .u64 ((q1 : Nat) : Int)), .v (.int .u64 ((q2 : Nat) : Int)), .v (.int .u64 ((q3 : Nat) : Int))]]) hI rfl rfl ⟨_, rfl, rfl, rfl⟩ (by kernel_rfl) Try.func19 rfl rfl ?_
  refine (wordsG_spec (C := Now hB) l hi hlb).mono ?_
  rintro ex w12 ⟨wd, wc, us, rfl, hk, hw, m, hus, hm⟩
  have hB_ := hB.next hR hk
  replace hR := hR.after hk
  replace hB := hB_; clear hB_ hk
  refine ⟨_, rfl, ?_⟩
  replace hI := hI.put (d := some 47) (x := .v (.slice wd us.length wc)) (by intro t ht; cases ht; decide) rfl
  replace hI := hI.sel [47, 46, 9, 8] (by kernel_rfl : sel _ _ = some [(47, .v (.slice wd us.length wc)), (46, .agg [.v (.int .i64 128), .v (.int .i32 0), .v (.int .i64 0), .v (.int .u64 ((l : Nat) : Int)), .v (.int .i64 hi), .v (.int .u64 ((q0 : Nat) : Int)), .v (.int .u64 ((q1 : Nat) : Int)), .v (.int .u64 ((q2 : Nat) : Int)), .v (.int .u64 ((q3 : Nat) : Int))]), (9, .p 1 0), (8, .p 0 0)])
  refine part_ tab [2, 3] [] (by rfl) (k := 3) (hs := []) (sy := []) (ks := [9, 8]) (bs := [1, 0]) (gs := [])
      (L' := [(9, .p 1 0), (8, .p 0 0)])
      (H' := [⟨1, 4, [.v (.bool true)]⟩, ⟨0, 22, [.v (.slice wd us.length wc)]⟩]) (G' := []) (k' := 3) hR hI (by kernel_rfl)
      .nil (fun e13 a13 w13 hag hR hI => ?_)
  refine ops_nil ?_
  refine then_n ?_
  refine wp_ret ?_
  refine outD tab (xs := [.v (.slice wd us.length wc), .v (.bool true)]) hR hI Try.func14 rfl rfl (idle14 _ _) rfl (by kernel_rfl) ?_
  exact ⟨us, wd, wc, rfl, hB.fin hR, hw.fin hB hR, by rw [hus]; exact tells128 hlb hm hlv⟩

set_option maxHeartbeats 4000000 in
set_option maxRecDepth 100000 in
theorem decFrom256s_spec {C : Nat → Prop} {w : World} {n : Nat} (hn : n < 18446744073709551616) :
    Calls P 11 #[.int .i64 256, .int .u64 ((n : Nat) : Int), .bool true, .bool false] w fun ex w' => ∃ us wd wc, ex = .returned (.tuple #[.slice wd (List.length us) wc, .bool true]) ∧ Keep (fun b => b < w.heap.size) w w' ∧ Sl .u64 18446744073709551616 (Grow C w w') w' wd wc us ∧ Tells 256 (fromV n true) us := by
  refine doorD (e := e0) (vs := [.v (.int .i64 256), .v (.int .u64 ((n : Nat) : Int)), .v (.bool true), .v (.bool false)]) (n := 48) (m := 4) Try.func11 rfl rfl rfl (by decide) fun a_ hI => ?_
  replace hI : Is 48 [] e0 [(0, .v (.int .i64 256)), (1, .v (.int .u64 ((n : Nat) : Int))), (2, .v (.bool true)), (3, .v (.bool false))] a_ := hI
  have hR : Rel (fun b => b < w.heap.size) w e0 [] [] w := Rel.start (fun k hk => hk)
  have hB : Base C w C (fun b => b < w.heap.size) w := Base.start
  refine reg_seq tab (k := 0) (hs := []) (sy := []) (ks := [9, 8, 0, 1, 2, 3]) (bs := [1, 0]) (gs := [])
      (L' := [(9, .p 1 0), (8, .p 0 0), (0, .v (.int .i64 256)), (1, .v (.int .u64 ((n : Nat) : Int))), (2, .v (.bool true)), (3, .v (.bool false))])
      (H' := [⟨1, 4, [.v (.bool false)]⟩, ⟨0, 22, [.v (.slice none 0 0)]⟩]) (G' := []) (k' := 2) hR hI (by kernel_rfl)
      .nil (fun e1 a1 w1 hag hR hI => ?_)
  refine wp_seq ?_
  refine reg (is := [0]) (by kernel_rfl) ?_
  refine deferOp (ys := [.p 0 0, .p 1 0]) hI rfl rfl rfl ⟨_, rfl, rfl, rfl⟩ (by kernel_rfl) (fun a1 hI => ?_)
  replace hI := hI.sel [9, 8, 0, 1, 2, 3] (by kernel_rfl : sel _ _ = some [(9, .p 1 0), (8, .p 0 0), (0, .v (.int .i64 256)), (1, .v (.int .u64 ((n : Nat) : Int))), (2, .v (.bool true)), (3, .v (.bool false))])
  refine ops_nil ?_
  refine then_n ?_
  refine reg_seq tab (k := 2) (hs := []) (sy := []) (ks := [10, 9, 8, 0, 1, 2, 3]) (bs := [2, 1, 0]) (gs := [])
      (L' := [(10, .p 2 0), (9, .p 1 0), (8, .p 0 0), (0, .v (.int .i64 256)), (1, .v (.int .u64 ((n : Nat) : Int))), (2, .v (.bool true)), (3, .v (.bool false))])
      (H' := [⟨2, 51, [.v (.int .i64 256), .v (.int .i32 0), .v (.int .i64 0), .v (.int .u64 0), .v (.int .i64 0), .v (.int .u64 0), .v (.int .u64 0), .v (.int .u64 0), .v (.int .u64 0)]⟩, ⟨1, 4, [.v (.bool false)]⟩, ⟨0, 22, [.v (.slice none 0 0)]⟩]) (G' := []) (k' := 3) hR hI (by kernel_rfl)
      .nil (fun e2 a2 w2 hag hR hI => ?_)
  refine wp_seq ?_
  refine reg_seq tab (k := 3) (hs := []) (sy := []) (ks := [13, 10, 9, 8, 0, 1, 3]) (bs := [2, 1, 0]) (gs := [])
      (L' := [(13, .v (.bool true)), (10, .p 2 0), (9, .p 1 0), (8, .p 0 0), (0, .v (.int .i64 256)), (1, .v (.int .u64 ((n : Nat) : Int))), (3, .v (.bool false))])
      (H' := [⟨2, 51, [.v (.int .i64 256), .v (.int .i32 0), .v (.int .i64 0), .v (.int .u64 0), .v (.int .i64 0), .v (.int .u64 0), .v (.int .u64 0), .v (.int .u64 0), .v (.int .u64 0)]⟩, ⟨1, 4, [.v (.bool false)]⟩, ⟨0, 22, [.v (.slice none 0 0)]⟩]) (G' := []) (k' := 3) hR hI (by kernel_rfl)
      .nil (fun e3 a3 w3 hag hR hI => ?_)
  refine cnd_t hI (by kernel_rfl) ?_
  refine reg (is := [0, 1, 2, 3, 4, 5, 6, 7, 8, 9]) (by kernel_rfl) ?_
  refine part_ tab [0, 1] [2, 3, 4, 5, 6, 7, 8, 9] (by rfl) (k := 3) (hs := []) (sy := []) (ks := [15, 10, 9, 8, 0, 1, 3]) (bs := [2, 1, 0]) (gs := [])
      (L' := [(15, .v (.int .i64 (IntKind.i64.wrap ((n : Nat) : Int)))), (10, .p 2 0), (9, .p 1 0), (8, .p 0 0), (0, .v (.int .i64 256)), (1, .v (.int .u64 ((n : Nat) : Int))), (3, .v (.bool false))])
      (H' := [⟨2, 51, [.v (.int .i64 256), .v (.int .i32 0), .v (.int .i64 0), .v (.int .u64 0), .v (.int .i64 0), .v (.int .u64 0), .v (.int .u64 0), .v (.int .u64 0), .v (.int .u64 0)]⟩, ⟨1, 4, [.v (.bool false)]⟩, ⟨0, 22, [.v (.slice none 0 0)]⟩]) (G' := []) (k' := 3) hR hI (by kernel_rfl)
      .nil (fun e4 a4 w4 hag hR hI => ?_)
  refine callOp (ys := [.v (.int .i64 (IntKind.i64.wrap ((n : Nat) : Int)))]) hI rfl rfl ⟨_, rfl, rfl, rfl⟩ (by kernel_rfl) Try.func25 rfl rfl ?_
  refine (fromI64_128 (C := C) _ (i64_in _)).mono ?_
  rintro ex w5 ⟨l, hi, rfl, hk, hlb, hi1, hi2, hlv⟩
  replace hR := hR.same hk; clear hk
  refine ⟨_, rfl, ?_⟩
  replace hI := hI.put (d := some 16) (x := .v (.agg #[.int .u64 ((l : Nat) : Int), .int .i64 hi])) (by intro t ht; cases ht; decide) rfl
  replace hI := hI.sel [16, 15, 10, 9, 8, 0, 1, 3] (by kernel_rfl : sel _ _ = some [(16, .v (.agg #[.int .u64 ((l : Nat) : Int), .int .i64 hi])), (15, .v (.int .i64 (IntKind.i64.wrap ((n : Nat) : Int)))), (10, .p 2 0), (9, .p 1 0), (8, .p 0 0), (0, .v (.int .i64 256)), (1, .v (.int .u64 ((n : Nat) : Int))), (3, .v (.bool false))])
  refine part_ tab [3, 4] [5, 6, 7, 8, 9] (by rfl) (k := 3) (hs := []) (sy := []) (ks := [18, 16, 10, 9, 8, 0, 3]) (bs := [2, 1, 0]) (gs := [])
      (L' := [(18, .v (.int .i64 (IntKind.i64.wrap ((n : Nat) : Int)))), (16, .v (.agg #[.int .u64 ((l : Nat) : Int), .int .i64 hi])), (10, .p 2 0), (9, .p 1 0), (8, .p 0 0), (0, .v (.int .i64 256)), (3, .v (.bool false))])
      (H' := [⟨2, 51, [.v (.int .i64 256), .v (.int .i32 0), .v (.int .i64 0), .v (.int .u64 0), .v (.int .i64 0), .v (.int .u64 0), .v (.int .u64 0), .v (.int .u64 0), .v (.int .u64 0)]⟩, ⟨1, 4, [.v (.bool false)]⟩, ⟨0, 22, [.v (.slice none 0 0)]⟩]) (G' := []) (k' := 3) hR hI (by kernel_rfl)
      .nil (fun e6 a6 w6 hag hR hI => ?_)
  refine callOp (ys := [.v (.int .i64 (IntKind.i64.wrap ((n : Nat) : Int)))]) hI rfl rfl ⟨_, rfl, rfl, rfl⟩ (by kernel_rfl) Try.func26 rfl rfl ?_
  refine (fromI64_256 (C := C) _ (i64_in _)).mono ?_
  rintro ex w7 ⟨q0, q1, q2, q3, rfl, hk, hq⟩
  replace hR := hR.same hk; clear hk
  refine ⟨_, rfl, ?_⟩
  replace hI := hI.put (d := some 19) (x := .v (.agg #[.int .u64 ((q0 : Nat) : Int), .int .u64 ((q1 : Nat) : Int), .int .u64 ((q2 : Nat) : Int), .int .u64 ((q3 : Nat) : Int)])) (by intro t ht; cases ht; decide) rfl
  replace hI := hI.sel [19, 18, 16, 10, 9, 8, 0, 3] (by kernel_rfl : sel _ _ = some [(19, .v (.agg #[.int .u64 ((q0 : Nat) : Int), .int .u64 ((q1 : Nat) : Int), .int .u64 ((q2 : Nat) : Int), .int .u64 ((q3 : Nat) : Int)])), (18, .v (.int .i64 (IntKind.i64.wrap ((n : Nat) : Int)))), (16, .v (.agg #[.int .u64 ((l : Nat) : Int), .int .i64 hi])), (10, .p 2 0), (9, .p 1 0), (8, .p 0 0), (0, .v (.int .i64 256)), (3, .v (.bool false))])
  refine part_ tab [6, 7, 8, 9] [] (by rfl) (k := 3) (hs := []) (sy := []) (ks := [10, 9, 8, 0, 3]) (bs := [2, 1, 0]) (gs := [])
      (L' := [(10, .p 2 0), (9, .p 1 0), (8, .p 0 0), (0, .v (.int .i64 256)), (3, .v (.bool false))])
      (H' := [⟨2, 51, [.v (.int .i64 256), .v (.int .i32 0), .v (.int .i64 0), .v (.int .u64 ((l : Nat) : Int)), .v (.int .i64 hi), .v (.int .u64 ((q0 : Nat) : Int)), .v (.int .u64 ((q1 : Nat) : Int)), .v (.int .u64 ((q2 : Nat) : Int)), .v (.int .u64 ((q3 : Nat) : Int))]⟩, ⟨1, 4, [.v (.bool false)]⟩, ⟨0, 22, [.v (.slice none 0 0)]⟩]) (G' := []) (k' := 3) hR hI (by kernel_rfl)
      .nil (fun e8 a8 w8 hag hR hI => ?_)
  refine ops_nil ?_
  refine then_n ?_
  refine wp_seq ?_
  refine reg_seq tab (k := 3) (hs := []) (sy := []) (ks := [28, 10, 9, 8, 0, 3]) (bs := [2, 1, 0]) (gs := [])
      (L' := [(28, .v (.bool false)), (10, .p 2 0), (9, .p 1 0), (8, .p 0 0), (0, .v (.int .i64 256)), (3, .v (.bool false))])
      (H' := [⟨2, 51, [.v (.int .i64 256), .v (.int .i32 0), .v (.int .i64 0), .v (.int .u64 ((l : Nat) : Int)), .v (.int .i64 hi), .v (.int .u64 ((q0 : Nat) : Int)), .v (.int .u64 ((q1 : Nat) : Int)), .v (.int .u64 ((q2 : Nat) : Int)), .v (.int .u64 ((q3 : Nat) : Int))]⟩, ⟨1, 4, [.v (.bool false)]⟩, ⟨0, 22, [.v (.slice none 0 0)]⟩]) (G' := []) (k' := 3) hR hI (by kernel_rfl)
      .nil (fun e9 a9 w9 hag hR hI => ?_)
  refine cnd_f hI (by kernel_rfl) ?_
  refine wp_skip ?_
  refine then_n ?_
  refine wp_seq ?_
  refine reg_seq tab (k := 3) (hs := []) (sy := []) (ks := [45, 10, 9, 8]) (bs := [2, 1, 0]) (gs := [])
      (L' := [(45, .v (.bool false)), (10, .p 2 0), (9, .p 1 0), (8, .p 0 0)])
      (H' := [⟨2, 51, [.v (.int .i64 256), .v (.int .i32 0), .v (.int .i64 0), .v (.int .u64 ((l : Nat) : Int)), .v (.int .i64 hi), .v (.int .u64 ((q0 : Nat) : Int)), .v (.int .u64 ((q1 : Nat) : Int)), .v (.int .u64 ((q2 : Nat) : Int)), .v (.int .u64 ((q3 : Nat) : Int))]⟩, ⟨1, 4, [.v (.bool false)]⟩, ⟨0, 22, [.v (.slice none 0 0)]⟩]) (G' := []) (k' := 3) hR hI (by kernel_rfl)
      .nil (fun e10 a10 w10 hag hR hI => ?_)
  refine cnd_f hI (by kernel_rfl) ?_
  refine wp_skip ?_
  refine then_n ?_
  refine wp_seq ?_
  refine reg (is := [0, 1, 2, 3]) (by kernel_rfl) ?_
  refine part_ tab [0] [1, 2, 3] (by rfl) (k := 3) (hs := []) (sy := []) (ks := [46, 9, 8]) (bs := [1, 0]) (gs := [])
      (L' := [(46, .agg [.v (.int .i64 256), .v (.int .i32 0), .v (.int .i64 0), .v (.int .u64 ((l : Nat) : Int)), .v (.int .i64 hi), .v (.int .u64 ((q0 : Nat) : Int)), .v (.int .u64 ((q1 : Nat) : Int)), .v (.int .u64 ((q2 : Nat) : Int)), .v (.int .u64 ((q3 : Nat) : Int))]), (9, .p 1 0), (8, .p 0 0)])
      (H' := [⟨1, 4, [.v (.bool false)]⟩, ⟨0, 22, [.v (.slice none 0 0)]⟩]) (G' := []) (k' := 3) hR hI (by kernel_rfl)
      .nil (fun e11 a11 w11 hag hR hI => ?_)
  refine callOp (ys := [.agg [.v (.int .i64 256), .v (.int .i32 0), .v (.int .i64 0), .v (.int .u64 ((l : Nat) : Int)), .v (.int .i64 hi), .v (.int .u64 ((q0 : Nat) : Int)), .v (.int .u64 ((q1 : Nat) : Int)), .v (.int .u64 ((q2 : Nat) : Int)), .v (.int .u64 ((q3 : Nat) : Int))]]) hI rfl rfl ⟨_, rfl, rfl, rfl⟩ (by kernel_rfl) Try.func19 rfl rfl ?_
  refine (words256_spec (C := Now hB) hq.1).mono ?_
  rintro ex w12 ⟨wd, wc, rfl, hk, hw⟩
  have hB_ := hB.next hR hk
  replace hR := hR.after hk
  replace hB := hB_; clear hB_ hk
  refine ⟨_, rfl, ?_⟩
  replace hI := hI.put (d := some 47) (x := .v (.slice wd (List.length [q0, q1, q2, q3]) wc)) (by intro t ht; cases ht; decide) rfl
  replace hI := hI.sel [47, 46, 9, 8] (by kernel_rfl : sel _ _ = some [(47, .v (.slice wd (List.length [q0, q1, q2, q3]) wc)), (46, .agg [.v (.int .i64 256), .v (.int .i32 0), .v (.int .i64 0), .v (.int .u64 ((l : Nat) : Int)), .v (.int .i64 hi), .v (.int .u64 ((q0 : Nat) : Int)), .v (.int .u64 ((q1 : Nat) : Int)), .v (.int .u64 ((q2 : Nat) : Int)), .v (.int .u64 ((q3 : Nat) : Int))]), (9, .p 1 0), (8, .p 0 0)])
  refine part_ tab [2, 3] [] (by rfl) (k := 3) (hs := []) (sy := []) (ks := [9, 8]) (bs := [1, 0]) (gs := [])
      (L' := [(9, .p 1 0), (8, .p 0 0)])
      (H' := [⟨1, 4, [.v (.bool true)]⟩, ⟨0, 22, [.v (.slice wd (List.length [q0, q1, q2, q3]) wc)]⟩]) (G' := []) (k' := 3) hR hI (by kernel_rfl)
      .nil (fun e13 a13 w13 hag hR hI => ?_)
  refine ops_nil ?_
  refine then_n ?_
  refine wp_ret ?_
  refine outD tab (xs := [.v (.slice wd (List.length [q0, q1, q2, q3]) wc), .v (.bool true)]) hR hI Try.func14 rfl rfl (idle14 _ _) rfl (by kernel_rfl) ?_
  exact ⟨_, wd, wc, rfl, hB.fin hR, hw.fin hB hR, tells256 hq⟩

set_option maxHeartbeats 4000000 in
set_option maxRecDepth 100000 in
theorem decFrom256u_spec {C : Nat → Prop} {w : World} {n : Nat} (hn : n < 18446744073709551616) :
    Calls P 11 #[.int .i64 256, .int .u64 ((n : Nat) : Int), .bool false, .bool false] w fun ex w' => ∃ us wd wc, ex = .returned (.tuple #[.slice wd (List.length us) wc, .bool true]) ∧ Keep (fun b => b < w.heap.size) w w' ∧ Sl .u64 18446744073709551616 (Grow C w w') w' wd wc us ∧ Tells 256 (fromV n false) us := by
  refine doorD (e := e0) (vs := [.v (.int .i64 256), .v (.int .u64 ((n : Nat) : Int)), .v (.bool false), .v (.bool false)]) (n := 48) (m := 4) Try.func11 rfl rfl rfl (by decide) fun a_ hI => ?_
  replace hI : Is 48 [] e0 [(0, .v (.int .i64 256)), (1, .v (.int .u64 ((n : Nat) : Int))), (2, .v (.bool false)), (3, .v (.bool false))] a_ := hI
  have hR : Rel (fun b => b < w.heap.size) w e0 [] [] w := Rel.start (fun k hk => hk)
  have hB : Base C w C (fun b => b < w.heap.size) w := Base.start
  refine reg_seq tab (k := 0) (hs := []) (sy := []) (ks := [9, 8, 0, 1, 2, 3]) (bs := [1, 0]) (gs := [])
      (L' := [(9, .p 1 0), (8, .p 0 0), (0, .v (.int .i64 256)), (1, .v (.int .u64 ((n : Nat) : Int))), (2, .v (.bool false)), (3, .v (.bool false))])
      (H' := [⟨1, 4, [.v (.bool false)]⟩, ⟨0, 22, [.v (.slice none 0 0)]⟩]) (G' := []) (k' := 2) hR hI (by kernel_rfl)
      .nil (fun e1 a1 w1 hag hR hI => ?_)
  refine wp_seq ?_
  refine reg (is := [0]) (by kernel_rfl) ?_
  refine deferOp (ys := [.p 0 0, .p 1 0]) hI rfl rfl rfl ⟨_, rfl, rfl, rfl⟩ (by kernel_rfl) (fun a1 hI => ?_)
  replace hI := hI.sel [9, 8, 0, 1, 2, 3] (by kernel_rfl : sel _ _ = some [(9, .p 1 0), (8, .p 0 0), (0, .v (.int .i64 256)), (1, .v (.int .u64 ((n : Nat) : Int))), (2, .v (.bool false)), (3, .v (.bool false))])
  refine ops_nil ?_
  refine then_n ?_
  refine reg_seq tab (k := 2) (hs := []) (sy := []) (ks := [10, 9, 8, 0, 1, 2, 3]) (bs := [2, 1, 0]) (gs := [])
      (L' := [(10, .p 2 0), (9, .p 1 0), (8, .p 0 0), (0, .v (.int .i64 256)), (1, .v (.int .u64 ((n : Nat) : Int))), (2, .v (.bool false)), (3, .v (.bool false))])
      (H' := [⟨2, 51, [.v (.int .i64 256), .v (.int .i32 0), .v (.int .i64 0), .v (.int .u64 0), .v (.int .i64 0), .v (.int .u64 0), .v (.int .u64 0), .v (.int .u64 0), .v (.int .u64 0)]⟩, ⟨1, 4, [.v (.bool false)]⟩, ⟨0, 22, [.v (.slice none 0 0)]⟩]) (G' := []) (k' := 3) hR hI (by kernel_rfl)
      .nil (fun e2 a2 w2 hag hR hI => ?_)
  refine wp_seq ?_
  refine reg_seq tab (k := 3) (hs := []) (sy := []) (ks := [13, 10, 9, 8, 0, 1, 3]) (bs := [2, 1, 0]) (gs := [])
      (L' := [(13, .v (.bool false)), (10, .p 2 0), (9, .p 1 0), (8, .p 0 0), (0, .v (.int .i64 256)), (1, .v (.int .u64 ((n : Nat) : Int))), (3, .v (.bool false))])
      (H' := [⟨2, 51, [.v (.int .i64 256), .v (.int .i32 0), .v (.int .i64 0), .v (.int .u64 0), .v (.int .i64 0), .v (.int .u64 0), .v (.int .u64 0), .v (.int .u64 0), .v (.int .u64 0)]⟩, ⟨1, 4, [.v (.bool false)]⟩, ⟨0, 22, [.v (.slice none 0 0)]⟩]) (G' := []) (k' := 3) hR hI (by kernel_rfl)
      .nil (fun e3 a3 w3 hag hR hI => ?_)
  refine cnd_f hI (by kernel_rfl) ?_
  refine reg (is := [0, 1, 2, 3, 4, 5, 6, 7]) (by kernel_rfl) ?_
  refine part_ tab [0] [1, 2, 3, 4, 5, 6, 7] (by rfl) (k := 3) (hs := []) (sy := []) (ks := [22, 10, 9, 8, 0, 1, 3]) (bs := [2, 1, 0]) (gs := [])
      (L' := [(22, .v (.int .u64 ((n : Nat) : Int))), (10, .p 2 0), (9, .p 1 0), (8, .p 0 0), (0, .v (.int .i64 256)), (1, .v (.int .u64 ((n : Nat) : Int))), (3, .v (.bool false))])
      (H' := [⟨2, 51, [.v (.int .i64 256), .v (.int .i32 0), .v (.int .i64 0), .v (.int .u64 0), .v (.int .i64 0), .v (.int .u64 0), .v (.int .u64 0), .v (.int .u64 0), .v (.int .u64 0)]⟩, ⟨1, 4, [.v (.bool false)]⟩, ⟨0, 22, [.v (.slice none 0 0)]⟩]) (G' := []) (k' := 3) hR hI (by kernel_rfl)
      .nil (fun e4 a4 w4 hag hR hI => ?_)
  refine callOp (ys := [.v (.int .u64 ((n : Nat) : Int))]) hI rfl rfl ⟨_, rfl, rfl, rfl⟩ (by kernel_rfl) Try.func27 rfl rfl ?_
  refine (fromU64_128 (C := C) n hn).mono ?_
  rintro ex w5 ⟨l, hi, rfl, hk, hlb, hi1, hi2, hlv⟩
  replace hR := hR.same hk; clear hk
  refine ⟨_, rfl, ?_⟩
  replace hI := hI.put (d := some 23) (x := .v (.agg #[.int .u64 ((l : Nat) : Int), .int .i64 hi])) (by intro t ht; cases ht; decide) rfl
  replace hI := hI.sel [23, 22, 10, 9, 8, 0, 1, 3] (by kernel_rfl : sel _ _ = some [(23, .v (.agg #[.int .u64 ((l : Nat) : Int), .int .i64 hi])), (22, .v (.int .u64 ((n : Nat) : Int))), (10, .p 2 0), (9, .p 1 0), (8, .p 0 0), (0, .v (.int .i64 256)), (1, .v (.int .u64 ((n : Nat) : Int))), (3, .v (.bool false))])
  refine part_ tab [2] [3, 4, 5, 6, 7] (by rfl) (k := 3) (hs := []) (sy := []) (ks := [24, 23, 10, 9, 8, 0, 3]) (bs := [2, 1, 0]) (gs := [])
      (L' := [(24, .v (.int .u64 ((n : Nat) : Int))), (23, .v (.agg #[.int .u64 ((l : Nat) : Int), .int .i64 hi])), (10, .p 2 0), (9, .p 1 0), (8, .p 0 0), (0, .v (.int .i64 256)), (3, .v (.bool false))])
      (H' := [⟨2, 51, [.v (.int .i64 256), .v (.int .i32 0), .v (.int .i64 0), .v (.int .u64 0), .v (.int .i64 0), .v (.int .u64 0), .v (.int .u64 0), .v (.int .u64 0), .v (.int .u64 0)]⟩, ⟨1, 4, [.v (.bool false)]⟩, ⟨0, 22, [.v (.slice none 0 0)]⟩]) (G' := []) (k' := 3) hR hI (by kernel_rfl)
      .nil (fun e6 a6 w6 hag hR hI => ?_)
  refine callOp (ys := [.v (.int .u64 ((n : Nat) : Int))]) hI rfl rfl ⟨_, rfl, rfl, rfl⟩ (by kernel_rfl) Try.func28 rfl rfl ?_
  refine (fromU64_256 (C := C) n hn).mono ?_
  rintro ex w7 ⟨q0, q1, q2, q3, rfl, hk, hq⟩
  replace hR := hR.same hk; clear hk
  refine ⟨_, rfl, ?_⟩
  replace hI := hI.put (d := some 25) (x := .v (.agg #[.int .u64 ((q0 : Nat) : Int), .int .u64 ((q1 : Nat) : Int), .int .u64 ((q2 : Nat) : Int), .int .u64 ((q3 : Nat) : Int)])) (by intro t ht; cases ht; decide) rfl
  replace hI := hI.sel [25, 24, 23, 10, 9, 8, 0, 3] (by kernel_rfl : sel _ _ = some [(25, .v (.agg #[.int .u64 ((q0 : Nat) : Int), .int .u64 ((q1 : Nat) : Int), .int .u64 ((q2 : Nat) : Int), .int .u64 ((q3 : Nat) : Int)])), (24, .v (.int .u64 ((n : Nat) : Int))), (23, .v (.agg #[.int .u64 ((l : Nat) : Int), .int .i64 hi])), (10, .p 2 0), (9, .p 1 0), (8, .p 0 0), (0, .v (.int .i64 256)), (3, .v (.bool false))])
  refine part_ tab [4, 5, 6, 7] [] (by rfl) (k := 3) (hs := []) (sy := []) (ks := [10, 9, 8, 0, 3]) (bs := [2, 1, 0]) (gs := [])
      (L' := [(10, .p 2 0), (9, .p 1 0), (8, .p 0 0), (0, .v (.int .i64 256)), (3, .v (.bool false))])
      (H' := [⟨2, 51, [.v (.int .i64 256), .v (.int .i32 0), .v (.int .i64 0), .v (.int .u64 ((l : Nat) : Int)), .v (.int .i64 hi), .v (.int .u64 ((q0 : Nat) : Int)), .v (.int .u64 ((q1 : Nat) : Int)), .v (.int .u64 ((q2 : Nat) : Int)), .v (.int .u64 ((q3 : Nat) : Int))]⟩, ⟨1, 4, [.v (.bool false)]⟩, ⟨0, 22, [.v (.slice none 0 0)]⟩]) (G' := []) (k' := 3) hR hI (by kernel_rfl)
      .nil (fun e8 a8 w8 hag hR hI => ?_)
  refine ops_nil ?_
  refine then_n ?_
  refine wp_seq ?_
  refine reg_seq tab (k := 3) (hs := []) (sy := []) (ks := [28, 10, 9, 8, 0, 3]) (bs := [2, 1, 0]) (gs := [])
      (L' := [(28, .v (.bool false)), (10, .p 2 0), (9, .p 1 0), (8, .p 0 0), (0, .v (.int .i64 256)), (3, .v (.bool false))])
      (H' := [⟨2, 51, [.v (.int .i64 256), .v (.int .i32 0), .v (.int .i64 0), .v (.int .u64 ((l : Nat) : Int)), .v (.int .i64 hi), .v (.int .u64 ((q0 : Nat) : Int)), .v (.int .u64 ((q1 : Nat) : Int)), .v (.int .u64 ((q2 : Nat) : Int)), .v (.int .u64 ((q3 : Nat) : Int))]⟩, ⟨1, 4, [.v (.bool false)]⟩, ⟨0, 22, [.v (.slice none 0 0)]⟩]) (G' := []) (k' := 3) hR hI (by kernel_rfl)
      .nil (fun e9 a9 w9 hag hR hI => ?_)
  refine cnd_f hI (by kernel_rfl) ?_
  refine wp_skip ?_
  refine then_n ?_
  refine wp_seq ?_
  refine reg_seq tab (k := 3) (hs := []) (sy := []) (ks := [45, 10, 9, 8]) (bs := [2, 1, 0]) (gs := [])
      (L' := [(45, .v (.bool false)), (10, .p 2 0), (9, .p 1 0), (8, .p 0 0)])
      (H' := [⟨2, 51, [.v (.int .i64 256), .v (.int .i32 0), .v (.int .i64 0), .v (.int .u64 ((l : Nat) : Int)), .v (.int .i64 hi), .v (.int .u64 ((q0 : Nat) : Int)), .v (.int .u64 ((q1 : Nat) : Int)), .v (.int .u64 ((q2 : Nat) : Int)), .v (.int .u64 ((q3 : Nat) : Int))]⟩, ⟨1, 4, [.v (.bool false)]⟩, ⟨0, 22, [.v (.slice none 0 0)]⟩]) (G' := []) (k' := 3) hR hI (by kernel_rfl)
      .nil (fun e10 a10 w10 hag hR hI => ?_)
  refine cnd_f hI (by kernel_rfl) ?_
  refine wp_skip ?_
  refine then_n ?_
  refine wp_seq ?_
  refine reg (is := [0, 1, 2, 3]) (by kernel_rfl) ?_
  refine part_ tab [0] [1, 2, 3] (by rfl) (k := 3) (hs := []) (sy := []) (ks := [46, 9, 8]) (bs := [1, 0]) (gs := [])
      (L' := [(46, .agg [.v (.int .i64 256), .v (.int .i32 0), .v (.int .i64 0), .v (.int .u64 ((l : Nat) : Int)), .v (.int .i64 hi), .v (.int .u64 ((q0 : Nat) : Int)), .v (.int .u64 ((q1 : Nat) : Int)), .v (.int .u64 ((q2 : Nat) : Int)), .v (.int .u64 ((q3 : Nat) : Int))]), (9, .p 1 0), (8, .p 0 0)])
      (H' := [⟨1, 4, [.v (.bool false)]⟩, ⟨0, 22, [.v (.slice none 0 0)]⟩]) (G' := []) (k' := 3) hR hI (by kernel_rfl)
      .nil (fun e11 a11 w11 hag hR hI => ?_)
  refine callOp (ys := [.agg [.v (.int .i64 256), .v (.int .i32 0), .v (.int .i64 0), .v (.int .u64 ((l : Nat) : Int)), .v (.int .i64 hi), .v (.int .u64 ((q0 : Nat) : Int)), .v (.int .u64 ((q1 : Nat) : Int)), .v (.int .u64 ((q2 : Nat) : Int)), .v (.int .u64 ((q3 : Nat) : Int))]]) hI rfl rfl ⟨_, rfl, rfl, rfl⟩ (by kernel_rfl) Try.func19 rfl rfl ?_
  refine (words256_spec (C := Now hB) hq.1).mono ?_
  rintro ex w12 ⟨wd, wc, rfl, hk, hw⟩
  have hB_ := hB.next hR hk
  replace hR := hR.after hk
  replace hB := hB_; clear hB_ hk
  refine ⟨_, rfl, ?_⟩
  replace hI := hI.put (d := some 47) (x := .v (.slice wd (List.length [q0, q1, q2, q3]) wc)) (by intro t ht; cases ht; decide) rfl
  replace hI := hI.sel [47, 46, 9, 8] (by kernel_rfl : sel _ _ = some [(47, .v (.slice wd (List.length [q0, q1, q2, q3]) wc)), (46, .agg [.v (.int .i64 256), .v (.int .i32 0), .v (.int .i64 0), .v (.int .u64 ((l : Nat) : Int)), .v (.int .i64 hi), .v (.int .u64 ((q0 : Nat) : Int)), .v (.int .u64 ((q1 : Nat) : Int)), .v (.int .u64 ((q2 : Nat) : Int)), .v (.int .u64 ((q3 : Nat) : Int))]), (9, .p 1 0), (8, .p 0 0)])
  refine part_ tab [2, 3] [] (by rfl) (k := 3) (hs := []) (sy := []) (ks := [9, 8]) (bs := [1, 0]) (gs := [])
      (L' := [(9, .p 1 0), (8, .p 0 0)])
      (H' := [⟨1, 4, [.v (.bool true)]⟩, ⟨0, 22, [.v (.slice wd (List.length [q0, q1, q2, q3]) wc)]⟩]) (G' := []) (k' := 3) hR hI (by kernel_rfl)
      .nil (fun e13 a13 w13 hag hR hI => ?_)
  refine ops_nil ?_
  refine then_n ?_
  refine wp_ret ?_
  refine outD tab (xs := [.v (.slice wd (List.length [q0, q1, q2, q3]) wc), .v (.bool true)]) hR hI Try.func14 rfl rfl (idle14 _ _) rfl (by kernel_rfl) ?_
  exact ⟨_, wd, wc, rfl, hB.fin hR, hw.fin hB hR, tells256 hq⟩

set_option maxHeartbeats 4000000 in
set_option maxRecDepth 100000 in
theorem decFrom256sb_spec {C : Nat → Prop} {w : World} {n : Nat} (hn : n < 18446744073709551616) :
    Calls P 11 #[.int .i64 256, .int .u64 ((n : Nat) : Int), .bool true, .bool true] w fun ex w' => ∃ us wd wc, ex = .returned (.tuple #[.slice wd (List.length us) wc, .bool true]) ∧ Keep (fun b => b < w.heap.size) w w' ∧ Sl .u64 18446744073709551616 (Grow C w w') w' wd wc us ∧ Tells 256 (fromV n true) us := by
  refine doorD (e := e0) (vs := [.v (.int .i64 256), .v (.int .u64 ((n : Nat) : Int)), .v (.bool true), .v (.bool true)]) (n := 48) (m := 4) Try.func11 rfl rfl rfl (by decide) fun a_ hI => ?_
  replace hI : Is 48 [] e0 [(0, .v (.int .i64 256)), (1, .v (.int .u64 ((n : Nat) : Int))), (2, .v (.bool true)), (3, .v (.bool true))] a_ := hI
  have hR : Rel (fun b => b < w.heap.size) w e0 [] [] w := Rel.start (fun k hk => hk)
  have hB : Base C w C (fun b => b < w.heap.size) w := Base.start
  refine reg_seq tab (k := 0) (hs := []) (sy := []) (ks := [9, 8, 0, 1, 2, 3]) (bs := [1, 0]) (gs := [])
      (L' := [(9, .p 1 0), (8, .p 0 0), (0, .v (.int .i64 256)), (1, .v (.int .u64 ((n : Nat) : Int))), (2, .v (.bool true)), (3, .v (.bool true))])
      (H' := [⟨1, 4, [.v (.bool false)]⟩, ⟨0, 22, [.v (.slice none 0 0)]⟩]) (G' := []) (k' := 2) hR hI (by kernel_rfl)
      .nil (fun e1 a1 w1 hag hR hI => ?_)
  refine wp_seq ?_
  refine reg (is := [0]) (by kernel_rfl) ?_
  refine deferOp (ys := [.p 0 0, .p 1 0]) hI rfl rfl rfl ⟨_, rfl, rfl, rfl⟩ (by kernel_rfl) (fun a1 hI => ?_)
  replace hI := hI.sel [9, 8, 0, 1, 2, 3] (by kernel_rfl : sel _ _ = some [(9, .p 1 0), (8, .p 0 0), (0, .v (.int .i64 256)), (1, .v (.int .u64 ((n : Nat) : Int))), (2, .v (.bool true)), (3, .v (.bool true))])
  refine ops_nil ?_
  refine then_n ?_
  refine reg_seq tab (k := 2) (hs := []) (sy := []) (ks := [10, 9, 8, 0, 1, 2, 3]) (bs := [2, 1, 0]) (gs := [])
      (L' := [(10, .p 2 0), (9, .p 1 0), (8, .p 0 0), (0, .v (.int .i64 256)), (1, .v (.int .u64 ((n : Nat) : Int))), (2, .v (.bool true)), (3, .v (.bool true))])
      (H' := [⟨2, 51, [.v (.int .i64 256), .v (.int .i32 0), .v (.int .i64 0), .v (.int .u64 0), .v (.int .i64 0), .v (.int .u64 0), .v (.int .u64 0), .v (.int .u64 0), .v (.int .u64 0)]⟩, ⟨1, 4, [.v (.bool false)]⟩, ⟨0, 22, [.v (.slice none 0 0)]⟩]) (G' := []) (k' := 3) hR hI (by kernel_rfl)
      .nil (fun e2 a2 w2 hag hR hI => ?_)
  refine wp_seq ?_
  refine reg_seq tab (k := 3) (hs := []) (sy := []) (ks := [13, 10, 9, 8, 0, 1, 3]) (bs := [2, 1, 0]) (gs := [])
      (L' := [(13, .v (.bool true)), (10, .p 2 0), (9, .p 1 0), (8, .p 0 0), (0, .v (.int .i64 256)), (1, .v (.int .u64 ((n : Nat) : Int))), (3, .v (.bool true))])
      (H' := [⟨2, 51, [.v (.int .i64 256), .v (.int .i32 0), .v (.int .i64 0), .v (.int .u64 0), .v (.int .i64 0), .v (.int .u64 0), .v (.int .u64 0), .v (.int .u64 0), .v (.int .u64 0)]⟩, ⟨1, 4, [.v (.bool false)]⟩, ⟨0, 22, [.v (.slice none 0 0)]⟩]) (G' := []) (k' := 3) hR hI (by kernel_rfl)
      .nil (fun e3 a3 w3 hag hR hI => ?_)
  refine cnd_t hI (by kernel_rfl) ?_
  refine reg (is := [0, 1, 2, 3, 4, 5, 6, 7, 8, 9]) (by kernel_rfl) ?_
  refine part_ tab [0, 1] [2, 3, 4, 5, 6, 7, 8, 9] (by rfl) (k := 3) (hs := []) (sy := []) (ks := [15, 10, 9, 8, 0, 1, 3]) (bs := [2, 1, 0]) (gs := [])
      (L' := [(15, .v (.int .i64 (IntKind.i64.wrap ((n : Nat) : Int)))), (10, .p 2 0), (9, .p 1 0), (8, .p 0 0), (0, .v (.int .i64 256)), (1, .v (.int .u64 ((n : Nat) : Int))), (3, .v (.bool true))])
      (H' := [⟨2, 51, [.v (.int .i64 256), .v (.int .i32 0), .v (.int .i64 0), .v (.int .u64 0), .v (.int .i64 0), .v (.int .u64 0), .v (.int .u64 0), .v (.int .u64 0), .v (.int .u64 0)]⟩, ⟨1, 4, [.v (.bool false)]⟩, ⟨0, 22, [.v (.slice none 0 0)]⟩]) (G' := []) (k' := 3) hR hI (by kernel_rfl)
      .nil (fun e4 a4 w4 hag hR hI => ?_)
  refine callOp (ys := [.v (.int .i64 (IntKind.i64.wrap ((n : Nat) : Int)))]) hI rfl rfl ⟨_, rfl, rfl, rfl⟩ (by kernel_rfl) Try.func25 rfl rfl ?_
  refine (fromI64_128 (C := C) _ (i64_in _)).mono ?_
  rintro ex w5 ⟨l, hi, rfl, hk, hlb, hi1, hi2, hlv⟩
  replace hR := hR.same hk; clear hk
  refine ⟨_, rfl, ?_⟩
  replace hI := hI.put (d := some 16) (x := .v (.agg #[.int .u64 ((l : Nat) : Int), .int .i64 hi])) (by intro t ht; cases ht; decide) rfl
  replace hI := hI.sel [16, 15, 10, 9, 8, 0, 1, 3] (by kernel_rfl : sel _ _ = some [(16, .v (.agg #[.int .u64 ((l : Nat) : Int), .int .i64 hi])), (15, .v (.int .i64 (IntKind.i64.wrap ((n : Nat) : Int)))), (10, .p 2 0), (9, .p 1 0), (8, .p 0 0), (0, .v (.int .i64 256)), (1, .v (.int .u64 ((n : Nat) : Int))), (3, .v (.bool true))])
  refine part_ tab [3, 4] [5, 6, 7, 8, 9] (by rfl) (k := 3) (hs := []) (sy := []) (ks := [18, 16, 10, 9, 8, 0, 3]) (bs := [2, 1, 0]) (gs := [])
      (L' := [(18, .v (.int .i64 (IntKind.i64.wrap ((n : Nat) : Int)))), (16, .v (.agg #[.int .u64 ((l : Nat) : Int), .int .i64 hi])), (10, .p 2 0), (9, .p 1 0), (8, .p 0 0), (0, .v (.int .i64 256)), (3, .v (.bool true))])
      (H' := [⟨2, 51, [.v (.int .i64 256), .v (.int .i32 0), .v (.int .i64 0), .v (.int .u64 0), .v (.int .i64 0), .v (.int .u64 0), .v (.int .u64 0), .v (.int .u64 0), .v (.int .u64 0)]⟩, ⟨1, 4, [.v (.bool false)]⟩, ⟨0, 22, [.v (.slice none 0 0)]⟩]) (G' := []) (k' := 3) hR hI (by kernel_rfl)
      .nil (fun e6 a6 w6 hag hR hI => ?_)
  refine callOp (ys := [.v (.int .i64 (IntKind.i64.wrap ((n : Nat) : Int)))]) hI rfl rfl ⟨_, rfl, rfl, rfl⟩ (by kernel_rfl) Try.func26 rfl rfl ?_
  refine (fromI64_256 (C := C) _ (i64_in _)).mono ?_
  rintro ex w7 ⟨q0, q1, q2, q3, rfl, hk, hq⟩
  replace hR := hR.same hk; clear hk
  refine ⟨_, rfl, ?_⟩
  replace hI := hI.put (d := some 19) (x := .v (.agg #[.int .u64 ((q0 : Nat) : Int), .int .u64 ((q1 : Nat) : Int), .int .u64 ((q2 : Nat) : Int), .int .u64 ((q3 : Nat) : Int)])) (by intro t ht; cases ht; decide) rfl
  replace hI := hI.sel [19, 18, 16, 10, 9, 8, 0, 3] (by kernel_rfl : sel _ _ = some [(19, .v (.agg #[.int .u64 ((q0 : Nat) : Int), .int .u64 ((q1 : Nat) : Int), .int .u64 ((q2 : Nat) : Int), .int .u64 ((q3 : Nat) : Int)])), (18, .v (.int .i64 (IntKind.i64.wrap ((n : Nat) : Int)))), (16, .v (.agg #[.int .u64 ((l : Nat) : Int), .int .i64 hi])), (10, .p 2 0), (9, .p 1 0), (8, .p 0 0), (0, .v (.int .i64 256)), (3, .v (.bool true))])
  refine part_ tab [6, 7, 8, 9] [] (by rfl) (k := 3) (hs := []) (sy := []) (ks := [10, 9, 8, 0, 3]) (bs := [2, 1, 0]) (gs := [])
      (L' := [(10, .p 2 0), (9, .p 1 0), (8, .p 0 0), (0, .v (.int .i64 256)), (3, .v (.bool true))])
      (H' := [⟨2, 51, [.v (.int .i64 256), .v (.int .i32 0), .v (.int .i64 0), .v (.int .u64 ((l : Nat) : Int)), .v (.int .i64 hi), .v (.int .u64 ((q0 : Nat) : Int)), .v (.int .u64 ((q1 : Nat) : Int)), .v (.int .u64 ((q2 : Nat) : Int)), .v (.int .u64 ((q3 : Nat) : Int))]⟩, ⟨1, 4, [.v (.bool false)]⟩, ⟨0, 22, [.v (.slice none 0 0)]⟩]) (G' := []) (k' := 3) hR hI (by kernel_rfl)
      .nil (fun e8 a8 w8 hag hR hI => ?_)
  refine ops_nil ?_
  refine then_n ?_
  refine wp_seq ?_
  refine reg_seq tab (k := 3) (hs := []) (sy := []) (ks := [28, 10, 9, 8, 0, 3]) (bs := [2, 1, 0]) (gs := [])
      (L' := [(28, .v (.bool true)), (10, .p 2 0), (9, .p 1 0), (8, .p 0 0), (0, .v (.int .i64 256)), (3, .v (.bool true))])
      (H' := [⟨2, 51, [.v (.int .i64 256), .v (.int .i32 0), .v (.int .i64 0), .v (.int .u64 ((l : Nat) : Int)), .v (.int .i64 hi), .v (.int .u64 ((q0 : Nat) : Int)), .v (.int .u64 ((q1 : Nat) : Int)), .v (.int .u64 ((q2 : Nat) : Int)), .v (.int .u64 ((q3 : Nat) : Int))]⟩, ⟨1, 4, [.v (.bool false)]⟩, ⟨0, 22, [.v (.slice none 0 0)]⟩]) (G' := []) (k' := 3) hR hI (by kernel_rfl)
      .nil (fun e9 a9 w9 hag hR hI => ?_)
  refine cnd_t hI (by kernel_rfl) ?_
  refine reg (is := [0, 1, 2, 3, 4]) (by kernel_rfl) ?_
  refine part_ tab [0, 1] [2, 3, 4] (by rfl) (k := 3) (hs := []) (sy := []) (ks := [30, 10, 9, 8, 0, 3]) (bs := [2, 1, 0]) (gs := [])
      (L' := [(30, .agg [.v (.int .u64 ((l : Nat) : Int)), .v (.int .i64 hi)]), (10, .p 2 0), (9, .p 1 0), (8, .p 0 0), (0, .v (.int .i64 256)), (3, .v (.bool true))])
      (H' := [⟨2, 51, [.v (.int .i64 256), .v (.int .i32 0), .v (.int .i64 0), .v (.int .u64 ((l : Nat) : Int)), .v (.int .i64 hi), .v (.int .u64 ((q0 : Nat) : Int)), .v (.int .u64 ((q1 : Nat) : Int)), .v (.int .u64 ((q2 : Nat) : Int)), .v (.int .u64 ((q3 : Nat) : Int))]⟩, ⟨1, 4, [.v (.bool false)]⟩, ⟨0, 22, [.v (.slice none 0 0)]⟩]) (G' := []) (k' := 3) hR hI (by kernel_rfl)
      .nil (fun e10 a10 w10 hag hR hI => ?_)
  refine callOp (ys := [.agg [.v (.int .u64 ((l : Nat) : Int)), .v (.int .i64 hi)]]) hI rfl rfl ⟨_, rfl, rfl, rfl⟩ (by kernel_rfl) Try.func29 rfl rfl ?_
  refine (fromD128_spec (C := C) hlb hi1 hi2).mono ?_
  rintro ex w11 ⟨p0, p1, p2, p3, rfl, hk, hp⟩
  replace hR := hR.same hk; clear hk
  rw [hlv] at hp
  refine ⟨_, rfl, ?_⟩
  replace hI := hI.put (d := some 31) (x := .v (.agg #[.int .u64 ((p0 : Nat) : Int), .int .u64 ((p1 : Nat) : Int), .int .u64 ((p2 : Nat) : Int), .int .u64 ((p3 : Nat) : Int)])) (by intro t ht; cases ht; decide) rfl
  replace hI := hI.sel [31, 30, 10, 9, 8, 0, 3] (by kernel_rfl : sel _ _ = some [(31, .v (.agg #[.int .u64 ((p0 : Nat) : Int), .int .u64 ((p1 : Nat) : Int), .int .u64 ((p2 : Nat) : Int), .int .u64 ((p3 : Nat) : Int)])), (30, .agg [.v (.int .u64 ((l : Nat) : Int)), .v (.int .i64 hi)]), (10, .p 2 0), (9, .p 1 0), (8, .p 0 0), (0, .v (.int .i64 256)), (3, .v (.bool true))])
  refine part_ tab [3, 4] [] (by rfl) (k := 3) (hs := []) (sy := []) (ks := [10, 9, 8, 0, 3]) (bs := [2, 1, 0]) (gs := [])
      (L' := [(10, .p 2 0), (9, .p 1 0), (8, .p 0 0), (0, .v (.int .i64 256)), (3, .v (.bool true))])
      (H' := [⟨2, 51, [.v (.int .i64 256), .v (.int .i32 0), .v (.int .i64 0), .v (.int .u64 ((l : Nat) : Int)), .v (.int .i64 hi), .v (.int .u64 ((p0 : Nat) : Int)), .v (.int .u64 ((p1 : Nat) : Int)), .v (.int .u64 ((p2 : Nat) : Int)), .v (.int .u64 ((p3 : Nat) : Int))]⟩, ⟨1, 4, [.v (.bool false)]⟩, ⟨0, 22, [.v (.slice none 0 0)]⟩]) (G' := []) (k' := 3) hR hI (by kernel_rfl)
      .nil (fun e12 a12 w12 hag hR hI => ?_)
  refine ops_nil ?_
  refine then_n ?_
  refine wp_seq ?_
  refine reg_seq tab (k := 3) (hs := []) (sy := []) (ks := [45, 10, 9, 8]) (bs := [2, 1, 0]) (gs := [])
      (L' := [(45, .v (.bool false)), (10, .p 2 0), (9, .p 1 0), (8, .p 0 0)])
      (H' := [⟨2, 51, [.v (.int .i64 256), .v (.int .i32 0), .v (.int .i64 0), .v (.int .u64 ((l : Nat) : Int)), .v (.int .i64 hi), .v (.int .u64 ((p0 : Nat) : Int)), .v (.int .u64 ((p1 : Nat) : Int)), .v (.int .u64 ((p2 : Nat) : Int)), .v (.int .u64 ((p3 : Nat) : Int))]⟩, ⟨1, 4, [.v (.bool false)]⟩, ⟨0, 22, [.v (.slice none 0 0)]⟩]) (G' := []) (k' := 3) hR hI (by kernel_rfl)
      .nil (fun e13 a13 w13 hag hR hI => ?_)
  refine cnd_f hI (by kernel_rfl) ?_
  refine wp_skip ?_
  refine then_n ?_
  refine wp_seq ?_
  refine reg (is := [0, 1, 2, 3]) (by kernel_rfl) ?_
  refine part_ tab [0] [1, 2, 3] (by rfl) (k := 3) (hs := []) (sy := []) (ks := [46, 9, 8]) (bs := [1, 0]) (gs := [])
      (L' := [(46, .agg [.v (.int .i64 256), .v (.int .i32 0), .v (.int .i64 0), .v (.int .u64 ((l : Nat) : Int)), .v (.int .i64 hi), .v (.int .u64 ((p0 : Nat) : Int)), .v (.int .u64 ((p1 : Nat) : Int)), .v (.int .u64 ((p2 : Nat) : Int)), .v (.int .u64 ((p3 : Nat) : Int))]), (9, .p 1 0), (8, .p 0 0)])
      (H' := [⟨1, 4, [.v (.bool false)]⟩, ⟨0, 22, [.v (.slice none 0 0)]⟩]) (G' := []) (k' := 3) hR hI (by kernel_rfl)
      .nil (fun e14 a14 w14 hag hR hI => ?_)
  refine callOp (ys := [.agg [.v (.int .i64 256), .v (.int .i32 0), .v (.int .i64 0), .v (.int .u64 ((l : Nat) : Int)), .v (.int .i64 hi), .v (.int .u64 ((p0 : Nat) : Int)), .v (.int .u64 ((p1 : Nat) : Int)), .v (.int .u64 ((p2 : Nat) : Int)), .v (.int .u64 ((p3 : Nat) : Int))]]) hI rfl rfl ⟨_, rfl, rfl, rfl⟩ (by kernel_rfl) Try.func19 rfl rfl ?_
  refine (words256_spec (C := Now hB) hp.1).mono ?_
  rintro ex w15 ⟨wd, wc, rfl, hk, hw⟩
  have hB_ := hB.next hR hk
  replace hR := hR.after hk
  replace hB := hB_; clear hB_ hk
  refine ⟨_, rfl, ?_⟩
  replace hI := hI.put (d := some 47) (x := .v (.slice wd (List.length [p0, p1, p2, p3]) wc)) (by intro t ht; cases ht; decide) rfl
  replace hI := hI.sel [47, 46, 9, 8] (by kernel_rfl : sel _ _ = some [(47, .v (.slice wd (List.length [p0, p1, p2, p3]) wc)), (46, .agg [.v (.int .i64 256), .v (.int .i32 0), .v (.int .i64 0), .v (.int .u64 ((l : Nat) : Int)), .v (.int .i64 hi), .v (.int .u64 ((p0 : Nat) : Int)), .v (.int .u64 ((p1 : Nat) : Int)), .v (.int .u64 ((p2 : Nat) : Int)), .v (.int .u64 ((p3 : Nat) : Int))]), (9, .p 1 0), (8, .p 0 0)])
  refine part_ tab [2, 3] [] (by rfl) (k := 3) (hs := []) (sy := []) (ks := [9, 8]) (bs := [1, 0]) (gs := [])
      (L' := [(9, .p 1 0), (8, .p 0 0)])
      (H' := [⟨1, 4, [.v (.bool true)]⟩, ⟨0, 22, [.v (.slice wd (List.length [p0, p1, p2, p3]) wc)]⟩]) (G' := []) (k' := 3) hR hI (by kernel_rfl)
      .nil (fun e16 a16 w16 hag hR hI => ?_)
  refine ops_nil ?_
  refine then_n ?_
  refine wp_ret ?_
  refine outD tab (xs := [.v (.slice wd (List.length [p0, p1, p2, p3]) wc), .v (.bool true)]) hR hI Try.func14 rfl rfl (idle14 _ _) rfl (by kernel_rfl) ?_
  exact ⟨_, wd, wc, rfl, hB.fin hR, hw.fin hB hR, tells256 hp⟩

set_option maxHeartbeats 4000000 in
set_option maxRecDepth 100000 in
theorem decFrom256ub_spec {C : Nat → Prop} {w : World} {n : Nat} (hn : n < 18446744073709551616) :
    Calls P 11 #[.int .i64 256, .int .u64 ((n : Nat) : Int), .bool false, .bool true] w fun ex w' => ∃ us wd wc, ex = .returned (.tuple #[.slice wd (List.length us) wc, .bool true]) ∧ Keep (fun b => b < w.heap.size) w w' ∧ Sl .u64 18446744073709551616 (Grow C w w') w' wd wc us ∧ Tells 256 (fromV n false) us := by
  refine doorD (e := e0) (vs := [.v (.int .i64 256), .v (.int .u64 ((n : Nat) : Int)), .v (.bool false), .v (.bool true)]) (n := 48) (m := 4) Try.func11 rfl rfl rfl (by decide) fun a_ hI => ?_
  replace hI : Is 48 [] e0 [(0, .v (.int .i64 256)), (1, .v (.int .u64 ((n : Nat) : Int))), (2, .v (.bool false)), (3, .v (.bool true))] a_ := hI
  have hR : Rel (fun b => b < w.heap.size) w e0 [] [] w := Rel.start (fun k hk => hk)
  have hB : Base C w C (fun b => b < w.heap.size) w := Base.start
  refine reg_seq tab (k := 0) (hs := []) (sy := []) (ks := [9, 8, 0, 1, 2, 3]) (bs := [1, 0]) (gs := [])
      (L' := [(9, .p 1 0), (8, .p 0 0), (0, .v (.int .i64 256)), (1, .v (.int .u64 ((n : Nat) : Int))), (2, .v (.bool false)), (3, .v (.bool true))])
      (H' := [⟨1, 4, [.v (.bool false)]⟩, ⟨0, 22, [.v (.slice none 0 0)]⟩]) (G' := []) (k' := 2) hR hI (by kernel_rfl)
      .nil (fun e1 a1 w1 hag hR hI => ?_)
  refine wp_seq ?_
  refine reg (is := [0]) (by kernel_rfl) ?_
  refine deferOp (ys := [.p 0 0, .p 1 0]) hI rfl rfl rfl ⟨_, rfl, rfl, rfl⟩ (by kernel_rfl) (fun a1 hI => ?_)
  replace hI := hI.sel [9, 8, 0, 1, 2, 3] (by kernel_rfl : sel _ _ = some [(9, .p 1 0), (8, .p 0 0), (0, .v (.int .i64 256)), (1, .v (.int .u64 ((n : Nat) : Int))), (2, .v (.bool false)), (3, .v (.bool true))])
  refine ops_nil ?_
  refine then_n ?_
  refine reg_seq tab (k := 2) (hs := []) (sy := []) (ks := [10, 9, 8, 0, 1, 2, 3]) (bs := [2, 1, 0]) (gs := [])
      (L' := [(10, .p 2 0), (9, .p 1 0), (8, .p 0 0), (0, .v (.int .i64 256)), (1, .v (.int .u64 ((n : Nat) : Int))), (2, .v (.bool false)), (3, .v (.bool true))])
      (H' := [⟨2, 51, [.v (.int .i64 256), .v (.int .i32 0), .v (.int .i64 0), .v (.int .u64 0), .v (.int .i64 0), .v (.int .u64 0), .v (.int .u64 0), .v (.int .u64 0), .v (.int .u64 0)]⟩, ⟨1, 4, [.v (.bool false)]⟩, ⟨0, 22, [.v (.slice none 0 0)]⟩]) (G' := []) (k' := 3) hR hI (by kernel_rfl)
      .nil (fun e2 a2 w2 hag hR hI => ?_)
  refine wp_seq ?_
  refine reg_seq tab (k := 3) (hs := []) (sy := []) (ks := [13, 10, 9, 8, 0, 1, 3]) (bs := [2, 1, 0]) (gs := [])
      (L' := [(13, .v (.bool false)), (10, .p 2 0), (9, .p 1 0), (8, .p 0 0), (0, .v (.int .i64 256)), (1, .v (.int .u64 ((n : Nat) : Int))), (3, .v (.bool true))])
      (H' := [⟨2, 51, [.v (.int .i64 256), .v (.int .i32 0), .v (.int .i64 0), .v (.int .u64 0), .v (.int .i64 0), .v (.int .u64 0), .v (.int .u64 0), .v (.int .u64 0), .v (.int .u64 0)]⟩, ⟨1, 4, [.v (.bool false)]⟩, ⟨0, 22, [.v (.slice none 0 0)]⟩]) (G' := []) (k' := 3) hR hI (by kernel_rfl)
      .nil (fun e3 a3 w3 hag hR hI => ?_)
  refine cnd_f hI (by kernel_rfl) ?_
  refine reg (is := [0, 1, 2, 3, 4, 5, 6, 7]) (by kernel_rfl) ?_
  refine part_ tab [0] [1, 2, 3, 4, 5, 6, 7] (by rfl) (k := 3) (hs := []) (sy := []) (ks := [22, 10, 9, 8, 0, 1, 3]) (bs := [2, 1, 0]) (gs := [])
      (L' := [(22, .v (.int .u64 ((n : Nat) : Int))), (10, .p 2 0), (9, .p 1 0), (8, .p 0 0), (0, .v (.int .i64 256)), (1, .v (.int .u64 ((n : Nat) : Int))), (3, .v (.bool true))])
      (H' := [⟨2, 51, [.v (.int .i64 256), .v (.int .i32 0), .v (.int .i64 0), .v (.int .u64 0), .v (.int .i64 0), .v (.int .u64 0), .v (.int .u64 0), .v (.int .u64 0), .v (.int .u64 0)]⟩, ⟨1, 4, [.v (.bool false)]⟩, ⟨0, 22, [.v (.slice none 0 0)]⟩]) (G' := []) (k' := 3) hR hI (by kernel_rfl)
      .nil (fun e4 a4 w4 hag hR hI => ?_)
  refine callOp (ys := [.v (.int .u64 ((n : Nat) : Int))]) hI rfl rfl ⟨_, rfl, rfl, rfl⟩ (by kernel_rfl) Try.func27 rfl rfl ?_
  refine (fromU64_128 (C := C) n hn).mono ?_
  rintro ex w5 ⟨l, hi, rfl, hk, hlb, hi1, hi2, hlv⟩
  replace hR := hR.same hk; clear hk
  refine ⟨_, rfl, ?_⟩
  replace hI := hI.put (d := some 23) (x := .v (.agg #[.int .u64 ((l : Nat) : Int), .int .i64 hi])) (by intro t ht; cases ht; decide) rfl
  replace hI := hI.sel [23, 22, 10, 9, 8, 0, 1, 3] (by kernel_rfl : sel _ _ = some [(23, .v (.agg #[.int .u64 ((l : Nat) : Int), .int .i64 hi])), (22, .v (.int .u64 ((n : Nat) : Int))), (10, .p 2 0), (9, .p 1 0), (8, .p 0 0), (0, .v (.int .i64 256)), (1, .v (.int .u64 ((n : Nat) : Int))), (3, .v (.bool true))])
  refine part_ tab [2] [3, 4, 5, 6, 7] (by rfl) (k := 3) (hs := []) (sy := []) (ks := [24, 23, 10, 9, 8, 0, 3]) (bs := [2, 1, 0]) (gs := [])
      (L' := [(24, .v (.int .u64 ((n : Nat) : Int))), (23, .v (.agg #[.int .u64 ((l : Nat) : Int), .int .i64 hi])), (10, .p 2 0), (9, .p 1 0), (8, .p 0 0), (0, .v (.int .i64 256)), (3, .v (.bool true))])
      (H' := [⟨2, 51, [.v (.int .i64 256), .v (.int .i32 0), .v (.int .i64 0), .v (.int .u64 0), .v (.int .i64 0), .v (.int .u64 0), .v (.int .u64 0), .v (.int .u64 0), .v (.int .u64 0)]⟩, ⟨1, 4, [.v (.bool false)]⟩, ⟨0, 22, [.v (.slice none 0 0)]⟩]) (G' := []) (k' := 3) hR hI (by kernel_rfl)
      .nil (fun e6 a6 w6 hag hR hI => ?_)
  refine callOp (ys := [.v (.int .u64 ((n : Nat) : Int))]) hI rfl rfl ⟨_, rfl, rfl, rfl⟩ (by kernel_rfl) Try.func28 rfl rfl ?_
  refine (fromU64_256 (C := C) n hn).mono ?_
  rintro ex w7 ⟨q0, q1, q2, q3, rfl, hk, hq⟩
  replace hR := hR.same hk; clear hk
  refine ⟨_, rfl, ?_⟩
  replace hI := hI.put (d := some 25) (x := .v (.agg #[.int .u64 ((q0 : Nat) : Int), .int .u64 ((q1 : Nat) : Int), .int .u64 ((q2 : Nat) : Int), .int .u64 ((q3 : Nat) : Int)])) (by intro t ht; cases ht; decide) rfl
  replace hI := hI.sel [25, 24, 23, 10, 9, 8, 0, 3] (by kernel_rfl : sel _ _ = some [(25, .v (.agg #[.int .u64 ((q0 : Nat) : Int), .int .u64 ((q1 : Nat) : Int), .int .u64 ((q2 : Nat) : Int), .int .u64 ((q3 : Nat) : Int)])), (24, .v (.int .u64 ((n : Nat) : Int))), (23, .v (.agg #[.int .u64 ((l : Nat) : Int), .int .i64 hi])), (10, .p 2 0), (9, .p 1 0), (8, .p 0 0), (0, .v (.int .i64 256)), (3, .v (.bool true))])
  refine part_ tab [4, 5, 6, 7] [] (by rfl) (k := 3) (hs := []) (sy := []) (ks := [10, 9, 8, 0, 3]) (bs := [2, 1, 0]) (gs := [])
      (L' := [(10, .p 2 0), (9, .p 1 0), (8, .p 0 0), (0, .v (.int .i64 256)), (3, .v (.bool true))])
      (H' := [⟨2, 51, [.v (.int .i64 256), .v (.int .i32 0), .v (.int .i64 0), .v (.int .u64 ((l : Nat) : Int)), .v (.int .i64 hi), .v (.int .u64 ((q0 : Nat) : Int)), .v (.int .u64 ((q1 : Nat) : Int)), .v (.int .u64 ((q2 : Nat) : Int)), .v (.int .u64 ((q3 : Nat) : Int))]⟩, ⟨1, 4, [.v (.bool false)]⟩, ⟨0, 22, [.v (.slice none 0 0)]⟩]) (G' := []) (k' := 3) hR hI (by kernel_rfl)
      .nil (fun e8 a8 w8 hag hR hI => ?_)
  refine ops_nil ?_
  refine then_n ?_
  refine wp_seq ?_
  refine reg_seq tab (k := 3) (hs := []) (sy := []) (ks := [28, 10, 9, 8, 0, 3]) (bs := [2, 1, 0]) (gs := [])
      (L' := [(28, .v (.bool true)), (10, .p 2 0), (9, .p 1 0), (8, .p 0 0), (0, .v (.int .i64 256)), (3, .v (.bool true))])
      (H' := [⟨2, 51, [.v (.int .i64 256), .v (.int .i32 0), .v (.int .i64 0), .v (.int .u64 ((l : Nat) : Int)), .v (.int .i64 hi), .v (.int .u64 ((q0 : Nat) : Int)), .v (.int .u64 ((q1 : Nat) : Int)), .v (.int .u64 ((q2 : Nat) : Int)), .v (.int .u64 ((q3 : Nat) : Int))]⟩, ⟨1, 4, [.v (.bool false)]⟩, ⟨0, 22, [.v (.slice none 0 0)]⟩]) (G' := []) (k' := 3) hR hI (by kernel_rfl)
      .nil (fun e9 a9 w9 hag hR hI => ?_)
  refine cnd_t hI (by kernel_rfl) ?_
  refine reg (is := [0, 1, 2, 3, 4]) (by kernel_rfl) ?_
  refine part_ tab [0, 1] [2, 3, 4] (by rfl) (k := 3) (hs := []) (sy := []) (ks := [30, 10, 9, 8, 0, 3]) (bs := [2, 1, 0]) (gs := [])
      (L' := [(30, .agg [.v (.int .u64 ((l : Nat) : Int)), .v (.int .i64 hi)]), (10, .p 2 0), (9, .p 1 0), (8, .p 0 0), (0, .v (.int .i64 256)), (3, .v (.bool true))])
      (H' := [⟨2, 51, [.v (.int .i64 256), .v (.int .i32 0), .v (.int .i64 0), .v (.int .u64 ((l : Nat) : Int)), .v (.int .i64 hi), .v (.int .u64 ((q0 : Nat) : Int)), .v (.int .u64 ((q1 : Nat) : Int)), .v (.int .u64 ((q2 : Nat) : Int)), .v (.int .u64 ((q3 : Nat) : Int))]⟩, ⟨1, 4, [.v (.bool false)]⟩, ⟨0, 22, [.v (.slice none 0 0)]⟩]) (G' := []) (k' := 3) hR hI (by kernel_rfl)
      .nil (fun e10 a10 w10 hag hR hI => ?_)
  refine callOp (ys := [.agg [.v (.int .u64 ((l : Nat) : Int)), .v (.int .i64 hi)]]) hI rfl rfl ⟨_, rfl, rfl, rfl⟩ (by kernel_rfl) Try.func29 rfl rfl ?_
  refine (fromD128_spec (C := C) hlb hi1 hi2).mono ?_
  rintro ex w11 ⟨p0, p1, p2, p3, rfl, hk, hp⟩
  replace hR := hR.same hk; clear hk
  rw [hlv] at hp
  refine ⟨_, rfl, ?_⟩
  replace hI := hI.put (d := some 31) (x := .v (.agg #[.int .u64 ((p0 : Nat) : Int), .int .u64 ((p1 : Nat) : Int), .int .u64 ((p2 : Nat) : Int), .int .u64 ((p3 : Nat) : Int)])) (by intro t ht; cases ht; decide) rfl
  replace hI := hI.sel [31, 30, 10, 9, 8, 0, 3] (by kernel_rfl : sel _ _ = some [(31, .v (.agg #[.int .u64 ((p0 : Nat) : Int), .int .u64 ((p1 : Nat) : Int), .int .u64 ((p2 : Nat) : Int), .int .u64 ((p3 : Nat) : Int)])), (30, .agg [.v (.int .u64 ((l : Nat) : Int)), .v (.int .i64 hi)]), (10, .p 2 0), (9, .p 1 0), (8, .p 0 0), (0, .v (.int .i64 256)), (3, .v (.bool true))])
  refine part_ tab [3, 4] [] (by rfl) (k := 3) (hs := []) (sy := []) (ks := [10, 9, 8, 0, 3]) (bs := [2, 1, 0]) (gs := [])
      (L' := [(10, .p 2 0), (9, .p 1 0), (8, .p 0 0), (0, .v (.int .i64 256)), (3, .v (.bool true))])
      (H' := [⟨2, 51, [.v (.int .i64 256), .v (.int .i32 0), .v (.int .i64 0), .v (.int .u64 ((l : Nat) : Int)), .v (.int .i64 hi), .v (.int .u64 ((p0 : Nat) : Int)), .v (.int .u64 ((p1 : Nat) : Int)), .v (.int .u64 ((p2 : Nat) : Int)), .v (.int .u64 ((p3 : Nat) : Int))]⟩, ⟨1, 4, [.v (.bool false)]⟩, ⟨0, 22, [.v (.slice none 0 0)]⟩]) (G' := []) (k' := 3) hR hI (by kernel_rfl)
      .nil (fun e12 a12 w12 hag hR hI => ?_)
  refine ops_nil ?_
  refine then_n ?_
  refine wp_seq ?_
  refine reg_seq tab (k := 3) (hs := []) (sy := []) (ks := [45, 10, 9, 8]) (bs := [2, 1, 0]) (gs := [])
      (L' := [(45, .v (.bool false)), (10, .p 2 0), (9, .p 1 0), (8, .p 0 0)])
      (H' := [⟨2, 51, [.v (.int .i64 256), .v (.int .i32 0), .v (.int .i64 0), .v (.int .u64 ((l : Nat) : Int)), .v (.int .i64 hi), .v (.int .u64 ((p0 : Nat) : Int)), .v (.int .u64 ((p1 : Nat) : Int)), .v (.int .u64 ((p2 : Nat) : Int)), .v (.int .u64 ((p3 : Nat) : Int))]⟩, ⟨1, 4, [.v (.bool false)]⟩, ⟨0, 22, [.v (.slice none 0 0)]⟩]) (G' := []) (k' := 3) hR hI (by kernel_rfl)
      .nil (fun e13 a13 w13 hag hR hI => ?_)
  refine cnd_f hI (by kernel_rfl) ?_
  refine wp_skip ?_
  refine then_n ?_
  refine wp_seq ?_
  refine reg (is := [0, 1, 2, 3]) (by kernel_rfl) ?_
  refine part_ tab [0] [1, 2, 3] (by rfl) (k := 3) (hs := []) (sy := []) (ks := [46, 9, 8]) (bs := [1, 0]) (gs := [])
      (L' := [(46, .agg [.v (.int .i64 256), .v (.int .i32 0), .v (.int .i64 0), .v (.int .u64 ((l : Nat) : Int)), .v (.int .i64 hi), .v (.int .u64 ((p0 : Nat) : Int)), .v (.int .u64 ((p1 : Nat) : Int)), .v (.int .u64 ((p2 : Nat) : Int)), .v (.int .u64 ((p3 : Nat) : Int))]), (9, .p 1 0), (8, .p 0 0)])
      (H' := [⟨1, 4, [.v (.bool false)]⟩, ⟨0, 22, [.v (.slice none 0 0)]⟩]) (G' := []) (k' := 3) hR hI (by kernel_rfl)
      .nil (fun e14 a14 w14 hag hR hI => ?_)
  refine callOp (ys := [.agg [.v (.int .i64 256), .v (.int .i32 0), .v (.int .i64 0), .v (.int .u64 ((l : Nat) : Int)), .v (.int .i64 hi), .v (.int .u64 ((p0 : Nat) : Int)), .v (.int .u64 ((p1 : Nat) : Int)), .v (.int .u64 ((p2 : Nat) : Int)), .v (.int .u64 ((p3 : Nat) : Int))]]) hI rfl rfl ⟨_, rfl, rfl, rfl⟩ (by kernel_rfl) Try.func19 rfl rfl ?_
  refine (words256_spec (C := Now hB) hp.1).mono ?_
  rintro ex w15 ⟨wd, wc, rfl, hk, hw⟩
  have hB_ := hB.next hR hk
  replace hR := hR.after hk
  replace hB := hB_; clear hB_ hk
  refine ⟨_, rfl, ?_⟩
  replace hI := hI.put (d := some 47) (x := .v (.slice wd (List.length [p0, p1, p2, p3]) wc)) (by intro t ht; cases ht; decide) rfl
  replace hI := hI.sel [47, 46, 9, 8] (by kernel_rfl : sel _ _ = some [(47, .v (.slice wd (List.length [p0, p1, p2, p3]) wc)), (46, .agg [.v (.int .i64 256), .v (.int .i32 0), .v (.int .i64 0), .v (.int .u64 ((l : Nat) : Int)), .v (.int .i64 hi), .v (.int .u64 ((p0 : Nat) : Int)), .v (.int .u64 ((p1 : Nat) : Int)), .v (.int .u64 ((p2 : Nat) : Int)), .v (.int .u64 ((p3 : Nat) : Int))]), (9, .p 1 0), (8, .p 0 0)])
  refine part_ tab [2, 3] [] (by rfl) (k := 3) (hs := []) (sy := []) (ks := [9, 8]) (bs := [1, 0]) (gs := [])
      (L' := [(9, .p 1 0), (8, .p 0 0)])
      (H' := [⟨1, 4, [.v (.bool true)]⟩, ⟨0, 22, [.v (.slice wd (List.length [p0, p1, p2, p3]) wc)]⟩]) (G' := []) (k' := 3) hR hI (by kernel_rfl)
      .nil (fun e16 a16 w16 hag hR hI => ?_)
  refine ops_nil ?_
  refine then_n ?_
  refine wp_ret ?_
  refine outD tab (xs := [.v (.slice wd (List.length [p0, p1, p2, p3]) wc), .v (.bool true)]) hR hI Try.func14 rfl rfl (idle14 _ _) rfl (by kernel_rfl) ?_
  exact ⟨_, wd, wc, rfl, hB.fin hR, hw.fin hB hR, tells256 hp⟩

end Go.Proofs.Yteipgknmhpilfaa.Stride
