/- Walks of the program's functions, printed by a program of mine (walk.py) over the words of Stride: each function's contract. -/
import Derived.Test.YtbfbpkcepchldaaRbX
namespace Go.Proofs.Ytbfbpkcepchldaa.Stride
open Go Go.RowKit Go.Proofs.Ytbfbpkcepchldaa.Mag
set_option linter.unusedVariables false
set_option linter.unusedSimpArgs false
theorem idle14 (x0 x1 x2 : Value) : Idle P 14 #[x0, x1, x2] := ⟨fun w => by
  refine callsD_of_wpS Try.func14 rfl fun c₀ cs hu => ?_
  apply wpS_seq
  apply wpS_region
  simp [wpOpsS, go_sem, recoverD, hu, Try.ntmps14, Exit.thenS]
  refine wpS_cond (t := false) (by simp [Act.eval, Array.replicate]) ?_
  simp only [Bool.false_eq_true, if_false]
  refine wpS_of_wp (wp_skip ?_)
  cases c₀
  simp_all [bodyPostS, results, Try.results14]⟩
theorem inv14 (x0 x1 x2 : Value) (w : World) : (invoke (.fn (.func 14) #[x0, x1, x2]) #[]).run P w = .ok (.enter 14 #[x0, x1, x2]) w := by
  simp [invoke, callFunc, Try.func14, Try.f14]
theorem getD_snoc_at {xs : List Nat} {x i : Nat} : (xs ++ [x]).getD i 0 = if i < xs.length then xs.getD i 0 else if i = xs.length then x else 0 := by
  rw [List.getD_eq_getElem?_getD]
  by_cases h : i < xs.length
  · rw [List.getElem?_append_left h, if_pos h, ← List.getD_eq_getElem?_getD]
  · rw [List.getElem?_append_right (by omega), if_neg h]
    by_cases h2 : i = xs.length
    · subst h2; simp
    · rw [if_neg h2, List.getElem?_eq_none (by simp; omega), Option.getD_none]
/-- Words read so far. -/
def WordsOf (xs ws : List Nat) (p k : Nat) : Prop := ws.length = k ∧ (∀ d ∈ ws, d < 18446744073709551616) ∧ ∀ a, a < k → ∀ i, i < 64 → (ws.getD a 0).testBit i = bitN xs (p + 64 * a + i)
theorem WordsOf.next {xs ws ys : List Nat} {p k v o : Nat} (h : WordsOf xs ws p k) (hv : v < 18446744073709551616) (hb : ∀ i, i < 64 → v.testBit i = bitN ys (o + i)) (hy : ∀ i, i < o + 64 → bitN ys i = bitN xs (8 * (p / 8) + 64 * k + i)) (ho : o = p % 8) : WordsOf xs (ws ++ [v]) p (k + 1) := by
  refine ⟨by rw [List.length_append, h.1]; rfl, fun d hd => ?_, fun a ha i hi => ?_⟩
  · rcases List.mem_append.1 hd with hd | hd
    · exact h.2.1 d hd
    · rw [List.mem_singleton.1 hd]; exact hv
  · rw [getD_snoc_at]
    by_cases ha2 : a < ws.length
    · rw [if_pos ha2]; exact h.2.2 a (by have := h.1; omega) i hi
    · have hak : a = k := by have := h.1; omega
      rw [if_neg ha2, if_pos (by have := h.1; omega), hb i hi, hy _ (by omega)]
      congr 1; omega
/-- Trailing bytes read so far: t bits behind bit b0, byte by byte. -/
def BytesOf (xs rs vs : List Nat) (b0 t k : Nat) : Prop := rs.length = k ∧ vs.length = k ∧ (∀ d ∈ rs, d < 256) ∧ (∀ d ∈ vs, d < 256) ∧ ∀ a, a < k → vs.getD a 0 = min (t - 8 * a) 8 ∧ ∀ i, i < min (t - 8 * a) 8 → (rs.getD a 0).testBit i = bitN xs (b0 + 8 * a + i)
theorem BytesOf.next {xs rs vs ys : List Nat} {b0 t k v o : Nat} (h : BytesOf xs rs vs b0 t k) (hv : v < 256) (hb : ∀ i, i < min (t - 8 * k) 8 → v.testBit i = bitN ys (o + i)) (hy : ∀ i, i < o + (t - 8 * k) → bitN ys i = bitN xs (b0 - o + 8 * k + i)) (ho : o ≤ b0) : BytesOf xs (rs ++ [v]) (vs ++ [min (t - 8 * k) 8]) b0 t (k + 1) := by
  obtain ⟨h1, h2, h3, h4, h5⟩ := h
  refine ⟨by rw [List.length_append, h1]; rfl, by rw [List.length_append, h2]; rfl, fun d hd => ?_, fun d hd => ?_, fun a ha => ?_⟩
  · rcases List.mem_append.1 hd with hd | hd
    · exact h3 d hd
    · rw [List.mem_singleton.1 hd]; exact hv
  · rcases List.mem_append.1 hd with hd | hd
    · exact h4 d hd
    · rw [List.mem_singleton.1 hd]; omega
  · rw [getD_snoc_at, getD_snoc_at]
    by_cases ha2 : a < k
    · rw [if_pos (by omega), if_pos (by omega)]; exact h5 a ha2
    · have hak : a = k := by omega
      subst hak
      rw [if_neg (by omega), if_pos (by omega), if_neg (by omega), if_pos (by omega)]
      refine ⟨rfl, fun i hi => ?_⟩
      rw [hb i hi, hy _ (by omega)]
      congr 1; omega


set_option maxHeartbeats 4000000 in
set_option maxRecDepth 100000 in
theorem readWords_spec {C : Nat → Prop} {w : World} {ad : Option Addr} {cap p n : Nat} {xs : List Nat} (hx : Sl .u8 256 C w ad cap xs) (hn : 0 < n) (hp : p + n ≤ 8 * xs.length) (hs : xs.length ≤ 4096) :
    Calls P 8 #[.slice ad xs.length cap, .int .i64 ((p : Nat) : Int), .int .i64 ((n : Nat) : Int)] w fun ex w' => ∃ ws wd wc rs rd rc vs vd vc nw, ex = .returned (.tuple #[.slice wd (List.length ws) wc, .slice rd (List.length rs) rc, .slice vd (List.length vs) vc]) ∧ Keep (fun b => b < w.heap.size) w w' ∧ Sl .u64 18446744073709551616 (Grow C w w') w' wd wc ws ∧ Sl .u8 256 (Grow C w w') w' rd rc rs ∧ Sl .i64 256 (Grow C w w') w' vd vc vs ∧ nw = n / 64 - 1 ∧ WordsOf xs ws p nw ∧ BytesOf xs rs vs (p + 64 * nw) (n - nw * 64) ((n - nw * 64 + 7) / 8) := by
  refine doorD (e := e0) (vs := [.v (.slice ad xs.length cap), .v (.int .i64 ((p : Nat) : Int)), .v (.int .i64 ((n : Nat) : Int))]) (n := 52) (m := 3) Try.func8 rfl rfl rfl (by decide) fun a_ hI => ?_
  replace hI : Is 52 [] e0 [(0, .v (.slice ad xs.length cap)), (1, .v (.int .i64 ((p : Nat) : Int))), (2, .v (.int .i64 ((n : Nat) : Int)))] a_ := hI
  have hR : Rel (fun b => b < w.heap.size) w e0 [] [] w := Rel.start (fun k hk => hk)
  have hB : Base C w C (fun b => b < w.heap.size) w := Base.start
  have hrx := hx.room; have hmx := hx.max; have hnb : n ≤ 32768 := (by omega); have ho8 : p % 8 < 8 := Nat.mod_lt _ (by decide); have hw0 := hx.pos (by omega)
  refine reg_seq tab (k := 0) (hs := []) (sy := []) (ks := [8, 7, 6, 0, 1, 2]) (bs := [2, 1, 0]) (gs := [])
      (L' := [(8, .p 2 0), (7, .p 1 0), (6, .p 0 0), (0, .v (.slice ad xs.length cap)), (1, .v (.int .i64 ((p : Nat) : Int))), (2, .v (.int .i64 ((n : Nat) : Int)))])
      (H' := [⟨2, 30, [.v (.slice none 0 0)]⟩, ⟨1, 22, [.v (.slice none 0 0)]⟩, ⟨0, 29, [.v (.slice none 0 0)]⟩]) (G' := []) (k' := 3) hR hI (by kernel_rfl)
      .nil (fun e1 a1 w1 hag hR hI => ?_)
  refine wp_seq ?_
  refine reg (is := [0, 1]) (by kernel_rfl) ?_
  refine rawOp (x := .v (.func (.func 14) #[] #[.pointer (some ⟨e1.b 0, 0, none⟩), .pointer (some ⟨e1.b 1, 0, none⟩), .pointer (some ⟨e1.b 2, 0, none⟩)])) hI rfl rfl (by kernel_rfl) (fun ev hev => by simp [execOp, Instr.makeFunc, hev (.tmp 6) _ rfl, hev (.tmp 7) _ rfl, hev (.tmp 8) _ rfl, den]) (fun a2 hI => ?_)
  replace hI := hI.sel [14, 8, 7, 6, 0, 1, 2] (by kernel_rfl : sel _ _ = some [(14, .v (.func (.func 14) #[] #[.pointer (some ⟨e1.b 0, 0, none⟩), .pointer (some ⟨e1.b 1, 0, none⟩), .pointer (some ⟨e1.b 2, 0, none⟩)])), (8, .p 2 0), (7, .p 1 0), (6, .p 0 0), (0, .v (.slice ad xs.length cap)), (1, .v (.int .i64 ((p : Nat) : Int))), (2, .v (.int .i64 ((n : Nat) : Int)))])
  refine deferFn hI rfl rfl rfl ⟨_, rfl, rfl, rfl⟩ rfl (fun a2 hI => ?_)
  replace hI := hI.sel [14, 8, 7, 6, 0, 1, 2] (by kernel_rfl : sel _ _ = some [(14, .v (.func (.func 14) #[] #[.pointer (some ⟨e1.b 0, 0, none⟩), .pointer (some ⟨e1.b 1, 0, none⟩), .pointer (some ⟨e1.b 2, 0, none⟩)])), (8, .p 2 0), (7, .p 1 0), (6, .p 0 0), (0, .v (.slice ad xs.length cap)), (1, .v (.int .i64 ((p : Nat) : Int))), (2, .v (.int .i64 ((n : Nat) : Int)))])
  refine ops_nil ?_
  refine then_n ?_
  refine wp_seq ?_
  refine reg (is := [0, 1, 2, 3, 4]) (by kernel_rfl) ?_
  refine part_ tab [0, 1, 2] [3, 4] (by rfl) (k := 3) (hs := []) (sy := []) (ks := [17, 16, 15, 8, 7, 6]) (bs := [2, 1, 0]) (gs := [])
      (L' := [(17, .v (.int .i64 ((n : Nat) : Int))), (16, .v (.int .i64 ((p : Nat) : Int))), (15, .v (.slice ad xs.length cap)), (8, .p 2 0), (7, .p 1 0), (6, .p 0 0)])
      (H' := [⟨2, 30, [.v (.slice none 0 0)]⟩, ⟨1, 22, [.v (.slice none 0 0)]⟩, ⟨0, 29, [.v (.slice none 0 0)]⟩]) (G' := []) (k' := 3) hR hI (by kernel_rfl)
      .nil (fun e3 a3 w3 hag hR hI => ?_)
  refine callOp (ys := [.v (.slice ad xs.length cap), .v (.int .i64 ((p : Nat) : Int)), .v (.int .i64 ((n : Nat) : Int))]) hI rfl rfl ⟨_, rfl, rfl, rfl⟩ (by kernel_rfl) Try.func15 rfl rfl ?_
  refine (newWordReader_spec (hx.now hB hR) hn hp hs).mono ?_
  rintro ex w4 ⟨b, nw, cur, ys, q, cap', rfl, hge, hnew, hk, hy, hnw, hyl, hyb, hcur, hcl, hcb⟩
  obtain ⟨hag_, hnb_, hR_⟩ := hR.gotX (L := []) (k := 3) (cs := [.v (.slice (some q) ys.length cap'), .v (.int .i64 ((p % 8 : Nat) : Int)), .v (.int .i64 ((nw : Nat) : Int)), .v (.int .i64 ((n - nw * 64 : Nat) : Int)), .v (.int .i64 (((n - nw * 64 + 7) / 8 : Nat) : Int)), .v (.int .u64 ((cur : Nat) : Int))]) (by kernel_rfl) (by kernel_rfl) hk hge hnew
  have hkF_ := hR.keepF hk
  replace hx := hx.nextX hB hR hkF_ hge
  have hB_ := hB.nextX hR hkF_ hge
  replace hI := hI.agreeB (H := [⟨2, 30, [.v (.slice none 0 0)]⟩, ⟨1, 22, [.v (.slice none 0 0)]⟩, ⟨0, 29, [.v (.slice none 0 0)]⟩]) (G := []) (by kernel_rfl) hag_
  replace hR := hR_; replace hB := hB_; clear hB_ hR_ hkF_ hk
  refine ⟨_, rfl, ?_⟩
  replace hI := hI.put (d := some 18) (x := .p 3 0) (by intro t ht; cases ht; decide) rfl
  replace hI := hI.sel [18, 17, 16, 15, 8, 7, 6] (by kernel_rfl : sel _ _ = some [(18, .p 3 0), (17, .v (.int .i64 ((n : Nat) : Int))), (16, .v (.int .i64 ((p : Nat) : Int))), (15, .v (.slice ad xs.length cap)), (8, .p 2 0), (7, .p 1 0), (6, .p 0 0)])
  refine part_ tab [4] [] (by rfl) (k := 4) (hs := []) (sy := []) (ks := [9, 8, 7, 6]) (bs := [3, 2, 1, 0]) (gs := [])
      (L' := [(9, .p 3 0), (8, .p 2 0), (7, .p 1 0), (6, .p 0 0)])
      (H' := [⟨3, 48, [.v (.slice (some q) ys.length cap'), .v (.int .i64 ((p % 8 : Nat) : Int)), .v (.int .i64 ((nw : Nat) : Int)), .v (.int .i64 ((n - nw * 64 : Nat) : Int)), .v (.int .i64 (((n - nw * 64 + 7) / 8 : Nat) : Int)), .v (.int .u64 ((cur : Nat) : Int))]⟩, ⟨2, 30, [.v (.slice none 0 0)]⟩, ⟨1, 22, [.v (.slice none 0 0)]⟩, ⟨0, 29, [.v (.slice none 0 0)]⟩]) (G' := []) (k' := 4) hR hI (by kernel_rfl)
      .nil (fun e5 a5 w5 hag hR hI => ?_)
  refine ops_nil ?_
  refine then_n ?_
  refine wp_seq ?_
  refine wp_seq ?_
  refine reg (is := [0, 1, 2]) (by kernel_rfl) ?_
  refine part_ tab [0] [1, 2] (by rfl) (k := 4) (hs := []) (sy := []) (ks := [19, 9, 8, 7, 6]) (bs := [3, 2, 1, 0]) (gs := [])
      (L' := [(19, .p 3 0), (9, .p 3 0), (8, .p 2 0), (7, .p 1 0), (6, .p 0 0)])
      (H' := [⟨3, 48, [.v (.slice (some q) ys.length cap'), .v (.int .i64 ((p % 8 : Nat) : Int)), .v (.int .i64 ((nw : Nat) : Int)), .v (.int .i64 ((n - nw * 64 : Nat) : Int)), .v (.int .i64 (((n - nw * 64 + 7) / 8 : Nat) : Int)), .v (.int .u64 ((cur : Nat) : Int))]⟩, ⟨2, 30, [.v (.slice none 0 0)]⟩, ⟨1, 22, [.v (.slice none 0 0)]⟩, ⟨0, 29, [.v (.slice none 0 0)]⟩]) (G' := []) (k' := 4) hR hI (by kernel_rfl)
      .nil (fun e6 a6 w6 hag hR hI => ?_)
  refine callOp (ys := [.p 3 0]) hI rfl rfl ⟨_, rfl, rfl, rfl⟩ (by kernel_rfl) Try.func16 rfl rfl ?_
  have hblk_ := hR.blk ⟨3, 48, [.v (.slice (some q) ys.length cap'), .v (.int .i64 ((p % 8 : Nat) : Int)), .v (.int .i64 ((nw : Nat) : Int)), .v (.int .i64 ((n - nw * 64 : Nat) : Int)), .v (.int .i64 (((n - nw * 64 + 7) / 8 : Nat) : Int)), .v (.int .u64 ((cur : Nat) : Int))]⟩ (by simp)
  refine (words_spec (C := fun _ => False) hblk_.1 (fun h => h)).mono ?_
  rintro ex w7 ⟨rfl, hk, hnew⟩
  have hkF_ := hR.keepB (b := ⟨3, 48, [.v (.slice (some q) ys.length cap'), .v (.int .i64 ((p % 8 : Nat) : Int)), .v (.int .i64 ((nw : Nat) : Int)), .v (.int .i64 ((n - nw * 64 : Nat) : Int)), .v (.int .i64 (((n - nw * 64 + 7) / 8 : Nat) : Int)), .v (.int .u64 ((cur : Nat) : Int))]⟩) (by simp) hk
  replace hx := hx.nextF hB hR hkF_
  replace hy := hy.nextF hB hR hkF_
  have hB_ := hB.nextF hR hkF_
  replace hR := hR.turned (b := ⟨3, 48, [.v (.slice (some q) ys.length cap'), .v (.int .i64 ((p % 8 : Nat) : Int)), .v (.int .i64 ((nw : Nat) : Int)), .v (.int .i64 ((n - nw * 64 : Nat) : Int)), .v (.int .i64 (((n - nw * 64 + 7) / 8 : Nat) : Int)), .v (.int .u64 ((cur : Nat) : Int))]⟩) (by simp) [.v (.slice (some q) ys.length cap'), .v (.int .i64 ((p % 8 : Nat) : Int)), .v (.int .i64 ((nw : Nat) : Int)), .v (.int .i64 ((n - nw * 64 : Nat) : Int)), .v (.int .i64 (((n - nw * 64 + 7) / 8 : Nat) : Int)), .v (.int .u64 ((cur : Nat) : Int))] [⟨2, 30, [.v (.slice none 0 0)]⟩, ⟨1, 22, [.v (.slice none 0 0)]⟩, ⟨0, 29, [.v (.slice none 0 0)]⟩] (by simp) hk hnew
  dsimp only at hR; replace hB := hB_; clear hB_ hk hkF_ hblk_
  refine ⟨_, rfl, ?_⟩
  replace hI := hI.put (d := some 20) (x := .v (.int .i64 ((nw : Nat) : Int))) (by intro t ht; cases ht; decide) rfl
  replace hI := hI.sel [20, 19, 9, 8, 7, 6] (by kernel_rfl : sel _ _ = some [(20, .v (.int .i64 ((nw : Nat) : Int))), (19, .p 3 0), (9, .p 3 0), (8, .p 2 0), (7, .p 1 0), (6, .p 0 0)])
  refine part_ tab [2] [] (by rfl) (k := 4) (hs := []) (sy := []) (ks := [10, 9, 8, 7, 6]) (bs := [3, 2, 1, 0]) (gs := [])
      (L' := [(10, .v (.int .i64 ((nw : Nat) : Int))), (9, .p 3 0), (8, .p 2 0), (7, .p 1 0), (6, .p 0 0)])
      (H' := [⟨3, 48, [.v (.slice (some q) ys.length cap'), .v (.int .i64 ((p % 8 : Nat) : Int)), .v (.int .i64 ((nw : Nat) : Int)), .v (.int .i64 ((n - nw * 64 : Nat) : Int)), .v (.int .i64 (((n - nw * 64 + 7) / 8 : Nat) : Int)), .v (.int .u64 ((cur : Nat) : Int))]⟩, ⟨2, 30, [.v (.slice none 0 0)]⟩, ⟨1, 22, [.v (.slice none 0 0)]⟩, ⟨0, 29, [.v (.slice none 0 0)]⟩]) (G' := []) (k' := 4) hR hI (by kernel_rfl)
      .nil (fun e8 a8 w8 hag hR hI => ?_)
  refine ops_nil ?_
  refine then_n ?_
  refine wp_block ?_
  obtain ⟨e9, hag_, hr_, hR_⟩ := hR.nilRow (L := [(10, .v (.int .i64 ((nw : Nat) : Int))), (9, .p 3 0), (8, .p 2 0), (7, .p 1 0), (6, .p 0 0)]) 4 (by kernel_rfl) 33 1
  replace hI := hI.agreeB (H := [⟨3, 48, [.v (.slice (some q) ys.length cap'), .v (.int .i64 ((p % 8 : Nat) : Int)), .v (.int .i64 ((nw : Nat) : Int)), .v (.int .i64 ((n - nw * 64 : Nat) : Int)), .v (.int .i64 (((n - nw * 64 + 7) / 8 : Nat) : Int)), .v (.int .u64 ((cur : Nat) : Int))]⟩, ⟨2, 30, [.v (.slice none 0 0)]⟩, ⟨1, 22, [.v (.slice none 0 0)]⟩, ⟨0, 29, [.v (.slice none 0 0)]⟩]) (G := []) (by kernel_rfl) hag_; replace hR := hR_; clear hag_ hR_
  replace hR := hR.reblk (b := ⟨0, 29, [.v (.slice none 0 0)]⟩) (by simp) [.row 4] [⟨3, 48, [.v (.slice (some q) ys.length cap'), .v (.int .i64 ((p % 8 : Nat) : Int)), .v (.int .i64 ((nw : Nat) : Int)), .v (.int .i64 ((n - nw * 64 : Nat) : Int)), .v (.int .i64 (((n - nw * 64 + 7) / 8 : Nat) : Int)), .v (.int .u64 ((cur : Nat) : Int))]⟩, ⟨2, 30, [.v (.slice none 0 0)]⟩, ⟨1, 22, [.v (.slice none 0 0)]⟩] (by simp) (by simp only [dens, den, hr_])
  dsimp only at hR
  clear hr_
  obtain ⟨e10, hag_, hr_, hR_⟩ := hR.nilRow (L := [(10, .v (.int .i64 ((nw : Nat) : Int))), (9, .p 3 0), (8, .p 2 0), (7, .p 1 0), (6, .p 0 0)]) 5 (by kernel_rfl) 5 1
  replace hI := hI.agreeB (H := [⟨0, 29, [.row 4]⟩, ⟨3, 48, [.v (.slice (some q) ys.length cap'), .v (.int .i64 ((p % 8 : Nat) : Int)), .v (.int .i64 ((nw : Nat) : Int)), .v (.int .i64 ((n - nw * 64 : Nat) : Int)), .v (.int .i64 (((n - nw * 64 + 7) / 8 : Nat) : Int)), .v (.int .u64 ((cur : Nat) : Int))]⟩, ⟨2, 30, [.v (.slice none 0 0)]⟩, ⟨1, 22, [.v (.slice none 0 0)]⟩]) (G := [⟨4, 33, 1, 0, []⟩]) (by kernel_rfl) hag_; replace hR := hR_; clear hag_ hR_
  replace hR := hR.reblk (b := ⟨1, 22, [.v (.slice none 0 0)]⟩) (by simp) [.row 5] [⟨0, 29, [.row 4]⟩, ⟨3, 48, [.v (.slice (some q) ys.length cap'), .v (.int .i64 ((p % 8 : Nat) : Int)), .v (.int .i64 ((nw : Nat) : Int)), .v (.int .i64 ((n - nw * 64 : Nat) : Int)), .v (.int .i64 (((n - nw * 64 + 7) / 8 : Nat) : Int)), .v (.int .u64 ((cur : Nat) : Int))]⟩, ⟨2, 30, [.v (.slice none 0 0)]⟩] (by simp) (by simp only [dens, den, hr_])
  dsimp only at hR
  clear hr_
  obtain ⟨e11, hag_, hr_, hR_⟩ := hR.nilRow (L := [(10, .v (.int .i64 ((nw : Nat) : Int))), (9, .p 3 0), (8, .p 2 0), (7, .p 1 0), (6, .p 0 0)]) 6 (by kernel_rfl) 3 1
  replace hI := hI.agreeB (H := [⟨1, 22, [.row 5]⟩, ⟨0, 29, [.row 4]⟩, ⟨3, 48, [.v (.slice (some q) ys.length cap'), .v (.int .i64 ((p % 8 : Nat) : Int)), .v (.int .i64 ((nw : Nat) : Int)), .v (.int .i64 ((n - nw * 64 : Nat) : Int)), .v (.int .i64 (((n - nw * 64 + 7) / 8 : Nat) : Int)), .v (.int .u64 ((cur : Nat) : Int))]⟩, ⟨2, 30, [.v (.slice none 0 0)]⟩]) (G := [⟨5, 5, 1, 0, []⟩, ⟨4, 33, 1, 0, []⟩]) (by kernel_rfl) hag_; replace hR := hR_; clear hag_ hR_
  replace hR := hR.reblk (b := ⟨2, 30, [.v (.slice none 0 0)]⟩) (by simp) [.row 6] [⟨1, 22, [.row 5]⟩, ⟨0, 29, [.row 4]⟩, ⟨3, 48, [.v (.slice (some q) ys.length cap'), .v (.int .i64 ((p % 8 : Nat) : Int)), .v (.int .i64 ((nw : Nat) : Int)), .v (.int .i64 ((n - nw * 64 : Nat) : Int)), .v (.int .i64 (((n - nw * 64 + 7) / 8 : Nat) : Int)), .v (.int .u64 ((cur : Nat) : Int))]⟩] (by simp) (by simp only [dens, den, hr_])
  dsimp only at hR
  clear hr_
  replace hI := hI.re 10 (.v (.int .i64 ((nw - 0 : Nat) : Int))) rfl (congrArg (Value.int .i64) (rfl))
  refine lpM (γ := Nat × Nat × Nat × Addr × List Nat × List Nat) (fun (k, cur, cap', q, ys, ws) => (⟨[(6, .p 0 0), (7, .p 1 0), (8, .p 2 0), (9, .p 3 0), (10, .v (.int .i64 ((nw - k : Nat) : Int)))], [⟨0, 29, [.row 4]⟩, ⟨1, 22, [.row 5]⟩, ⟨2, 30, [.row 6]⟩, ⟨3, 48, [.v (.slice (some q) ys.length cap'), .v (.int .i64 ((p % 8 : Nat) : Int)), .v (.int .i64 ((nw : Nat) : Int)), .v (.int .i64 ((n - nw * 64 : Nat) : Int)), .v (.int .i64 (((n - nw * 64 + 7) / 8 : Nat) : Int)), .v (.int .u64 ((cur : Nat) : Int))]⟩], [⟨4, 33, 1, k, (ints .u64 ws)⟩, ⟨5, 5, 1, 0, (ints .u8 [])⟩, ⟨6, 3, 1, 0, (ints .i64 [])⟩], 7⟩ : Sy)) (fun (k, cur, cap', q, ys, ws) e C F wb => Sl .u8 256 C wb (some q) cap' ys ∧ k ≤ nw ∧ ys.length + 8 * k = (p % 8 + n + 7) / 8 ∧ (∀ i, i + 64 * k < p % 8 + n → bitN ys i = bitN xs (8 * (p / 8) + 64 * k + i)) ∧ (0 < nw → cur = le64 ys) ∧ cur % 256 = ys.getD 0 0 ∧ cur < 18446744073709551616 ∧ WordsOf xs ws p k) (fun (k, cur, cap', q, ys, ws) => nw - k) (0, cur, cap', q, ys, []) hB (⟨hy, Nat.zero_le _, hyl, fun i hi => hyb i hi, hcur, hcl, hcb, rfl, fun d h => (by cases h), fun a h => absurd h (Nat.not_lt_zero _)⟩)
      (hR.sel [0, 1, 2, 3] [4, 5, 6] (by kernel_rfl) (by kernel_rfl)) (hI.sel [6, 7, 8, 9, 10] (by kernel_rfl)) ?_
  clear hR hI hB
  rintro ⟨k, cur, cap', q, ys, ws⟩ e12 C12 F12 wb12 a12 w12 hB hp hR hI
  dsimp only at hp hR hI
  obtain ⟨hy, hkn, hyl, hyb, hcur, hcl, hcb, hW⟩ := hp; have hry := hy.room; have hmy := hy.max; have hgy := fun i => hy.get i (by decide)
  refine wp_seq ?_
  refine reg_seq tab (k := 7) (hs := []) (sy := []) (ks := [22, 6, 7, 8, 9, 10]) (bs := [0, 1, 2, 3]) (gs := [4, 5, 6])
      (L' := [(22, .v (.bool (decide (((nw - k : Nat) : Int) > (0 : Int))))), (6, .p 0 0), (7, .p 1 0), (8, .p 2 0), (9, .p 3 0), (10, .v (.int .i64 ((nw - k : Nat) : Int)))])
      (H' := [⟨0, 29, [.row 4]⟩, ⟨1, 22, [.row 5]⟩, ⟨2, 30, [.row 6]⟩, ⟨3, 48, [.v (.slice (some q) ys.length cap'), .v (.int .i64 ((p % 8 : Nat) : Int)), .v (.int .i64 ((nw : Nat) : Int)), .v (.int .i64 ((n - nw * 64 : Nat) : Int)), .v (.int .i64 (((n - nw * 64 + 7) / 8 : Nat) : Int)), .v (.int .u64 ((cur : Nat) : Int))]⟩]) (G' := [⟨4, 33, 1, k, (ints .u64 ws)⟩, ⟨5, 5, 1, 0, (ints .u8 [])⟩, ⟨6, 3, 1, 0, (ints .i64 [])⟩]) (k' := 7) hR hI (by kernel_rfl)
      .nil (fun e13 a13 w13 hag hR hI => ?_)
  refine cnd (b := decide (((nw - k : Nat) : Int) > (0 : Int))) hI (by kernel_rfl) (fun hc14 => ?_) (fun hc14 => ?_)
  · skip
    replace hI := hI.re 22 (.v (.bool true)) rfl (congrArg Value.bool hc14)
    try simp only [decide_eq_true_eq, decide_eq_false_iff_not, beq_iff_eq, bne_iff_ne, beq_eq_false_iff_ne, bne_eq_false_iff_eq, Bool.and_eq_true, Bool.and_eq_false_iff, Bool.or_eq_true, Bool.or_eq_false_iff, Bool.not_eq_true', Bool.not_eq_false', ne_eq] at hc14
    have hk1 : k < nw := by omega
    have hcu := hcur (by omega)
    have hc0 : 3 ≠ 0 := by decide
    have hb3 := (hR.blk ⟨3, 48, [.v (.slice (some q) ys.length cap'), .v (.int .i64 ((p % 8 : Nat) : Int)), .v (.int .i64 ((nw : Nat) : Int)), .v (.int .i64 ((n - nw * 64 : Nat) : Int)), .v (.int .i64 (((n - nw * 64 + 7) / 8 : Nat) : Int)), .v (.int .u64 ((cur : Nat) : Int))]⟩ (by simp)).2
    have hb30 : e13.b 3 ≠ 0 := fun he => hb3 (he ▸ hB.old 0 hw0)
    have hwc0 := Nat.lt_of_lt_of_le hw0 (hB.size hR)
    replace hR := hR.reblk (b := ⟨3, 48, [.v (.slice (some q) ys.length cap'), .v (.int .i64 ((p % 8 : Nat) : Int)), .v (.int .i64 ((nw : Nat) : Int)), .v (.int .i64 ((n - nw * 64 : Nat) : Int)), .v (.int .i64 (((n - nw * 64 + 7) / 8 : Nat) : Int)), .v (.int .u64 ((cur : Nat) : Int))]⟩) (by simp) [.v (.slice (some q) ys.length cap'), .v (.int .i64 ((p % 8 : Nat) : Int)), .v (.int .i64 ((nw : Nat) : Int)), .v (.int .i64 ((n - nw * 64 : Nat) : Int)), .v (.int .i64 (((n - nw * 64 + 7) / 8 : Nat) : Int)), .v (.int .u64 ((le64 ys : Nat) : Int))] [⟨0, 29, [.row 4]⟩, ⟨1, 22, [.row 5]⟩, ⟨2, 30, [.row 6]⟩] (by simp) (by simp only [dens, den, hcu])
    dsimp only at hR
    refine wp_skip ?_
    refine then_n ?_
    refine wp_seq ?_
    refine wp_block ?_
    refine regL 5 (hR.sel [0, 1, 2] [5, 6] (by kernel_rfl : selH _ _ = some [⟨0, 29, [.row 4]⟩, ⟨1, 22, [.row 5]⟩, ⟨2, 30, [.row 6]⟩]) (by kernel_rfl : selG _ _ = some [⟨5, 5, 1, 0, (ints .u8 [])⟩, ⟨6, 3, 1, 0, (ints .i64 [])⟩])) (by kernel_rfl) (fun hS => ?_)
    replace hR := hR.drew; have hF := hR.fore
    refine takeL tab (H := [⟨0, 29, [.row 4]⟩, ⟨1, 22, [.row 5]⟩, ⟨2, 30, [.row 6]⟩]) (G := [⟨5, 5, 1, 0, (ints .u8 [])⟩, ⟨6, 3, 1, 0, (ints .i64 [])⟩]) (hs := []) (gs := []) (is := [0, 1]) (ks := [26, 25, 6, 7, 8, 9, 10]) (f' := 4)
        (L' := [(26, .p 3 0), (25, .row 4), (6, .p 0 0), (7, .p 1 0), (8, .p 2 0), (9, .p 3 0), (10, .v (.int .i64 ((nw - k : Nat) : Int)))]) hS hI (by kernel_rfl) (fun _ _ _ _ _ h => h) (by kernel_rfl)
        .nil (by kernel_rfl) (by kernel_rfl) (by kernel_rfl) (by rfl) (fun a15 hI => ?_)
    refine oneL (i := 2) (f' := 3) (by kernel_rfl) (by rfl) ?_
    refine callH (ys := [.p 3 0]) hI rfl rfl ⟨_, rfl, rfl, rfl⟩ (by kernel_rfl) Try.func17 rfl rfl ?_
    have hblk_ := hR.blk ⟨3, 48, [.v (.slice (some q) ys.length cap'), .v (.int .i64 ((p % 8 : Nat) : Int)), .v (.int .i64 ((nw : Nat) : Int)), .v (.int .i64 ((n - nw * 64 : Nat) : Int)), .v (.int .i64 (((n - nw * 64 + 7) / 8 : Nat) : Int)), .v (.int .u64 ((le64 ys : Nat) : Int))]⟩ (by simp)
    refine (nextWord_spec (C := fun b => _ ∧ _) hblk_.1 (fun h => hblk_.2 h.2) (hy.now hB hR) (by omega) ho8 hwc0 hb30).mono ?_
    rintro ex w16 ⟨v, rfl, hk, hnew, hvb, hv⟩
    have hkF_ := hR.keepB (b := ⟨3, 48, [.v (.slice (some q) ys.length cap'), .v (.int .i64 ((p % 8 : Nat) : Int)), .v (.int .i64 ((nw : Nat) : Int)), .v (.int .i64 ((n - nw * 64 : Nat) : Int)), .v (.int .i64 (((n - nw * 64 + 7) / 8 : Nat) : Int)), .v (.int .u64 ((le64 ys : Nat) : Int))]⟩) (by simp) hk
    have hS_ := hS.heldB hk (fun x hx => by simp only [List.mem_cons, List.not_mem_nil, or_false] at hx; rcases hx with rfl | rfl | rfl <;> exact hR.hh _ (by simp) ⟨3, 48, [.v (.slice (some q) ys.length cap'), .v (.int .i64 ((p % 8 : Nat) : Int)), .v (.int .i64 ((nw : Nat) : Int)), .v (.int .i64 ((n - nw * 64 : Nat) : Int)), .v (.int .i64 (((n - nw * 64 + 7) / 8 : Nat) : Int)), .v (.int .u64 ((le64 ys : Nat) : Int))]⟩ (by simp) (Nat.ne_of_beq_eq_false rfl)) (fun y hy => hR.hg ⟨3, 48, [.v (.slice (some q) ys.length cap'), .v (.int .i64 ((p % 8 : Nat) : Int)), .v (.int .i64 ((nw : Nat) : Int)), .v (.int .i64 ((n - nw * 64 : Nat) : Int)), .v (.int .i64 (((n - nw * 64 + 7) / 8 : Nat) : Int)), .v (.int .u64 ((le64 ys : Nat) : Int))]⟩ (by simp) y (by simp at hy ⊢; simp [hy])) (fun hf => hblk_.2 (hF.sub _ hf))
    replace hy := hy.nextF hB hR hkF_
    have hB_ := hB.nextF hR hkF_
    replace hF := hF.growB hR hkF_; replace hS := hS_; clear hS_
    replace hR := hR.turned (b := ⟨3, 48, [.v (.slice (some q) ys.length cap'), .v (.int .i64 ((p % 8 : Nat) : Int)), .v (.int .i64 ((nw : Nat) : Int)), .v (.int .i64 ((n - nw * 64 : Nat) : Int)), .v (.int .i64 (((n - nw * 64 + 7) / 8 : Nat) : Int)), .v (.int .u64 ((le64 ys : Nat) : Int))]⟩) (by simp) [.v (.slice (some (q.add 8)) (ys.length - 8) (cap' - 8)), .v (.int .i64 ((p % 8 : Nat) : Int)), .v (.int .i64 ((nw : Nat) : Int)), .v (.int .i64 ((n - nw * 64 : Nat) : Int)), .v (.int .i64 (((n - nw * 64 + 7) / 8 : Nat) : Int)), .v (.int .u64 ((le64 (ys.drop 8) : Nat) : Int))] [⟨0, 29, [.row 4]⟩, ⟨1, 22, [.row 5]⟩, ⟨2, 30, [.row 6]⟩] (by simp) hk hnew
    dsimp only at hR; replace hB := hB_; clear hB_ hk hkF_ hblk_
    refine ⟨_, rfl, hS, ?_⟩
    replace hI := hI.put (d := some 27) (x := .v (.int .u64 ((v : Nat) : Int))) (by intro t ht; cases ht; decide) rfl
    replace hI := hI.sel [27, 26, 25, 6, 7, 8, 9, 10] (by kernel_rfl : sel _ _ = some [(27, .v (.int .u64 ((v : Nat) : Int))), (26, .p 3 0), (25, .row 4), (6, .p 0 0), (7, .p 1 0), (8, .p 2 0), (9, .p 3 0), (10, .v (.int .i64 ((nw - k : Nat) : Int)))])
    refine oneL (i := 3) (f' := 2) (by kernel_rfl) (by rfl) ?_
    refine effH tab (k := 7) (hh := .no) (r := ⟨.sl 7 0 1 1, [⟨7, 33, [.v (.int .u64 ((v : Nat) : Int))]⟩, ⟨3, 48, [.v (.slice (some (q.add 8)) (ys.length - 8) (cap' - 8)), .v (.int .i64 ((p % 8 : Nat) : Int)), .v (.int .i64 ((nw : Nat) : Int)), .v (.int .i64 ((n - nw * 64 : Nat) : Int)), .v (.int .i64 (((n - nw * 64 + 7) / 8 : Nat) : Int)), .v (.int .u64 ((le64 (ys.drop 8) : Nat) : Int))]⟩, ⟨0, 29, [.row 4]⟩, ⟨1, 22, [.row 5]⟩, ⟨2, 30, [.row 6]⟩], [⟨4, 33, 1, k, (ints .u64 ws)⟩, ⟨5, 5, 1, 0, (ints .u8 [])⟩, ⟨6, 3, 1, 0, (ints .i64 [])⟩], 8, _, false⟩) hR hI (by kernel_rfl) rfl rfl rfl (by kernel_rfl) .nil (fun e17 a17 w17 hag hR2 hI => ?_)
    replace hS := Rel.old (k := 7) hS hR hR2 hF hag [0, 1, 2] [5, 6] (by kernel_rfl) (by kernel_rfl) (by kernel_rfl); replace hR := hR2
    refine ⟨hS, ?_⟩
    refine wpL_env hag (by kernel_rfl) ?_
    replace hS := hS.agree (k := 7) (L := []) (Wf.of (by kernel_rfl)) hag
    replace hI := hI.sel [28, 27, 26, 25, 6, 7, 8, 9, 10] (by kernel_rfl : sel _ _ = some [(28, .sl 7 0 1 1), (27, .v (.int .u64 ((v : Nat) : Int))), (26, .p 3 0), (25, .row 4), (6, .p 0 0), (7, .p 1 0), (8, .p 2 0), (9, .p 3 0), (10, .v (.int .i64 ((nw - k : Nat) : Int)))])
    refine oneL (i := 4) (f' := 1) (by kernel_rfl) (by rfl) ?_
    refine effH tab (k := 8) (hh := .no) (r := ⟨.row 8, [⟨7, 33, [.v (.int .u64 ((v : Nat) : Int))]⟩, ⟨3, 48, [.v (.slice (some (q.add 8)) (ys.length - 8) (cap' - 8)), .v (.int .i64 ((p % 8 : Nat) : Int)), .v (.int .i64 ((nw : Nat) : Int)), .v (.int .i64 ((n - nw * 64 : Nat) : Int)), .v (.int .i64 (((n - nw * 64 + 7) / 8 : Nat) : Int)), .v (.int .u64 ((le64 (ys.drop 8) : Nat) : Int))]⟩, ⟨0, 29, [.row 4]⟩, ⟨1, 22, [.row 5]⟩, ⟨2, 30, [.row 6]⟩], [⟨8, 33, 1, (k + 1), ((ints .u64 ws) ++ [.int .u64 ((v : Nat) : Int)])⟩, ⟨5, 5, 1, 0, (ints .u8 [])⟩, ⟨6, 3, 1, 0, (ints .i64 [])⟩], 9, _, false⟩) hR hI (by kernel_rfl) rfl rfl rfl (by kernel_rfl) (.cons (by have hm_ : maxLen = 9223372036854775807 := rfl; rw [hm_]; omega : k + 1 ≤ maxLen) (.cons (by omega : (k + 1) * 8 ≤ 140737488355328) .nil)) (fun e18 a18 w18 hag hR2 hI => ?_)
    replace hS := Rel.old (k := 8) hS hR hR2 hF hag [0, 1, 2] [5, 6] (by kernel_rfl) (by kernel_rfl) (by kernel_rfl); replace hR := hR2
    refine ⟨hS, ?_⟩
    refine wpL_env hag (by kernel_rfl) ?_
    replace hS := hS.agree (k := 8) (L := []) (Wf.of (by kernel_rfl)) hag
    replace hI := hI.sel [29, 28, 27, 26, 25, 6, 7, 8, 9, 10] (by kernel_rfl : sel _ _ = some [(29, .row 8), (28, .sl 7 0 1 1), (27, .v (.int .u64 ((v : Nat) : Int))), (26, .p 3 0), (25, .row 4), (6, .p 0 0), (7, .p 1 0), (8, .p 2 0), (9, .p 3 0), (10, .v (.int .i64 ((nw - k : Nat) : Int)))])
    refine endL (i := 5) (f' := 0) (by kernel_rfl) (by rfl) (by kernel_rfl) ?_
    refine effH tab (k := 9) (hh := .no) (r := ⟨.v (undef), [⟨0, 29, [.row 8]⟩, ⟨7, 33, [.v (.int .u64 ((v : Nat) : Int))]⟩, ⟨3, 48, [.v (.slice (some (q.add 8)) (ys.length - 8) (cap' - 8)), .v (.int .i64 ((p % 8 : Nat) : Int)), .v (.int .i64 ((nw : Nat) : Int)), .v (.int .i64 ((n - nw * 64 : Nat) : Int)), .v (.int .i64 (((n - nw * 64 + 7) / 8 : Nat) : Int)), .v (.int .u64 ((le64 (ys.drop 8) : Nat) : Int))]⟩, ⟨1, 22, [.row 5]⟩, ⟨2, 30, [.row 6]⟩], [⟨8, 33, 1, (k + 1), ((ints .u64 ws) ++ [.int .u64 ((v : Nat) : Int)])⟩, ⟨5, 5, 1, 0, (ints .u8 [])⟩, ⟨6, 3, 1, 0, (ints .i64 [])⟩], 9, _, true⟩) hR hI (by kernel_rfl) rfl rfl rfl (by kernel_rfl) .nil (fun e19 a19 w19 hag hR2 hI => ?_)
    replace hR := hR2; clear hR2
    replace hI := hI.sel [29, 28, 27, 26, 25, 6, 7, 8, 9, 10] (by kernel_rfl : sel _ _ = some [(29, .row 8), (28, .sl 7 0 1 1), (27, .v (.int .u64 ((v : Nat) : Int))), (26, .p 3 0), (25, .row 4), (6, .p 0 0), (7, .p 1 0), (8, .p 2 0), (9, .p 3 0), (10, .v (.int .i64 ((nw - k : Nat) : Int)))])
    refine doneL (by kernel_rfl) ?_
    replace hI := hI.sel [6, 7, 8, 9, 10] (by kernel_rfl : sel _ _ = some [(6, .p 0 0), (7, .p 1 0), (8, .p 2 0), (9, .p 3 0), (10, .v (.int .i64 ((nw - k : Nat) : Int)))]); replace hR := hR.sel [0, 3, 1, 2] [8, 5, 6] (by kernel_rfl : selH _ _ = some [⟨0, 29, [.row 8]⟩, ⟨3, 48, [.v (.slice (some (q.add 8)) (ys.length - 8) (cap' - 8)), .v (.int .i64 ((p % 8 : Nat) : Int)), .v (.int .i64 ((nw : Nat) : Int)), .v (.int .i64 ((n - nw * 64 : Nat) : Int)), .v (.int .i64 (((n - nw * 64 + 7) / 8 : Nat) : Int)), .v (.int .u64 ((le64 (ys.drop 8) : Nat) : Int))]⟩, ⟨1, 22, [.row 5]⟩, ⟨2, 30, [.row 6]⟩]) (by kernel_rfl : selG _ _ = some [⟨8, 33, 1, (k + 1), ((ints .u64 ws) ++ [.int .u64 ((v : Nat) : Int)])⟩, ⟨5, 5, 1, 0, (ints .u8 [])⟩, ⟨6, 3, 1, 0, (ints .i64 [])⟩])
    refine normal_block ?_
    refine then_n ?_
    refine reg_all tab (k := 9) (hs := [(1, .eq (.int .i64 ((nw - (k + 1) : Nat) : Int)))]) (sy := []) (ks := [10, 6, 7, 8, 9]) (bs := [0, 3, 1, 2]) (gs := [8, 5, 6])
        (L' := [(10, .v (.int .i64 ((nw - (k + 1) : Nat) : Int))), (6, .p 0 0), (7, .p 1 0), (8, .p 2 0), (9, .p 3 0)])
        (H' := [⟨0, 29, [.row 8]⟩, ⟨3, 48, [.v (.slice (some (q.add 8)) (ys.length - 8) (cap' - 8)), .v (.int .i64 ((p % 8 : Nat) : Int)), .v (.int .i64 ((nw : Nat) : Int)), .v (.int .i64 ((n - nw * 64 : Nat) : Int)), .v (.int .i64 (((n - nw * 64 + 7) / 8 : Nat) : Int)), .v (.int .u64 ((le64 (ys.drop 8) : Nat) : Int))]⟩, ⟨1, 22, [.row 5]⟩, ⟨2, 30, [.row 6]⟩]) (G' := [⟨8, 33, 1, (k + 1), ((ints .u64 ws) ++ [.int .u64 ((v : Nat) : Int)])⟩, ⟨5, 5, 1, 0, (ints .u8 [])⟩, ⟨6, 3, 1, 0, (ints .i64 [])⟩]) (k' := 9) hR hI (by kernel_rfl)
        (.cons (congrArg (Value.int .i64) (by rw [wrap_inR (inR_i64 (by omega))]; omega : IntKind.i64.wrap (((nw - k : Nat) : Int) - (1 : Int)) = ((nw - (k + 1) : Nat) : Int))) .nil) (fun e20 a20 w20 hag hR hI => ?_)
    refine then_n ?_
    replace hR := hR.reblk (b := ⟨3, 48, [.v (.slice (some (q.add 8)) (ys.length - 8) (cap' - 8)), .v (.int .i64 ((p % 8 : Nat) : Int)), .v (.int .i64 ((nw : Nat) : Int)), .v (.int .i64 ((n - nw * 64 : Nat) : Int)), .v (.int .i64 (((n - nw * 64 + 7) / 8 : Nat) : Int)), .v (.int .u64 ((le64 (ys.drop 8) : Nat) : Int))]⟩) (by simp) [.v (.slice (some (q.add 8)) ((ys.drop 8).length) (cap' - 8)), .v (.int .i64 ((p % 8 : Nat) : Int)), .v (.int .i64 ((nw : Nat) : Int)), .v (.int .i64 ((n - nw * 64 : Nat) : Int)), .v (.int .i64 (((n - nw * 64 + 7) / 8 : Nat) : Int)), .v (.int .u64 ((le64 (ys.drop 8) : Nat) : Int))] [⟨0, 29, [.row 8]⟩, ⟨1, 22, [.row 5]⟩, ⟨2, 30, [.row 6]⟩] (by simp) (by simp only [dens, den, List.length_drop])
    dsimp only at hR
    rw [ints_snoc] at hR
    have hren_ : Sy.ren [(4, 8)] ⟨[(10, .v (.int .i64 ((nw - (k + 1) : Nat) : Int))), (6, .p 0 0), (7, .p 1 0), (8, .p 2 0), (9, .p 3 0)], [⟨3, 48, [.v (.slice (some (q.add 8)) ((ys.drop 8).length) (cap' - 8)), .v (.int .i64 ((p % 8 : Nat) : Int)), .v (.int .i64 ((nw : Nat) : Int)), .v (.int .i64 ((n - nw * 64 : Nat) : Int)), .v (.int .i64 (((n - nw * 64 + 7) / 8 : Nat) : Int)), .v (.int .u64 ((le64 (ys.drop 8) : Nat) : Int))]⟩, ⟨0, 29, [.row 4]⟩, ⟨1, 22, [.row 5]⟩, ⟨2, 30, [.row 6]⟩], [⟨4, 33, 1, (k + 1), (ints .u64 (ws ++ [v]))⟩, ⟨5, 5, 1, 0, (ints .u8 [])⟩, ⟨6, 3, 1, 0, (ints .i64 [])⟩], 0⟩ = ⟨[(10, .v (.int .i64 ((nw - (k + 1) : Nat) : Int))), (6, .p 0 0), (7, .p 1 0), (8, .p 2 0), (9, .p 3 0)], [⟨3, 48, [.v (.slice (some (q.add 8)) ((ys.drop 8).length) (cap' - 8)), .v (.int .i64 ((p % 8 : Nat) : Int)), .v (.int .i64 ((nw : Nat) : Int)), .v (.int .i64 ((n - nw * 64 : Nat) : Int)), .v (.int .i64 (((n - nw * 64 + 7) / 8 : Nat) : Int)), .v (.int .u64 ((le64 (ys.drop 8) : Nat) : Int))]⟩, ⟨0, 29, [.row 8]⟩, ⟨1, 22, [.row 5]⟩, ⟨2, 30, [.row 6]⟩], [⟨8, 33, 1, (k + 1), (ints .u64 (ws ++ [v]))⟩, ⟨5, 5, 1, 0, (ints .u8 [])⟩, ⟨6, 3, 1, 0, (ints .i64 [])⟩], 0⟩ := by kernel_rfl
    replace hI := hI.rename (S := ⟨[(10, .v (.int .i64 ((nw - (k + 1) : Nat) : Int))), (6, .p 0 0), (7, .p 1 0), (8, .p 2 0), (9, .p 3 0)], [⟨3, 48, [.v (.slice (some (q.add 8)) ((ys.drop 8).length) (cap' - 8)), .v (.int .i64 ((p % 8 : Nat) : Int)), .v (.int .i64 ((nw : Nat) : Int)), .v (.int .i64 ((n - nw * 64 : Nat) : Int)), .v (.int .i64 (((n - nw * 64 + 7) / 8 : Nat) : Int)), .v (.int .u64 ((le64 (ys.drop 8) : Nat) : Int))]⟩, ⟨0, 29, [.row 8]⟩, ⟨1, 22, [.row 5]⟩, ⟨2, 30, [.row 6]⟩], [⟨8, 33, 1, (k + 1), (ints .u64 (ws ++ [v]))⟩, ⟨5, 5, 1, 0, (ints .u8 [])⟩, ⟨6, 3, 1, 0, (ints .i64 [])⟩], 0⟩) (S' := ⟨[(10, .v (.int .i64 ((nw - (k + 1) : Nat) : Int))), (6, .p 0 0), (7, .p 1 0), (8, .p 2 0), (9, .p 3 0)], [⟨3, 48, [.v (.slice (some (q.add 8)) ((ys.drop 8).length) (cap' - 8)), .v (.int .i64 ((p % 8 : Nat) : Int)), .v (.int .i64 ((nw : Nat) : Int)), .v (.int .i64 ((n - nw * 64 : Nat) : Int)), .v (.int .i64 (((n - nw * 64 + 7) / 8 : Nat) : Int)), .v (.int .u64 ((le64 (ys.drop 8) : Nat) : Int))]⟩, ⟨0, 29, [.row 4]⟩, ⟨1, 22, [.row 5]⟩, ⟨2, 30, [.row 6]⟩], [⟨4, 33, 1, (k + 1), (ints .u64 (ws ++ [v]))⟩, ⟨5, 5, 1, 0, (ints .u8 [])⟩, ⟨6, 3, 1, 0, (ints .i64 [])⟩], 0⟩) hren_; replace hR := hR.rename (S := ⟨[(10, .v (.int .i64 ((nw - (k + 1) : Nat) : Int))), (6, .p 0 0), (7, .p 1 0), (8, .p 2 0), (9, .p 3 0)], [⟨3, 48, [.v (.slice (some (q.add 8)) ((ys.drop 8).length) (cap' - 8)), .v (.int .i64 ((p % 8 : Nat) : Int)), .v (.int .i64 ((nw : Nat) : Int)), .v (.int .i64 ((n - nw * 64 : Nat) : Int)), .v (.int .i64 (((n - nw * 64 + 7) / 8 : Nat) : Int)), .v (.int .u64 ((le64 (ys.drop 8) : Nat) : Int))]⟩, ⟨0, 29, [.row 8]⟩, ⟨1, 22, [.row 5]⟩, ⟨2, 30, [.row 6]⟩], [⟨8, 33, 1, (k + 1), (ints .u64 (ws ++ [v]))⟩, ⟨5, 5, 1, 0, (ints .u8 [])⟩, ⟨6, 3, 1, 0, (ints .i64 [])⟩], 0⟩) (S' := ⟨[(10, .v (.int .i64 ((nw - (k + 1) : Nat) : Int))), (6, .p 0 0), (7, .p 1 0), (8, .p 2 0), (9, .p 3 0)], [⟨3, 48, [.v (.slice (some (q.add 8)) ((ys.drop 8).length) (cap' - 8)), .v (.int .i64 ((p % 8 : Nat) : Int)), .v (.int .i64 ((nw : Nat) : Int)), .v (.int .i64 ((n - nw * 64 : Nat) : Int)), .v (.int .i64 (((n - nw * 64 + 7) / 8 : Nat) : Int)), .v (.int .u64 ((le64 (ys.drop 8) : Nat) : Int))]⟩, ⟨0, 29, [.row 4]⟩, ⟨1, 22, [.row 5]⟩, ⟨2, 30, [.row 6]⟩], [⟨4, 33, 1, (k + 1), (ints .u64 (ws ++ [v]))⟩, ⟨5, 5, 1, 0, (ints .u8 [])⟩, ⟨6, 3, 1, 0, (ints .i64 [])⟩], 0⟩) hren_ (by kernel_rfl) (by kernel_rfl); dsimp only at hI hR; clear hren_
    exact ⟨(k + 1, le64 (ys.drop 8), cap' - 8, q.add 8, ys.drop 8, ws ++ [v]), _, _, _, _, hB, ⟨hy.drop 8 (by omega), by omega, by rw [List.length_drop]; omega, fun i hi => by rw [bitN_drop, hyb _ (by omega)]; congr 1; omega, fun _ => rfl, le64_low (fun i => by rw [getD_drop0]; exact hgy _), le64_lt (fun i => by rw [getD_drop0]; exact hgy _), hW.next hvb hv (fun i hi => hyb i (by omega)) rfl⟩, (by (try dsimp only); omega), hR.sel [0, 1, 2, 3] [4, 5, 6] (by kernel_rfl) (by kernel_rfl), hI.sel [6, 7, 8, 9, 10] (by kernel_rfl)⟩
  · skip
    replace hI := hI.re 22 (.v (.bool false)) rfl (congrArg Value.bool hc14)
    try simp only [decide_eq_true_eq, decide_eq_false_iff_not, beq_iff_eq, bne_iff_ne, beq_eq_false_iff_ne, bne_eq_false_iff_eq, Bool.and_eq_true, Bool.and_eq_false_iff, Bool.or_eq_true, Bool.or_eq_false_iff, Bool.not_eq_true', Bool.not_eq_false', ne_eq] at hc14
    have hkw : k = nw := by omega
    have hG_ : ([⟨4, 33, 1, k, (ints .u64 ws)⟩, ⟨5, 5, 1, 0, (ints .u8 [])⟩, ⟨6, 3, 1, 0, (ints .i64 [])⟩] : List Row) = [⟨4, 33, 1, nw, (ints .u64 ws)⟩, ⟨5, 5, 1, 0, (ints .u8 [])⟩, ⟨6, 3, 1, 0, (ints .i64 [])⟩] := by rw [(hkw : (k : Nat) = nw)]
    rw [hG_] at hR; clear hG_
    rw [hkw] at hW
    refine wp_exit ?_
    refine exit_then ?_
    refine exit_then ?_
    refine exit_hit ?_
    refine then_n ?_
    refine wp_seq ?_
    refine wp_seq ?_
    refine reg (is := [0, 1, 2]) (by kernel_rfl) ?_
    refine part_ tab [0] [1, 2] (by rfl) (k := 7) (hs := []) (sy := []) (ks := [30, 6, 7, 8, 9]) (bs := [0, 1, 2, 3]) (gs := [4, 5, 6])
        (L' := [(30, .p 3 0), (6, .p 0 0), (7, .p 1 0), (8, .p 2 0), (9, .p 3 0)])
        (H' := [⟨0, 29, [.row 4]⟩, ⟨1, 22, [.row 5]⟩, ⟨2, 30, [.row 6]⟩, ⟨3, 48, [.v (.slice (some q) ys.length cap'), .v (.int .i64 ((p % 8 : Nat) : Int)), .v (.int .i64 ((nw : Nat) : Int)), .v (.int .i64 ((n - nw * 64 : Nat) : Int)), .v (.int .i64 (((n - nw * 64 + 7) / 8 : Nat) : Int)), .v (.int .u64 ((cur : Nat) : Int))]⟩]) (G' := [⟨4, 33, 1, nw, (ints .u64 ws)⟩, ⟨5, 5, 1, 0, (ints .u8 [])⟩, ⟨6, 3, 1, 0, (ints .i64 [])⟩]) (k' := 7) hR hI (by kernel_rfl)
        .nil (fun e21 a21 w21 hag hR hI => ?_)
    refine callOp (ys := [.p 3 0]) hI rfl rfl ⟨_, rfl, rfl, rfl⟩ (by kernel_rfl) Try.func18 rfl rfl ?_
    have hblk_ := hR.blk ⟨3, 48, [.v (.slice (some q) ys.length cap'), .v (.int .i64 ((p % 8 : Nat) : Int)), .v (.int .i64 ((nw : Nat) : Int)), .v (.int .i64 ((n - nw * 64 : Nat) : Int)), .v (.int .i64 (((n - nw * 64 + 7) / 8 : Nat) : Int)), .v (.int .u64 ((cur : Nat) : Int))]⟩ (by simp)
    refine (trailingBytes_spec (C := fun _ => False) hblk_.1 (fun h => h)).mono ?_
    rintro ex w22 ⟨rfl, hk, hnew⟩
    have hkF_ := hR.keepB (b := ⟨3, 48, [.v (.slice (some q) ys.length cap'), .v (.int .i64 ((p % 8 : Nat) : Int)), .v (.int .i64 ((nw : Nat) : Int)), .v (.int .i64 ((n - nw * 64 : Nat) : Int)), .v (.int .i64 (((n - nw * 64 + 7) / 8 : Nat) : Int)), .v (.int .u64 ((cur : Nat) : Int))]⟩) (by simp) hk
    replace hy := hy.nextF hB hR hkF_
    have hB_ := hB.nextF hR hkF_
    replace hR := hR.turned (b := ⟨3, 48, [.v (.slice (some q) ys.length cap'), .v (.int .i64 ((p % 8 : Nat) : Int)), .v (.int .i64 ((nw : Nat) : Int)), .v (.int .i64 ((n - nw * 64 : Nat) : Int)), .v (.int .i64 (((n - nw * 64 + 7) / 8 : Nat) : Int)), .v (.int .u64 ((cur : Nat) : Int))]⟩) (by simp) [.v (.slice (some q) ys.length cap'), .v (.int .i64 ((p % 8 : Nat) : Int)), .v (.int .i64 ((nw : Nat) : Int)), .v (.int .i64 ((n - nw * 64 : Nat) : Int)), .v (.int .i64 (((n - nw * 64 + 7) / 8 : Nat) : Int)), .v (.int .u64 ((cur : Nat) : Int))] [⟨0, 29, [.row 4]⟩, ⟨1, 22, [.row 5]⟩, ⟨2, 30, [.row 6]⟩] (by simp) hk hnew
    dsimp only at hR; replace hB := hB_; clear hB_ hk hkF_ hblk_
    refine ⟨_, rfl, ?_⟩
    replace hI := hI.put (d := some 31) (x := .v (.int .i64 (((n - nw * 64 + 7) / 8 : Nat) : Int))) (by intro t ht; cases ht; decide) rfl
    replace hI := hI.sel [31, 30, 6, 7, 8, 9] (by kernel_rfl : sel _ _ = some [(31, .v (.int .i64 (((n - nw * 64 + 7) / 8 : Nat) : Int))), (30, .p 3 0), (6, .p 0 0), (7, .p 1 0), (8, .p 2 0), (9, .p 3 0)])
    refine part_ tab [2] [] (by rfl) (k := 7) (hs := []) (sy := []) (ks := [11, 6, 7, 8, 9]) (bs := [3, 0, 1, 2]) (gs := [4, 5, 6])
        (L' := [(11, .v (.int .i64 (((n - nw * 64 + 7) / 8 : Nat) : Int))), (6, .p 0 0), (7, .p 1 0), (8, .p 2 0), (9, .p 3 0)])
        (H' := [⟨3, 48, [.v (.slice (some q) ys.length cap'), .v (.int .i64 ((p % 8 : Nat) : Int)), .v (.int .i64 ((nw : Nat) : Int)), .v (.int .i64 ((n - nw * 64 : Nat) : Int)), .v (.int .i64 (((n - nw * 64 + 7) / 8 : Nat) : Int)), .v (.int .u64 ((cur : Nat) : Int))]⟩, ⟨0, 29, [.row 4]⟩, ⟨1, 22, [.row 5]⟩, ⟨2, 30, [.row 6]⟩]) (G' := [⟨4, 33, 1, nw, (ints .u64 ws)⟩, ⟨5, 5, 1, 0, (ints .u8 [])⟩, ⟨6, 3, 1, 0, (ints .i64 [])⟩]) (k' := 7) hR hI (by kernel_rfl)
        .nil (fun e23 a23 w23 hag hR hI => ?_)
    refine ops_nil ?_
    refine then_n ?_
    refine wp_block ?_
    replace hI := hI.re 11 (.v (.int .i64 (((n - nw * 64 + 7) / 8 - 0 : Nat) : Int))) rfl (congrArg (Value.int .i64) (rfl))
    refine lpM (γ := Nat × Nat × Nat × Nat × Nat × Addr × List Nat × List Nat × List Nat) (fun (k, tb, tby, cur, cap', q, ys, rs, vs) => (⟨[(6, .p 0 0), (7, .p 1 0), (8, .p 2 0), (9, .p 3 0), (11, .v (.int .i64 (((n - nw * 64 + 7) / 8 - k : Nat) : Int)))], [⟨0, 29, [.row 4]⟩, ⟨1, 22, [.row 5]⟩, ⟨2, 30, [.row 6]⟩, ⟨3, 48, [.v (.slice (some q) ys.length cap'), .v (.int .i64 ((p % 8 : Nat) : Int)), .v (.int .i64 ((nw : Nat) : Int)), .v (.int .i64 ((tb : Nat) : Int)), .v (.int .i64 ((tby : Nat) : Int)), .v (.int .u64 ((cur : Nat) : Int))]⟩], [⟨4, 33, 1, nw, (ints .u64 ws)⟩, ⟨5, 5, 1, k, (ints .u8 rs)⟩, ⟨6, 3, 1, k, (ints .i64 vs)⟩], 7⟩ : Sy)) (fun (k, tb, tby, cur, cap', q, ys, rs, vs) e C F wb => Sl .u8 256 C wb (some q) cap' ys ∧ k ≤ (n - nw * 64 + 7) / 8 ∧ tb = n - nw * 64 - 8 * k ∧ (k < (n - nw * 64 + 7) / 8 → 0 < tb ∧ p % 8 + tb ≤ 8 * ys.length ∧ cur % 256 = ys.getD 0 0 ∧ tby = (tb + 7) / 8 ∧ ∀ i, i < p % 8 + tb → bitN ys i = bitN xs (p + 64 * nw - p % 8 + 8 * k + i)) ∧ ys.length ≤ 4096 ∧ cur < 18446744073709551616 ∧ BytesOf xs rs vs (p + 64 * nw) (n - nw * 64) k) (fun (k, tb, tby, cur, cap', q, ys, rs, vs) => (n - nw * 64 + 7) / 8 - k) (0, n - nw * 64, (n - nw * 64 + 7) / 8, cur, cap', q, ys, [], []) hB (⟨hy, Nat.zero_le _, rfl, fun _ => ⟨by omega, by omega, hcl, rfl, fun i hi => by rw [hyb i (by omega), hkw]; congr 1; omega⟩, by omega, hcb, rfl, rfl, fun d h => (by cases h), fun d h => (by cases h), fun a h => absurd h (Nat.not_lt_zero _)⟩)
        (hR.sel [0, 1, 2, 3] [4, 5, 6] (by kernel_rfl) (by kernel_rfl)) (hI.sel [6, 7, 8, 9, 11] (by kernel_rfl)) ?_
    clear hR hI hB
    rintro ⟨k, tb, tby, cur, cap', q, ys, rs, vs⟩ e24 C24 F24 wb24 a24 w24 hB hp hR hI
    dsimp only at hp hR hI
    obtain ⟨hy, hkt, htb, hgd0, hys, hcb, hBy⟩ := hp; have hry := hy.room; have hmy := hy.max
    refine wp_seq ?_
    refine reg_seq tab (k := 7) (hs := []) (sy := []) (ks := [33, 6, 7, 8, 9, 11]) (bs := [0, 1, 2, 3]) (gs := [4, 5, 6])
        (L' := [(33, .v (.bool (decide ((((n - nw * 64 + 7) / 8 - k : Nat) : Int) > (0 : Int))))), (6, .p 0 0), (7, .p 1 0), (8, .p 2 0), (9, .p 3 0), (11, .v (.int .i64 (((n - nw * 64 + 7) / 8 - k : Nat) : Int)))])
        (H' := [⟨0, 29, [.row 4]⟩, ⟨1, 22, [.row 5]⟩, ⟨2, 30, [.row 6]⟩, ⟨3, 48, [.v (.slice (some q) ys.length cap'), .v (.int .i64 ((p % 8 : Nat) : Int)), .v (.int .i64 ((nw : Nat) : Int)), .v (.int .i64 ((tb : Nat) : Int)), .v (.int .i64 ((tby : Nat) : Int)), .v (.int .u64 ((cur : Nat) : Int))]⟩]) (G' := [⟨4, 33, 1, nw, (ints .u64 ws)⟩, ⟨5, 5, 1, k, (ints .u8 rs)⟩, ⟨6, 3, 1, k, (ints .i64 vs)⟩]) (k' := 7) hR hI (by kernel_rfl)
        .nil (fun e25 a25 w25 hag hR hI => ?_)
    refine cnd (b := decide ((((n - nw * 64 + 7) / 8 - k : Nat) : Int) > (0 : Int))) hI (by kernel_rfl) (fun hc26 => ?_) (fun hc26 => ?_)
    · skip
      replace hI := hI.re 33 (.v (.bool true)) rfl (congrArg Value.bool hc26)
      try simp only [decide_eq_true_eq, decide_eq_false_iff_not, beq_iff_eq, bne_iff_ne, beq_eq_false_iff_ne, bne_eq_false_iff_eq, Bool.and_eq_true, Bool.and_eq_false_iff, Bool.or_eq_true, Bool.or_eq_false_iff, Bool.not_eq_true', Bool.not_eq_false', ne_eq] at hc26
      have hgd := hgd0 (by omega)
      refine wp_skip ?_
      refine then_n ?_
      refine wp_seq ?_
      refine wp_block ?_
      refine wp_seq ?_
      refine reg (is := [0, 1, 2, 3, 4, 5, 6]) (by kernel_rfl) ?_
      refine part_ tab [0] [1, 2, 3, 4, 5, 6] (by rfl) (k := 7) (hs := []) (sy := []) (ks := [37, 6, 7, 8, 9, 11]) (bs := [0, 1, 2, 3]) (gs := [4, 5, 6])
          (L' := [(37, .p 3 0), (6, .p 0 0), (7, .p 1 0), (8, .p 2 0), (9, .p 3 0), (11, .v (.int .i64 (((n - nw * 64 + 7) / 8 - k : Nat) : Int)))])
          (H' := [⟨0, 29, [.row 4]⟩, ⟨1, 22, [.row 5]⟩, ⟨2, 30, [.row 6]⟩, ⟨3, 48, [.v (.slice (some q) ys.length cap'), .v (.int .i64 ((p % 8 : Nat) : Int)), .v (.int .i64 ((nw : Nat) : Int)), .v (.int .i64 ((tb : Nat) : Int)), .v (.int .i64 ((tby : Nat) : Int)), .v (.int .u64 ((cur : Nat) : Int))]⟩]) (G' := [⟨4, 33, 1, nw, (ints .u64 ws)⟩, ⟨5, 5, 1, k, (ints .u8 rs)⟩, ⟨6, 3, 1, k, (ints .i64 vs)⟩]) (k' := 7) hR hI (by kernel_rfl)
          .nil (fun e27 a27 w27 hag hR hI => ?_)
      refine callOp (ys := [.p 3 0]) hI rfl rfl ⟨_, rfl, rfl, rfl⟩ (by kernel_rfl) Try.func19 rfl rfl ?_
      have hblk_ := hR.blk ⟨3, 48, [.v (.slice (some q) ys.length cap'), .v (.int .i64 ((p % 8 : Nat) : Int)), .v (.int .i64 ((nw : Nat) : Int)), .v (.int .i64 ((tb : Nat) : Int)), .v (.int .i64 ((tby : Nat) : Int)), .v (.int .u64 ((cur : Nat) : Int))]⟩ (by simp)
      refine (nextByte_spec (C := fun b => _ ∧ _) hblk_.1 (fun h => hblk_.2 h.2) (hy.now hB hR) hys hgd.1 hgd.2.1 ho8 (fun _ => hgd.2.2.1) hcb hgd.2.2.2.1).mono ?_
      rintro ex w28 ⟨v, j, c2, tby2, rfl, hk, hnew, hv, hj, hcb2, hvb, hj1⟩
      have hkF_ := hR.keepB (b := ⟨3, 48, [.v (.slice (some q) ys.length cap'), .v (.int .i64 ((p % 8 : Nat) : Int)), .v (.int .i64 ((nw : Nat) : Int)), .v (.int .i64 ((tb : Nat) : Int)), .v (.int .i64 ((tby : Nat) : Int)), .v (.int .u64 ((cur : Nat) : Int))]⟩) (by simp) hk
      replace hy := hy.nextF hB hR hkF_
      have hB_ := hB.nextF hR hkF_
      replace hR := hR.turned (b := ⟨3, 48, [.v (.slice (some q) ys.length cap'), .v (.int .i64 ((p % 8 : Nat) : Int)), .v (.int .i64 ((nw : Nat) : Int)), .v (.int .i64 ((tb : Nat) : Int)), .v (.int .i64 ((tby : Nat) : Int)), .v (.int .u64 ((cur : Nat) : Int))]⟩) (by simp) [.v (.slice (some (q.add j)) (ys.length - j) (cap' - j)), .v (.int .i64 ((p % 8 : Nat) : Int)), .v (.int .i64 ((nw : Nat) : Int)), .v (.int .i64 ((tb - 8 : Nat) : Int)), .v (.int .i64 ((tby2 : Nat) : Int)), .v (.int .u64 ((c2 : Nat) : Int))] [⟨0, 29, [.row 4]⟩, ⟨1, 22, [.row 5]⟩, ⟨2, 30, [.row 6]⟩] (by simp) hk hnew
      dsimp only at hR; replace hB := hB_; clear hB_ hk hkF_ hblk_
      refine ⟨_, rfl, ?_⟩
      replace hI := hI.put (d := some 38) (x := .v (.tuple #[.int .u8 ((v : Nat) : Int), .int .i64 ((min tb 8 : Nat) : Int)])) (by intro t ht; cases ht; decide) rfl
      replace hI := hI.sel [38, 37, 6, 7, 8, 9, 11] (by kernel_rfl : sel _ _ = some [(38, .v (.tuple #[.int .u8 ((v : Nat) : Int), .int .i64 ((min tb 8 : Nat) : Int)])), (37, .p 3 0), (6, .p 0 0), (7, .p 1 0), (8, .p 2 0), (9, .p 3 0), (11, .v (.int .i64 (((n - nw * 64 + 7) / 8 - k : Nat) : Int)))])
      refine part_ tab [2, 3, 4, 5, 6] [] (by rfl) (k := 7) (hs := []) (sy := []) (ks := [13, 12, 6, 7, 8, 9, 11]) (bs := [3, 0, 1, 2]) (gs := [4, 5, 6])
          (L' := [(13, .v (.int .i64 ((min tb 8 : Nat) : Int))), (12, .v (.int .u8 ((v : Nat) : Int))), (6, .p 0 0), (7, .p 1 0), (8, .p 2 0), (9, .p 3 0), (11, .v (.int .i64 (((n - nw * 64 + 7) / 8 - k : Nat) : Int)))])
          (H' := [⟨3, 48, [.v (.slice (some (q.add j)) (ys.length - j) (cap' - j)), .v (.int .i64 ((p % 8 : Nat) : Int)), .v (.int .i64 ((nw : Nat) : Int)), .v (.int .i64 ((tb - 8 : Nat) : Int)), .v (.int .i64 ((tby2 : Nat) : Int)), .v (.int .u64 ((c2 : Nat) : Int))]⟩, ⟨0, 29, [.row 4]⟩, ⟨1, 22, [.row 5]⟩, ⟨2, 30, [.row 6]⟩]) (G' := [⟨4, 33, 1, nw, (ints .u64 ws)⟩, ⟨5, 5, 1, k, (ints .u8 rs)⟩, ⟨6, 3, 1, k, (ints .i64 vs)⟩]) (k' := 7) hR hI (by kernel_rfl)
          .nil (fun e29 a29 w29 hag hR hI => ?_)
      refine ops_nil ?_
      refine then_n ?_
      refine regL 8 (hR.sel [3, 0, 1, 2] [4] (by kernel_rfl : selH _ _ = some [⟨3, 48, [.v (.slice (some (q.add j)) (ys.length - j) (cap' - j)), .v (.int .i64 ((p % 8 : Nat) : Int)), .v (.int .i64 ((nw : Nat) : Int)), .v (.int .i64 ((tb - 8 : Nat) : Int)), .v (.int .i64 ((tby2 : Nat) : Int)), .v (.int .u64 ((c2 : Nat) : Int))]⟩, ⟨0, 29, [.row 4]⟩, ⟨1, 22, [.row 5]⟩, ⟨2, 30, [.row 6]⟩]) (by kernel_rfl : selG _ _ = some [⟨4, 33, 1, nw, (ints .u64 ws)⟩])) (by kernel_rfl) (fun hS => ?_)
      replace hR := hR.drew; have hF := hR.fore
      refine takeC tab (H := [⟨3, 48, [.v (.slice (some (q.add j)) (ys.length - j) (cap' - j)), .v (.int .i64 ((p % 8 : Nat) : Int)), .v (.int .i64 ((nw : Nat) : Int)), .v (.int .i64 ((tb - 8 : Nat) : Int)), .v (.int .i64 ((tby2 : Nat) : Int)), .v (.int .u64 ((c2 : Nat) : Int))]⟩, ⟨0, 29, [.row 4]⟩, ⟨1, 22, [.row 5]⟩, ⟨2, 30, [.row 6]⟩]) (G := [⟨4, 33, 1, nw, (ints .u64 ws)⟩]) (hs := []) (gs := []) (is := [0, 1, 4, 5]) (ks := [46, 45, 42, 41, 6, 7, 8, 9, 11]) (f' := 6)
          (L' := [(46, .v (.int .i64 ((min tb 8 : Nat) : Int))), (45, .row 6), (42, .v (.int .u8 ((v : Nat) : Int))), (41, .row 5), (6, .p 0 0), (7, .p 1 0), (8, .p 2 0), (9, .p 3 0), (11, .v (.int .i64 (((n - nw * 64 + 7) / 8 - k : Nat) : Int)))]) hS hI (by kernel_rfl) (fun _ _ _ _ _ h => h) (by kernel_rfl)
          .nil (by kernel_rfl) (by kernel_rfl) (by kernel_rfl) (by kernel_rfl) (by rfl) (fun a30 hI => ?_)
      refine twoL (i := 2) (j := 6) (f' := 5) (by kernel_rfl) (by rfl) ?_ ?_
      · skip
        refine effH tab (k := 7) (hh := .no) (r := ⟨.sl 7 0 1 1, [⟨7, 5, [.v (.int .u8 ((v : Nat) : Int))]⟩, ⟨3, 48, [.v (.slice (some (q.add j)) (ys.length - j) (cap' - j)), .v (.int .i64 ((p % 8 : Nat) : Int)), .v (.int .i64 ((nw : Nat) : Int)), .v (.int .i64 ((tb - 8 : Nat) : Int)), .v (.int .i64 ((tby2 : Nat) : Int)), .v (.int .u64 ((c2 : Nat) : Int))]⟩, ⟨0, 29, [.row 4]⟩, ⟨1, 22, [.row 5]⟩, ⟨2, 30, [.row 6]⟩], [⟨4, 33, 1, nw, (ints .u64 ws)⟩, ⟨5, 5, 1, k, (ints .u8 rs)⟩, ⟨6, 3, 1, k, (ints .i64 vs)⟩], 8, _, false⟩) hR hI (by kernel_rfl) rfl rfl rfl (by kernel_rfl) .nil (fun e31 a31 w31 hag hR2 hI => ?_)
        replace hS := Rel.old (k := 7) hS hR hR2 hF hag [3, 0, 1, 2] [4] (by kernel_rfl) (by kernel_rfl) (by kernel_rfl); replace hR := hR2
        refine ⟨hS, ?_⟩
        refine wpL_env hag (by kernel_rfl) ?_
        replace hS := hS.agree (k := 7) (L := []) (Wf.of (by kernel_rfl)) hag
        replace hI := hI.sel [43, 46, 45, 42, 41, 6, 7, 8, 9, 11] (by kernel_rfl : sel _ _ = some [(43, .sl 7 0 1 1), (46, .v (.int .i64 ((min tb 8 : Nat) : Int))), (45, .row 6), (42, .v (.int .u8 ((v : Nat) : Int))), (41, .row 5), (6, .p 0 0), (7, .p 1 0), (8, .p 2 0), (9, .p 3 0), (11, .v (.int .i64 (((n - nw * 64 + 7) / 8 - k : Nat) : Int)))])
        refine twoL (i := 3) (j := 6) (f' := 4) (by kernel_rfl) (by rfl) ?_ ?_
        · skip
          refine effH tab (k := 8) (hh := .no) (r := ⟨.row 8, [⟨7, 5, [.v (.int .u8 ((v : Nat) : Int))]⟩, ⟨3, 48, [.v (.slice (some (q.add j)) (ys.length - j) (cap' - j)), .v (.int .i64 ((p % 8 : Nat) : Int)), .v (.int .i64 ((nw : Nat) : Int)), .v (.int .i64 ((tb - 8 : Nat) : Int)), .v (.int .i64 ((tby2 : Nat) : Int)), .v (.int .u64 ((c2 : Nat) : Int))]⟩, ⟨0, 29, [.row 4]⟩, ⟨1, 22, [.row 5]⟩, ⟨2, 30, [.row 6]⟩], [⟨8, 5, 1, (k + 1), ((ints .u8 rs) ++ [.int .u8 ((v : Nat) : Int)])⟩, ⟨4, 33, 1, nw, (ints .u64 ws)⟩, ⟨6, 3, 1, k, (ints .i64 vs)⟩], 9, _, false⟩) hR hI (by kernel_rfl) rfl rfl rfl (by kernel_rfl) (.cons (by have hm_ : maxLen = 9223372036854775807 := rfl; rw [hm_]; omega : k + 1 ≤ maxLen) (.cons (by omega : (k + 1) * 1 ≤ 140737488355328) .nil)) (fun e32 a32 w32 hag hR2 hI => ?_)
          replace hS := Rel.old (k := 8) hS hR hR2 hF hag [3, 0, 1, 2] [4] (by kernel_rfl) (by kernel_rfl) (by kernel_rfl); replace hR := hR2
          refine ⟨hS, ?_⟩
          refine wpL_env hag (by kernel_rfl) ?_
          replace hS := hS.agree (k := 8) (L := []) (Wf.of (by kernel_rfl)) hag
          replace hI := hI.sel [44, 43, 46, 45, 42, 41, 6, 7, 8, 9, 11] (by kernel_rfl : sel _ _ = some [(44, .row 8), (43, .sl 7 0 1 1), (46, .v (.int .i64 ((min tb 8 : Nat) : Int))), (45, .row 6), (42, .v (.int .u8 ((v : Nat) : Int))), (41, .row 5), (6, .p 0 0), (7, .p 1 0), (8, .p 2 0), (9, .p 3 0), (11, .v (.int .i64 (((n - nw * 64 + 7) / 8 - k : Nat) : Int)))])
          refine oneL (i := 6) (f' := 3) (by kernel_rfl) (by rfl) ?_
          refine effH tab (k := 9) (hh := .no) (r := ⟨.sl 9 0 1 1, [⟨9, 3, [.v (.int .i64 ((min tb 8 : Nat) : Int))]⟩, ⟨7, 5, [.v (.int .u8 ((v : Nat) : Int))]⟩, ⟨3, 48, [.v (.slice (some (q.add j)) (ys.length - j) (cap' - j)), .v (.int .i64 ((p % 8 : Nat) : Int)), .v (.int .i64 ((nw : Nat) : Int)), .v (.int .i64 ((tb - 8 : Nat) : Int)), .v (.int .i64 ((tby2 : Nat) : Int)), .v (.int .u64 ((c2 : Nat) : Int))]⟩, ⟨0, 29, [.row 4]⟩, ⟨1, 22, [.row 5]⟩, ⟨2, 30, [.row 6]⟩], [⟨8, 5, 1, (k + 1), ((ints .u8 rs) ++ [.int .u8 ((v : Nat) : Int)])⟩, ⟨4, 33, 1, nw, (ints .u64 ws)⟩, ⟨6, 3, 1, k, (ints .i64 vs)⟩], 10, _, false⟩) hR hI (by kernel_rfl) rfl rfl rfl (by kernel_rfl) .nil (fun e33 a33 w33 hag hR2 hI => ?_)
          replace hS := Rel.old (k := 9) hS hR hR2 hF hag [3, 0, 1, 2] [4] (by kernel_rfl) (by kernel_rfl) (by kernel_rfl); replace hR := hR2
          refine ⟨hS, ?_⟩
          refine wpL_env hag (by kernel_rfl) ?_
          replace hS := hS.agree (k := 9) (L := []) (Wf.of (by kernel_rfl)) hag
          replace hI := hI.sel [47, 44, 43, 46, 45, 42, 41, 6, 7, 8, 9, 11] (by kernel_rfl : sel _ _ = some [(47, .sl 9 0 1 1), (44, .row 8), (43, .sl 7 0 1 1), (46, .v (.int .i64 ((min tb 8 : Nat) : Int))), (45, .row 6), (42, .v (.int .u8 ((v : Nat) : Int))), (41, .row 5), (6, .p 0 0), (7, .p 1 0), (8, .p 2 0), (9, .p 3 0), (11, .v (.int .i64 (((n - nw * 64 + 7) / 8 - k : Nat) : Int)))])
          refine oneL (i := 7) (f' := 2) (by kernel_rfl) (by rfl) ?_
          refine effH tab (k := 10) (hh := .no) (r := ⟨.row 10, [⟨9, 3, [.v (.int .i64 ((min tb 8 : Nat) : Int))]⟩, ⟨7, 5, [.v (.int .u8 ((v : Nat) : Int))]⟩, ⟨3, 48, [.v (.slice (some (q.add j)) (ys.length - j) (cap' - j)), .v (.int .i64 ((p % 8 : Nat) : Int)), .v (.int .i64 ((nw : Nat) : Int)), .v (.int .i64 ((tb - 8 : Nat) : Int)), .v (.int .i64 ((tby2 : Nat) : Int)), .v (.int .u64 ((c2 : Nat) : Int))]⟩, ⟨0, 29, [.row 4]⟩, ⟨1, 22, [.row 5]⟩, ⟨2, 30, [.row 6]⟩], [⟨10, 3, 1, (k + 1), ((ints .i64 vs) ++ [.int .i64 ((min tb 8 : Nat) : Int)])⟩, ⟨8, 5, 1, (k + 1), ((ints .u8 rs) ++ [.int .u8 ((v : Nat) : Int)])⟩, ⟨4, 33, 1, nw, (ints .u64 ws)⟩], 11, _, false⟩) hR hI (by kernel_rfl) rfl rfl rfl (by kernel_rfl) (.cons (by have hm_ : maxLen = 9223372036854775807 := rfl; rw [hm_]; omega : k + 1 ≤ maxLen) (.cons (by omega : (k + 1) * 8 ≤ 140737488355328) .nil)) (fun e34 a34 w34 hag hR2 hI => ?_)
          replace hS := Rel.old (k := 10) hS hR hR2 hF hag [3, 0, 1, 2] [4] (by kernel_rfl) (by kernel_rfl) (by kernel_rfl); replace hR := hR2
          refine ⟨hS, ?_⟩
          refine wpL_env hag (by kernel_rfl) ?_
          replace hS := hS.agree (k := 10) (L := []) (Wf.of (by kernel_rfl)) hag
          replace hI := hI.sel [48, 47, 44, 43, 46, 45, 42, 41, 6, 7, 8, 9, 11] (by kernel_rfl : sel _ _ = some [(48, .row 10), (47, .sl 9 0 1 1), (44, .row 8), (43, .sl 7 0 1 1), (46, .v (.int .i64 ((min tb 8 : Nat) : Int))), (45, .row 6), (42, .v (.int .u8 ((v : Nat) : Int))), (41, .row 5), (6, .p 0 0), (7, .p 1 0), (8, .p 2 0), (9, .p 3 0), (11, .v (.int .i64 (((n - nw * 64 + 7) / 8 - k : Nat) : Int)))])
          refine endL (i := 8) (f' := 1) (by kernel_rfl) (by rfl) (by kernel_rfl) ?_
          refine effH tab (k := 11) (hh := .no) (r := ⟨.v (undef), [⟨1, 22, [.row 8]⟩, ⟨9, 3, [.v (.int .i64 ((min tb 8 : Nat) : Int))]⟩, ⟨7, 5, [.v (.int .u8 ((v : Nat) : Int))]⟩, ⟨3, 48, [.v (.slice (some (q.add j)) (ys.length - j) (cap' - j)), .v (.int .i64 ((p % 8 : Nat) : Int)), .v (.int .i64 ((nw : Nat) : Int)), .v (.int .i64 ((tb - 8 : Nat) : Int)), .v (.int .i64 ((tby2 : Nat) : Int)), .v (.int .u64 ((c2 : Nat) : Int))]⟩, ⟨0, 29, [.row 4]⟩, ⟨2, 30, [.row 6]⟩], [⟨10, 3, 1, (k + 1), ((ints .i64 vs) ++ [.int .i64 ((min tb 8 : Nat) : Int)])⟩, ⟨8, 5, 1, (k + 1), ((ints .u8 rs) ++ [.int .u8 ((v : Nat) : Int)])⟩, ⟨4, 33, 1, nw, (ints .u64 ws)⟩], 11, _, true⟩) hR hI (by kernel_rfl) rfl rfl rfl (by kernel_rfl) .nil (fun e35 a35 w35 hag hR2 hI => ?_)
          replace hR := hR2; clear hR2
          replace hI := hI.sel [48, 47, 44, 43, 46, 45, 42, 41, 6, 7, 8, 9, 11] (by kernel_rfl : sel _ _ = some [(48, .row 10), (47, .sl 9 0 1 1), (44, .row 8), (43, .sl 7 0 1 1), (46, .v (.int .i64 ((min tb 8 : Nat) : Int))), (45, .row 6), (42, .v (.int .u8 ((v : Nat) : Int))), (41, .row 5), (6, .p 0 0), (7, .p 1 0), (8, .p 2 0), (9, .p 3 0), (11, .v (.int .i64 (((n - nw * 64 + 7) / 8 - k : Nat) : Int)))])
          refine endL (i := 9) (f' := 0) (by kernel_rfl) (by rfl) (by kernel_rfl) ?_
          refine effH tab (k := 11) (hh := .no) (r := ⟨.v (undef), [⟨2, 30, [.row 10]⟩, ⟨1, 22, [.row 8]⟩, ⟨9, 3, [.v (.int .i64 ((min tb 8 : Nat) : Int))]⟩, ⟨7, 5, [.v (.int .u8 ((v : Nat) : Int))]⟩, ⟨3, 48, [.v (.slice (some (q.add j)) (ys.length - j) (cap' - j)), .v (.int .i64 ((p % 8 : Nat) : Int)), .v (.int .i64 ((nw : Nat) : Int)), .v (.int .i64 ((tb - 8 : Nat) : Int)), .v (.int .i64 ((tby2 : Nat) : Int)), .v (.int .u64 ((c2 : Nat) : Int))]⟩, ⟨0, 29, [.row 4]⟩], [⟨10, 3, 1, (k + 1), ((ints .i64 vs) ++ [.int .i64 ((min tb 8 : Nat) : Int)])⟩, ⟨8, 5, 1, (k + 1), ((ints .u8 rs) ++ [.int .u8 ((v : Nat) : Int)])⟩, ⟨4, 33, 1, nw, (ints .u64 ws)⟩], 11, _, true⟩) hR hI (by kernel_rfl) rfl rfl rfl (by kernel_rfl) .nil (fun e36 a36 w36 hag hR2 hI => ?_)
          replace hR := hR2; clear hR2
          replace hI := hI.sel [48, 47, 44, 43, 46, 45, 42, 41, 6, 7, 8, 9, 11] (by kernel_rfl : sel _ _ = some [(48, .row 10), (47, .sl 9 0 1 1), (44, .row 8), (43, .sl 7 0 1 1), (46, .v (.int .i64 ((min tb 8 : Nat) : Int))), (45, .row 6), (42, .v (.int .u8 ((v : Nat) : Int))), (41, .row 5), (6, .p 0 0), (7, .p 1 0), (8, .p 2 0), (9, .p 3 0), (11, .v (.int .i64 (((n - nw * 64 + 7) / 8 - k : Nat) : Int)))])
          refine doneL (by kernel_rfl) ?_
          replace hI := hI.sel [6, 7, 8, 9, 11] (by kernel_rfl : sel _ _ = some [(6, .p 0 0), (7, .p 1 0), (8, .p 2 0), (9, .p 3 0), (11, .v (.int .i64 (((n - nw * 64 + 7) / 8 - k : Nat) : Int)))]); replace hR := hR.sel [2, 1, 3, 0] [10, 8, 4] (by kernel_rfl : selH _ _ = some [⟨2, 30, [.row 10]⟩, ⟨1, 22, [.row 8]⟩, ⟨3, 48, [.v (.slice (some (q.add j)) (ys.length - j) (cap' - j)), .v (.int .i64 ((p % 8 : Nat) : Int)), .v (.int .i64 ((nw : Nat) : Int)), .v (.int .i64 ((tb - 8 : Nat) : Int)), .v (.int .i64 ((tby2 : Nat) : Int)), .v (.int .u64 ((c2 : Nat) : Int))]⟩, ⟨0, 29, [.row 4]⟩]) (by kernel_rfl : selG _ _ = some [⟨10, 3, 1, (k + 1), ((ints .i64 vs) ++ [.int .i64 ((min tb 8 : Nat) : Int)])⟩, ⟨8, 5, 1, (k + 1), ((ints .u8 rs) ++ [.int .u8 ((v : Nat) : Int)])⟩, ⟨4, 33, 1, nw, (ints .u64 ws)⟩])
          refine normal_block ?_
          refine then_n ?_
          refine reg_all tab (k := 11) (hs := [(1, .eq (.int .i64 (((n - nw * 64 + 7) / 8 - (k + 1) : Nat) : Int)))]) (sy := []) (ks := [11, 6, 7, 8, 9]) (bs := [2, 1, 3, 0]) (gs := [10, 8, 4])
              (L' := [(11, .v (.int .i64 (((n - nw * 64 + 7) / 8 - (k + 1) : Nat) : Int))), (6, .p 0 0), (7, .p 1 0), (8, .p 2 0), (9, .p 3 0)])
              (H' := [⟨2, 30, [.row 10]⟩, ⟨1, 22, [.row 8]⟩, ⟨3, 48, [.v (.slice (some (q.add j)) (ys.length - j) (cap' - j)), .v (.int .i64 ((p % 8 : Nat) : Int)), .v (.int .i64 ((nw : Nat) : Int)), .v (.int .i64 ((tb - 8 : Nat) : Int)), .v (.int .i64 ((tby2 : Nat) : Int)), .v (.int .u64 ((c2 : Nat) : Int))]⟩, ⟨0, 29, [.row 4]⟩]) (G' := [⟨10, 3, 1, (k + 1), ((ints .i64 vs) ++ [.int .i64 ((min tb 8 : Nat) : Int)])⟩, ⟨8, 5, 1, (k + 1), ((ints .u8 rs) ++ [.int .u8 ((v : Nat) : Int)])⟩, ⟨4, 33, 1, nw, (ints .u64 ws)⟩]) (k' := 11) hR hI (by kernel_rfl)
              (.cons (congrArg (Value.int .i64) (by rw [wrap_inR (inR_i64 (by omega))]; omega : IntKind.i64.wrap ((((n - nw * 64 + 7) / 8 - k : Nat) : Int) - (1 : Int)) = (((n - nw * 64 + 7) / 8 - (k + 1) : Nat) : Int))) .nil) (fun e37 a37 w37 hag hR hI => ?_)
          refine then_n ?_
          replace hR := hR.reblk (b := ⟨3, 48, [.v (.slice (some (q.add j)) (ys.length - j) (cap' - j)), .v (.int .i64 ((p % 8 : Nat) : Int)), .v (.int .i64 ((nw : Nat) : Int)), .v (.int .i64 ((tb - 8 : Nat) : Int)), .v (.int .i64 ((tby2 : Nat) : Int)), .v (.int .u64 ((c2 : Nat) : Int))]⟩) (by simp) [.v (.slice (some (q.add j)) ((ys.drop j).length) (cap' - j)), .v (.int .i64 ((p % 8 : Nat) : Int)), .v (.int .i64 ((nw : Nat) : Int)), .v (.int .i64 ((tb - 8 : Nat) : Int)), .v (.int .i64 ((tby2 : Nat) : Int)), .v (.int .u64 ((c2 : Nat) : Int))] [⟨2, 30, [.row 10]⟩, ⟨1, 22, [.row 8]⟩, ⟨0, 29, [.row 4]⟩] (by simp) (by simp only [dens, den, List.length_drop])
          dsimp only at hR
          rw [ints_snoc, ints_snoc] at hR
          have hren_ : Sy.ren [(5, 8), (6, 10)] ⟨[(11, .v (.int .i64 (((n - nw * 64 + 7) / 8 - (k + 1) : Nat) : Int))), (6, .p 0 0), (7, .p 1 0), (8, .p 2 0), (9, .p 3 0)], [⟨3, 48, [.v (.slice (some (q.add j)) ((ys.drop j).length) (cap' - j)), .v (.int .i64 ((p % 8 : Nat) : Int)), .v (.int .i64 ((nw : Nat) : Int)), .v (.int .i64 ((tb - 8 : Nat) : Int)), .v (.int .i64 ((tby2 : Nat) : Int)), .v (.int .u64 ((c2 : Nat) : Int))]⟩, ⟨2, 30, [.row 6]⟩, ⟨1, 22, [.row 5]⟩, ⟨0, 29, [.row 4]⟩], [⟨6, 3, 1, (k + 1), (ints .i64 (vs ++ [min tb 8]))⟩, ⟨5, 5, 1, (k + 1), (ints .u8 (rs ++ [v]))⟩, ⟨4, 33, 1, nw, (ints .u64 ws)⟩], 0⟩ = ⟨[(11, .v (.int .i64 (((n - nw * 64 + 7) / 8 - (k + 1) : Nat) : Int))), (6, .p 0 0), (7, .p 1 0), (8, .p 2 0), (9, .p 3 0)], [⟨3, 48, [.v (.slice (some (q.add j)) ((ys.drop j).length) (cap' - j)), .v (.int .i64 ((p % 8 : Nat) : Int)), .v (.int .i64 ((nw : Nat) : Int)), .v (.int .i64 ((tb - 8 : Nat) : Int)), .v (.int .i64 ((tby2 : Nat) : Int)), .v (.int .u64 ((c2 : Nat) : Int))]⟩, ⟨2, 30, [.row 10]⟩, ⟨1, 22, [.row 8]⟩, ⟨0, 29, [.row 4]⟩], [⟨10, 3, 1, (k + 1), (ints .i64 (vs ++ [min tb 8]))⟩, ⟨8, 5, 1, (k + 1), (ints .u8 (rs ++ [v]))⟩, ⟨4, 33, 1, nw, (ints .u64 ws)⟩], 0⟩ := by kernel_rfl
          replace hI := hI.rename (S := ⟨[(11, .v (.int .i64 (((n - nw * 64 + 7) / 8 - (k + 1) : Nat) : Int))), (6, .p 0 0), (7, .p 1 0), (8, .p 2 0), (9, .p 3 0)], [⟨3, 48, [.v (.slice (some (q.add j)) ((ys.drop j).length) (cap' - j)), .v (.int .i64 ((p % 8 : Nat) : Int)), .v (.int .i64 ((nw : Nat) : Int)), .v (.int .i64 ((tb - 8 : Nat) : Int)), .v (.int .i64 ((tby2 : Nat) : Int)), .v (.int .u64 ((c2 : Nat) : Int))]⟩, ⟨2, 30, [.row 10]⟩, ⟨1, 22, [.row 8]⟩, ⟨0, 29, [.row 4]⟩], [⟨10, 3, 1, (k + 1), (ints .i64 (vs ++ [min tb 8]))⟩, ⟨8, 5, 1, (k + 1), (ints .u8 (rs ++ [v]))⟩, ⟨4, 33, 1, nw, (ints .u64 ws)⟩], 0⟩) (S' := ⟨[(11, .v (.int .i64 (((n - nw * 64 + 7) / 8 - (k + 1) : Nat) : Int))), (6, .p 0 0), (7, .p 1 0), (8, .p 2 0), (9, .p 3 0)], [⟨3, 48, [.v (.slice (some (q.add j)) ((ys.drop j).length) (cap' - j)), .v (.int .i64 ((p % 8 : Nat) : Int)), .v (.int .i64 ((nw : Nat) : Int)), .v (.int .i64 ((tb - 8 : Nat) : Int)), .v (.int .i64 ((tby2 : Nat) : Int)), .v (.int .u64 ((c2 : Nat) : Int))]⟩, ⟨2, 30, [.row 6]⟩, ⟨1, 22, [.row 5]⟩, ⟨0, 29, [.row 4]⟩], [⟨6, 3, 1, (k + 1), (ints .i64 (vs ++ [min tb 8]))⟩, ⟨5, 5, 1, (k + 1), (ints .u8 (rs ++ [v]))⟩, ⟨4, 33, 1, nw, (ints .u64 ws)⟩], 0⟩) hren_; replace hR := hR.rename (S := ⟨[(11, .v (.int .i64 (((n - nw * 64 + 7) / 8 - (k + 1) : Nat) : Int))), (6, .p 0 0), (7, .p 1 0), (8, .p 2 0), (9, .p 3 0)], [⟨3, 48, [.v (.slice (some (q.add j)) ((ys.drop j).length) (cap' - j)), .v (.int .i64 ((p % 8 : Nat) : Int)), .v (.int .i64 ((nw : Nat) : Int)), .v (.int .i64 ((tb - 8 : Nat) : Int)), .v (.int .i64 ((tby2 : Nat) : Int)), .v (.int .u64 ((c2 : Nat) : Int))]⟩, ⟨2, 30, [.row 10]⟩, ⟨1, 22, [.row 8]⟩, ⟨0, 29, [.row 4]⟩], [⟨10, 3, 1, (k + 1), (ints .i64 (vs ++ [min tb 8]))⟩, ⟨8, 5, 1, (k + 1), (ints .u8 (rs ++ [v]))⟩, ⟨4, 33, 1, nw, (ints .u64 ws)⟩], 0⟩) (S' := ⟨[(11, .v (.int .i64 (((n - nw * 64 + 7) / 8 - (k + 1) : Nat) : Int))), (6, .p 0 0), (7, .p 1 0), (8, .p 2 0), (9, .p 3 0)], [⟨3, 48, [.v (.slice (some (q.add j)) ((ys.drop j).length) (cap' - j)), .v (.int .i64 ((p % 8 : Nat) : Int)), .v (.int .i64 ((nw : Nat) : Int)), .v (.int .i64 ((tb - 8 : Nat) : Int)), .v (.int .i64 ((tby2 : Nat) : Int)), .v (.int .u64 ((c2 : Nat) : Int))]⟩, ⟨2, 30, [.row 6]⟩, ⟨1, 22, [.row 5]⟩, ⟨0, 29, [.row 4]⟩], [⟨6, 3, 1, (k + 1), (ints .i64 (vs ++ [min tb 8]))⟩, ⟨5, 5, 1, (k + 1), (ints .u8 (rs ++ [v]))⟩, ⟨4, 33, 1, nw, (ints .u64 ws)⟩], 0⟩) hren_ (by kernel_rfl) (by kernel_rfl); dsimp only at hI hR; clear hren_
          exact ⟨(k + 1, tb - 8, tby2, c2, cap' - j, q.add j, ys.drop j, rs ++ [v], vs ++ [min tb 8]), _, _, _, _, hB, ⟨hy.drop j (by omega), by omega, by omega, fun h => by
                obtain ⟨q1, q2, q3⟩ := hj (by omega)
                subst q1
                exact ⟨by omega, by rw [List.length_drop]; omega, by rw [q3, getD_drop0], by omega, fun i hi => by rw [bitN_drop, hgd.2.2.2.2 _ (by omega)]; congr 1; omega⟩, by rw [List.length_drop]; omega, hcb2, htb ▸ hBy.next hvb (htb ▸ hv) (fun i hi => by rw [hgd.2.2.2.2 i (by omega)]) (by omega)⟩, (by (try dsimp only); omega), hR.sel [0, 1, 2, 3] [4, 5, 6] (by kernel_rfl) (by kernel_rfl), hI.sel [6, 7, 8, 9, 11] (by kernel_rfl)⟩
        · skip
          refine effH tab (k := 8) (hh := .no) (r := ⟨.sl 8 0 1 1, [⟨8, 3, [.v (.int .i64 ((min tb 8 : Nat) : Int))]⟩, ⟨7, 5, [.v (.int .u8 ((v : Nat) : Int))]⟩, ⟨3, 48, [.v (.slice (some (q.add j)) (ys.length - j) (cap' - j)), .v (.int .i64 ((p % 8 : Nat) : Int)), .v (.int .i64 ((nw : Nat) : Int)), .v (.int .i64 ((tb - 8 : Nat) : Int)), .v (.int .i64 ((tby2 : Nat) : Int)), .v (.int .u64 ((c2 : Nat) : Int))]⟩, ⟨0, 29, [.row 4]⟩, ⟨1, 22, [.row 5]⟩, ⟨2, 30, [.row 6]⟩], [⟨4, 33, 1, nw, (ints .u64 ws)⟩, ⟨5, 5, 1, k, (ints .u8 rs)⟩, ⟨6, 3, 1, k, (ints .i64 vs)⟩], 9, _, false⟩) hR hI (by kernel_rfl) rfl rfl rfl (by kernel_rfl) .nil (fun e38 a38 w38 hag hR2 hI => ?_)
          replace hS := Rel.old (k := 8) hS hR hR2 hF hag [3, 0, 1, 2] [4] (by kernel_rfl) (by kernel_rfl) (by kernel_rfl); replace hR := hR2
          refine ⟨hS, ?_⟩
          refine wpL_env hag (by kernel_rfl) ?_
          replace hS := hS.agree (k := 8) (L := []) (Wf.of (by kernel_rfl)) hag
          replace hI := hI.sel [47, 43, 46, 45, 42, 41, 6, 7, 8, 9, 11] (by kernel_rfl : sel _ _ = some [(47, .sl 8 0 1 1), (43, .sl 7 0 1 1), (46, .v (.int .i64 ((min tb 8 : Nat) : Int))), (45, .row 6), (42, .v (.int .u8 ((v : Nat) : Int))), (41, .row 5), (6, .p 0 0), (7, .p 1 0), (8, .p 2 0), (9, .p 3 0), (11, .v (.int .i64 (((n - nw * 64 + 7) / 8 - k : Nat) : Int)))])
          refine oneL (i := 3) (f' := 3) (by kernel_rfl) (by rfl) ?_
          refine effH tab (k := 9) (hh := .no) (r := ⟨.row 9, [⟨8, 3, [.v (.int .i64 ((min tb 8 : Nat) : Int))]⟩, ⟨7, 5, [.v (.int .u8 ((v : Nat) : Int))]⟩, ⟨3, 48, [.v (.slice (some (q.add j)) (ys.length - j) (cap' - j)), .v (.int .i64 ((p % 8 : Nat) : Int)), .v (.int .i64 ((nw : Nat) : Int)), .v (.int .i64 ((tb - 8 : Nat) : Int)), .v (.int .i64 ((tby2 : Nat) : Int)), .v (.int .u64 ((c2 : Nat) : Int))]⟩, ⟨0, 29, [.row 4]⟩, ⟨1, 22, [.row 5]⟩, ⟨2, 30, [.row 6]⟩], [⟨9, 5, 1, (k + 1), ((ints .u8 rs) ++ [.int .u8 ((v : Nat) : Int)])⟩, ⟨4, 33, 1, nw, (ints .u64 ws)⟩, ⟨6, 3, 1, k, (ints .i64 vs)⟩], 10, _, false⟩) hR hI (by kernel_rfl) rfl rfl rfl (by kernel_rfl) (.cons (by have hm_ : maxLen = 9223372036854775807 := rfl; rw [hm_]; omega : k + 1 ≤ maxLen) (.cons (by omega : (k + 1) * 1 ≤ 140737488355328) .nil)) (fun e39 a39 w39 hag hR2 hI => ?_)
          replace hS := Rel.old (k := 9) hS hR hR2 hF hag [3, 0, 1, 2] [4] (by kernel_rfl) (by kernel_rfl) (by kernel_rfl); replace hR := hR2
          refine ⟨hS, ?_⟩
          refine wpL_env hag (by kernel_rfl) ?_
          replace hS := hS.agree (k := 9) (L := []) (Wf.of (by kernel_rfl)) hag
          replace hI := hI.sel [44, 47, 43, 46, 45, 42, 41, 6, 7, 8, 9, 11] (by kernel_rfl : sel _ _ = some [(44, .row 9), (47, .sl 8 0 1 1), (43, .sl 7 0 1 1), (46, .v (.int .i64 ((min tb 8 : Nat) : Int))), (45, .row 6), (42, .v (.int .u8 ((v : Nat) : Int))), (41, .row 5), (6, .p 0 0), (7, .p 1 0), (8, .p 2 0), (9, .p 3 0), (11, .v (.int .i64 (((n - nw * 64 + 7) / 8 - k : Nat) : Int)))])
          refine oneL (i := 7) (f' := 2) (by kernel_rfl) (by rfl) ?_
          refine effH tab (k := 10) (hh := .no) (r := ⟨.row 10, [⟨8, 3, [.v (.int .i64 ((min tb 8 : Nat) : Int))]⟩, ⟨7, 5, [.v (.int .u8 ((v : Nat) : Int))]⟩, ⟨3, 48, [.v (.slice (some (q.add j)) (ys.length - j) (cap' - j)), .v (.int .i64 ((p % 8 : Nat) : Int)), .v (.int .i64 ((nw : Nat) : Int)), .v (.int .i64 ((tb - 8 : Nat) : Int)), .v (.int .i64 ((tby2 : Nat) : Int)), .v (.int .u64 ((c2 : Nat) : Int))]⟩, ⟨0, 29, [.row 4]⟩, ⟨1, 22, [.row 5]⟩, ⟨2, 30, [.row 6]⟩], [⟨10, 3, 1, (k + 1), ((ints .i64 vs) ++ [.int .i64 ((min tb 8 : Nat) : Int)])⟩, ⟨9, 5, 1, (k + 1), ((ints .u8 rs) ++ [.int .u8 ((v : Nat) : Int)])⟩, ⟨4, 33, 1, nw, (ints .u64 ws)⟩], 11, _, false⟩) hR hI (by kernel_rfl) rfl rfl rfl (by kernel_rfl) (.cons (by have hm_ : maxLen = 9223372036854775807 := rfl; rw [hm_]; omega : k + 1 ≤ maxLen) (.cons (by omega : (k + 1) * 8 ≤ 140737488355328) .nil)) (fun e40 a40 w40 hag hR2 hI => ?_)
          replace hS := Rel.old (k := 10) hS hR hR2 hF hag [3, 0, 1, 2] [4] (by kernel_rfl) (by kernel_rfl) (by kernel_rfl); replace hR := hR2
          refine ⟨hS, ?_⟩
          refine wpL_env hag (by kernel_rfl) ?_
          replace hS := hS.agree (k := 10) (L := []) (Wf.of (by kernel_rfl)) hag
          replace hI := hI.sel [48, 44, 47, 43, 46, 45, 42, 41, 6, 7, 8, 9, 11] (by kernel_rfl : sel _ _ = some [(48, .row 10), (44, .row 9), (47, .sl 8 0 1 1), (43, .sl 7 0 1 1), (46, .v (.int .i64 ((min tb 8 : Nat) : Int))), (45, .row 6), (42, .v (.int .u8 ((v : Nat) : Int))), (41, .row 5), (6, .p 0 0), (7, .p 1 0), (8, .p 2 0), (9, .p 3 0), (11, .v (.int .i64 (((n - nw * 64 + 7) / 8 - k : Nat) : Int)))])
          refine endL (i := 8) (f' := 1) (by kernel_rfl) (by rfl) (by kernel_rfl) ?_
          refine effH tab (k := 11) (hh := .no) (r := ⟨.v (undef), [⟨1, 22, [.row 9]⟩, ⟨8, 3, [.v (.int .i64 ((min tb 8 : Nat) : Int))]⟩, ⟨7, 5, [.v (.int .u8 ((v : Nat) : Int))]⟩, ⟨3, 48, [.v (.slice (some (q.add j)) (ys.length - j) (cap' - j)), .v (.int .i64 ((p % 8 : Nat) : Int)), .v (.int .i64 ((nw : Nat) : Int)), .v (.int .i64 ((tb - 8 : Nat) : Int)), .v (.int .i64 ((tby2 : Nat) : Int)), .v (.int .u64 ((c2 : Nat) : Int))]⟩, ⟨0, 29, [.row 4]⟩, ⟨2, 30, [.row 6]⟩], [⟨10, 3, 1, (k + 1), ((ints .i64 vs) ++ [.int .i64 ((min tb 8 : Nat) : Int)])⟩, ⟨9, 5, 1, (k + 1), ((ints .u8 rs) ++ [.int .u8 ((v : Nat) : Int)])⟩, ⟨4, 33, 1, nw, (ints .u64 ws)⟩], 11, _, true⟩) hR hI (by kernel_rfl) rfl rfl rfl (by kernel_rfl) .nil (fun e41 a41 w41 hag hR2 hI => ?_)
          replace hR := hR2; clear hR2
          replace hI := hI.sel [48, 44, 47, 43, 46, 45, 42, 41, 6, 7, 8, 9, 11] (by kernel_rfl : sel _ _ = some [(48, .row 10), (44, .row 9), (47, .sl 8 0 1 1), (43, .sl 7 0 1 1), (46, .v (.int .i64 ((min tb 8 : Nat) : Int))), (45, .row 6), (42, .v (.int .u8 ((v : Nat) : Int))), (41, .row 5), (6, .p 0 0), (7, .p 1 0), (8, .p 2 0), (9, .p 3 0), (11, .v (.int .i64 (((n - nw * 64 + 7) / 8 - k : Nat) : Int)))])
          refine endL (i := 9) (f' := 0) (by kernel_rfl) (by rfl) (by kernel_rfl) ?_
          refine effH tab (k := 11) (hh := .no) (r := ⟨.v (undef), [⟨2, 30, [.row 10]⟩, ⟨1, 22, [.row 9]⟩, ⟨8, 3, [.v (.int .i64 ((min tb 8 : Nat) : Int))]⟩, ⟨7, 5, [.v (.int .u8 ((v : Nat) : Int))]⟩, ⟨3, 48, [.v (.slice (some (q.add j)) (ys.length - j) (cap' - j)), .v (.int .i64 ((p % 8 : Nat) : Int)), .v (.int .i64 ((nw : Nat) : Int)), .v (.int .i64 ((tb - 8 : Nat) : Int)), .v (.int .i64 ((tby2 : Nat) : Int)), .v (.int .u64 ((c2 : Nat) : Int))]⟩, ⟨0, 29, [.row 4]⟩], [⟨10, 3, 1, (k + 1), ((ints .i64 vs) ++ [.int .i64 ((min tb 8 : Nat) : Int)])⟩, ⟨9, 5, 1, (k + 1), ((ints .u8 rs) ++ [.int .u8 ((v : Nat) : Int)])⟩, ⟨4, 33, 1, nw, (ints .u64 ws)⟩], 11, _, true⟩) hR hI (by kernel_rfl) rfl rfl rfl (by kernel_rfl) .nil (fun e42 a42 w42 hag hR2 hI => ?_)
          replace hR := hR2; clear hR2
          replace hI := hI.sel [48, 44, 47, 43, 46, 45, 42, 41, 6, 7, 8, 9, 11] (by kernel_rfl : sel _ _ = some [(48, .row 10), (44, .row 9), (47, .sl 8 0 1 1), (43, .sl 7 0 1 1), (46, .v (.int .i64 ((min tb 8 : Nat) : Int))), (45, .row 6), (42, .v (.int .u8 ((v : Nat) : Int))), (41, .row 5), (6, .p 0 0), (7, .p 1 0), (8, .p 2 0), (9, .p 3 0), (11, .v (.int .i64 (((n - nw * 64 + 7) / 8 - k : Nat) : Int)))])
          refine doneL (by kernel_rfl) ?_
          replace hI := hI.sel [6, 7, 8, 9, 11] (by kernel_rfl : sel _ _ = some [(6, .p 0 0), (7, .p 1 0), (8, .p 2 0), (9, .p 3 0), (11, .v (.int .i64 (((n - nw * 64 + 7) / 8 - k : Nat) : Int)))]); replace hR := hR.sel [2, 1, 3, 0] [10, 9, 4] (by kernel_rfl : selH _ _ = some [⟨2, 30, [.row 10]⟩, ⟨1, 22, [.row 9]⟩, ⟨3, 48, [.v (.slice (some (q.add j)) (ys.length - j) (cap' - j)), .v (.int .i64 ((p % 8 : Nat) : Int)), .v (.int .i64 ((nw : Nat) : Int)), .v (.int .i64 ((tb - 8 : Nat) : Int)), .v (.int .i64 ((tby2 : Nat) : Int)), .v (.int .u64 ((c2 : Nat) : Int))]⟩, ⟨0, 29, [.row 4]⟩]) (by kernel_rfl : selG _ _ = some [⟨10, 3, 1, (k + 1), ((ints .i64 vs) ++ [.int .i64 ((min tb 8 : Nat) : Int)])⟩, ⟨9, 5, 1, (k + 1), ((ints .u8 rs) ++ [.int .u8 ((v : Nat) : Int)])⟩, ⟨4, 33, 1, nw, (ints .u64 ws)⟩])
          refine normal_block ?_
          refine then_n ?_
          refine reg_all tab (k := 11) (hs := [(1, .eq (.int .i64 (((n - nw * 64 + 7) / 8 - (k + 1) : Nat) : Int)))]) (sy := []) (ks := [11, 6, 7, 8, 9]) (bs := [2, 1, 3, 0]) (gs := [10, 9, 4])
              (L' := [(11, .v (.int .i64 (((n - nw * 64 + 7) / 8 - (k + 1) : Nat) : Int))), (6, .p 0 0), (7, .p 1 0), (8, .p 2 0), (9, .p 3 0)])
              (H' := [⟨2, 30, [.row 10]⟩, ⟨1, 22, [.row 9]⟩, ⟨3, 48, [.v (.slice (some (q.add j)) (ys.length - j) (cap' - j)), .v (.int .i64 ((p % 8 : Nat) : Int)), .v (.int .i64 ((nw : Nat) : Int)), .v (.int .i64 ((tb - 8 : Nat) : Int)), .v (.int .i64 ((tby2 : Nat) : Int)), .v (.int .u64 ((c2 : Nat) : Int))]⟩, ⟨0, 29, [.row 4]⟩]) (G' := [⟨10, 3, 1, (k + 1), ((ints .i64 vs) ++ [.int .i64 ((min tb 8 : Nat) : Int)])⟩, ⟨9, 5, 1, (k + 1), ((ints .u8 rs) ++ [.int .u8 ((v : Nat) : Int)])⟩, ⟨4, 33, 1, nw, (ints .u64 ws)⟩]) (k' := 11) hR hI (by kernel_rfl)
              (.cons (congrArg (Value.int .i64) (by rw [wrap_inR (inR_i64 (by omega))]; omega : IntKind.i64.wrap ((((n - nw * 64 + 7) / 8 - k : Nat) : Int) - (1 : Int)) = (((n - nw * 64 + 7) / 8 - (k + 1) : Nat) : Int))) .nil) (fun e43 a43 w43 hag hR hI => ?_)
          refine then_n ?_
          replace hR := hR.reblk (b := ⟨3, 48, [.v (.slice (some (q.add j)) (ys.length - j) (cap' - j)), .v (.int .i64 ((p % 8 : Nat) : Int)), .v (.int .i64 ((nw : Nat) : Int)), .v (.int .i64 ((tb - 8 : Nat) : Int)), .v (.int .i64 ((tby2 : Nat) : Int)), .v (.int .u64 ((c2 : Nat) : Int))]⟩) (by simp) [.v (.slice (some (q.add j)) ((ys.drop j).length) (cap' - j)), .v (.int .i64 ((p % 8 : Nat) : Int)), .v (.int .i64 ((nw : Nat) : Int)), .v (.int .i64 ((tb - 8 : Nat) : Int)), .v (.int .i64 ((tby2 : Nat) : Int)), .v (.int .u64 ((c2 : Nat) : Int))] [⟨2, 30, [.row 10]⟩, ⟨1, 22, [.row 9]⟩, ⟨0, 29, [.row 4]⟩] (by simp) (by simp only [dens, den, List.length_drop])
          dsimp only at hR
          rw [ints_snoc, ints_snoc] at hR
          have hren_ : Sy.ren [(5, 9), (6, 10)] ⟨[(11, .v (.int .i64 (((n - nw * 64 + 7) / 8 - (k + 1) : Nat) : Int))), (6, .p 0 0), (7, .p 1 0), (8, .p 2 0), (9, .p 3 0)], [⟨3, 48, [.v (.slice (some (q.add j)) ((ys.drop j).length) (cap' - j)), .v (.int .i64 ((p % 8 : Nat) : Int)), .v (.int .i64 ((nw : Nat) : Int)), .v (.int .i64 ((tb - 8 : Nat) : Int)), .v (.int .i64 ((tby2 : Nat) : Int)), .v (.int .u64 ((c2 : Nat) : Int))]⟩, ⟨2, 30, [.row 6]⟩, ⟨1, 22, [.row 5]⟩, ⟨0, 29, [.row 4]⟩], [⟨6, 3, 1, (k + 1), (ints .i64 (vs ++ [min tb 8]))⟩, ⟨5, 5, 1, (k + 1), (ints .u8 (rs ++ [v]))⟩, ⟨4, 33, 1, nw, (ints .u64 ws)⟩], 0⟩ = ⟨[(11, .v (.int .i64 (((n - nw * 64 + 7) / 8 - (k + 1) : Nat) : Int))), (6, .p 0 0), (7, .p 1 0), (8, .p 2 0), (9, .p 3 0)], [⟨3, 48, [.v (.slice (some (q.add j)) ((ys.drop j).length) (cap' - j)), .v (.int .i64 ((p % 8 : Nat) : Int)), .v (.int .i64 ((nw : Nat) : Int)), .v (.int .i64 ((tb - 8 : Nat) : Int)), .v (.int .i64 ((tby2 : Nat) : Int)), .v (.int .u64 ((c2 : Nat) : Int))]⟩, ⟨2, 30, [.row 10]⟩, ⟨1, 22, [.row 9]⟩, ⟨0, 29, [.row 4]⟩], [⟨10, 3, 1, (k + 1), (ints .i64 (vs ++ [min tb 8]))⟩, ⟨9, 5, 1, (k + 1), (ints .u8 (rs ++ [v]))⟩, ⟨4, 33, 1, nw, (ints .u64 ws)⟩], 0⟩ := by kernel_rfl
          replace hI := hI.rename (S := ⟨[(11, .v (.int .i64 (((n - nw * 64 + 7) / 8 - (k + 1) : Nat) : Int))), (6, .p 0 0), (7, .p 1 0), (8, .p 2 0), (9, .p 3 0)], [⟨3, 48, [.v (.slice (some (q.add j)) ((ys.drop j).length) (cap' - j)), .v (.int .i64 ((p % 8 : Nat) : Int)), .v (.int .i64 ((nw : Nat) : Int)), .v (.int .i64 ((tb - 8 : Nat) : Int)), .v (.int .i64 ((tby2 : Nat) : Int)), .v (.int .u64 ((c2 : Nat) : Int))]⟩, ⟨2, 30, [.row 10]⟩, ⟨1, 22, [.row 9]⟩, ⟨0, 29, [.row 4]⟩], [⟨10, 3, 1, (k + 1), (ints .i64 (vs ++ [min tb 8]))⟩, ⟨9, 5, 1, (k + 1), (ints .u8 (rs ++ [v]))⟩, ⟨4, 33, 1, nw, (ints .u64 ws)⟩], 0⟩) (S' := ⟨[(11, .v (.int .i64 (((n - nw * 64 + 7) / 8 - (k + 1) : Nat) : Int))), (6, .p 0 0), (7, .p 1 0), (8, .p 2 0), (9, .p 3 0)], [⟨3, 48, [.v (.slice (some (q.add j)) ((ys.drop j).length) (cap' - j)), .v (.int .i64 ((p % 8 : Nat) : Int)), .v (.int .i64 ((nw : Nat) : Int)), .v (.int .i64 ((tb - 8 : Nat) : Int)), .v (.int .i64 ((tby2 : Nat) : Int)), .v (.int .u64 ((c2 : Nat) : Int))]⟩, ⟨2, 30, [.row 6]⟩, ⟨1, 22, [.row 5]⟩, ⟨0, 29, [.row 4]⟩], [⟨6, 3, 1, (k + 1), (ints .i64 (vs ++ [min tb 8]))⟩, ⟨5, 5, 1, (k + 1), (ints .u8 (rs ++ [v]))⟩, ⟨4, 33, 1, nw, (ints .u64 ws)⟩], 0⟩) hren_; replace hR := hR.rename (S := ⟨[(11, .v (.int .i64 (((n - nw * 64 + 7) / 8 - (k + 1) : Nat) : Int))), (6, .p 0 0), (7, .p 1 0), (8, .p 2 0), (9, .p 3 0)], [⟨3, 48, [.v (.slice (some (q.add j)) ((ys.drop j).length) (cap' - j)), .v (.int .i64 ((p % 8 : Nat) : Int)), .v (.int .i64 ((nw : Nat) : Int)), .v (.int .i64 ((tb - 8 : Nat) : Int)), .v (.int .i64 ((tby2 : Nat) : Int)), .v (.int .u64 ((c2 : Nat) : Int))]⟩, ⟨2, 30, [.row 10]⟩, ⟨1, 22, [.row 9]⟩, ⟨0, 29, [.row 4]⟩], [⟨10, 3, 1, (k + 1), (ints .i64 (vs ++ [min tb 8]))⟩, ⟨9, 5, 1, (k + 1), (ints .u8 (rs ++ [v]))⟩, ⟨4, 33, 1, nw, (ints .u64 ws)⟩], 0⟩) (S' := ⟨[(11, .v (.int .i64 (((n - nw * 64 + 7) / 8 - (k + 1) : Nat) : Int))), (6, .p 0 0), (7, .p 1 0), (8, .p 2 0), (9, .p 3 0)], [⟨3, 48, [.v (.slice (some (q.add j)) ((ys.drop j).length) (cap' - j)), .v (.int .i64 ((p % 8 : Nat) : Int)), .v (.int .i64 ((nw : Nat) : Int)), .v (.int .i64 ((tb - 8 : Nat) : Int)), .v (.int .i64 ((tby2 : Nat) : Int)), .v (.int .u64 ((c2 : Nat) : Int))]⟩, ⟨2, 30, [.row 6]⟩, ⟨1, 22, [.row 5]⟩, ⟨0, 29, [.row 4]⟩], [⟨6, 3, 1, (k + 1), (ints .i64 (vs ++ [min tb 8]))⟩, ⟨5, 5, 1, (k + 1), (ints .u8 (rs ++ [v]))⟩, ⟨4, 33, 1, nw, (ints .u64 ws)⟩], 0⟩) hren_ (by kernel_rfl) (by kernel_rfl); dsimp only at hI hR; clear hren_
          exact ⟨(k + 1, tb - 8, tby2, c2, cap' - j, q.add j, ys.drop j, rs ++ [v], vs ++ [min tb 8]), _, _, _, _, hB, ⟨hy.drop j (by omega), by omega, by omega, fun h => by
                obtain ⟨q1, q2, q3⟩ := hj (by omega)
                subst q1
                exact ⟨by omega, by rw [List.length_drop]; omega, by rw [q3, getD_drop0], by omega, fun i hi => by rw [bitN_drop, hgd.2.2.2.2 _ (by omega)]; congr 1; omega⟩, by rw [List.length_drop]; omega, hcb2, htb ▸ hBy.next hvb (htb ▸ hv) (fun i hi => by rw [hgd.2.2.2.2 i (by omega)]) (by omega)⟩, (by (try dsimp only); omega), hR.sel [0, 1, 2, 3] [4, 5, 6] (by kernel_rfl) (by kernel_rfl), hI.sel [6, 7, 8, 9, 11] (by kernel_rfl)⟩
      · skip
        refine effH tab (k := 7) (hh := .no) (r := ⟨.sl 7 0 1 1, [⟨7, 3, [.v (.int .i64 ((min tb 8 : Nat) : Int))]⟩, ⟨3, 48, [.v (.slice (some (q.add j)) (ys.length - j) (cap' - j)), .v (.int .i64 ((p % 8 : Nat) : Int)), .v (.int .i64 ((nw : Nat) : Int)), .v (.int .i64 ((tb - 8 : Nat) : Int)), .v (.int .i64 ((tby2 : Nat) : Int)), .v (.int .u64 ((c2 : Nat) : Int))]⟩, ⟨0, 29, [.row 4]⟩, ⟨1, 22, [.row 5]⟩, ⟨2, 30, [.row 6]⟩], [⟨4, 33, 1, nw, (ints .u64 ws)⟩, ⟨5, 5, 1, k, (ints .u8 rs)⟩, ⟨6, 3, 1, k, (ints .i64 vs)⟩], 8, _, false⟩) hR hI (by kernel_rfl) rfl rfl rfl (by kernel_rfl) .nil (fun e44 a44 w44 hag hR2 hI => ?_)
        replace hS := Rel.old (k := 7) hS hR hR2 hF hag [3, 0, 1, 2] [4] (by kernel_rfl) (by kernel_rfl) (by kernel_rfl); replace hR := hR2
        refine ⟨hS, ?_⟩
        refine wpL_env hag (by kernel_rfl) ?_
        replace hS := hS.agree (k := 7) (L := []) (Wf.of (by kernel_rfl)) hag
        replace hI := hI.sel [47, 46, 45, 42, 41, 6, 7, 8, 9, 11] (by kernel_rfl : sel _ _ = some [(47, .sl 7 0 1 1), (46, .v (.int .i64 ((min tb 8 : Nat) : Int))), (45, .row 6), (42, .v (.int .u8 ((v : Nat) : Int))), (41, .row 5), (6, .p 0 0), (7, .p 1 0), (8, .p 2 0), (9, .p 3 0), (11, .v (.int .i64 (((n - nw * 64 + 7) / 8 - k : Nat) : Int)))])
        refine oneL (i := 2) (f' := 4) (by kernel_rfl) (by rfl) ?_
        refine effH tab (k := 8) (hh := .no) (r := ⟨.sl 8 0 1 1, [⟨8, 5, [.v (.int .u8 ((v : Nat) : Int))]⟩, ⟨7, 3, [.v (.int .i64 ((min tb 8 : Nat) : Int))]⟩, ⟨3, 48, [.v (.slice (some (q.add j)) (ys.length - j) (cap' - j)), .v (.int .i64 ((p % 8 : Nat) : Int)), .v (.int .i64 ((nw : Nat) : Int)), .v (.int .i64 ((tb - 8 : Nat) : Int)), .v (.int .i64 ((tby2 : Nat) : Int)), .v (.int .u64 ((c2 : Nat) : Int))]⟩, ⟨0, 29, [.row 4]⟩, ⟨1, 22, [.row 5]⟩, ⟨2, 30, [.row 6]⟩], [⟨4, 33, 1, nw, (ints .u64 ws)⟩, ⟨5, 5, 1, k, (ints .u8 rs)⟩, ⟨6, 3, 1, k, (ints .i64 vs)⟩], 9, _, false⟩) hR hI (by kernel_rfl) rfl rfl rfl (by kernel_rfl) .nil (fun e45 a45 w45 hag hR2 hI => ?_)
        replace hS := Rel.old (k := 8) hS hR hR2 hF hag [3, 0, 1, 2] [4] (by kernel_rfl) (by kernel_rfl) (by kernel_rfl); replace hR := hR2
        refine ⟨hS, ?_⟩
        refine wpL_env hag (by kernel_rfl) ?_
        replace hS := hS.agree (k := 8) (L := []) (Wf.of (by kernel_rfl)) hag
        replace hI := hI.sel [43, 47, 46, 45, 42, 41, 6, 7, 8, 9, 11] (by kernel_rfl : sel _ _ = some [(43, .sl 8 0 1 1), (47, .sl 7 0 1 1), (46, .v (.int .i64 ((min tb 8 : Nat) : Int))), (45, .row 6), (42, .v (.int .u8 ((v : Nat) : Int))), (41, .row 5), (6, .p 0 0), (7, .p 1 0), (8, .p 2 0), (9, .p 3 0), (11, .v (.int .i64 (((n - nw * 64 + 7) / 8 - k : Nat) : Int)))])
        refine oneL (i := 3) (f' := 3) (by kernel_rfl) (by rfl) ?_
        refine effH tab (k := 9) (hh := .no) (r := ⟨.row 9, [⟨8, 5, [.v (.int .u8 ((v : Nat) : Int))]⟩, ⟨7, 3, [.v (.int .i64 ((min tb 8 : Nat) : Int))]⟩, ⟨3, 48, [.v (.slice (some (q.add j)) (ys.length - j) (cap' - j)), .v (.int .i64 ((p % 8 : Nat) : Int)), .v (.int .i64 ((nw : Nat) : Int)), .v (.int .i64 ((tb - 8 : Nat) : Int)), .v (.int .i64 ((tby2 : Nat) : Int)), .v (.int .u64 ((c2 : Nat) : Int))]⟩, ⟨0, 29, [.row 4]⟩, ⟨1, 22, [.row 5]⟩, ⟨2, 30, [.row 6]⟩], [⟨9, 5, 1, (k + 1), ((ints .u8 rs) ++ [.int .u8 ((v : Nat) : Int)])⟩, ⟨4, 33, 1, nw, (ints .u64 ws)⟩, ⟨6, 3, 1, k, (ints .i64 vs)⟩], 10, _, false⟩) hR hI (by kernel_rfl) rfl rfl rfl (by kernel_rfl) (.cons (by have hm_ : maxLen = 9223372036854775807 := rfl; rw [hm_]; omega : k + 1 ≤ maxLen) (.cons (by omega : (k + 1) * 1 ≤ 140737488355328) .nil)) (fun e46 a46 w46 hag hR2 hI => ?_)
        replace hS := Rel.old (k := 9) hS hR hR2 hF hag [3, 0, 1, 2] [4] (by kernel_rfl) (by kernel_rfl) (by kernel_rfl); replace hR := hR2
        refine ⟨hS, ?_⟩
        refine wpL_env hag (by kernel_rfl) ?_
        replace hS := hS.agree (k := 9) (L := []) (Wf.of (by kernel_rfl)) hag
        replace hI := hI.sel [44, 43, 47, 46, 45, 42, 41, 6, 7, 8, 9, 11] (by kernel_rfl : sel _ _ = some [(44, .row 9), (43, .sl 8 0 1 1), (47, .sl 7 0 1 1), (46, .v (.int .i64 ((min tb 8 : Nat) : Int))), (45, .row 6), (42, .v (.int .u8 ((v : Nat) : Int))), (41, .row 5), (6, .p 0 0), (7, .p 1 0), (8, .p 2 0), (9, .p 3 0), (11, .v (.int .i64 (((n - nw * 64 + 7) / 8 - k : Nat) : Int)))])
        refine oneL (i := 7) (f' := 2) (by kernel_rfl) (by rfl) ?_
        refine effH tab (k := 10) (hh := .no) (r := ⟨.row 10, [⟨8, 5, [.v (.int .u8 ((v : Nat) : Int))]⟩, ⟨7, 3, [.v (.int .i64 ((min tb 8 : Nat) : Int))]⟩, ⟨3, 48, [.v (.slice (some (q.add j)) (ys.length - j) (cap' - j)), .v (.int .i64 ((p % 8 : Nat) : Int)), .v (.int .i64 ((nw : Nat) : Int)), .v (.int .i64 ((tb - 8 : Nat) : Int)), .v (.int .i64 ((tby2 : Nat) : Int)), .v (.int .u64 ((c2 : Nat) : Int))]⟩, ⟨0, 29, [.row 4]⟩, ⟨1, 22, [.row 5]⟩, ⟨2, 30, [.row 6]⟩], [⟨10, 3, 1, (k + 1), ((ints .i64 vs) ++ [.int .i64 ((min tb 8 : Nat) : Int)])⟩, ⟨9, 5, 1, (k + 1), ((ints .u8 rs) ++ [.int .u8 ((v : Nat) : Int)])⟩, ⟨4, 33, 1, nw, (ints .u64 ws)⟩], 11, _, false⟩) hR hI (by kernel_rfl) rfl rfl rfl (by kernel_rfl) (.cons (by have hm_ : maxLen = 9223372036854775807 := rfl; rw [hm_]; omega : k + 1 ≤ maxLen) (.cons (by omega : (k + 1) * 8 ≤ 140737488355328) .nil)) (fun e47 a47 w47 hag hR2 hI => ?_)
        replace hS := Rel.old (k := 10) hS hR hR2 hF hag [3, 0, 1, 2] [4] (by kernel_rfl) (by kernel_rfl) (by kernel_rfl); replace hR := hR2
        refine ⟨hS, ?_⟩
        refine wpL_env hag (by kernel_rfl) ?_
        replace hS := hS.agree (k := 10) (L := []) (Wf.of (by kernel_rfl)) hag
        replace hI := hI.sel [48, 44, 43, 47, 46, 45, 42, 41, 6, 7, 8, 9, 11] (by kernel_rfl : sel _ _ = some [(48, .row 10), (44, .row 9), (43, .sl 8 0 1 1), (47, .sl 7 0 1 1), (46, .v (.int .i64 ((min tb 8 : Nat) : Int))), (45, .row 6), (42, .v (.int .u8 ((v : Nat) : Int))), (41, .row 5), (6, .p 0 0), (7, .p 1 0), (8, .p 2 0), (9, .p 3 0), (11, .v (.int .i64 (((n - nw * 64 + 7) / 8 - k : Nat) : Int)))])
        refine endL (i := 8) (f' := 1) (by kernel_rfl) (by rfl) (by kernel_rfl) ?_
        refine effH tab (k := 11) (hh := .no) (r := ⟨.v (undef), [⟨1, 22, [.row 9]⟩, ⟨8, 5, [.v (.int .u8 ((v : Nat) : Int))]⟩, ⟨7, 3, [.v (.int .i64 ((min tb 8 : Nat) : Int))]⟩, ⟨3, 48, [.v (.slice (some (q.add j)) (ys.length - j) (cap' - j)), .v (.int .i64 ((p % 8 : Nat) : Int)), .v (.int .i64 ((nw : Nat) : Int)), .v (.int .i64 ((tb - 8 : Nat) : Int)), .v (.int .i64 ((tby2 : Nat) : Int)), .v (.int .u64 ((c2 : Nat) : Int))]⟩, ⟨0, 29, [.row 4]⟩, ⟨2, 30, [.row 6]⟩], [⟨10, 3, 1, (k + 1), ((ints .i64 vs) ++ [.int .i64 ((min tb 8 : Nat) : Int)])⟩, ⟨9, 5, 1, (k + 1), ((ints .u8 rs) ++ [.int .u8 ((v : Nat) : Int)])⟩, ⟨4, 33, 1, nw, (ints .u64 ws)⟩], 11, _, true⟩) hR hI (by kernel_rfl) rfl rfl rfl (by kernel_rfl) .nil (fun e48 a48 w48 hag hR2 hI => ?_)
        replace hR := hR2; clear hR2
        replace hI := hI.sel [48, 44, 43, 47, 46, 45, 42, 41, 6, 7, 8, 9, 11] (by kernel_rfl : sel _ _ = some [(48, .row 10), (44, .row 9), (43, .sl 8 0 1 1), (47, .sl 7 0 1 1), (46, .v (.int .i64 ((min tb 8 : Nat) : Int))), (45, .row 6), (42, .v (.int .u8 ((v : Nat) : Int))), (41, .row 5), (6, .p 0 0), (7, .p 1 0), (8, .p 2 0), (9, .p 3 0), (11, .v (.int .i64 (((n - nw * 64 + 7) / 8 - k : Nat) : Int)))])
        refine endL (i := 9) (f' := 0) (by kernel_rfl) (by rfl) (by kernel_rfl) ?_
        refine effH tab (k := 11) (hh := .no) (r := ⟨.v (undef), [⟨2, 30, [.row 10]⟩, ⟨1, 22, [.row 9]⟩, ⟨8, 5, [.v (.int .u8 ((v : Nat) : Int))]⟩, ⟨7, 3, [.v (.int .i64 ((min tb 8 : Nat) : Int))]⟩, ⟨3, 48, [.v (.slice (some (q.add j)) (ys.length - j) (cap' - j)), .v (.int .i64 ((p % 8 : Nat) : Int)), .v (.int .i64 ((nw : Nat) : Int)), .v (.int .i64 ((tb - 8 : Nat) : Int)), .v (.int .i64 ((tby2 : Nat) : Int)), .v (.int .u64 ((c2 : Nat) : Int))]⟩, ⟨0, 29, [.row 4]⟩], [⟨10, 3, 1, (k + 1), ((ints .i64 vs) ++ [.int .i64 ((min tb 8 : Nat) : Int)])⟩, ⟨9, 5, 1, (k + 1), ((ints .u8 rs) ++ [.int .u8 ((v : Nat) : Int)])⟩, ⟨4, 33, 1, nw, (ints .u64 ws)⟩], 11, _, true⟩) hR hI (by kernel_rfl) rfl rfl rfl (by kernel_rfl) .nil (fun e49 a49 w49 hag hR2 hI => ?_)
        replace hR := hR2; clear hR2
        replace hI := hI.sel [48, 44, 43, 47, 46, 45, 42, 41, 6, 7, 8, 9, 11] (by kernel_rfl : sel _ _ = some [(48, .row 10), (44, .row 9), (43, .sl 8 0 1 1), (47, .sl 7 0 1 1), (46, .v (.int .i64 ((min tb 8 : Nat) : Int))), (45, .row 6), (42, .v (.int .u8 ((v : Nat) : Int))), (41, .row 5), (6, .p 0 0), (7, .p 1 0), (8, .p 2 0), (9, .p 3 0), (11, .v (.int .i64 (((n - nw * 64 + 7) / 8 - k : Nat) : Int)))])
        refine doneL (by kernel_rfl) ?_
        replace hI := hI.sel [6, 7, 8, 9, 11] (by kernel_rfl : sel _ _ = some [(6, .p 0 0), (7, .p 1 0), (8, .p 2 0), (9, .p 3 0), (11, .v (.int .i64 (((n - nw * 64 + 7) / 8 - k : Nat) : Int)))]); replace hR := hR.sel [2, 1, 3, 0] [10, 9, 4] (by kernel_rfl : selH _ _ = some [⟨2, 30, [.row 10]⟩, ⟨1, 22, [.row 9]⟩, ⟨3, 48, [.v (.slice (some (q.add j)) (ys.length - j) (cap' - j)), .v (.int .i64 ((p % 8 : Nat) : Int)), .v (.int .i64 ((nw : Nat) : Int)), .v (.int .i64 ((tb - 8 : Nat) : Int)), .v (.int .i64 ((tby2 : Nat) : Int)), .v (.int .u64 ((c2 : Nat) : Int))]⟩, ⟨0, 29, [.row 4]⟩]) (by kernel_rfl : selG _ _ = some [⟨10, 3, 1, (k + 1), ((ints .i64 vs) ++ [.int .i64 ((min tb 8 : Nat) : Int)])⟩, ⟨9, 5, 1, (k + 1), ((ints .u8 rs) ++ [.int .u8 ((v : Nat) : Int)])⟩, ⟨4, 33, 1, nw, (ints .u64 ws)⟩])
        refine normal_block ?_
        refine then_n ?_
        refine reg_all tab (k := 11) (hs := [(1, .eq (.int .i64 (((n - nw * 64 + 7) / 8 - (k + 1) : Nat) : Int)))]) (sy := []) (ks := [11, 6, 7, 8, 9]) (bs := [2, 1, 3, 0]) (gs := [10, 9, 4])
            (L' := [(11, .v (.int .i64 (((n - nw * 64 + 7) / 8 - (k + 1) : Nat) : Int))), (6, .p 0 0), (7, .p 1 0), (8, .p 2 0), (9, .p 3 0)])
            (H' := [⟨2, 30, [.row 10]⟩, ⟨1, 22, [.row 9]⟩, ⟨3, 48, [.v (.slice (some (q.add j)) (ys.length - j) (cap' - j)), .v (.int .i64 ((p % 8 : Nat) : Int)), .v (.int .i64 ((nw : Nat) : Int)), .v (.int .i64 ((tb - 8 : Nat) : Int)), .v (.int .i64 ((tby2 : Nat) : Int)), .v (.int .u64 ((c2 : Nat) : Int))]⟩, ⟨0, 29, [.row 4]⟩]) (G' := [⟨10, 3, 1, (k + 1), ((ints .i64 vs) ++ [.int .i64 ((min tb 8 : Nat) : Int)])⟩, ⟨9, 5, 1, (k + 1), ((ints .u8 rs) ++ [.int .u8 ((v : Nat) : Int)])⟩, ⟨4, 33, 1, nw, (ints .u64 ws)⟩]) (k' := 11) hR hI (by kernel_rfl)
            (.cons (congrArg (Value.int .i64) (by rw [wrap_inR (inR_i64 (by omega))]; omega : IntKind.i64.wrap ((((n - nw * 64 + 7) / 8 - k : Nat) : Int) - (1 : Int)) = (((n - nw * 64 + 7) / 8 - (k + 1) : Nat) : Int))) .nil) (fun e50 a50 w50 hag hR hI => ?_)
        refine then_n ?_
        replace hR := hR.reblk (b := ⟨3, 48, [.v (.slice (some (q.add j)) (ys.length - j) (cap' - j)), .v (.int .i64 ((p % 8 : Nat) : Int)), .v (.int .i64 ((nw : Nat) : Int)), .v (.int .i64 ((tb - 8 : Nat) : Int)), .v (.int .i64 ((tby2 : Nat) : Int)), .v (.int .u64 ((c2 : Nat) : Int))]⟩) (by simp) [.v (.slice (some (q.add j)) ((ys.drop j).length) (cap' - j)), .v (.int .i64 ((p % 8 : Nat) : Int)), .v (.int .i64 ((nw : Nat) : Int)), .v (.int .i64 ((tb - 8 : Nat) : Int)), .v (.int .i64 ((tby2 : Nat) : Int)), .v (.int .u64 ((c2 : Nat) : Int))] [⟨2, 30, [.row 10]⟩, ⟨1, 22, [.row 9]⟩, ⟨0, 29, [.row 4]⟩] (by simp) (by simp only [dens, den, List.length_drop])
        dsimp only at hR
        rw [ints_snoc, ints_snoc] at hR
        have hren_ : Sy.ren [(5, 9), (6, 10)] ⟨[(11, .v (.int .i64 (((n - nw * 64 + 7) / 8 - (k + 1) : Nat) : Int))), (6, .p 0 0), (7, .p 1 0), (8, .p 2 0), (9, .p 3 0)], [⟨3, 48, [.v (.slice (some (q.add j)) ((ys.drop j).length) (cap' - j)), .v (.int .i64 ((p % 8 : Nat) : Int)), .v (.int .i64 ((nw : Nat) : Int)), .v (.int .i64 ((tb - 8 : Nat) : Int)), .v (.int .i64 ((tby2 : Nat) : Int)), .v (.int .u64 ((c2 : Nat) : Int))]⟩, ⟨2, 30, [.row 6]⟩, ⟨1, 22, [.row 5]⟩, ⟨0, 29, [.row 4]⟩], [⟨6, 3, 1, (k + 1), (ints .i64 (vs ++ [min tb 8]))⟩, ⟨5, 5, 1, (k + 1), (ints .u8 (rs ++ [v]))⟩, ⟨4, 33, 1, nw, (ints .u64 ws)⟩], 0⟩ = ⟨[(11, .v (.int .i64 (((n - nw * 64 + 7) / 8 - (k + 1) : Nat) : Int))), (6, .p 0 0), (7, .p 1 0), (8, .p 2 0), (9, .p 3 0)], [⟨3, 48, [.v (.slice (some (q.add j)) ((ys.drop j).length) (cap' - j)), .v (.int .i64 ((p % 8 : Nat) : Int)), .v (.int .i64 ((nw : Nat) : Int)), .v (.int .i64 ((tb - 8 : Nat) : Int)), .v (.int .i64 ((tby2 : Nat) : Int)), .v (.int .u64 ((c2 : Nat) : Int))]⟩, ⟨2, 30, [.row 10]⟩, ⟨1, 22, [.row 9]⟩, ⟨0, 29, [.row 4]⟩], [⟨10, 3, 1, (k + 1), (ints .i64 (vs ++ [min tb 8]))⟩, ⟨9, 5, 1, (k + 1), (ints .u8 (rs ++ [v]))⟩, ⟨4, 33, 1, nw, (ints .u64 ws)⟩], 0⟩ := by kernel_rfl
        replace hI := hI.rename (S := ⟨[(11, .v (.int .i64 (((n - nw * 64 + 7) / 8 - (k + 1) : Nat) : Int))), (6, .p 0 0), (7, .p 1 0), (8, .p 2 0), (9, .p 3 0)], [⟨3, 48, [.v (.slice (some (q.add j)) ((ys.drop j).length) (cap' - j)), .v (.int .i64 ((p % 8 : Nat) : Int)), .v (.int .i64 ((nw : Nat) : Int)), .v (.int .i64 ((tb - 8 : Nat) : Int)), .v (.int .i64 ((tby2 : Nat) : Int)), .v (.int .u64 ((c2 : Nat) : Int))]⟩, ⟨2, 30, [.row 10]⟩, ⟨1, 22, [.row 9]⟩, ⟨0, 29, [.row 4]⟩], [⟨10, 3, 1, (k + 1), (ints .i64 (vs ++ [min tb 8]))⟩, ⟨9, 5, 1, (k + 1), (ints .u8 (rs ++ [v]))⟩, ⟨4, 33, 1, nw, (ints .u64 ws)⟩], 0⟩) (S' := ⟨[(11, .v (.int .i64 (((n - nw * 64 + 7) / 8 - (k + 1) : Nat) : Int))), (6, .p 0 0), (7, .p 1 0), (8, .p 2 0), (9, .p 3 0)], [⟨3, 48, [.v (.slice (some (q.add j)) ((ys.drop j).length) (cap' - j)), .v (.int .i64 ((p % 8 : Nat) : Int)), .v (.int .i64 ((nw : Nat) : Int)), .v (.int .i64 ((tb - 8 : Nat) : Int)), .v (.int .i64 ((tby2 : Nat) : Int)), .v (.int .u64 ((c2 : Nat) : Int))]⟩, ⟨2, 30, [.row 6]⟩, ⟨1, 22, [.row 5]⟩, ⟨0, 29, [.row 4]⟩], [⟨6, 3, 1, (k + 1), (ints .i64 (vs ++ [min tb 8]))⟩, ⟨5, 5, 1, (k + 1), (ints .u8 (rs ++ [v]))⟩, ⟨4, 33, 1, nw, (ints .u64 ws)⟩], 0⟩) hren_; replace hR := hR.rename (S := ⟨[(11, .v (.int .i64 (((n - nw * 64 + 7) / 8 - (k + 1) : Nat) : Int))), (6, .p 0 0), (7, .p 1 0), (8, .p 2 0), (9, .p 3 0)], [⟨3, 48, [.v (.slice (some (q.add j)) ((ys.drop j).length) (cap' - j)), .v (.int .i64 ((p % 8 : Nat) : Int)), .v (.int .i64 ((nw : Nat) : Int)), .v (.int .i64 ((tb - 8 : Nat) : Int)), .v (.int .i64 ((tby2 : Nat) : Int)), .v (.int .u64 ((c2 : Nat) : Int))]⟩, ⟨2, 30, [.row 10]⟩, ⟨1, 22, [.row 9]⟩, ⟨0, 29, [.row 4]⟩], [⟨10, 3, 1, (k + 1), (ints .i64 (vs ++ [min tb 8]))⟩, ⟨9, 5, 1, (k + 1), (ints .u8 (rs ++ [v]))⟩, ⟨4, 33, 1, nw, (ints .u64 ws)⟩], 0⟩) (S' := ⟨[(11, .v (.int .i64 (((n - nw * 64 + 7) / 8 - (k + 1) : Nat) : Int))), (6, .p 0 0), (7, .p 1 0), (8, .p 2 0), (9, .p 3 0)], [⟨3, 48, [.v (.slice (some (q.add j)) ((ys.drop j).length) (cap' - j)), .v (.int .i64 ((p % 8 : Nat) : Int)), .v (.int .i64 ((nw : Nat) : Int)), .v (.int .i64 ((tb - 8 : Nat) : Int)), .v (.int .i64 ((tby2 : Nat) : Int)), .v (.int .u64 ((c2 : Nat) : Int))]⟩, ⟨2, 30, [.row 6]⟩, ⟨1, 22, [.row 5]⟩, ⟨0, 29, [.row 4]⟩], [⟨6, 3, 1, (k + 1), (ints .i64 (vs ++ [min tb 8]))⟩, ⟨5, 5, 1, (k + 1), (ints .u8 (rs ++ [v]))⟩, ⟨4, 33, 1, nw, (ints .u64 ws)⟩], 0⟩) hren_ (by kernel_rfl) (by kernel_rfl); dsimp only at hI hR; clear hren_
        exact ⟨(k + 1, tb - 8, tby2, c2, cap' - j, q.add j, ys.drop j, rs ++ [v], vs ++ [min tb 8]), _, _, _, _, hB, ⟨hy.drop j (by omega), by omega, by omega, fun h => by
              obtain ⟨q1, q2, q3⟩ := hj (by omega)
              subst q1
              exact ⟨by omega, by rw [List.length_drop]; omega, by rw [q3, getD_drop0], by omega, fun i hi => by rw [bitN_drop, hgd.2.2.2.2 _ (by omega)]; congr 1; omega⟩, by rw [List.length_drop]; omega, hcb2, htb ▸ hBy.next hvb (htb ▸ hv) (fun i hi => by rw [hgd.2.2.2.2 i (by omega)]) (by omega)⟩, (by (try dsimp only); omega), hR.sel [0, 1, 2, 3] [4, 5, 6] (by kernel_rfl) (by kernel_rfl), hI.sel [6, 7, 8, 9, 11] (by kernel_rfl)⟩
    · skip
      replace hI := hI.re 33 (.v (.bool false)) rfl (congrArg Value.bool hc26)
      try simp only [decide_eq_true_eq, decide_eq_false_iff_not, beq_iff_eq, bne_iff_ne, beq_eq_false_iff_ne, bne_eq_false_iff_eq, Bool.and_eq_true, Bool.and_eq_false_iff, Bool.or_eq_true, Bool.or_eq_false_iff, Bool.not_eq_true', Bool.not_eq_false', ne_eq] at hc26
      have hkT : k = (n - nw * 64 + 7) / 8 := by omega
      refine wp_exit ?_
      refine exit_then ?_
      refine exit_then ?_
      refine exit_hit ?_
      refine then_n ?_
      obtain ⟨hB_, hR_, hrel_, wd, wc, hv_, hcells_, hlen_, hcap_, hmax_⟩ := hB.release hR (y := ⟨4, 33, 1, nw, (ints .u64 ws)⟩) (by simp) rfl _ dropN_mem
      replace hy := hy.rel hrel_
      have hws : Sl .u64 18446744073709551616 _ _ wd wc ws := ⟨hcells_, hW.2.1, (by dsimp only at hlen_ hcap_; rw [ints_length] at hlen_; omega), hmax_⟩
      replace hB := hB_; replace hR := hR_.sel [0, 1, 2, 3] [5, 6] (by kernel_rfl : selH _ _ = some [⟨0, 29, [.row 4]⟩, ⟨1, 22, [.row 5]⟩, ⟨2, 30, [.row 6]⟩, ⟨3, 48, [.v (.slice (some q) ys.length cap'), .v (.int .i64 ((p % 8 : Nat) : Int)), .v (.int .i64 ((nw : Nat) : Int)), .v (.int .i64 ((tb : Nat) : Int)), .v (.int .i64 ((tby : Nat) : Int)), .v (.int .u64 ((cur : Nat) : Int))]⟩]) (by kernel_rfl : selG _ _ = some [⟨5, 5, 1, k, (ints .u8 rs)⟩, ⟨6, 3, 1, k, (ints .i64 vs)⟩]); clear hB_ hR_ hrel_ hcells_
      replace hR := hR.reblk (b := ⟨0, 29, [.row 4]⟩) (by simp) [.v (.slice wd nw wc)] [⟨1, 22, [.row 5]⟩, ⟨2, 30, [.row 6]⟩, ⟨3, 48, [.v (.slice (some q) ys.length cap'), .v (.int .i64 ((p % 8 : Nat) : Int)), .v (.int .i64 ((nw : Nat) : Int)), .v (.int .i64 ((tb : Nat) : Int)), .v (.int .i64 ((tby : Nat) : Int)), .v (.int .u64 ((cur : Nat) : Int))]⟩] (by simp) (by simp only [dens, den, hv_])
      dsimp only at hR
      clear hv_
      obtain ⟨hB_, hR_, hrel_, rd, rc, hv_, hcells_, hlen_, hcap_, hmax_⟩ := hB.release hR (y := ⟨5, 5, 1, k, (ints .u8 rs)⟩) (by simp) rfl _ dropN_mem
      replace hws := hws.rel hrel_
      replace hy := hy.rel hrel_
      have hrs : Sl .u8 256 _ _ rd rc rs := ⟨hcells_, hBy.2.2.1, (by dsimp only at hlen_ hcap_; rw [ints_length] at hlen_; omega), hmax_⟩
      replace hB := hB_; replace hR := hR_.sel [0, 1, 2, 3] [6] (by kernel_rfl : selH _ _ = some [⟨0, 29, [.v (.slice wd nw wc)]⟩, ⟨1, 22, [.row 5]⟩, ⟨2, 30, [.row 6]⟩, ⟨3, 48, [.v (.slice (some q) ys.length cap'), .v (.int .i64 ((p % 8 : Nat) : Int)), .v (.int .i64 ((nw : Nat) : Int)), .v (.int .i64 ((tb : Nat) : Int)), .v (.int .i64 ((tby : Nat) : Int)), .v (.int .u64 ((cur : Nat) : Int))]⟩]) (by kernel_rfl : selG _ _ = some [⟨6, 3, 1, k, (ints .i64 vs)⟩]); clear hB_ hR_ hrel_ hcells_
      replace hR := hR.reblk (b := ⟨1, 22, [.row 5]⟩) (by simp) [.v (.slice rd k rc)] [⟨0, 29, [.v (.slice wd nw wc)]⟩, ⟨2, 30, [.row 6]⟩, ⟨3, 48, [.v (.slice (some q) ys.length cap'), .v (.int .i64 ((p % 8 : Nat) : Int)), .v (.int .i64 ((nw : Nat) : Int)), .v (.int .i64 ((tb : Nat) : Int)), .v (.int .i64 ((tby : Nat) : Int)), .v (.int .u64 ((cur : Nat) : Int))]⟩] (by simp) (by simp only [dens, den, hv_])
      dsimp only at hR
      clear hv_
      obtain ⟨hB_, hR_, hrel_, vd, vc, hv_, hcells_, hlen_, hcap_, hmax_⟩ := hB.release hR (y := ⟨6, 3, 1, k, (ints .i64 vs)⟩) (by simp) rfl _ dropN_mem
      replace hrs := hrs.rel hrel_
      replace hws := hws.rel hrel_
      replace hy := hy.rel hrel_
      have hvs : Sl .i64 256 _ _ vd vc vs := ⟨hcells_, hBy.2.2.2.1, (by dsimp only at hlen_ hcap_; rw [ints_length] at hlen_; omega), hmax_⟩
      replace hB := hB_; replace hR := hR_.sel [1, 0, 2, 3] [] (by kernel_rfl : selH _ _ = some [⟨1, 22, [.v (.slice rd k rc)]⟩, ⟨0, 29, [.v (.slice wd nw wc)]⟩, ⟨2, 30, [.row 6]⟩, ⟨3, 48, [.v (.slice (some q) ys.length cap'), .v (.int .i64 ((p % 8 : Nat) : Int)), .v (.int .i64 ((nw : Nat) : Int)), .v (.int .i64 ((tb : Nat) : Int)), .v (.int .i64 ((tby : Nat) : Int)), .v (.int .u64 ((cur : Nat) : Int))]⟩]) (by kernel_rfl : selG _ _ = some []); clear hB_ hR_ hrel_ hcells_
      replace hR := hR.reblk (b := ⟨2, 30, [.row 6]⟩) (by simp) [.v (.slice vd k vc)] [⟨1, 22, [.v (.slice rd k rc)]⟩, ⟨0, 29, [.v (.slice wd nw wc)]⟩, ⟨3, 48, [.v (.slice (some q) ys.length cap'), .v (.int .i64 ((p % 8 : Nat) : Int)), .v (.int .i64 ((nw : Nat) : Int)), .v (.int .i64 ((tb : Nat) : Int)), .v (.int .i64 ((tby : Nat) : Int)), .v (.int .u64 ((cur : Nat) : Int))]⟩] (by simp) (by simp only [dens, den, hv_])
      dsimp only at hR
      clear hv_
      refine wp_seq ?_
      refine regL 5 hR (by kernel_rfl) (fun hS => ?_)
      replace hR := hR.drew; have hF := hR.fore
      refine takeL tab (H := [⟨2, 30, [.v (.slice vd k vc)]⟩, ⟨1, 22, [.v (.slice rd k rc)]⟩, ⟨0, 29, [.v (.slice wd nw wc)]⟩, ⟨3, 48, [.v (.slice (some q) ys.length cap'), .v (.int .i64 ((p % 8 : Nat) : Int)), .v (.int .i64 ((nw : Nat) : Int)), .v (.int .i64 ((tb : Nat) : Int)), .v (.int .i64 ((tby : Nat) : Int)), .v (.int .u64 ((cur : Nat) : Int))]⟩]) (G := []) (hs := []) (gs := []) (is := [0, 1, 2]) (ks := [51, 50, 49, 6, 7, 8]) (f' := 3)
          (L' := [(51, .v (.slice vd k vc)), (50, .v (.slice rd k rc)), (49, .v (.slice wd nw wc)), (6, .p 0 0), (7, .p 1 0), (8, .p 2 0)]) hS hI (by kernel_rfl) (fun _ _ _ _ _ h => h) (by kernel_rfl)
          .nil (by kernel_rfl) (by kernel_rfl) (by kernel_rfl) (by rfl) (fun a51 hI => ?_)
      refine oneL (i := 3) (f' := 2) (by kernel_rfl) (by rfl) ?_
      refine effH tab (k := 7) (hh := .no) (r := ⟨.v (undef), [⟨0, 29, [.v (.slice wd nw wc)]⟩, ⟨2, 30, [.v (.slice vd k vc)]⟩, ⟨1, 22, [.v (.slice rd k rc)]⟩, ⟨3, 48, [.v (.slice (some q) ys.length cap'), .v (.int .i64 ((p % 8 : Nat) : Int)), .v (.int .i64 ((nw : Nat) : Int)), .v (.int .i64 ((tb : Nat) : Int)), .v (.int .i64 ((tby : Nat) : Int)), .v (.int .u64 ((cur : Nat) : Int))]⟩], [], 7, _, true⟩) hR hI (by kernel_rfl) rfl rfl rfl (by kernel_rfl) .nil (fun e52 a52 w52 hag hR2 hI => ?_)
      replace hS := Rel.old (k := 7) hS hR hR2 hF hag [2, 1, 0, 3] [] (by kernel_rfl) (by kernel_rfl) (by kernel_rfl); replace hR := hR2
      refine ⟨hS, ?_⟩
      refine wpL_env hag (by kernel_rfl) ?_
      replace hS := hS.agree (k := 7) (L := []) (Wf.of (by kernel_rfl)) hag
      replace hI := hI.sel [51, 50, 49, 6, 7, 8] (by kernel_rfl : sel _ _ = some [(51, .v (.slice vd k vc)), (50, .v (.slice rd k rc)), (49, .v (.slice wd nw wc)), (6, .p 0 0), (7, .p 1 0), (8, .p 2 0)])
      refine oneL (i := 4) (f' := 1) (by kernel_rfl) (by rfl) ?_
      refine effH tab (k := 7) (hh := .no) (r := ⟨.v (undef), [⟨1, 22, [.v (.slice rd k rc)]⟩, ⟨0, 29, [.v (.slice wd nw wc)]⟩, ⟨2, 30, [.v (.slice vd k vc)]⟩, ⟨3, 48, [.v (.slice (some q) ys.length cap'), .v (.int .i64 ((p % 8 : Nat) : Int)), .v (.int .i64 ((nw : Nat) : Int)), .v (.int .i64 ((tb : Nat) : Int)), .v (.int .i64 ((tby : Nat) : Int)), .v (.int .u64 ((cur : Nat) : Int))]⟩], [], 7, _, true⟩) hR hI (by kernel_rfl) rfl rfl rfl (by kernel_rfl) .nil (fun e53 a53 w53 hag hR2 hI => ?_)
      replace hS := Rel.old (k := 7) hS hR hR2 hF hag [2, 1, 0, 3] [] (by kernel_rfl) (by kernel_rfl) (by kernel_rfl); replace hR := hR2
      refine ⟨hS, ?_⟩
      refine wpL_env hag (by kernel_rfl) ?_
      replace hS := hS.agree (k := 7) (L := []) (Wf.of (by kernel_rfl)) hag
      replace hI := hI.sel [51, 50, 49, 6, 7, 8] (by kernel_rfl : sel _ _ = some [(51, .v (.slice vd k vc)), (50, .v (.slice rd k rc)), (49, .v (.slice wd nw wc)), (6, .p 0 0), (7, .p 1 0), (8, .p 2 0)])
      refine endL (i := 5) (f' := 0) (by kernel_rfl) (by rfl) (by kernel_rfl) ?_
      refine effH tab (k := 7) (hh := .no) (r := ⟨.v (undef), [⟨2, 30, [.v (.slice vd k vc)]⟩, ⟨1, 22, [.v (.slice rd k rc)]⟩, ⟨0, 29, [.v (.slice wd nw wc)]⟩, ⟨3, 48, [.v (.slice (some q) ys.length cap'), .v (.int .i64 ((p % 8 : Nat) : Int)), .v (.int .i64 ((nw : Nat) : Int)), .v (.int .i64 ((tb : Nat) : Int)), .v (.int .i64 ((tby : Nat) : Int)), .v (.int .u64 ((cur : Nat) : Int))]⟩], [], 7, _, true⟩) hR hI (by kernel_rfl) rfl rfl rfl (by kernel_rfl) .nil (fun e54 a54 w54 hag hR2 hI => ?_)
      replace hR := hR2; clear hR2
      replace hI := hI.sel [51, 50, 49, 6, 7, 8] (by kernel_rfl : sel _ _ = some [(51, .v (.slice vd k vc)), (50, .v (.slice rd k rc)), (49, .v (.slice wd nw wc)), (6, .p 0 0), (7, .p 1 0), (8, .p 2 0)])
      refine doneL (by kernel_rfl) ?_
      refine then_n ?_
      replace hI := hI.sel [6, 7, 8] (by kernel_rfl : sel _ _ = some [(6, .p 0 0), (7, .p 1 0), (8, .p 2 0)]); replace hR := hR.sel [2, 1, 0, 3] [] (by kernel_rfl : selH _ _ = some [⟨2, 30, [.v (.slice vd k vc)]⟩, ⟨1, 22, [.v (.slice rd k rc)]⟩, ⟨0, 29, [.v (.slice wd nw wc)]⟩, ⟨3, 48, [.v (.slice (some q) ys.length cap'), .v (.int .i64 ((p % 8 : Nat) : Int)), .v (.int .i64 ((nw : Nat) : Int)), .v (.int .i64 ((tb : Nat) : Int)), .v (.int .i64 ((tby : Nat) : Int)), .v (.int .u64 ((cur : Nat) : Int))]⟩]) (by kernel_rfl : selG _ _ = some [])
      refine wp_ret ?_
      refine outF tab (xs := [.v (.slice wd nw wc), .v (.slice rd k rc), .v (.slice vd k vc)]) hR hI (inv14 _ _ _ _) (idle14 _ _ _) rfl (by kernel_rfl) ?_
      exact ⟨ws, wd, wc, rs, rd, rc, vs, vd, vc, nw, by rw [hW.1, hBy.1, hBy.2.1]; rfl, hB.fin hR, hws.fin hB hR, hrs.fin hB hR, hvs.fin hB hR, hnw, hW, by rw [← hkT]; exact hBy⟩

theorem eq_of_bits {xs : List Nat} {us bs : List Bool} {p n : Nat} (ha : us.length = n) (hb : bs.length = n) (h1 : ∀ j, j < n → us.getD j false = bitN xs (p + j)) (h2 : ∀ j, j < n → bs.getD j false = bitN xs (p + j)) : us = bs := by
  refine List.ext_getElem (by omega) fun j hj hj' => ?_
  have e1 := h1 j (by omega)
  have e2 := h2 j (by omega)
  rw [List.getD_eq_getElem?_getD, List.getElem?_eq_getElem hj, Option.getD_some] at e1
  rw [List.getD_eq_getElem?_getD, List.getElem?_eq_getElem hj', Option.getD_some] at e2
  rw [e1, e2]
theorem mem_getD {ws : List Nat} {B : Nat} (h : ∀ d ∈ ws, d < B) (hB : 0 < B) (a : Nat) : ws.getD a 0 < B := by
  rw [List.getD_eq_getElem?_getD]
  cases hi : ws[a]? with
  | none => simpa using hB
  | some d => exact h d (List.mem_of_getElem? hi)
theorem u8_bit' (x : Nat) (h : x < 256) : bits .and .u8 (x : Int) (1 : Int) = ((x % 2 : Nat) : Int) := u8_bit x h

theorem law_cond {b : Bool} {n : Int} (h : b = true ∧ ¬ n = 0) : b = true ∧ ¬ n = 0 := h

set_option maxHeartbeats 4000000 in
set_option maxRecDepth 100000 in
theorem law_spec {C : Nat → Prop} {w : World} {ad : Option Addr} {cap : Nat} {xs : List Nat} {p n : Int} (hp : -9223372036854775808 ≤ p ∧ p ≤ 9223372036854775807) (hn : -9223372036854775808 ≤ n ∧ n ≤ 9223372036854775807) (hx : Sl .u8 256 C w ad cap xs) :
    Calls P 3 #[.slice ad xs.length cap, .int .i64 p, .int .i64 n] w fun ex w' => ex = .returned (.bool true) ∧ Keep (fun b => b < w.heap.size) w w' := by
  refine doorN (e := e0) (vs := [.v (.slice ad xs.length cap), .v (.int .i64 p), .v (.int .i64 n)]) (n := 116) (m := 3) Try.func3 rfl rfl rfl (by decide) fun a_ hI => ?_
  replace hI : Is 116 [] e0 [(0, .v (.slice ad xs.length cap)), (1, .v (.int .i64 p)), (2, .v (.int .i64 n))] a_ := hI
  have hR : Rel (fun b => b < w.heap.size) w e0 [] [] w := Rel.start (fun k hk => hk)
  have hB : Base C w C (fun b => b < w.heap.size) w := Base.start
  have hrx := hx.room; have hmx := hx.max
  refine reg_seq tab (k := 0) (hs := []) (sy := []) (ks := [0, 1, 2]) (bs := []) (gs := [])
      (L' := [(0, .v (.slice ad xs.length cap)), (1, .v (.int .i64 p)), (2, .v (.int .i64 n))])
      (H' := []) (G' := []) (k' := 0) hR hI (by kernel_rfl)
      .nil (fun e1 a1 w1 hag hR hI => ?_)
  refine wp_seq ?_
  refine reg_seq tab (k := 0) (hs := []) (sy := []) (ks := [21, 0, 1, 2]) (bs := []) (gs := [])
      (L' := [(21, .v (.bool (decide (((xs.length : Nat) : Int) > (2147483647 : Int))))), (0, .v (.slice ad xs.length cap)), (1, .v (.int .i64 p)), (2, .v (.int .i64 n))])
      (H' := []) (G' := []) (k' := 0) hR hI (by kernel_rfl)
      .nil (fun e2 a2 w2 hag hR hI => ?_)
  refine cnd (b := decide (((xs.length : Nat) : Int) > (2147483647 : Int))) hI (by kernel_rfl) (fun hc3 => ?_) (fun hc3 => ?_)
  · skip
    replace hI := hI.re 21 (.v (.bool true)) rfl (congrArg Value.bool hc3)
    try simp only [decide_eq_true_eq, decide_eq_false_iff_not, beq_iff_eq, bne_iff_ne, beq_eq_false_iff_ne, bne_eq_false_iff_eq, Bool.and_eq_true, Bool.and_eq_false_iff, Bool.or_eq_true, Bool.or_eq_false_iff, Bool.not_eq_true', Bool.not_eq_false', ne_eq] at hc3
    refine reg_seq tab (k := 0) (hs := []) (sy := []) (ks := [6]) (bs := []) (gs := [])
        (L' := [(6, .v (.bool true))])
        (H' := []) (G' := []) (k' := 0) hR hI (by kernel_rfl)
        .nil (fun e4 a4 w4 hag hR hI => ?_)
    refine wp_ret ?_
    refine ret_then ?_
    refine outN tab (xs := [.v (.bool true)]) hR hI rfl (by kernel_rfl) ?_
    exact ⟨rfl, hB.fin hR⟩
  · skip
    replace hI := hI.re 21 (.v (.bool false)) rfl (congrArg Value.bool hc3)
    try simp only [decide_eq_true_eq, decide_eq_false_iff_not, beq_iff_eq, bne_iff_ne, beq_eq_false_iff_ne, bne_eq_false_iff_eq, Bool.and_eq_true, Bool.and_eq_false_iff, Bool.or_eq_true, Bool.or_eq_false_iff, Bool.not_eq_true', Bool.not_eq_false', ne_eq] at hc3
    refine wp_skip ?_
    refine then_n ?_
    refine wp_seq ?_
    refine wp_seq ?_
    refine reg (is := [0, 1, 2, 3, 4, 5, 6, 7, 8]) (by kernel_rfl) ?_
    refine part_ tab [0, 1, 2] [3, 4, 5, 6, 7, 8] (by rfl) (k := 0) (hs := []) (sy := []) (ks := [24, 23, 22, 0, 1, 2]) (bs := []) (gs := [])
        (L' := [(24, .v (.int .i64 n)), (23, .v (.int .i64 p)), (22, .v (.slice ad xs.length cap)), (0, .v (.slice ad xs.length cap)), (1, .v (.int .i64 p)), (2, .v (.int .i64 n))])
        (H' := []) (G' := []) (k' := 0) hR hI (by kernel_rfl)
        .nil (fun e5 a5 w5 hag hR hI => ?_)
    refine callOp (ys := [.v (.slice ad xs.length cap), .v (.int .i64 p), .v (.int .i64 n)]) hI rfl rfl ⟨_, rfl, rfl, rfl⟩ (by kernel_rfl) Try.func4 rfl rfl ?_
    refine (within_spec hp hn (hx.now hB hR)).mono ?_
    rintro ex w6 ⟨b, rfl, hk, hwl⟩
    replace hR := hR.same hk; clear hk
    refine ⟨_, rfl, ?_⟩
    replace hI := hI.put (d := some 25) (x := .v (.bool b)) (by intro t ht; cases ht; decide) rfl
    replace hI := hI.sel [25, 24, 23, 22, 0, 1, 2] (by kernel_rfl : sel _ _ = some [(25, .v (.bool b)), (24, .v (.int .i64 n)), (23, .v (.int .i64 p)), (22, .v (.slice ad xs.length cap)), (0, .v (.slice ad xs.length cap)), (1, .v (.int .i64 p)), (2, .v (.int .i64 n))])
    refine part_ tab [4, 5, 6, 7, 8] [] (by rfl) (k := 0) (hs := [(8, .sym)]) (sy := [6, 7]) (ks := [30, 0, 1, 2]) (bs := []) (gs := [])
        (L' := [(30, .v (.bool ((!b) || (n == (0 : Int))))), (0, .v (.slice ad xs.length cap)), (1, .v (.int .i64 p)), (2, .v (.int .i64 n))])
        (H' := []) (G' := []) (k' := 0) hR hI (by kernel_rfl)
        (.cons (rfl : (!b) = (!b)) (.cons (by first | exact Bool.beq_true _ | exact Bool.beq_false _ | rfl | simp_all : ((!b) == false) = !(!b)) .nil)) (fun e7 a7 w7 hag hR hI => ?_)
    refine ops_nil ?_
    refine then_n ?_
    refine cnd (b := ((!b) || (n == (0 : Int)))) hI (by kernel_rfl) (fun hc8 => ?_) (fun hc8 => ?_)
    · skip
      replace hI := hI.re 30 (.v (.bool true)) rfl (congrArg Value.bool hc8)
      try simp only [decide_eq_true_eq, decide_eq_false_iff_not, beq_iff_eq, bne_iff_ne, beq_eq_false_iff_ne, bne_eq_false_iff_eq, Bool.and_eq_true, Bool.and_eq_false_iff, Bool.or_eq_true, Bool.or_eq_false_iff, Bool.not_eq_true', Bool.not_eq_false', ne_eq] at hc8
      refine reg_seq tab (k := 0) (hs := []) (sy := []) (ks := [6]) (bs := []) (gs := [])
          (L' := [(6, .v (.bool true))])
          (H' := []) (G' := []) (k' := 0) hR hI (by kernel_rfl)
          .nil (fun e9 a9 w9 hag hR hI => ?_)
      refine wp_ret ?_
      refine ret_then ?_
      refine outN tab (xs := [.v (.bool true)]) hR hI rfl (by kernel_rfl) ?_
      exact ⟨rfl, hB.fin hR⟩
    · skip
      replace hI := hI.re 30 (.v (.bool false)) rfl (congrArg Value.bool hc8)
      try simp only [decide_eq_true_eq, decide_eq_false_iff_not, beq_iff_eq, bne_iff_ne, beq_eq_false_iff_ne, bne_eq_false_iff_eq, Bool.and_eq_true, Bool.and_eq_false_iff, Bool.or_eq_true, Bool.or_eq_false_iff, Bool.not_eq_true', Bool.not_eq_false', ne_eq] at hc8
      obtain ⟨hbt, hn00⟩ : b = true ∧ ¬ n = 0 := law_cond hc8
      obtain ⟨hs40, hp0, hn1, hpn0⟩ := hwl hbt
      have hs4 : xs.length ≤ 4096 := by omega
      obtain ⟨p', hp'⟩ := Int.eq_ofNat_of_zero_le hp0
      obtain ⟨n', hn'⟩ := Int.eq_ofNat_of_zero_le hn1
      have hn0 : 0 < n' := by omega
      have hpn : p' + n' ≤ 8 * xs.length := by omega
      replace hI := hI.re 1 (.v (.int .i64 ((p' : Nat) : Int))) rfl (congrArg (Value.int .i64) (hp'))
      replace hI := hI.re 2 (.v (.int .i64 ((n' : Nat) : Int))) rfl (congrArg (Value.int .i64) (hn'))
      refine wp_skip ?_
      refine then_n ?_
      refine wp_seq ?_
      refine reg (is := [0, 1, 2, 3, 4, 5, 6, 7, 8]) (by kernel_rfl) ?_
      refine part_ tab [0, 1, 2] [3, 4, 5, 6, 7, 8] (by rfl) (k := 0) (hs := []) (sy := []) (ks := [34, 33, 32, 2, 1, 0]) (bs := []) (gs := [])
          (L' := [(34, .v (.int .i64 ((n' : Nat) : Int))), (33, .v (.int .i64 ((p' : Nat) : Int))), (32, .v (.slice ad xs.length cap)), (2, .v (.int .i64 ((n' : Nat) : Int))), (1, .v (.int .i64 ((p' : Nat) : Int))), (0, .v (.slice ad xs.length cap))])
          (H' := []) (G' := []) (k' := 0) hR hI (by kernel_rfl)
          .nil (fun e10 a10 w10 hag hR hI => ?_)
      refine callOp (ys := [.v (.slice ad xs.length cap), .v (.int .i64 ((p' : Nat) : Int)), .v (.int .i64 ((n' : Nat) : Int))]) hI rfl rfl ⟨_, rfl, rfl, rfl⟩ (by kernel_rfl) Try.func5 rfl rfl ?_
      refine (bitList_spec (hx.now hB hR) hpn hs4).mono ?_
      rintro ex w11 ⟨zs, zd, zc, rfl, hk, hz, hzl, hzb⟩
      replace hx := hx.next hB hR hk
      have hB_ := hB.next hR hk
      replace hR := hR.after hk
      replace hB := hB_; clear hB_ hk
      refine ⟨_, rfl, ?_⟩
      replace hI := hI.put (d := some 35) (x := .v (.tuple #[.slice zd zs.length zc, .bool true])) (by intro t ht; cases ht; decide) rfl
      replace hI := hI.sel [35, 34, 33, 32, 2, 1, 0] (by kernel_rfl : sel _ _ = some [(35, .v (.tuple #[.slice zd zs.length zc, .bool true])), (34, .v (.int .i64 ((n' : Nat) : Int))), (33, .v (.int .i64 ((p' : Nat) : Int))), (32, .v (.slice ad xs.length cap)), (2, .v (.int .i64 ((n' : Nat) : Int))), (1, .v (.int .i64 ((p' : Nat) : Int))), (0, .v (.slice ad xs.length cap))])
      refine part_ tab [4, 5, 6, 7, 8] [] (by rfl) (k := 0) (hs := []) (sy := []) (ks := [7, 2, 1, 0]) (bs := []) (gs := [])
          (L' := [(7, .v (.slice zd zs.length zc)), (2, .v (.int .i64 ((n' : Nat) : Int))), (1, .v (.int .i64 ((p' : Nat) : Int))), (0, .v (.slice ad xs.length cap))])
          (H' := []) (G' := []) (k' := 0) hR hI (by kernel_rfl)
          .nil (fun e12 a12 w12 hag hR hI => ?_)
      refine ops_nil ?_
      refine then_n ?_
      refine wp_seq ?_
      refine wp_seq ?_
      refine reg (is := [0, 1, 2, 3, 4, 5, 6]) (by kernel_rfl) ?_
      refine part_ tab [0, 1, 2] [3, 4, 5, 6] (by rfl) (k := 0) (hs := []) (sy := []) (ks := [40, 39, 38, 7, 2, 1, 0]) (bs := []) (gs := [])
          (L' := [(40, .v (.int .i64 ((n' : Nat) : Int))), (39, .v (.int .i64 ((p' : Nat) : Int))), (38, .v (.slice ad xs.length cap)), (7, .v (.slice zd zs.length zc)), (2, .v (.int .i64 ((n' : Nat) : Int))), (1, .v (.int .i64 ((p' : Nat) : Int))), (0, .v (.slice ad xs.length cap))])
          (H' := []) (G' := []) (k' := 0) hR hI (by kernel_rfl)
          .nil (fun e13 a13 w13 hag hR hI => ?_)
      refine callOp (ys := [.v (.slice ad xs.length cap), .v (.int .i64 ((p' : Nat) : Int)), .v (.int .i64 ((n' : Nat) : Int))]) hI rfl rfl ⟨_, rfl, rfl, rfl⟩ (by kernel_rfl) Try.func7 rfl rfl ?_
      refine (readBits_spec (hx.now hB hR) hn0 hpn hs4).mono ?_
      rintro ex w14 ⟨rs, rd, rc, rfl, hk, hr, hrl, hrb⟩
      replace hx := hx.next hB hR hk
      replace hz := hz.next hB hR hk
      have hB_ := hB.next hR hk
      replace hR := hR.after hk
      replace hB := hB_; clear hB_ hk
      refine ⟨_, rfl, ?_⟩
      replace hI := hI.put (d := some 41) (x := .v (.slice rd rs.length rc)) (by intro t ht; cases ht; decide) rfl
      replace hI := hI.sel [41, 40, 39, 38, 7, 2, 1, 0] (by kernel_rfl : sel _ _ = some [(41, .v (.slice rd rs.length rc)), (40, .v (.int .i64 ((n' : Nat) : Int))), (39, .v (.int .i64 ((p' : Nat) : Int))), (38, .v (.slice ad xs.length cap)), (7, .v (.slice zd zs.length zc)), (2, .v (.int .i64 ((n' : Nat) : Int))), (1, .v (.int .i64 ((p' : Nat) : Int))), (0, .v (.slice ad xs.length cap))])
      refine part_ tab [4] [5, 6] (by rfl) (k := 0) (hs := []) (sy := []) (ks := [42, 41, 7, 2, 1, 0]) (bs := []) (gs := [])
          (L' := [(42, .v (.slice zd zs.length zc)), (41, .v (.slice rd rs.length rc)), (7, .v (.slice zd zs.length zc)), (2, .v (.int .i64 ((n' : Nat) : Int))), (1, .v (.int .i64 ((p' : Nat) : Int))), (0, .v (.slice ad xs.length cap))])
          (H' := []) (G' := []) (k' := 0) hR hI (by kernel_rfl)
          .nil (fun e15 a15 w15 hag hR hI => ?_)
      refine callOp (ys := [.v (.slice rd rs.length rc), .v (.slice zd zs.length zc)]) hI rfl rfl ⟨_, rfl, rfl, rfl⟩ (by kernel_rfl) Try.func6 rfl rfl ?_
      refine (sameBools_spec (hr.now hB hR) (hz.now hB hR)).mono ?_
      rintro ex w16 ⟨b2, rfl, hk, hb2⟩
      replace hR := hR.same hk; clear hk
      obtain rfl : b2 = true := hb2.2 (eq_of_bits hrl hzl hrb hzb)
      refine ⟨_, rfl, ?_⟩
      replace hI := hI.put (d := some 43) (x := .v (.bool true)) (by intro t ht; cases ht; decide) rfl
      replace hI := hI.sel [43, 42, 41, 7, 2, 1, 0] (by kernel_rfl : sel _ _ = some [(43, .v (.bool true)), (42, .v (.slice zd zs.length zc)), (41, .v (.slice rd rs.length rc)), (7, .v (.slice zd zs.length zc)), (2, .v (.int .i64 ((n' : Nat) : Int))), (1, .v (.int .i64 ((p' : Nat) : Int))), (0, .v (.slice ad xs.length cap))])
      refine part_ tab [6] [] (by rfl) (k := 0) (hs := []) (sy := []) (ks := [44, 7, 2, 1, 0]) (bs := []) (gs := [])
          (L' := [(44, .v (.bool false)), (7, .v (.slice zd zs.length zc)), (2, .v (.int .i64 ((n' : Nat) : Int))), (1, .v (.int .i64 ((p' : Nat) : Int))), (0, .v (.slice ad xs.length cap))])
          (H' := []) (G' := []) (k' := 0) hR hI (by kernel_rfl)
          .nil (fun e17 a17 w17 hag hR hI => ?_)
      refine ops_nil ?_
      refine then_n ?_
      refine cnd_f hI (by kernel_rfl) ?_
      refine wp_skip ?_
      refine then_n ?_
      refine wp_seq ?_
      refine reg (is := [0, 1, 2, 3, 4, 5, 6, 7, 8, 9, 10]) (by kernel_rfl) ?_
      refine part_ tab [0, 1, 2] [3, 4, 5, 6, 7, 8, 9, 10] (by rfl) (k := 0) (hs := []) (sy := []) (ks := [48, 47, 46, 7]) (bs := []) (gs := [])
          (L' := [(48, .v (.int .i64 ((n' : Nat) : Int))), (47, .v (.int .i64 ((p' : Nat) : Int))), (46, .v (.slice ad xs.length cap)), (7, .v (.slice zd zs.length zc))])
          (H' := []) (G' := []) (k' := 0) hR hI (by kernel_rfl)
          .nil (fun e18 a18 w18 hag hR hI => ?_)
      refine callOp (ys := [.v (.slice ad xs.length cap), .v (.int .i64 ((p' : Nat) : Int)), .v (.int .i64 ((n' : Nat) : Int))]) hI rfl rfl ⟨_, rfl, rfl, rfl⟩ (by kernel_rfl) Try.func8 rfl rfl ?_
      refine (readWords_spec (hx.now hB hR) hn0 hpn hs4).mono ?_
      rintro ex w19 ⟨ws, wd, wc, ts, td, tc, vs, vd, vc, nw, rfl, hk, hws, hts, hvs, hnw, hW, hBy⟩
      replace hr := hr.next hB hR hk
      replace hx := hx.next hB hR hk
      replace hz := hz.next hB hR hk
      have hB_ := hB.next hR hk
      replace hR := hR.after hk
      replace hB := hB_; clear hB_ hk
      have hwl_ := hW.1; have htl_ := hBy.1; have hvl_ := hBy.2.1; have hrw_ := hws.room; have hmw_ := hws.max; have hrt_ := hts.room; have hmt_ := hts.max; have hrv_ := hvs.room; have hmv_ := hvs.max
      refine ⟨_, rfl, ?_⟩
      replace hI := hI.put (d := some 49) (x := .v (.tuple #[.slice wd ws.length wc, .slice td ts.length tc, .slice vd vs.length vc])) (by intro t ht; cases ht; decide) rfl
      replace hI := hI.sel [49, 48, 47, 46, 7] (by kernel_rfl : sel _ _ = some [(49, .v (.tuple #[.slice wd ws.length wc, .slice td ts.length tc, .slice vd vs.length vc])), (48, .v (.int .i64 ((n' : Nat) : Int))), (47, .v (.int .i64 ((p' : Nat) : Int))), (46, .v (.slice ad xs.length cap)), (7, .v (.slice zd zs.length zc))])
      refine part_ tab [4, 5, 6, 7, 8, 9, 10] [] (by rfl) (k := 0) (hs := []) (sy := []) (ks := [11, 10, 9, 7]) (bs := []) (gs := [])
          (L' := [(11, .v (.slice vd vs.length vc)), (10, .v (.slice td ts.length tc)), (9, .v (.slice wd ws.length wc)), (7, .v (.slice zd zs.length zc))])
          (H' := []) (G' := []) (k' := 0) hR hI (by kernel_rfl)
          .nil (fun e20 a20 w20 hag hR hI => ?_)
      refine ops_nil ?_
      refine then_n ?_
      refine reg_seq tab (k := 0) (hs := []) (sy := []) (ks := [12, 11, 10, 9, 7]) (bs := []) (gs := [])
          (L' := [(12, .v (.slice none 0 0)), (11, .v (.slice vd vs.length vc)), (10, .v (.slice td ts.length tc)), (9, .v (.slice wd ws.length wc)), (7, .v (.slice zd zs.length zc))])
          (H' := []) (G' := []) (k' := 0) hR hI (by kernel_rfl)
          .nil (fun e21 a21 w21 hag hR hI => ?_)
      refine wp_seq ?_
      refine reg_seq tab (k := 0) (hs := []) (sy := []) (ks := [55, 54, 53, 12, 11, 10, 7]) (bs := []) (gs := [])
          (L' := [(55, .v (.int .i64 0)), (54, .v (.int .i64 ((ws.length : Nat) : Int))), (53, .v (.slice wd ws.length wc)), (12, .v (.slice none 0 0)), (11, .v (.slice vd vs.length vc)), (10, .v (.slice td ts.length tc)), (7, .v (.slice zd zs.length zc))])
          (H' := []) (G' := []) (k' := 0) hR hI (by kernel_rfl)
          .nil (fun e22 a22 w22 hag hR hI => ?_)
      refine wp_block ?_
      obtain ⟨e23, hag_, hr_, hR_⟩ := hR.nilRow (L := [(55, .v (.int .i64 0)), (54, .v (.int .i64 ((ws.length : Nat) : Int))), (53, .v (.slice wd ws.length wc)), (12, .v (.slice none 0 0)), (11, .v (.slice vd vs.length vc)), (10, .v (.slice td ts.length tc)), (7, .v (.slice zd zs.length zc))]) 0 (by kernel_rfl) 4 1
      replace hI := hI.agreeB (H := []) (G := []) (by kernel_rfl) hag_; replace hR := hR_; replace hI := hI.re 12 (.row 0) rfl hr_.symm; clear hag_ hr_ hR_
      refine lp (γ := Nat × List Bool) (fun (a, gs) => (⟨[(7, .v (.slice zd zs.length zc)), (10, .v (.slice td ts.length tc)), (11, .v (.slice vd vs.length vc)), (12, .row 0), (53, .v (.slice wd ws.length wc)), (54, .v (.int .i64 ((ws.length : Nat) : Int))), (55, .v (.int .i64 ((a : Nat) : Int)))], [], [⟨0, 4, 1, (64 * a), (bools gs)⟩], 1⟩ : Sy)) (fun (a, gs) e => a ≤ ws.length ∧ gs.length = 64 * a ∧ ∀ j, j < 64 * a → gs.getD j false = bitN xs (p' + j)) (fun (a, gs) => ws.length - a) (0, []) (⟨Nat.zero_le _, rfl, fun j h => absurd h (by omega)⟩)
          (hR.sel [] [0] (by kernel_rfl) (by kernel_rfl)) (hI.sel [7, 10, 11, 12, 53, 54, 55] (by kernel_rfl)) ?_
      clear hR hI
      rintro ⟨a, gs⟩ e24 a24 w24 hp hR hI
      dsimp only at hp hR hI
      obtain ⟨haw, hgl, hgb⟩ := hp
      refine reg_seq tab (k := 1) (hs := []) (sy := []) (ks := [56, 7, 10, 11, 12, 53, 54, 55]) (bs := []) (gs := [0])
          (L' := [(56, .v (.bool (decide (((a : Nat) : Int) < ((ws.length : Nat) : Int))))), (7, .v (.slice zd zs.length zc)), (10, .v (.slice td ts.length tc)), (11, .v (.slice vd vs.length vc)), (12, .row 0), (53, .v (.slice wd ws.length wc)), (54, .v (.int .i64 ((ws.length : Nat) : Int))), (55, .v (.int .i64 ((a : Nat) : Int)))])
          (H' := []) (G' := [⟨0, 4, 1, (64 * a), (bools gs)⟩]) (k' := 1) hR hI (by kernel_rfl)
          .nil (fun e25 a25 w25 hag hR hI => ?_)
      refine wp_seq ?_
      refine cnd (b := decide (((a : Nat) : Int) < ((ws.length : Nat) : Int))) hI (by kernel_rfl) (fun hc26 => ?_) (fun hc26 => ?_)
      · skip
        replace hI := hI.re 56 (.v (.bool true)) rfl (congrArg Value.bool hc26)
        try simp only [decide_eq_true_eq, decide_eq_false_iff_not, beq_iff_eq, bne_iff_ne, beq_eq_false_iff_ne, bne_eq_false_iff_eq, Bool.and_eq_true, Bool.and_eq_false_iff, Bool.or_eq_true, Bool.or_eq_false_iff, Bool.not_eq_true', Bool.not_eq_false', ne_eq] at hc26
        refine wp_skip ?_
        refine then_n ?_
        refine wp_seq ?_
        refine wp_block ?_
        refine reg_seq tab (k := 1) (hs := [(1, .val (.v (.int .u64 ((ws.getD a 0 : Nat) : Int))))]) (sy := []) (ks := [14, 7, 10, 11, 12, 53, 54, 55]) (bs := []) (gs := [0])
            (L' := [(14, .v (.int .u64 ((ws.getD a 0 : Nat) : Int))), (7, .v (.slice zd zs.length zc)), (10, .v (.slice td ts.length tc)), (11, .v (.slice vd vs.length vc)), (12, .row 0), (53, .v (.slice wd ws.length wc)), (54, .v (.int .i64 ((ws.length : Nat) : Int))), (55, .v (.int .i64 ((a : Nat) : Int)))])
            (H' := []) (G' := [⟨0, 4, 1, (64 * a), (bools gs)⟩]) (k' := 1) hR hI (by kernel_rfl)
            (.cons (by omega : (0 : Int) ≤ ((a : Nat) : Int) ∧ ((a : Nat) : Int) < ((ws.length : Nat) : Int)) (.cons (nats_some (i := a) (hws.cells.mono hB.cls) (by omega)) (.cons (nats_load (i := a) (m := 1) (hws.cells.mono hB.cls) (by omega)) .nil))) (fun e27 a27 w27 hag hR hI => ?_)
        refine reg_seq tab (k := 1) (hs := []) (sy := []) (ks := [59, 14, 7, 10, 11, 12, 53, 54, 55]) (bs := []) (gs := [0])
            (L' := [(59, .v (.int .i64 0)), (14, .v (.int .u64 ((ws.getD a 0 : Nat) : Int))), (7, .v (.slice zd zs.length zc)), (10, .v (.slice td ts.length tc)), (11, .v (.slice vd vs.length vc)), (12, .row 0), (53, .v (.slice wd ws.length wc)), (54, .v (.int .i64 ((ws.length : Nat) : Int))), (55, .v (.int .i64 ((a : Nat) : Int)))])
            (H' := []) (G' := [⟨0, 4, 1, (64 * a), (bools gs)⟩]) (k' := 1) hR hI (by kernel_rfl)
            .nil (fun e28 a28 w28 hag hR hI => ?_)
        refine wp_block ?_
        refine lp (γ := Nat × List Bool) (fun (i, gs) => (⟨[(7, .v (.slice zd zs.length zc)), (10, .v (.slice td ts.length tc)), (11, .v (.slice vd vs.length vc)), (12, .row 0), (53, .v (.slice wd ws.length wc)), (54, .v (.int .i64 ((ws.length : Nat) : Int))), (55, .v (.int .i64 ((a : Nat) : Int))), (14, .v (.int .u64 ((ws.getD a 0 : Nat) : Int))), (59, .v (.int .i64 ((i : Nat) : Int)))], [], [⟨0, 4, 1, (64 * a + i), (bools gs)⟩], 1⟩ : Sy)) (fun (i, gs) e => i ≤ 64 ∧ gs.length = 64 * a + i ∧ ∀ j, j < 64 * a + i → gs.getD j false = bitN xs (p' + j)) (fun (i, gs) => 64 - i) (0, gs) (⟨Nat.zero_le _, hgl, hgb⟩)
            (hR.sel [] [0] (by kernel_rfl) (by kernel_rfl)) (hI.sel [7, 10, 11, 12, 53, 54, 55, 14, 59] (by kernel_rfl)) ?_
        clear hR hI
        rintro ⟨i, gs⟩ e29 a29 w29 hp hR hI
        dsimp only at hp hR hI
        obtain ⟨hi6, hgl, hgb⟩ := hp
        refine reg_seq tab (k := 1) (hs := []) (sy := []) (ks := [60, 7, 10, 11, 12, 53, 54, 55, 14, 59]) (bs := []) (gs := [0])
            (L' := [(60, .v (.bool (decide (((i : Nat) : Int) < (64 : Int))))), (7, .v (.slice zd zs.length zc)), (10, .v (.slice td ts.length tc)), (11, .v (.slice vd vs.length vc)), (12, .row 0), (53, .v (.slice wd ws.length wc)), (54, .v (.int .i64 ((ws.length : Nat) : Int))), (55, .v (.int .i64 ((a : Nat) : Int))), (14, .v (.int .u64 ((ws.getD a 0 : Nat) : Int))), (59, .v (.int .i64 ((i : Nat) : Int)))])
            (H' := []) (G' := [⟨0, 4, 1, (64 * a + i), (bools gs)⟩]) (k' := 1) hR hI (by kernel_rfl)
            .nil (fun e30 a30 w30 hag hR hI => ?_)
        refine wp_seq ?_
        refine cnd (b := decide (((i : Nat) : Int) < (64 : Int))) hI (by kernel_rfl) (fun hc31 => ?_) (fun hc31 => ?_)
        · skip
          replace hI := hI.re 60 (.v (.bool true)) rfl (congrArg Value.bool hc31)
          try simp only [decide_eq_true_eq, decide_eq_false_iff_not, beq_iff_eq, bne_iff_ne, beq_eq_false_iff_ne, bne_eq_false_iff_eq, Bool.and_eq_true, Bool.and_eq_false_iff, Bool.or_eq_true, Bool.or_eq_false_iff, Bool.not_eq_true', Bool.not_eq_false', ne_eq] at hc31
          refine wp_skip ?_
          refine then_n ?_
          refine wp_seq ?_
          refine wp_block ?_
          refine reg_seq tab (k := 1) (hs := []) (sy := []) (ks := [15, 7, 10, 11, 12, 53, 54, 55, 14, 59]) (bs := []) (gs := [0])
              (L' := [(15, .v (.int .i64 ((i : Nat) : Int))), (7, .v (.slice zd zs.length zc)), (10, .v (.slice td ts.length tc)), (11, .v (.slice vd vs.length vc)), (12, .row 0), (53, .v (.slice wd ws.length wc)), (54, .v (.int .i64 ((ws.length : Nat) : Int))), (55, .v (.int .i64 ((a : Nat) : Int))), (14, .v (.int .u64 ((ws.getD a 0 : Nat) : Int))), (59, .v (.int .i64 ((i : Nat) : Int)))])
              (H' := []) (G' := [⟨0, 4, 1, (64 * a + i), (bools gs)⟩]) (k' := 1) hR hI (by kernel_rfl)
              .nil (fun e32 a32 w32 hag hR hI => ?_)
          refine reg_all tab (k := 1) (hs := [(4, .eq (.int .u64 ((ws.getD a 0 / 2 ^ i % 2 : Nat) : Int)))]) (sy := []) (ks := [12, 7, 10, 11, 53, 54, 55, 14, 59]) (bs := []) (gs := [2])
              (L' := [(12, .row 2), (7, .v (.slice zd zs.length zc)), (10, .v (.slice td ts.length tc)), (11, .v (.slice vd vs.length vc)), (53, .v (.slice wd ws.length wc)), (54, .v (.int .i64 ((ws.length : Nat) : Int))), (55, .v (.int .i64 ((a : Nat) : Int))), (14, .v (.int .u64 ((ws.getD a 0 : Nat) : Int))), (59, .v (.int .i64 ((i : Nat) : Int)))])
              (H' := []) (G' := [⟨2, 4, 1, (64 * a + i + 1), ((bools gs) ++ [.bool (((ws.getD a 0 / 2 ^ i % 2 : Nat) : Int) == (1 : Int))])⟩]) (k' := 3) hR hI (by kernel_rfl)
              (.cons (by omega : (0 : Int) ≤ ((i : Nat) : Int)) (.cons (by show _ ≤ (64 : Int); omega : ((i : Nat) : Int) ≤ (IntKind.u64.bits : Int)) (.cons (congrArg (Value.int .u64) (u64_bit _ (div_le_self' (mem_getD hW.2.1 (by decide) a)) : bits .and .u64 (((ws.getD a 0) / 2 ^ i : Nat) : Int) (1 : Int) = ((ws.getD a 0 / 2 ^ i % 2 : Nat) : Int))) (.cons (by have hm_ : maxLen = 9223372036854775807 := rfl; rw [hm_]; omega : 64 * a + i + 1 ≤ maxLen) (.cons (by omega : (64 * a + i + 1) * 1 ≤ 140737488355328) .nil))))) (fun e33 a33 w33 hag hR hI => ?_)
          refine normal_block ?_
          refine then_n ?_
          refine reg_all tab (k := 3) (hs := [(0, .nw)]) (sy := []) (ks := [59, 12, 7, 10, 11, 53, 54, 55, 14]) (bs := []) (gs := [2])
              (L' := [(59, .v (.int .i64 ((i + 1 : Nat) : Int))), (12, .row 2), (7, .v (.slice zd zs.length zc)), (10, .v (.slice td ts.length tc)), (11, .v (.slice vd vs.length vc)), (53, .v (.slice wd ws.length wc)), (54, .v (.int .i64 ((ws.length : Nat) : Int))), (55, .v (.int .i64 ((a : Nat) : Int))), (14, .v (.int .u64 ((ws.getD a 0 : Nat) : Int)))])
              (H' := []) (G' := [⟨2, 4, 1, (64 * a + i + 1), ((bools gs) ++ [.bool (((ws.getD a 0 / 2 ^ i % 2 : Nat) : Int) == (1 : Int))])⟩]) (k' := 3) hR hI (by kernel_rfl)
              (.cons (inR_i64 (n := ((i : Nat) : Int) + (1 : Int)) (by omega)) .nil) (fun e34 a34 w34 hag hR hI => ?_)
          refine then_n ?_
          rw [bools_snoc] at hR
          have hren_ : Sy.ren [(0, 2)] ⟨[(59, .v (.int .i64 ((i + 1 : Nat) : Int))), (12, .row 0), (7, .v (.slice zd zs.length zc)), (10, .v (.slice td ts.length tc)), (11, .v (.slice vd vs.length vc)), (53, .v (.slice wd ws.length wc)), (54, .v (.int .i64 ((ws.length : Nat) : Int))), (55, .v (.int .i64 ((a : Nat) : Int))), (14, .v (.int .u64 ((ws.getD a 0 : Nat) : Int)))], [], [⟨0, 4, 1, (64 * a + i + 1), (bools (gs ++ [((ws.getD a 0 / 2 ^ i % 2 : Nat) : Int) == (1 : Int)]))⟩], 0⟩ = ⟨[(59, .v (.int .i64 ((i + 1 : Nat) : Int))), (12, .row 2), (7, .v (.slice zd zs.length zc)), (10, .v (.slice td ts.length tc)), (11, .v (.slice vd vs.length vc)), (53, .v (.slice wd ws.length wc)), (54, .v (.int .i64 ((ws.length : Nat) : Int))), (55, .v (.int .i64 ((a : Nat) : Int))), (14, .v (.int .u64 ((ws.getD a 0 : Nat) : Int)))], [], [⟨2, 4, 1, (64 * a + i + 1), (bools (gs ++ [((ws.getD a 0 / 2 ^ i % 2 : Nat) : Int) == (1 : Int)]))⟩], 0⟩ := by kernel_rfl
          replace hI := hI.rename (S := ⟨[(59, .v (.int .i64 ((i + 1 : Nat) : Int))), (12, .row 2), (7, .v (.slice zd zs.length zc)), (10, .v (.slice td ts.length tc)), (11, .v (.slice vd vs.length vc)), (53, .v (.slice wd ws.length wc)), (54, .v (.int .i64 ((ws.length : Nat) : Int))), (55, .v (.int .i64 ((a : Nat) : Int))), (14, .v (.int .u64 ((ws.getD a 0 : Nat) : Int)))], [], [⟨2, 4, 1, (64 * a + i + 1), (bools (gs ++ [((ws.getD a 0 / 2 ^ i % 2 : Nat) : Int) == (1 : Int)]))⟩], 0⟩) (S' := ⟨[(59, .v (.int .i64 ((i + 1 : Nat) : Int))), (12, .row 0), (7, .v (.slice zd zs.length zc)), (10, .v (.slice td ts.length tc)), (11, .v (.slice vd vs.length vc)), (53, .v (.slice wd ws.length wc)), (54, .v (.int .i64 ((ws.length : Nat) : Int))), (55, .v (.int .i64 ((a : Nat) : Int))), (14, .v (.int .u64 ((ws.getD a 0 : Nat) : Int)))], [], [⟨0, 4, 1, (64 * a + i + 1), (bools (gs ++ [((ws.getD a 0 / 2 ^ i % 2 : Nat) : Int) == (1 : Int)]))⟩], 0⟩) hren_; replace hR := hR.rename (S := ⟨[(59, .v (.int .i64 ((i + 1 : Nat) : Int))), (12, .row 2), (7, .v (.slice zd zs.length zc)), (10, .v (.slice td ts.length tc)), (11, .v (.slice vd vs.length vc)), (53, .v (.slice wd ws.length wc)), (54, .v (.int .i64 ((ws.length : Nat) : Int))), (55, .v (.int .i64 ((a : Nat) : Int))), (14, .v (.int .u64 ((ws.getD a 0 : Nat) : Int)))], [], [⟨2, 4, 1, (64 * a + i + 1), (bools (gs ++ [((ws.getD a 0 / 2 ^ i % 2 : Nat) : Int) == (1 : Int)]))⟩], 0⟩) (S' := ⟨[(59, .v (.int .i64 ((i + 1 : Nat) : Int))), (12, .row 0), (7, .v (.slice zd zs.length zc)), (10, .v (.slice td ts.length tc)), (11, .v (.slice vd vs.length vc)), (53, .v (.slice wd ws.length wc)), (54, .v (.int .i64 ((ws.length : Nat) : Int))), (55, .v (.int .i64 ((a : Nat) : Int))), (14, .v (.int .u64 ((ws.getD a 0 : Nat) : Int)))], [], [⟨0, 4, 1, (64 * a + i + 1), (bools (gs ++ [((ws.getD a 0 / 2 ^ i % 2 : Nat) : Int) == (1 : Int)]))⟩], 0⟩) hren_ (by kernel_rfl) (by kernel_rfl); dsimp only at hI hR; clear hren_
          have hG_ : ([⟨0, 4, 1, (64 * a + i + 1), (bools (gs ++ [((ws.getD a 0 / 2 ^ i % 2 : Nat) : Int) == (1 : Int)]))⟩] : List Row) = [⟨0, 4, 1, (64 * a + (i + 1)), (bools (gs ++ [((ws.getD a 0 / 2 ^ i % 2 : Nat) : Int) == (1 : Int)]))⟩] := by rw [((by omega) : (64 * a + i + 1 : Nat) = 64 * a + (i + 1))]
          rw [hG_] at hR; clear hG_
          exact ⟨(i + 1, gs ++ [((ws.getD a 0 / 2 ^ i % 2 : Nat) : Int) == (1 : Int)]), (Env.ren e34 [(0, 2)]), ⟨by omega, by rw [List.length_append, hgl]; rfl, getD_snoc_next (f := fun j => bitN xs (p' + j)) hgl (by rw [bitT, hW.2.2 a (by omega) i (by omega)]; show _ = bitN xs (p' + (64 * a + i)); rw [Nat.add_assoc]) hgb⟩, by (try dsimp only); omega, hR.sel [] [0] (by kernel_rfl) (by kernel_rfl), hI.sel [7, 10, 11, 12, 53, 54, 55, 14, 59] (by kernel_rfl)⟩
        · skip
          replace hI := hI.re 60 (.v (.bool false)) rfl (congrArg Value.bool hc31)
          try simp only [decide_eq_true_eq, decide_eq_false_iff_not, beq_iff_eq, bne_iff_ne, beq_eq_false_iff_ne, bne_eq_false_iff_eq, Bool.and_eq_true, Bool.and_eq_false_iff, Bool.or_eq_true, Bool.or_eq_false_iff, Bool.not_eq_true', Bool.not_eq_false', ne_eq] at hc31
          refine wp_exit ?_
          refine exit_then ?_
          refine exit_then ?_
          refine exit_hit ?_
          refine normal_block ?_
          refine then_n ?_
          refine reg_all tab (k := 1) (hs := [(0, .nw)]) (sy := []) (ks := [55, 7, 10, 11, 12, 53, 54]) (bs := []) (gs := [0])
              (L' := [(55, .v (.int .i64 ((a + 1 : Nat) : Int))), (7, .v (.slice zd zs.length zc)), (10, .v (.slice td ts.length tc)), (11, .v (.slice vd vs.length vc)), (12, .row 0), (53, .v (.slice wd ws.length wc)), (54, .v (.int .i64 ((ws.length : Nat) : Int)))])
              (H' := []) (G' := [⟨0, 4, 1, (64 * a + i), (bools gs)⟩]) (k' := 1) hR hI (by kernel_rfl)
              (.cons (inR_i64 (n := ((a : Nat) : Int) + (1 : Int)) (by omega)) .nil) (fun e35 a35 w35 hag hR hI => ?_)
          refine then_n ?_
          have hG_ : ([⟨0, 4, 1, (64 * a + i), (bools gs)⟩] : List Row) = [⟨0, 4, 1, (64 * (a + 1)), (bools gs)⟩] := by rw [((by omega) : (64 * a + i : Nat) = 64 * (a + 1))]
          rw [hG_] at hR; clear hG_
          exact ⟨(a + 1, gs), e35, ⟨by omega, by omega, fun j hj => hgb j (by omega)⟩, by (try dsimp only); omega, hR.sel [] [0] (by kernel_rfl) (by kernel_rfl), hI.sel [7, 10, 11, 12, 53, 54, 55] (by kernel_rfl)⟩
      · skip
        replace hI := hI.re 56 (.v (.bool false)) rfl (congrArg Value.bool hc26)
        try simp only [decide_eq_true_eq, decide_eq_false_iff_not, beq_iff_eq, bne_iff_ne, beq_eq_false_iff_ne, bne_eq_false_iff_eq, Bool.and_eq_true, Bool.and_eq_false_iff, Bool.or_eq_true, Bool.or_eq_false_iff, Bool.not_eq_true', Bool.not_eq_false', ne_eq] at hc26
        refine wp_exit ?_
        refine exit_then ?_
        refine exit_then ?_
        refine exit_hit ?_
        refine then_n ?_
        refine wp_seq ?_
        refine reg_seq tab (k := 1) (hs := []) (sy := []) (ks := [76, 7, 10, 11, 12]) (bs := []) (gs := [0])
            (L' := [(76, .v (.bool (((ts.length : Nat) : Int) != ((vs.length : Nat) : Int)))), (7, .v (.slice zd zs.length zc)), (10, .v (.slice td ts.length tc)), (11, .v (.slice vd vs.length vc)), (12, .row 0)])
            (H' := []) (G' := [⟨0, 4, 1, (64 * a), (bools gs)⟩]) (k' := 1) hR hI (by kernel_rfl)
            .nil (fun e36 a36 w36 hag hR hI => ?_)
        refine cnd (b := (((ts.length : Nat) : Int) != ((vs.length : Nat) : Int))) hI (by kernel_rfl) (fun hc37 => ?_) (fun hc37 => ?_)
        · skip
          replace hI := hI.re 76 (.v (.bool true)) rfl (congrArg Value.bool hc37)
          try simp only [decide_eq_true_eq, decide_eq_false_iff_not, beq_iff_eq, bne_iff_ne, beq_eq_false_iff_ne, bne_eq_false_iff_eq, Bool.and_eq_true, Bool.and_eq_false_iff, Bool.or_eq_true, Bool.or_eq_false_iff, Bool.not_eq_true', Bool.not_eq_false', ne_eq] at hc37
          omega
        · skip
          replace hI := hI.re 76 (.v (.bool false)) rfl (congrArg Value.bool hc37)
          try simp only [decide_eq_true_eq, decide_eq_false_iff_not, beq_iff_eq, bne_iff_ne, beq_eq_false_iff_ne, bne_eq_false_iff_eq, Bool.and_eq_true, Bool.and_eq_false_iff, Bool.or_eq_true, Bool.or_eq_false_iff, Bool.not_eq_true', Bool.not_eq_false', ne_eq] at hc37
          refine wp_skip ?_
          refine then_n ?_
          refine wp_seq ?_
          refine reg_seq tab (k := 1) (hs := []) (sy := []) (ks := [79, 78, 77, 7, 11, 12]) (bs := []) (gs := [0])
              (L' := [(79, .v (.int .i64 0)), (78, .v (.int .i64 ((ts.length : Nat) : Int))), (77, .v (.slice td ts.length tc)), (7, .v (.slice zd zs.length zc)), (11, .v (.slice vd vs.length vc)), (12, .row 0)])
              (H' := []) (G' := [⟨0, 4, 1, (64 * a), (bools gs)⟩]) (k' := 1) hR hI (by kernel_rfl)
              .nil (fun e38 a38 w38 hag hR hI => ?_)
          refine wp_block ?_
          have hG_ : ([⟨0, 4, 1, (64 * a), (bools gs)⟩] : List Row) = [⟨0, 4, 1, (64 * nw + min (8 * 0) (n' - nw * 64)), (bools gs)⟩] := by rw [((by omega) : (64 * a : Nat) = 64 * nw + min (8 * 0) (n' - nw * 64))]
          rw [hG_] at hR; clear hG_
          refine lp (γ := Nat × List Bool) (fun (a, gs) => (⟨[(7, .v (.slice zd zs.length zc)), (11, .v (.slice vd vs.length vc)), (12, .row 0), (77, .v (.slice td ts.length tc)), (78, .v (.int .i64 ((ts.length : Nat) : Int))), (79, .v (.int .i64 ((a : Nat) : Int)))], [], [⟨0, 4, 1, (64 * nw + min (8 * a) (n' - nw * 64)), (bools gs)⟩], 1⟩ : Sy)) (fun (a, gs) e => a ≤ ts.length ∧ gs.length = 64 * nw + min (8 * a) (n' - nw * 64) ∧ ∀ j, j < 64 * nw + min (8 * a) (n' - nw * 64) → gs.getD j false = bitN xs (p' + j)) (fun (a, gs) => ts.length - a) (0, gs) (⟨Nat.zero_le _, by omega, fun j h => hgb j (by omega)⟩)
              (hR.sel [] [0] (by kernel_rfl) (by kernel_rfl)) (hI.sel [7, 11, 12, 77, 78, 79] (by kernel_rfl)) ?_
          clear hR hI
          rintro ⟨a, gs⟩ e39 a39 w39 hp hR hI
          dsimp only at hp hR hI
          obtain ⟨hat, hgl, hgb⟩ := hp
          refine reg_seq tab (k := 1) (hs := []) (sy := []) (ks := [80, 7, 11, 12, 77, 78, 79]) (bs := []) (gs := [0])
              (L' := [(80, .v (.bool (decide (((a : Nat) : Int) < ((ts.length : Nat) : Int))))), (7, .v (.slice zd zs.length zc)), (11, .v (.slice vd vs.length vc)), (12, .row 0), (77, .v (.slice td ts.length tc)), (78, .v (.int .i64 ((ts.length : Nat) : Int))), (79, .v (.int .i64 ((a : Nat) : Int)))])
              (H' := []) (G' := [⟨0, 4, 1, (64 * nw + min (8 * a) (n' - nw * 64)), (bools gs)⟩]) (k' := 1) hR hI (by kernel_rfl)
              .nil (fun e40 a40 w40 hag hR hI => ?_)
          refine wp_seq ?_
          refine cnd (b := decide (((a : Nat) : Int) < ((ts.length : Nat) : Int))) hI (by kernel_rfl) (fun hc41 => ?_) (fun hc41 => ?_)
          · skip
            replace hI := hI.re 80 (.v (.bool true)) rfl (congrArg Value.bool hc41)
            try simp only [decide_eq_true_eq, decide_eq_false_iff_not, beq_iff_eq, bne_iff_ne, beq_eq_false_iff_ne, bne_eq_false_iff_eq, Bool.and_eq_true, Bool.and_eq_false_iff, Bool.or_eq_true, Bool.or_eq_false_iff, Bool.not_eq_true', Bool.not_eq_false', ne_eq] at hc41
            have hva := hBy.2.2.2.2 a (by omega); have hva1 := hva.1; rw [← hva.1] at hva
            refine wp_skip ?_
            refine then_n ?_
            refine wp_seq ?_
            refine wp_block ?_
            refine reg_seq tab (k := 1) (hs := [(2, .val (.v (.int .u8 ((ts.getD a 0 : Nat) : Int))))]) (sy := []) (ks := [17, 16, 7, 11, 12, 77, 78, 79]) (bs := []) (gs := [0])
                (L' := [(17, .v (.int .u8 ((ts.getD a 0 : Nat) : Int))), (16, .v (.int .i64 ((a : Nat) : Int))), (7, .v (.slice zd zs.length zc)), (11, .v (.slice vd vs.length vc)), (12, .row 0), (77, .v (.slice td ts.length tc)), (78, .v (.int .i64 ((ts.length : Nat) : Int))), (79, .v (.int .i64 ((a : Nat) : Int)))])
                (H' := []) (G' := [⟨0, 4, 1, (64 * nw + min (8 * a) (n' - nw * 64)), (bools gs)⟩]) (k' := 1) hR hI (by kernel_rfl)
                (.cons (by omega : (0 : Int) ≤ ((a : Nat) : Int) ∧ ((a : Nat) : Int) < ((ts.length : Nat) : Int)) (.cons (nats_some (i := a) (hts.cells.mono hB.cls) (by omega)) (.cons (nats_load (i := a) (m := 1) (hts.cells.mono hB.cls) (by omega)) .nil))) (fun e42 a42 w42 hag hR hI => ?_)
            refine wp_seq ?_
            refine reg_seq tab (k := 1) (hs := [(3, .val (.v (.int .i64 ((vs.getD a 0 : Nat) : Int)))), (9, .val (.v (.int .i64 ((vs.getD a 0 : Nat) : Int)))), (11, .sym)]) (sy := [6, 7, 8, 9, 10]) (ks := [95, 17, 16, 7, 11, 12, 77, 78, 79]) (bs := []) (gs := [0])
                (L' := [(95, .v (.bool ((decide (((vs.getD a 0 : Nat) : Int) < (0 : Int))) || (decide (((vs.getD a 0 : Nat) : Int) > (8 : Int)))))), (17, .v (.int .u8 ((ts.getD a 0 : Nat) : Int))), (16, .v (.int .i64 ((a : Nat) : Int))), (7, .v (.slice zd zs.length zc)), (11, .v (.slice vd vs.length vc)), (12, .row 0), (77, .v (.slice td ts.length tc)), (78, .v (.int .i64 ((ts.length : Nat) : Int))), (79, .v (.int .i64 ((a : Nat) : Int)))])
                (H' := []) (G' := [⟨0, 4, 1, (64 * nw + min (8 * a) (n' - nw * 64)), (bools gs)⟩]) (k' := 1) hR hI (by kernel_rfl)
                (.cons (by omega : (0 : Int) ≤ ((a : Nat) : Int) ∧ ((a : Nat) : Int) < ((vs.length : Nat) : Int)) (.cons (nats_some (i := a) (hvs.cells.mono hB.cls) (by omega)) (.cons (nats_load (i := a) (m := 1) (hvs.cells.mono hB.cls) (by omega)) (.cons (rfl : (decide (((vs.getD a 0 : Nat) : Int) < (0 : Int))) = (decide (((vs.getD a 0 : Nat) : Int) < (0 : Int)))) (.cons (rfl : (decide (((vs.getD a 0 : Nat) : Int) < (0 : Int))) = (decide (((vs.getD a 0 : Nat) : Int) < (0 : Int)))) (.cons (rfl : (decide (((vs.getD a 0 : Nat) : Int) < (0 : Int))) = (decide (((vs.getD a 0 : Nat) : Int) < (0 : Int)))) (.cons (fun (hg : ((decide (((vs.getD a 0 : Nat) : Int) < (0 : Int))) == false) = true) => have hg := gd_f hg; (by omega : (0 : Int) ≤ ((a : Nat) : Int) ∧ ((a : Nat) : Int) < ((vs.length : Nat) : Int))) (.cons (fun (hg : ((decide (((vs.getD a 0 : Nat) : Int) < (0 : Int))) == false) = true) => have hg := gd_f hg; (nats_some (i := a) (hvs.cells.mono hB.cls) (by omega))) (.cons (rfl : (decide (((vs.getD a 0 : Nat) : Int) < (0 : Int))) = (decide (((vs.getD a 0 : Nat) : Int) < (0 : Int)))) (.cons (rfl : (decide (((vs.getD a 0 : Nat) : Int) < (0 : Int))) = (decide (((vs.getD a 0 : Nat) : Int) < (0 : Int)))) (.cons (rfl : (decide (((vs.getD a 0 : Nat) : Int) < (0 : Int))) = (decide (((vs.getD a 0 : Nat) : Int) < (0 : Int)))) (.cons (fun (hg : ((decide (((vs.getD a 0 : Nat) : Int) < (0 : Int))) == false) = true) => have hg := gd_f hg; (nats_load (i := a) (m := 1) (hvs.cells.mono hB.cls) (by omega))) (.cons (rfl : (decide (((vs.getD a 0 : Nat) : Int) < (0 : Int))) = (decide (((vs.getD a 0 : Nat) : Int) < (0 : Int)))) (.cons (rfl : (decide (((vs.getD a 0 : Nat) : Int) < (0 : Int))) = (decide (((vs.getD a 0 : Nat) : Int) < (0 : Int)))) (.cons (rfl : (decide (((vs.getD a 0 : Nat) : Int) < (0 : Int))) = (decide (((vs.getD a 0 : Nat) : Int) < (0 : Int)))) (.cons (rfl : (decide (((vs.getD a 0 : Nat) : Int) < (0 : Int))) = (decide (((vs.getD a 0 : Nat) : Int) < (0 : Int)))) (.cons (by first | exact Bool.beq_true _ | exact Bool.beq_false _ | rfl | simp_all : ((decide (((vs.getD a 0 : Nat) : Int) < (0 : Int))) == false) = !(decide (((vs.getD a 0 : Nat) : Int) < (0 : Int)))) .nil))))))))))))))))) (fun e43 a43 w43 hag hR hI => ?_)
            refine cnd (b := ((decide (((vs.getD a 0 : Nat) : Int) < (0 : Int))) || (decide (((vs.getD a 0 : Nat) : Int) > (8 : Int))))) hI (by kernel_rfl) (fun hc44 => ?_) (fun hc44 => ?_)
            · skip
              replace hI := hI.re 95 (.v (.bool true)) rfl (congrArg Value.bool hc44)
              try simp only [decide_eq_true_eq, decide_eq_false_iff_not, beq_iff_eq, bne_iff_ne, beq_eq_false_iff_ne, bne_eq_false_iff_eq, Bool.and_eq_true, Bool.and_eq_false_iff, Bool.or_eq_true, Bool.or_eq_false_iff, Bool.not_eq_true', Bool.not_eq_false', ne_eq] at hc44
              omega
            · skip
              replace hI := hI.re 95 (.v (.bool false)) rfl (congrArg Value.bool hc44)
              try simp only [decide_eq_true_eq, decide_eq_false_iff_not, beq_iff_eq, bne_iff_ne, beq_eq_false_iff_ne, bne_eq_false_iff_eq, Bool.and_eq_true, Bool.and_eq_false_iff, Bool.or_eq_true, Bool.or_eq_false_iff, Bool.not_eq_true', Bool.not_eq_false', ne_eq] at hc44
              refine wp_skip ?_
              refine then_n ?_
              refine reg_seq tab (k := 1) (hs := [(3, .val (.v (.int .i64 ((vs.getD a 0 : Nat) : Int))))]) (sy := []) (ks := [100, 99, 17, 7, 11, 12, 77, 78, 79]) (bs := []) (gs := [0])
                  (L' := [(100, .v (.int .i64 0)), (99, .v (.int .i64 ((vs.getD a 0 : Nat) : Int))), (17, .v (.int .u8 ((ts.getD a 0 : Nat) : Int))), (7, .v (.slice zd zs.length zc)), (11, .v (.slice vd vs.length vc)), (12, .row 0), (77, .v (.slice td ts.length tc)), (78, .v (.int .i64 ((ts.length : Nat) : Int))), (79, .v (.int .i64 ((a : Nat) : Int)))])
                  (H' := []) (G' := [⟨0, 4, 1, (64 * nw + min (8 * a) (n' - nw * 64)), (bools gs)⟩]) (k' := 1) hR hI (by kernel_rfl)
                  (.cons (by omega : (0 : Int) ≤ ((a : Nat) : Int) ∧ ((a : Nat) : Int) < ((vs.length : Nat) : Int)) (.cons (nats_some (i := a) (hvs.cells.mono hB.cls) (by omega)) (.cons (nats_load (i := a) (m := 1) (hvs.cells.mono hB.cls) (by omega)) .nil))) (fun e45 a45 w45 hag hR hI => ?_)
              refine wp_block ?_
              refine lp (γ := Nat × List Bool) (fun (i, gs) => (⟨[(7, .v (.slice zd zs.length zc)), (11, .v (.slice vd vs.length vc)), (12, .row 0), (77, .v (.slice td ts.length tc)), (78, .v (.int .i64 ((ts.length : Nat) : Int))), (79, .v (.int .i64 ((a : Nat) : Int))), (17, .v (.int .u8 ((ts.getD a 0 : Nat) : Int))), (99, .v (.int .i64 ((vs.getD a 0 : Nat) : Int))), (100, .v (.int .i64 ((i : Nat) : Int)))], [], [⟨0, 4, 1, (64 * nw + min (8 * a) (n' - nw * 64) + i), (bools gs)⟩], 1⟩ : Sy)) (fun (i, gs) e => i ≤ vs.getD a 0 ∧ gs.length = 64 * nw + min (8 * a) (n' - nw * 64) + i ∧ ∀ j, j < 64 * nw + min (8 * a) (n' - nw * 64) + i → gs.getD j false = bitN xs (p' + j)) (fun (i, gs) => vs.getD a 0 - i) (0, gs) (⟨Nat.zero_le _, hgl, hgb⟩)
                  (hR.sel [] [0] (by kernel_rfl) (by kernel_rfl)) (hI.sel [7, 11, 12, 77, 78, 79, 17, 99, 100] (by kernel_rfl)) ?_
              clear hR hI
              rintro ⟨i, gs⟩ e46 a46 w46 hp hR hI
              dsimp only at hp hR hI
              obtain ⟨hi8, hgl, hgb⟩ := hp
              refine reg_seq tab (k := 1) (hs := []) (sy := []) (ks := [101, 7, 11, 12, 77, 78, 79, 17, 99, 100]) (bs := []) (gs := [0])
                  (L' := [(101, .v (.bool (decide (((i : Nat) : Int) < ((vs.getD a 0 : Nat) : Int))))), (7, .v (.slice zd zs.length zc)), (11, .v (.slice vd vs.length vc)), (12, .row 0), (77, .v (.slice td ts.length tc)), (78, .v (.int .i64 ((ts.length : Nat) : Int))), (79, .v (.int .i64 ((a : Nat) : Int))), (17, .v (.int .u8 ((ts.getD a 0 : Nat) : Int))), (99, .v (.int .i64 ((vs.getD a 0 : Nat) : Int))), (100, .v (.int .i64 ((i : Nat) : Int)))])
                  (H' := []) (G' := [⟨0, 4, 1, (64 * nw + min (8 * a) (n' - nw * 64) + i), (bools gs)⟩]) (k' := 1) hR hI (by kernel_rfl)
                  .nil (fun e47 a47 w47 hag hR hI => ?_)
              refine wp_seq ?_
              refine cnd (b := decide (((i : Nat) : Int) < ((vs.getD a 0 : Nat) : Int))) hI (by kernel_rfl) (fun hc48 => ?_) (fun hc48 => ?_)
              · skip
                replace hI := hI.re 101 (.v (.bool true)) rfl (congrArg Value.bool hc48)
                try simp only [decide_eq_true_eq, decide_eq_false_iff_not, beq_iff_eq, bne_iff_ne, beq_eq_false_iff_ne, bne_eq_false_iff_eq, Bool.and_eq_true, Bool.and_eq_false_iff, Bool.or_eq_true, Bool.or_eq_false_iff, Bool.not_eq_true', Bool.not_eq_false', ne_eq] at hc48
                refine wp_skip ?_
                refine then_n ?_
                refine wp_seq ?_
                refine wp_block ?_
                refine reg_seq tab (k := 1) (hs := []) (sy := []) (ks := [18, 7, 11, 12, 77, 78, 79, 17, 99, 100]) (bs := []) (gs := [0])
                    (L' := [(18, .v (.int .i64 ((i : Nat) : Int))), (7, .v (.slice zd zs.length zc)), (11, .v (.slice vd vs.length vc)), (12, .row 0), (77, .v (.slice td ts.length tc)), (78, .v (.int .i64 ((ts.length : Nat) : Int))), (79, .v (.int .i64 ((a : Nat) : Int))), (17, .v (.int .u8 ((ts.getD a 0 : Nat) : Int))), (99, .v (.int .i64 ((vs.getD a 0 : Nat) : Int))), (100, .v (.int .i64 ((i : Nat) : Int)))])
                    (H' := []) (G' := [⟨0, 4, 1, (64 * nw + min (8 * a) (n' - nw * 64) + i), (bools gs)⟩]) (k' := 1) hR hI (by kernel_rfl)
                    .nil (fun e49 a49 w49 hag hR hI => ?_)
                refine reg_all tab (k := 1) (hs := [(4, .eq (.int .u8 ((ts.getD a 0 / 2 ^ i % 2 : Nat) : Int)))]) (sy := []) (ks := [12, 7, 11, 77, 78, 79, 17, 99, 100]) (bs := []) (gs := [2])
                    (L' := [(12, .row 2), (7, .v (.slice zd zs.length zc)), (11, .v (.slice vd vs.length vc)), (77, .v (.slice td ts.length tc)), (78, .v (.int .i64 ((ts.length : Nat) : Int))), (79, .v (.int .i64 ((a : Nat) : Int))), (17, .v (.int .u8 ((ts.getD a 0 : Nat) : Int))), (99, .v (.int .i64 ((vs.getD a 0 : Nat) : Int))), (100, .v (.int .i64 ((i : Nat) : Int)))])
                    (H' := []) (G' := [⟨2, 4, 1, (64 * nw + min (8 * a) (n' - nw * 64) + i + 1), ((bools gs) ++ [.bool (((ts.getD a 0 / 2 ^ i % 2 : Nat) : Int) == (1 : Int))])⟩]) (k' := 3) hR hI (by kernel_rfl)
                    (.cons (by omega : (0 : Int) ≤ ((i : Nat) : Int)) (.cons (by show _ ≤ (8 : Int); omega : ((i : Nat) : Int) ≤ (IntKind.u8.bits : Int)) (.cons (congrArg (Value.int .u8) (u8_bit' _ (div_le_self' (mem_getD hBy.2.2.1 (by decide) a)) : bits .and .u8 (((ts.getD a 0) / 2 ^ i : Nat) : Int) (1 : Int) = ((ts.getD a 0 / 2 ^ i % 2 : Nat) : Int))) (.cons (by have hm_ : maxLen = 9223372036854775807 := rfl; rw [hm_]; omega : 64 * nw + min (8 * a) (n' - nw * 64) + i + 1 ≤ maxLen) (.cons (by omega : (64 * nw + min (8 * a) (n' - nw * 64) + i + 1) * 1 ≤ 140737488355328) .nil))))) (fun e50 a50 w50 hag hR hI => ?_)
                refine normal_block ?_
                refine then_n ?_
                refine reg_all tab (k := 3) (hs := [(0, .nw)]) (sy := []) (ks := [100, 12, 7, 11, 77, 78, 79, 17, 99]) (bs := []) (gs := [2])
                    (L' := [(100, .v (.int .i64 ((i + 1 : Nat) : Int))), (12, .row 2), (7, .v (.slice zd zs.length zc)), (11, .v (.slice vd vs.length vc)), (77, .v (.slice td ts.length tc)), (78, .v (.int .i64 ((ts.length : Nat) : Int))), (79, .v (.int .i64 ((a : Nat) : Int))), (17, .v (.int .u8 ((ts.getD a 0 : Nat) : Int))), (99, .v (.int .i64 ((vs.getD a 0 : Nat) : Int)))])
                    (H' := []) (G' := [⟨2, 4, 1, (64 * nw + min (8 * a) (n' - nw * 64) + i + 1), ((bools gs) ++ [.bool (((ts.getD a 0 / 2 ^ i % 2 : Nat) : Int) == (1 : Int))])⟩]) (k' := 3) hR hI (by kernel_rfl)
                    (.cons (inR_i64 (n := ((i : Nat) : Int) + (1 : Int)) (by omega)) .nil) (fun e51 a51 w51 hag hR hI => ?_)
                refine then_n ?_
                rw [bools_snoc] at hR
                have hren_ : Sy.ren [(0, 2)] ⟨[(100, .v (.int .i64 ((i + 1 : Nat) : Int))), (12, .row 0), (7, .v (.slice zd zs.length zc)), (11, .v (.slice vd vs.length vc)), (77, .v (.slice td ts.length tc)), (78, .v (.int .i64 ((ts.length : Nat) : Int))), (79, .v (.int .i64 ((a : Nat) : Int))), (17, .v (.int .u8 ((ts.getD a 0 : Nat) : Int))), (99, .v (.int .i64 ((vs.getD a 0 : Nat) : Int)))], [], [⟨0, 4, 1, (64 * nw + min (8 * a) (n' - nw * 64) + i + 1), (bools (gs ++ [((ts.getD a 0 / 2 ^ i % 2 : Nat) : Int) == (1 : Int)]))⟩], 0⟩ = ⟨[(100, .v (.int .i64 ((i + 1 : Nat) : Int))), (12, .row 2), (7, .v (.slice zd zs.length zc)), (11, .v (.slice vd vs.length vc)), (77, .v (.slice td ts.length tc)), (78, .v (.int .i64 ((ts.length : Nat) : Int))), (79, .v (.int .i64 ((a : Nat) : Int))), (17, .v (.int .u8 ((ts.getD a 0 : Nat) : Int))), (99, .v (.int .i64 ((vs.getD a 0 : Nat) : Int)))], [], [⟨2, 4, 1, (64 * nw + min (8 * a) (n' - nw * 64) + i + 1), (bools (gs ++ [((ts.getD a 0 / 2 ^ i % 2 : Nat) : Int) == (1 : Int)]))⟩], 0⟩ := by kernel_rfl
                replace hI := hI.rename (S := ⟨[(100, .v (.int .i64 ((i + 1 : Nat) : Int))), (12, .row 2), (7, .v (.slice zd zs.length zc)), (11, .v (.slice vd vs.length vc)), (77, .v (.slice td ts.length tc)), (78, .v (.int .i64 ((ts.length : Nat) : Int))), (79, .v (.int .i64 ((a : Nat) : Int))), (17, .v (.int .u8 ((ts.getD a 0 : Nat) : Int))), (99, .v (.int .i64 ((vs.getD a 0 : Nat) : Int)))], [], [⟨2, 4, 1, (64 * nw + min (8 * a) (n' - nw * 64) + i + 1), (bools (gs ++ [((ts.getD a 0 / 2 ^ i % 2 : Nat) : Int) == (1 : Int)]))⟩], 0⟩) (S' := ⟨[(100, .v (.int .i64 ((i + 1 : Nat) : Int))), (12, .row 0), (7, .v (.slice zd zs.length zc)), (11, .v (.slice vd vs.length vc)), (77, .v (.slice td ts.length tc)), (78, .v (.int .i64 ((ts.length : Nat) : Int))), (79, .v (.int .i64 ((a : Nat) : Int))), (17, .v (.int .u8 ((ts.getD a 0 : Nat) : Int))), (99, .v (.int .i64 ((vs.getD a 0 : Nat) : Int)))], [], [⟨0, 4, 1, (64 * nw + min (8 * a) (n' - nw * 64) + i + 1), (bools (gs ++ [((ts.getD a 0 / 2 ^ i % 2 : Nat) : Int) == (1 : Int)]))⟩], 0⟩) hren_; replace hR := hR.rename (S := ⟨[(100, .v (.int .i64 ((i + 1 : Nat) : Int))), (12, .row 2), (7, .v (.slice zd zs.length zc)), (11, .v (.slice vd vs.length vc)), (77, .v (.slice td ts.length tc)), (78, .v (.int .i64 ((ts.length : Nat) : Int))), (79, .v (.int .i64 ((a : Nat) : Int))), (17, .v (.int .u8 ((ts.getD a 0 : Nat) : Int))), (99, .v (.int .i64 ((vs.getD a 0 : Nat) : Int)))], [], [⟨2, 4, 1, (64 * nw + min (8 * a) (n' - nw * 64) + i + 1), (bools (gs ++ [((ts.getD a 0 / 2 ^ i % 2 : Nat) : Int) == (1 : Int)]))⟩], 0⟩) (S' := ⟨[(100, .v (.int .i64 ((i + 1 : Nat) : Int))), (12, .row 0), (7, .v (.slice zd zs.length zc)), (11, .v (.slice vd vs.length vc)), (77, .v (.slice td ts.length tc)), (78, .v (.int .i64 ((ts.length : Nat) : Int))), (79, .v (.int .i64 ((a : Nat) : Int))), (17, .v (.int .u8 ((ts.getD a 0 : Nat) : Int))), (99, .v (.int .i64 ((vs.getD a 0 : Nat) : Int)))], [], [⟨0, 4, 1, (64 * nw + min (8 * a) (n' - nw * 64) + i + 1), (bools (gs ++ [((ts.getD a 0 / 2 ^ i % 2 : Nat) : Int) == (1 : Int)]))⟩], 0⟩) hren_ (by kernel_rfl) (by kernel_rfl); dsimp only at hI hR; clear hren_
                have hG_ : ([⟨0, 4, 1, (64 * nw + min (8 * a) (n' - nw * 64) + i + 1), (bools (gs ++ [((ts.getD a 0 / 2 ^ i % 2 : Nat) : Int) == (1 : Int)]))⟩] : List Row) = [⟨0, 4, 1, (64 * nw + min (8 * a) (n' - nw * 64) + (i + 1)), (bools (gs ++ [((ts.getD a 0 / 2 ^ i % 2 : Nat) : Int) == (1 : Int)]))⟩] := by rw [((by omega) : (64 * nw + min (8 * a) (n' - nw * 64) + i + 1 : Nat) = 64 * nw + min (8 * a) (n' - nw * 64) + (i + 1))]
                rw [hG_] at hR; clear hG_
                exact ⟨(i + 1, gs ++ [((ts.getD a 0 / 2 ^ i % 2 : Nat) : Int) == (1 : Int)]), (Env.ren e51 [(0, 2)]), ⟨by omega, by rw [List.length_append, hgl]; rfl, getD_snoc_next (f := fun j => bitN xs (p' + j)) hgl (by rw [bitT, hva.2 i (by omega)]; show _ = bitN xs (p' + (64 * nw + min (8 * a) (n' - nw * 64) + i)); congr 1; omega) hgb⟩, by (try dsimp only); omega, hR.sel [] [0] (by kernel_rfl) (by kernel_rfl), hI.sel [7, 11, 12, 77, 78, 79, 17, 99, 100] (by kernel_rfl)⟩
              · skip
                replace hI := hI.re 101 (.v (.bool false)) rfl (congrArg Value.bool hc48)
                try simp only [decide_eq_true_eq, decide_eq_false_iff_not, beq_iff_eq, bne_iff_ne, beq_eq_false_iff_ne, bne_eq_false_iff_eq, Bool.and_eq_true, Bool.and_eq_false_iff, Bool.or_eq_true, Bool.or_eq_false_iff, Bool.not_eq_true', Bool.not_eq_false', ne_eq] at hc48
                refine wp_exit ?_
                refine exit_then ?_
                refine exit_then ?_
                refine exit_hit ?_
                refine normal_block ?_
                refine then_n ?_
                refine reg_all tab (k := 1) (hs := [(0, .nw)]) (sy := []) (ks := [79, 7, 11, 12, 77, 78]) (bs := []) (gs := [0])
                    (L' := [(79, .v (.int .i64 ((a + 1 : Nat) : Int))), (7, .v (.slice zd zs.length zc)), (11, .v (.slice vd vs.length vc)), (12, .row 0), (77, .v (.slice td ts.length tc)), (78, .v (.int .i64 ((ts.length : Nat) : Int)))])
                    (H' := []) (G' := [⟨0, 4, 1, (64 * nw + min (8 * a) (n' - nw * 64) + i), (bools gs)⟩]) (k' := 1) hR hI (by kernel_rfl)
                    (.cons (inR_i64 (n := ((a : Nat) : Int) + (1 : Int)) (by omega)) .nil) (fun e52 a52 w52 hag hR hI => ?_)
                refine then_n ?_
                have hG_ : ([⟨0, 4, 1, (64 * nw + min (8 * a) (n' - nw * 64) + i), (bools gs)⟩] : List Row) = [⟨0, 4, 1, (64 * nw + min (8 * (a + 1)) (n' - nw * 64)), (bools gs)⟩] := by rw [((by omega) : (64 * nw + min (8 * a) (n' - nw * 64) + i : Nat) = 64 * nw + min (8 * (a + 1)) (n' - nw * 64))]
                rw [hG_] at hR; clear hG_
                exact ⟨(a + 1, gs), e52, ⟨by omega, by omega, fun j hj => hgb j (by omega)⟩, by (try dsimp only); omega, hR.sel [] [0] (by kernel_rfl) (by kernel_rfl), hI.sel [7, 11, 12, 77, 78, 79] (by kernel_rfl)⟩
          · skip
            replace hI := hI.re 80 (.v (.bool false)) rfl (congrArg Value.bool hc41)
            try simp only [decide_eq_true_eq, decide_eq_false_iff_not, beq_iff_eq, bne_iff_ne, beq_eq_false_iff_ne, bne_eq_false_iff_eq, Bool.and_eq_true, Bool.and_eq_false_iff, Bool.or_eq_true, Bool.or_eq_false_iff, Bool.not_eq_true', Bool.not_eq_false', ne_eq] at hc41
            refine wp_exit ?_
            refine exit_then ?_
            refine exit_then ?_
            refine exit_hit ?_
            refine then_n ?_
            obtain ⟨hB_, hR_, hrel_, gd, gc, hv_, hcells_, hlen_, hcap_, hmax_⟩ := hB.release hR (y := ⟨0, 4, 1, (64 * nw + min (8 * a) (n' - nw * 64)), (bools gs)⟩) (by simp) rfl _ dropN_mem
            replace hr := hr.rel hrel_
            replace hts := hts.rel hrel_
            replace hvs := hvs.rel hrel_
            replace hws := hws.rel hrel_
            replace hx := hx.rel hrel_
            replace hz := hz.rel hrel_
            have hgot : SlB _ _ gd gc gs := ⟨hcells_, (by dsimp only at hlen_ hcap_; rw [bools_length] at hlen_; omega), hmax_⟩
            replace hI := hI.re 12 (.v (.slice gd (64 * nw + min (8 * a) (n' - nw * 64)) gc)) rfl hv_
            replace hB := hB_; replace hR := hR_.sel [] [] (by kernel_rfl : selH _ _ = some []) (by kernel_rfl : selG _ _ = some []); clear hB_ hR_ hrel_ hcells_ hv_
            replace hI := hI.re 12 (.v (.slice gd gs.length gc)) rfl (by simp only [den]; rw [hgl])
            refine wp_seq ?_
            refine reg (is := [0, 1, 2, 3]) (by kernel_rfl) ?_
            refine part_ tab [0, 1] [2, 3] (by rfl) (k := 1) (hs := []) (sy := []) (ks := [114, 113]) (bs := []) (gs := [])
                (L' := [(114, .v (.slice zd zs.length zc)), (113, .v (.slice gd gs.length gc))])
                (H' := []) (G' := []) (k' := 1) hR hI (by kernel_rfl)
                .nil (fun e53 a53 w53 hag hR hI => ?_)
            refine callOp (ys := [.v (.slice gd gs.length gc), .v (.slice zd zs.length zc)]) hI rfl rfl ⟨_, rfl, rfl, rfl⟩ (by kernel_rfl) Try.func6 rfl rfl ?_
            refine (sameBools_spec (hgot.now hB hR) (hz.now hB hR)).mono ?_
            rintro ex w54 ⟨b2, rfl, hk, hb2⟩
            replace hR := hR.same hk; clear hk
            obtain rfl : b2 = true := hb2.2 (eq_of_bits (hgl.trans (by omega)) hzl (fun j hj => hgb j (by omega)) hzb)
            refine ⟨_, rfl, ?_⟩
            replace hI := hI.put (d := some 115) (x := .v (.bool true)) (by intro t ht; cases ht; decide) rfl
            replace hI := hI.sel [115, 114, 113] (by kernel_rfl : sel _ _ = some [(115, .v (.bool true)), (114, .v (.slice zd zs.length zc)), (113, .v (.slice gd gs.length gc))])
            refine part_ tab [3] [] (by rfl) (k := 1) (hs := []) (sy := []) (ks := [6]) (bs := []) (gs := [])
                (L' := [(6, .v (.bool true))])
                (H' := []) (G' := []) (k' := 1) hR hI (by kernel_rfl)
                .nil (fun e55 a55 w55 hag hR hI => ?_)
            refine ops_nil ?_
            refine then_n ?_
            refine wp_ret ?_
            refine outN tab (xs := [.v (.bool true)]) hR hI rfl (by kernel_rfl) ?_
            exact ⟨rfl, hB.fin hR⟩

end Go.Proofs.Ytbfbpkcepchldaa.Stride
