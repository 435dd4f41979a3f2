/- Walks of the program's functions, printed by a program of mine (walk.py) over the words of Stride: each function's contract. -/
import Derived.Test.YtbfbpkcepchldaaDoorBoY
namespace Go.Proofs.YtbfbpkcepchldaaDoor.Stride
open Go Go.RowKit Go.Proofs.YtbfbpkcepchldaaDoor.Mag
set_option linter.unusedVariables false
set_option linter.unusedSimpArgs false
theorem idle8 (x0 : Value) : Idle P 8 #[x0] := ⟨fun w => by
  refine callsD_of_wpS Tryd.func8 rfl fun c₀ cs hu => ?_
  apply wpS_seq
  apply wpS_region
  simp [wpOpsS, go_sem, recoverD, hu, Tryd.ntmps8, Exit.thenS]
  refine wpS_cond (t := false) (by simp [Act.eval, Array.replicate]) ?_
  simp only [Bool.false_eq_true, if_false]
  refine wpS_of_wp (wp_skip ?_)
  cases c₀
  simp_all [bodyPostS, results, Tryd.results8]⟩
theorem inv8 (x0 : Value) (w : World) : (invoke (.fn (.func 8) #[x0]) #[]).run P w = .ok (.enter 8 #[x0]) w := by
  simp [invoke, callFunc, Tryd.func8, Tryd.f8]

/-- Blocks of bits, one behind the other: their lengths and counts. -/
def Blks (f : Nat → Bool) (most : Nat) : Nat → List Nat → Nat → Prop
  | a, [], z => z = a
  | _, [_], _ => False
  | a, r :: c :: l, z => 1 ≤ r ∧ r ≤ most ∧ c = cnt (fun i => f (a + i)) r ∧ Blks f most (a + r) l z
theorem Blks.snoc {f : Nat → Bool} {most r c : Nat} (hr : 1 ≤ r) (hm : r ≤ most) : ∀ {a z : Nat} {l : List Nat}, Blks f most a l z → c = cnt (fun i => f (z + i)) r → Blks f most a (l ++ [r, c]) (z + r)
  | a, z, [], h, hc => by
    have h' : z = a := h
    subst h'
    exact ⟨hr, hm, hc, rfl⟩
  | a, z, [x], h, hc => h.elim
  | a, z, x :: y :: l, h, hc => ⟨h.1, h.2.1, h.2.2.1, Blks.snoc hr hm h.2.2.2 hc⟩
theorem pair_dig {fl : List Nat} {r c B : Nat} (h : ∀ d ∈ fl, d < B) (hr : r < B) (hc : c < B) : ∀ d ∈ fl ++ [r, c], d < B := fun d hd => by
  simp only [List.mem_append, List.mem_cons, List.not_mem_nil, or_false] at hd
  rcases hd with hd | rfl | rfl
  · exact h d hd
  · exact hr
  · exact hc
theorem fls {fl : List Nat} {m r c : Nat} (h : fl.length = 2 * m) : (fl ++ [r, c]).length = 2 * (m + 1) := by rw [List.length_append, h]; rfl
/-- The flat list of a released row of pairs. -/
theorem sl_flat {C : Nat → Prop} {w : World} {ad : Option Addr} {fl : List Nat} (hc : Cells C w ad (ints .i64 fl)) (hd : ∀ d ∈ fl, d < 65536) (hl : fl.length ≤ 100000) : Sl .i64 65536 C w ad fl.length fl := ⟨hc, hd, Nat.le_refl _, by omega⟩

set_option maxHeartbeats 4000000 in
set_option maxRecDepth 100000 in
theorem blk0_spec {C : Nat → Prop} {w : World} {n p : Nat} {f : Nat → Bool} {ad : Option Addr} {cap : Nat} {xs : List Nat} (hg : Sl .u8 256 C w (some (⟨1, 0, none⟩ : Addr)) 8 bitMask) (hx : Sl .u8 256 C w ad cap xs) (hp : p + n ≤ 8 * xs.length) (hs : xs.length ≤ 4096) (hf : ∀ i, i < n → f i = bitN xs (p + i)) (nn : Bool) :
    Calls P 6 #[.slice ad xs.length cap, .int .i64 ((p : Nat) : Int), .int .i64 ((n : Nat) : Int), .int .i64 0, .bool nn] w fun ex w' => ∃ (fl : List Nat) (bd : Option Addr) (bc m : Nat), ex = .returned (.slice bd m bc) ∧ Keep (fun b => b < w.heap.size) w w' ∧ Sl .i64 65536 (Grow C w w') w' bd fl.length fl ∧ fl.length = 2 * m ∧ m ≤ bc ∧ bc ≤ 9223372036854775807 ∧ Blks f 64 0 fl n := by
  refine doorD (e := e0) (vs := [.v (.slice ad xs.length cap), .v (.int .i64 ((p : Nat) : Int)), .v (.int .i64 ((n : Nat) : Int)), .v (.int .i64 0), .v (.bool nn)]) (n := 60) (m := 5) Tryd.func6 rfl rfl rfl (by decide) fun a_ hI => ?_
  replace hI : Is 60 [] e0 [(0, .v (.slice ad xs.length cap)), (1, .v (.int .i64 ((p : Nat) : Int))), (2, .v (.int .i64 ((n : Nat) : Int))), (3, .v (.int .i64 0)), (4, .v (.bool nn))] a_ := hI
  have hR : Rel (fun b => b < w.heap.size) w e0 [] [] w := Rel.start (fun k hk => hk)
  have hB : Base C w C (fun b => b < w.heap.size) w := Base.start
  have hrx := hx.room; have hmx := hx.max; have hn8 : n ≤ 32768 := (by omega); have ho8 : p % 8 < 8 := Nat.mod_lt _ (by decide)
  refine reg_seq tab (k := 0) (hs := []) (sy := []) (ks := [10, 0, 1, 2, 3, 4]) (bs := [0]) (gs := [])
      (L' := [(10, .p 0 0), (0, .v (.slice ad xs.length cap)), (1, .v (.int .i64 ((p : Nat) : Int))), (2, .v (.int .i64 ((n : Nat) : Int))), (3, .v (.int .i64 0)), (4, .v (.bool nn))])
      (H' := [⟨0, 27, [.v (.slice none 0 0)]⟩]) (G' := []) (k' := 1) hR hI (by kernel_rfl)
      .nil (fun e1 a1 w1 hag hR hI => ?_)
  refine wp_seq ?_
  refine reg (is := [0, 1]) (by kernel_rfl) ?_
  refine rawOp (x := .v (.func (.func 8) #[] #[.pointer (some ⟨e1.b 0, 0, none⟩)])) hI rfl rfl (by kernel_rfl) (fun ev hev => by simp [execOp, Instr.makeFunc, hev (.tmp 10) _ rfl, den]) (fun a2 hI => ?_)
  replace hI := hI.sel [14, 10, 0, 1, 2, 3, 4] (by kernel_rfl : sel _ _ = some [(14, .v (.func (.func 8) #[] #[.pointer (some ⟨e1.b 0, 0, none⟩)])), (10, .p 0 0), (0, .v (.slice ad xs.length cap)), (1, .v (.int .i64 ((p : Nat) : Int))), (2, .v (.int .i64 ((n : Nat) : Int))), (3, .v (.int .i64 0)), (4, .v (.bool nn))])
  refine deferFn hI rfl rfl rfl ⟨_, rfl, rfl, rfl⟩ rfl (fun a2 hI => ?_)
  replace hI := hI.sel [14, 10, 0, 1, 2, 3, 4] (by kernel_rfl : sel _ _ = some [(14, .v (.func (.func 8) #[] #[.pointer (some ⟨e1.b 0, 0, none⟩)])), (10, .p 0 0), (0, .v (.slice ad xs.length cap)), (1, .v (.int .i64 ((p : Nat) : Int))), (2, .v (.int .i64 ((n : Nat) : Int))), (3, .v (.int .i64 0)), (4, .v (.bool nn))])
  refine ops_nil ?_
  refine then_n ?_
  refine reg_seq tab (k := 1) (hs := []) (sy := []) (ks := [10, 0, 1, 2, 3, 4]) (bs := [0]) (gs := [])
      (L' := [(10, .p 0 0), (0, .v (.slice ad xs.length cap)), (1, .v (.int .i64 ((p : Nat) : Int))), (2, .v (.int .i64 ((n : Nat) : Int))), (3, .v (.int .i64 0)), (4, .v (.bool nn))])
      (H' := [⟨0, 27, [.v (.slice none 0 0)]⟩]) (G' := []) (k' := 1) hR hI (by kernel_rfl)
      .nil (fun e3 a3 w3 hag hR hI => ?_)
  refine wp_seq ?_
  refine reg_seq tab (k := 1) (hs := []) (sy := []) (ks := [15, 10, 0, 1, 2, 3, 4]) (bs := [0]) (gs := [])
      (L' := [(15, .v (.int .i64 0)), (10, .p 0 0), (0, .v (.slice ad xs.length cap)), (1, .v (.int .i64 ((p : Nat) : Int))), (2, .v (.int .i64 ((n : Nat) : Int))), (3, .v (.int .i64 0)), (4, .v (.bool nn))])
      (H' := [⟨0, 27, [.v (.slice none 0 0)]⟩]) (G' := []) (k' := 1) hR hI (by kernel_rfl)
      .nil (fun e4 a4 w4 hag hR hI => ?_)
  refine wp_block ?_
  refine reg_seq tab (k := 1) (hs := []) (sy := []) (ks := [27, 15, 10, 0, 1, 2, 3, 4]) (bs := [0]) (gs := [])
      (L' := [(27, .v (.bool true)), (15, .v (.int .i64 0)), (10, .p 0 0), (0, .v (.slice ad xs.length cap)), (1, .v (.int .i64 ((p : Nat) : Int))), (2, .v (.int .i64 ((n : Nat) : Int))), (3, .v (.int .i64 0)), (4, .v (.bool nn))])
      (H' := [⟨0, 27, [.v (.slice none 0 0)]⟩]) (G' := []) (k' := 1) hR hI (by kernel_rfl)
      .nil (fun e5 a5 w5 hag hR hI => ?_)
  refine cnd_t hI (by kernel_rfl) ?_
  refine reg (is := [0, 1, 2, 3, 4, 5]) (by kernel_rfl) ?_
  refine part_ tab [0, 1, 2] [3, 4, 5] (by rfl) (k := 1) (hs := []) (sy := []) (ks := [31, 30, 29, 10]) (bs := [0]) (gs := [])
      (L' := [(31, .v (.int .i64 ((n : Nat) : Int))), (30, .v (.int .i64 ((p : Nat) : Int))), (29, .v (.slice ad xs.length cap)), (10, .p 0 0)])
      (H' := [⟨0, 27, [.v (.slice none 0 0)]⟩]) (G' := []) (k' := 1) hR hI (by kernel_rfl)
      .nil (fun e6 a6 w6 hag hR hI => ?_)
  refine callOp (ys := [.v (.slice ad xs.length cap), .v (.int .i64 ((p : Nat) : Int)), .v (.int .i64 ((n : Nat) : Int))]) hI rfl rfl ⟨_, rfl, rfl, rfl⟩ (by kernel_rfl) Tryd.func9 rfl rfl ?_
  have hBs := hB.size hR
  refine (newCounter_spec (hx.now hB hR) hp hs).mono ?_
  rintro ex w7 ⟨b, rfl, hge, hnew, hk⟩
  obtain ⟨hag_, hnb_, hR_⟩ := hR.gotX (L := []) (k := 1) (cs := [.v (.slice (cutA ad cap (p / 8) 1) (xs.length - p / 8) (cap - p / 8)), .v (.int .i64 ((n : Nat) : Int)), .v (.int .i8 ((p % 8 : Nat) : Int))]) (by kernel_rfl) (by kernel_rfl) hk hge hnew
  have hkF_ := hR.keepF hk
  replace hg := hg.nextX hB hR hkF_ hge
  replace hx := hx.nextX hB hR hkF_ hge
  have hB_ := hB.nextX hR hkF_ hge
  replace hI := hI.agreeB (H := [⟨0, 27, [.v (.slice none 0 0)]⟩]) (G := []) (by kernel_rfl) hag_
  replace hR := hR_; replace hB := hB_; clear hB_ hR_ hkF_ hk
  have hbn : (e6.addB 1 b).b 1 = b := addB_b _ _ _
  obtain ⟨y0, hy0e⟩ : ∃ y0, y0 = xs.drop (p / 8) := ⟨_, rfl⟩
  obtain ⟨ad0, had0⟩ : ∃ ad0, ad0 = cutA (ad) cap (p / 8) 1 := ⟨_, rfl⟩
  obtain ⟨cap0, hcap0⟩ : ∃ cap0, cap0 = cap - p / 8 := ⟨_, rfl⟩
  have hy0l : y0.length = xs.length - p / 8 := by rw [hy0e, List.length_drop]
  have hy0 := hx.cut (j := p / 8) (m := xs.length) (by omega) (Nat.le_refl _)
  rw [cut_all, ← hy0e, ← had0, ← hcap0] at hy0
  replace hR := hR.reblk (b := ⟨1, 43, [.v (.slice (cutA ad cap (p / 8) 1) (xs.length - p / 8) (cap - p / 8)), .v (.int .i64 ((n : Nat) : Int)), .v (.int .i8 ((p % 8 : Nat) : Int))]⟩) (by simp) [.v (.slice ad0 y0.length cap0), .v (.int .i64 ((n : Nat) : Int)), .v (.int .i8 ((p % 8 : Nat) : Int))] [⟨0, 27, [.v (.slice none 0 0)]⟩] (by simp) (by simp only [dens, den, hy0l, had0, hcap0])
  dsimp only at hR
  have hyb0 : ∀ i, i < n → bitN y0 (p % 8 + i) = f i := fun i hi => by rw [hy0e, bitN_drop, hf i hi]; congr 1; omega
  refine ⟨_, rfl, ?_⟩
  replace hI := hI.put (d := some 32) (x := .p 1 0) (by intro t ht; cases ht; decide) rfl
  replace hI := hI.sel [32, 31, 30, 29, 10] (by kernel_rfl : sel _ _ = some [(32, .p 1 0), (31, .v (.int .i64 ((n : Nat) : Int))), (30, .v (.int .i64 ((p : Nat) : Int))), (29, .v (.slice ad xs.length cap)), (10, .p 0 0)])
  refine rawOp (x := .v (.func (.func 10) #[.pointer (some ⟨b, 0, none⟩)] #[])) hI rfl rfl (by kernel_rfl) (fun ev hev => by simp [execOp, Instr.makeFunc, hev (.tmp 32) _ rfl, den, hbn]) (fun a8 hI => ?_)
  replace hI := hI.sel [33, 32, 31, 30, 29, 10] (by kernel_rfl : sel _ _ = some [(33, .v (.func (.func 10) #[.pointer (some ⟨b, 0, none⟩)] #[])), (32, .p 1 0), (31, .v (.int .i64 ((n : Nat) : Int))), (30, .v (.int .i64 ((p : Nat) : Int))), (29, .v (.slice ad xs.length cap)), (10, .p 0 0)])
  refine part_ tab [5] [] (by rfl) (k := 2) (hs := []) (sy := []) (ks := [11, 10]) (bs := [1, 0]) (gs := [])
      (L' := [(11, .v (.func (.func 10) #[.pointer (some ⟨b, 0, none⟩)] #[])), (10, .p 0 0)])
      (H' := [⟨1, 43, [.v (.slice ad0 y0.length cap0), .v (.int .i64 ((n : Nat) : Int)), .v (.int .i8 ((p % 8 : Nat) : Int))]⟩, ⟨0, 27, [.v (.slice none 0 0)]⟩]) (G' := []) (k' := 2) hR hI (by kernel_rfl)
      .nil (fun e9 a9 w9 hag hR hI => ?_)
  replace hbn := (hag 1 (by decide)).1.trans hbn
  refine ops_nil ?_
  refine normal_block ?_
  refine then_n ?_
  refine wp_seq ?_
  refine wp_seq ?_
  refine reg (is := [0, 1, 2, 3]) (by kernel_rfl) ?_
  refine part_ tab [0] [1, 2, 3] (by rfl) (k := 2) (hs := []) (sy := []) (ks := [41, 11, 10]) (bs := [1, 0]) (gs := [])
      (L' := [(41, .v (.func (.func 10) #[.pointer (some ⟨b, 0, none⟩)] #[])), (11, .v (.func (.func 10) #[.pointer (some ⟨b, 0, none⟩)] #[])), (10, .p 0 0)])
      (H' := [⟨1, 43, [.v (.slice ad0 y0.length cap0), .v (.int .i64 ((n : Nat) : Int)), .v (.int .i8 ((p % 8 : Nat) : Int))]⟩, ⟨0, 27, [.v (.slice none 0 0)]⟩]) (G' := []) (k' := 2) hR hI (by kernel_rfl)
      .nil (fun e10 a10 w10 hag hR hI => ?_)
  replace hbn := (hag 1 (by decide)).1.trans hbn
  refine callB0 hI rfl rfl ⟨_, rfl, rfl, rfl⟩ (by kernel_rfl : arg _ _ = some (.v (.func (.func 10) #[.pointer (some ⟨b, 0, none⟩)] #[]))) Tryd.func10 rfl rfl ?_
  have hblk_ := hR.blk ⟨1, 43, [.v (.slice ad0 y0.length cap0), .v (.int .i64 ((n : Nat) : Int)), .v (.int .i8 ((p % 8 : Nat) : Int))]⟩ (by simp)
  refine (nextWord_spec (hg.now hB hR) (by have h9 := hblk_.1; dsimp only at h9; rw [hbn] at h9; exact h9) (by have h9 := hblk_.2; dsimp only at h9; rw [hbn] at h9; exact fun h => h9 h.2) (hy0.now hB hR) ho8 (by omega) (by omega)).mono ?_
  rintro ex w11 ⟨r, c, rfl, hk, hnew, hstr⟩
  rw [← hbn] at hk hnew
  have hkF_ := hR.keepB (b := ⟨1, 43, [.v (.slice ad0 y0.length cap0), .v (.int .i64 ((n : Nat) : Int)), .v (.int .i8 ((p % 8 : Nat) : Int))]⟩) (by simp) hk
  replace hg := hg.nextF hB hR hkF_
  replace hy0 := hy0.nextF hB hR hkF_
  have hB_ := hB.nextF hR hkF_
  replace hR := hR.turned (b := ⟨1, 43, [.v (.slice ad0 y0.length cap0), .v (.int .i64 ((n : Nat) : Int)), .v (.int .i8 ((p % 8 : Nat) : Int))]⟩) (by simp) [.v (.slice (cutA ad0 cap0 (r / 8) 1) (y0.length - r / 8) (cap0 - r / 8)), .v (.int .i64 ((n - r : Nat) : Int)), .v (.int .i8 ((p % 8 : Nat) : Int))] [⟨0, 27, [.v (.slice none 0 0)]⟩] (by simp) hk hnew
  dsimp only at hR; replace hB := hB_; clear hB_ hk hkF_ hblk_
  have hq1_r := hstr.1; have hq2_r := hstr.2.1; have hq3_r := hstr.2.2.1; have hq4_r := hstr.2.2.2; have hq5_r := cnt_le (fun i => bitN y0 (p % 8 + i)) r
  refine ⟨_, rfl, ?_⟩
  replace hI := hI.put (d := some 42) (x := .v (.agg #[.int .i16 ((r : Nat) : Int), .int .i16 ((c : Nat) : Int)])) (by intro t ht; cases ht; decide) rfl
  replace hI := hI.sel [42, 41, 11, 10] (by kernel_rfl : sel _ _ = some [(42, .v (.agg #[.int .i16 ((r : Nat) : Int), .int .i16 ((c : Nat) : Int)])), (41, .v (.func (.func 10) #[.pointer (some ⟨b, 0, none⟩)] #[])), (11, .v (.func (.func 10) #[.pointer (some ⟨b, 0, none⟩)] #[])), (10, .p 0 0)])
  refine part_ tab [2, 3] [] (by rfl) (k := 2) (hs := []) (sy := []) (ks := [13, 11, 10]) (bs := [2, 1, 0]) (gs := [])
      (L' := [(13, .p 2 0), (11, .v (.func (.func 10) #[.pointer (some ⟨b, 0, none⟩)] #[])), (10, .p 0 0)])
      (H' := [⟨2, 40, [.v (.int .i16 ((r : Nat) : Int)), .v (.int .i16 ((c : Nat) : Int))]⟩, ⟨1, 43, [.v (.slice (cutA ad0 cap0 (r / 8) 1) (y0.length - r / 8) (cap0 - r / 8)), .v (.int .i64 ((n - r : Nat) : Int)), .v (.int .i8 ((p % 8 : Nat) : Int))]⟩, ⟨0, 27, [.v (.slice none 0 0)]⟩]) (G' := []) (k' := 3) hR hI (by kernel_rfl)
      .nil (fun e12 a12 w12 hag hR hI => ?_)
  replace hbn := (hag 1 (by decide)).1.trans hbn
  refine ops_nil ?_
  refine then_n ?_
  refine wp_block ?_
  obtain ⟨e13, hag_, hr_, hR_⟩ := hR.nilRow (L := [(13, .p 2 0), (11, .v (.func (.func 10) #[.pointer (some ⟨b, 0, none⟩)] #[])), (10, .p 0 0)]) 3 (by kernel_rfl) 30 2
  replace hbn := (hag_ 1 (by decide)).1.trans hbn
  replace hI := hI.agreeB (H := [⟨2, 40, [.v (.int .i16 ((r : Nat) : Int)), .v (.int .i16 ((c : Nat) : Int))]⟩, ⟨1, 43, [.v (.slice (cutA ad0 cap0 (r / 8) 1) (y0.length - r / 8) (cap0 - r / 8)), .v (.int .i64 ((n - r : Nat) : Int)), .v (.int .i8 ((p % 8 : Nat) : Int))]⟩, ⟨0, 27, [.v (.slice none 0 0)]⟩]) (G := []) (by kernel_rfl) hag_; replace hR := hR_; clear hag_ hR_
  replace hR := hR.reblk (b := ⟨0, 27, [.v (.slice none 0 0)]⟩) (by simp) [.row 3] [⟨2, 40, [.v (.int .i16 ((r : Nat) : Int)), .v (.int .i16 ((c : Nat) : Int))]⟩, ⟨1, 43, [.v (.slice (cutA ad0 cap0 (r / 8) 1) (y0.length - r / 8) (cap0 - r / 8)), .v (.int .i64 ((n - r : Nat) : Int)), .v (.int .i8 ((p % 8 : Nat) : Int))]⟩] (by simp) (by simp only [dens, den, hr_])
  dsimp only at hR
  clear hr_
  replace hR := hR.reblk (b := ⟨1, 43, [.v (.slice (cutA ad0 cap0 (r / 8) 1) (y0.length - r / 8) (cap0 - r / 8)), .v (.int .i64 ((n - r : Nat) : Int)), .v (.int .i8 ((p % 8 : Nat) : Int))]⟩) (by simp) [.v (.slice (cutA ad0 cap0 (r / 8) 1) ((y0.drop (r / 8)).length) (cap0 - r / 8)), .v (.int .i64 ((n - r : Nat) : Int)), .v (.int .i8 ((p % 8 : Nat) : Int))] [⟨0, 27, [.row 3]⟩, ⟨2, 40, [.v (.int .i16 ((r : Nat) : Int)), .v (.int .i16 ((c : Nat) : Int))]⟩] (by simp) (by simp only [dens, den, List.length_drop])
  dsimp only at hR
  refine lpM (γ := Nat × Nat × Nat × Nat × Nat × Nat × Option Addr × List Nat × List Nat) (fun (r, c, m, at', rem, cap, ad, ys, fl) => (⟨[(10, .p 0 0), (11, .v (.func (.func 10) #[.pointer (some ⟨b, 0, none⟩)] #[])), (13, .p 2 0)], [⟨0, 27, [.row 3]⟩, ⟨1, 43, [.v (.slice ad ys.length cap), .v (.int .i64 ((rem : Nat) : Int)), .v (.int .i8 ((p % 8 : Nat) : Int))]⟩, ⟨2, 40, [.v (.int .i16 ((r : Nat) : Int)), .v (.int .i16 ((c : Nat) : Int))]⟩], [⟨3, 30, 2, m, (ints .i64 fl)⟩], 4⟩ : Sy)) (fun (r, c, m, at', rem, cap, ad, ys, fl) e C F wb => e.b 1 = b ∧ Sl .u8 256 C wb (some (⟨1, 0, none⟩ : Addr)) 8 bitMask ∧ Sl .u8 256 C wb ad cap ys ∧ p % 8 + rem ≤ 8 * ys.length ∧ ys.length ≤ 4096 ∧ at' + r + rem = n ∧ r ≤ 64 ∧ (r = 0 → rem = 0) ∧ c = cnt (fun i => f (at' + i)) r ∧ (∀ i, i < rem → bitN ys (p % 8 + i) = f (at' + r + i)) ∧ fl.length = 2 * m ∧ m ≤ at' ∧ Blks f 64 0 fl at' ∧ ∀ d ∈ fl, d < 65536) (fun (r, c, m, at', rem, cap, ad, ys, fl) => n - at') (r, c, 0, 0, n - r, cap0 - r / 8, cutA ad0 cap0 (r / 8) 1, y0.drop (r / 8), []) hB (⟨hbn, hg, (by have := hy0.cut (j := r / 8) (m := y0.length) (by omega) (Nat.le_refl _); rwa [cut_all] at this), by rw [List.length_drop]; omega, by rw [List.length_drop]; omega, by omega, by omega, fun h => by omega, by rw [hq4_r]; exact cnt_congr fun i hi => by rw [hyb0 i (by omega), Nat.zero_add], fun i hi => by rw [bitN_drop, show 8 * (r / 8) + (p % 8 + i) = p % 8 + (r + i) by omega, hyb0 _ (by omega)]; congr 1; omega, rfl, Nat.le_refl _, rfl, fun d h => (by cases h)⟩)
      (hR.sel [0, 1, 2] [3] (by kernel_rfl) (by kernel_rfl)) (hI.sel [10, 11, 13] (by kernel_rfl)) ?_
  clear hR hI hB
  rintro ⟨r, c, m, at', rem, cap, ad, ys, fl⟩ e14 C14 F14 wb14 a14 w14 hB hp hR hI
  dsimp only at hp hR hI
  obtain ⟨hbn, hg, hy, hle, hys, hat, hrM, hr0, hcc, hyb, hfl, hmat, hbl, hfd⟩ := hp
  have hry := hy.room; have hmy := hy.max; have hcr := cnt_le (fun i => f (at' + i)) r
  refine wp_seq ?_
  refine reg_seq tab (k := 4) (hs := []) (sy := []) (ks := [45, 10, 11, 13]) (bs := [0, 1, 2]) (gs := [3])
      (L' := [(45, .v (.bool (((r : Nat) : Int) != (0 : Int)))), (10, .p 0 0), (11, .v (.func (.func 10) #[.pointer (some ⟨b, 0, none⟩)] #[])), (13, .p 2 0)])
      (H' := [⟨0, 27, [.row 3]⟩, ⟨1, 43, [.v (.slice ad ys.length cap), .v (.int .i64 ((rem : Nat) : Int)), .v (.int .i8 ((p % 8 : Nat) : Int))]⟩, ⟨2, 40, [.v (.int .i16 ((r : Nat) : Int)), .v (.int .i16 ((c : Nat) : Int))]⟩]) (G' := [⟨3, 30, 2, m, (ints .i64 fl)⟩]) (k' := 4) hR hI (by kernel_rfl)
      .nil (fun e15 a15 w15 hag hR hI => ?_)
  replace hbn := (hag 1 (by decide)).1.trans hbn
  refine cnd (b := (((r : Nat) : Int) != (0 : Int))) hI (by kernel_rfl) (fun hc16 => ?_) (fun hc16 => ?_)
  · skip
    replace hI := hI.re 45 (.v (.bool true)) rfl (congrArg Value.bool hc16)
    try simp only [decide_eq_true_eq, decide_eq_false_iff_not, beq_iff_eq, bne_iff_ne, beq_eq_false_iff_ne, bne_eq_false_iff_eq, Bool.and_eq_true, Bool.and_eq_false_iff, Bool.or_eq_true, Bool.or_eq_false_iff, Bool.not_eq_true', Bool.not_eq_false', ne_eq] at hc16
    have hrp : 0 < r := by omega
    refine wp_skip ?_
    refine then_n ?_
    refine wp_seq ?_
    refine wp_block ?_
    refine reg_all tab (k := 4) (hs := [(3, .nw), (6, .nw)]) (sy := []) (ks := [10, 11, 13]) (bs := [0, 1, 2]) (gs := [5])
        (L' := [(10, .p 0 0), (11, .v (.func (.func 10) #[.pointer (some ⟨b, 0, none⟩)] #[])), (13, .p 2 0)])
        (H' := [⟨0, 27, [.row 5]⟩, ⟨1, 43, [.v (.slice ad ys.length cap), .v (.int .i64 ((rem : Nat) : Int)), .v (.int .i8 ((p % 8 : Nat) : Int))]⟩, ⟨2, 40, [.v (.int .i16 ((r : Nat) : Int)), .v (.int .i16 ((c : Nat) : Int))]⟩]) (G' := [⟨5, 30, 2, (m + 1), ((ints .i64 fl) ++ [.int .i64 ((r : Nat) : Int), .int .i64 ((c : Nat) : Int)])⟩]) (k' := 6) hR hI (by kernel_rfl)
        (.cons (inR_i64 (n := ((r : Nat) : Int)) (by omega)) (.cons (inR_i64 (n := ((c : Nat) : Int)) (by omega)) (.cons (by have hm_ : maxLen = 9223372036854775807 := rfl; rw [hm_]; omega : m + 1 ≤ maxLen) (.cons (by omega : (m + 1) * 16 ≤ 140737488355328) .nil)))) (fun e17 a17 w17 hag hR hI => ?_)
    replace hbn := (hag 1 (by decide)).1.trans hbn
    refine normal_block ?_
    refine then_n ?_
    refine wp_seq ?_
    refine reg_seq tab (k := 6) (hs := []) (sy := []) (ks := [58, 10, 11]) (bs := [0, 1]) (gs := [5])
        (L' := [(58, .agg [.v (.int .i16 ((r : Nat) : Int)), .v (.int .i16 ((c : Nat) : Int))]), (10, .p 0 0), (11, .v (.func (.func 10) #[.pointer (some ⟨b, 0, none⟩)] #[]))])
        (H' := [⟨0, 27, [.row 5]⟩, ⟨1, 43, [.v (.slice ad ys.length cap), .v (.int .i64 ((rem : Nat) : Int)), .v (.int .i8 ((p % 8 : Nat) : Int))]⟩]) (G' := [⟨5, 30, 2, (m + 1), ((ints .i64 fl) ++ [.int .i64 ((r : Nat) : Int), .int .i64 ((c : Nat) : Int)])⟩]) (k' := 6) hR hI (by kernel_rfl)
        .nil (fun e18 a18 w18 hag hR hI => ?_)
    replace hbn := (hag 1 (by decide)).1.trans hbn
    refine reg_all tab (k := 6) (hs := []) (sy := []) (ks := [13, 10, 11]) (bs := [6, 0, 1]) (gs := [5])
        (L' := [(13, .p 6 0), (10, .p 0 0), (11, .v (.func (.func 10) #[.pointer (some ⟨b, 0, none⟩)] #[]))])
        (H' := [⟨6, 40, [.v (.int .i16 ((r : Nat) : Int)), .v (.int .i16 ((c : Nat) : Int))]⟩, ⟨0, 27, [.row 5]⟩, ⟨1, 43, [.v (.slice ad ys.length cap), .v (.int .i64 ((rem : Nat) : Int)), .v (.int .i8 ((p % 8 : Nat) : Int))]⟩]) (G' := [⟨5, 30, 2, (m + 1), ((ints .i64 fl) ++ [.int .i64 ((r : Nat) : Int), .int .i64 ((c : Nat) : Int)])⟩]) (k' := 7) hR hI (by kernel_rfl)
        .nil (fun e19 a19 w19 hag hR hI => ?_)
    replace hbn := (hag 1 (by decide)).1.trans hbn
    refine then_n ?_
    refine reg (is := [0, 1, 2]) (by kernel_rfl) ?_
    refine part_ tab [0] [1, 2] (by rfl) (k := 7) (hs := []) (sy := []) (ks := [46, 13, 10, 11]) (bs := [6, 0, 1]) (gs := [5])
        (L' := [(46, .v (.func (.func 10) #[.pointer (some ⟨b, 0, none⟩)] #[])), (13, .p 6 0), (10, .p 0 0), (11, .v (.func (.func 10) #[.pointer (some ⟨b, 0, none⟩)] #[]))])
        (H' := [⟨6, 40, [.v (.int .i16 ((r : Nat) : Int)), .v (.int .i16 ((c : Nat) : Int))]⟩, ⟨0, 27, [.row 5]⟩, ⟨1, 43, [.v (.slice ad ys.length cap), .v (.int .i64 ((rem : Nat) : Int)), .v (.int .i8 ((p % 8 : Nat) : Int))]⟩]) (G' := [⟨5, 30, 2, (m + 1), ((ints .i64 fl) ++ [.int .i64 ((r : Nat) : Int), .int .i64 ((c : Nat) : Int)])⟩]) (k' := 7) hR hI (by kernel_rfl)
        .nil (fun e20 a20 w20 hag hR hI => ?_)
    replace hbn := (hag 1 (by decide)).1.trans hbn
    refine callB0 hI rfl rfl ⟨_, rfl, rfl, rfl⟩ (by kernel_rfl : arg _ _ = some (.v (.func (.func 10) #[.pointer (some ⟨b, 0, none⟩)] #[]))) Tryd.func10 rfl rfl ?_
    have hblk_ := hR.blk ⟨1, 43, [.v (.slice ad ys.length cap), .v (.int .i64 ((rem : Nat) : Int)), .v (.int .i8 ((p % 8 : Nat) : Int))]⟩ (by simp)
    refine (nextWord_spec (hg.now hB hR) (by have h9 := hblk_.1; dsimp only at h9; rw [hbn] at h9; exact h9) (by have h9 := hblk_.2; dsimp only at h9; rw [hbn] at h9; exact fun h => h9 h.2) (hy.now hB hR) ho8 (by omega) (by omega)).mono ?_
    rintro ex w21 ⟨r2, c2, rfl, hk, hnew, hstr2⟩
    rw [← hbn] at hk hnew
    have hkF_ := hR.keepB (b := ⟨1, 43, [.v (.slice ad ys.length cap), .v (.int .i64 ((rem : Nat) : Int)), .v (.int .i8 ((p % 8 : Nat) : Int))]⟩) (by simp) hk
    replace hg := hg.nextF hB hR hkF_
    replace hy := hy.nextF hB hR hkF_
    have hB_ := hB.nextF hR hkF_
    replace hR := hR.turned (b := ⟨1, 43, [.v (.slice ad ys.length cap), .v (.int .i64 ((rem : Nat) : Int)), .v (.int .i8 ((p % 8 : Nat) : Int))]⟩) (by simp) [.v (.slice (cutA ad cap (r2 / 8) 1) (ys.length - r2 / 8) (cap - r2 / 8)), .v (.int .i64 ((rem - r2 : Nat) : Int)), .v (.int .i8 ((p % 8 : Nat) : Int))] [⟨6, 40, [.v (.int .i16 ((r : Nat) : Int)), .v (.int .i16 ((c : Nat) : Int))]⟩, ⟨0, 27, [.row 5]⟩] (by simp) hk hnew
    dsimp only at hR; replace hB := hB_; clear hB_ hk hkF_ hblk_
    have hq1_r2 := hstr2.1; have hq2_r2 := hstr2.2.1; have hq3_r2 := hstr2.2.2.1; have hq4_r2 := hstr2.2.2.2; have hq5_r2 := cnt_le (fun i => bitN ys (p % 8 + i)) r2
    refine ⟨_, rfl, ?_⟩
    replace hI := hI.put (d := some 47) (x := .v (.agg #[.int .i16 ((r2 : Nat) : Int), .int .i16 ((c2 : Nat) : Int)])) (by intro t ht; cases ht; decide) rfl
    replace hI := hI.sel [47, 46, 13, 10, 11] (by kernel_rfl : sel _ _ = some [(47, .v (.agg #[.int .i16 ((r2 : Nat) : Int), .int .i16 ((c2 : Nat) : Int)])), (46, .v (.func (.func 10) #[.pointer (some ⟨b, 0, none⟩)] #[])), (13, .p 6 0), (10, .p 0 0), (11, .v (.func (.func 10) #[.pointer (some ⟨b, 0, none⟩)] #[]))])
    refine part_ tab [2] [] (by rfl) (k := 7) (hs := []) (sy := []) (ks := [13, 10, 11]) (bs := [6, 1, 0]) (gs := [5])
        (L' := [(13, .p 6 0), (10, .p 0 0), (11, .v (.func (.func 10) #[.pointer (some ⟨b, 0, none⟩)] #[]))])
        (H' := [⟨6, 40, [.v (.int .i16 ((r2 : Nat) : Int)), .v (.int .i16 ((c2 : Nat) : Int))]⟩, ⟨1, 43, [.v (.slice (cutA ad cap (r2 / 8) 1) (ys.length - r2 / 8) (cap - r2 / 8)), .v (.int .i64 ((rem - r2 : Nat) : Int)), .v (.int .i8 ((p % 8 : Nat) : Int))]⟩, ⟨0, 27, [.row 5]⟩]) (G' := [⟨5, 30, 2, (m + 1), ((ints .i64 fl) ++ [.int .i64 ((r : Nat) : Int), .int .i64 ((c : Nat) : Int)])⟩]) (k' := 7) hR hI (by kernel_rfl)
        .nil (fun e22 a22 w22 hag hR hI => ?_)
    replace hbn := (hag 1 (by decide)).1.trans hbn
    refine ops_nil ?_
    refine then_n ?_
    replace hR := hR.reblk (b := ⟨1, 43, [.v (.slice (cutA ad cap (r2 / 8) 1) (ys.length - r2 / 8) (cap - r2 / 8)), .v (.int .i64 ((rem - r2 : Nat) : Int)), .v (.int .i8 ((p % 8 : Nat) : Int))]⟩) (by simp) [.v (.slice (cutA ad cap (r2 / 8) 1) ((ys.drop (r2 / 8)).length) (cap - r2 / 8)), .v (.int .i64 ((rem - r2 : Nat) : Int)), .v (.int .i8 ((p % 8 : Nat) : Int))] [⟨6, 40, [.v (.int .i16 ((r2 : Nat) : Int)), .v (.int .i16 ((c2 : Nat) : Int))]⟩, ⟨0, 27, [.row 5]⟩] (by simp) (by simp only [dens, den, List.length_drop])
    dsimp only at hR
    rw [ints_two] at hR
    have hren_ : Sy.ren [(3, 5), (2, 6)] ⟨[(13, .p 2 0), (10, .p 0 0), (11, .v (.func (.func 10) #[.pointer (some ⟨b, 0, none⟩)] #[]))], [⟨1, 43, [.v (.slice (cutA ad cap (r2 / 8) 1) ((ys.drop (r2 / 8)).length) (cap - r2 / 8)), .v (.int .i64 ((rem - r2 : Nat) : Int)), .v (.int .i8 ((p % 8 : Nat) : Int))]⟩, ⟨2, 40, [.v (.int .i16 ((r2 : Nat) : Int)), .v (.int .i16 ((c2 : Nat) : Int))]⟩, ⟨0, 27, [.row 3]⟩], [⟨3, 30, 2, (m + 1), (ints .i64 (fl ++ [r, c]))⟩], 0⟩ = ⟨[(13, .p 6 0), (10, .p 0 0), (11, .v (.func (.func 10) #[.pointer (some ⟨b, 0, none⟩)] #[]))], [⟨1, 43, [.v (.slice (cutA ad cap (r2 / 8) 1) ((ys.drop (r2 / 8)).length) (cap - r2 / 8)), .v (.int .i64 ((rem - r2 : Nat) : Int)), .v (.int .i8 ((p % 8 : Nat) : Int))]⟩, ⟨6, 40, [.v (.int .i16 ((r2 : Nat) : Int)), .v (.int .i16 ((c2 : Nat) : Int))]⟩, ⟨0, 27, [.row 5]⟩], [⟨5, 30, 2, (m + 1), (ints .i64 (fl ++ [r, c]))⟩], 0⟩ := by kernel_rfl
    replace hI := hI.rename (S := ⟨[(13, .p 6 0), (10, .p 0 0), (11, .v (.func (.func 10) #[.pointer (some ⟨b, 0, none⟩)] #[]))], [⟨1, 43, [.v (.slice (cutA ad cap (r2 / 8) 1) ((ys.drop (r2 / 8)).length) (cap - r2 / 8)), .v (.int .i64 ((rem - r2 : Nat) : Int)), .v (.int .i8 ((p % 8 : Nat) : Int))]⟩, ⟨6, 40, [.v (.int .i16 ((r2 : Nat) : Int)), .v (.int .i16 ((c2 : Nat) : Int))]⟩, ⟨0, 27, [.row 5]⟩], [⟨5, 30, 2, (m + 1), (ints .i64 (fl ++ [r, c]))⟩], 0⟩) (S' := ⟨[(13, .p 2 0), (10, .p 0 0), (11, .v (.func (.func 10) #[.pointer (some ⟨b, 0, none⟩)] #[]))], [⟨1, 43, [.v (.slice (cutA ad cap (r2 / 8) 1) ((ys.drop (r2 / 8)).length) (cap - r2 / 8)), .v (.int .i64 ((rem - r2 : Nat) : Int)), .v (.int .i8 ((p % 8 : Nat) : Int))]⟩, ⟨2, 40, [.v (.int .i16 ((r2 : Nat) : Int)), .v (.int .i16 ((c2 : Nat) : Int))]⟩, ⟨0, 27, [.row 3]⟩], [⟨3, 30, 2, (m + 1), (ints .i64 (fl ++ [r, c]))⟩], 0⟩) hren_; replace hR := hR.rename (S := ⟨[(13, .p 6 0), (10, .p 0 0), (11, .v (.func (.func 10) #[.pointer (some ⟨b, 0, none⟩)] #[]))], [⟨1, 43, [.v (.slice (cutA ad cap (r2 / 8) 1) ((ys.drop (r2 / 8)).length) (cap - r2 / 8)), .v (.int .i64 ((rem - r2 : Nat) : Int)), .v (.int .i8 ((p % 8 : Nat) : Int))]⟩, ⟨6, 40, [.v (.int .i16 ((r2 : Nat) : Int)), .v (.int .i16 ((c2 : Nat) : Int))]⟩, ⟨0, 27, [.row 5]⟩], [⟨5, 30, 2, (m + 1), (ints .i64 (fl ++ [r, c]))⟩], 0⟩) (S' := ⟨[(13, .p 2 0), (10, .p 0 0), (11, .v (.func (.func 10) #[.pointer (some ⟨b, 0, none⟩)] #[]))], [⟨1, 43, [.v (.slice (cutA ad cap (r2 / 8) 1) ((ys.drop (r2 / 8)).length) (cap - r2 / 8)), .v (.int .i64 ((rem - r2 : Nat) : Int)), .v (.int .i8 ((p % 8 : Nat) : Int))]⟩, ⟨2, 40, [.v (.int .i16 ((r2 : Nat) : Int)), .v (.int .i16 ((c2 : Nat) : Int))]⟩, ⟨0, 27, [.row 3]⟩], [⟨3, 30, 2, (m + 1), (ints .i64 (fl ++ [r, c]))⟩], 0⟩) hren_ (by kernel_rfl) (by kernel_rfl); dsimp only at hI hR; clear hren_
    replace hbn : (Env.ren e22 [(3, 5), (2, 6)]).b 1 = _ := hbn
    exact ⟨(r2, c2, m + 1, at' + r, rem - r2, cap - r2 / 8, cutA ad cap (r2 / 8) 1, ys.drop (r2 / 8), fl ++ [r, c]), _, _, _, _, hB, ⟨hbn, hg, (by have := hy.cut (j := r2 / 8) (m := ys.length) (by omega) (Nat.le_refl _); rwa [cut_all] at this), by rw [List.length_drop]; omega, by rw [List.length_drop]; omega, by omega, by omega, fun h => by omega, by rw [hq4_r2]; exact cnt_congr fun i hi => hyb i (by omega), fun i hi => by rw [bitN_drop, show 8 * (r2 / 8) + (p % 8 + i) = p % 8 + (r2 + i) by omega, hyb _ (by omega)]; congr 1; omega, fls hfl, by omega, hbl.snoc (by omega) hrM hcc, pair_dig hfd (by omega) (by omega)⟩, (by (try dsimp only); omega), hR.sel [0, 1, 2] [3] (by kernel_rfl) (by kernel_rfl), hI.sel [10, 11, 13] (by kernel_rfl)⟩
  · skip
    replace hI := hI.re 45 (.v (.bool false)) rfl (congrArg Value.bool hc16)
    try simp only [decide_eq_true_eq, decide_eq_false_iff_not, beq_iff_eq, bne_iff_ne, beq_eq_false_iff_ne, bne_eq_false_iff_eq, Bool.and_eq_true, Bool.and_eq_false_iff, Bool.or_eq_true, Bool.or_eq_false_iff, Bool.not_eq_true', Bool.not_eq_false', ne_eq] at hc16
    have hrz : r = 0 := by omega
    have hrem := hr0 hrz
    refine wp_exit ?_
    refine exit_then ?_
    refine exit_then ?_
    refine exit_hit ?_
    refine then_n ?_
    have hatn : at' = n := by omega
    obtain ⟨hB_, hR_, hrel_, bd, bc, hv_, hcells, hlen_, hcap_, hmax_⟩ := hB.releaseN hR (y := ⟨3, 30, 2, m, (ints .i64 fl)⟩) (by simp) _ dropN_mem
    replace hg := hg.rel hrel_
    replace hy := hy.rel hrel_
    replace hB := hB_; replace hR := hR_.sel [0, 1, 2] [] (by kernel_rfl : selH _ _ = some [⟨0, 27, [.row 3]⟩, ⟨1, 43, [.v (.slice ad ys.length cap), .v (.int .i64 ((rem : Nat) : Int)), .v (.int .i8 ((p % 8 : Nat) : Int))]⟩, ⟨2, 40, [.v (.int .i16 ((r : Nat) : Int)), .v (.int .i16 ((c : Nat) : Int))]⟩]) (by kernel_rfl : selG _ _ = some []); clear hB_ hR_ hrel_
    replace hR := hR.reblk (b := ⟨0, 27, [.row 3]⟩) (by simp) [.v (.slice bd m bc)] [⟨1, 43, [.v (.slice ad ys.length cap), .v (.int .i64 ((rem : Nat) : Int)), .v (.int .i8 ((p % 8 : Nat) : Int))]⟩, ⟨2, 40, [.v (.int .i16 ((r : Nat) : Int)), .v (.int .i16 ((c : Nat) : Int))]⟩] (by simp) (by simp only [dens, den, hv_])
    dsimp only at hR
    clear hv_
    have hfl0 := sl_flat hcells hfd (by omega)
    have hbcm : m ≤ bc := hcap_; have hbcx : bc ≤ 9223372036854775807 := hmax_
    refine reg_seq tab (k := 4) (hs := []) (sy := []) (ks := [10]) (bs := [0, 1]) (gs := [])
        (L' := [(10, .p 0 0)])
        (H' := [⟨0, 27, [.v (.slice bd m bc)]⟩, ⟨1, 43, [.v (.slice ad ys.length cap), .v (.int .i64 ((rem : Nat) : Int)), .v (.int .i8 ((p % 8 : Nat) : Int))]⟩]) (G' := []) (k' := 4) hR hI (by kernel_rfl)
        .nil (fun e23 a23 w23 hag hR hI => ?_)
    replace hbn := (hag 1 (by decide)).1.trans hbn
    refine wp_ret ?_
    refine outF tab (xs := [.v (.slice bd m bc)]) hR hI (inv8 _ _) (idle8 _) rfl (by kernel_rfl) ?_
    exact ⟨fl, bd, bc, m, rfl, hB.fin hR, hfl0.fin hB hR, hfl, hbcm, hbcx, by rw [← hatn]; exact hbl⟩

set_option maxHeartbeats 4000000 in
set_option maxRecDepth 100000 in
theorem blk1_spec {C : Nat → Prop} {w : World} {n p : Nat} {f : Nat → Bool} {ad : Option Addr} {cap : Nat} {xs : List Nat} (hg : Sl .u8 256 C w (some (⟨1, 0, none⟩ : Addr)) 8 bitMask) (hx : Sl .u8 256 C w ad cap xs) (hp : p + n ≤ 8 * xs.length) (hs : xs.length ≤ 4096) (hf : ∀ i, i < n → f i = bitN xs (p + i)) (nn : Bool) :
    Calls P 6 #[.slice ad xs.length cap, .int .i64 ((p : Nat) : Int), .int .i64 ((n : Nat) : Int), .int .i64 1, .bool nn] w fun ex w' => ∃ (fl : List Nat) (bd : Option Addr) (bc m : Nat), ex = .returned (.slice bd m bc) ∧ Keep (fun b => b < w.heap.size) w w' ∧ Sl .i64 65536 (Grow C w w') w' bd fl.length fl ∧ fl.length = 2 * m ∧ m ≤ bc ∧ bc ≤ 9223372036854775807 ∧ Blks f 256 0 fl n := by
  refine doorD (e := e0) (vs := [.v (.slice ad xs.length cap), .v (.int .i64 ((p : Nat) : Int)), .v (.int .i64 ((n : Nat) : Int)), .v (.int .i64 1), .v (.bool nn)]) (n := 60) (m := 5) Tryd.func6 rfl rfl rfl (by decide) fun a_ hI => ?_
  replace hI : Is 60 [] e0 [(0, .v (.slice ad xs.length cap)), (1, .v (.int .i64 ((p : Nat) : Int))), (2, .v (.int .i64 ((n : Nat) : Int))), (3, .v (.int .i64 1)), (4, .v (.bool nn))] a_ := hI
  have hR : Rel (fun b => b < w.heap.size) w e0 [] [] w := Rel.start (fun k hk => hk)
  have hB : Base C w C (fun b => b < w.heap.size) w := Base.start
  have hrx := hx.room; have hmx := hx.max; have hn8 : n ≤ 32768 := (by omega); have ho8 : p % 8 < 8 := Nat.mod_lt _ (by decide)
  refine reg_seq tab (k := 0) (hs := []) (sy := []) (ks := [10, 0, 1, 2, 3, 4]) (bs := [0]) (gs := [])
      (L' := [(10, .p 0 0), (0, .v (.slice ad xs.length cap)), (1, .v (.int .i64 ((p : Nat) : Int))), (2, .v (.int .i64 ((n : Nat) : Int))), (3, .v (.int .i64 1)), (4, .v (.bool nn))])
      (H' := [⟨0, 27, [.v (.slice none 0 0)]⟩]) (G' := []) (k' := 1) hR hI (by kernel_rfl)
      .nil (fun e1 a1 w1 hag hR hI => ?_)
  refine wp_seq ?_
  refine reg (is := [0, 1]) (by kernel_rfl) ?_
  refine rawOp (x := .v (.func (.func 8) #[] #[.pointer (some ⟨e1.b 0, 0, none⟩)])) hI rfl rfl (by kernel_rfl) (fun ev hev => by simp [execOp, Instr.makeFunc, hev (.tmp 10) _ rfl, den]) (fun a2 hI => ?_)
  replace hI := hI.sel [14, 10, 0, 1, 2, 3, 4] (by kernel_rfl : sel _ _ = some [(14, .v (.func (.func 8) #[] #[.pointer (some ⟨e1.b 0, 0, none⟩)])), (10, .p 0 0), (0, .v (.slice ad xs.length cap)), (1, .v (.int .i64 ((p : Nat) : Int))), (2, .v (.int .i64 ((n : Nat) : Int))), (3, .v (.int .i64 1)), (4, .v (.bool nn))])
  refine deferFn hI rfl rfl rfl ⟨_, rfl, rfl, rfl⟩ rfl (fun a2 hI => ?_)
  replace hI := hI.sel [14, 10, 0, 1, 2, 3, 4] (by kernel_rfl : sel _ _ = some [(14, .v (.func (.func 8) #[] #[.pointer (some ⟨e1.b 0, 0, none⟩)])), (10, .p 0 0), (0, .v (.slice ad xs.length cap)), (1, .v (.int .i64 ((p : Nat) : Int))), (2, .v (.int .i64 ((n : Nat) : Int))), (3, .v (.int .i64 1)), (4, .v (.bool nn))])
  refine ops_nil ?_
  refine then_n ?_
  refine reg_seq tab (k := 1) (hs := []) (sy := []) (ks := [10, 0, 1, 2, 3, 4]) (bs := [0]) (gs := [])
      (L' := [(10, .p 0 0), (0, .v (.slice ad xs.length cap)), (1, .v (.int .i64 ((p : Nat) : Int))), (2, .v (.int .i64 ((n : Nat) : Int))), (3, .v (.int .i64 1)), (4, .v (.bool nn))])
      (H' := [⟨0, 27, [.v (.slice none 0 0)]⟩]) (G' := []) (k' := 1) hR hI (by kernel_rfl)
      .nil (fun e3 a3 w3 hag hR hI => ?_)
  refine wp_seq ?_
  refine reg_seq tab (k := 1) (hs := []) (sy := []) (ks := [15, 10, 0, 1, 2, 3, 4]) (bs := [0]) (gs := [])
      (L' := [(15, .v (.int .i64 1)), (10, .p 0 0), (0, .v (.slice ad xs.length cap)), (1, .v (.int .i64 ((p : Nat) : Int))), (2, .v (.int .i64 ((n : Nat) : Int))), (3, .v (.int .i64 1)), (4, .v (.bool nn))])
      (H' := [⟨0, 27, [.v (.slice none 0 0)]⟩]) (G' := []) (k' := 1) hR hI (by kernel_rfl)
      .nil (fun e4 a4 w4 hag hR hI => ?_)
  refine wp_block ?_
  refine reg_seq tab (k := 1) (hs := []) (sy := []) (ks := [27, 15, 10, 0, 1, 2, 3, 4]) (bs := [0]) (gs := [])
      (L' := [(27, .v (.bool false)), (15, .v (.int .i64 1)), (10, .p 0 0), (0, .v (.slice ad xs.length cap)), (1, .v (.int .i64 ((p : Nat) : Int))), (2, .v (.int .i64 ((n : Nat) : Int))), (3, .v (.int .i64 1)), (4, .v (.bool nn))])
      (H' := [⟨0, 27, [.v (.slice none 0 0)]⟩]) (G' := []) (k' := 1) hR hI (by kernel_rfl)
      .nil (fun e5 a5 w5 hag hR hI => ?_)
  refine cnd_f hI (by kernel_rfl) ?_
  refine reg_seq tab (k := 1) (hs := []) (sy := []) (ks := [34, 10, 0, 1, 2, 3, 4]) (bs := [0]) (gs := [])
      (L' := [(34, .v (.bool true)), (10, .p 0 0), (0, .v (.slice ad xs.length cap)), (1, .v (.int .i64 ((p : Nat) : Int))), (2, .v (.int .i64 ((n : Nat) : Int))), (3, .v (.int .i64 1)), (4, .v (.bool nn))])
      (H' := [⟨0, 27, [.v (.slice none 0 0)]⟩]) (G' := []) (k' := 1) hR hI (by kernel_rfl)
      .nil (fun e6 a6 w6 hag hR hI => ?_)
  refine cnd_t hI (by kernel_rfl) ?_
  refine reg (is := [0, 1, 2, 3, 4, 5]) (by kernel_rfl) ?_
  refine part_ tab [0, 1, 2] [3, 4, 5] (by rfl) (k := 1) (hs := []) (sy := []) (ks := [38, 37, 36, 10]) (bs := [0]) (gs := [])
      (L' := [(38, .v (.int .i64 ((n : Nat) : Int))), (37, .v (.int .i64 ((p : Nat) : Int))), (36, .v (.slice ad xs.length cap)), (10, .p 0 0)])
      (H' := [⟨0, 27, [.v (.slice none 0 0)]⟩]) (G' := []) (k' := 1) hR hI (by kernel_rfl)
      .nil (fun e7 a7 w7 hag hR hI => ?_)
  refine callOp (ys := [.v (.slice ad xs.length cap), .v (.int .i64 ((p : Nat) : Int)), .v (.int .i64 ((n : Nat) : Int))]) hI rfl rfl ⟨_, rfl, rfl, rfl⟩ (by kernel_rfl) Tryd.func9 rfl rfl ?_
  have hBs := hB.size hR
  refine (newCounter_spec (hx.now hB hR) hp hs).mono ?_
  rintro ex w8 ⟨b, rfl, hge, hnew, hk⟩
  obtain ⟨hag_, hnb_, hR_⟩ := hR.gotX (L := []) (k := 1) (cs := [.v (.slice (cutA ad cap (p / 8) 1) (xs.length - p / 8) (cap - p / 8)), .v (.int .i64 ((n : Nat) : Int)), .v (.int .i8 ((p % 8 : Nat) : Int))]) (by kernel_rfl) (by kernel_rfl) hk hge hnew
  have hkF_ := hR.keepF hk
  replace hg := hg.nextX hB hR hkF_ hge
  replace hx := hx.nextX hB hR hkF_ hge
  have hB_ := hB.nextX hR hkF_ hge
  replace hI := hI.agreeB (H := [⟨0, 27, [.v (.slice none 0 0)]⟩]) (G := []) (by kernel_rfl) hag_
  replace hR := hR_; replace hB := hB_; clear hB_ hR_ hkF_ hk
  have hbn : (e7.addB 1 b).b 1 = b := addB_b _ _ _
  obtain ⟨y0, hy0e⟩ : ∃ y0, y0 = xs.drop (p / 8) := ⟨_, rfl⟩
  obtain ⟨ad0, had0⟩ : ∃ ad0, ad0 = cutA (ad) cap (p / 8) 1 := ⟨_, rfl⟩
  obtain ⟨cap0, hcap0⟩ : ∃ cap0, cap0 = cap - p / 8 := ⟨_, rfl⟩
  have hy0l : y0.length = xs.length - p / 8 := by rw [hy0e, List.length_drop]
  have hy0 := hx.cut (j := p / 8) (m := xs.length) (by omega) (Nat.le_refl _)
  rw [cut_all, ← hy0e, ← had0, ← hcap0] at hy0
  replace hR := hR.reblk (b := ⟨1, 43, [.v (.slice (cutA ad cap (p / 8) 1) (xs.length - p / 8) (cap - p / 8)), .v (.int .i64 ((n : Nat) : Int)), .v (.int .i8 ((p % 8 : Nat) : Int))]⟩) (by simp) [.v (.slice ad0 y0.length cap0), .v (.int .i64 ((n : Nat) : Int)), .v (.int .i8 ((p % 8 : Nat) : Int))] [⟨0, 27, [.v (.slice none 0 0)]⟩] (by simp) (by simp only [dens, den, hy0l, had0, hcap0])
  dsimp only at hR
  have hyb0 : ∀ i, i < n → bitN y0 (p % 8 + i) = f i := fun i hi => by rw [hy0e, bitN_drop, hf i hi]; congr 1; omega
  refine ⟨_, rfl, ?_⟩
  replace hI := hI.put (d := some 39) (x := .p 1 0) (by intro t ht; cases ht; decide) rfl
  replace hI := hI.sel [39, 38, 37, 36, 10] (by kernel_rfl : sel _ _ = some [(39, .p 1 0), (38, .v (.int .i64 ((n : Nat) : Int))), (37, .v (.int .i64 ((p : Nat) : Int))), (36, .v (.slice ad xs.length cap)), (10, .p 0 0)])
  refine rawOp (x := .v (.func (.func 11) #[.pointer (some ⟨b, 0, none⟩)] #[])) hI rfl rfl (by kernel_rfl) (fun ev hev => by simp [execOp, Instr.makeFunc, hev (.tmp 39) _ rfl, den, hbn]) (fun a9 hI => ?_)
  replace hI := hI.sel [40, 39, 38, 37, 36, 10] (by kernel_rfl : sel _ _ = some [(40, .v (.func (.func 11) #[.pointer (some ⟨b, 0, none⟩)] #[])), (39, .p 1 0), (38, .v (.int .i64 ((n : Nat) : Int))), (37, .v (.int .i64 ((p : Nat) : Int))), (36, .v (.slice ad xs.length cap)), (10, .p 0 0)])
  refine part_ tab [5] [] (by rfl) (k := 2) (hs := []) (sy := []) (ks := [11, 10]) (bs := [1, 0]) (gs := [])
      (L' := [(11, .v (.func (.func 11) #[.pointer (some ⟨b, 0, none⟩)] #[])), (10, .p 0 0)])
      (H' := [⟨1, 43, [.v (.slice ad0 y0.length cap0), .v (.int .i64 ((n : Nat) : Int)), .v (.int .i8 ((p % 8 : Nat) : Int))]⟩, ⟨0, 27, [.v (.slice none 0 0)]⟩]) (G' := []) (k' := 2) hR hI (by kernel_rfl)
      .nil (fun e10 a10 w10 hag hR hI => ?_)
  replace hbn := (hag 1 (by decide)).1.trans hbn
  refine ops_nil ?_
  refine normal_block ?_
  refine then_n ?_
  refine wp_seq ?_
  refine wp_seq ?_
  refine reg (is := [0, 1, 2, 3]) (by kernel_rfl) ?_
  refine part_ tab [0] [1, 2, 3] (by rfl) (k := 2) (hs := []) (sy := []) (ks := [41, 11, 10]) (bs := [1, 0]) (gs := [])
      (L' := [(41, .v (.func (.func 11) #[.pointer (some ⟨b, 0, none⟩)] #[])), (11, .v (.func (.func 11) #[.pointer (some ⟨b, 0, none⟩)] #[])), (10, .p 0 0)])
      (H' := [⟨1, 43, [.v (.slice ad0 y0.length cap0), .v (.int .i64 ((n : Nat) : Int)), .v (.int .i8 ((p % 8 : Nat) : Int))]⟩, ⟨0, 27, [.v (.slice none 0 0)]⟩]) (G' := []) (k' := 2) hR hI (by kernel_rfl)
      .nil (fun e11 a11 w11 hag hR hI => ?_)
  replace hbn := (hag 1 (by decide)).1.trans hbn
  refine callB0 hI rfl rfl ⟨_, rfl, rfl, rfl⟩ (by kernel_rfl : arg _ _ = some (.v (.func (.func 11) #[.pointer (some ⟨b, 0, none⟩)] #[]))) Tryd.func11 rfl rfl ?_
  have hblk_ := hR.blk ⟨1, 43, [.v (.slice ad0 y0.length cap0), .v (.int .i64 ((n : Nat) : Int)), .v (.int .i8 ((p % 8 : Nat) : Int))]⟩ (by simp)
  refine (nextFour_spec (hg.now hB hR) (by have h9 := hblk_.1; dsimp only at h9; rw [hbn] at h9; exact h9) (by have h9 := hblk_.2; dsimp only at h9; rw [hbn] at h9; exact fun h => h9 h.2) (hy0.now hB hR) ho8 (by omega) (by omega)).mono ?_
  rintro ex w12 ⟨r, c, rfl, hk, hnew, hstr⟩
  rw [← hbn] at hk hnew
  have hkF_ := hR.keepB (b := ⟨1, 43, [.v (.slice ad0 y0.length cap0), .v (.int .i64 ((n : Nat) : Int)), .v (.int .i8 ((p % 8 : Nat) : Int))]⟩) (by simp) hk
  replace hg := hg.nextF hB hR hkF_
  replace hy0 := hy0.nextF hB hR hkF_
  have hB_ := hB.nextF hR hkF_
  replace hR := hR.turned (b := ⟨1, 43, [.v (.slice ad0 y0.length cap0), .v (.int .i64 ((n : Nat) : Int)), .v (.int .i8 ((p % 8 : Nat) : Int))]⟩) (by simp) [.v (.slice (cutA ad0 cap0 (r / 8) 1) (y0.length - r / 8) (cap0 - r / 8)), .v (.int .i64 ((n - r : Nat) : Int)), .v (.int .i8 ((p % 8 : Nat) : Int))] [⟨0, 27, [.v (.slice none 0 0)]⟩] (by simp) hk hnew
  dsimp only at hR; replace hB := hB_; clear hB_ hk hkF_ hblk_
  have hq1_r := hstr.1; have hq2_r := hstr.2.1; have hq3_r := hstr.2.2.1; have hq4_r := hstr.2.2.2; have hq5_r := cnt_le (fun i => bitN y0 (p % 8 + i)) r
  refine ⟨_, rfl, ?_⟩
  replace hI := hI.put (d := some 42) (x := .v (.agg #[.int .i16 ((r : Nat) : Int), .int .i16 ((c : Nat) : Int)])) (by intro t ht; cases ht; decide) rfl
  replace hI := hI.sel [42, 41, 11, 10] (by kernel_rfl : sel _ _ = some [(42, .v (.agg #[.int .i16 ((r : Nat) : Int), .int .i16 ((c : Nat) : Int)])), (41, .v (.func (.func 11) #[.pointer (some ⟨b, 0, none⟩)] #[])), (11, .v (.func (.func 11) #[.pointer (some ⟨b, 0, none⟩)] #[])), (10, .p 0 0)])
  refine part_ tab [2, 3] [] (by rfl) (k := 2) (hs := []) (sy := []) (ks := [13, 11, 10]) (bs := [2, 1, 0]) (gs := [])
      (L' := [(13, .p 2 0), (11, .v (.func (.func 11) #[.pointer (some ⟨b, 0, none⟩)] #[])), (10, .p 0 0)])
      (H' := [⟨2, 40, [.v (.int .i16 ((r : Nat) : Int)), .v (.int .i16 ((c : Nat) : Int))]⟩, ⟨1, 43, [.v (.slice (cutA ad0 cap0 (r / 8) 1) (y0.length - r / 8) (cap0 - r / 8)), .v (.int .i64 ((n - r : Nat) : Int)), .v (.int .i8 ((p % 8 : Nat) : Int))]⟩, ⟨0, 27, [.v (.slice none 0 0)]⟩]) (G' := []) (k' := 3) hR hI (by kernel_rfl)
      .nil (fun e13 a13 w13 hag hR hI => ?_)
  replace hbn := (hag 1 (by decide)).1.trans hbn
  refine ops_nil ?_
  refine then_n ?_
  refine wp_block ?_
  obtain ⟨e14, hag_, hr_, hR_⟩ := hR.nilRow (L := [(13, .p 2 0), (11, .v (.func (.func 11) #[.pointer (some ⟨b, 0, none⟩)] #[])), (10, .p 0 0)]) 3 (by kernel_rfl) 30 2
  replace hbn := (hag_ 1 (by decide)).1.trans hbn
  replace hI := hI.agreeB (H := [⟨2, 40, [.v (.int .i16 ((r : Nat) : Int)), .v (.int .i16 ((c : Nat) : Int))]⟩, ⟨1, 43, [.v (.slice (cutA ad0 cap0 (r / 8) 1) (y0.length - r / 8) (cap0 - r / 8)), .v (.int .i64 ((n - r : Nat) : Int)), .v (.int .i8 ((p % 8 : Nat) : Int))]⟩, ⟨0, 27, [.v (.slice none 0 0)]⟩]) (G := []) (by kernel_rfl) hag_; replace hR := hR_; clear hag_ hR_
  replace hR := hR.reblk (b := ⟨0, 27, [.v (.slice none 0 0)]⟩) (by simp) [.row 3] [⟨2, 40, [.v (.int .i16 ((r : Nat) : Int)), .v (.int .i16 ((c : Nat) : Int))]⟩, ⟨1, 43, [.v (.slice (cutA ad0 cap0 (r / 8) 1) (y0.length - r / 8) (cap0 - r / 8)), .v (.int .i64 ((n - r : Nat) : Int)), .v (.int .i8 ((p % 8 : Nat) : Int))]⟩] (by simp) (by simp only [dens, den, hr_])
  dsimp only at hR
  clear hr_
  replace hR := hR.reblk (b := ⟨1, 43, [.v (.slice (cutA ad0 cap0 (r / 8) 1) (y0.length - r / 8) (cap0 - r / 8)), .v (.int .i64 ((n - r : Nat) : Int)), .v (.int .i8 ((p % 8 : Nat) : Int))]⟩) (by simp) [.v (.slice (cutA ad0 cap0 (r / 8) 1) ((y0.drop (r / 8)).length) (cap0 - r / 8)), .v (.int .i64 ((n - r : Nat) : Int)), .v (.int .i8 ((p % 8 : Nat) : Int))] [⟨0, 27, [.row 3]⟩, ⟨2, 40, [.v (.int .i16 ((r : Nat) : Int)), .v (.int .i16 ((c : Nat) : Int))]⟩] (by simp) (by simp only [dens, den, List.length_drop])
  dsimp only at hR
  refine lpM (γ := Nat × Nat × Nat × Nat × Nat × Nat × Option Addr × List Nat × List Nat) (fun (r, c, m, at', rem, cap, ad, ys, fl) => (⟨[(10, .p 0 0), (11, .v (.func (.func 11) #[.pointer (some ⟨b, 0, none⟩)] #[])), (13, .p 2 0)], [⟨0, 27, [.row 3]⟩, ⟨1, 43, [.v (.slice ad ys.length cap), .v (.int .i64 ((rem : Nat) : Int)), .v (.int .i8 ((p % 8 : Nat) : Int))]⟩, ⟨2, 40, [.v (.int .i16 ((r : Nat) : Int)), .v (.int .i16 ((c : Nat) : Int))]⟩], [⟨3, 30, 2, m, (ints .i64 fl)⟩], 4⟩ : Sy)) (fun (r, c, m, at', rem, cap, ad, ys, fl) e C F wb => e.b 1 = b ∧ Sl .u8 256 C wb (some (⟨1, 0, none⟩ : Addr)) 8 bitMask ∧ Sl .u8 256 C wb ad cap ys ∧ p % 8 + rem ≤ 8 * ys.length ∧ ys.length ≤ 4096 ∧ at' + r + rem = n ∧ r ≤ 256 ∧ (r = 0 → rem = 0) ∧ c = cnt (fun i => f (at' + i)) r ∧ (∀ i, i < rem → bitN ys (p % 8 + i) = f (at' + r + i)) ∧ fl.length = 2 * m ∧ m ≤ at' ∧ Blks f 256 0 fl at' ∧ ∀ d ∈ fl, d < 65536) (fun (r, c, m, at', rem, cap, ad, ys, fl) => n - at') (r, c, 0, 0, n - r, cap0 - r / 8, cutA ad0 cap0 (r / 8) 1, y0.drop (r / 8), []) hB (⟨hbn, hg, (by have := hy0.cut (j := r / 8) (m := y0.length) (by omega) (Nat.le_refl _); rwa [cut_all] at this), by rw [List.length_drop]; omega, by rw [List.length_drop]; omega, by omega, by omega, fun h => by omega, by rw [hq4_r]; exact cnt_congr fun i hi => by rw [hyb0 i (by omega), Nat.zero_add], fun i hi => by rw [bitN_drop, show 8 * (r / 8) + (p % 8 + i) = p % 8 + (r + i) by omega, hyb0 _ (by omega)]; congr 1; omega, rfl, Nat.le_refl _, rfl, fun d h => (by cases h)⟩)
      (hR.sel [0, 1, 2] [3] (by kernel_rfl) (by kernel_rfl)) (hI.sel [10, 11, 13] (by kernel_rfl)) ?_
  clear hR hI hB
  rintro ⟨r, c, m, at', rem, cap, ad, ys, fl⟩ e15 C15 F15 wb15 a15 w15 hB hp hR hI
  dsimp only at hp hR hI
  obtain ⟨hbn, hg, hy, hle, hys, hat, hrM, hr0, hcc, hyb, hfl, hmat, hbl, hfd⟩ := hp
  have hry := hy.room; have hmy := hy.max; have hcr := cnt_le (fun i => f (at' + i)) r
  refine wp_seq ?_
  refine reg_seq tab (k := 4) (hs := []) (sy := []) (ks := [45, 10, 11, 13]) (bs := [0, 1, 2]) (gs := [3])
      (L' := [(45, .v (.bool (((r : Nat) : Int) != (0 : Int)))), (10, .p 0 0), (11, .v (.func (.func 11) #[.pointer (some ⟨b, 0, none⟩)] #[])), (13, .p 2 0)])
      (H' := [⟨0, 27, [.row 3]⟩, ⟨1, 43, [.v (.slice ad ys.length cap), .v (.int .i64 ((rem : Nat) : Int)), .v (.int .i8 ((p % 8 : Nat) : Int))]⟩, ⟨2, 40, [.v (.int .i16 ((r : Nat) : Int)), .v (.int .i16 ((c : Nat) : Int))]⟩]) (G' := [⟨3, 30, 2, m, (ints .i64 fl)⟩]) (k' := 4) hR hI (by kernel_rfl)
      .nil (fun e16 a16 w16 hag hR hI => ?_)
  replace hbn := (hag 1 (by decide)).1.trans hbn
  refine cnd (b := (((r : Nat) : Int) != (0 : Int))) hI (by kernel_rfl) (fun hc17 => ?_) (fun hc17 => ?_)
  · skip
    replace hI := hI.re 45 (.v (.bool true)) rfl (congrArg Value.bool hc17)
    try simp only [decide_eq_true_eq, decide_eq_false_iff_not, beq_iff_eq, bne_iff_ne, beq_eq_false_iff_ne, bne_eq_false_iff_eq, Bool.and_eq_true, Bool.and_eq_false_iff, Bool.or_eq_true, Bool.or_eq_false_iff, Bool.not_eq_true', Bool.not_eq_false', ne_eq] at hc17
    have hrp : 0 < r := by omega
    refine wp_skip ?_
    refine then_n ?_
    refine wp_seq ?_
    refine wp_block ?_
    refine reg_all tab (k := 4) (hs := [(3, .nw), (6, .nw)]) (sy := []) (ks := [10, 11, 13]) (bs := [0, 1, 2]) (gs := [5])
        (L' := [(10, .p 0 0), (11, .v (.func (.func 11) #[.pointer (some ⟨b, 0, none⟩)] #[])), (13, .p 2 0)])
        (H' := [⟨0, 27, [.row 5]⟩, ⟨1, 43, [.v (.slice ad ys.length cap), .v (.int .i64 ((rem : Nat) : Int)), .v (.int .i8 ((p % 8 : Nat) : Int))]⟩, ⟨2, 40, [.v (.int .i16 ((r : Nat) : Int)), .v (.int .i16 ((c : Nat) : Int))]⟩]) (G' := [⟨5, 30, 2, (m + 1), ((ints .i64 fl) ++ [.int .i64 ((r : Nat) : Int), .int .i64 ((c : Nat) : Int)])⟩]) (k' := 6) hR hI (by kernel_rfl)
        (.cons (inR_i64 (n := ((r : Nat) : Int)) (by omega)) (.cons (inR_i64 (n := ((c : Nat) : Int)) (by omega)) (.cons (by have hm_ : maxLen = 9223372036854775807 := rfl; rw [hm_]; omega : m + 1 ≤ maxLen) (.cons (by omega : (m + 1) * 16 ≤ 140737488355328) .nil)))) (fun e18 a18 w18 hag hR hI => ?_)
    replace hbn := (hag 1 (by decide)).1.trans hbn
    refine normal_block ?_
    refine then_n ?_
    refine wp_seq ?_
    refine reg_seq tab (k := 6) (hs := []) (sy := []) (ks := [58, 10, 11]) (bs := [0, 1]) (gs := [5])
        (L' := [(58, .agg [.v (.int .i16 ((r : Nat) : Int)), .v (.int .i16 ((c : Nat) : Int))]), (10, .p 0 0), (11, .v (.func (.func 11) #[.pointer (some ⟨b, 0, none⟩)] #[]))])
        (H' := [⟨0, 27, [.row 5]⟩, ⟨1, 43, [.v (.slice ad ys.length cap), .v (.int .i64 ((rem : Nat) : Int)), .v (.int .i8 ((p % 8 : Nat) : Int))]⟩]) (G' := [⟨5, 30, 2, (m + 1), ((ints .i64 fl) ++ [.int .i64 ((r : Nat) : Int), .int .i64 ((c : Nat) : Int)])⟩]) (k' := 6) hR hI (by kernel_rfl)
        .nil (fun e19 a19 w19 hag hR hI => ?_)
    replace hbn := (hag 1 (by decide)).1.trans hbn
    refine reg_all tab (k := 6) (hs := []) (sy := []) (ks := [13, 10, 11]) (bs := [6, 0, 1]) (gs := [5])
        (L' := [(13, .p 6 0), (10, .p 0 0), (11, .v (.func (.func 11) #[.pointer (some ⟨b, 0, none⟩)] #[]))])
        (H' := [⟨6, 40, [.v (.int .i16 ((r : Nat) : Int)), .v (.int .i16 ((c : Nat) : Int))]⟩, ⟨0, 27, [.row 5]⟩, ⟨1, 43, [.v (.slice ad ys.length cap), .v (.int .i64 ((rem : Nat) : Int)), .v (.int .i8 ((p % 8 : Nat) : Int))]⟩]) (G' := [⟨5, 30, 2, (m + 1), ((ints .i64 fl) ++ [.int .i64 ((r : Nat) : Int), .int .i64 ((c : Nat) : Int)])⟩]) (k' := 7) hR hI (by kernel_rfl)
        .nil (fun e20 a20 w20 hag hR hI => ?_)
    replace hbn := (hag 1 (by decide)).1.trans hbn
    refine then_n ?_
    refine reg (is := [0, 1, 2]) (by kernel_rfl) ?_
    refine part_ tab [0] [1, 2] (by rfl) (k := 7) (hs := []) (sy := []) (ks := [46, 13, 10, 11]) (bs := [6, 0, 1]) (gs := [5])
        (L' := [(46, .v (.func (.func 11) #[.pointer (some ⟨b, 0, none⟩)] #[])), (13, .p 6 0), (10, .p 0 0), (11, .v (.func (.func 11) #[.pointer (some ⟨b, 0, none⟩)] #[]))])
        (H' := [⟨6, 40, [.v (.int .i16 ((r : Nat) : Int)), .v (.int .i16 ((c : Nat) : Int))]⟩, ⟨0, 27, [.row 5]⟩, ⟨1, 43, [.v (.slice ad ys.length cap), .v (.int .i64 ((rem : Nat) : Int)), .v (.int .i8 ((p % 8 : Nat) : Int))]⟩]) (G' := [⟨5, 30, 2, (m + 1), ((ints .i64 fl) ++ [.int .i64 ((r : Nat) : Int), .int .i64 ((c : Nat) : Int)])⟩]) (k' := 7) hR hI (by kernel_rfl)
        .nil (fun e21 a21 w21 hag hR hI => ?_)
    replace hbn := (hag 1 (by decide)).1.trans hbn
    refine callB0 hI rfl rfl ⟨_, rfl, rfl, rfl⟩ (by kernel_rfl : arg _ _ = some (.v (.func (.func 11) #[.pointer (some ⟨b, 0, none⟩)] #[]))) Tryd.func11 rfl rfl ?_
    have hblk_ := hR.blk ⟨1, 43, [.v (.slice ad ys.length cap), .v (.int .i64 ((rem : Nat) : Int)), .v (.int .i8 ((p % 8 : Nat) : Int))]⟩ (by simp)
    refine (nextFour_spec (hg.now hB hR) (by have h9 := hblk_.1; dsimp only at h9; rw [hbn] at h9; exact h9) (by have h9 := hblk_.2; dsimp only at h9; rw [hbn] at h9; exact fun h => h9 h.2) (hy.now hB hR) ho8 (by omega) (by omega)).mono ?_
    rintro ex w22 ⟨r2, c2, rfl, hk, hnew, hstr2⟩
    rw [← hbn] at hk hnew
    have hkF_ := hR.keepB (b := ⟨1, 43, [.v (.slice ad ys.length cap), .v (.int .i64 ((rem : Nat) : Int)), .v (.int .i8 ((p % 8 : Nat) : Int))]⟩) (by simp) hk
    replace hg := hg.nextF hB hR hkF_
    replace hy := hy.nextF hB hR hkF_
    have hB_ := hB.nextF hR hkF_
    replace hR := hR.turned (b := ⟨1, 43, [.v (.slice ad ys.length cap), .v (.int .i64 ((rem : Nat) : Int)), .v (.int .i8 ((p % 8 : Nat) : Int))]⟩) (by simp) [.v (.slice (cutA ad cap (r2 / 8) 1) (ys.length - r2 / 8) (cap - r2 / 8)), .v (.int .i64 ((rem - r2 : Nat) : Int)), .v (.int .i8 ((p % 8 : Nat) : Int))] [⟨6, 40, [.v (.int .i16 ((r : Nat) : Int)), .v (.int .i16 ((c : Nat) : Int))]⟩, ⟨0, 27, [.row 5]⟩] (by simp) hk hnew
    dsimp only at hR; replace hB := hB_; clear hB_ hk hkF_ hblk_
    have hq1_r2 := hstr2.1; have hq2_r2 := hstr2.2.1; have hq3_r2 := hstr2.2.2.1; have hq4_r2 := hstr2.2.2.2; have hq5_r2 := cnt_le (fun i => bitN ys (p % 8 + i)) r2
    refine ⟨_, rfl, ?_⟩
    replace hI := hI.put (d := some 47) (x := .v (.agg #[.int .i16 ((r2 : Nat) : Int), .int .i16 ((c2 : Nat) : Int)])) (by intro t ht; cases ht; decide) rfl
    replace hI := hI.sel [47, 46, 13, 10, 11] (by kernel_rfl : sel _ _ = some [(47, .v (.agg #[.int .i16 ((r2 : Nat) : Int), .int .i16 ((c2 : Nat) : Int)])), (46, .v (.func (.func 11) #[.pointer (some ⟨b, 0, none⟩)] #[])), (13, .p 6 0), (10, .p 0 0), (11, .v (.func (.func 11) #[.pointer (some ⟨b, 0, none⟩)] #[]))])
    refine part_ tab [2] [] (by rfl) (k := 7) (hs := []) (sy := []) (ks := [13, 10, 11]) (bs := [6, 1, 0]) (gs := [5])
        (L' := [(13, .p 6 0), (10, .p 0 0), (11, .v (.func (.func 11) #[.pointer (some ⟨b, 0, none⟩)] #[]))])
        (H' := [⟨6, 40, [.v (.int .i16 ((r2 : Nat) : Int)), .v (.int .i16 ((c2 : Nat) : Int))]⟩, ⟨1, 43, [.v (.slice (cutA ad cap (r2 / 8) 1) (ys.length - r2 / 8) (cap - r2 / 8)), .v (.int .i64 ((rem - r2 : Nat) : Int)), .v (.int .i8 ((p % 8 : Nat) : Int))]⟩, ⟨0, 27, [.row 5]⟩]) (G' := [⟨5, 30, 2, (m + 1), ((ints .i64 fl) ++ [.int .i64 ((r : Nat) : Int), .int .i64 ((c : Nat) : Int)])⟩]) (k' := 7) hR hI (by kernel_rfl)
        .nil (fun e23 a23 w23 hag hR hI => ?_)
    replace hbn := (hag 1 (by decide)).1.trans hbn
    refine ops_nil ?_
    refine then_n ?_
    replace hR := hR.reblk (b := ⟨1, 43, [.v (.slice (cutA ad cap (r2 / 8) 1) (ys.length - r2 / 8) (cap - r2 / 8)), .v (.int .i64 ((rem - r2 : Nat) : Int)), .v (.int .i8 ((p % 8 : Nat) : Int))]⟩) (by simp) [.v (.slice (cutA ad cap (r2 / 8) 1) ((ys.drop (r2 / 8)).length) (cap - r2 / 8)), .v (.int .i64 ((rem - r2 : Nat) : Int)), .v (.int .i8 ((p % 8 : Nat) : Int))] [⟨6, 40, [.v (.int .i16 ((r2 : Nat) : Int)), .v (.int .i16 ((c2 : Nat) : Int))]⟩, ⟨0, 27, [.row 5]⟩] (by simp) (by simp only [dens, den, List.length_drop])
    dsimp only at hR
    rw [ints_two] at hR
    have hren_ : Sy.ren [(3, 5), (2, 6)] ⟨[(13, .p 2 0), (10, .p 0 0), (11, .v (.func (.func 11) #[.pointer (some ⟨b, 0, none⟩)] #[]))], [⟨1, 43, [.v (.slice (cutA ad cap (r2 / 8) 1) ((ys.drop (r2 / 8)).length) (cap - r2 / 8)), .v (.int .i64 ((rem - r2 : Nat) : Int)), .v (.int .i8 ((p % 8 : Nat) : Int))]⟩, ⟨2, 40, [.v (.int .i16 ((r2 : Nat) : Int)), .v (.int .i16 ((c2 : Nat) : Int))]⟩, ⟨0, 27, [.row 3]⟩], [⟨3, 30, 2, (m + 1), (ints .i64 (fl ++ [r, c]))⟩], 0⟩ = ⟨[(13, .p 6 0), (10, .p 0 0), (11, .v (.func (.func 11) #[.pointer (some ⟨b, 0, none⟩)] #[]))], [⟨1, 43, [.v (.slice (cutA ad cap (r2 / 8) 1) ((ys.drop (r2 / 8)).length) (cap - r2 / 8)), .v (.int .i64 ((rem - r2 : Nat) : Int)), .v (.int .i8 ((p % 8 : Nat) : Int))]⟩, ⟨6, 40, [.v (.int .i16 ((r2 : Nat) : Int)), .v (.int .i16 ((c2 : Nat) : Int))]⟩, ⟨0, 27, [.row 5]⟩], [⟨5, 30, 2, (m + 1), (ints .i64 (fl ++ [r, c]))⟩], 0⟩ := by kernel_rfl
    replace hI := hI.rename (S := ⟨[(13, .p 6 0), (10, .p 0 0), (11, .v (.func (.func 11) #[.pointer (some ⟨b, 0, none⟩)] #[]))], [⟨1, 43, [.v (.slice (cutA ad cap (r2 / 8) 1) ((ys.drop (r2 / 8)).length) (cap - r2 / 8)), .v (.int .i64 ((rem - r2 : Nat) : Int)), .v (.int .i8 ((p % 8 : Nat) : Int))]⟩, ⟨6, 40, [.v (.int .i16 ((r2 : Nat) : Int)), .v (.int .i16 ((c2 : Nat) : Int))]⟩, ⟨0, 27, [.row 5]⟩], [⟨5, 30, 2, (m + 1), (ints .i64 (fl ++ [r, c]))⟩], 0⟩) (S' := ⟨[(13, .p 2 0), (10, .p 0 0), (11, .v (.func (.func 11) #[.pointer (some ⟨b, 0, none⟩)] #[]))], [⟨1, 43, [.v (.slice (cutA ad cap (r2 / 8) 1) ((ys.drop (r2 / 8)).length) (cap - r2 / 8)), .v (.int .i64 ((rem - r2 : Nat) : Int)), .v (.int .i8 ((p % 8 : Nat) : Int))]⟩, ⟨2, 40, [.v (.int .i16 ((r2 : Nat) : Int)), .v (.int .i16 ((c2 : Nat) : Int))]⟩, ⟨0, 27, [.row 3]⟩], [⟨3, 30, 2, (m + 1), (ints .i64 (fl ++ [r, c]))⟩], 0⟩) hren_; replace hR := hR.rename (S := ⟨[(13, .p 6 0), (10, .p 0 0), (11, .v (.func (.func 11) #[.pointer (some ⟨b, 0, none⟩)] #[]))], [⟨1, 43, [.v (.slice (cutA ad cap (r2 / 8) 1) ((ys.drop (r2 / 8)).length) (cap - r2 / 8)), .v (.int .i64 ((rem - r2 : Nat) : Int)), .v (.int .i8 ((p % 8 : Nat) : Int))]⟩, ⟨6, 40, [.v (.int .i16 ((r2 : Nat) : Int)), .v (.int .i16 ((c2 : Nat) : Int))]⟩, ⟨0, 27, [.row 5]⟩], [⟨5, 30, 2, (m + 1), (ints .i64 (fl ++ [r, c]))⟩], 0⟩) (S' := ⟨[(13, .p 2 0), (10, .p 0 0), (11, .v (.func (.func 11) #[.pointer (some ⟨b, 0, none⟩)] #[]))], [⟨1, 43, [.v (.slice (cutA ad cap (r2 / 8) 1) ((ys.drop (r2 / 8)).length) (cap - r2 / 8)), .v (.int .i64 ((rem - r2 : Nat) : Int)), .v (.int .i8 ((p % 8 : Nat) : Int))]⟩, ⟨2, 40, [.v (.int .i16 ((r2 : Nat) : Int)), .v (.int .i16 ((c2 : Nat) : Int))]⟩, ⟨0, 27, [.row 3]⟩], [⟨3, 30, 2, (m + 1), (ints .i64 (fl ++ [r, c]))⟩], 0⟩) hren_ (by kernel_rfl) (by kernel_rfl); dsimp only at hI hR; clear hren_
    replace hbn : (Env.ren e23 [(3, 5), (2, 6)]).b 1 = _ := hbn
    exact ⟨(r2, c2, m + 1, at' + r, rem - r2, cap - r2 / 8, cutA ad cap (r2 / 8) 1, ys.drop (r2 / 8), fl ++ [r, c]), _, _, _, _, hB, ⟨hbn, hg, (by have := hy.cut (j := r2 / 8) (m := ys.length) (by omega) (Nat.le_refl _); rwa [cut_all] at this), by rw [List.length_drop]; omega, by rw [List.length_drop]; omega, by omega, by omega, fun h => by omega, by rw [hq4_r2]; exact cnt_congr fun i hi => hyb i (by omega), fun i hi => by rw [bitN_drop, show 8 * (r2 / 8) + (p % 8 + i) = p % 8 + (r2 + i) by omega, hyb _ (by omega)]; congr 1; omega, fls hfl, by omega, hbl.snoc (by omega) hrM hcc, pair_dig hfd (by omega) (by omega)⟩, (by (try dsimp only); omega), hR.sel [0, 1, 2] [3] (by kernel_rfl) (by kernel_rfl), hI.sel [10, 11, 13] (by kernel_rfl)⟩
  · skip
    replace hI := hI.re 45 (.v (.bool false)) rfl (congrArg Value.bool hc17)
    try simp only [decide_eq_true_eq, decide_eq_false_iff_not, beq_iff_eq, bne_iff_ne, beq_eq_false_iff_ne, bne_eq_false_iff_eq, Bool.and_eq_true, Bool.and_eq_false_iff, Bool.or_eq_true, Bool.or_eq_false_iff, Bool.not_eq_true', Bool.not_eq_false', ne_eq] at hc17
    have hrz : r = 0 := by omega
    have hrem := hr0 hrz
    refine wp_exit ?_
    refine exit_then ?_
    refine exit_then ?_
    refine exit_hit ?_
    refine then_n ?_
    have hatn : at' = n := by omega
    obtain ⟨hB_, hR_, hrel_, bd, bc, hv_, hcells, hlen_, hcap_, hmax_⟩ := hB.releaseN hR (y := ⟨3, 30, 2, m, (ints .i64 fl)⟩) (by simp) _ dropN_mem
    replace hg := hg.rel hrel_
    replace hy := hy.rel hrel_
    replace hB := hB_; replace hR := hR_.sel [0, 1, 2] [] (by kernel_rfl : selH _ _ = some [⟨0, 27, [.row 3]⟩, ⟨1, 43, [.v (.slice ad ys.length cap), .v (.int .i64 ((rem : Nat) : Int)), .v (.int .i8 ((p % 8 : Nat) : Int))]⟩, ⟨2, 40, [.v (.int .i16 ((r : Nat) : Int)), .v (.int .i16 ((c : Nat) : Int))]⟩]) (by kernel_rfl : selG _ _ = some []); clear hB_ hR_ hrel_
    replace hR := hR.reblk (b := ⟨0, 27, [.row 3]⟩) (by simp) [.v (.slice bd m bc)] [⟨1, 43, [.v (.slice ad ys.length cap), .v (.int .i64 ((rem : Nat) : Int)), .v (.int .i8 ((p % 8 : Nat) : Int))]⟩, ⟨2, 40, [.v (.int .i16 ((r : Nat) : Int)), .v (.int .i16 ((c : Nat) : Int))]⟩] (by simp) (by simp only [dens, den, hv_])
    dsimp only at hR
    clear hv_
    have hfl0 := sl_flat hcells hfd (by omega)
    have hbcm : m ≤ bc := hcap_; have hbcx : bc ≤ 9223372036854775807 := hmax_
    refine reg_seq tab (k := 4) (hs := []) (sy := []) (ks := [10]) (bs := [0, 1]) (gs := [])
        (L' := [(10, .p 0 0)])
        (H' := [⟨0, 27, [.v (.slice bd m bc)]⟩, ⟨1, 43, [.v (.slice ad ys.length cap), .v (.int .i64 ((rem : Nat) : Int)), .v (.int .i8 ((p % 8 : Nat) : Int))]⟩]) (G' := []) (k' := 4) hR hI (by kernel_rfl)
        .nil (fun e24 a24 w24 hag hR hI => ?_)
    replace hbn := (hag 1 (by decide)).1.trans hbn
    refine wp_ret ?_
    refine outF tab (xs := [.v (.slice bd m bc)]) hR hI (inv8 _ _) (idle8 _) rfl (by kernel_rfl) ?_
    exact ⟨fl, bd, bc, m, rfl, hB.fin hR, hfl0.fin hB hR, hfl, hbcm, hbcx, by rw [← hatn]; exact hbl⟩

set_option maxHeartbeats 4000000 in
set_option maxRecDepth 100000 in
theorem blk2S_spec {C : Nat → Prop} {w : World} {n p : Nat} {f : Nat → Bool} {q : Addr} {cap : Nat} {xs : List Nat} (hg : Sl .u8 256 C w (some (⟨1, 0, none⟩ : Addr)) 8 bitMask) (hx : Sl .u8 256 C w (some q) cap xs) (hp : p + n ≤ 8 * xs.length) (hs : xs.length ≤ 4096) (hf : ∀ i, i < n → f i = bitN xs (p + i)) :
    Calls P 6 #[.slice (some q) xs.length cap, .int .i64 ((p : Nat) : Int), .int .i64 ((n : Nat) : Int), .int .i64 2, .bool false] w fun ex w' => ∃ (fl : List Nat) (bd : Option Addr) (bc m : Nat), ex = .returned (.slice bd m bc) ∧ Keep (fun b => b < w.heap.size) w w' ∧ Sl .i64 65536 (Grow C w w') w' bd fl.length fl ∧ fl.length = 2 * m ∧ m ≤ bc ∧ bc ≤ 9223372036854775807 ∧ Blks f 64 0 fl n := by
  refine doorD (e := e0) (vs := [.v (.slice (some q) xs.length cap), .v (.int .i64 ((p : Nat) : Int)), .v (.int .i64 ((n : Nat) : Int)), .v (.int .i64 2), .v (.bool false)]) (n := 60) (m := 5) Tryd.func6 rfl rfl rfl (by decide) fun a_ hI => ?_
  replace hI : Is 60 [] e0 [(0, .v (.slice (some q) xs.length cap)), (1, .v (.int .i64 ((p : Nat) : Int))), (2, .v (.int .i64 ((n : Nat) : Int))), (3, .v (.int .i64 2)), (4, .v (.bool false))] a_ := hI
  have hR : Rel (fun b => b < w.heap.size) w e0 [] [] w := Rel.start (fun k hk => hk)
  have hB : Base C w C (fun b => b < w.heap.size) w := Base.start
  have hrx := hx.room; have hmx := hx.max; have hn8 : n ≤ 32768 := (by omega); have ho8 : p % 8 < 8 := Nat.mod_lt _ (by decide)
  refine reg_seq tab (k := 0) (hs := []) (sy := []) (ks := [10, 0, 1, 2, 3, 4]) (bs := [0]) (gs := [])
      (L' := [(10, .p 0 0), (0, .v (.slice (some q) xs.length cap)), (1, .v (.int .i64 ((p : Nat) : Int))), (2, .v (.int .i64 ((n : Nat) : Int))), (3, .v (.int .i64 2)), (4, .v (.bool false))])
      (H' := [⟨0, 27, [.v (.slice none 0 0)]⟩]) (G' := []) (k' := 1) hR hI (by kernel_rfl)
      .nil (fun e1 a1 w1 hag hR hI => ?_)
  refine wp_seq ?_
  refine reg (is := [0, 1]) (by kernel_rfl) ?_
  refine rawOp (x := .v (.func (.func 8) #[] #[.pointer (some ⟨e1.b 0, 0, none⟩)])) hI rfl rfl (by kernel_rfl) (fun ev hev => by simp [execOp, Instr.makeFunc, hev (.tmp 10) _ rfl, den]) (fun a2 hI => ?_)
  replace hI := hI.sel [14, 10, 0, 1, 2, 3, 4] (by kernel_rfl : sel _ _ = some [(14, .v (.func (.func 8) #[] #[.pointer (some ⟨e1.b 0, 0, none⟩)])), (10, .p 0 0), (0, .v (.slice (some q) xs.length cap)), (1, .v (.int .i64 ((p : Nat) : Int))), (2, .v (.int .i64 ((n : Nat) : Int))), (3, .v (.int .i64 2)), (4, .v (.bool false))])
  refine deferFn hI rfl rfl rfl ⟨_, rfl, rfl, rfl⟩ rfl (fun a2 hI => ?_)
  replace hI := hI.sel [14, 10, 0, 1, 2, 3, 4] (by kernel_rfl : sel _ _ = some [(14, .v (.func (.func 8) #[] #[.pointer (some ⟨e1.b 0, 0, none⟩)])), (10, .p 0 0), (0, .v (.slice (some q) xs.length cap)), (1, .v (.int .i64 ((p : Nat) : Int))), (2, .v (.int .i64 ((n : Nat) : Int))), (3, .v (.int .i64 2)), (4, .v (.bool false))])
  refine ops_nil ?_
  refine then_n ?_
  refine reg_seq tab (k := 1) (hs := []) (sy := []) (ks := [10, 0, 1, 2, 3, 4]) (bs := [0]) (gs := [])
      (L' := [(10, .p 0 0), (0, .v (.slice (some q) xs.length cap)), (1, .v (.int .i64 ((p : Nat) : Int))), (2, .v (.int .i64 ((n : Nat) : Int))), (3, .v (.int .i64 2)), (4, .v (.bool false))])
      (H' := [⟨0, 27, [.v (.slice none 0 0)]⟩]) (G' := []) (k' := 1) hR hI (by kernel_rfl)
      .nil (fun e3 a3 w3 hag hR hI => ?_)
  refine wp_seq ?_
  refine reg_seq tab (k := 1) (hs := []) (sy := []) (ks := [15, 10, 0, 1, 2, 3, 4]) (bs := [0]) (gs := [])
      (L' := [(15, .v (.int .i64 2)), (10, .p 0 0), (0, .v (.slice (some q) xs.length cap)), (1, .v (.int .i64 ((p : Nat) : Int))), (2, .v (.int .i64 ((n : Nat) : Int))), (3, .v (.int .i64 2)), (4, .v (.bool false))])
      (H' := [⟨0, 27, [.v (.slice none 0 0)]⟩]) (G' := []) (k' := 1) hR hI (by kernel_rfl)
      .nil (fun e4 a4 w4 hag hR hI => ?_)
  refine wp_block ?_
  refine reg_seq tab (k := 1) (hs := []) (sy := []) (ks := [27, 15, 10, 0, 1, 2, 3, 4]) (bs := [0]) (gs := [])
      (L' := [(27, .v (.bool false)), (15, .v (.int .i64 2)), (10, .p 0 0), (0, .v (.slice (some q) xs.length cap)), (1, .v (.int .i64 ((p : Nat) : Int))), (2, .v (.int .i64 ((n : Nat) : Int))), (3, .v (.int .i64 2)), (4, .v (.bool false))])
      (H' := [⟨0, 27, [.v (.slice none 0 0)]⟩]) (G' := []) (k' := 1) hR hI (by kernel_rfl)
      .nil (fun e5 a5 w5 hag hR hI => ?_)
  refine cnd_f hI (by kernel_rfl) ?_
  refine reg_seq tab (k := 1) (hs := []) (sy := []) (ks := [34, 10, 0, 1, 2, 3, 4]) (bs := [0]) (gs := [])
      (L' := [(34, .v (.bool false)), (10, .p 0 0), (0, .v (.slice (some q) xs.length cap)), (1, .v (.int .i64 ((p : Nat) : Int))), (2, .v (.int .i64 ((n : Nat) : Int))), (3, .v (.int .i64 2)), (4, .v (.bool false))])
      (H' := [⟨0, 27, [.v (.slice none 0 0)]⟩]) (G' := []) (k' := 1) hR hI (by kernel_rfl)
      .nil (fun e6 a6 w6 hag hR hI => ?_)
  refine cnd_f hI (by kernel_rfl) ?_
  refine wp_seq ?_
  refine reg_seq tab (k := 1) (hs := []) (sy := []) (ks := [16, 10, 0, 1, 2, 3]) (bs := [0]) (gs := [])
      (L' := [(16, .v (.bool false)), (10, .p 0 0), (0, .v (.slice (some q) xs.length cap)), (1, .v (.int .i64 ((p : Nat) : Int))), (2, .v (.int .i64 ((n : Nat) : Int))), (3, .v (.int .i64 2))])
      (H' := [⟨0, 27, [.v (.slice none 0 0)]⟩]) (G' := []) (k' := 1) hR hI (by kernel_rfl)
      .nil (fun e7 a7 w7 hag hR hI => ?_)
  refine cnd_f hI (by kernel_rfl) ?_
  refine wp_skip ?_
  refine then_n ?_
  refine wp_seq ?_
  refine reg (is := [0, 1, 2, 3, 4]) (by kernel_rfl) ?_
  refine part_ tab [0, 1, 2] [3, 4] (by rfl) (k := 1) (hs := []) (sy := []) (ks := [19, 18, 17, 10, 3]) (bs := [0]) (gs := [])
      (L' := [(19, .v (.int .i64 ((n : Nat) : Int))), (18, .v (.int .i64 ((p : Nat) : Int))), (17, .v (.slice (some q) xs.length cap)), (10, .p 0 0), (3, .v (.int .i64 2))])
      (H' := [⟨0, 27, [.v (.slice none 0 0)]⟩]) (G' := []) (k' := 1) hR hI (by kernel_rfl)
      .nil (fun e8 a8 w8 hag hR hI => ?_)
  refine callOp (ys := [.v (.slice (some q) xs.length cap), .v (.int .i64 ((p : Nat) : Int)), .v (.int .i64 ((n : Nat) : Int))]) hI rfl rfl ⟨_, rfl, rfl, rfl⟩ (by kernel_rfl) Tryd.func12 rfl rfl ?_
  have hBs := hB.size hR
  refine (newOptS_spec (hx.now hB hR) hp hs).mono ?_
  rintro ex w9 ⟨b, c', rfl, hge, hge2, hbc, hnew, hnew2, hk⟩
  obtain ⟨hag_, hR_⟩ := hR.gotX2 (L := []) (k := 1) (b := b) (c := c') (t := 51) (u := 43) (cs := [.v (.bool true), .v (.int .i64 ((0 : Nat) : Int)), .v (.int .i64 ((n : Nat) : Int)), .v (.pointer (some ⟨c', 0, none⟩))]) (ds := [.v (.slice (cutA (some q) cap (p / 8) 1) (xs.length - p / 8) (cap - p / 8)), .v (.int .i64 ((n : Nat) : Int)), .v (.int .i8 ((p % 8 : Nat) : Int))]) (by kernel_rfl) hk hge hge2 hbc (by simpa [dens, den, two_b0, two_b1] using hnew) (by simpa [dens, den, two_b0, two_b1] using hnew2)
  have hkF_ := hR.keepF hk
  replace hg := hg.nextX2 hB hR hkF_ hge hge2
  replace hx := hx.nextX2 hB hR hkF_ hge hge2
  have hB_ := hB.nextX2 hR hkF_ hge hge2
  replace hI := hI.agreeB (H := [⟨0, 27, [.v (.slice none 0 0)]⟩]) (G := []) (by kernel_rfl) hag_
  replace hR := hR_; replace hB := hB_; clear hB_ hR_ hkF_ hk
  have hbn : ((e8.addB 1 b).addB (1 + 1) c').b 1 = b := two_b0 _ _ _ _
  have hcn : ((e8.addB 1 b).addB (1 + 1) c').b 2 = c' := two_b1 _ _ _ _
  obtain ⟨y0, hy0e⟩ : ∃ y0, y0 = xs.drop (p / 8) := ⟨_, rfl⟩
  obtain ⟨ad0, had0⟩ : ∃ ad0, ad0 = cutA (some q) cap (p / 8) 1 := ⟨_, rfl⟩
  obtain ⟨cap0, hcap0⟩ : ∃ cap0, cap0 = cap - p / 8 := ⟨_, rfl⟩
  have hy0l : y0.length = xs.length - p / 8 := by rw [hy0e, List.length_drop]
  have hy0 := hx.cut (j := p / 8) (m := xs.length) (by omega) (Nat.le_refl _)
  rw [cut_all, ← hy0e, ← had0, ← hcap0] at hy0
  replace hR := hR.reblk (b := ⟨2, 43, [.v (.slice (cutA (some q) cap (p / 8) 1) (xs.length - p / 8) (cap - p / 8)), .v (.int .i64 ((n : Nat) : Int)), .v (.int .i8 ((p % 8 : Nat) : Int))]⟩) (by simp) [.v (.slice ad0 y0.length cap0), .v (.int .i64 ((n : Nat) : Int)), .v (.int .i8 ((p % 8 : Nat) : Int))] [⟨1, 51, [.v (.bool true), .v (.int .i64 ((0 : Nat) : Int)), .v (.int .i64 ((n : Nat) : Int)), .v (.pointer (some ⟨c', 0, none⟩))]⟩, ⟨0, 27, [.v (.slice none 0 0)]⟩] (by simp) (by simp only [dens, den, hy0l, had0, hcap0])
  dsimp only at hR
  have hyb0 : ∀ i, i < n → bitN y0 (p % 8 + i) = f i := fun i hi => by rw [hy0e, bitN_drop, hf i hi]; congr 1; omega
  refine ⟨_, rfl, ?_⟩
  replace hI := hI.put (d := some 20) (x := .p 1 0) (by intro t ht; cases ht; decide) rfl
  replace hI := hI.sel [20, 19, 18, 17, 10, 3] (by kernel_rfl : sel _ _ = some [(20, .p 1 0), (19, .v (.int .i64 ((n : Nat) : Int))), (18, .v (.int .i64 ((p : Nat) : Int))), (17, .v (.slice (some q) xs.length cap)), (10, .p 0 0), (3, .v (.int .i64 2))])
  refine part_ tab [4] [] (by rfl) (k := 3) (hs := []) (sy := []) (ks := [12, 10, 3]) (bs := [2, 1, 0]) (gs := [])
      (L' := [(12, .p 1 0), (10, .p 0 0), (3, .v (.int .i64 2))])
      (H' := [⟨2, 43, [.v (.slice ad0 y0.length cap0), .v (.int .i64 ((n : Nat) : Int)), .v (.int .i8 ((p % 8 : Nat) : Int))]⟩, ⟨1, 51, [.v (.bool true), .v (.int .i64 ((0 : Nat) : Int)), .v (.int .i64 ((n : Nat) : Int)), .v (.pointer (some ⟨c', 0, none⟩))]⟩, ⟨0, 27, [.v (.slice none 0 0)]⟩]) (G' := []) (k' := 3) hR hI (by kernel_rfl)
      .nil (fun e10 a10 w10 hag hR hI => ?_)
  replace hbn := (hag 1 (by decide)).1.trans hbn
  replace hcn := (hag 2 (by decide)).1.trans hcn
  refine ops_nil ?_
  refine then_n ?_
  refine wp_seq ?_
  refine reg (is := [0, 1, 2]) (by kernel_rfl) ?_
  refine part_ tab [0] [1, 2] (by rfl) (k := 3) (hs := []) (sy := []) (ks := [21, 12, 10, 3]) (bs := [2, 1, 0]) (gs := [])
      (L' := [(21, .p 1 0), (12, .p 1 0), (10, .p 0 0), (3, .v (.int .i64 2))])
      (H' := [⟨2, 43, [.v (.slice ad0 y0.length cap0), .v (.int .i64 ((n : Nat) : Int)), .v (.int .i8 ((p % 8 : Nat) : Int))]⟩, ⟨1, 51, [.v (.bool true), .v (.int .i64 ((0 : Nat) : Int)), .v (.int .i64 ((n : Nat) : Int)), .v (.pointer (some ⟨c', 0, none⟩))]⟩, ⟨0, 27, [.v (.slice none 0 0)]⟩]) (G' := []) (k' := 3) hR hI (by kernel_rfl)
      .nil (fun e11 a11 w11 hag hR hI => ?_)
  replace hbn := (hag 1 (by decide)).1.trans hbn
  replace hcn := (hag 2 (by decide)).1.trans hcn
  refine rawOp (x := .v (.func (.func 13) #[.pointer (some ⟨b, 0, none⟩)] #[])) hI rfl rfl (by kernel_rfl) (fun ev hev => by simp [execOp, Instr.makeFunc, hev (.tmp 21) _ rfl, den, hbn]) (fun a12 hI => ?_)
  replace hI := hI.sel [22, 21, 12, 10, 3] (by kernel_rfl : sel _ _ = some [(22, .v (.func (.func 13) #[.pointer (some ⟨b, 0, none⟩)] #[])), (21, .p 1 0), (12, .p 1 0), (10, .p 0 0), (3, .v (.int .i64 2))])
  refine part_ tab [2] [] (by rfl) (k := 3) (hs := []) (sy := []) (ks := [11, 12, 10, 3]) (bs := [2, 1, 0]) (gs := [])
      (L' := [(11, .v (.func (.func 13) #[.pointer (some ⟨b, 0, none⟩)] #[])), (12, .p 1 0), (10, .p 0 0), (3, .v (.int .i64 2))])
      (H' := [⟨2, 43, [.v (.slice ad0 y0.length cap0), .v (.int .i64 ((n : Nat) : Int)), .v (.int .i8 ((p % 8 : Nat) : Int))]⟩, ⟨1, 51, [.v (.bool true), .v (.int .i64 ((0 : Nat) : Int)), .v (.int .i64 ((n : Nat) : Int)), .v (.pointer (some ⟨c', 0, none⟩))]⟩, ⟨0, 27, [.v (.slice none 0 0)]⟩]) (G' := []) (k' := 3) hR hI (by kernel_rfl)
      .nil (fun e13 a13 w13 hag hR hI => ?_)
  replace hbn := (hag 1 (by decide)).1.trans hbn
  replace hcn := (hag 2 (by decide)).1.trans hcn
  refine ops_nil ?_
  refine then_n ?_
  refine reg_seq tab (k := 3) (hs := []) (sy := []) (ks := [24, 11, 12, 10]) (bs := [2, 1, 0]) (gs := [])
      (L' := [(24, .v (.bool false)), (11, .v (.func (.func 13) #[.pointer (some ⟨b, 0, none⟩)] #[])), (12, .p 1 0), (10, .p 0 0)])
      (H' := [⟨2, 43, [.v (.slice ad0 y0.length cap0), .v (.int .i64 ((n : Nat) : Int)), .v (.int .i8 ((p % 8 : Nat) : Int))]⟩, ⟨1, 51, [.v (.bool true), .v (.int .i64 ((0 : Nat) : Int)), .v (.int .i64 ((n : Nat) : Int)), .v (.pointer (some ⟨c', 0, none⟩))]⟩, ⟨0, 27, [.v (.slice none 0 0)]⟩]) (G' := []) (k' := 3) hR hI (by kernel_rfl)
      .nil (fun e14 a14 w14 hag hR hI => ?_)
  replace hbn := (hag 1 (by decide)).1.trans hbn
  replace hcn := (hag 2 (by decide)).1.trans hcn
  refine cnd_f hI (by kernel_rfl) ?_
  refine wp_skip ?_
  refine normal_block ?_
  refine then_n ?_
  refine wp_seq ?_
  refine wp_seq ?_
  refine reg (is := [0, 1, 2, 3]) (by kernel_rfl) ?_
  refine part_ tab [0] [1, 2, 3] (by rfl) (k := 3) (hs := []) (sy := []) (ks := [41, 11, 10]) (bs := [2, 1, 0]) (gs := [])
      (L' := [(41, .v (.func (.func 13) #[.pointer (some ⟨b, 0, none⟩)] #[])), (11, .v (.func (.func 13) #[.pointer (some ⟨b, 0, none⟩)] #[])), (10, .p 0 0)])
      (H' := [⟨2, 43, [.v (.slice ad0 y0.length cap0), .v (.int .i64 ((n : Nat) : Int)), .v (.int .i8 ((p % 8 : Nat) : Int))]⟩, ⟨1, 51, [.v (.bool true), .v (.int .i64 ((0 : Nat) : Int)), .v (.int .i64 ((n : Nat) : Int)), .v (.pointer (some ⟨c', 0, none⟩))]⟩, ⟨0, 27, [.v (.slice none 0 0)]⟩]) (G' := []) (k' := 3) hR hI (by kernel_rfl)
      .nil (fun e15 a15 w15 hag hR hI => ?_)
  replace hbn := (hag 1 (by decide)).1.trans hbn
  replace hcn := (hag 2 (by decide)).1.trans hcn
  refine callB0 hI rfl rfl ⟨_, rfl, rfl, rfl⟩ (by kernel_rfl : arg _ _ = some (.v (.func (.func 13) #[.pointer (some ⟨b, 0, none⟩)] #[]))) Tryd.func13 rfl rfl ?_
  have hblk_ := hR.blk ⟨1, 51, [.v (.bool true), .v (.int .i64 ((0 : Nat) : Int)), .v (.int .i64 ((n : Nat) : Int)), .v (.pointer (some ⟨c', 0, none⟩))]⟩ (by simp); have hblk2_ := hR.blk ⟨2, 43, [.v (.slice ad0 y0.length cap0), .v (.int .i64 ((n : Nat) : Int)), .v (.int .i8 ((p % 8 : Nat) : Int))]⟩ (by simp); have hne_ := hR.hh ⟨1, 51, [.v (.bool true), .v (.int .i64 ((0 : Nat) : Int)), .v (.int .i64 ((n : Nat) : Int)), .v (.pointer (some ⟨c', 0, none⟩))]⟩ (by simp) ⟨2, 43, [.v (.slice ad0 y0.length cap0), .v (.int .i64 ((n : Nat) : Int)), .v (.int .i8 ((p % 8 : Nat) : Int))]⟩ (by simp) (Nat.ne_of_beq_eq_false rfl)
  refine (optWordS_spec (hg.now hB hR) (by have h9 := hblk_.1; dsimp only at h9; rw [hbn] at h9; exact h9) (by have h9 := hblk2_.1; dsimp only at h9; rw [hcn] at h9; exact h9) (by have h9 := hne_; dsimp only at h9; rw [hbn, hcn] at h9; exact h9) (by have h9 := hblk_.2; dsimp only at h9; rw [hbn] at h9; exact fun h => h9 h.2) (by have h9 := hblk2_.2; dsimp only at h9; rw [hcn] at h9; exact fun h => h9 h.2) (hy0.now hB hR) ho8 (by omega) (by omega) (by omega)).mono ?_
  rintro ex w16 ⟨r, c, rfl, hk, hnew, hnew2, hstr⟩
  rw [← hbn, ← hcn] at hk; rw [← hbn] at hnew; rw [← hcn] at hnew2
  have hkF_ := hR.keepB2 (b := ⟨1, 51, [.v (.bool true), .v (.int .i64 ((0 : Nat) : Int)), .v (.int .i64 ((n : Nat) : Int)), .v (.pointer (some ⟨c', 0, none⟩))]⟩) (c := ⟨2, 43, [.v (.slice ad0 y0.length cap0), .v (.int .i64 ((n : Nat) : Int)), .v (.int .i8 ((p % 8 : Nat) : Int))]⟩) (by simp) (by simp) hk
  replace hg := hg.nextF hB hR hkF_
  replace hy0 := hy0.nextF hB hR hkF_
  have hB_ := hB.nextF hR hkF_
  replace hR := hR.turned2 (b := ⟨1, 51, [.v (.bool true), .v (.int .i64 ((0 : Nat) : Int)), .v (.int .i64 ((n : Nat) : Int)), .v (.pointer (some ⟨c', 0, none⟩))]⟩) (c := ⟨2, 43, [.v (.slice ad0 y0.length cap0), .v (.int .i64 ((n : Nat) : Int)), .v (.int .i8 ((p % 8 : Nat) : Int))]⟩) (by simp) (by simp) (Nat.ne_of_beq_eq_false rfl) [.v (.bool true), .v (.int .i64 ((0 + r : Nat) : Int)), .v (.int .i64 ((n : Nat) : Int)), .v (.pointer (some ⟨c', 0, none⟩))] [.v (.slice (cutA ad0 cap0 (r / 8) 1) (y0.length - r / 8) (cap0 - r / 8)), .v (.int .i64 ((n - r : Nat) : Int)), .v (.int .i8 ((p % 8 : Nat) : Int))] [⟨0, 27, [.v (.slice none 0 0)]⟩] (by simp) hk hnew hnew2
  dsimp only at hR; replace hB := hB_; clear hB_ hk hkF_ hblk_ hblk2_ hne_
  have hq1_r := hstr.1; have hq2_r := hstr.2.1; have hq3_r := hstr.2.2.1; have hq4_r := hstr.2.2.2; have hq5_r := cnt_le (fun i => bitN y0 (p % 8 + i)) r
  refine ⟨_, rfl, ?_⟩
  replace hI := hI.put (d := some 42) (x := .v (.agg #[.int .i16 ((r : Nat) : Int), .int .i16 ((c : Nat) : Int)])) (by intro t ht; cases ht; decide) rfl
  replace hI := hI.sel [42, 41, 11, 10] (by kernel_rfl : sel _ _ = some [(42, .v (.agg #[.int .i16 ((r : Nat) : Int), .int .i16 ((c : Nat) : Int)])), (41, .v (.func (.func 13) #[.pointer (some ⟨b, 0, none⟩)] #[])), (11, .v (.func (.func 13) #[.pointer (some ⟨b, 0, none⟩)] #[])), (10, .p 0 0)])
  refine part_ tab [2, 3] [] (by rfl) (k := 3) (hs := []) (sy := []) (ks := [13, 11, 10]) (bs := [3, 1, 2, 0]) (gs := [])
      (L' := [(13, .p 3 0), (11, .v (.func (.func 13) #[.pointer (some ⟨b, 0, none⟩)] #[])), (10, .p 0 0)])
      (H' := [⟨3, 40, [.v (.int .i16 ((r : Nat) : Int)), .v (.int .i16 ((c : Nat) : Int))]⟩, ⟨1, 51, [.v (.bool true), .v (.int .i64 ((0 + r : Nat) : Int)), .v (.int .i64 ((n : Nat) : Int)), .v (.pointer (some ⟨c', 0, none⟩))]⟩, ⟨2, 43, [.v (.slice (cutA ad0 cap0 (r / 8) 1) (y0.length - r / 8) (cap0 - r / 8)), .v (.int .i64 ((n - r : Nat) : Int)), .v (.int .i8 ((p % 8 : Nat) : Int))]⟩, ⟨0, 27, [.v (.slice none 0 0)]⟩]) (G' := []) (k' := 4) hR hI (by kernel_rfl)
      .nil (fun e17 a17 w17 hag hR hI => ?_)
  replace hbn := (hag 1 (by decide)).1.trans hbn
  replace hcn := (hag 2 (by decide)).1.trans hcn
  refine ops_nil ?_
  refine then_n ?_
  refine wp_block ?_
  obtain ⟨e18, hag_, hr_, hR_⟩ := hR.nilRow (L := [(13, .p 3 0), (11, .v (.func (.func 13) #[.pointer (some ⟨b, 0, none⟩)] #[])), (10, .p 0 0)]) 4 (by kernel_rfl) 30 2
  replace hbn := (hag_ 1 (by decide)).1.trans hbn
  replace hcn := (hag_ 2 (by decide)).1.trans hcn
  replace hI := hI.agreeB (H := [⟨3, 40, [.v (.int .i16 ((r : Nat) : Int)), .v (.int .i16 ((c : Nat) : Int))]⟩, ⟨1, 51, [.v (.bool true), .v (.int .i64 ((0 + r : Nat) : Int)), .v (.int .i64 ((n : Nat) : Int)), .v (.pointer (some ⟨c', 0, none⟩))]⟩, ⟨2, 43, [.v (.slice (cutA ad0 cap0 (r / 8) 1) (y0.length - r / 8) (cap0 - r / 8)), .v (.int .i64 ((n - r : Nat) : Int)), .v (.int .i8 ((p % 8 : Nat) : Int))]⟩, ⟨0, 27, [.v (.slice none 0 0)]⟩]) (G := []) (by kernel_rfl) hag_; replace hR := hR_; clear hag_ hR_
  replace hR := hR.reblk (b := ⟨0, 27, [.v (.slice none 0 0)]⟩) (by simp) [.row 4] [⟨3, 40, [.v (.int .i16 ((r : Nat) : Int)), .v (.int .i16 ((c : Nat) : Int))]⟩, ⟨1, 51, [.v (.bool true), .v (.int .i64 ((0 + r : Nat) : Int)), .v (.int .i64 ((n : Nat) : Int)), .v (.pointer (some ⟨c', 0, none⟩))]⟩, ⟨2, 43, [.v (.slice (cutA ad0 cap0 (r / 8) 1) (y0.length - r / 8) (cap0 - r / 8)), .v (.int .i64 ((n - r : Nat) : Int)), .v (.int .i8 ((p % 8 : Nat) : Int))]⟩] (by simp) (by simp only [dens, den, hr_])
  dsimp only at hR
  clear hr_
  replace hR := hR.reblk (b := ⟨2, 43, [.v (.slice (cutA ad0 cap0 (r / 8) 1) (y0.length - r / 8) (cap0 - r / 8)), .v (.int .i64 ((n - r : Nat) : Int)), .v (.int .i8 ((p % 8 : Nat) : Int))]⟩) (by simp) [.v (.slice (cutA ad0 cap0 (r / 8) 1) ((y0.drop (r / 8)).length) (cap0 - r / 8)), .v (.int .i64 ((n - r : Nat) : Int)), .v (.int .i8 ((p % 8 : Nat) : Int))] [⟨0, 27, [.row 4]⟩, ⟨3, 40, [.v (.int .i16 ((r : Nat) : Int)), .v (.int .i16 ((c : Nat) : Int))]⟩, ⟨1, 51, [.v (.bool true), .v (.int .i64 ((0 + r : Nat) : Int)), .v (.int .i64 ((n : Nat) : Int)), .v (.pointer (some ⟨c', 0, none⟩))]⟩] (by simp) (by simp only [dens, den, List.length_drop])
  dsimp only at hR
  refine lpM (γ := Nat × Nat × Nat × Nat × Nat × Nat × Option Addr × List Nat × Nat × List Nat) (fun (r, c, m, at', rem, cap, ad, ys, pos, fl) => (⟨[(10, .p 0 0), (11, .v (.func (.func 13) #[.pointer (some ⟨b, 0, none⟩)] #[])), (13, .p 3 0)], [⟨0, 27, [.row 4]⟩, ⟨1, 51, [.v (.bool true), .v (.int .i64 ((pos : Nat) : Int)), .v (.int .i64 ((n : Nat) : Int)), .v (.pointer (some ⟨c', 0, none⟩))]⟩, ⟨2, 43, [.v (.slice ad ys.length cap), .v (.int .i64 ((rem : Nat) : Int)), .v (.int .i8 ((p % 8 : Nat) : Int))]⟩, ⟨3, 40, [.v (.int .i16 ((r : Nat) : Int)), .v (.int .i16 ((c : Nat) : Int))]⟩], [⟨4, 30, 2, m, (ints .i64 fl)⟩], 5⟩ : Sy)) (fun (r, c, m, at', rem, cap, ad, ys, pos, fl) e C F wb => e.b 1 = b ∧ e.b 2 = c' ∧ Sl .u8 256 C wb (some (⟨1, 0, none⟩ : Addr)) 8 bitMask ∧ Sl .u8 256 C wb ad cap ys ∧ p % 8 + rem ≤ 8 * ys.length ∧ ys.length ≤ 4096 ∧ at' + r + rem = n ∧ r ≤ 64 ∧ (r = 0 → rem = 0) ∧ c = cnt (fun i => f (at' + i)) r ∧ (∀ i, i < rem → bitN ys (p % 8 + i) = f (at' + r + i)) ∧ pos + rem ≤ 40000 ∧ fl.length = 2 * m ∧ m ≤ at' ∧ Blks f 64 0 fl at' ∧ ∀ d ∈ fl, d < 65536) (fun (r, c, m, at', rem, cap, ad, ys, pos, fl) => n - at') (r, c, 0, 0, n - r, cap0 - r / 8, cutA ad0 cap0 (r / 8) 1, y0.drop (r / 8), 0 + r, []) hB (⟨hbn, hcn, hg, (by have := hy0.cut (j := r / 8) (m := y0.length) (by omega) (Nat.le_refl _); rwa [cut_all] at this), by rw [List.length_drop]; omega, by rw [List.length_drop]; omega, by omega, by omega, fun h => by omega, by rw [hq4_r]; exact cnt_congr fun i hi => by rw [hyb0 i (by omega), Nat.zero_add], fun i hi => by rw [bitN_drop, show 8 * (r / 8) + (p % 8 + i) = p % 8 + (r + i) by omega, hyb0 _ (by omega)]; congr 1; omega, by omega, rfl, Nat.le_refl _, rfl, fun d h => (by cases h)⟩)
      (hR.sel [0, 1, 2, 3] [4] (by kernel_rfl) (by kernel_rfl)) (hI.sel [10, 11, 13] (by kernel_rfl)) ?_
  clear hR hI hB
  rintro ⟨r, c, m, at', rem, cap, ad, ys, pos, fl⟩ e19 C19 F19 wb19 a19 w19 hB hp hR hI
  dsimp only at hp hR hI
  obtain ⟨hbn, hcn, hg, hy, hle, hys, hat, hrM, hr0, hcc, hyb, hpr, hfl, hmat, hbl, hfd⟩ := hp
  have hry := hy.room; have hmy := hy.max; have hcr := cnt_le (fun i => f (at' + i)) r
  refine wp_seq ?_
  refine reg_seq tab (k := 5) (hs := []) (sy := []) (ks := [45, 10, 11, 13]) (bs := [0, 1, 2, 3]) (gs := [4])
      (L' := [(45, .v (.bool (((r : Nat) : Int) != (0 : Int)))), (10, .p 0 0), (11, .v (.func (.func 13) #[.pointer (some ⟨b, 0, none⟩)] #[])), (13, .p 3 0)])
      (H' := [⟨0, 27, [.row 4]⟩, ⟨1, 51, [.v (.bool true), .v (.int .i64 ((pos : Nat) : Int)), .v (.int .i64 ((n : Nat) : Int)), .v (.pointer (some ⟨c', 0, none⟩))]⟩, ⟨2, 43, [.v (.slice ad ys.length cap), .v (.int .i64 ((rem : Nat) : Int)), .v (.int .i8 ((p % 8 : Nat) : Int))]⟩, ⟨3, 40, [.v (.int .i16 ((r : Nat) : Int)), .v (.int .i16 ((c : Nat) : Int))]⟩]) (G' := [⟨4, 30, 2, m, (ints .i64 fl)⟩]) (k' := 5) hR hI (by kernel_rfl)
      .nil (fun e20 a20 w20 hag hR hI => ?_)
  replace hbn := (hag 1 (by decide)).1.trans hbn
  replace hcn := (hag 2 (by decide)).1.trans hcn
  refine cnd (b := (((r : Nat) : Int) != (0 : Int))) hI (by kernel_rfl) (fun hc21 => ?_) (fun hc21 => ?_)
  · skip
    replace hI := hI.re 45 (.v (.bool true)) rfl (congrArg Value.bool hc21)
    try simp only [decide_eq_true_eq, decide_eq_false_iff_not, beq_iff_eq, bne_iff_ne, beq_eq_false_iff_ne, bne_eq_false_iff_eq, Bool.and_eq_true, Bool.and_eq_false_iff, Bool.or_eq_true, Bool.or_eq_false_iff, Bool.not_eq_true', Bool.not_eq_false', ne_eq] at hc21
    have hrp : 0 < r := by omega
    refine wp_skip ?_
    refine then_n ?_
    refine wp_seq ?_
    refine wp_block ?_
    refine reg_all tab (k := 5) (hs := [(3, .nw), (6, .nw)]) (sy := []) (ks := [10, 11, 13]) (bs := [0, 1, 2, 3]) (gs := [6])
        (L' := [(10, .p 0 0), (11, .v (.func (.func 13) #[.pointer (some ⟨b, 0, none⟩)] #[])), (13, .p 3 0)])
        (H' := [⟨0, 27, [.row 6]⟩, ⟨1, 51, [.v (.bool true), .v (.int .i64 ((pos : Nat) : Int)), .v (.int .i64 ((n : Nat) : Int)), .v (.pointer (some ⟨c', 0, none⟩))]⟩, ⟨2, 43, [.v (.slice ad ys.length cap), .v (.int .i64 ((rem : Nat) : Int)), .v (.int .i8 ((p % 8 : Nat) : Int))]⟩, ⟨3, 40, [.v (.int .i16 ((r : Nat) : Int)), .v (.int .i16 ((c : Nat) : Int))]⟩]) (G' := [⟨6, 30, 2, (m + 1), ((ints .i64 fl) ++ [.int .i64 ((r : Nat) : Int), .int .i64 ((c : Nat) : Int)])⟩]) (k' := 7) hR hI (by kernel_rfl)
        (.cons (inR_i64 (n := ((r : Nat) : Int)) (by omega)) (.cons (inR_i64 (n := ((c : Nat) : Int)) (by omega)) (.cons (by have hm_ : maxLen = 9223372036854775807 := rfl; rw [hm_]; omega : m + 1 ≤ maxLen) (.cons (by omega : (m + 1) * 16 ≤ 140737488355328) .nil)))) (fun e22 a22 w22 hag hR hI => ?_)
    replace hbn := (hag 1 (by decide)).1.trans hbn
    replace hcn := (hag 2 (by decide)).1.trans hcn
    refine normal_block ?_
    refine then_n ?_
    refine wp_seq ?_
    refine reg_seq tab (k := 7) (hs := []) (sy := []) (ks := [58, 10, 11]) (bs := [0, 1, 2]) (gs := [6])
        (L' := [(58, .agg [.v (.int .i16 ((r : Nat) : Int)), .v (.int .i16 ((c : Nat) : Int))]), (10, .p 0 0), (11, .v (.func (.func 13) #[.pointer (some ⟨b, 0, none⟩)] #[]))])
        (H' := [⟨0, 27, [.row 6]⟩, ⟨1, 51, [.v (.bool true), .v (.int .i64 ((pos : Nat) : Int)), .v (.int .i64 ((n : Nat) : Int)), .v (.pointer (some ⟨c', 0, none⟩))]⟩, ⟨2, 43, [.v (.slice ad ys.length cap), .v (.int .i64 ((rem : Nat) : Int)), .v (.int .i8 ((p % 8 : Nat) : Int))]⟩]) (G' := [⟨6, 30, 2, (m + 1), ((ints .i64 fl) ++ [.int .i64 ((r : Nat) : Int), .int .i64 ((c : Nat) : Int)])⟩]) (k' := 7) hR hI (by kernel_rfl)
        .nil (fun e23 a23 w23 hag hR hI => ?_)
    replace hbn := (hag 1 (by decide)).1.trans hbn
    replace hcn := (hag 2 (by decide)).1.trans hcn
    refine reg_all tab (k := 7) (hs := []) (sy := []) (ks := [13, 10, 11]) (bs := [7, 0, 1, 2]) (gs := [6])
        (L' := [(13, .p 7 0), (10, .p 0 0), (11, .v (.func (.func 13) #[.pointer (some ⟨b, 0, none⟩)] #[]))])
        (H' := [⟨7, 40, [.v (.int .i16 ((r : Nat) : Int)), .v (.int .i16 ((c : Nat) : Int))]⟩, ⟨0, 27, [.row 6]⟩, ⟨1, 51, [.v (.bool true), .v (.int .i64 ((pos : Nat) : Int)), .v (.int .i64 ((n : Nat) : Int)), .v (.pointer (some ⟨c', 0, none⟩))]⟩, ⟨2, 43, [.v (.slice ad ys.length cap), .v (.int .i64 ((rem : Nat) : Int)), .v (.int .i8 ((p % 8 : Nat) : Int))]⟩]) (G' := [⟨6, 30, 2, (m + 1), ((ints .i64 fl) ++ [.int .i64 ((r : Nat) : Int), .int .i64 ((c : Nat) : Int)])⟩]) (k' := 8) hR hI (by kernel_rfl)
        .nil (fun e24 a24 w24 hag hR hI => ?_)
    replace hbn := (hag 1 (by decide)).1.trans hbn
    replace hcn := (hag 2 (by decide)).1.trans hcn
    refine then_n ?_
    refine reg (is := [0, 1, 2]) (by kernel_rfl) ?_
    refine part_ tab [0] [1, 2] (by rfl) (k := 8) (hs := []) (sy := []) (ks := [46, 13, 10, 11]) (bs := [7, 0, 1, 2]) (gs := [6])
        (L' := [(46, .v (.func (.func 13) #[.pointer (some ⟨b, 0, none⟩)] #[])), (13, .p 7 0), (10, .p 0 0), (11, .v (.func (.func 13) #[.pointer (some ⟨b, 0, none⟩)] #[]))])
        (H' := [⟨7, 40, [.v (.int .i16 ((r : Nat) : Int)), .v (.int .i16 ((c : Nat) : Int))]⟩, ⟨0, 27, [.row 6]⟩, ⟨1, 51, [.v (.bool true), .v (.int .i64 ((pos : Nat) : Int)), .v (.int .i64 ((n : Nat) : Int)), .v (.pointer (some ⟨c', 0, none⟩))]⟩, ⟨2, 43, [.v (.slice ad ys.length cap), .v (.int .i64 ((rem : Nat) : Int)), .v (.int .i8 ((p % 8 : Nat) : Int))]⟩]) (G' := [⟨6, 30, 2, (m + 1), ((ints .i64 fl) ++ [.int .i64 ((r : Nat) : Int), .int .i64 ((c : Nat) : Int)])⟩]) (k' := 8) hR hI (by kernel_rfl)
        .nil (fun e25 a25 w25 hag hR hI => ?_)
    replace hbn := (hag 1 (by decide)).1.trans hbn
    replace hcn := (hag 2 (by decide)).1.trans hcn
    refine callB0 hI rfl rfl ⟨_, rfl, rfl, rfl⟩ (by kernel_rfl : arg _ _ = some (.v (.func (.func 13) #[.pointer (some ⟨b, 0, none⟩)] #[]))) Tryd.func13 rfl rfl ?_
    have hblk_ := hR.blk ⟨1, 51, [.v (.bool true), .v (.int .i64 ((pos : Nat) : Int)), .v (.int .i64 ((n : Nat) : Int)), .v (.pointer (some ⟨c', 0, none⟩))]⟩ (by simp); have hblk2_ := hR.blk ⟨2, 43, [.v (.slice ad ys.length cap), .v (.int .i64 ((rem : Nat) : Int)), .v (.int .i8 ((p % 8 : Nat) : Int))]⟩ (by simp); have hne_ := hR.hh ⟨1, 51, [.v (.bool true), .v (.int .i64 ((pos : Nat) : Int)), .v (.int .i64 ((n : Nat) : Int)), .v (.pointer (some ⟨c', 0, none⟩))]⟩ (by simp) ⟨2, 43, [.v (.slice ad ys.length cap), .v (.int .i64 ((rem : Nat) : Int)), .v (.int .i8 ((p % 8 : Nat) : Int))]⟩ (by simp) (Nat.ne_of_beq_eq_false rfl)
    refine (optWordS_spec (hg.now hB hR) (by have h9 := hblk_.1; dsimp only at h9; rw [hbn] at h9; exact h9) (by have h9 := hblk2_.1; dsimp only at h9; rw [hcn] at h9; exact h9) (by have h9 := hne_; dsimp only at h9; rw [hbn, hcn] at h9; exact h9) (by have h9 := hblk_.2; dsimp only at h9; rw [hbn] at h9; exact fun h => h9 h.2) (by have h9 := hblk2_.2; dsimp only at h9; rw [hcn] at h9; exact fun h => h9 h.2) (hy.now hB hR) ho8 (by omega) (by omega) (by omega)).mono ?_
    rintro ex w26 ⟨r2, c2, rfl, hk, hnew, hnew2, hstr2⟩
    rw [← hbn, ← hcn] at hk; rw [← hbn] at hnew; rw [← hcn] at hnew2
    have hkF_ := hR.keepB2 (b := ⟨1, 51, [.v (.bool true), .v (.int .i64 ((pos : Nat) : Int)), .v (.int .i64 ((n : Nat) : Int)), .v (.pointer (some ⟨c', 0, none⟩))]⟩) (c := ⟨2, 43, [.v (.slice ad ys.length cap), .v (.int .i64 ((rem : Nat) : Int)), .v (.int .i8 ((p % 8 : Nat) : Int))]⟩) (by simp) (by simp) hk
    replace hg := hg.nextF hB hR hkF_
    replace hy := hy.nextF hB hR hkF_
    have hB_ := hB.nextF hR hkF_
    replace hR := hR.turned2 (b := ⟨1, 51, [.v (.bool true), .v (.int .i64 ((pos : Nat) : Int)), .v (.int .i64 ((n : Nat) : Int)), .v (.pointer (some ⟨c', 0, none⟩))]⟩) (c := ⟨2, 43, [.v (.slice ad ys.length cap), .v (.int .i64 ((rem : Nat) : Int)), .v (.int .i8 ((p % 8 : Nat) : Int))]⟩) (by simp) (by simp) (Nat.ne_of_beq_eq_false rfl) [.v (.bool true), .v (.int .i64 ((pos + r2 : Nat) : Int)), .v (.int .i64 ((n : Nat) : Int)), .v (.pointer (some ⟨c', 0, none⟩))] [.v (.slice (cutA ad cap (r2 / 8) 1) (ys.length - r2 / 8) (cap - r2 / 8)), .v (.int .i64 ((rem - r2 : Nat) : Int)), .v (.int .i8 ((p % 8 : Nat) : Int))] [⟨7, 40, [.v (.int .i16 ((r : Nat) : Int)), .v (.int .i16 ((c : Nat) : Int))]⟩, ⟨0, 27, [.row 6]⟩] (by simp) hk hnew hnew2
    dsimp only at hR; replace hB := hB_; clear hB_ hk hkF_ hblk_ hblk2_ hne_
    have hq1_r2 := hstr2.1; have hq2_r2 := hstr2.2.1; have hq3_r2 := hstr2.2.2.1; have hq4_r2 := hstr2.2.2.2; have hq5_r2 := cnt_le (fun i => bitN ys (p % 8 + i)) r2
    refine ⟨_, rfl, ?_⟩
    replace hI := hI.put (d := some 47) (x := .v (.agg #[.int .i16 ((r2 : Nat) : Int), .int .i16 ((c2 : Nat) : Int)])) (by intro t ht; cases ht; decide) rfl
    replace hI := hI.sel [47, 46, 13, 10, 11] (by kernel_rfl : sel _ _ = some [(47, .v (.agg #[.int .i16 ((r2 : Nat) : Int), .int .i16 ((c2 : Nat) : Int)])), (46, .v (.func (.func 13) #[.pointer (some ⟨b, 0, none⟩)] #[])), (13, .p 7 0), (10, .p 0 0), (11, .v (.func (.func 13) #[.pointer (some ⟨b, 0, none⟩)] #[]))])
    refine part_ tab [2] [] (by rfl) (k := 8) (hs := []) (sy := []) (ks := [13, 10, 11]) (bs := [7, 1, 2, 0]) (gs := [6])
        (L' := [(13, .p 7 0), (10, .p 0 0), (11, .v (.func (.func 13) #[.pointer (some ⟨b, 0, none⟩)] #[]))])
        (H' := [⟨7, 40, [.v (.int .i16 ((r2 : Nat) : Int)), .v (.int .i16 ((c2 : Nat) : Int))]⟩, ⟨1, 51, [.v (.bool true), .v (.int .i64 ((pos + r2 : Nat) : Int)), .v (.int .i64 ((n : Nat) : Int)), .v (.pointer (some ⟨c', 0, none⟩))]⟩, ⟨2, 43, [.v (.slice (cutA ad cap (r2 / 8) 1) (ys.length - r2 / 8) (cap - r2 / 8)), .v (.int .i64 ((rem - r2 : Nat) : Int)), .v (.int .i8 ((p % 8 : Nat) : Int))]⟩, ⟨0, 27, [.row 6]⟩]) (G' := [⟨6, 30, 2, (m + 1), ((ints .i64 fl) ++ [.int .i64 ((r : Nat) : Int), .int .i64 ((c : Nat) : Int)])⟩]) (k' := 8) hR hI (by kernel_rfl)
        .nil (fun e27 a27 w27 hag hR hI => ?_)
    replace hbn := (hag 1 (by decide)).1.trans hbn
    replace hcn := (hag 2 (by decide)).1.trans hcn
    refine ops_nil ?_
    refine then_n ?_
    replace hR := hR.reblk (b := ⟨2, 43, [.v (.slice (cutA ad cap (r2 / 8) 1) (ys.length - r2 / 8) (cap - r2 / 8)), .v (.int .i64 ((rem - r2 : Nat) : Int)), .v (.int .i8 ((p % 8 : Nat) : Int))]⟩) (by simp) [.v (.slice (cutA ad cap (r2 / 8) 1) ((ys.drop (r2 / 8)).length) (cap - r2 / 8)), .v (.int .i64 ((rem - r2 : Nat) : Int)), .v (.int .i8 ((p % 8 : Nat) : Int))] [⟨7, 40, [.v (.int .i16 ((r2 : Nat) : Int)), .v (.int .i16 ((c2 : Nat) : Int))]⟩, ⟨1, 51, [.v (.bool true), .v (.int .i64 ((pos + r2 : Nat) : Int)), .v (.int .i64 ((n : Nat) : Int)), .v (.pointer (some ⟨c', 0, none⟩))]⟩, ⟨0, 27, [.row 6]⟩] (by simp) (by simp only [dens, den, List.length_drop])
    dsimp only at hR
    rw [ints_two] at hR
    have hren_ : Sy.ren [(4, 6), (3, 7)] ⟨[(13, .p 3 0), (10, .p 0 0), (11, .v (.func (.func 13) #[.pointer (some ⟨b, 0, none⟩)] #[]))], [⟨2, 43, [.v (.slice (cutA ad cap (r2 / 8) 1) ((ys.drop (r2 / 8)).length) (cap - r2 / 8)), .v (.int .i64 ((rem - r2 : Nat) : Int)), .v (.int .i8 ((p % 8 : Nat) : Int))]⟩, ⟨3, 40, [.v (.int .i16 ((r2 : Nat) : Int)), .v (.int .i16 ((c2 : Nat) : Int))]⟩, ⟨1, 51, [.v (.bool true), .v (.int .i64 ((pos + r2 : Nat) : Int)), .v (.int .i64 ((n : Nat) : Int)), .v (.pointer (some ⟨c', 0, none⟩))]⟩, ⟨0, 27, [.row 4]⟩], [⟨4, 30, 2, (m + 1), (ints .i64 (fl ++ [r, c]))⟩], 0⟩ = ⟨[(13, .p 7 0), (10, .p 0 0), (11, .v (.func (.func 13) #[.pointer (some ⟨b, 0, none⟩)] #[]))], [⟨2, 43, [.v (.slice (cutA ad cap (r2 / 8) 1) ((ys.drop (r2 / 8)).length) (cap - r2 / 8)), .v (.int .i64 ((rem - r2 : Nat) : Int)), .v (.int .i8 ((p % 8 : Nat) : Int))]⟩, ⟨7, 40, [.v (.int .i16 ((r2 : Nat) : Int)), .v (.int .i16 ((c2 : Nat) : Int))]⟩, ⟨1, 51, [.v (.bool true), .v (.int .i64 ((pos + r2 : Nat) : Int)), .v (.int .i64 ((n : Nat) : Int)), .v (.pointer (some ⟨c', 0, none⟩))]⟩, ⟨0, 27, [.row 6]⟩], [⟨6, 30, 2, (m + 1), (ints .i64 (fl ++ [r, c]))⟩], 0⟩ := by kernel_rfl
    replace hI := hI.rename (S := ⟨[(13, .p 7 0), (10, .p 0 0), (11, .v (.func (.func 13) #[.pointer (some ⟨b, 0, none⟩)] #[]))], [⟨2, 43, [.v (.slice (cutA ad cap (r2 / 8) 1) ((ys.drop (r2 / 8)).length) (cap - r2 / 8)), .v (.int .i64 ((rem - r2 : Nat) : Int)), .v (.int .i8 ((p % 8 : Nat) : Int))]⟩, ⟨7, 40, [.v (.int .i16 ((r2 : Nat) : Int)), .v (.int .i16 ((c2 : Nat) : Int))]⟩, ⟨1, 51, [.v (.bool true), .v (.int .i64 ((pos + r2 : Nat) : Int)), .v (.int .i64 ((n : Nat) : Int)), .v (.pointer (some ⟨c', 0, none⟩))]⟩, ⟨0, 27, [.row 6]⟩], [⟨6, 30, 2, (m + 1), (ints .i64 (fl ++ [r, c]))⟩], 0⟩) (S' := ⟨[(13, .p 3 0), (10, .p 0 0), (11, .v (.func (.func 13) #[.pointer (some ⟨b, 0, none⟩)] #[]))], [⟨2, 43, [.v (.slice (cutA ad cap (r2 / 8) 1) ((ys.drop (r2 / 8)).length) (cap - r2 / 8)), .v (.int .i64 ((rem - r2 : Nat) : Int)), .v (.int .i8 ((p % 8 : Nat) : Int))]⟩, ⟨3, 40, [.v (.int .i16 ((r2 : Nat) : Int)), .v (.int .i16 ((c2 : Nat) : Int))]⟩, ⟨1, 51, [.v (.bool true), .v (.int .i64 ((pos + r2 : Nat) : Int)), .v (.int .i64 ((n : Nat) : Int)), .v (.pointer (some ⟨c', 0, none⟩))]⟩, ⟨0, 27, [.row 4]⟩], [⟨4, 30, 2, (m + 1), (ints .i64 (fl ++ [r, c]))⟩], 0⟩) hren_; replace hR := hR.rename (S := ⟨[(13, .p 7 0), (10, .p 0 0), (11, .v (.func (.func 13) #[.pointer (some ⟨b, 0, none⟩)] #[]))], [⟨2, 43, [.v (.slice (cutA ad cap (r2 / 8) 1) ((ys.drop (r2 / 8)).length) (cap - r2 / 8)), .v (.int .i64 ((rem - r2 : Nat) : Int)), .v (.int .i8 ((p % 8 : Nat) : Int))]⟩, ⟨7, 40, [.v (.int .i16 ((r2 : Nat) : Int)), .v (.int .i16 ((c2 : Nat) : Int))]⟩, ⟨1, 51, [.v (.bool true), .v (.int .i64 ((pos + r2 : Nat) : Int)), .v (.int .i64 ((n : Nat) : Int)), .v (.pointer (some ⟨c', 0, none⟩))]⟩, ⟨0, 27, [.row 6]⟩], [⟨6, 30, 2, (m + 1), (ints .i64 (fl ++ [r, c]))⟩], 0⟩) (S' := ⟨[(13, .p 3 0), (10, .p 0 0), (11, .v (.func (.func 13) #[.pointer (some ⟨b, 0, none⟩)] #[]))], [⟨2, 43, [.v (.slice (cutA ad cap (r2 / 8) 1) ((ys.drop (r2 / 8)).length) (cap - r2 / 8)), .v (.int .i64 ((rem - r2 : Nat) : Int)), .v (.int .i8 ((p % 8 : Nat) : Int))]⟩, ⟨3, 40, [.v (.int .i16 ((r2 : Nat) : Int)), .v (.int .i16 ((c2 : Nat) : Int))]⟩, ⟨1, 51, [.v (.bool true), .v (.int .i64 ((pos + r2 : Nat) : Int)), .v (.int .i64 ((n : Nat) : Int)), .v (.pointer (some ⟨c', 0, none⟩))]⟩, ⟨0, 27, [.row 4]⟩], [⟨4, 30, 2, (m + 1), (ints .i64 (fl ++ [r, c]))⟩], 0⟩) hren_ (by kernel_rfl) (by kernel_rfl); dsimp only at hI hR; clear hren_
    replace hbn : (Env.ren e27 [(4, 6), (3, 7)]).b 1 = _ := hbn
    replace hcn : (Env.ren e27 [(4, 6), (3, 7)]).b 2 = _ := hcn
    exact ⟨(r2, c2, m + 1, at' + r, rem - r2, cap - r2 / 8, cutA ad cap (r2 / 8) 1, ys.drop (r2 / 8), pos + r2, fl ++ [r, c]), _, _, _, _, hB, ⟨hbn, hcn, hg, (by have := hy.cut (j := r2 / 8) (m := ys.length) (by omega) (Nat.le_refl _); rwa [cut_all] at this), by rw [List.length_drop]; omega, by rw [List.length_drop]; omega, by omega, by omega, fun h => by omega, by rw [hq4_r2]; exact cnt_congr fun i hi => hyb i (by omega), fun i hi => by rw [bitN_drop, show 8 * (r2 / 8) + (p % 8 + i) = p % 8 + (r2 + i) by omega, hyb _ (by omega)]; congr 1; omega, by omega, fls hfl, by omega, hbl.snoc (by omega) hrM hcc, pair_dig hfd (by omega) (by omega)⟩, (by (try dsimp only); omega), hR.sel [0, 1, 2, 3] [4] (by kernel_rfl) (by kernel_rfl), hI.sel [10, 11, 13] (by kernel_rfl)⟩
  · skip
    replace hI := hI.re 45 (.v (.bool false)) rfl (congrArg Value.bool hc21)
    try simp only [decide_eq_true_eq, decide_eq_false_iff_not, beq_iff_eq, bne_iff_ne, beq_eq_false_iff_ne, bne_eq_false_iff_eq, Bool.and_eq_true, Bool.and_eq_false_iff, Bool.or_eq_true, Bool.or_eq_false_iff, Bool.not_eq_true', Bool.not_eq_false', ne_eq] at hc21
    have hrz : r = 0 := by omega
    have hrem := hr0 hrz
    refine wp_exit ?_
    refine exit_then ?_
    refine exit_then ?_
    refine exit_hit ?_
    refine then_n ?_
    have hatn : at' = n := by omega
    obtain ⟨hB_, hR_, hrel_, bd, bc, hv_, hcells, hlen_, hcap_, hmax_⟩ := hB.releaseN hR (y := ⟨4, 30, 2, m, (ints .i64 fl)⟩) (by simp) _ dropN_mem
    replace hg := hg.rel hrel_
    replace hy := hy.rel hrel_
    replace hB := hB_; replace hR := hR_.sel [0, 1, 2, 3] [] (by kernel_rfl : selH _ _ = some [⟨0, 27, [.row 4]⟩, ⟨1, 51, [.v (.bool true), .v (.int .i64 ((pos : Nat) : Int)), .v (.int .i64 ((n : Nat) : Int)), .v (.pointer (some ⟨c', 0, none⟩))]⟩, ⟨2, 43, [.v (.slice ad ys.length cap), .v (.int .i64 ((rem : Nat) : Int)), .v (.int .i8 ((p % 8 : Nat) : Int))]⟩, ⟨3, 40, [.v (.int .i16 ((r : Nat) : Int)), .v (.int .i16 ((c : Nat) : Int))]⟩]) (by kernel_rfl : selG _ _ = some []); clear hB_ hR_ hrel_
    replace hR := hR.reblk (b := ⟨0, 27, [.row 4]⟩) (by simp) [.v (.slice bd m bc)] [⟨1, 51, [.v (.bool true), .v (.int .i64 ((pos : Nat) : Int)), .v (.int .i64 ((n : Nat) : Int)), .v (.pointer (some ⟨c', 0, none⟩))]⟩, ⟨2, 43, [.v (.slice ad ys.length cap), .v (.int .i64 ((rem : Nat) : Int)), .v (.int .i8 ((p % 8 : Nat) : Int))]⟩, ⟨3, 40, [.v (.int .i16 ((r : Nat) : Int)), .v (.int .i16 ((c : Nat) : Int))]⟩] (by simp) (by simp only [dens, den, hv_])
    dsimp only at hR
    clear hv_
    have hfl0 := sl_flat hcells hfd (by omega)
    have hbcm : m ≤ bc := hcap_; have hbcx : bc ≤ 9223372036854775807 := hmax_
    refine reg_seq tab (k := 5) (hs := []) (sy := []) (ks := [10]) (bs := [0, 1, 2]) (gs := [])
        (L' := [(10, .p 0 0)])
        (H' := [⟨0, 27, [.v (.slice bd m bc)]⟩, ⟨1, 51, [.v (.bool true), .v (.int .i64 ((pos : Nat) : Int)), .v (.int .i64 ((n : Nat) : Int)), .v (.pointer (some ⟨c', 0, none⟩))]⟩, ⟨2, 43, [.v (.slice ad ys.length cap), .v (.int .i64 ((rem : Nat) : Int)), .v (.int .i8 ((p % 8 : Nat) : Int))]⟩]) (G' := []) (k' := 5) hR hI (by kernel_rfl)
        .nil (fun e28 a28 w28 hag hR hI => ?_)
    replace hbn := (hag 1 (by decide)).1.trans hbn
    replace hcn := (hag 2 (by decide)).1.trans hcn
    refine wp_ret ?_
    refine outF tab (xs := [.v (.slice bd m bc)]) hR hI (inv8 _ _) (idle8 _) rfl (by kernel_rfl) ?_
    exact ⟨fl, bd, bc, m, rfl, hB.fin hR, hfl0.fin hB hR, hfl, hbcm, hbcx, by rw [← hatn]; exact hbl⟩

set_option maxHeartbeats 4000000 in
set_option maxRecDepth 100000 in
theorem blk3S_spec {C : Nat → Prop} {w : World} {n p : Nat} {f : Nat → Bool} {q : Addr} {cap : Nat} {xs : List Nat} (hg : Sl .u8 256 C w (some (⟨1, 0, none⟩ : Addr)) 8 bitMask) (hx : Sl .u8 256 C w (some q) cap xs) (hp : p + n ≤ 8 * xs.length) (hs : xs.length ≤ 4096) (hf : ∀ i, i < n → f i = bitN xs (p + i)) :
    Calls P 6 #[.slice (some q) xs.length cap, .int .i64 ((p : Nat) : Int), .int .i64 ((n : Nat) : Int), .int .i64 3, .bool false] w fun ex w' => ∃ (fl : List Nat) (bd : Option Addr) (bc m : Nat), ex = .returned (.slice bd m bc) ∧ Keep (fun b => b < w.heap.size) w w' ∧ Sl .i64 65536 (Grow C w w') w' bd fl.length fl ∧ fl.length = 2 * m ∧ m ≤ bc ∧ bc ≤ 9223372036854775807 ∧ Blks f 64 0 fl n := by
  refine doorD (e := e0) (vs := [.v (.slice (some q) xs.length cap), .v (.int .i64 ((p : Nat) : Int)), .v (.int .i64 ((n : Nat) : Int)), .v (.int .i64 3), .v (.bool false)]) (n := 60) (m := 5) Tryd.func6 rfl rfl rfl (by decide) fun a_ hI => ?_
  replace hI : Is 60 [] e0 [(0, .v (.slice (some q) xs.length cap)), (1, .v (.int .i64 ((p : Nat) : Int))), (2, .v (.int .i64 ((n : Nat) : Int))), (3, .v (.int .i64 3)), (4, .v (.bool false))] a_ := hI
  have hR : Rel (fun b => b < w.heap.size) w e0 [] [] w := Rel.start (fun k hk => hk)
  have hB : Base C w C (fun b => b < w.heap.size) w := Base.start
  have hrx := hx.room; have hmx := hx.max; have hn8 : n ≤ 32768 := (by omega); have ho8 : p % 8 < 8 := Nat.mod_lt _ (by decide)
  refine reg_seq tab (k := 0) (hs := []) (sy := []) (ks := [10, 0, 1, 2, 3, 4]) (bs := [0]) (gs := [])
      (L' := [(10, .p 0 0), (0, .v (.slice (some q) xs.length cap)), (1, .v (.int .i64 ((p : Nat) : Int))), (2, .v (.int .i64 ((n : Nat) : Int))), (3, .v (.int .i64 3)), (4, .v (.bool false))])
      (H' := [⟨0, 27, [.v (.slice none 0 0)]⟩]) (G' := []) (k' := 1) hR hI (by kernel_rfl)
      .nil (fun e1 a1 w1 hag hR hI => ?_)
  refine wp_seq ?_
  refine reg (is := [0, 1]) (by kernel_rfl) ?_
  refine rawOp (x := .v (.func (.func 8) #[] #[.pointer (some ⟨e1.b 0, 0, none⟩)])) hI rfl rfl (by kernel_rfl) (fun ev hev => by simp [execOp, Instr.makeFunc, hev (.tmp 10) _ rfl, den]) (fun a2 hI => ?_)
  replace hI := hI.sel [14, 10, 0, 1, 2, 3, 4] (by kernel_rfl : sel _ _ = some [(14, .v (.func (.func 8) #[] #[.pointer (some ⟨e1.b 0, 0, none⟩)])), (10, .p 0 0), (0, .v (.slice (some q) xs.length cap)), (1, .v (.int .i64 ((p : Nat) : Int))), (2, .v (.int .i64 ((n : Nat) : Int))), (3, .v (.int .i64 3)), (4, .v (.bool false))])
  refine deferFn hI rfl rfl rfl ⟨_, rfl, rfl, rfl⟩ rfl (fun a2 hI => ?_)
  replace hI := hI.sel [14, 10, 0, 1, 2, 3, 4] (by kernel_rfl : sel _ _ = some [(14, .v (.func (.func 8) #[] #[.pointer (some ⟨e1.b 0, 0, none⟩)])), (10, .p 0 0), (0, .v (.slice (some q) xs.length cap)), (1, .v (.int .i64 ((p : Nat) : Int))), (2, .v (.int .i64 ((n : Nat) : Int))), (3, .v (.int .i64 3)), (4, .v (.bool false))])
  refine ops_nil ?_
  refine then_n ?_
  refine reg_seq tab (k := 1) (hs := []) (sy := []) (ks := [10, 0, 1, 2, 3, 4]) (bs := [0]) (gs := [])
      (L' := [(10, .p 0 0), (0, .v (.slice (some q) xs.length cap)), (1, .v (.int .i64 ((p : Nat) : Int))), (2, .v (.int .i64 ((n : Nat) : Int))), (3, .v (.int .i64 3)), (4, .v (.bool false))])
      (H' := [⟨0, 27, [.v (.slice none 0 0)]⟩]) (G' := []) (k' := 1) hR hI (by kernel_rfl)
      .nil (fun e3 a3 w3 hag hR hI => ?_)
  refine wp_seq ?_
  refine reg_seq tab (k := 1) (hs := []) (sy := []) (ks := [15, 10, 0, 1, 2, 3, 4]) (bs := [0]) (gs := [])
      (L' := [(15, .v (.int .i64 3)), (10, .p 0 0), (0, .v (.slice (some q) xs.length cap)), (1, .v (.int .i64 ((p : Nat) : Int))), (2, .v (.int .i64 ((n : Nat) : Int))), (3, .v (.int .i64 3)), (4, .v (.bool false))])
      (H' := [⟨0, 27, [.v (.slice none 0 0)]⟩]) (G' := []) (k' := 1) hR hI (by kernel_rfl)
      .nil (fun e4 a4 w4 hag hR hI => ?_)
  refine wp_block ?_
  refine reg_seq tab (k := 1) (hs := []) (sy := []) (ks := [27, 15, 10, 0, 1, 2, 3, 4]) (bs := [0]) (gs := [])
      (L' := [(27, .v (.bool false)), (15, .v (.int .i64 3)), (10, .p 0 0), (0, .v (.slice (some q) xs.length cap)), (1, .v (.int .i64 ((p : Nat) : Int))), (2, .v (.int .i64 ((n : Nat) : Int))), (3, .v (.int .i64 3)), (4, .v (.bool false))])
      (H' := [⟨0, 27, [.v (.slice none 0 0)]⟩]) (G' := []) (k' := 1) hR hI (by kernel_rfl)
      .nil (fun e5 a5 w5 hag hR hI => ?_)
  refine cnd_f hI (by kernel_rfl) ?_
  refine reg_seq tab (k := 1) (hs := []) (sy := []) (ks := [34, 10, 0, 1, 2, 3, 4]) (bs := [0]) (gs := [])
      (L' := [(34, .v (.bool false)), (10, .p 0 0), (0, .v (.slice (some q) xs.length cap)), (1, .v (.int .i64 ((p : Nat) : Int))), (2, .v (.int .i64 ((n : Nat) : Int))), (3, .v (.int .i64 3)), (4, .v (.bool false))])
      (H' := [⟨0, 27, [.v (.slice none 0 0)]⟩]) (G' := []) (k' := 1) hR hI (by kernel_rfl)
      .nil (fun e6 a6 w6 hag hR hI => ?_)
  refine cnd_f hI (by kernel_rfl) ?_
  refine wp_seq ?_
  refine reg_seq tab (k := 1) (hs := []) (sy := []) (ks := [16, 10, 0, 1, 2, 3]) (bs := [0]) (gs := [])
      (L' := [(16, .v (.bool false)), (10, .p 0 0), (0, .v (.slice (some q) xs.length cap)), (1, .v (.int .i64 ((p : Nat) : Int))), (2, .v (.int .i64 ((n : Nat) : Int))), (3, .v (.int .i64 3))])
      (H' := [⟨0, 27, [.v (.slice none 0 0)]⟩]) (G' := []) (k' := 1) hR hI (by kernel_rfl)
      .nil (fun e7 a7 w7 hag hR hI => ?_)
  refine cnd_f hI (by kernel_rfl) ?_
  refine wp_skip ?_
  refine then_n ?_
  refine wp_seq ?_
  refine reg (is := [0, 1, 2, 3, 4]) (by kernel_rfl) ?_
  refine part_ tab [0, 1, 2] [3, 4] (by rfl) (k := 1) (hs := []) (sy := []) (ks := [19, 18, 17, 10, 3]) (bs := [0]) (gs := [])
      (L' := [(19, .v (.int .i64 ((n : Nat) : Int))), (18, .v (.int .i64 ((p : Nat) : Int))), (17, .v (.slice (some q) xs.length cap)), (10, .p 0 0), (3, .v (.int .i64 3))])
      (H' := [⟨0, 27, [.v (.slice none 0 0)]⟩]) (G' := []) (k' := 1) hR hI (by kernel_rfl)
      .nil (fun e8 a8 w8 hag hR hI => ?_)
  refine callOp (ys := [.v (.slice (some q) xs.length cap), .v (.int .i64 ((p : Nat) : Int)), .v (.int .i64 ((n : Nat) : Int))]) hI rfl rfl ⟨_, rfl, rfl, rfl⟩ (by kernel_rfl) Tryd.func12 rfl rfl ?_
  have hBs := hB.size hR
  refine (newOptS_spec (hx.now hB hR) hp hs).mono ?_
  rintro ex w9 ⟨b, c', rfl, hge, hge2, hbc, hnew, hnew2, hk⟩
  obtain ⟨hag_, hR_⟩ := hR.gotX2 (L := []) (k := 1) (b := b) (c := c') (t := 51) (u := 43) (cs := [.v (.bool true), .v (.int .i64 ((0 : Nat) : Int)), .v (.int .i64 ((n : Nat) : Int)), .v (.pointer (some ⟨c', 0, none⟩))]) (ds := [.v (.slice (cutA (some q) cap (p / 8) 1) (xs.length - p / 8) (cap - p / 8)), .v (.int .i64 ((n : Nat) : Int)), .v (.int .i8 ((p % 8 : Nat) : Int))]) (by kernel_rfl) hk hge hge2 hbc (by simpa [dens, den, two_b0, two_b1] using hnew) (by simpa [dens, den, two_b0, two_b1] using hnew2)
  have hkF_ := hR.keepF hk
  replace hg := hg.nextX2 hB hR hkF_ hge hge2
  replace hx := hx.nextX2 hB hR hkF_ hge hge2
  have hB_ := hB.nextX2 hR hkF_ hge hge2
  replace hI := hI.agreeB (H := [⟨0, 27, [.v (.slice none 0 0)]⟩]) (G := []) (by kernel_rfl) hag_
  replace hR := hR_; replace hB := hB_; clear hB_ hR_ hkF_ hk
  have hbn : ((e8.addB 1 b).addB (1 + 1) c').b 1 = b := two_b0 _ _ _ _
  have hcn : ((e8.addB 1 b).addB (1 + 1) c').b 2 = c' := two_b1 _ _ _ _
  obtain ⟨y0, hy0e⟩ : ∃ y0, y0 = xs.drop (p / 8) := ⟨_, rfl⟩
  obtain ⟨ad0, had0⟩ : ∃ ad0, ad0 = cutA (some q) cap (p / 8) 1 := ⟨_, rfl⟩
  obtain ⟨cap0, hcap0⟩ : ∃ cap0, cap0 = cap - p / 8 := ⟨_, rfl⟩
  have hy0l : y0.length = xs.length - p / 8 := by rw [hy0e, List.length_drop]
  have hy0 := hx.cut (j := p / 8) (m := xs.length) (by omega) (Nat.le_refl _)
  rw [cut_all, ← hy0e, ← had0, ← hcap0] at hy0
  replace hR := hR.reblk (b := ⟨2, 43, [.v (.slice (cutA (some q) cap (p / 8) 1) (xs.length - p / 8) (cap - p / 8)), .v (.int .i64 ((n : Nat) : Int)), .v (.int .i8 ((p % 8 : Nat) : Int))]⟩) (by simp) [.v (.slice ad0 y0.length cap0), .v (.int .i64 ((n : Nat) : Int)), .v (.int .i8 ((p % 8 : Nat) : Int))] [⟨1, 51, [.v (.bool true), .v (.int .i64 ((0 : Nat) : Int)), .v (.int .i64 ((n : Nat) : Int)), .v (.pointer (some ⟨c', 0, none⟩))]⟩, ⟨0, 27, [.v (.slice none 0 0)]⟩] (by simp) (by simp only [dens, den, hy0l, had0, hcap0])
  dsimp only at hR
  have hyb0 : ∀ i, i < n → bitN y0 (p % 8 + i) = f i := fun i hi => by rw [hy0e, bitN_drop, hf i hi]; congr 1; omega
  refine ⟨_, rfl, ?_⟩
  replace hI := hI.put (d := some 20) (x := .p 1 0) (by intro t ht; cases ht; decide) rfl
  replace hI := hI.sel [20, 19, 18, 17, 10, 3] (by kernel_rfl : sel _ _ = some [(20, .p 1 0), (19, .v (.int .i64 ((n : Nat) : Int))), (18, .v (.int .i64 ((p : Nat) : Int))), (17, .v (.slice (some q) xs.length cap)), (10, .p 0 0), (3, .v (.int .i64 3))])
  refine part_ tab [4] [] (by rfl) (k := 3) (hs := []) (sy := []) (ks := [12, 10, 3]) (bs := [2, 1, 0]) (gs := [])
      (L' := [(12, .p 1 0), (10, .p 0 0), (3, .v (.int .i64 3))])
      (H' := [⟨2, 43, [.v (.slice ad0 y0.length cap0), .v (.int .i64 ((n : Nat) : Int)), .v (.int .i8 ((p % 8 : Nat) : Int))]⟩, ⟨1, 51, [.v (.bool true), .v (.int .i64 ((0 : Nat) : Int)), .v (.int .i64 ((n : Nat) : Int)), .v (.pointer (some ⟨c', 0, none⟩))]⟩, ⟨0, 27, [.v (.slice none 0 0)]⟩]) (G' := []) (k' := 3) hR hI (by kernel_rfl)
      .nil (fun e10 a10 w10 hag hR hI => ?_)
  replace hbn := (hag 1 (by decide)).1.trans hbn
  replace hcn := (hag 2 (by decide)).1.trans hcn
  refine ops_nil ?_
  refine then_n ?_
  refine wp_seq ?_
  refine reg (is := [0, 1, 2]) (by kernel_rfl) ?_
  refine part_ tab [0] [1, 2] (by rfl) (k := 3) (hs := []) (sy := []) (ks := [21, 12, 10, 3]) (bs := [2, 1, 0]) (gs := [])
      (L' := [(21, .p 1 0), (12, .p 1 0), (10, .p 0 0), (3, .v (.int .i64 3))])
      (H' := [⟨2, 43, [.v (.slice ad0 y0.length cap0), .v (.int .i64 ((n : Nat) : Int)), .v (.int .i8 ((p % 8 : Nat) : Int))]⟩, ⟨1, 51, [.v (.bool true), .v (.int .i64 ((0 : Nat) : Int)), .v (.int .i64 ((n : Nat) : Int)), .v (.pointer (some ⟨c', 0, none⟩))]⟩, ⟨0, 27, [.v (.slice none 0 0)]⟩]) (G' := []) (k' := 3) hR hI (by kernel_rfl)
      .nil (fun e11 a11 w11 hag hR hI => ?_)
  replace hbn := (hag 1 (by decide)).1.trans hbn
  replace hcn := (hag 2 (by decide)).1.trans hcn
  refine rawOp (x := .v (.func (.func 13) #[.pointer (some ⟨b, 0, none⟩)] #[])) hI rfl rfl (by kernel_rfl) (fun ev hev => by simp [execOp, Instr.makeFunc, hev (.tmp 21) _ rfl, den, hbn]) (fun a12 hI => ?_)
  replace hI := hI.sel [22, 21, 12, 10, 3] (by kernel_rfl : sel _ _ = some [(22, .v (.func (.func 13) #[.pointer (some ⟨b, 0, none⟩)] #[])), (21, .p 1 0), (12, .p 1 0), (10, .p 0 0), (3, .v (.int .i64 3))])
  refine part_ tab [2] [] (by rfl) (k := 3) (hs := []) (sy := []) (ks := [11, 12, 10, 3]) (bs := [2, 1, 0]) (gs := [])
      (L' := [(11, .v (.func (.func 13) #[.pointer (some ⟨b, 0, none⟩)] #[])), (12, .p 1 0), (10, .p 0 0), (3, .v (.int .i64 3))])
      (H' := [⟨2, 43, [.v (.slice ad0 y0.length cap0), .v (.int .i64 ((n : Nat) : Int)), .v (.int .i8 ((p % 8 : Nat) : Int))]⟩, ⟨1, 51, [.v (.bool true), .v (.int .i64 ((0 : Nat) : Int)), .v (.int .i64 ((n : Nat) : Int)), .v (.pointer (some ⟨c', 0, none⟩))]⟩, ⟨0, 27, [.v (.slice none 0 0)]⟩]) (G' := []) (k' := 3) hR hI (by kernel_rfl)
      .nil (fun e13 a13 w13 hag hR hI => ?_)
  replace hbn := (hag 1 (by decide)).1.trans hbn
  replace hcn := (hag 2 (by decide)).1.trans hcn
  refine ops_nil ?_
  refine then_n ?_
  refine reg_seq tab (k := 3) (hs := []) (sy := []) (ks := [24, 11, 12, 10]) (bs := [2, 1, 0]) (gs := [])
      (L' := [(24, .v (.bool true)), (11, .v (.func (.func 13) #[.pointer (some ⟨b, 0, none⟩)] #[])), (12, .p 1 0), (10, .p 0 0)])
      (H' := [⟨2, 43, [.v (.slice ad0 y0.length cap0), .v (.int .i64 ((n : Nat) : Int)), .v (.int .i8 ((p % 8 : Nat) : Int))]⟩, ⟨1, 51, [.v (.bool true), .v (.int .i64 ((0 : Nat) : Int)), .v (.int .i64 ((n : Nat) : Int)), .v (.pointer (some ⟨c', 0, none⟩))]⟩, ⟨0, 27, [.v (.slice none 0 0)]⟩]) (G' := []) (k' := 3) hR hI (by kernel_rfl)
      .nil (fun e14 a14 w14 hag hR hI => ?_)
  replace hbn := (hag 1 (by decide)).1.trans hbn
  replace hcn := (hag 2 (by decide)).1.trans hcn
  refine cnd_t hI (by kernel_rfl) ?_
  refine reg (is := [0, 1, 2]) (by kernel_rfl) ?_
  refine part_ tab [0] [1, 2] (by rfl) (k := 3) (hs := []) (sy := []) (ks := [25, 11, 10]) (bs := [2, 1, 0]) (gs := [])
      (L' := [(25, .p 1 0), (11, .v (.func (.func 13) #[.pointer (some ⟨b, 0, none⟩)] #[])), (10, .p 0 0)])
      (H' := [⟨2, 43, [.v (.slice ad0 y0.length cap0), .v (.int .i64 ((n : Nat) : Int)), .v (.int .i8 ((p % 8 : Nat) : Int))]⟩, ⟨1, 51, [.v (.bool true), .v (.int .i64 ((0 : Nat) : Int)), .v (.int .i64 ((n : Nat) : Int)), .v (.pointer (some ⟨c', 0, none⟩))]⟩, ⟨0, 27, [.v (.slice none 0 0)]⟩]) (G' := []) (k' := 3) hR hI (by kernel_rfl)
      .nil (fun e15 a15 w15 hag hR hI => ?_)
  replace hbn := (hag 1 (by decide)).1.trans hbn
  replace hcn := (hag 2 (by decide)).1.trans hcn
  refine rawOp (x := .v (.func (.func 14) #[.pointer (some ⟨b, 0, none⟩)] #[])) hI rfl rfl (by kernel_rfl) (fun ev hev => by simp [execOp, Instr.makeFunc, hev (.tmp 25) _ rfl, den, hbn]) (fun a16 hI => ?_)
  replace hI := hI.sel [26, 25, 11, 10] (by kernel_rfl : sel _ _ = some [(26, .v (.func (.func 14) #[.pointer (some ⟨b, 0, none⟩)] #[])), (25, .p 1 0), (11, .v (.func (.func 13) #[.pointer (some ⟨b, 0, none⟩)] #[])), (10, .p 0 0)])
  refine part_ tab [2] [] (by rfl) (k := 3) (hs := []) (sy := []) (ks := [11, 10]) (bs := [2, 1, 0]) (gs := [])
      (L' := [(11, .v (.func (.func 14) #[.pointer (some ⟨b, 0, none⟩)] #[])), (10, .p 0 0)])
      (H' := [⟨2, 43, [.v (.slice ad0 y0.length cap0), .v (.int .i64 ((n : Nat) : Int)), .v (.int .i8 ((p % 8 : Nat) : Int))]⟩, ⟨1, 51, [.v (.bool true), .v (.int .i64 ((0 : Nat) : Int)), .v (.int .i64 ((n : Nat) : Int)), .v (.pointer (some ⟨c', 0, none⟩))]⟩, ⟨0, 27, [.v (.slice none 0 0)]⟩]) (G' := []) (k' := 3) hR hI (by kernel_rfl)
      .nil (fun e17 a17 w17 hag hR hI => ?_)
  replace hbn := (hag 1 (by decide)).1.trans hbn
  replace hcn := (hag 2 (by decide)).1.trans hcn
  refine ops_nil ?_
  refine normal_block ?_
  refine then_n ?_
  refine wp_seq ?_
  refine wp_seq ?_
  refine reg (is := [0, 1, 2, 3]) (by kernel_rfl) ?_
  refine part_ tab [0] [1, 2, 3] (by rfl) (k := 3) (hs := []) (sy := []) (ks := [41, 11, 10]) (bs := [2, 1, 0]) (gs := [])
      (L' := [(41, .v (.func (.func 14) #[.pointer (some ⟨b, 0, none⟩)] #[])), (11, .v (.func (.func 14) #[.pointer (some ⟨b, 0, none⟩)] #[])), (10, .p 0 0)])
      (H' := [⟨2, 43, [.v (.slice ad0 y0.length cap0), .v (.int .i64 ((n : Nat) : Int)), .v (.int .i8 ((p % 8 : Nat) : Int))]⟩, ⟨1, 51, [.v (.bool true), .v (.int .i64 ((0 : Nat) : Int)), .v (.int .i64 ((n : Nat) : Int)), .v (.pointer (some ⟨c', 0, none⟩))]⟩, ⟨0, 27, [.v (.slice none 0 0)]⟩]) (G' := []) (k' := 3) hR hI (by kernel_rfl)
      .nil (fun e18 a18 w18 hag hR hI => ?_)
  replace hbn := (hag 1 (by decide)).1.trans hbn
  replace hcn := (hag 2 (by decide)).1.trans hcn
  refine callB0 hI rfl rfl ⟨_, rfl, rfl, rfl⟩ (by kernel_rfl : arg _ _ = some (.v (.func (.func 14) #[.pointer (some ⟨b, 0, none⟩)] #[]))) Tryd.func14 rfl rfl ?_
  have hblk_ := hR.blk ⟨1, 51, [.v (.bool true), .v (.int .i64 ((0 : Nat) : Int)), .v (.int .i64 ((n : Nat) : Int)), .v (.pointer (some ⟨c', 0, none⟩))]⟩ (by simp); have hblk2_ := hR.blk ⟨2, 43, [.v (.slice ad0 y0.length cap0), .v (.int .i64 ((n : Nat) : Int)), .v (.int .i8 ((p % 8 : Nat) : Int))]⟩ (by simp); have hne_ := hR.hh ⟨1, 51, [.v (.bool true), .v (.int .i64 ((0 : Nat) : Int)), .v (.int .i64 ((n : Nat) : Int)), .v (.pointer (some ⟨c', 0, none⟩))]⟩ (by simp) ⟨2, 43, [.v (.slice ad0 y0.length cap0), .v (.int .i64 ((n : Nat) : Int)), .v (.int .i8 ((p % 8 : Nat) : Int))]⟩ (by simp) (Nat.ne_of_beq_eq_false rfl)
  refine (optBlockS_spec (hg.now hB hR) (by have h9 := hblk_.1; dsimp only at h9; rw [hbn] at h9; exact h9) (by have h9 := hblk2_.1; dsimp only at h9; rw [hcn] at h9; exact h9) (by have h9 := hne_; dsimp only at h9; rw [hbn, hcn] at h9; exact h9) (by have h9 := hblk_.2; dsimp only at h9; rw [hbn] at h9; exact fun h => h9 h.2) (by have h9 := hblk2_.2; dsimp only at h9; rw [hcn] at h9; exact fun h => h9 h.2) (hy0.now hB hR) ho8 (by omega) (by omega) (by omega)).mono ?_
  rintro ex w19 ⟨r, c, rfl, hk, hnew, hnew2, hstr⟩
  rw [← hbn, ← hcn] at hk; rw [← hbn] at hnew; rw [← hcn] at hnew2
  have hkF_ := hR.keepB2 (b := ⟨1, 51, [.v (.bool true), .v (.int .i64 ((0 : Nat) : Int)), .v (.int .i64 ((n : Nat) : Int)), .v (.pointer (some ⟨c', 0, none⟩))]⟩) (c := ⟨2, 43, [.v (.slice ad0 y0.length cap0), .v (.int .i64 ((n : Nat) : Int)), .v (.int .i8 ((p % 8 : Nat) : Int))]⟩) (by simp) (by simp) hk
  replace hg := hg.nextF hB hR hkF_
  replace hy0 := hy0.nextF hB hR hkF_
  have hB_ := hB.nextF hR hkF_
  replace hR := hR.turned2 (b := ⟨1, 51, [.v (.bool true), .v (.int .i64 ((0 : Nat) : Int)), .v (.int .i64 ((n : Nat) : Int)), .v (.pointer (some ⟨c', 0, none⟩))]⟩) (c := ⟨2, 43, [.v (.slice ad0 y0.length cap0), .v (.int .i64 ((n : Nat) : Int)), .v (.int .i8 ((p % 8 : Nat) : Int))]⟩) (by simp) (by simp) (Nat.ne_of_beq_eq_false rfl) [.v (.bool true), .v (.int .i64 ((0 + r : Nat) : Int)), .v (.int .i64 ((n : Nat) : Int)), .v (.pointer (some ⟨c', 0, none⟩))] [.v (.slice (cutA ad0 cap0 (r / 8) 1) (y0.length - r / 8) (cap0 - r / 8)), .v (.int .i64 ((n - r : Nat) : Int)), .v (.int .i8 ((p % 8 : Nat) : Int))] [⟨0, 27, [.v (.slice none 0 0)]⟩] (by simp) hk hnew hnew2
  dsimp only at hR; replace hB := hB_; clear hB_ hk hkF_ hblk_ hblk2_ hne_
  have hq1_r := hstr.1; have hq2_r := hstr.2.1; have hq3_r := hstr.2.2.1; have hq4_r := hstr.2.2.2; have hq5_r := cnt_le (fun i => bitN y0 (p % 8 + i)) r
  refine ⟨_, rfl, ?_⟩
  replace hI := hI.put (d := some 42) (x := .v (.agg #[.int .i16 ((r : Nat) : Int), .int .i16 ((c : Nat) : Int)])) (by intro t ht; cases ht; decide) rfl
  replace hI := hI.sel [42, 41, 11, 10] (by kernel_rfl : sel _ _ = some [(42, .v (.agg #[.int .i16 ((r : Nat) : Int), .int .i16 ((c : Nat) : Int)])), (41, .v (.func (.func 14) #[.pointer (some ⟨b, 0, none⟩)] #[])), (11, .v (.func (.func 14) #[.pointer (some ⟨b, 0, none⟩)] #[])), (10, .p 0 0)])
  refine part_ tab [2, 3] [] (by rfl) (k := 3) (hs := []) (sy := []) (ks := [13, 11, 10]) (bs := [3, 1, 2, 0]) (gs := [])
      (L' := [(13, .p 3 0), (11, .v (.func (.func 14) #[.pointer (some ⟨b, 0, none⟩)] #[])), (10, .p 0 0)])
      (H' := [⟨3, 40, [.v (.int .i16 ((r : Nat) : Int)), .v (.int .i16 ((c : Nat) : Int))]⟩, ⟨1, 51, [.v (.bool true), .v (.int .i64 ((0 + r : Nat) : Int)), .v (.int .i64 ((n : Nat) : Int)), .v (.pointer (some ⟨c', 0, none⟩))]⟩, ⟨2, 43, [.v (.slice (cutA ad0 cap0 (r / 8) 1) (y0.length - r / 8) (cap0 - r / 8)), .v (.int .i64 ((n - r : Nat) : Int)), .v (.int .i8 ((p % 8 : Nat) : Int))]⟩, ⟨0, 27, [.v (.slice none 0 0)]⟩]) (G' := []) (k' := 4) hR hI (by kernel_rfl)
      .nil (fun e20 a20 w20 hag hR hI => ?_)
  replace hbn := (hag 1 (by decide)).1.trans hbn
  replace hcn := (hag 2 (by decide)).1.trans hcn
  refine ops_nil ?_
  refine then_n ?_
  refine wp_block ?_
  obtain ⟨e21, hag_, hr_, hR_⟩ := hR.nilRow (L := [(13, .p 3 0), (11, .v (.func (.func 14) #[.pointer (some ⟨b, 0, none⟩)] #[])), (10, .p 0 0)]) 4 (by kernel_rfl) 30 2
  replace hbn := (hag_ 1 (by decide)).1.trans hbn
  replace hcn := (hag_ 2 (by decide)).1.trans hcn
  replace hI := hI.agreeB (H := [⟨3, 40, [.v (.int .i16 ((r : Nat) : Int)), .v (.int .i16 ((c : Nat) : Int))]⟩, ⟨1, 51, [.v (.bool true), .v (.int .i64 ((0 + r : Nat) : Int)), .v (.int .i64 ((n : Nat) : Int)), .v (.pointer (some ⟨c', 0, none⟩))]⟩, ⟨2, 43, [.v (.slice (cutA ad0 cap0 (r / 8) 1) (y0.length - r / 8) (cap0 - r / 8)), .v (.int .i64 ((n - r : Nat) : Int)), .v (.int .i8 ((p % 8 : Nat) : Int))]⟩, ⟨0, 27, [.v (.slice none 0 0)]⟩]) (G := []) (by kernel_rfl) hag_; replace hR := hR_; clear hag_ hR_
  replace hR := hR.reblk (b := ⟨0, 27, [.v (.slice none 0 0)]⟩) (by simp) [.row 4] [⟨3, 40, [.v (.int .i16 ((r : Nat) : Int)), .v (.int .i16 ((c : Nat) : Int))]⟩, ⟨1, 51, [.v (.bool true), .v (.int .i64 ((0 + r : Nat) : Int)), .v (.int .i64 ((n : Nat) : Int)), .v (.pointer (some ⟨c', 0, none⟩))]⟩, ⟨2, 43, [.v (.slice (cutA ad0 cap0 (r / 8) 1) (y0.length - r / 8) (cap0 - r / 8)), .v (.int .i64 ((n - r : Nat) : Int)), .v (.int .i8 ((p % 8 : Nat) : Int))]⟩] (by simp) (by simp only [dens, den, hr_])
  dsimp only at hR
  clear hr_
  replace hR := hR.reblk (b := ⟨2, 43, [.v (.slice (cutA ad0 cap0 (r / 8) 1) (y0.length - r / 8) (cap0 - r / 8)), .v (.int .i64 ((n - r : Nat) : Int)), .v (.int .i8 ((p % 8 : Nat) : Int))]⟩) (by simp) [.v (.slice (cutA ad0 cap0 (r / 8) 1) ((y0.drop (r / 8)).length) (cap0 - r / 8)), .v (.int .i64 ((n - r : Nat) : Int)), .v (.int .i8 ((p % 8 : Nat) : Int))] [⟨0, 27, [.row 4]⟩, ⟨3, 40, [.v (.int .i16 ((r : Nat) : Int)), .v (.int .i16 ((c : Nat) : Int))]⟩, ⟨1, 51, [.v (.bool true), .v (.int .i64 ((0 + r : Nat) : Int)), .v (.int .i64 ((n : Nat) : Int)), .v (.pointer (some ⟨c', 0, none⟩))]⟩] (by simp) (by simp only [dens, den, List.length_drop])
  dsimp only at hR
  refine lpM (γ := Nat × Nat × Nat × Nat × Nat × Nat × Option Addr × List Nat × Nat × List Nat) (fun (r, c, m, at', rem, cap, ad, ys, pos, fl) => (⟨[(10, .p 0 0), (11, .v (.func (.func 14) #[.pointer (some ⟨b, 0, none⟩)] #[])), (13, .p 3 0)], [⟨0, 27, [.row 4]⟩, ⟨1, 51, [.v (.bool true), .v (.int .i64 ((pos : Nat) : Int)), .v (.int .i64 ((n : Nat) : Int)), .v (.pointer (some ⟨c', 0, none⟩))]⟩, ⟨2, 43, [.v (.slice ad ys.length cap), .v (.int .i64 ((rem : Nat) : Int)), .v (.int .i8 ((p % 8 : Nat) : Int))]⟩, ⟨3, 40, [.v (.int .i16 ((r : Nat) : Int)), .v (.int .i16 ((c : Nat) : Int))]⟩], [⟨4, 30, 2, m, (ints .i64 fl)⟩], 5⟩ : Sy)) (fun (r, c, m, at', rem, cap, ad, ys, pos, fl) e C F wb => e.b 1 = b ∧ e.b 2 = c' ∧ Sl .u8 256 C wb (some (⟨1, 0, none⟩ : Addr)) 8 bitMask ∧ Sl .u8 256 C wb ad cap ys ∧ p % 8 + rem ≤ 8 * ys.length ∧ ys.length ≤ 4096 ∧ at' + r + rem = n ∧ r ≤ 64 ∧ (r = 0 → rem = 0) ∧ c = cnt (fun i => f (at' + i)) r ∧ (∀ i, i < rem → bitN ys (p % 8 + i) = f (at' + r + i)) ∧ pos + rem ≤ 40000 ∧ fl.length = 2 * m ∧ m ≤ at' ∧ Blks f 64 0 fl at' ∧ ∀ d ∈ fl, d < 65536) (fun (r, c, m, at', rem, cap, ad, ys, pos, fl) => n - at') (r, c, 0, 0, n - r, cap0 - r / 8, cutA ad0 cap0 (r / 8) 1, y0.drop (r / 8), 0 + r, []) hB (⟨hbn, hcn, hg, (by have := hy0.cut (j := r / 8) (m := y0.length) (by omega) (Nat.le_refl _); rwa [cut_all] at this), by rw [List.length_drop]; omega, by rw [List.length_drop]; omega, by omega, by omega, fun h => by omega, by rw [hq4_r]; exact cnt_congr fun i hi => by rw [hyb0 i (by omega), Nat.zero_add], fun i hi => by rw [bitN_drop, show 8 * (r / 8) + (p % 8 + i) = p % 8 + (r + i) by omega, hyb0 _ (by omega)]; congr 1; omega, by omega, rfl, Nat.le_refl _, rfl, fun d h => (by cases h)⟩)
      (hR.sel [0, 1, 2, 3] [4] (by kernel_rfl) (by kernel_rfl)) (hI.sel [10, 11, 13] (by kernel_rfl)) ?_
  clear hR hI hB
  rintro ⟨r, c, m, at', rem, cap, ad, ys, pos, fl⟩ e22 C22 F22 wb22 a22 w22 hB hp hR hI
  dsimp only at hp hR hI
  obtain ⟨hbn, hcn, hg, hy, hle, hys, hat, hrM, hr0, hcc, hyb, hpr, hfl, hmat, hbl, hfd⟩ := hp
  have hry := hy.room; have hmy := hy.max; have hcr := cnt_le (fun i => f (at' + i)) r
  refine wp_seq ?_
  refine reg_seq tab (k := 5) (hs := []) (sy := []) (ks := [45, 10, 11, 13]) (bs := [0, 1, 2, 3]) (gs := [4])
      (L' := [(45, .v (.bool (((r : Nat) : Int) != (0 : Int)))), (10, .p 0 0), (11, .v (.func (.func 14) #[.pointer (some ⟨b, 0, none⟩)] #[])), (13, .p 3 0)])
      (H' := [⟨0, 27, [.row 4]⟩, ⟨1, 51, [.v (.bool true), .v (.int .i64 ((pos : Nat) : Int)), .v (.int .i64 ((n : Nat) : Int)), .v (.pointer (some ⟨c', 0, none⟩))]⟩, ⟨2, 43, [.v (.slice ad ys.length cap), .v (.int .i64 ((rem : Nat) : Int)), .v (.int .i8 ((p % 8 : Nat) : Int))]⟩, ⟨3, 40, [.v (.int .i16 ((r : Nat) : Int)), .v (.int .i16 ((c : Nat) : Int))]⟩]) (G' := [⟨4, 30, 2, m, (ints .i64 fl)⟩]) (k' := 5) hR hI (by kernel_rfl)
      .nil (fun e23 a23 w23 hag hR hI => ?_)
  replace hbn := (hag 1 (by decide)).1.trans hbn
  replace hcn := (hag 2 (by decide)).1.trans hcn
  refine cnd (b := (((r : Nat) : Int) != (0 : Int))) hI (by kernel_rfl) (fun hc24 => ?_) (fun hc24 => ?_)
  · skip
    replace hI := hI.re 45 (.v (.bool true)) rfl (congrArg Value.bool hc24)
    try simp only [decide_eq_true_eq, decide_eq_false_iff_not, beq_iff_eq, bne_iff_ne, beq_eq_false_iff_ne, bne_eq_false_iff_eq, Bool.and_eq_true, Bool.and_eq_false_iff, Bool.or_eq_true, Bool.or_eq_false_iff, Bool.not_eq_true', Bool.not_eq_false', ne_eq] at hc24
    have hrp : 0 < r := by omega
    refine wp_skip ?_
    refine then_n ?_
    refine wp_seq ?_
    refine wp_block ?_
    refine reg_all tab (k := 5) (hs := [(3, .nw), (6, .nw)]) (sy := []) (ks := [10, 11, 13]) (bs := [0, 1, 2, 3]) (gs := [6])
        (L' := [(10, .p 0 0), (11, .v (.func (.func 14) #[.pointer (some ⟨b, 0, none⟩)] #[])), (13, .p 3 0)])
        (H' := [⟨0, 27, [.row 6]⟩, ⟨1, 51, [.v (.bool true), .v (.int .i64 ((pos : Nat) : Int)), .v (.int .i64 ((n : Nat) : Int)), .v (.pointer (some ⟨c', 0, none⟩))]⟩, ⟨2, 43, [.v (.slice ad ys.length cap), .v (.int .i64 ((rem : Nat) : Int)), .v (.int .i8 ((p % 8 : Nat) : Int))]⟩, ⟨3, 40, [.v (.int .i16 ((r : Nat) : Int)), .v (.int .i16 ((c : Nat) : Int))]⟩]) (G' := [⟨6, 30, 2, (m + 1), ((ints .i64 fl) ++ [.int .i64 ((r : Nat) : Int), .int .i64 ((c : Nat) : Int)])⟩]) (k' := 7) hR hI (by kernel_rfl)
        (.cons (inR_i64 (n := ((r : Nat) : Int)) (by omega)) (.cons (inR_i64 (n := ((c : Nat) : Int)) (by omega)) (.cons (by have hm_ : maxLen = 9223372036854775807 := rfl; rw [hm_]; omega : m + 1 ≤ maxLen) (.cons (by omega : (m + 1) * 16 ≤ 140737488355328) .nil)))) (fun e25 a25 w25 hag hR hI => ?_)
    replace hbn := (hag 1 (by decide)).1.trans hbn
    replace hcn := (hag 2 (by decide)).1.trans hcn
    refine normal_block ?_
    refine then_n ?_
    refine wp_seq ?_
    refine reg_seq tab (k := 7) (hs := []) (sy := []) (ks := [58, 10, 11]) (bs := [0, 1, 2]) (gs := [6])
        (L' := [(58, .agg [.v (.int .i16 ((r : Nat) : Int)), .v (.int .i16 ((c : Nat) : Int))]), (10, .p 0 0), (11, .v (.func (.func 14) #[.pointer (some ⟨b, 0, none⟩)] #[]))])
        (H' := [⟨0, 27, [.row 6]⟩, ⟨1, 51, [.v (.bool true), .v (.int .i64 ((pos : Nat) : Int)), .v (.int .i64 ((n : Nat) : Int)), .v (.pointer (some ⟨c', 0, none⟩))]⟩, ⟨2, 43, [.v (.slice ad ys.length cap), .v (.int .i64 ((rem : Nat) : Int)), .v (.int .i8 ((p % 8 : Nat) : Int))]⟩]) (G' := [⟨6, 30, 2, (m + 1), ((ints .i64 fl) ++ [.int .i64 ((r : Nat) : Int), .int .i64 ((c : Nat) : Int)])⟩]) (k' := 7) hR hI (by kernel_rfl)
        .nil (fun e26 a26 w26 hag hR hI => ?_)
    replace hbn := (hag 1 (by decide)).1.trans hbn
    replace hcn := (hag 2 (by decide)).1.trans hcn
    refine reg_all tab (k := 7) (hs := []) (sy := []) (ks := [13, 10, 11]) (bs := [7, 0, 1, 2]) (gs := [6])
        (L' := [(13, .p 7 0), (10, .p 0 0), (11, .v (.func (.func 14) #[.pointer (some ⟨b, 0, none⟩)] #[]))])
        (H' := [⟨7, 40, [.v (.int .i16 ((r : Nat) : Int)), .v (.int .i16 ((c : Nat) : Int))]⟩, ⟨0, 27, [.row 6]⟩, ⟨1, 51, [.v (.bool true), .v (.int .i64 ((pos : Nat) : Int)), .v (.int .i64 ((n : Nat) : Int)), .v (.pointer (some ⟨c', 0, none⟩))]⟩, ⟨2, 43, [.v (.slice ad ys.length cap), .v (.int .i64 ((rem : Nat) : Int)), .v (.int .i8 ((p % 8 : Nat) : Int))]⟩]) (G' := [⟨6, 30, 2, (m + 1), ((ints .i64 fl) ++ [.int .i64 ((r : Nat) : Int), .int .i64 ((c : Nat) : Int)])⟩]) (k' := 8) hR hI (by kernel_rfl)
        .nil (fun e27 a27 w27 hag hR hI => ?_)
    replace hbn := (hag 1 (by decide)).1.trans hbn
    replace hcn := (hag 2 (by decide)).1.trans hcn
    refine then_n ?_
    refine reg (is := [0, 1, 2]) (by kernel_rfl) ?_
    refine part_ tab [0] [1, 2] (by rfl) (k := 8) (hs := []) (sy := []) (ks := [46, 13, 10, 11]) (bs := [7, 0, 1, 2]) (gs := [6])
        (L' := [(46, .v (.func (.func 14) #[.pointer (some ⟨b, 0, none⟩)] #[])), (13, .p 7 0), (10, .p 0 0), (11, .v (.func (.func 14) #[.pointer (some ⟨b, 0, none⟩)] #[]))])
        (H' := [⟨7, 40, [.v (.int .i16 ((r : Nat) : Int)), .v (.int .i16 ((c : Nat) : Int))]⟩, ⟨0, 27, [.row 6]⟩, ⟨1, 51, [.v (.bool true), .v (.int .i64 ((pos : Nat) : Int)), .v (.int .i64 ((n : Nat) : Int)), .v (.pointer (some ⟨c', 0, none⟩))]⟩, ⟨2, 43, [.v (.slice ad ys.length cap), .v (.int .i64 ((rem : Nat) : Int)), .v (.int .i8 ((p % 8 : Nat) : Int))]⟩]) (G' := [⟨6, 30, 2, (m + 1), ((ints .i64 fl) ++ [.int .i64 ((r : Nat) : Int), .int .i64 ((c : Nat) : Int)])⟩]) (k' := 8) hR hI (by kernel_rfl)
        .nil (fun e28 a28 w28 hag hR hI => ?_)
    replace hbn := (hag 1 (by decide)).1.trans hbn
    replace hcn := (hag 2 (by decide)).1.trans hcn
    refine callB0 hI rfl rfl ⟨_, rfl, rfl, rfl⟩ (by kernel_rfl : arg _ _ = some (.v (.func (.func 14) #[.pointer (some ⟨b, 0, none⟩)] #[]))) Tryd.func14 rfl rfl ?_
    have hblk_ := hR.blk ⟨1, 51, [.v (.bool true), .v (.int .i64 ((pos : Nat) : Int)), .v (.int .i64 ((n : Nat) : Int)), .v (.pointer (some ⟨c', 0, none⟩))]⟩ (by simp); have hblk2_ := hR.blk ⟨2, 43, [.v (.slice ad ys.length cap), .v (.int .i64 ((rem : Nat) : Int)), .v (.int .i8 ((p % 8 : Nat) : Int))]⟩ (by simp); have hne_ := hR.hh ⟨1, 51, [.v (.bool true), .v (.int .i64 ((pos : Nat) : Int)), .v (.int .i64 ((n : Nat) : Int)), .v (.pointer (some ⟨c', 0, none⟩))]⟩ (by simp) ⟨2, 43, [.v (.slice ad ys.length cap), .v (.int .i64 ((rem : Nat) : Int)), .v (.int .i8 ((p % 8 : Nat) : Int))]⟩ (by simp) (Nat.ne_of_beq_eq_false rfl)
    refine (optBlockS_spec (hg.now hB hR) (by have h9 := hblk_.1; dsimp only at h9; rw [hbn] at h9; exact h9) (by have h9 := hblk2_.1; dsimp only at h9; rw [hcn] at h9; exact h9) (by have h9 := hne_; dsimp only at h9; rw [hbn, hcn] at h9; exact h9) (by have h9 := hblk_.2; dsimp only at h9; rw [hbn] at h9; exact fun h => h9 h.2) (by have h9 := hblk2_.2; dsimp only at h9; rw [hcn] at h9; exact fun h => h9 h.2) (hy.now hB hR) ho8 (by omega) (by omega) (by omega)).mono ?_
    rintro ex w29 ⟨r2, c2, rfl, hk, hnew, hnew2, hstr2⟩
    rw [← hbn, ← hcn] at hk; rw [← hbn] at hnew; rw [← hcn] at hnew2
    have hkF_ := hR.keepB2 (b := ⟨1, 51, [.v (.bool true), .v (.int .i64 ((pos : Nat) : Int)), .v (.int .i64 ((n : Nat) : Int)), .v (.pointer (some ⟨c', 0, none⟩))]⟩) (c := ⟨2, 43, [.v (.slice ad ys.length cap), .v (.int .i64 ((rem : Nat) : Int)), .v (.int .i8 ((p % 8 : Nat) : Int))]⟩) (by simp) (by simp) hk
    replace hg := hg.nextF hB hR hkF_
    replace hy := hy.nextF hB hR hkF_
    have hB_ := hB.nextF hR hkF_
    replace hR := hR.turned2 (b := ⟨1, 51, [.v (.bool true), .v (.int .i64 ((pos : Nat) : Int)), .v (.int .i64 ((n : Nat) : Int)), .v (.pointer (some ⟨c', 0, none⟩))]⟩) (c := ⟨2, 43, [.v (.slice ad ys.length cap), .v (.int .i64 ((rem : Nat) : Int)), .v (.int .i8 ((p % 8 : Nat) : Int))]⟩) (by simp) (by simp) (Nat.ne_of_beq_eq_false rfl) [.v (.bool true), .v (.int .i64 ((pos + r2 : Nat) : Int)), .v (.int .i64 ((n : Nat) : Int)), .v (.pointer (some ⟨c', 0, none⟩))] [.v (.slice (cutA ad cap (r2 / 8) 1) (ys.length - r2 / 8) (cap - r2 / 8)), .v (.int .i64 ((rem - r2 : Nat) : Int)), .v (.int .i8 ((p % 8 : Nat) : Int))] [⟨7, 40, [.v (.int .i16 ((r : Nat) : Int)), .v (.int .i16 ((c : Nat) : Int))]⟩, ⟨0, 27, [.row 6]⟩] (by simp) hk hnew hnew2
    dsimp only at hR; replace hB := hB_; clear hB_ hk hkF_ hblk_ hblk2_ hne_
    have hq1_r2 := hstr2.1; have hq2_r2 := hstr2.2.1; have hq3_r2 := hstr2.2.2.1; have hq4_r2 := hstr2.2.2.2; have hq5_r2 := cnt_le (fun i => bitN ys (p % 8 + i)) r2
    refine ⟨_, rfl, ?_⟩
    replace hI := hI.put (d := some 47) (x := .v (.agg #[.int .i16 ((r2 : Nat) : Int), .int .i16 ((c2 : Nat) : Int)])) (by intro t ht; cases ht; decide) rfl
    replace hI := hI.sel [47, 46, 13, 10, 11] (by kernel_rfl : sel _ _ = some [(47, .v (.agg #[.int .i16 ((r2 : Nat) : Int), .int .i16 ((c2 : Nat) : Int)])), (46, .v (.func (.func 14) #[.pointer (some ⟨b, 0, none⟩)] #[])), (13, .p 7 0), (10, .p 0 0), (11, .v (.func (.func 14) #[.pointer (some ⟨b, 0, none⟩)] #[]))])
    refine part_ tab [2] [] (by rfl) (k := 8) (hs := []) (sy := []) (ks := [13, 10, 11]) (bs := [7, 1, 2, 0]) (gs := [6])
        (L' := [(13, .p 7 0), (10, .p 0 0), (11, .v (.func (.func 14) #[.pointer (some ⟨b, 0, none⟩)] #[]))])
        (H' := [⟨7, 40, [.v (.int .i16 ((r2 : Nat) : Int)), .v (.int .i16 ((c2 : Nat) : Int))]⟩, ⟨1, 51, [.v (.bool true), .v (.int .i64 ((pos + r2 : Nat) : Int)), .v (.int .i64 ((n : Nat) : Int)), .v (.pointer (some ⟨c', 0, none⟩))]⟩, ⟨2, 43, [.v (.slice (cutA ad cap (r2 / 8) 1) (ys.length - r2 / 8) (cap - r2 / 8)), .v (.int .i64 ((rem - r2 : Nat) : Int)), .v (.int .i8 ((p % 8 : Nat) : Int))]⟩, ⟨0, 27, [.row 6]⟩]) (G' := [⟨6, 30, 2, (m + 1), ((ints .i64 fl) ++ [.int .i64 ((r : Nat) : Int), .int .i64 ((c : Nat) : Int)])⟩]) (k' := 8) hR hI (by kernel_rfl)
        .nil (fun e30 a30 w30 hag hR hI => ?_)
    replace hbn := (hag 1 (by decide)).1.trans hbn
    replace hcn := (hag 2 (by decide)).1.trans hcn
    refine ops_nil ?_
    refine then_n ?_
    replace hR := hR.reblk (b := ⟨2, 43, [.v (.slice (cutA ad cap (r2 / 8) 1) (ys.length - r2 / 8) (cap - r2 / 8)), .v (.int .i64 ((rem - r2 : Nat) : Int)), .v (.int .i8 ((p % 8 : Nat) : Int))]⟩) (by simp) [.v (.slice (cutA ad cap (r2 / 8) 1) ((ys.drop (r2 / 8)).length) (cap - r2 / 8)), .v (.int .i64 ((rem - r2 : Nat) : Int)), .v (.int .i8 ((p % 8 : Nat) : Int))] [⟨7, 40, [.v (.int .i16 ((r2 : Nat) : Int)), .v (.int .i16 ((c2 : Nat) : Int))]⟩, ⟨1, 51, [.v (.bool true), .v (.int .i64 ((pos + r2 : Nat) : Int)), .v (.int .i64 ((n : Nat) : Int)), .v (.pointer (some ⟨c', 0, none⟩))]⟩, ⟨0, 27, [.row 6]⟩] (by simp) (by simp only [dens, den, List.length_drop])
    dsimp only at hR
    rw [ints_two] at hR
    have hren_ : Sy.ren [(4, 6), (3, 7)] ⟨[(13, .p 3 0), (10, .p 0 0), (11, .v (.func (.func 14) #[.pointer (some ⟨b, 0, none⟩)] #[]))], [⟨2, 43, [.v (.slice (cutA ad cap (r2 / 8) 1) ((ys.drop (r2 / 8)).length) (cap - r2 / 8)), .v (.int .i64 ((rem - r2 : Nat) : Int)), .v (.int .i8 ((p % 8 : Nat) : Int))]⟩, ⟨3, 40, [.v (.int .i16 ((r2 : Nat) : Int)), .v (.int .i16 ((c2 : Nat) : Int))]⟩, ⟨1, 51, [.v (.bool true), .v (.int .i64 ((pos + r2 : Nat) : Int)), .v (.int .i64 ((n : Nat) : Int)), .v (.pointer (some ⟨c', 0, none⟩))]⟩, ⟨0, 27, [.row 4]⟩], [⟨4, 30, 2, (m + 1), (ints .i64 (fl ++ [r, c]))⟩], 0⟩ = ⟨[(13, .p 7 0), (10, .p 0 0), (11, .v (.func (.func 14) #[.pointer (some ⟨b, 0, none⟩)] #[]))], [⟨2, 43, [.v (.slice (cutA ad cap (r2 / 8) 1) ((ys.drop (r2 / 8)).length) (cap - r2 / 8)), .v (.int .i64 ((rem - r2 : Nat) : Int)), .v (.int .i8 ((p % 8 : Nat) : Int))]⟩, ⟨7, 40, [.v (.int .i16 ((r2 : Nat) : Int)), .v (.int .i16 ((c2 : Nat) : Int))]⟩, ⟨1, 51, [.v (.bool true), .v (.int .i64 ((pos + r2 : Nat) : Int)), .v (.int .i64 ((n : Nat) : Int)), .v (.pointer (some ⟨c', 0, none⟩))]⟩, ⟨0, 27, [.row 6]⟩], [⟨6, 30, 2, (m + 1), (ints .i64 (fl ++ [r, c]))⟩], 0⟩ := by kernel_rfl
    replace hI := hI.rename (S := ⟨[(13, .p 7 0), (10, .p 0 0), (11, .v (.func (.func 14) #[.pointer (some ⟨b, 0, none⟩)] #[]))], [⟨2, 43, [.v (.slice (cutA ad cap (r2 / 8) 1) ((ys.drop (r2 / 8)).length) (cap - r2 / 8)), .v (.int .i64 ((rem - r2 : Nat) : Int)), .v (.int .i8 ((p % 8 : Nat) : Int))]⟩, ⟨7, 40, [.v (.int .i16 ((r2 : Nat) : Int)), .v (.int .i16 ((c2 : Nat) : Int))]⟩, ⟨1, 51, [.v (.bool true), .v (.int .i64 ((pos + r2 : Nat) : Int)), .v (.int .i64 ((n : Nat) : Int)), .v (.pointer (some ⟨c', 0, none⟩))]⟩, ⟨0, 27, [.row 6]⟩], [⟨6, 30, 2, (m + 1), (ints .i64 (fl ++ [r, c]))⟩], 0⟩) (S' := ⟨[(13, .p 3 0), (10, .p 0 0), (11, .v (.func (.func 14) #[.pointer (some ⟨b, 0, none⟩)] #[]))], [⟨2, 43, [.v (.slice (cutA ad cap (r2 / 8) 1) ((ys.drop (r2 / 8)).length) (cap - r2 / 8)), .v (.int .i64 ((rem - r2 : Nat) : Int)), .v (.int .i8 ((p % 8 : Nat) : Int))]⟩, ⟨3, 40, [.v (.int .i16 ((r2 : Nat) : Int)), .v (.int .i16 ((c2 : Nat) : Int))]⟩, ⟨1, 51, [.v (.bool true), .v (.int .i64 ((pos + r2 : Nat) : Int)), .v (.int .i64 ((n : Nat) : Int)), .v (.pointer (some ⟨c', 0, none⟩))]⟩, ⟨0, 27, [.row 4]⟩], [⟨4, 30, 2, (m + 1), (ints .i64 (fl ++ [r, c]))⟩], 0⟩) hren_; replace hR := hR.rename (S := ⟨[(13, .p 7 0), (10, .p 0 0), (11, .v (.func (.func 14) #[.pointer (some ⟨b, 0, none⟩)] #[]))], [⟨2, 43, [.v (.slice (cutA ad cap (r2 / 8) 1) ((ys.drop (r2 / 8)).length) (cap - r2 / 8)), .v (.int .i64 ((rem - r2 : Nat) : Int)), .v (.int .i8 ((p % 8 : Nat) : Int))]⟩, ⟨7, 40, [.v (.int .i16 ((r2 : Nat) : Int)), .v (.int .i16 ((c2 : Nat) : Int))]⟩, ⟨1, 51, [.v (.bool true), .v (.int .i64 ((pos + r2 : Nat) : Int)), .v (.int .i64 ((n : Nat) : Int)), .v (.pointer (some ⟨c', 0, none⟩))]⟩, ⟨0, 27, [.row 6]⟩], [⟨6, 30, 2, (m + 1), (ints .i64 (fl ++ [r, c]))⟩], 0⟩) (S' := ⟨[(13, .p 3 0), (10, .p 0 0), (11, .v (.func (.func 14) #[.pointer (some ⟨b, 0, none⟩)] #[]))], [⟨2, 43, [.v (.slice (cutA ad cap (r2 / 8) 1) ((ys.drop (r2 / 8)).length) (cap - r2 / 8)), .v (.int .i64 ((rem - r2 : Nat) : Int)), .v (.int .i8 ((p % 8 : Nat) : Int))]⟩, ⟨3, 40, [.v (.int .i16 ((r2 : Nat) : Int)), .v (.int .i16 ((c2 : Nat) : Int))]⟩, ⟨1, 51, [.v (.bool true), .v (.int .i64 ((pos + r2 : Nat) : Int)), .v (.int .i64 ((n : Nat) : Int)), .v (.pointer (some ⟨c', 0, none⟩))]⟩, ⟨0, 27, [.row 4]⟩], [⟨4, 30, 2, (m + 1), (ints .i64 (fl ++ [r, c]))⟩], 0⟩) hren_ (by kernel_rfl) (by kernel_rfl); dsimp only at hI hR; clear hren_
    replace hbn : (Env.ren e30 [(4, 6), (3, 7)]).b 1 = _ := hbn
    replace hcn : (Env.ren e30 [(4, 6), (3, 7)]).b 2 = _ := hcn
    exact ⟨(r2, c2, m + 1, at' + r, rem - r2, cap - r2 / 8, cutA ad cap (r2 / 8) 1, ys.drop (r2 / 8), pos + r2, fl ++ [r, c]), _, _, _, _, hB, ⟨hbn, hcn, hg, (by have := hy.cut (j := r2 / 8) (m := ys.length) (by omega) (Nat.le_refl _); rwa [cut_all] at this), by rw [List.length_drop]; omega, by rw [List.length_drop]; omega, by omega, by omega, fun h => by omega, by rw [hq4_r2]; exact cnt_congr fun i hi => hyb i (by omega), fun i hi => by rw [bitN_drop, show 8 * (r2 / 8) + (p % 8 + i) = p % 8 + (r2 + i) by omega, hyb _ (by omega)]; congr 1; omega, by omega, fls hfl, by omega, hbl.snoc (by omega) hrM hcc, pair_dig hfd (by omega) (by omega)⟩, (by (try dsimp only); omega), hR.sel [0, 1, 2, 3] [4] (by kernel_rfl) (by kernel_rfl), hI.sel [10, 11, 13] (by kernel_rfl)⟩
  · skip
    replace hI := hI.re 45 (.v (.bool false)) rfl (congrArg Value.bool hc24)
    try simp only [decide_eq_true_eq, decide_eq_false_iff_not, beq_iff_eq, bne_iff_ne, beq_eq_false_iff_ne, bne_eq_false_iff_eq, Bool.and_eq_true, Bool.and_eq_false_iff, Bool.or_eq_true, Bool.or_eq_false_iff, Bool.not_eq_true', Bool.not_eq_false', ne_eq] at hc24
    have hrz : r = 0 := by omega
    have hrem := hr0 hrz
    refine wp_exit ?_
    refine exit_then ?_
    refine exit_then ?_
    refine exit_hit ?_
    refine then_n ?_
    have hatn : at' = n := by omega
    obtain ⟨hB_, hR_, hrel_, bd, bc, hv_, hcells, hlen_, hcap_, hmax_⟩ := hB.releaseN hR (y := ⟨4, 30, 2, m, (ints .i64 fl)⟩) (by simp) _ dropN_mem
    replace hg := hg.rel hrel_
    replace hy := hy.rel hrel_
    replace hB := hB_; replace hR := hR_.sel [0, 1, 2, 3] [] (by kernel_rfl : selH _ _ = some [⟨0, 27, [.row 4]⟩, ⟨1, 51, [.v (.bool true), .v (.int .i64 ((pos : Nat) : Int)), .v (.int .i64 ((n : Nat) : Int)), .v (.pointer (some ⟨c', 0, none⟩))]⟩, ⟨2, 43, [.v (.slice ad ys.length cap), .v (.int .i64 ((rem : Nat) : Int)), .v (.int .i8 ((p % 8 : Nat) : Int))]⟩, ⟨3, 40, [.v (.int .i16 ((r : Nat) : Int)), .v (.int .i16 ((c : Nat) : Int))]⟩]) (by kernel_rfl : selG _ _ = some []); clear hB_ hR_ hrel_
    replace hR := hR.reblk (b := ⟨0, 27, [.row 4]⟩) (by simp) [.v (.slice bd m bc)] [⟨1, 51, [.v (.bool true), .v (.int .i64 ((pos : Nat) : Int)), .v (.int .i64 ((n : Nat) : Int)), .v (.pointer (some ⟨c', 0, none⟩))]⟩, ⟨2, 43, [.v (.slice ad ys.length cap), .v (.int .i64 ((rem : Nat) : Int)), .v (.int .i8 ((p % 8 : Nat) : Int))]⟩, ⟨3, 40, [.v (.int .i16 ((r : Nat) : Int)), .v (.int .i16 ((c : Nat) : Int))]⟩] (by simp) (by simp only [dens, den, hv_])
    dsimp only at hR
    clear hv_
    have hfl0 := sl_flat hcells hfd (by omega)
    have hbcm : m ≤ bc := hcap_; have hbcx : bc ≤ 9223372036854775807 := hmax_
    refine reg_seq tab (k := 5) (hs := []) (sy := []) (ks := [10]) (bs := [0, 1, 2]) (gs := [])
        (L' := [(10, .p 0 0)])
        (H' := [⟨0, 27, [.v (.slice bd m bc)]⟩, ⟨1, 51, [.v (.bool true), .v (.int .i64 ((pos : Nat) : Int)), .v (.int .i64 ((n : Nat) : Int)), .v (.pointer (some ⟨c', 0, none⟩))]⟩, ⟨2, 43, [.v (.slice ad ys.length cap), .v (.int .i64 ((rem : Nat) : Int)), .v (.int .i8 ((p % 8 : Nat) : Int))]⟩]) (G' := []) (k' := 5) hR hI (by kernel_rfl)
        .nil (fun e31 a31 w31 hag hR hI => ?_)
    replace hbn := (hag 1 (by decide)).1.trans hbn
    replace hcn := (hag 2 (by decide)).1.trans hcn
    refine wp_ret ?_
    refine outF tab (xs := [.v (.slice bd m bc)]) hR hI (inv8 _ _) (idle8 _) rfl (by kernel_rfl) ?_
    exact ⟨fl, bd, bc, m, rfl, hB.fin hR, hfl0.fin hB hR, hfl, hbcm, hbcx, by rw [← hatn]; exact hbl⟩

set_option maxHeartbeats 4000000 in
set_option maxRecDepth 100000 in
theorem blk2T_spec {C : Nat → Prop} {w : World} {n p : Nat} {f : Nat → Bool} {ad : Option Addr} {l cap : Nat} (hn8 : n ≤ 32768) (hf : ∀ i, i < n → f i = true) :
    Calls P 6 #[.slice ad l cap, .int .i64 ((p : Nat) : Int), .int .i64 ((n : Nat) : Int), .int .i64 2, .bool true] w fun ex w' => ∃ (fl : List Nat) (bd : Option Addr) (bc m : Nat), ex = .returned (.slice bd m bc) ∧ Keep (fun b => b < w.heap.size) w w' ∧ Sl .i64 65536 (Grow C w w') w' bd fl.length fl ∧ fl.length = 2 * m ∧ m ≤ bc ∧ bc ≤ 9223372036854775807 ∧ Blks f 64 0 fl n := by
  refine doorD (e := e0) (vs := [.v (.slice ad l cap), .v (.int .i64 ((p : Nat) : Int)), .v (.int .i64 ((n : Nat) : Int)), .v (.int .i64 2), .v (.bool true)]) (n := 60) (m := 5) Tryd.func6 rfl rfl rfl (by decide) fun a_ hI => ?_
  replace hI : Is 60 [] e0 [(0, .v (.slice ad l cap)), (1, .v (.int .i64 ((p : Nat) : Int))), (2, .v (.int .i64 ((n : Nat) : Int))), (3, .v (.int .i64 2)), (4, .v (.bool true))] a_ := hI
  have hR : Rel (fun b => b < w.heap.size) w e0 [] [] w := Rel.start (fun k hk => hk)
  have hB : Base C w C (fun b => b < w.heap.size) w := Base.start
  skip
  refine reg_seq tab (k := 0) (hs := []) (sy := []) (ks := [10, 0, 1, 2, 3, 4]) (bs := [0]) (gs := [])
      (L' := [(10, .p 0 0), (0, .v (.slice ad l cap)), (1, .v (.int .i64 ((p : Nat) : Int))), (2, .v (.int .i64 ((n : Nat) : Int))), (3, .v (.int .i64 2)), (4, .v (.bool true))])
      (H' := [⟨0, 27, [.v (.slice none 0 0)]⟩]) (G' := []) (k' := 1) hR hI (by kernel_rfl)
      .nil (fun e1 a1 w1 hag hR hI => ?_)
  refine wp_seq ?_
  refine reg (is := [0, 1]) (by kernel_rfl) ?_
  refine rawOp (x := .v (.func (.func 8) #[] #[.pointer (some ⟨e1.b 0, 0, none⟩)])) hI rfl rfl (by kernel_rfl) (fun ev hev => by simp [execOp, Instr.makeFunc, hev (.tmp 10) _ rfl, den]) (fun a2 hI => ?_)
  replace hI := hI.sel [14, 10, 0, 1, 2, 3, 4] (by kernel_rfl : sel _ _ = some [(14, .v (.func (.func 8) #[] #[.pointer (some ⟨e1.b 0, 0, none⟩)])), (10, .p 0 0), (0, .v (.slice ad l cap)), (1, .v (.int .i64 ((p : Nat) : Int))), (2, .v (.int .i64 ((n : Nat) : Int))), (3, .v (.int .i64 2)), (4, .v (.bool true))])
  refine deferFn hI rfl rfl rfl ⟨_, rfl, rfl, rfl⟩ rfl (fun a2 hI => ?_)
  replace hI := hI.sel [14, 10, 0, 1, 2, 3, 4] (by kernel_rfl : sel _ _ = some [(14, .v (.func (.func 8) #[] #[.pointer (some ⟨e1.b 0, 0, none⟩)])), (10, .p 0 0), (0, .v (.slice ad l cap)), (1, .v (.int .i64 ((p : Nat) : Int))), (2, .v (.int .i64 ((n : Nat) : Int))), (3, .v (.int .i64 2)), (4, .v (.bool true))])
  refine ops_nil ?_
  refine then_n ?_
  refine reg_seq tab (k := 1) (hs := []) (sy := []) (ks := [10, 0, 1, 2, 3, 4]) (bs := [0]) (gs := [])
      (L' := [(10, .p 0 0), (0, .v (.slice ad l cap)), (1, .v (.int .i64 ((p : Nat) : Int))), (2, .v (.int .i64 ((n : Nat) : Int))), (3, .v (.int .i64 2)), (4, .v (.bool true))])
      (H' := [⟨0, 27, [.v (.slice none 0 0)]⟩]) (G' := []) (k' := 1) hR hI (by kernel_rfl)
      .nil (fun e3 a3 w3 hag hR hI => ?_)
  refine wp_seq ?_
  refine reg_seq tab (k := 1) (hs := []) (sy := []) (ks := [15, 10, 0, 1, 2, 3, 4]) (bs := [0]) (gs := [])
      (L' := [(15, .v (.int .i64 2)), (10, .p 0 0), (0, .v (.slice ad l cap)), (1, .v (.int .i64 ((p : Nat) : Int))), (2, .v (.int .i64 ((n : Nat) : Int))), (3, .v (.int .i64 2)), (4, .v (.bool true))])
      (H' := [⟨0, 27, [.v (.slice none 0 0)]⟩]) (G' := []) (k' := 1) hR hI (by kernel_rfl)
      .nil (fun e4 a4 w4 hag hR hI => ?_)
  refine wp_block ?_
  refine reg_seq tab (k := 1) (hs := []) (sy := []) (ks := [27, 15, 10, 0, 1, 2, 3, 4]) (bs := [0]) (gs := [])
      (L' := [(27, .v (.bool false)), (15, .v (.int .i64 2)), (10, .p 0 0), (0, .v (.slice ad l cap)), (1, .v (.int .i64 ((p : Nat) : Int))), (2, .v (.int .i64 ((n : Nat) : Int))), (3, .v (.int .i64 2)), (4, .v (.bool true))])
      (H' := [⟨0, 27, [.v (.slice none 0 0)]⟩]) (G' := []) (k' := 1) hR hI (by kernel_rfl)
      .nil (fun e5 a5 w5 hag hR hI => ?_)
  refine cnd_f hI (by kernel_rfl) ?_
  refine reg_seq tab (k := 1) (hs := []) (sy := []) (ks := [34, 10, 0, 1, 2, 3, 4]) (bs := [0]) (gs := [])
      (L' := [(34, .v (.bool false)), (10, .p 0 0), (0, .v (.slice ad l cap)), (1, .v (.int .i64 ((p : Nat) : Int))), (2, .v (.int .i64 ((n : Nat) : Int))), (3, .v (.int .i64 2)), (4, .v (.bool true))])
      (H' := [⟨0, 27, [.v (.slice none 0 0)]⟩]) (G' := []) (k' := 1) hR hI (by kernel_rfl)
      .nil (fun e6 a6 w6 hag hR hI => ?_)
  refine cnd_f hI (by kernel_rfl) ?_
  refine wp_seq ?_
  refine reg_seq tab (k := 1) (hs := []) (sy := []) (ks := [16, 10, 0, 1, 2, 3]) (bs := [0]) (gs := [])
      (L' := [(16, .v (.bool true)), (10, .p 0 0), (0, .v (.slice ad l cap)), (1, .v (.int .i64 ((p : Nat) : Int))), (2, .v (.int .i64 ((n : Nat) : Int))), (3, .v (.int .i64 2))])
      (H' := [⟨0, 27, [.v (.slice none 0 0)]⟩]) (G' := []) (k' := 1) hR hI (by kernel_rfl)
      .nil (fun e7 a7 w7 hag hR hI => ?_)
  refine cnd_t hI (by kernel_rfl) ?_
  refine reg_all tab (k := 1) (hs := []) (sy := []) (ks := [0, 10, 1, 2, 3]) (bs := [0]) (gs := [])
      (L' := [(0, .v (.slice none 0 0)), (10, .p 0 0), (1, .v (.int .i64 ((p : Nat) : Int))), (2, .v (.int .i64 ((n : Nat) : Int))), (3, .v (.int .i64 2))])
      (H' := [⟨0, 27, [.v (.slice none 0 0)]⟩]) (G' := []) (k' := 1) hR hI (by kernel_rfl)
      .nil (fun e8 a8 w8 hag hR hI => ?_)
  refine then_n ?_
  refine wp_seq ?_
  refine reg (is := [0, 1, 2, 3, 4]) (by kernel_rfl) ?_
  refine part_ tab [0, 1, 2] [3, 4] (by rfl) (k := 1) (hs := []) (sy := []) (ks := [19, 18, 17, 10, 3]) (bs := [0]) (gs := [])
      (L' := [(19, .v (.int .i64 ((n : Nat) : Int))), (18, .v (.int .i64 ((p : Nat) : Int))), (17, .v (.slice none 0 0)), (10, .p 0 0), (3, .v (.int .i64 2))])
      (H' := [⟨0, 27, [.v (.slice none 0 0)]⟩]) (G' := []) (k' := 1) hR hI (by kernel_rfl)
      .nil (fun e9 a9 w9 hag hR hI => ?_)
  refine callOp (ys := [.v (.slice none 0 0), .v (.int .i64 ((p : Nat) : Int)), .v (.int .i64 ((n : Nat) : Int))]) hI rfl rfl ⟨_, rfl, rfl, rfl⟩ (by kernel_rfl) Tryd.func12 rfl rfl ?_
  have hBs := hB.size hR
  refine (newOptN_spec (C := C)).mono ?_
  rintro ex w10 ⟨b, rfl, hge, hnew, hk⟩
  obtain ⟨hag_, hnb_, hR_⟩ := hR.gotX (L := []) (k := 1) (cs := [.v (.bool false), .v (.int .i64 ((0 : Nat) : Int)), .v (.int .i64 ((n : Nat) : Int)), .v (.pointer none)]) (by kernel_rfl) (by kernel_rfl) hk hge hnew
  have hkF_ := hR.keepF hk
  have hB_ := hB.nextX hR hkF_ hge
  replace hI := hI.agreeB (H := [⟨0, 27, [.v (.slice none 0 0)]⟩]) (G := []) (by kernel_rfl) hag_
  replace hR := hR_; replace hB := hB_; clear hB_ hR_ hkF_ hk
  have hbn : (e9.addB 1 b).b 1 = b := addB_b _ _ _
  refine ⟨_, rfl, ?_⟩
  replace hI := hI.put (d := some 20) (x := .p 1 0) (by intro t ht; cases ht; decide) rfl
  replace hI := hI.sel [20, 19, 18, 17, 10, 3] (by kernel_rfl : sel _ _ = some [(20, .p 1 0), (19, .v (.int .i64 ((n : Nat) : Int))), (18, .v (.int .i64 ((p : Nat) : Int))), (17, .v (.slice none 0 0)), (10, .p 0 0), (3, .v (.int .i64 2))])
  refine part_ tab [4] [] (by rfl) (k := 2) (hs := []) (sy := []) (ks := [12, 10, 3]) (bs := [1, 0]) (gs := [])
      (L' := [(12, .p 1 0), (10, .p 0 0), (3, .v (.int .i64 2))])
      (H' := [⟨1, 51, [.v (.bool false), .v (.int .i64 ((0 : Nat) : Int)), .v (.int .i64 ((n : Nat) : Int)), .v (.pointer none)]⟩, ⟨0, 27, [.v (.slice none 0 0)]⟩]) (G' := []) (k' := 2) hR hI (by kernel_rfl)
      .nil (fun e11 a11 w11 hag hR hI => ?_)
  replace hbn := (hag 1 (by decide)).1.trans hbn
  refine ops_nil ?_
  refine then_n ?_
  refine wp_seq ?_
  refine reg (is := [0, 1, 2]) (by kernel_rfl) ?_
  refine part_ tab [0] [1, 2] (by rfl) (k := 2) (hs := []) (sy := []) (ks := [21, 12, 10, 3]) (bs := [1, 0]) (gs := [])
      (L' := [(21, .p 1 0), (12, .p 1 0), (10, .p 0 0), (3, .v (.int .i64 2))])
      (H' := [⟨1, 51, [.v (.bool false), .v (.int .i64 ((0 : Nat) : Int)), .v (.int .i64 ((n : Nat) : Int)), .v (.pointer none)]⟩, ⟨0, 27, [.v (.slice none 0 0)]⟩]) (G' := []) (k' := 2) hR hI (by kernel_rfl)
      .nil (fun e12 a12 w12 hag hR hI => ?_)
  replace hbn := (hag 1 (by decide)).1.trans hbn
  refine rawOp (x := .v (.func (.func 13) #[.pointer (some ⟨b, 0, none⟩)] #[])) hI rfl rfl (by kernel_rfl) (fun ev hev => by simp [execOp, Instr.makeFunc, hev (.tmp 21) _ rfl, den, hbn]) (fun a13 hI => ?_)
  replace hI := hI.sel [22, 21, 12, 10, 3] (by kernel_rfl : sel _ _ = some [(22, .v (.func (.func 13) #[.pointer (some ⟨b, 0, none⟩)] #[])), (21, .p 1 0), (12, .p 1 0), (10, .p 0 0), (3, .v (.int .i64 2))])
  refine part_ tab [2] [] (by rfl) (k := 2) (hs := []) (sy := []) (ks := [11, 12, 10, 3]) (bs := [1, 0]) (gs := [])
      (L' := [(11, .v (.func (.func 13) #[.pointer (some ⟨b, 0, none⟩)] #[])), (12, .p 1 0), (10, .p 0 0), (3, .v (.int .i64 2))])
      (H' := [⟨1, 51, [.v (.bool false), .v (.int .i64 ((0 : Nat) : Int)), .v (.int .i64 ((n : Nat) : Int)), .v (.pointer none)]⟩, ⟨0, 27, [.v (.slice none 0 0)]⟩]) (G' := []) (k' := 2) hR hI (by kernel_rfl)
      .nil (fun e14 a14 w14 hag hR hI => ?_)
  replace hbn := (hag 1 (by decide)).1.trans hbn
  refine ops_nil ?_
  refine then_n ?_
  refine reg_seq tab (k := 2) (hs := []) (sy := []) (ks := [24, 11, 12, 10]) (bs := [1, 0]) (gs := [])
      (L' := [(24, .v (.bool false)), (11, .v (.func (.func 13) #[.pointer (some ⟨b, 0, none⟩)] #[])), (12, .p 1 0), (10, .p 0 0)])
      (H' := [⟨1, 51, [.v (.bool false), .v (.int .i64 ((0 : Nat) : Int)), .v (.int .i64 ((n : Nat) : Int)), .v (.pointer none)]⟩, ⟨0, 27, [.v (.slice none 0 0)]⟩]) (G' := []) (k' := 2) hR hI (by kernel_rfl)
      .nil (fun e15 a15 w15 hag hR hI => ?_)
  replace hbn := (hag 1 (by decide)).1.trans hbn
  refine cnd_f hI (by kernel_rfl) ?_
  refine wp_skip ?_
  refine normal_block ?_
  refine then_n ?_
  refine wp_seq ?_
  refine wp_seq ?_
  refine reg (is := [0, 1, 2, 3]) (by kernel_rfl) ?_
  refine part_ tab [0] [1, 2, 3] (by rfl) (k := 2) (hs := []) (sy := []) (ks := [41, 11, 10]) (bs := [1, 0]) (gs := [])
      (L' := [(41, .v (.func (.func 13) #[.pointer (some ⟨b, 0, none⟩)] #[])), (11, .v (.func (.func 13) #[.pointer (some ⟨b, 0, none⟩)] #[])), (10, .p 0 0)])
      (H' := [⟨1, 51, [.v (.bool false), .v (.int .i64 ((0 : Nat) : Int)), .v (.int .i64 ((n : Nat) : Int)), .v (.pointer none)]⟩, ⟨0, 27, [.v (.slice none 0 0)]⟩]) (G' := []) (k' := 2) hR hI (by kernel_rfl)
      .nil (fun e16 a16 w16 hag hR hI => ?_)
  replace hbn := (hag 1 (by decide)).1.trans hbn
  refine callB0 hI rfl rfl ⟨_, rfl, rfl, rfl⟩ (by kernel_rfl : arg _ _ = some (.v (.func (.func 13) #[.pointer (some ⟨b, 0, none⟩)] #[]))) Tryd.func13 rfl rfl ?_
  have hblk_ := hR.blk ⟨1, 51, [.v (.bool false), .v (.int .i64 ((0 : Nat) : Int)), .v (.int .i64 ((n : Nat) : Int)), .v (.pointer none)]⟩ (by simp)
  refine (optWordN_spec (C := fun _ => False) (by have h9 := hblk_.1; dsimp only at h9; rw [hbn] at h9; exact h9) (fun h => h) (by omega) (by omega)).mono ?_
  rintro ex w17 ⟨r, rfl, hk, hnew, hstr⟩
  rw [← hbn] at hk hnew
  have hkF_ := hR.keepB (b := ⟨1, 51, [.v (.bool false), .v (.int .i64 ((0 : Nat) : Int)), .v (.int .i64 ((n : Nat) : Int)), .v (.pointer none)]⟩) (by simp) hk
  have hB_ := hB.nextF hR hkF_
  replace hR := hR.turned (b := ⟨1, 51, [.v (.bool false), .v (.int .i64 ((0 : Nat) : Int)), .v (.int .i64 ((n : Nat) : Int)), .v (.pointer none)]⟩) (by simp) [.v (.bool false), .v (.int .i64 ((0 + r : Nat) : Int)), .v (.int .i64 ((n : Nat) : Int)), .v (.pointer none)] [⟨0, 27, [.v (.slice none 0 0)]⟩] (by simp) hk hnew
  dsimp only at hR; replace hB := hB_; clear hB_ hk hkF_ hblk_
  refine ⟨_, rfl, ?_⟩
  replace hI := hI.put (d := some 42) (x := .v (.agg #[.int .i16 ((r : Nat) : Int), .int .i16 ((r : Nat) : Int)])) (by intro t ht; cases ht; decide) rfl
  replace hI := hI.sel [42, 41, 11, 10] (by kernel_rfl : sel _ _ = some [(42, .v (.agg #[.int .i16 ((r : Nat) : Int), .int .i16 ((r : Nat) : Int)])), (41, .v (.func (.func 13) #[.pointer (some ⟨b, 0, none⟩)] #[])), (11, .v (.func (.func 13) #[.pointer (some ⟨b, 0, none⟩)] #[])), (10, .p 0 0)])
  refine part_ tab [2, 3] [] (by rfl) (k := 2) (hs := []) (sy := []) (ks := [13, 11, 10]) (bs := [2, 1, 0]) (gs := [])
      (L' := [(13, .p 2 0), (11, .v (.func (.func 13) #[.pointer (some ⟨b, 0, none⟩)] #[])), (10, .p 0 0)])
      (H' := [⟨2, 40, [.v (.int .i16 ((r : Nat) : Int)), .v (.int .i16 ((r : Nat) : Int))]⟩, ⟨1, 51, [.v (.bool false), .v (.int .i64 ((0 + r : Nat) : Int)), .v (.int .i64 ((n : Nat) : Int)), .v (.pointer none)]⟩, ⟨0, 27, [.v (.slice none 0 0)]⟩]) (G' := []) (k' := 3) hR hI (by kernel_rfl)
      .nil (fun e18 a18 w18 hag hR hI => ?_)
  replace hbn := (hag 1 (by decide)).1.trans hbn
  refine ops_nil ?_
  refine then_n ?_
  refine wp_block ?_
  obtain ⟨e19, hag_, hr_, hR_⟩ := hR.nilRow (L := [(13, .p 2 0), (11, .v (.func (.func 13) #[.pointer (some ⟨b, 0, none⟩)] #[])), (10, .p 0 0)]) 3 (by kernel_rfl) 30 2
  replace hbn := (hag_ 1 (by decide)).1.trans hbn
  replace hI := hI.agreeB (H := [⟨2, 40, [.v (.int .i16 ((r : Nat) : Int)), .v (.int .i16 ((r : Nat) : Int))]⟩, ⟨1, 51, [.v (.bool false), .v (.int .i64 ((0 + r : Nat) : Int)), .v (.int .i64 ((n : Nat) : Int)), .v (.pointer none)]⟩, ⟨0, 27, [.v (.slice none 0 0)]⟩]) (G := []) (by kernel_rfl) hag_; replace hR := hR_; clear hag_ hR_
  replace hR := hR.reblk (b := ⟨0, 27, [.v (.slice none 0 0)]⟩) (by simp) [.row 3] [⟨2, 40, [.v (.int .i16 ((r : Nat) : Int)), .v (.int .i16 ((r : Nat) : Int))]⟩, ⟨1, 51, [.v (.bool false), .v (.int .i64 ((0 + r : Nat) : Int)), .v (.int .i64 ((n : Nat) : Int)), .v (.pointer none)]⟩] (by simp) (by simp only [dens, den, hr_])
  dsimp only at hR
  clear hr_
  refine lpM (γ := Nat × Nat × Nat × Nat × Nat × List Nat) (fun (r, c, m, at', pos, fl) => (⟨[(10, .p 0 0), (11, .v (.func (.func 13) #[.pointer (some ⟨b, 0, none⟩)] #[])), (13, .p 2 0)], [⟨0, 27, [.row 3]⟩, ⟨1, 51, [.v (.bool false), .v (.int .i64 ((pos : Nat) : Int)), .v (.int .i64 ((n : Nat) : Int)), .v (.pointer none)]⟩, ⟨2, 40, [.v (.int .i16 ((r : Nat) : Int)), .v (.int .i16 ((c : Nat) : Int))]⟩], [⟨3, 30, 2, m, (ints .i64 fl)⟩], 4⟩ : Sy)) (fun (r, c, m, at', pos, fl) e C F wb => e.b 1 = b ∧ at' + r = pos ∧ pos ≤ n ∧ r ≤ 64 ∧ (r = 0 → pos = n) ∧ c = r ∧ fl.length = 2 * m ∧ m ≤ at' ∧ Blks f 64 0 fl at' ∧ ∀ d ∈ fl, d < 65536) (fun (r, c, m, at', pos, fl) => n - at') (r, r, 0, 0, 0 + r, []) hB (⟨hbn, by omega, by omega, by omega, fun h => by omega, rfl, rfl, Nat.le_refl _, rfl, fun d h => (by cases h)⟩)
      (hR.sel [0, 1, 2] [3] (by kernel_rfl) (by kernel_rfl)) (hI.sel [10, 11, 13] (by kernel_rfl)) ?_
  clear hR hI hB
  rintro ⟨r, c, m, at', pos, fl⟩ e20 C20 F20 wb20 a20 w20 hB hp hR hI
  dsimp only at hp hR hI
  obtain ⟨hbn, hat, hpn, hrM, hr0, hcc, hfl, hmat, hbl, hfd⟩ := hp
  refine wp_seq ?_
  refine reg_seq tab (k := 4) (hs := []) (sy := []) (ks := [45, 10, 11, 13]) (bs := [0, 1, 2]) (gs := [3])
      (L' := [(45, .v (.bool (((r : Nat) : Int) != (0 : Int)))), (10, .p 0 0), (11, .v (.func (.func 13) #[.pointer (some ⟨b, 0, none⟩)] #[])), (13, .p 2 0)])
      (H' := [⟨0, 27, [.row 3]⟩, ⟨1, 51, [.v (.bool false), .v (.int .i64 ((pos : Nat) : Int)), .v (.int .i64 ((n : Nat) : Int)), .v (.pointer none)]⟩, ⟨2, 40, [.v (.int .i16 ((r : Nat) : Int)), .v (.int .i16 ((c : Nat) : Int))]⟩]) (G' := [⟨3, 30, 2, m, (ints .i64 fl)⟩]) (k' := 4) hR hI (by kernel_rfl)
      .nil (fun e21 a21 w21 hag hR hI => ?_)
  replace hbn := (hag 1 (by decide)).1.trans hbn
  refine cnd (b := (((r : Nat) : Int) != (0 : Int))) hI (by kernel_rfl) (fun hc22 => ?_) (fun hc22 => ?_)
  · skip
    replace hI := hI.re 45 (.v (.bool true)) rfl (congrArg Value.bool hc22)
    try simp only [decide_eq_true_eq, decide_eq_false_iff_not, beq_iff_eq, bne_iff_ne, beq_eq_false_iff_ne, bne_eq_false_iff_eq, Bool.and_eq_true, Bool.and_eq_false_iff, Bool.or_eq_true, Bool.or_eq_false_iff, Bool.not_eq_true', Bool.not_eq_false', ne_eq] at hc22
    have hrp : 0 < r := by omega
    refine wp_skip ?_
    refine then_n ?_
    refine wp_seq ?_
    refine wp_block ?_
    refine reg_all tab (k := 4) (hs := [(3, .nw), (6, .nw)]) (sy := []) (ks := [10, 11, 13]) (bs := [0, 1, 2]) (gs := [5])
        (L' := [(10, .p 0 0), (11, .v (.func (.func 13) #[.pointer (some ⟨b, 0, none⟩)] #[])), (13, .p 2 0)])
        (H' := [⟨0, 27, [.row 5]⟩, ⟨1, 51, [.v (.bool false), .v (.int .i64 ((pos : Nat) : Int)), .v (.int .i64 ((n : Nat) : Int)), .v (.pointer none)]⟩, ⟨2, 40, [.v (.int .i16 ((r : Nat) : Int)), .v (.int .i16 ((c : Nat) : Int))]⟩]) (G' := [⟨5, 30, 2, (m + 1), ((ints .i64 fl) ++ [.int .i64 ((r : Nat) : Int), .int .i64 ((c : Nat) : Int)])⟩]) (k' := 6) hR hI (by kernel_rfl)
        (.cons (inR_i64 (n := ((r : Nat) : Int)) (by omega)) (.cons (inR_i64 (n := ((c : Nat) : Int)) (by omega)) (.cons (by have hm_ : maxLen = 9223372036854775807 := rfl; rw [hm_]; omega : m + 1 ≤ maxLen) (.cons (by omega : (m + 1) * 16 ≤ 140737488355328) .nil)))) (fun e23 a23 w23 hag hR hI => ?_)
    replace hbn := (hag 1 (by decide)).1.trans hbn
    refine normal_block ?_
    refine then_n ?_
    refine wp_seq ?_
    refine reg_seq tab (k := 6) (hs := []) (sy := []) (ks := [58, 10, 11]) (bs := [0, 1]) (gs := [5])
        (L' := [(58, .agg [.v (.int .i16 ((r : Nat) : Int)), .v (.int .i16 ((c : Nat) : Int))]), (10, .p 0 0), (11, .v (.func (.func 13) #[.pointer (some ⟨b, 0, none⟩)] #[]))])
        (H' := [⟨0, 27, [.row 5]⟩, ⟨1, 51, [.v (.bool false), .v (.int .i64 ((pos : Nat) : Int)), .v (.int .i64 ((n : Nat) : Int)), .v (.pointer none)]⟩]) (G' := [⟨5, 30, 2, (m + 1), ((ints .i64 fl) ++ [.int .i64 ((r : Nat) : Int), .int .i64 ((c : Nat) : Int)])⟩]) (k' := 6) hR hI (by kernel_rfl)
        .nil (fun e24 a24 w24 hag hR hI => ?_)
    replace hbn := (hag 1 (by decide)).1.trans hbn
    refine reg_all tab (k := 6) (hs := []) (sy := []) (ks := [13, 10, 11]) (bs := [6, 0, 1]) (gs := [5])
        (L' := [(13, .p 6 0), (10, .p 0 0), (11, .v (.func (.func 13) #[.pointer (some ⟨b, 0, none⟩)] #[]))])
        (H' := [⟨6, 40, [.v (.int .i16 ((r : Nat) : Int)), .v (.int .i16 ((c : Nat) : Int))]⟩, ⟨0, 27, [.row 5]⟩, ⟨1, 51, [.v (.bool false), .v (.int .i64 ((pos : Nat) : Int)), .v (.int .i64 ((n : Nat) : Int)), .v (.pointer none)]⟩]) (G' := [⟨5, 30, 2, (m + 1), ((ints .i64 fl) ++ [.int .i64 ((r : Nat) : Int), .int .i64 ((c : Nat) : Int)])⟩]) (k' := 7) hR hI (by kernel_rfl)
        .nil (fun e25 a25 w25 hag hR hI => ?_)
    replace hbn := (hag 1 (by decide)).1.trans hbn
    refine then_n ?_
    refine reg (is := [0, 1, 2]) (by kernel_rfl) ?_
    refine part_ tab [0] [1, 2] (by rfl) (k := 7) (hs := []) (sy := []) (ks := [46, 13, 10, 11]) (bs := [6, 0, 1]) (gs := [5])
        (L' := [(46, .v (.func (.func 13) #[.pointer (some ⟨b, 0, none⟩)] #[])), (13, .p 6 0), (10, .p 0 0), (11, .v (.func (.func 13) #[.pointer (some ⟨b, 0, none⟩)] #[]))])
        (H' := [⟨6, 40, [.v (.int .i16 ((r : Nat) : Int)), .v (.int .i16 ((c : Nat) : Int))]⟩, ⟨0, 27, [.row 5]⟩, ⟨1, 51, [.v (.bool false), .v (.int .i64 ((pos : Nat) : Int)), .v (.int .i64 ((n : Nat) : Int)), .v (.pointer none)]⟩]) (G' := [⟨5, 30, 2, (m + 1), ((ints .i64 fl) ++ [.int .i64 ((r : Nat) : Int), .int .i64 ((c : Nat) : Int)])⟩]) (k' := 7) hR hI (by kernel_rfl)
        .nil (fun e26 a26 w26 hag hR hI => ?_)
    replace hbn := (hag 1 (by decide)).1.trans hbn
    refine callB0 hI rfl rfl ⟨_, rfl, rfl, rfl⟩ (by kernel_rfl : arg _ _ = some (.v (.func (.func 13) #[.pointer (some ⟨b, 0, none⟩)] #[]))) Tryd.func13 rfl rfl ?_
    have hblk_ := hR.blk ⟨1, 51, [.v (.bool false), .v (.int .i64 ((pos : Nat) : Int)), .v (.int .i64 ((n : Nat) : Int)), .v (.pointer none)]⟩ (by simp)
    refine (optWordN_spec (C := fun _ => False) (by have h9 := hblk_.1; dsimp only at h9; rw [hbn] at h9; exact h9) (fun h => h) (by omega) (by omega)).mono ?_
    rintro ex w27 ⟨r2, rfl, hk, hnew, hstr2⟩
    rw [← hbn] at hk hnew
    have hkF_ := hR.keepB (b := ⟨1, 51, [.v (.bool false), .v (.int .i64 ((pos : Nat) : Int)), .v (.int .i64 ((n : Nat) : Int)), .v (.pointer none)]⟩) (by simp) hk
    have hB_ := hB.nextF hR hkF_
    replace hR := hR.turned (b := ⟨1, 51, [.v (.bool false), .v (.int .i64 ((pos : Nat) : Int)), .v (.int .i64 ((n : Nat) : Int)), .v (.pointer none)]⟩) (by simp) [.v (.bool false), .v (.int .i64 ((pos + r2 : Nat) : Int)), .v (.int .i64 ((n : Nat) : Int)), .v (.pointer none)] [⟨6, 40, [.v (.int .i16 ((r : Nat) : Int)), .v (.int .i16 ((c : Nat) : Int))]⟩, ⟨0, 27, [.row 5]⟩] (by simp) hk hnew
    dsimp only at hR; replace hB := hB_; clear hB_ hk hkF_ hblk_
    refine ⟨_, rfl, ?_⟩
    replace hI := hI.put (d := some 47) (x := .v (.agg #[.int .i16 ((r2 : Nat) : Int), .int .i16 ((r2 : Nat) : Int)])) (by intro t ht; cases ht; decide) rfl
    replace hI := hI.sel [47, 46, 13, 10, 11] (by kernel_rfl : sel _ _ = some [(47, .v (.agg #[.int .i16 ((r2 : Nat) : Int), .int .i16 ((r2 : Nat) : Int)])), (46, .v (.func (.func 13) #[.pointer (some ⟨b, 0, none⟩)] #[])), (13, .p 6 0), (10, .p 0 0), (11, .v (.func (.func 13) #[.pointer (some ⟨b, 0, none⟩)] #[]))])
    refine part_ tab [2] [] (by rfl) (k := 7) (hs := []) (sy := []) (ks := [13, 10, 11]) (bs := [6, 1, 0]) (gs := [5])
        (L' := [(13, .p 6 0), (10, .p 0 0), (11, .v (.func (.func 13) #[.pointer (some ⟨b, 0, none⟩)] #[]))])
        (H' := [⟨6, 40, [.v (.int .i16 ((r2 : Nat) : Int)), .v (.int .i16 ((r2 : Nat) : Int))]⟩, ⟨1, 51, [.v (.bool false), .v (.int .i64 ((pos + r2 : Nat) : Int)), .v (.int .i64 ((n : Nat) : Int)), .v (.pointer none)]⟩, ⟨0, 27, [.row 5]⟩]) (G' := [⟨5, 30, 2, (m + 1), ((ints .i64 fl) ++ [.int .i64 ((r : Nat) : Int), .int .i64 ((c : Nat) : Int)])⟩]) (k' := 7) hR hI (by kernel_rfl)
        .nil (fun e28 a28 w28 hag hR hI => ?_)
    replace hbn := (hag 1 (by decide)).1.trans hbn
    refine ops_nil ?_
    refine then_n ?_
    rw [ints_two] at hR
    have hren_ : Sy.ren [(3, 5), (2, 6)] ⟨[(13, .p 2 0), (10, .p 0 0), (11, .v (.func (.func 13) #[.pointer (some ⟨b, 0, none⟩)] #[]))], [⟨2, 40, [.v (.int .i16 ((r2 : Nat) : Int)), .v (.int .i16 ((r2 : Nat) : Int))]⟩, ⟨1, 51, [.v (.bool false), .v (.int .i64 ((pos + r2 : Nat) : Int)), .v (.int .i64 ((n : Nat) : Int)), .v (.pointer none)]⟩, ⟨0, 27, [.row 3]⟩], [⟨3, 30, 2, (m + 1), (ints .i64 (fl ++ [r, c]))⟩], 0⟩ = ⟨[(13, .p 6 0), (10, .p 0 0), (11, .v (.func (.func 13) #[.pointer (some ⟨b, 0, none⟩)] #[]))], [⟨6, 40, [.v (.int .i16 ((r2 : Nat) : Int)), .v (.int .i16 ((r2 : Nat) : Int))]⟩, ⟨1, 51, [.v (.bool false), .v (.int .i64 ((pos + r2 : Nat) : Int)), .v (.int .i64 ((n : Nat) : Int)), .v (.pointer none)]⟩, ⟨0, 27, [.row 5]⟩], [⟨5, 30, 2, (m + 1), (ints .i64 (fl ++ [r, c]))⟩], 0⟩ := by kernel_rfl
    replace hI := hI.rename (S := ⟨[(13, .p 6 0), (10, .p 0 0), (11, .v (.func (.func 13) #[.pointer (some ⟨b, 0, none⟩)] #[]))], [⟨6, 40, [.v (.int .i16 ((r2 : Nat) : Int)), .v (.int .i16 ((r2 : Nat) : Int))]⟩, ⟨1, 51, [.v (.bool false), .v (.int .i64 ((pos + r2 : Nat) : Int)), .v (.int .i64 ((n : Nat) : Int)), .v (.pointer none)]⟩, ⟨0, 27, [.row 5]⟩], [⟨5, 30, 2, (m + 1), (ints .i64 (fl ++ [r, c]))⟩], 0⟩) (S' := ⟨[(13, .p 2 0), (10, .p 0 0), (11, .v (.func (.func 13) #[.pointer (some ⟨b, 0, none⟩)] #[]))], [⟨2, 40, [.v (.int .i16 ((r2 : Nat) : Int)), .v (.int .i16 ((r2 : Nat) : Int))]⟩, ⟨1, 51, [.v (.bool false), .v (.int .i64 ((pos + r2 : Nat) : Int)), .v (.int .i64 ((n : Nat) : Int)), .v (.pointer none)]⟩, ⟨0, 27, [.row 3]⟩], [⟨3, 30, 2, (m + 1), (ints .i64 (fl ++ [r, c]))⟩], 0⟩) hren_; replace hR := hR.rename (S := ⟨[(13, .p 6 0), (10, .p 0 0), (11, .v (.func (.func 13) #[.pointer (some ⟨b, 0, none⟩)] #[]))], [⟨6, 40, [.v (.int .i16 ((r2 : Nat) : Int)), .v (.int .i16 ((r2 : Nat) : Int))]⟩, ⟨1, 51, [.v (.bool false), .v (.int .i64 ((pos + r2 : Nat) : Int)), .v (.int .i64 ((n : Nat) : Int)), .v (.pointer none)]⟩, ⟨0, 27, [.row 5]⟩], [⟨5, 30, 2, (m + 1), (ints .i64 (fl ++ [r, c]))⟩], 0⟩) (S' := ⟨[(13, .p 2 0), (10, .p 0 0), (11, .v (.func (.func 13) #[.pointer (some ⟨b, 0, none⟩)] #[]))], [⟨2, 40, [.v (.int .i16 ((r2 : Nat) : Int)), .v (.int .i16 ((r2 : Nat) : Int))]⟩, ⟨1, 51, [.v (.bool false), .v (.int .i64 ((pos + r2 : Nat) : Int)), .v (.int .i64 ((n : Nat) : Int)), .v (.pointer none)]⟩, ⟨0, 27, [.row 3]⟩], [⟨3, 30, 2, (m + 1), (ints .i64 (fl ++ [r, c]))⟩], 0⟩) hren_ (by kernel_rfl) (by kernel_rfl); dsimp only at hI hR; clear hren_
    replace hbn : (Env.ren e28 [(3, 5), (2, 6)]).b 1 = _ := hbn
    exact ⟨(r2, r2, m + 1, at' + r, pos + r2, fl ++ [r, c]), _, _, _, _, hB, ⟨hbn, by omega, by omega, by omega, fun h => by omega, rfl, fls hfl, by omega, hbl.snoc (by omega) hrM (by rw [hcc]; exact ((cnt_congr (g := fun _ => true) (fun i hi => hf _ (by omega))).trans (cnt_true r)).symm), pair_dig hfd (by omega) (by omega)⟩, (by (try dsimp only); omega), hR.sel [0, 1, 2] [3] (by kernel_rfl) (by kernel_rfl), hI.sel [10, 11, 13] (by kernel_rfl)⟩
  · skip
    replace hI := hI.re 45 (.v (.bool false)) rfl (congrArg Value.bool hc22)
    try simp only [decide_eq_true_eq, decide_eq_false_iff_not, beq_iff_eq, bne_iff_ne, beq_eq_false_iff_ne, bne_eq_false_iff_eq, Bool.and_eq_true, Bool.and_eq_false_iff, Bool.or_eq_true, Bool.or_eq_false_iff, Bool.not_eq_true', Bool.not_eq_false', ne_eq] at hc22
    have hrz : r = 0 := by omega
    have hrem := hr0 hrz
    refine wp_exit ?_
    refine exit_then ?_
    refine exit_then ?_
    refine exit_hit ?_
    refine then_n ?_
    have hatn : at' = n := by omega
    obtain ⟨hB_, hR_, hrel_, bd, bc, hv_, hcells, hlen_, hcap_, hmax_⟩ := hB.releaseN hR (y := ⟨3, 30, 2, m, (ints .i64 fl)⟩) (by simp) _ dropN_mem
    replace hB := hB_; replace hR := hR_.sel [0, 1, 2] [] (by kernel_rfl : selH _ _ = some [⟨0, 27, [.row 3]⟩, ⟨1, 51, [.v (.bool false), .v (.int .i64 ((pos : Nat) : Int)), .v (.int .i64 ((n : Nat) : Int)), .v (.pointer none)]⟩, ⟨2, 40, [.v (.int .i16 ((r : Nat) : Int)), .v (.int .i16 ((c : Nat) : Int))]⟩]) (by kernel_rfl : selG _ _ = some []); clear hB_ hR_ hrel_
    replace hR := hR.reblk (b := ⟨0, 27, [.row 3]⟩) (by simp) [.v (.slice bd m bc)] [⟨1, 51, [.v (.bool false), .v (.int .i64 ((pos : Nat) : Int)), .v (.int .i64 ((n : Nat) : Int)), .v (.pointer none)]⟩, ⟨2, 40, [.v (.int .i16 ((r : Nat) : Int)), .v (.int .i16 ((c : Nat) : Int))]⟩] (by simp) (by simp only [dens, den, hv_])
    dsimp only at hR
    clear hv_
    have hfl0 := sl_flat hcells hfd (by omega)
    have hbcm : m ≤ bc := hcap_; have hbcx : bc ≤ 9223372036854775807 := hmax_
    refine reg_seq tab (k := 4) (hs := []) (sy := []) (ks := [10]) (bs := [0, 1]) (gs := [])
        (L' := [(10, .p 0 0)])
        (H' := [⟨0, 27, [.v (.slice bd m bc)]⟩, ⟨1, 51, [.v (.bool false), .v (.int .i64 ((pos : Nat) : Int)), .v (.int .i64 ((n : Nat) : Int)), .v (.pointer none)]⟩]) (G' := []) (k' := 4) hR hI (by kernel_rfl)
        .nil (fun e29 a29 w29 hag hR hI => ?_)
    replace hbn := (hag 1 (by decide)).1.trans hbn
    refine wp_ret ?_
    refine outF tab (xs := [.v (.slice bd m bc)]) hR hI (inv8 _ _) (idle8 _) rfl (by kernel_rfl) ?_
    exact ⟨fl, bd, bc, m, rfl, hB.fin hR, hfl0.fin hB hR, hfl, hbcm, hbcx, by rw [← hatn]; exact hbl⟩

set_option maxHeartbeats 4000000 in
set_option maxRecDepth 100000 in
theorem blk3T_spec {C : Nat → Prop} {w : World} {n p : Nat} {f : Nat → Bool} {ad : Option Addr} {l cap : Nat} (hn8 : n ≤ 32768) (hf : ∀ i, i < n → f i = true) :
    Calls P 6 #[.slice ad l cap, .int .i64 ((p : Nat) : Int), .int .i64 ((n : Nat) : Int), .int .i64 3, .bool true] w fun ex w' => ∃ (fl : List Nat) (bd : Option Addr) (bc m : Nat), ex = .returned (.slice bd m bc) ∧ Keep (fun b => b < w.heap.size) w w' ∧ Sl .i64 65536 (Grow C w w') w' bd fl.length fl ∧ fl.length = 2 * m ∧ m ≤ bc ∧ bc ≤ 9223372036854775807 ∧ Blks f 32767 0 fl n := by
  refine doorD (e := e0) (vs := [.v (.slice ad l cap), .v (.int .i64 ((p : Nat) : Int)), .v (.int .i64 ((n : Nat) : Int)), .v (.int .i64 3), .v (.bool true)]) (n := 60) (m := 5) Tryd.func6 rfl rfl rfl (by decide) fun a_ hI => ?_
  replace hI : Is 60 [] e0 [(0, .v (.slice ad l cap)), (1, .v (.int .i64 ((p : Nat) : Int))), (2, .v (.int .i64 ((n : Nat) : Int))), (3, .v (.int .i64 3)), (4, .v (.bool true))] a_ := hI
  have hR : Rel (fun b => b < w.heap.size) w e0 [] [] w := Rel.start (fun k hk => hk)
  have hB : Base C w C (fun b => b < w.heap.size) w := Base.start
  skip
  refine reg_seq tab (k := 0) (hs := []) (sy := []) (ks := [10, 0, 1, 2, 3, 4]) (bs := [0]) (gs := [])
      (L' := [(10, .p 0 0), (0, .v (.slice ad l cap)), (1, .v (.int .i64 ((p : Nat) : Int))), (2, .v (.int .i64 ((n : Nat) : Int))), (3, .v (.int .i64 3)), (4, .v (.bool true))])
      (H' := [⟨0, 27, [.v (.slice none 0 0)]⟩]) (G' := []) (k' := 1) hR hI (by kernel_rfl)
      .nil (fun e1 a1 w1 hag hR hI => ?_)
  refine wp_seq ?_
  refine reg (is := [0, 1]) (by kernel_rfl) ?_
  refine rawOp (x := .v (.func (.func 8) #[] #[.pointer (some ⟨e1.b 0, 0, none⟩)])) hI rfl rfl (by kernel_rfl) (fun ev hev => by simp [execOp, Instr.makeFunc, hev (.tmp 10) _ rfl, den]) (fun a2 hI => ?_)
  replace hI := hI.sel [14, 10, 0, 1, 2, 3, 4] (by kernel_rfl : sel _ _ = some [(14, .v (.func (.func 8) #[] #[.pointer (some ⟨e1.b 0, 0, none⟩)])), (10, .p 0 0), (0, .v (.slice ad l cap)), (1, .v (.int .i64 ((p : Nat) : Int))), (2, .v (.int .i64 ((n : Nat) : Int))), (3, .v (.int .i64 3)), (4, .v (.bool true))])
  refine deferFn hI rfl rfl rfl ⟨_, rfl, rfl, rfl⟩ rfl (fun a2 hI => ?_)
  replace hI := hI.sel [14, 10, 0, 1, 2, 3, 4] (by kernel_rfl : sel _ _ = some [(14, .v (.func (.func 8) #[] #[.pointer (some ⟨e1.b 0, 0, none⟩)])), (10, .p 0 0), (0, .v (.slice ad l cap)), (1, .v (.int .i64 ((p : Nat) : Int))), (2, .v (.int .i64 ((n : Nat) : Int))), (3, .v (.int .i64 3)), (4, .v (.bool true))])
  refine ops_nil ?_
  refine then_n ?_
  refine reg_seq tab (k := 1) (hs := []) (sy := []) (ks := [10, 0, 1, 2, 3, 4]) (bs := [0]) (gs := [])
      (L' := [(10, .p 0 0), (0, .v (.slice ad l cap)), (1, .v (.int .i64 ((p : Nat) : Int))), (2, .v (.int .i64 ((n : Nat) : Int))), (3, .v (.int .i64 3)), (4, .v (.bool true))])
      (H' := [⟨0, 27, [.v (.slice none 0 0)]⟩]) (G' := []) (k' := 1) hR hI (by kernel_rfl)
      .nil (fun e3 a3 w3 hag hR hI => ?_)
  refine wp_seq ?_
  refine reg_seq tab (k := 1) (hs := []) (sy := []) (ks := [15, 10, 0, 1, 2, 3, 4]) (bs := [0]) (gs := [])
      (L' := [(15, .v (.int .i64 3)), (10, .p 0 0), (0, .v (.slice ad l cap)), (1, .v (.int .i64 ((p : Nat) : Int))), (2, .v (.int .i64 ((n : Nat) : Int))), (3, .v (.int .i64 3)), (4, .v (.bool true))])
      (H' := [⟨0, 27, [.v (.slice none 0 0)]⟩]) (G' := []) (k' := 1) hR hI (by kernel_rfl)
      .nil (fun e4 a4 w4 hag hR hI => ?_)
  refine wp_block ?_
  refine reg_seq tab (k := 1) (hs := []) (sy := []) (ks := [27, 15, 10, 0, 1, 2, 3, 4]) (bs := [0]) (gs := [])
      (L' := [(27, .v (.bool false)), (15, .v (.int .i64 3)), (10, .p 0 0), (0, .v (.slice ad l cap)), (1, .v (.int .i64 ((p : Nat) : Int))), (2, .v (.int .i64 ((n : Nat) : Int))), (3, .v (.int .i64 3)), (4, .v (.bool true))])
      (H' := [⟨0, 27, [.v (.slice none 0 0)]⟩]) (G' := []) (k' := 1) hR hI (by kernel_rfl)
      .nil (fun e5 a5 w5 hag hR hI => ?_)
  refine cnd_f hI (by kernel_rfl) ?_
  refine reg_seq tab (k := 1) (hs := []) (sy := []) (ks := [34, 10, 0, 1, 2, 3, 4]) (bs := [0]) (gs := [])
      (L' := [(34, .v (.bool false)), (10, .p 0 0), (0, .v (.slice ad l cap)), (1, .v (.int .i64 ((p : Nat) : Int))), (2, .v (.int .i64 ((n : Nat) : Int))), (3, .v (.int .i64 3)), (4, .v (.bool true))])
      (H' := [⟨0, 27, [.v (.slice none 0 0)]⟩]) (G' := []) (k' := 1) hR hI (by kernel_rfl)
      .nil (fun e6 a6 w6 hag hR hI => ?_)
  refine cnd_f hI (by kernel_rfl) ?_
  refine wp_seq ?_
  refine reg_seq tab (k := 1) (hs := []) (sy := []) (ks := [16, 10, 0, 1, 2, 3]) (bs := [0]) (gs := [])
      (L' := [(16, .v (.bool true)), (10, .p 0 0), (0, .v (.slice ad l cap)), (1, .v (.int .i64 ((p : Nat) : Int))), (2, .v (.int .i64 ((n : Nat) : Int))), (3, .v (.int .i64 3))])
      (H' := [⟨0, 27, [.v (.slice none 0 0)]⟩]) (G' := []) (k' := 1) hR hI (by kernel_rfl)
      .nil (fun e7 a7 w7 hag hR hI => ?_)
  refine cnd_t hI (by kernel_rfl) ?_
  refine reg_all tab (k := 1) (hs := []) (sy := []) (ks := [0, 10, 1, 2, 3]) (bs := [0]) (gs := [])
      (L' := [(0, .v (.slice none 0 0)), (10, .p 0 0), (1, .v (.int .i64 ((p : Nat) : Int))), (2, .v (.int .i64 ((n : Nat) : Int))), (3, .v (.int .i64 3))])
      (H' := [⟨0, 27, [.v (.slice none 0 0)]⟩]) (G' := []) (k' := 1) hR hI (by kernel_rfl)
      .nil (fun e8 a8 w8 hag hR hI => ?_)
  refine then_n ?_
  refine wp_seq ?_
  refine reg (is := [0, 1, 2, 3, 4]) (by kernel_rfl) ?_
  refine part_ tab [0, 1, 2] [3, 4] (by rfl) (k := 1) (hs := []) (sy := []) (ks := [19, 18, 17, 10, 3]) (bs := [0]) (gs := [])
      (L' := [(19, .v (.int .i64 ((n : Nat) : Int))), (18, .v (.int .i64 ((p : Nat) : Int))), (17, .v (.slice none 0 0)), (10, .p 0 0), (3, .v (.int .i64 3))])
      (H' := [⟨0, 27, [.v (.slice none 0 0)]⟩]) (G' := []) (k' := 1) hR hI (by kernel_rfl)
      .nil (fun e9 a9 w9 hag hR hI => ?_)
  refine callOp (ys := [.v (.slice none 0 0), .v (.int .i64 ((p : Nat) : Int)), .v (.int .i64 ((n : Nat) : Int))]) hI rfl rfl ⟨_, rfl, rfl, rfl⟩ (by kernel_rfl) Tryd.func12 rfl rfl ?_
  have hBs := hB.size hR
  refine (newOptN_spec (C := C)).mono ?_
  rintro ex w10 ⟨b, rfl, hge, hnew, hk⟩
  obtain ⟨hag_, hnb_, hR_⟩ := hR.gotX (L := []) (k := 1) (cs := [.v (.bool false), .v (.int .i64 ((0 : Nat) : Int)), .v (.int .i64 ((n : Nat) : Int)), .v (.pointer none)]) (by kernel_rfl) (by kernel_rfl) hk hge hnew
  have hkF_ := hR.keepF hk
  have hB_ := hB.nextX hR hkF_ hge
  replace hI := hI.agreeB (H := [⟨0, 27, [.v (.slice none 0 0)]⟩]) (G := []) (by kernel_rfl) hag_
  replace hR := hR_; replace hB := hB_; clear hB_ hR_ hkF_ hk
  have hbn : (e9.addB 1 b).b 1 = b := addB_b _ _ _
  refine ⟨_, rfl, ?_⟩
  replace hI := hI.put (d := some 20) (x := .p 1 0) (by intro t ht; cases ht; decide) rfl
  replace hI := hI.sel [20, 19, 18, 17, 10, 3] (by kernel_rfl : sel _ _ = some [(20, .p 1 0), (19, .v (.int .i64 ((n : Nat) : Int))), (18, .v (.int .i64 ((p : Nat) : Int))), (17, .v (.slice none 0 0)), (10, .p 0 0), (3, .v (.int .i64 3))])
  refine part_ tab [4] [] (by rfl) (k := 2) (hs := []) (sy := []) (ks := [12, 10, 3]) (bs := [1, 0]) (gs := [])
      (L' := [(12, .p 1 0), (10, .p 0 0), (3, .v (.int .i64 3))])
      (H' := [⟨1, 51, [.v (.bool false), .v (.int .i64 ((0 : Nat) : Int)), .v (.int .i64 ((n : Nat) : Int)), .v (.pointer none)]⟩, ⟨0, 27, [.v (.slice none 0 0)]⟩]) (G' := []) (k' := 2) hR hI (by kernel_rfl)
      .nil (fun e11 a11 w11 hag hR hI => ?_)
  replace hbn := (hag 1 (by decide)).1.trans hbn
  refine ops_nil ?_
  refine then_n ?_
  refine wp_seq ?_
  refine reg (is := [0, 1, 2]) (by kernel_rfl) ?_
  refine part_ tab [0] [1, 2] (by rfl) (k := 2) (hs := []) (sy := []) (ks := [21, 12, 10, 3]) (bs := [1, 0]) (gs := [])
      (L' := [(21, .p 1 0), (12, .p 1 0), (10, .p 0 0), (3, .v (.int .i64 3))])
      (H' := [⟨1, 51, [.v (.bool false), .v (.int .i64 ((0 : Nat) : Int)), .v (.int .i64 ((n : Nat) : Int)), .v (.pointer none)]⟩, ⟨0, 27, [.v (.slice none 0 0)]⟩]) (G' := []) (k' := 2) hR hI (by kernel_rfl)
      .nil (fun e12 a12 w12 hag hR hI => ?_)
  replace hbn := (hag 1 (by decide)).1.trans hbn
  refine rawOp (x := .v (.func (.func 13) #[.pointer (some ⟨b, 0, none⟩)] #[])) hI rfl rfl (by kernel_rfl) (fun ev hev => by simp [execOp, Instr.makeFunc, hev (.tmp 21) _ rfl, den, hbn]) (fun a13 hI => ?_)
  replace hI := hI.sel [22, 21, 12, 10, 3] (by kernel_rfl : sel _ _ = some [(22, .v (.func (.func 13) #[.pointer (some ⟨b, 0, none⟩)] #[])), (21, .p 1 0), (12, .p 1 0), (10, .p 0 0), (3, .v (.int .i64 3))])
  refine part_ tab [2] [] (by rfl) (k := 2) (hs := []) (sy := []) (ks := [11, 12, 10, 3]) (bs := [1, 0]) (gs := [])
      (L' := [(11, .v (.func (.func 13) #[.pointer (some ⟨b, 0, none⟩)] #[])), (12, .p 1 0), (10, .p 0 0), (3, .v (.int .i64 3))])
      (H' := [⟨1, 51, [.v (.bool false), .v (.int .i64 ((0 : Nat) : Int)), .v (.int .i64 ((n : Nat) : Int)), .v (.pointer none)]⟩, ⟨0, 27, [.v (.slice none 0 0)]⟩]) (G' := []) (k' := 2) hR hI (by kernel_rfl)
      .nil (fun e14 a14 w14 hag hR hI => ?_)
  replace hbn := (hag 1 (by decide)).1.trans hbn
  refine ops_nil ?_
  refine then_n ?_
  refine reg_seq tab (k := 2) (hs := []) (sy := []) (ks := [24, 11, 12, 10]) (bs := [1, 0]) (gs := [])
      (L' := [(24, .v (.bool true)), (11, .v (.func (.func 13) #[.pointer (some ⟨b, 0, none⟩)] #[])), (12, .p 1 0), (10, .p 0 0)])
      (H' := [⟨1, 51, [.v (.bool false), .v (.int .i64 ((0 : Nat) : Int)), .v (.int .i64 ((n : Nat) : Int)), .v (.pointer none)]⟩, ⟨0, 27, [.v (.slice none 0 0)]⟩]) (G' := []) (k' := 2) hR hI (by kernel_rfl)
      .nil (fun e15 a15 w15 hag hR hI => ?_)
  replace hbn := (hag 1 (by decide)).1.trans hbn
  refine cnd_t hI (by kernel_rfl) ?_
  refine reg (is := [0, 1, 2]) (by kernel_rfl) ?_
  refine part_ tab [0] [1, 2] (by rfl) (k := 2) (hs := []) (sy := []) (ks := [25, 11, 10]) (bs := [1, 0]) (gs := [])
      (L' := [(25, .p 1 0), (11, .v (.func (.func 13) #[.pointer (some ⟨b, 0, none⟩)] #[])), (10, .p 0 0)])
      (H' := [⟨1, 51, [.v (.bool false), .v (.int .i64 ((0 : Nat) : Int)), .v (.int .i64 ((n : Nat) : Int)), .v (.pointer none)]⟩, ⟨0, 27, [.v (.slice none 0 0)]⟩]) (G' := []) (k' := 2) hR hI (by kernel_rfl)
      .nil (fun e16 a16 w16 hag hR hI => ?_)
  replace hbn := (hag 1 (by decide)).1.trans hbn
  refine rawOp (x := .v (.func (.func 14) #[.pointer (some ⟨b, 0, none⟩)] #[])) hI rfl rfl (by kernel_rfl) (fun ev hev => by simp [execOp, Instr.makeFunc, hev (.tmp 25) _ rfl, den, hbn]) (fun a17 hI => ?_)
  replace hI := hI.sel [26, 25, 11, 10] (by kernel_rfl : sel _ _ = some [(26, .v (.func (.func 14) #[.pointer (some ⟨b, 0, none⟩)] #[])), (25, .p 1 0), (11, .v (.func (.func 13) #[.pointer (some ⟨b, 0, none⟩)] #[])), (10, .p 0 0)])
  refine part_ tab [2] [] (by rfl) (k := 2) (hs := []) (sy := []) (ks := [11, 10]) (bs := [1, 0]) (gs := [])
      (L' := [(11, .v (.func (.func 14) #[.pointer (some ⟨b, 0, none⟩)] #[])), (10, .p 0 0)])
      (H' := [⟨1, 51, [.v (.bool false), .v (.int .i64 ((0 : Nat) : Int)), .v (.int .i64 ((n : Nat) : Int)), .v (.pointer none)]⟩, ⟨0, 27, [.v (.slice none 0 0)]⟩]) (G' := []) (k' := 2) hR hI (by kernel_rfl)
      .nil (fun e18 a18 w18 hag hR hI => ?_)
  replace hbn := (hag 1 (by decide)).1.trans hbn
  refine ops_nil ?_
  refine normal_block ?_
  refine then_n ?_
  refine wp_seq ?_
  refine wp_seq ?_
  refine reg (is := [0, 1, 2, 3]) (by kernel_rfl) ?_
  refine part_ tab [0] [1, 2, 3] (by rfl) (k := 2) (hs := []) (sy := []) (ks := [41, 11, 10]) (bs := [1, 0]) (gs := [])
      (L' := [(41, .v (.func (.func 14) #[.pointer (some ⟨b, 0, none⟩)] #[])), (11, .v (.func (.func 14) #[.pointer (some ⟨b, 0, none⟩)] #[])), (10, .p 0 0)])
      (H' := [⟨1, 51, [.v (.bool false), .v (.int .i64 ((0 : Nat) : Int)), .v (.int .i64 ((n : Nat) : Int)), .v (.pointer none)]⟩, ⟨0, 27, [.v (.slice none 0 0)]⟩]) (G' := []) (k' := 2) hR hI (by kernel_rfl)
      .nil (fun e19 a19 w19 hag hR hI => ?_)
  replace hbn := (hag 1 (by decide)).1.trans hbn
  refine callB0 hI rfl rfl ⟨_, rfl, rfl, rfl⟩ (by kernel_rfl : arg _ _ = some (.v (.func (.func 14) #[.pointer (some ⟨b, 0, none⟩)] #[]))) Tryd.func14 rfl rfl ?_
  have hblk_ := hR.blk ⟨1, 51, [.v (.bool false), .v (.int .i64 ((0 : Nat) : Int)), .v (.int .i64 ((n : Nat) : Int)), .v (.pointer none)]⟩ (by simp)
  refine (optBlockN_spec (C := fun _ => False) (by have h9 := hblk_.1; dsimp only at h9; rw [hbn] at h9; exact h9) (fun h => h) (by omega) (by omega)).mono ?_
  rintro ex w20 ⟨r, rfl, hk, hnew, hstr⟩
  rw [← hbn] at hk hnew
  have hkF_ := hR.keepB (b := ⟨1, 51, [.v (.bool false), .v (.int .i64 ((0 : Nat) : Int)), .v (.int .i64 ((n : Nat) : Int)), .v (.pointer none)]⟩) (by simp) hk
  have hB_ := hB.nextF hR hkF_
  replace hR := hR.turned (b := ⟨1, 51, [.v (.bool false), .v (.int .i64 ((0 : Nat) : Int)), .v (.int .i64 ((n : Nat) : Int)), .v (.pointer none)]⟩) (by simp) [.v (.bool false), .v (.int .i64 ((0 + r : Nat) : Int)), .v (.int .i64 ((n : Nat) : Int)), .v (.pointer none)] [⟨0, 27, [.v (.slice none 0 0)]⟩] (by simp) hk hnew
  dsimp only at hR; replace hB := hB_; clear hB_ hk hkF_ hblk_
  refine ⟨_, rfl, ?_⟩
  replace hI := hI.put (d := some 42) (x := .v (.agg #[.int .i16 ((r : Nat) : Int), .int .i16 ((r : Nat) : Int)])) (by intro t ht; cases ht; decide) rfl
  replace hI := hI.sel [42, 41, 11, 10] (by kernel_rfl : sel _ _ = some [(42, .v (.agg #[.int .i16 ((r : Nat) : Int), .int .i16 ((r : Nat) : Int)])), (41, .v (.func (.func 14) #[.pointer (some ⟨b, 0, none⟩)] #[])), (11, .v (.func (.func 14) #[.pointer (some ⟨b, 0, none⟩)] #[])), (10, .p 0 0)])
  refine part_ tab [2, 3] [] (by rfl) (k := 2) (hs := []) (sy := []) (ks := [13, 11, 10]) (bs := [2, 1, 0]) (gs := [])
      (L' := [(13, .p 2 0), (11, .v (.func (.func 14) #[.pointer (some ⟨b, 0, none⟩)] #[])), (10, .p 0 0)])
      (H' := [⟨2, 40, [.v (.int .i16 ((r : Nat) : Int)), .v (.int .i16 ((r : Nat) : Int))]⟩, ⟨1, 51, [.v (.bool false), .v (.int .i64 ((0 + r : Nat) : Int)), .v (.int .i64 ((n : Nat) : Int)), .v (.pointer none)]⟩, ⟨0, 27, [.v (.slice none 0 0)]⟩]) (G' := []) (k' := 3) hR hI (by kernel_rfl)
      .nil (fun e21 a21 w21 hag hR hI => ?_)
  replace hbn := (hag 1 (by decide)).1.trans hbn
  refine ops_nil ?_
  refine then_n ?_
  refine wp_block ?_
  obtain ⟨e22, hag_, hr_, hR_⟩ := hR.nilRow (L := [(13, .p 2 0), (11, .v (.func (.func 14) #[.pointer (some ⟨b, 0, none⟩)] #[])), (10, .p 0 0)]) 3 (by kernel_rfl) 30 2
  replace hbn := (hag_ 1 (by decide)).1.trans hbn
  replace hI := hI.agreeB (H := [⟨2, 40, [.v (.int .i16 ((r : Nat) : Int)), .v (.int .i16 ((r : Nat) : Int))]⟩, ⟨1, 51, [.v (.bool false), .v (.int .i64 ((0 + r : Nat) : Int)), .v (.int .i64 ((n : Nat) : Int)), .v (.pointer none)]⟩, ⟨0, 27, [.v (.slice none 0 0)]⟩]) (G := []) (by kernel_rfl) hag_; replace hR := hR_; clear hag_ hR_
  replace hR := hR.reblk (b := ⟨0, 27, [.v (.slice none 0 0)]⟩) (by simp) [.row 3] [⟨2, 40, [.v (.int .i16 ((r : Nat) : Int)), .v (.int .i16 ((r : Nat) : Int))]⟩, ⟨1, 51, [.v (.bool false), .v (.int .i64 ((0 + r : Nat) : Int)), .v (.int .i64 ((n : Nat) : Int)), .v (.pointer none)]⟩] (by simp) (by simp only [dens, den, hr_])
  dsimp only at hR
  clear hr_
  refine lpM (γ := Nat × Nat × Nat × Nat × Nat × List Nat) (fun (r, c, m, at', pos, fl) => (⟨[(10, .p 0 0), (11, .v (.func (.func 14) #[.pointer (some ⟨b, 0, none⟩)] #[])), (13, .p 2 0)], [⟨0, 27, [.row 3]⟩, ⟨1, 51, [.v (.bool false), .v (.int .i64 ((pos : Nat) : Int)), .v (.int .i64 ((n : Nat) : Int)), .v (.pointer none)]⟩, ⟨2, 40, [.v (.int .i16 ((r : Nat) : Int)), .v (.int .i16 ((c : Nat) : Int))]⟩], [⟨3, 30, 2, m, (ints .i64 fl)⟩], 4⟩ : Sy)) (fun (r, c, m, at', pos, fl) e C F wb => e.b 1 = b ∧ at' + r = pos ∧ pos ≤ n ∧ r ≤ 32767 ∧ (r = 0 → pos = n) ∧ c = r ∧ fl.length = 2 * m ∧ m ≤ at' ∧ Blks f 32767 0 fl at' ∧ ∀ d ∈ fl, d < 65536) (fun (r, c, m, at', pos, fl) => n - at') (r, r, 0, 0, 0 + r, []) hB (⟨hbn, by omega, by omega, by omega, fun h => by omega, rfl, rfl, Nat.le_refl _, rfl, fun d h => (by cases h)⟩)
      (hR.sel [0, 1, 2] [3] (by kernel_rfl) (by kernel_rfl)) (hI.sel [10, 11, 13] (by kernel_rfl)) ?_
  clear hR hI hB
  rintro ⟨r, c, m, at', pos, fl⟩ e23 C23 F23 wb23 a23 w23 hB hp hR hI
  dsimp only at hp hR hI
  obtain ⟨hbn, hat, hpn, hrM, hr0, hcc, hfl, hmat, hbl, hfd⟩ := hp
  refine wp_seq ?_
  refine reg_seq tab (k := 4) (hs := []) (sy := []) (ks := [45, 10, 11, 13]) (bs := [0, 1, 2]) (gs := [3])
      (L' := [(45, .v (.bool (((r : Nat) : Int) != (0 : Int)))), (10, .p 0 0), (11, .v (.func (.func 14) #[.pointer (some ⟨b, 0, none⟩)] #[])), (13, .p 2 0)])
      (H' := [⟨0, 27, [.row 3]⟩, ⟨1, 51, [.v (.bool false), .v (.int .i64 ((pos : Nat) : Int)), .v (.int .i64 ((n : Nat) : Int)), .v (.pointer none)]⟩, ⟨2, 40, [.v (.int .i16 ((r : Nat) : Int)), .v (.int .i16 ((c : Nat) : Int))]⟩]) (G' := [⟨3, 30, 2, m, (ints .i64 fl)⟩]) (k' := 4) hR hI (by kernel_rfl)
      .nil (fun e24 a24 w24 hag hR hI => ?_)
  replace hbn := (hag 1 (by decide)).1.trans hbn
  refine cnd (b := (((r : Nat) : Int) != (0 : Int))) hI (by kernel_rfl) (fun hc25 => ?_) (fun hc25 => ?_)
  · skip
    replace hI := hI.re 45 (.v (.bool true)) rfl (congrArg Value.bool hc25)
    try simp only [decide_eq_true_eq, decide_eq_false_iff_not, beq_iff_eq, bne_iff_ne, beq_eq_false_iff_ne, bne_eq_false_iff_eq, Bool.and_eq_true, Bool.and_eq_false_iff, Bool.or_eq_true, Bool.or_eq_false_iff, Bool.not_eq_true', Bool.not_eq_false', ne_eq] at hc25
    have hrp : 0 < r := by omega
    refine wp_skip ?_
    refine then_n ?_
    refine wp_seq ?_
    refine wp_block ?_
    refine reg_all tab (k := 4) (hs := [(3, .nw), (6, .nw)]) (sy := []) (ks := [10, 11, 13]) (bs := [0, 1, 2]) (gs := [5])
        (L' := [(10, .p 0 0), (11, .v (.func (.func 14) #[.pointer (some ⟨b, 0, none⟩)] #[])), (13, .p 2 0)])
        (H' := [⟨0, 27, [.row 5]⟩, ⟨1, 51, [.v (.bool false), .v (.int .i64 ((pos : Nat) : Int)), .v (.int .i64 ((n : Nat) : Int)), .v (.pointer none)]⟩, ⟨2, 40, [.v (.int .i16 ((r : Nat) : Int)), .v (.int .i16 ((c : Nat) : Int))]⟩]) (G' := [⟨5, 30, 2, (m + 1), ((ints .i64 fl) ++ [.int .i64 ((r : Nat) : Int), .int .i64 ((c : Nat) : Int)])⟩]) (k' := 6) hR hI (by kernel_rfl)
        (.cons (inR_i64 (n := ((r : Nat) : Int)) (by omega)) (.cons (inR_i64 (n := ((c : Nat) : Int)) (by omega)) (.cons (by have hm_ : maxLen = 9223372036854775807 := rfl; rw [hm_]; omega : m + 1 ≤ maxLen) (.cons (by omega : (m + 1) * 16 ≤ 140737488355328) .nil)))) (fun e26 a26 w26 hag hR hI => ?_)
    replace hbn := (hag 1 (by decide)).1.trans hbn
    refine normal_block ?_
    refine then_n ?_
    refine wp_seq ?_
    refine reg_seq tab (k := 6) (hs := []) (sy := []) (ks := [58, 10, 11]) (bs := [0, 1]) (gs := [5])
        (L' := [(58, .agg [.v (.int .i16 ((r : Nat) : Int)), .v (.int .i16 ((c : Nat) : Int))]), (10, .p 0 0), (11, .v (.func (.func 14) #[.pointer (some ⟨b, 0, none⟩)] #[]))])
        (H' := [⟨0, 27, [.row 5]⟩, ⟨1, 51, [.v (.bool false), .v (.int .i64 ((pos : Nat) : Int)), .v (.int .i64 ((n : Nat) : Int)), .v (.pointer none)]⟩]) (G' := [⟨5, 30, 2, (m + 1), ((ints .i64 fl) ++ [.int .i64 ((r : Nat) : Int), .int .i64 ((c : Nat) : Int)])⟩]) (k' := 6) hR hI (by kernel_rfl)
        .nil (fun e27 a27 w27 hag hR hI => ?_)
    replace hbn := (hag 1 (by decide)).1.trans hbn
    refine reg_all tab (k := 6) (hs := []) (sy := []) (ks := [13, 10, 11]) (bs := [6, 0, 1]) (gs := [5])
        (L' := [(13, .p 6 0), (10, .p 0 0), (11, .v (.func (.func 14) #[.pointer (some ⟨b, 0, none⟩)] #[]))])
        (H' := [⟨6, 40, [.v (.int .i16 ((r : Nat) : Int)), .v (.int .i16 ((c : Nat) : Int))]⟩, ⟨0, 27, [.row 5]⟩, ⟨1, 51, [.v (.bool false), .v (.int .i64 ((pos : Nat) : Int)), .v (.int .i64 ((n : Nat) : Int)), .v (.pointer none)]⟩]) (G' := [⟨5, 30, 2, (m + 1), ((ints .i64 fl) ++ [.int .i64 ((r : Nat) : Int), .int .i64 ((c : Nat) : Int)])⟩]) (k' := 7) hR hI (by kernel_rfl)
        .nil (fun e28 a28 w28 hag hR hI => ?_)
    replace hbn := (hag 1 (by decide)).1.trans hbn
    refine then_n ?_
    refine reg (is := [0, 1, 2]) (by kernel_rfl) ?_
    refine part_ tab [0] [1, 2] (by rfl) (k := 7) (hs := []) (sy := []) (ks := [46, 13, 10, 11]) (bs := [6, 0, 1]) (gs := [5])
        (L' := [(46, .v (.func (.func 14) #[.pointer (some ⟨b, 0, none⟩)] #[])), (13, .p 6 0), (10, .p 0 0), (11, .v (.func (.func 14) #[.pointer (some ⟨b, 0, none⟩)] #[]))])
        (H' := [⟨6, 40, [.v (.int .i16 ((r : Nat) : Int)), .v (.int .i16 ((c : Nat) : Int))]⟩, ⟨0, 27, [.row 5]⟩, ⟨1, 51, [.v (.bool false), .v (.int .i64 ((pos : Nat) : Int)), .v (.int .i64 ((n : Nat) : Int)), .v (.pointer none)]⟩]) (G' := [⟨5, 30, 2, (m + 1), ((ints .i64 fl) ++ [.int .i64 ((r : Nat) : Int), .int .i64 ((c : Nat) : Int)])⟩]) (k' := 7) hR hI (by kernel_rfl)
        .nil (fun e29 a29 w29 hag hR hI => ?_)
    replace hbn := (hag 1 (by decide)).1.trans hbn
    refine callB0 hI rfl rfl ⟨_, rfl, rfl, rfl⟩ (by kernel_rfl : arg _ _ = some (.v (.func (.func 14) #[.pointer (some ⟨b, 0, none⟩)] #[]))) Tryd.func14 rfl rfl ?_
    have hblk_ := hR.blk ⟨1, 51, [.v (.bool false), .v (.int .i64 ((pos : Nat) : Int)), .v (.int .i64 ((n : Nat) : Int)), .v (.pointer none)]⟩ (by simp)
    refine (optBlockN_spec (C := fun _ => False) (by have h9 := hblk_.1; dsimp only at h9; rw [hbn] at h9; exact h9) (fun h => h) (by omega) (by omega)).mono ?_
    rintro ex w30 ⟨r2, rfl, hk, hnew, hstr2⟩
    rw [← hbn] at hk hnew
    have hkF_ := hR.keepB (b := ⟨1, 51, [.v (.bool false), .v (.int .i64 ((pos : Nat) : Int)), .v (.int .i64 ((n : Nat) : Int)), .v (.pointer none)]⟩) (by simp) hk
    have hB_ := hB.nextF hR hkF_
    replace hR := hR.turned (b := ⟨1, 51, [.v (.bool false), .v (.int .i64 ((pos : Nat) : Int)), .v (.int .i64 ((n : Nat) : Int)), .v (.pointer none)]⟩) (by simp) [.v (.bool false), .v (.int .i64 ((pos + r2 : Nat) : Int)), .v (.int .i64 ((n : Nat) : Int)), .v (.pointer none)] [⟨6, 40, [.v (.int .i16 ((r : Nat) : Int)), .v (.int .i16 ((c : Nat) : Int))]⟩, ⟨0, 27, [.row 5]⟩] (by simp) hk hnew
    dsimp only at hR; replace hB := hB_; clear hB_ hk hkF_ hblk_
    refine ⟨_, rfl, ?_⟩
    replace hI := hI.put (d := some 47) (x := .v (.agg #[.int .i16 ((r2 : Nat) : Int), .int .i16 ((r2 : Nat) : Int)])) (by intro t ht; cases ht; decide) rfl
    replace hI := hI.sel [47, 46, 13, 10, 11] (by kernel_rfl : sel _ _ = some [(47, .v (.agg #[.int .i16 ((r2 : Nat) : Int), .int .i16 ((r2 : Nat) : Int)])), (46, .v (.func (.func 14) #[.pointer (some ⟨b, 0, none⟩)] #[])), (13, .p 6 0), (10, .p 0 0), (11, .v (.func (.func 14) #[.pointer (some ⟨b, 0, none⟩)] #[]))])
    refine part_ tab [2] [] (by rfl) (k := 7) (hs := []) (sy := []) (ks := [13, 10, 11]) (bs := [6, 1, 0]) (gs := [5])
        (L' := [(13, .p 6 0), (10, .p 0 0), (11, .v (.func (.func 14) #[.pointer (some ⟨b, 0, none⟩)] #[]))])
        (H' := [⟨6, 40, [.v (.int .i16 ((r2 : Nat) : Int)), .v (.int .i16 ((r2 : Nat) : Int))]⟩, ⟨1, 51, [.v (.bool false), .v (.int .i64 ((pos + r2 : Nat) : Int)), .v (.int .i64 ((n : Nat) : Int)), .v (.pointer none)]⟩, ⟨0, 27, [.row 5]⟩]) (G' := [⟨5, 30, 2, (m + 1), ((ints .i64 fl) ++ [.int .i64 ((r : Nat) : Int), .int .i64 ((c : Nat) : Int)])⟩]) (k' := 7) hR hI (by kernel_rfl)
        .nil (fun e31 a31 w31 hag hR hI => ?_)
    replace hbn := (hag 1 (by decide)).1.trans hbn
    refine ops_nil ?_
    refine then_n ?_
    rw [ints_two] at hR
    have hren_ : Sy.ren [(3, 5), (2, 6)] ⟨[(13, .p 2 0), (10, .p 0 0), (11, .v (.func (.func 14) #[.pointer (some ⟨b, 0, none⟩)] #[]))], [⟨2, 40, [.v (.int .i16 ((r2 : Nat) : Int)), .v (.int .i16 ((r2 : Nat) : Int))]⟩, ⟨1, 51, [.v (.bool false), .v (.int .i64 ((pos + r2 : Nat) : Int)), .v (.int .i64 ((n : Nat) : Int)), .v (.pointer none)]⟩, ⟨0, 27, [.row 3]⟩], [⟨3, 30, 2, (m + 1), (ints .i64 (fl ++ [r, c]))⟩], 0⟩ = ⟨[(13, .p 6 0), (10, .p 0 0), (11, .v (.func (.func 14) #[.pointer (some ⟨b, 0, none⟩)] #[]))], [⟨6, 40, [.v (.int .i16 ((r2 : Nat) : Int)), .v (.int .i16 ((r2 : Nat) : Int))]⟩, ⟨1, 51, [.v (.bool false), .v (.int .i64 ((pos + r2 : Nat) : Int)), .v (.int .i64 ((n : Nat) : Int)), .v (.pointer none)]⟩, ⟨0, 27, [.row 5]⟩], [⟨5, 30, 2, (m + 1), (ints .i64 (fl ++ [r, c]))⟩], 0⟩ := by kernel_rfl
    replace hI := hI.rename (S := ⟨[(13, .p 6 0), (10, .p 0 0), (11, .v (.func (.func 14) #[.pointer (some ⟨b, 0, none⟩)] #[]))], [⟨6, 40, [.v (.int .i16 ((r2 : Nat) : Int)), .v (.int .i16 ((r2 : Nat) : Int))]⟩, ⟨1, 51, [.v (.bool false), .v (.int .i64 ((pos + r2 : Nat) : Int)), .v (.int .i64 ((n : Nat) : Int)), .v (.pointer none)]⟩, ⟨0, 27, [.row 5]⟩], [⟨5, 30, 2, (m + 1), (ints .i64 (fl ++ [r, c]))⟩], 0⟩) (S' := ⟨[(13, .p 2 0), (10, .p 0 0), (11, .v (.func (.func 14) #[.pointer (some ⟨b, 0, none⟩)] #[]))], [⟨2, 40, [.v (.int .i16 ((r2 : Nat) : Int)), .v (.int .i16 ((r2 : Nat) : Int))]⟩, ⟨1, 51, [.v (.bool false), .v (.int .i64 ((pos + r2 : Nat) : Int)), .v (.int .i64 ((n : Nat) : Int)), .v (.pointer none)]⟩, ⟨0, 27, [.row 3]⟩], [⟨3, 30, 2, (m + 1), (ints .i64 (fl ++ [r, c]))⟩], 0⟩) hren_; replace hR := hR.rename (S := ⟨[(13, .p 6 0), (10, .p 0 0), (11, .v (.func (.func 14) #[.pointer (some ⟨b, 0, none⟩)] #[]))], [⟨6, 40, [.v (.int .i16 ((r2 : Nat) : Int)), .v (.int .i16 ((r2 : Nat) : Int))]⟩, ⟨1, 51, [.v (.bool false), .v (.int .i64 ((pos + r2 : Nat) : Int)), .v (.int .i64 ((n : Nat) : Int)), .v (.pointer none)]⟩, ⟨0, 27, [.row 5]⟩], [⟨5, 30, 2, (m + 1), (ints .i64 (fl ++ [r, c]))⟩], 0⟩) (S' := ⟨[(13, .p 2 0), (10, .p 0 0), (11, .v (.func (.func 14) #[.pointer (some ⟨b, 0, none⟩)] #[]))], [⟨2, 40, [.v (.int .i16 ((r2 : Nat) : Int)), .v (.int .i16 ((r2 : Nat) : Int))]⟩, ⟨1, 51, [.v (.bool false), .v (.int .i64 ((pos + r2 : Nat) : Int)), .v (.int .i64 ((n : Nat) : Int)), .v (.pointer none)]⟩, ⟨0, 27, [.row 3]⟩], [⟨3, 30, 2, (m + 1), (ints .i64 (fl ++ [r, c]))⟩], 0⟩) hren_ (by kernel_rfl) (by kernel_rfl); dsimp only at hI hR; clear hren_
    replace hbn : (Env.ren e31 [(3, 5), (2, 6)]).b 1 = _ := hbn
    exact ⟨(r2, r2, m + 1, at' + r, pos + r2, fl ++ [r, c]), _, _, _, _, hB, ⟨hbn, by omega, by omega, by omega, fun h => by omega, rfl, fls hfl, by omega, hbl.snoc (by omega) hrM (by rw [hcc]; exact ((cnt_congr (g := fun _ => true) (fun i hi => hf _ (by omega))).trans (cnt_true r)).symm), pair_dig hfd (by omega) (by omega)⟩, (by (try dsimp only); omega), hR.sel [0, 1, 2] [3] (by kernel_rfl) (by kernel_rfl), hI.sel [10, 11, 13] (by kernel_rfl)⟩
  · skip
    replace hI := hI.re 45 (.v (.bool false)) rfl (congrArg Value.bool hc25)
    try simp only [decide_eq_true_eq, decide_eq_false_iff_not, beq_iff_eq, bne_iff_ne, beq_eq_false_iff_ne, bne_eq_false_iff_eq, Bool.and_eq_true, Bool.and_eq_false_iff, Bool.or_eq_true, Bool.or_eq_false_iff, Bool.not_eq_true', Bool.not_eq_false', ne_eq] at hc25
    have hrz : r = 0 := by omega
    have hrem := hr0 hrz
    refine wp_exit ?_
    refine exit_then ?_
    refine exit_then ?_
    refine exit_hit ?_
    refine then_n ?_
    have hatn : at' = n := by omega
    obtain ⟨hB_, hR_, hrel_, bd, bc, hv_, hcells, hlen_, hcap_, hmax_⟩ := hB.releaseN hR (y := ⟨3, 30, 2, m, (ints .i64 fl)⟩) (by simp) _ dropN_mem
    replace hB := hB_; replace hR := hR_.sel [0, 1, 2] [] (by kernel_rfl : selH _ _ = some [⟨0, 27, [.row 3]⟩, ⟨1, 51, [.v (.bool false), .v (.int .i64 ((pos : Nat) : Int)), .v (.int .i64 ((n : Nat) : Int)), .v (.pointer none)]⟩, ⟨2, 40, [.v (.int .i16 ((r : Nat) : Int)), .v (.int .i16 ((c : Nat) : Int))]⟩]) (by kernel_rfl : selG _ _ = some []); clear hB_ hR_ hrel_
    replace hR := hR.reblk (b := ⟨0, 27, [.row 3]⟩) (by simp) [.v (.slice bd m bc)] [⟨1, 51, [.v (.bool false), .v (.int .i64 ((pos : Nat) : Int)), .v (.int .i64 ((n : Nat) : Int)), .v (.pointer none)]⟩, ⟨2, 40, [.v (.int .i16 ((r : Nat) : Int)), .v (.int .i16 ((c : Nat) : Int))]⟩] (by simp) (by simp only [dens, den, hv_])
    dsimp only at hR
    clear hv_
    have hfl0 := sl_flat hcells hfd (by omega)
    have hbcm : m ≤ bc := hcap_; have hbcx : bc ≤ 9223372036854775807 := hmax_
    refine reg_seq tab (k := 4) (hs := []) (sy := []) (ks := [10]) (bs := [0, 1]) (gs := [])
        (L' := [(10, .p 0 0)])
        (H' := [⟨0, 27, [.v (.slice bd m bc)]⟩, ⟨1, 51, [.v (.bool false), .v (.int .i64 ((pos : Nat) : Int)), .v (.int .i64 ((n : Nat) : Int)), .v (.pointer none)]⟩]) (G' := []) (k' := 4) hR hI (by kernel_rfl)
        .nil (fun e32 a32 w32 hag hR hI => ?_)
    replace hbn := (hag 1 (by decide)).1.trans hbn
    refine wp_ret ?_
    refine outF tab (xs := [.v (.slice bd m bc)]) hR hI (inv8 _ _) (idle8 _) rfl (by kernel_rfl) ?_
    exact ⟨fl, bd, bc, m, rfl, hB.fin hR, hfl0.fin hB hR, hfl, hbcm, hbcx, by rw [← hatn]; exact hbl⟩

set_option maxHeartbeats 4000000 in
set_option maxRecDepth 100000 in
theorem blk2N_spec {C : Nat → Prop} {w : World} {n p : Nat} {f : Nat → Bool} {ad : Option Addr} {l cap : Nat} (hn8 : n ≤ 32768) (hf : ∀ i, i < n → f i = true) :
    Calls P 6 #[.slice none l cap, .int .i64 ((p : Nat) : Int), .int .i64 ((n : Nat) : Int), .int .i64 2, .bool false] w fun ex w' => ∃ (fl : List Nat) (bd : Option Addr) (bc m : Nat), ex = .returned (.slice bd m bc) ∧ Keep (fun b => b < w.heap.size) w w' ∧ Sl .i64 65536 (Grow C w w') w' bd fl.length fl ∧ fl.length = 2 * m ∧ m ≤ bc ∧ bc ≤ 9223372036854775807 ∧ Blks f 64 0 fl n := by
  refine doorD (e := e0) (vs := [.v (.slice none l cap), .v (.int .i64 ((p : Nat) : Int)), .v (.int .i64 ((n : Nat) : Int)), .v (.int .i64 2), .v (.bool false)]) (n := 60) (m := 5) Tryd.func6 rfl rfl rfl (by decide) fun a_ hI => ?_
  replace hI : Is 60 [] e0 [(0, .v (.slice none l cap)), (1, .v (.int .i64 ((p : Nat) : Int))), (2, .v (.int .i64 ((n : Nat) : Int))), (3, .v (.int .i64 2)), (4, .v (.bool false))] a_ := hI
  have hR : Rel (fun b => b < w.heap.size) w e0 [] [] w := Rel.start (fun k hk => hk)
  have hB : Base C w C (fun b => b < w.heap.size) w := Base.start
  skip
  refine reg_seq tab (k := 0) (hs := []) (sy := []) (ks := [10, 0, 1, 2, 3, 4]) (bs := [0]) (gs := [])
      (L' := [(10, .p 0 0), (0, .v (.slice none l cap)), (1, .v (.int .i64 ((p : Nat) : Int))), (2, .v (.int .i64 ((n : Nat) : Int))), (3, .v (.int .i64 2)), (4, .v (.bool false))])
      (H' := [⟨0, 27, [.v (.slice none 0 0)]⟩]) (G' := []) (k' := 1) hR hI (by kernel_rfl)
      .nil (fun e1 a1 w1 hag hR hI => ?_)
  refine wp_seq ?_
  refine reg (is := [0, 1]) (by kernel_rfl) ?_
  refine rawOp (x := .v (.func (.func 8) #[] #[.pointer (some ⟨e1.b 0, 0, none⟩)])) hI rfl rfl (by kernel_rfl) (fun ev hev => by simp [execOp, Instr.makeFunc, hev (.tmp 10) _ rfl, den]) (fun a2 hI => ?_)
  replace hI := hI.sel [14, 10, 0, 1, 2, 3, 4] (by kernel_rfl : sel _ _ = some [(14, .v (.func (.func 8) #[] #[.pointer (some ⟨e1.b 0, 0, none⟩)])), (10, .p 0 0), (0, .v (.slice none l cap)), (1, .v (.int .i64 ((p : Nat) : Int))), (2, .v (.int .i64 ((n : Nat) : Int))), (3, .v (.int .i64 2)), (4, .v (.bool false))])
  refine deferFn hI rfl rfl rfl ⟨_, rfl, rfl, rfl⟩ rfl (fun a2 hI => ?_)
  replace hI := hI.sel [14, 10, 0, 1, 2, 3, 4] (by kernel_rfl : sel _ _ = some [(14, .v (.func (.func 8) #[] #[.pointer (some ⟨e1.b 0, 0, none⟩)])), (10, .p 0 0), (0, .v (.slice none l cap)), (1, .v (.int .i64 ((p : Nat) : Int))), (2, .v (.int .i64 ((n : Nat) : Int))), (3, .v (.int .i64 2)), (4, .v (.bool false))])
  refine ops_nil ?_
  refine then_n ?_
  refine reg_seq tab (k := 1) (hs := []) (sy := []) (ks := [10, 0, 1, 2, 3, 4]) (bs := [0]) (gs := [])
      (L' := [(10, .p 0 0), (0, .v (.slice none l cap)), (1, .v (.int .i64 ((p : Nat) : Int))), (2, .v (.int .i64 ((n : Nat) : Int))), (3, .v (.int .i64 2)), (4, .v (.bool false))])
      (H' := [⟨0, 27, [.v (.slice none 0 0)]⟩]) (G' := []) (k' := 1) hR hI (by kernel_rfl)
      .nil (fun e3 a3 w3 hag hR hI => ?_)
  refine wp_seq ?_
  refine reg_seq tab (k := 1) (hs := []) (sy := []) (ks := [15, 10, 0, 1, 2, 3, 4]) (bs := [0]) (gs := [])
      (L' := [(15, .v (.int .i64 2)), (10, .p 0 0), (0, .v (.slice none l cap)), (1, .v (.int .i64 ((p : Nat) : Int))), (2, .v (.int .i64 ((n : Nat) : Int))), (3, .v (.int .i64 2)), (4, .v (.bool false))])
      (H' := [⟨0, 27, [.v (.slice none 0 0)]⟩]) (G' := []) (k' := 1) hR hI (by kernel_rfl)
      .nil (fun e4 a4 w4 hag hR hI => ?_)
  refine wp_block ?_
  refine reg_seq tab (k := 1) (hs := []) (sy := []) (ks := [27, 15, 10, 0, 1, 2, 3, 4]) (bs := [0]) (gs := [])
      (L' := [(27, .v (.bool false)), (15, .v (.int .i64 2)), (10, .p 0 0), (0, .v (.slice none l cap)), (1, .v (.int .i64 ((p : Nat) : Int))), (2, .v (.int .i64 ((n : Nat) : Int))), (3, .v (.int .i64 2)), (4, .v (.bool false))])
      (H' := [⟨0, 27, [.v (.slice none 0 0)]⟩]) (G' := []) (k' := 1) hR hI (by kernel_rfl)
      .nil (fun e5 a5 w5 hag hR hI => ?_)
  refine cnd_f hI (by kernel_rfl) ?_
  refine reg_seq tab (k := 1) (hs := []) (sy := []) (ks := [34, 10, 0, 1, 2, 3, 4]) (bs := [0]) (gs := [])
      (L' := [(34, .v (.bool false)), (10, .p 0 0), (0, .v (.slice none l cap)), (1, .v (.int .i64 ((p : Nat) : Int))), (2, .v (.int .i64 ((n : Nat) : Int))), (3, .v (.int .i64 2)), (4, .v (.bool false))])
      (H' := [⟨0, 27, [.v (.slice none 0 0)]⟩]) (G' := []) (k' := 1) hR hI (by kernel_rfl)
      .nil (fun e6 a6 w6 hag hR hI => ?_)
  refine cnd_f hI (by kernel_rfl) ?_
  refine wp_seq ?_
  refine reg_seq tab (k := 1) (hs := []) (sy := []) (ks := [16, 10, 0, 1, 2, 3]) (bs := [0]) (gs := [])
      (L' := [(16, .v (.bool false)), (10, .p 0 0), (0, .v (.slice none l cap)), (1, .v (.int .i64 ((p : Nat) : Int))), (2, .v (.int .i64 ((n : Nat) : Int))), (3, .v (.int .i64 2))])
      (H' := [⟨0, 27, [.v (.slice none 0 0)]⟩]) (G' := []) (k' := 1) hR hI (by kernel_rfl)
      .nil (fun e7 a7 w7 hag hR hI => ?_)
  refine cnd_f hI (by kernel_rfl) ?_
  refine wp_skip ?_
  refine then_n ?_
  refine wp_seq ?_
  refine reg (is := [0, 1, 2, 3, 4]) (by kernel_rfl) ?_
  refine part_ tab [0, 1, 2] [3, 4] (by rfl) (k := 1) (hs := []) (sy := []) (ks := [19, 18, 17, 10, 3]) (bs := [0]) (gs := [])
      (L' := [(19, .v (.int .i64 ((n : Nat) : Int))), (18, .v (.int .i64 ((p : Nat) : Int))), (17, .v (.slice none l cap)), (10, .p 0 0), (3, .v (.int .i64 2))])
      (H' := [⟨0, 27, [.v (.slice none 0 0)]⟩]) (G' := []) (k' := 1) hR hI (by kernel_rfl)
      .nil (fun e8 a8 w8 hag hR hI => ?_)
  refine callOp (ys := [.v (.slice none l cap), .v (.int .i64 ((p : Nat) : Int)), .v (.int .i64 ((n : Nat) : Int))]) hI rfl rfl ⟨_, rfl, rfl, rfl⟩ (by kernel_rfl) Tryd.func12 rfl rfl ?_
  have hBs := hB.size hR
  refine (newOptN_spec (C := C)).mono ?_
  rintro ex w9 ⟨b, rfl, hge, hnew, hk⟩
  obtain ⟨hag_, hnb_, hR_⟩ := hR.gotX (L := []) (k := 1) (cs := [.v (.bool false), .v (.int .i64 ((0 : Nat) : Int)), .v (.int .i64 ((n : Nat) : Int)), .v (.pointer none)]) (by kernel_rfl) (by kernel_rfl) hk hge hnew
  have hkF_ := hR.keepF hk
  have hB_ := hB.nextX hR hkF_ hge
  replace hI := hI.agreeB (H := [⟨0, 27, [.v (.slice none 0 0)]⟩]) (G := []) (by kernel_rfl) hag_
  replace hR := hR_; replace hB := hB_; clear hB_ hR_ hkF_ hk
  have hbn : (e8.addB 1 b).b 1 = b := addB_b _ _ _
  refine ⟨_, rfl, ?_⟩
  replace hI := hI.put (d := some 20) (x := .p 1 0) (by intro t ht; cases ht; decide) rfl
  replace hI := hI.sel [20, 19, 18, 17, 10, 3] (by kernel_rfl : sel _ _ = some [(20, .p 1 0), (19, .v (.int .i64 ((n : Nat) : Int))), (18, .v (.int .i64 ((p : Nat) : Int))), (17, .v (.slice none l cap)), (10, .p 0 0), (3, .v (.int .i64 2))])
  refine part_ tab [4] [] (by rfl) (k := 2) (hs := []) (sy := []) (ks := [12, 10, 3]) (bs := [1, 0]) (gs := [])
      (L' := [(12, .p 1 0), (10, .p 0 0), (3, .v (.int .i64 2))])
      (H' := [⟨1, 51, [.v (.bool false), .v (.int .i64 ((0 : Nat) : Int)), .v (.int .i64 ((n : Nat) : Int)), .v (.pointer none)]⟩, ⟨0, 27, [.v (.slice none 0 0)]⟩]) (G' := []) (k' := 2) hR hI (by kernel_rfl)
      .nil (fun e10 a10 w10 hag hR hI => ?_)
  replace hbn := (hag 1 (by decide)).1.trans hbn
  refine ops_nil ?_
  refine then_n ?_
  refine wp_seq ?_
  refine reg (is := [0, 1, 2]) (by kernel_rfl) ?_
  refine part_ tab [0] [1, 2] (by rfl) (k := 2) (hs := []) (sy := []) (ks := [21, 12, 10, 3]) (bs := [1, 0]) (gs := [])
      (L' := [(21, .p 1 0), (12, .p 1 0), (10, .p 0 0), (3, .v (.int .i64 2))])
      (H' := [⟨1, 51, [.v (.bool false), .v (.int .i64 ((0 : Nat) : Int)), .v (.int .i64 ((n : Nat) : Int)), .v (.pointer none)]⟩, ⟨0, 27, [.v (.slice none 0 0)]⟩]) (G' := []) (k' := 2) hR hI (by kernel_rfl)
      .nil (fun e11 a11 w11 hag hR hI => ?_)
  replace hbn := (hag 1 (by decide)).1.trans hbn
  refine rawOp (x := .v (.func (.func 13) #[.pointer (some ⟨b, 0, none⟩)] #[])) hI rfl rfl (by kernel_rfl) (fun ev hev => by simp [execOp, Instr.makeFunc, hev (.tmp 21) _ rfl, den, hbn]) (fun a12 hI => ?_)
  replace hI := hI.sel [22, 21, 12, 10, 3] (by kernel_rfl : sel _ _ = some [(22, .v (.func (.func 13) #[.pointer (some ⟨b, 0, none⟩)] #[])), (21, .p 1 0), (12, .p 1 0), (10, .p 0 0), (3, .v (.int .i64 2))])
  refine part_ tab [2] [] (by rfl) (k := 2) (hs := []) (sy := []) (ks := [11, 12, 10, 3]) (bs := [1, 0]) (gs := [])
      (L' := [(11, .v (.func (.func 13) #[.pointer (some ⟨b, 0, none⟩)] #[])), (12, .p 1 0), (10, .p 0 0), (3, .v (.int .i64 2))])
      (H' := [⟨1, 51, [.v (.bool false), .v (.int .i64 ((0 : Nat) : Int)), .v (.int .i64 ((n : Nat) : Int)), .v (.pointer none)]⟩, ⟨0, 27, [.v (.slice none 0 0)]⟩]) (G' := []) (k' := 2) hR hI (by kernel_rfl)
      .nil (fun e13 a13 w13 hag hR hI => ?_)
  replace hbn := (hag 1 (by decide)).1.trans hbn
  refine ops_nil ?_
  refine then_n ?_
  refine reg_seq tab (k := 2) (hs := []) (sy := []) (ks := [24, 11, 12, 10]) (bs := [1, 0]) (gs := [])
      (L' := [(24, .v (.bool false)), (11, .v (.func (.func 13) #[.pointer (some ⟨b, 0, none⟩)] #[])), (12, .p 1 0), (10, .p 0 0)])
      (H' := [⟨1, 51, [.v (.bool false), .v (.int .i64 ((0 : Nat) : Int)), .v (.int .i64 ((n : Nat) : Int)), .v (.pointer none)]⟩, ⟨0, 27, [.v (.slice none 0 0)]⟩]) (G' := []) (k' := 2) hR hI (by kernel_rfl)
      .nil (fun e14 a14 w14 hag hR hI => ?_)
  replace hbn := (hag 1 (by decide)).1.trans hbn
  refine cnd_f hI (by kernel_rfl) ?_
  refine wp_skip ?_
  refine normal_block ?_
  refine then_n ?_
  refine wp_seq ?_
  refine wp_seq ?_
  refine reg (is := [0, 1, 2, 3]) (by kernel_rfl) ?_
  refine part_ tab [0] [1, 2, 3] (by rfl) (k := 2) (hs := []) (sy := []) (ks := [41, 11, 10]) (bs := [1, 0]) (gs := [])
      (L' := [(41, .v (.func (.func 13) #[.pointer (some ⟨b, 0, none⟩)] #[])), (11, .v (.func (.func 13) #[.pointer (some ⟨b, 0, none⟩)] #[])), (10, .p 0 0)])
      (H' := [⟨1, 51, [.v (.bool false), .v (.int .i64 ((0 : Nat) : Int)), .v (.int .i64 ((n : Nat) : Int)), .v (.pointer none)]⟩, ⟨0, 27, [.v (.slice none 0 0)]⟩]) (G' := []) (k' := 2) hR hI (by kernel_rfl)
      .nil (fun e15 a15 w15 hag hR hI => ?_)
  replace hbn := (hag 1 (by decide)).1.trans hbn
  refine callB0 hI rfl rfl ⟨_, rfl, rfl, rfl⟩ (by kernel_rfl : arg _ _ = some (.v (.func (.func 13) #[.pointer (some ⟨b, 0, none⟩)] #[]))) Tryd.func13 rfl rfl ?_
  have hblk_ := hR.blk ⟨1, 51, [.v (.bool false), .v (.int .i64 ((0 : Nat) : Int)), .v (.int .i64 ((n : Nat) : Int)), .v (.pointer none)]⟩ (by simp)
  refine (optWordN_spec (C := fun _ => False) (by have h9 := hblk_.1; dsimp only at h9; rw [hbn] at h9; exact h9) (fun h => h) (by omega) (by omega)).mono ?_
  rintro ex w16 ⟨r, rfl, hk, hnew, hstr⟩
  rw [← hbn] at hk hnew
  have hkF_ := hR.keepB (b := ⟨1, 51, [.v (.bool false), .v (.int .i64 ((0 : Nat) : Int)), .v (.int .i64 ((n : Nat) : Int)), .v (.pointer none)]⟩) (by simp) hk
  have hB_ := hB.nextF hR hkF_
  replace hR := hR.turned (b := ⟨1, 51, [.v (.bool false), .v (.int .i64 ((0 : Nat) : Int)), .v (.int .i64 ((n : Nat) : Int)), .v (.pointer none)]⟩) (by simp) [.v (.bool false), .v (.int .i64 ((0 + r : Nat) : Int)), .v (.int .i64 ((n : Nat) : Int)), .v (.pointer none)] [⟨0, 27, [.v (.slice none 0 0)]⟩] (by simp) hk hnew
  dsimp only at hR; replace hB := hB_; clear hB_ hk hkF_ hblk_
  refine ⟨_, rfl, ?_⟩
  replace hI := hI.put (d := some 42) (x := .v (.agg #[.int .i16 ((r : Nat) : Int), .int .i16 ((r : Nat) : Int)])) (by intro t ht; cases ht; decide) rfl
  replace hI := hI.sel [42, 41, 11, 10] (by kernel_rfl : sel _ _ = some [(42, .v (.agg #[.int .i16 ((r : Nat) : Int), .int .i16 ((r : Nat) : Int)])), (41, .v (.func (.func 13) #[.pointer (some ⟨b, 0, none⟩)] #[])), (11, .v (.func (.func 13) #[.pointer (some ⟨b, 0, none⟩)] #[])), (10, .p 0 0)])
  refine part_ tab [2, 3] [] (by rfl) (k := 2) (hs := []) (sy := []) (ks := [13, 11, 10]) (bs := [2, 1, 0]) (gs := [])
      (L' := [(13, .p 2 0), (11, .v (.func (.func 13) #[.pointer (some ⟨b, 0, none⟩)] #[])), (10, .p 0 0)])
      (H' := [⟨2, 40, [.v (.int .i16 ((r : Nat) : Int)), .v (.int .i16 ((r : Nat) : Int))]⟩, ⟨1, 51, [.v (.bool false), .v (.int .i64 ((0 + r : Nat) : Int)), .v (.int .i64 ((n : Nat) : Int)), .v (.pointer none)]⟩, ⟨0, 27, [.v (.slice none 0 0)]⟩]) (G' := []) (k' := 3) hR hI (by kernel_rfl)
      .nil (fun e17 a17 w17 hag hR hI => ?_)
  replace hbn := (hag 1 (by decide)).1.trans hbn
  refine ops_nil ?_
  refine then_n ?_
  refine wp_block ?_
  obtain ⟨e18, hag_, hr_, hR_⟩ := hR.nilRow (L := [(13, .p 2 0), (11, .v (.func (.func 13) #[.pointer (some ⟨b, 0, none⟩)] #[])), (10, .p 0 0)]) 3 (by kernel_rfl) 30 2
  replace hbn := (hag_ 1 (by decide)).1.trans hbn
  replace hI := hI.agreeB (H := [⟨2, 40, [.v (.int .i16 ((r : Nat) : Int)), .v (.int .i16 ((r : Nat) : Int))]⟩, ⟨1, 51, [.v (.bool false), .v (.int .i64 ((0 + r : Nat) : Int)), .v (.int .i64 ((n : Nat) : Int)), .v (.pointer none)]⟩, ⟨0, 27, [.v (.slice none 0 0)]⟩]) (G := []) (by kernel_rfl) hag_; replace hR := hR_; clear hag_ hR_
  replace hR := hR.reblk (b := ⟨0, 27, [.v (.slice none 0 0)]⟩) (by simp) [.row 3] [⟨2, 40, [.v (.int .i16 ((r : Nat) : Int)), .v (.int .i16 ((r : Nat) : Int))]⟩, ⟨1, 51, [.v (.bool false), .v (.int .i64 ((0 + r : Nat) : Int)), .v (.int .i64 ((n : Nat) : Int)), .v (.pointer none)]⟩] (by simp) (by simp only [dens, den, hr_])
  dsimp only at hR
  clear hr_
  refine lpM (γ := Nat × Nat × Nat × Nat × Nat × List Nat) (fun (r, c, m, at', pos, fl) => (⟨[(10, .p 0 0), (11, .v (.func (.func 13) #[.pointer (some ⟨b, 0, none⟩)] #[])), (13, .p 2 0)], [⟨0, 27, [.row 3]⟩, ⟨1, 51, [.v (.bool false), .v (.int .i64 ((pos : Nat) : Int)), .v (.int .i64 ((n : Nat) : Int)), .v (.pointer none)]⟩, ⟨2, 40, [.v (.int .i16 ((r : Nat) : Int)), .v (.int .i16 ((c : Nat) : Int))]⟩], [⟨3, 30, 2, m, (ints .i64 fl)⟩], 4⟩ : Sy)) (fun (r, c, m, at', pos, fl) e C F wb => e.b 1 = b ∧ at' + r = pos ∧ pos ≤ n ∧ r ≤ 64 ∧ (r = 0 → pos = n) ∧ c = r ∧ fl.length = 2 * m ∧ m ≤ at' ∧ Blks f 64 0 fl at' ∧ ∀ d ∈ fl, d < 65536) (fun (r, c, m, at', pos, fl) => n - at') (r, r, 0, 0, 0 + r, []) hB (⟨hbn, by omega, by omega, by omega, fun h => by omega, rfl, rfl, Nat.le_refl _, rfl, fun d h => (by cases h)⟩)
      (hR.sel [0, 1, 2] [3] (by kernel_rfl) (by kernel_rfl)) (hI.sel [10, 11, 13] (by kernel_rfl)) ?_
  clear hR hI hB
  rintro ⟨r, c, m, at', pos, fl⟩ e19 C19 F19 wb19 a19 w19 hB hp hR hI
  dsimp only at hp hR hI
  obtain ⟨hbn, hat, hpn, hrM, hr0, hcc, hfl, hmat, hbl, hfd⟩ := hp
  refine wp_seq ?_
  refine reg_seq tab (k := 4) (hs := []) (sy := []) (ks := [45, 10, 11, 13]) (bs := [0, 1, 2]) (gs := [3])
      (L' := [(45, .v (.bool (((r : Nat) : Int) != (0 : Int)))), (10, .p 0 0), (11, .v (.func (.func 13) #[.pointer (some ⟨b, 0, none⟩)] #[])), (13, .p 2 0)])
      (H' := [⟨0, 27, [.row 3]⟩, ⟨1, 51, [.v (.bool false), .v (.int .i64 ((pos : Nat) : Int)), .v (.int .i64 ((n : Nat) : Int)), .v (.pointer none)]⟩, ⟨2, 40, [.v (.int .i16 ((r : Nat) : Int)), .v (.int .i16 ((c : Nat) : Int))]⟩]) (G' := [⟨3, 30, 2, m, (ints .i64 fl)⟩]) (k' := 4) hR hI (by kernel_rfl)
      .nil (fun e20 a20 w20 hag hR hI => ?_)
  replace hbn := (hag 1 (by decide)).1.trans hbn
  refine cnd (b := (((r : Nat) : Int) != (0 : Int))) hI (by kernel_rfl) (fun hc21 => ?_) (fun hc21 => ?_)
  · skip
    replace hI := hI.re 45 (.v (.bool true)) rfl (congrArg Value.bool hc21)
    try simp only [decide_eq_true_eq, decide_eq_false_iff_not, beq_iff_eq, bne_iff_ne, beq_eq_false_iff_ne, bne_eq_false_iff_eq, Bool.and_eq_true, Bool.and_eq_false_iff, Bool.or_eq_true, Bool.or_eq_false_iff, Bool.not_eq_true', Bool.not_eq_false', ne_eq] at hc21
    have hrp : 0 < r := by omega
    refine wp_skip ?_
    refine then_n ?_
    refine wp_seq ?_
    refine wp_block ?_
    refine reg_all tab (k := 4) (hs := [(3, .nw), (6, .nw)]) (sy := []) (ks := [10, 11, 13]) (bs := [0, 1, 2]) (gs := [5])
        (L' := [(10, .p 0 0), (11, .v (.func (.func 13) #[.pointer (some ⟨b, 0, none⟩)] #[])), (13, .p 2 0)])
        (H' := [⟨0, 27, [.row 5]⟩, ⟨1, 51, [.v (.bool false), .v (.int .i64 ((pos : Nat) : Int)), .v (.int .i64 ((n : Nat) : Int)), .v (.pointer none)]⟩, ⟨2, 40, [.v (.int .i16 ((r : Nat) : Int)), .v (.int .i16 ((c : Nat) : Int))]⟩]) (G' := [⟨5, 30, 2, (m + 1), ((ints .i64 fl) ++ [.int .i64 ((r : Nat) : Int), .int .i64 ((c : Nat) : Int)])⟩]) (k' := 6) hR hI (by kernel_rfl)
        (.cons (inR_i64 (n := ((r : Nat) : Int)) (by omega)) (.cons (inR_i64 (n := ((c : Nat) : Int)) (by omega)) (.cons (by have hm_ : maxLen = 9223372036854775807 := rfl; rw [hm_]; omega : m + 1 ≤ maxLen) (.cons (by omega : (m + 1) * 16 ≤ 140737488355328) .nil)))) (fun e22 a22 w22 hag hR hI => ?_)
    replace hbn := (hag 1 (by decide)).1.trans hbn
    refine normal_block ?_
    refine then_n ?_
    refine wp_seq ?_
    refine reg_seq tab (k := 6) (hs := []) (sy := []) (ks := [58, 10, 11]) (bs := [0, 1]) (gs := [5])
        (L' := [(58, .agg [.v (.int .i16 ((r : Nat) : Int)), .v (.int .i16 ((c : Nat) : Int))]), (10, .p 0 0), (11, .v (.func (.func 13) #[.pointer (some ⟨b, 0, none⟩)] #[]))])
        (H' := [⟨0, 27, [.row 5]⟩, ⟨1, 51, [.v (.bool false), .v (.int .i64 ((pos : Nat) : Int)), .v (.int .i64 ((n : Nat) : Int)), .v (.pointer none)]⟩]) (G' := [⟨5, 30, 2, (m + 1), ((ints .i64 fl) ++ [.int .i64 ((r : Nat) : Int), .int .i64 ((c : Nat) : Int)])⟩]) (k' := 6) hR hI (by kernel_rfl)
        .nil (fun e23 a23 w23 hag hR hI => ?_)
    replace hbn := (hag 1 (by decide)).1.trans hbn
    refine reg_all tab (k := 6) (hs := []) (sy := []) (ks := [13, 10, 11]) (bs := [6, 0, 1]) (gs := [5])
        (L' := [(13, .p 6 0), (10, .p 0 0), (11, .v (.func (.func 13) #[.pointer (some ⟨b, 0, none⟩)] #[]))])
        (H' := [⟨6, 40, [.v (.int .i16 ((r : Nat) : Int)), .v (.int .i16 ((c : Nat) : Int))]⟩, ⟨0, 27, [.row 5]⟩, ⟨1, 51, [.v (.bool false), .v (.int .i64 ((pos : Nat) : Int)), .v (.int .i64 ((n : Nat) : Int)), .v (.pointer none)]⟩]) (G' := [⟨5, 30, 2, (m + 1), ((ints .i64 fl) ++ [.int .i64 ((r : Nat) : Int), .int .i64 ((c : Nat) : Int)])⟩]) (k' := 7) hR hI (by kernel_rfl)
        .nil (fun e24 a24 w24 hag hR hI => ?_)
    replace hbn := (hag 1 (by decide)).1.trans hbn
    refine then_n ?_
    refine reg (is := [0, 1, 2]) (by kernel_rfl) ?_
    refine part_ tab [0] [1, 2] (by rfl) (k := 7) (hs := []) (sy := []) (ks := [46, 13, 10, 11]) (bs := [6, 0, 1]) (gs := [5])
        (L' := [(46, .v (.func (.func 13) #[.pointer (some ⟨b, 0, none⟩)] #[])), (13, .p 6 0), (10, .p 0 0), (11, .v (.func (.func 13) #[.pointer (some ⟨b, 0, none⟩)] #[]))])
        (H' := [⟨6, 40, [.v (.int .i16 ((r : Nat) : Int)), .v (.int .i16 ((c : Nat) : Int))]⟩, ⟨0, 27, [.row 5]⟩, ⟨1, 51, [.v (.bool false), .v (.int .i64 ((pos : Nat) : Int)), .v (.int .i64 ((n : Nat) : Int)), .v (.pointer none)]⟩]) (G' := [⟨5, 30, 2, (m + 1), ((ints .i64 fl) ++ [.int .i64 ((r : Nat) : Int), .int .i64 ((c : Nat) : Int)])⟩]) (k' := 7) hR hI (by kernel_rfl)
        .nil (fun e25 a25 w25 hag hR hI => ?_)
    replace hbn := (hag 1 (by decide)).1.trans hbn
    refine callB0 hI rfl rfl ⟨_, rfl, rfl, rfl⟩ (by kernel_rfl : arg _ _ = some (.v (.func (.func 13) #[.pointer (some ⟨b, 0, none⟩)] #[]))) Tryd.func13 rfl rfl ?_
    have hblk_ := hR.blk ⟨1, 51, [.v (.bool false), .v (.int .i64 ((pos : Nat) : Int)), .v (.int .i64 ((n : Nat) : Int)), .v (.pointer none)]⟩ (by simp)
    refine (optWordN_spec (C := fun _ => False) (by have h9 := hblk_.1; dsimp only at h9; rw [hbn] at h9; exact h9) (fun h => h) (by omega) (by omega)).mono ?_
    rintro ex w26 ⟨r2, rfl, hk, hnew, hstr2⟩
    rw [← hbn] at hk hnew
    have hkF_ := hR.keepB (b := ⟨1, 51, [.v (.bool false), .v (.int .i64 ((pos : Nat) : Int)), .v (.int .i64 ((n : Nat) : Int)), .v (.pointer none)]⟩) (by simp) hk
    have hB_ := hB.nextF hR hkF_
    replace hR := hR.turned (b := ⟨1, 51, [.v (.bool false), .v (.int .i64 ((pos : Nat) : Int)), .v (.int .i64 ((n : Nat) : Int)), .v (.pointer none)]⟩) (by simp) [.v (.bool false), .v (.int .i64 ((pos + r2 : Nat) : Int)), .v (.int .i64 ((n : Nat) : Int)), .v (.pointer none)] [⟨6, 40, [.v (.int .i16 ((r : Nat) : Int)), .v (.int .i16 ((c : Nat) : Int))]⟩, ⟨0, 27, [.row 5]⟩] (by simp) hk hnew
    dsimp only at hR; replace hB := hB_; clear hB_ hk hkF_ hblk_
    refine ⟨_, rfl, ?_⟩
    replace hI := hI.put (d := some 47) (x := .v (.agg #[.int .i16 ((r2 : Nat) : Int), .int .i16 ((r2 : Nat) : Int)])) (by intro t ht; cases ht; decide) rfl
    replace hI := hI.sel [47, 46, 13, 10, 11] (by kernel_rfl : sel _ _ = some [(47, .v (.agg #[.int .i16 ((r2 : Nat) : Int), .int .i16 ((r2 : Nat) : Int)])), (46, .v (.func (.func 13) #[.pointer (some ⟨b, 0, none⟩)] #[])), (13, .p 6 0), (10, .p 0 0), (11, .v (.func (.func 13) #[.pointer (some ⟨b, 0, none⟩)] #[]))])
    refine part_ tab [2] [] (by rfl) (k := 7) (hs := []) (sy := []) (ks := [13, 10, 11]) (bs := [6, 1, 0]) (gs := [5])
        (L' := [(13, .p 6 0), (10, .p 0 0), (11, .v (.func (.func 13) #[.pointer (some ⟨b, 0, none⟩)] #[]))])
        (H' := [⟨6, 40, [.v (.int .i16 ((r2 : Nat) : Int)), .v (.int .i16 ((r2 : Nat) : Int))]⟩, ⟨1, 51, [.v (.bool false), .v (.int .i64 ((pos + r2 : Nat) : Int)), .v (.int .i64 ((n : Nat) : Int)), .v (.pointer none)]⟩, ⟨0, 27, [.row 5]⟩]) (G' := [⟨5, 30, 2, (m + 1), ((ints .i64 fl) ++ [.int .i64 ((r : Nat) : Int), .int .i64 ((c : Nat) : Int)])⟩]) (k' := 7) hR hI (by kernel_rfl)
        .nil (fun e27 a27 w27 hag hR hI => ?_)
    replace hbn := (hag 1 (by decide)).1.trans hbn
    refine ops_nil ?_
    refine then_n ?_
    rw [ints_two] at hR
    have hren_ : Sy.ren [(3, 5), (2, 6)] ⟨[(13, .p 2 0), (10, .p 0 0), (11, .v (.func (.func 13) #[.pointer (some ⟨b, 0, none⟩)] #[]))], [⟨2, 40, [.v (.int .i16 ((r2 : Nat) : Int)), .v (.int .i16 ((r2 : Nat) : Int))]⟩, ⟨1, 51, [.v (.bool false), .v (.int .i64 ((pos + r2 : Nat) : Int)), .v (.int .i64 ((n : Nat) : Int)), .v (.pointer none)]⟩, ⟨0, 27, [.row 3]⟩], [⟨3, 30, 2, (m + 1), (ints .i64 (fl ++ [r, c]))⟩], 0⟩ = ⟨[(13, .p 6 0), (10, .p 0 0), (11, .v (.func (.func 13) #[.pointer (some ⟨b, 0, none⟩)] #[]))], [⟨6, 40, [.v (.int .i16 ((r2 : Nat) : Int)), .v (.int .i16 ((r2 : Nat) : Int))]⟩, ⟨1, 51, [.v (.bool false), .v (.int .i64 ((pos + r2 : Nat) : Int)), .v (.int .i64 ((n : Nat) : Int)), .v (.pointer none)]⟩, ⟨0, 27, [.row 5]⟩], [⟨5, 30, 2, (m + 1), (ints .i64 (fl ++ [r, c]))⟩], 0⟩ := by kernel_rfl
    replace hI := hI.rename (S := ⟨[(13, .p 6 0), (10, .p 0 0), (11, .v (.func (.func 13) #[.pointer (some ⟨b, 0, none⟩)] #[]))], [⟨6, 40, [.v (.int .i16 ((r2 : Nat) : Int)), .v (.int .i16 ((r2 : Nat) : Int))]⟩, ⟨1, 51, [.v (.bool false), .v (.int .i64 ((pos + r2 : Nat) : Int)), .v (.int .i64 ((n : Nat) : Int)), .v (.pointer none)]⟩, ⟨0, 27, [.row 5]⟩], [⟨5, 30, 2, (m + 1), (ints .i64 (fl ++ [r, c]))⟩], 0⟩) (S' := ⟨[(13, .p 2 0), (10, .p 0 0), (11, .v (.func (.func 13) #[.pointer (some ⟨b, 0, none⟩)] #[]))], [⟨2, 40, [.v (.int .i16 ((r2 : Nat) : Int)), .v (.int .i16 ((r2 : Nat) : Int))]⟩, ⟨1, 51, [.v (.bool false), .v (.int .i64 ((pos + r2 : Nat) : Int)), .v (.int .i64 ((n : Nat) : Int)), .v (.pointer none)]⟩, ⟨0, 27, [.row 3]⟩], [⟨3, 30, 2, (m + 1), (ints .i64 (fl ++ [r, c]))⟩], 0⟩) hren_; replace hR := hR.rename (S := ⟨[(13, .p 6 0), (10, .p 0 0), (11, .v (.func (.func 13) #[.pointer (some ⟨b, 0, none⟩)] #[]))], [⟨6, 40, [.v (.int .i16 ((r2 : Nat) : Int)), .v (.int .i16 ((r2 : Nat) : Int))]⟩, ⟨1, 51, [.v (.bool false), .v (.int .i64 ((pos + r2 : Nat) : Int)), .v (.int .i64 ((n : Nat) : Int)), .v (.pointer none)]⟩, ⟨0, 27, [.row 5]⟩], [⟨5, 30, 2, (m + 1), (ints .i64 (fl ++ [r, c]))⟩], 0⟩) (S' := ⟨[(13, .p 2 0), (10, .p 0 0), (11, .v (.func (.func 13) #[.pointer (some ⟨b, 0, none⟩)] #[]))], [⟨2, 40, [.v (.int .i16 ((r2 : Nat) : Int)), .v (.int .i16 ((r2 : Nat) : Int))]⟩, ⟨1, 51, [.v (.bool false), .v (.int .i64 ((pos + r2 : Nat) : Int)), .v (.int .i64 ((n : Nat) : Int)), .v (.pointer none)]⟩, ⟨0, 27, [.row 3]⟩], [⟨3, 30, 2, (m + 1), (ints .i64 (fl ++ [r, c]))⟩], 0⟩) hren_ (by kernel_rfl) (by kernel_rfl); dsimp only at hI hR; clear hren_
    replace hbn : (Env.ren e27 [(3, 5), (2, 6)]).b 1 = _ := hbn
    exact ⟨(r2, r2, m + 1, at' + r, pos + r2, fl ++ [r, c]), _, _, _, _, hB, ⟨hbn, by omega, by omega, by omega, fun h => by omega, rfl, fls hfl, by omega, hbl.snoc (by omega) hrM (by rw [hcc]; exact ((cnt_congr (g := fun _ => true) (fun i hi => hf _ (by omega))).trans (cnt_true r)).symm), pair_dig hfd (by omega) (by omega)⟩, (by (try dsimp only); omega), hR.sel [0, 1, 2] [3] (by kernel_rfl) (by kernel_rfl), hI.sel [10, 11, 13] (by kernel_rfl)⟩
  · skip
    replace hI := hI.re 45 (.v (.bool false)) rfl (congrArg Value.bool hc21)
    try simp only [decide_eq_true_eq, decide_eq_false_iff_not, beq_iff_eq, bne_iff_ne, beq_eq_false_iff_ne, bne_eq_false_iff_eq, Bool.and_eq_true, Bool.and_eq_false_iff, Bool.or_eq_true, Bool.or_eq_false_iff, Bool.not_eq_true', Bool.not_eq_false', ne_eq] at hc21
    have hrz : r = 0 := by omega
    have hrem := hr0 hrz
    refine wp_exit ?_
    refine exit_then ?_
    refine exit_then ?_
    refine exit_hit ?_
    refine then_n ?_
    have hatn : at' = n := by omega
    obtain ⟨hB_, hR_, hrel_, bd, bc, hv_, hcells, hlen_, hcap_, hmax_⟩ := hB.releaseN hR (y := ⟨3, 30, 2, m, (ints .i64 fl)⟩) (by simp) _ dropN_mem
    replace hB := hB_; replace hR := hR_.sel [0, 1, 2] [] (by kernel_rfl : selH _ _ = some [⟨0, 27, [.row 3]⟩, ⟨1, 51, [.v (.bool false), .v (.int .i64 ((pos : Nat) : Int)), .v (.int .i64 ((n : Nat) : Int)), .v (.pointer none)]⟩, ⟨2, 40, [.v (.int .i16 ((r : Nat) : Int)), .v (.int .i16 ((c : Nat) : Int))]⟩]) (by kernel_rfl : selG _ _ = some []); clear hB_ hR_ hrel_
    replace hR := hR.reblk (b := ⟨0, 27, [.row 3]⟩) (by simp) [.v (.slice bd m bc)] [⟨1, 51, [.v (.bool false), .v (.int .i64 ((pos : Nat) : Int)), .v (.int .i64 ((n : Nat) : Int)), .v (.pointer none)]⟩, ⟨2, 40, [.v (.int .i16 ((r : Nat) : Int)), .v (.int .i16 ((c : Nat) : Int))]⟩] (by simp) (by simp only [dens, den, hv_])
    dsimp only at hR
    clear hv_
    have hfl0 := sl_flat hcells hfd (by omega)
    have hbcm : m ≤ bc := hcap_; have hbcx : bc ≤ 9223372036854775807 := hmax_
    refine reg_seq tab (k := 4) (hs := []) (sy := []) (ks := [10]) (bs := [0, 1]) (gs := [])
        (L' := [(10, .p 0 0)])
        (H' := [⟨0, 27, [.v (.slice bd m bc)]⟩, ⟨1, 51, [.v (.bool false), .v (.int .i64 ((pos : Nat) : Int)), .v (.int .i64 ((n : Nat) : Int)), .v (.pointer none)]⟩]) (G' := []) (k' := 4) hR hI (by kernel_rfl)
        .nil (fun e28 a28 w28 hag hR hI => ?_)
    replace hbn := (hag 1 (by decide)).1.trans hbn
    refine wp_ret ?_
    refine outF tab (xs := [.v (.slice bd m bc)]) hR hI (inv8 _ _) (idle8 _) rfl (by kernel_rfl) ?_
    exact ⟨fl, bd, bc, m, rfl, hB.fin hR, hfl0.fin hB hR, hfl, hbcm, hbcx, by rw [← hatn]; exact hbl⟩

set_option maxHeartbeats 4000000 in
set_option maxRecDepth 100000 in
theorem blk3N_spec {C : Nat → Prop} {w : World} {n p : Nat} {f : Nat → Bool} {ad : Option Addr} {l cap : Nat} (hn8 : n ≤ 32768) (hf : ∀ i, i < n → f i = true) :
    Calls P 6 #[.slice none l cap, .int .i64 ((p : Nat) : Int), .int .i64 ((n : Nat) : Int), .int .i64 3, .bool false] w fun ex w' => ∃ (fl : List Nat) (bd : Option Addr) (bc m : Nat), ex = .returned (.slice bd m bc) ∧ Keep (fun b => b < w.heap.size) w w' ∧ Sl .i64 65536 (Grow C w w') w' bd fl.length fl ∧ fl.length = 2 * m ∧ m ≤ bc ∧ bc ≤ 9223372036854775807 ∧ Blks f 32767 0 fl n := by
  refine doorD (e := e0) (vs := [.v (.slice none l cap), .v (.int .i64 ((p : Nat) : Int)), .v (.int .i64 ((n : Nat) : Int)), .v (.int .i64 3), .v (.bool false)]) (n := 60) (m := 5) Tryd.func6 rfl rfl rfl (by decide) fun a_ hI => ?_
  replace hI : Is 60 [] e0 [(0, .v (.slice none l cap)), (1, .v (.int .i64 ((p : Nat) : Int))), (2, .v (.int .i64 ((n : Nat) : Int))), (3, .v (.int .i64 3)), (4, .v (.bool false))] a_ := hI
  have hR : Rel (fun b => b < w.heap.size) w e0 [] [] w := Rel.start (fun k hk => hk)
  have hB : Base C w C (fun b => b < w.heap.size) w := Base.start
  skip
  refine reg_seq tab (k := 0) (hs := []) (sy := []) (ks := [10, 0, 1, 2, 3, 4]) (bs := [0]) (gs := [])
      (L' := [(10, .p 0 0), (0, .v (.slice none l cap)), (1, .v (.int .i64 ((p : Nat) : Int))), (2, .v (.int .i64 ((n : Nat) : Int))), (3, .v (.int .i64 3)), (4, .v (.bool false))])
      (H' := [⟨0, 27, [.v (.slice none 0 0)]⟩]) (G' := []) (k' := 1) hR hI (by kernel_rfl)
      .nil (fun e1 a1 w1 hag hR hI => ?_)
  refine wp_seq ?_
  refine reg (is := [0, 1]) (by kernel_rfl) ?_
  refine rawOp (x := .v (.func (.func 8) #[] #[.pointer (some ⟨e1.b 0, 0, none⟩)])) hI rfl rfl (by kernel_rfl) (fun ev hev => by simp [execOp, Instr.makeFunc, hev (.tmp 10) _ rfl, den]) (fun a2 hI => ?_)
  replace hI := hI.sel [14, 10, 0, 1, 2, 3, 4] (by kernel_rfl : sel _ _ = some [(14, .v (.func (.func 8) #[] #[.pointer (some ⟨e1.b 0, 0, none⟩)])), (10, .p 0 0), (0, .v (.slice none l cap)), (1, .v (.int .i64 ((p : Nat) : Int))), (2, .v (.int .i64 ((n : Nat) : Int))), (3, .v (.int .i64 3)), (4, .v (.bool false))])
  refine deferFn hI rfl rfl rfl ⟨_, rfl, rfl, rfl⟩ rfl (fun a2 hI => ?_)
  replace hI := hI.sel [14, 10, 0, 1, 2, 3, 4] (by kernel_rfl : sel _ _ = some [(14, .v (.func (.func 8) #[] #[.pointer (some ⟨e1.b 0, 0, none⟩)])), (10, .p 0 0), (0, .v (.slice none l cap)), (1, .v (.int .i64 ((p : Nat) : Int))), (2, .v (.int .i64 ((n : Nat) : Int))), (3, .v (.int .i64 3)), (4, .v (.bool false))])
  refine ops_nil ?_
  refine then_n ?_
  refine reg_seq tab (k := 1) (hs := []) (sy := []) (ks := [10, 0, 1, 2, 3, 4]) (bs := [0]) (gs := [])
      (L' := [(10, .p 0 0), (0, .v (.slice none l cap)), (1, .v (.int .i64 ((p : Nat) : Int))), (2, .v (.int .i64 ((n : Nat) : Int))), (3, .v (.int .i64 3)), (4, .v (.bool false))])
      (H' := [⟨0, 27, [.v (.slice none 0 0)]⟩]) (G' := []) (k' := 1) hR hI (by kernel_rfl)
      .nil (fun e3 a3 w3 hag hR hI => ?_)
  refine wp_seq ?_
  refine reg_seq tab (k := 1) (hs := []) (sy := []) (ks := [15, 10, 0, 1, 2, 3, 4]) (bs := [0]) (gs := [])
      (L' := [(15, .v (.int .i64 3)), (10, .p 0 0), (0, .v (.slice none l cap)), (1, .v (.int .i64 ((p : Nat) : Int))), (2, .v (.int .i64 ((n : Nat) : Int))), (3, .v (.int .i64 3)), (4, .v (.bool false))])
      (H' := [⟨0, 27, [.v (.slice none 0 0)]⟩]) (G' := []) (k' := 1) hR hI (by kernel_rfl)
      .nil (fun e4 a4 w4 hag hR hI => ?_)
  refine wp_block ?_
  refine reg_seq tab (k := 1) (hs := []) (sy := []) (ks := [27, 15, 10, 0, 1, 2, 3, 4]) (bs := [0]) (gs := [])
      (L' := [(27, .v (.bool false)), (15, .v (.int .i64 3)), (10, .p 0 0), (0, .v (.slice none l cap)), (1, .v (.int .i64 ((p : Nat) : Int))), (2, .v (.int .i64 ((n : Nat) : Int))), (3, .v (.int .i64 3)), (4, .v (.bool false))])
      (H' := [⟨0, 27, [.v (.slice none 0 0)]⟩]) (G' := []) (k' := 1) hR hI (by kernel_rfl)
      .nil (fun e5 a5 w5 hag hR hI => ?_)
  refine cnd_f hI (by kernel_rfl) ?_
  refine reg_seq tab (k := 1) (hs := []) (sy := []) (ks := [34, 10, 0, 1, 2, 3, 4]) (bs := [0]) (gs := [])
      (L' := [(34, .v (.bool false)), (10, .p 0 0), (0, .v (.slice none l cap)), (1, .v (.int .i64 ((p : Nat) : Int))), (2, .v (.int .i64 ((n : Nat) : Int))), (3, .v (.int .i64 3)), (4, .v (.bool false))])
      (H' := [⟨0, 27, [.v (.slice none 0 0)]⟩]) (G' := []) (k' := 1) hR hI (by kernel_rfl)
      .nil (fun e6 a6 w6 hag hR hI => ?_)
  refine cnd_f hI (by kernel_rfl) ?_
  refine wp_seq ?_
  refine reg_seq tab (k := 1) (hs := []) (sy := []) (ks := [16, 10, 0, 1, 2, 3]) (bs := [0]) (gs := [])
      (L' := [(16, .v (.bool false)), (10, .p 0 0), (0, .v (.slice none l cap)), (1, .v (.int .i64 ((p : Nat) : Int))), (2, .v (.int .i64 ((n : Nat) : Int))), (3, .v (.int .i64 3))])
      (H' := [⟨0, 27, [.v (.slice none 0 0)]⟩]) (G' := []) (k' := 1) hR hI (by kernel_rfl)
      .nil (fun e7 a7 w7 hag hR hI => ?_)
  refine cnd_f hI (by kernel_rfl) ?_
  refine wp_skip ?_
  refine then_n ?_
  refine wp_seq ?_
  refine reg (is := [0, 1, 2, 3, 4]) (by kernel_rfl) ?_
  refine part_ tab [0, 1, 2] [3, 4] (by rfl) (k := 1) (hs := []) (sy := []) (ks := [19, 18, 17, 10, 3]) (bs := [0]) (gs := [])
      (L' := [(19, .v (.int .i64 ((n : Nat) : Int))), (18, .v (.int .i64 ((p : Nat) : Int))), (17, .v (.slice none l cap)), (10, .p 0 0), (3, .v (.int .i64 3))])
      (H' := [⟨0, 27, [.v (.slice none 0 0)]⟩]) (G' := []) (k' := 1) hR hI (by kernel_rfl)
      .nil (fun e8 a8 w8 hag hR hI => ?_)
  refine callOp (ys := [.v (.slice none l cap), .v (.int .i64 ((p : Nat) : Int)), .v (.int .i64 ((n : Nat) : Int))]) hI rfl rfl ⟨_, rfl, rfl, rfl⟩ (by kernel_rfl) Tryd.func12 rfl rfl ?_
  have hBs := hB.size hR
  refine (newOptN_spec (C := C)).mono ?_
  rintro ex w9 ⟨b, rfl, hge, hnew, hk⟩
  obtain ⟨hag_, hnb_, hR_⟩ := hR.gotX (L := []) (k := 1) (cs := [.v (.bool false), .v (.int .i64 ((0 : Nat) : Int)), .v (.int .i64 ((n : Nat) : Int)), .v (.pointer none)]) (by kernel_rfl) (by kernel_rfl) hk hge hnew
  have hkF_ := hR.keepF hk
  have hB_ := hB.nextX hR hkF_ hge
  replace hI := hI.agreeB (H := [⟨0, 27, [.v (.slice none 0 0)]⟩]) (G := []) (by kernel_rfl) hag_
  replace hR := hR_; replace hB := hB_; clear hB_ hR_ hkF_ hk
  have hbn : (e8.addB 1 b).b 1 = b := addB_b _ _ _
  refine ⟨_, rfl, ?_⟩
  replace hI := hI.put (d := some 20) (x := .p 1 0) (by intro t ht; cases ht; decide) rfl
  replace hI := hI.sel [20, 19, 18, 17, 10, 3] (by kernel_rfl : sel _ _ = some [(20, .p 1 0), (19, .v (.int .i64 ((n : Nat) : Int))), (18, .v (.int .i64 ((p : Nat) : Int))), (17, .v (.slice none l cap)), (10, .p 0 0), (3, .v (.int .i64 3))])
  refine part_ tab [4] [] (by rfl) (k := 2) (hs := []) (sy := []) (ks := [12, 10, 3]) (bs := [1, 0]) (gs := [])
      (L' := [(12, .p 1 0), (10, .p 0 0), (3, .v (.int .i64 3))])
      (H' := [⟨1, 51, [.v (.bool false), .v (.int .i64 ((0 : Nat) : Int)), .v (.int .i64 ((n : Nat) : Int)), .v (.pointer none)]⟩, ⟨0, 27, [.v (.slice none 0 0)]⟩]) (G' := []) (k' := 2) hR hI (by kernel_rfl)
      .nil (fun e10 a10 w10 hag hR hI => ?_)
  replace hbn := (hag 1 (by decide)).1.trans hbn
  refine ops_nil ?_
  refine then_n ?_
  refine wp_seq ?_
  refine reg (is := [0, 1, 2]) (by kernel_rfl) ?_
  refine part_ tab [0] [1, 2] (by rfl) (k := 2) (hs := []) (sy := []) (ks := [21, 12, 10, 3]) (bs := [1, 0]) (gs := [])
      (L' := [(21, .p 1 0), (12, .p 1 0), (10, .p 0 0), (3, .v (.int .i64 3))])
      (H' := [⟨1, 51, [.v (.bool false), .v (.int .i64 ((0 : Nat) : Int)), .v (.int .i64 ((n : Nat) : Int)), .v (.pointer none)]⟩, ⟨0, 27, [.v (.slice none 0 0)]⟩]) (G' := []) (k' := 2) hR hI (by kernel_rfl)
      .nil (fun e11 a11 w11 hag hR hI => ?_)
  replace hbn := (hag 1 (by decide)).1.trans hbn
  refine rawOp (x := .v (.func (.func 13) #[.pointer (some ⟨b, 0, none⟩)] #[])) hI rfl rfl (by kernel_rfl) (fun ev hev => by simp [execOp, Instr.makeFunc, hev (.tmp 21) _ rfl, den, hbn]) (fun a12 hI => ?_)
  replace hI := hI.sel [22, 21, 12, 10, 3] (by kernel_rfl : sel _ _ = some [(22, .v (.func (.func 13) #[.pointer (some ⟨b, 0, none⟩)] #[])), (21, .p 1 0), (12, .p 1 0), (10, .p 0 0), (3, .v (.int .i64 3))])
  refine part_ tab [2] [] (by rfl) (k := 2) (hs := []) (sy := []) (ks := [11, 12, 10, 3]) (bs := [1, 0]) (gs := [])
      (L' := [(11, .v (.func (.func 13) #[.pointer (some ⟨b, 0, none⟩)] #[])), (12, .p 1 0), (10, .p 0 0), (3, .v (.int .i64 3))])
      (H' := [⟨1, 51, [.v (.bool false), .v (.int .i64 ((0 : Nat) : Int)), .v (.int .i64 ((n : Nat) : Int)), .v (.pointer none)]⟩, ⟨0, 27, [.v (.slice none 0 0)]⟩]) (G' := []) (k' := 2) hR hI (by kernel_rfl)
      .nil (fun e13 a13 w13 hag hR hI => ?_)
  replace hbn := (hag 1 (by decide)).1.trans hbn
  refine ops_nil ?_
  refine then_n ?_
  refine reg_seq tab (k := 2) (hs := []) (sy := []) (ks := [24, 11, 12, 10]) (bs := [1, 0]) (gs := [])
      (L' := [(24, .v (.bool true)), (11, .v (.func (.func 13) #[.pointer (some ⟨b, 0, none⟩)] #[])), (12, .p 1 0), (10, .p 0 0)])
      (H' := [⟨1, 51, [.v (.bool false), .v (.int .i64 ((0 : Nat) : Int)), .v (.int .i64 ((n : Nat) : Int)), .v (.pointer none)]⟩, ⟨0, 27, [.v (.slice none 0 0)]⟩]) (G' := []) (k' := 2) hR hI (by kernel_rfl)
      .nil (fun e14 a14 w14 hag hR hI => ?_)
  replace hbn := (hag 1 (by decide)).1.trans hbn
  refine cnd_t hI (by kernel_rfl) ?_
  refine reg (is := [0, 1, 2]) (by kernel_rfl) ?_
  refine part_ tab [0] [1, 2] (by rfl) (k := 2) (hs := []) (sy := []) (ks := [25, 11, 10]) (bs := [1, 0]) (gs := [])
      (L' := [(25, .p 1 0), (11, .v (.func (.func 13) #[.pointer (some ⟨b, 0, none⟩)] #[])), (10, .p 0 0)])
      (H' := [⟨1, 51, [.v (.bool false), .v (.int .i64 ((0 : Nat) : Int)), .v (.int .i64 ((n : Nat) : Int)), .v (.pointer none)]⟩, ⟨0, 27, [.v (.slice none 0 0)]⟩]) (G' := []) (k' := 2) hR hI (by kernel_rfl)
      .nil (fun e15 a15 w15 hag hR hI => ?_)
  replace hbn := (hag 1 (by decide)).1.trans hbn
  refine rawOp (x := .v (.func (.func 14) #[.pointer (some ⟨b, 0, none⟩)] #[])) hI rfl rfl (by kernel_rfl) (fun ev hev => by simp [execOp, Instr.makeFunc, hev (.tmp 25) _ rfl, den, hbn]) (fun a16 hI => ?_)
  replace hI := hI.sel [26, 25, 11, 10] (by kernel_rfl : sel _ _ = some [(26, .v (.func (.func 14) #[.pointer (some ⟨b, 0, none⟩)] #[])), (25, .p 1 0), (11, .v (.func (.func 13) #[.pointer (some ⟨b, 0, none⟩)] #[])), (10, .p 0 0)])
  refine part_ tab [2] [] (by rfl) (k := 2) (hs := []) (sy := []) (ks := [11, 10]) (bs := [1, 0]) (gs := [])
      (L' := [(11, .v (.func (.func 14) #[.pointer (some ⟨b, 0, none⟩)] #[])), (10, .p 0 0)])
      (H' := [⟨1, 51, [.v (.bool false), .v (.int .i64 ((0 : Nat) : Int)), .v (.int .i64 ((n : Nat) : Int)), .v (.pointer none)]⟩, ⟨0, 27, [.v (.slice none 0 0)]⟩]) (G' := []) (k' := 2) hR hI (by kernel_rfl)
      .nil (fun e17 a17 w17 hag hR hI => ?_)
  replace hbn := (hag 1 (by decide)).1.trans hbn
  refine ops_nil ?_
  refine normal_block ?_
  refine then_n ?_
  refine wp_seq ?_
  refine wp_seq ?_
  refine reg (is := [0, 1, 2, 3]) (by kernel_rfl) ?_
  refine part_ tab [0] [1, 2, 3] (by rfl) (k := 2) (hs := []) (sy := []) (ks := [41, 11, 10]) (bs := [1, 0]) (gs := [])
      (L' := [(41, .v (.func (.func 14) #[.pointer (some ⟨b, 0, none⟩)] #[])), (11, .v (.func (.func 14) #[.pointer (some ⟨b, 0, none⟩)] #[])), (10, .p 0 0)])
      (H' := [⟨1, 51, [.v (.bool false), .v (.int .i64 ((0 : Nat) : Int)), .v (.int .i64 ((n : Nat) : Int)), .v (.pointer none)]⟩, ⟨0, 27, [.v (.slice none 0 0)]⟩]) (G' := []) (k' := 2) hR hI (by kernel_rfl)
      .nil (fun e18 a18 w18 hag hR hI => ?_)
  replace hbn := (hag 1 (by decide)).1.trans hbn
  refine callB0 hI rfl rfl ⟨_, rfl, rfl, rfl⟩ (by kernel_rfl : arg _ _ = some (.v (.func (.func 14) #[.pointer (some ⟨b, 0, none⟩)] #[]))) Tryd.func14 rfl rfl ?_
  have hblk_ := hR.blk ⟨1, 51, [.v (.bool false), .v (.int .i64 ((0 : Nat) : Int)), .v (.int .i64 ((n : Nat) : Int)), .v (.pointer none)]⟩ (by simp)
  refine (optBlockN_spec (C := fun _ => False) (by have h9 := hblk_.1; dsimp only at h9; rw [hbn] at h9; exact h9) (fun h => h) (by omega) (by omega)).mono ?_
  rintro ex w19 ⟨r, rfl, hk, hnew, hstr⟩
  rw [← hbn] at hk hnew
  have hkF_ := hR.keepB (b := ⟨1, 51, [.v (.bool false), .v (.int .i64 ((0 : Nat) : Int)), .v (.int .i64 ((n : Nat) : Int)), .v (.pointer none)]⟩) (by simp) hk
  have hB_ := hB.nextF hR hkF_
  replace hR := hR.turned (b := ⟨1, 51, [.v (.bool false), .v (.int .i64 ((0 : Nat) : Int)), .v (.int .i64 ((n : Nat) : Int)), .v (.pointer none)]⟩) (by simp) [.v (.bool false), .v (.int .i64 ((0 + r : Nat) : Int)), .v (.int .i64 ((n : Nat) : Int)), .v (.pointer none)] [⟨0, 27, [.v (.slice none 0 0)]⟩] (by simp) hk hnew
  dsimp only at hR; replace hB := hB_; clear hB_ hk hkF_ hblk_
  refine ⟨_, rfl, ?_⟩
  replace hI := hI.put (d := some 42) (x := .v (.agg #[.int .i16 ((r : Nat) : Int), .int .i16 ((r : Nat) : Int)])) (by intro t ht; cases ht; decide) rfl
  replace hI := hI.sel [42, 41, 11, 10] (by kernel_rfl : sel _ _ = some [(42, .v (.agg #[.int .i16 ((r : Nat) : Int), .int .i16 ((r : Nat) : Int)])), (41, .v (.func (.func 14) #[.pointer (some ⟨b, 0, none⟩)] #[])), (11, .v (.func (.func 14) #[.pointer (some ⟨b, 0, none⟩)] #[])), (10, .p 0 0)])
  refine part_ tab [2, 3] [] (by rfl) (k := 2) (hs := []) (sy := []) (ks := [13, 11, 10]) (bs := [2, 1, 0]) (gs := [])
      (L' := [(13, .p 2 0), (11, .v (.func (.func 14) #[.pointer (some ⟨b, 0, none⟩)] #[])), (10, .p 0 0)])
      (H' := [⟨2, 40, [.v (.int .i16 ((r : Nat) : Int)), .v (.int .i16 ((r : Nat) : Int))]⟩, ⟨1, 51, [.v (.bool false), .v (.int .i64 ((0 + r : Nat) : Int)), .v (.int .i64 ((n : Nat) : Int)), .v (.pointer none)]⟩, ⟨0, 27, [.v (.slice none 0 0)]⟩]) (G' := []) (k' := 3) hR hI (by kernel_rfl)
      .nil (fun e20 a20 w20 hag hR hI => ?_)
  replace hbn := (hag 1 (by decide)).1.trans hbn
  refine ops_nil ?_
  refine then_n ?_
  refine wp_block ?_
  obtain ⟨e21, hag_, hr_, hR_⟩ := hR.nilRow (L := [(13, .p 2 0), (11, .v (.func (.func 14) #[.pointer (some ⟨b, 0, none⟩)] #[])), (10, .p 0 0)]) 3 (by kernel_rfl) 30 2
  replace hbn := (hag_ 1 (by decide)).1.trans hbn
  replace hI := hI.agreeB (H := [⟨2, 40, [.v (.int .i16 ((r : Nat) : Int)), .v (.int .i16 ((r : Nat) : Int))]⟩, ⟨1, 51, [.v (.bool false), .v (.int .i64 ((0 + r : Nat) : Int)), .v (.int .i64 ((n : Nat) : Int)), .v (.pointer none)]⟩, ⟨0, 27, [.v (.slice none 0 0)]⟩]) (G := []) (by kernel_rfl) hag_; replace hR := hR_; clear hag_ hR_
  replace hR := hR.reblk (b := ⟨0, 27, [.v (.slice none 0 0)]⟩) (by simp) [.row 3] [⟨2, 40, [.v (.int .i16 ((r : Nat) : Int)), .v (.int .i16 ((r : Nat) : Int))]⟩, ⟨1, 51, [.v (.bool false), .v (.int .i64 ((0 + r : Nat) : Int)), .v (.int .i64 ((n : Nat) : Int)), .v (.pointer none)]⟩] (by simp) (by simp only [dens, den, hr_])
  dsimp only at hR
  clear hr_
  refine lpM (γ := Nat × Nat × Nat × Nat × Nat × List Nat) (fun (r, c, m, at', pos, fl) => (⟨[(10, .p 0 0), (11, .v (.func (.func 14) #[.pointer (some ⟨b, 0, none⟩)] #[])), (13, .p 2 0)], [⟨0, 27, [.row 3]⟩, ⟨1, 51, [.v (.bool false), .v (.int .i64 ((pos : Nat) : Int)), .v (.int .i64 ((n : Nat) : Int)), .v (.pointer none)]⟩, ⟨2, 40, [.v (.int .i16 ((r : Nat) : Int)), .v (.int .i16 ((c : Nat) : Int))]⟩], [⟨3, 30, 2, m, (ints .i64 fl)⟩], 4⟩ : Sy)) (fun (r, c, m, at', pos, fl) e C F wb => e.b 1 = b ∧ at' + r = pos ∧ pos ≤ n ∧ r ≤ 32767 ∧ (r = 0 → pos = n) ∧ c = r ∧ fl.length = 2 * m ∧ m ≤ at' ∧ Blks f 32767 0 fl at' ∧ ∀ d ∈ fl, d < 65536) (fun (r, c, m, at', pos, fl) => n - at') (r, r, 0, 0, 0 + r, []) hB (⟨hbn, by omega, by omega, by omega, fun h => by omega, rfl, rfl, Nat.le_refl _, rfl, fun d h => (by cases h)⟩)
      (hR.sel [0, 1, 2] [3] (by kernel_rfl) (by kernel_rfl)) (hI.sel [10, 11, 13] (by kernel_rfl)) ?_
  clear hR hI hB
  rintro ⟨r, c, m, at', pos, fl⟩ e22 C22 F22 wb22 a22 w22 hB hp hR hI
  dsimp only at hp hR hI
  obtain ⟨hbn, hat, hpn, hrM, hr0, hcc, hfl, hmat, hbl, hfd⟩ := hp
  refine wp_seq ?_
  refine reg_seq tab (k := 4) (hs := []) (sy := []) (ks := [45, 10, 11, 13]) (bs := [0, 1, 2]) (gs := [3])
      (L' := [(45, .v (.bool (((r : Nat) : Int) != (0 : Int)))), (10, .p 0 0), (11, .v (.func (.func 14) #[.pointer (some ⟨b, 0, none⟩)] #[])), (13, .p 2 0)])
      (H' := [⟨0, 27, [.row 3]⟩, ⟨1, 51, [.v (.bool false), .v (.int .i64 ((pos : Nat) : Int)), .v (.int .i64 ((n : Nat) : Int)), .v (.pointer none)]⟩, ⟨2, 40, [.v (.int .i16 ((r : Nat) : Int)), .v (.int .i16 ((c : Nat) : Int))]⟩]) (G' := [⟨3, 30, 2, m, (ints .i64 fl)⟩]) (k' := 4) hR hI (by kernel_rfl)
      .nil (fun e23 a23 w23 hag hR hI => ?_)
  replace hbn := (hag 1 (by decide)).1.trans hbn
  refine cnd (b := (((r : Nat) : Int) != (0 : Int))) hI (by kernel_rfl) (fun hc24 => ?_) (fun hc24 => ?_)
  · skip
    replace hI := hI.re 45 (.v (.bool true)) rfl (congrArg Value.bool hc24)
    try simp only [decide_eq_true_eq, decide_eq_false_iff_not, beq_iff_eq, bne_iff_ne, beq_eq_false_iff_ne, bne_eq_false_iff_eq, Bool.and_eq_true, Bool.and_eq_false_iff, Bool.or_eq_true, Bool.or_eq_false_iff, Bool.not_eq_true', Bool.not_eq_false', ne_eq] at hc24
    have hrp : 0 < r := by omega
    refine wp_skip ?_
    refine then_n ?_
    refine wp_seq ?_
    refine wp_block ?_
    refine reg_all tab (k := 4) (hs := [(3, .nw), (6, .nw)]) (sy := []) (ks := [10, 11, 13]) (bs := [0, 1, 2]) (gs := [5])
        (L' := [(10, .p 0 0), (11, .v (.func (.func 14) #[.pointer (some ⟨b, 0, none⟩)] #[])), (13, .p 2 0)])
        (H' := [⟨0, 27, [.row 5]⟩, ⟨1, 51, [.v (.bool false), .v (.int .i64 ((pos : Nat) : Int)), .v (.int .i64 ((n : Nat) : Int)), .v (.pointer none)]⟩, ⟨2, 40, [.v (.int .i16 ((r : Nat) : Int)), .v (.int .i16 ((c : Nat) : Int))]⟩]) (G' := [⟨5, 30, 2, (m + 1), ((ints .i64 fl) ++ [.int .i64 ((r : Nat) : Int), .int .i64 ((c : Nat) : Int)])⟩]) (k' := 6) hR hI (by kernel_rfl)
        (.cons (inR_i64 (n := ((r : Nat) : Int)) (by omega)) (.cons (inR_i64 (n := ((c : Nat) : Int)) (by omega)) (.cons (by have hm_ : maxLen = 9223372036854775807 := rfl; rw [hm_]; omega : m + 1 ≤ maxLen) (.cons (by omega : (m + 1) * 16 ≤ 140737488355328) .nil)))) (fun e25 a25 w25 hag hR hI => ?_)
    replace hbn := (hag 1 (by decide)).1.trans hbn
    refine normal_block ?_
    refine then_n ?_
    refine wp_seq ?_
    refine reg_seq tab (k := 6) (hs := []) (sy := []) (ks := [58, 10, 11]) (bs := [0, 1]) (gs := [5])
        (L' := [(58, .agg [.v (.int .i16 ((r : Nat) : Int)), .v (.int .i16 ((c : Nat) : Int))]), (10, .p 0 0), (11, .v (.func (.func 14) #[.pointer (some ⟨b, 0, none⟩)] #[]))])
        (H' := [⟨0, 27, [.row 5]⟩, ⟨1, 51, [.v (.bool false), .v (.int .i64 ((pos : Nat) : Int)), .v (.int .i64 ((n : Nat) : Int)), .v (.pointer none)]⟩]) (G' := [⟨5, 30, 2, (m + 1), ((ints .i64 fl) ++ [.int .i64 ((r : Nat) : Int), .int .i64 ((c : Nat) : Int)])⟩]) (k' := 6) hR hI (by kernel_rfl)
        .nil (fun e26 a26 w26 hag hR hI => ?_)
    replace hbn := (hag 1 (by decide)).1.trans hbn
    refine reg_all tab (k := 6) (hs := []) (sy := []) (ks := [13, 10, 11]) (bs := [6, 0, 1]) (gs := [5])
        (L' := [(13, .p 6 0), (10, .p 0 0), (11, .v (.func (.func 14) #[.pointer (some ⟨b, 0, none⟩)] #[]))])
        (H' := [⟨6, 40, [.v (.int .i16 ((r : Nat) : Int)), .v (.int .i16 ((c : Nat) : Int))]⟩, ⟨0, 27, [.row 5]⟩, ⟨1, 51, [.v (.bool false), .v (.int .i64 ((pos : Nat) : Int)), .v (.int .i64 ((n : Nat) : Int)), .v (.pointer none)]⟩]) (G' := [⟨5, 30, 2, (m + 1), ((ints .i64 fl) ++ [.int .i64 ((r : Nat) : Int), .int .i64 ((c : Nat) : Int)])⟩]) (k' := 7) hR hI (by kernel_rfl)
        .nil (fun e27 a27 w27 hag hR hI => ?_)
    replace hbn := (hag 1 (by decide)).1.trans hbn
    refine then_n ?_
    refine reg (is := [0, 1, 2]) (by kernel_rfl) ?_
    refine part_ tab [0] [1, 2] (by rfl) (k := 7) (hs := []) (sy := []) (ks := [46, 13, 10, 11]) (bs := [6, 0, 1]) (gs := [5])
        (L' := [(46, .v (.func (.func 14) #[.pointer (some ⟨b, 0, none⟩)] #[])), (13, .p 6 0), (10, .p 0 0), (11, .v (.func (.func 14) #[.pointer (some ⟨b, 0, none⟩)] #[]))])
        (H' := [⟨6, 40, [.v (.int .i16 ((r : Nat) : Int)), .v (.int .i16 ((c : Nat) : Int))]⟩, ⟨0, 27, [.row 5]⟩, ⟨1, 51, [.v (.bool false), .v (.int .i64 ((pos : Nat) : Int)), .v (.int .i64 ((n : Nat) : Int)), .v (.pointer none)]⟩]) (G' := [⟨5, 30, 2, (m + 1), ((ints .i64 fl) ++ [.int .i64 ((r : Nat) : Int), .int .i64 ((c : Nat) : Int)])⟩]) (k' := 7) hR hI (by kernel_rfl)
        .nil (fun e28 a28 w28 hag hR hI => ?_)
    replace hbn := (hag 1 (by decide)).1.trans hbn
    refine callB0 hI rfl rfl ⟨_, rfl, rfl, rfl⟩ (by kernel_rfl : arg _ _ = some (.v (.func (.func 14) #[.pointer (some ⟨b, 0, none⟩)] #[]))) Tryd.func14 rfl rfl ?_
    have hblk_ := hR.blk ⟨1, 51, [.v (.bool false), .v (.int .i64 ((pos : Nat) : Int)), .v (.int .i64 ((n : Nat) : Int)), .v (.pointer none)]⟩ (by simp)
    refine (optBlockN_spec (C := fun _ => False) (by have h9 := hblk_.1; dsimp only at h9; rw [hbn] at h9; exact h9) (fun h => h) (by omega) (by omega)).mono ?_
    rintro ex w29 ⟨r2, rfl, hk, hnew, hstr2⟩
    rw [← hbn] at hk hnew
    have hkF_ := hR.keepB (b := ⟨1, 51, [.v (.bool false), .v (.int .i64 ((pos : Nat) : Int)), .v (.int .i64 ((n : Nat) : Int)), .v (.pointer none)]⟩) (by simp) hk
    have hB_ := hB.nextF hR hkF_
    replace hR := hR.turned (b := ⟨1, 51, [.v (.bool false), .v (.int .i64 ((pos : Nat) : Int)), .v (.int .i64 ((n : Nat) : Int)), .v (.pointer none)]⟩) (by simp) [.v (.bool false), .v (.int .i64 ((pos + r2 : Nat) : Int)), .v (.int .i64 ((n : Nat) : Int)), .v (.pointer none)] [⟨6, 40, [.v (.int .i16 ((r : Nat) : Int)), .v (.int .i16 ((c : Nat) : Int))]⟩, ⟨0, 27, [.row 5]⟩] (by simp) hk hnew
    dsimp only at hR; replace hB := hB_; clear hB_ hk hkF_ hblk_
    refine ⟨_, rfl, ?_⟩
    replace hI := hI.put (d := some 47) (x := .v (.agg #[.int .i16 ((r2 : Nat) : Int), .int .i16 ((r2 : Nat) : Int)])) (by intro t ht; cases ht; decide) rfl
    replace hI := hI.sel [47, 46, 13, 10, 11] (by kernel_rfl : sel _ _ = some [(47, .v (.agg #[.int .i16 ((r2 : Nat) : Int), .int .i16 ((r2 : Nat) : Int)])), (46, .v (.func (.func 14) #[.pointer (some ⟨b, 0, none⟩)] #[])), (13, .p 6 0), (10, .p 0 0), (11, .v (.func (.func 14) #[.pointer (some ⟨b, 0, none⟩)] #[]))])
    refine part_ tab [2] [] (by rfl) (k := 7) (hs := []) (sy := []) (ks := [13, 10, 11]) (bs := [6, 1, 0]) (gs := [5])
        (L' := [(13, .p 6 0), (10, .p 0 0), (11, .v (.func (.func 14) #[.pointer (some ⟨b, 0, none⟩)] #[]))])
        (H' := [⟨6, 40, [.v (.int .i16 ((r2 : Nat) : Int)), .v (.int .i16 ((r2 : Nat) : Int))]⟩, ⟨1, 51, [.v (.bool false), .v (.int .i64 ((pos + r2 : Nat) : Int)), .v (.int .i64 ((n : Nat) : Int)), .v (.pointer none)]⟩, ⟨0, 27, [.row 5]⟩]) (G' := [⟨5, 30, 2, (m + 1), ((ints .i64 fl) ++ [.int .i64 ((r : Nat) : Int), .int .i64 ((c : Nat) : Int)])⟩]) (k' := 7) hR hI (by kernel_rfl)
        .nil (fun e30 a30 w30 hag hR hI => ?_)
    replace hbn := (hag 1 (by decide)).1.trans hbn
    refine ops_nil ?_
    refine then_n ?_
    rw [ints_two] at hR
    have hren_ : Sy.ren [(3, 5), (2, 6)] ⟨[(13, .p 2 0), (10, .p 0 0), (11, .v (.func (.func 14) #[.pointer (some ⟨b, 0, none⟩)] #[]))], [⟨2, 40, [.v (.int .i16 ((r2 : Nat) : Int)), .v (.int .i16 ((r2 : Nat) : Int))]⟩, ⟨1, 51, [.v (.bool false), .v (.int .i64 ((pos + r2 : Nat) : Int)), .v (.int .i64 ((n : Nat) : Int)), .v (.pointer none)]⟩, ⟨0, 27, [.row 3]⟩], [⟨3, 30, 2, (m + 1), (ints .i64 (fl ++ [r, c]))⟩], 0⟩ = ⟨[(13, .p 6 0), (10, .p 0 0), (11, .v (.func (.func 14) #[.pointer (some ⟨b, 0, none⟩)] #[]))], [⟨6, 40, [.v (.int .i16 ((r2 : Nat) : Int)), .v (.int .i16 ((r2 : Nat) : Int))]⟩, ⟨1, 51, [.v (.bool false), .v (.int .i64 ((pos + r2 : Nat) : Int)), .v (.int .i64 ((n : Nat) : Int)), .v (.pointer none)]⟩, ⟨0, 27, [.row 5]⟩], [⟨5, 30, 2, (m + 1), (ints .i64 (fl ++ [r, c]))⟩], 0⟩ := by kernel_rfl
    replace hI := hI.rename (S := ⟨[(13, .p 6 0), (10, .p 0 0), (11, .v (.func (.func 14) #[.pointer (some ⟨b, 0, none⟩)] #[]))], [⟨6, 40, [.v (.int .i16 ((r2 : Nat) : Int)), .v (.int .i16 ((r2 : Nat) : Int))]⟩, ⟨1, 51, [.v (.bool false), .v (.int .i64 ((pos + r2 : Nat) : Int)), .v (.int .i64 ((n : Nat) : Int)), .v (.pointer none)]⟩, ⟨0, 27, [.row 5]⟩], [⟨5, 30, 2, (m + 1), (ints .i64 (fl ++ [r, c]))⟩], 0⟩) (S' := ⟨[(13, .p 2 0), (10, .p 0 0), (11, .v (.func (.func 14) #[.pointer (some ⟨b, 0, none⟩)] #[]))], [⟨2, 40, [.v (.int .i16 ((r2 : Nat) : Int)), .v (.int .i16 ((r2 : Nat) : Int))]⟩, ⟨1, 51, [.v (.bool false), .v (.int .i64 ((pos + r2 : Nat) : Int)), .v (.int .i64 ((n : Nat) : Int)), .v (.pointer none)]⟩, ⟨0, 27, [.row 3]⟩], [⟨3, 30, 2, (m + 1), (ints .i64 (fl ++ [r, c]))⟩], 0⟩) hren_; replace hR := hR.rename (S := ⟨[(13, .p 6 0), (10, .p 0 0), (11, .v (.func (.func 14) #[.pointer (some ⟨b, 0, none⟩)] #[]))], [⟨6, 40, [.v (.int .i16 ((r2 : Nat) : Int)), .v (.int .i16 ((r2 : Nat) : Int))]⟩, ⟨1, 51, [.v (.bool false), .v (.int .i64 ((pos + r2 : Nat) : Int)), .v (.int .i64 ((n : Nat) : Int)), .v (.pointer none)]⟩, ⟨0, 27, [.row 5]⟩], [⟨5, 30, 2, (m + 1), (ints .i64 (fl ++ [r, c]))⟩], 0⟩) (S' := ⟨[(13, .p 2 0), (10, .p 0 0), (11, .v (.func (.func 14) #[.pointer (some ⟨b, 0, none⟩)] #[]))], [⟨2, 40, [.v (.int .i16 ((r2 : Nat) : Int)), .v (.int .i16 ((r2 : Nat) : Int))]⟩, ⟨1, 51, [.v (.bool false), .v (.int .i64 ((pos + r2 : Nat) : Int)), .v (.int .i64 ((n : Nat) : Int)), .v (.pointer none)]⟩, ⟨0, 27, [.row 3]⟩], [⟨3, 30, 2, (m + 1), (ints .i64 (fl ++ [r, c]))⟩], 0⟩) hren_ (by kernel_rfl) (by kernel_rfl); dsimp only at hI hR; clear hren_
    replace hbn : (Env.ren e30 [(3, 5), (2, 6)]).b 1 = _ := hbn
    exact ⟨(r2, r2, m + 1, at' + r, pos + r2, fl ++ [r, c]), _, _, _, _, hB, ⟨hbn, by omega, by omega, by omega, fun h => by omega, rfl, fls hfl, by omega, hbl.snoc (by omega) hrM (by rw [hcc]; exact ((cnt_congr (g := fun _ => true) (fun i hi => hf _ (by omega))).trans (cnt_true r)).symm), pair_dig hfd (by omega) (by omega)⟩, (by (try dsimp only); omega), hR.sel [0, 1, 2] [3] (by kernel_rfl) (by kernel_rfl), hI.sel [10, 11, 13] (by kernel_rfl)⟩
  · skip
    replace hI := hI.re 45 (.v (.bool false)) rfl (congrArg Value.bool hc24)
    try simp only [decide_eq_true_eq, decide_eq_false_iff_not, beq_iff_eq, bne_iff_ne, beq_eq_false_iff_ne, bne_eq_false_iff_eq, Bool.and_eq_true, Bool.and_eq_false_iff, Bool.or_eq_true, Bool.or_eq_false_iff, Bool.not_eq_true', Bool.not_eq_false', ne_eq] at hc24
    have hrz : r = 0 := by omega
    have hrem := hr0 hrz
    refine wp_exit ?_
    refine exit_then ?_
    refine exit_then ?_
    refine exit_hit ?_
    refine then_n ?_
    have hatn : at' = n := by omega
    obtain ⟨hB_, hR_, hrel_, bd, bc, hv_, hcells, hlen_, hcap_, hmax_⟩ := hB.releaseN hR (y := ⟨3, 30, 2, m, (ints .i64 fl)⟩) (by simp) _ dropN_mem
    replace hB := hB_; replace hR := hR_.sel [0, 1, 2] [] (by kernel_rfl : selH _ _ = some [⟨0, 27, [.row 3]⟩, ⟨1, 51, [.v (.bool false), .v (.int .i64 ((pos : Nat) : Int)), .v (.int .i64 ((n : Nat) : Int)), .v (.pointer none)]⟩, ⟨2, 40, [.v (.int .i16 ((r : Nat) : Int)), .v (.int .i16 ((c : Nat) : Int))]⟩]) (by kernel_rfl : selG _ _ = some []); clear hB_ hR_ hrel_
    replace hR := hR.reblk (b := ⟨0, 27, [.row 3]⟩) (by simp) [.v (.slice bd m bc)] [⟨1, 51, [.v (.bool false), .v (.int .i64 ((pos : Nat) : Int)), .v (.int .i64 ((n : Nat) : Int)), .v (.pointer none)]⟩, ⟨2, 40, [.v (.int .i16 ((r : Nat) : Int)), .v (.int .i16 ((c : Nat) : Int))]⟩] (by simp) (by simp only [dens, den, hv_])
    dsimp only at hR
    clear hv_
    have hfl0 := sl_flat hcells hfd (by omega)
    have hbcm : m ≤ bc := hcap_; have hbcx : bc ≤ 9223372036854775807 := hmax_
    refine reg_seq tab (k := 4) (hs := []) (sy := []) (ks := [10]) (bs := [0, 1]) (gs := [])
        (L' := [(10, .p 0 0)])
        (H' := [⟨0, 27, [.v (.slice bd m bc)]⟩, ⟨1, 51, [.v (.bool false), .v (.int .i64 ((pos : Nat) : Int)), .v (.int .i64 ((n : Nat) : Int)), .v (.pointer none)]⟩]) (G' := []) (k' := 4) hR hI (by kernel_rfl)
        .nil (fun e31 a31 w31 hag hR hI => ?_)
    replace hbn := (hag 1 (by decide)).1.trans hbn
    refine wp_ret ?_
    refine outF tab (xs := [.v (.slice bd m bc)]) hR hI (inv8 _ _) (idle8 _) rfl (by kernel_rfl) ?_
    exact ⟨fl, bd, bc, m, rfl, hB.fin hR, hfl0.fin hB hR, hfl, hbcm, hbcx, by rw [← hatn]; exact hbl⟩

end Go.Proofs.YtbfbpkcepchldaaDoor.Stride
