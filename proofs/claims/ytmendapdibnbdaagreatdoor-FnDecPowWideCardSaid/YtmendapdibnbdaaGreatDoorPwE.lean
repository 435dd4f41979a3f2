/- Walks of the program's functions, printed by a program of mine (walk.py) over the words of Stride: each function's contract. -/
import Derived.Test.YtmendapdibnbdaaGreatDoorPwD
namespace Go.Proofs.YtmendapdibnbdaaGreatDoor.Stride
open Go Go.RowKit Go.Proofs.YtmendapdibnbdaaGreatDoor.Mag
set_option linter.unusedVariables false
set_option linter.unusedSimpArgs false
set_option maxHeartbeats 4000000
set_option maxRecDepth 100000
theorem ptr_same {P : Program} {w : World} {t t2 te : TypeId} {j : TypeInfo} {x y : Operand} {p : Addr} (ev : Operand → Value) {o : Oper} (ho : o.op = .binOp .eql t x y t2) (h1 : ev x = .pointer (some p)) (h2 : ev y = .pointer (some p)) (hp : P.underlying t = some (.pointer te)) (hte : P.info? te = some j) : (execOp ev o).run P w = .ok (.value (.bool true)) w := by
 have h : ∀ d : Nat, (Op.equalIn (d + 1) t (.pointer (some p)) (.pointer (some p))).run P w = .ok true w := fun d => by
  simp [Op.equalIn, run_underlying hp, sizeOf, typeInfo, hte, run_sameAddr_same]
 have hE : (Op.equal t (.pointer (some p)) (.pointer (some p))).run P w = .ok true w := run_equal_top h
 have hg : (eqGuard .eql t x y (.pointer (some p)) (.pointer (some p))).run P w = .ok () w := by simp [eqGuard]
 have h3 : (binOp .eql t (.pointer (some p)) (.pointer (some p))) = (do pure (.bool (← Op.equal t (.pointer (some p)) (.pointer (some p))))) := rfl
 simp only [execOp, ho, h1, h2, Sem.run_bind, hg, Result.andThen_ok, h3, hE]
 simp

theorem aliasSelf_spec {C : Nat → Prop} {w : World} {g N l c : Nat} {zs : List Nat} (hz : w.heap[g]? = some (.cells (ints .u64 zs).toArray 102)) (hzl : zs.length = N) (hzm : N ≤ 9223372036854775807) (hCg : ¬ C g) (hc : 0 < c) (hcb : c ≤ 9223372036854775807) :
    Calls P 74 #[.slice (some ⟨g, 0, none⟩) l c, .slice (some ⟨g, 0, none⟩) l c] w fun ex w' => ex = .returned (.bool true) ∧ Keep (ButN [g] w) w w' ∧ w'.heap[g]? = some (.cells (ints .u64 zs).toArray 102) := by
 refine doorN (e := (e0.addR 0 (.slice (some ⟨g, 0, none⟩) N N))) (vs := [.rsl 0 0 l c, .rsl 0 0 l c]) (n := 32) (m := 2) Tryz.func74 rfl rfl rfl (by decide) fun a_ hI => ?_
 replace hI : Is 32 [] (e0.addR 0 (.slice (some ⟨g, 0, none⟩) N N)) [(0, .rsl 0 0 l c), (1, .rsl 0 0 l c)] a_ := hI
 have hf0 : Full (e0.addR 0 (.slice (some ⟨g, 0, none⟩) N N)) 0 N := rfl; have hg0 : headOf ((e0.addR 0 (.slice (some ⟨g, 0, none⟩) N N)).r 0) = g := rfl
 have hR : Rel (ButN [g] w) w (e0.addR 0 (.slice (some ⟨g, 0, none⟩) N N)) [] [⟨0, 102, 1, N, (ints .u64 zs)⟩] w := Rel.startN (fun k_ h_ => h_.1) all_no (all_cons ⟨ownsRow_fullN hz (by first | exact hzl | (rw [ints_length]; exact hzl)) hzm, fun g_ he_ => by cases he_; exact (fun hm_ => hm_.2 m0)⟩ all_no) all_no all_no (all_cons (all_cons (fun hn_ => absurd rfl hn_) all_no) all_no)
 have hB : BaseD (ButN [g] w) C w C (ButN [g] w) w := BaseD.start (fun k_ hC_ hlt_ => ⟨hlt_, notin2 (fun he_ => hCg (he_ ▸ hC_)) (fun hm_ => by cases hm_)⟩)
 refine rZ tab 1 [] [0, 1] hR hI fun e1 a1 w1 hag hR hI => ?_
 have hA := hag
 refine wp_seq ?_
 refine regL 25 hR (by kernel_rfl) (fun hS => ?_)
 replace hR := hR.drew; have hF := hR.fore
 refine cK tab [(2, .eq (.bool true)), (6, .eq (.bool true)), (15, .eq (.int .i64 ((c - 1 : Nat) : Int))), (23, .eq (.int .i64 ((c - 1 : Nat) : Int)))] [] [0, 1, 2, 3, 4, 5, 6, 7, 8, 9, 10, 11, 12, 13, 14, 15, 16, 17, 18, 19, 20, 21, 22, 23, 24] 3 [(29, .pr 0 (0 + (c - 1))), (21, .pr 0 (0 + (c - 1))), (13, vB true)] [] hS hI (.cons (congrArg Value.bool (decide_eq_true (by omega) : (decide ((c : Int) > (0 : Int))) = true)) (.cons (congrArg Value.bool (decide_eq_true (by omega) : (decide ((c : Int) > (0 : Int))) = true)) (.cons (by omega : (0 : Int) ≤ (0 : Int) ∧ (0 : Int) ≤ (c : Int) ∧ (c : Int) ≤ (c : Nat)) (.cons (by omega : ((0 : Int) : Int) < (c : Nat) ∨ ((0 : Int) : Int) = 0) (.cons (wI ((c : Int) - (1 : Int)) ((c - 1 : Nat) : Int) (by omega) (by omega)) (.cons (by omega : (0 : Int) ≤ ((c - 1 : Nat) : Int) ∧ ((c - 1 : Nat) : Int) < (c : Int)) (.cons (by omega : (0 : Int) ≤ (0 : Int) ∧ (0 : Int) ≤ (c : Int) ∧ (c : Int) ≤ (c : Nat)) (.cons (by omega : ((0 : Int) : Int) < (c : Nat) ∨ ((0 : Int) : Int) = 0) (.cons (wI ((c : Int) - (1 : Int)) ((c - 1 : Nat) : Int) (by omega) (by omega)) (.cons (by omega : (0 : Int) ≤ ((c - 1 : Nat) : Int) ∧ ((c - 1 : Nat) : Int) < (c : Int)) .nil)))))))))) fun a2 hI => ?_
 refine endL (i := 25) (f' := 2) (by kernel_rfl) (by rfl) (by kernel_rfl) ?_
 refine rawL (x := vB true) hI rfl rfl (by kernel_rfl) (fun ev hev => ptr_same ev rfl (hev (.tmp 21) (.pr 0 (0 + (c - 1))) (by kernel_rfl)) (hev (.tmp 29) (.pr 0 (0 + (c - 1))) (by kernel_rfl)) (te := 102) (by kernel_rfl) rfl) (fun a3 hI => ?_)
 replace hI := hI.sl [30, 29, 21, 13] rfl
 refine endL (i := 26) (f' := 1) (by kernel_rfl) (by rfl) (by kernel_rfl) ?_
 refine quietL tab (hh := .no) (x := vB true) hR hI rfl rfl rfl (by kernel_rfl) .nil (fun a4 hI => ?_)
 replace hI := hI.sl [31, 30, 29, 21, 13] rfl
 refine endL (i := 27) (f' := 0) (by kernel_rfl) (by rfl) (by kernel_rfl) ?_
 refine quietL tab (hh := .no) (x := vB true) hR hI rfl rfl rfl (by kernel_rfl) .nil (fun a5 hI => ?_)
 replace hI := hI.sl [4, 31, 30, 29, 21, 13] rfl
 refine doneL (by kernel_rfl) ?_
 refine then_n ?_
 replace hI := hI.sl [4] rfl; replace hR := hR.sel [] [0] rfl rfl
 refine wp_ret (oN tab [vB true] hR hI ?_)
 replace hf0 := tf hA hf0
 replace hg0 := tg hA hg0
 exact ⟨rfl, hB.fin hR, (hR.rowFin (y := ⟨0, 102, 1, N, (ints .u64 zs)⟩) m0 hf0 rfl hg0)⟩

theorem setRaw_spec {C : Nat → Prop} {w : World} {ad : Option Addr} {xc : Nat} {xs : List Nat} (hx : Sl .u64 18446744073709551616 C w ad xc xs) (hn : 0 < xs.length) (hnb : xs.length ≤ 60000) :
    Calls P 67 #[.slice none 0 0, .slice ad xs.length xc] w fun ex w' => ∃ g1 c1, ex = .returned (.slice (some ⟨g1, 0, none⟩) xs.length c1) ∧ KS w w' ∧ w.heap.size ≤ g1 ∧ w'.heap[g1]? = some (.cells (ints .u64 (put (List.replicate c1 0) 0 xs)).toArray 102) ∧ xs.length ≤ c1 ∧ c1 ≤ xs.length + 4 := by
 refine dN (C := C) [vS none 0 0, vS ad xs.length xc] 13 2 Tryz.func67 fun a_ hI hR hB => ?_
 replace hI : Is 13 [] e0 [(0, vS none 0 0), (1, vS ad xs.length xc)] a_ := hI
 refine rZ tab 0 [] [0, 1] hR hI fun e1 a1 w1 hag hR hI => ?_
 refine wp_seq (reg (is := [0, 1, 2, 3, 4]) (by kernel_rfl) ?_)
 refine pZ tab [0, 1, 2] [3, 4] 0 [(7, vI xs.length), (5, vS none 0 0)] [0, 1] hR hI fun e2 a2 w2 hag hR hI => ?_
 refine cO [vS none 0 0, vI xs.length] hI Tryz.func78 ?_
 have hsz_ := (hB.fin hR).size
 refine (makeNew_spec (C := Now hB) (n := xs.length) (by omega) (by omega)).mono ?_
 rintro ex w3 ⟨g1, c1, rfl, hk, hge, hwg, hc1, hc2⟩
 replace hk := keepBut0 hk
 have hkF_ := hR.keepN hk all_no
 have hR_ : Rel (Grow _ _ w3) w3 e2 [] [] w3 := hR.turnedN hk all_no all_no all_no
 have hM_ : ∀ b_ ∈ ([g1] : List Nat), _ ≤ b_ := (all_cons hge all_no)
 replace hx := hx.nextN hB hR hkF_ hM_
 have hB_ := hB.nextN hR hkF_ hM_; have hR1_ := hR_.shrinkN (M := [g1])
 obtain ⟨hfr1_, hfr2_⟩ := hR.fresh (H' := []) (G' := []) all_no all_no hge
 obtain ⟨hag_, hR2_⟩ := hR1_.gotRow (L := []) (k := 0) (g := g1) (n := c1) (t := 102) (xs := (ints .u64 (List.replicate c1 0))) (by kernel_rfl) hwg (by rw [ints_length, List.length_replicate]) (by omega) (fun hf_ => hf_.2.1 m0) hfr1_ hfr2_
 replace hI := hI.agreeB (H := []) (G := []) (by kernel_rfl) hag_
 have hf0 : Full (e2.addR 0 (.slice (some ⟨g1, 0, none⟩) c1 c1)) 0 c1 := full_addR _ _ _ _; have hnew0 : headOf ((e2.addR 0 (.slice (some ⟨g1, 0, none⟩) c1 c1)).r 0) = g1 := head_addR _ _ _ _
 replace hR := hR2_; clear hR2_ hR_ hR1_
 replace hB := hB_; clear hB_ hk hkF_ 
 have hgw := Nat.le_trans hsz_ hge
 have hrl_ : (List.replicate c1 0).length = c1 := List.length_replicate
 refine ⟨_, rfl, ?_⟩
 replace hI := hI.pt 8 (.rsl 0 0 xs.length c1) [8, 7, 5, 0, 1]
 refine pZ tab [4] [] 1 [(0, .rsl 0 0 xs.length c1)] [1] hR hI fun e4 a4 w4 hag hR hI => ?_
 have hA := hag
 refine ops_nil (then_n ?_)
 refine wp_seq (reg (is := [0, 1, 2]) (by kernel_rfl) ?_)
 refine pZ tab [0, 1] [2] 1 [(10, vS ad xs.length xc), (9, .rsl 0 0 xs.length c1)] [0] hR hI fun e5 a5 w5 hag hR hI => ?_
 replace hA := hA.trans hag (by decide)
 replace hf0 := tf hA hf0
 replace hnew0 := tg hA hnew0
 refine copyOp (sv := vS ad xs.length xc) (m := 0) (off := 0) (l := xs.length) (c := c1) (sl := xs.length) (sc := xc) (cs := ints .u64 xs) (y := ⟨0, 102, 1, c1, (ints .u64 (List.replicate c1 0))⟩) tab hR hI rfl rfl (by kernel_rfl) ⟨_, rfl, rfl, rfl, rfl⟩ rfl (by kernel_rfl) hf0 rfl (by kernel_rfl) (by kernel_rfl) rfl ((hx.now hB hR).cells) (by rw [ints_length]; exact (Nat.min_self _).symm) (by rw [ints_length]; (try dsimp only); omega) ints_one (fun a6 w6 hR hI => ?_)
 dsimp only at hR; rw [ints_put] at hR; replace hR := hR.sel [] [0] rfl rfl
 replace hI := hI.sl [11, 10, 9, 0] rfl
 refine ops_nil (then_n ?_)
 refine rZ tab 1 [(4, .rsl 0 0 xs.length c1)] [] hR hI fun e7 a7 w7 hag hR hI => ?_
 have hA := hag
 refine wp_ret (oN tab [.rsl 0 0 xs.length c1] hR hI ?_)
 replace hf0 := tf hA hf0
 replace hnew0 := tg hA hnew0
 have hrc_ := hR.rowCells (y := ⟨0, 102, 1, c1, (ints .u64 (put (List.replicate c1 0) 0 xs))⟩) m0 hf0 rfl
 exact ⟨g1, c1, by simp only [single, den, hnew0], hB.fin hR, hgw, (hR.rowFin (y := ⟨0, 102, 1, c1, (ints .u64 (put (List.replicate c1 0) 0 xs))⟩) m0 hf0 rfl hnew0), by omega, by omega⟩

theorem put_takem {zs rs : List Nat} {m : Nat} (h : m ≤ rs.length) : (put zs 0 rs).take m = rs.take m := by
 unfold put
 rw [List.take_zero, List.nil_append, List.take_append_of_le_length h]
theorem put_len0 {zs rs : List Nat} (h : rs.length ≤ zs.length) : (put zs 0 rs).length = zs.length := put_length (by omega)
theorem sqrOld_spec {C : Nat → Prop} {w : World} {g g2 N2 l c n cx : Nat} {zs us : List Nat} {sp : Option Addr} (hz : w.heap[g]? = some (.cells (ints .u64 zs).toArray 102 (0, 0))) (hzl : zs.length = c) (hzm : c ≤ 9223372036854775807) (hCg : ¬ C g) (hu : w.heap[g2]? = some (.cells (ints .u64 us).toArray 102 (0, 0))) (hul : us.length = N2) (hum : N2 ≤ 9223372036854775807) (hCu : ¬ C g2) (hud : Ndig us) (hne : g ≠ g2) (hzd : Ndig zs)
  (hk1 : Sl .i64 18446744073709551616 C w (some ⟨1, 0, none⟩) 1 [12]) (hk2 : Sl .i64 18446744073709551616 C w (some ⟨2, 0, none⟩) 1 [80]) (hn : 1 ≤ n) (hn8 : n ≤ 11) (hnu : n ≤ N2) (hnc : n ≤ cx) (hcx : cx ≤ 9223372036854775807) (hc0 : 0 < c) (hc : 2 * n ≤ c) :
  Calls P 101 #[.slice (some ⟨g, 0, none⟩) l c, .pointer sp, .slice (some ⟨g2, 0, none⟩) n cx] w fun ex w' => ∃ (m : Nat) (zs' : List Nat), ex = .returned (.slice (some ⟨g, 0, none⟩) m c) ∧ Keep (ButN [g, g2] w) w w' ∧ w'.heap[g]? = some (.cells (ints .u64 zs').toArray 102 (0, 0)) ∧ w'.heap[g2]? = some (.cells (ints .u64 us).toArray 102 (0, 0)) ∧
   zs'.length = c ∧ Ndig zs' ∧ m ≤ c ∧ Ntrim (zs'.take m) ∧ nval (zs'.take m) = nval ((us.drop 0).take n) * nval ((us.drop 0).take n) := by
 rcases Nat.eq_or_lt_of_le hn with hn1 | hn1
 ·
  subst hn1
  refine (sqr1O_spec (C := C) (n := 1) hz hzl hzm hCg hu hul hum hCu hud hne hzd hnu hnc hcx hc hc hzm).mono fun ex w' h => ?_
  obtain ⟨m, rs, h1, h2, h4, h5, h8, h9, h10, h11, h12⟩ := h
  have hl : (put zs 0 rs).length = c := by rw [put_len0 (by omega)]; exact hzl
  exact ⟨m, _, h1, h2, h4, h5, hl, put_dig hzd h9, by omega, by rw [put_takem (by omega)]; exact h11, by rw [put_takem (by omega)]; exact h12⟩
 ·
  refine (sqrO_spec (C := C) hz hzl hzm hCg hu hul hum hCu hud hne hzd hk1 hk2 (by omega) hn8 hnu hnc hcx hc hc hzm).mono fun ex w' h => ?_
  obtain ⟨m, rs, h1, h2, h4, h5, h8, h9, h10, h11, h12⟩ := h
  have hl : (put zs 0 rs).length = c := by rw [put_len0 (by omega)]; exact hzl
  exact ⟨m, _, h1, h2, h4, h5, hl, put_dig hzd h9, by omega, by rw [put_takem (by omega)]; exact h11, by rw [put_takem (by omega)]; exact h12⟩
theorem sqrNew_spec {C : Nat → Prop} {w : World} {g g2 N2 l c n cx : Nat} {zs us : List Nat} {sp : Option Addr} (hz : w.heap[g]? = some (.cells (ints .u64 zs).toArray 102 (0, 0))) (hzl : zs.length = c) (hzm : c ≤ 9223372036854775807) (hCg : ¬ C g) (hu : w.heap[g2]? = some (.cells (ints .u64 us).toArray 102 (0, 0))) (hul : us.length = N2) (hum : N2 ≤ 9223372036854775807) (hCu : ¬ C g2) (hud : Ndig us) (hne : g ≠ g2) (hzd : Ndig zs)
  (hk1 : Sl .i64 18446744073709551616 C w (some ⟨1, 0, none⟩) 1 [12]) (hk2 : Sl .i64 18446744073709551616 C w (some ⟨2, 0, none⟩) 1 [80]) (hn : 1 ≤ n) (hn8 : n ≤ 11) (hnu : n ≤ N2) (hnc : n ≤ cx) (hcx : cx ≤ 9223372036854775807) (hc0 : 0 < c) (hc : c < 2 * n) :
  Calls P 101 #[.slice (some ⟨g, 0, none⟩) l c, .pointer sp, .slice (some ⟨g2, 0, none⟩) n cx] w fun ex w' => ∃ (g3 c3 m : Nat) (zs3 : List Nat), ex = .returned (.slice (some ⟨g3, 0, none⟩) m c3) ∧ Keep (ButN [g, g2] w) w w' ∧ w.heap.size ≤ g3 ∧ w'.heap[g3]? = some (.cells (ints .u64 zs3).toArray 102 (0, 0)) ∧ w'.heap[g]? = some (.cells (ints .u64 zs).toArray 102 (0, 0)) ∧ w'.heap[g2]? = some (.cells (ints .u64 us).toArray 102 (0, 0)) ∧
   zs3.length = c3 ∧ Ndig zs3 ∧ m ≤ c3 ∧ 0 < c3 ∧ c3 ≤ 9223372036854775807 ∧ Ntrim (zs3.take m) ∧ nval (zs3.take m) = nval ((us.drop 0).take n) * nval ((us.drop 0).take n) := by
 have hglt : g < w.heap.size := (Array.getElem?_eq_some_iff.1 hz).1
 rcases Nat.eq_or_lt_of_le hn with hn1 | hn1
 ·
  subst hn1
  refine (sqr1B_spec (C := C) (n := 1) (cx := cx) (zl := l) (za := some ⟨g, 0, none⟩) hu hul hum hCu hud hnu hnc hcx hc).mono fun ex w' h => ?_
  obtain ⟨g3, c3, m, rs, h1, h2, h3, h4, h5, h6, h7, h8, h9, h10, h11, h12⟩ := h
  have hl : (put (List.replicate c3 0) 0 rs).length = c3 := by rw [put_len0 (by rw [List.length_replicate]; omega), List.length_replicate]
  have hkg : w'.heap[g]? = w.heap[g]? := h2.block g ⟨hglt, notin2 hne (fun hm_ => by cases hm_)⟩
  exact ⟨g3, c3, m, _, h1, h2.mono fun k hk => ⟨hk.1, fun hm => hk.2 (List.mem_cons_of_mem _ hm)⟩, h3, h4, by rw [hkg]; exact hz, h5, hl, put_dig (ndig_replicate _) h9, by omega, by omega, by omega, by rw [put_takem (by omega)]; exact h11, by rw [put_takem (by omega)]; exact h12⟩
 ·
  refine (sqrR_spec (C := C) hz hzl hzm hCg hu hul hum hCu hud hne hzd hk1 hk2 (by omega) hn8 hnu hnc hcx hc hc0 hzm).mono fun ex w' h => ?_
  obtain ⟨g3, c3, m, rs, h1, h2, h3, h4, h5, h5', h6, h7, h8, h9, h10, h11, h12⟩ := h
  have hl : (put (List.replicate c3 0) 0 rs).length = c3 := by rw [put_len0 (by rw [List.length_replicate]; omega), List.length_replicate]
  exact ⟨g3, c3, m, _, h1, h2, h3, h4, h5', h5, hl, put_dig (ndig_replicate _) h9, by omega, by omega, by omega, by rw [put_takem (by omega)]; exact h11, by rw [put_takem (by omega)]; exact h12⟩
theorem sqrNil_spec {C : Nat → Prop} {w : World} {g2 N2 n cx : Nat} {us : List Nat} {sp : Option Addr} (hu : w.heap[g2]? = some (.cells (ints .u64 us).toArray 102 (0, 0))) (hul : us.length = N2) (hum : N2 ≤ 9223372036854775807) (hCu : ¬ C g2) (hud : Ndig us)
  (hk1 : Sl .i64 18446744073709551616 C w (some ⟨1, 0, none⟩) 1 [12]) (hk2 : Sl .i64 18446744073709551616 C w (some ⟨2, 0, none⟩) 1 [80]) (hn : 1 ≤ n) (hn8 : n ≤ 11) (hnu : n ≤ N2) (hnc : n ≤ cx) (hcx : cx ≤ 9223372036854775807) :
  Calls P 101 #[.slice none 0 0, .pointer sp, .slice (some ⟨g2, 0, none⟩) n cx] w fun ex w' => ∃ (g3 c3 m : Nat) (zs3 : List Nat), ex = .returned (.slice (some ⟨g3, 0, none⟩) m c3) ∧ Keep (ButN [g2] w) w w' ∧ w.heap.size ≤ g3 ∧ w'.heap[g3]? = some (.cells (ints .u64 zs3).toArray 102 (0, 0)) ∧ w'.heap[g2]? = some (.cells (ints .u64 us).toArray 102 (0, 0)) ∧
   zs3.length = c3 ∧ Ndig zs3 ∧ m ≤ c3 ∧ 0 < c3 ∧ c3 ≤ 9223372036854775807 ∧ Ntrim (zs3.take m) ∧ nval (zs3.take m) = nval ((us.drop 0).take n) * nval ((us.drop 0).take n) := by
 rcases Nat.eq_or_lt_of_le hn with hn1 | hn1
 ·
  subst hn1
  refine (sqr1B_spec (C := C) (n := 1) (cx := cx) (zl := 0) (zc := 0) (za := none) hu hul hum hCu hud hnu hnc hcx (by omega)).mono fun ex w' h => ?_
  obtain ⟨g3, c3, m, rs, h1, h2, h3, h4, h5, h6, h7, h8, h9, h10, h11, h12⟩ := h
  have hl : (put (List.replicate c3 0) 0 rs).length = c3 := by rw [put_len0 (by rw [List.length_replicate]; omega), List.length_replicate]
  exact ⟨g3, c3, m, _, h1, h2, h3, h4, h5, hl, put_dig (ndig_replicate _) h9, by omega, by omega, by omega, by rw [put_takem (by omega)]; exact h11, by rw [put_takem (by omega)]; exact h12⟩
 ·
  refine (sqrN_spec (C := C) hu hul hum hCu hud hk1 hk2 (by omega) hn8 hnu hnc hcx).mono fun ex w' h => ?_
  obtain ⟨g3, c3, m, rs, h1, h2, h3, h4, h5, h6, h7, h8, h9, h10, h11, h12⟩ := h
  have hl : (put (List.replicate c3 0) 0 rs).length = c3 := by rw [put_len0 (by rw [List.length_replicate]; omega), List.length_replicate]
  exact ⟨g3, c3, m, _, h1, h2, h3, h4, h5, hl, put_dig (ndig_replicate _) h9, by omega, by omega, by omega, by rw [put_takem (by omega)]; exact h11, by rw [put_takem (by omega)]; exact h12⟩
theorem mulOld_spec {C : Nat → Prop} {w : World} {g g2 g4 N2 N4 l c n cx ny cy : Nat} {zs us vs : List Nat} {sp : Option Addr} (hz : w.heap[g]? = some (.cells (ints .u64 zs).toArray 102 (0, 0))) (hzl : zs.length = c) (hzm : c ≤ 9223372036854775807) (hCg : ¬ C g) (hu : w.heap[g2]? = some (.cells (ints .u64 us).toArray 102 (0, 0))) (hul : us.length = N2) (hum : N2 ≤ 9223372036854775807) (hCu : ¬ C g2) (hud : Ndig us)
  (hv : w.heap[g4]? = some (.cells (ints .u64 vs).toArray 102 (0, 0))) (hvl : vs.length = N4) (hvm : N4 ≤ 9223372036854775807) (hCv : ¬ C g4) (hvd : Ndig vs) (hne : g ≠ g2) (hne4 : g ≠ g4) (hn24 : g2 ≠ g4) (hzd : Ndig zs)
  (hk3 : Sl .i64 18446744073709551616 C w (some ⟨3, 0, none⟩) 1 [40]) (hny1 : 1 ≤ ny) (hny : ny ≤ n) (hn8 : n ≤ 500) (hnu : n ≤ N2) (hnc : n ≤ cx) (hcx : cx ≤ 9223372036854775807) (hnv : ny ≤ N4) (hncv : ny ≤ cy) (hcy : cy ≤ 9223372036854775807) (hny8 : ny ≤ 39) (hv1 : 0 < nval ((vs.drop 0).take ny)) (hc0 : 0 < c) (hc : n + ny ≤ c) :
  Calls P 102 #[.slice (some ⟨g, 0, none⟩) l c, .pointer sp, .slice (some ⟨g2, 0, none⟩) n cx, .slice (some ⟨g4, 0, none⟩) ny cy] w fun ex w' => ∃ (m : Nat) (zs' : List Nat), ex = .returned (.slice (some ⟨g, 0, none⟩) m c) ∧ Keep (ButN [g, g2, g4] w) w w' ∧ w'.heap[g]? = some (.cells (ints .u64 zs').toArray 102 (0, 0)) ∧ w'.heap[g2]? = some (.cells (ints .u64 us).toArray 102 (0, 0)) ∧ w'.heap[g4]? = some (.cells (ints .u64 vs).toArray 102 (0, 0)) ∧
   zs'.length = c ∧ Ndig zs' ∧ m ≤ c ∧ Ntrim (zs'.take m) ∧ nval (zs'.take m) = nval ((us.drop 0).take n) * nval ((vs.drop 0).take ny) := by
 rcases Nat.eq_or_lt_of_le hny1 with hn1 | hn1
 ·
  subst hn1
  refine (mul1O_spec (C := C) (n := n) hz hzl hzm hCg hu hul hum hCu hud hv hvl hvm hCv hvd hne hne4 hn24 hzd hny hn8 hnu hnc hcx hnv hncv hcy hv1 hc hc hzm).mono fun ex w' h => ?_
  obtain ⟨m, rs, h1, h2, h4, h5, h5', h8, h9, h10, h11, h12⟩ := h
  have hl : (put zs 0 rs).length = c := by rw [put_len0 (by omega)]; exact hzl
  exact ⟨m, _, h1, h2, h4, h5, h5', hl, put_dig hzd h9, by omega, by rw [put_takem (by omega)]; exact h11, by rw [put_takem (by omega)]; exact h12⟩
 ·
  refine (mulO_spec (C := C) hz hzl hzm hCg hu hul hum hCu hud hv hvl hvm hCv hvd hne hne4 hn24 hzd hk3 hn1 hny (by omega) hn8 hnu hnc hcx hnv hncv hcy hny8 hv1 hc hc hzm).mono fun ex w' h => ?_
  obtain ⟨m, rs, h1, h2, h4, h5, h5', h8, h9, h10, h11, h12⟩ := h
  have hl : (put zs 0 rs).length = c := by rw [put_len0 (by omega)]; exact hzl
  exact ⟨m, _, h1, h2, h4, h5, h5', hl, put_dig hzd h9, by omega, by rw [put_takem (by omega)]; exact h11, by rw [put_takem (by omega)]; exact h12⟩
theorem mulNew_spec {C : Nat → Prop} {w : World} {g g2 g4 N2 N4 l c n cx ny cy : Nat} {zs us vs : List Nat} {sp : Option Addr} (hz : w.heap[g]? = some (.cells (ints .u64 zs).toArray 102 (0, 0))) (hzl : zs.length = c) (hzm : c ≤ 9223372036854775807) (hCg : ¬ C g) (hu : w.heap[g2]? = some (.cells (ints .u64 us).toArray 102 (0, 0))) (hul : us.length = N2) (hum : N2 ≤ 9223372036854775807) (hCu : ¬ C g2) (hud : Ndig us)
  (hv : w.heap[g4]? = some (.cells (ints .u64 vs).toArray 102 (0, 0))) (hvl : vs.length = N4) (hvm : N4 ≤ 9223372036854775807) (hCv : ¬ C g4) (hvd : Ndig vs) (hne : g ≠ g2) (hne4 : g ≠ g4) (hn24 : g2 ≠ g4) (hzd : Ndig zs)
  (hk3 : Sl .i64 18446744073709551616 C w (some ⟨3, 0, none⟩) 1 [40]) (hny1 : 1 ≤ ny) (hny : ny ≤ n) (hn8 : n ≤ 500) (hnu : n ≤ N2) (hnc : n ≤ cx) (hcx : cx ≤ 9223372036854775807) (hnv : ny ≤ N4) (hncv : ny ≤ cy) (hcy : cy ≤ 9223372036854775807) (hny8 : ny ≤ 39) (hv1 : 0 < nval ((vs.drop 0).take ny)) (hc0 : 0 < c) (hc : c < n + ny) :
  Calls P 102 #[.slice (some ⟨g, 0, none⟩) l c, .pointer sp, .slice (some ⟨g2, 0, none⟩) n cx, .slice (some ⟨g4, 0, none⟩) ny cy] w fun ex w' => ∃ (g3 c3 m : Nat) (zs3 : List Nat), ex = .returned (.slice (some ⟨g3, 0, none⟩) m c3) ∧ Keep (ButN [g, g2, g4] w) w w' ∧ w.heap.size ≤ g3 ∧ w'.heap[g3]? = some (.cells (ints .u64 zs3).toArray 102 (0, 0)) ∧ w'.heap[g]? = some (.cells (ints .u64 zs).toArray 102 (0, 0)) ∧ w'.heap[g2]? = some (.cells (ints .u64 us).toArray 102 (0, 0)) ∧ w'.heap[g4]? = some (.cells (ints .u64 vs).toArray 102 (0, 0)) ∧
   zs3.length = c3 ∧ Ndig zs3 ∧ m ≤ c3 ∧ 0 < c3 ∧ c3 ≤ 9223372036854775807 ∧ Ntrim (zs3.take m) ∧ nval (zs3.take m) = nval ((us.drop 0).take n) * nval ((vs.drop 0).take ny) := by
 have hglt : g < w.heap.size := (Array.getElem?_eq_some_iff.1 hz).1
 rcases Nat.eq_or_lt_of_le hny1 with hn1 | hn1
 ·
  subst hn1
  refine (mul1B_spec (C := C) (n := n) (cx := cx) (zl := l) (za := some ⟨g, 0, none⟩) hu hul hum hCu hud hv hvl hvm hCv hvd hn24 hny hn8 hnu hnc hcx hnv hncv hcy hv1 hc).mono fun ex w' h => ?_
  obtain ⟨g3, c3, m, rs, h1, h2, h3, h4, h5, h5', h6, h7, h8, h9, h10, h11, h12⟩ := h
  have hl : (put (List.replicate c3 0) 0 rs).length = c3 := by rw [put_len0 (by rw [List.length_replicate]; omega), List.length_replicate]
  have hkg : w'.heap[g]? = w.heap[g]? := h2.block g ⟨hglt, notin2 hne (notin2 hne4 (fun hm_ => by cases hm_))⟩
  exact ⟨g3, c3, m, _, h1, h2.mono fun k hk => ⟨hk.1, fun hm => hk.2 (List.mem_cons_of_mem _ hm)⟩, h3, h4, by rw [hkg]; exact hz, h5, h5', hl, put_dig (ndig_replicate _) h9, by omega, by omega, by omega, by rw [put_takem (by omega)]; exact h11, by rw [put_takem (by omega)]; exact h12⟩
 ·
  refine (mulR_spec (C := C) hz hzl hzm hCg hu hul hum hCu hud hv hvl hvm hCv hvd hne hne4 hn24 hzd hk3 hn1 hny (by omega) hn8 hnu hnc hcx hnv hncv hcy hny8 hv1 hc hc0 hzm).mono fun ex w' h => ?_
  obtain ⟨g3, c3, m, rs, h1, h2, h3, h4, h5, h5', h5z, h6, h7, h8, h9, h10, h11, h12⟩ := h
  have hl : (put (List.replicate c3 0) 0 rs).length = c3 := by rw [put_len0 (by rw [List.length_replicate]; omega), List.length_replicate]
  exact ⟨g3, c3, m, _, h1, h2, h3, h4, h5z, h5, h5', hl, put_dig (ndig_replicate _) h9, by omega, by omega, by omega, by rw [put_takem (by omega)]; exact h11, by rw [put_takem (by omega)]; exact h12⟩
theorem trim_le {us vs : List Nat} (hu : Ndig us) (hv : Ntrim vs) (h : nval vs ≤ nval us) : vs.length ≤ us.length := trim_len hv (Nat.lt_of_le_of_lt h (nval_lt hu))


def pv (e j : Nat) : Nat := e * 2 ^ (65 - lent e + j) % 18446744073709551616
theorem pv_all : ((List.range 21).all fun e => (List.range 5).all fun j => decide (2 ≤ e → j < lent e - 1 → ((9223372036854775808 ≤ pv e j ↔ e / 2 ^ (lent e - 1 - j - 1) % 2 = 1) ∧ pv e (j + 1) = pv e j * 2 % 18446744073709551616))) = true := by decide +kernel
theorem lent_20 : ((List.range 21).all fun e => decide (2 ≤ e → 2 ≤ lent e ∧ lent e ≤ 5 ∧ e / 2 ^ (lent e - 1) = 1)) = true := by decide +kernel
theorem lent_e {e : Nat} (h : 2 ≤ e) (h2 : e ≤ 20) : 2 ≤ lent e ∧ lent e ≤ 5 ∧ e / 2 ^ (lent e - 1) = 1 := by
 have h1 := List.all_eq_true.1 lent_20 e (List.mem_range.2 (by omega))
 exact of_decide_eq_true h1 h
theorem pv_step {e j : Nat} (h : 2 ≤ e) (h2 : e ≤ 20) (hj : j < lent e - 1) : (9223372036854775808 ≤ pv e j ↔ e / 2 ^ (lent e - 1 - j - 1) % 2 = 1) ∧ pv e (j + 1) = pv e j * 2 % 18446744073709551616 := by
 have h1 := List.all_eq_true.1 pv_all e (List.mem_range.2 (by omega))
 have h3 := List.all_eq_true.1 h1 j (List.mem_range.2 (by have := (lent_e h h2).2.1; omega))
 exact of_decide_eq_true h3 h hj
theorem pv_lt (e j : Nat) : pv e j < 18446744073709551616 := Nat.mod_lt _ (by decide)
theorem and_top (v : Nat) (hv : v < 18446744073709551616) : bits .and .u64 ((v : Nat) : Int) (9223372036854775808 : Int) = if 9223372036854775808 ≤ v then 9223372036854775808 else 0 := by
 have h := (bits_nat .u64 64 (by decide) (fun n h0 h1 => by rw [wrap_u64]; omega) v 9223372036854775808 hv (by decide)).1
 have h1 : (((9223372036854775808 : Nat)) : Int) = (9223372036854775808 : Int) := rfl
 rw [h1] at h
 rw [h]
 have e1 : v &&& 9223372036854775808 = if 9223372036854775808 ≤ v then 9223372036854775808 else 0 := by
  have h2 : (9223372036854775808 : Nat) = 2 ^ 63 := by decide
  have h3 : v.testBit 63 = decide (2 ^ 63 ≤ v) := by
   rw [Nat.testBit_eq_decide_div_mod_eq]
   have : v / 2 ^ 63 < 2 := by rw [Nat.div_lt_iff_lt_mul (by decide)]; omega
   rcases Nat.lt_or_ge v (2 ^ 63) with h4 | h4
   · rw [Nat.div_eq_of_lt h4]; simp; omega
   ·
    have h5 : 1 ≤ v / 2 ^ 63 := (Nat.le_div_iff_mul_le (by decide)).2 (by omega)
    have h6 : v / 2 ^ 63 = 1 := by omega
    rw [h6]; simp; exact h4
  rw [h2]
  apply Nat.eq_of_testBit_eq
  intro i
  rw [Nat.testBit_and, Nat.testBit_two_pow]
  by_cases hi : 63 = i
  ·
   subst hi
   rw [h3]
   rcases Nat.lt_or_ge v (2 ^ 63) with h4 | h4
   · rw [decide_eq_false (by omega), if_neg (by omega)]; simp
   · rw [decide_eq_true h4, if_pos h4, Nat.testBit_two_pow]; simp
  ·
   split
   · rw [Nat.testBit_two_pow]; simp [hi]
   · simp [hi]
 rw [e1]
 split <;> rfl
theorem half_step {e w j : Nat} (hj : j < w) : e / 2 ^ (w - j - 1) = 2 * (e / 2 ^ (w - j)) + e / 2 ^ (w - j - 1) % 2 := by
 have h1 : 2 ^ (w - j) = 2 ^ (w - j - 1) * 2 := by rw [← Nat.pow_succ]; congr 1; omega
 rw [h1, ← Nat.div_div_eq_div_mul]
 omega
theorem pow_bound {x e a : Nat} (hx : 0 < x) (ha : a ≤ e) (h : x ^ e < pn 4) : x ^ a < pn 4 := Nat.lt_of_le_of_lt (Nat.pow_le_pow_right hx ha) h
theorem sq_pow (x a : Nat) : x ^ a * x ^ a = x ^ (2 * a) := by rw [← Nat.pow_add, Nat.two_mul]
theorem sq_pow1 (x a : Nat) : x ^ (2 * a) * x = x ^ (2 * a + 1) := by rw [Nat.pow_succ]
theorem and_one (v : Nat) (hv : v < 18446744073709551616) : bits .and .u64 ((v : Nat) : Int) (1 : Int) = ((v % 2 : Nat) : Int) := by
 have h := (bits_nat .u64 64 (by decide) (fun n h0 h1 => by rw [wrap_u64]; omega) v 1 hv (by decide)).1
 rw [Nat.and_one_is_mod] at h
 exact h
theorem exp_sign {l2 lv : Nat} {nx : Bool} {vs : List Nat} (hvl : vs.length = lv) (hd : Ndig vs) : ((((decide (((l2 : Nat) : Int) > (0 : Int))) && nx) && (decide (((lv : Nat) : Int) > (0 : Int)))) && ((bits .and .u64 ((vs.getD 0 0 : Nat) : Int) (1 : Int)) == (1 : Int))) = (decide (0 < l2) && (nx && decide (nval vs % 2 = 1))) := by
 rw [and_one _ (ndig_get hd 0)]
 have e1 : decide (((l2 : Nat) : Int) > (0 : Int)) = decide (0 < l2) := by
  apply decide_eq_decide.2; omega
 rw [e1, Bool.and_assoc, Bool.and_assoc]
 congr 2
 match vs, hvl with
 | [], h =>
  have h0 : lv = 0 := by simp at h; omega
  subst h0
  simp [nval]
 | a :: r, h =>
  have h0 : 0 < lv := by simp at h; omega
  have e2 : nval (a :: r) % 2 = a % 2 := by simp only [nval]; omega
  rw [decide_eq_true (by omega : ((lv : Nat) : Int) > (0 : Int)), Bool.true_and, e2]
  rcases Nat.mod_two_eq_zero_or_one a with h2 | h2
  · simp [h2]
  · simp [h2]


end Go.Proofs.YtmendapdibnbdaaGreatDoor.Stride
