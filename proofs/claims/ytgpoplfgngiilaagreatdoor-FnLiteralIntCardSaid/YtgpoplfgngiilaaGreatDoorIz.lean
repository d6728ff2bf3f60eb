/- The reference's Integer in all cases; the laws' whole. (wip/gen/iw.py wrote it, out of the text Rf.) What the reference's Integer and the laws' whole hand to the law FnLiteralInt. -/
import Derived.Test.YtgpoplfgngiilaaGreatDoorRf
import Derived.Test.YtgpoplfgngiilaaGreatDoorPl
import Derived.Test.YtgpoplfgngiilaaGreatDoorSF
set_option linter.unusedVariables false
set_option linter.unusedSimpArgs false
namespace Go.Proofs.YtgpoplfgngiilaaGreatDoor
open Go.RowKit Go.Proofs.YtgpoplfgngiilaaGreatDoorW.PrintWords PAll Pl

theorem has_loop2 (xs ys : List Int) (hl : xs.length = ys.length) : ∀ (j i : Nat), i + j = ys.length → ys.length < 1000000000000 → ∃ r, Ev (fun k => spec_HasWords.l0 k xs ys ys.length i) r ∧ (r = true → xs.drop i = ys.drop i)
  | 0, i, hi, hm => by
    refine ⟨true, Ev.step (f := fun k => some true) (fun k => ?_) (Ev.now _), fun _ => ?_⟩
    · simp only [spec_HasWords.l0]
      rw [if_neg (by omega)]
    · rw [List.drop_eq_nil_of_le (by omega), List.drop_eq_nil_of_le (by omega)]
  | j + 1, i, hi, hm => by
    obtain ⟨r, hr, hx⟩ := has_loop2 xs ys hl j (i + 1) (by omega) hm
    by_cases he : rd xs i = rd ys i
    · refine ⟨r, Ev.step (fun k => ?_) hr, fun h => ?_⟩
      · simp only [spec_HasWords.l0]
        rw [if_pos (by omega), if_pos (by omega), if_pos (by omega), if_pos (by omega), if_pos he, w64 (by omega) (by omega)]
        rfl
      · rw [List.drop_eq_getElem_cons (show i < xs.length by omega), List.drop_eq_getElem_cons (show i < ys.length by omega), hx h]
        congr 1
        have h1 : rd xs i = xs[i]'(by omega) := by simp [rd, List.getD_eq_getElem?_getD, List.getElem?_eq_getElem (show i < xs.length by omega)]
        have h2 : rd ys i = ys[i]'(by omega) := by simp [rd, List.getD_eq_getElem?_getD, List.getElem?_eq_getElem (show i < ys.length by omega)]
        rw [← h1, ← h2, he]
    · refine ⟨false, Ev.step (f := fun k => some false) (fun k => ?_) (Ev.now _), fun h => by cases h⟩
      simp only [spec_HasWords.l0]
      rw [if_pos (by omega), if_pos (by omega), if_pos (by omega), if_pos (by omega), if_neg he]

theorem has_any (xs : List Int) (n : Nat) (hm : (figs 65536 n).length < 100000000000) (hm2 : (figs 18446744073709551616 n).length < 100000000000) : ∃ r, Ev (fun k => spec_HasWords.f k xs (figs 65536 n)) r ∧ (r = true → xs = figs 18446744073709551616 n) := by
  by_cases hl : xs.length = (figs 18446744073709551616 n).length
  · obtain ⟨r, hr, hx⟩ := has_loop2 xs (figs 18446744073709551616 n) hl _ 0 (Nat.zero_add _) (by omega)
    refine ⟨r, Ev.bind (words_f n (by omega)) ?_, fun h => by simpa using hx h⟩
    exact Ev.congr (g := fun k => if (xs.length : Int) = ((figs 18446744073709551616 n).length : Int) then spec_HasWords.l0 k xs (figs 18446744073709551616 n) (figs 18446744073709551616 n).length 0 else some false) (fun k => if_pos (by omega)) hr
  · refine ⟨false, Ev.bind (words_f n (by omega)) ?_, fun h => by cases h⟩
    exact Ev.congr (g := fun k => if (xs.length : Int) = ((figs 18446744073709551616 n).length : Int) then spec_HasWords.l0 k xs (figs 18446744073709551616 n) (figs 18446744073709551616 n).length 0 else some false) (fun k => if_neg (by omega)) (Ev.now _)

set_option maxHeartbeats 1000000 in
theorem integer_kind (kd : Int) (hk : kd ≠ 3) (tr : Bool) (tx : ByteArray) (neg : Bool) (v v2 : Value) (ineg : Bool) (v3 v4 : Value) (w : World) :
    Calls Tryz.prog 23 #[.agg #[.int .i64 kd, .bool tr, .string tx, .bool neg, v, v2, .bool ineg, v3, v4]] w fun e w' => e = .returned (.tuple #[.agg #[.bool false, .slice none 0 0, .slice none 0 0], .bool false]) ∧ Below w.heap.size w w' := by
  have b1 : (kd == 3) = false := by simpa using hk
  have b2 : (kd != 3) = true := by simpa using hk
  clear hk
  go_enter Tryz.func23, Tryz.ntmps23
  go_wp2_with fail
  refine bodyPost_ret (results_ct rfl _ _ (w.heap.size + 1) 31 #[.bool false, .slice none 0 0, .slice none 0 0] (0, 0) _ rfl (by simpa using heap_alloc_new (w.alloc (.cells #[.int .i64 kd, .bool tr, .string tx, .bool neg, v, v2, .bool ineg, v3, v4] 26)) (.cells #[.bool false, .slice none 0 0, .slice none 0 0] 31)) Tryz.underlying31 rfl (by kernel_rfl)) rfl ?_
  exact ⟨rfl, below_alloc (below_alloc (Below.refl _ _) _) _⟩

set_option maxHeartbeats 4000000 in
set_option maxRecDepth 100000 in
theorem integer_no1 (tr : Bool) (tx : ByteArray) (neg : Bool) (A : Option Addr) (c : Nat) (xs : List Int) (A2 : Option Addr) (n2 c2 : Nat) (ineg : Bool) (A3 : Option Addr) (c3 : Nat) (xs3 : List Int) (A4 : Option Addr) (c4 : Nat) (xs4 : List Int)
    (k : Nat) (ds : List Int) (b : Bool) (w : World) (hA : Kd.C (Kd.int .u64) w A xs.length xs) (hc : xs.length ≤ c)
    (hA3 : Kd.C (Kd.int .u64) w A3 xs3.length xs3) (hc3 : xs3.length ≤ c3) (hA4 : Kd.C (Kd.int .u64) w A4 xs4.length xs4) (hc4 : xs4.length ≤ c4)
    (hO : spec_Of.f k xs = some ds) (hH : spec_HasWords.f k xs ds = some b)
    (hq : ((neg == ((neg && decide (0 < ds.length)) && decide (0 < ds.length))) && b) = false) :
    Calls Tryz.prog 23 #[.agg #[.int .i64 3, .bool tr, .string tx, .bool neg, .slice A xs.length c, .slice A2 n2 c2, .bool ineg, .slice A3 xs3.length c3, .slice A4 xs4.length c4]] w fun e w' => ∃ A1 c1 A5 c5, e = .returned (.tuple #[.agg #[.bool (neg && decide (0 < ds.length)), .slice A1 ds.length c1, .slice A5 1 c5], .bool false]) ∧
      Kd.V (Kd.int .i64) 3 w' 0 (fun k => w.heap.size + 2 ≤ k) (.slice A1 ds.length c1) ds ∧ Kd.V (Kd.int .i64) 3 w' 0 (fun k => w.heap.size + 2 ≤ k) (.slice A5 1 c5) [1] ∧ Below w.heap.size w w' := by
  go_enter Tryz.func23, Tryz.ntmps23
  go_wp2_with fail
  obtain ⟨W0, hW0⟩ : ∃ W0, W0 = (w.alloc (.cells #[.int .i64 3, .bool tr, .string tx, .bool neg, .slice A xs.length c, .slice A2 n2 c2, .bool ineg, .slice A3 xs3.length c3, .slice A4 xs4.length c4] 26)).alloc (.cells #[.bool false, .slice none 0 0, .slice none 0 0] 31) := ⟨_, rfl⟩
  rw [← hW0]
  have hI : InI w #[.int .i64 3, .bool tr, .string tx, .bool neg, .slice A xs.length c, .slice A2 n2 c2, .bool ineg, .slice A3 xs3.length c3, .slice A4 xs4.length c4] A xs W0 := by
    have hb : Below w.heap.size w W0 := by rw [hW0]; exact below_alloc (below_alloc (Below.refl _ _) _) _
    refine ⟨hb, by rw [hW0]; simp, by rw [hW0]; exact blk_alloc (heap_alloc_new _ _) _, ?_, Kd.C_below hA hb⟩
    rw [hW0]
    simpa using heap_alloc_new (w.alloc (.cells #[.int .i64 3, .bool tr, .string tx, .bool neg, .slice A xs.length c, .slice A2 n2 c2, .bool ineg, .slice A3 xs3.length c3, .slice A4 xs4.length c4] 26)) (.cells #[.bool false, .slice none 0 0, .slice none 0 0] 31)
  have HC := Aside0.mk hc
  have HO := Aside0.mk hO
  have HA := Aside0.mk (C_block hA)
  have HH := Aside0.mk hH
  have HA3 := Aside0.mk hA3
  have HA4 := Aside0.mk hA4
  have HL3 := Aside0.mk hc3
  have HL4 := Aside0.mk hc4
  have HQ := Lib.hid hq
  clear hq
  clear hH hA3 hA4 hc3 hc4
  have hc3 : W0.cell? ⟨w.heap.size, 3, none⟩ = some (.bool neg) := blk_cell hI.box 3
  have hc4 : W0.cell? ⟨w.heap.size, 4, none⟩ = some (.slice A xs.length c) := blk_cell hI.box 4
  have hz0 := hI.size
  clear hW0 hA hc hO
  go_upto_region 3 with (fail)
  go_cut [4] (fun v4 W => InR w #[.int .i64 3, .bool tr, .string tx, .bool neg, .slice A xs.length c, .slice A2 n2 c2, .bool ineg, .slice A3 xs3.length c3, .slice A4 xs4.length c4] A xs (neg && decide (0 < ds.length)) ds v4 W)
  case first =>
    go_region_held3 (fun w' => w'.cell? ⟨w.heap.size, 3, none⟩ = some (.bool neg) ∧ w'.cell? ⟨w.heap.size, 4, none⟩ = some (.slice A xs.length c) ∧ InI w #[.int .i64 3, .bool tr, .string tx, .bool neg, .slice A xs.length c, .slice A2 n2 c2, .bool ineg, .slice A3 xs3.length c3, .slice A4 xs4.length c4] A xs w')
      (first
        | (go_split_ands; exact InI.cells (InI.next (by assumption) hb2))
        | (go_split_ands; exact InI.cells (InI.next (by assumption) hb1))
        | (go_split_ands; exact InI.cells (InI.alloc (by assumption) _))
        | (go_split_ands; exact InI.cells (InI.realloc (by assumption) hz2 HA.out))
        | (go_split_ands; exact InI.cells (InI.drew (by assumption)))
        | (go_split_ands; exact InI.cells (InI.set_ (p := ⟨_, 2, none⟩) (InI.set_ (p := ⟨_, 1, none⟩) (InI.set_ (p := ⟨_, 0, none⟩) (by assumption) (by simp; omega) HA.out _) (by simp; omega) HA.out _) (by simp; omega) HA.out _)))
      (first
        | (go_at_call 15; refine (spec_Of.calls k A c xs ds _ (by go_split_ands; exact InI.words (by assumption)) HC.out HO.out).mono ?_; rintro e w1 ⟨v, rfl, hV1, hb1⟩; obtain ⟨A1, c1, rfl⟩ := Kd.V_slice hV1; have HV1 := Aside0.mk hV1; have hz1 : w.heap.size + 2 ≤ w1.heap.size := (by go_split_ands; exact Nat.le_trans (InI.size (by assumption)) hb1.size); first | (have hnb : w1.heap[W0.heap.size]? = some (.cells #[.bool false, .slice none 0 0, .slice none 0 0] 31 (0, 0)) := blk_below (heap_alloc_new W0.drew _) hb1; have HNB := Aside0.mk hnb; have q0 : w1.cell? ⟨W0.heap.size, 0, none⟩ = some (.bool false) := blk_cell HNB.out 0; have qf0 : w1.frozen? ⟨W0.heap.size, 0, none⟩ = false := blk_frozen HNB.out 0; have q1 : w1.cell? ⟨W0.heap.size, 1, none⟩ = some (.slice none 0 0) := blk_cell HNB.out 1; have qf1 : w1.frozen? ⟨W0.heap.size, 1, none⟩ = false := blk_frozen HNB.out 1; have q2 : w1.cell? ⟨W0.heap.size, 2, none⟩ = some (.slice none 0 0) := blk_cell HNB.out 2; have qf2 : w1.frozen? ⟨W0.heap.size, 2, none⟩ = false := blk_frozen HNB.out 2; clear hnb hV1) | clear hV1)
        | (go_at_call 20; refine (whole_any _ _ _ _ _).mono ?_; rintro e w2 ⟨A5, c5, rfl, hV2, hb2⟩; have HV2 := Aside0.mk hV2; have hz2 : w.heap.size + 2 ≤ w2.heap.size := (by go_split_ands; exact Nat.le_trans (InI.size (by assumption)) hb2.size); first | (have hnb : w2.heap[W0.heap.size]? = some (.cells #[.bool false, .slice none 0 0, .slice none 0 0] 31 (0, 0)) := blk_below HNB.out hb2; have HNB2 := Aside0.mk hnb; have r0 : w2.cell? ⟨W0.heap.size, 0, none⟩ = some (.bool false) := blk_cell HNB2.out 0; have rf0 : w2.frozen? ⟨W0.heap.size, 0, none⟩ = false := blk_frozen HNB2.out 0; have r1 : w2.cell? ⟨W0.heap.size, 1, none⟩ = some (.slice none 0 0) := blk_cell HNB2.out 1; have rf1 : w2.frozen? ⟨W0.heap.size, 1, none⟩ = false := blk_frozen HNB2.out 1; have r2 : w2.cell? ⟨W0.heap.size, 2, none⟩ = some (.slice none 0 0) := blk_cell HNB2.out 2; have rf2 : w2.frozen? ⟨W0.heap.size, 2, none⟩ = false := blk_frozen HNB2.out 2; clear hnb hV2) | (have hnb : w2.heap[w1.heap.size]? = some (.cells #[.bool false, .slice none 0 0, .slice none 0 0] 31 (0, 0)) := blk_below (heap_alloc_new w1 _) hb2; have HNB2 := Aside0.mk hnb; have r0 : w2.cell? ⟨w1.heap.size, 0, none⟩ = some (.bool false) := blk_cell HNB2.out 0; have rf0 : w2.frozen? ⟨w1.heap.size, 0, none⟩ = false := blk_frozen HNB2.out 0; have r1 : w2.cell? ⟨w1.heap.size, 1, none⟩ = some (.slice none 0 0) := blk_cell HNB2.out 1; have rf1 : w2.frozen? ⟨w1.heap.size, 1, none⟩ = false := blk_frozen HNB2.out 1; have r2 : w2.cell? ⟨w1.heap.size, 2, none⟩ = some (.slice none 0 0) := blk_cell HNB2.out 2; have rf2 : w2.frozen? ⟨w1.heap.size, 2, none⟩ = false := blk_frozen HNB2.out 2; clear hnb hV2) | clear hV2))
    all_goals (go_wp2_with fail; go_meet)
    · refine ⟨w2.heap.size, A1, c1, A5, c5, rfl, hz2, heap_alloc_new _ _, ?_, ?_, by go_split_ands; assumption⟩
      · exact Kd.V_alloc (Kd.V_below (Kd.V_mono HV1.out (fun k hk => Nat.le_trans hz0 hk)) hb2) _
      · exact Kd.V_alloc (Kd.V_mono HV2.out (fun k hk => by omega)) _
    · refine ⟨w1.heap.size, A1, c1, A5, c5, rfl, hz1, blk_put (cs := #[.bool (neg && decide (0 < ds.length)), .slice A1 ds.length c1, .slice none 0 0]) (blk_put (cs := #[.bool (neg && decide (0 < ds.length)), .slice none 0 0, .slice none 0 0]) (blk_put (cs := #[.bool false, .slice none 0 0, .slice none 0 0]) HNB2.out 0 _ rfl) 1 _ rfl) 2 _ rfl, ?_, ?_, by go_split_ands; assumption⟩
      · refine Kd.V_mono (ok := fun k => w.heap.size + 2 ≤ k ∧ k < w1.heap.size) ?_ (fun k hk => hk.1)
        repeat refine Kd.V_far ?_ (fun k hk => by simp; omega) _
        exact Kd.V_below (Kd.V_alloc (Kd.V_mono (Kd.V_bound HV1.out) (fun k hk => ⟨Nat.le_trans hz0 hk.1, hk.2⟩)) _) hb2
      · refine Kd.V_mono (ok := fun k => w1.heap.size < k) ?_ (fun k hk => by omega)
        repeat refine Kd.V_far ?_ (fun k hk => by simp; omega) _
        exact Kd.V_mono HV2.out (fun k hk => by simp at hk; omega)
    · refine ⟨W0.heap.size, A1, c1, A5, c5, rfl, hz0, blk_put (cs := #[.bool (neg && decide (0 < ds.length)), .slice A1 ds.length c1, .slice none 0 0]) (blk_put (cs := #[.bool (neg && decide (0 < ds.length)), .slice none 0 0, .slice none 0 0]) (blk_put (cs := #[.bool false, .slice none 0 0, .slice none 0 0]) HNB2.out 0 _ rfl) 1 _ rfl) 2 _ rfl, ?_, ?_, by go_split_ands; assumption⟩
      · refine Kd.V_mono (ok := fun k => W0.heap.size < k) ?_ (fun k hk => by omega)
        repeat refine Kd.V_far ?_ (fun k hk => by simp; omega) _
        exact Kd.V_below (Kd.V_mono HV1.out (fun k hk => by simp at hk; omega)) hb2
      · have hzz := hb1.size
        refine Kd.V_mono (ok := fun k => W0.heap.size < k) ?_ (fun k hk => by omega)
        repeat refine Kd.V_far ?_ (fun k hk => by simp; omega) _
        exact Kd.V_mono HV2.out (fun k hk => by simp at hk hzz; omega)
  case rest =>
    obtain ⟨g, A1, c1, A5, c5, rfl, hg, hbg, hVd, hV1, hI2⟩ := hcut
    have hJ0 : InI2 w #[.int .i64 3, .bool tr, .string tx, .bool neg, .slice A xs.length c, .slice A2 n2 c2, .bool ineg, .slice A3 xs3.length c3, .slice A4 xs4.length c4] A xs (neg && decide (0 < ds.length)) ds g A1 c1 A5 c5 wc := ⟨hI2.below, hI2.size, hI2.box, hI2.words, hbg, hVd, hV1⟩
    have HRS := Aside0.mk hI2.res
    have hg2 := hg
    clear hg hbg hVd hV1 hI2
    go_wp2_with fail
    refine wp_region_noPanic ?_
    refine wp_region_held_drew (S := (fun w' => w'.cell? ⟨w.heap.size, 0, none⟩ = some (.int .i64 3) ∧ w'.cell? ⟨w.heap.size, 1, none⟩ = some (.bool tr) ∧ w'.cell? ⟨w.heap.size, 2, none⟩ = some (.string tx) ∧ w'.cell? ⟨w.heap.size, 3, none⟩ = some (.bool neg) ∧ w'.cell? ⟨w.heap.size, 4, none⟩ = some (.slice A xs.length c) ∧ w'.cell? ⟨w.heap.size, 5, none⟩ = some (.slice A2 n2 c2) ∧ w'.cell? ⟨w.heap.size, 6, none⟩ = some (.bool ineg) ∧ w'.cell? ⟨w.heap.size, 7, none⟩ = some (.slice A3 xs3.length c3) ∧ w'.cell? ⟨w.heap.size, 8, none⟩ = some (.slice A4 xs4.length c4) ∧ w'.cell? ⟨g, 0, none⟩ = some (.bool (neg && decide (0 < ds.length))) ∧ w'.cell? ⟨g, 1, none⟩ = some (.slice A1 ds.length c1) ∧ w'.cell? ⟨g, 2, none⟩ = some (.slice A5 1 c5) ∧ InI2 w #[.int .i64 3, .bool tr, .string tx, .bool neg, .slice A xs.length c, .slice A2 n2 c2, .bool ineg, .slice A3 xs3.length c3, .slice A4 xs4.length c4] A xs (neg && decide (0 < ds.length)) ds g A1 c1 A5 c5 w')) (by kernel_rfl) ?_ (fun hHeld => ?_)
    · (try dsimp only); go_split_ands; exact InI2.cells (InI2.drew (by assumption))
    refine wpAnyH_take (i := 0) (v := ?_) rfl (by kernel_rfl) (by kernel_rfl) (by kernel_rfl) (fun _ _ _ h => h) (Or.inl ⟨by rfl, ?_⟩) (by assumption) ?_
    rotate_left
    · intro w hSw; (try dsimp only at hSw); go_simp; first | done | with_reducible rfl
    try simp only [Act.put, List.setIfInBounds_toArray, List.set_cons_zero, List.set_cons_succ]
    refine wpAnyH_take (i := 1) (v := ?_) rfl (by kernel_rfl) (by kernel_rfl) (by kernel_rfl) (fun _ _ _ h => h) (Or.inl ⟨by rfl, ?_⟩) (by assumption) ?_
    rotate_left
    · intro w hSw; (try dsimp only at hSw); go_simp; first | done | with_reducible rfl
    try simp only [Act.put, List.setIfInBounds_toArray, List.set_cons_zero, List.set_cons_succ]
    refine wpAnyH_take (i := 2) (v := ?_) rfl (by kernel_rfl) (by kernel_rfl) (by kernel_rfl) (fun _ _ _ h => h) (Or.inl ⟨by rfl, ?_⟩) (by assumption) ?_
    rotate_left
    · intro w hSw; (try dsimp only at hSw); go_simp; first | done | with_reducible rfl
    try simp only [Act.put, List.setIfInBounds_toArray, List.set_cons_zero, List.set_cons_succ]
    refine wpAnyH_take (i := 3) (v := ?_) rfl (by kernel_rfl) (by kernel_rfl) (by kernel_rfl) (fun _ _ _ h => h) (Or.inl ⟨by rfl, ?_⟩) (by assumption) ?_
    rotate_left
    · intro w hSw; (try dsimp only at hSw); go_simp; first | done | with_reducible rfl
    try simp only [Act.put, List.setIfInBounds_toArray, List.set_cons_zero, List.set_cons_succ]
    refine wpAnyH_take (i := 4) (v := ?_) rfl (by kernel_rfl) (by kernel_rfl) (by kernel_rfl) (fun _ _ _ h => h) (Or.inl ⟨by rfl, ?_⟩) (by assumption) ?_
    rotate_left
    · intro w hSw; (try dsimp only at hSw); go_simp; first | done | with_reducible rfl
    try simp only [Act.put, List.setIfInBounds_toArray, List.set_cons_zero, List.set_cons_succ]
    refine wpAnyH_take (i := 5) (v := ?_) rfl (by kernel_rfl) (by kernel_rfl) (by kernel_rfl) (fun _ _ _ h => h) (Or.inl ⟨by rfl, ?_⟩) (by assumption) ?_
    rotate_left
    · intro w hSw; (try dsimp only at hSw); go_simp; first | done | with_reducible rfl
    try simp only [Act.put, List.setIfInBounds_toArray, List.set_cons_zero, List.set_cons_succ]
    refine wpAnyH_take (i := 6) (v := ?_) rfl (by kernel_rfl) (by kernel_rfl) (by kernel_rfl) (fun _ _ _ h => h) (Or.inl ⟨by rfl, ?_⟩) (by assumption) ?_
    rotate_left
    · intro w hSw; (try dsimp only at hSw); go_simp; first | done | with_reducible rfl
    try simp only [Act.put, List.setIfInBounds_toArray, List.set_cons_zero, List.set_cons_succ]
    refine wpAnyH_ready (rs := [7]) (by kernel_rfl) (by simp) ?_
    refine AllReadyH.cons rfl (fun K hK => ?_) AllReadyH.nil
    go_simp
    refine (isNumber_any neg (neg && decide (0 < ds.length)) A c xs A1 c1 ds k b _ ?_ HC.out ?_ ?_ HH.out).mono ?_
    · go_split_ands; exact (InI2.words (by assumption))
    · go_split_ands; exact (InI2.digits (by assumption))
    · go_split_ands; exact (InI2.len (by assumption))
    rw [HQ.out]
    rintro e w5 ⟨rfl, hb5⟩
    have HRS5 := Aside0.mk (blk_below (blk_drew HRS.out) hb5)
    go_wp2_with fail
    refine hK.out _ _ ?_ (fun hHeld2 => ?_)
    · (try dsimp only); go_split_ands; exact InI2.cells (InI2.next (by assumption) hb5)
    clear hK K hHeld
    try simp only [Act.put, List.setIfInBounds_toArray, List.set_cons_zero, List.set_cons_succ]
    refine wpAnyH_take (i := 8) (v := ?_) rfl (by kernel_rfl) (by kernel_rfl) (by kernel_rfl) (fun _ _ _ h => h) (Or.inl ⟨by rfl, ?_⟩) (by assumption) ?_
    rotate_left
    · intro w hSw; (try dsimp only at hSw); go_simp; first | done | with_reducible rfl
    try simp only [Act.put, List.setIfInBounds_toArray, List.set_cons_zero, List.set_cons_succ]
    refine wpAnyH_ready (rs := [9]) (by kernel_rfl) (by simp) ?_
    refine AllReadyH.cons rfl (fun K hK => ?_) AllReadyH.nil
    go_simp
    refine hK.out _ _ ?_ (fun hSkip1 => ?_)
    · (try dsimp only); go_split_ands; exact InI2.cells (by assumption)
    clear hK K hHeld2
    try simp only [Act.put, List.setIfInBounds_toArray, List.set_cons_zero, List.set_cons_succ]
    refine wpAnyH_ready (rs := [10]) (by kernel_rfl) (by simp) ?_
    refine AllReadyH.cons rfl (fun K hK => ?_) AllReadyH.nil
    go_simp
    refine hK.out _ _ ?_ (fun hSkip2 => ?_)
    · (try dsimp only); go_split_ands; exact InI2.cells (by assumption)
    clear hK K hSkip1
    try simp only [Act.put, List.setIfInBounds_toArray, List.set_cons_zero, List.set_cons_succ]
    refine wpAnyH_ready (rs := [11]) (by kernel_rfl) (by simp) ?_
    refine AllReadyH.cons rfl (fun K hK => ?_) AllReadyH.nil
    go_simp
    refine hK.out _ _ ?_ (fun hSkip3 => ?_)
    · (try dsimp only); go_split_ands; exact InI2.cells (by assumption)
    clear hK K hSkip2
    try simp only [Act.put, List.setIfInBounds_toArray, List.set_cons_zero, List.set_cons_succ]
    refine wpAnyH_ready (rs := [12]) (by kernel_rfl) (by simp) ?_
    refine AllReadyH.cons rfl (fun K hK => ?_) AllReadyH.nil
    go_simp
    refine hK.out _ _ ?_ (fun hSkip4 => ?_)
    · (try dsimp only); go_split_ands; exact InI2.cells (by assumption)
    clear hK K hSkip3
    try simp only [Act.put, List.setIfInBounds_toArray, List.set_cons_zero, List.set_cons_succ]
    refine wpAnyH_take (i := 13) (v := ?_) rfl (by kernel_rfl) (by kernel_rfl) (by kernel_rfl) (fun _ _ _ h => h) (Or.inl ⟨by rfl, ?_⟩) (by assumption) ?_
    rotate_left
    · intro w hSw; (try dsimp only at hSw); go_simp; first | done | with_reducible rfl
    try simp only [Act.put, List.setIfInBounds_toArray, List.set_cons_zero, List.set_cons_succ]
    refine wpAnyH_take (i := 14) (v := ?_) rfl (by kernel_rfl) (by kernel_rfl) (by kernel_rfl) (fun _ _ _ h => h) (Or.inl ⟨by rfl, ?_⟩) (by assumption) ?_
    rotate_left
    · intro w hSw; (try dsimp only at hSw); go_simp; first | done | with_reducible rfl
    try simp only [Act.put, List.setIfInBounds_toArray, List.set_cons_zero, List.set_cons_succ]
    refine wpAnyH_ready (rs := [15]) (by kernel_rfl) (by simp) ?_
    refine AllReadyH.cons rfl (fun K hK => ?_) AllReadyH.nil
    go_simp
    refine hK.out _ _ ?_ (fun hSkip5 => ?_)
    · (try dsimp only); go_split_ands; exact InI2.cells (by assumption)
    clear hK K hSkip4
    try simp only [Act.put, List.setIfInBounds_toArray, List.set_cons_zero, List.set_cons_succ]
    refine wpAnyH_ready (rs := [16]) (by kernel_rfl) (by simp) ?_
    refine AllReadyH.cons rfl (fun K hK => ?_) AllReadyH.nil
    go_simp
    refine hK.out _ _ ?_ (fun hSkipC => ?_)
    · (try dsimp only); go_split_ands; exact InI2.cells (by assumption)
    clear hK K hSkip5
    try simp only [Act.put, List.setIfInBounds_toArray, List.set_cons_zero, List.set_cons_succ]
    refine wpAnyH_take (i := 17) (v := ?_) rfl (by kernel_rfl) (by kernel_rfl) (by kernel_rfl) (fun _ _ _ h => h) (Or.inl ⟨by rfl, ?_⟩) (by assumption) ?_
    rotate_left
    · intro w hSw; (try dsimp only at hSw); go_simp; first | done | with_reducible rfl
    try simp only [Act.put, List.setIfInBounds_toArray, List.set_cons_zero, List.set_cons_succ]
    have s0 : w5.cell? ⟨w.heap.size + 1, 0, none⟩ = some (.bool false) := blk_cell HRS5.out 0
    have sf0 : w5.frozen? ⟨w.heap.size + 1, 0, none⟩ = false := blk_frozen HRS5.out 0
    have s1 : w5.cell? ⟨w.heap.size + 1, 1, none⟩ = some (.slice none 0 0) := blk_cell HRS5.out 1
    have sf1 : w5.frozen? ⟨w.heap.size + 1, 1, none⟩ = false := blk_frozen HRS5.out 1
    have s2 : w5.cell? ⟨w.heap.size + 1, 2, none⟩ = some (.slice none 0 0) := blk_cell HRS5.out 2
    have sf2 : w5.frozen? ⟨w.heap.size + 1, 2, none⟩ = false := blk_frozen HRS5.out 2
    refine wpAnyH_ready (rs := [18]) (by kernel_rfl) (by simp) ?_
    refine AllReadyH.cons rfl (fun K hK => ?_) AllReadyH.nil
    go_simp
    refine hK.out _ _ ?_ (fun hHeld3 => ?_)
    · (try dsimp only); go_split_ands; exact InI2.cells (InI2.set_ (InI2.set_ (InI2.set_ (by assumption) HA.out hg2 _ _) HA.out hg2 _ _) HA.out hg2 _ _)
    clear hK K hSkipC
    try simp only [Act.put, List.setIfInBounds_toArray, List.set_cons_zero, List.set_cons_succ]
    refine wpAnyH_take (i := 19) (oi := ⟨some 3, _, _, _, _, _⟩) (v := ?_) rfl (by kernel_rfl) (by kernel_rfl) (by kernel_rfl) (fun _ _ _ h => h) (Or.inl ⟨by rfl, ?_⟩) (by assumption) ?_
    rotate_left
    · intro w hSw; (try dsimp only at hSw); go_simp; first | done | with_reducible rfl
    try simp only [Act.put, List.setIfInBounds_toArray, List.set_cons_zero, List.set_cons_succ]
    refine wpAnyH_done (by kernel_rfl) ?_ _
    refine NoPanic.normal ?_
    go_wp2
    refine bodyPost_ret (results_ct rfl _ _ (w.heap.size + 1) 31 #[.bool (neg && decide (0 < ds.length)), .slice A1 ds.length c1, .slice A5 1 c5] (0, 0) _ rfl (blk_put (cs := #[.bool (neg && decide (0 < ds.length)), .slice A1 ds.length c1, .slice none 0 0]) (blk_put (cs := #[.bool (neg && decide (0 < ds.length)), .slice none 0 0, .slice none 0 0]) (blk_put (cs := #[.bool false, .slice none 0 0, .slice none 0 0]) HRS5.out 0 _ rfl) 1 _ rfl) 2 _ rfl) Tryz.underlying31 rfl (by kernel_rfl)) rfl ?_
    go_split_ands
    refine ⟨A1, c1, A5, c5, rfl, InI2.num (by assumption), InI2.one (by assumption), InI2.below (by assumption)⟩

set_option maxHeartbeats 4000000 in
set_option maxRecDepth 100000 in
theorem integer_no2 (tr : Bool) (tx : ByteArray) (neg : Bool) (A : Option Addr) (c : Nat) (xs : List Int) (A2 : Option Addr) (n2 c2 : Nat) (ineg : Bool) (A3 : Option Addr) (c3 : Nat) (xs3 : List Int) (A4 : Option Addr) (c4 : Nat) (xs4 : List Int)
    (k : Nat) (ds : List Int) (b : Bool) (w : World) (hA : Kd.C (Kd.int .u64) w A xs.length xs) (hc : xs.length ≤ c)
    (hA3 : Kd.C (Kd.int .u64) w A3 xs3.length xs3) (hc3 : xs3.length ≤ c3) (hA4 : Kd.C (Kd.int .u64) w A4 xs4.length xs4) (hc4 : xs4.length ≤ c4)
    (hO : spec_Of.f k xs = some ds) (hH : spec_HasWords.f k xs ds = some b)
    (hq : ((neg == ((neg && decide (0 < ds.length)) && decide (0 < ds.length))) && b) = true) (hn2 : ((n2 : Int) == 0) = false) :
    Calls Tryz.prog 23 #[.agg #[.int .i64 3, .bool tr, .string tx, .bool neg, .slice A xs.length c, .slice A2 n2 c2, .bool ineg, .slice A3 xs3.length c3, .slice A4 xs4.length c4]] w fun e w' => ∃ A1 c1 A5 c5, e = .returned (.tuple #[.agg #[.bool (neg && decide (0 < ds.length)), .slice A1 ds.length c1, .slice A5 1 c5], .bool false]) ∧
      Kd.V (Kd.int .i64) 3 w' 0 (fun k => w.heap.size + 2 ≤ k) (.slice A1 ds.length c1) ds ∧ Kd.V (Kd.int .i64) 3 w' 0 (fun k => w.heap.size + 2 ≤ k) (.slice A5 1 c5) [1] ∧ Below w.heap.size w w' := by
  go_enter Tryz.func23, Tryz.ntmps23
  go_wp2_with fail
  obtain ⟨W0, hW0⟩ : ∃ W0, W0 = (w.alloc (.cells #[.int .i64 3, .bool tr, .string tx, .bool neg, .slice A xs.length c, .slice A2 n2 c2, .bool ineg, .slice A3 xs3.length c3, .slice A4 xs4.length c4] 26)).alloc (.cells #[.bool false, .slice none 0 0, .slice none 0 0] 31) := ⟨_, rfl⟩
  rw [← hW0]
  have hI : InI w #[.int .i64 3, .bool tr, .string tx, .bool neg, .slice A xs.length c, .slice A2 n2 c2, .bool ineg, .slice A3 xs3.length c3, .slice A4 xs4.length c4] A xs W0 := by
    have hb : Below w.heap.size w W0 := by rw [hW0]; exact below_alloc (below_alloc (Below.refl _ _) _) _
    refine ⟨hb, by rw [hW0]; simp, by rw [hW0]; exact blk_alloc (heap_alloc_new _ _) _, ?_, Kd.C_below hA hb⟩
    rw [hW0]
    simpa using heap_alloc_new (w.alloc (.cells #[.int .i64 3, .bool tr, .string tx, .bool neg, .slice A xs.length c, .slice A2 n2 c2, .bool ineg, .slice A3 xs3.length c3, .slice A4 xs4.length c4] 26)) (.cells #[.bool false, .slice none 0 0, .slice none 0 0] 31)
  have HC := Aside0.mk hc
  have HO := Aside0.mk hO
  have HA := Aside0.mk (C_block hA)
  have HH := Aside0.mk hH
  have HA3 := Aside0.mk hA3
  have HA4 := Aside0.mk hA4
  have HL3 := Aside0.mk hc3
  have HL4 := Aside0.mk hc4
  have HQ := Lib.hid hq
  clear hq
  clear hH hA3 hA4 hc3 hc4
  have hc3 : W0.cell? ⟨w.heap.size, 3, none⟩ = some (.bool neg) := blk_cell hI.box 3
  have hc4 : W0.cell? ⟨w.heap.size, 4, none⟩ = some (.slice A xs.length c) := blk_cell hI.box 4
  have hz0 := hI.size
  clear hW0 hA hc hO
  go_upto_region 3 with (fail)
  go_cut [4] (fun v4 W => InR w #[.int .i64 3, .bool tr, .string tx, .bool neg, .slice A xs.length c, .slice A2 n2 c2, .bool ineg, .slice A3 xs3.length c3, .slice A4 xs4.length c4] A xs (neg && decide (0 < ds.length)) ds v4 W)
  case first =>
    go_region_held3 (fun w' => w'.cell? ⟨w.heap.size, 3, none⟩ = some (.bool neg) ∧ w'.cell? ⟨w.heap.size, 4, none⟩ = some (.slice A xs.length c) ∧ InI w #[.int .i64 3, .bool tr, .string tx, .bool neg, .slice A xs.length c, .slice A2 n2 c2, .bool ineg, .slice A3 xs3.length c3, .slice A4 xs4.length c4] A xs w')
      (first
        | (go_split_ands; exact InI.cells (InI.next (by assumption) hb2))
        | (go_split_ands; exact InI.cells (InI.next (by assumption) hb1))
        | (go_split_ands; exact InI.cells (InI.alloc (by assumption) _))
        | (go_split_ands; exact InI.cells (InI.realloc (by assumption) hz2 HA.out))
        | (go_split_ands; exact InI.cells (InI.drew (by assumption)))
        | (go_split_ands; exact InI.cells (InI.set_ (p := ⟨_, 2, none⟩) (InI.set_ (p := ⟨_, 1, none⟩) (InI.set_ (p := ⟨_, 0, none⟩) (by assumption) (by simp; omega) HA.out _) (by simp; omega) HA.out _) (by simp; omega) HA.out _)))
      (first
        | (go_at_call 15; refine (spec_Of.calls k A c xs ds _ (by go_split_ands; exact InI.words (by assumption)) HC.out HO.out).mono ?_; rintro e w1 ⟨v, rfl, hV1, hb1⟩; obtain ⟨A1, c1, rfl⟩ := Kd.V_slice hV1; have HV1 := Aside0.mk hV1; have hz1 : w.heap.size + 2 ≤ w1.heap.size := (by go_split_ands; exact Nat.le_trans (InI.size (by assumption)) hb1.size); first | (have hnb : w1.heap[W0.heap.size]? = some (.cells #[.bool false, .slice none 0 0, .slice none 0 0] 31 (0, 0)) := blk_below (heap_alloc_new W0.drew _) hb1; have HNB := Aside0.mk hnb; have q0 : w1.cell? ⟨W0.heap.size, 0, none⟩ = some (.bool false) := blk_cell HNB.out 0; have qf0 : w1.frozen? ⟨W0.heap.size, 0, none⟩ = false := blk_frozen HNB.out 0; have q1 : w1.cell? ⟨W0.heap.size, 1, none⟩ = some (.slice none 0 0) := blk_cell HNB.out 1; have qf1 : w1.frozen? ⟨W0.heap.size, 1, none⟩ = false := blk_frozen HNB.out 1; have q2 : w1.cell? ⟨W0.heap.size, 2, none⟩ = some (.slice none 0 0) := blk_cell HNB.out 2; have qf2 : w1.frozen? ⟨W0.heap.size, 2, none⟩ = false := blk_frozen HNB.out 2; clear hnb hV1) | clear hV1)
        | (go_at_call 20; refine (whole_any _ _ _ _ _).mono ?_; rintro e w2 ⟨A5, c5, rfl, hV2, hb2⟩; have HV2 := Aside0.mk hV2; have hz2 : w.heap.size + 2 ≤ w2.heap.size := (by go_split_ands; exact Nat.le_trans (InI.size (by assumption)) hb2.size); first | (have hnb : w2.heap[W0.heap.size]? = some (.cells #[.bool false, .slice none 0 0, .slice none 0 0] 31 (0, 0)) := blk_below HNB.out hb2; have HNB2 := Aside0.mk hnb; have r0 : w2.cell? ⟨W0.heap.size, 0, none⟩ = some (.bool false) := blk_cell HNB2.out 0; have rf0 : w2.frozen? ⟨W0.heap.size, 0, none⟩ = false := blk_frozen HNB2.out 0; have r1 : w2.cell? ⟨W0.heap.size, 1, none⟩ = some (.slice none 0 0) := blk_cell HNB2.out 1; have rf1 : w2.frozen? ⟨W0.heap.size, 1, none⟩ = false := blk_frozen HNB2.out 1; have r2 : w2.cell? ⟨W0.heap.size, 2, none⟩ = some (.slice none 0 0) := blk_cell HNB2.out 2; have rf2 : w2.frozen? ⟨W0.heap.size, 2, none⟩ = false := blk_frozen HNB2.out 2; clear hnb hV2) | (have hnb : w2.heap[w1.heap.size]? = some (.cells #[.bool false, .slice none 0 0, .slice none 0 0] 31 (0, 0)) := blk_below (heap_alloc_new w1 _) hb2; have HNB2 := Aside0.mk hnb; have r0 : w2.cell? ⟨w1.heap.size, 0, none⟩ = some (.bool false) := blk_cell HNB2.out 0; have rf0 : w2.frozen? ⟨w1.heap.size, 0, none⟩ = false := blk_frozen HNB2.out 0; have r1 : w2.cell? ⟨w1.heap.size, 1, none⟩ = some (.slice none 0 0) := blk_cell HNB2.out 1; have rf1 : w2.frozen? ⟨w1.heap.size, 1, none⟩ = false := blk_frozen HNB2.out 1; have r2 : w2.cell? ⟨w1.heap.size, 2, none⟩ = some (.slice none 0 0) := blk_cell HNB2.out 2; have rf2 : w2.frozen? ⟨w1.heap.size, 2, none⟩ = false := blk_frozen HNB2.out 2; clear hnb hV2) | clear hV2))
    all_goals (go_wp2_with fail; go_meet)
    · refine ⟨w2.heap.size, A1, c1, A5, c5, rfl, hz2, heap_alloc_new _ _, ?_, ?_, by go_split_ands; assumption⟩
      · exact Kd.V_alloc (Kd.V_below (Kd.V_mono HV1.out (fun k hk => Nat.le_trans hz0 hk)) hb2) _
      · exact Kd.V_alloc (Kd.V_mono HV2.out (fun k hk => by omega)) _
    · refine ⟨w1.heap.size, A1, c1, A5, c5, rfl, hz1, blk_put (cs := #[.bool (neg && decide (0 < ds.length)), .slice A1 ds.length c1, .slice none 0 0]) (blk_put (cs := #[.bool (neg && decide (0 < ds.length)), .slice none 0 0, .slice none 0 0]) (blk_put (cs := #[.bool false, .slice none 0 0, .slice none 0 0]) HNB2.out 0 _ rfl) 1 _ rfl) 2 _ rfl, ?_, ?_, by go_split_ands; assumption⟩
      · refine Kd.V_mono (ok := fun k => w.heap.size + 2 ≤ k ∧ k < w1.heap.size) ?_ (fun k hk => hk.1)
        repeat refine Kd.V_far ?_ (fun k hk => by simp; omega) _
        exact Kd.V_below (Kd.V_alloc (Kd.V_mono (Kd.V_bound HV1.out) (fun k hk => ⟨Nat.le_trans hz0 hk.1, hk.2⟩)) _) hb2
      · refine Kd.V_mono (ok := fun k => w1.heap.size < k) ?_ (fun k hk => by omega)
        repeat refine Kd.V_far ?_ (fun k hk => by simp; omega) _
        exact Kd.V_mono HV2.out (fun k hk => by simp at hk; omega)
    · refine ⟨W0.heap.size, A1, c1, A5, c5, rfl, hz0, blk_put (cs := #[.bool (neg && decide (0 < ds.length)), .slice A1 ds.length c1, .slice none 0 0]) (blk_put (cs := #[.bool (neg && decide (0 < ds.length)), .slice none 0 0, .slice none 0 0]) (blk_put (cs := #[.bool false, .slice none 0 0, .slice none 0 0]) HNB2.out 0 _ rfl) 1 _ rfl) 2 _ rfl, ?_, ?_, by go_split_ands; assumption⟩
      · refine Kd.V_mono (ok := fun k => W0.heap.size < k) ?_ (fun k hk => by omega)
        repeat refine Kd.V_far ?_ (fun k hk => by simp; omega) _
        exact Kd.V_below (Kd.V_mono HV1.out (fun k hk => by simp at hk; omega)) hb2
      · have hzz := hb1.size
        refine Kd.V_mono (ok := fun k => W0.heap.size < k) ?_ (fun k hk => by omega)
        repeat refine Kd.V_far ?_ (fun k hk => by simp; omega) _
        exact Kd.V_mono HV2.out (fun k hk => by simp at hk hzz; omega)
  case rest =>
    obtain ⟨g, A1, c1, A5, c5, rfl, hg, hbg, hVd, hV1, hI2⟩ := hcut
    have hJ0 : InI2 w #[.int .i64 3, .bool tr, .string tx, .bool neg, .slice A xs.length c, .slice A2 n2 c2, .bool ineg, .slice A3 xs3.length c3, .slice A4 xs4.length c4] A xs (neg && decide (0 < ds.length)) ds g A1 c1 A5 c5 wc := ⟨hI2.below, hI2.size, hI2.box, hI2.words, hbg, hVd, hV1⟩
    have HRS := Aside0.mk hI2.res
    have hg2 := hg
    clear hg hbg hVd hV1 hI2
    go_wp2_with fail
    refine wp_region_noPanic ?_
    refine wp_region_held_drew (S := (fun w' => w'.cell? ⟨w.heap.size, 0, none⟩ = some (.int .i64 3) ∧ w'.cell? ⟨w.heap.size, 1, none⟩ = some (.bool tr) ∧ w'.cell? ⟨w.heap.size, 2, none⟩ = some (.string tx) ∧ w'.cell? ⟨w.heap.size, 3, none⟩ = some (.bool neg) ∧ w'.cell? ⟨w.heap.size, 4, none⟩ = some (.slice A xs.length c) ∧ w'.cell? ⟨w.heap.size, 5, none⟩ = some (.slice A2 n2 c2) ∧ w'.cell? ⟨w.heap.size, 6, none⟩ = some (.bool ineg) ∧ w'.cell? ⟨w.heap.size, 7, none⟩ = some (.slice A3 xs3.length c3) ∧ w'.cell? ⟨w.heap.size, 8, none⟩ = some (.slice A4 xs4.length c4) ∧ w'.cell? ⟨g, 0, none⟩ = some (.bool (neg && decide (0 < ds.length))) ∧ w'.cell? ⟨g, 1, none⟩ = some (.slice A1 ds.length c1) ∧ w'.cell? ⟨g, 2, none⟩ = some (.slice A5 1 c5) ∧ InI2 w #[.int .i64 3, .bool tr, .string tx, .bool neg, .slice A xs.length c, .slice A2 n2 c2, .bool ineg, .slice A3 xs3.length c3, .slice A4 xs4.length c4] A xs (neg && decide (0 < ds.length)) ds g A1 c1 A5 c5 w')) (by kernel_rfl) ?_ (fun hHeld => ?_)
    · (try dsimp only); go_split_ands; exact InI2.cells (InI2.drew (by assumption))
    refine wpAnyH_take (i := 0) (v := ?_) rfl (by kernel_rfl) (by kernel_rfl) (by kernel_rfl) (fun _ _ _ h => h) (Or.inl ⟨by rfl, ?_⟩) (by assumption) ?_
    rotate_left
    · intro w hSw; (try dsimp only at hSw); go_simp; first | done | with_reducible rfl
    try simp only [Act.put, List.setIfInBounds_toArray, List.set_cons_zero, List.set_cons_succ]
    refine wpAnyH_take (i := 1) (v := ?_) rfl (by kernel_rfl) (by kernel_rfl) (by kernel_rfl) (fun _ _ _ h => h) (Or.inl ⟨by rfl, ?_⟩) (by assumption) ?_
    rotate_left
    · intro w hSw; (try dsimp only at hSw); go_simp; first | done | with_reducible rfl
    try simp only [Act.put, List.setIfInBounds_toArray, List.set_cons_zero, List.set_cons_succ]
    refine wpAnyH_take (i := 2) (v := ?_) rfl (by kernel_rfl) (by kernel_rfl) (by kernel_rfl) (fun _ _ _ h => h) (Or.inl ⟨by rfl, ?_⟩) (by assumption) ?_
    rotate_left
    · intro w hSw; (try dsimp only at hSw); go_simp; first | done | with_reducible rfl
    try simp only [Act.put, List.setIfInBounds_toArray, List.set_cons_zero, List.set_cons_succ]
    refine wpAnyH_take (i := 3) (v := ?_) rfl (by kernel_rfl) (by kernel_rfl) (by kernel_rfl) (fun _ _ _ h => h) (Or.inl ⟨by rfl, ?_⟩) (by assumption) ?_
    rotate_left
    · intro w hSw; (try dsimp only at hSw); go_simp; first | done | with_reducible rfl
    try simp only [Act.put, List.setIfInBounds_toArray, List.set_cons_zero, List.set_cons_succ]
    refine wpAnyH_take (i := 4) (v := ?_) rfl (by kernel_rfl) (by kernel_rfl) (by kernel_rfl) (fun _ _ _ h => h) (Or.inl ⟨by rfl, ?_⟩) (by assumption) ?_
    rotate_left
    · intro w hSw; (try dsimp only at hSw); go_simp; first | done | with_reducible rfl
    try simp only [Act.put, List.setIfInBounds_toArray, List.set_cons_zero, List.set_cons_succ]
    refine wpAnyH_take (i := 5) (v := ?_) rfl (by kernel_rfl) (by kernel_rfl) (by kernel_rfl) (fun _ _ _ h => h) (Or.inl ⟨by rfl, ?_⟩) (by assumption) ?_
    rotate_left
    · intro w hSw; (try dsimp only at hSw); go_simp; first | done | with_reducible rfl
    try simp only [Act.put, List.setIfInBounds_toArray, List.set_cons_zero, List.set_cons_succ]
    refine wpAnyH_take (i := 6) (v := ?_) rfl (by kernel_rfl) (by kernel_rfl) (by kernel_rfl) (fun _ _ _ h => h) (Or.inl ⟨by rfl, ?_⟩) (by assumption) ?_
    rotate_left
    · intro w hSw; (try dsimp only at hSw); go_simp; first | done | with_reducible rfl
    try simp only [Act.put, List.setIfInBounds_toArray, List.set_cons_zero, List.set_cons_succ]
    refine wpAnyH_ready (rs := [7]) (by kernel_rfl) (by simp) ?_
    refine AllReadyH.cons rfl (fun K hK => ?_) AllReadyH.nil
    go_simp
    refine (isNumber_any neg (neg && decide (0 < ds.length)) A c xs A1 c1 ds k b _ ?_ HC.out ?_ ?_ HH.out).mono ?_
    · go_split_ands; exact (InI2.words (by assumption))
    · go_split_ands; exact (InI2.digits (by assumption))
    · go_split_ands; exact (InI2.len (by assumption))
    rw [HQ.out]
    rintro e w5 ⟨rfl, hb5⟩
    have HRS5 := Aside0.mk (blk_below (blk_drew HRS.out) hb5)
    go_wp2_with fail
    refine hK.out _ _ ?_ (fun hHeld2 => ?_)
    · (try dsimp only); go_split_ands; exact InI2.cells (InI2.next (by assumption) hb5)
    clear hK K hHeld
    try simp only [Act.put, List.setIfInBounds_toArray, List.set_cons_zero, List.set_cons_succ]
    refine wpAnyH_take (i := 8) (v := ?_) rfl (by kernel_rfl) (by kernel_rfl) (by kernel_rfl) (fun _ _ _ h => h) (Or.inl ⟨by rfl, ?_⟩) (by assumption) ?_
    rotate_left
    · intro w hSw; (try dsimp only at hSw); go_simp; first | done | with_reducible rfl
    try simp only [Act.put, List.setIfInBounds_toArray, List.set_cons_zero, List.set_cons_succ]
    refine wpAnyH_take (i := 9) (v := ?_) rfl (by kernel_rfl) (by kernel_rfl) (by kernel_rfl) (fun _ _ _ h => h) (Or.inl ⟨by rfl, ?_⟩) (by assumption) ?_
    rotate_left
    · intro w hSw; (try dsimp only at hSw); go_simp; first | done | with_reducible rfl
    try simp only [Act.put, List.setIfInBounds_toArray, List.set_cons_zero, List.set_cons_succ]
    refine wpAnyH_take (i := 10) (v := ?_) rfl (by kernel_rfl) (by kernel_rfl) (by kernel_rfl) (fun _ _ _ h => h) (Or.inl ⟨by rfl, ?_⟩) (by assumption) ?_
    rotate_left
    · intro w hSw; (try dsimp only at hSw); go_simp; first | done | with_reducible rfl
    try simp only [Act.put, List.setIfInBounds_toArray, List.set_cons_zero, List.set_cons_succ]
    refine wpAnyH_take (i := 11) (v := ?_) rfl (by kernel_rfl) (by kernel_rfl) (by kernel_rfl) (fun _ _ _ h => h) (Or.inl ⟨by rfl, ?_⟩) (by assumption) ?_
    rotate_left
    · intro w hSw; (try dsimp only at hSw); go_simp; first | done | with_reducible rfl
    try simp only [Act.put, List.setIfInBounds_toArray, List.set_cons_zero, List.set_cons_succ]
    refine wpAnyH_take (i := 12) (v := ?_) rfl (by kernel_rfl) (by kernel_rfl) (by kernel_rfl) (fun _ _ _ h => h) (Or.inl ⟨by rfl, ?_⟩) (by assumption) ?_
    rotate_left
    · intro w hSw; (try dsimp only at hSw); go_simp; first | done | with_reducible rfl
    try simp only [Act.put, List.setIfInBounds_toArray, List.set_cons_zero, List.set_cons_succ]
    refine wpAnyH_take (i := 13) (v := ?_) rfl (by kernel_rfl) (by kernel_rfl) (by kernel_rfl) (fun _ _ _ h => h) (Or.inl ⟨by rfl, ?_⟩) (by assumption) ?_
    rotate_left
    · intro w hSw; (try dsimp only at hSw); go_simp; first | done | with_reducible rfl
    try simp only [Act.put, List.setIfInBounds_toArray, List.set_cons_zero, List.set_cons_succ]
    refine wpAnyH_take (i := 14) (v := ?_) rfl (by kernel_rfl) (by kernel_rfl) (by kernel_rfl) (fun _ _ _ h => h) (Or.inl ⟨by rfl, ?_⟩) (by assumption) ?_
    rotate_left
    · intro w hSw; (try dsimp only at hSw); go_simp; first | done | with_reducible rfl
    try simp only [Act.put, List.setIfInBounds_toArray, List.set_cons_zero, List.set_cons_succ]
    refine wpAnyH_ready (rs := [15]) (by kernel_rfl) (by simp) ?_
    refine AllReadyH.cons rfl (fun K hK => ?_) AllReadyH.nil
    go_simp
    refine hK.out _ _ ?_ (fun hSkip1 => ?_)
    · (try dsimp only); go_split_ands; exact InI2.cells (by assumption)
    clear hK K hHeld2
    try simp only [Act.put, List.setIfInBounds_toArray, List.set_cons_zero, List.set_cons_succ]
    refine wpAnyH_ready (rs := [16]) (by kernel_rfl) (by simp) ?_
    refine AllReadyH.cons rfl (fun K hK => ?_) AllReadyH.nil
    go_simp
    refine hK.out _ _ ?_ (fun hSkipC => ?_)
    · (try dsimp only); go_split_ands; exact InI2.cells (by assumption)
    clear hK K hSkip1
    try simp only [Act.put, List.setIfInBounds_toArray, List.set_cons_zero, List.set_cons_succ]
    refine wpAnyH_take (i := 17) (v := ?_) rfl (by kernel_rfl) (by kernel_rfl) (by kernel_rfl) (fun _ _ _ h => h) (Or.inl ⟨by rfl, ?_⟩) (by assumption) ?_
    rotate_left
    · intro w hSw; (try dsimp only at hSw); go_simp; first | done | with_reducible rfl
    try simp only [Act.put, List.setIfInBounds_toArray, List.set_cons_zero, List.set_cons_succ]
    have s0 : w5.cell? ⟨w.heap.size + 1, 0, none⟩ = some (.bool false) := blk_cell HRS5.out 0
    have sf0 : w5.frozen? ⟨w.heap.size + 1, 0, none⟩ = false := blk_frozen HRS5.out 0
    have s1 : w5.cell? ⟨w.heap.size + 1, 1, none⟩ = some (.slice none 0 0) := blk_cell HRS5.out 1
    have sf1 : w5.frozen? ⟨w.heap.size + 1, 1, none⟩ = false := blk_frozen HRS5.out 1
    have s2 : w5.cell? ⟨w.heap.size + 1, 2, none⟩ = some (.slice none 0 0) := blk_cell HRS5.out 2
    have sf2 : w5.frozen? ⟨w.heap.size + 1, 2, none⟩ = false := blk_frozen HRS5.out 2
    refine wpAnyH_ready (rs := [18]) (by kernel_rfl) (by simp) ?_
    refine AllReadyH.cons rfl (fun K hK => ?_) AllReadyH.nil
    go_simp
    refine hK.out _ _ ?_ (fun hHeld3 => ?_)
    · (try dsimp only); go_split_ands; exact InI2.cells (InI2.set_ (InI2.set_ (InI2.set_ (by assumption) HA.out hg2 _ _) HA.out hg2 _ _) HA.out hg2 _ _)
    clear hK K hSkipC
    try simp only [Act.put, List.setIfInBounds_toArray, List.set_cons_zero, List.set_cons_succ]
    refine wpAnyH_take (i := 19) (oi := ⟨some 3, _, _, _, _, _⟩) (v := ?_) rfl (by kernel_rfl) (by kernel_rfl) (by kernel_rfl) (fun _ _ _ h => h) (Or.inl ⟨by rfl, ?_⟩) (by assumption) ?_
    rotate_left
    · intro w hSw; (try dsimp only at hSw); go_simp; first | done | with_reducible rfl
    try simp only [Act.put, List.setIfInBounds_toArray, List.set_cons_zero, List.set_cons_succ]
    refine wpAnyH_done (by kernel_rfl) ?_ _
    refine NoPanic.normal ?_
    go_wp2
    refine bodyPost_ret (results_ct rfl _ _ (w.heap.size + 1) 31 #[.bool (neg && decide (0 < ds.length)), .slice A1 ds.length c1, .slice A5 1 c5] (0, 0) _ rfl (blk_put (cs := #[.bool (neg && decide (0 < ds.length)), .slice A1 ds.length c1, .slice none 0 0]) (blk_put (cs := #[.bool (neg && decide (0 < ds.length)), .slice none 0 0, .slice none 0 0]) (blk_put (cs := #[.bool false, .slice none 0 0, .slice none 0 0]) HRS5.out 0 _ rfl) 1 _ rfl) 2 _ rfl) Tryz.underlying31 rfl (by kernel_rfl)) rfl ?_
    go_split_ands
    refine ⟨A1, c1, A5, c5, rfl, InI2.num (by assumption), InI2.one (by assumption), InI2.below (by assumption)⟩
end Go.Proofs.YtgpoplfgngiilaaGreatDoor

namespace Go.Proofs.YtgpoplfgngiilaaGreatDoor
open Go.RowKit Go.Proofs.YtgpoplfgngiilaaGreatDoorW.PrintWords PAll Pl

/-- What Integer answers: if it is an integer not below 0, its digits and its words. -/
def InOk (xs : List Int) (w : World) (e : Ending) (w' : World) : Prop :=
  ∃ (n : Bool) (A1 : Option Addr) (n1 c1 : Nat) (A5 : Option Addr) (n5 c5 : Nat) (ok : Bool), e = .returned (.tuple #[.agg #[.bool n, .slice A1 n1 c1, .slice A5 n5 c5], .bool ok]) ∧ Below w.heap.size w w' ∧
    (ok = true → n = false → ∃ V : Nat, xs = figs 18446744073709551616 V ∧ n1 = (figs 65536 V).length ∧ n5 = 1 ∧ Kd.V (Kd.int .i64) 3 w' 0 (fun k => w.heap.size ≤ k) (.slice A1 n1 c1) (figs 65536 V) ∧ Kd.V (Kd.int .i64) 3 w' 0 (fun k => w.heap.size ≤ k) (.slice A5 1 c5) [1])

theorem ev_two {α β : Type} {f : Nat → Option α} {g : Nat → Option β} {a : α} {b : β} (hf : Ev f a) (hg : Ev g b) : ∃ k, f k = some a ∧ g k = some b := by
  obtain ⟨K, h1⟩ := hf
  obtain ⟨L, h2⟩ := hg
  exact ⟨max K L, h1 _ (Nat.le_max_left _ _), h2 _ (Nat.le_max_right _ _)⟩

theorem figs_quad (V : Nat) (m : Nat) (h : (figs 18446744073709551616 V).length ≤ m) : (figs 65536 V).length ≤ 4 * m := by
  refine figs_length_le (by decide) _ _ ?_
  have h1 := (val_range (B := ((18446744073709551616 : Nat) : Int)) (by decide) (figs_Dg (by decide) V)).2
  rw [figs_val (by decide)] at h1
  have h2 : V < 18446744073709551616 ^ (figs 18446744073709551616 V).length := by exact_mod_cast h1
  have h3 : (18446744073709551616 : Nat) ^ (figs 18446744073709551616 V).length ≤ 18446744073709551616 ^ m := Nat.pow_le_pow_right (by decide) h
  have e : (65536 : Nat) ^ (4 * m) = 18446744073709551616 ^ m := by rw [Nat.pow_mul]
  rw [e]
  omega

theorem integer_all (kd : Int) (tr : Bool) (tx : ByteArray) (neg : Bool) (A : Option Addr) (c : Nat) (xs : List Int) (A2 : Option Addr) (n2 c2 : Nat) (ineg : Bool) (A3 : Option Addr) (c3 : Nat) (xs3 : List Int) (A4 : Option Addr) (c4 : Nat) (xs4 : List Int) (w : World)
    (hd : Dg (18446744073709551616 : Nat) xs) (hl : xs.length ≤ 10)
    (hA : Kd.C (Kd.int .u64) w A xs.length xs) (hc : xs.length ≤ c) (hA3 : Kd.C (Kd.int .u64) w A3 xs3.length xs3) (hc3 : xs3.length ≤ c3) (hA4 : Kd.C (Kd.int .u64) w A4 xs4.length xs4) (hc4 : xs4.length ≤ c4) :
    Calls Tryz.prog 23 #[.agg #[.int .i64 kd, .bool tr, .string tx, .bool neg, .slice A xs.length c, .slice A2 n2 c2, .bool ineg, .slice A3 xs3.length c3, .slice A4 xs4.length c4]] w (InOk xs w) := by
  by_cases hk : kd = 3
  · subst hk
    have hv0 := (val_range (B := ((18446744073709551616 : Nat) : Int)) (by decide) hd)
    obtain ⟨V, hV⟩ := Int.eq_ofNat_of_zero_le hv0.1
    have hof := of_f xs hd (by omega)
    rw [hV, Int.toNat_natCast] at hof
    have hlen : (figs 18446744073709551616 V).length ≤ 10 := by
      refine figs_length_le (by decide) 10 V ?_
      have h1 := hv0.2
      rw [hV] at h1
      have h2 : V < 18446744073709551616 ^ xs.length := by exact_mod_cast h1
      exact Nat.lt_of_lt_of_le h2 (Nat.pow_le_pow_right (by decide) hl)
    have hlen2 := figs_quad V 10 hlen
    obtain ⟨b, hb, hbx⟩ := has_any xs V (by omega) (by omega)
    obtain ⟨k, hO, hH⟩ := ev_two hof hb
    cases hq : ((neg == ((neg && decide (0 < (figs 65536 V).length)) && decide (0 < (figs 65536 V).length))) && b) with
    | false =>
      refine (integer_no1 tr tx neg A c xs A2 n2 c2 ineg A3 c3 xs3 A4 c4 xs4 k (figs 65536 V) b w hA hc hA3 hc3 hA4 hc4 hO hH hq).mono ?_
      rintro e w' ⟨A1, c1, A5, c5, rfl, _, _, h3⟩
      exact ⟨_, _, _, _, _, _, _, _, rfl, h3, fun h => by cases h⟩
    | true =>
      rcases Nat.eq_zero_or_pos n2 with h0 | hp
      · subst h0
        have hr : ∃ r, spec_rest.f 3 tr tx neg xs [] ineg xs3 xs4 = some r := by
          unfold spec_rest.f
          split
          · exact ⟨_, rfl⟩
          · split
            · split
              · exact ⟨_, rfl⟩
              · split
                · exact ⟨_, rfl⟩
                · exact ⟨_, rfl⟩
            · exact ⟨_, rfl⟩
        obtain ⟨r, hr⟩ := hr
        refine (integer_any tr tx neg A c xs A2 c2 ineg A3 c3 xs3 A4 c4 xs4 k (figs 65536 V) b r w hA hc hA3 hc3 hA4 hc4 hO hH hr hq).mono ?_
        rintro e w' ⟨A1, c1, A5, c5, rfl, h1, h2, h3⟩
        refine ⟨_, _, _, _, _, _, _, _, rfl, h3, fun _ _ => ⟨V, ?_, rfl, rfl, Kd.V_mono h1 (fun k hk => by omega), Kd.V_mono h2 (fun k hk => by omega)⟩⟩
        have hbt : b = true := by
          cases b
          · simp at hq
          · rfl
        exact hbx hbt
      · refine (integer_no2 tr tx neg A c xs A2 n2 c2 ineg A3 c3 xs3 A4 c4 xs4 k (figs 65536 V) b w hA hc hA3 hc3 hA4 hc4 hO hH hq (by simp only [beq_eq_false_iff_ne]; omega)).mono ?_
        rintro e w' ⟨A1, c1, A5, c5, rfl, _, _, h3⟩
        exact ⟨_, _, _, _, _, _, _, _, rfl, h3, fun h => by cases h⟩
  · refine (integer_kind kd hk tr tx neg _ _ ineg _ _ w).mono ?_
    rintro e w' ⟨rfl, h3⟩
    exact ⟨_, _, _, _, _, _, _, _, rfl, h3, fun h => by cases h⟩

set_option maxHeartbeats 1000000 in
set_option maxRecDepth 100000 in
theorem whole_great (kd : Int) (tr : Bool) (tx : ByteArray) (neg : Bool) (A : Option Addr) (n c : Nat) (v2 : Value) (ineg : Bool) (v3 v4 : Value) (w : World) (hn : 10 < n) :
    Calls Tryz.prog 7 #[.agg #[.int .i64 kd, .bool tr, .string tx, .bool neg, .slice A n c, v2, .bool ineg, v3, v4], .int .i64 10] w fun e w' => e = .returned (.tuple #[.agg #[.bool false, .slice none 0 0, .slice none 0 0], .bool false]) ∧ Below w.heap.size w w' := by
  have hni : (10 : Int) < n := by omega
  go_enter Tryz.func7, Tryz.ntmps7
  go_wp2_with fail
  refine bodyPost_ret (results_ct rfl _ _ (w.heap.size + 1) 31 #[.bool false, .slice none 0 0, .slice none 0 0] (0, 0) _ rfl (by simpa using heap_alloc_new (w.alloc (.cells #[.int .i64 kd, .bool tr, .string tx, .bool neg, .slice A n c, v2, .bool ineg, v3, v4] 26)) (.cells #[.bool false, .slice none 0 0, .slice none 0 0] 31)) Tryz.underlying31 rfl (by kernel_rfl)) rfl ?_
  exact ⟨rfl, below_alloc (below_alloc (Below.refl _ _) _) _⟩

set_option maxHeartbeats 1000000 in
set_option maxRecDepth 100000 in
theorem whole_small (kd : Int) (tr : Bool) (tx : ByteArray) (neg : Bool) (A : Option Addr) (c : Nat) (xs : List Int) (A2 : Option Addr) (n2 c2 : Nat) (ineg : Bool) (A3 : Option Addr) (c3 : Nat) (xs3 : List Int) (A4 : Option Addr) (c4 : Nat) (xs4 : List Int) (w : World)
    (hd : Dg (18446744073709551616 : Nat) xs) (hl : xs.length ≤ 10)
    (hA : Kd.C (Kd.int .u64) w A xs.length xs) (hc : xs.length ≤ c) (hA3 : Kd.C (Kd.int .u64) w A3 xs3.length xs3) (hc3 : xs3.length ≤ c3) (hA4 : Kd.C (Kd.int .u64) w A4 xs4.length xs4) (hc4 : xs4.length ≤ c4) :
    Calls Tryz.prog 7 #[.agg #[.int .i64 kd, .bool tr, .string tx, .bool neg, .slice A xs.length c, .slice A2 n2 c2, .bool ineg, .slice A3 xs3.length c3, .slice A4 xs4.length c4], .int .i64 10] w (InOk xs w) := by
  have hni : (xs.length : Int) ≤ 10 := by omega
  obtain ⟨W0, hW0⟩ : ∃ W0, W0 = (w.alloc (.cells #[.int .i64 kd, .bool tr, .string tx, .bool neg, .slice A xs.length c, .slice A2 n2 c2, .bool ineg, .slice A3 xs3.length c3, .slice A4 xs4.length c4] 26)).alloc (.cells #[.bool false, .slice none 0 0, .slice none 0 0] 31) := ⟨_, rfl⟩
  have hB0 : Below w.heap.size w W0 := by rw [hW0]; exact below_alloc (below_alloc (Below.refl _ _) _) _
  have hn1 : W0.heap[w.heap.size + 1]? = some (.cells #[.bool false, .slice none 0 0, .slice none 0 0] 31 (0, 0)) := by rw [hW0]; simpa using heap_alloc_new (w.alloc (.cells #[.int .i64 kd, .bool tr, .string tx, .bool neg, .slice A xs.length c, .slice A2 n2 c2, .bool ineg, .slice A3 xs3.length c3, .slice A4 xs4.length c4] 26)) (.cells #[.bool false, .slice none 0 0, .slice none 0 0] 31)
  have hz : W0.heap.size = w.heap.size + 2 := by rw [hW0]; simp
  have H := Aside0.mk (integer_all kd tr tx neg A c xs A2 n2 c2 ineg A3 c3 xs3 A4 c4 xs4 W0 hd hl (Kd.C_below hA hB0) hc (Kd.C_below hA3 hB0) hc3 (Kd.C_below hA4 hB0) hc4)
  have HW0 := Lib.hid hW0
  have HB0 := Aside0.mk hB0
  have HN1 := Aside0.mk hn1
  have HZ := Aside0.mk hz
  clear hW0 hB0 hn1 hz hd hl hA hc hA3 hc3 hA4 hc4
  go_enter Tryz.func7, Tryz.ntmps7
  go_wp2_with fail
  rw [← HW0.out]
  refine H.out.mono ?_
  rintro e w1 ⟨n, A1, n1, c1, A5, n5, c5, ok, rfl, hb, himp⟩
  have hbk := blk_below HN1.out hb
  have k0 : w1.cell? ⟨w.heap.size + 1, 0, none⟩ = some (.bool false) := blk_cell hbk 0
  have k1 : w1.cell? ⟨w.heap.size + 1, 1, none⟩ = some (.slice none 0 0) := blk_cell hbk 1
  have k2 : w1.cell? ⟨w.heap.size + 1, 2, none⟩ = some (.slice none 0 0) := blk_cell hbk 2
  have f0 : w1.frozen? ⟨w.heap.size + 1, 0, none⟩ = false := blk_frozen hbk 0
  have f1 : w1.frozen? ⟨w.heap.size + 1, 1, none⟩ = false := blk_frozen hbk 1
  have f2 : w1.frozen? ⟨w.heap.size + 1, 2, none⟩ = false := blk_frozen hbk 2
  have HBK := Aside0.mk hbk
  have HB := Aside0.mk hb
  have HI := Lib.hid himp
  clear hbk hb himp
  go_wp2_with fail
  refine bodyPost_ret (results_ct rfl _ _ (w.heap.size + 1) 31 #[.bool n, .slice A1 n1 c1, .slice A5 n5 c5] (0, 0) _ rfl (blk_put (cs := #[.bool n, .slice A1 n1 c1, .slice none 0 0]) (blk_put (cs := #[.bool n, .slice none 0 0, .slice none 0 0]) (blk_put (cs := #[.bool false, .slice none 0 0, .slice none 0 0]) HBK.out 0 _ rfl) 1 _ rfl) 2 _ rfl) Tryz.underlying31 rfl (by kernel_rfl)) rfl ?_
  refine ⟨n, A1, n1, c1, A5, n5, c5, ok, rfl, ?_, fun h1 h2 => ?_⟩
  · repeat refine Below.setCell ?_ (by simp) _
    exact below_step HB0.out HB.out
  · obtain ⟨V, g1, g2, g3, g4, g5⟩ := HI.out h1 h2
    have hz := HZ.out
    refine ⟨V, g1, g2, g3, ?_, ?_⟩
    · refine Kd.V_mono (ok := fun k => W0.heap.size ≤ k) ?_ (fun k hk => by omega)
      repeat refine Kd.V_far ?_ (fun k hk => by simp; omega) _
      exact g4
    · refine Kd.V_mono (ok := fun k => W0.heap.size ≤ k) ?_ (fun k hk => by omega)
      repeat refine Kd.V_far ?_ (fun k hk => by simp; omega) _
      exact g5
end Go.Proofs.YtgpoplfgngiilaaGreatDoor
