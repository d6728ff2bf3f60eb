/- Rat's norm of a fraction of which one side is a single word. -/
import Derived.Test.YtgpoplfgngiilaaGreatDoorZ12
set_option linter.unusedVariables false
set_option linter.unusedSimpArgs false
namespace Go.Proofs.YtgpoplfgngiilaaGreatDoor
open Go.RowKit Go.Proofs.YtgpoplfgngiilaaGreatDoorW.PrintWords PAll Pl Dv

theorem free_d (g : Nat) (u : FrameMode) (w : World) (hg : w.heap[g]? = some (.cells #[.pointer none] 244 (0, 0))) : CallsD Tryz.prog 114 #[.pointer (some ⟨g, 0, none⟩)] u w fun e u' w' => u' = u ∧ e = .returned (.tuple #[]) ∧ w = w' := by
  have c0 : w.cell? ⟨g, 0, none⟩ = some (.pointer none) := blk_cell hg 0
  clear hg
  go_enter_d Tryz.func114, Tryz.ntmps114
  go_wp2_with fail
  go_end0
  first | exact ⟨rfl, rfl, rfl⟩ | exact ⟨rfl, rfl⟩ | rfl

theorem blk_ne {W : World} {i j : Nat} {cs ct : Array Value} {t1 t2 : TypeId} (h1 : W.heap[i]? = some (.cells cs t1 (0, 0))) (h2 : W.heap[j]? = some (.cells ct t2 (0, 0))) (ht : t1 ≠ t2) : i ≠ j := by
  rintro rfl
  rw [h1] at h2
  injection h2 with h2
  injection h2 with _ h3 _
  exact ht h3

/-- A Rat's block, both sides not below 0. -/
def Rk (w : World) (g : Nat) (va vb : Value) : Prop := w.heap[g]? = some (.cells #[.bool false, va, .bool false, vb] 165 (0, 0))

/-- Behind the first division. -/
def RnC (a b G g gf gs gx base : Nat) (vb vf : Value) (w W : World) : Prop :=
  ∃ q, Rk W g q vb ∧ Nt W base q (figs 18446744073709551616 (a / G)) ∧ Nt W base vb (figs 18446744073709551616 b) ∧ Ik W gf vf ∧ Nt W base vf (figs 18446744073709551616 G) ∧ W.heap[gs]? = some (.cells #[.pointer none] 244 (0, 0)) ∧ Below base w W ∧
    (∀ k, vb.ownBlock = some k → q.ownBlock ≠ some k) ∧ (∀ k, vb.ownBlock = some k → vf.ownBlock ≠ some k) ∧ W.heap[gx]? = some (.cells #[.pointer none] 244 (0, 0))

/-- Behind both. -/
def RnD (a b G g gs gx base : Nat) (w W : World) : Prop :=
  ∃ q r, Rk W g q r ∧ Nt W base q (figs 18446744073709551616 (a / G)) ∧ Nt W base r (figs 18446744073709551616 (b / G)) ∧ W.heap[gs]? = some (.cells #[.pointer none] 244 (0, 0)) ∧ Below base w W ∧ W.heap[gx]? = some (.cells #[.pointer none] 244 (0, 0))

set_option maxHeartbeats 8000000 in
set_option maxRecDepth 100000 in
theorem ratNorm (a b g gx base : Nat) (va vb : Value) (w : World) (ha0 : 0 < a) (hb0 : 0 < b) (hm : a < 18446744073709551616 ∨ b < 18446744073709551616) (hg : Rk w g va vb) (hA : Nt w base va (figs 18446744073709551616 a)) (hB : Nt w base vb (figs 18446744073709551616 b))
    (hab : ∀ k, va.ownBlock = some k → vb.ownBlock ≠ some k) (hna : (figs 18446744073709551616 a).length ≤ 100000) (hnb : (figs 18446744073709551616 b).length ≤ 100000) (hbase : base ≤ w.heap.size) (hbg : base ≤ g) (hgx : w.heap[gx]? = some (.cells #[.pointer none] 244 (0, 0))) :
    Calls Tryz.prog 95 #[.pointer (some ⟨g, 0, none⟩)] w fun e w' => ∃ q r, e = .returned (.pointer (some ⟨g, 0, none⟩)) ∧ Rk w' g q r ∧ Nt w' base q (figs 18446744073709551616 (a / Nat.gcd a b)) ∧ Nt w' base r (figs 18446744073709551616 (b / Nat.gcd a b)) ∧ Below base w w' ∧ w'.heap[gx]? = some (.cells #[.pointer none] 244 (0, 0)) := by
  have hxg : gx ≠ g := blk_ne hgx hg (by decide)
  obtain ⟨A1, c1, hva⟩ := Nt_slice hA
  obtain ⟨A2, c2, hvb⟩ := Nt_slice hB
  obtain ⟨l1, hl1⟩ : ∃ l, l = (figs 18446744073709551616 a).length := ⟨_, rfl⟩
  obtain ⟨l2, hl2⟩ : ∃ l, l = (figs 18446744073709551616 b).length := ⟨_, rfl⟩
  rw [← hl1] at hva hna
  rw [← hl2] at hvb hnb
  have n1 : (0 : Int) < l1 := by have := List.length_pos_iff.2 (figs_ne (B := 18446744073709551616) (by decide) ha0); omega
  have n2 : (0 : Int) < l2 := by have := List.length_pos_iff.2 (figs_ne (B := 18446744073709551616) (by decide) hb0); omega
  have n1' : 0 < l1 := by omega
  have n2' : 0 < l2 := by omega
  have d1 : ((l1 : Int) == 0) = false := by simp; omega
  have d2 : ((l2 : Int) == 0) = false := by simp; omega
  have x1 : w.cell? ⟨g, 1, none⟩ = some va := blk_cell hg 1
  have x3 : w.cell? ⟨g, 3, none⟩ = some vb := blk_cell hg 3
  have hgs : g < w.heap.size := blk_lt hg
  obtain ⟨W1, hW1⟩ : ∃ W, W = w.alloc (.cells #[.pointer none] 244) := ⟨_, rfl⟩
  have hB1 : Below w.heap.size w W1 := by rw [hW1]; exact below_alloc (Below.refl _ _) _
  have hS1 : W1.heap[w.heap.size]? = some (.cells #[.pointer none] 244 (0, 0)) := by rw [hW1]; exact heap_alloc_new w _
  have hs1 : W1.heap.size = w.heap.size + 1 := by rw [hW1]; simp
  have hg1 : Rk W1 g va vb := (hB1.block g hgs).trans hg
  have y0 : W1.cell? ⟨g, 0, none⟩ = some (.bool false) := blk_cell hg1 0
  have yf0 : W1.frozen? ⟨g, 0, none⟩ = false := blk_frozen hg1 _
  have hg2 : Rk (W1.setCell ⟨g, 0, none⟩ (.bool false)) g va vb := blk_put hg1 0 (.bool false) rfl
  have y2 : (W1.setCell ⟨g, 0, none⟩ (.bool false)).cell? ⟨g, 2, none⟩ = some (.bool false) := blk_cell hg2 2
  have yf2 : (W1.setCell ⟨g, 0, none⟩ (.bool false)).frozen? ⟨g, 2, none⟩ = false := blk_frozen hg2 _
  obtain ⟨W3, hW3⟩ : ∃ W, W = (W1.setCell ⟨g, 0, none⟩ (.bool false)).setCell ⟨g, 2, none⟩ (.bool false) := ⟨_, rfl⟩
  have hg3 : Rk W3 g va vb := by rw [hW3]; exact blk_put hg2 2 (.bool false) rfl
  have hA3 : Nt W3 base va (figs 18446744073709551616 a) := by rw [hW3]; exact Nt_other (p := ⟨g, 2, none⟩) (Nt_other (p := ⟨g, 0, none⟩) (Nt_below hA hB1) hg1 (by decide) _) hg2 (by decide) _
  have hB3 : Nt W3 base vb (figs 18446744073709551616 b) := by rw [hW3]; exact Nt_other (p := ⟨g, 2, none⟩) (Nt_other (p := ⟨g, 0, none⟩) (Nt_below hB hB1) hg1 (by decide) _) hg2 (by decide) _
  have hS3 : W3.heap[w.heap.size]? = some (.cells #[.pointer none] 244 (0, 0)) := by rw [hW3]; exact blk_far (blk_far hS1 (by simp; omega) _) (by simp; omega) _
  have hX3 : W3.heap[gx]? = some (.cells #[.pointer none] 244 (0, 0)) := by rw [hW3]; exact blk_far (blk_far (blk_below hgx hB1) hxg _) hxg _
  have HX3 := Aside0.mk (And.intro hX3 hxg)
  have hs3 : W3.heap.size = w.heap.size + 1 := by rw [hW3]; simp; exact hs1
  have hB03 : Below base w W3 := by rw [hW3]; exact ((hB1.mono hbase).setCell (p := ⟨g, 0, none⟩) hbg _).setCell (p := ⟨g, 2, none⟩) hbg _
  have HNI := Aside0.mk (newInt0 W3.drew)
  have hB34 : Below W3.heap.size W3 (W3.drew.alloc (.cells #[.bool false, .slice none 0 0] 116)) := (below_drew (Below.refl _ _)).alloc (Nat.le_refl _) _
  have HLG := Aside0.mk (lehmer_any a b W3.heap.size g 0 2 W3.heap.size base base va vb _ _ (W3.drew.alloc (.cells #[.bool false, .slice none 0 0] 116)) ha0 hb0 hm (heap_alloc_new W3.drew _) (by omega) (blk_below hg3 hB34) rfl rfl rfl rfl (Nt_below hA3 hB34) (Nt_below hB3 hB34) (by omega) (by omega) (by simp) (Nat.le_refl _))
  have HP := Aside0.mk (And.intro ha0 (And.intro hb0 hm))
  have HW3 := Aside0.mk (And.intro hg3 (And.intro hA3 (And.intro hB3 (And.intro hS3 (And.intro hs3 hB03)))))
  have HAB := Lib.hid hab
  have HB34 := Aside0.mk hB34
  have HL := Aside0.mk (And.intro hl1 (And.intro hl2 (And.intro hna hnb)))
  have HBS := Aside0.mk (And.intro hbase (And.intro hbg hgs))
  have HGS := Lib.hid (getStack_any w)
  have HIO := Lib.hid (fun W => intOne_any W)
  have HWE := Aside0.mk hW1
  have HWE3 := Aside0.mk hW3
  rw [hva] at x1
  rw [hvb] at x3
  have HVV := Aside0.mk (And.intro hva hvb)
  clear hgx hxg hX3 ha0 hb0 hm hg hA hB hab hna hnb hbase hbg hgs hB1 hS1 hs1 hg1 hg2 hg3 hA3 hB3 hS3 hs3 hB03 hB34 hl1 hl2 hva hvb hW1 hW3
  go_enter_defers Tryz.func95, Tryz.ntmps95
  go_wp2_with fail
  refine HGS.out.mono ?_
  rintro e w' ⟨rfl, rfl⟩
  rw [← HWE.out]
  clear HGS
  go_upto_region 10 with (fail)
  rw [← HWE3.out]

  refine wp_region_noPanic ?_
  refine wp_region_held_drew (S := (fun _ => True)) (by kernel_rfl) ?_ (fun hHeld => ?_)
  · (try dsimp only); all_goals trivial
  refine wpAnyH_take (i := 1) (oi := ⟨some 52, _, _, _, _, _⟩) (v := ?_) rfl (by kernel_rfl) (by kernel_rfl) (by kernel_rfl) (fun _ _ _ h => h) (Or.inl ⟨by rfl, ?_⟩) (by assumption) ?_
  rotate_left
  · intro w hSw; (try dsimp only at hSw); go_simp; first | done | with_reducible rfl
  try simp only [Act.put, List.setIfInBounds_toArray, List.set_cons_zero, List.set_cons_succ]
  refine wpAnyH_take (i := 2) (oi := ⟨some 53, _, _, _, _, _⟩) (v := ?_) rfl (by kernel_rfl) (by kernel_rfl) (by kernel_rfl) (fun _ _ _ h => h) (Or.inl ⟨by rfl, ?_⟩) (by assumption) ?_
  rotate_left
  · intro w hSw; (try dsimp only at hSw); go_simp; first | done | with_reducible rfl
  try simp only [Act.put, List.setIfInBounds_toArray, List.set_cons_zero, List.set_cons_succ]
  refine wpAnyH_take (i := 3) (oi := ⟨some 54, _, _, _, _, _⟩) (v := ?_) rfl (by kernel_rfl) (by kernel_rfl) (by kernel_rfl) (fun _ _ _ h => h) (Or.inl ⟨by rfl, ?_⟩) (by assumption) ?_
  rotate_left
  · intro w hSw; (try dsimp only at hSw); go_simp; first | done | with_reducible rfl
  try simp only [Act.put, List.setIfInBounds_toArray, List.set_cons_zero, List.set_cons_succ]
  refine wpAnyH_take (i := 4) (oi := ⟨some 55, _, _, _, _, _⟩) (v := ?_) rfl (by kernel_rfl) (by kernel_rfl) (by kernel_rfl) (fun _ _ _ h => h) (Or.inl ⟨by rfl, ?_⟩) (by assumption) ?_
  rotate_left
  · intro w hSw; (try dsimp only at hSw); go_simp; first | done | with_reducible rfl
  try simp only [Act.put, List.setIfInBounds_toArray, List.set_cons_zero, List.set_cons_succ]
  refine wpAnyH_take (i := 5) (oi := ⟨some 56, _, _, _, _, _⟩) (v := ?_) rfl (by kernel_rfl) (by kernel_rfl) (by kernel_rfl) (fun _ _ _ h => h) (Or.inl ⟨by rfl, ?_⟩) (by assumption) ?_
  rotate_left
  · intro w hSw; (try dsimp only at hSw); go_simp; first | done | with_reducible rfl
  try simp only [Act.put, List.setIfInBounds_toArray, List.set_cons_zero, List.set_cons_succ]
  refine wpAnyH_take (i := 6) (oi := ⟨some 57, _, _, _, _, _⟩) (v := ?_) rfl (by kernel_rfl) (by kernel_rfl) (by kernel_rfl) (fun _ _ _ h => h) (Or.inl ⟨by rfl, ?_⟩) (by assumption) ?_
  rotate_left
  · intro w hSw; (try dsimp only at hSw); go_simp; first | done | with_reducible rfl
  try simp only [Act.put, List.setIfInBounds_toArray, List.set_cons_zero, List.set_cons_succ]
  refine wpAnyH_ready (rs := [0]) (by kernel_rfl) (by simp) ?_
  refine AllReadyH.cons rfl (fun K hK => ?_) AllReadyH.nil
  go_simp
  refine HNI.out.mono ?_
  rintro e w4 ⟨rfl, rfl⟩
  go_wp2_with fail
  refine hK.out _ _ ?_ (fun hQ1 => ?_)
  · (try dsimp only); all_goals trivial
  clear hK K hHeld
  try simp only [Act.put, List.setIfInBounds_toArray, List.set_cons_zero, List.set_cons_succ]
  refine wpAnyH_ready (rs := [7]) (by kernel_rfl) (by simp) ?_
  refine AllReadyH.cons rfl (fun K hK => ?_) AllReadyH.nil
  go_simp
  refine HLG.out.mono ?_
  rintro e w5 ⟨vf, rfl, hkf, hnf, hbf⟩
  have HF := Aside0.mk (And.intro hkf (And.intro hnf hbf))
  clear hkf hnf hbf
  go_wp2_with fail
  refine hK.out _ _ ?_ (fun hQ2 => ?_)
  · (try dsimp only); all_goals trivial
  clear hK K hQ1
  try simp only [Act.put, List.setIfInBounds_toArray, List.set_cons_zero, List.set_cons_succ]
  refine wpAnyH_take (i := 8) (oi := ⟨some 5, _, _, _, _, _⟩) (v := ?_) rfl (by kernel_rfl) (by kernel_rfl) (by kernel_rfl) (fun _ _ _ h => h) (Or.inl ⟨by rfl, ?_⟩) (by assumption) ?_
  rotate_left
  · intro w hSw; (try dsimp only at hSw); go_simp; first | done | with_reducible rfl
  try simp only [Act.put, List.setIfInBounds_toArray, List.set_cons_zero, List.set_cons_succ]
  refine wpAnyH_done (by kernel_rfl) ?_ _
  refine NoPanic.normal ?_

  have hB35 : Below W3.heap.size W3 w5 := HB34.out.trans HF.out.2.2
  have hs5 : W3.heap.size < w5.heap.size := blk_lt HF.out.1
  obtain ⟨W6, hW6⟩ : ∃ W, W = (w5.alloc (.cells #[.int .u64 1] 167)).alloc (.cells #[.bool false, .slice (some ⟨w5.heap.size, 0, none⟩) 1 1] 116) := ⟨_, rfl⟩
  have hB56 : Below w5.heap.size w5 W6 := by rw [hW6]; exact (below_alloc (Below.refl _ _) _).alloc (by simp) _
  have hs6 : w5.heap.size < W6.heap.size := by rw [hW6]; simp; omega
  have hI6 : Ik W6 (w5.heap.size + 1) (.slice (some ⟨w5.heap.size, 0, none⟩) 1 1) := by
    have h := heap_alloc_new (w5.alloc (.cells #[.int .u64 1] 167)) (.cells #[.bool false, .slice (some ⟨w5.heap.size, 0, none⟩) 1 1] 116)
    rw [show (w5.alloc (.cells #[.int .u64 1] 167)).heap.size = w5.heap.size + 1 by simp] at h
    rw [hW6]; exact h
  have hN6 : Nt W6 w5.heap.size (.slice (some ⟨w5.heap.size, 0, none⟩) 1 1) (figs 18446744073709551616 1) := by
    have h : (w5.alloc (.cells #[.int .u64 1] 167)).heap[w5.heap.size]? = some (.cells #[.int .u64 1] 167 (0, 0)) := heap_alloc_new w5 _
    have h2 : W6.heap[w5.heap.size]? = some (.cells #[.int .u64 1] 167 (0, 0)) := by rw [hW6]; exact blk_below h (below_alloc (Below.refl _ _) _)
    rw [figs_one (by decide) (by decide) (by decide)]
    exact Nt_mk (xs := [(1 : Int)]) (Nat.le_refl _) h2 (by simp) (by decide) rfl (fun i hi => by
      have : i = 0 := by simpa using hi
      subst this; rfl)
  have hG0 : 0 < Nat.gcd a b := Nat.gcd_pos_of_pos_left b HP.out.1
  have HIC := Aside0.mk (int_cmp (Nat.gcd a b) 1 W3.heap.size (w5.heap.size + 1) W3.heap.size w5.heap.size vf _ W6 hG0 (by decide) (.inr (by decide)) (HF.out.1.below hB56 hs5) hI6 (by omega) (Nt_below HF.out.2.1 hB56) hN6)
  have HB36 := Aside0.mk (hB35.trans (hB56.mono (Nat.le_of_lt hs5)))
  have HF6 := Aside0.mk (And.intro (HF.out.1.below hB56 hs5) (And.intro (Nt_below HF.out.2.1 hB56) (Nat.lt_trans hs5 hs6)))
  have HWE6 := Aside0.mk hW6
  obtain ⟨c, hc⟩ : ∃ c, c = cmpInt ((Nat.gcd a b : Nat) : Int) ((1 : Nat) : Int) := ⟨_, rfl⟩
  rw [← hc] at HIC
  have HC := Aside0.mk hc
  have HG0 := Aside0.mk hG0
  clear hB35 hs5 hW6 hB56 hs6 hI6 hN6 hG0 hc
  go_wp2_with fail
  refine (HIO.out w5).mono ?_
  rintro e w' ⟨rfl, rfl⟩
  rw [← HWE6.out]
  go_wp2_with fail
  refine HIC.out.mono ?_
  rintro e w7 ⟨rfl, hb7⟩
  have hb37 : Below W3.heap.size W3 w7 := HB36.out.trans (hb7.mono (Nat.le_of_lt (Nat.lt_trans (blk_lt HF.out.1) (by rw [HWE6.out]; simp; omega))))
  have hg3 : g < W3.heap.size := by have h1 := HW3.out.2.2.2.2.1; have h2 := HBS.out.2.2; omega
  have hg7 : Rk w7 g va vb := (hb37.block g hg3).trans HW3.out.1
  have hA7 := Nt_below HW3.out.2.1 hb37
  have hB7 := Nt_below HW3.out.2.2.1 hb37
  have hS7 : w7.heap[w.heap.size]? = some (.cells #[.pointer none] 244 (0, 0)) := (hb37.block _ (by have h1 := HW3.out.2.2.2.2.1; omega)).trans HW3.out.2.2.2.1
  have HX7 := Aside0.mk (blk_below HX3.out.1 hb37)
  have hB07 : Below base w w7 := HW3.out.2.2.2.2.2.trans (hb37.mono (by have h1 := HW3.out.2.2.2.2.1; have h2 := HBS.out.1; omega))
  have hF7 : Ik w7 W3.heap.size vf := HF6.out.1.below hb7 HF6.out.2.2
  have hV7 : Nt w7 W3.heap.size vf (figs 18446744073709551616 (Nat.gcd a b)) := Nt_below HF6.out.2.1 hb7
  have H7 := Aside0.mk (And.intro hg7 (And.intro hA7 (And.intro hB7 (And.intro hS7 (And.intro hB07 (And.intro hF7 hV7))))))
  have HG3 := Aside0.mk hg3
  have HCZ := Lib.hid (show Nat.gcd a b = 1 → c = 0 from fun h => by rw [HC.out, h]; rfl)
  have HCN := Lib.hid (show 1 < Nat.gcd a b → c ≠ 0 from fun h => by
    rw [HC.out, cmpInt, if_neg (by omega), if_pos (by omega)]; decide)
  clear hb7 hb37 hg3 hg7 hA7 hB7 hS7 hB07 hF7 hV7 x1 x3 y0 yf0 y2 yf2 HIC HC HLG HNI HIO HWE HWE3 HWE6 HB36 HF6 HF HB34
  rcases Nat.eq_or_lt_of_le (Nat.succ_le_of_lt HG0.out) with hG1 | hG1
  · have hc0 := HCZ.out hG1.symm
    subst hc0
    have z0 : w7.cell? ⟨g, 0, none⟩ = some (.bool false) := blk_cell H7.out.1 0
    have zf0 : w7.frozen? ⟨g, 0, none⟩ = false := blk_frozen H7.out.1 _
    have HG1 := Aside0.mk hG1
    clear hG1
    go_wp2_with fail
    refine leaves_cons (f := 114) (args := #[.pointer (some ⟨w.heap.size, 0, none⟩)]) (by simp) (by simp [go_sem]) ?_
    refine (free_d w.heap.size _ _ (blk_far H7.out.2.2.2.1 (by have h := HBS.out.2.2; simp; omega) _)).mono ?_
    rintro e u' w'' ⟨rfl, rfl, rfl⟩
    refine ⟨_, results_tmp rfl _ _ _, va, vb, rfl, blk_put H7.out.1 0 (.bool false) rfl, ?_, ?_, H7.out.2.2.2.2.1.setCell (p := ⟨g, 0, none⟩) HBS.out.2.1 _, blk_far HX7.out HX3.out.2 _⟩
    · rw [← HG1.out, Nat.div_one]; exact Nt_other (p := ⟨g, 0, none⟩) H7.out.2.1 H7.out.1 (by decide) _
    · rw [← HG1.out, Nat.div_one]; exact Nt_other (p := ⟨g, 0, none⟩) H7.out.2.2.1 H7.out.1 (by decide) _
  · have hcn := HCN.out hG1
    have hcb : (c == 0) = false := by simp [hcn]
    have HG1 := Aside0.mk hG1
    have HG64 := Aside0.mk (show Nat.gcd a b < 18446744073709551616 by
      rcases HP.out.2.2 with h | h
      · exact Nat.lt_of_le_of_lt (Nat.gcd_le_left b HP.out.1) h
      · exact Nat.lt_of_le_of_lt (Nat.gcd_le_right a HP.out.2.1) h)
    clear hG1
    obtain ⟨hf, cf, curf, hvf, hbf, hgf, hcl, -, -, hcf⟩ := Nt_form H7.out.2.2.2.2.2.2 (figs_ne (B := 18446744073709551616) (by decide) HG0.out)
    have hcf0 := hcf 0 (by rw [len_one HG0.out HG64.out]; decide)
    rw [figs_one (by decide) HG0.out HG64.out] at hcf0
    rw [len_one HG0.out HG64.out] at hvf hcl
    have HVF := Aside0.mk (And.intro hvf (And.intro hbf hgf))
    have HCF := Aside0.mk (show w7.cell? ⟨hf, 0, none⟩ = some (.int .u64 ((Nat.gcd a b : Nat) : Int)) from hcf0)
    obtain ⟨ha, hao, hab0, ⟨cura, hha⟩, hdiv⟩ := div_nt base a (Nat.gcd a b) va (.pointer (some ⟨w.heap.size, 0, none⟩)) hf cf w7.drew HP.out.1 (by have h := HL.out; omega) HG1.out HG64.out (by have := H7.out.2.2.2.2.1.size; have := HBS.out.1; simp; omega) hcf0 hcl (Nt_below H7.out.2.1 (below_drew (Below.refl _ _)))
    have hhf : hf ≠ ha := by
      have h1 : ha < W3.heap.size := blk_lt (Nt_blk HW3.out.2.1 hao).choose_spec
      have h2 : W3.heap.size ≤ hf := hbf
      omega
    subst hvf
    have k1 : w7.cell? ⟨g, 1, none⟩ = some va := blk_cell H7.out.1 1
    have z1 : w7.drew.cell? ⟨W3.heap.size, 1, none⟩ = some (.slice (some ⟨hf, 0, none⟩) 1 cf) := blk_cell H7.out.2.2.2.2.2.1 1
    have HDV := Aside0.mk hdiv
    have HHA := Aside0.mk (And.intro hao (And.intro hab0 (And.intro hha hhf)))
    clear hbf hgf hcl hcf hcf0 hao hab0 hha hhf hdiv
    go_upto_region 12 with (fail)
    go_cut [51] from 52 to 114 (fun _ W => RnC a b (Nat.gcd a b) g W3.heap.size w.heap.size gx base vb (.slice (some ⟨hf, 0, none⟩) 1 cf) w W)
    case first =>

      refine wp_region_noPanic ?_
      refine wp_region_held_drew (S := (fun w' => w'.cell? ⟨W3.heap.size, 1, none⟩ = some (.slice (some ⟨hf, 0, none⟩) 1 cf))) (by kernel_rfl) ?_ (fun hHeld => ?_)
      · (try dsimp only); exact z1
      refine wpAnyH_take (i := 0) (oi := ⟨some 64, _, _, _, _, _⟩) (v := ?_) rfl (by kernel_rfl) (by kernel_rfl) (by kernel_rfl) (fun _ _ _ h => h) (Or.inl ⟨by rfl, ?_⟩) (by assumption) ?_
      rotate_left
      · intro w hSw; (try dsimp only at hSw); go_simp; first | done | with_reducible rfl
      try simp only [Act.put, List.setIfInBounds_toArray, List.set_cons_zero, List.set_cons_succ]
      refine wpAnyH_take (i := 1) (oi := ⟨some 65, _, _, _, _, _⟩) (v := ?_) rfl (by kernel_rfl) (by kernel_rfl) (by kernel_rfl) (fun _ _ _ h => h) (Or.inl ⟨by rfl, ?_⟩) (by assumption) ?_
      rotate_left
      · intro w hSw; (try dsimp only at hSw); go_simp; first | done | with_reducible rfl
      try simp only [Act.put, List.setIfInBounds_toArray, List.set_cons_zero, List.set_cons_succ]
      refine wpAnyH_take (i := 2) (oi := ⟨some 66, _, _, _, _, _⟩) (v := ?_) rfl (by kernel_rfl) (by kernel_rfl) (by kernel_rfl) (fun _ _ _ h => h) (Or.inl ⟨by rfl, ?_⟩) (by assumption) ?_
      rotate_left
      · intro w hSw; (try dsimp only at hSw); go_simp; first | done | with_reducible rfl
      try simp only [Act.put, List.setIfInBounds_toArray, List.set_cons_zero, List.set_cons_succ]
      refine wpAnyH_take (i := 3) (oi := ⟨some 67, _, _, _, _, _⟩) (v := ?_) rfl (by kernel_rfl) (by kernel_rfl) (by kernel_rfl) (fun _ _ _ h => h) (Or.inl ⟨by rfl, ?_⟩) (by assumption) ?_
      rotate_left
      · intro w hSw; (try dsimp only at hSw); go_simp; first | done | with_reducible rfl
      try simp only [Act.put, List.setIfInBounds_toArray, List.set_cons_zero, List.set_cons_succ]
      refine wpAnyH_take (i := 4) (oi := ⟨some 68, _, _, _, _, _⟩) (v := ?_) rfl (by kernel_rfl) (by kernel_rfl) (by kernel_rfl) (fun _ _ _ h => h) (Or.inl ⟨by rfl, ?_⟩) (by assumption) ?_
      rotate_left
      · intro w hSw; (try dsimp only at hSw); go_simp; first | done | with_reducible rfl
      try simp only [Act.put, List.setIfInBounds_toArray, List.set_cons_zero, List.set_cons_succ]
      refine wpAnyH_take (i := 6) (oi := ⟨some 70, _, _, _, _, _⟩) (v := ?_) rfl (by kernel_rfl) (by kernel_rfl) (by kernel_rfl) (fun _ _ _ h => h) (Or.inl ⟨by rfl, ?_⟩) (by assumption) ?_
      rotate_left
      · intro w hSw; (try dsimp only at hSw); go_simp; first | done | with_reducible rfl
      try simp only [Act.put, List.setIfInBounds_toArray, List.set_cons_zero, List.set_cons_succ]
      refine wpAnyH_take (i := 7) (oi := ⟨some 71, _, _, _, _, _⟩) (v := ?_) rfl (by kernel_rfl) (by kernel_rfl) (by kernel_rfl) (fun _ _ _ h => h) (Or.inl ⟨by rfl, ?_⟩) (by assumption) ?_
      rotate_left
      · intro w hSw; (try dsimp only at hSw); go_simp; first | done | with_reducible rfl
      try simp only [Act.put, List.setIfInBounds_toArray, List.set_cons_zero, List.set_cons_succ]
      refine wpAnyH_take (i := 8) (oi := ⟨some 72, _, _, _, _, _⟩) (v := ?_) rfl (by kernel_rfl) (by kernel_rfl) (by kernel_rfl) (fun _ _ _ h => h) (Or.inl ⟨by rfl, ?_⟩) (by assumption) ?_
      rotate_left
      · intro w hSw; (try dsimp only at hSw); go_simp; first | done | with_reducible rfl
      try simp only [Act.put, List.setIfInBounds_toArray, List.set_cons_zero, List.set_cons_succ]
      refine wpAnyH_take (i := 9) (oi := ⟨some 73, _, _, _, _, _⟩) (v := ?_) rfl (by kernel_rfl) (by kernel_rfl) (by kernel_rfl) (fun _ _ _ h => h) (Or.inl ⟨by rfl, ?_⟩) (by assumption) ?_
      rotate_left
      · intro w hSw; (try dsimp only at hSw); go_simp; first | done | with_reducible rfl
      try simp only [Act.put, List.setIfInBounds_toArray, List.set_cons_zero, List.set_cons_succ]
      refine wpAnyH_take (i := 10) (oi := ⟨some 74, _, _, _, _, _⟩) (v := ?_) rfl (by kernel_rfl) (by kernel_rfl) (by kernel_rfl) (fun _ _ _ h => h) (Or.inl ⟨by rfl, ?_⟩) (by assumption) ?_
      rotate_left
      · intro w hSw; (try dsimp only at hSw); go_simp; first | done | with_reducible rfl
      try simp only [Act.put, List.setIfInBounds_toArray, List.set_cons_zero, List.set_cons_succ]
      refine wpAnyH_take (i := 12) (oi := ⟨some 76, _, _, _, _, _⟩) (v := ?_) rfl (by kernel_rfl) (by kernel_rfl) (by kernel_rfl) (fun _ _ _ h => h) (Or.inl ⟨by rfl, ?_⟩) (by assumption) ?_
      rotate_left
      · intro w hSw; (try dsimp only at hSw); go_simp; first | done | with_reducible rfl
      try simp only [Act.put, List.setIfInBounds_toArray, List.set_cons_zero, List.set_cons_succ]
      refine wpAnyH_take (i := 13) (oi := ⟨some 77, _, _, _, _, _⟩) (v := ?_) rfl (by kernel_rfl) (by kernel_rfl) (by kernel_rfl) (fun _ _ _ h => h) (Or.inl ⟨by rfl, ?_⟩) (by assumption) ?_
      rotate_left
      · intro w hSw; (try dsimp only at hSw); go_simp; first | done | with_reducible rfl
      try simp only [Act.put, List.setIfInBounds_toArray, List.set_cons_zero, List.set_cons_succ]
      refine wpAnyH_take (i := 14) (oi := ⟨some 78, _, _, _, _, _⟩) (v := ?_) rfl (by kernel_rfl) (by kernel_rfl) (by kernel_rfl) (fun _ _ _ h => h) (Or.inl ⟨by rfl, ?_⟩) (by assumption) ?_
      rotate_left
      · intro w hSw; (try dsimp only at hSw); go_simp; first | done | with_reducible rfl
      try simp only [Act.put, List.setIfInBounds_toArray, List.set_cons_zero, List.set_cons_succ]
      refine wpAnyH_take (i := 15) (oi := ⟨some 79, _, _, _, _, _⟩) (v := ?_) rfl (by kernel_rfl) (by kernel_rfl) (by kernel_rfl) (fun _ _ _ h => h) (Or.inl ⟨by rfl, ?_⟩) (by assumption) ?_
      rotate_left
      · intro w hSw; (try dsimp only at hSw); go_simp; first | done | with_reducible rfl
      try simp only [Act.put, List.setIfInBounds_toArray, List.set_cons_zero, List.set_cons_succ]
      refine wpAnyH_ready (rs := [5, 11]) (by kernel_rfl) (by simp) ?_
      refine AllReadyH.cons rfl (fun K hK => ?_) (AllReadyH.cons rfl (fun K hK => ?_) AllReadyH.nil)
      · go_simp
        refine hK.out _ _ ?_ (fun hQ0 => ?_)
        · (try dsimp only); assumption
        clear hK K hHeld
        try simp only [Act.put, List.setIfInBounds_toArray, List.set_cons_zero, List.set_cons_succ]
        refine wpAnyH_ready (rs := [11]) (by kernel_rfl) (by simp) ?_
        refine AllReadyH.cons rfl (fun K hK => ?_) AllReadyH.nil
        go_simp
        refine hK.out _ _ ?_ (fun hQ00 => ?_)
        · (try dsimp only); assumption
        clear hK K hQ0
        try simp only [Act.put, List.setIfInBounds_toArray, List.set_cons_zero, List.set_cons_succ]
        refine wpAnyH_ready (rs := [16]) (by kernel_rfl) (by simp) ?_
        refine AllReadyH.cons rfl (fun K hK => ?_) AllReadyH.nil
        go_simp
        refine HDV.out.mono ?_
        rintro e w8 ⟨qi, qc, rv, rfl, hq, hrv, ho⟩
        have hcura : w7.heap[ha]? = some (.cells cura 167 (0, 0)) := HHA.out.2.2.1
        have hgne : g ≠ ha := blk_ne H7.out.1 hcura (by decide)
        have hfne : W3.heap.size ≠ ha := blk_ne H7.out.2.2.2.2.2.1 hcura (by decide)
        have hsne : w.heap.size ≠ ha := blk_ne H7.out.2.2.2.1 hcura (by decide)
        have HX8 := Aside0.mk (show w8.heap[gx]? = some (.cells #[.pointer none] 244 (0, 0)) from (ho.block gx (blk_lt HX7.out) (by simpa using blk_ne HX7.out hcura (by decide))).trans HX7.out)
        have hg8 : Rk w8 g va vb := (ho.block g (blk_lt H7.out.1) (by simpa using hgne)).trans H7.out.1
        have hf8 : Ik w8 W3.heap.size (.slice (some ⟨hf, 0, none⟩) 1 cf) := (ho.block _ (blk_lt H7.out.2.2.2.2.2.1) (by simpa using hfne)).trans H7.out.2.2.2.2.2.1
        have hs8 : w8.heap[w.heap.size]? = some (.cells #[.pointer none] 244 (0, 0)) := (ho.block _ (blk_lt H7.out.2.2.2.1) (by simpa using hsne)).trans H7.out.2.2.2.1
        have hb8 : Nt w8 base vb (figs 18446744073709551616 b) := Nt_kept (Nt_below H7.out.2.2.1 (below_drew (Below.refl _ _))) ho (fun k hk e => HAB.out k (by rw [e]; exact HHA.out.1) hk)
        have hv8 : Nt w8 W3.heap.size (.slice (some ⟨hf, 0, none⟩) 1 cf) (figs 18446744073709551616 (Nat.gcd a b)) := Nt_kept (Nt_below H7.out.2.2.2.2.2.2 (below_drew (Below.refl _ _))) ho (fun k hk e => HHA.out.2.2.2 (by simp [Value.ownBlock] at hk; omega))
        have hB8 : Below base w w8 := (below_drew H7.out.2.2.2.2.1).grown ho (by have := H7.out.2.2.2.2.1.size; have := HBS.out.1; simp; omega) (fun k hk => by have e := Option.some.inj hk; rw [← e]; exact HHA.out.2.1)
        have q1 : w8.cell? ⟨g, 1, none⟩ = some va := blk_cell hg8 1
        have qf1 : w8.frozen? ⟨g, 1, none⟩ = false := blk_frozen hg8 _
        have z2 : w8.cell? ⟨W3.heap.size, 1, none⟩ = some (.slice (some ⟨hf, 0, none⟩) 1 cf) := blk_cell hf8 1
        have H8 := Aside0.mk (And.intro hg8 (And.intro hf8 (And.intro hs8 (And.intro hb8 (And.intro hv8 (And.intro hB8 hq))))))
        clear hq hrv ho hcura hgne hfne hsne hg8 hf8 hs8 hb8 hv8 hB8
        go_wp2_with fail
        refine hK.out _ _ ?_ (fun hQ1 => ?_)
        · (try dsimp only); exact z2
        clear hK K hQ00
        try simp only [Act.put, List.setIfInBounds_toArray, List.set_cons_zero, List.set_cons_succ]
        refine wpAnyH_take (i := 17) (oi := ⟨some 63, _, _, _, _, _⟩) (v := ?_) rfl (by kernel_rfl) (by kernel_rfl) (by kernel_rfl) (fun _ _ _ h => h) (Or.inl ⟨by rfl, ?_⟩) (by assumption) ?_
        rotate_left
        · intro w hSw; (try dsimp only at hSw); go_simp; first | done | with_reducible rfl
        try simp only [Act.put, List.setIfInBounds_toArray, List.set_cons_zero, List.set_cons_succ]
        refine wpAnyH_take (i := 18) (oi := ⟨some 81, _, _, _, _, _⟩) (v := ?_) rfl (by kernel_rfl) (by kernel_rfl) (by kernel_rfl) (fun _ _ _ h => h) (Or.inl ⟨by rfl, ?_⟩) (by assumption) ?_
        rotate_left
        · intro w hSw; (try dsimp only at hSw); go_simp; first | done | with_reducible rfl
        try simp only [Act.put, List.setIfInBounds_toArray, List.set_cons_zero, List.set_cons_succ]
        refine wpAnyH_take (i := 19) (oi := ⟨some 82, _, _, _, _, _⟩) (v := ?_) rfl (by kernel_rfl) (by kernel_rfl) (by kernel_rfl) (fun _ _ _ h => h) (Or.inl ⟨by rfl, ?_⟩) (by assumption) ?_
        rotate_left
        · intro w hSw; (try dsimp only at hSw); go_simp; first | done | with_reducible rfl
        try simp only [Act.put, List.setIfInBounds_toArray, List.set_cons_zero, List.set_cons_succ]
        refine wpAnyH_take (i := 20) (oi := ⟨some 83, _, _, _, _, _⟩) (v := ?_) rfl (by kernel_rfl) (by kernel_rfl) (by kernel_rfl) (fun _ _ _ h => h) (Or.inl ⟨by rfl, ?_⟩) (by assumption) ?_
        rotate_left
        · intro w hSw; (try dsimp only at hSw); go_simp; first | done | with_reducible rfl
        try simp only [Act.put, List.setIfInBounds_toArray, List.set_cons_zero, List.set_cons_succ]
        refine wpAnyH_take (i := 21) (oi := ⟨some 84, _, _, _, _, _⟩) (v := ?_) rfl (by kernel_rfl) (by kernel_rfl) (by kernel_rfl) (fun _ _ _ h => h) (Or.inl ⟨by rfl, ?_⟩) (by assumption) ?_
        rotate_left
        · intro w hSw; (try dsimp only at hSw); go_simp; first | done | with_reducible rfl
        try simp only [Act.put, List.setIfInBounds_toArray, List.set_cons_zero, List.set_cons_succ]
        refine wpAnyH_take (i := 22) (oi := ⟨some 85, _, _, _, _, _⟩) (v := ?_) rfl (by kernel_rfl) (by kernel_rfl) (by kernel_rfl) (fun _ _ _ h => h) (Or.inl ⟨by rfl, ?_⟩) (by assumption) ?_
        rotate_left
        · intro w hSw; (try dsimp only at hSw); go_simp; first | done | with_reducible rfl
        try simp only [Act.put, List.setIfInBounds_toArray, List.set_cons_zero, List.set_cons_succ]
        have hf9 : Ik (w8.setCell ⟨g, 1, none⟩ (.slice (some ⟨ha, 0, none⟩) qi qc)) W3.heap.size (.slice (some ⟨hf, 0, none⟩) 1 cf) := blk_far H8.out.2.1 (by have := HG3.out; simp; omega) _
        refine wpAnyH_ready (rs := [23]) (by kernel_rfl) (by simp) ?_
        refine AllReadyH.cons rfl (fun K hK => ?_) AllReadyH.nil
        go_simp
        refine hK.out _ _ ?_ (fun hQ2 => ?_)
        · (try dsimp only); exact blk_cell hf9 1
        clear hK K hQ1
        try simp only [Act.put, List.setIfInBounds_toArray, List.set_cons_zero, List.set_cons_succ]
        refine wpAnyH_done (by kernel_rfl) ?_ _
        refine NoPanic.normal ?_
        go_wp2_with fail
        go_meet
        refine ⟨.slice (some ⟨ha, 0, none⟩) qi qc, blk_put H8.out.1 1 _ rfl, Nt_other (p := ⟨g, 1, none⟩) H8.out.2.2.2.2.2.2 H8.out.1 (by decide) _, Nt_other (p := ⟨g, 1, none⟩) H8.out.2.2.2.1 H8.out.1 (by decide) _, hf9, Nt_other (p := ⟨g, 1, none⟩) (Nt_low H8.out.2.2.2.2.1 ?_) H8.out.1 (by decide) _, blk_far H8.out.2.2.1 (by have h := HBS.out.2.2; simp; omega) _, H8.out.2.2.2.2.2.1.setCell (p := ⟨g, 1, none⟩) HBS.out.2.1 _, ?_, ?_, blk_far HX8.out HX3.out.2 _⟩
        · have h1 := HW3.out.2.2.2.2.1; have h2 := HBS.out.1; omega
        · intro k hk e; simp [Value.ownBlock] at e; subst e; exact HAB.out _ HHA.out.1 hk
        · intro k hk e; simp [Value.ownBlock] at e; subst e; have h1 := blk_lt (Nt_blk HW3.out.2.2.1 hk).choose_spec; have h2 := HVF.out.2.1; omega
      · go_simp
        refine hK.out _ _ ?_ (fun hQ0 => ?_)
        · (try dsimp only); assumption
        clear hK K hHeld
        try simp only [Act.put, List.setIfInBounds_toArray, List.set_cons_zero, List.set_cons_succ]
        refine wpAnyH_ready (rs := [5]) (by kernel_rfl) (by simp) ?_
        refine AllReadyH.cons rfl (fun K hK => ?_) AllReadyH.nil
        go_simp
        refine hK.out _ _ ?_ (fun hQ00 => ?_)
        · (try dsimp only); assumption
        clear hK K hQ0
        try simp only [Act.put, List.setIfInBounds_toArray, List.set_cons_zero, List.set_cons_succ]
        refine wpAnyH_ready (rs := [16]) (by kernel_rfl) (by simp) ?_
        refine AllReadyH.cons rfl (fun K hK => ?_) AllReadyH.nil
        go_simp
        refine HDV.out.mono ?_
        rintro e w8 ⟨qi, qc, rv, rfl, hq, hrv, ho⟩
        have hcura : w7.heap[ha]? = some (.cells cura 167 (0, 0)) := HHA.out.2.2.1
        have hgne : g ≠ ha := blk_ne H7.out.1 hcura (by decide)
        have hfne : W3.heap.size ≠ ha := blk_ne H7.out.2.2.2.2.2.1 hcura (by decide)
        have hsne : w.heap.size ≠ ha := blk_ne H7.out.2.2.2.1 hcura (by decide)
        have HX8 := Aside0.mk (show w8.heap[gx]? = some (.cells #[.pointer none] 244 (0, 0)) from (ho.block gx (blk_lt HX7.out) (by simpa using blk_ne HX7.out hcura (by decide))).trans HX7.out)
        have hg8 : Rk w8 g va vb := (ho.block g (blk_lt H7.out.1) (by simpa using hgne)).trans H7.out.1
        have hf8 : Ik w8 W3.heap.size (.slice (some ⟨hf, 0, none⟩) 1 cf) := (ho.block _ (blk_lt H7.out.2.2.2.2.2.1) (by simpa using hfne)).trans H7.out.2.2.2.2.2.1
        have hs8 : w8.heap[w.heap.size]? = some (.cells #[.pointer none] 244 (0, 0)) := (ho.block _ (blk_lt H7.out.2.2.2.1) (by simpa using hsne)).trans H7.out.2.2.2.1
        have hb8 : Nt w8 base vb (figs 18446744073709551616 b) := Nt_kept (Nt_below H7.out.2.2.1 (below_drew (Below.refl _ _))) ho (fun k hk e => HAB.out k (by rw [e]; exact HHA.out.1) hk)
        have hv8 : Nt w8 W3.heap.size (.slice (some ⟨hf, 0, none⟩) 1 cf) (figs 18446744073709551616 (Nat.gcd a b)) := Nt_kept (Nt_below H7.out.2.2.2.2.2.2 (below_drew (Below.refl _ _))) ho (fun k hk e => HHA.out.2.2.2 (by simp [Value.ownBlock] at hk; omega))
        have hB8 : Below base w w8 := (below_drew H7.out.2.2.2.2.1).grown ho (by have := H7.out.2.2.2.2.1.size; have := HBS.out.1; simp; omega) (fun k hk => by have e := Option.some.inj hk; rw [← e]; exact HHA.out.2.1)
        have q1 : w8.cell? ⟨g, 1, none⟩ = some va := blk_cell hg8 1
        have qf1 : w8.frozen? ⟨g, 1, none⟩ = false := blk_frozen hg8 _
        have z2 : w8.cell? ⟨W3.heap.size, 1, none⟩ = some (.slice (some ⟨hf, 0, none⟩) 1 cf) := blk_cell hf8 1
        have H8 := Aside0.mk (And.intro hg8 (And.intro hf8 (And.intro hs8 (And.intro hb8 (And.intro hv8 (And.intro hB8 hq))))))
        clear hq hrv ho hcura hgne hfne hsne hg8 hf8 hs8 hb8 hv8 hB8
        go_wp2_with fail
        refine hK.out _ _ ?_ (fun hQ1 => ?_)
        · (try dsimp only); exact z2
        clear hK K hQ00
        try simp only [Act.put, List.setIfInBounds_toArray, List.set_cons_zero, List.set_cons_succ]
        refine wpAnyH_take (i := 17) (oi := ⟨some 63, _, _, _, _, _⟩) (v := ?_) rfl (by kernel_rfl) (by kernel_rfl) (by kernel_rfl) (fun _ _ _ h => h) (Or.inl ⟨by rfl, ?_⟩) (by assumption) ?_
        rotate_left
        · intro w hSw; (try dsimp only at hSw); go_simp; first | done | with_reducible rfl
        try simp only [Act.put, List.setIfInBounds_toArray, List.set_cons_zero, List.set_cons_succ]
        refine wpAnyH_take (i := 18) (oi := ⟨some 81, _, _, _, _, _⟩) (v := ?_) rfl (by kernel_rfl) (by kernel_rfl) (by kernel_rfl) (fun _ _ _ h => h) (Or.inl ⟨by rfl, ?_⟩) (by assumption) ?_
        rotate_left
        · intro w hSw; (try dsimp only at hSw); go_simp; first | done | with_reducible rfl
        try simp only [Act.put, List.setIfInBounds_toArray, List.set_cons_zero, List.set_cons_succ]
        refine wpAnyH_take (i := 19) (oi := ⟨some 82, _, _, _, _, _⟩) (v := ?_) rfl (by kernel_rfl) (by kernel_rfl) (by kernel_rfl) (fun _ _ _ h => h) (Or.inl ⟨by rfl, ?_⟩) (by assumption) ?_
        rotate_left
        · intro w hSw; (try dsimp only at hSw); go_simp; first | done | with_reducible rfl
        try simp only [Act.put, List.setIfInBounds_toArray, List.set_cons_zero, List.set_cons_succ]
        refine wpAnyH_take (i := 20) (oi := ⟨some 83, _, _, _, _, _⟩) (v := ?_) rfl (by kernel_rfl) (by kernel_rfl) (by kernel_rfl) (fun _ _ _ h => h) (Or.inl ⟨by rfl, ?_⟩) (by assumption) ?_
        rotate_left
        · intro w hSw; (try dsimp only at hSw); go_simp; first | done | with_reducible rfl
        try simp only [Act.put, List.setIfInBounds_toArray, List.set_cons_zero, List.set_cons_succ]
        refine wpAnyH_take (i := 21) (oi := ⟨some 84, _, _, _, _, _⟩) (v := ?_) rfl (by kernel_rfl) (by kernel_rfl) (by kernel_rfl) (fun _ _ _ h => h) (Or.inl ⟨by rfl, ?_⟩) (by assumption) ?_
        rotate_left
        · intro w hSw; (try dsimp only at hSw); go_simp; first | done | with_reducible rfl
        try simp only [Act.put, List.setIfInBounds_toArray, List.set_cons_zero, List.set_cons_succ]
        refine wpAnyH_take (i := 22) (oi := ⟨some 85, _, _, _, _, _⟩) (v := ?_) rfl (by kernel_rfl) (by kernel_rfl) (by kernel_rfl) (fun _ _ _ h => h) (Or.inl ⟨by rfl, ?_⟩) (by assumption) ?_
        rotate_left
        · intro w hSw; (try dsimp only at hSw); go_simp; first | done | with_reducible rfl
        try simp only [Act.put, List.setIfInBounds_toArray, List.set_cons_zero, List.set_cons_succ]
        have hf9 : Ik (w8.setCell ⟨g, 1, none⟩ (.slice (some ⟨ha, 0, none⟩) qi qc)) W3.heap.size (.slice (some ⟨hf, 0, none⟩) 1 cf) := blk_far H8.out.2.1 (by have := HG3.out; simp; omega) _
        refine wpAnyH_ready (rs := [23]) (by kernel_rfl) (by simp) ?_
        refine AllReadyH.cons rfl (fun K hK => ?_) AllReadyH.nil
        go_simp
        refine hK.out _ _ ?_ (fun hQ2 => ?_)
        · (try dsimp only); exact blk_cell hf9 1
        clear hK K hQ1
        try simp only [Act.put, List.setIfInBounds_toArray, List.set_cons_zero, List.set_cons_succ]
        refine wpAnyH_done (by kernel_rfl) ?_ _
        refine NoPanic.normal ?_
        go_wp2_with fail
        go_meet
        refine ⟨.slice (some ⟨ha, 0, none⟩) qi qc, blk_put H8.out.1 1 _ rfl, Nt_other (p := ⟨g, 1, none⟩) H8.out.2.2.2.2.2.2 H8.out.1 (by decide) _, Nt_other (p := ⟨g, 1, none⟩) H8.out.2.2.2.1 H8.out.1 (by decide) _, hf9, Nt_other (p := ⟨g, 1, none⟩) (Nt_low H8.out.2.2.2.2.1 ?_) H8.out.1 (by decide) _, blk_far H8.out.2.2.1 (by have h := HBS.out.2.2; simp; omega) _, H8.out.2.2.2.2.2.1.setCell (p := ⟨g, 1, none⟩) HBS.out.2.1 _, ?_, ?_, blk_far HX8.out HX3.out.2 _⟩
        · have h1 := HW3.out.2.2.2.2.1; have h2 := HBS.out.1; omega
        · intro k hk e; simp [Value.ownBlock] at e; subst e; exact HAB.out _ HHA.out.1 hk
        · intro k hk e; simp [Value.ownBlock] at e; subst e; have h1 := blk_lt (Nt_blk HW3.out.2.2.1 hk).choose_spec; have h2 := HVF.out.2.1; omega

    case rest =>
    obtain ⟨q, hg9, hq9, hb9, hf9, hv9, hs9, hB9, hbq, hbv, hx9⟩ := hcut
    have HX9 := Aside0.mk hx9
    clear hx9
    obtain ⟨hf', cf', curf', hvf', -, hgf', hcl', -, -, hcf'⟩ := Nt_form hv9 (figs_ne (B := 18446744073709551616) (by decide) HG0.out)
    have hcf0' := hcf' 0 (by rw [len_one HG0.out HG64.out]; decide)
    rw [figs_one (by decide) HG0.out HG64.out] at hcf0'
    rw [len_one HG0.out HG64.out] at hvf' hcl'
    have hfe : hf' = hf ∧ cf' = cf := by
      injection hvf' with e1 e2 e3
      injection e1 with e1
      injection e1 with e1 _ _
      exact ⟨e1.symm, e3.symm⟩
    obtain ⟨rfl, rfl⟩ := hfe
    obtain ⟨hbk, hbo, hbb0, hhb, hdiv2⟩ := div_nt base b (Nat.gcd a b) vb (.pointer (some ⟨w.heap.size, 0, none⟩)) hf' cf' wc.drew HP.out.2.1 (by have h := HL.out; omega) HG1.out HG64.out (by have := hB9.size; have := HBS.out.1; simp; omega) hcf0' hcl' (Nt_below hb9 (below_drew (Below.refl _ _)))
    have k3 : wc.cell? ⟨g, 3, none⟩ = some vb := blk_cell hg9 3
    have z3 : wc.drew.cell? ⟨W3.heap.size, 1, none⟩ = some (.slice (some ⟨hf', 0, none⟩) 1 cf') := blk_cell hf9 1
    have hfb : hf' ≠ hbk := by
      intro e
      have h1 := hbv hbk hbo
      simp [Value.ownBlock] at h1
      exact h1 e
    have H9 := Aside0.mk (And.intro hg9 (And.intro hq9 (And.intro hf9 (And.intro hs9 hB9))))
    have HDV2 := Aside0.mk hdiv2
    have HHB := Aside0.mk (And.intro hbo (And.intro hbb0 (And.intro hhb hfb)))
    have HBQ := Lib.hid hbq
    clear hg9 hq9 hb9 hf9 hv9 hs9 hB9 hbq hbv hvf' hgf' hcl' hcf' hcf0' hbo hbb0 hhb hfb hdiv2 HDV HCF HVF k1 z1 HHA
    go_upto_region 13 with (fail)
    go_cut [51] from 52 to 114 (fun _ W => RnD a b (Nat.gcd a b) g w.heap.size gx base w W)
    case first =>

      refine wp_region_noPanic ?_
      refine wp_region_held_drew (S := (fun w' => w'.cell? ⟨W3.heap.size, 1, none⟩ = some (.slice (some ⟨hf', 0, none⟩) 1 cf'))) (by kernel_rfl) ?_ (fun hHeld => ?_)
      · (try dsimp only); exact z3
      refine wpAnyH_take (i := 0) (oi := ⟨some 87, _, _, _, _, _⟩) (v := ?_) rfl (by kernel_rfl) (by kernel_rfl) (by kernel_rfl) (fun _ _ _ h => h) (Or.inl ⟨by rfl, ?_⟩) (by assumption) ?_
      rotate_left
      · intro w hSw; (try dsimp only at hSw); go_simp; first | done | with_reducible rfl
      try simp only [Act.put, List.setIfInBounds_toArray, List.set_cons_zero, List.set_cons_succ]
      refine wpAnyH_take (i := 1) (oi := ⟨some 88, _, _, _, _, _⟩) (v := ?_) rfl (by kernel_rfl) (by kernel_rfl) (by kernel_rfl) (fun _ _ _ h => h) (Or.inl ⟨by rfl, ?_⟩) (by assumption) ?_
      rotate_left
      · intro w hSw; (try dsimp only at hSw); go_simp; first | done | with_reducible rfl
      try simp only [Act.put, List.setIfInBounds_toArray, List.set_cons_zero, List.set_cons_succ]
      refine wpAnyH_take (i := 2) (oi := ⟨some 89, _, _, _, _, _⟩) (v := ?_) rfl (by kernel_rfl) (by kernel_rfl) (by kernel_rfl) (fun _ _ _ h => h) (Or.inl ⟨by rfl, ?_⟩) (by assumption) ?_
      rotate_left
      · intro w hSw; (try dsimp only at hSw); go_simp; first | done | with_reducible rfl
      try simp only [Act.put, List.setIfInBounds_toArray, List.set_cons_zero, List.set_cons_succ]
      refine wpAnyH_take (i := 3) (oi := ⟨some 90, _, _, _, _, _⟩) (v := ?_) rfl (by kernel_rfl) (by kernel_rfl) (by kernel_rfl) (fun _ _ _ h => h) (Or.inl ⟨by rfl, ?_⟩) (by assumption) ?_
      rotate_left
      · intro w hSw; (try dsimp only at hSw); go_simp; first | done | with_reducible rfl
      try simp only [Act.put, List.setIfInBounds_toArray, List.set_cons_zero, List.set_cons_succ]
      refine wpAnyH_take (i := 4) (oi := ⟨some 91, _, _, _, _, _⟩) (v := ?_) rfl (by kernel_rfl) (by kernel_rfl) (by kernel_rfl) (fun _ _ _ h => h) (Or.inl ⟨by rfl, ?_⟩) (by assumption) ?_
      rotate_left
      · intro w hSw; (try dsimp only at hSw); go_simp; first | done | with_reducible rfl
      try simp only [Act.put, List.setIfInBounds_toArray, List.set_cons_zero, List.set_cons_succ]
      refine wpAnyH_take (i := 6) (oi := ⟨some 93, _, _, _, _, _⟩) (v := ?_) rfl (by kernel_rfl) (by kernel_rfl) (by kernel_rfl) (fun _ _ _ h => h) (Or.inl ⟨by rfl, ?_⟩) (by assumption) ?_
      rotate_left
      · intro w hSw; (try dsimp only at hSw); go_simp; first | done | with_reducible rfl
      try simp only [Act.put, List.setIfInBounds_toArray, List.set_cons_zero, List.set_cons_succ]
      refine wpAnyH_take (i := 7) (oi := ⟨some 94, _, _, _, _, _⟩) (v := ?_) rfl (by kernel_rfl) (by kernel_rfl) (by kernel_rfl) (fun _ _ _ h => h) (Or.inl ⟨by rfl, ?_⟩) (by assumption) ?_
      rotate_left
      · intro w hSw; (try dsimp only at hSw); go_simp; first | done | with_reducible rfl
      try simp only [Act.put, List.setIfInBounds_toArray, List.set_cons_zero, List.set_cons_succ]
      refine wpAnyH_take (i := 8) (oi := ⟨some 95, _, _, _, _, _⟩) (v := ?_) rfl (by kernel_rfl) (by kernel_rfl) (by kernel_rfl) (fun _ _ _ h => h) (Or.inl ⟨by rfl, ?_⟩) (by assumption) ?_
      rotate_left
      · intro w hSw; (try dsimp only at hSw); go_simp; first | done | with_reducible rfl
      try simp only [Act.put, List.setIfInBounds_toArray, List.set_cons_zero, List.set_cons_succ]
      refine wpAnyH_take (i := 9) (oi := ⟨some 96, _, _, _, _, _⟩) (v := ?_) rfl (by kernel_rfl) (by kernel_rfl) (by kernel_rfl) (fun _ _ _ h => h) (Or.inl ⟨by rfl, ?_⟩) (by assumption) ?_
      rotate_left
      · intro w hSw; (try dsimp only at hSw); go_simp; first | done | with_reducible rfl
      try simp only [Act.put, List.setIfInBounds_toArray, List.set_cons_zero, List.set_cons_succ]
      refine wpAnyH_take (i := 10) (oi := ⟨some 97, _, _, _, _, _⟩) (v := ?_) rfl (by kernel_rfl) (by kernel_rfl) (by kernel_rfl) (fun _ _ _ h => h) (Or.inl ⟨by rfl, ?_⟩) (by assumption) ?_
      rotate_left
      · intro w hSw; (try dsimp only at hSw); go_simp; first | done | with_reducible rfl
      try simp only [Act.put, List.setIfInBounds_toArray, List.set_cons_zero, List.set_cons_succ]
      refine wpAnyH_take (i := 12) (oi := ⟨some 99, _, _, _, _, _⟩) (v := ?_) rfl (by kernel_rfl) (by kernel_rfl) (by kernel_rfl) (fun _ _ _ h => h) (Or.inl ⟨by rfl, ?_⟩) (by assumption) ?_
      rotate_left
      · intro w hSw; (try dsimp only at hSw); go_simp; first | done | with_reducible rfl
      try simp only [Act.put, List.setIfInBounds_toArray, List.set_cons_zero, List.set_cons_succ]
      refine wpAnyH_take (i := 13) (oi := ⟨some 100, _, _, _, _, _⟩) (v := ?_) rfl (by kernel_rfl) (by kernel_rfl) (by kernel_rfl) (fun _ _ _ h => h) (Or.inl ⟨by rfl, ?_⟩) (by assumption) ?_
      rotate_left
      · intro w hSw; (try dsimp only at hSw); go_simp; first | done | with_reducible rfl
      try simp only [Act.put, List.setIfInBounds_toArray, List.set_cons_zero, List.set_cons_succ]
      refine wpAnyH_take (i := 14) (oi := ⟨some 101, _, _, _, _, _⟩) (v := ?_) rfl (by kernel_rfl) (by kernel_rfl) (by kernel_rfl) (fun _ _ _ h => h) (Or.inl ⟨by rfl, ?_⟩) (by assumption) ?_
      rotate_left
      · intro w hSw; (try dsimp only at hSw); go_simp; first | done | with_reducible rfl
      try simp only [Act.put, List.setIfInBounds_toArray, List.set_cons_zero, List.set_cons_succ]
      refine wpAnyH_take (i := 15) (oi := ⟨some 102, _, _, _, _, _⟩) (v := ?_) rfl (by kernel_rfl) (by kernel_rfl) (by kernel_rfl) (fun _ _ _ h => h) (Or.inl ⟨by rfl, ?_⟩) (by assumption) ?_
      rotate_left
      · intro w hSw; (try dsimp only at hSw); go_simp; first | done | with_reducible rfl
      try simp only [Act.put, List.setIfInBounds_toArray, List.set_cons_zero, List.set_cons_succ]
      refine wpAnyH_ready (rs := [5, 11]) (by kernel_rfl) (by simp) ?_
      refine AllReadyH.cons rfl (fun K hK => ?_) (AllReadyH.cons rfl (fun K hK => ?_) AllReadyH.nil)
      · go_simp
        refine hK.out _ _ ?_ (fun hQ0 => ?_)
        · (try dsimp only); assumption
        clear hK K hHeld
        try simp only [Act.put, List.setIfInBounds_toArray, List.set_cons_zero, List.set_cons_succ]
        refine wpAnyH_ready (rs := [11]) (by kernel_rfl) (by simp) ?_
        refine AllReadyH.cons rfl (fun K hK => ?_) AllReadyH.nil
        go_simp
        refine hK.out _ _ ?_ (fun hQ00 => ?_)
        · (try dsimp only); assumption
        clear hK K hQ0
        try simp only [Act.put, List.setIfInBounds_toArray, List.set_cons_zero, List.set_cons_succ]
        refine wpAnyH_ready (rs := [16]) (by kernel_rfl) (by simp) ?_
        refine AllReadyH.cons rfl (fun K hK => ?_) AllReadyH.nil
        go_simp
        refine HDV2.out.mono ?_
        rintro e w8 ⟨qi, qc, rv, rfl, hq, hrv, ho⟩
        obtain ⟨curb, hcurb⟩ := HHB.out.2.2.1
        have hcurb : wc.heap[hbk]? = some (.cells curb 167 (0, 0)) := hcurb
        have hgne : g ≠ hbk := blk_ne H9.out.1 hcurb (by decide)
        have hfne : W3.heap.size ≠ hbk := blk_ne H9.out.2.2.1 hcurb (by decide)
        have hsne : w.heap.size ≠ hbk := blk_ne H9.out.2.2.2.1 hcurb (by decide)
        have HX8 := Aside0.mk (show w8.heap[gx]? = some (.cells #[.pointer none] 244 (0, 0)) from (ho.block gx (blk_lt HX9.out) (by simpa using blk_ne HX9.out hcurb (by decide))).trans HX9.out)
        have hg8 : Rk w8 g q vb := (ho.block g (blk_lt H9.out.1) (by simpa using hgne)).trans H9.out.1
        have hf8 : Ik w8 W3.heap.size (.slice (some ⟨hf', 0, none⟩) 1 cf') := (ho.block _ (blk_lt H9.out.2.2.1) (by simpa using hfne)).trans H9.out.2.2.1
        have hs8 : w8.heap[w.heap.size]? = some (.cells #[.pointer none] 244 (0, 0)) := (ho.block _ (blk_lt H9.out.2.2.2.1) (by simpa using hsne)).trans H9.out.2.2.2.1
        have hq8 : Nt w8 base q (figs 18446744073709551616 (a / Nat.gcd a b)) := Nt_kept (Nt_below H9.out.2.1 (below_drew (Below.refl _ _))) ho (fun k hk e => HBQ.out hbk HHB.out.1 (by rw [← e]; exact hk))
        have hB8 : Below base w w8 := (below_drew H9.out.2.2.2.2).grown ho (by have := H9.out.2.2.2.2.size; have := HBS.out.1; simp; omega) (fun k hk => by have e := Option.some.inj hk; rw [← e]; exact HHB.out.2.1)
        have q3 : w8.cell? ⟨g, 3, none⟩ = some vb := blk_cell hg8 3
        have qf3 : w8.frozen? ⟨g, 3, none⟩ = false := blk_frozen hg8 _
        have z4 : w8.cell? ⟨W3.heap.size, 1, none⟩ = some (.slice (some ⟨hf', 0, none⟩) 1 cf') := blk_cell hf8 1
        have H8 := Aside0.mk (And.intro hg8 (And.intro hf8 (And.intro hs8 (And.intro hq8 (And.intro hB8 hq)))))
        clear hq hrv ho hcurb hgne hfne hsne hg8 hf8 hs8 hq8 hB8
        go_wp2_with fail
        refine hK.out _ _ ?_ (fun hQ1 => ?_)
        · (try dsimp only); exact z4
        clear hK K hQ00
        try simp only [Act.put, List.setIfInBounds_toArray, List.set_cons_zero, List.set_cons_succ]
        refine wpAnyH_take (i := 17) (oi := ⟨some 86, _, _, _, _, _⟩) (v := ?_) rfl (by kernel_rfl) (by kernel_rfl) (by kernel_rfl) (fun _ _ _ h => h) (Or.inl ⟨by rfl, ?_⟩) (by assumption) ?_
        rotate_left
        · intro w hSw; (try dsimp only at hSw); go_simp; first | done | with_reducible rfl
        try simp only [Act.put, List.setIfInBounds_toArray, List.set_cons_zero, List.set_cons_succ]
        refine wpAnyH_take (i := 18) (oi := ⟨some 104, _, _, _, _, _⟩) (v := ?_) rfl (by kernel_rfl) (by kernel_rfl) (by kernel_rfl) (fun _ _ _ h => h) (Or.inl ⟨by rfl, ?_⟩) (by assumption) ?_
        rotate_left
        · intro w hSw; (try dsimp only at hSw); go_simp; first | done | with_reducible rfl
        try simp only [Act.put, List.setIfInBounds_toArray, List.set_cons_zero, List.set_cons_succ]
        refine wpAnyH_take (i := 19) (oi := ⟨some 105, _, _, _, _, _⟩) (v := ?_) rfl (by kernel_rfl) (by kernel_rfl) (by kernel_rfl) (fun _ _ _ h => h) (Or.inl ⟨by rfl, ?_⟩) (by assumption) ?_
        rotate_left
        · intro w hSw; (try dsimp only at hSw); go_simp; first | done | with_reducible rfl
        try simp only [Act.put, List.setIfInBounds_toArray, List.set_cons_zero, List.set_cons_succ]
        refine wpAnyH_take (i := 20) (oi := ⟨some 106, _, _, _, _, _⟩) (v := ?_) rfl (by kernel_rfl) (by kernel_rfl) (by kernel_rfl) (fun _ _ _ h => h) (Or.inl ⟨by rfl, ?_⟩) (by assumption) ?_
        rotate_left
        · intro w hSw; (try dsimp only at hSw); go_simp; first | done | with_reducible rfl
        try simp only [Act.put, List.setIfInBounds_toArray, List.set_cons_zero, List.set_cons_succ]
        refine wpAnyH_take (i := 21) (oi := ⟨some 107, _, _, _, _, _⟩) (v := ?_) rfl (by kernel_rfl) (by kernel_rfl) (by kernel_rfl) (fun _ _ _ h => h) (Or.inl ⟨by rfl, ?_⟩) (by assumption) ?_
        rotate_left
        · intro w hSw; (try dsimp only at hSw); go_simp; first | done | with_reducible rfl
        try simp only [Act.put, List.setIfInBounds_toArray, List.set_cons_zero, List.set_cons_succ]
        refine wpAnyH_take (i := 22) (oi := ⟨some 108, _, _, _, _, _⟩) (v := ?_) rfl (by kernel_rfl) (by kernel_rfl) (by kernel_rfl) (fun _ _ _ h => h) (Or.inl ⟨by rfl, ?_⟩) (by assumption) ?_
        rotate_left
        · intro w hSw; (try dsimp only at hSw); go_simp; first | done | with_reducible rfl
        try simp only [Act.put, List.setIfInBounds_toArray, List.set_cons_zero, List.set_cons_succ]
        have hf10 : Ik (w8.setCell ⟨g, 3, none⟩ (.slice (some ⟨hbk, 0, none⟩) qi qc)) W3.heap.size (.slice (some ⟨hf', 0, none⟩) 1 cf') := blk_far H8.out.2.1 (by have := HG3.out; simp; omega) _
        refine wpAnyH_ready (rs := [23]) (by kernel_rfl) (by simp) ?_
        refine AllReadyH.cons rfl (fun K hK => ?_) AllReadyH.nil
        go_simp
        refine hK.out _ _ ?_ (fun hQ2 => ?_)
        · (try dsimp only); exact blk_cell hf10 1
        clear hK K hQ1
        try simp only [Act.put, List.setIfInBounds_toArray, List.set_cons_zero, List.set_cons_succ]
        refine wpAnyH_done (by kernel_rfl) ?_ _
        refine NoPanic.normal ?_
        go_wp2_with fail
        go_meet
        refine ⟨q, .slice (some ⟨hbk, 0, none⟩) qi qc, blk_put H8.out.1 3 _ rfl, Nt_other (p := ⟨g, 3, none⟩) H8.out.2.2.2.1 H8.out.1 (by decide) _, Nt_other (p := ⟨g, 3, none⟩) H8.out.2.2.2.2.2 H8.out.1 (by decide) _, blk_far H8.out.2.2.1 (by have h := HBS.out.2.2; simp; omega) _, H8.out.2.2.2.2.1.setCell (p := ⟨g, 3, none⟩) HBS.out.2.1 _, blk_far HX8.out HX3.out.2 _⟩
      · go_simp
        refine hK.out _ _ ?_ (fun hQ0 => ?_)
        · (try dsimp only); assumption
        clear hK K hHeld
        try simp only [Act.put, List.setIfInBounds_toArray, List.set_cons_zero, List.set_cons_succ]
        refine wpAnyH_ready (rs := [5]) (by kernel_rfl) (by simp) ?_
        refine AllReadyH.cons rfl (fun K hK => ?_) AllReadyH.nil
        go_simp
        refine hK.out _ _ ?_ (fun hQ00 => ?_)
        · (try dsimp only); assumption
        clear hK K hQ0
        try simp only [Act.put, List.setIfInBounds_toArray, List.set_cons_zero, List.set_cons_succ]
        refine wpAnyH_ready (rs := [16]) (by kernel_rfl) (by simp) ?_
        refine AllReadyH.cons rfl (fun K hK => ?_) AllReadyH.nil
        go_simp
        refine HDV2.out.mono ?_
        rintro e w8 ⟨qi, qc, rv, rfl, hq, hrv, ho⟩
        obtain ⟨curb, hcurb⟩ := HHB.out.2.2.1
        have hcurb : wc.heap[hbk]? = some (.cells curb 167 (0, 0)) := hcurb
        have hgne : g ≠ hbk := blk_ne H9.out.1 hcurb (by decide)
        have hfne : W3.heap.size ≠ hbk := blk_ne H9.out.2.2.1 hcurb (by decide)
        have hsne : w.heap.size ≠ hbk := blk_ne H9.out.2.2.2.1 hcurb (by decide)
        have HX8 := Aside0.mk (show w8.heap[gx]? = some (.cells #[.pointer none] 244 (0, 0)) from (ho.block gx (blk_lt HX9.out) (by simpa using blk_ne HX9.out hcurb (by decide))).trans HX9.out)
        have hg8 : Rk w8 g q vb := (ho.block g (blk_lt H9.out.1) (by simpa using hgne)).trans H9.out.1
        have hf8 : Ik w8 W3.heap.size (.slice (some ⟨hf', 0, none⟩) 1 cf') := (ho.block _ (blk_lt H9.out.2.2.1) (by simpa using hfne)).trans H9.out.2.2.1
        have hs8 : w8.heap[w.heap.size]? = some (.cells #[.pointer none] 244 (0, 0)) := (ho.block _ (blk_lt H9.out.2.2.2.1) (by simpa using hsne)).trans H9.out.2.2.2.1
        have hq8 : Nt w8 base q (figs 18446744073709551616 (a / Nat.gcd a b)) := Nt_kept (Nt_below H9.out.2.1 (below_drew (Below.refl _ _))) ho (fun k hk e => HBQ.out hbk HHB.out.1 (by rw [← e]; exact hk))
        have hB8 : Below base w w8 := (below_drew H9.out.2.2.2.2).grown ho (by have := H9.out.2.2.2.2.size; have := HBS.out.1; simp; omega) (fun k hk => by have e := Option.some.inj hk; rw [← e]; exact HHB.out.2.1)
        have q3 : w8.cell? ⟨g, 3, none⟩ = some vb := blk_cell hg8 3
        have qf3 : w8.frozen? ⟨g, 3, none⟩ = false := blk_frozen hg8 _
        have z4 : w8.cell? ⟨W3.heap.size, 1, none⟩ = some (.slice (some ⟨hf', 0, none⟩) 1 cf') := blk_cell hf8 1
        have H8 := Aside0.mk (And.intro hg8 (And.intro hf8 (And.intro hs8 (And.intro hq8 (And.intro hB8 hq)))))
        clear hq hrv ho hcurb hgne hfne hsne hg8 hf8 hs8 hq8 hB8
        go_wp2_with fail
        refine hK.out _ _ ?_ (fun hQ1 => ?_)
        · (try dsimp only); exact z4
        clear hK K hQ00
        try simp only [Act.put, List.setIfInBounds_toArray, List.set_cons_zero, List.set_cons_succ]
        refine wpAnyH_take (i := 17) (oi := ⟨some 86, _, _, _, _, _⟩) (v := ?_) rfl (by kernel_rfl) (by kernel_rfl) (by kernel_rfl) (fun _ _ _ h => h) (Or.inl ⟨by rfl, ?_⟩) (by assumption) ?_
        rotate_left
        · intro w hSw; (try dsimp only at hSw); go_simp; first | done | with_reducible rfl
        try simp only [Act.put, List.setIfInBounds_toArray, List.set_cons_zero, List.set_cons_succ]
        refine wpAnyH_take (i := 18) (oi := ⟨some 104, _, _, _, _, _⟩) (v := ?_) rfl (by kernel_rfl) (by kernel_rfl) (by kernel_rfl) (fun _ _ _ h => h) (Or.inl ⟨by rfl, ?_⟩) (by assumption) ?_
        rotate_left
        · intro w hSw; (try dsimp only at hSw); go_simp; first | done | with_reducible rfl
        try simp only [Act.put, List.setIfInBounds_toArray, List.set_cons_zero, List.set_cons_succ]
        refine wpAnyH_take (i := 19) (oi := ⟨some 105, _, _, _, _, _⟩) (v := ?_) rfl (by kernel_rfl) (by kernel_rfl) (by kernel_rfl) (fun _ _ _ h => h) (Or.inl ⟨by rfl, ?_⟩) (by assumption) ?_
        rotate_left
        · intro w hSw; (try dsimp only at hSw); go_simp; first | done | with_reducible rfl
        try simp only [Act.put, List.setIfInBounds_toArray, List.set_cons_zero, List.set_cons_succ]
        refine wpAnyH_take (i := 20) (oi := ⟨some 106, _, _, _, _, _⟩) (v := ?_) rfl (by kernel_rfl) (by kernel_rfl) (by kernel_rfl) (fun _ _ _ h => h) (Or.inl ⟨by rfl, ?_⟩) (by assumption) ?_
        rotate_left
        · intro w hSw; (try dsimp only at hSw); go_simp; first | done | with_reducible rfl
        try simp only [Act.put, List.setIfInBounds_toArray, List.set_cons_zero, List.set_cons_succ]
        refine wpAnyH_take (i := 21) (oi := ⟨some 107, _, _, _, _, _⟩) (v := ?_) rfl (by kernel_rfl) (by kernel_rfl) (by kernel_rfl) (fun _ _ _ h => h) (Or.inl ⟨by rfl, ?_⟩) (by assumption) ?_
        rotate_left
        · intro w hSw; (try dsimp only at hSw); go_simp; first | done | with_reducible rfl
        try simp only [Act.put, List.setIfInBounds_toArray, List.set_cons_zero, List.set_cons_succ]
        refine wpAnyH_take (i := 22) (oi := ⟨some 108, _, _, _, _, _⟩) (v := ?_) rfl (by kernel_rfl) (by kernel_rfl) (by kernel_rfl) (fun _ _ _ h => h) (Or.inl ⟨by rfl, ?_⟩) (by assumption) ?_
        rotate_left
        · intro w hSw; (try dsimp only at hSw); go_simp; first | done | with_reducible rfl
        try simp only [Act.put, List.setIfInBounds_toArray, List.set_cons_zero, List.set_cons_succ]
        have hf10 : Ik (w8.setCell ⟨g, 3, none⟩ (.slice (some ⟨hbk, 0, none⟩) qi qc)) W3.heap.size (.slice (some ⟨hf', 0, none⟩) 1 cf') := blk_far H8.out.2.1 (by have := HG3.out; simp; omega) _
        refine wpAnyH_ready (rs := [23]) (by kernel_rfl) (by simp) ?_
        refine AllReadyH.cons rfl (fun K hK => ?_) AllReadyH.nil
        go_simp
        refine hK.out _ _ ?_ (fun hQ2 => ?_)
        · (try dsimp only); exact blk_cell hf10 1
        clear hK K hQ1
        try simp only [Act.put, List.setIfInBounds_toArray, List.set_cons_zero, List.set_cons_succ]
        refine wpAnyH_done (by kernel_rfl) ?_ _
        refine NoPanic.normal ?_
        go_wp2_with fail
        go_meet
        refine ⟨q, .slice (some ⟨hbk, 0, none⟩) qi qc, blk_put H8.out.1 3 _ rfl, Nt_other (p := ⟨g, 3, none⟩) H8.out.2.2.2.1 H8.out.1 (by decide) _, Nt_other (p := ⟨g, 3, none⟩) H8.out.2.2.2.2.2 H8.out.1 (by decide) _, blk_far H8.out.2.2.1 (by have h := HBS.out.2.2; simp; omega) _, H8.out.2.2.2.2.1.setCell (p := ⟨g, 3, none⟩) HBS.out.2.1 _, blk_far HX8.out HX3.out.2 _⟩

    case rest =>
    obtain ⟨q', r', hgA, hqA, hrA, hsA, hBA, hxA⟩ := hcut
    have HXA := Aside0.mk hxA
    clear hxA
    have z0 : wc.cell? ⟨g, 0, none⟩ = some (.bool false) := blk_cell hgA 0
    have zf0 : wc.frozen? ⟨g, 0, none⟩ = false := blk_frozen hgA _
    have HA := Aside0.mk (And.intro hgA (And.intro hqA (And.intro hrA (And.intro hsA hBA))))
    clear hgA hqA hrA hsA hBA k3 z3 HDV2 H9 HHB HBQ
    go_wp2_with fail
    refine leaves_cons (f := 114) (args := #[.pointer (some ⟨w.heap.size, 0, none⟩)]) (by simp) (by simp [go_sem]) ?_
    refine (free_d w.heap.size _ _ (blk_far HA.out.2.2.2.1 (by have h := HBS.out.2.2; simp; omega) _)).mono ?_
    rintro e u' w'' ⟨rfl, rfl, rfl⟩
    exact ⟨_, results_tmp rfl _ _ _, q', r', rfl, blk_put HA.out.1 0 (.bool false) rfl, Nt_other (p := ⟨g, 0, none⟩) HA.out.2.1 HA.out.1 (by decide) _, Nt_other (p := ⟨g, 0, none⟩) HA.out.2.2.1 HA.out.1 (by decide) _, HA.out.2.2.2.2.setCell (p := ⟨g, 0, none⟩) HBS.out.2.1 _, blk_far HXA.out HX3.out.2 _⟩
end Go.Proofs.YtgpoplfgngiilaaGreatDoor
