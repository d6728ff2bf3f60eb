/- euclidUpdate without the cofactors. lehmerGCD of two numbers of which one is a single word. NewInt(0), intOne, Int.Cmp, getStack and free. div by one word in place: only its own room turns. -/
import Derived.Test.YtgpoplfgngiilaaGreatDoorZ10
import Derived.Test.YtgpoplfgngiilaaGreatDoorZ11
set_option linter.unusedVariables false
set_option linter.unusedSimpArgs false
namespace Go.Proofs.YtgpoplfgngiilaaGreatDoor
open Go.RowKit Go.Proofs.YtgpoplfgngiilaaGreatDoorW.PrintWords PAll Pl Dv

/-- What euclidUpdate leaves. -/
def EuOk (Z y ga gb gq gr base : Nat) (w : World) (e : Ending) (w' : World) : Prop :=
  ∃ q r, e = .returned (.tuple #[.pointer (some ⟨gb, 0, none⟩), .pointer (some ⟨gr, 0, none⟩), .pointer (some ⟨ga, 0, none⟩), .pointer none, .pointer none]) ∧ Ik w' gq q ∧ Ik w' gr r ∧
    Nt w' w.heap.size q (figs 18446744073709551616 (Z / y)) ∧ Nt w' w.heap.size r (figs 18446744073709551616 (Z % y)) ∧ Below base w w'

theorem euclid_of (Z y ga gb gq gr base : Nat) (w : World) (hQ : Calls Tryz.prog 235 #[.pointer (some ⟨gq, 0, none⟩), .pointer (some ⟨ga, 0, none⟩), .pointer (some ⟨gb, 0, none⟩), .pointer (some ⟨gr, 0, none⟩)] w (QrOk Z y gq gr base w)) :
    Calls Tryz.prog 186 #[.pointer (some ⟨ga, 0, none⟩), .pointer (some ⟨gb, 0, none⟩), .pointer none, .pointer none, .pointer (some ⟨gq, 0, none⟩), .pointer (some ⟨gr, 0, none⟩), .bool false] w (EuOk Z y ga gb gq gr base w) := by
  have HQ := Aside0.mk hQ
  clear hQ
  go_enter Tryz.func186, Tryz.ntmps186
  go_wp2_with fail
  refine HQ.out.mono ?_
  rintro e w' ⟨q, r, rfl, hW⟩
  have HW := Aside0.mk hW
  clear hW
  go_wp2_with fail
  refine bodyPost_ret (results_tmp5 rfl _ _ _) rfl ?_
  exact ⟨q, r, rfl, HW.out⟩

/-- The step by one word, with what stands in its rooms. -/
theorem eu_of (Z y ga gb base : Nat) (u : Value) (A2 : Option Addr) (c2 : Nat) (w2 w : World) (hy0 : 0 < y) (hy : y < 18446744073709551616) (hZ : 18446744073709551616 ≤ Z) (hyz : y ≤ Z) (hl : (figs 18446744073709551616 Z).length ≤ 100000) (h1 : 1 < (figs 18446744073709551616 Z).length)
    (hn1 : Nt w2 base u (figs 18446744073709551616 Z)) (hn2 : Nt w2 base (.slice A2 1 c2) (figs 18446744073709551616 y)) (hi1 : Ik w2 ga u) (hi2 : Ik w2 gb (.slice A2 1 c2)) (hb : Below w2.heap.size w2 w) (hq : Ik w w2.heap.size (.slice none 0 0)) (hr : Ik w (w2.heap.size + 1) (.slice none 0 0)) :
    Calls Tryz.prog 186 #[.pointer (some ⟨ga, 0, none⟩), .pointer (some ⟨gb, 0, none⟩), .pointer none, .pointer none, .pointer (some ⟨w2.heap.size, 0, none⟩), .pointer (some ⟨w2.heap.size + 1, 0, none⟩), .bool false] w (EuOk Z y ga gb w2.heap.size (w2.heap.size + 1) w2.heap.size w) := by
  have h1a := blk_lt hi1
  have h2a := blk_lt hi2
  have hn1' := Nt_below hn1 hb
  have hn2' := Nt_below hn2 hb
  obtain ⟨g1, c1, cur1, rfl, -, hg1, hc1, hcm1, hs1, hcc1⟩ := Nt_form hn1' (figs_ne (B := 18446744073709551616) (by decide) (by omega))
  obtain ⟨gv, cv, cur2, hv2, -, hg2, hcl, hcm2, hs2, hcc2⟩ := Nt_form hn2' (figs_ne (B := 18446744073709551616) (by decide) hy0)
  have hfy := figs_one (B := 18446744073709551616) (by decide) hy0 hy
  rw [hfy] at hv2 hcl hcc2
  obtain ⟨A, c, e1, hC⟩ : ∃ A c, Value.slice (some ⟨g1, 0, none⟩) (figs 18446744073709551616 Z).length c1 = .slice A (figs 18446744073709551616 Z).length c ∧ A = some ⟨g1, 0, none⟩ := ⟨_, _, rfl, rfl⟩
  have hyc : w.cell? ⟨gv, 0, none⟩ = some (.int .u64 y) := hcc2 0 (by simp)
  have hv2' : A2 = some ⟨gv, 0, none⟩ ∧ c2 = cv := by injection hv2 with q1 q2 q3; exact ⟨q1, q3⟩
  obtain ⟨rfl, rfl⟩ := hv2'
  refine euclid_of Z y ga gb w2.heap.size (w2.heap.size + 1) w2.heap.size w (quoRem_any Z y ga gb w2.heap.size (w2.heap.size + 1) w2.heap.size _ gv c2 w (hi1.below hb h1a) (hi2.below hb h2a) hq hr (Nat.div_pos hyz hy0) ⟨by omega, by omega, by omega, by omega, by omega⟩ ⟨Nat.le_refl _, by omega⟩ ?_)
  intro W hBW hWs
  refine div_of w.heap.size Z y _ _ _ gv c2 W hy0 hy (by omega) (pw_cell_below hBW hyc) (by simpa using hcl) ?_
  rcases Nat.lt_or_ge 1 y with hy1 | hy1
  · exact divW_new w.heap.size Z y g1 c1 W hy1 hy (by omega) _ rfl h1 hl hc1 (fun i hi => pw_cell_below hBW (hcc1 i hi))
  · obtain rfl : y = 1 := by omega
    exact divW_one w.heap.size Z _ _ c1 W (C_mk (ad := ⟨g1, 0, none⟩) (by omega) (fun i hi => by
      have e := pw_cell_below hBW (hcc1 i hi)
      rcases Nat.eq_zero_or_pos i with rfl | h1
      · exact e
      · simp only [Addr.add, Nat.pos_iff_ne_zero.1 h1, if_false, Nat.zero_add]; exact e)) hl (by omega)
end Go.Proofs.YtgpoplfgngiilaaGreatDoor

namespace Go.Proofs.YtgpoplfgngiilaaGreatDoor
open Go.RowKit Go.Proofs.YtgpoplfgngiilaaGreatDoorW.PrintWords PAll Pl Dv

theorem Nt_C {w : World} {base : Nat} {v : Value} {xs : List Int} (h : Nt w base v xs) : ∃ A c, v = .slice A xs.length c ∧ Kd.C (Kd.int .u64) w A xs.length xs := by
  rcases List.eq_nil_or_concat xs with h0 | ⟨ys, y, h0⟩
  · subst h0
    obtain ⟨A, c, rfl⟩ := Nt_slice h
    exact ⟨A, c, rfl, C_nil _ _ _⟩
  · obtain ⟨g, cap, cur, rfl, -, hg, hn, hcm, -, hc⟩ := Nt_form h (by rw [h0]; simp)
    exact ⟨_, cap, rfl, C_mk (ad := ⟨g, 0, none⟩) (by omega) (fun i hi => by
      have e := hc i hi
      rcases Nat.eq_zero_or_pos i with rfl | h1
      · exact e
      · simp only [Addr.add, Nat.pos_iff_ne_zero.1 h1, if_false, Nat.zero_add]; exact e)⟩

theorem len_one {X : Nat} (h0 : 0 < X) (h : X < 18446744073709551616) : (figs 18446744073709551616 X).length = 1 := by rw [figs_one (by decide) h0 h]; rfl

/-- cmp of two numbers of which one is a single word. -/
theorem cmp_min (X Y b1 b2 : Nat) (v1 v2 : Value) (w : World) (hX : 0 < X) (hY : 0 < Y) (hm : X < 18446744073709551616 ∨ Y < 18446744073709551616) (h1 : Nt w b1 v1 (figs 18446744073709551616 X)) (h2 : Nt w b2 v2 (figs 18446744073709551616 Y)) :
    Calls Tryz.prog 183 #[v1, v2] w fun e w' => e = .returned (.int .i64 (cmpInt X Y)) ∧ Below w.heap.size w w' := by
  obtain ⟨g1, c1, cur1, rfl, -, hg1, hn1, -, -, hc1⟩ := Nt_form h1 (figs_ne (B := 18446744073709551616) (by decide) hX)
  obtain ⟨g2, c2, cur2, rfl, -, hg2, hn2, -, -, hc2⟩ := Nt_form h2 (figs_ne (B := 18446744073709551616) (by decide) hY)
  by_cases hl : (figs 18446744073709551616 X).length = (figs 18446744073709551616 Y).length
  · have hlen1 : (figs 18446744073709551616 X).length = 1 := by
      rcases hm with h | h
      · exact len_one hX h
      · rw [hl]; exact len_one hY h
    have hlen2 : (figs 18446744073709551616 Y).length = 1 := by omega
    have hX1 : X < 18446744073709551616 := by
      have := (val_range (B := (18446744073709551616 : Nat)) (by decide) (figs_Dg (by decide) X)).2
      rw [figs_val (by decide), hlen1] at this; omega
    have hY1 : Y < 18446744073709551616 := by
      have := (val_range (B := (18446744073709551616 : Nat)) (by decide) (figs_Dg (by decide) Y)).2
      rw [figs_val (by decide), hlen2] at this; omega
    have e1 := hc1 0 (by omega)
    have e2 := hc2 0 (by omega)
    rw [figs_one (by decide) hX hX1] at e1
    rw [figs_one (by decide) hY hY1] at e2
    rw [hlen1, hlen2]
    exact cmp_one X Y _ _ c1 c2 w e1 e2 (by omega) (by omega)
  · exact cmp_len X Y _ _ c1 _ _ c2 w rfl rfl hl

/-- The two Ints as they stood ahead of q's and r's rooms. -/
def LhC (X Y : Nat) (w W0 : World) (p q : Value) (W : World) : Prop :=
  ∃ g1 g2 v1 v2, p = .pointer (some ⟨g1, 0, none⟩) ∧ q = .pointer (some ⟨g2, 0, none⟩) ∧ w.heap.size ≤ g1 ∧ w.heap.size ≤ g2 ∧ g1 ≠ g2 ∧ Ik W0 g1 v1 ∧ Ik W0 g2 v2 ∧ Nt W0 w.heap.size v1 (figs 18446744073709551616 X) ∧
    Nt W0 w.heap.size v2 (figs 18446744073709551616 Y) ∧ Below W0.heap.size W0 W ∧ Below w.heap.size w W ∧ Ik W W0.heap.size (.slice none 0 0) ∧ Ik W (W0.heap.size + 1) (.slice none 0 0)

/-- Behind the one step that may be needed. -/
def LhD (G : Nat) (w : World) (p q : Value) (W : World) : Prop :=
  ∃ g1 g2 v1 v2 X Y, p = .pointer (some ⟨g1, 0, none⟩) ∧ q = .pointer (some ⟨g2, 0, none⟩) ∧ w.heap.size ≤ g1 ∧ Ik W g1 v1 ∧ Ik W g2 v2 ∧ Nt W w.heap.size v1 (figs 18446744073709551616 X) ∧
    Nt W w.heap.size v2 (figs 18446744073709551616 Y) ∧ Below w.heap.size w W ∧ 0 < X ∧ X < 18446744073709551616 ∧ Y < 18446744073709551616 ∧ Nat.gcd X Y = G

/-- At the end of the words' loop. -/
def LhE (G : Nat) (w : World) (p : Value) (W : World) : Prop :=
  ∃ g1 v1, p = .pointer (some ⟨g1, 0, none⟩) ∧ w.heap.size ≤ g1 ∧ Ik W g1 v1 ∧ Nt W w.heap.size v1 (figs 18446744073709551616 G) ∧ Below w.heap.size w W

/-- The words' loop. -/
def LhL (G X : Nat) (W1 : World) (p q : Value) (W : World) : Prop :=
  ∃ x y : Nat, p = .int .u64 x ∧ q = .int .u64 y ∧ Nat.gcd x y = G ∧ x < 18446744073709551616 ∧ y < 18446744073709551616 ∧ Below W1.heap.size W1 W

set_option maxHeartbeats 4000000 in
set_option maxRecDepth 100000 in
theorem lehmer_any (a b gz ga oa ob base ba bb : Nat) (va vb : Value) (cx : Array Value) (tx : TypeId) (w : World) (ha0 : 0 < a) (hb0 : 0 < b) (hm : a < 18446744073709551616 ∨ b < 18446744073709551616) (hz : Ik w gz (.slice none 0 0)) (hne : ga ≠ gz)
    (hx : w.heap[ga]? = some (.cells cx tx (0, 0))) (a0 : cx[oa]? = some (.bool false)) (a1 : cx[oa + 1]? = some va) (b0 : cx[ob]? = some (.bool false)) (b1 : cx[ob + 1]? = some vb)
    (hA : Nt w ba va (figs 18446744073709551616 a)) (hB : Nt w bb vb (figs 18446744073709551616 b)) (hna : (figs 18446744073709551616 a).length ≤ 100000) (hnb : (figs 18446744073709551616 b).length ≤ 100000) (hbase : base ≤ w.heap.size) (hbz : base ≤ gz) :
    Calls Tryz.prog 136 #[.pointer (some ⟨gz, 0, none⟩), .pointer none, .pointer none, .pointer (some ⟨ga, oa, none⟩), .pointer (some ⟨ga, ob, none⟩)] w fun e w' =>
      ∃ v, e = .returned (.pointer (some ⟨gz, 0, none⟩)) ∧ Ik w' gz v ∧ Nt w' base v (figs 18446744073709551616 (Nat.gcd a b)) ∧ Below base w w' := by
  obtain ⟨AA, ca, rfl, hAC⟩ := Nt_C (Nt_below hA (below_alloc (Below.refl w.heap.size w) (.cells #[.bool false, .slice none 0 0] 116)))
  have HSA := Aside0.mk (int_abs a w.heap.size ga oa AA _ ca cx tx (w.alloc (.cells #[.bool false, .slice none 0 0] 116)) (heap_alloc_new w _) (Nat.ne_of_lt (blk_lt hx)) (blk_below hx (below_alloc (Below.refl _ _) _)) a0 a1 hAC hna)
  have HXX := Aside0.mk (And.intro hx (And.intro a0 (And.intro b0 b1)))
  have HVB := Aside0.mk (And.intro hB hnb)
  have HZ := Aside0.mk hz
  have HNE := Aside0.mk hne
  have HP := Aside0.mk (And.intro ha0 (And.intro hb0 hm))
  have HLEN := Aside0.mk (show (figs 18446744073709551616 (max a b)).length ≤ 100000 by rcases Nat.le_total a b with h | h; (rw [Nat.max_eq_right h]; exact hnb); (rw [Nat.max_eq_left h]; exact hna))
  have HBS := Aside0.mk (And.intro hbase hbz)
  clear hx a0 a1 b0 b1 hA hB hna hnb hz hne ha0 hb0 hm hbase hbz hAC
  go_enter Tryz.func136, Tryz.ntmps136
  go_wp2_with fail
  refine HSA.out.mono ?_
  rintro e w1 ⟨v1, rfl, hk1, hn1, ho1⟩
  have hB1 : Below w.heap.size w w1 := (below_alloc (Below.refl _ _) _).grown ho1 (by simp) (fun k hk => by cases hk; exact Nat.le_refl _)
  obtain ⟨BB, cb, hvb, hBC⟩ := Nt_C (Nt_below HVB.out.1 (below_alloc hB1 (.cells #[.bool false, .slice none 0 0] 116)))
  have hsz1 : w.heap.size < w1.heap.size := blk_lt hk1
  have HSB := Aside0.mk (int_abs b w1.heap.size ga ob BB _ cb cx tx (w1.alloc (.cells #[.bool false, .slice none 0 0] 116)) (heap_alloc_new w1 _) (Nat.ne_of_lt (Nat.lt_trans (blk_lt HXX.out.1) hsz1)) (blk_below HXX.out.1 (below_alloc hB1 _)) HXX.out.2.2.1 (by rw [HXX.out.2.2.2, hvb]) hBC HVB.out.2)
  have HW1 := Aside0.mk (And.intro hk1 (And.intro hn1 (And.intro hB1 hsz1)))
  have HVBE := Aside0.mk hvb
  clear hk1 hn1 ho1 hB1 hsz1 hvb hBC
  go_wp2_with fail
  refine HSB.out.mono ?_
  rintro e w2 ⟨v2, rfl, hk2, hn2, ho2⟩
  have hB2 : Below w1.heap.size w1 w2 := (below_alloc (Below.refl _ _) _).grown ho2 (by simp) (fun k hk => by cases hk; exact Nat.le_refl _)
  have hI1 := Ik.below HW1.out.1 hB2 HW1.out.2.2.2
  have hN1 : Nt w2 w.heap.size v1 (figs 18446744073709551616 a) := Nt_low (Nt_below HW1.out.2.1 hB2) (by simp)
  have hN2 : Nt w2 w.heap.size v2 (figs 18446744073709551616 b) := Nt_low hn2 (by have := HW1.out.2.2.2; simp; omega)
  have hB02 : Below w.heap.size w w2 := HW1.out.2.2.1.trans (hB2.mono (Nat.le_of_lt HW1.out.2.2.2))
  have hs2 : w1.heap.size < w2.heap.size := blk_lt hk2
  have hq1 : Below w2.heap.size w2 (w2.alloc (.cells #[.bool false, .slice none 0 0] 116)) := below_alloc (Below.refl _ _) _
  have hq2 : Below w2.heap.size w2 ((w2.alloc (.cells #[.bool false, .slice none 0 0] 116)).alloc (.cells #[.bool false, .slice none 0 0] 116)) := hq1.alloc (by simp) _
  obtain ⟨Wq, hWq⟩ : ∃ W, W = (w2.alloc (.cells #[.bool false, .slice none 0 0] 116)).alloc (.cells #[.bool false, .slice none 0 0] 116) := ⟨_, rfl⟩
  have hIq : Ik Wq w2.heap.size (.slice none 0 0) := by rw [hWq]; exact blk_below (heap_alloc_new w2 _) (below_alloc (Below.refl _ _) _)
  have hIr : Ik Wq (w2.heap.size + 1) (.slice none 0 0) := by
    have h := heap_alloc_new (w2.alloc (.cells #[.bool false, .slice none 0 0] 116)) (.cells #[.bool false, .slice none 0 0] 116)
    rw [show (w2.alloc (.cells #[.bool false, .slice none 0 0] 116)).heap.size = w2.heap.size + 1 by simp] at h
    rw [hWq]; exact h
  have hsq : Wq.heap.size = w2.heap.size + 2 := by rw [hWq]; simp
  rw [← hWq] at hq2
  have HCM := Aside0.mk (cmp_min a b _ _ v1 v2 Wq.drew HP.out.1 HP.out.2.1 HP.out.2.2 (Nt_below hN1 (below_drew hq2)) (Nt_below hN2 (below_drew hq2)))
  obtain ⟨A1, c1, hv1⟩ := Nt_slice hN1
  obtain ⟨A2, c2, hv2⟩ := Nt_slice hN2
  have x1 : Wq.cell? ⟨w.heap.size, 1, none⟩ = some v1 := blk_cell (Ik.below hI1 hq2 (Nat.lt_trans HW1.out.2.2.2 hs2)) 1
  have x2 : Wq.cell? ⟨w1.heap.size, 1, none⟩ = some v2 := blk_cell (Ik.below hk2 hq2 hs2) 1
  have HI := Aside0.mk (And.intro hI1 (And.intro hk2 (And.intro hN1 (And.intro hN2 hB02))))
  have HQ := Aside0.mk (And.intro hq2 (And.intro hIq (And.intro hIr hsq)))
  have HS2 := Aside0.mk (And.intro HW1.out.2.2.2 hs2)
  have HV := Aside0.mk (And.intro hv1 hv2)
  have HWQ := Aside0.mk hWq
  obtain ⟨c, hc⟩ : ∃ c, c = cmpInt (a : Int) b := ⟨_, rfl⟩
  rw [← hc] at HCM
  have HC := Aside0.mk hc
  clear hk2 hn2 ho2 hB2 hI1 hN1 hN2 hB02 hs2 hq1 hq2 hIq hIr hsq hv1 hv2 hWq hc HW1 HSA HSB HVBE HVB
  go_upto_region 10 with (fail)
  rw [← HWQ.out]

  refine wp_region_noPanic ?_
  refine wp_region_held_drew (S := (fun w' => w'.cell? ⟨w.heap.size, 1, none⟩ = some v1 ∧ w'.cell? ⟨w1.heap.size, 1, none⟩ = some v2)) (by kernel_rfl) ?_ (fun hHeld => ?_)
  · (try dsimp only); exact ⟨x1, x2⟩
  refine wpAnyH_take (i := 0) (v := ?_) rfl (by kernel_rfl) (by kernel_rfl) (by kernel_rfl) (fun _ _ _ h => h) (Or.inl ⟨by rfl, ?_⟩) (by assumption) ?_
  rotate_left
  · intro w hSw; (try dsimp only at hSw); go_simp; first | done | with_reducible rfl
  try simp only [Act.put, List.setIfInBounds_toArray, List.set_cons_zero, List.set_cons_succ]
  refine wpAnyH_take (i := 1) (v := ?_) rfl (by kernel_rfl) (by kernel_rfl) (by kernel_rfl) (fun _ _ _ h => h) (Or.inl ⟨by rfl, ?_⟩) (by assumption) ?_
  rotate_left
  · intro w hSw; (try dsimp only at hSw); go_simp; first | done | with_reducible rfl
  try simp only [Act.put, List.setIfInBounds_toArray, List.set_cons_zero, List.set_cons_succ]
  refine wpAnyH_take (i := 2) (v := ?_) rfl (by kernel_rfl) (by kernel_rfl) (by kernel_rfl) (fun _ _ _ h => h) (Or.inl ⟨by rfl, ?_⟩) (by assumption) ?_
  rotate_left
  · intro w hSw; (try dsimp only at hSw); go_simp; first | done | with_reducible rfl
  try simp only [Act.put, List.setIfInBounds_toArray, List.set_cons_zero, List.set_cons_succ]
  refine wpAnyH_take (i := 3) (v := ?_) rfl (by kernel_rfl) (by kernel_rfl) (by kernel_rfl) (fun _ _ _ h => h) (Or.inl ⟨by rfl, ?_⟩) (by assumption) ?_
  rotate_left
  · intro w hSw; (try dsimp only at hSw); go_simp; first | done | with_reducible rfl
  try simp only [Act.put, List.setIfInBounds_toArray, List.set_cons_zero, List.set_cons_succ]
  refine wpAnyH_take (i := 4) (v := ?_) rfl (by kernel_rfl) (by kernel_rfl) (by kernel_rfl) (fun _ _ _ h => h) (Or.inl ⟨by rfl, ?_⟩) (by assumption) ?_
  rotate_left
  · intro w hSw; (try dsimp only at hSw); go_simp; first | done | with_reducible rfl
  try simp only [Act.put, List.setIfInBounds_toArray, List.set_cons_zero, List.set_cons_succ]
  refine wpAnyH_take (i := 5) (v := ?_) rfl (by kernel_rfl) (by kernel_rfl) (by kernel_rfl) (fun _ _ _ h => h) (Or.inl ⟨by rfl, ?_⟩) (by assumption) ?_
  rotate_left
  · intro w hSw; (try dsimp only at hSw); go_simp; first | done | with_reducible rfl
  try simp only [Act.put, List.setIfInBounds_toArray, List.set_cons_zero, List.set_cons_succ]
  refine wpAnyH_take (i := 6) (v := ?_) rfl (by kernel_rfl) (by kernel_rfl) (by kernel_rfl) (fun _ _ _ h => h) (Or.inl ⟨by rfl, ?_⟩) (by assumption) ?_
  rotate_left
  · intro w hSw; (try dsimp only at hSw); go_simp; first | done | with_reducible rfl
  try simp only [Act.put, List.setIfInBounds_toArray, List.set_cons_zero, List.set_cons_succ]
  refine wpAnyH_take (i := 7) (v := ?_) rfl (by kernel_rfl) (by kernel_rfl) (by kernel_rfl) (fun _ _ _ h => h) (Or.inl ⟨by rfl, ?_⟩) (by assumption) ?_
  rotate_left
  · intro w hSw; (try dsimp only at hSw); go_simp; first | done | with_reducible rfl
  try simp only [Act.put, List.setIfInBounds_toArray, List.set_cons_zero, List.set_cons_succ]
  refine wpAnyH_ready (rs := [8]) (by kernel_rfl) (by simp) ?_
  refine AllReadyH.cons rfl (fun K hK => ?_) AllReadyH.nil
  go_simp
  refine HCM.out.mono ?_
  rintro e w3 ⟨rfl, hb3⟩
  have y1 := pw_cell_below hb3 (show Wq.drew.cell? ⟨w.heap.size, 1, none⟩ = _ from x1)
  have y2 := pw_cell_below hb3 (show Wq.drew.cell? ⟨w1.heap.size, 1, none⟩ = _ from x2)
  have HB3 := Aside0.mk (below_drew (Below.refl Wq.heap.size Wq) |>.trans hb3)
  clear hb3
  go_wp2_with fail
  refine hK.out _ _ ?_ (fun hQ1 => ?_)
  · (try dsimp only); exact ⟨y1, y2⟩
  clear hK K hHeld
  try simp only [Act.put, List.setIfInBounds_toArray, List.set_cons_zero, List.set_cons_succ]
  refine wpAnyH_take (i := 9) (oi := ⟨some 60, _, _, _, _, _⟩) (v := ?_) rfl (by kernel_rfl) (by kernel_rfl) (by kernel_rfl) (fun _ _ _ h => h) (Or.inl ⟨by rfl, ?_⟩) (by assumption) ?_
  rotate_left
  · intro w hSw; (try dsimp only at hSw); go_simp; first | done | with_reducible rfl
  try simp only [Act.put, List.setIfInBounds_toArray, List.set_cons_zero, List.set_cons_succ]
  refine wpAnyH_done (by kernel_rfl) ?_ _
  refine NoPanic.normal ?_

  have hbw3 : Below w2.heap.size w2 w3 := HQ.out.1.trans (HB3.out.mono (by have := HQ.out.2.2.2; omega))
  have hq3 : Ik w3 w2.heap.size (.slice none 0 0) := HQ.out.2.1.below HB3.out (by have := HQ.out.2.2.2; omega)
  have hr3 : Ik w3 (w2.heap.size + 1) (.slice none 0 0) := HQ.out.2.2.1.below HB3.out (by have := HQ.out.2.2.2; omega)
  have hbw : Below w.heap.size w w3 := HI.out.2.2.2.2.trans (hbw3.mono (by have := HS2.out; omega))
  have HW3 := Aside0.mk (And.intro hbw3 (And.intro hbw (And.intro hq3 hr3)))
  clear hbw3 hq3 hr3 hbw x1 x2 y1 y2 HCM
  go_upto_if 60 with (fail)
  go_cut [11, 12, 13, 14] (fun p q u1 u2 W => u1 = .pointer none ∧ u2 = .pointer none ∧ LhC (max a b) (min a b) w w2 p q W)
  case first =>
    as_aux_lemma =>
    rcases Nat.lt_or_ge a b with hlt | hge
    · have hcn : c < 0 := by rw [HC.out, cmpInt, if_pos (by omega)]; decide
      have HLT := Aside0.mk hlt
      clear hlt
      go_wp2_with fail
      go_meet
      refine ⟨rfl, rfl, w1.heap.size, w.heap.size, v2, v1, rfl, rfl, Nat.le_of_lt HS2.out.1, Nat.le_refl _, (Nat.ne_of_lt HS2.out.1).symm, HI.out.2.1, HI.out.1, ?_, ?_, HW3.out⟩
      · rw [Nat.max_eq_right (Nat.le_of_lt HLT.out)]; exact HI.out.2.2.2.1
      · rw [Nat.min_eq_left (Nat.le_of_lt HLT.out)]; exact HI.out.2.2.1
    · have hcn : ¬ c < 0 := by rw [HC.out, cmpInt, if_neg (by omega)]; split <;> decide
      have HGE := Aside0.mk hge
      clear hge
      go_wp2_with fail
      go_meet
      refine ⟨rfl, rfl, w.heap.size, w1.heap.size, v1, v2, rfl, rfl, Nat.le_refl _, Nat.le_of_lt HS2.out.1, Nat.ne_of_lt HS2.out.1, HI.out.1, HI.out.2.1, ?_, ?_, HW3.out⟩
      · rw [Nat.max_eq_left HGE.out]; exact HI.out.2.2.1
      · rw [Nat.min_eq_right HGE.out]; exact HI.out.2.2.2.1
  case rest =>
    obtain ⟨rfl, rfl, g1, g2, u1, u2, rfl, rfl, hg1, hg2, hg12, hi1, hi2, hn1, hn2, hbw, hbb, hiq, hir⟩ := hcut
    obtain ⟨M, hM⟩ : ∃ M, M = max a b := ⟨_, rfl⟩
    obtain ⟨m, hm⟩ : ∃ m, m = min a b := ⟨_, rfl⟩
    rw [← hM] at hn1
    rw [← hm] at hn2
    have HMm := Aside0.mk (show 0 < m ∧ m < 18446744073709551616 ∧ m ≤ M ∧ Nat.gcd M m = Nat.gcd a b by
      have := HP.out
      refine ⟨by omega, by omega, by omega, ?_⟩
      rcases Nat.le_total a b with h | h
      · rw [hM, hm, Nat.max_eq_right h, Nat.min_eq_left h, Nat.gcd_comm]
      · rw [hM, hm, Nat.max_eq_left h, Nat.min_eq_right h])
    obtain ⟨A2, cc2, hu2⟩ := Nt_slice hn2
    have hlen2 : (figs 18446744073709551616 m).length = 1 := len_one HMm.out.1 HMm.out.2.1
    rw [hlen2] at hu2
    subst hu2
    have HN1 := Aside0.mk hn1
    have HN2 := Aside0.mk hn2
    have HI12 := Aside0.mk (And.intro hi1 hi2)
    have HG := Aside0.mk (And.intro hg1 (And.intro hg2 hg12))
    have HBW := Aside0.mk (And.intro hbw hbb)
    have HQR := Aside0.mk (And.intro hiq hir)
    have HBK := Aside0.mk (And.intro (blk_lt hi1) (blk_lt hi2))
    have z2 : wc.cell? ⟨g2, 1, none⟩ = some (.slice A2 1 cc2) := blk_cell (hi2.below hbw (blk_lt hi2)) 1
    obtain ⟨A1, cc1, hu1⟩ := Nt_slice hn1
    obtain ⟨l1, hl1⟩ : ∃ l, l = (figs 18446744073709551616 M).length := ⟨_, rfl⟩
    rw [← hl1] at hu1
    subst hu1
    have z1 : wc.cell? ⟨g1, 1, none⟩ = some (.slice A1 l1 cc1) := blk_cell (hi1.below hbw (blk_lt hi1)) 1
    have HL1 := Aside0.mk hl1
    have HLENM := Aside0.mk (show (figs 18446744073709551616 M).length ≤ 100000 by rw [hM]; exact HLEN.out)
    have HMAX := Aside0.mk (And.intro hM hm)
    clear hn1 hn2 hi1 hi2 hg1 hg2 hg12 hbw hbb hiq hir hM hm hlen2 hl1 HB3 HI HQ HS2 HV HWQ HC HW3
    go_wp2_with fail
    go_loopw [11, 12, 13, 14, 17, 18, 19, 20, 21, 22] (fun s11 s12 s13 s14 s17 s18 s19 s20 s21 s22 W => s11 = .pointer (some ⟨g1, 0, none⟩) ∧ s12 = .pointer (some ⟨g2, 0, none⟩) ∧ s13 = .pointer none ∧ s14 = .pointer none ∧ s17 = .pointer (some ⟨w2.heap.size + 1, 0, none⟩) ∧ s18 = undef ∧ s19 = undef ∧ s20 = undef ∧ s21 = undef ∧ s22 = undef ∧ W = wc) (fun _ _ _ _ _ _ _ _ _ _ _ => 0)
    case atStart => exact ⟨rfl, rfl, rfl, rfl, rfl, rfl, rfl, rfl, rfl, rfl, rfl⟩
    case round =>
    obtain ⟨rfl, rfl, rfl, rfl, rfl, rfl, rfl, rfl, rfl, rfl, hwr⟩ := hrel
    subst hwr
    go_upto_if 128 with (fail)
    go_cut [11, 12, 13, 14, 17] (fun p q u1 u2 u3 W => LhD (Nat.gcd a b) w p q W)
    case first =>
      as_aux_lemma =>
      rcases Nat.lt_or_ge M 18446744073709551616 with hM1 | hM1
      · have hl1 : ¬ 1 < l1 := by rw [HL1.out, len_one (Nat.lt_of_lt_of_le HMm.out.1 HMm.out.2.2.1) hM1]; decide
        have HM1 := Aside0.mk hM1
        clear hM1
        go_wp2_with fail
        go_meet
        have hb := HBW.out.1
        exact ⟨g1, g2, _, _, M, m, rfl, rfl, HG.out.1, HI12.out.1.below hb HBK.out.1, HI12.out.2.below hb HBK.out.2, Nt_below HN1.out hb, Nt_below HN2.out hb, HBW.out.2, Nat.lt_of_lt_of_le HMm.out.1 HMm.out.2.2.1, HM1.out, HMm.out.2.1, HMm.out.2.2.2⟩
      · have hl1 : 1 < l1 := by
          rw [HL1.out]
          refine Nat.lt_of_not_le fun h => ?_
          have h2 := (val_range (B := (18446744073709551616 : Nat)) (by decide) (figs_Dg (by decide) M)).2
          rw [figs_val (by decide)] at h2
          have h4 : (figs 18446744073709551616 M).length = 0 ∨ (figs 18446744073709551616 M).length = 1 := by omega
          rcases h4 with h4 | h4 <;> rw [h4] at h2 <;> simp at h2 <;> omega
        have HEU := Aside0.mk (eu_of M m g1 g2 w.heap.size _ A2 cc2 w2 wr HMm.out.1 HMm.out.2.1 hM1 HMm.out.2.2.1 HLENM.out (by rw [← HL1.out]; exact hl1) HN1.out HN2.out HI12.out.1 HI12.out.2 HBW.out.1 HQR.out.1 HQR.out.2)
        clear hM1
        go_wp2_with fail
        refine HEU.out.mono ?_
        rintro e w3 ⟨q, r, rfl, hq, hr, hnq, hnr, hb⟩
        have HR := Aside0.mk (And.intro hr (And.intro hnr hb))
        clear hq hr hnq hnr hb
        go_wp2_with fail
        go_meet
        have hb := HBW.out.1.trans HR.out.2.2
        have hsz : w.heap.size ≤ w2.heap.size := Nat.le_of_lt (Nat.lt_of_le_of_lt HG.out.1 HBK.out.1)
        refine ⟨g2, w2.heap.size + 1, _, _, m, M % m, rfl, rfl, HG.out.2.1, HI12.out.2.below hb HBK.out.2, HR.out.1, Nt_below HN2.out hb, Nt_low HR.out.2.1 (Nat.le_trans hsz (Nat.le_of_lt (blk_lt HQR.out.1))), HBW.out.2.trans (HR.out.2.2.mono hsz), HMm.out.1, HMm.out.2.1, Nat.lt_trans (Nat.mod_lt _ HMm.out.1) HMm.out.2.1, ?_⟩
        rw [← HMm.out.2.2.2, Nat.gcd_comm m, ← Nat.gcd_rec, Nat.gcd_comm]
    case rest =>
    obtain ⟨g1, g2, v1, v2, X, Y, rfl, rfl, hg1, hi1, hi2, hn1, hn2, hbw, hX0, hX, hY, hG⟩ := hcut
    obtain ⟨h1, c1, cur1, hv1, hh1, hgh1, hn1c, hc1m, hcs1, hcc1⟩ := Nt_form hn1 (figs_ne (B := 18446744073709551616) (by decide) hX0)
    rw [len_one hX0 hX] at hv1 hn1c hcc1
    subst hv1
    have e1 : wc.cell? ⟨h1, 0, none⟩ = some (.int .u64 X) := by have e := hcc1 0 (by decide); rwa [figs_one (by decide) hX0 hX] at e
    have ef1 : wc.frozen? ⟨h1, 0, none⟩ = false := blk_frozen hgh1 _
    have k1 : wc.cell? ⟨g1, 1, none⟩ = some (.slice (some ⟨h1, 0, none⟩) 1 c1) := blk_cell hi1 1
    have hgh : g1 ≠ h1 := by
      rintro rfl
      have := hi1.symm.trans hgh1
      simp at this
    have HI1 := Aside0.mk hi1
    have HH1 := Aside0.mk (And.intro hh1 (And.intro hgh1 (And.intro hc1m (And.intro hcs1 hgh))))
    have HG1 := Aside0.mk hg1
    have HBW2 := Aside0.mk hbw
    have HGG := Aside0.mk hG
    have HXX0 := Aside0.mk (And.intro hX0 (And.intro hX hY))
    obtain ⟨A2', c2', hv2⟩ := Nt_slice hn2
    obtain ⟨l2, hl2⟩ : ∃ l, l = (figs 18446744073709551616 Y).length := ⟨_, rfl⟩
    rw [← hl2] at hv2
    have k2 : wc.cell? ⟨g2, 1, none⟩ = some (.slice A2' l2 c2') := by rw [blk_cell hi2 1, hv2]; rfl
    have HN1' := Aside0.mk hn1
    have HN2' := Aside0.mk hn2
    have HL2 := Aside0.mk (And.intro hv2 hl2)
    clear hn1 hn2 hi1 hi2 hg1 hbw hX0 hX hY hG hh1 hgh1 hcs1 hcc1 hv2 hl2 hgh z1 z2 HN1 HN2 HL1 HG HQR HBK HMm HMAX HI12 HLENM
    go_upto_if 148 with (fail)
    go_cut [23, 24] (fun t1 t2 W => LhE (Nat.gcd a b) w (.pointer (some ⟨g1, 0, none⟩)) W)
    case first =>
      rcases Nat.eq_zero_or_pos Y with hY0 | hY0
      · have hl0 : ¬ 0 < l2 := by rw [HL2.out.2, hY0, figs_zero]; decide
        have HY0 := Aside0.mk hY0
        clear hY0
        go_wp2_with fail
        go_meet
        refine ⟨g1, _, rfl, HG1.out, HI1.out, ?_, HBW2.out⟩
        rw [← HGG.out, HY0.out, Nat.gcd_zero_right]
        exact HN1'.out
      · have hl1 : l2 = 1 := by rw [HL2.out.2, len_one hY0 HXX0.out.2.2]
        obtain ⟨h2, d2, cur2, hv2, -, hgh2, -, -, -, hcc2⟩ := Nt_form HN2'.out (figs_ne (B := 18446744073709551616) (by decide) hY0)
        have e2 : wc.cell? ⟨h2, 0, none⟩ = some (.int .u64 Y) := by
          have e := hcc2 0 (by rw [len_one hY0 HXX0.out.2.2]; decide)
          rwa [figs_one (by decide) hY0 HXX0.out.2.2] at e
        rw [← HL2.out.2, HL2.out.1] at hv2
        injection hv2 with q1 q2 q3
        subst q1 q3 hl1
        clear hgh2 hcc2 q2
        have HBG := Aside0.mk (And.intro (blk_lt HI1.out) (blk_lt HH1.out.2.1))
        go_upto_region 24 with (fail)

        refine wp_region_noPanic ?_
        refine wp_region_held_drew (S := (fun w' => w'.cell? ⟨g1, 1, none⟩ = some (.slice (some ⟨h1, 0, none⟩) 1 c1) ∧ w'.cell? ⟨g2, 1, none⟩ = some (.slice (some ⟨h2, 0, none⟩) 1 c2') ∧ w'.cell? ⟨h1, 0, none⟩ = some (.int .u64 X) ∧ w'.cell? ⟨h2, 0, none⟩ = some (.int .u64 Y))) (by kernel_rfl) ?_ (fun hHeld => ?_)
        · (try dsimp only); exact ⟨k1, k2, e1, e2⟩
        refine wpAnyH_take (i := 0) (v := ?_) rfl (by kernel_rfl) (by kernel_rfl) (by kernel_rfl) (fun _ _ _ h => h) (Or.inl ⟨by rfl, ?_⟩) (by assumption) ?_
        rotate_left
        · intro w hSw; (try dsimp only at hSw); go_simp; first | done | with_reducible rfl
        try simp only [Act.put, List.setIfInBounds_toArray, List.set_cons_zero, List.set_cons_succ]
        refine wpAnyH_take (i := 1) (v := ?_) rfl (by kernel_rfl) (by kernel_rfl) (by kernel_rfl) (fun _ _ _ h => h) (Or.inl ⟨by rfl, ?_⟩) (by assumption) ?_
        rotate_left
        · intro w hSw; (try dsimp only at hSw); go_simp; first | done | with_reducible rfl
        try simp only [Act.put, List.setIfInBounds_toArray, List.set_cons_zero, List.set_cons_succ]
        refine wpAnyH_take (i := 2) (v := ?_) rfl (by kernel_rfl) (by kernel_rfl) (by kernel_rfl) (fun _ _ _ h => h) (Or.inl ⟨by rfl, ?_⟩) (by assumption) ?_
        rotate_left
        · intro w hSw; (try dsimp only at hSw); go_simp; first | done | with_reducible rfl
        try simp only [Act.put, List.setIfInBounds_toArray, List.set_cons_zero, List.set_cons_succ]
        refine wpAnyH_take (i := 3) (v := ?_) rfl (by kernel_rfl) (by kernel_rfl) (by kernel_rfl) (fun _ _ _ h => h) (Or.inl ⟨by rfl, ?_⟩) (by assumption) ?_
        rotate_left
        · intro w hSw; (try dsimp only at hSw); go_simp; first | done | with_reducible rfl
        try simp only [Act.put, List.setIfInBounds_toArray, List.set_cons_zero, List.set_cons_succ]
        refine wpAnyH_take (i := 4) (v := ?_) rfl (by kernel_rfl) (by kernel_rfl) (by kernel_rfl) (fun _ _ _ h => h) (Or.inl ⟨by rfl, ?_⟩) (by assumption) ?_
        rotate_left
        · intro w hSw; (try dsimp only at hSw); go_simp; first | done | with_reducible rfl
        try simp only [Act.put, List.setIfInBounds_toArray, List.set_cons_zero, List.set_cons_succ]
        refine wpAnyH_take (i := 5) (v := ?_) rfl (by kernel_rfl) (by kernel_rfl) (by kernel_rfl) (fun _ _ _ h => h) (Or.inl ⟨by rfl, ?_⟩) (by assumption) ?_
        rotate_left
        · intro w hSw; (try dsimp only at hSw); go_simp; first | done | with_reducible rfl
        try simp only [Act.put, List.setIfInBounds_toArray, List.set_cons_zero, List.set_cons_succ]
        refine wpAnyH_take (i := 6) (v := ?_) rfl (by kernel_rfl) (by kernel_rfl) (by kernel_rfl) (fun _ _ _ h => h) (Or.inl ⟨by rfl, ?_⟩) (by assumption) ?_
        rotate_left
        · intro w hSw; (try dsimp only at hSw); go_simp; first | done | with_reducible rfl
        try simp only [Act.put, List.setIfInBounds_toArray, List.set_cons_zero, List.set_cons_succ]
        refine wpAnyH_take (i := 7) (v := ?_) rfl (by kernel_rfl) (by kernel_rfl) (by kernel_rfl) (fun _ _ _ h => h) (Or.inl ⟨by rfl, ?_⟩) (by assumption) ?_
        rotate_left
        · intro w hSw; (try dsimp only at hSw); go_simp; first | done | with_reducible rfl
        try simp only [Act.put, List.setIfInBounds_toArray, List.set_cons_zero, List.set_cons_succ]
        refine wpAnyH_take (i := 8) (v := ?_) rfl (by kernel_rfl) (by kernel_rfl) (by kernel_rfl) (fun _ _ _ h => h) (Or.inl ⟨by rfl, ?_⟩) (by assumption) ?_
        rotate_left
        · intro w hSw; (try dsimp only at hSw); go_simp; first | done | with_reducible rfl
        try simp only [Act.put, List.setIfInBounds_toArray, List.set_cons_zero, List.set_cons_succ]
        refine wpAnyH_take (i := 9) (v := ?_) rfl (by kernel_rfl) (by kernel_rfl) (by kernel_rfl) (fun _ _ _ h => h) (Or.inl ⟨by rfl, ?_⟩) (by assumption) ?_
        rotate_left
        · intro w hSw; (try dsimp only at hSw); go_simp; first | done | with_reducible rfl
        try simp only [Act.put, List.setIfInBounds_toArray, List.set_cons_zero, List.set_cons_succ]
        refine wpAnyH_take (i := 10) (v := ?_) rfl (by kernel_rfl) (by kernel_rfl) (by kernel_rfl) (fun _ _ _ h => h) (Or.inl ⟨by rfl, ?_⟩) (by assumption) ?_
        rotate_left
        · intro w hSw; (try dsimp only at hSw); go_simp; first | done | with_reducible rfl
        try simp only [Act.put, List.setIfInBounds_toArray, List.set_cons_zero, List.set_cons_succ]
        refine wpAnyH_take (i := 11) (v := ?_) rfl (by kernel_rfl) (by kernel_rfl) (by kernel_rfl) (fun _ _ _ h => h) (Or.inl ⟨by rfl, ?_⟩) (by assumption) ?_
        rotate_left
        · intro w hSw; (try dsimp only at hSw); go_simp; first | done | with_reducible rfl
        try simp only [Act.put, List.setIfInBounds_toArray, List.set_cons_zero, List.set_cons_succ]
        refine wpAnyH_take (i := 12) (v := ?_) rfl (by kernel_rfl) (by kernel_rfl) (by kernel_rfl) (fun _ _ _ h => h) (Or.inl ⟨by rfl, ?_⟩) (by assumption) ?_
        rotate_left
        · intro w hSw; (try dsimp only at hSw); go_simp; first | done | with_reducible rfl
        try simp only [Act.put, List.setIfInBounds_toArray, List.set_cons_zero, List.set_cons_succ]
        refine wpAnyH_take (i := 13) (oi := ⟨some 24, _, _, _, _, _⟩) (v := ?_) rfl (by kernel_rfl) (by kernel_rfl) (by kernel_rfl) (fun _ _ _ h => h) (Or.inl ⟨by rfl, ?_⟩) (by assumption) ?_
        rotate_left
        · intro w hSw; (try dsimp only at hSw); go_simp; first | done | with_reducible rfl
        try simp only [Act.put, List.setIfInBounds_toArray, List.set_cons_zero, List.set_cons_succ]
        refine wpAnyH_done (by kernel_rfl) ?_ _
        refine NoPanic.normal ?_

        have hb24 : Below w.heap.size w wc.drew := below_drew HBW2.out
        go_wp2_with fail
        go_loopw [23, 24] (fun p q W => LhL (Nat.gcd a b) X wc p q W) (fun _ q _ => (intOf q).toNat)
        case atStart => exact ⟨X, Y, rfl, rfl, HGG.out, HXX0.out.2.1, HXX0.out.2.2, below_drew (Below.refl _ _)⟩
        case round =>
        obtain ⟨x, y, rfl, rfl, hxy, hx64, hy64, hbr⟩ := hrel
        have HXY := Aside0.mk (And.intro hxy (And.intro hx64 hy64))
        have HBR := Aside0.mk hbr
        rcases Nat.eq_zero_or_pos y with hy0 | hy0
        · have b3 : ((y : Int) == 0) = true := by simp; omega
          have hxg : x = Nat.gcd a b := by rw [← hxy, hy0, Nat.gcd_zero_right]
          have kr1 : wr.cell? ⟨g1, 1, none⟩ = some (.slice (some ⟨h1, 0, none⟩) 1 c1) := pw_cell_below hbr k1
          have er1 : wr.cell? ⟨h1, 0, none⟩ = some (.int .u64 X) := pw_cell_below hbr e1
          have hgr1 := (hbr.block h1 HBG.out.2).trans HH1.out.2.1
          have fr1 : wr.frozen? ⟨h1, 0, none⟩ = false := blk_frozen hgr1 _
          have HGR := Aside0.mk hgr1
          have HXG := Aside0.mk hxg
          clear hxy hx64 hy64 hbr hxg hgr1 hy0
          go_wp2_with fail
          go_meet
          have hG0 : 0 < Nat.gcd a b := Nat.gcd_pos_of_pos_left b HP.out.1
          refine ⟨g1, _, rfl, HG1.out, blk_far (HI1.out.below HBR.out HBG.out.1) HH1.out.2.2.2.2 _, ?_, (HBW2.out.trans (HBR.out.mono ?_)).setCell (p := ⟨h1, 0, none⟩) HH1.out.1 _⟩
          · rw [← HXG.out, figs_one (by decide) (by rw [HXG.out]; exact hG0) HXY.out.2.1]
            have hcz := HH1.out.2.2.2.1
            have hcn := hn1c
            exact Nt_mk (xs := [(x : Int)]) HH1.out.1 (blk_set HGR.out 0 _) (by simp; omega) HH1.out.2.2.1 (by simp; omega) (fun i hi => by
              have : i = 0 := by simpa using hi
              subst this
              have : 0 < cur1.size := by omega
              simp [Array.getElem?_setIfInBounds, this])
          · exact Nat.le_of_lt (Nat.lt_of_le_of_lt HH1.out.1 HBG.out.2)
        · have b3 : ((y : Int) == 0) = false := by simp; omega
          have hyi : (0 : Int) < y := by omega
          have hym : ((x : Int) % y) = ((x % y : Nat) : Int) := by push_cast; rfl
          have hlt := Nat.mod_lt x hy0
          have HLT := Aside0.mk hlt
          have HYM := Aside0.mk hym
          clear hxy hx64 hy64 hbr hlt hym
          go_wp2_with fail
          go_region
          go_wp2_with fail
          go_roundw
          case rel =>
            refine ⟨y, x % y, rfl, ?_, ?_, HXY.out.2.2, Nat.lt_trans HLT.out HXY.out.2.2, below_drew HBR.out⟩
            · rw [HYM.out]
            · rw [← HXY.out.1, Nat.gcd_comm y, ← Nat.gcd_rec, Nat.gcd_comm]
          case measure =>
            rw [HYM.out]
            show (((x % y : Nat) : Int)).toNat < ((y : Nat) : Int).toNat
            rw [Int.toNat_natCast, Int.toNat_natCast]
            exact HLT.out
    case rest =>
    obtain ⟨g1', v1', hgg, hg1', hi1', hn1', hbw'⟩ := hcut
    injection hgg with hgg
    injection hgg with hgg
    injection hgg with hgg _ _
    subst hgg
    obtain ⟨A3, c3, hv3, hC3⟩ := Nt_C hn1'
    subst hv3
    have hzw := HZ.out.below hbw' (blk_lt HZ.out)
    have hgz : g1 ≠ gz := by have h1 := blk_lt HZ.out; have h2 : w.heap.size ≤ g1 := hg1'; intro h; omega
    have n1 : wc.cell? ⟨ga, oa, none⟩ = some (.bool false) := by rw [pw_cell_below hbw' ((blk_cell HXX.out.1 oa).trans HXX.out.2.1)]
    have hgl : (figs 18446744073709551616 (Nat.gcd a b)).length ≤ 100000 := by
      rw [len_one (Nat.gcd_pos_of_pos_left b HP.out.1) ?_]; · decide
      rcases HP.out.2.2 with h | h
      · exact Nat.lt_of_le_of_lt (Nat.gcd_le_left b HP.out.1) h
      · exact Nat.lt_of_le_of_lt (Nat.gcd_le_right a HP.out.2.1) h
    have HSET := Aside0.mk (int_set (Nat.gcd a b) gz g1 0 A3 _ c3 _ 116 wc hzw hgz hi1' rfl rfl hC3 hgl)
    have HSZ := Aside0.mk (show w.heap.size ≤ wc.heap.size from Nat.le_of_lt (Nat.lt_of_le_of_lt hg1' (blk_lt hi1')))
    have HBF := Aside0.mk hbw'
    clear hg1' hi1' hn1' hbw' hC3 hzw hgz hgl
    go_wp2_with fail
    refine HSET.out.mono ?_
    rintro e w3 ⟨v, rfl, hz3, hn3, ho3⟩
    have H3 := Aside0.mk (And.intro hz3 (And.intro hn3 ho3))
    clear hz3 hn3 ho3
    go_wp2_with fail
    go_ret
    refine ⟨v, rfl, H3.out.1, Nt_low H3.out.2.1 (Nat.le_trans HBS.out.1 HSZ.out), ?_⟩
    exact (HBF.out.mono HBS.out.1).grown H3.out.2.2 (Nat.le_trans HBS.out.1 HSZ.out) (fun k hk => by cases hk; exact HBS.out.2)
end Go.Proofs.YtgpoplfgngiilaaGreatDoor

namespace Go.Proofs.YtgpoplfgngiilaaGreatDoor
open Go.RowKit Go.Proofs.YtgpoplfgngiilaaGreatDoorW.PrintWords PAll Pl Dv

theorem newInt0 (w : World) : Calls Tryz.prog 135 #[.int .i64 0] w fun e w' => e = .returned (.pointer (some ⟨w.heap.size, 0, none⟩)) ∧ w.alloc (.cells #[.bool false, .slice none 0 0] 116) = w' := by
  go_enter Tryz.func135, Tryz.ntmps135
  go_wp2_with fail
  go_ret
  exact ⟨rfl, rfl⟩

theorem natOne_any (w : World) : Calls Tryz.prog 193 #[] w fun e w' => e = .returned (.slice (some ⟨w.heap.size, 0, none⟩) 1 1) ∧ w.alloc (.cells #[.int .u64 1] 167) = w' := by
  go_enter Tryz.func193, Tryz.ntmps193
  go_wp2_with fail
  go_ret
  exact ⟨rfl, rfl⟩

theorem intOne_any (w : World) : Calls Tryz.prog 138 #[] w fun e w' => e = .returned (.pointer (some ⟨w.heap.size + 1, 0, none⟩)) ∧ (w.alloc (.cells #[.int .u64 1] 167)).alloc (.cells #[.bool false, .slice (some ⟨w.heap.size, 0, none⟩) 1 1] 116) = w' := by
  have HN := Aside0.mk (natOne_any w)
  go_enter Tryz.func138, Tryz.ntmps138
  go_wp2_with fail
  refine HN.out.mono ?_
  rintro e w' ⟨rfl, rfl⟩
  go_wp2_with fail
  go_ret
  exact ⟨by simp, rfl⟩

theorem getStack_any (w : World) : Calls Tryz.prog 113 #[] w fun e w' => e = .returned (.pointer (some ⟨w.heap.size, 0, none⟩)) ∧ w.alloc (.cells #[.pointer none] 244) = w' := by
  go_enter Tryz.func113, Tryz.ntmps113
  go_wp2_with fail
  go_ret
  exact ⟨rfl, rfl⟩

set_option maxHeartbeats 4000000 in
set_option maxRecDepth 100000 in
theorem int_cmp (X Y gx gy bx by' : Nat) (v1 v2 : Value) (w : World) (hX : 0 < X) (hY : 0 < Y) (hm : X < 18446744073709551616 ∨ Y < 18446744073709551616) (hx : Ik w gx v1) (hy : Ik w gy v2) (hne : gx ≠ gy)
    (h1 : Nt w bx v1 (figs 18446744073709551616 X)) (h2 : Nt w by' v2 (figs 18446744073709551616 Y)) :
    Calls Tryz.prog 137 #[.pointer (some ⟨gx, 0, none⟩), .pointer (some ⟨gy, 0, none⟩)] w fun e w' => e = .returned (.int .i64 (cmpInt X Y)) ∧ Below w.heap.size w w' := by
  have hpp := eql89 (w := w) (a := ⟨gx, 0, none⟩) (b := ⟨gy, 0, none⟩) (by intro e; exact hne (congrArg Addr.block e)) hx hy
  have x0 : w.cell? ⟨gx, 0, none⟩ = some (.bool false) := blk_cell hx 0
  have x1 : w.cell? ⟨gx, 1, none⟩ = some v1 := blk_cell hx 1
  have y0 : w.cell? ⟨gy, 0, none⟩ = some (.bool false) := blk_cell hy 0
  have y1 : w.cell? ⟨gy, 1, none⟩ = some v2 := blk_cell hy 1
  have HCM := Aside0.mk (cmp_min X Y bx by' v1 v2 w.drew.drew hX hY hm (Nt_below h1 (below_drew (below_drew (Below.refl _ _)))) (Nt_below h2 (below_drew (below_drew (Below.refl _ _)))))
  obtain ⟨c, hc⟩ : ∃ c, c = cmpInt (X : Int) Y := ⟨_, rfl⟩
  obtain ⟨A1, c1, hv1⟩ := Nt_slice h1
  obtain ⟨A2, c2, hv2⟩ := Nt_slice h2
  obtain ⟨l1, hl1⟩ : ∃ l, l = (figs 18446744073709551616 X).length := ⟨_, rfl⟩
  obtain ⟨l2, hl2⟩ : ∃ l, l = (figs 18446744073709551616 Y).length := ⟨_, rfl⟩
  rw [← hl1] at hv1
  rw [← hl2] at hv2
  rw [← hc] at HCM ⊢
  subst hv1 hv2
  clear hx hy hne h1 h2 hX hY hm hc hl1 hl2
  go_enter Tryz.func137, Tryz.ntmps137
  go_wp2_with fail

  refine wp_region_noPanic ?_
  refine wp_region_held_drew (S := (fun w' => w'.cell? ⟨gx, 0, none⟩ = some (.bool false) ∧ w'.cell? ⟨gy, 0, none⟩ = some (.bool false))) (by kernel_rfl) ?_ (fun hHeld => ?_)
  · (try dsimp only); exact ⟨x0, y0⟩
  refine wpAnyH_take (i := 0) (oi := ⟨some 10, _, _, _, _, _⟩) (v := ?_) rfl (by kernel_rfl) (by kernel_rfl) (by kernel_rfl) (fun _ _ _ h => h) (Or.inl ⟨by rfl, ?_⟩) (by assumption) ?_
  rotate_left
  · intro w hSw; (try dsimp only at hSw); go_simp; first | done | with_reducible rfl
  try simp only [Act.put, List.setIfInBounds_toArray, List.set_cons_zero, List.set_cons_succ]
  refine wpAnyH_take (i := 1) (oi := ⟨some 11, _, _, _, _, _⟩) (v := ?_) rfl (by kernel_rfl) (by kernel_rfl) (by kernel_rfl) (fun _ _ _ h => h) (Or.inl ⟨by rfl, ?_⟩) (by assumption) ?_
  rotate_left
  · intro w hSw; (try dsimp only at hSw); go_simp; first | done | with_reducible rfl
  try simp only [Act.put, List.setIfInBounds_toArray, List.set_cons_zero, List.set_cons_succ]
  refine wpAnyH_take (i := 2) (oi := ⟨some 12, _, _, _, _, _⟩) (v := ?_) rfl (by kernel_rfl) (by kernel_rfl) (by kernel_rfl) (fun _ _ _ h => h) (Or.inl ⟨by rfl, ?_⟩) (by assumption) ?_
  rotate_left
  · intro w hSw; (try dsimp only at hSw); go_simp; first | done | with_reducible rfl
  try simp only [Act.put, List.setIfInBounds_toArray, List.set_cons_zero, List.set_cons_succ]
  refine wpAnyH_take (i := 3) (oi := ⟨some 13, _, _, _, _, _⟩) (v := ?_) rfl (by kernel_rfl) (by kernel_rfl) (by kernel_rfl) (fun _ _ _ h => h) (Or.inl ⟨by rfl, ?_⟩) (by assumption) ?_
  rotate_left
  · intro w hSw; (try dsimp only at hSw); go_simp; first | done | with_reducible rfl
  try simp only [Act.put, List.setIfInBounds_toArray, List.set_cons_zero, List.set_cons_succ]
  refine wpAnyH_take (i := 4) (oi := ⟨some 14, _, _, _, _, _⟩) (v := ?_) rfl (by kernel_rfl) (by kernel_rfl) (by kernel_rfl) (fun _ _ _ h => h) (Or.inl ⟨by rfl, ?_⟩) (by assumption) ?_
  rotate_left
  · intro w hSw; (try dsimp only at hSw); go_simp; first | done | with_reducible rfl
  try simp only [Act.put, List.setIfInBounds_toArray, List.set_cons_zero, List.set_cons_succ]
  refine wpAnyH_take (i := 5) (oi := ⟨some 15, _, _, _, _, _⟩) (v := ?_) rfl (by kernel_rfl) (by kernel_rfl) (by kernel_rfl) (fun _ _ _ h => h) (Or.inl ⟨by rfl, ?_⟩) (by assumption) ?_
  rotate_left
  · intro w hSw; (try dsimp only at hSw); go_simp; first | done | with_reducible rfl
  try simp only [Act.put, List.setIfInBounds_toArray, List.set_cons_zero, List.set_cons_succ]
  refine wpAnyH_take (i := 6) (oi := ⟨some 16, _, _, _, _, _⟩) (v := ?_) rfl (by kernel_rfl) (by kernel_rfl) (by kernel_rfl) (fun _ _ _ h => h) (Or.inl ⟨by rfl, ?_⟩) (by assumption) ?_
  rotate_left
  · intro w hSw; (try dsimp only at hSw); go_simp; first | done | with_reducible rfl
  try simp only [Act.put, List.setIfInBounds_toArray, List.set_cons_zero, List.set_cons_succ]
  refine wpAnyH_take (i := 7) (oi := ⟨some 17, _, _, _, _, _⟩) (v := ?_) rfl (by kernel_rfl) (by kernel_rfl) (by kernel_rfl) (fun _ _ _ h => h) (Or.inl ⟨by rfl, ?_⟩) (by assumption) ?_
  rotate_left
  · intro w hSw; (try dsimp only at hSw); go_simp; first | done | with_reducible rfl
  try simp only [Act.put, List.setIfInBounds_toArray, List.set_cons_zero, List.set_cons_succ]
  refine wpAnyH_take (i := 8) (oi := ⟨some 18, _, _, _, _, _⟩) (v := ?_) rfl (by kernel_rfl) (by kernel_rfl) (by kernel_rfl) (fun _ _ _ h => h) (Or.inl ⟨by rfl, ?_⟩) (by assumption) ?_
  rotate_left
  · intro w hSw; (try dsimp only at hSw); go_simp; first | done | with_reducible rfl
  try simp only [Act.put, List.setIfInBounds_toArray, List.set_cons_zero, List.set_cons_succ]
  refine wpAnyH_take (i := 9) (oi := ⟨some 9, _, _, _, _, _⟩) (v := ?_) rfl (by kernel_rfl) (by kernel_rfl) (by kernel_rfl) (fun _ _ _ h => h) (Or.inl ⟨by rfl, ?_⟩) (by assumption) ?_
  rotate_left
  · intro w hSw; (try dsimp only at hSw); go_simp; first | done | with_reducible rfl
  try simp only [Act.put, List.setIfInBounds_toArray, List.set_cons_zero, List.set_cons_succ]
  refine wpAnyH_done (by kernel_rfl) ?_ _
  refine NoPanic.normal ?_
  have dx1 : w.drew.cell? ⟨gx, 1, none⟩ = some (.slice A1 l1 c1) := x1
  have dy1 : w.drew.cell? ⟨gy, 1, none⟩ = some (.slice A2 l2 c2) := y1
  have dx0 : w.drew.cell? ⟨gx, 0, none⟩ = some (.bool false) := x0
  go_wp2_with fail
  refine wp_region_noPanic ?_
  refine wp_region_held_drew (S := (fun w' => w'.cell? ⟨gx, 1, none⟩ = some (.slice A1 l1 c1) ∧ w'.cell? ⟨gy, 1, none⟩ = some (.slice A2 l2 c2))) (by kernel_rfl) ?_ (fun hHeld => ?_)
  · (try dsimp only); exact ⟨dx1, dy1⟩
  refine wpAnyH_take (i := 0) (oi := ⟨some 19, _, _, _, _, _⟩) (v := ?_) rfl (by kernel_rfl) (by kernel_rfl) (by kernel_rfl) (fun _ _ _ h => h) (Or.inl ⟨by rfl, ?_⟩) (by assumption) ?_
  rotate_left
  · intro w hSw; (try dsimp only at hSw); go_simp; first | done | with_reducible rfl
  try simp only [Act.put, List.setIfInBounds_toArray, List.set_cons_zero, List.set_cons_succ]
  refine wpAnyH_take (i := 1) (oi := ⟨some 20, _, _, _, _, _⟩) (v := ?_) rfl (by kernel_rfl) (by kernel_rfl) (by kernel_rfl) (fun _ _ _ h => h) (Or.inl ⟨by rfl, ?_⟩) (by assumption) ?_
  rotate_left
  · intro w hSw; (try dsimp only at hSw); go_simp; first | done | with_reducible rfl
  try simp only [Act.put, List.setIfInBounds_toArray, List.set_cons_zero, List.set_cons_succ]
  refine wpAnyH_take (i := 2) (oi := ⟨some 21, _, _, _, _, _⟩) (v := ?_) rfl (by kernel_rfl) (by kernel_rfl) (by kernel_rfl) (fun _ _ _ h => h) (Or.inl ⟨by rfl, ?_⟩) (by assumption) ?_
  rotate_left
  · intro w hSw; (try dsimp only at hSw); go_simp; first | done | with_reducible rfl
  try simp only [Act.put, List.setIfInBounds_toArray, List.set_cons_zero, List.set_cons_succ]
  refine wpAnyH_take (i := 3) (oi := ⟨some 22, _, _, _, _, _⟩) (v := ?_) rfl (by kernel_rfl) (by kernel_rfl) (by kernel_rfl) (fun _ _ _ h => h) (Or.inl ⟨by rfl, ?_⟩) (by assumption) ?_
  rotate_left
  · intro w hSw; (try dsimp only at hSw); go_simp; first | done | with_reducible rfl
  try simp only [Act.put, List.setIfInBounds_toArray, List.set_cons_zero, List.set_cons_succ]
  refine wpAnyH_take (i := 4) (oi := ⟨some 23, _, _, _, _, _⟩) (v := ?_) rfl (by kernel_rfl) (by kernel_rfl) (by kernel_rfl) (fun _ _ _ h => h) (Or.inl ⟨by rfl, ?_⟩) (by assumption) ?_
  rotate_left
  · intro w hSw; (try dsimp only at hSw); go_simp; first | done | with_reducible rfl
  try simp only [Act.put, List.setIfInBounds_toArray, List.set_cons_zero, List.set_cons_succ]
  refine wpAnyH_take (i := 5) (oi := ⟨some 24, _, _, _, _, _⟩) (v := ?_) rfl (by kernel_rfl) (by kernel_rfl) (by kernel_rfl) (fun _ _ _ h => h) (Or.inl ⟨by rfl, ?_⟩) (by assumption) ?_
  rotate_left
  · intro w hSw; (try dsimp only at hSw); go_simp; first | done | with_reducible rfl
  try simp only [Act.put, List.setIfInBounds_toArray, List.set_cons_zero, List.set_cons_succ]
  refine wpAnyH_take (i := 6) (oi := ⟨some 25, _, _, _, _, _⟩) (v := ?_) rfl (by kernel_rfl) (by kernel_rfl) (by kernel_rfl) (fun _ _ _ h => h) (Or.inl ⟨by rfl, ?_⟩) (by assumption) ?_
  rotate_left
  · intro w hSw; (try dsimp only at hSw); go_simp; first | done | with_reducible rfl
  try simp only [Act.put, List.setIfInBounds_toArray, List.set_cons_zero, List.set_cons_succ]
  refine wpAnyH_take (i := 7) (oi := ⟨some 26, _, _, _, _, _⟩) (v := ?_) rfl (by kernel_rfl) (by kernel_rfl) (by kernel_rfl) (fun _ _ _ h => h) (Or.inl ⟨by rfl, ?_⟩) (by assumption) ?_
  rotate_left
  · intro w hSw; (try dsimp only at hSw); go_simp; first | done | with_reducible rfl
  try simp only [Act.put, List.setIfInBounds_toArray, List.set_cons_zero, List.set_cons_succ]
  refine wpAnyH_ready (rs := [8]) (by kernel_rfl) (by simp) ?_
  refine AllReadyH.cons rfl (fun K hK => ?_) AllReadyH.nil
  go_simp
  refine HCM.out.mono ?_
  rintro e w3 ⟨rfl, hb3⟩
  have z1 := pw_cell_below hb3 (show w.drew.drew.cell? ⟨gx, 1, none⟩ = _ from x1)
  have z2 := pw_cell_below hb3 (show w.drew.drew.cell? ⟨gy, 1, none⟩ = _ from y1)
  have z0 := pw_cell_below hb3 (show w.drew.drew.cell? ⟨gx, 0, none⟩ = _ from x0)
  have HB3 := Aside0.mk hb3
  clear hb3
  go_wp2_with fail
  refine hK.out _ _ ?_ (fun hQ1 => ?_)
  · (try dsimp only); exact ⟨z1, z2⟩
  clear hK K hHeld
  try simp only [Act.put, List.setIfInBounds_toArray, List.set_cons_zero, List.set_cons_succ]
  refine wpAnyH_take (i := 9) (oi := ⟨some 4, _, _, _, _, _⟩) (v := ?_) rfl (by kernel_rfl) (by kernel_rfl) (by kernel_rfl) (fun _ _ _ h => h) (Or.inl ⟨by rfl, ?_⟩) (by assumption) ?_
  rotate_left
  · intro w hSw; (try dsimp only at hSw); go_simp; first | done | with_reducible rfl
  try simp only [Act.put, List.setIfInBounds_toArray, List.set_cons_zero, List.set_cons_succ]
  refine wpAnyH_done (by kernel_rfl) ?_ _
  refine NoPanic.normal ?_
  go_wp2_with fail
  go_ret
  exact ⟨rfl, (below_drew (below_drew (Below.refl _ _))).trans HB3.out⟩
end Go.Proofs.YtgpoplfgngiilaaGreatDoor

namespace Go.Proofs.YtgpoplfgngiilaaGreatDoor
open Go.RowKit Go.Proofs.YtgpoplfgngiilaaGreatDoorW.PrintWords PAll Pl Dv

/-- What divW leaves in place. -/
def DwIn (base g Z y : Nat) (w : World) (e : Ending) (w' : World) : Prop := ∃ i c, e = .returned (.tuple #[.slice (some ⟨g, 0, none⟩) i c, .int .u64 ((Z % y : Nat) : Int)]) ∧ Nt w' base (.slice (some ⟨g, 0, none⟩) i c) (figs 18446744073709551616 (Z / y)) ∧ w.grownBy w' (some g)

set_option maxHeartbeats 2000000 in
set_option maxRecDepth 100000 in
theorem divW_in (base Z y g cap : Nat) (cur : Array Value) (w : World) (hy1 : 1 < y) (hy : y < 18446744073709551616) (hb : base ≤ w.heap.size) (hbg : base ≤ g) (m : Nat) (hm : m = (figs 18446744073709551616 Z).length) (hm1 : 0 < m) (hm2 : m ≤ 100000) (hcx : m ≤ cap) (hcm : cap ≤ 9223372036854775807)
    (hg : w.heap[g]? = some (.cells cur 167 (0, 0))) (hsz : cur.size = cap) (hx : Cw w g m (figs 18446744073709551616 Z)) :
    Calls Tryz.prog 194 #[.slice (some ⟨g, 0, none⟩) m cap, .slice (some ⟨g, 0, none⟩) m cap, .int .u64 y] w (DwIn base g Z y w) := by
  have b1 : ((y : Int) == 0) = false := by simp; omega
  have b2 : ((y : Int) == 1) = false := by simp; omega
  have b3 : ((m : Int) == 0) = false := by simp; omega
  have HM := Aside0.mk (make_fit (some ⟨g, 0, none⟩) m cap m w hcx hcm)
  have HV := Aside0.mk (divWVW_any g cap g cap m Z _ y cur w (by omega) (by omega) (by omega) hcx hg (by omega) hx hm.symm (figs_Dg (by decide) Z) (figs_val (by decide) Z) (by omega) hy)
  have HB := Aside0.mk hb
  have HBG := Aside0.mk hbg
  have HSZ := Aside0.mk hsz
  have HCM := Aside0.mk (And.intro hcx hcm)
  clear hx hb hsz hm hy hy1 hg hbg hcm
  go_enter Tryz.func194, Tryz.ntmps194
  go_wp2_with fail
  refine HM.out.mono ?_
  rintro e w' ⟨rfl, rfl⟩
  go_wp2_with fail
  refine HV.out.mono ?_
  rintro e w1 ⟨outs, cs', rfl, h1, h2, h3, h4, h5, h6, h7⟩
  have H1 := Aside0.mk (And.intro h1 (And.intro h2 h6))
  have H3 := Lib.hid h3
  have H4 := Aside0.mk h4
  have H5 := Lib.hid h5
  have H7 := Aside0.mk h7
  clear h1 h2 h3 h4 h5 h6 h7
  go_wp2_with fail
  refine (norm_any g cap m outs _ HCM.out.1 (by omega) HCM.out.2 (fun i hi => by rw [blk_cell H4.out i]; exact H3.out i hi)).mono ?_
  rintro e w2 ⟨i, hi, hz, ht, rfl, rfl⟩
  have HI := Aside0.mk (And.intro hi (And.intro hz ht))
  clear hi hz ht
  go_wp2_with fail
  refine bodyPost_ret (results_tmp2 rfl _ _ _) rfl ?_
  obtain ⟨hi, hz, ht⟩ := HI.out
  refine ⟨_, _, rfl, dy_norm HBG.out HCM.out.1 HCM.out.2 HSZ.out H1.out.1 H1.out.2.1 H3.out H4.out H5.out H1.out.2.2 hi hz ht, ?_⟩
  exact H7.out

/-- What div leaves in place. -/
def DivIn (base g Z y : Nat) (w : World) (e : Ending) (w' : World) : Prop := ∃ i c r, e = .returned (.tuple #[.slice (some ⟨g, 0, none⟩) i c, r]) ∧ Nt w' base (.slice (some ⟨g, 0, none⟩) i c) (figs 18446744073709551616 (Z / y)) ∧ Nt w' base r (figs 18446744073709551616 (Z % y)) ∧ w.grownBy w' (some g)

set_option maxHeartbeats 2000000 in
set_option maxRecDepth 100000 in
/-- div by one word in place. -/
theorem div_in (base g Z y : Nat) (zv stk uv : Value) (gv cv : Nat) (w : World) (hy0 : 0 < y) (hy : y < 18446744073709551616) (hb : base ≤ w.heap.size) (hv : w.cell? ⟨gv, 0, none⟩ = some (.int .u64 y)) (hcv : 1 ≤ cv)
    (hD : Calls Tryz.prog 194 #[zv, uv, .int .u64 y] w (DwIn base g Z y w)) :
    Calls Tryz.prog 139 #[zv, stk, .slice none 0 0, uv, .slice (some ⟨gv, 0, none⟩) 1 cv] w (DivIn base g Z y w) := by
  have HD := Aside0.mk hD
  have HB := Aside0.mk hb
  have HS := Lib.hid (fun W => setWord_any W.heap.size (Z % y) W (Nat.lt_trans (Nat.mod_lt _ hy0) hy) (Nat.le_refl _))
  obtain ⟨r, hr⟩ : ∃ r, r = Z % y := ⟨_, rfl⟩
  unfold DwIn at HD
  unfold DivIn
  rw [← hr] at HD HS ⊢
  clear hD hy0 hy hb hr
  go_enter_defers Tryz.func139, Tryz.ntmps139
  go_wp2_with fail
  refine HD.out.mono ?_
  rintro e w1 ⟨qi, qc, rfl, hq, hb1⟩
  have HQ := Aside0.mk hq
  have HB1 := Aside0.mk hb1
  clear hq hb1
  go_wp2_with fail
  refine (HS.out w1).mono ?_
  rintro e w2 ⟨rv, rfl, hrv, hb2⟩
  have HR := Aside0.mk hrv
  have HB2 := Aside0.mk hb2
  clear hrv hb2
  go_wp2_with fail
  refine ⟨_, results_tmp2 rfl _ _ _, qi, qc, rv, rfl, Nt_below HQ.out HB2.out, Nt_low HR.out (Nat.le_trans HB.out HB1.out.size), only_below HB1.out HB2.out⟩

theorem Nt_kept {w w1 : World} {base g : Nat} {v : Value} {xs : List Int} (h : Nt w base v xs) (ho : w.grownBy w1 (some g)) (hg : ∀ k, v.ownBlock = some k → k ≠ g) : Nt w1 base v xs := by
  refine World.ownsRow.kept h ho ?_
  rcases hv : v.ownBlock with _ | k
  · exact .inl rfl
  · right
    intro e
    cases e
    exact hg _ hv rfl

theorem Nt_blk {w : World} {base : Nat} {v : Value} {xs : List Int} (h : Nt w base v xs) {k : Nat} (hk : v.ownBlock = some k) : ∃ cur, w.heap[k]? = some (.cells cur 167 (0, 0)) := by
  rcases h.2 with ⟨e, -⟩ | ⟨g, cap, cur, e, -, hg, -⟩
  · subst e; simp [Value.ownBlock] at hk
  · subst e
    simp [Value.ownBlock] at hk
    subst hk
    exact ⟨cur, hg⟩

/-- A store into a block of another kind. -/
theorem Nt_other {w : World} {base : Nat} {v : Value} {xs : List Int} (h : Nt w base v xs) {p : Addr} {cs : Array Value} {t : TypeId} (hp : w.heap[p.block]? = some (.cells cs t (0, 0))) (ht : t ≠ 167) (u : Value) : Nt (w.setCell p u) base v xs :=
  Nt_kept h (only_setCell (only_refl _ _) (.inl rfl) u) (fun k hk e => by
    obtain ⟨cur, hc⟩ := Nt_blk h hk
    rw [e, hp] at hc
    injection hc with hc
    injection hc with _ h2 _
    exact ht h2)

/-- div by one word of a number in its own room. -/
theorem div_nt (base Z y : Nat) (v stk : Value) (gv cv : Nat) (w : World) (hZ : 0 < Z) (hl : (figs 18446744073709551616 Z).length ≤ 100000) (hy1 : 1 < y) (hy : y < 18446744073709551616) (hb : base ≤ w.heap.size) (hv : w.cell? ⟨gv, 0, none⟩ = some (.int .u64 y)) (hcv : 1 ≤ cv)
    (h : Nt w base v (figs 18446744073709551616 Z)) : ∃ ha, v.ownBlock = some ha ∧ base ≤ ha ∧ (∃ cur, w.heap[ha]? = some (.cells cur 167 (0, 0))) ∧
      Calls Tryz.prog 139 #[v, stk, .slice none 0 0, v, .slice (some ⟨gv, 0, none⟩) 1 cv] w (DivIn base ha Z y w) := by
  have hne := figs_ne (B := 18446744073709551616) (by decide) hZ
  obtain ⟨ha, cap, cur, rfl, hbg, hg, hn, hcm, hs, hc⟩ := Nt_form h hne
  exact ⟨ha, rfl, hbg, ⟨cur, hg⟩, div_in base ha Z y _ stk _ gv cv w (by omega) hy hb hv hcv (divW_in base Z y ha cap cur w hy1 hy hb hbg _ rfl (List.length_pos_iff.2 hne) hl hn hcm hg hs hc)⟩

end Go.Proofs.YtgpoplfgngiilaaGreatDoor
