/- spec.PowerOf, spec.Times over fractions that are told by their figures; laws.pointed. spec.fraction, Rational, IsFloat over a Value of Kind Float that is told by its words. spec.Rational, same, IsFloat over a Value of Kind Float that is told by its words. -/
import Derived.Test.YtgpoplfgngiilaaGreatDoorZ03
import Derived.Test.YtgpoplfgngiilaaGreatDoorZ24
import Derived.Deep.RegionHeld3
import Derived.BigQuiet
set_option linter.unusedVariables false
set_option linter.unusedSimpArgs false
namespace Go.Proofs.YtgpoplfgngiilaaGreatDoor
open Go.RowKit Go.Proofs.YtgpoplfgngiilaaGreatDoorW.PrintWords Go.Proofs.YtgpoplfgngiilaaGreatDoorW.PrintLast Go.Proofs.YtgpoplfgngiilaaGreatDoorW.PrintMore PAll Pl

theorem figs_pow (b n : Nat) (hb : b < 65536) : (figs 65536 (b ^ n)).length ≤ n + 1 := by
  refine figs_length_le (by omega) _ _ ?_
  rw [Nat.pow_succ]
  have h1 : b ^ n ≤ 65536 ^ n := Nat.pow_le_pow_left (by omega) n
  have h2 : 0 < 65536 ^ n := Nat.pow_pos (by omega)
  omega

set_option maxHeartbeats 2000000 in
theorem powerOf_neg (b k : Nat) (hb0 : 0 < b) (hb : b < 65536) (hk0 : 0 < k) (hk : k < 50000) (w : World) :
    Calls Tryz.prog 21 #[.int .i64 b, .int .i64 (-(k : Int))] w (RtOk 1 (b ^ k) w) := by
  obtain ⟨W0, hW0⟩ : ∃ W0, W0 = w.alloc (.cells #[.bool false, .slice none 0 0, .slice none 0 0] 31) := ⟨_, rfl⟩
  have hn0 : W0.heap[w.heap.size]? = some (.cells #[.bool false, .slice none 0 0, .slice none 0 0] 31 (0, 0)) := by rw [hW0]; exact heap_alloc_new _ _
  have hb00 : Below w.heap.size w W0 := by rw [hW0]; exact below_alloc (Below.refl _ _) _
  have HN0 := Aside0.mk hn0
  have HB0 := Aside0.mk hb00
  have HO := Lib.hid (fun u v W hu hv => over_nd 1 (b ^ k) (Nat.pow_pos hb0) u v W hu hv (Nat.lt_of_le_of_lt (figs_length_le (B := 65536) (by omega) 1 1 (by omega)) (by omega)) (by have := figs_pow b k hb; omega))
  rw [Nat.gcd_one_left, Nat.div_one, Nat.div_one] at HO
  have HP := Lib.hid (fun W => power_nd b k hb0 hb (by omega) W)
  obtain ⟨K, hK⟩ : ∃ K : Int, K = (k : Int) := ⟨_, rfl⟩
  have hk1 : (0 : Int) < K := by omega
  have hkk : K ≤ 50000 := by omega
  have hneg : decide (-K < 0) = true := decide_eq_true (by omega)
  rw [← hK] at HP ⊢
  have HW0 := Lib.hid hW0
  obtain ⟨pw, hpw⟩ : ∃ p, p = b ^ k := ⟨_, rfl⟩
  rw [← hpw] at HO HP ⊢
  clear hW0 hn0 hb00 hk0 hk hpw hb hb0 hK
  go_enter Tryz.func21, Tryz.ntmps21
  go_wp2_with fail
  rw [← HW0.out]
  clear HW0
  refine (small_nd 1 (by omega) W0).mono ?_
  rintro e w1 ⟨uv, rfl, hu, hb1⟩
  have HU := Aside0.mk hu
  have HB1 := Aside0.mk hb1
  clear hu hb1
  go_wp2_with fail
  refine (HP.out w1).mono ?_
  rintro e w2 ⟨pv, rfl, hp, hb2⟩
  have HPV := Aside0.mk hp
  have HB2 := Aside0.mk hb2
  clear hp hb2
  go_wp2_with fail
  refine (HO.out _ _ w2 (HU.out.below HB2.out) HPV.out).mono ?_
  rintro e w3 ⟨v, rfl, ⟨A, k1, c, B, l, e1, rfl, h1, h2⟩, hb3⟩
  have H1 := Aside0.mk h1
  have H2 := Aside0.mk h2
  have HB3 := Aside0.mk (below_step (below_step (below_step HB0.out HB1.out) HB2.out) hb3)
  have hbk := blk_below (blk_below (blk_below HN0.out HB1.out) HB2.out) hb3
  have hc0 : w3.cell? ⟨w.heap.size, 0, none⟩ = some (.bool false) := blk_cell hbk 0
  have hc1 : w3.cell? ⟨w.heap.size, 1, none⟩ = some (.slice none 0 0) := blk_cell hbk 1
  have hc2 : w3.cell? ⟨w.heap.size, 2, none⟩ = some (.slice none 0 0) := blk_cell hbk 2
  have hf0 : w3.frozen? ⟨w.heap.size, 0, none⟩ = false := blk_frozen hbk 0
  have hf1 : w3.frozen? ⟨w.heap.size, 1, none⟩ = false := blk_frozen hbk 1
  have hf2 : w3.frozen? ⟨w.heap.size, 2, none⟩ = false := blk_frozen hbk 2
  have HBK := Aside0.mk hbk
  clear h1 h2 hb3 hbk
  go_wp2_with fail
  obtain ⟨f1, f2, f3⟩ := rt_store HBK.out H1.out H2.out HB3.out (Nat.le_refl _)
  refine bodyPost_ret (results_cell_row rfl _ _ w.heap.size 31 _ (0, 0) _ rfl f1 Tryz.underlying31 rfl (by kernel_rfl)) rfl ?_
  exact ⟨_, rfl, f2, f3⟩

theorem Nd_one {w : World} {e base : Nat} {ok : Nat → Prop} {A : Option Addr} {c : Nat} (h : Kd.V (Kd.int .i64) e w base ok (.slice A 1 c) [1]) : Nd w (.slice A 1 c) 1 := by
  have e1 : figs 65536 1 = [1] := figs_one (by omega) (by omega) (by omega)
  rw [← e1] at h
  exact Nd.of_V h

/-- spec.Whole of a number told by its figures. -/
theorem whole_nd (n : Nat) (u : Value) (w : World) (hu : Nd w u n) : Calls Tryz.prog 20 #[.bool false, u] w (RtOk n 1 w) := by
  obtain ⟨A, k, c, rfl, -⟩ := hu.form
  refine (whole_any false A k c w).mono ?_
  rintro e w' ⟨A1, c1, rfl, hV, hb⟩
  exact ⟨_, rfl, ⟨A, k, c, A1, 1, c1, by simp, hu.below hb, Nd_one hV⟩, hb⟩

set_option maxHeartbeats 2000000 in
theorem powerOf_pos (b k : Nat) (hb0 : 0 < b) (hb : b < 65536) (hk : k < 50000) (w : World) :
    Calls Tryz.prog 21 #[.int .i64 b, .int .i64 k] w (RtOk (b ^ k) 1 w) := by
  obtain ⟨W0, hW0⟩ : ∃ W0, W0 = w.alloc (.cells #[.bool false, .slice none 0 0, .slice none 0 0] 31) := ⟨_, rfl⟩
  have hn0 : W0.heap[w.heap.size]? = some (.cells #[.bool false, .slice none 0 0, .slice none 0 0] 31 (0, 0)) := by rw [hW0]; exact heap_alloc_new _ _
  have hb00 : Below w.heap.size w W0 := by rw [hW0]; exact below_alloc (Below.refl _ _) _
  have HN0 := Aside0.mk hn0
  have HB0 := Aside0.mk hb00
  have HP := Lib.hid (fun W => power_nd b k hb0 hb (by omega) W)
  have hneg : ¬ ((k : Int) < 0) := by omega
  have hneg2 : decide ((k : Int) < 0) = false := decide_eq_false hneg
  have HW0 := Lib.hid hW0
  obtain ⟨pw, hpw⟩ : ∃ p, p = b ^ k := ⟨_, rfl⟩
  rw [← hpw] at HP ⊢
  clear hW0 hn0 hb00 hk hpw hb hb0
  go_enter Tryz.func21, Tryz.ntmps21
  go_wp2_with fail
  rw [← HW0.out]
  clear HW0
  refine (HP.out W0).mono ?_
  rintro e w1 ⟨pv, rfl, hp, hb1⟩
  have HPV := Aside0.mk hp
  have HB1 := Aside0.mk hb1
  obtain ⟨pA, pk, pc, rfl, -⟩ := hp.form
  clear hp hb1
  go_wp2_with fail
  refine (whole_nd pw _ w1 HPV.out).mono ?_
  rintro e w3 ⟨v, rfl, ⟨A, k1, c, B, l, e1, rfl, h1, h2⟩, hb3⟩
  have H1 := Aside0.mk h1
  have H2 := Aside0.mk h2
  have HB3 := Aside0.mk (below_step (below_step HB0.out HB1.out) hb3)
  have hbk := blk_below (blk_below HN0.out HB1.out) hb3
  have hc0 : w3.cell? ⟨w.heap.size, 0, none⟩ = some (.bool false) := blk_cell hbk 0
  have hc1 : w3.cell? ⟨w.heap.size, 1, none⟩ = some (.slice none 0 0) := blk_cell hbk 1
  have hc2 : w3.cell? ⟨w.heap.size, 2, none⟩ = some (.slice none 0 0) := blk_cell hbk 2
  have hf0 : w3.frozen? ⟨w.heap.size, 0, none⟩ = false := blk_frozen hbk 0
  have hf1 : w3.frozen? ⟨w.heap.size, 1, none⟩ = false := blk_frozen hbk 1
  have hf2 : w3.frozen? ⟨w.heap.size, 2, none⟩ = false := blk_frozen hbk 2
  have HBK := Aside0.mk hbk
  clear h1 h2 hb3 hbk
  go_wp2_with fail
  obtain ⟨f1, f2, f3⟩ := rt_store HBK.out H1.out H2.out HB3.out (Nat.le_refl _)
  refine bodyPost_ret (results_cell_row rfl _ _ w.heap.size 31 _ (0, 0) _ rfl f1 Tryz.underlying31 rfl (by kernel_rfl)) rfl ?_
  exact ⟨_, rfl, f2, f3⟩

/-- What holds while Times runs. -/
structure TmI (w : World) (b1 b2 : Array Value) (W : World) : Prop where
  below : Below w.heap.size w W
  size : w.heap.size + 3 ≤ W.heap.size
  box1 : W.heap[w.heap.size]? = some (.cells b1 31 (0, 0))
  box2 : W.heap[w.heap.size + 1]? = some (.cells b2 31 (0, 0))
theorem TmI.next {w W W1 : World} {b1 b2 : Array Value} (h : TmI w b1 b2 W) (hb : Below W.heap.size W W1) : TmI w b1 b2 W1 :=
  ⟨below_step h.below hb, Nat.le_trans h.size hb.size, blk_below h.box1 hb, blk_below h.box2 hb⟩
theorem TmI.drew {w W : World} {b1 b2 : Array Value} (h : TmI w b1 b2 W) : TmI w b1 b2 W.drew := h.next (below_drew (Below.refl _ _))
theorem TmI.set_ {w W : World} {b1 b2 : Array Value} (h : TmI w b1 b2 W) (i : Nat) (u : Value) : TmI w b1 b2 (W.setCell ⟨w.heap.size + 2, i, none⟩ u) :=
  ⟨h.below.setCell (by simp) _, by simpa [World.setCell] using h.size, blk_far h.box1 (by simp) _, blk_far h.box2 (by simp) _⟩
theorem TmI.cells {w W : World} {x0 x1 x2 y0 y1 y2 : Value} (h : TmI w #[x0, x1, x2] #[y0, y1, y2] W) :
    W.cell? ⟨w.heap.size, 0, none⟩ = some x0 ∧ W.cell? ⟨w.heap.size, 1, none⟩ = some x1 ∧ W.cell? ⟨w.heap.size, 2, none⟩ = some x2 ∧ W.cell? ⟨w.heap.size + 1, 0, none⟩ = some y0 ∧ W.cell? ⟨w.heap.size + 1, 1, none⟩ = some y1 ∧ W.cell? ⟨w.heap.size + 1, 2, none⟩ = some y2 ∧ TmI w #[x0, x1, x2] #[y0, y1, y2] W :=
  ⟨blk_cell h.box1 0, blk_cell h.box1 1, blk_cell h.box1 2, blk_cell h.box2 0, blk_cell h.box2 1, blk_cell h.box2 2, h⟩

set_option maxHeartbeats 8000000 in
set_option maxRecDepth 100000 in
theorem times_nd (n1 d1 n2 d2 : Nat) (hd : 0 < d1 * d2) (u v : Value) (w : World) (hu : Rt w u n1 d1) (hv : Rt w v n2 d2) (h1 : (figs 65536 n1).length < 50000) (h2 : (figs 65536 n2).length < 50000) (h3 : (figs 65536 d1).length < 50000) (h4 : (figs 65536 d2).length < 50000)
    (h5 : (figs 65536 (n1 * n2)).length < 100000) (h6 : (figs 65536 (d1 * d2)).length < 100000) :
    Calls Tryz.prog 19 #[u, v] w (RtOk (n1 * n2 / Nat.gcd (n1 * n2) (d1 * d2)) (d1 * d2 / Nat.gcd (n1 * n2) (d1 * d2)) w) := by
  obtain ⟨A1, k1, c1, B1, l1, e1, rfl, hn1, hd1⟩ := hu
  obtain ⟨A2, k2, c2, B2, l2, e2, rfl, hn2, hd2⟩ := hv
  obtain ⟨W0, hW0⟩ : ∃ W0, W0 = ((w.alloc (.cells #[.bool false, .slice A1 k1 c1, .slice B1 l1 e1] 31)).alloc (.cells #[.bool false, .slice A2 k2 c2, .slice B2 l2 e2] 31)).alloc (.cells #[.bool false, .slice none 0 0, .slice none 0 0] 31) := ⟨_, rfl⟩
  have hI : TmI w #[.bool false, .slice A1 k1 c1, .slice B1 l1 e1] #[.bool false, .slice A2 k2 c2, .slice B2 l2 e2] W0 := by
    refine ⟨?_, ?_, ?_, ?_⟩
    · rw [hW0]; exact below_alloc (below_alloc (below_alloc (Below.refl _ _) _) _) _
    · rw [hW0]; simp
    · rw [hW0]; exact blk_alloc (blk_alloc (heap_alloc_new _ _) _) _
    · rw [hW0]; exact blk_alloc (by simpa using heap_alloc_new (w.alloc (.cells #[.bool false, .slice A1 k1 c1, .slice B1 l1 e1] 31)) (.cells #[.bool false, .slice A2 k2 c2, .slice B2 l2 e2] 31)) _
  have hres : W0.heap[w.heap.size + 2]? = some (.cells #[.bool false, .slice none 0 0, .slice none 0 0] 31 (0, 0)) := by
    rw [hW0]
    simpa using heap_alloc_new ((w.alloc (.cells #[.bool false, .slice A1 k1 c1, .slice B1 l1 e1] 31)).alloc (.cells #[.bool false, .slice A2 k2 c2, .slice B2 l2 e2] 31)) (.cells #[.bool false, .slice none 0 0, .slice none 0 0] 31)
  have HMN := Lib.hid (fun W (hb : Below w.heap.size w W) => mul_nd n1 n2 (.slice A1 k1 c1) (.slice A2 k2 c2) W (hn1.below hb) (hn2.below hb) (by omega) (by omega))
  have HMD := Lib.hid (fun W (hb : Below w.heap.size w W) => mul_nd d1 d2 (.slice B1 l1 e1) (.slice B2 l2 e2) W (hd1.below hb) (hd2.below hb) (by omega) (by omega))
  have HO := Lib.hid (fun u v W hu hv => over_nd (n1 * n2) (d1 * d2) hd u v W hu hv h5 h6)
  have HRES := Aside0.mk hres
  have HI0 := Aside0.mk hI
  obtain ⟨N, hN⟩ : ∃ N, N = n1 * n2 := ⟨_, rfl⟩
  obtain ⟨D, hD⟩ : ∃ D, D = d1 * d2 := ⟨_, rfl⟩
  rw [← hN] at HMN HO
  rw [← hD] at HMD HO
  rw [← hN, ← hD]
  have hl : w.heap.size + 3 ≤ W0.heap.size := hI.size
  have HW0 := Lib.hid hW0
  clear hW0 hI hres hn1 hd1 hn2 hd2 hd h1 h2 h3 h4 h5 h6 hN hD
  go_enter Tryz.func19, Tryz.ntmps19
  go_wp2_with fail
  rw [← HW0.out]
  clear HW0
  refine wp_region_noPanic ?_
  refine wp_region_held_drew (S := (fun w' => w'.cell? ⟨w.heap.size, 0, none⟩ = some (.bool false) ∧ w'.cell? ⟨w.heap.size, 1, none⟩ = some (.slice A1 k1 c1) ∧ w'.cell? ⟨w.heap.size, 2, none⟩ = some (.slice B1 l1 e1) ∧ w'.cell? ⟨w.heap.size + 1, 0, none⟩ = some (.bool false) ∧ w'.cell? ⟨w.heap.size + 1, 1, none⟩ = some (.slice A2 k2 c2) ∧ w'.cell? ⟨w.heap.size + 1, 2, none⟩ = some (.slice B2 l2 e2) ∧ TmI w #[.bool false, .slice A1 k1 c1, .slice B1 l1 e1] #[.bool false, .slice A2 k2 c2, .slice B2 l2 e2] w')) (by kernel_rfl) ?_ (fun hHeld => ?_)
  · (try dsimp only); go_split_ands; exact TmI.cells HI0.out.drew
  refine wpAnyH_take (i := 0) (v := ?_) rfl (by kernel_rfl) (by kernel_rfl) (by kernel_rfl) (fun _ _ _ h => h) (Or.inl ⟨by rfl, ?_⟩) (by assumption) ?_
  rotate_left
  · intro w hSw; (try dsimp only at hSw); go_simp; first | done | with_reducible rfl
  try simp only [Act.put, List.setIfInBounds_toArray, List.set_cons_zero, List.set_cons_succ]
  refine wpAnyH_take (i := 1) (v := ?_) rfl (by kernel_rfl) (by kernel_rfl) (by kernel_rfl) (fun _ _ _ h => h) (Or.inl ⟨by rfl, ?_⟩) (by assumption) ?_
  rotate_left
  · intro w hSw; (try dsimp only at hSw); go_simp; first | done | with_reducible rfl
  try simp only [Act.put, List.setIfInBounds_toArray, List.set_cons_zero, List.set_cons_succ]
  refine wpAnyH_take (i := 2) (v := ?_) rfl (by kernel_rfl) (by kernel_rfl) (by kernel_rfl) (fun _ _ _ h => h) (Or.inl ⟨by rfl, ?_⟩) (by assumption) ?_
  rotate_left
  · intro w hSw; (try dsimp only at hSw); go_simp; first | done | with_reducible rfl
  try simp only [Act.put, List.setIfInBounds_toArray, List.set_cons_zero, List.set_cons_succ]
  refine wpAnyH_take (i := 3) (v := ?_) rfl (by kernel_rfl) (by kernel_rfl) (by kernel_rfl) (fun _ _ _ h => h) (Or.inl ⟨by rfl, ?_⟩) (by assumption) ?_
  rotate_left
  · intro w hSw; (try dsimp only at hSw); go_simp; first | done | with_reducible rfl
  try simp only [Act.put, List.setIfInBounds_toArray, List.set_cons_zero, List.set_cons_succ]
  refine wpAnyH_take (i := 4) (v := ?_) rfl (by kernel_rfl) (by kernel_rfl) (by kernel_rfl) (fun _ _ _ h => h) (Or.inl ⟨by rfl, ?_⟩) (by assumption) ?_
  rotate_left
  · intro w hSw; (try dsimp only at hSw); go_simp; first | done | with_reducible rfl
  try simp only [Act.put, List.setIfInBounds_toArray, List.set_cons_zero, List.set_cons_succ]
  refine wpAnyH_take (i := 5) (v := ?_) rfl (by kernel_rfl) (by kernel_rfl) (by kernel_rfl) (fun _ _ _ h => h) (Or.inl ⟨by rfl, ?_⟩) (by assumption) ?_
  rotate_left
  · intro w hSw; (try dsimp only at hSw); go_simp; first | done | with_reducible rfl
  try simp only [Act.put, List.setIfInBounds_toArray, List.set_cons_zero, List.set_cons_succ]
  refine wpAnyH_take (i := 6) (v := ?_) rfl (by kernel_rfl) (by kernel_rfl) (by kernel_rfl) (fun _ _ _ h => h) (Or.inl ⟨by rfl, ?_⟩) (by assumption) ?_
  rotate_left
  · intro w hSw; (try dsimp only at hSw); go_simp; first | done | with_reducible rfl
  try simp only [Act.put, List.setIfInBounds_toArray, List.set_cons_zero, List.set_cons_succ]
  refine wpAnyH_take (i := 7) (v := ?_) rfl (by kernel_rfl) (by kernel_rfl) (by kernel_rfl) (fun _ _ _ h => h) (Or.inl ⟨by rfl, ?_⟩) (by assumption) ?_
  rotate_left
  · intro w hSw; (try dsimp only at hSw); go_simp; first | done | with_reducible rfl
  try simp only [Act.put, List.setIfInBounds_toArray, List.set_cons_zero, List.set_cons_succ]
  refine wpAnyH_take (i := 8) (v := ?_) rfl (by kernel_rfl) (by kernel_rfl) (by kernel_rfl) (fun _ _ _ h => h) (Or.inl ⟨by rfl, ?_⟩) (by assumption) ?_
  rotate_left
  · intro w hSw; (try dsimp only at hSw); go_simp; first | done | with_reducible rfl
  try simp only [Act.put, List.setIfInBounds_toArray, List.set_cons_zero, List.set_cons_succ]
  refine wpAnyH_take (i := 10) (v := ?_) rfl (by kernel_rfl) (by kernel_rfl) (by kernel_rfl) (fun _ _ _ h => h) (Or.inl ⟨by rfl, ?_⟩) (by assumption) ?_
  rotate_left
  · intro w hSw; (try dsimp only at hSw); go_simp; first | done | with_reducible rfl
  try simp only [Act.put, List.setIfInBounds_toArray, List.set_cons_zero, List.set_cons_succ]
  refine wpAnyH_take (i := 11) (v := ?_) rfl (by kernel_rfl) (by kernel_rfl) (by kernel_rfl) (fun _ _ _ h => h) (Or.inl ⟨by rfl, ?_⟩) (by assumption) ?_
  rotate_left
  · intro w hSw; (try dsimp only at hSw); go_simp; first | done | with_reducible rfl
  try simp only [Act.put, List.setIfInBounds_toArray, List.set_cons_zero, List.set_cons_succ]
  refine wpAnyH_take (i := 12) (v := ?_) rfl (by kernel_rfl) (by kernel_rfl) (by kernel_rfl) (fun _ _ _ h => h) (Or.inl ⟨by rfl, ?_⟩) (by assumption) ?_
  rotate_left
  · intro w hSw; (try dsimp only at hSw); go_simp; first | done | with_reducible rfl
  try simp only [Act.put, List.setIfInBounds_toArray, List.set_cons_zero, List.set_cons_succ]
  refine wpAnyH_take (i := 13) (v := ?_) rfl (by kernel_rfl) (by kernel_rfl) (by kernel_rfl) (fun _ _ _ h => h) (Or.inl ⟨by rfl, ?_⟩) (by assumption) ?_
  rotate_left
  · intro w hSw; (try dsimp only at hSw); go_simp; first | done | with_reducible rfl
  try simp only [Act.put, List.setIfInBounds_toArray, List.set_cons_zero, List.set_cons_succ]
  refine wpAnyH_ready (rs := [9]) (by kernel_rfl) (by simp) ?_
  refine AllReadyH.cons rfl (fun K hK => ?_) AllReadyH.nil
  go_simp
  refine (HMN.out _ (by go_split_ands; exact TmI.below (by assumption))).mono ?_
  rintro e wA ⟨vA, rfl, hA, hbA⟩
  have HA := Aside0.mk hA
  have HBA := Aside0.mk hbA
  clear hA hbA
  go_wp2_with fail
  refine hK.out _ _ ?_ (fun hHeld2 => ?_)
  · (try dsimp only); go_split_ands; exact TmI.cells (TmI.next (by assumption) HBA.out)
  clear hK K hHeld
  try simp only [Act.put, List.setIfInBounds_toArray, List.set_cons_zero, List.set_cons_succ]
  refine wpAnyH_ready (rs := [14]) (by kernel_rfl) (by simp) ?_
  refine AllReadyH.cons rfl (fun K hK => ?_) AllReadyH.nil
  go_simp
  refine (HMD.out _ (by go_split_ands; exact TmI.below (by assumption))).mono ?_
  rintro e wB ⟨vB, rfl, hB, hbB⟩
  have HB := Aside0.mk hB
  have HBB := Aside0.mk hbB
  clear hB hbB
  go_wp2_with fail
  refine hK.out _ _ ?_ (fun hHeld22 => ?_)
  · (try dsimp only); go_split_ands; exact TmI.cells (TmI.next (by assumption) HBB.out)
  clear hK K hHeld2
  try simp only [Act.put, List.setIfInBounds_toArray, List.set_cons_zero, List.set_cons_succ]
  refine wpAnyH_ready (rs := [15]) (by kernel_rfl) (by simp) ?_
  refine AllReadyH.cons rfl (fun K hK => ?_) AllReadyH.nil
  go_simp
  refine (HO.out _ _ _ (HA.out.below HBB.out) HB.out).mono ?_
  rintro e wO ⟨v, rfl, ⟨A3, k3, c3, B3, l3, e3, rfl, h1, h2⟩, hbO⟩
  have H1 := Aside0.mk h1
  have H2 := Aside0.mk h2
  have HBO := Aside0.mk hbO
  have hbk := blk_below (blk_below (blk_below (blk_drew HRES.out) HBA.out) HBB.out) hbO
  have HBK := Aside0.mk hbk
  clear h1 h2 hbO hbk
  go_wp2_with fail
  refine hK.out _ _ ?_ (fun hHeld222 => ?_)
  · (try dsimp only); go_split_ands; exact TmI.cells (TmI.next (by assumption) HBO.out)
  clear hK K hHeld22
  try simp only [Act.put, List.setIfInBounds_toArray, List.set_cons_zero, List.set_cons_succ]
  have s0 : wO.cell? ⟨w.heap.size + 2, 0, none⟩ = some (.bool false) := blk_cell HBK.out 0
  have sf0 : wO.frozen? ⟨w.heap.size + 2, 0, none⟩ = false := blk_frozen HBK.out 0
  have s1 : wO.cell? ⟨w.heap.size + 2, 1, none⟩ = some (.slice none 0 0) := blk_cell HBK.out 1
  have sf1 : wO.frozen? ⟨w.heap.size + 2, 1, none⟩ = false := blk_frozen HBK.out 1
  have s2 : wO.cell? ⟨w.heap.size + 2, 2, none⟩ = some (.slice none 0 0) := blk_cell HBK.out 2
  have sf2 : wO.frozen? ⟨w.heap.size + 2, 2, none⟩ = false := blk_frozen HBK.out 2
  refine wpAnyH_ready (rs := [16]) (by kernel_rfl) (by simp) ?_
  refine AllReadyH.cons rfl (fun K hK => ?_) AllReadyH.nil
  go_simp
  refine hK.out _ _ ?_ (fun hHeld2222 => ?_)
  · (try dsimp only); go_split_ands; exact TmI.cells (TmI.set_ (TmI.set_ (TmI.set_ (by assumption) _ _) _ _) _ _)
  try simp only [Act.put, List.setIfInBounds_toArray, List.set_cons_zero, List.set_cons_succ]
  refine wpAnyH_done (by kernel_rfl) ?_ _
  refine NoPanic.normal ?_
  go_wp2_with fail
  obtain ⟨f1, f2, f3⟩ := rt_store HBK.out H1.out H2.out (below_step (below_step (below_step (HI0.out.drew).below HBA.out) HBB.out) HBO.out) (by simp)
  refine bodyPost_ret (results_cell_row rfl _ _ (w.heap.size + 2) 31 _ (0, 0) _ rfl f1 Tryz.underlying31 rfl (by kernel_rfl)) rfl ?_
  exact ⟨_, rfl, f2, f3⟩
end Go.Proofs.YtgpoplfgngiilaaGreatDoor

namespace Go.Proofs.YtgpoplfgngiilaaGreatDoor
open Go.RowKit Go.Proofs.YtgpoplfgngiilaaGreatDoorW.PrintWords Go.Proofs.YtgpoplfgngiilaaGreatDoorW.PrintLast Go.Proofs.YtgpoplfgngiilaaGreatDoorW.PrintMore PAll Pl

/-- spec.Of of a number's words. -/
theorem of_nd (n : Nat) (hm : (figs 18446744073709551616 n).length < 100000000) (A : Option Addr) (c : Nat) (w : World) (hC : Kd.C (Kd.int .u64) w A (figs 18446744073709551616 n).length (figs 18446744073709551616 n)) (hc : (figs 18446744073709551616 n).length ≤ c) :
    Calls Tryz.prog 15 #[.slice A (figs 18446744073709551616 n).length c] w fun e w' => ∃ r, e = .returned r ∧ Nd w' r n ∧ Below w.heap.size w w' := by
  have ho := of_f (figs 18446744073709551616 n) (figs_Dg (by decide) n) (by omega)
  rw [figs_val (by decide), Int.toNat_natCast] at ho
  obtain ⟨k, hk⟩ := ho.rounds
  refine (spec_Of.calls k A c _ _ w hC hc hk).mono ?_
  rintro e w' ⟨r, rfl, hr, hb⟩
  exact ⟨r, rfl, Nd.of_V hr, hb⟩

/-- HasWords of a number's words and its figures. -/
theorem hasWords_nd (n : Nat) (hm : (figs 18446744073709551616 n).length < 10000) (hm2 : (figs 65536 n).length < 100000) (A : Option Addr) (c : Nat) (v : Value) (w : World) (hC : Kd.C (Kd.int .u64) w A (figs 18446744073709551616 n).length (figs 18446744073709551616 n)) (hc : (figs 18446744073709551616 n).length ≤ c) (hv : Nd w v n) :
    Calls Tryz.prog 55 #[.slice A (figs 18446744073709551616 n).length c, v] w fun e w' => e = .returned (.bool true) ∧ Below w.heap.size w w' := by
  obtain ⟨A1, c1, rfl, hl, hC1⟩ := hv
  obtain ⟨k, hk⟩ := (has_f n (by omega) (by omega)).rounds
  exact spec_HasWords.calls k A c _ A1 c1 _ true w hC hc hC1 hl hk
theorem isNumber_nd (n : Nat) (hm : (figs 18446744073709551616 n).length < 10000) (hm2 : (figs 65536 n).length < 100000) (A : Option Addr) (c : Nat) (v : Value) (w : World) (hC : Kd.C (Kd.int .u64) w A (figs 18446744073709551616 n).length (figs 18446744073709551616 n)) (hc : (figs 18446744073709551616 n).length ≤ c) (hv : Nd w v n) :
    Calls Tryz.prog 35 #[.agg #[.bool false, .slice A (figs 18446744073709551616 n).length c], .bool false, v] w fun e w' => e = .returned (.bool true) ∧ Below w.heap.size w w' := by
  obtain ⟨A1, c1, rfl, hl, hC1⟩ := hv
  obtain ⟨k, hk⟩ := (has_f n (by omega) (by omega)).rounds
  refine (isNumber_any false false A c _ A1 c1 _ k true w hC hc hC1 hl hk).mono ?_
  rintro e w' ⟨rfl, hb⟩
  exact ⟨by simp, hb⟩

/-- What holds while fraction runs. -/
structure FrI (w : World) (b1 : Array Value) (W : World) : Prop where
  below : Below w.heap.size w W
  size : w.heap.size + 2 ≤ W.heap.size
  box1 : W.heap[w.heap.size]? = some (.cells b1 24 (0, 0))
  res : W.heap[w.heap.size + 1]? = some (.cells #[.bool false, .slice none 0 0, .slice none 0 0] 31 (0, 0))
theorem FrI.next {w W W1 : World} {b1 : Array Value} (h : FrI w b1 W) (hb : Below W.heap.size W W1) : FrI w b1 W1 :=
  ⟨below_step h.below hb, Nat.le_trans h.size hb.size, blk_below h.box1 hb, blk_below h.res hb⟩
theorem FrI.drew {w W : World} {b1 : Array Value} (h : FrI w b1 W) : FrI w b1 W.drew := h.next (below_drew (Below.refl _ _))
theorem FrI.alloc {w W : World} {b1 : Array Value} (h : FrI w b1 W) (o : Obj) : FrI w b1 (W.alloc o) := h.next (below_alloc (Below.refl _ _) o)
theorem FrI.set_ {w W : World} {b1 : Array Value} (h : FrI w b1 W) {p : Addr} (hp : w.heap.size + 2 ≤ p.block) (u : Value) : FrI w b1 (W.setCell p u) :=
  ⟨h.below.setCell (by omega) _, by simpa [World.setCell] using h.size, blk_far h.box1 (by omega) _, blk_far h.res (by omega) _⟩
theorem FrI.cells {w W : World} {x0 x1 : Value} (h : FrI w #[x0, x1] W) : W.cell? ⟨w.heap.size, 0, none⟩ = some x0 ∧ W.cell? ⟨w.heap.size, 1, none⟩ = some x1 ∧ FrI w #[x0, x1] W :=
  ⟨blk_cell h.box1 0, blk_cell h.box1 1, h⟩

theorem FrJ_cells {W : World} {g : Nat} {x0 x1 x2 : Value} (h : W.heap[g]? = some (.cells #[x0, x1, x2] 31 (0, 0))) : W.cell? ⟨g, 0, none⟩ = some x0 ∧ W.cell? ⟨g, 1, none⟩ = some x1 ∧ W.cell? ⟨g, 2, none⟩ = some x2 ∧ W.heap[g]? = some (.cells #[x0, x1, x2] 31 (0, 0)) :=
  ⟨blk_cell h 0, blk_cell h 1, blk_cell h 2, h⟩

/-- Where fraction's v lies. -/
def FrR (w : World) (b1 : Array Value) (n d : Nat) (v6 : Value) (W : World) : Prop := ∃ g A k c B l e, v6 = .pointer (some ⟨g, 0, none⟩) ∧ w.heap.size + 2 ≤ g ∧ W.heap[g]? = some (.cells #[.bool false, .slice A k c, .slice B l e] 31 (0, 0)) ∧ Nd W (.slice A k c) n ∧ Nd W (.slice B l e) d ∧ FrI w b1 W

theorem rt_store2 {w : World} {r : Nat} {A B : Option Addr} {k c l e n d : Nat} (hr : w.heap[r]? = some (.cells #[.bool false, .slice none 0 0, .slice none 0 0] 31 (0, 0))) (h1 : Nd w (.slice A k c) n) (h2 : Nd w (.slice B l e) d) :
    (((w.setCell ⟨r, 0, none⟩ (.bool false)).setCell ⟨r, 1, none⟩ (.slice A k c)).setCell ⟨r, 2, none⟩ (.slice B l e)).heap[r]? = some (.cells #[.bool false, .slice A k c, .slice B l e] 31 (0, 0)) ∧
    Nd (((w.setCell ⟨r, 0, none⟩ (.bool false)).setCell ⟨r, 1, none⟩ (.slice A k c)).setCell ⟨r, 2, none⟩ (.slice B l e)) (.slice A k c) n ∧ Nd (((w.setCell ⟨r, 0, none⟩ (.bool false)).setCell ⟨r, 1, none⟩ (.slice A k c)).setCell ⟨r, 2, none⟩ (.slice B l e)) (.slice B l e) d := by
  have r1 := blk_put (cs := #[.bool false, .slice none 0 0, .slice none 0 0]) hr 0 (.bool false) rfl
  have r2 := blk_put r1 1 (.slice A k c) rfl
  have r3 := blk_put r2 2 (.slice B l e) rfl
  refine ⟨r3, ?_, ?_⟩
  · exact ((h1.set hr (cs3 _ _ _ _ _ _ _) 0 _).set r1 (cs3 _ _ _ _ _ _ _) 1 _).set r2 (cs3 _ _ _ _ _ _ _) 2 _
  · exact ((h2.set hr (cs3 _ _ _ _ _ _ _) 0 _).set r1 (cs3 _ _ _ _ _ _ _) 1 _).set r2 (cs3 _ _ _ _ _ _ _) 2 _

set_option maxHeartbeats 4000000 in
set_option maxRecDepth 100000 in
theorem fraction_nd (n d : Nat) (hd : 0 < d) (hg : Nat.gcd n d = 1) (A : Option Addr) (c : Nat) (B : Option Addr) (e1 : Nat) (w : World)
    (hA : Kd.C (Kd.int .u64) w A (figs 18446744073709551616 n).length (figs 18446744073709551616 n)) (hc : (figs 18446744073709551616 n).length ≤ c)
    (hB : Kd.C (Kd.int .u64) w B (figs 18446744073709551616 d).length (figs 18446744073709551616 d)) (he : (figs 18446744073709551616 d).length ≤ e1)
    (h1 : (figs 18446744073709551616 n).length < 10000) (h2 : (figs 18446744073709551616 d).length < 10000) (h3 : (figs 65536 n).length < 100000) (h4 : (figs 65536 d).length < 100000) :
    Calls Tryz.prog 52 #[.agg #[.bool false, .slice A (figs 18446744073709551616 n).length c], .slice B (figs 18446744073709551616 d).length e1] w fun e w' => ∃ v, e = .returned (.tuple #[v, .bool true]) ∧ Rt w' v n d ∧ Below w.heap.size w w' := by
  obtain ⟨W0, hW0⟩ : ∃ W0, W0 = (w.alloc (.cells #[.bool false, .slice A (figs 18446744073709551616 n).length c] 24)).alloc (.cells #[.bool false, .slice none 0 0, .slice none 0 0] 31) := ⟨_, rfl⟩
  have hI : FrI w #[.bool false, .slice A (figs 18446744073709551616 n).length c] W0 := by
    refine ⟨?_, ?_, ?_, ?_⟩
    · rw [hW0]; exact below_alloc (below_alloc (Below.refl _ _) _) _
    · rw [hW0]; simp
    · rw [hW0]; exact blk_alloc (heap_alloc_new _ _) _
    · rw [hW0]
      simpa using heap_alloc_new (w.alloc (.cells #[.bool false, .slice A (figs 18446744073709551616 n).length c] 24)) (.cells #[.bool false, .slice none 0 0, .slice none 0 0] 31)
  have HON := Lib.hid (fun W (hb : Below w.heap.size w W) => of_nd n (by omega) A c W (Kd.C_below hA hb) hc)
  have HOD := Lib.hid (fun W (hb : Below w.heap.size w W) => of_nd d (by omega) B e1 W (Kd.C_below hB hb) he)
  have HI0 := Aside0.mk hI
  have hz0 : w.heap.size + 2 ≤ W0.heap.size := hI.size
  have HW0 := Lib.hid hW0
  obtain ⟨kn, hkn⟩ : ∃ k, k = (figs 18446744073709551616 n).length := ⟨_, rfl⟩
  obtain ⟨kd, hkd⟩ : ∃ k, k = (figs 18446744073709551616 d).length := ⟨_, rfl⟩
  have HKN := Aside0.mk hkn
  have HKD := Aside0.mk hkd
  have HA := Aside0.mk hA
  have HB := Aside0.mk hB
  have HCC := Aside0.mk (And.intro hc he)
  have HLL := Aside0.mk (And.intro h1 (And.intro h2 (And.intro h3 h4)))
  have HD := Aside0.mk (And.intro hd hg)
  rw [← hkn] at HON HW0 HI0 ⊢
  rw [← hkd] at HOD ⊢
  clear hW0 hI hkn hkd hA hB hc he h1 h2 h3 h4 hd hg
  go_enter Tryz.func52, Tryz.ntmps52
  go_wp2_with fail
  rw [← HW0.out]
  clear HW0
  go_upto_region 1 with (fail)
  go_cut [6] (fun v6 W => FrR w #[.bool false, .slice A kn c] n d v6 W)
  case first =>
    refine wp_region_noPanic ?_
    refine wp_region_held_drew (S := (fun w' => w'.cell? ⟨w.heap.size, 0, none⟩ = some (.bool false) ∧ w'.cell? ⟨w.heap.size, 1, none⟩ = some (.slice A kn c) ∧ FrI w #[.bool false, .slice A kn c] w')) (by kernel_rfl) ?_ (fun hHeld => ?_)
    · (try dsimp only); go_split_ands; exact FrI.cells HI0.out.drew
    refine wpAnyH_take (i := 0) (v := ?_) rfl (by kernel_rfl) (by kernel_rfl) (by kernel_rfl) (fun _ _ _ h => h) (Or.inl ⟨by rfl, ?_⟩) (by assumption) ?_
    rotate_left
    · intro w hSw; (try dsimp only at hSw); go_simp; first | done | with_reducible rfl
    try simp only [Act.put, List.setIfInBounds_toArray, List.set_cons_zero, List.set_cons_succ]
    refine wpAnyH_take (i := 1) (v := ?_) rfl (by kernel_rfl) (by kernel_rfl) (by kernel_rfl) (fun _ _ _ h => h) (Or.inl ⟨by rfl, ?_⟩) (by assumption) ?_
    rotate_left
    · intro w hSw; (try dsimp only at hSw); go_simp; first | done | with_reducible rfl
    try simp only [Act.put, List.setIfInBounds_toArray, List.set_cons_zero, List.set_cons_succ]
    refine wpAnyH_take (i := 2) (v := ?_) rfl (by kernel_rfl) (by kernel_rfl) (by kernel_rfl) (fun _ _ _ h => h) (Or.inl ⟨by rfl, ?_⟩) (by assumption) ?_
    rotate_left
    · intro w hSw; (try dsimp only at hSw); go_simp; first | done | with_reducible rfl
    try simp only [Act.put, List.setIfInBounds_toArray, List.set_cons_zero, List.set_cons_succ]
    refine wpAnyH_take (i := 3) (v := ?_) rfl (by kernel_rfl) (by kernel_rfl) (by kernel_rfl) (fun _ _ _ h => h) (Or.inl ⟨by rfl, ?_⟩) (by assumption) ?_
    rotate_left
    · intro w hSw; (try dsimp only at hSw); go_simp; first | done | with_reducible rfl
    try simp only [Act.put, List.setIfInBounds_toArray, List.set_cons_zero, List.set_cons_succ]
    refine wpAnyH_take (i := 5) (v := ?_) rfl (by kernel_rfl) (by kernel_rfl) (by kernel_rfl) (fun _ _ _ h => h) (Or.inl ⟨by rfl, ?_⟩) (by assumption) ?_
    rotate_left
    · intro w hSw; (try dsimp only at hSw); go_simp; first | done | with_reducible rfl
    try simp only [Act.put, List.setIfInBounds_toArray, List.set_cons_zero, List.set_cons_succ]
    refine wpAnyH_ready (rs := [4, 8]) (by kernel_rfl) (by simp) ?_
    refine AllReadyH.cons rfl (fun K hK => ?_) (AllReadyH.cons rfl (fun K hK => ?_) AllReadyH.nil)
    · skip
      go_simp
      refine (HON.out _ (by go_split_ands; exact FrI.below (by assumption))).mono ?_
      rintro e w1 ⟨V1, rfl, h1, hb1⟩
      obtain ⟨X1, m1, f1, rfl, -⟩ := h1.form
      have H1 := Aside0.mk h1
      have HB1 := Aside0.mk hb1
      clear h1 hb1
      go_wp2_with fail
      refine hK.out _ _ ?_ (fun hH1 => ?_)
      · (try dsimp only); go_split_ands; exact FrI.cells (FrI.next (by assumption) HB1.out)
      clear hK K hHeld
      try simp only [Act.put, List.setIfInBounds_toArray, List.set_cons_zero, List.set_cons_succ]
      refine wpAnyH_ready (rs := [6, 8]) (by kernel_rfl) (by simp) ?_
      refine AllReadyH.cons rfl (fun K hK => ?_) (AllReadyH.cons rfl (fun K hK => ?_) AllReadyH.nil)
      · skip
        go_simp
        refine (HOD.out _ (by go_split_ands; exact FrI.below (by assumption))).mono ?_
        rintro e w2 ⟨V2, rfl, h2, hb2⟩
        obtain ⟨X2, m2, f2, rfl, -⟩ := h2.form
        have H2 := Aside0.mk h2
        have HB2 := Aside0.mk hb2
        clear h2 hb2
        go_wp2_with fail
        refine hK.out _ _ ?_ (fun hH2 => ?_)
        · (try dsimp only); go_split_ands; exact FrI.cells (FrI.next (by assumption) HB2.out)
        clear hK K hH1
        try simp only [Act.put, List.setIfInBounds_toArray, List.set_cons_zero, List.set_cons_succ]
        refine wpAnyH_take (i := 7) (v := ?_) rfl (by kernel_rfl) (by kernel_rfl) (by kernel_rfl) (fun _ _ _ h => h) (Or.inl ⟨by rfl, ?_⟩) (by assumption) ?_
        rotate_left
        · intro w hSw; (try dsimp only at hSw); go_simp; first | done | with_reducible rfl
        try simp only [Act.put, List.setIfInBounds_toArray, List.set_cons_zero, List.set_cons_succ]
        refine wpAnyH_ready (rs := [8]) (by kernel_rfl) (by simp) ?_
        refine AllReadyH.cons rfl (fun K hK => ?_) AllReadyH.nil
        go_simp
        refine hK.out _ _ ?_ (fun hH3 => ?_)
        · (try dsimp only); go_split_ands; exact FrI.cells (FrI.alloc (by assumption) _)
        clear hK K hH2
        try simp only [Act.put, List.setIfInBounds_toArray, List.set_cons_zero, List.set_cons_succ]
        refine wpAnyH_ready (rs := [9]) (by kernel_rfl) (by simp) ?_
        refine AllReadyH.cons rfl (fun K hK => ?_) AllReadyH.nil
        have hgz : w.heap.size + 2 ≤ w2.heap.size := by have h0 := hz0; have h1 := HB1.out.size; have h2 := HB2.out.size; simp at h1 h2 ⊢; omega
        go_simp
        refine hK.out _ _ ?_ (fun hH4 => ?_)
        · (try dsimp only); go_split_ands; exact FrI.cells (FrI.alloc (FrI.next (FrI.next HI0.out.drew HB1.out) HB2.out) _)
        clear hK K hH3
        try simp only [Act.put, List.setIfInBounds_toArray, List.set_cons_zero, List.set_cons_succ]
        refine wpAnyH_done (by kernel_rfl) ?_ _
        refine NoPanic.normal ?_
        go_wp2_with fail
        go_meet
        exact ⟨w2.heap.size, _, _, _, _, _, _, rfl, hgz, heap_alloc_new w2 _, (H1.out.below HB2.out).below (below_alloc (Below.refl _ _) _), H2.out.below (below_alloc (Below.refl _ _) _), by go_split_ands; assumption⟩
      · skip
        go_simp
        refine hK.out _ _ ?_ (fun hH5 => ?_)
        · (try dsimp only); go_split_ands; exact FrI.cells (FrI.alloc (by assumption) _)
        clear hK K hH1
        try simp only [Act.put, List.setIfInBounds_toArray, List.set_cons_zero, List.set_cons_succ]
        refine wpAnyH_ready (rs := [6]) (by kernel_rfl) (by simp) ?_
        refine AllReadyH.cons rfl (fun K hK => ?_) AllReadyH.nil
        go_simp
        refine (HOD.out _ (by go_split_ands; exact FrI.below (by assumption))).mono ?_
        rintro e w2 ⟨V2, rfl, h2, hb2⟩
        obtain ⟨X2, m2, f2, rfl, -⟩ := h2.form
        have H2 := Aside0.mk h2
        have HB2 := Aside0.mk hb2
        have HNB2 : Aside0 (w2.heap[w1.heap.size]? = some (.cells #[.bool false, .slice none 0 0, .slice none 0 0] 31 (0, 0))) := ⟨blk_below (heap_alloc_new w1 _) hb2⟩
        have q20 : w2.cell? ⟨w1.heap.size, 0, none⟩ = some (.bool false) := blk_cell HNB2.out 0
        have qf20 : w2.frozen? ⟨w1.heap.size, 0, none⟩ = false := blk_frozen HNB2.out 0
        have q21 : w2.cell? ⟨w1.heap.size, 1, none⟩ = some (.slice none 0 0) := blk_cell HNB2.out 1
        have qf21 : w2.frozen? ⟨w1.heap.size, 1, none⟩ = false := blk_frozen HNB2.out 1
        have q22 : w2.cell? ⟨w1.heap.size, 2, none⟩ = some (.slice none 0 0) := blk_cell HNB2.out 2
        have qf22 : w2.frozen? ⟨w1.heap.size, 2, none⟩ = false := blk_frozen HNB2.out 2
        clear h2 hb2
        go_wp2_with fail
        refine hK.out _ _ ?_ (fun hH6 => ?_)
        · (try dsimp only); go_split_ands; exact FrI.cells (FrI.next (by assumption) HB2.out)
        clear hK K hH5
        try simp only [Act.put, List.setIfInBounds_toArray, List.set_cons_zero, List.set_cons_succ]
        refine wpAnyH_take (i := 7) (v := ?_) rfl (by kernel_rfl) (by kernel_rfl) (by kernel_rfl) (fun _ _ _ h => h) (Or.inl ⟨by rfl, ?_⟩) (by assumption) ?_
        rotate_left
        · intro w hSw; (try dsimp only at hSw); go_simp; first | done | with_reducible rfl
        try simp only [Act.put, List.setIfInBounds_toArray, List.set_cons_zero, List.set_cons_succ]
        refine wpAnyH_ready (rs := [9]) (by kernel_rfl) (by simp) ?_
        refine AllReadyH.cons rfl (fun K hK => ?_) AllReadyH.nil
        have hgz : w.heap.size + 2 ≤ w1.heap.size := by have h0 := hz0; have h1 := HB1.out.size; have h2 := HB2.out.size; simp at h1 h2 ⊢; omega
        go_simp
        refine hK.out _ _ ?_ (fun hH7 => ?_)
        · (try dsimp only); go_split_ands; exact FrI.cells (FrI.set_ (p := ⟨w1.heap.size, 2, none⟩) (FrI.set_ (p := ⟨w1.heap.size, 1, none⟩) (FrI.set_ (p := ⟨w1.heap.size, 0, none⟩) (by assumption) (by simp; omega) _) (by simp; omega) _) (by simp; omega) _)
        clear hK K hH6
        try simp only [Act.put, List.setIfInBounds_toArray, List.set_cons_zero, List.set_cons_succ]
        refine wpAnyH_done (by kernel_rfl) ?_ _
        refine NoPanic.normal ?_
        go_wp2_with fail
        go_meet
        obtain ⟨z1, z2, z3⟩ := rt_store2 HNB2.out ((H1.out.below (below_alloc (Below.refl _ _) _)).below HB2.out) H2.out
        exact ⟨w1.heap.size, _, _, _, _, _, _, rfl, hgz, z1, z2, z3, by go_split_ands; assumption⟩
    · skip
      go_simp
      refine hK.out _ _ ?_ (fun hH8 => ?_)
      · (try dsimp only); go_split_ands; exact FrI.cells (FrI.alloc (by assumption) _)
      clear hK K hHeld
      try simp only [Act.put, List.setIfInBounds_toArray, List.set_cons_zero, List.set_cons_succ]
      refine wpAnyH_ready (rs := [4]) (by kernel_rfl) (by simp) ?_
      refine AllReadyH.cons rfl (fun K hK => ?_) AllReadyH.nil
      go_simp
      refine (HON.out _ (by go_split_ands; exact FrI.below (by assumption))).mono ?_
      rintro e w1 ⟨V1, rfl, h1, hb1⟩
      obtain ⟨X1, m1, f1, rfl, -⟩ := h1.form
      have H1 := Aside0.mk h1
      have HB1 := Aside0.mk hb1
      have HNB1 : Aside0 (w1.heap[W0.heap.size]? = some (.cells #[.bool false, .slice none 0 0, .slice none 0 0] 31 (0, 0))) := ⟨blk_below (heap_alloc_new W0.drew _) hb1⟩
      have q10 : w1.cell? ⟨W0.heap.size, 0, none⟩ = some (.bool false) := blk_cell HNB1.out 0
      have qf10 : w1.frozen? ⟨W0.heap.size, 0, none⟩ = false := blk_frozen HNB1.out 0
      have q11 : w1.cell? ⟨W0.heap.size, 1, none⟩ = some (.slice none 0 0) := blk_cell HNB1.out 1
      have qf11 : w1.frozen? ⟨W0.heap.size, 1, none⟩ = false := blk_frozen HNB1.out 1
      have q12 : w1.cell? ⟨W0.heap.size, 2, none⟩ = some (.slice none 0 0) := blk_cell HNB1.out 2
      have qf12 : w1.frozen? ⟨W0.heap.size, 2, none⟩ = false := blk_frozen HNB1.out 2
      clear h1 hb1
      go_wp2_with fail
      refine hK.out _ _ ?_ (fun hH9 => ?_)
      · (try dsimp only); go_split_ands; exact FrI.cells (FrI.next (by assumption) HB1.out)
      clear hK K hH8
      try simp only [Act.put, List.setIfInBounds_toArray, List.set_cons_zero, List.set_cons_succ]
      refine wpAnyH_ready (rs := [6]) (by kernel_rfl) (by simp) ?_
      refine AllReadyH.cons rfl (fun K hK => ?_) AllReadyH.nil
      go_simp
      refine (HOD.out _ (by go_split_ands; exact FrI.below (by assumption))).mono ?_
      rintro e w2 ⟨V2, rfl, h2, hb2⟩
      obtain ⟨X2, m2, f2, rfl, -⟩ := h2.form
      have H2 := Aside0.mk h2
      have HB2 := Aside0.mk hb2
      have HNB2 : Aside0 (w2.heap[W0.heap.size]? = some (.cells #[.bool false, .slice none 0 0, .slice none 0 0] 31 (0, 0))) := ⟨blk_below HNB1.out hb2⟩
      have q20 : w2.cell? ⟨W0.heap.size, 0, none⟩ = some (.bool false) := blk_cell HNB2.out 0
      have qf20 : w2.frozen? ⟨W0.heap.size, 0, none⟩ = false := blk_frozen HNB2.out 0
      have q21 : w2.cell? ⟨W0.heap.size, 1, none⟩ = some (.slice none 0 0) := blk_cell HNB2.out 1
      have qf21 : w2.frozen? ⟨W0.heap.size, 1, none⟩ = false := blk_frozen HNB2.out 1
      have q22 : w2.cell? ⟨W0.heap.size, 2, none⟩ = some (.slice none 0 0) := blk_cell HNB2.out 2
      have qf22 : w2.frozen? ⟨W0.heap.size, 2, none⟩ = false := blk_frozen HNB2.out 2
      clear h2 hb2
      go_wp2_with fail
      refine hK.out _ _ ?_ (fun hH10 => ?_)
      · (try dsimp only); go_split_ands; exact FrI.cells (FrI.next (by assumption) HB2.out)
      clear hK K hH9
      try simp only [Act.put, List.setIfInBounds_toArray, List.set_cons_zero, List.set_cons_succ]
      refine wpAnyH_take (i := 7) (v := ?_) rfl (by kernel_rfl) (by kernel_rfl) (by kernel_rfl) (fun _ _ _ h => h) (Or.inl ⟨by rfl, ?_⟩) (by assumption) ?_
      rotate_left
      · intro w hSw; (try dsimp only at hSw); go_simp; first | done | with_reducible rfl
      try simp only [Act.put, List.setIfInBounds_toArray, List.set_cons_zero, List.set_cons_succ]
      refine wpAnyH_ready (rs := [9]) (by kernel_rfl) (by simp) ?_
      refine AllReadyH.cons rfl (fun K hK => ?_) AllReadyH.nil
      have hgz : w.heap.size + 2 ≤ W0.heap.size := by have h0 := hz0; have h1 := HB1.out.size; have h2 := HB2.out.size; simp at h1 h2 ⊢; omega
      go_simp
      refine hK.out _ _ ?_ (fun hH11 => ?_)
      · (try dsimp only); go_split_ands; exact FrI.cells (FrI.set_ (p := ⟨W0.heap.size, 2, none⟩) (FrI.set_ (p := ⟨W0.heap.size, 1, none⟩) (FrI.set_ (p := ⟨W0.heap.size, 0, none⟩) (by assumption) (by simp; omega) _) (by simp; omega) _) (by simp; omega) _)
      clear hK K hH10
      try simp only [Act.put, List.setIfInBounds_toArray, List.set_cons_zero, List.set_cons_succ]
      refine wpAnyH_done (by kernel_rfl) ?_ _
      refine NoPanic.normal ?_
      go_wp2_with fail
      go_meet
      obtain ⟨z1, z2, z3⟩ := rt_store2 HNB2.out (H1.out.below HB2.out) H2.out
      exact ⟨W0.heap.size, _, _, _, _, _, _, rfl, hgz, z1, z2, z3, by go_split_ands; assumption⟩
  case rest =>
    obtain ⟨g, A1, k1, c1, B1, l1, e2, rfl, hg2, hbk, hn1, hn2, hI⟩ := hcut
    have HI := Aside0.mk hI
    have HG2 := Aside0.mk hg2
    have HBK := Aside0.mk hbk
    have HN1 := Aside0.mk hn1
    have HN2 := Aside0.mk hn2
    have hl1 : ((l1 : Int) == 0) = false := by
      obtain ⟨X, f, he, -, -⟩ := hn2
      injection he with _ h2 _
      have := List.length_pos_iff.2 (figs_ne (B := 65536) (by omega) HD.out.1)
      simp only [beq_eq_false_iff_ne]; omega
    have g0 : wc.cell? ⟨g, 0, none⟩ = some (.bool false) := blk_cell hbk 0
    have g1 : wc.cell? ⟨g, 1, none⟩ = some (.slice A1 k1 c1) := blk_cell hbk 1
    have g2 : wc.cell? ⟨g, 2, none⟩ = some (.slice B1 l1 e2) := blk_cell hbk 2
    have b0 : wc.cell? ⟨w.heap.size, 0, none⟩ = some (.bool false) := blk_cell hI.box1 0
    have b1 : wc.cell? ⟨w.heap.size, 1, none⟩ = some (.slice A kn c) := blk_cell hI.box1 1
    have HCN := Lib.hid (fun W (hb : Below w.heap.size w W) hv => isNumber_nd n HLL.out.1 HLL.out.2.2.1 A c (.slice A1 k1 c1) W (Kd.C_below HA.out hb) HCC.out.1 hv)
    have HCD := Lib.hid (fun W (hb : Below w.heap.size w W) hv => hasWords_nd d HLL.out.2.1 HLL.out.2.2.2 B e1 (.slice B1 l1 e2) W (Kd.C_below HB.out hb) HCC.out.2 hv)
    rw [← HKN.out] at HCN
    rw [← HKD.out] at HCD
    clear hbk hn1 hn2 hI hg2
    go_wp2_with fail
    refine (HCN.out _ HI.out.below HN1.out).mono ?_
    rintro e w1 ⟨rfl, hb1⟩
    have HBK1 := Aside0.mk (blk_below HBK.out hb1)
    have HI1 := Aside0.mk (HI.out.next hb1)
    have HN11 := Aside0.mk (HN1.out.below hb1)
    have HN21 := Aside0.mk (HN2.out.below hb1)
    have g2 : w1.cell? ⟨g, 2, none⟩ = some (.slice B1 l1 e2) := blk_cell HBK1.out 2
    clear hb1
    go_wp2_with fail
    refine (HCD.out _ HI1.out.below HN21.out).mono ?_
    rintro e w2 ⟨rfl, hb2⟩
    have HBK2 := Aside0.mk (blk_below HBK1.out hb2)
    have HI2 := Aside0.mk (HI1.out.next hb2)
    have HN12 := Aside0.mk (HN11.out.below hb2)
    have HN22 := Aside0.mk (HN21.out.below hb2)
    clear hb2
    go_wp2_with fail
    refine wp_region_noPanic ?_
    refine wp_region_held_drew (S := (fun w' => w'.cell? ⟨g, 0, none⟩ = some (.bool false) ∧ w'.cell? ⟨g, 1, none⟩ = some (.slice A1 k1 c1) ∧ w'.cell? ⟨g, 2, none⟩ = some (.slice B1 l1 e2) ∧ w'.heap[g]? = some (.cells #[.bool false, .slice A1 k1 c1, .slice B1 l1 e2] 31 (0, 0)))) (by kernel_rfl) ?_ (fun hHeld => ?_)
    · (try dsimp only); exact FrJ_cells (blk_drew HBK2.out)
    refine wpAnyH_take (i := 0) (v := ?_) rfl (by kernel_rfl) (by kernel_rfl) (by kernel_rfl) (fun _ _ _ h => h) (Or.inl ⟨by rfl, ?_⟩) (by assumption) ?_
    rotate_left
    · intro w hSw; (try dsimp only at hSw); go_simp; first | done | with_reducible rfl
    try simp only [Act.put, List.setIfInBounds_toArray, List.set_cons_zero, List.set_cons_succ]
    refine wpAnyH_take (i := 1) (v := ?_) rfl (by kernel_rfl) (by kernel_rfl) (by kernel_rfl) (fun _ _ _ h => h) (Or.inl ⟨by rfl, ?_⟩) (by assumption) ?_
    rotate_left
    · intro w hSw; (try dsimp only at hSw); go_simp; first | done | with_reducible rfl
    try simp only [Act.put, List.setIfInBounds_toArray, List.set_cons_zero, List.set_cons_succ]
    refine wpAnyH_take (i := 2) (v := ?_) rfl (by kernel_rfl) (by kernel_rfl) (by kernel_rfl) (fun _ _ _ h => h) (Or.inl ⟨by rfl, ?_⟩) (by assumption) ?_
    rotate_left
    · intro w hSw; (try dsimp only at hSw); go_simp; first | done | with_reducible rfl
    try simp only [Act.put, List.setIfInBounds_toArray, List.set_cons_zero, List.set_cons_succ]
    refine wpAnyH_take (i := 3) (v := ?_) rfl (by kernel_rfl) (by kernel_rfl) (by kernel_rfl) (fun _ _ _ h => h) (Or.inl ⟨by rfl, ?_⟩) (by assumption) ?_
    rotate_left
    · intro w hSw; (try dsimp only at hSw); go_simp; first | done | with_reducible rfl
    try simp only [Act.put, List.setIfInBounds_toArray, List.set_cons_zero, List.set_cons_succ]
    refine wpAnyH_take (i := 4) (v := ?_) rfl (by kernel_rfl) (by kernel_rfl) (by kernel_rfl) (fun _ _ _ h => h) (Or.inl ⟨by rfl, ?_⟩) (by assumption) ?_
    rotate_left
    · intro w hSw; (try dsimp only at hSw); go_simp; first | done | with_reducible rfl
    try simp only [Act.put, List.setIfInBounds_toArray, List.set_cons_zero, List.set_cons_succ]
    refine wpAnyH_ready (rs := [5]) (by kernel_rfl) (by simp) ?_
    refine AllReadyH.cons rfl (fun K hK => ?_) AllReadyH.nil
    go_simp
    refine (gcd_nd n d _ _ _ (HN12.out.below (below_drew (Below.refl _ _))) (HN22.out.below (below_drew (Below.refl _ _))) HLL.out.2.2.1 HLL.out.2.2.2).mono ?_
    rintro e w3 ⟨gv, rfl, hgv, hb3⟩
    rw [HD.out.2] at hgv
    obtain ⟨gA, gn, gc, rfl, -⟩ := hgv.form
    have HGV := Aside0.mk hgv
    have HBK3 := Aside0.mk (blk_below (blk_drew HBK2.out) hb3)
    have HI3 := Aside0.mk (HI2.out.drew.next hb3)
    have HN13 := Aside0.mk ((HN12.out.below (below_drew (Below.refl _ _))).below hb3)
    have HN23 := Aside0.mk ((HN22.out.below (below_drew (Below.refl _ _))).below hb3)
    clear hgv hb3
    go_wp2_with fail
    refine hK.out _ _ ?_ (fun hJ1 => ?_)
    · (try dsimp only); exact FrJ_cells (HBK3.out)
    clear hK K hHeld
    try simp only [Act.put, List.setIfInBounds_toArray, List.set_cons_zero, List.set_cons_succ]
    refine wpAnyH_ready (rs := [6]) (by kernel_rfl) (by simp) ?_
    refine AllReadyH.cons rfl (fun K hK => ?_) AllReadyH.nil
    go_simp
    refine (small_nd 1 (by omega) w3).mono ?_
    rintro e w4 ⟨ov, rfl, hov, hb4⟩
    obtain ⟨oA, on, oc, rfl, -⟩ := hov.form
    have HOV := Aside0.mk hov
    have HBK4 := Aside0.mk (blk_below HBK3.out hb4)
    have HI4 := Aside0.mk (HI3.out.next hb4)
    have HN14 := Aside0.mk (HN13.out.below hb4)
    have HN24 := Aside0.mk (HN23.out.below hb4)
    have HGV4 := Aside0.mk (HGV.out.below hb4)
    clear hov hb4
    go_wp2_with fail
    refine hK.out _ _ ?_ (fun hJ2 => ?_)
    · (try dsimp only); exact FrJ_cells (HBK4.out)
    clear hK K hJ1
    try simp only [Act.put, List.setIfInBounds_toArray, List.set_cons_zero, List.set_cons_succ]
    refine wpAnyH_ready (rs := [7]) (by kernel_rfl) (by simp) ?_
    refine AllReadyH.cons rfl (fun K hK => ?_) AllReadyH.nil
    go_simp
    refine (cmp_nd 1 1 _ _ w4 HGV4.out HOV.out (Nat.lt_of_le_of_lt (figs_length_le (B := 65536) (by omega) 1 1 (by omega)) (by omega)) (Nat.lt_of_le_of_lt (figs_length_le (B := 65536) (by omega) 1 1 (by omega)) (by omega))).mono ?_
    rintro e w5 ⟨rfl, hb5⟩
    rw [show cmpInt ((1 : Nat) : Int) ((1 : Nat) : Int) = 0 from rfl]
    have HBK5 := Aside0.mk (blk_below HBK4.out hb5)
    have HI5 := Aside0.mk (HI4.out.next hb5)
    have HN15 := Aside0.mk (HN14.out.below hb5)
    have HN25 := Aside0.mk (HN24.out.below hb5)
    clear hb5
    go_wp2_with fail
    refine hK.out _ _ ?_ (fun hJ3 => ?_)
    · (try dsimp only); exact FrJ_cells (HBK5.out)
    clear hK K hJ2
    try simp only [Act.put, List.setIfInBounds_toArray, List.set_cons_zero, List.set_cons_succ]
    refine wpAnyH_take (i := 8) (v := ?_) rfl (by kernel_rfl) (by kernel_rfl) (by kernel_rfl) (fun _ _ _ h => h) (Or.inl ⟨by rfl, ?_⟩) (by assumption) ?_
    rotate_left
    · intro w hSw; (try dsimp only at hSw); go_simp; first | done | with_reducible rfl
    try simp only [Act.put, List.setIfInBounds_toArray, List.set_cons_zero, List.set_cons_succ]
    have s0 : w5.cell? ⟨w.heap.size + 1, 0, none⟩ = some (.bool false) := blk_cell HI5.out.res 0
    have sf0 : w5.frozen? ⟨w.heap.size + 1, 0, none⟩ = false := blk_frozen HI5.out.res 0
    have s1 : w5.cell? ⟨w.heap.size + 1, 1, none⟩ = some (.slice none 0 0) := blk_cell HI5.out.res 1
    have sf1 : w5.frozen? ⟨w.heap.size + 1, 1, none⟩ = false := blk_frozen HI5.out.res 1
    have s2 : w5.cell? ⟨w.heap.size + 1, 2, none⟩ = some (.slice none 0 0) := blk_cell HI5.out.res 2
    have sf2 : w5.frozen? ⟨w.heap.size + 1, 2, none⟩ = false := blk_frozen HI5.out.res 2
    refine wpAnyH_ready (rs := [9]) (by kernel_rfl) (by simp) ?_
    refine AllReadyH.cons rfl (fun K hK => ?_) AllReadyH.nil
    go_simp
    refine hK.out _ _ ?_ (fun hJ4 => ?_)
    · (try dsimp only); exact FrJ_cells (blk_far (blk_far (blk_far HBK5.out (by have := HG2.out; simp; omega) _) (by have := HG2.out; simp; omega) _) (by have := HG2.out; simp; omega) _)
    clear hK K hJ3
    try simp only [Act.put, List.setIfInBounds_toArray, List.set_cons_zero, List.set_cons_succ]
    refine wpAnyH_take (i := 10) (oi := ⟨some 5, _, _, _, _, _⟩) (v := ?_) rfl (by kernel_rfl) (by kernel_rfl) (by kernel_rfl) (fun _ _ _ h => h) (Or.inl ⟨by rfl, ?_⟩) (by assumption) ?_
    rotate_left
    · intro w hSw; (try dsimp only at hSw); go_simp; first | done | with_reducible rfl
    try simp only [Act.put, List.setIfInBounds_toArray, List.set_cons_zero, List.set_cons_succ]
    refine wpAnyH_done (by kernel_rfl) ?_ _
    refine NoPanic.normal ?_
    go_wp2_with fail
    obtain ⟨f1, f2, f3⟩ := rt_store HI5.out.res HN15.out HN25.out HI5.out.below (by omega)
    refine bodyPost_ret (results_ct rfl _ _ (w.heap.size + 1) 31 #[.bool false, .slice A1 k1 c1, .slice B1 l1 e2] (0, 0) _ rfl f1 Tryz.underlying31 rfl (by kernel_rfl)) rfl ?_
    exact ⟨_, rfl, f2, f3⟩
end Go.Proofs.YtgpoplfgngiilaaGreatDoor

namespace Go.Proofs.YtgpoplfgngiilaaGreatDoor
open Go.RowKit Go.Proofs.YtgpoplfgngiilaaGreatDoorW.PrintWords Go.Proofs.YtgpoplfgngiilaaGreatDoorW.PrintLast Go.Proofs.YtgpoplfgngiilaaGreatDoorW.PrintMore PAll Pl

/-- A Value of Kind Float as plain data. -/
def fltVal (v v2 : Value) : Value := .agg #[.int .i64 4, .bool false, .string ⟨#[]⟩, .bool false, v, v2, .bool false, .slice none 0 0, .slice none 0 0]

theorem same_nd (n d : Nat) (u v : Value) (w : World) (hu : Rt w u n d) (hv : Rt w v n d) (h3 : (figs 65536 n).length < 100000) (h4 : (figs 65536 d).length < 100000) :
    Calls Tryz.prog 25 #[u, v] w fun e w' => e = .returned (.bool true) ∧ Below w.heap.size w w' := by
  obtain ⟨A, k, c, B, l, e, rfl, ⟨A', c', he, hl, hC⟩, ⟨B', e', he2, hl2, hC2⟩⟩ := hu
  obtain ⟨A3, k3, c3, B3, l3, e3, rfl, ⟨A4, c4, he3, hl3, hC3⟩, ⟨B4, e4, he4, hl4, hC4⟩⟩ := hv
  cases he
  cases he2
  cases he3
  cases he4
  obtain ⟨k2, h⟩ := (same_f false false n d n d (by omega) (by omega) (by omega) (by omega)).rounds
  refine (spec_same.calls k2 false _ _ _ _ _ _ false _ _ _ _ _ _ true w hC hl hC2 hl2 hC3 hl3 hC4 hl4 (by rw [h]; simp)).mono ?_
  rintro e w' ⟨rfl, hb⟩
  exact ⟨rfl, hb⟩

set_option maxHeartbeats 4000000 in
set_option maxRecDepth 100000 in
theorem rational_nd (n d : Nat) (hd : 0 < d) (hg : Nat.gcd n d = 1) (A : Option Addr) (c : Nat) (B : Option Addr) (e1 : Nat) (w : World)
    (hA : Kd.C (Kd.int .u64) w A (figs 18446744073709551616 n).length (figs 18446744073709551616 n)) (hc : (figs 18446744073709551616 n).length ≤ c)
    (hB : Kd.C (Kd.int .u64) w B (figs 18446744073709551616 d).length (figs 18446744073709551616 d)) (he : (figs 18446744073709551616 d).length ≤ e1)
    (h1 : (figs 18446744073709551616 n).length < 10000) (h2 : (figs 18446744073709551616 d).length < 10000) (h3 : (figs 65536 n).length < 100000) (h4 : (figs 65536 d).length < 100000) :
    Calls Tryz.prog 31 #[fltVal (.slice A (figs 18446744073709551616 n).length c) (.slice B (figs 18446744073709551616 d).length e1)] w fun e w' => ∃ v, e = .returned (.tuple #[v, .bool true]) ∧ Rt w' v n d ∧ Below w.heap.size w w' := by
  unfold fltVal
  obtain ⟨W0, hW0⟩ : ∃ W0, W0 = (w.alloc (.cells #[.int .i64 4, .bool false, .string ⟨#[]⟩, .bool false, .slice A (figs 18446744073709551616 n).length c, .slice B (figs 18446744073709551616 d).length e1, .bool false, .slice none 0 0, .slice none 0 0] 26)).alloc (.cells #[.bool false, .slice none 0 0, .slice none 0 0] 31) := ⟨_, rfl⟩
  have hB0 : Below w.heap.size w W0 := by rw [hW0]; exact below_alloc (below_alloc (Below.refl _ _) _) _
  have hbox : W0.heap[w.heap.size]? = some (.cells #[.int .i64 4, .bool false, .string ⟨#[]⟩, .bool false, .slice A (figs 18446744073709551616 n).length c, .slice B (figs 18446744073709551616 d).length e1, .bool false, .slice none 0 0, .slice none 0 0] 26 (0, 0)) := by
    rw [hW0]; exact blk_alloc (heap_alloc_new _ _) _
  have hres : W0.heap[w.heap.size + 1]? = some (.cells #[.bool false, .slice none 0 0, .slice none 0 0] 31 (0, 0)) := by
    rw [hW0]
    simpa using heap_alloc_new (w.alloc (.cells #[.int .i64 4, .bool false, .string ⟨#[]⟩, .bool false, .slice A (figs 18446744073709551616 n).length c, .slice B (figs 18446744073709551616 d).length e1, .bool false, .slice none 0 0, .slice none 0 0] 26)) (.cells #[.bool false, .slice none 0 0, .slice none 0 0] 31)
  have hR := Lib.hid (fun W (hb : Below w.heap.size w W) => spec_rest.calls 4 false ⟨#[]⟩ false A c (figs 18446744073709551616 n) B e1 (figs 18446744073709551616 d) false none 0 [] none 0 [] true W (Kd.C_below hA hb) hc (Kd.C_below hB hb) he (C_nil _ _ _) (Nat.le_refl _) (C_nil _ _ _) (Nat.le_refl _) (by simp [spec_rest.f]))
  have hF := Lib.hid (fun W (hb : Below w.heap.size w W) => fraction_nd n d hd hg A c B e1 W (Kd.C_below hA hb) hc (Kd.C_below hB hb) he h1 h2 h3 h4)
  obtain ⟨kn, hkn⟩ : ∃ k, k = (figs 18446744073709551616 n).length := ⟨_, rfl⟩
  obtain ⟨kd, hkd⟩ : ∃ k, k = (figs 18446744073709551616 d).length := ⟨_, rfl⟩
  rw [← hkn, ← hkd] at hR hF hW0 hbox ⊢
  have HR := hR
  have HF := hF
  have HB0 := Aside0.mk hB0
  have HBOX := Aside0.mk hbox
  have HRES := Aside0.mk hres
  have HW0 := Lib.hid hW0
  clear hW0 hB0 hbox hres hR hF hA hc hB he h1 h2 h3 h4 hd hg hkn hkd
  go_enter Tryz.func31, Tryz.ntmps31
  go_wp2_with fail
  rw [← HW0.out]
  clear HW0
  refine (HR.out W0 HB0.out).mono ?_
  rintro e w1 ⟨rfl, hb1⟩
  have HB1 := Aside0.mk (below_step HB0.out hb1)
  have HBOX1 := Aside0.mk (blk_below HBOX.out hb1)
  have HRES1 := Aside0.mk (blk_below HRES.out hb1)
  have c3 : w1.cell? ⟨w.heap.size, 3, none⟩ = some (.bool false) := blk_cell HBOX1.out 3
  have c4 : w1.cell? ⟨w.heap.size, 4, none⟩ = some (.slice A kn c) := blk_cell HBOX1.out 4
  have c5 : w1.cell? ⟨w.heap.size, 5, none⟩ = some (.slice B kd e1) := blk_cell HBOX1.out 5
  clear hb1
  go_wp2_with fail
  refine (HF.out w1 HB1.out).mono ?_
  rintro e w2 ⟨v, rfl, ⟨A3, k3, f3, B3, l3, e3, rfl, h1, h2⟩, hb2⟩
  have H1 := Aside0.mk h1
  have H2 := Aside0.mk h2
  have HB2 := Aside0.mk (below_step HB1.out hb2)
  have hres2 := blk_below HRES1.out hb2
  have s0 : w2.cell? ⟨w.heap.size + 1, 0, none⟩ = some (.bool false) := blk_cell hres2 0
  have s1 : w2.cell? ⟨w.heap.size + 1, 1, none⟩ = some (.slice none 0 0) := blk_cell hres2 1
  have s2 : w2.cell? ⟨w.heap.size + 1, 2, none⟩ = some (.slice none 0 0) := blk_cell hres2 2
  have sf0 : w2.frozen? ⟨w.heap.size + 1, 0, none⟩ = false := blk_frozen hres2 0
  have sf1 : w2.frozen? ⟨w.heap.size + 1, 1, none⟩ = false := blk_frozen hres2 1
  have sf2 : w2.frozen? ⟨w.heap.size + 1, 2, none⟩ = false := blk_frozen hres2 2
  have HRES2 := Aside0.mk hres2
  clear h1 h2 hb2 hres2
  go_wp2_with fail
  obtain ⟨f1, f2, f3'⟩ := rt_store HRES2.out H1.out H2.out HB2.out (by omega)
  refine bodyPost_ret (results_ct rfl _ _ (w.heap.size + 1) 31 #[.bool false, .slice A3 k3 f3, .slice B3 l3 e3] (0, 0) _ rfl f1 Tryz.underlying31 rfl (by kernel_rfl)) rfl ?_
  exact ⟨_, rfl, f2, f3'⟩

set_option maxHeartbeats 4000000 in
set_option maxRecDepth 100000 in
/-- IsFloat of a Value of Kind Float in lowest terms, with its own fraction. -/
theorem isFloat_nd (n d : Nat) (hd : 0 < d) (hg : Nat.gcd n d = 1) (A : Option Addr) (c : Nat) (B : Option Addr) (e1 : Nat) (v : Value) (w : World)
    (hA : Kd.C (Kd.int .u64) w A (figs 18446744073709551616 n).length (figs 18446744073709551616 n)) (hc : (figs 18446744073709551616 n).length ≤ c)
    (hB : Kd.C (Kd.int .u64) w B (figs 18446744073709551616 d).length (figs 18446744073709551616 d)) (he : (figs 18446744073709551616 d).length ≤ e1)
    (hv : Rt w v n d)
    (h1 : (figs 18446744073709551616 n).length < 10000) (h2 : (figs 18446744073709551616 d).length < 10000) (h3 : (figs 65536 n).length < 100000) (h4 : (figs 65536 d).length < 100000) :
    Calls Tryz.prog 18 #[fltVal (.slice A (figs 18446744073709551616 n).length c) (.slice B (figs 18446744073709551616 d).length e1), v] w fun e w' => e = .returned (.bool true) ∧ Below w.heap.size w w' := by
  obtain ⟨A1, k1, c1, B1, l1, e2, rfl, hn1, hn2⟩ := hv
  obtain ⟨W0, hW0⟩ : ∃ W0, W0 = (w.alloc (.cells #[.int .i64 4, .bool false, .string ⟨#[]⟩, .bool false, .slice A (figs 18446744073709551616 n).length c, .slice B (figs 18446744073709551616 d).length e1, .bool false, .slice none 0 0, .slice none 0 0] 26)).alloc (.cells #[.bool false, .slice A1 k1 c1, .slice B1 l1 e2] 31) := ⟨_, rfl⟩
  have hB0 : Below w.heap.size w W0 := by rw [hW0]; exact below_alloc (below_alloc (Below.refl _ _) _) _
  have hbox2 : W0.heap[w.heap.size + 1]? = some (.cells #[.bool false, .slice A1 k1 c1, .slice B1 l1 e2] 31 (0, 0)) := by
    rw [hW0]
    simpa using heap_alloc_new (w.alloc (.cells #[.int .i64 4, .bool false, .string ⟨#[]⟩, .bool false, .slice A (figs 18446744073709551616 n).length c, .slice B (figs 18446744073709551616 d).length e1, .bool false, .slice none 0 0, .slice none 0 0] 26)) (.cells #[.bool false, .slice A1 k1 c1, .slice B1 l1 e2] 31)
  have hF := rational_nd n d hd hg A c B e1 W0 (Kd.C_below hA hB0) hc (Kd.C_below hB hB0) he h1 h2 h3 h4
  have HS := Lib.hid (fun u v W hu hv => same_nd n d u v W hu hv h3 h4)
  unfold fltVal at hF ⊢
  obtain ⟨kn, hkn⟩ : ∃ k, k = (figs 18446744073709551616 n).length := ⟨_, rfl⟩
  obtain ⟨kd, hkd⟩ : ∃ k, k = (figs 18446744073709551616 d).length := ⟨_, rfl⟩
  rw [← hkn, ← hkd] at hF hW0 ⊢
  have HF := Aside0.mk hF
  have HB0 := Aside0.mk hB0
  have HBOX := Aside0.mk hbox2
  have HN1 := Aside0.mk (hn1.below hB0)
  have HN2 := Aside0.mk (hn2.below hB0)
  have HW0 := Lib.hid hW0
  clear hW0 hB0 hbox2 hF hA hc hB he h1 h2 h3 h4 hd hg hkn hkd hn1 hn2
  go_enter Tryz.func18, Tryz.ntmps18
  go_wp2_with fail
  rw [← HW0.out]
  clear HW0
  refine HF.out.mono ?_
  rintro e w1 ⟨v, rfl, ⟨A3, k3, f3, B3, l3, e3, rfl, h1, h2⟩, hb1⟩
  have hb2 : Below w1.heap.size w1 (w1.alloc (.cells #[.bool false, .slice A3 k3 f3, .slice B3 l3 e3] 31)) := below_alloc (Below.refl _ _) _
  have hq := blk_below (blk_below HBOX.out hb1) hb2
  have q0 : (w1.alloc (.cells #[.bool false, .slice A3 k3 f3, .slice B3 l3 e3] 31)).cell? ⟨w.heap.size + 1, 0, none⟩ = some (.bool false) := blk_cell hq 0
  have q1 : (w1.alloc (.cells #[.bool false, .slice A3 k3 f3, .slice B3 l3 e3] 31)).cell? ⟨w.heap.size + 1, 1, none⟩ = some (.slice A1 k1 c1) := blk_cell hq 1
  have q2 : (w1.alloc (.cells #[.bool false, .slice A3 k3 f3, .slice B3 l3 e3] 31)).cell? ⟨w.heap.size + 1, 2, none⟩ = some (.slice B1 l1 e2) := blk_cell hq 2
  have HU : Aside0 (Rt (w1.alloc (.cells #[.bool false, .slice A3 k3 f3, .slice B3 l3 e3] 31)) (.agg #[.bool false, .slice A3 k3 f3, .slice B3 l3 e3]) n d) := ⟨_, _, _, _, _, _, rfl, h1.below hb2, h2.below hb2⟩
  have HV : Aside0 (Rt (w1.alloc (.cells #[.bool false, .slice A3 k3 f3, .slice B3 l3 e3] 31)) (.agg #[.bool false, .slice A1 k1 c1, .slice B1 l1 e2]) n d) := ⟨_, _, _, _, _, _, rfl, (HN1.out.below hb1).below hb2, (HN2.out.below hb1).below hb2⟩
  have HB2 := Aside0.mk (below_step (below_step HB0.out hb1) hb2)
  clear h1 h2 hb1 hb2 hq
  go_wp2_with fail
  refine (HS.out _ _ _ HU.out HV.out).mono ?_
  rintro e w2 ⟨rfl, hb3⟩
  have HB3 := Aside0.mk (below_step HB2.out hb3)
  clear hb3
  go_wp2_with fail
  go_ret
  exact ⟨rfl, HB3.out⟩
end Go.Proofs.YtgpoplfgngiilaaGreatDoor
