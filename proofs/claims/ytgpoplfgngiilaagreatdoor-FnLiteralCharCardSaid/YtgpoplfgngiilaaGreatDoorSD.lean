/- Functions of the program as Lean functions, and that the Go code comes to their answers (the kit's print.py wrote it; cut into this file by pieces.py): spec_Hex, spec_Of64. -/
import Derived.Test.YtgpoplfgngiilaaGreatDoorS0
import Derived.Test.YtgpoplfgngiilaaGreatDoorSA
import Derived.Test.YtgpoplfgngiilaaGreatDoorSC
namespace Go.Proofs.YtgpoplfgngiilaaGreatDoor.PAll
open Go.RowKit Go.Proofs.YtgpoplfgngiilaaGreatDoorW.PrintWords Go.Proofs.YtgpoplfgngiilaaGreatDoorW.PrintLast Go.Proofs.YtgpoplfgngiilaaGreatDoorW.PrintMore
attribute [local go_sem] max2_int min2_int max_two min_two max_three min_three max_four min_four   -- for this text's walks alone
set_option linter.unusedVariables false
set_option linter.unusedSimpArgs false
/-! ### spec_Hex: function 13 -/
def spec_Hex.l0 : Nat → Int → ByteArray → Option (ByteArray)
  | 0, _, _ => none
  | k + 1, x1, x5 => if (x5.size : Int) < x1 then (if 1 + x5.size ≤ 9223372036854775807 then (spec_Hex.l0 k x1 ((⟨#[48]⟩ : ByteArray) ++ x5)) else (none)) else (some x5)
def spec_Hex.f (k : Nat) (a0 : Int) (a1 : Int) : Option (ByteArray) := (spec_Small.f k a0).bind fun t380 => ((spec_InBase.f k t380 16 false).bind fun t383 => (spec_Hex.l0 k a1 t383))
theorem spec_Hex.mono_l : ∀ k, (∀ y0 y1, LeO (spec_Hex.l0 k y0 y1) (spec_Hex.l0 (k + 1) y0 y1))
  | 0 => fun _ _ r h => by simp [spec_Hex.l0] at h
  | k + 1 => by
    have ih0 := spec_Hex.mono_l k
    · intro y0 y1
      unfold spec_Hex.l0
      repeat' first
      | (with_reducible exact ih0 _ _)
      | (with_reducible exact spec_InBase.mono _ _ _ _)
      | (with_reducible exact spec_Small.mono _ _)
      | (with_reducible exact LeO.refl _)
      | (with_reducible exact LeO.none _)
      | (with_reducible refine LeO.ite ?_ ?_)
      | (with_reducible refine LeO.bind ?_ (fun _ => ?_))
      | exact ih0 _ _
      | exact spec_InBase.mono _ _ _ _
      | exact spec_Small.mono _ _
      | exact LeO.none _
      | refine LeO.ite ?_ ?_
      | refine LeO.bind ?_ (fun _ => ?_)
theorem spec_Hex.mono : ∀ a0 a1 k, LeO (spec_Hex.f k a0 a1) (spec_Hex.f (k + 1) a0 a1) := by
  intro a0 a1 k
  have ih0 := spec_Hex.mono_l k
  unfold spec_Hex.f
  repeat' first
      | (with_reducible exact ih0 _ _)
      | (with_reducible exact spec_InBase.mono _ _ _ _)
      | (with_reducible exact spec_Small.mono _ _)
      | (with_reducible exact LeO.refl _)
      | (with_reducible exact LeO.none _)
      | (with_reducible refine LeO.ite ?_ ?_)
      | (with_reducible refine LeO.bind ?_ (fun _ => ?_))
      | exact ih0 _ _
      | exact spec_InBase.mono _ _ _ _
      | exact spec_Small.mono _ _
      | exact LeO.none _
      | refine LeO.ite ?_ ?_
      | refine LeO.bind ?_ (fun _ => ?_)
set_option maxHeartbeats 8000000 in
set_option maxRecDepth 100000 in
theorem spec_Hex.calls (k : Nat) (a0 : Int) (a1 : Int) (r : ByteArray) (w : World) (h : spec_Hex.f k a0 a1 = some r) :
    Calls Tryz.prog 13 #[.int .i64 a0, .int .i64 a1] w fun e w' => e = .returned (.string r) ∧ Below w.heap.size w w' := by
  have HB := Aside0.mk (Below.refl w.heap.size w)
  have H : ((spec_Small.f k a0).bind fun t380 => ((spec_InBase.f k t380 16 false).bind fun t383 => (spec_Hex.l0 k a1 t383))) = some r := h
  clear h
  replace H := Option.bind_eq_some_iff.mp H
  obtain ⟨t380, A30, H⟩ := H
  replace H : ((spec_InBase.f k t380 16 false).bind fun t383 => (spec_Hex.l0 k a1 t383)) = some r := H
  have A3 := Aside0.mk A30
  clear A30
  replace H := Option.bind_eq_some_iff.mp H
  obtain ⟨t383, A40, H⟩ := H
  replace H : (spec_Hex.l0 k a1 t383) = some r := H
  have A4 := Aside0.mk A40
  clear A40
  have H' := Aside0.mk H
  clear H
  go_enter Tryz.func13, Tryz.ntmps13
  go_wp2_with (first | ((with_reducible refine gate_callee (f := 28) rfl ?_); refine goesL_ (some 7) rfl rfl Tryz.func28 (by kernel_rfl) rfl #[.int .i64 a0] rfl (by (try simp only [List.map_toArray, List.map_cons, List.map_nil]); first | done | rfl | (simp only [List.length_drop, List.length_take]; rfl)) ?_; (with_reducible refine (spec_Small.calls k a0 t380 _ A3.out).mono ?_); rintro e w5 ⟨v381, rfl, ho0, hb⟩; refine ⟨_, rfl, ?_⟩; have n0_ := Aside0.mk (Kd.R_lower ho0 (below_size (by repeat (first | (with_reducible first | exact HB.out | apply below_alloc | apply pw_below_drewN | apply below_drew1) | exact HB.out)))); have n1_ := Aside0.mk (below_step (by repeat (first | (with_reducible first | exact HB.out | apply below_alloc | apply pw_below_drewN | apply below_drew1) | exact HB.out)) hb); clear HB; have HO382 := n0_; have HB := n1_; clear n0_ n1_; (try clear hb); (try clear hb2); (try clear hk); (try clear hi); (try clear ho0); obtain ⟨Ao6, co6, eo6⟩ := Kd.R_slice HO382.out; subst eo6) | ((with_reducible refine gate_callee (f := 9) rfl ?_); refine goesL_ (some 8) rfl rfl Tryz.func9 (by kernel_rfl) rfl #[.slice Ao6 t380.length co6, .int .i64 16, .bool false] rfl (by (try simp only [List.map_toArray, List.map_cons, List.map_nil]); first | done | rfl | (simp only [List.length_drop, List.length_take]; rfl)) ?_; (with_reducible refine (spec_InBase.calls k (fun k_ => some k_ = (.slice Ao6 t380.length co6 : Value).ownBlock) _ _ t380 16 false t383 _ ?side1 A4.out).mono ?_); (case side1 => exact Kd.R_V (Kd.R_tight rfl (HO382.out))); rintro e w7 ⟨rfl, hb⟩; refine ⟨_, rfl, ?_⟩; have n0_ := Aside0.mk (Kd.R_below (by (with_reducible repeat (first | apply Kd.R_alloc | apply Kd.R_drewN | apply Kd.R_drew)); exact HO382.out) hb); have n1_ := Aside0.mk (below_step (by repeat (first | (with_reducible first | exact HB.out | apply below_alloc | apply pw_below_drewN | apply below_drew1) | exact HB.out)) hb); clear HO382; clear HB; have HO382 := n0_; have HB := n1_; clear n0_ n1_; (try clear hb); (try clear hb2); (try clear hk); (try clear hi)))
  go_loopg [5] k (fun kq v5 w' => ∃ (x5_1 : ByteArray), v5 = .string x5_1 ∧ Aside0 (spec_Hex.l0 kq a1 x5_1 = some r) ∧ Aside0 (kq ≤ k) ∧ Aside0 (Below w.heap.size w w'))
  case atStart => exact ⟨(t383), (by first | rfl | (simp; done) | (simp [*]; done)), H', ⟨Nat.le_refl _⟩, ⟨by repeat (first | (with_reducible first | exact HB.out | apply below_alloc | apply pw_below_drewN | apply below_drew1) | exact HB.out)⟩⟩
  case round =>
    clear H'
    try clear c1
    try clear c2
    try clear p2
    obtain ⟨x5_1, rfl, HA, HK1, HB⟩ := hrel
    cases gk with
    | zero => exact absurd HA.out (by simp [spec_Hex.l0])
    | succ k1 =>
      have H := HA.out
      clear HA
      simp only [spec_Hex.l0] at H
      by_cases c8 : (x5_1.size : Int) < a1
      · rw [if_pos c8] at H
        have c8b0 : decide ((x5_1.size : Int) < a1) = true := decide_eq_true c8
        clear c8
        by_cases c9 : 1 + x5_1.size ≤ 9223372036854775807
        · rw [if_pos c9] at H
          have c9b0 := eq_true c9
          have c9b1 : decide (1 + x5_1.size ≤ 9223372036854775807) = true := decide_eq_true c9
          try have c9b2 : (9223372036854775807 < 1 + x5_1.size) = False := eq_false (Nat.not_lt.2 c9)
          have H' := Aside0.mk H
          clear H
          go_wp2
          go_roundg k1
          case measure => have := HK1.out; omega
          case rel => exact ⟨((⟨#[48]⟩ : ByteArray) ++ x5_1), (by first | rfl | (simp; done) | (simp [*]; done)), H', ⟨by have := HK1.out; omega⟩, ⟨by repeat (first | (with_reducible first | exact HB.out | apply below_alloc | apply pw_below_drewN | apply below_drew1) | exact HB.out)⟩⟩
        · rw [if_neg c9] at H
          exact absurd H (by simp)
      · rw [if_neg c8] at H
        have c8b0 : decide ((x5_1.size : Int) < a1) = false := decide_eq_false c8
        clear c8
        obtain rfl := Option.some.inj H
        go_wp2
        go_ret
        exact ⟨by first | rfl | (simp [errW_none, errW_some] <;> rfl) | (simp [*, errW_none, errW_some] <;> rfl), by repeat (first | (with_reducible first | exact HB.out | apply below_alloc | apply pw_below_drewN | apply below_drew1) | exact HB.out)⟩
/-! ### spec_Of64: function 14 -/
def spec_Of64.f (k : Nat) (a0 : Int) : Option (Bool × List Int × List Int) := if a0 < 0 then ((spec_Of.f k (([IntKind.u64.wrap (-(IntKind.u64.wrap (a0)))] : List Int))).bind fun t388 => ((spec_Small.f k 1).bind fun t391 => (some (true, t388, t391)))) else ((spec_Of.f k (([IntKind.u64.wrap (a0)] : List Int))).bind fun t397 => ((spec_Small.f k 1).bind fun t400 => (some (false, t397, t400))))
theorem spec_Of64.mono : ∀ a0 k, LeO (spec_Of64.f k a0) (spec_Of64.f (k + 1) a0) := by
  intro a0 k
  unfold spec_Of64.f
  repeat' first
      | (with_reducible exact spec_Of.mono _ _)
      | (with_reducible exact spec_Small.mono _ _)
      | (with_reducible exact LeO.refl _)
      | (with_reducible exact LeO.none _)
      | (with_reducible refine LeO.ite ?_ ?_)
      | (with_reducible refine LeO.bind ?_ (fun _ => ?_))
      | exact spec_Of.mono _ _
      | exact spec_Small.mono _ _
      | exact LeO.none _
      | refine LeO.ite ?_ ?_
      | refine LeO.bind ?_ (fun _ => ?_)
set_option maxHeartbeats 8000000 in
set_option maxRecDepth 100000 in
theorem spec_Of64.calls (k : Nat) (a0 : Int) (r1 : Bool) (r2 : List Int) (r3 : List Int) (w : World) (h : spec_Of64.f k a0 = some (r1, r2, r3)) :
    Calls Tryz.prog 14 #[.int .i64 a0] w fun e w' => ∃ v1_ v2_ : Value, e = .returned (.agg #[.bool r1, v1_, v2_]) ∧ Kd.V (Kd.int .i64) 3 w' w.heap.size (fun k_ => (w.heap.size ≤ k_) ∧ some k_ ≠ (v2_ : Value).ownBlock) v1_ r2 ∧ Kd.R (Kd.int .i64) 3 w' w.heap.size (fun k_ => (w.heap.size ≤ k_)) v2_ r3 ∧ Below w.heap.size w w' := by
  have hu31 := Tryz.underlying31
  have HB := Aside0.mk (Below.refl w.heap.size w)
  have H : (if a0 < 0 then ((spec_Of.f k (([IntKind.u64.wrap (-(IntKind.u64.wrap (a0)))] : List Int))).bind fun t388 => ((spec_Small.f k 1).bind fun t391 => (some (true, t388, t391)))) else ((spec_Of.f k (([IntKind.u64.wrap (a0)] : List Int))).bind fun t397 => ((spec_Small.f k 1).bind fun t400 => (some (false, t397, t400))))) = some (r1, r2, r3) := h
  clear h
  by_cases c2 : a0 < 0
  · rw [if_pos c2] at H
    have c2b0 : decide (a0 < 0) = true := decide_eq_true c2
    clear c2
    obtain ⟨y385, hy385⟩ : ∃ y_ : List Int, y_ = (([IntKind.u64.wrap (-(IntKind.u64.wrap (a0)))] : List Int)) := ⟨_, rfl⟩
    replace H : ((spec_Of.f k y385).bind fun t388 => ((spec_Small.f k 1).bind fun t391 => (some (true, t388, t391)))) = some (r1, r2, r3) := by first | (rw [hy385]; with_reducible exact H) | (have H2_ := (Option.bind_some _ _).symm.trans H; rw [hy385]; with_reducible exact H2_) | (have H2_ := (Option.bind_some _ _).symm.trans H; with_reducible exact H2_) | with_reducible exact H | (rw [hy385]; exact H) | exact H
    have Ny385 := Aside0.mk hy385
    clear hy385
    replace H := Option.bind_eq_some_iff.mp H
    obtain ⟨t388, A30, H⟩ := H
    replace H : ((spec_Small.f k 1).bind fun t391 => (some (true, t388, t391))) = some (r1, r2, r3) := H
    have A3 := Aside0.mk A30
    clear A30
    replace H := Option.bind_eq_some_iff.mp H
    obtain ⟨t391, A40, H⟩ := H
    replace H : (some (true, t388, t391)) = some (r1, r2, r3) := H
    have A4 := Aside0.mk A40
    clear A40
    simp only [Option.some.injEq, Prod.mk.injEq] at H
    obtain ⟨rfl, rfl, rfl⟩ := H
    go_enter Tryz.func14, Tryz.ntmps14
    go_wp2_with (first | ((with_reducible refine gate_dst (N := 2) rfl ?_); refine box_event ?hg (N := 2) ?hd (cs := #[.bool false, .slice none 0 0, .slice none 0 0]) (t := 31) ?hr ?_; (case hd => rfl); (case hg => rfl); (case hr => first | (go_simp; done) | (go_simp; rfl)); intro gb384 hg w5 hbox hb; have n0_ := Aside0.mk (below_step (by repeat (first | (with_reducible first | exact HB.out | apply below_alloc | apply pw_below_drewN | apply below_drew1) | exact HB.out)) hb); have n1_ := Aside0.mk (hbox); have n2_ := Aside0.mk ((by rw [hg]; exact (below_size (by repeat (first | (with_reducible first | exact HB.out | apply below_alloc | apply pw_below_drewN | apply below_drew1) | exact HB.out))) : w.heap.size ≤ gb384)); have n3_ := Aside0.mk ((by rw [hg]; exact (below_size (by repeat (first | (with_reducible first | exact HB.out | apply below_alloc | apply pw_below_drewN | apply below_drew1) | exact HB.out))) : w.heap.size ≤ gb384)); clear HB; have HB := n0_; have BK384 := n1_; have GW384 := n2_; have GE384 := n3_; clear n0_ n1_ n2_ n3_; clear hb hbox hg) | ((with_reducible refine gate_dst (N := 8) rfl ?_); refine Kd.R_lit (Kd.int .u64) _ 50 ?hg (N := 8) ?hd (xs := ([IntKind.u64.wrap (-(IntKind.u64.wrap (a0)))] : List Int)) (inner := [.int .u64 (IntKind.u64.wrap (-(IntKind.u64.wrap (a0))))]) (ok := fun _ => True) (okp := fun _ => True) ?hr ?hp (fun _ hk => hk) trivial (Below.refl _ _) (Nat.le_refl _) (by simp) ?_; (case hd => rfl); (case hg => rfl); (case hr => first | (go_simp; done) | (go_simp; rfl)); (case hp => exact (Reps.one (show Kd.M (Kd.int .u64) _ _ _ (IntKind.u64.wrap (-(IntKind.u64.wrap (a0)))) [.int .u64 (IntKind.u64.wrap (-(IntKind.u64.wrap (a0))))] from rfl) (Reps.none _ _))); intro v386 w6 ho7 hb hg_ hnew_; clear hg_ hnew_; (first | rw [← Ny385.out] at ho7 | (simp only [Int.reduceToNat] at ho7; rw [← Ny385.out] at ho7)); have n0_ := Aside0.mk (Kd.R_lower (Kd.R_newM (M := fun k_ => (w.heap.size ≤ k_)) ho7 (below_size (by repeat (first | (with_reducible first | exact HB.out | apply below_alloc | apply pw_below_drewN | apply below_drew1 | refine below_set ?_ GE384.out) | exact HB.out))) (fun k_ h_ => h_)) (below_size (by repeat (first | (with_reducible first | exact HB.out | apply below_alloc | apply pw_below_drewN | apply below_drew1 | refine below_set ?_ GE384.out) | exact HB.out)))); have n1_ := Aside0.mk (blk_below (g := gb384) (o := .cells #[.bool false, .slice none 0 0, .slice none 0 0] 31 (0, 0)) (by (with_reducible repeat (first | refine blk_drewN ?_ _ | refine blk_drew ?_ | refine blk_alloc ?_ _)); exact BK384.out) hb); have n2_ := Aside0.mk (below_step (by repeat (first | (with_reducible first | exact HB.out | apply below_alloc | apply pw_below_drewN | apply below_drew1 | refine below_set ?_ GE384.out) | exact HB.out)) hb); clear BK384; clear HB; have HO387 := n0_; have BK384 := n1_; have HB := n2_; clear n0_ n1_ n2_; clear hb ho7; obtain ⟨Ao8, co8, eo8⟩ := Kd.R_slice HO387.out; subst eo8) | ((with_reducible refine gate_callee (f := 15) rfl ?_); refine goesL_ (some 9) rfl rfl Tryz.func15 (by kernel_rfl) rfl #[.slice Ao8 y385.length co8] rfl (by (try simp only [List.map_toArray, List.map_cons, List.map_nil]); first | done | rfl | (simp only [List.length_drop, List.length_take]; rfl)) ?_; (with_reducible refine (spec_Of.calls k _ _ y385 t388 _ ?side1 ?side2 A3.out).mono ?_); (case side1 => repeat (first | exact (Kd.R_reads' HO387.out).2.2 | (with_reducible refine Kd.C_alloc ?_ _) | (with_reducible refine Kd.C_drewN ?_ _) | (with_reducible refine Kd.C_drew ?_))); (case side2 => exact (Kd.R_reads' HO387.out).2.1); rintro e w9 ⟨v389, rfl, ho0, hb⟩; refine ⟨_, rfl, ?_⟩; have n0_ := Aside0.mk (Kd.R_below (by (with_reducible repeat (first | apply Kd.R_alloc | apply Kd.R_drewN | apply Kd.R_drew)); exact HO387.out) hb); have n1_ := Aside0.mk (Kd.V_lower (Kd.V_mono (ok' := fun k_ => (w.heap.size ≤ k_) ∧ some k_ ≠ (.slice Ao8 y385.length co8 : Value).ownBlock ∧ k_ ≠ gb384) ho0 (fun k_ hk_ => ⟨(Nat.le_trans (below_size (by repeat (first | (with_reducible first | exact HB.out | apply below_alloc | apply pw_below_drewN | apply below_drew1 | refine below_set ?_ GE384.out) | exact HB.out))) hk_), (Kd.fresh' (Kd.R_lt (by (with_reducible repeat (first | apply Kd.R_alloc | apply Kd.R_drewN | apply Kd.R_drew)); exact HO387.out)) k_ hk_), (Kd.freshB (g := gb384) (o := .cells #[.bool false, .slice none 0 0, .slice none 0 0] 31 (0, 0)) (by (with_reducible repeat (first | refine blk_drewN ?_ _ | refine blk_drew ?_ | refine blk_alloc ?_ _)); exact BK384.out) k_ hk_)⟩)) (below_size (by repeat (first | (with_reducible first | exact HB.out | apply below_alloc | apply pw_below_drewN | apply below_drew1 | refine below_set ?_ GE384.out) | exact HB.out)))); have n2_ := Aside0.mk (blk_below (g := gb384) (o := .cells #[.bool false, .slice none 0 0, .slice none 0 0] 31 (0, 0)) (by (with_reducible repeat (first | refine blk_drewN ?_ _ | refine blk_drew ?_ | refine blk_alloc ?_ _)); exact BK384.out) hb); have n3_ := Aside0.mk (below_step (by repeat (first | (with_reducible first | exact HB.out | apply below_alloc | apply pw_below_drewN | apply below_drew1 | refine below_set ?_ GE384.out) | exact HB.out)) hb); clear HO387; clear BK384; clear HB; have HO387 := n0_; have HO390 := n1_; have BK384 := n2_; have HB := n3_; clear n0_ n1_ n2_ n3_; (try clear hb); (try clear hb2); (try clear hk); (try clear hi); (try clear ho0)) | ((with_reducible refine gate_callee (f := 28) rfl ?_); refine goesL_ (some 10) rfl rfl Tryz.func28 (by kernel_rfl) rfl #[.int .i64 1] rfl (by (try simp only [List.map_toArray, List.map_cons, List.map_nil]); first | done | rfl | (simp only [List.length_drop, List.length_take]; rfl)) ?_; (with_reducible refine (spec_Small.calls k 1 t391 _ A4.out).mono ?_); rintro e w10 ⟨v392, rfl, ho0, hb⟩; refine ⟨_, rfl, ?_⟩; have n0_ := Aside0.mk (Kd.R_below (by (with_reducible repeat (first | apply Kd.R_alloc | apply Kd.R_drewN | apply Kd.R_drew)); exact HO387.out) hb); have n1_ := Aside0.mk (Kd.V_elder' (by (with_reducible repeat (first | apply Kd.V_alloc | apply Kd.V_drewN | apply Kd.V_drew)); exact HO390.out) (Kd.R_base ho0) hb); have n2_ := Aside0.mk (Kd.R_lower (Kd.R_newM (M := fun k_ => (w.heap.size ≤ k_)) ho0 (below_size (by repeat (first | (with_reducible first | exact HB.out | apply below_alloc | apply pw_below_drewN | apply below_drew1 | refine below_set ?_ GE384.out) | exact HB.out))) (fun k_ h_ => h_)) (below_size (by repeat (first | (with_reducible first | exact HB.out | apply below_alloc | apply pw_below_drewN | apply below_drew1 | refine below_set ?_ GE384.out) | exact HB.out)))); have n3_ := Aside0.mk (blk_below (g := gb384) (o := .cells #[.bool false, .slice none 0 0, .slice none 0 0] 31 (0, 0)) (by (with_reducible repeat (first | refine blk_drewN ?_ _ | refine blk_drew ?_ | refine blk_alloc ?_ _)); exact BK384.out) hb); have n4_ := Aside0.mk (below_step (by repeat (first | (with_reducible first | exact HB.out | apply below_alloc | apply pw_below_drewN | apply below_drew1 | refine below_set ?_ GE384.out) | exact HB.out)) hb); clear HO387; clear HO390; clear BK384; clear HB; have HO387 := n0_; have HO390 := n1_; have HO393 := n2_; have BK384 := n3_; have HB := n4_; clear n0_ n1_ n2_ n3_ n4_; (try clear hb); (try clear hb2); (try clear hk); (try clear hi); (try clear ho0); obtain ⟨Ao11, co11, eo11⟩ := Kd.R_slice HO393.out; subst eo11; obtain ⟨Ao12, co12, eo12⟩ := Kd.V_slice HO390.out; subst eo12; have hcz13_0 : w10.cell? ⟨gb384, 0, none⟩ = some (.bool false) := (blk_cell BK384.out 0).trans rfl; have hcz13_1 : w10.cell? ⟨gb384, 1, none⟩ = some (.slice none 0 0) := (blk_cell BK384.out 1).trans rfl; have hcz13_2 : w10.cell? ⟨gb384, 2, none⟩ = some (.slice none 0 0) := (blk_cell BK384.out 2).trans rfl; have hfz13_0 := blk_frozen BK384.out 0; have hfz13_1 := blk_frozen BK384.out 1; have hfz13_2 := blk_frozen BK384.out 2))
    refine bodyPost_ret (results_cell_row rfl _ _ gb384 31 #[.bool true, .slice Ao12 t388.length co12, .slice Ao11 t391.length co11] (0, 0) _ rfl (by (with_reducible repeat (first | refine blk_drewN ?_ _ | refine blk_drew ?_ | refine blk_alloc ?_ _)); refine blk_put (cs := #[.bool true, .slice Ao12 t388.length co12, .slice none 0 0]) ?_ 2 _ rfl; (with_reducible repeat (first | refine blk_drewN ?_ _ | refine blk_drew ?_ | refine blk_alloc ?_ _)); refine blk_put (cs := #[.bool true, .slice none 0 0, .slice none 0 0]) ?_ 1 _ rfl; (with_reducible repeat (first | refine blk_drewN ?_ _ | refine blk_drew ?_ | refine blk_alloc ?_ _)); refine blk_put (cs := #[.bool false, .slice none 0 0, .slice none 0 0]) ?_ 0 _ rfl; (with_reducible repeat (first | refine blk_drewN ?_ _ | refine blk_drew ?_ | refine blk_alloc ?_ _)); exact BK384.out) Tryz.underlying31 rfl (by kernel_rfl)) rfl ?_
    exact ⟨_, _, by first | rfl | (simp [errW_none, errW_some] <;> rfl) | (simp [*, errW_none, errW_some] <;> rfl), by (with_reducible repeat (first | apply Kd.V_alloc | apply Kd.V_drewN | apply Kd.V_drew)); exact Kd.V_mono (Kd.V_far (p := ⟨gb384, 2, none⟩) (Kd.V_far (p := ⟨gb384, 1, none⟩) (Kd.V_far (p := ⟨gb384, 0, none⟩) (Kd.V_mono HO390.out (fun k_ hk => (⟨hk, hk.1.2.2⟩ : _ ∧ k_ ≠ gb384))) (fun _ hk => hk.2) (.bool true)) (fun _ hk => hk.2) (.slice Ao12 t388.length co12)) (fun _ hk => hk.2) (.slice Ao11 t391.length co11)) (fun _ hk => ⟨hk.1.1.1, hk.1.2⟩), by (with_reducible repeat (first | apply Kd.R_alloc | apply Kd.R_drewN | apply Kd.R_drew)); exact Kd.R_mono (Kd.R_far (p := ⟨gb384, 2, none⟩) (Kd.R_far (p := ⟨gb384, 1, none⟩) (Kd.R_far (p := ⟨gb384, 0, none⟩) (Kd.R_types HO393.out BK384.out (by decide)) (fun _ hk => hk.2) (.bool true)) (fun _ hk => hk.2) (.slice Ao12 t388.length co12)) (fun _ hk => hk.2) (.slice Ao11 t391.length co11)) (fun _ hk => hk.1.1), by repeat (first | (with_reducible first | exact HB.out | apply below_alloc | apply pw_below_drewN | apply below_drew1 | refine below_set ?_ GE384.out) | exact HB.out)⟩
  · rw [if_neg c2] at H
    have c2b0 : decide (a0 < 0) = false := decide_eq_false c2
    clear c2
    obtain ⟨y394, hy394⟩ : ∃ y_ : List Int, y_ = (([IntKind.u64.wrap (a0)] : List Int)) := ⟨_, rfl⟩
    replace H : ((spec_Of.f k y394).bind fun t397 => ((spec_Small.f k 1).bind fun t400 => (some (false, t397, t400)))) = some (r1, r2, r3) := by first | (rw [hy394]; with_reducible exact H) | (have H2_ := (Option.bind_some _ _).symm.trans H; rw [hy394]; with_reducible exact H2_) | (have H2_ := (Option.bind_some _ _).symm.trans H; with_reducible exact H2_) | with_reducible exact H | (rw [hy394]; exact H) | exact H
    have Ny394 := Aside0.mk hy394
    clear hy394
    replace H := Option.bind_eq_some_iff.mp H
    obtain ⟨t397, A140, H⟩ := H
    replace H : ((spec_Small.f k 1).bind fun t400 => (some (false, t397, t400))) = some (r1, r2, r3) := H
    have A14 := Aside0.mk A140
    clear A140
    replace H := Option.bind_eq_some_iff.mp H
    obtain ⟨t400, A150, H⟩ := H
    replace H : (some (false, t397, t400)) = some (r1, r2, r3) := H
    have A15 := Aside0.mk A150
    clear A150
    simp only [Option.some.injEq, Prod.mk.injEq] at H
    obtain ⟨rfl, rfl, rfl⟩ := H
    go_enter Tryz.func14, Tryz.ntmps14
    go_wp2_with (first | ((with_reducible refine gate_dst (N := 2) rfl ?_); refine box_event ?hg (N := 2) ?hd (cs := #[.bool false, .slice none 0 0, .slice none 0 0]) (t := 31) ?hr ?_; (case hd => rfl); (case hg => rfl); (case hr => first | (go_simp; done) | (go_simp; rfl)); intro gb384 hg w16 hbox hb; have n0_ := Aside0.mk (below_step (by repeat (first | (with_reducible first | exact HB.out | apply below_alloc | apply pw_below_drewN | apply below_drew1) | exact HB.out)) hb); have n1_ := Aside0.mk (hbox); have n2_ := Aside0.mk ((by rw [hg]; exact (below_size (by repeat (first | (with_reducible first | exact HB.out | apply below_alloc | apply pw_below_drewN | apply below_drew1) | exact HB.out))) : w.heap.size ≤ gb384)); have n3_ := Aside0.mk ((by rw [hg]; exact (below_size (by repeat (first | (with_reducible first | exact HB.out | apply below_alloc | apply pw_below_drewN | apply below_drew1) | exact HB.out))) : w.heap.size ≤ gb384)); clear HB; have HB := n0_; have BK384 := n1_; have GW384 := n2_; have GE384 := n3_; clear n0_ n1_ n2_ n3_; clear hb hbox hg) | ((with_reducible refine gate_dst (N := 14) rfl ?_); refine Kd.R_lit (Kd.int .u64) _ 50 ?hg (N := 14) ?hd (xs := ([IntKind.u64.wrap (a0)] : List Int)) (inner := [.int .u64 (IntKind.u64.wrap (a0))]) (ok := fun _ => True) (okp := fun _ => True) ?hr ?hp (fun _ hk => hk) trivial (Below.refl _ _) (Nat.le_refl _) (by simp) ?_; (case hd => rfl); (case hg => rfl); (case hr => first | (go_simp; done) | (go_simp; rfl)); (case hp => exact (Reps.one (show Kd.M (Kd.int .u64) _ _ _ (IntKind.u64.wrap (a0)) [.int .u64 (IntKind.u64.wrap (a0))] from rfl) (Reps.none _ _))); intro v395 w17 ho18 hb hg_ hnew_; clear hg_ hnew_; (first | rw [← Ny394.out] at ho18 | (simp only [Int.reduceToNat] at ho18; rw [← Ny394.out] at ho18)); have n0_ := Aside0.mk (Kd.R_lower (Kd.R_newM (M := fun k_ => (w.heap.size ≤ k_)) ho18 (below_size (by repeat (first | (with_reducible first | exact HB.out | apply below_alloc | apply pw_below_drewN | apply below_drew1 | refine below_set ?_ GE384.out) | exact HB.out))) (fun k_ h_ => h_)) (below_size (by repeat (first | (with_reducible first | exact HB.out | apply below_alloc | apply pw_below_drewN | apply below_drew1 | refine below_set ?_ GE384.out) | exact HB.out)))); have n1_ := Aside0.mk (blk_below (g := gb384) (o := .cells #[.bool false, .slice none 0 0, .slice none 0 0] 31 (0, 0)) (by (with_reducible repeat (first | refine blk_drewN ?_ _ | refine blk_drew ?_ | refine blk_alloc ?_ _)); exact BK384.out) hb); have n2_ := Aside0.mk (below_step (by repeat (first | (with_reducible first | exact HB.out | apply below_alloc | apply pw_below_drewN | apply below_drew1 | refine below_set ?_ GE384.out) | exact HB.out)) hb); clear BK384; clear HB; have HO396 := n0_; have BK384 := n1_; have HB := n2_; clear n0_ n1_ n2_; clear hb ho18; obtain ⟨Ao19, co19, eo19⟩ := Kd.R_slice HO396.out; subst eo19) | ((with_reducible refine gate_callee (f := 15) rfl ?_); refine goesL_ (some 15) rfl rfl Tryz.func15 (by kernel_rfl) rfl #[.slice Ao19 y394.length co19] rfl (by (try simp only [List.map_toArray, List.map_cons, List.map_nil]); first | done | rfl | (simp only [List.length_drop, List.length_take]; rfl)) ?_; (with_reducible refine (spec_Of.calls k _ _ y394 t397 _ ?side1 ?side2 A14.out).mono ?_); (case side1 => repeat (first | exact (Kd.R_reads' HO396.out).2.2 | (with_reducible refine Kd.C_alloc ?_ _) | (with_reducible refine Kd.C_drewN ?_ _) | (with_reducible refine Kd.C_drew ?_))); (case side2 => exact (Kd.R_reads' HO396.out).2.1); rintro e w20 ⟨v398, rfl, ho0, hb⟩; refine ⟨_, rfl, ?_⟩; have n0_ := Aside0.mk (Kd.R_below (by (with_reducible repeat (first | apply Kd.R_alloc | apply Kd.R_drewN | apply Kd.R_drew)); exact HO396.out) hb); have n1_ := Aside0.mk (Kd.V_lower (Kd.V_mono (ok' := fun k_ => (w.heap.size ≤ k_) ∧ some k_ ≠ (.slice Ao19 y394.length co19 : Value).ownBlock ∧ k_ ≠ gb384) ho0 (fun k_ hk_ => ⟨(Nat.le_trans (below_size (by repeat (first | (with_reducible first | exact HB.out | apply below_alloc | apply pw_below_drewN | apply below_drew1 | refine below_set ?_ GE384.out) | exact HB.out))) hk_), (Kd.fresh' (Kd.R_lt (by (with_reducible repeat (first | apply Kd.R_alloc | apply Kd.R_drewN | apply Kd.R_drew)); exact HO396.out)) k_ hk_), (Kd.freshB (g := gb384) (o := .cells #[.bool false, .slice none 0 0, .slice none 0 0] 31 (0, 0)) (by (with_reducible repeat (first | refine blk_drewN ?_ _ | refine blk_drew ?_ | refine blk_alloc ?_ _)); exact BK384.out) k_ hk_)⟩)) (below_size (by repeat (first | (with_reducible first | exact HB.out | apply below_alloc | apply pw_below_drewN | apply below_drew1 | refine below_set ?_ GE384.out) | exact HB.out)))); have n2_ := Aside0.mk (blk_below (g := gb384) (o := .cells #[.bool false, .slice none 0 0, .slice none 0 0] 31 (0, 0)) (by (with_reducible repeat (first | refine blk_drewN ?_ _ | refine blk_drew ?_ | refine blk_alloc ?_ _)); exact BK384.out) hb); have n3_ := Aside0.mk (below_step (by repeat (first | (with_reducible first | exact HB.out | apply below_alloc | apply pw_below_drewN | apply below_drew1 | refine below_set ?_ GE384.out) | exact HB.out)) hb); clear HO396; clear BK384; clear HB; have HO396 := n0_; have HO399 := n1_; have BK384 := n2_; have HB := n3_; clear n0_ n1_ n2_ n3_; (try clear hb); (try clear hb2); (try clear hk); (try clear hi); (try clear ho0)) | ((with_reducible refine gate_callee (f := 28) rfl ?_); refine goesL_ (some 16) rfl rfl Tryz.func28 (by kernel_rfl) rfl #[.int .i64 1] rfl (by (try simp only [List.map_toArray, List.map_cons, List.map_nil]); first | done | rfl | (simp only [List.length_drop, List.length_take]; rfl)) ?_; (with_reducible refine (spec_Small.calls k 1 t400 _ A15.out).mono ?_); rintro e w21 ⟨v401, rfl, ho0, hb⟩; refine ⟨_, rfl, ?_⟩; have n0_ := Aside0.mk (Kd.R_below (by (with_reducible repeat (first | apply Kd.R_alloc | apply Kd.R_drewN | apply Kd.R_drew)); exact HO396.out) hb); have n1_ := Aside0.mk (Kd.V_elder' (by (with_reducible repeat (first | apply Kd.V_alloc | apply Kd.V_drewN | apply Kd.V_drew)); exact HO399.out) (Kd.R_base ho0) hb); have n2_ := Aside0.mk (Kd.R_lower (Kd.R_newM (M := fun k_ => (w.heap.size ≤ k_)) ho0 (below_size (by repeat (first | (with_reducible first | exact HB.out | apply below_alloc | apply pw_below_drewN | apply below_drew1 | refine below_set ?_ GE384.out) | exact HB.out))) (fun k_ h_ => h_)) (below_size (by repeat (first | (with_reducible first | exact HB.out | apply below_alloc | apply pw_below_drewN | apply below_drew1 | refine below_set ?_ GE384.out) | exact HB.out)))); have n3_ := Aside0.mk (blk_below (g := gb384) (o := .cells #[.bool false, .slice none 0 0, .slice none 0 0] 31 (0, 0)) (by (with_reducible repeat (first | refine blk_drewN ?_ _ | refine blk_drew ?_ | refine blk_alloc ?_ _)); exact BK384.out) hb); have n4_ := Aside0.mk (below_step (by repeat (first | (with_reducible first | exact HB.out | apply below_alloc | apply pw_below_drewN | apply below_drew1 | refine below_set ?_ GE384.out) | exact HB.out)) hb); clear HO396; clear HO399; clear BK384; clear HB; have HO396 := n0_; have HO399 := n1_; have HO402 := n2_; have BK384 := n3_; have HB := n4_; clear n0_ n1_ n2_ n3_ n4_; (try clear hb); (try clear hb2); (try clear hk); (try clear hi); (try clear ho0); obtain ⟨Ao22, co22, eo22⟩ := Kd.R_slice HO402.out; subst eo22; obtain ⟨Ao23, co23, eo23⟩ := Kd.V_slice HO399.out; subst eo23; have hcz24_0 : w21.cell? ⟨gb384, 0, none⟩ = some (.bool false) := (blk_cell BK384.out 0).trans rfl; have hcz24_1 : w21.cell? ⟨gb384, 1, none⟩ = some (.slice none 0 0) := (blk_cell BK384.out 1).trans rfl; have hcz24_2 : w21.cell? ⟨gb384, 2, none⟩ = some (.slice none 0 0) := (blk_cell BK384.out 2).trans rfl; have hfz24_0 := blk_frozen BK384.out 0; have hfz24_1 := blk_frozen BK384.out 1; have hfz24_2 := blk_frozen BK384.out 2))
    refine bodyPost_ret (results_cell_row rfl _ _ gb384 31 #[.bool false, .slice Ao23 t397.length co23, .slice Ao22 t400.length co22] (0, 0) _ rfl (by (with_reducible repeat (first | refine blk_drewN ?_ _ | refine blk_drew ?_ | refine blk_alloc ?_ _)); refine blk_put (cs := #[.bool false, .slice Ao23 t397.length co23, .slice none 0 0]) ?_ 2 _ rfl; (with_reducible repeat (first | refine blk_drewN ?_ _ | refine blk_drew ?_ | refine blk_alloc ?_ _)); refine blk_put (cs := #[.bool false, .slice none 0 0, .slice none 0 0]) ?_ 1 _ rfl; (with_reducible repeat (first | refine blk_drewN ?_ _ | refine blk_drew ?_ | refine blk_alloc ?_ _)); refine blk_put (cs := #[.bool false, .slice none 0 0, .slice none 0 0]) ?_ 0 _ rfl; (with_reducible repeat (first | refine blk_drewN ?_ _ | refine blk_drew ?_ | refine blk_alloc ?_ _)); exact BK384.out) Tryz.underlying31 rfl (by kernel_rfl)) rfl ?_
    exact ⟨_, _, by first | rfl | (simp [errW_none, errW_some] <;> rfl) | (simp [*, errW_none, errW_some] <;> rfl), by (with_reducible repeat (first | apply Kd.V_alloc | apply Kd.V_drewN | apply Kd.V_drew)); exact Kd.V_mono (Kd.V_far (p := ⟨gb384, 2, none⟩) (Kd.V_far (p := ⟨gb384, 1, none⟩) (Kd.V_far (p := ⟨gb384, 0, none⟩) (Kd.V_mono HO399.out (fun k_ hk => (⟨hk, hk.1.2.2⟩ : _ ∧ k_ ≠ gb384))) (fun _ hk => hk.2) (.bool false)) (fun _ hk => hk.2) (.slice Ao23 t397.length co23)) (fun _ hk => hk.2) (.slice Ao22 t400.length co22)) (fun _ hk => ⟨hk.1.1.1, hk.1.2⟩), by (with_reducible repeat (first | apply Kd.R_alloc | apply Kd.R_drewN | apply Kd.R_drew)); exact Kd.R_mono (Kd.R_far (p := ⟨gb384, 2, none⟩) (Kd.R_far (p := ⟨gb384, 1, none⟩) (Kd.R_far (p := ⟨gb384, 0, none⟩) (Kd.R_types HO402.out BK384.out (by decide)) (fun _ hk => hk.2) (.bool false)) (fun _ hk => hk.2) (.slice Ao23 t397.length co23)) (fun _ hk => hk.2) (.slice Ao22 t400.length co22)) (fun _ hk => hk.1.1), by repeat (first | (with_reducible first | exact HB.out | apply below_alloc | apply pw_below_drewN | apply below_drew1 | refine below_set ?_ GE384.out) | exact HB.out)⟩

-- NOT PRINTED: function 4 (laws_FnLiteralChar)
end Go.Proofs.YtgpoplfgngiilaaGreatDoor.PAll
