/- Functions of the program as Lean functions, and that the Go code comes to their answers (the kit's print.py wrote it; cut into this file by pieces.py): spec_Mul, spec_Power. Plain laws over the printed functions of spec: Sub, Add, Mul, Power, Len answer the figures of the difference, the sum, the product, the power, and the number of bits. -/
import Derived.Test.YtgpoplfgngiilaaGreatDoorZ03
import Derived.Test.YtgpoplfgngiilaaGreatDoorZ06
import Derived.Test.YtgpoplfgngiilaaGreatDoorZ20
import Derived.Test.YtgpoplfgngiilaaGreatDoorZ21
set_option linter.unusedVariables false
set_option linter.unusedSimpArgs false
namespace Go.Proofs.YtgpoplfgngiilaaGreatDoor.PAll
open Go.RowKit Go.Proofs.YtgpoplfgngiilaaGreatDoorW.PrintWords Go.Proofs.YtgpoplfgngiilaaGreatDoorW.PrintLast Go.Proofs.YtgpoplfgngiilaaGreatDoorW.PrintMore
attribute [local go_sem] max2_int min2_int max_two min_two max_three min_three max_four min_four   -- for this text's walks alone
/-! ### spec_Mul: function 33 -/
mutual
def spec_Mul.l0 : Nat → List Int → List Int → List Int → Int → Int → Option (List Int)
  | 0, _, _, _, _, _ => none
  | k + 1, x1, x5, x17, x18, x19 => if x19 < x18 then (if 0 ≤ x19 then (if x19 < (x17.length : Int) then (spec_Mul.l1 k x1 x5 x19 (rd x17 x19) 0 x17 x18 x19 x1 (x1.length : Int) 0) else (none)) else (none)) else ((spec_trim.f k x5).bind fun t520 => (some t520))
def spec_Mul.l1 : Nat → List Int → List Int → Int → Int → Int → List Int → Int → Int → List Int → Int → Int → Option (List Int)
  | 0, _, _, _, _, _, _, _, _, _, _, _ => none
  | k + 1, x1, x5, x6, x7, x8, x17, x18, x19, x24, x25, x26 => if x26 < x25 then (if 0 ≤ x26 then (if x26 < (x24.length : Int) then (if 0 ≤ (wrap64 (x6 + x26)) then (if (wrap64 (x6 + x26)) < (x5.length : Int) then (spec_Mul.l1 k x1 (x5.set ((wrap64 (x6 + x26)) : Int).toNat (Int.tmod (wrap64 (x8 + (wrap64 ((rd x5 (wrap64 (x6 + x26))) + (wrap64 (x7 * (rd x24 x26))))))) 65536)) x6 x7 (wrap64 (Int.tdiv (wrap64 (x8 + (wrap64 ((rd x5 (wrap64 (x6 + x26))) + (wrap64 (x7 * (rd x24 x26))))))) 65536)) x17 x18 x19 x24 x25 (wrap64 (x26 + 1))) else (none)) else (none)) else (none)) else (none)) else (if 0 ≤ (wrap64 (x6 + (x1.length : Int))) then (if (wrap64 (x6 + (x1.length : Int))) < (x5.length : Int) then (spec_Mul.l0 k x1 (x5.set ((wrap64 (x6 + (x1.length : Int))) : Int).toNat x8) x17 x18 (wrap64 (x19 + 1))) else (none)) else (none))
end
def spec_Mul.f (k : Nat) (l0 : List Int) (l1 : List Int) : Option (List Int) := if 0 ≤ (wrap64 ((l0.length : Int) + (l1.length : Int))) then (if (wrap64 ((l0.length : Int) + (l1.length : Int)) : Int).toNat ≤ 35184372088832 then (spec_Mul.l0 k l1 (List.replicate (wrap64 ((l0.length : Int) + (l1.length : Int)) : Int).toNat 0) l0 (l0.length : Int) 0) else (none)) else (none)
set_option maxHeartbeats 8000000 in
set_option maxRecDepth 100000 in
theorem spec_Mul.calls (k : Nat) (A0 : Option Addr) (c0 : Nat) (l0 : List Int) (A1 : Option Addr) (c1 : Nat) (l1 : List Int) (r : List Int) (w : World) (hr0 : Kd.C (Kd.int .i64) w A0 l0.length l0) (hc0 : l0.length ≤ c0) (hr1 : Kd.C (Kd.int .i64) w A1 l1.length l1) (hc1 : l1.length ≤ c1) (h : spec_Mul.f k l0 l1 = some r) :
    Calls Tryz.prog 33 #[.slice A0 l0.length c0, .slice A1 l1.length c1] w fun e w' => ∃ v0_ : Value, e = .returned (v0_) ∧ Kd.V (Kd.int .i64) 3 w' w.heap.size (fun k_ => (w.heap.size ≤ k_)) v0_ r ∧ Below w.heap.size w w' := by
  have HR0 := Aside0.mk hr0
  have HC0 := Aside0.mk hc0
  clear hr0 hc0
  have HR1 := Aside0.mk hr1
  have HC1 := Aside0.mk hc1
  clear hr1 hc1
  have HB := Aside0.mk (Below.refl w.heap.size w)
  have H : (if 0 ≤ (wrap64 ((l0.length : Int) + (l1.length : Int))) then (if (wrap64 ((l0.length : Int) + (l1.length : Int)) : Int).toNat ≤ 35184372088832 then (spec_Mul.l0 k l1 (List.replicate (wrap64 ((l0.length : Int) + (l1.length : Int)) : Int).toNat 0) l0 (l0.length : Int) 0) else (none)) else (none)) = some r := h
  clear h
  obtain ⟨ji3, hji3⟩ : ∃ j_ : Int, (wrap64 ((l0.length : Int) + (l1.length : Int))) = j_ := ⟨_, rfl⟩
  replace H : (if 0 ≤ (ji3) then (if (ji3 : Int).toNat ≤ 35184372088832 then (spec_Mul.l0 k l1 (List.replicate (ji3 : Int).toNat 0) l0 (l0.length : Int) 0) else (none)) else (none)) = some r := by first | (rw [hji3] at H; exact H) | (simp only [hji3] at H ⊢; exact H)
  have hji3w : (IntKind.i64.wrap ((l0.length : Int) + (l1.length : Int))) = ji3 := (i64_w _).trans hji3
  by_cases c4 : 0 ≤ (ji3)
  · rw [if_pos c4] at H
    have c4b0 := eq_true c4
    have c4b1 : decide (0 ≤ (ji3)) = true := decide_eq_true c4
    clear c4
    by_cases c5 : (ji3 : Int).toNat ≤ 35184372088832
    · rw [if_pos c5] at H
      have c5b0 := eq_true c5
      have c5b1 : decide ((ji3 : Int).toNat ≤ 35184372088832) = true := decide_eq_true c5
      clear c5
      obtain ⟨y517, hy517⟩ : ∃ y_ : List Int, y_ = (List.replicate (ji3 : Int).toNat 0) := ⟨_, rfl⟩
      replace H : (spec_Mul.l0 k l1 y517 l0 (l0.length : Int) 0) = some r := by first | (rw [hy517]; with_reducible exact H) | (have H2_ := (Option.bind_some _ _).symm.trans H; rw [hy517]; with_reducible exact H2_) | (have H2_ := (Option.bind_some _ _).symm.trans H; with_reducible exact H2_) | with_reducible exact H | (rw [hy517]; exact H) | exact H
      have Ny517 := Aside0.mk hy517
      clear hy517
      have H' := Aside0.mk H
      clear H
      go_enter Tryz.func33, Tryz.ntmps33
      go_wp2_with (first | ((with_reducible refine gate_dst (N := 16) rfl ?_); refine Kd.R_make (Kd.int .i64) _ 3 rfl (N := 16) rfl 29 _ _ rfl ji3 rfl rfl Tryz.underlying29 (.int .i64 0) 8 info3 rfl (by decide) (by omega) 0 (ok := fun _ => True) (okp := fun _ => True) rfl (fun _ hk => hk) trivial (of_decide_eq_true (by first | (with_reducible assumption) | assumption)) (Nat.le_trans (Nat.mul_le_mul_right _ (of_decide_eq_true (by first | (with_reducible assumption) | assumption) : ji3.toNat ≤ 35184372088832)) (by omega)) (Below.refl _ _) (Nat.le_refl _) ?_; intro v518 w6 ho7 hb hg_ hnew_; clear hg_ hnew_; (first | rw [← Ny517.out] at ho7 | (simp only [Int.reduceToNat] at ho7; rw [← Ny517.out] at ho7)); have n0_ := Aside0.mk (Kd.R_lower (Kd.R_newM (M := fun k_ => (w.heap.size ≤ k_)) ho7 (below_size (by repeat (first | (with_reducible first | exact HB.out | apply below_alloc | apply pw_below_drewN | apply below_drew1) | exact HB.out))) (fun k_ h_ => h_)) (below_size (by repeat (first | (with_reducible first | exact HB.out | apply below_alloc | apply pw_below_drewN | apply below_drew1) | exact HB.out)))); have n1_ := Aside0.mk (below_step (by repeat (first | (with_reducible first | exact HB.out | apply below_alloc | apply pw_below_drewN | apply below_drew1) | exact HB.out)) hb); clear HB; have HO519 := n0_; have HB := n1_; clear n0_ n1_; clear hb ho7))
      go_loopg [19] k (fun kq v19 w' => ∃ (x5_1 : List Int) (x19_1 : Int), v19 = .int .i64 x19_1 ∧ Aside0 (spec_Mul.l0 kq l1 x5_1 l0 (l0.length : Int) x19_1 = some r) ∧ Aside0 (kq ≤ k) ∧ Aside0 (Kd.R (Kd.int .i64) 3 w' w.heap.size (fun k_ => (w.heap.size ≤ k_)) v518 x5_1) ∧ Aside0 (Below w.heap.size w w'))
      case atStart => exact ⟨(y517), (0), (by first | rfl | (simp; done) | (simp [*]; done)), H', ⟨Nat.le_refl _⟩, ⟨by (with_reducible repeat (first | apply Kd.R_alloc | apply Kd.R_drewN | apply Kd.R_drew)); exact Kd.R_mono HO519.out (fun _ hk => hk.1)⟩, ⟨by repeat (first | (with_reducible first | exact HB.out | apply below_alloc | apply pw_below_drewN | apply below_drew1) | exact HB.out)⟩⟩
      case round =>
        clear H'
        try clear c1
        try clear p2
        try clear c3
        try clear c4
        try clear c4b0
        try clear c4b1
        try clear c5
        try clear c5b0
        try clear c5b1
        try clear p6
        obtain ⟨x5_1, x19_1, rfl, HA, HK1, HO_5, HB⟩ := hrel
        cases gk with
        | zero => exact absurd HA.out (by simp [spec_Mul.l0])
        | succ k1 =>
          have H := HA.out
          clear HA
          simp only [spec_Mul.l0] at H
          by_cases c8 : x19_1 < (l0.length : Int)
          · rw [if_pos c8] at H
            have c8b0 : decide (x19_1 < (l0.length : Int)) = true := decide_eq_true c8
            clear c8
            by_cases c9 : 0 ≤ x19_1
            · rw [if_pos c9] at H
              have c9b0 : decide (0 ≤ x19_1) = true := decide_eq_true c9
              clear c9
              by_cases c10 : x19_1 < (l0.length : Int)
              · rw [if_pos c10] at H
                have c10b0 : decide (x19_1 < (l0.length : Int)) = true := decide_eq_true c10
                clear c10
                have H' := Aside0.mk H
                clear H
                have p523 : 0 ≤ (x19_1 : Int) := of_decide_eq_true (by first | (with_reducible assumption) | assumption)
                have q523 : x19_1 < (l0.length : Int) := of_decide_eq_true (by first | (with_reducible assumption) | assumption)
                obtain ⟨ad523, e523, hx523_0⟩ := Kd.at_int HR0.out x19_1 p523 q523
                cases e523
                replace hx523_0 := (HB.out.cell (World.block_lt_of_cell? w _ hx523_0)).trans hx523_0
                replace p523 := eq_true p523
                replace q523 := eq_true q523
                go_wp2
                go_loopg [8, 26] k1 (fun kq v8 v26 w' => ∃ (x5_2 : List Int) (x8_2 : Int) (x26_2 : Int), v8 = .int .i64 x8_2 ∧ v26 = .int .i64 x26_2 ∧ Aside0 (spec_Mul.l1 kq l1 x5_2 x19_1 (rd l0 x19_1) x8_2 l0 (l0.length : Int) x19_1 l1 (l1.length : Int) x26_2 = some r) ∧ Aside0 (kq ≤ k1) ∧ Aside0 (Kd.R (Kd.int .i64) 3 w' w.heap.size (fun k_ => (w.heap.size ≤ k_)) v518 x5_2) ∧ Aside0 (Below w.heap.size w w'))
                case atStart => exact ⟨(x5_1), (0), (0), (by first | rfl | (simp; done) | (simp [*]; done)), (by first | rfl | (simp; done) | (simp [*]; done)), H', ⟨Nat.le_refl _⟩, ⟨by (with_reducible repeat (first | apply Kd.R_alloc | apply Kd.R_drewN | apply Kd.R_drew)); exact HO_5.out⟩, ⟨by repeat (first | (with_reducible first | exact HB.out | apply below_alloc | apply pw_below_drewN | apply below_drew1) | exact HB.out)⟩⟩
                case round =>
                  clear H'
                  try clear c1
                  try clear p2
                  try clear c3
                  try clear c4
                  try clear c4b0
                  try clear c4b1
                  try clear c5
                  try clear c5b0
                  try clear c5b1
                  try clear p5
                  try clear q5
                  try clear hx5
                  try clear p6
                  try clear c8
                  try clear c8b0
                  try clear c9
                  try clear c9b0
                  try clear c10
                  try clear c10b0
                  try clear hx523_0
                  try clear p2
                  try clear p523
                  try clear p6
                  try clear q523
                  obtain ⟨x5_2, x8_2, x26_2, rfl, rfl, HA, HK2, HO_5, HB⟩ := hrel
                  cases gk with
                  | zero => exact absurd HA.out (by simp [spec_Mul.l1])
                  | succ k2 =>
                    have H := HA.out
                    clear HA
                    simp only [spec_Mul.l1] at H
                    by_cases c11 : x26_2 < (l1.length : Int)
                    · rw [if_pos c11] at H
                      have c11b0 : decide (x26_2 < (l1.length : Int)) = true := decide_eq_true c11
                      clear c11
                      by_cases c12 : 0 ≤ x26_2
                      · rw [if_pos c12] at H
                        have c12b0 : decide (0 ≤ x26_2) = true := decide_eq_true c12
                        clear c12
                        by_cases c13 : x26_2 < (l1.length : Int)
                        · rw [if_pos c13] at H
                          have c13b0 : decide (x26_2 < (l1.length : Int)) = true := decide_eq_true c13
                          clear c13
                          obtain ⟨ji14, hji14⟩ : ∃ j_ : Int, (wrap64 (x19_1 + x26_2)) = j_ := ⟨_, rfl⟩
                          replace H : (if 0 ≤ (ji14) then (if (ji14) < (x5_2.length : Int) then (spec_Mul.l1 k2 l1 (x5_2.set ((ji14) : Int).toNat (Int.tmod (wrap64 (x8_2 + (wrap64 ((rd x5_2 (ji14)) + (wrap64 ((rd l0 x19_1) * (rd l1 x26_2))))))) 65536)) x19_1 (rd l0 x19_1) (wrap64 (Int.tdiv (wrap64 (x8_2 + (wrap64 ((rd x5_2 (ji14)) + (wrap64 ((rd l0 x19_1) * (rd l1 x26_2))))))) 65536)) l0 (l0.length : Int) x19_1 l1 (l1.length : Int) (wrap64 (x26_2 + 1))) else (none)) else (none)) = some r := by first | (rw [hji14] at H; exact H) | (simp only [hji14] at H ⊢; exact H)
                          have hji14w : (IntKind.i64.wrap (x19_1 + x26_2)) = ji14 := (i64_w _).trans hji14
                          by_cases c15 : 0 ≤ (ji14)
                          · rw [if_pos c15] at H
                            have c15b0 : decide (0 ≤ (ji14)) = true := decide_eq_true c15
                            clear c15
                            by_cases c16 : (ji14) < (x5_2.length : Int)
                            · rw [if_pos c16] at H
                              have c16b0 : decide ((ji14) < (x5_2.length : Int)) = true := decide_eq_true c16
                              clear c16
                              obtain ⟨y526, hy526⟩ : ∃ y_ : List Int, y_ = (x5_2.set ((ji14) : Int).toNat (Int.tmod (wrap64 (x8_2 + (wrap64 ((rd x5_2 (ji14)) + (wrap64 ((rd l0 x19_1) * (rd l1 x26_2))))))) 65536)) := ⟨_, rfl⟩
                              replace H : (spec_Mul.l1 k2 l1 y526 x19_1 (rd l0 x19_1) (wrap64 (Int.tdiv (wrap64 (x8_2 + (wrap64 ((rd x5_2 (ji14)) + (wrap64 ((rd l0 x19_1) * (rd l1 x26_2))))))) 65536)) l0 (l0.length : Int) x19_1 l1 (l1.length : Int) (wrap64 (x26_2 + 1))) = some r := by first | (rw [hy526]; with_reducible exact H) | (have H2_ := (Option.bind_some _ _).symm.trans H; rw [hy526]; with_reducible exact H2_) | (have H2_ := (Option.bind_some _ _).symm.trans H; with_reducible exact H2_) | with_reducible exact H | (rw [hy526]; exact H) | exact H
                              have Ny526 := Aside0.mk hy526
                              clear hy526
                              have H' := Aside0.mk H
                              clear H
                              have p524 : 0 ≤ (x26_2 : Int) := of_decide_eq_true (by first | (with_reducible assumption) | assumption)
                              have q524 : x26_2 < (l1.length : Int) := of_decide_eq_true (by first | (with_reducible assumption) | assumption)
                              obtain ⟨ad524, e524, hx524_0⟩ := Kd.at_int HR1.out x26_2 p524 q524
                              cases e524
                              replace hx524_0 := (HB.out.cell (World.block_lt_of_cell? w _ hx524_0)).trans hx524_0
                              replace p524 := eq_true p524
                              replace q524 := eq_true q524
                              obtain ⟨Ao18, co18, eo18⟩ := Kd.R_slice HO_5.out
                              subst eo18
                              have p525 : 0 ≤ ((ji14) : Int) := of_decide_eq_true (by first | (with_reducible assumption) | assumption)
                              have q525 : (ji14) < (x5_2.length : Int) := of_decide_eq_true (by first | (with_reducible assumption) | assumption)
                              obtain ⟨ad525, e525, hx525_0⟩ := Kd.at_int (Kd.R_reads' HO_5.out).2.2 (ji14) p525 q525
                              cases e525
                              replace p525 := eq_true p525
                              replace q525 := eq_true q525
                              have p17 : 0 ≤ ((ji14) : Int) := of_decide_eq_true (by first | (with_reducible assumption) | assumption)
                              have q17 : ((ji14) : Int) < ((x5_2.length : Int) : Int) := of_decide_eq_true (by first | (with_reducible assumption) | assumption)
                              obtain ⟨go17, co17, eo17, gb17, gl17, cl17, HG17⟩ := Kd.R_form HO_5.out (by omega)
                              (first | cases eo17 | (injection eo17 with ea_ en_ ec_; (first | subst ea_ | (injection ea_ with ea_; subst ea_)); subst ec_; clear en_))
                              have GB17 := Aside0.mk gb17
                              have GG17 := Aside0.mk HG17
                              clear gb17 gl17 HG17
                              (first | simp only [add_plain] at hx525_0 | skip)
                              obtain ⟨hx17_0, hf17_0⟩ := Kd.R_celln 0 HO_5.out ((ji14) : Int) p17 q17
                              replace p17 := eq_true p17
                              replace q17 := eq_true q17
                              have HP19 := Kd.R_putg HO_5.out ((ji14) : Int) (Int.tmod (wrap64 (x8_2 + (wrap64 ((rd x5_2 (ji14)) + (wrap64 ((rd l0 x19_1) * (rd l1 x26_2))))))) 65536)
                              go_wp2_with (first | ((with_reducible refine gate_store (t := 3) (p := 49) rfl ?_); refine store_event (t := 3) (p := 49) (v := ?vo_w20) (w1 := (wr.setCell ⟨go17, ((ji14) : Int).toNat, none⟩ (.int .i64 (Int.tmod (wrap64 (x8_2 + (wrap64 ((rd x5_2 (ji14)) + (wrap64 ((rd l0 x19_1) * (rd l1 x26_2))))))) 65536)))) ?hg ?ho ?hn ?hr ?_; (case ho => rfl); (case hg => rfl); (case hn => rfl); (case hr => first | (go_simp; done) | (go_simp; rfl)); intro w20 hw; have hg : wr.grownBy w20 (some go17) := (by rw [hw]; exact HP19.2); have hp_ : Kd.R (Kd.int .i64) 3 w20 w.heap.size (fun k_ => (w.heap.size ≤ k_)) (.slice (some ⟨go17, 0, none⟩) x5_2.length co18) y526 := (by rw [hw, Ny526.out]; exact HP19.1); clear HP19; have n0_ := Aside0.mk (hp_); have n1_ := Aside0.mk ((by rw [hw]; exact below_set (HB.out) GB17.out : Below w.heap.size w w20)); clear HO_5; clear HB; have HO_5 := n0_; have HB := n1_; clear n0_ n1_; clear hg hw hp_))
                              go_roundg k2
                              case measure => have := HK1.out; have := HK2.out; omega
                              case rel => exact ⟨(y526), (wrap64 (Int.tdiv (wrap64 (x8_2 + (wrap64 ((rd x5_2 (ji14)) + (wrap64 ((rd l0 x19_1) * (rd l1 x26_2))))))) 65536)), (wrap64 (x26_2 + 1)), (by first | rfl | (simp; done) | (simp only [← hji14] <;> (first | rfl | simp)) | (simp [*]; done)), (by first | rfl | (simp; done) | (simp [*]; done)), H', ⟨by have := HK1.out; have := HK2.out; omega⟩, ⟨by (with_reducible repeat (first | apply Kd.R_alloc | apply Kd.R_drewN | apply Kd.R_drew)); exact HO_5.out⟩, ⟨by repeat (first | (with_reducible first | exact HB.out | apply below_alloc | apply pw_below_drewN | apply below_drew1) | exact HB.out)⟩⟩
                            · rw [if_neg c16] at H
                              exact absurd H (by simp)
                          · rw [if_neg c15] at H
                            exact absurd H (by simp)
                        · rw [if_neg c13] at H
                          exact absurd H (by simp)
                      · rw [if_neg c12] at H
                        exact absurd H (by simp)
                    · rw [if_neg c11] at H
                      have c11b0 : decide (x26_2 < (l1.length : Int)) = false := decide_eq_false c11
                      clear c11
                      obtain ⟨ji21, hji21⟩ : ∃ j_ : Int, (wrap64 (x19_1 + (l1.length : Int))) = j_ := ⟨_, rfl⟩
                      replace H : (if 0 ≤ (ji21) then (if (ji21) < (x5_2.length : Int) then (spec_Mul.l0 k2 l1 (x5_2.set ((ji21) : Int).toNat x8_2) l0 (l0.length : Int) (wrap64 (x19_1 + 1))) else (none)) else (none)) = some r := by first | (rw [hji21] at H; exact H) | (simp only [hji21] at H ⊢; exact H)
                      have hji21w : (IntKind.i64.wrap (x19_1 + (l1.length : Int))) = ji21 := (i64_w _).trans hji21
                      by_cases c22 : 0 ≤ (ji21)
                      · rw [if_pos c22] at H
                        have c22b0 : decide (0 ≤ (ji21)) = true := decide_eq_true c22
                        clear c22
                        by_cases c23 : (ji21) < (x5_2.length : Int)
                        · rw [if_pos c23] at H
                          have c23b0 : decide ((ji21) < (x5_2.length : Int)) = true := decide_eq_true c23
                          clear c23
                          obtain ⟨y527, hy527⟩ : ∃ y_ : List Int, y_ = (x5_2.set ((ji21) : Int).toNat x8_2) := ⟨_, rfl⟩
                          replace H : (spec_Mul.l0 k2 l1 y527 l0 (l0.length : Int) (wrap64 (x19_1 + 1))) = some r := by first | (rw [hy527]; with_reducible exact H) | (have H2_ := (Option.bind_some _ _).symm.trans H; rw [hy527]; with_reducible exact H2_) | (have H2_ := (Option.bind_some _ _).symm.trans H; with_reducible exact H2_) | with_reducible exact H | (rw [hy527]; exact H) | exact H
                          have Ny527 := Aside0.mk hy527
                          clear hy527
                          have H' := Aside0.mk H
                          clear H
                          have p24 : 0 ≤ ((ji21) : Int) := of_decide_eq_true (by first | (with_reducible assumption) | assumption)
                          have q24 : ((ji21) : Int) < ((x5_2.length : Int) : Int) := of_decide_eq_true (by first | (with_reducible assumption) | assumption)
                          obtain ⟨go24, co24, eo24, gb24, gl24, cl24, HG24⟩ := Kd.R_form HO_5.out (by omega)
                          (first | cases eo24 | (injection eo24 with ea_ en_ ec_; (first | subst ea_ | (injection ea_ with ea_; subst ea_)); subst ec_; clear en_))
                          have GB24 := Aside0.mk gb24
                          have GG24 := Aside0.mk HG24
                          clear gb24 gl24 HG24
                          obtain ⟨hx24_0, hf24_0⟩ := Kd.R_celln 0 HO_5.out ((ji21) : Int) p24 q24
                          replace p24 := eq_true p24
                          replace q24 := eq_true q24
                          have HP25 := Kd.R_putg HO_5.out ((ji21) : Int) x8_2
                          go_wp2_with (first | ((with_reducible refine gate_store (t := 3) (p := 59) rfl ?_); refine store_event (t := 3) (p := 59) (v := ?vo_w26) (w1 := (wr.setCell ⟨go24, ((ji21) : Int).toNat, none⟩ (.int .i64 x8_2))) ?hg ?ho ?hn ?hr ?_; (case ho => rfl); (case hg => rfl); (case hn => rfl); (case hr => first | (go_simp; done) | (go_simp; rfl)); intro w26 hw; have hg : wr.grownBy w26 (some go24) := (by rw [hw]; exact HP25.2); have hp_ : Kd.R (Kd.int .i64) 3 w26 w.heap.size (fun k_ => (w.heap.size ≤ k_)) (.slice (some ⟨go24, 0, none⟩) x5_2.length co24) y527 := (by rw [hw, Ny527.out]; exact HP25.1); clear HP25; have n0_ := Aside0.mk (hp_); have n1_ := Aside0.mk ((by rw [hw]; exact below_set (HB.out) GB24.out : Below w.heap.size w w26)); clear HO_5; clear HB; have HO_5 := n0_; have HB := n1_; clear n0_ n1_; clear hg hw hp_))
                          go_roundg k2
                          case measure => have := HK1.out; have := HK2.out; omega
                          case rel => exact ⟨(y527), (wrap64 (x19_1 + 1)), (by first | rfl | (simp; done) | (simp [*]; done)), H', ⟨by have := HK1.out; have := HK2.out; omega⟩, ⟨by (with_reducible repeat (first | apply Kd.R_alloc | apply Kd.R_drewN | apply Kd.R_drew)); exact HO_5.out⟩, ⟨by repeat (first | (with_reducible first | exact HB.out | apply below_alloc | apply pw_below_drewN | apply below_drew1) | exact HB.out)⟩⟩
                        · rw [if_neg c23] at H
                          exact absurd H (by simp)
                      · rw [if_neg c22] at H
                        exact absurd H (by simp)
              · rw [if_neg c10] at H
                exact absurd H (by simp)
            · rw [if_neg c9] at H
              exact absurd H (by simp)
          · rw [if_neg c8] at H
            have c8b0 : decide (x19_1 < (l0.length : Int)) = false := decide_eq_false c8
            clear c8
            replace H := Option.bind_eq_some_iff.mp H
            obtain ⟨t520, A270, H⟩ := H
            replace H : (some t520) = some r := H
            have A27 := Aside0.mk A270
            clear A270
            obtain rfl := Option.some.inj H
            obtain ⟨Ao28, co28, eo28⟩ := Kd.R_slice HO_5.out
            subst eo28
            go_wp2_with (first | ((with_reducible refine gate_callee (f := 29) rfl ?_); refine goesL_ (some 62) rfl rfl Tryz.func29 (by kernel_rfl) rfl #[.slice Ao28 x5_1.length co28] rfl (by (try simp only [List.map_toArray, List.map_cons, List.map_nil]); first | done | rfl | (simp only [List.length_drop, List.length_take]; rfl)) ?_; (with_reducible refine (spec_trim.calls k1 (fun k_ => some k_ = (.slice Ao28 x5_1.length co28 : Value).ownBlock) _ _ x5_1 t520 _ ?side1 A27.out).mono ?_); (case side1 => exact Kd.R_V (Kd.R_tight rfl (HO_5.out))); rintro e w29 ⟨v521, rfl, ho0, hb⟩; refine ⟨_, rfl, ?_⟩; have n0_ := Aside0.mk (Kd.R_below (by (with_reducible repeat (first | apply Kd.R_alloc | apply Kd.R_drewN | apply Kd.R_drew)); exact HO_5.out) hb); have n1_ := Aside0.mk (Kd.V_lower (Kd.V_mono (ok' := fun k_ => (w.heap.size ≤ k_)) ho0 (fun k_ hk_ => Or.elim hk_ (fun hs_ => ((HO_5.out).1 k_ hs_.symm)) (fun hn_ => (Nat.le_trans (below_size (by repeat (first | (with_reducible first | exact HB.out | apply below_alloc | apply pw_below_drewN | apply below_drew1) | exact HB.out))) hn_)))) (below_size (by repeat (first | (with_reducible first | exact HB.out | apply below_alloc | apply pw_below_drewN | apply below_drew1) | exact HB.out)))); have n2_ := Aside0.mk (below_step (by repeat (first | (with_reducible first | exact HB.out | apply below_alloc | apply pw_below_drewN | apply below_drew1) | exact HB.out)) hb); clear HO_5; clear HB; have HO_5 := n0_; have HO522 := n1_; have HB := n2_; clear n0_ n1_ n2_; (try clear hb); (try clear hb2); (try clear hk); (try clear hi); (try clear ho0)))
            go_ret
            exact ⟨_, by first | rfl | (simp [errW_none, errW_some] <;> rfl) | (simp only [← hji3]; first | rfl | (simp [errW_none, errW_some] <;> rfl)) | (simp [*, errW_none, errW_some] <;> rfl), by (with_reducible repeat (first | apply Kd.V_alloc | apply Kd.V_drewN | apply Kd.V_drew)); exact HO522.out, by repeat (first | (with_reducible first | exact HB.out | apply below_alloc | apply pw_below_drewN | apply below_drew1) | exact HB.out)⟩
    · rw [if_neg c5] at H
      exact absurd H (by simp)
  · rw [if_neg c4] at H
    exact absurd H (by simp)

-- NOT PRINTED: function 19 (spec_Times)
/-! ### spec_Power: function 34 -/
def spec_Power.l0 : Nat → Int → Int → List Int → Option (List Int)
  | 0, _, _, _ => none
  | k + 1, x0, x1, x5 => if x1 > 0 then ((spec_Small.f k x0).bind fun t540 => ((spec_Mul.f k x5 t540).bind fun t543 => (spec_Power.l0 k x0 (wrap64 (x1 - 1)) t543))) else (some x5)
def spec_Power.f (k : Nat) (a0 : Int) (a1 : Int) : Option (List Int) := (spec_Small.f k 1).bind fun t537 => (spec_Power.l0 k a0 a1 t537)
set_option maxHeartbeats 8000000 in
set_option maxRecDepth 100000 in
theorem spec_Power.calls (k : Nat) (a0 : Int) (a1 : Int) (r : List Int) (w : World) (h : spec_Power.f k a0 a1 = some r) :
    Calls Tryz.prog 34 #[.int .i64 a0, .int .i64 a1] w fun e w' => ∃ v0_ : Value, e = .returned (v0_) ∧ Kd.V (Kd.int .i64) 3 w' w.heap.size (fun k_ => (w.heap.size ≤ k_)) v0_ r ∧ Below w.heap.size w w' := by
  have HB := Aside0.mk (Below.refl w.heap.size w)
  have H : ((spec_Small.f k 1).bind fun t537 => (spec_Power.l0 k a0 a1 t537)) = some r := h
  clear h
  replace H := Option.bind_eq_some_iff.mp H
  obtain ⟨t537, A30, H⟩ := H
  replace H : (spec_Power.l0 k a0 a1 t537) = some r := H
  have A3 := Aside0.mk A30
  clear A30
  have H' := Aside0.mk H
  clear H
  go_enter Tryz.func34, Tryz.ntmps34
  go_wp2_with (first | ((with_reducible refine gate_callee (f := 28) rfl ?_); refine goesL_ (some 6) rfl rfl Tryz.func28 (by kernel_rfl) rfl #[.int .i64 1] rfl (by (try simp only [List.map_toArray, List.map_cons, List.map_nil]); first | done | rfl | (simp only [List.length_drop, List.length_take]; rfl)) ?_; (with_reducible refine (spec_Small.calls k 1 t537 _ A3.out).mono ?_); rintro e w4 ⟨v538, rfl, ho0, hb⟩; refine ⟨_, rfl, ?_⟩; have n0_ := Aside0.mk (Kd.R_lower (Kd.R_newM (M := fun k_ => (w.heap.size ≤ k_)) ho0 (below_size (by repeat (first | (with_reducible first | exact HB.out | apply below_alloc | apply pw_below_drewN | apply below_drew1) | exact HB.out))) (fun k_ h_ => h_)) (below_size (by repeat (first | (with_reducible first | exact HB.out | apply below_alloc | apply pw_below_drewN | apply below_drew1) | exact HB.out)))); have n1_ := Aside0.mk (below_step (by repeat (first | (with_reducible first | exact HB.out | apply below_alloc | apply pw_below_drewN | apply below_drew1) | exact HB.out)) hb); clear HB; have HO539 := n0_; have HB := n1_; clear n0_ n1_; (try clear hb); (try clear hb2); (try clear hk); (try clear hi); (try clear ho0)))
  go_loopg [1, 5] k (fun kq v1 v5 w' => ∃ (x1_1 : Int) (x5_1 : List Int), v1 = .int .i64 x1_1 ∧ Aside0 (spec_Power.l0 kq a0 x1_1 x5_1 = some r) ∧ Aside0 (kq ≤ k) ∧ Aside0 (Kd.V (Kd.int .i64) 3 w' w.heap.size (fun k_ => (w.heap.size ≤ k_)) v5 x5_1) ∧ Aside0 (Below w.heap.size w w'))
  case atStart => exact ⟨(a1), (t537), (by first | rfl | (simp; done) | (simp [*]; done)), H', ⟨Nat.le_refl _⟩, ⟨Kd.R_V (by (with_reducible repeat (first | apply Kd.R_alloc | apply Kd.R_drewN | apply Kd.R_drew)); exact Kd.R_mono HO539.out (fun _ hk => hk.1))⟩, ⟨by repeat (first | (with_reducible first | exact HB.out | apply below_alloc | apply pw_below_drewN | apply below_drew1) | exact HB.out)⟩⟩
  case round =>
    clear H'
    try clear c2
    try clear p2
    try clear c3
    obtain ⟨x1_1, x5_1, rfl, HA, HK1, HO_5, HB⟩ := hrel
    cases gk with
    | zero => exact absurd HA.out (by simp [spec_Power.l0])
    | succ k1 =>
      have H := HA.out
      clear HA
      simp only [spec_Power.l0] at H
      by_cases c5 : x1_1 > 0
      · rw [if_pos c5] at H
        have c5b0 : decide (0 < x1_1) = true := decide_eq_true c5
        clear c5
        replace H := Option.bind_eq_some_iff.mp H
        obtain ⟨t540, A60, H⟩ := H
        replace H : ((spec_Mul.f k1 x5_1 t540).bind fun t543 => (spec_Power.l0 k1 a0 (wrap64 (x1_1 - 1)) t543)) = some r := H
        have A6 := Aside0.mk A60
        clear A60
        replace H := Option.bind_eq_some_iff.mp H
        obtain ⟨t543, A70, H⟩ := H
        replace H : (spec_Power.l0 k1 a0 (wrap64 (x1_1 - 1)) t543) = some r := H
        have A7 := Aside0.mk A70
        clear A70
        have H' := Aside0.mk H
        clear H
        go_wp2_with (first | ((with_reducible refine gate_callee (f := 28) rfl ?_); refine goesL_ (some 13) rfl rfl Tryz.func28 (by kernel_rfl) rfl #[.int .i64 a0] rfl (by (try simp only [List.map_toArray, List.map_cons, List.map_nil]); first | done | rfl | (simp only [List.length_drop, List.length_take]; rfl)) ?_; (with_reducible refine (spec_Small.calls k1 a0 t540 _ A6.out).mono ?_); rintro e w8 ⟨v541, rfl, ho0, hb⟩; refine ⟨_, rfl, ?_⟩; have n0_ := Aside0.mk (Kd.V_elder' (by (with_reducible repeat (first | apply Kd.V_alloc | apply Kd.V_drewN | apply Kd.V_drew)); exact HO_5.out) (Kd.R_base ho0) hb); have n1_ := Aside0.mk (Kd.R_lower (Kd.R_newM (M := fun k_ => (w.heap.size ≤ k_)) ho0 (below_size (by repeat (first | (with_reducible first | exact HB.out | apply below_alloc | apply pw_below_drewN | apply below_drew1) | exact HB.out))) (fun k_ h_ => h_)) (below_size (by repeat (first | (with_reducible first | exact HB.out | apply below_alloc | apply pw_below_drewN | apply below_drew1) | exact HB.out)))); have n2_ := Aside0.mk (below_step (by repeat (first | (with_reducible first | exact HB.out | apply below_alloc | apply pw_below_drewN | apply below_drew1) | exact HB.out)) hb); clear HO_5; clear HB; have HO_5 := n0_; have HO542 := n1_; have HB := n2_; clear n0_ n1_ n2_; (try clear hb); (try clear hb2); (try clear hk); (try clear hi); (try clear ho0); obtain ⟨Ao9, co9, eo9⟩ := Kd.V_slice HO_5.out; subst eo9; obtain ⟨Ao10, co10, eo10⟩ := Kd.R_slice HO542.out; subst eo10) | ((with_reducible refine gate_callee (f := 33) rfl ?_); refine goesL_ (some 14) rfl rfl Tryz.func33 (by kernel_rfl) rfl #[.slice Ao9 x5_1.length co9, .slice Ao10 t540.length co10] rfl (by (try simp only [List.map_toArray, List.map_cons, List.map_nil]); first | done | rfl | (simp only [List.length_drop, List.length_take]; rfl)) ?_; (with_reducible refine (spec_Mul.calls k1 _ _ x5_1 _ _ t540 t543 _ ?side1 ?side2 ?side3 ?side4 A7.out).mono ?_); (case side1 => repeat (first | exact (Kd.V_reads' HO_5.out).2.2 | (with_reducible refine Kd.C_alloc ?_ _) | (with_reducible refine Kd.C_drewN ?_ _) | (with_reducible refine Kd.C_drew ?_))); (case side2 => exact (Kd.V_reads' HO_5.out).2.1); (case side3 => repeat (first | exact (Kd.R_reads' HO542.out).2.2 | (with_reducible refine Kd.C_alloc ?_ _) | (with_reducible refine Kd.C_drewN ?_ _) | (with_reducible refine Kd.C_drew ?_))); (case side4 => exact (Kd.R_reads' HO542.out).2.1); rintro e w11 ⟨v544, rfl, ho0, hb⟩; refine ⟨_, rfl, ?_⟩; have n0_ := Aside0.mk (Kd.V_below (by (with_reducible repeat (first | apply Kd.V_alloc | apply Kd.V_drewN | apply Kd.V_drew)); exact HO_5.out) hb); have n1_ := Aside0.mk (Kd.R_below (by (with_reducible repeat (first | apply Kd.R_alloc | apply Kd.R_drewN | apply Kd.R_drew)); exact HO542.out) hb); have n2_ := Aside0.mk (Kd.V_lower (Kd.V_mono (ok' := fun k_ => (w.heap.size ≤ k_) ∧ some k_ ≠ (.slice Ao10 t540.length co10 : Value).ownBlock) ho0 (fun k_ hk_ => ⟨(Nat.le_trans (below_size (by repeat (first | (with_reducible first | exact HB.out | apply below_alloc | apply pw_below_drewN | apply below_drew1) | exact HB.out))) hk_), (Kd.fresh' (Kd.R_lt (by (with_reducible repeat (first | apply Kd.R_alloc | apply Kd.R_drewN | apply Kd.R_drew)); exact HO542.out)) k_ hk_)⟩)) (below_size (by repeat (first | (with_reducible first | exact HB.out | apply below_alloc | apply pw_below_drewN | apply below_drew1) | exact HB.out)))); have n3_ := Aside0.mk (below_step (by repeat (first | (with_reducible first | exact HB.out | apply below_alloc | apply pw_below_drewN | apply below_drew1) | exact HB.out)) hb); clear HO_5; clear HO542; clear HB; have HO_5 := n0_; have HO542 := n1_; have HO545 := n2_; have HB := n3_; clear n0_ n1_ n2_ n3_; (try clear hb); (try clear hb2); (try clear hk); (try clear hi); (try clear ho0)))
        go_roundg k1
        case measure => have := HK1.out; omega
        case rel => exact ⟨(wrap64 (x1_1 - 1)), (t543), (by first | rfl | (simp; done) | (simp [*]; done)), H', ⟨by have := HK1.out; omega⟩, ⟨by (with_reducible repeat (first | apply Kd.V_alloc | apply Kd.V_drewN | apply Kd.V_drew)); exact Kd.V_mono HO545.out (fun _ hk => hk.1)⟩, ⟨by repeat (first | (with_reducible first | exact HB.out | apply below_alloc | apply pw_below_drewN | apply below_drew1) | exact HB.out)⟩⟩
      · rw [if_neg c5] at H
        have c5b0 : decide (0 < x1_1) = false := decide_eq_false c5
        clear c5
        obtain rfl := Option.some.inj H
        go_wp2
        go_ret
        exact ⟨_, by first | rfl | (simp [errW_none, errW_some] <;> rfl) | (simp [*, errW_none, errW_some] <;> rfl), by (with_reducible repeat (first | apply Kd.V_alloc | apply Kd.V_drewN | apply Kd.V_drew)); exact HO_5.out, by repeat (first | (with_reducible first | exact HB.out | apply below_alloc | apply pw_below_drewN | apply below_drew1) | exact HB.out)⟩

-- NOT PRINTED: function 21 (spec_PowerOf)

-- NOT PRINTED: function 5 (laws_FnLiteralHexFloat)
end Go.Proofs.YtgpoplfgngiilaaGreatDoor.PAll

namespace Go.Proofs.YtgpoplfgngiilaaGreatDoor.Pl
open Go.RowKit Go.Proofs.YtgpoplfgngiilaaGreatDoorW.PrintWords Go.Proofs.YtgpoplfgngiilaaGreatDoorW.PrintLast Go.Proofs.YtgpoplfgngiilaaGreatDoorW.PrintMore PAll

theorem val_take_succ (B : Int) (xs : List Int) (i : Nat) : val B (xs.take (i + 1)) = val B (xs.take i) + xs.getD i 0 * B ^ i := by
  by_cases h : i < xs.length
  · rw [rd_take h, val_append, List.length_take, Nat.min_eq_left (Nat.le_of_lt h), val_cons, val_nil, Int.mul_comm (B ^ i)]
    simp
  · rw [List.take_of_length_le (by omega), List.take_of_length_le (by omega), List.getD_eq_getElem?_getD, List.getElem?_eq_none (by omega)]
    simp
theorem getD_far (xs : List Int) (i : Nat) (h : xs.length ≤ i) : xs.getD i 0 = 0 := by
  rw [List.getD_eq_getElem?_getD, List.getElem?_eq_none h]; rfl
theorem val_snoc (B : Int) (out : List Int) (y : Int) : val B (out ++ [y]) = val B out + y * B ^ out.length := by
  rw [val_append, val_cons, val_nil, Int.mul_comm (B ^ out.length)]; simp

/-! Sub -/
theorem sub_w (a bo b : Int) (i : Nat) (h0 : 0 ≤ a) (h1 : a < 65536) (k0 : 0 ≤ b) (k1 : b < 65536) (hb : bo = 0 ∨ bo = 1) (hi : i < 1000000000000) :
    wrap64 (a - bo) = a - bo ∧ wrap64 (a - bo - b) = a - bo - b ∧ wrap64 (a - bo - b + 65536) = a - bo - b + 65536 ∧ wrap64 (a - bo + 65536) = a - bo + 65536 ∧ wrap64 ((i : Int) + 1) = ((i + 1 : Nat) : Int) :=
  ⟨w64 (by omega) (by omega), w64 (by omega) (by omega), w64 (by omega) (by omega), w64 (by omega) (by omega), w64' (by omega) (by omega) (by omega)⟩
theorem sub_loop (xs ys : List Int) (hx : Dg (65536 : Nat) xs) (hy : Dg (65536 : Nat) ys) (hm : xs.length < 1000000000000) (hle : val (65536 : Nat) (ys.take xs.length) ≤ val (65536 : Nat) xs) :
    ∀ (j i : Nat) (out : List Int) (bo n : Int), i + j = xs.length → n = i → out.length = i → Dg (65536 : Nat) out → (bo = 0 ∨ bo = 1) →
    val (65536 : Nat) (xs.take i) = val (65536 : Nat) out + val (65536 : Nat) (ys.take i) - bo * (65536 : Nat) ^ i →
    Ev (fun k => spec_Sub.l0 k ys out bo xs xs.length n) (figs 65536 (val (65536 : Nat) xs - val (65536 : Nat) (ys.take xs.length)).toNat)
  | 0, i, out, bo, n, hij, hn, hl, ho, hb, hv => by
    have hi : i = xs.length := by omega
    subst hi hn
    rw [List.take_length] at hv
    have hr := val_range (by decide) ho
    rw [hl] at hr
    have hb0 : bo = 0 := by
      rcases hb with h | h
      · exact h
      · subst h
        rw [Int.one_mul] at hv
        generalize ((65536 : Nat) : Int) ^ xs.length = P at *
        omega
    subst hb0
    have e : val (65536 : Nat) xs - val (65536 : Nat) (ys.take xs.length) = val (65536 : Nat) out := by
      rw [Int.zero_mul] at hv; omega
    rw [e]
    have ht := trim_f out (by omega) ho
    refine Ev.step (f := fun k => (spec_trim.f k out).bind fun t => some t) (fun k => ?_) (Ev.bind ht (Ev.now _))
    simp only [spec_Sub.l0]
    rw [if_neg (by omega)]
  | j + 1, i, out, bo, n, hij, hn, hl, ho, hb, hv => by
    subst hn
    have rx : rd xs (i : Int) = xs.getD i 0 := rfl
    have ry : rd ys (i : Int) = ys.getD i 0 := rfl
    obtain ⟨gx0, gx1⟩ := Dg_get (by decide) hx i
    obtain ⟨gy0, gy1⟩ := Dg_get (by decide) hy i
    have vx := val_take_succ (65536 : Nat) xs i
    have vy := val_take_succ (65536 : Nat) ys i
    have hi4 : i < 1000000000000 := by omega
    have key : ∀ (y bo' : Int), 0 ≤ y → y < 65536 → (bo' = 0 ∨ bo' = 1) → y - bo' * 65536 = xs.getD i 0 - bo - ys.getD i 0 →
        Ev (fun k => spec_Sub.l0 k ys (out ++ [y]) bo' xs xs.length ((i + 1 : Nat) : Int)) (figs 65536 (val (65536 : Nat) xs - val (65536 : Nat) (ys.take xs.length)).toNat) := by
      intro y bo' h0 h1 hb' he
      refine sub_loop xs ys hx hy hm hle j (i + 1) (out ++ [y]) bo' _ (by omega) rfl (by simp [hl]) (Dg_append.2 ⟨ho, Dg_cons.2 ⟨⟨h0, h1⟩, Dg_nil _⟩⟩) hb' ?_
      rw [val_snoc, hl, vx, vy, hv, Int.pow_succ]
      have e65 : ((65536 : Nat) : Int) = 65536 := rfl
      rw [e65]
      generalize (65536 : Int) ^ i = P
      generalize val 65536 out = V
      generalize val 65536 (ys.take i) = W
      generalize xs.getD i 0 = a at *
      generalize ys.getD i 0 = b at *
      have : y = a - bo - b + bo' * 65536 := by omega
      subst this
      grind
    clear vx vy hv
    by_cases hyl : (i : Int) < (ys.length : Int)
    · by_cases hneg : xs.getD i 0 - bo - ys.getD i 0 < 0
      · refine Ev.step (fun k => ?_) (key (xs.getD i 0 - bo - ys.getD i 0 + 65536) 1 (by omega) (by omega) (.inr rfl) (by omega))
        simp only [spec_Sub.l0]
        obtain ⟨ww1, ww2, ww3, ww4, wi⟩ := sub_w _ bo _ i gx0 gx1 gy0 gy1 hb hi4
        rw [rx, ry, ww1, ww2, ww3, wi]
        clear ww1 ww2 ww3 ww4 wi
        rw [if_pos (by omega), if_pos (by omega), if_pos (by omega), if_pos hyl, if_pos hneg, if_pos (by omega)]
      · refine Ev.step (fun k => ?_) (key (xs.getD i 0 - bo - ys.getD i 0) 0 (by omega) (by omega) (.inl rfl) (by omega))
        simp only [spec_Sub.l0]
        obtain ⟨ww1, ww2, ww3, ww4, wi⟩ := sub_w _ bo _ i gx0 gx1 gy0 gy1 hb hi4
        rw [rx, ry, ww1, ww2, wi]
        clear ww1 ww2 ww3 ww4 wi
        rw [if_pos (by omega), if_pos (by omega), if_pos (by omega), if_pos hyl, if_neg hneg, if_pos (by omega)]
    · have hz : ys.getD i 0 = 0 := getD_far ys i (by omega)
      by_cases hneg : xs.getD i 0 - bo < 0
      · refine Ev.step (fun k => ?_) (key (xs.getD i 0 - bo + 65536) 1 (by omega) (by omega) (.inr rfl) (by omega))
        simp only [spec_Sub.l0]
        obtain ⟨ww1, ww2, ww3, ww4, wi⟩ := sub_w _ bo _ i gx0 gx1 gy0 gy1 hb hi4
        rw [rx, ww1, ww4, wi]
        clear ww1 ww2 ww3 ww4 wi
        rw [if_pos (by omega), if_pos (by omega), if_pos (by omega), if_neg hyl, if_pos hneg, if_pos (by omega)]
      · refine Ev.step (fun k => ?_) (key (xs.getD i 0 - bo) 0 (by omega) (by omega) (.inl rfl) (by omega))
        simp only [spec_Sub.l0]
        obtain ⟨ww1, ww2, ww3, ww4, wi⟩ := sub_w _ bo _ i gx0 gx1 gy0 gy1 hb hi4
        rw [rx, ww1, wi]
        clear ww1 ww2 ww3 ww4 wi
        rw [if_pos (by omega), if_pos (by omega), if_pos (by omega), if_neg hyl, if_neg hneg, if_pos (by omega)]

theorem figs_mono {B : Nat} (hB : 2 ≤ B) {m n : Nat} (h : m ≤ n) : (figs B m).length ≤ (figs B n).length := by
  apply Nat.le_of_not_lt
  intro hc
  have := val_mono (by omega) (figs_Dg hB n) (figs_Dg hB m) (figs_Top hB m) hc
  rw [figs_val hB, figs_val hB] at this
  omega
theorem sub_f (a b : Nat) (h : b ≤ a) (hm : (figs 65536 a).length < 1000000000000) : Ev (fun k => spec_Sub.f k (figs 65536 a) (figs 65536 b)) (figs 65536 (a - b)) := by
  have hl := figs_mono (B := 65536) (by omega) h
  have ht : (figs 65536 b).take (figs 65536 a).length = figs 65536 b := List.take_of_length_le hl
  have h0 := sub_loop (figs 65536 a) (figs 65536 b) (figs_Dg (by omega) a) (figs_Dg (by omega) b) hm (by rw [ht, figs_val (by omega), figs_val (by omega)]; omega) (figs 65536 a).length 0 [] 0 0 (by omega) rfl rfl (Dg_nil _) (.inl rfl) (by simp [val])
  rw [ht, figs_val (by omega), figs_val (by omega), show ((a : Int) - (b : Int)).toNat = a - b from by omega] at h0
  exact Ev.congr (fun k => by unfold spec_Sub.f; rfl) h0

/-! Add -/
theorem add_w (a ca b : Int) (i : Nat) (h0 : 0 ≤ a) (h1 : a < 65536) (k0 : 0 ≤ b) (k1 : b < 65536) (c0 : 0 ≤ ca) (c1 : ca ≤ 1) (hi : i < 1000000000000) :
    wrap64 (ca + a) = ca + a ∧ wrap64 (ca + a + b) = ca + a + b ∧ wrap64 (ca + b) = ca + b ∧ wrap64 ((i : Int) + 1) = ((i + 1 : Nat) : Int) :=
  ⟨w64 (by omega) (by omega), w64 (by omega) (by omega), w64 (by omega) (by omega), w64' (by omega) (by omega) (by omega)⟩
theorem add_w2 (t : Int) (h0 : 0 ≤ t) (h1 : t < 131072) : Int.tmod t 65536 = t % 65536 ∧ wrap64 (Int.tdiv t 65536) = t / 65536 ∧ t / 65536 ≤ 1 ∧ 0 ≤ t / 65536 ∧ t % 65536 + t / 65536 * 65536 = t ∧ 0 ≤ t % 65536 ∧ t % 65536 < 65536 := by
  refine ⟨Int.tmod_eq_emod_of_nonneg h0, ?_, by omega, by omega, by omega, by omega, by omega⟩
  rw [Int.tdiv_eq_ediv_of_nonneg h0]
  exact w64 (by omega) (by omega)
theorem add_loop (xs ys : List Int) (hx : Dg (65536 : Nat) xs) (hy : Dg (65536 : Nat) ys) (hm : xs.length < 1000000000000) (hm2 : ys.length < 1000000000000) :
    ∀ (j i : Nat) (out : List Int) (ca n : Int), i + j = max xs.length ys.length → n = i → out.length = i → Dg (65536 : Nat) out → 0 ≤ ca → ca ≤ 1 →
    val (65536 : Nat) (xs.take i) + val (65536 : Nat) (ys.take i) = val (65536 : Nat) out + ca * (65536 : Nat) ^ i →
    Ev (fun k => spec_Add.l0 k xs ys out ca n) (figs 65536 (val (65536 : Nat) xs + val (65536 : Nat) ys).toNat)
  | 0, i, out, ca, n, hij, hn, hl, ho, hc0, hc1, hv => by
    subst hn
    rw [List.take_of_length_le (by omega), List.take_of_length_le (by omega)] at hv
    have hd : Dg (65536 : Nat) (out ++ [ca]) := Dg_append.2 ⟨ho, Dg_cons.2 ⟨⟨hc0, by omega⟩, Dg_nil _⟩⟩
    have ht := trim_f (out ++ [ca]) (by simp; omega) hd
    rw [val_snoc, hl, ← hv] at ht
    refine Ev.step (f := fun k => spec_Add.j1 k xs ys out ca i false) (fun k => ?_) (Ev.step (f := fun k => (spec_trim.f k (out ++ [ca])).bind fun t => some t) (fun k => ?_) (Ev.bind ht (Ev.now _)))
    · simp only [spec_Add.l0]
      rw [if_neg (by omega), decide_eq_false (by omega)]
    · simp only [spec_Add.j1]
      rw [if_neg (by decide), if_pos (by omega)]
  | j + 1, i, out, ca, n, hij, hn, hl, ho, hc0, hc1, hv => by
    subst hn
    have rx : rd xs (i : Int) = xs.getD i 0 := rfl
    have ry : rd ys (i : Int) = ys.getD i 0 := rfl
    obtain ⟨gx0, gx1⟩ := Dg_get (by decide) hx i
    obtain ⟨gy0, gy1⟩ := Dg_get (by decide) hy i
    have vx := val_take_succ (65536 : Nat) xs i
    have vy := val_take_succ (65536 : Nat) ys i
    have hi4 : i < 1000000000000 := by omega
    have key : ∀ t : Int, t = ca + xs.getD i 0 + ys.getD i 0 →
        Ev (fun k => spec_Add.l0 k xs ys (out ++ [Int.tmod t 65536]) (wrap64 (Int.tdiv t 65536)) ((i + 1 : Nat) : Int)) (figs 65536 (val (65536 : Nat) xs + val (65536 : Nat) ys).toNat) := by
      intro t ht
      obtain ⟨e1, e2, p1, p0, e3, m0, m1⟩ := add_w2 t (by clear hv vx vy; omega) (by clear hv vx vy; omega)
      rw [e1, e2]
      clear e1 e2
      refine add_loop xs ys hx hy hm hm2 j (i + 1) (out ++ [t % 65536]) (t / 65536) _ (by omega) rfl (by simp [hl]) (Dg_append.2 ⟨ho, Dg_cons.2 ⟨⟨m0, m1⟩, Dg_nil _⟩⟩) p0 p1 ?_
      rw [val_snoc, hl, vx, vy, Int.pow_succ]
      have e65 : ((65536 : Nat) : Int) = 65536 := rfl
      rw [e65] at hv ⊢
      generalize t / 65536 = q at *
      generalize t % 65536 = r at *
      generalize (65536 : Int) ^ i = P at *
      generalize val 65536 out = V at *
      generalize val 65536 (ys.take i) = W at *
      generalize val 65536 (xs.take i) = U at *
      generalize xs.getD i 0 = a at *
      generalize ys.getD i 0 = b at *
      subst ht
      grind
    clear vx vy hv
    refine Ev.step (f := fun k => spec_Add.j1 k xs ys out ca i true) (fun k => ?_) ?_
    · simp only [spec_Add.l0]
      by_cases h : (i : Int) < (xs.length : Int)
      · rw [if_pos h]
      · rw [if_neg h, decide_eq_true (by omega)]
    · by_cases hxl : (i : Int) < (xs.length : Int)
      · by_cases hyl : (i : Int) < (ys.length : Int)
        · refine Ev.step (fun k => ?_) (key _ rfl)
          simp only [spec_Add.j1]
          obtain ⟨ww1, ww2, ww3, wi⟩ := add_w _ ca _ i gx0 gx1 gy0 gy1 hc0 hc1 hi4
          rw [rx, ry, ww1, ww2, wi]
          clear ww1 ww2 ww3 wi
          rw [if_pos trivial, if_pos hxl, if_pos (by omega), if_pos hyl, if_pos (by omega)]
        · have hz : ys.getD i 0 = 0 := getD_far ys i (by omega)
          refine Ev.step (fun k => ?_) (key (ca + xs.getD i 0) (by omega))
          simp only [spec_Add.j1]
          obtain ⟨ww1, ww2, ww3, wi⟩ := add_w _ ca _ i gx0 gx1 gy0 gy1 hc0 hc1 hi4
          rw [rx, ww1, wi]
          clear ww1 ww2 ww3 wi
          rw [if_pos trivial, if_pos hxl, if_pos (by omega), if_neg hyl, if_pos (by omega)]
      · have hz : xs.getD i 0 = 0 := getD_far xs i (by omega)
        refine Ev.step (fun k => ?_) (key (ca + ys.getD i 0) (by omega))
        simp only [spec_Add.j1]
        obtain ⟨ww1, ww2, ww3, wi⟩ := add_w _ ca _ i gx0 gx1 gy0 gy1 hc0 hc1 hi4
        rw [ry, ww3, wi]
        clear ww1 ww2 ww3 wi
        rw [if_pos trivial, if_neg hxl, if_pos (by omega), if_pos (by omega), if_pos (by omega)]

theorem add_f (a b : Nat) (hm : (figs 65536 a).length < 1000000000000) (hm2 : (figs 65536 b).length < 1000000000000) : Ev (fun k => spec_Add.f k (figs 65536 a) (figs 65536 b)) (figs 65536 (a + b)) := by
  have h0 := add_loop (figs 65536 a) (figs 65536 b) (figs_Dg (by omega) a) (figs_Dg (by omega) b) hm hm2 (max (figs 65536 a).length (figs 65536 b).length) 0 [] 0 0 (by omega) rfl rfl (Dg_nil _) (by omega) (by omega) (by simp [val])
  rw [figs_val (by omega), figs_val (by omega), show ((a : Int) + (b : Int)).toNat = a + b from by omega] at h0
  exact Ev.congr (fun k => by unfold spec_Add.f; rfl) h0
end Go.Proofs.YtgpoplfgngiilaaGreatDoor.Pl
