/- spec.Shl over an input that is only read: the printed walk, turned by wip/gen/shl.py. Contracts of spec's functions on numbers that are told by their figures: Power, Len, Cmp, byDigit, Small, Bit, Shl. spec.DivMod and spec.Gcd over numbers that are told by their figures. spec.Gcd over numbers that are told by their figures. The reference's Whole, and the printed Small at 1. The reference's IsNumber. The reference's Integer. The reference's IsInt. spec.Over and spec.PowerOf over numbers that are told by their figures. -/
import Derived.Test.YtgpoplfgngiilaaGreatDoorZ03
import Derived.Test.YtgpoplfgngiilaaGreatDoorZ04
import Derived.Test.YtgpoplfgngiilaaGreatDoorZ05
import Derived.Test.YtgpoplfgngiilaaGreatDoorZ06
import Derived.Test.YtgpoplfgngiilaaGreatDoorZ20
import Derived.Test.YtgpoplfgngiilaaGreatDoorZ23
import Derived.RegionTactic
import Derived.BigRegion
set_option linter.unusedVariables false
set_option linter.unusedSimpArgs false
namespace Go.Proofs.YtgpoplfgngiilaaGreatDoor.PAll
open Go.RowKit Go.Proofs.YtgpoplfgngiilaaGreatDoorW.PrintWords Go.Proofs.YtgpoplfgngiilaaGreatDoorW.PrintLast Go.Proofs.YtgpoplfgngiilaaGreatDoorW.PrintMore
attribute [local go_sem] max2_int min2_int max_two min_two max_three min_three max_four min_four
set_option maxHeartbeats 8000000 in
set_option maxRecDepth 100000 in
theorem shl_c (k : Nat) (A0 : Option Addr) (c0 : Nat) (l0 : List Int) (a1 : Int) (r : List Int) (w : World) (hr0 : Kd.C (Kd.int .i64) w A0 l0.length l0) (hc0 : l0.length ≤ c0) (hne : 0 < l0.length) (h : spec_Shl.f k l0 a1 = some r) :
    Calls Tryz.prog 80 #[.slice A0 l0.length c0, .int .i64 a1] w fun e w' => ∃ v0_ : Value, e = .returned (v0_) ∧ Kd.V (Kd.int .i64) 3 w' w.heap.size (fun k_ => (w.heap.size ≤ k_)) v0_ r ∧ Below w.heap.size w w' := by
  have HR0 := Aside0.mk hr0
  have HC0 := Aside0.mk hc0
  clear hr0 hc0
  have HB := Aside0.mk (Below.refl w.heap.size w)
  have H : (if (l0.length : Int) = 0 then (some l0) else (if 0 ≤ (wrap64 ((wrap64 ((wrap64 (Int.tdiv a1 16)) + (l0.length : Int))) + 1)) then (if (wrap64 ((wrap64 ((wrap64 (Int.tdiv a1 16)) + (l0.length : Int))) + 1) : Int).toNat ≤ 35184372088832 then (spec_Shl.l0 k a1 (List.replicate (wrap64 ((wrap64 ((wrap64 (Int.tdiv a1 16)) + (l0.length : Int))) + 1) : Int).toNat 0) l0 (l0.length : Int) 0) else (none)) else (none))) = some r := h
  clear h
  by_cases c3 : (l0.length : Int) = 0
  · exact absurd c3 (by omega)
  · rw [if_neg c3] at H
    have c3b0 : ((l0.length : Int) == 0) = false := beq_eq_false_iff_ne.mpr c3
    have c3b1 : ((l0.length : Int) != 0) = true := bne_iff_ne.mpr c3
    have c3b2 : ¬ (l0 = []) := fun h_ => c3 (by rw [h_]; rfl)
    obtain ⟨ji5, hji5⟩ : ∃ j_ : Int, (wrap64 ((wrap64 ((wrap64 (Int.tdiv a1 16)) + (l0.length : Int))) + 1)) = j_ := ⟨_, rfl⟩
    replace H : (if 0 ≤ (ji5) then (if (ji5 : Int).toNat ≤ 35184372088832 then (spec_Shl.l0 k a1 (List.replicate (ji5 : Int).toNat 0) l0 (l0.length : Int) 0) else (none)) else (none)) = some r := by first | (rw [hji5] at H; exact H) | (simp only [hji5] at H ⊢; exact H)
    have hji5w : (IntKind.i64.wrap ((wrap64 ((wrap64 (Int.tdiv a1 16)) + (l0.length : Int))) + 1)) = ji5 := (i64_w _).trans hji5
    by_cases c6 : 0 ≤ (ji5)
    · rw [if_pos c6] at H
      have c6b0 := eq_true c6
      have c6b1 : decide (0 ≤ (ji5)) = true := decide_eq_true c6
      clear c6
      by_cases c7 : (ji5 : Int).toNat ≤ 35184372088832
      · rw [if_pos c7] at H
        have c7b0 := eq_true c7
        have c7b1 : decide ((ji5 : Int).toNat ≤ 35184372088832) = true := decide_eq_true c7
        clear c7
        obtain ⟨y416, hy416⟩ : ∃ y_ : List Int, y_ = (List.replicate (ji5 : Int).toNat 0) := ⟨_, rfl⟩
        replace H : (spec_Shl.l0 k a1 y416 l0 (l0.length : Int) 0) = some r := by first | (rw [hy416]; with_reducible exact H) | (have H2_ := (Option.bind_some _ _).symm.trans H; rw [hy416]; with_reducible exact H2_) | (have H2_ := (Option.bind_some _ _).symm.trans H; with_reducible exact H2_) | with_reducible exact H | (rw [hy416]; exact H) | exact H
        have Ny416 := Aside0.mk hy416
        clear hy416
        have H' := Aside0.mk H
        clear H
        clear hne
        go_enter Tryz.func80, Tryz.ntmps80
        go_wp2_with (first | ((with_reducible refine gate_dst (N := 18) rfl ?_); refine Kd.R_make (Kd.int .i64) _ 3 rfl (N := 18) rfl 29 _ _ rfl ji5 rfl rfl Tryz.underlying29 (.int .i64 0) 8 info3 rfl (by decide) (by omega) 0 (ok := fun _ => True) (okp := fun _ => True) rfl (fun _ hk => hk) trivial (of_decide_eq_true (by first | (with_reducible assumption) | assumption)) (Nat.le_trans (Nat.mul_le_mul_right _ (of_decide_eq_true (by first | (with_reducible assumption) | assumption) : ji5.toNat ≤ 35184372088832)) (by omega)) (Below.refl _ _) (Nat.le_refl _) ?_; intro v417 w9 ho10 hb hg_ hnew_; clear hg_ hnew_; (first | rw [← Ny416.out] at ho10 | (simp only [Int.reduceToNat] at ho10; rw [← Ny416.out] at ho10)); have n0_ := Aside0.mk (Kd.R_lower (Kd.R_newM (M := fun k_ => (w.heap.size ≤ k_)) ho10 (below_size (by repeat (first | (with_reducible first | exact HB.out | apply below_alloc | apply pw_below_drewN | apply below_drew1) | exact HB.out))) (fun k_ h_ => h_)) (below_size (by repeat (first | (with_reducible first | exact HB.out | apply below_alloc | apply pw_below_drewN | apply below_drew1) | exact HB.out)))); have n1_ := Aside0.mk (below_step (by repeat (first | (with_reducible first | exact HB.out | apply below_alloc | apply pw_below_drewN | apply below_drew1) | exact HB.out)) hb); clear HB; have HO418 := n0_; have HB := n1_; clear n0_ n1_; clear hb ho10))
        go_loopg [21] k (fun kq v21 w' => ∃ (x5_1 : List Int) (x21_1 : Int), v21 = .int .i64 x21_1 ∧ Aside0 (spec_Shl.l0 kq a1 x5_1 l0 (l0.length : Int) x21_1 = some r) ∧ Aside0 (kq ≤ k) ∧ Aside0 (Kd.R (Kd.int .i64) 3 w' w.heap.size (fun k_ => (w.heap.size ≤ k_)) v417 x5_1) ∧ Aside0 (Below w.heap.size w w'))
        case atStart => exact ⟨(y416), (0), (by first | rfl | (simp; done) | (simp [*]; done)), H', ⟨Nat.le_refl _⟩, ⟨by (with_reducible repeat (first | apply Kd.R_alloc | apply Kd.R_drewN | apply Kd.R_drew)); exact Kd.R_mono HO418.out (fun _ hk => hk.1)⟩, ⟨by repeat (first | (with_reducible first | exact HB.out | apply below_alloc | apply pw_below_drewN | apply below_drew1) | exact HB.out)⟩⟩
        case round =>
          clear H'
          try clear p2
          try clear c3
          try clear c3b0
          try clear c3b1
          try clear c3b2
          try clear c6
          try clear c6b0
          try clear c6b1
          try clear p6
          try clear c7
          try clear c7b0
          try clear c7b1
          try clear c8
          obtain ⟨x5_1, x21_1, rfl, HA, HK1, HO_5, HB⟩ := hrel
          cases gk with
          | zero => exact absurd HA.out (by simp [spec_Shl.l0])
          | succ k1 =>
            have H := HA.out
            clear HA
            simp only [spec_Shl.l0] at H
            by_cases c11 : x21_1 < (l0.length : Int)
            · rw [if_pos c11] at H
              have c11b0 : decide (x21_1 < (l0.length : Int)) = true := decide_eq_true c11
              clear c11
              by_cases c12 : 0 ≤ x21_1
              · rw [if_pos c12] at H
                have c12b0 : decide (0 ≤ x21_1) = true := decide_eq_true c12
                clear c12
                by_cases c13 : x21_1 < (l0.length : Int)
                · rw [if_pos c13] at H
                  have c13b0 : decide (x21_1 < (l0.length : Int)) = true := decide_eq_true c13
                  clear c13
                  obtain ⟨ji14, hji14⟩ : ∃ j_ : Int, (Int.tmod a1 16) = j_ := ⟨_, rfl⟩
                  replace H : (if 0 ≤ (ji14) then (if 0 ≤ (wrap64 ((wrap64 (Int.tdiv a1 16)) + x21_1)) then (if (wrap64 ((wrap64 (Int.tdiv a1 16)) + x21_1)) < (x5_1.length : Int) then (if 0 ≤ (wrap64 ((wrap64 ((wrap64 (Int.tdiv a1 16)) + x21_1)) + 1)) then (if (wrap64 ((wrap64 ((wrap64 (Int.tdiv a1 16)) + x21_1)) + 1)) < (x5_1.length : Int) then (spec_Shl.l0 k1 a1 ((x5_1.set ((wrap64 ((wrap64 (Int.tdiv a1 16)) + x21_1)) : Int).toNat (wrap64 ((rd x5_1 (wrap64 ((wrap64 (Int.tdiv a1 16)) + x21_1))) + (Int.tmod (shl .i64 (rd l0 x21_1) (ji14)) 65536)))).set ((wrap64 ((wrap64 ((wrap64 (Int.tdiv a1 16)) + x21_1)) + 1)) : Int).toNat (wrap64 (Int.tdiv (shl .i64 (rd l0 x21_1) (ji14)) 65536))) l0 (l0.length : Int) (wrap64 (x21_1 + 1))) else (none)) else (none)) else (none)) else (none)) else (none)) = some r := by first | (rw [hji14] at H; exact H) | (simp only [hji14] at H ⊢; exact H)
                  by_cases c15 : 0 ≤ (ji14)
                  · rw [if_pos c15] at H
                    have c15b0 := eq_true c15
                    have c15b1 : decide (0 ≤ (ji14)) = true := decide_eq_true c15
                    clear c15
                    obtain ⟨ji16, hji16⟩ : ∃ j_ : Int, (shl .i64 (rd l0 x21_1) (ji14)) = j_ := ⟨_, rfl⟩
                    replace H : (if 0 ≤ (wrap64 ((wrap64 (Int.tdiv a1 16)) + x21_1)) then (if (wrap64 ((wrap64 (Int.tdiv a1 16)) + x21_1)) < (x5_1.length : Int) then (if 0 ≤ (wrap64 ((wrap64 ((wrap64 (Int.tdiv a1 16)) + x21_1)) + 1)) then (if (wrap64 ((wrap64 ((wrap64 (Int.tdiv a1 16)) + x21_1)) + 1)) < (x5_1.length : Int) then (spec_Shl.l0 k1 a1 ((x5_1.set ((wrap64 ((wrap64 (Int.tdiv a1 16)) + x21_1)) : Int).toNat (wrap64 ((rd x5_1 (wrap64 ((wrap64 (Int.tdiv a1 16)) + x21_1))) + (Int.tmod (ji16) 65536)))).set ((wrap64 ((wrap64 ((wrap64 (Int.tdiv a1 16)) + x21_1)) + 1)) : Int).toNat (wrap64 (Int.tdiv (ji16) 65536))) l0 (l0.length : Int) (wrap64 (x21_1 + 1))) else (none)) else (none)) else (none)) else (none)) = some r := by first | (rw [hji16] at H; exact H) | (simp only [hji16] at H ⊢; exact H)
                    have hji16_ : (IntKind.i64.wrap ((rd l0 x21_1) * 2 ^ min (ji14).toNat 64)) = ji16 := hji16
                    have hji16z : (ji14) ≤ 64 → (IntKind.i64.wrap ((rd l0 x21_1) * 2 ^ (ji14).toNat)) = ji16 := shl_small hji16
                    have hji16y : (wrap64 ((rd l0 x21_1) * 2 ^ min (ji14).toNat 64)) = ji16 := (i64_w _).symm.trans hji16_
                    have hji16x : (ji14) ≤ 64 → (wrap64 ((rd l0 x21_1) * 2 ^ (ji14).toNat)) = ji16 := fun h_ => (i64_w _).symm.trans (hji16z h_)
                    obtain ⟨ji17, hji17⟩ : ∃ j_ : Int, (wrap64 ((wrap64 (Int.tdiv a1 16)) + x21_1)) = j_ := ⟨_, rfl⟩
                    replace H : (if 0 ≤ (ji17) then (if (ji17) < (x5_1.length : Int) then (if 0 ≤ (wrap64 ((ji17) + 1)) then (if (wrap64 ((ji17) + 1)) < (x5_1.length : Int) then (spec_Shl.l0 k1 a1 ((x5_1.set ((ji17) : Int).toNat (wrap64 ((rd x5_1 (ji17)) + (Int.tmod (ji16) 65536)))).set ((wrap64 ((ji17) + 1)) : Int).toNat (wrap64 (Int.tdiv (ji16) 65536))) l0 (l0.length : Int) (wrap64 (x21_1 + 1))) else (none)) else (none)) else (none)) else (none)) = some r := by first | (rw [hji17] at H; exact H) | (simp only [hji17] at H ⊢; exact H)
                    have hji17w : (IntKind.i64.wrap ((wrap64 (Int.tdiv a1 16)) + x21_1)) = ji17 := (i64_w _).trans hji17
                    by_cases c18 : 0 ≤ (ji17)
                    · rw [if_pos c18] at H
                      have c18b0 : decide (0 ≤ (ji17)) = true := decide_eq_true c18
                      clear c18
                      by_cases c19 : (ji17) < (x5_1.length : Int)
                      · rw [if_pos c19] at H
                        have c19b0 : decide ((ji17) < (x5_1.length : Int)) = true := decide_eq_true c19
                        clear c19
                        obtain ⟨y421, hy421⟩ : ∃ y_ : List Int, y_ = (x5_1.set ((ji17) : Int).toNat (wrap64 ((rd x5_1 (ji17)) + (Int.tmod (ji16) 65536)))) := ⟨_, rfl⟩
                        replace H : (if 0 ≤ (wrap64 ((ji17) + 1)) then (if (wrap64 ((ji17) + 1)) < (x5_1.length : Int) then (spec_Shl.l0 k1 a1 (y421.set ((wrap64 ((ji17) + 1)) : Int).toNat (wrap64 (Int.tdiv (ji16) 65536))) l0 (l0.length : Int) (wrap64 (x21_1 + 1))) else (none)) else (none)) = some r := by first | (rw [hy421]; with_reducible exact H) | (have H2_ := (Option.bind_some _ _).symm.trans H; rw [hy421]; with_reducible exact H2_) | (have H2_ := (Option.bind_some _ _).symm.trans H; with_reducible exact H2_) | with_reducible exact H | (rw [hy421]; exact H) | exact H
                        have Ny421 := Aside0.mk hy421
                        clear hy421
                        obtain ⟨ji21, hji21⟩ : ∃ j_ : Int, (wrap64 ((ji17) + 1)) = j_ := ⟨_, rfl⟩
                        replace H : (if 0 ≤ (ji21) then (if (ji21) < (x5_1.length : Int) then (spec_Shl.l0 k1 a1 (y421.set ((ji21) : Int).toNat (wrap64 (Int.tdiv (ji16) 65536))) l0 (l0.length : Int) (wrap64 (x21_1 + 1))) else (none)) else (none)) = some r := by first | (rw [hji21] at H; exact H) | (simp only [hji21] at H ⊢; exact H)
                        have hji21w : (IntKind.i64.wrap ((ji17) + 1)) = ji21 := (i64_w _).trans hji21
                        by_cases c22 : 0 ≤ (ji21)
                        · rw [if_pos c22] at H
                          have c22b0 : decide (0 ≤ (ji21)) = true := decide_eq_true c22
                          clear c22
                          by_cases c23 : (ji21) < (x5_1.length : Int)
                          · rw [if_pos c23] at H
                            have c23b0 : decide ((ji21) < (x5_1.length : Int)) = true := decide_eq_true c23
                            clear c23
                            obtain ⟨y422, hy422⟩ : ∃ y_ : List Int, y_ = (y421.set ((ji21) : Int).toNat (wrap64 (Int.tdiv (ji16) 65536))) := ⟨_, rfl⟩
                            replace H : (spec_Shl.l0 k1 a1 y422 l0 (l0.length : Int) (wrap64 (x21_1 + 1))) = some r := by first | (rw [hy422]; with_reducible exact H) | (have H2_ := (Option.bind_some _ _).symm.trans H; rw [hy422]; with_reducible exact H2_) | (have H2_ := (Option.bind_some _ _).symm.trans H; with_reducible exact H2_) | with_reducible exact H | (rw [hy422]; exact H) | exact H
                            have Ny422 := Aside0.mk hy422
                            clear hy422
                            have H' := Aside0.mk H
                            clear H
                            have p419 : 0 ≤ (x21_1 : Int) := of_decide_eq_true (by first | (with_reducible assumption) | assumption)
                            have q419 : x21_1 < (l0.length : Int) := of_decide_eq_true (by first | (with_reducible assumption) | assumption)
                            obtain ⟨ad419, e419, hx419_0⟩ := Kd.at_int HR0.out x21_1 p419 q419
                            cases e419
                            replace hx419_0 := (HB.out.cell (World.block_lt_of_cell? w _ hx419_0)).trans hx419_0
                            replace p419 := eq_true p419
                            replace q419 := eq_true q419
                            obtain ⟨Ao25, co25, eo25⟩ := Kd.R_slice HO_5.out
                            subst eo25
                            have p420 : 0 ≤ ((ji17) : Int) := of_decide_eq_true (by first | (with_reducible assumption) | assumption)
                            have q420 : (ji17) < (x5_1.length : Int) := of_decide_eq_true (by first | (with_reducible assumption) | assumption)
                            obtain ⟨ad420, e420, hx420_0⟩ := Kd.at_int (Kd.R_reads' HO_5.out).2.2 (ji17) p420 q420
                            cases e420
                            replace p420 := eq_true p420
                            replace q420 := eq_true q420
                            have p20 : 0 ≤ ((ji17) : Int) := of_decide_eq_true (by first | (with_reducible assumption) | assumption)
                            have q20 : ((ji17) : Int) < ((x5_1.length : Int) : Int) := of_decide_eq_true (by first | (with_reducible assumption) | assumption)
                            obtain ⟨go20, co20, eo20, gb20, gl20, cl20, HG20⟩ := Kd.R_form HO_5.out (by omega)
                            (first | cases eo20 | (injection eo20 with ea_ en_ ec_; (first | subst ea_ | (injection ea_ with ea_; subst ea_)); subst ec_; clear en_))
                            have GB20 := Aside0.mk gb20
                            have GG20 := Aside0.mk HG20
                            clear gb20 gl20 HG20
                            have HMgo20 := Aside0.mk (HO_5.out.1 _ rfl)
                            (first | simp only [add_plain] at hx420_0 | skip)
                            obtain ⟨hx20_0, hf20_0⟩ := Kd.R_celln 0 HO_5.out ((ji17) : Int) p20 q20
                            replace p20 := eq_true p20
                            replace q20 := eq_true q20
                            have HP26 := Kd.R_putg HO_5.out ((ji17) : Int) (wrap64 ((rd x5_1 (ji17)) + (Int.tmod (ji16) 65536)))
                            go_wp2_with (first | ((with_reducible refine gate_store (t := 3) (p := 40) rfl ?_); refine store_event (t := 3) (p := 40) (v := ?vo_w27) (w1 := (wr.setCell ⟨go20, ((ji17) : Int).toNat, none⟩ (.int .i64 (wrap64 ((rd x5_1 (ji17)) + (Int.tmod (ji16) 65536)))))) ?hg ?ho ?hn ?hr ?_; (case ho => rfl); (case hg => rfl); (case hn => rfl); (case hr => first | (go_simp; done) | (go_simp; rfl)); intro w27 hw; have hg : wr.grownBy w27 (some go20) := (by rw [hw]; exact HP26.2); have hp_ : Kd.R (Kd.int .i64) 3 w27 w.heap.size (fun k_ => (w.heap.size ≤ k_)) (.slice (some ⟨go20, 0, none⟩) x5_1.length co25) y421 := (by rw [hw, Ny421.out]; exact HP26.1); clear HP26; have n0_ := Aside0.mk (hp_); have n1_ := Aside0.mk ((by rw [hw]; exact below_set (HB.out) GB20.out : Below w.heap.size w w27)); clear HO_5; clear HB; have HO_5 := n0_; have HB := n1_; clear n0_ n1_; clear hg hw hp_; have p24 : 0 ≤ ((ji21) : Int) := of_decide_eq_true (by first | (with_reducible assumption) | assumption); have q24 : ((ji21) : Int) < ((x5_1.length : Int) : Int) := of_decide_eq_true (by first | (with_reducible assumption) | assumption); obtain ⟨hx24_0, hf24_0⟩ := Kd.R_celln 0 HO_5.out ((ji21) : Int) p24 q24; replace p24 := eq_true p24; replace q24 := eq_true q24; obtain ⟨hy28_, hz28_⟩ := Kd.R_celln 0 HO_5.out ((ji21) : Int) (of_decide_eq_true (by first | (with_reducible assumption) | assumption)) (of_decide_eq_true (by first | (with_reducible assumption) | assumption)); have HP28 := Kd.R_putg HO_5.out ((ji21) : Int) (wrap64 (Int.tdiv (ji16) 65536))) | ((with_reducible refine gate_store (t := 3) (p := 49) rfl ?_); refine store_event (t := 3) (p := 49) (v := ?vo_w29) (w1 := (w27.setCell ⟨go20, ((ji21) : Int).toNat, none⟩ (.int .i64 (wrap64 (Int.tdiv (ji16) 65536))))) ?hg ?ho ?hn ?hr ?_; (case ho => rfl); (case hg => rfl); (case hn => rfl); (case hr => first | (go_simp; done) | (go_simp; rfl)); intro w29 hw; have hg : w27.grownBy w29 (some go20) := (by rw [hw]; exact HP28.2); have hp_ : Kd.R (Kd.int .i64) 3 w29 w.heap.size (fun k_ => (w.heap.size ≤ k_)) (.slice (some ⟨go20, 0, none⟩) x5_1.length co25) y422 := (by rw [hw, Ny422.out]; exact HP28.1); clear HP28; have n0_ := Aside0.mk (hp_); have n1_ := Aside0.mk ((by rw [hw]; exact below_set (HB.out) GB20.out : Below w.heap.size w w29)); clear HO_5; clear HB; have HO_5 := n0_; have HB := n1_; clear n0_ n1_; clear hg hw hp_))
                            go_roundg k1
                            case measure => have := HK1.out; omega
                            case rel => exact ⟨(y422), (wrap64 (x21_1 + 1)), (by first | rfl | (simp; done) | (simp [*]; done)), H', ⟨by have := HK1.out; omega⟩, ⟨by (with_reducible repeat (first | apply Kd.R_alloc | apply Kd.R_drewN | apply Kd.R_drew)); exact HO_5.out⟩, ⟨by repeat (first | (with_reducible first | exact HB.out | apply below_alloc | apply pw_below_drewN | apply below_drew1) | exact HB.out)⟩⟩
                          · rw [if_neg c23] at H
                            exact absurd H (by simp)
                        · rw [if_neg c22] at H
                          exact absurd H (by simp)
                      · rw [if_neg c19] at H
                        exact absurd H (by simp)
                    · rw [if_neg c18] at H
                      exact absurd H (by simp)
                  · rw [if_neg c15] at H
                    exact absurd H (by simp)
                · rw [if_neg c13] at H
                  exact absurd H (by simp)
              · rw [if_neg c12] at H
                exact absurd H (by simp)
            · rw [if_neg c11] at H
              have c11b0 : decide (x21_1 < (l0.length : Int)) = false := decide_eq_false c11
              clear c11
              replace H := Option.bind_eq_some_iff.mp H
              obtain ⟨t423, A300, H⟩ := H
              replace H : (some t423) = some r := H
              have A30 := Aside0.mk A300
              clear A300
              obtain rfl := Option.some.inj H
              obtain ⟨Ao31, co31, eo31⟩ := Kd.R_slice HO_5.out
              subst eo31
              go_wp2_with (first | ((with_reducible refine gate_callee (f := 29) rfl ?_); refine goesL_ (some 52) rfl rfl Tryz.func29 (by kernel_rfl) rfl #[.slice Ao31 x5_1.length co31] rfl (by (try simp only [List.map_toArray, List.map_cons, List.map_nil]); first | done | rfl | (simp only [List.length_drop, List.length_take]; rfl)) ?_; (with_reducible refine (spec_trim.calls k1 (fun k_ => some k_ = (.slice Ao31 x5_1.length co31 : Value).ownBlock) _ _ x5_1 t423 _ ?side1 A30.out).mono ?_); (case side1 => exact Kd.R_V (Kd.R_tight rfl (HO_5.out))); rintro e w32 ⟨v424, rfl, ho0, hb⟩; refine ⟨_, rfl, ?_⟩; have n2_ := Aside0.mk (Kd.V_lower (Kd.V_mono (ok' := fun k_ => (w.heap.size ≤ k_)) ho0 (fun k_ hk_ => Or.elim hk_ (fun hs_ => (HO_5.out).1 k_ hs_.symm) (fun hn_ => Nat.le_trans (below_size (by repeat (first | (with_reducible first | exact HB.out | apply below_alloc | apply pw_below_drewN | apply below_drew1) | exact HB.out))) hn_))) (below_size (by repeat (first | (with_reducible first | exact HB.out | apply below_alloc | apply pw_below_drewN | apply below_drew1) | exact HB.out)))); have n4_ := Aside0.mk (below_step (by repeat (first | (with_reducible first | exact HB.out | apply below_alloc | apply pw_below_drewN | apply below_drew1) | exact HB.out)) hb); clear HO_5; clear HB; have HO425 := n2_; have HB := n4_; clear n2_ n4_; (try clear hb); (try clear hb2); (try clear hk); (try clear hi); (try clear ho0)))
              go_ret
              exact ⟨_, by first | rfl | (simp only [← hji5]; rfl) | (simp [*] <;> rfl), by (with_reducible repeat (first | apply Kd.V_alloc | apply Kd.V_drewN | apply Kd.V_drew)); exact HO425.out, by repeat (first | (with_reducible first | exact HB.out | apply below_alloc | apply pw_below_drewN | apply below_drew1) | exact HB.out)⟩
      · rw [if_neg c7] at H
        exact absurd H (by simp)
    · rw [if_neg c6] at H
      exact absurd H (by simp)
end Go.Proofs.YtgpoplfgngiilaaGreatDoor.PAll

namespace Go.Proofs.YtgpoplfgngiilaaGreatDoor
open Go.RowKit Go.Proofs.YtgpoplfgngiilaaGreatDoorW.PrintWords Go.Proofs.YtgpoplfgngiilaaGreatDoorW.PrintLast Go.Proofs.YtgpoplfgngiilaaGreatDoorW.PrintMore PAll Pl

theorem drawn_below {w w' : World} (h : Drawn0 w w') : Below w.heap.size w w' := by
  obtain ⟨n, rfl⟩ := h
  exact pw_below_drewN (Below.refl _ _) n
theorem Nd.of_R {w : World} {e base : Nat} {ok : Nat → Prop} {v : Value} {n : Nat} (h : Kd.R (Kd.int .i64) e w base ok v (figs 65536 n)) : Nd w v n := Nd.of_V (Kd.R_V (base' := 0) h)

theorem power_nd (b n : Nat) (hb0 : 0 < b) (hb : b < 65536) (hn : n < 100000) (w : World) :
    Calls Tryz.prog 34 #[.int .i64 b, .int .i64 n] w fun e w' => ∃ r, e = .returned r ∧ Nd w' r (b ^ n) ∧ Below w.heap.size w w' := by
  obtain ⟨k, hk⟩ := (power_f b n hb0 hb hn).rounds
  refine (spec_Power.calls k b n _ w hk).mono ?_
  rintro e w' ⟨r, rfl, hr, hb⟩
  exact ⟨r, rfl, Nd.of_V hr, hb⟩
theorem small_nd (n : Nat) (hn : n < 9223372036854775808) (w : World) :
    Calls Tryz.prog 28 #[.int .i64 n] w fun e w' => ∃ r, e = .returned r ∧ Nd w' r n ∧ Below w.heap.size w w' := by
  obtain ⟨k, hk⟩ := (small_f n hn).rounds
  refine (spec_Small.calls k n _ w hk).mono ?_
  rintro e w' ⟨r, rfl, hr, hb⟩
  exact ⟨r, rfl, Nd.of_R hr, hb⟩
theorem bit_nd (n : Nat) (hn : n < 1000000000) (w : World) :
    Calls Tryz.prog 83 #[.int .i64 n] w fun e w' => ∃ r, e = .returned r ∧ Nd w' r (2 ^ n) ∧ Below w.heap.size w w' := by
  refine (spec_Bit.calls n _ w (bit_f n hn)).mono ?_
  rintro e w' ⟨r, rfl, hr, hb⟩
  exact ⟨r, rfl, Nd.of_R hr, hb⟩
theorem cmp_nd (a b : Nat) (u v : Value) (w : World) (hu : Nd w u a) (hv : Nd w v b) (hm : (figs 65536 a).length < 1000000000000) (hm2 : (figs 65536 b).length < 1000000000000) :
    Calls Tryz.prog 37 #[u, v] w fun e w' => e = .returned (.int .i64 (cmpInt a b)) ∧ Below w.heap.size w w' := by
  obtain ⟨A, c, rfl, hl, hc⟩ := hu
  obtain ⟨A1, c1, rfl, hl1, hc1⟩ := hv
  obtain ⟨k, hk⟩ := (cmp_f a b hm hm2).rounds
  refine (spec_Cmp.calls k A c _ A1 c1 _ _ w hc hl hc1 hl1 hk).mono ?_
  rintro e w' ⟨rfl, hb⟩
  exact ⟨rfl, drawn_below hb⟩
theorem len_nd (a : Nat) (hm : (figs 65536 a).length < 1000000000) : ∃ L : Nat, a < 2 ^ L ∧ (0 < a → 0 < L ∧ 2 ^ (L - 1) ≤ a) ∧ L ≤ 16 * (figs 65536 a).length ∧ ∀ (u : Value) (w : World), Nd w u a →
    Calls Tryz.prog 79 #[u] w fun e w' => e = .returned (.int .i64 (L : Nat)) ∧ Below w.heap.size w w' := by
  obtain ⟨L, hL, h1, h2, h3⟩ := len_f a hm
  refine ⟨L, h1, h2, h3, fun u w hu => ?_⟩
  obtain ⟨A, c, rfl, hl, hc⟩ := hu
  obtain ⟨k, hk⟩ := hL.rounds
  refine (spec_Len.calls k A c _ _ w hc hl hk).mono ?_
  rintro e w' ⟨rfl, hb⟩
  exact ⟨rfl, drawn_below hb⟩
theorem byDigit_nd (a d : Nat) (u : Value) (w : World) (hu : Nd w u a) (hm : (figs 65536 a).length < 1000000000000) (hd0 : 0 < d) (hd : d < 65536) :
    Calls Tryz.prog 24 #[u, .int .i64 d] w fun e w' => ∃ r, e = .returned (.tuple #[r, .int .i64 ((a % d : Nat) : Int)]) ∧ Nd w' r (a / d) ∧ Below w.heap.size w w' := by
  obtain ⟨A, c, rfl, hl, hc⟩ := hu
  obtain ⟨k, hk⟩ := (byd_f a d hm hd0 hd).rounds
  refine (spec_byDigit.calls k A c _ d _ _ w hc hl hk).mono ?_
  rintro e w' ⟨r, rfl, hr, hb⟩
  exact ⟨r, rfl, Nd.of_V hr, hb⟩
theorem shl_zero (A : Option Addr) (c : Nat) (n : Int) (w : World) :
    Calls Tryz.prog 80 #[.slice A 0 c, .int .i64 n] w fun e w' => e = .returned (.slice A 0 c) ∧ Below w.heap.size w w' := by
  go_enter Tryz.func80, Tryz.ntmps80
  go_wp2
  go_ret
  exact ⟨rfl, by repeat (first | exact Below.refl _ _ | apply below_alloc | apply below_drew1 | apply pw_below_drewN)⟩
theorem shl_nd (a n : Nat) (u : Value) (w : World) (hu : Nd w u a) (hm : (figs 65536 a).length < 1000000) (hn : n < 1000000000) :
    Calls Tryz.prog 80 #[u, .int .i64 n] w fun e w' => ∃ r, e = .returned r ∧ Nd w' r (a * 2 ^ n) ∧ Below w.heap.size w w' := by
  have hu0 := hu
  obtain ⟨A, c, rfl, hl, hc⟩ := hu
  rcases Nat.eq_zero_or_pos a with rfl | hp
  · rw [figs_zero] at *
    refine (shl_zero A c n w).mono ?_
    rintro e w' ⟨rfl, hb⟩
    exact ⟨_, rfl, by rw [Nat.zero_mul]; exact hu0.below hb, hb⟩
  · obtain ⟨k, hk⟩ := (shl_f a n hm hn).rounds
    refine (shl_c k A c _ n _ w hc hl (List.length_pos_iff.2 (figs_ne (by omega) hp)) hk).mono ?_
    rintro e w' ⟨r, rfl, hr, hb⟩
    exact ⟨r, rfl, Nd.of_V hr, hb⟩
end Go.Proofs.YtgpoplfgngiilaaGreatDoor

namespace Go.Proofs.YtgpoplfgngiilaaGreatDoor
open Go.RowKit Go.Proofs.YtgpoplfgngiilaaGreatDoorW.PrintWords Go.Proofs.YtgpoplfgngiilaaGreatDoorW.PrintLast Go.Proofs.YtgpoplfgngiilaaGreatDoorW.PrintMore PAll Pl

theorem Nd.form {w : World} {v : Value} {n : Nat} (h : Nd w v n) : ∃ A k c, v = .slice A k c ∧ k = (figs 65536 n).length := by
  obtain ⟨A, c, hv, _, _⟩ := h
  exact ⟨A, _, c, hv, rfl⟩
theorem Nd.empty {w : World} (A : Option Addr) (c : Nat) : Nd w (.slice A 0 c) 0 := ⟨A, c, by rw [figs_zero]; rfl, by rw [figs_zero]; exact Nat.zero_le _, by rw [figs_zero]; exact C_nil _ _ _⟩
theorem figs_shl (b j m : Nat) (hm : (figs 65536 b).length ≤ m) : (figs 65536 (b * 2 ^ j)).length ≤ m + j := by
  refine figs_length_le (by omega) _ _ ?_
  have hr := (val_range (by decide) (figs_Dg (B := 65536) (by omega) b)).2
  rw [figs_val (by omega)] at hr
  have hr' : b < 65536 ^ (figs 65536 b).length := by exact_mod_cast hr
  have h1 : 65536 ^ (figs 65536 b).length ≤ 65536 ^ m := Nat.pow_le_pow_right (by omega) hm
  rw [Nat.pow_add]
  exact Nat.lt_of_lt_of_le (Nat.mul_lt_mul_of_pos_right (Nat.lt_of_lt_of_le hr' h1) (Nat.pow_pos (by omega))) (Nat.mul_le_mul_left _ (Nat.pow_le_pow_left (by omega) _))

theorem cmp_le (x y : Nat) : decide (cmpInt (x : Int) y ≤ 0) = decide (x ≤ y) := by
  unfold cmpInt
  split
  · rw [decide_eq_true (by omega), decide_eq_true (by omega)]
  · split
    · rw [decide_eq_false (by omega), decide_eq_false (by omega)]
    · rw [decide_eq_true (by omega), decide_eq_true (by omega)]

theorem addr_add0 (a : Addr) : a.add 0 = a := by cases a; unfold Addr.add; split <;> simp_all
/-- What DivMod answers. -/
def DmOk (a b : Nat) (w : World) (e : Ending) (w' : World) : Prop := ∃ q r, e = .returned (.tuple #[q, r]) ∧ Nd w' q (a / b) ∧ Nd w' r (a % b) ∧ Below w.heap.size w w'

set_option maxHeartbeats 2000000 in
theorem divMod_one (a b : Nat) (hb0 : 0 < b) (hb : b < 65536) (u v : Value) (w : World) (hu : Nd w u a) (hv : Nd w v b) (hm : (figs 65536 a).length < 100000) :
    Calls Tryz.prog 54 #[u, v] w (DmOk a b w) := by
  have HY := Aside0.mk (byDigit_nd a b u w hu (by omega) hb0 hb)
  have HS := fun W => small_nd (a % b) (by have := Nat.mod_lt a hb0; omega) W
  have HSS := Lib.hid HS
  obtain ⟨A, k, c, rfl, hk⟩ := hu.form
  obtain ⟨A1, c1, rfl, hl1, hc1⟩ := hv
  rw [figs_one (by omega) hb0 hb] at hl1 hc1 ⊢
  have e1 : [(b : Int)].length = 1 := rfl
  rw [e1] at hl1 hc1 ⊢
  obtain ⟨ad, rfl, hcell⟩ := C_at hc1 0 (by omega)
  have hcell : w.cell? ad = some (.int .i64 b) := by rw [addr_add0] at hcell; exact hcell
  clear hc1 hu hb hb0 hk HS
  go_enter Tryz.func54, Tryz.ntmps54
  go_wp2_with fail
  refine HY.out.mono ?_
  rintro e w1 ⟨vq, rfl, hvq, hb1⟩
  have HVQ := Aside0.mk hvq
  have HB1 := Aside0.mk hb1
  clear hvq hb1
  go_wp2_with fail
  refine (HSS.out w1).mono ?_
  rintro e w2 ⟨vr, rfl, hvr, hb2⟩
  have HVR := Aside0.mk hvr
  have HB2 := Aside0.mk hb2
  clear hvr hb2
  go_wp2_with fail
  refine bodyPost_ret (results_tmp2 rfl _ _ _) rfl ?_
  exact ⟨_, _, rfl, HVQ.out.below HB2.out, HVR.out, below_step HB1.out HB2.out⟩

/-- What holds at the head of DivMod's loop. -/
structure DmI (a b : Nat) (v : Value) (w W : World) (av qv : Value) (A Q j : Nat) : Prop where
  na : Nd W av A
  nq : Nd W qv Q
  nb : Nd W v b
  lt : A < b * 2 ^ j
  eq : Q * b + A = a
  bel : Below w.heap.size w W

theorem DmI.le {a b : Nat} {v : Value} {w W : World} {av qv : Value} {A Q j : Nat} (h : DmI a b v w W av qv A Q j) (hb : 0 < b) : A ≤ a ∧ Q ≤ a := by
  have h1 := h.eq
  have h2 : Q * 1 ≤ Q * b := Nat.mul_le_mul_left _ hb
  omega
theorem dm_take {a b A Q j : Nat} (h1 : A < b * 2 ^ (j + 1)) (h2 : Q * b + A = a) (h3 : b * 2 ^ j ≤ A) : A - b * 2 ^ j < b * 2 ^ j ∧ (Q + 2 ^ j) * b + (A - b * 2 ^ j) = a := by
  rw [Nat.pow_succ] at h1
  have e : b * (2 ^ j * 2) = b * 2 ^ j + b * 2 ^ j := by rw [← Nat.mul_assoc]; omega
  have e2 : (Q + 2 ^ j) * b = Q * b + b * 2 ^ j := by rw [Nat.add_mul, Nat.mul_comm (2 ^ j)]
  rw [e] at h1
  rw [e2]
  omega

set_option maxHeartbeats 4000000 in
set_option maxRecDepth 100000 in
theorem divMod_more (a b : Nat) (hb : 65536 ≤ b) (u v : Value) (w : World) (hu : Nd w u a) (hv : Nd w v b) (hm : (figs 65536 a).length < 100000) (hm2 : (figs 65536 b).length < 100000) :
    Calls Tryz.prog 54 #[u, v] w (DmOk a b w) := by
  obtain ⟨La, la1, la2, la3, hla⟩ := len_nd a (by omega)
  obtain ⟨Lb, lb1, lb2, lb3, hlb⟩ := len_nd b (by omega)
  obtain ⟨lb4, lb5⟩ := lb2 (by omega)
  -- the first round
  have h0 : ∃ j : Nat, j ≤ 1600000 ∧ ((La : Int) - Lb = j - 1 ∨ (La : Int) - Lb < 0 ∧ j = 0) ∧ a < b * 2 ^ j := by
    rcases Nat.lt_or_ge La Lb with h | h
    · refine ⟨0, by omega, .inr ⟨by omega, rfl⟩, ?_⟩
      have := Nat.pow_le_pow_right (n := 2) (by omega) (show La ≤ Lb - 1 by omega)
      omega
    · refine ⟨La - Lb + 1, by omega, .inl (by omega), ?_⟩
      have : 2 ^ (Lb - 1) * 2 ^ (La - Lb + 1) ≤ b * 2 ^ (La - Lb + 1) := Nat.mul_le_mul_right _ lb5
      rw [← Nat.pow_add, show Lb - 1 + (La - Lb + 1) = La by omega] at this
      omega
  obtain ⟨j0, hj0, hi0, hlt0⟩ := h0
  have HLA := Lib.hid hla
  have HLB := Lib.hid hlb
  have HU := Aside0.mk hu
  have HV := Aside0.mk hv
  have HLT0 := Aside0.mk hlt0
  have HBB := Aside0.mk hb
  have HM := Aside0.mk hm
  have HM2 := Aside0.mk hm2
  have hLa : (La : Int) ≤ 1600000 := by omega
  have hLb : (Lb : Int) ≤ 1600000 := by omega
  obtain ⟨A, n, c, rfl, hn⟩ := hu.form
  obtain ⟨A1, n1, c1, rfl, hn1⟩ := hv.form
  have b1 : ((n1 : Int) == 1) = false := by
    simp only [beq_eq_false_iff_ne]
    intro h1
    have hr := (val_range (by decide) (figs_Dg (B := 65536) (by omega) b)).2
    rw [figs_val (by omega), ← hn1, show n1 = 1 by omega] at hr
    omega
  clear hla hlb hu hv hlt0 hb hm hm2 la1 la2 la3 lb1 lb2 lb3 lb4 lb5 hn hn1
  go_enter Tryz.func54, Tryz.ntmps54
  go_wp2_with fail
  obtain ⟨W0, hW0⟩ : ∃ W0, W0 = w.alloc (.cells #[] 3) := ⟨_, rfl⟩
  obtain ⟨g0, hg0⟩ : ∃ g0, g0 = w.heap.size := ⟨_, rfl⟩
  have hb0 : Below w.heap.size w W0 := by rw [hW0]; exact below_alloc (Below.refl _ _) _
  rw [← hW0, ← hg0]
  have HB0 := Aside0.mk hb0
  clear hW0 hb0 hg0
  refine (HLA.out _ W0 (HU.out.below HB0.out)).mono ?_
  rintro e w1 ⟨rfl, hb1⟩
  have HB1 := Aside0.mk (below_step HB0.out hb1)
  have HV1 := Aside0.mk ((HV.out.below HB0.out).below hb1)
  have HU1 := Aside0.mk ((HU.out.below HB0.out).below hb1)
  clear hb1
  go_wp2_with fail
  refine (HLB.out _ _ HV1.out).mono ?_
  rintro e w2 ⟨rfl, hb2⟩
  have HB2 := Aside0.mk (below_step HB1.out hb2)
  have HV2 := Aside0.mk (HV1.out.below hb2)
  have HU2 := Aside0.mk (HU1.out.below hb2)
  clear hb2
  go_wp2_with fail
  go_loopw [0, 8, 9] (fun av qv iv W => ∃ (A' Q j : Nat) (I : Int), iv = .int .i64 I ∧ j ≤ 1600000 ∧ (I = j - 1 ∨ I < 0 ∧ j = 0) ∧ -1600000 ≤ I ∧ Aside0 (DmI a b (.slice A1 n1 c1) w W av qv A' Q j)) (fun _ _ iv _ => (intOf iv + 1).toNat)
  case atStart => exact ⟨a, 0, j0, _, rfl, hj0, hi0, by omega, ⟨HU2.out, Nd.empty _ _, HV2.out, HLT0.out, by omega, HB2.out⟩⟩
  case round =>
    obtain ⟨A', Q, j, I, rfl, hj, hI, hI2, HI⟩ := hrel
    obtain ⟨aA, an, ac, rfl, -⟩ := HI.out.na.form
    obtain ⟨qA, qn, qc, rfl, -⟩ := HI.out.nq.form
    by_cases hI0 : 0 ≤ I
    · obtain ⟨i, rfl⟩ : ∃ i, j = i + 1 := ⟨j - 1, by omega⟩
      obtain rfl : I = i := by omega
      have hle := HI.out.le (by have := HBB.out; omega)
      have HLE := Aside0.mk hle
      have HSH := Aside0.mk (figs_shl b i 100000 (by have := HM2.out; omega))
      have HFA := Aside0.mk (show (figs 65536 A').length < 100000 from Nat.lt_of_le_of_lt (figs_mono (by omega) hle.1) HM.out)
      have HFQ := Aside0.mk (show (figs 65536 Q).length < 100000 from Nat.lt_of_le_of_lt (figs_mono (by omega) hle.2) HM.out)
      clear hle hI
      go_wp2_with fail
      refine (shl_nd b i _ wr HI.out.nb (by have := HM2.out; omega) (by omega)).mono ?_
      rintro e w3 ⟨dv, rfl, hd, hb3⟩
      obtain ⟨dA, dn, dc, rfl, -⟩ := hd.form
      have HD := Aside0.mk hd
      have HB3 := Aside0.mk hb3
      clear hd hb3
      go_wp2_with fail
      refine (cmp_nd (b * 2 ^ i) A' _ _ w3 HD.out (HI.out.na.below HB3.out) (by have := HSH.out; omega) (by have := HFA.out; omega)).mono ?_
      rintro e w4 ⟨rfl, hb4⟩
      have HB4 := Aside0.mk (below_step HB3.out hb4)
      have HD4 := Aside0.mk (HD.out.below hb4)
      have hcl := cmp_le (b * 2 ^ i) A'
      obtain ⟨cv, hcv⟩ : ∃ cv, cv = cmpInt ((b * 2 ^ i : Nat) : Int) A' := ⟨_, rfl⟩
      rw [← hcv] at hcl ⊢
      clear hb4 hcv
      by_cases hc : b * 2 ^ i ≤ A'
      · rw [decide_eq_true hc] at hcl
        have HC := Aside0.mk hc
        clear hc
        go_wp2_with fail
        refine (sub_nd A' (b * 2 ^ i) HC.out _ _ w4 (HI.out.na.below HB4.out) HD4.out (by have := HFA.out; omega)).mono ?_
        rintro e w5 ⟨av2, rfl, ha5, hb5⟩
        have HA5 := Aside0.mk ha5
        have HB5 := Aside0.mk (below_step HB4.out hb5)
        clear ha5 hb5
        go_wp2_with fail
        refine (bit_nd i (by omega) w5).mono ?_
        rintro e w6 ⟨bv, rfl, hbv, hb6⟩
        have HBV := Aside0.mk hbv
        have HB6 := Aside0.mk hb6
        have hp2 : 2 ^ i ≤ a := by
          have h1 : 1 * 2 ^ i ≤ b * 2 ^ i := Nat.mul_le_mul_right _ (by have := HBB.out; omega)
          have h2 := HC.out
          have h3 := HLE.out.1
          omega
        have HP2 := Aside0.mk (show (figs 65536 (2 ^ i)).length < 100000 from Nat.lt_of_le_of_lt (figs_mono (by omega) hp2) HM.out)
        clear hbv hb6 hp2
        go_wp2_with fail
        refine (add_nd Q (2 ^ i) _ _ w6 ((HI.out.nq.below HB5.out).below HB6.out) HBV.out (by have := HFQ.out; omega) (by have := HP2.out; omega)).mono ?_
        rintro e w7 ⟨qv2, rfl, hq7, hb7⟩
        have HQ7 := Aside0.mk hq7
        have HB7 := Aside0.mk hb7
        clear hq7 hb7
        go_wp2_with fail
        go_roundw
        case rel =>
          have hs := dm_take HI.out.lt HI.out.eq HC.out
          exact ⟨A' - b * 2 ^ i, Q + 2 ^ i, i, _, rfl, by omega, .inl rfl, by omega, ⟨(HA5.out.below HB6.out).below HB7.out, HQ7.out, ((HI.out.nb.below HB5.out).below HB6.out).below HB7.out, hs.1, hs.2, below_step (below_step (below_step HI.out.bel HB5.out) HB6.out) HB7.out⟩⟩
        case measure => first | (simp [intOf]; done) | (simp [intOf]; omega)
      · rw [decide_eq_false hc] at hcl
        have HC := Aside0.mk hc
        clear hc
        go_wp2_with fail
        go_roundw
        case rel => exact ⟨A', Q, i, _, rfl, by omega, .inl rfl, by omega, ⟨HI.out.na.below HB4.out, HI.out.nq.below HB4.out, HI.out.nb.below HB4.out, by have := HC.out; omega, HI.out.eq, below_step HI.out.bel HB4.out⟩⟩
        case measure => first | (simp [intOf]; done) | (simp [intOf]; omega)
    · obtain rfl : j = 0 := by omega
      clear hI
      go_wp2_with fail
      refine bodyPost_ret (results_tmp2 rfl _ _ _) rfl ?_
      have h1 := HI.out.lt
      have h2 := HI.out.eq
      rw [Nat.pow_zero, Nat.mul_one] at h1
      have hb0 : 0 < b := by omega
      have e1 : a / b = Q := by rw [← h2, Nat.mul_comm, Nat.mul_add_div hb0, Nat.div_eq_of_lt h1, Nat.add_zero]
      have e2 : a % b = A' := by rw [← h2, Nat.mul_comm, Nat.mul_add_mod, Nat.mod_eq_of_lt h1]
      exact ⟨_, _, rfl, by rw [e1]; exact HI.out.nq, by rw [e2]; exact HI.out.na, HI.out.bel⟩

theorem divMod_nd (a b : Nat) (hb : 0 < b) (u v : Value) (w : World) (hu : Nd w u a) (hv : Nd w v b) (hm : (figs 65536 a).length < 100000) (hm2 : (figs 65536 b).length < 100000) :
    Calls Tryz.prog 54 #[u, v] w (DmOk a b w) := by
  rcases Nat.lt_or_ge b 65536 with h | h
  · exact divMod_one a b hb h u v w hu hv hm
  · exact divMod_more a b h u v w hu hv hm hm2
end Go.Proofs.YtgpoplfgngiilaaGreatDoor

namespace Go.Proofs.YtgpoplfgngiilaaGreatDoor
open Go.RowKit Go.Proofs.YtgpoplfgngiilaaGreatDoorW.PrintWords Go.Proofs.YtgpoplfgngiilaaGreatDoorW.PrintLast Go.Proofs.YtgpoplfgngiilaaGreatDoorW.PrintMore PAll Pl

set_option maxHeartbeats 2000000 in
theorem gcd_nd (a b : Nat) (u v : Value) (w : World) (hu : Nd w u a) (hv : Nd w v b) (hm : (figs 65536 a).length < 100000) (hm2 : (figs 65536 b).length < 100000) :
    Calls Tryz.prog 53 #[u, v] w fun e w' => ∃ r, e = .returned r ∧ Nd w' r (Nat.gcd a b) ∧ Below w.heap.size w w' := by
  have HU := Aside0.mk hu
  have HV := Aside0.mk hv
  have HM := Aside0.mk hm
  have HM2 := Aside0.mk hm2
  obtain ⟨A0, n0, c0, rfl, -⟩ := hu.form
  obtain ⟨A1, n1, c1, rfl, -⟩ := hv.form
  clear hu hv hm hm2
  go_enter Tryz.func53, Tryz.ntmps53
  go_wp2_with fail
  go_loopg [0, 1] b (fun kq av bv W => ∃ X Y : Nat, Y ≤ kq ∧ Aside0 (Nd W av X) ∧ Aside0 (Nd W bv Y) ∧ Aside0 (Nat.gcd X Y = Nat.gcd a b) ∧ Aside0 ((figs 65536 X).length < 100000 ∧ (figs 65536 Y).length < 100000) ∧ Aside0 (Below w.heap.size w W))
  case atStart => exact ⟨a, b, Nat.le_refl _, HU, HV, ⟨rfl⟩, ⟨HM.out, HM2.out⟩, ⟨Below.refl _ _⟩⟩
  case round =>
    obtain ⟨X, Y, hY, HX, HYY, HG, HL, HB⟩ := hrel
    obtain ⟨aA, an, ac, rfl, -⟩ := HX.out.form
    obtain ⟨bA, bn, bc, rfl, hbn⟩ := HYY.out.form
    have HBN := Aside0.mk hbn
    rcases Nat.eq_zero_or_pos Y with h0 | h0
    · have hn0 : bn = 0 := by rw [hbn, h0, figs_zero]; rfl
      clear hbn
      go_wp2_with fail
      go_ret
      have hg := HG.out
      rw [h0, Nat.gcd_zero_right] at hg
      exact ⟨_, rfl, by rw [← hg]; exact HX.out, HB.out⟩
    · have hn0 : 0 < bn := by rw [hbn]; exact List.length_pos_iff.2 (figs_ne (by omega) h0)
      have H0 := Aside0.mk h0
      have HYK := Aside0.mk hY
      clear hbn h0 hY
      go_wp2_with fail
      refine (divMod_nd X Y H0.out _ _ wr HX.out HYY.out HL.out.1 HL.out.2).mono ?_
      rintro e w2 ⟨q, r, rfl, hq, hr, hb⟩
      have HR := Aside0.mk hr
      have HB2 := Aside0.mk hb
      clear hq hr hb
      go_wp2_with fail
      have hml := Nat.mod_lt X H0.out
      obtain ⟨k, rfl⟩ : ∃ k, gk = k + 1 := ⟨gk - 1, by have := HYK.out; have := H0.out; omega⟩
      go_roundg k
      case rel =>
        exact ⟨Y, X % Y, by have := HYK.out; omega, ⟨HYY.out.below HB2.out⟩, HR, ⟨by rw [← HG.out, Nat.gcd_comm X Y, Nat.gcd_rec Y X, Nat.gcd_comm]⟩, ⟨HL.out.2, Nat.lt_of_le_of_lt (figs_mono (by omega) (Nat.le_of_lt hml)) HL.out.2⟩, ⟨below_step HB.out HB2.out⟩⟩
      case measure => omega
end Go.Proofs.YtgpoplfgngiilaaGreatDoor

namespace Go.Proofs.YtgpoplfgngiilaaGreatDoor
open Go.RowKit Go.Proofs.YtgpoplfgngiilaaGreatDoorW.PrintWords PAll

theorem small_one : spec_Small.f 2 1 = some [1] := by
  simp only [spec_Small.f, spec_Small.l0]
  rw [if_pos (by omega), if_pos (by simp)]
  have e : wrap64 (Int.tdiv 1 65536) = 0 := by rw [show Int.tdiv 1 65536 = 0 from rfl]; unfold wrap64; omega
  rw [e]
  rw [if_neg (by omega)]
  rfl

theorem V_of_R {kd : IntKind} {w : World} {e base b : Nat} {ok S : Nat → Prop} {v : Value} {xs : List Int} (h : Kd.R (Kd.int kd) e w base ok v xs) (hS : ∀ k, base ≤ k → S k) : Kd.V (Kd.int kd) e w b S v xs :=
  Kd.R_V (Kd.R_mono (Kd.R_bound h) (fun k hk => hS k hk.2.1))

set_option maxHeartbeats 1000000 in
/-- Whole: the sign only of what is not 0; the digits; over 1. -/
theorem whole_any (neg : Bool) (A : Option Addr) (n c : Nat) (w : World) :
    Calls Tryz.prog 20 #[.bool neg, .slice A n c] w fun e w' => ∃ A1 c1, e = .returned (.agg #[.bool (neg && decide (0 < n)), .slice A n c, .slice A1 1 c1]) ∧ Kd.V (Kd.int .i64) 3 w' 0 (fun k => w.heap.size < k) (.slice A1 1 c1) [1] ∧ Below w.heap.size w w' := by
  obtain ⟨W0, hW0⟩ : ∃ W0, W0 = w.alloc (.cells #[.bool false, .slice none 0 0, .slice none 0 0] 31) := ⟨_, rfl⟩
  have hn0 : W0.heap[w.heap.size]? = some (.cells #[.bool false, .slice none 0 0, .slice none 0 0] 31 (0, 0)) := by rw [hW0]; exact heap_alloc_new _ _
  have HN0 := Aside0.mk hn0
  have HB0 : Aside0 (Below w.heap.size w W0) := Aside0.mk (by rw [hW0]; exact below_alloc (Below.refl _ _) _)
  have HS0 : Aside0 (w.heap.size + 1 ≤ W0.heap.size) := Aside0.mk (by rw [hW0]; simp)
  have HW0 := Lib.hid hW0
  clear hW0 hn0
  cases neg
  all_goals
    go_enter Tryz.func20, Tryz.ntmps20
    go_wp2_with fail
    rw [← HW0.out]
    refine (spec_Small.calls 2 1 [1] _ small_one).mono ?_
    rintro e w1 ⟨v, rfl, hO, hb⟩
    obtain ⟨A1, c1, rfl⟩ := Kd.R_slice hO
    have hbk := blk_below HN0.out hb
    have hc0 : w1.cell? ⟨w.heap.size, 0, none⟩ = some (.bool false) := blk_cell hbk 0
    have hc1 : w1.cell? ⟨w.heap.size, 1, none⟩ = some (.slice none 0 0) := blk_cell hbk 1
    have hc2 : w1.cell? ⟨w.heap.size, 2, none⟩ = some (.slice none 0 0) := blk_cell hbk 2
    have hf0 : w1.frozen? ⟨w.heap.size, 0, none⟩ = false := blk_frozen hbk 0
    have hf1 : w1.frozen? ⟨w.heap.size, 1, none⟩ = false := blk_frozen hbk 1
    have hf2 : w1.frozen? ⟨w.heap.size, 2, none⟩ = false := blk_frozen hbk 2
    have HBK := Aside0.mk hbk
    have HO := Aside0.mk hO
    have HB := Aside0.mk hb
    clear hbk hO hb
    go_wp2_with fail
  · refine bodyPost_ret (results_cell_row rfl _ _ w.heap.size 31 #[.bool false, .slice A n c, .slice A1 1 c1] (0, 0) _ rfl (blk_put (cs := #[.bool false, .slice A n c, .slice none 0 0]) (blk_put (cs := #[.bool false, .slice none 0 0, .slice none 0 0]) (blk_put (cs := #[.bool false, .slice none 0 0, .slice none 0 0]) HBK.out 0 _ rfl) 1 _ rfl) 2 _ rfl) Tryz.underlying31 rfl (by kernel_rfl)) rfl ?_
    refine ⟨A1, c1, by simp, ?_, ?_⟩
    · repeat refine Kd.V_far ?_ (fun k (hk : w.heap.size < k) => by simp; omega) _
      exact V_of_R HO.out (fun k hk => by have := HS0.out; omega)
    · repeat refine Below.setCell ?_ (by simp) _
      exact below_step HB0.out HB.out
  · refine bodyPost_ret (results_cell_row rfl _ _ w.heap.size 31 #[.bool (decide (0 < n)), .slice A n c, .slice A1 1 c1] (0, 0) _ rfl (blk_put (cs := #[.bool (decide (0 < n)), .slice A n c, .slice none 0 0]) (blk_put (cs := #[.bool (decide (0 < n)), .slice none 0 0, .slice none 0 0]) (blk_put (cs := #[.bool false, .slice none 0 0, .slice none 0 0]) HBK.out 0 _ rfl) 1 _ rfl) 2 _ rfl) Tryz.underlying31 rfl (by kernel_rfl)) rfl ?_
    refine ⟨A1, c1, by simp, ?_, ?_⟩
    · repeat refine Kd.V_far ?_ (fun k (hk : w.heap.size < k) => by simp; omega) _
      exact V_of_R HO.out (fun k hk => by have := HS0.out; omega)
    · repeat refine Below.setCell ?_ (by simp) _
      exact below_step HB0.out HB.out
end Go.Proofs.YtgpoplfgngiilaaGreatDoor

namespace Go.Proofs.YtgpoplfgngiilaaGreatDoor
open Go.RowKit Go.Proofs.YtgpoplfgngiilaaGreatDoorW.PrintWords PAll

set_option maxHeartbeats 2000000 in
theorem isNumber_any (xn neg : Bool) (A : Option Addr) (c : Nat) (xs : List Int) (A2 : Option Addr) (c2 : Nat) (ds : List Int) (k : Nat) (b : Bool) (w : World)
    (hA : Kd.C (Kd.int .u64) w A xs.length xs) (hc : xs.length ≤ c) (hA2 : Kd.C (Kd.int .i64) w A2 ds.length ds) (hc2 : ds.length ≤ c2) (h : spec_HasWords.f k xs ds = some b) :
    Calls Tryz.prog 35 #[.agg #[.bool xn, .slice A xs.length c], .bool neg, .slice A2 ds.length c2] w fun e w' => e = .returned (.bool ((xn == (neg && decide (0 < ds.length))) && b)) ∧ Below w.heap.size w w' := by
  have hb0 := below_alloc (Below.refl w.heap.size w) (.cells #[.bool xn, .slice A xs.length c] 24)
  have H := Aside0.mk (spec_HasWords.calls k A c xs A2 c2 ds b (w.alloc (.cells #[.bool xn, .slice A xs.length c] 24)) (Kd.C_below hA hb0) hc (Kd.C_below hA2 hb0) hc2 h)
  have HB0 := Aside0.mk hb0
  clear hA hA2 h hb0
  by_cases hp : 0 < ds.length
  · have hp1 : decide ((0:Int) < ds.length) = true := by simpa using hp
    cases xn <;> cases neg
    all_goals
      go_enter Tryz.func35, Tryz.ntmps35
      go_wp2_with fail
      try
        (refine H.out.mono ?_
         rintro e w' ⟨rfl, hb⟩
         have HB := Aside0.mk hb
         clear hb
         go_wp2_with fail)
      go_ret
      first
        | exact ⟨by simp [hp], HB0.out⟩
        | exact ⟨by simp [hp], below_step HB0.out HB.out⟩
  · have hp1 : decide ((0:Int) < ds.length) = false := by simpa using hp
    cases xn <;> cases neg
    all_goals
      go_enter Tryz.func35, Tryz.ntmps35
      go_wp2_with fail
      try
        (refine H.out.mono ?_
         rintro e w' ⟨rfl, hb⟩
         have HB := Aside0.mk hb
         clear hb
         go_wp2_with fail)
      go_ret
      first
        | exact ⟨by simp [hp], HB0.out⟩
        | exact ⟨by simp [hp], below_step HB0.out HB.out⟩
end Go.Proofs.YtgpoplfgngiilaaGreatDoor

namespace Go.Proofs.YtgpoplfgngiilaaGreatDoor
open Go.RowKit Go.Proofs.YtgpoplfgngiilaaGreatDoorW.PrintWords PAll

theorem C_block {w : World} {kd : IntKind} {A : Option Addr} {n : Nat} {xs : List Int} (h : Kd.C (Kd.int kd) w A n xs) (hn : 0 < n) : ∀ ad, A = some ad → ad.block < w.heap.size := by
  intro ad ha
  obtain ⟨ad', hA', hc⟩ := h.2.2 hn
  rw [ha] at hA'
  cases hA'
  have hl := h.1
  cases xs with
  | nil => simp at hl; omega
  | cons p xs =>
    obtain ⟨c, hcl, hk, hcell⟩ := hc 0 p rfl
    cases c with
    | nil => cases hcl
    | cons u c =>
      have := World.block_lt_of_cell? _ _ (hcell 0 u rfl)
      rwa [block_add] at this
theorem C_move0 {w w1 : World} {kd : IntKind} {A : Option Addr} {n : Nat} {xs : List Int} (h : Kd.C (Kd.int kd) w A n xs) (hm : 0 < n → ∀ ad : Addr, A = some ad → ∀ k, w1.cell? (ad.add k) = w.cell? (ad.add k)) : Kd.C (Kd.int kd) w1 A n xs := by
  rcases Nat.eq_zero_or_pos n with h0 | h0
  · exact ⟨h.1, h.2.1, fun hn => by omega⟩
  · exact C_move h (hm h0)
theorem C_far0 {w : World} {kd : IntKind} {A : Option Addr} {n : Nat} {xs : List Int} (h : Kd.C (Kd.int kd) w A n xs) {p : Addr} (hne : 0 < n → ∀ ad : Addr, A = some ad → ad.block ≠ p.block) (u : Value) : Kd.C (Kd.int kd) (w.setCell p u) A n xs :=
  C_move0 h fun hn ad hA k => World.cell?_of_block (Below.heap_setCell w p u _ (by rw [block_add]; exact hne hn ad hA))
theorem C_keep0 {w w1 : World} {kd : IntKind} {A : Option Addr} {n : Nat} {xs : List Int} (h : Kd.C (Kd.int kd) w A n xs) (hm : 0 < n → ∀ ad : Addr, A = some ad → w1.heap[ad.block]? = w.heap[ad.block]?) : Kd.C (Kd.int kd) w1 A n xs :=
  C_move0 h fun hn ad hA k => World.cell?_of_block (by rw [block_add]; exact hm hn ad hA)
section
variable {w W W1 : World} {box : Array Value} {A : Option Addr} {xs : List Int}
end

section
variable {w W W1 : World} {box : Array Value} {A A1 A5 : Option Addr} {xs ds : List Int} {d : Bool} {g c1 c5 : Nat}
end

end Go.Proofs.YtgpoplfgngiilaaGreatDoor

namespace Go.Proofs.YtgpoplfgngiilaaGreatDoor
open Go.RowKit Go.Proofs.YtgpoplfgngiilaaGreatDoorW.PrintWords PAll

end Go.Proofs.YtgpoplfgngiilaaGreatDoor

namespace Go.Proofs.YtgpoplfgngiilaaGreatDoor
open Go.RowKit Go.Proofs.YtgpoplfgngiilaaGreatDoorW.PrintWords Go.Proofs.YtgpoplfgngiilaaGreatDoorW.PrintLast Go.Proofs.YtgpoplfgngiilaaGreatDoorW.PrintMore PAll Pl

/-- A block that holds no number of spec's: a store there turns none. -/
theorem Nd.set {w : World} {v : Value} {n : Nat} (h : Nd w v n) {r : Nat} {cs : Array Value} {T : TypeId} {fz : Nat × Nat} (hr : w.heap[r]? = some (.cells cs T fz)) (hc : ∀ (i : Nat) (x : Int), cs[i]? ≠ some (.int .i64 x)) (i : Nat) (u : Value) : Nd (w.setCell ⟨r, i, none⟩ u) v n := by
  obtain ⟨A, c, rfl, hl, hC⟩ := h
  refine ⟨A, c, rfl, hl, C_far0 hC (fun hn ad hA hb => ?_) u⟩
  obtain ⟨ad', hA', hcell⟩ := C_at hC 0 hn
  rw [hA] at hA'
  cases hA'
  have hb' : (ad.add 0).block = r := (block_add ad 0).trans hb
  unfold World.cell? at hcell
  rw [hb', hr] at hcell
  simp only at hcell
  split at hcell
  · cases hcell
  · exact hc _ _ hcell
theorem cs3 (b : Bool) (A B : Option Addr) (n c m d : Nat) : ∀ (i : Nat) (x : Int), (#[Value.bool b, .slice A n c, .slice B m d])[i]? ≠ some (.int .i64 x) := by
  intro i x
  rcases i with _ | _ | _ | i <;> simp

/-- A fraction: its sign and its two numbers. -/
def Rt (w : World) (v : Value) (n d : Nat) : Prop := ∃ A k c B l e, v = .agg #[.bool false, .slice A k c, .slice B l e] ∧ Nd w (.slice A k c) n ∧ Nd w (.slice B l e) d
theorem Rt.below {w w1 : World} {v : Value} {n d : Nat} (h : Rt w v n d) (hb : Below w.heap.size w w1) : Rt w1 v n d := by
  obtain ⟨A, k, c, B, l, e, hv, h1, h2⟩ := h
  exact ⟨A, k, c, B, l, e, hv, h1.below hb, h2.below hb⟩

/-- The result's block: written, the numbers stay. -/
theorem rt_store {w0 w : World} {r : Nat} {A B : Option Addr} {k c l e n d : Nat} (hr : w.heap[r]? = some (.cells #[.bool false, .slice none 0 0, .slice none 0 0] 31 (0, 0))) (h1 : Nd w (.slice A k c) n) (h2 : Nd w (.slice B l e) d) (hb : Below w0.heap.size w0 w) (hr0 : w0.heap.size ≤ r) :
    (((w.setCell ⟨r, 0, none⟩ (.bool false)).setCell ⟨r, 1, none⟩ (.slice A k c)).setCell ⟨r, 2, none⟩ (.slice B l e)).heap[r]? = some (.cells #[.bool false, .slice A k c, .slice B l e] 31 (0, 0)) ∧
    Rt (((w.setCell ⟨r, 0, none⟩ (.bool false)).setCell ⟨r, 1, none⟩ (.slice A k c)).setCell ⟨r, 2, none⟩ (.slice B l e)) (.agg #[.bool false, .slice A k c, .slice B l e]) n d ∧
    Below w0.heap.size w0 (((w.setCell ⟨r, 0, none⟩ (.bool false)).setCell ⟨r, 1, none⟩ (.slice A k c)).setCell ⟨r, 2, none⟩ (.slice B l e)) := by
  have r1 := blk_put (cs := #[.bool false, .slice none 0 0, .slice none 0 0]) hr 0 (.bool false) rfl
  have r2 := blk_put r1 1 (.slice A k c) rfl
  have r3 := blk_put r2 2 (.slice B l e) rfl
  refine ⟨r3, ⟨A, k, c, B, l, e, rfl, ?_, ?_⟩, ((hb.setCell hr0 _).setCell hr0 _).setCell hr0 _⟩
  · exact ((h1.set hr (cs3 _ _ _ _ _ _ _) 0 _).set r1 (cs3 _ _ _ _ _ _ _) 1 _).set r2 (cs3 _ _ _ _ _ _ _) 2 _
  · exact ((h2.set hr (cs3 _ _ _ _ _ _ _) 0 _).set r1 (cs3 _ _ _ _ _ _ _) 1 _).set r2 (cs3 _ _ _ _ _ _ _) 2 _

/-- What a function that makes a fraction answers. -/
def RtOk (n d : Nat) (w : World) (e : Ending) (w' : World) : Prop := ∃ v, e = .returned v ∧ Rt w' v n d ∧ Below w.heap.size w w'

set_option maxHeartbeats 2000000 in
theorem over_nd (n d : Nat) (hd : 0 < d) (u v : Value) (w : World) (hu : Nd w u n) (hv : Nd w v d) (hm : (figs 65536 n).length < 100000) (hm2 : (figs 65536 d).length < 100000) :
    Calls Tryz.prog 32 #[.bool false, u, v] w (RtOk (n / Nat.gcd n d) (d / Nat.gcd n d) w) := by
  obtain ⟨W0, hW0⟩ : ∃ W0, W0 = w.alloc (.cells #[.bool false, .slice none 0 0, .slice none 0 0] 31) := ⟨_, rfl⟩
  have hn0 : W0.heap[w.heap.size]? = some (.cells #[.bool false, .slice none 0 0, .slice none 0 0] 31 (0, 0)) := by rw [hW0]; exact heap_alloc_new _ _
  have hb0 : Below w.heap.size w W0 := by rw [hW0]; exact below_alloc (Below.refl _ _) _
  have HU := Aside0.mk (hu.below hb0)
  have HV := Aside0.mk (hv.below hb0)
  obtain ⟨A0, n0, c0, rfl, -⟩ := hu.form
  obtain ⟨A1, n1, c1, rfl, -⟩ := hv.form
  have HN0 := Aside0.mk hn0
  have HB0 := Aside0.mk hb0
  have hg : 0 < Nat.gcd n d := Nat.gcd_pos_of_pos_right _ hd
  have HG := Aside0.mk hg
  have hgl : (figs 65536 (Nat.gcd n d)).length < 100000 := Nat.lt_of_le_of_lt (figs_mono (by omega) (Nat.gcd_le_right _ hd)) hm2
  have HL := Aside0.mk (And.intro hm (And.intro hm2 hgl))
  obtain ⟨g, hge⟩ : ∃ g, g = Nat.gcd n d := ⟨_, rfl⟩
  have HC := Lib.hid (fun W hu' hv' => gcd_nd n d (.slice A0 n0 c0) (.slice A1 n1 c1) W hu' hv' hm hm2)
  rw [← hge] at HG HL HC ⊢
  have HW0 := Lib.hid hW0
  clear hW0 hn0 hu hv hd hm hm2 hg hgl hge hb0
  go_enter Tryz.func32, Tryz.ntmps32
  go_wp2_with fail
  rw [← HW0.out]
  clear HW0
  refine (HC.out W0 HU.out HV.out).mono ?_
  rintro e w1 ⟨gv, rfl, hgv, hb1⟩
  have HGV := Aside0.mk hgv
  have HB1 := Aside0.mk hb1
  obtain ⟨gA, gn, gc, rfl, -⟩ := hgv.form
  clear hgv hb1
  go_wp2_with fail
  refine (divMod_nd n g HG.out _ _ w1 (HU.out.below HB1.out) HGV.out HL.out.1 HL.out.2.2).mono ?_
  rintro e w2 ⟨q, r, rfl, hq, -, hb2⟩
  obtain ⟨qA, qn, qc, rfl, -⟩ := hq.form
  have HQ := Aside0.mk hq
  have HB2 := Aside0.mk hb2
  clear hq hb2
  go_wp2_with fail
  refine (divMod_nd d g HG.out _ _ w2 ((HV.out.below HB1.out).below HB2.out) (HGV.out.below HB2.out) HL.out.2.1 HL.out.2.2).mono ?_
  rintro e w3 ⟨p, r3, rfl, hp, -, hb3⟩
  obtain ⟨pA, pn, pc, rfl, -⟩ := hp.form
  have HP := Aside0.mk hp
  have HB3 := Aside0.mk (below_step (below_step (below_step HB0.out HB1.out) HB2.out) hb3)
  have HQ3 := Aside0.mk (HQ.out.below hb3)
  have hbk := blk_below (blk_below (blk_below HN0.out HB1.out) HB2.out) hb3
  have hc0 : w3.cell? ⟨w.heap.size, 0, none⟩ = some (.bool false) := blk_cell hbk 0
  have hc1 : w3.cell? ⟨w.heap.size, 1, none⟩ = some (.slice none 0 0) := blk_cell hbk 1
  have hc2 : w3.cell? ⟨w.heap.size, 2, none⟩ = some (.slice none 0 0) := blk_cell hbk 2
  have hf0 : w3.frozen? ⟨w.heap.size, 0, none⟩ = false := blk_frozen hbk 0
  have hf1 : w3.frozen? ⟨w.heap.size, 1, none⟩ = false := blk_frozen hbk 1
  have hf2 : w3.frozen? ⟨w.heap.size, 2, none⟩ = false := blk_frozen hbk 2
  have HBK := Aside0.mk hbk
  clear hp hb3 hbk
  go_wp2_with fail
  obtain ⟨f1, f2, f3⟩ := rt_store HBK.out HQ3.out HP.out HB3.out (Nat.le_refl _)
  refine bodyPost_ret (results_cell_row rfl _ _ w.heap.size 31 _ (0, 0) _ rfl f1 Tryz.underlying31 rfl (by kernel_rfl)) rfl ?_
  exact ⟨_, rfl, f2, f3⟩
end Go.Proofs.YtgpoplfgngiilaaGreatDoor
