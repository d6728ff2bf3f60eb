/- Functions of the program as Lean functions, and that the Go code comes to their answers (the kit's print.py wrote it; cut into this file by pieces.py): spec_Digits, laws_exponent. The text of an exponent up to 1000: its figures, told one by one; what strconv makes of them. DERIVED: THE SHELF's CONTRACTS AT THIS DUMP, IN PLAIN WORDS (tools/lay-plain.mjs out of 'TryzShelf.lean', which tools/lay-shelf.mjs wrote): THE SAME DECLARATIONS UNDER THE SAME NAMES: 'import', 'namespace', 'open', 'def', 'theorem' AND NOTHING ELSE: no command of the shelf's: FOR A HAND-IN. Each laying: the table of numbers ('.._ren') and one theorem, a field a fact of the dump's own or the kernel's comparison; each contract: ONE APPLICATION. scanExponent of an exponent p, sign, figures, to the text's end. -/
import Derived.Test.YtgpoplfgngiilaaGreatDoorZ03
import Derived.Test.YtgpoplfgngiilaaGreatDoorZ05
import Derived.Test.YtgpoplfgngiilaaGreatDoorZ06
import Derived.Test.YtgpoplfgngiilaaGreatDoorZ09
import Derived.Lib.ParseIntB
import Derived.Shelf.LaysC
import Derived.Shelf.Strconv.ParseIntPublic10
import Derived.Test.YtgpoplfgngiilaaGreatDoorProg
import Derived.Laws.BytesArg
import Derived.Deep.LoopGhost
import Derived.Deep.Cut
import Derived.Deep.CutRange
import Derived.Deep.DeepCutAuto
set_option linter.unusedVariables false
set_option linter.unusedSimpArgs false
namespace Go.Proofs.YtgpoplfgngiilaaGreatDoor.PAll
open Go.RowKit Go.Proofs.YtgpoplfgngiilaaGreatDoorW.PrintWords Go.Proofs.YtgpoplfgngiilaaGreatDoorW.PrintLast Go.Proofs.YtgpoplfgngiilaaGreatDoorW.PrintMore
attribute [local go_sem] max2_int min2_int max_two min_two max_three min_three max_four min_four   -- for this text's walks alone
/-! ### spec_Digits: function 30 -/
def spec_Digits.l0 : Nat → List Int → ByteArray → Option (ByteArray)
  | 0, _, _ => none
  | k + 1, x0, x3 => if (x0.length : Int) > 0 then ((spec_byDigit.f k x0 10).bind fun bt404 => ((some (([(wrap64 (48 + bt404.2)) % 256] : List Int) : List Int)).bind fun y408 => (if (strOfNums y408).size + x3.size ≤ 9223372036854775807 then (spec_Digits.l0 k bt404.1 ((strOfNums y408) ++ x3)) else (none)))) else (some x3)
def spec_Digits.f (k : Nat) (l0 : List Int) : Option (ByteArray) := if (l0.length : Int) = 0 then (some (⟨#[48]⟩ : ByteArray)) else (spec_Digits.l0 k l0 (⟨#[]⟩ : ByteArray))
theorem spec_Digits.mono_l : ∀ k, (∀ y0 y1, LeO (spec_Digits.l0 k y0 y1) (spec_Digits.l0 (k + 1) y0 y1))
  | 0 => fun _ _ r h => by simp [spec_Digits.l0] at h
  | k + 1 => by
    have ih0 := spec_Digits.mono_l k
    · intro y0 y1
      unfold spec_Digits.l0
      repeat' first
      | (with_reducible exact ih0 _ _)
      | (with_reducible exact spec_byDigit.mono _ _ _)
      | (with_reducible exact LeO.refl _)
      | (with_reducible exact LeO.none _)
      | (with_reducible refine LeO.ite ?_ ?_)
      | (with_reducible refine LeO.bind ?_ (fun _ => ?_))
      | exact ih0 _ _
      | exact spec_byDigit.mono _ _ _
      | exact LeO.none _
      | refine LeO.ite ?_ ?_
      | refine LeO.bind ?_ (fun _ => ?_)
theorem spec_Digits.mono : ∀ a0 k, LeO (spec_Digits.f k a0) (spec_Digits.f (k + 1) a0) := by
  intro a0 k
  have ih0 := spec_Digits.mono_l k
  unfold spec_Digits.f
  repeat' first
      | (with_reducible exact ih0 _ _)
      | (with_reducible exact spec_byDigit.mono _ _ _)
      | (with_reducible exact LeO.refl _)
      | (with_reducible exact LeO.none _)
      | (with_reducible refine LeO.ite ?_ ?_)
      | (with_reducible refine LeO.bind ?_ (fun _ => ?_))
      | exact ih0 _ _
      | exact spec_byDigit.mono _ _ _
      | exact LeO.none _
      | refine LeO.ite ?_ ?_
      | refine LeO.bind ?_ (fun _ => ?_)
set_option maxHeartbeats 8000000 in
set_option maxRecDepth 100000 in
theorem spec_Digits.calls (k : Nat) (P0_ : Nat → Prop) (A0 : Option Addr) (c0 : Nat) (l0 : List Int) (r : ByteArray) (w : World) (hs0 : Kd.V (Kd.int .i64) 3 w w.heap.size (fun k_ => P0_ k_) (.slice A0 l0.length c0) l0) (h : spec_Digits.f k l0 = some r) :
    Calls Tryz.prog 30 #[.slice A0 l0.length c0] w fun e w' => e = .returned (.string r) ∧ Below w.heap.size w w' := by
  have HO0 := Aside0.mk (show Kd.V (Kd.int .i64) 3 w w.heap.size (fun k_ => (P0_ k_ ∨ w.heap.size ≤ k_)) (.slice A0 l0.length c0) l0 from Kd.V_mono hs0 (fun k_ hk => .inl hk))
  have HB := Aside0.mk (Below.refl w.heap.size w)
  have H : (if (l0.length : Int) = 0 then (some (⟨#[48]⟩ : ByteArray)) else (spec_Digits.l0 k l0 (⟨#[]⟩ : ByteArray))) = some r := h
  clear h
  by_cases c2 : (l0.length : Int) = 0
  · rw [if_pos c2] at H
    have c2b0 : ((l0.length : Int) == 0) = true := beq_iff_eq.mpr c2
    have c2b1 : ((l0.length : Int) != 0) = false := bne_eq_false_iff_eq.mpr c2
    clear c2
    obtain rfl := Option.some.inj H
    go_enter Tryz.func30, Tryz.ntmps30
    go_wp2
    go_ret
    exact ⟨by first | rfl | (simp [errW_none, errW_some] <;> rfl) | (simp [*, errW_none, errW_some] <;> rfl), by repeat (first | (with_reducible first | exact HB.out | apply below_alloc | apply pw_below_drewN | apply below_drew1) | exact HB.out)⟩
  · rw [if_neg c2] at H
    have c2b0 : ((l0.length : Int) == 0) = false := beq_eq_false_iff_ne.mpr c2
    have c2b1 : ((l0.length : Int) != 0) = true := bne_iff_ne.mpr c2
    have c2b2 : ¬ (l0 = []) := fun h_ => c2 (by rw [h_]; rfl)
    have H' := Aside0.mk H
    clear H
    go_enter Tryz.func30, Tryz.ntmps30
    go_wp2
    go_loopg [0, 3] k (fun kq v0 v3 w' => ∃ (x0_1 : List Int) (x3_1 : ByteArray), v3 = .string x3_1 ∧ Aside0 (spec_Digits.l0 kq x0_1 x3_1 = some r) ∧ Aside0 (kq ≤ k) ∧ Aside0 (Kd.V (Kd.int .i64) 3 w' w.heap.size (fun k_ => (P0_ k_ ∨ w.heap.size ≤ k_)) v0 x0_1) ∧ Aside0 (Below w.heap.size w w'))
    case atStart => exact ⟨(l0), ((⟨#[]⟩ : ByteArray)), (by first | rfl | (simp; done) | (simp [*]; done)), H', ⟨Nat.le_refl _⟩, ⟨by (with_reducible repeat (first | apply Kd.V_alloc | apply Kd.V_drewN | apply Kd.V_drew)); exact HO0.out⟩, ⟨by repeat (first | (with_reducible first | exact HB.out | apply below_alloc | apply pw_below_drewN | apply below_drew1) | exact HB.out)⟩⟩
    case round =>
      clear H'
      try clear c2
      try clear c2b0
      try clear c2b1
      try clear c2b2
      try clear p2
      obtain ⟨x0_1, x3_1, rfl, HA, HK1, HO_0, HB⟩ := hrel
      cases gk with
      | zero => exact absurd HA.out (by simp [spec_Digits.l0])
      | succ k1 =>
        have H := HA.out
        clear HA
        simp only [spec_Digits.l0] at H
        by_cases c3 : (x0_1.length : Int) > 0
        · rw [if_pos c3] at H
          have c3b0 : decide (0 < (x0_1.length : Int)) = true := decide_eq_true c3
          have c3b1 : decide (0 < x0_1.length) = true := decide_eq_true (by omega)
          clear c3
          replace H := Option.bind_eq_some_iff.mp H
          obtain ⟨⟨t404, t407⟩, A40, H⟩ := H
          replace H : ((some (([(wrap64 (48 + t407)) % 256] : List Int) : List Int)).bind fun y408 => (if (strOfNums y408).size + x3_1.size ≤ 9223372036854775807 then (spec_Digits.l0 k1 t404 ((strOfNums y408) ++ x3_1)) else (none))) = some r := H
          have A4 := Aside0.mk A40
          clear A40
          obtain ⟨y408, hy408⟩ : ∃ y_ : List Int, y_ = (([(wrap64 (48 + t407)) % 256] : List Int)) := ⟨_, rfl⟩
          replace H : (if (strOfNums y408).size + x3_1.size ≤ 9223372036854775807 then (spec_Digits.l0 k1 t404 ((strOfNums y408) ++ x3_1)) else (none)) = some r := by first | (rw [hy408]; with_reducible exact H) | (have H2_ := (Option.bind_some _ _).symm.trans H; rw [hy408]; with_reducible exact H2_) | (have H2_ := (Option.bind_some _ _).symm.trans H; with_reducible exact H2_) | with_reducible exact H | (rw [hy408]; exact H) | exact H
          have Ny408 := Aside0.mk hy408
          clear hy408
          by_cases c5 : (strOfNums y408).size + x3_1.size ≤ 9223372036854775807
          · rw [if_pos c5] at H
            have c5b0 := eq_true c5
            have c5b1 : decide ((strOfNums y408).size + x3_1.size ≤ 9223372036854775807) = true := decide_eq_true c5
            try have c5b2 : (9223372036854775807 < (strOfNums y408).size + x3_1.size) = False := eq_false (Nat.not_lt.2 c5)
            have H' := Aside0.mk H
            clear H
            obtain ⟨Ao6, co6, eo6⟩ := Kd.V_slice HO_0.out
            subst eo6
            go_wp2_with (first | ((with_reducible refine gate_callee (f := 24) rfl ?_); refine goesL_ (some 14) rfl rfl Tryz.func24 (by kernel_rfl) rfl #[.slice Ao6 x0_1.length co6, .int .i64 10] rfl (by (try simp only [List.map_toArray, List.map_cons, List.map_nil]); first | done | rfl | (simp only [List.length_drop, List.length_take]; rfl)) ?_; (with_reducible refine (spec_byDigit.calls k1 _ _ x0_1 10 t404 t407 _ ?side1 ?side2 A4.out).mono ?_); (case side1 => repeat (first | exact (Kd.V_reads' HO_0.out).2.2 | (with_reducible refine Kd.C_alloc ?_ _) | (with_reducible refine Kd.C_drewN ?_ _) | (with_reducible refine Kd.C_drew ?_))); (case side2 => exact (Kd.V_reads' HO_0.out).2.1); rintro e w7 ⟨v405, rfl, ho0, hb⟩; refine ⟨_, rfl, ?_⟩; have n0_ := Aside0.mk (Kd.V_below (by (with_reducible repeat (first | apply Kd.V_alloc | apply Kd.V_drewN | apply Kd.V_drew)); exact HO_0.out) hb); have n1_ := Aside0.mk (Kd.V_lower (Kd.V_mono (ok' := fun k_ => (P0_ k_ ∨ w.heap.size ≤ k_)) ho0 (fun k_ hk_ => (.inr (Nat.le_trans (below_size (by repeat (first | (with_reducible first | exact HB.out | apply below_alloc | apply pw_below_drewN | apply below_drew1) | exact HB.out))) hk_)))) (below_size (by repeat (first | (with_reducible first | exact HB.out | apply below_alloc | apply pw_below_drewN | apply below_drew1) | exact HB.out)))); have n2_ := Aside0.mk (below_step (by repeat (first | (with_reducible first | exact HB.out | apply below_alloc | apply pw_below_drewN | apply below_drew1) | exact HB.out)) hb); clear HO_0; clear HB; have HO_0 := n0_; have HO406 := n1_; have HB := n2_; clear n0_ n1_ n2_; (try clear hb); (try clear hb2); (try clear hk); (try clear hi); (try clear ho0)) | ((with_reducible refine gate_dst (N := 20) rfl ?_); refine Kd.R_lit (Kd.int .u8) _ 5 ?hg (N := 20) ?hd (xs := ([(wrap64 (48 + t407)) % 256] : List Int)) (inner := [.int .u8 ((wrap64 (48 + t407)) % 256)]) (ok := fun _ => True) (okp := fun _ => True) ?hr ?hp (fun _ hk => hk) trivial (Below.refl _ _) (Nat.le_refl _) (by simp) ?_; (case hd => rfl); (case hg => rfl); (case hr => first | (go_simp; done) | (go_simp; rfl)); (case hp => exact (Reps.one (show Kd.M (Kd.int .u8) _ _ _ ((wrap64 (48 + t407)) % 256) [.int .u8 ((wrap64 (48 + t407)) % 256)] from rfl) (Reps.none _ _))); intro v409 w8 ho9 hb hg_ hnew_; clear hg_ hnew_; (first | rw [← Ny408.out] at ho9 | (simp only [Int.reduceToNat] at ho9; rw [← Ny408.out] at ho9)); have n0_ := Aside0.mk (Kd.V_elder' (by (with_reducible repeat (first | apply Kd.V_alloc | apply Kd.V_drewN | apply Kd.V_drew)); exact HO_0.out) (Kd.R_base ho9) hb); have n1_ := Aside0.mk (Kd.V_elder' (by (with_reducible repeat (first | apply Kd.V_alloc | apply Kd.V_drewN | apply Kd.V_drew)); exact HO406.out) (Kd.R_base ho9) hb); have n2_ := Aside0.mk (Kd.R_lower (Kd.R_newM (M := fun k_ => (w.heap.size ≤ k_)) ho9 (below_size (by repeat (first | (with_reducible first | exact HB.out | apply below_alloc | apply pw_below_drewN | apply below_drew1) | exact HB.out))) (fun k_ h_ => h_)) (below_size (by repeat (first | (with_reducible first | exact HB.out | apply below_alloc | apply pw_below_drewN | apply below_drew1) | exact HB.out)))); have n3_ := Aside0.mk (below_step (by repeat (first | (with_reducible first | exact HB.out | apply below_alloc | apply pw_below_drewN | apply below_drew1) | exact HB.out)) hb); clear HO_0; clear HO406; clear HB; have HO_0 := n0_; have HO406 := n1_; have HO410 := n2_; have HB := n3_; clear n0_ n1_ n2_ n3_; clear hb ho9; have hcv10 := own_string (P := Tryz.prog) Tryz.underlying44 Tryz.underlying5 Tryz.underlying9 (Kd.own_of_R HO410.out)))
            go_roundg k1
            case measure => have := HK1.out; omega
            case rel => exact ⟨(t404), ((strOfNums y408) ++ x3_1), (by first | rfl | (simp; done) | (simp [*]; done)), H', ⟨by have := HK1.out; omega⟩, ⟨by (with_reducible repeat (first | apply Kd.V_alloc | apply Kd.V_drewN | apply Kd.V_drew)); exact Kd.V_mono HO406.out (fun _ hk => hk.1)⟩, ⟨by repeat (first | (with_reducible first | exact HB.out | apply below_alloc | apply pw_below_drewN | apply below_drew1) | exact HB.out)⟩⟩
          · rw [if_neg c5] at H
            exact absurd H (by simp)
        · rw [if_neg c3] at H
          have c3b0 : decide (0 < (x0_1.length : Int)) = false := decide_eq_false c3
          have c3b1 : decide (0 < x0_1.length) = false := decide_eq_false (by omega)
          clear c3
          obtain rfl := Option.some.inj H
          obtain ⟨Ao11, co11, eo11⟩ := Kd.V_slice HO_0.out
          subst eo11
          go_wp2
          go_ret
          exact ⟨by first | rfl | (simp [errW_none, errW_some] <;> rfl) | (simp [*, errW_none, errW_some] <;> rfl), by repeat (first | (with_reducible first | exact HB.out | apply below_alloc | apply pw_below_drewN | apply below_drew1) | exact HB.out)⟩
/-! ### laws_exponent: function 17 -/
def laws_exponent.f (k : Nat) (a0 : ByteArray) (a1 : Int) (a2 : Bool) : Option (ByteArray) := (spec_Small.f k (mx a1 (wrap64 (-a1)))).bind fun t411 => ((spec_Digits.f k t411).bind fun t414 => (if a1 < 0 then (if a0.size + 1 ≤ 9223372036854775807 then (if (a0 ++ (⟨#[45]⟩ : ByteArray)).size + t414.size ≤ 9223372036854775807 then (some ((a0 ++ (⟨#[45]⟩ : ByteArray)) ++ t414)) else (none)) else (none)) else (if a2 = true then (if a0.size + 1 ≤ 9223372036854775807 then (if (a0 ++ (⟨#[43]⟩ : ByteArray)).size + t414.size ≤ 9223372036854775807 then (some ((a0 ++ (⟨#[43]⟩ : ByteArray)) ++ t414)) else (none)) else (none)) else (if a0.size + t414.size ≤ 9223372036854775807 then (some (a0 ++ t414)) else (none)))))
set_option maxHeartbeats 8000000 in
set_option maxRecDepth 100000 in
theorem laws_exponent.calls (k : Nat) (a0 : ByteArray) (a1 : Int) (a2 : Bool) (r : ByteArray) (w : World) (h : laws_exponent.f k a0 a1 a2 = some r) :
    Calls Tryz.prog 17 #[.string a0, .int .i64 a1, .bool a2] w fun e w' => e = .returned (.string r) ∧ Below w.heap.size w w' := by
  have HB := Aside0.mk (Below.refl w.heap.size w)
  have H : ((spec_Small.f k (mx a1 (wrap64 (-a1)))).bind fun t411 => ((spec_Digits.f k t411).bind fun t414 => (if a1 < 0 then (if a0.size + 1 ≤ 9223372036854775807 then (if (a0 ++ (⟨#[45]⟩ : ByteArray)).size + t414.size ≤ 9223372036854775807 then (some ((a0 ++ (⟨#[45]⟩ : ByteArray)) ++ t414)) else (none)) else (none)) else (if a2 = true then (if a0.size + 1 ≤ 9223372036854775807 then (if (a0 ++ (⟨#[43]⟩ : ByteArray)).size + t414.size ≤ 9223372036854775807 then (some ((a0 ++ (⟨#[43]⟩ : ByteArray)) ++ t414)) else (none)) else (none)) else (if a0.size + t414.size ≤ 9223372036854775807 then (some (a0 ++ t414)) else (none)))))) = some r := h
  clear h
  obtain ⟨ji4, hji4⟩ : ∃ j_ : Int, (mx a1 (wrap64 (-a1))) = j_ := ⟨_, rfl⟩
  replace H : ((spec_Small.f k (ji4)).bind fun t411 => ((spec_Digits.f k t411).bind fun t414 => (if a1 < 0 then (if a0.size + 1 ≤ 9223372036854775807 then (if (a0 ++ (⟨#[45]⟩ : ByteArray)).size + t414.size ≤ 9223372036854775807 then (some ((a0 ++ (⟨#[45]⟩ : ByteArray)) ++ t414)) else (none)) else (none)) else (if a2 = true then (if a0.size + 1 ≤ 9223372036854775807 then (if (a0 ++ (⟨#[43]⟩ : ByteArray)).size + t414.size ≤ 9223372036854775807 then (some ((a0 ++ (⟨#[43]⟩ : ByteArray)) ++ t414)) else (none)) else (none)) else (if a0.size + t414.size ≤ 9223372036854775807 then (some (a0 ++ t414)) else (none)))))) = some r := by first | (rw [hji4] at H; exact H) | (simp only [hji4] at H ⊢; exact H)
  have hji4_ : (if a1 < (wrap64 (-a1)) then (wrap64 (-a1)) else a1) = ji4 := hji4
  replace H := Option.bind_eq_some_iff.mp H
  obtain ⟨t411, A50, H⟩ := H
  replace H : ((spec_Digits.f k t411).bind fun t414 => (if a1 < 0 then (if a0.size + 1 ≤ 9223372036854775807 then (if (a0 ++ (⟨#[45]⟩ : ByteArray)).size + t414.size ≤ 9223372036854775807 then (some ((a0 ++ (⟨#[45]⟩ : ByteArray)) ++ t414)) else (none)) else (none)) else (if a2 = true then (if a0.size + 1 ≤ 9223372036854775807 then (if (a0 ++ (⟨#[43]⟩ : ByteArray)).size + t414.size ≤ 9223372036854775807 then (some ((a0 ++ (⟨#[43]⟩ : ByteArray)) ++ t414)) else (none)) else (none)) else (if a0.size + t414.size ≤ 9223372036854775807 then (some (a0 ++ t414)) else (none))))) = some r := H
  have A5 := Aside0.mk A50
  clear A50
  replace H := Option.bind_eq_some_iff.mp H
  obtain ⟨t414, A60, H⟩ := H
  replace H : (if a1 < 0 then (if a0.size + 1 ≤ 9223372036854775807 then (if (a0 ++ (⟨#[45]⟩ : ByteArray)).size + t414.size ≤ 9223372036854775807 then (some ((a0 ++ (⟨#[45]⟩ : ByteArray)) ++ t414)) else (none)) else (none)) else (if a2 = true then (if a0.size + 1 ≤ 9223372036854775807 then (if (a0 ++ (⟨#[43]⟩ : ByteArray)).size + t414.size ≤ 9223372036854775807 then (some ((a0 ++ (⟨#[43]⟩ : ByteArray)) ++ t414)) else (none)) else (none)) else (if a0.size + t414.size ≤ 9223372036854775807 then (some (a0 ++ t414)) else (none)))) = some r := H
  have A6 := Aside0.mk A60
  clear A60
  by_cases c7 : a1 < 0
  · rw [if_pos c7] at H
    have c7b0 : decide (a1 < 0) = true := decide_eq_true c7
    clear c7
    by_cases c8 : a0.size + 1 ≤ 9223372036854775807
    · rw [if_pos c8] at H
      have c8b0 := eq_true c8
      have c8b1 : decide (a0.size + 1 ≤ 9223372036854775807) = true := decide_eq_true c8
      try have c8b2 : (9223372036854775807 < a0.size + 1) = False := eq_false (Nat.not_lt.2 c8)
      by_cases c9 : (a0 ++ (⟨#[45]⟩ : ByteArray)).size + t414.size ≤ 9223372036854775807
      · rw [if_pos c9] at H
        have c9b0 := eq_true c9
        have c9b1 : decide ((a0 ++ (⟨#[45]⟩ : ByteArray)).size + t414.size ≤ 9223372036854775807) = true := decide_eq_true c9
        try have c9b2 : (9223372036854775807 < (a0 ++ (⟨#[45]⟩ : ByteArray)).size + t414.size) = False := eq_false (Nat.not_lt.2 c9)
        obtain rfl := Option.some.inj H
        go_enter Tryz.func17, Tryz.ntmps17
        go_wp2_with (first | ((with_reducible refine gate_callee (f := 28) rfl ?_); refine goesL_ (some 12) rfl rfl Tryz.func28 (by kernel_rfl) rfl #[.int .i64 ji4] rfl (by (try simp only [List.map_toArray, List.map_cons, List.map_nil]); first | done | (simp only [hji4]; rfl) | rfl | (simp only [List.length_drop, List.length_take]; rfl)) ?_; (with_reducible refine (spec_Small.calls k ji4 t411 _ A5.out).mono ?_); rintro e w10 ⟨v412, rfl, ho0, hb⟩; refine ⟨_, rfl, ?_⟩; have n0_ := Aside0.mk (Kd.R_lower ho0 (below_size (by repeat (first | (with_reducible first | exact HB.out | apply below_alloc | apply pw_below_drewN | apply below_drew1) | exact HB.out)))); have n1_ := Aside0.mk (below_step (by repeat (first | (with_reducible first | exact HB.out | apply below_alloc | apply pw_below_drewN | apply below_drew1) | exact HB.out)) hb); clear HB; have HO413 := n0_; have HB := n1_; clear n0_ n1_; (try clear hb); (try clear hb2); (try clear hk); (try clear hi); (try clear ho0); obtain ⟨Ao11, co11, eo11⟩ := Kd.R_slice HO413.out; subst eo11) | ((with_reducible refine gate_callee (f := 30) rfl ?_); refine goesL_ (some 13) rfl rfl Tryz.func30 (by kernel_rfl) rfl #[.slice Ao11 t411.length co11] rfl (by (try simp only [List.map_toArray, List.map_cons, List.map_nil]); first | done | rfl | (simp only [List.length_drop, List.length_take]; rfl)) ?_; (with_reducible refine (spec_Digits.calls k (fun k_ => some k_ = (.slice Ao11 t411.length co11 : Value).ownBlock) _ _ t411 t414 _ ?side1 A6.out).mono ?_); (case side1 => exact Kd.R_V (Kd.R_tight rfl (HO413.out))); rintro e w12 ⟨rfl, hb⟩; refine ⟨_, rfl, ?_⟩; have n0_ := Aside0.mk (Kd.R_below (by (with_reducible repeat (first | apply Kd.R_alloc | apply Kd.R_drewN | apply Kd.R_drew)); exact HO413.out) hb); have n1_ := Aside0.mk (below_step (by repeat (first | (with_reducible first | exact HB.out | apply below_alloc | apply pw_below_drewN | apply below_drew1) | exact HB.out)) hb); clear HO413; clear HB; have HO413 := n0_; have HB := n1_; clear n0_ n1_; (try clear hb); (try clear hb2); (try clear hk); (try clear hi)))
        go_ret
        exact ⟨by first | rfl | (simp [errW_none, errW_some] <;> rfl) | (simp only [← hji4]; first | rfl | (simp [errW_none, errW_some] <;> rfl)) | (simp [*, errW_none, errW_some] <;> rfl), by repeat (first | (with_reducible first | exact HB.out | apply below_alloc | apply pw_below_drewN | apply below_drew1) | exact HB.out)⟩
      · rw [if_neg c9] at H
        exact absurd H (by simp)
    · rw [if_neg c8] at H
      exact absurd H (by simp)
  · rw [if_neg c7] at H
    have c7b0 : decide (a1 < 0) = false := decide_eq_false c7
    clear c7
    by_cases c13 : a2 = true
    · subst c13
      have H1 : (if a0.size + 1 ≤ 9223372036854775807 then (if (a0 ++ (⟨#[43]⟩ : ByteArray)).size + t414.size ≤ 9223372036854775807 then (some ((a0 ++ (⟨#[43]⟩ : ByteArray)) ++ t414)) else (none)) else (none)) = some r := by rw [if_pos rfl] at H; exact H
      clear H
      have H := H1
      clear H1
      by_cases c14 : a0.size + 1 ≤ 9223372036854775807
      · rw [if_pos c14] at H
        have c14b0 := eq_true c14
        have c14b1 : decide (a0.size + 1 ≤ 9223372036854775807) = true := decide_eq_true c14
        try have c14b2 : (9223372036854775807 < a0.size + 1) = False := eq_false (Nat.not_lt.2 c14)
        by_cases c15 : (a0 ++ (⟨#[43]⟩ : ByteArray)).size + t414.size ≤ 9223372036854775807
        · rw [if_pos c15] at H
          have c15b0 := eq_true c15
          have c15b1 : decide ((a0 ++ (⟨#[43]⟩ : ByteArray)).size + t414.size ≤ 9223372036854775807) = true := decide_eq_true c15
          try have c15b2 : (9223372036854775807 < (a0 ++ (⟨#[43]⟩ : ByteArray)).size + t414.size) = False := eq_false (Nat.not_lt.2 c15)
          obtain rfl := Option.some.inj H
          go_enter Tryz.func17, Tryz.ntmps17
          go_wp2_with (first | ((with_reducible refine gate_callee (f := 28) rfl ?_); refine goesL_ (some 12) rfl rfl Tryz.func28 (by kernel_rfl) rfl #[.int .i64 ji4] rfl (by (try simp only [List.map_toArray, List.map_cons, List.map_nil]); first | done | (simp only [hji4]; rfl) | rfl | (simp only [List.length_drop, List.length_take]; rfl)) ?_; (with_reducible refine (spec_Small.calls k ji4 t411 _ A5.out).mono ?_); rintro e w16 ⟨v412, rfl, ho0, hb⟩; refine ⟨_, rfl, ?_⟩; have n0_ := Aside0.mk (Kd.R_lower ho0 (below_size (by repeat (first | (with_reducible first | exact HB.out | apply below_alloc | apply pw_below_drewN | apply below_drew1) | exact HB.out)))); have n1_ := Aside0.mk (below_step (by repeat (first | (with_reducible first | exact HB.out | apply below_alloc | apply pw_below_drewN | apply below_drew1) | exact HB.out)) hb); clear HB; have HO413 := n0_; have HB := n1_; clear n0_ n1_; (try clear hb); (try clear hb2); (try clear hk); (try clear hi); (try clear ho0); obtain ⟨Ao17, co17, eo17⟩ := Kd.R_slice HO413.out; subst eo17) | ((with_reducible refine gate_callee (f := 30) rfl ?_); refine goesL_ (some 13) rfl rfl Tryz.func30 (by kernel_rfl) rfl #[.slice Ao17 t411.length co17] rfl (by (try simp only [List.map_toArray, List.map_cons, List.map_nil]); first | done | rfl | (simp only [List.length_drop, List.length_take]; rfl)) ?_; (with_reducible refine (spec_Digits.calls k (fun k_ => some k_ = (.slice Ao17 t411.length co17 : Value).ownBlock) _ _ t411 t414 _ ?side1 A6.out).mono ?_); (case side1 => exact Kd.R_V (Kd.R_tight rfl (HO413.out))); rintro e w18 ⟨rfl, hb⟩; refine ⟨_, rfl, ?_⟩; have n0_ := Aside0.mk (Kd.R_below (by (with_reducible repeat (first | apply Kd.R_alloc | apply Kd.R_drewN | apply Kd.R_drew)); exact HO413.out) hb); have n1_ := Aside0.mk (below_step (by repeat (first | (with_reducible first | exact HB.out | apply below_alloc | apply pw_below_drewN | apply below_drew1) | exact HB.out)) hb); clear HO413; clear HB; have HO413 := n0_; have HB := n1_; clear n0_ n1_; (try clear hb); (try clear hb2); (try clear hk); (try clear hi)))
          go_ret
          exact ⟨by first | rfl | (simp [errW_none, errW_some] <;> rfl) | (simp only [← hji4]; first | rfl | (simp [errW_none, errW_some] <;> rfl)) | (simp [*, errW_none, errW_some] <;> rfl), by repeat (first | (with_reducible first | exact HB.out | apply below_alloc | apply pw_below_drewN | apply below_drew1) | exact HB.out)⟩
        · rw [if_neg c15] at H
          exact absurd H (by simp)
      · rw [if_neg c14] at H
        exact absurd H (by simp)
    · replace c13 := Bool.eq_false_iff.mpr c13
      subst c13
      have H1 : (if a0.size + t414.size ≤ 9223372036854775807 then (some (a0 ++ t414)) else (none)) = some r := by rw [if_neg (show ¬ (false = true) by decide)] at H; exact H
      clear H
      have H := H1
      clear H1
      by_cases c19 : a0.size + t414.size ≤ 9223372036854775807
      · rw [if_pos c19] at H
        have c19b0 := eq_true c19
        have c19b1 : decide (a0.size + t414.size ≤ 9223372036854775807) = true := decide_eq_true c19
        try have c19b2 : (9223372036854775807 < a0.size + t414.size) = False := eq_false (Nat.not_lt.2 c19)
        obtain rfl := Option.some.inj H
        go_enter Tryz.func17, Tryz.ntmps17
        go_wp2_with (first | ((with_reducible refine gate_callee (f := 28) rfl ?_); refine goesL_ (some 12) rfl rfl Tryz.func28 (by kernel_rfl) rfl #[.int .i64 ji4] rfl (by (try simp only [List.map_toArray, List.map_cons, List.map_nil]); first | done | (simp only [hji4]; rfl) | rfl | (simp only [List.length_drop, List.length_take]; rfl)) ?_; (with_reducible refine (spec_Small.calls k ji4 t411 _ A5.out).mono ?_); rintro e w20 ⟨v412, rfl, ho0, hb⟩; refine ⟨_, rfl, ?_⟩; have n0_ := Aside0.mk (Kd.R_lower ho0 (below_size (by repeat (first | (with_reducible first | exact HB.out | apply below_alloc | apply pw_below_drewN | apply below_drew1) | exact HB.out)))); have n1_ := Aside0.mk (below_step (by repeat (first | (with_reducible first | exact HB.out | apply below_alloc | apply pw_below_drewN | apply below_drew1) | exact HB.out)) hb); clear HB; have HO413 := n0_; have HB := n1_; clear n0_ n1_; (try clear hb); (try clear hb2); (try clear hk); (try clear hi); (try clear ho0); obtain ⟨Ao21, co21, eo21⟩ := Kd.R_slice HO413.out; subst eo21) | ((with_reducible refine gate_callee (f := 30) rfl ?_); refine goesL_ (some 13) rfl rfl Tryz.func30 (by kernel_rfl) rfl #[.slice Ao21 t411.length co21] rfl (by (try simp only [List.map_toArray, List.map_cons, List.map_nil]); first | done | rfl | (simp only [List.length_drop, List.length_take]; rfl)) ?_; (with_reducible refine (spec_Digits.calls k (fun k_ => some k_ = (.slice Ao21 t411.length co21 : Value).ownBlock) _ _ t411 t414 _ ?side1 A6.out).mono ?_); (case side1 => exact Kd.R_V (Kd.R_tight rfl (HO413.out))); rintro e w22 ⟨rfl, hb⟩; refine ⟨_, rfl, ?_⟩; have n0_ := Aside0.mk (Kd.R_below (by (with_reducible repeat (first | apply Kd.R_alloc | apply Kd.R_drewN | apply Kd.R_drew)); exact HO413.out) hb); have n1_ := Aside0.mk (below_step (by repeat (first | (with_reducible first | exact HB.out | apply below_alloc | apply pw_below_drewN | apply below_drew1) | exact HB.out)) hb); clear HO413; clear HB; have HO413 := n0_; have HB := n1_; clear n0_ n1_; (try clear hb); (try clear hb2); (try clear hk); (try clear hi)))
        go_ret
        exact ⟨by first | rfl | (simp [errW_none, errW_some] <;> rfl) | (simp only [← hji4]; first | rfl | (simp [errW_none, errW_some] <;> rfl)) | (simp [*, errW_none, errW_some] <;> rfl), by repeat (first | (with_reducible first | exact HB.out | apply below_alloc | apply pw_below_drewN | apply below_drew1) | exact HB.out)⟩
      · rw [if_neg c19] at H
        exact absurd H (by simp)
end Go.Proofs.YtgpoplfgngiilaaGreatDoor.PAll

namespace Go.Proofs.YtgpoplfgngiilaaGreatDoor.Pl
open Go.RowKit Go.Proofs.YtgpoplfgngiilaaGreatDoorW.PrintWords Go.Proofs.YtgpoplfgngiilaaGreatDoorW.PrintLast Go.Proofs.YtgpoplfgngiilaaGreatDoorW.PrintMore PAll

def isOk (e : Lib.NumEnd Int) (v : Int) : Bool := match e with
  | .ok u => decide (u = v)
  | _ => false
theorem isOk_eq {e : Lib.NumEnd Int} {v : Int} (h : isOk e v = true) : e = .ok v := by
  cases e <;> simp_all [isOk]
def digOf (n : Nat) : List Int := if n = 0 then [] else [(n : Int)]
theorem digOf_eq {n : Nat} (h : n < 65536) : digOf n = figs 65536 n := by
  unfold digOf
  split
  · next h0 => subst h0; rw [figs_zero]
  · rw [figs_one (by omega) (by omega) h]
def chk (n : Nat) : Bool := match spec_Digits.f 8 (digOf n) with
  | some t => decide (0 < t.size) && (decide (t.size ≤ 4) && (t.data.toList.all (fun c => decide (48 ≤ c.toNat) && decide (c.toNat ≤ 57)) && (isOk (Lib.parseIntB 64 t.data.toList) n && isOk (Lib.parseIntB 64 (45 :: t.data.toList)) (-(n : Int)))))
  | none => false
set_option maxRecDepth 100000 in
theorem chk_all : ∀ n : Fin 1001, chk n.val = true := by decide +kernel

/-- The figures of an exponent. -/
structure ExD (n : Nat) (t : ByteArray) : Prop where
  pos : 0 < t.size
  le : t.size ≤ 4
  fig : ∀ j : Nat, j < t.size → 48 ≤ bt t j ∧ bt t j ≤ 57
  up : Lib.parseIntB 64 t.data.toList = .ok (n : Int)
  dn : Lib.parseIntB 64 (45 :: t.data.toList) = .ok (-(n : Int))
theorem ev_of_mono {α : Type} {f : Nat → Option α} (hm : ∀ k, LeO (f k) (f (k + 1))) {n : Nat} {r : α} (h : f n = some r) : Ev f r :=
  ⟨n, fun k hk => by
    obtain ⟨d, rfl⟩ := Nat.exists_eq_add_of_le hk
    clear hk
    induction d with
    | zero => exact h
    | succ d ih => exact hm _ _ ih⟩
theorem digits_f (n : Nat) (hn : n ≤ 1000) : ∃ t, Ev (fun k => spec_Digits.f k (figs 65536 n)) t ∧ ExD n t := by
  have h := chk_all ⟨n, by omega⟩
  simp only [chk] at h
  split at h
  · next t ht =>
    rw [Bool.and_eq_true, Bool.and_eq_true, Bool.and_eq_true, Bool.and_eq_true] at h
    obtain ⟨h1, h2, h3, h4, h5⟩ := h
    rw [digOf_eq (by omega)] at ht
    refine ⟨t, ev_of_mono (fun k => spec_Digits.mono _ k) ht, of_decide_eq_true h1, of_decide_eq_true h2, fun j hj => ?_, isOk_eq h4, isOk_eq h5⟩
    rw [bt_nat t j hj]
    rw [List.all_eq_true] at h3
    have h6 := h3 (t[j]'hj) (by
      have : t[j]'hj = t.data[j]'hj := rfl
      rw [this]
      exact Array.getElem_mem_toList hj)
    rw [Bool.and_eq_true] at h6
    have a := of_decide_eq_true h6.1
    have b := of_decide_eq_true h6.2
    omega
  · cases h

/-- The text of an exponent, behind its letter. -/
structure ExT (x : Int) (sg t : ByteArray) : Prop where
  pos : 0 < t.size
  le : t.size ≤ 4
  fig : ∀ j : Nat, j < t.size → 48 ≤ bt t j ∧ bt t j ≤ 57
  way : (sg = ⟨#[45]⟩ ∧ Lib.parseIntB 64 (45 :: t.data.toList) = .ok x) ∨ ((sg = ⟨#[43]⟩ ∨ sg = ⟨#[]⟩) ∧ Lib.parseIntB 64 t.data.toList = .ok x)
theorem exponent_f (L : ByteArray) (hL : L.size = 1) (x : Int) (h0 : -1000 ≤ x) (h1 : x ≤ 1000) (plus : Bool) : ∃ sg t, Ev (fun k => laws_exponent.f k L x plus) (L ++ sg ++ t) ∧ ExT x sg t := by
  obtain ⟨t, ht, hd⟩ := digits_f x.natAbs (by omega)
  have hmx : mx x (wrap64 (-x)) = (x.natAbs : Int) := by
    rw [w64 (by omega) (by omega)]
    unfold mx
    split <;> omega
  have hs := small_f x.natAbs (by omega)
  have hsz := hd.le
  by_cases hx : x < 0
  · refine ⟨⟨#[45]⟩, t, ?_, hd.pos, hd.le, hd.fig, .inl ⟨rfl, by rw [hd.dn]; congr 1; omega⟩⟩
    refine Ev.congr (fun k => by unfold laws_exponent.f; rw [hmx]) (Ev.bind hs (Ev.bind ht ?_))
    refine Ev.congr (fun k => ?_) (Ev.now _)
    rw [if_pos hx, if_pos (by rw [hL]; omega), if_pos]
    have : (L ++ (⟨#[45]⟩ : ByteArray)).size = L.size + 1 := ByteArray.size_append
    rw [this, hL]; omega
  · by_cases hp : plus = true
    · refine ⟨⟨#[43]⟩, t, ?_, hd.pos, hd.le, hd.fig, .inr ⟨.inl rfl, by rw [hd.up]; congr 1; omega⟩⟩
      refine Ev.congr (fun k => by unfold laws_exponent.f; rw [hmx]) (Ev.bind hs (Ev.bind ht ?_))
      refine Ev.congr (fun k => ?_) (Ev.now _)
      rw [if_neg hx, if_pos hp, if_pos (by rw [hL]; omega), if_pos]
      have : (L ++ (⟨#[43]⟩ : ByteArray)).size = L.size + 1 := ByteArray.size_append
      rw [this, hL]; omega
    · refine ⟨⟨#[]⟩, t, ?_, hd.pos, hd.le, hd.fig, .inr ⟨.inr rfl, by rw [hd.up]; congr 1; omega⟩⟩
      refine Ev.congr (fun k => by unfold laws_exponent.f; rw [hmx]) (Ev.bind hs (Ev.bind ht ?_))
      refine Ev.congr (fun k => ?_) (Ev.now _)
      rw [if_neg hx, if_neg hp, if_pos (by rw [hL]; omega)]
      congr 2
      exact ByteArray.append_empty.symm
end Go.Proofs.YtgpoplfgngiilaaGreatDoor.Pl

namespace Go.Proofs
open Go.Shelf
def Tryz.laysC174_ren : Go.Shelf.Ren := ⟨fun | 174 => 43 | 247 => 64 | 245 => 65 | 287 => 98 | 279 => 99 | 280 => 100 | 281 => 101 | 282 => 102 | 321 => 140 | 322 => 141 | 316 => 142 | 171 => 144 | 205 => 143 | 243 => 196 | 246 => 239 | 283 => 262 | 284 => 263 | 285 => 264 | 286 => 265 | 129 => 277 | 317 => 281 | 318 => 282 | 319 => 283 | 320 => 209 | 337 => 248 | 338 => 249 | n => n, fun | 9 => 9 | 3 => 3 | 2 => 2 | 75 => 85 | 85 => 86 | 4 => 4 | 167 => 176 | 5 => 5 | 53 => 47 | 175 => 177 | 46 => 50 | 168 => 179 | 37 => 44 | 0 => 0 | 210 => 230 | 21 => 21 | 127 => 266 | 145 => 281 | 143 => 279 | 171 => 329 | 173 => 331 | 212 => 346 | 51 => 41 | 20 => 20 | 213 => 347 | 232 => 340 | 233 => 341 | 80 => 110 | n => n, fun | 15 => 0 | 16 => 2 | 17 => 15 | 18 => 13 | 19 => 14 | n => n⟩
theorem Tryz.laysC174 : Go.Proofs.LaysC.n174 Tryz.prog Tryz.laysC174_ren := {
  mixed := by kernel_rfl
  f129 := Tryz.func277.trans (congrArg some (by kernel_rfl))
  f171 := Tryz.func144.trans (congrArg some (by kernel_rfl))
  f174 := Tryz.func43.trans (congrArg some (by kernel_rfl))
  f205 := Tryz.func143.trans (congrArg some (by kernel_rfl))
  f243 := Tryz.func196.trans (congrArg some (by kernel_rfl))
  f245 := Tryz.func65.trans (congrArg some (by kernel_rfl))
  f246 := Tryz.func239.trans (congrArg some (by kernel_rfl))
  f247 := Tryz.func64.trans (congrArg some (by kernel_rfl))
  f279 := Tryz.func99.trans (congrArg some (by kernel_rfl))
  f280 := Tryz.func100.trans (congrArg some (by kernel_rfl))
  f281 := Tryz.func101.trans (congrArg some (by kernel_rfl))
  f282 := Tryz.func102.trans (congrArg some (by kernel_rfl))
  f283 := Tryz.func262.trans (congrArg some (by kernel_rfl))
  f284 := Tryz.func263.trans (congrArg some (by kernel_rfl))
  f285 := Tryz.func264.trans (congrArg some (by kernel_rfl))
  f286 := Tryz.func265.trans (congrArg some (by kernel_rfl))
  f287 := Tryz.func98.trans (congrArg some (by kernel_rfl))
  f316 := Tryz.func142.trans (congrArg some (by kernel_rfl))
  f317 := Tryz.func281.trans (congrArg some (by kernel_rfl))
  f318 := Tryz.func282.trans (congrArg some (by kernel_rfl))
  f319 := Tryz.func283.trans (congrArg some (by kernel_rfl))
  f320 := Tryz.func209.trans (congrArg some (by kernel_rfl))
  f321 := Tryz.func140.trans (congrArg some (by kernel_rfl))
  f322 := Tryz.func141.trans (congrArg some (by kernel_rfl))
  f337 := Tryz.func248.trans (congrArg some (by kernel_rfl))
  f338 := Tryz.func249.trans (congrArg some (by kernel_rfl))
  t0 := Tryz.underlying0
  a0 := Tryz.isAgg0
  z0 := Tryz.sizeOf0
  v0 := Tryz.zeroValue0
  t2 := Tryz.underlying2
  a2 := Tryz.isAgg2
  z2 := Tryz.sizeOf2
  v2 := Tryz.zeroValue2
  t3 := Tryz.underlying3
  a3 := Tryz.isAgg3
  z3 := Tryz.sizeOf3
  v3 := Tryz.zeroValue3
  t4 := Tryz.underlying4
  a4 := Tryz.isAgg4
  z4 := Tryz.sizeOf4
  v4 := Tryz.zeroValue4
  t5 := Tryz.underlying5
  a5 := Tryz.isAgg5
  z5 := Tryz.sizeOf5
  v5 := Tryz.zeroValue5
  t9 := Tryz.underlying9
  a9 := Tryz.isAgg9
  z9 := Tryz.sizeOf9
  v9 := Tryz.zeroValue9
  t20 := Tryz.underlying20
  a20 := Tryz.isAgg20
  z20 := Tryz.sizeOf20
  v20 := Tryz.zeroValue20
  t21 := Tryz.underlying21
  a21 := Tryz.isAgg21
  z21 := Tryz.sizeOf21
  v21 := Tryz.zeroValue21
  t37 := Tryz.underlying44
  a37 := Tryz.isAgg44
  z37 := Tryz.sizeOf44
  v37 := Tryz.zeroValue44
  t46 := Tryz.underlying50
  a46 := Tryz.isAgg50
  z46 := Tryz.sizeOf50
  v46 := Tryz.zeroValue50
  t51 := Tryz.underlying41
  a51 := Tryz.isAgg41
  z51 := Tryz.sizeOf41
  v51 := Tryz.zeroValue41
  t53 := Tryz.underlying47
  a53 := Tryz.isAgg47
  z53 := Tryz.sizeOf47
  v53 := Tryz.zeroValue47
  t75 := Tryz.underlying85
  a75 := Tryz.isAgg85
  z75 := Tryz.sizeOf85
  v75 := Tryz.zeroValue85
  t85 := Tryz.underlying86
  a85 := Tryz.isAgg86
  z85 := Tryz.sizeOf86
  v85 := Tryz.zeroValue86
  t127 := Tryz.underlying266
  a127 := Tryz.isAgg266
  z127 := Tryz.sizeOf266
  v127 := Tryz.zeroValue266
  t143 := Tryz.underlying279
  a143 := Tryz.isAgg279
  z143 := Tryz.sizeOf279
  v143 := Tryz.zeroValue279
  t145 := Tryz.underlying281
  a145 := Tryz.isAgg281
  z145 := Tryz.sizeOf281
  v145 := Tryz.zeroValue281
  t167 := Tryz.underlying176
  a167 := Tryz.isAgg176
  z167 := Tryz.sizeOf176
  v167 := Tryz.zeroValue176
  t168 := Tryz.underlying179
  a168 := Tryz.isAgg179
  z168 := Tryz.sizeOf179
  v168 := Tryz.zeroValue179
  t171 := Tryz.underlying329
  a171 := Tryz.isAgg329
  z171 := Tryz.sizeOf329
  v171 := Tryz.zeroValue329
  t173 := Tryz.underlying331
  a173 := Tryz.isAgg331
  z173 := Tryz.sizeOf331
  v173 := Tryz.zeroValue331
  t175 := Tryz.underlying177
  a175 := Tryz.isAgg177
  z175 := Tryz.sizeOf177
  v175 := Tryz.zeroValue177
  t210 := Tryz.underlying230
  a210 := Tryz.isAgg230
  z210 := Tryz.sizeOf230
  v210 := Tryz.zeroValue230
  t212 := Tryz.underlying346
  a212 := Tryz.isAgg346
  z212 := Tryz.sizeOf346
  v212 := Tryz.zeroValue346
  t213 := Tryz.underlying347
  a213 := Tryz.isAgg347
  z213 := Tryz.sizeOf347
  t232 := Tryz.underlying340
  a232 := Tryz.isAgg340
  z232 := Tryz.sizeOf340
  v232 := Tryz.zeroValue340
  t233 := Tryz.underlying341
  a233 := Tryz.isAgg341
  z233 := Tryz.sizeOf341
  v233 := Tryz.zeroValue341
  g15 := by kernel_rfl
  g16 := by kernel_rfl
  g17 := by kernel_rfl
  g18 := by kernel_rfl
  g19 := by kernel_rfl
  t80 := Tryz.underlying110
  a80 := Tryz.isAgg110
  z80 := Tryz.sizeOf110
  v80 := Tryz.zeroValue110
  i0 := by kernel_rfl
  i2 := by kernel_rfl
  i3 := by kernel_rfl
  i4 := by kernel_rfl
  i5 := by kernel_rfl
  i9 := by kernel_rfl
  i20 := by kernel_rfl
  i21 := by kernel_rfl
  i37 := by kernel_rfl
  i46 := by kernel_rfl
  i51 := by kernel_rfl
  i53 := by kernel_rfl
  i75 := by kernel_rfl
  i80 := by kernel_rfl
  i85 := by kernel_rfl
  i127 := by kernel_rfl
  i143 := by kernel_rfl
  i145 := by kernel_rfl
  i167 := by kernel_rfl
  i168 := by kernel_rfl
  i171 := by kernel_rfl
  i173 := by kernel_rfl
  i175 := by kernel_rfl
  i210 := by kernel_rfl
  i212 := by kernel_rfl
  i232 := by kernel_rfl
  i233 := by kernel_rfl
  m15 := by kernel_rfl
  m16 := by kernel_rfl
  m17 := by kernel_rfl
  m18 := by kernel_rfl
  m19 := by kernel_rfl
  c0 := by kernel_rfl
  c2 := by kernel_rfl
  c3 := by kernel_rfl
  c4 := by kernel_rfl
  c5 := by kernel_rfl
  c9 := by kernel_rfl
  c20 := by kernel_rfl
  c21 := by kernel_rfl
  c37 := by kernel_rfl
  c46 := by kernel_rfl
  c51 := by kernel_rfl
  c53 := by kernel_rfl
  c75 := by kernel_rfl
  c80 := by kernel_rfl
  c85 := by kernel_rfl
  c127 := by kernel_rfl
  c143 := by kernel_rfl
  c145 := by kernel_rfl
  c167 := by kernel_rfl
  c168 := by kernel_rfl
  c171 := by kernel_rfl
  c173 := by kernel_rfl
  c175 := by kernel_rfl
  c210 := by kernel_rfl
  c212 := by kernel_rfl
  c213 := by kernel_rfl
  c232 := by kernel_rfl
  c233 := by kernel_rfl }
open Go.RowKit in
/-- strconv.ParseInt(s, 10, 64) at a numeral. -/
theorem Tryz.strconv_ParseInt_10_at64_ok (s : ByteArray) (hmax : s.size ≤ 9223372036854775806) (v : Int) (h : Lib.parseIntB 64 s.data.toList = .ok v) (w : World) :
    Calls Tryz.prog 43 #[.string s, .int .i64 10, .int .i64 64] w fun e w' => e = .returned (.tuple #[.int .i64 v, .nilIface]) ∧ (w' = w ∨ ∃ t, w' = Lib.bytesWorld w 5 t) := Any.strconv_ParseInt_10_at64_ok Tryz.laysC174 s hmax v h w
end Go.Proofs

namespace Go.Proofs.YtgpoplfgngiilaaGreatDoor
open Go.RowKit Go.Proofs.YtgpoplfgngiilaaGreatDoorW.PrintWords PAll Pl

/-- The first j bytes. -/
def tb (t : ByteArray) : Nat → List Int
  | 0 => []
  | j + 1 => tb t j ++ [bt t j]
theorem tb_len (t : ByteArray) : ∀ j, (tb t j).length = j
  | 0 => rfl
  | j + 1 => by rw [tb, List.length_append, tb_len t j]; rfl
theorem tb_get (t : ByteArray) : ∀ (j i : Nat), i < j → (tb t j)[i]? = some (bt t i)
  | 0, i, h => by omega
  | j + 1, i, h => by
    rw [tb]
    rcases Nat.lt_or_ge i j with h1 | h1
    · rw [List.getElem?_append_left (by rw [tb_len]; exact h1)]; exact tb_get t j i h1
    · obtain rfl : i = j := by omega
      rw [List.getElem?_append_right (by rw [tb_len]; exact Nat.le_refl _), tb_len]; simp
theorem bt_byte (t : ByteArray) (i : Nat) (h : i < t.size) : UInt8.ofNat (bt t i).toNat = t.data[i]'h := by
  rw [← bt_at t (i : Int) (by simpa using h)]
  simp
  rfl
theorem tb_str (t : ByteArray) : (tb t t.size).map (fun n => UInt8.ofNat n.toNat) = t.data.toList := by
  apply List.ext_getElem?
  intro i
  rcases Nat.lt_or_ge i t.size with h | h
  · rw [List.getElem?_map, tb_get t t.size i h, Option.map_some, bt_byte t i h, Array.getElem?_toList, Array.getElem?_eq_getElem (show i < t.data.size from h)]
  · rw [List.getElem?_eq_none (by simpa [tb_len] using h), List.getElem?_eq_none (by simpa using h)]

/-- How the exponent lies behind a text: a is where its figures begin. -/
structure Xt (a : Nat) (s t : ByteArray) : Prop where
  size : s.size ≤ 100000
  len : s.size = a + t.size
  at_ : ∀ j, j < t.size → bt s (a + j : Nat) = bt t j
  pos : 0 < t.size
  le : t.size ≤ 4
  fig : ∀ j : Nat, j < t.size → 48 ≤ bt t j ∧ bt t j ≤ 57

theorem xe_next (a g : Nat) (s t : ByteArray) (k : Nat) (W : World) (hT : Xt a s t) (hk : k + 1 < t.size) (hr : RdAt W g s (a + k + 1 : Nat) (-1)) :
    Calls Tryz.prog 110 #[.pointer (some ⟨g, 0, none⟩)] W fun e w' => e = .returned (.tuple #[.int .u8 (bt t (k + 1 : Nat)), .nilIface]) ∧ RdS a g s (k + 1) w' ∧ W.grownBy w' (some g) := by
  refine (read_some g s (a + k + 1) (-1) W hT.size (by have := hT.len; omega) hr).mono ?_
  rintro e w' ⟨rfl, h1, h2⟩
  refine ⟨?_, ⟨h1⟩, h2⟩
  rw [← hT.at_ (k + 1) hk]
  rfl
theorem xe_last (a g : Nat) (s t : ByteArray) (k : Nat) (pa : Addr) (W : World) (hT : Xt a s t) (hk : k + 1 = t.size) (hr : RdAt W g s (a + k + 1 : Nat) (-1)) (hg : 1 < g) (hev : Eof W pa) :
    Calls Tryz.prog 110 #[.pointer (some ⟨g, 0, none⟩)] W fun e w' => e = .returned (.tuple #[.int .u8 0, .iface 279 (.pointer (some pa))]) ∧ RdE g s w' ∧ W.grownBy w' (some g) := by
  have hl := hT.len
  have hs := hT.size
  refine (read_end g s (a + k + 1) (-1) _ W hT.size (by omega) (by omega) hr hg hev).mono ?_
  rintro e w' ⟨rfl, h1, h2⟩
  refine ⟨rfl, ⟨?_⟩, h2⟩
  rw [show s.size = a + k + 1 by omega]
  exact h1

/-- The bytes gathered. -/
def Bw8 (w W : World) (v : Value) (xs : List Int) : Prop := W.ownsRow w.heap.size 5 1 v xs.length (nums .u8 xs)

theorem Bw8_form {w W : World} {v : Value} {xs : List Int} (h : Bw8 w W v xs) (hne : xs ≠ []) : ∃ g cap, v = .slice (some ⟨g, 0, none⟩) xs.length cap ∧ ∀ i, i < xs.length → W.cell? ⟨g, 0 + i, none⟩ = some (.int .u8 (xs.getD i 0)) := by
  have hl : 0 < xs.length := List.length_pos_iff.2 hne
  obtain ⟨A, c, hv, hr⟩ := own_reads (k := .u8) h
  rcases h.2 with ⟨rfl, h0⟩ | ⟨g, cap, cur, rfl, -⟩
  · omega
  · injection hv with e1 e2 e3
    subst e1
    obtain ⟨ad, had, hc⟩ := hr.2.2 hl
    injection had with had
    subst had
    refine ⟨g, cap, rfl, fun i hi => ?_⟩
    have e := hc i hi
    rcases Nat.eq_zero_or_pos i with rfl | h1
    · exact e
    · simp only [Addr.add, Nat.pos_iff_ne_zero.1 h1, if_false] at e; exact e

theorem info5b : (Tryz.prog.info? 5).map (fun i => (i.zero, i.size, i.bytes)) = some (some (.int .u8 0), 1, 1) := by kernel_rfl

/-- What scanExponent answers. -/
def XeOk (x : Int) (g : Nat) (s : ByteArray) (w : World) (e : Ending) (w' : World) : Prop :=
  e = .returned (.tuple #[.int .i64 x, .int .i64 2, .nilIface]) ∧ RdAt w' g s s.size (-1) ∧ w.grownBy w' (some g)

/-- The sign's three cases. -/
def SgC (a k : Nat) (s : ByteArray) (pre : List Int) : Prop := (a = k + 1 ∧ pre = []) ∨ (a = k + 2 ∧ bt s (k + 1 : Nat) = 43 ∧ pre = []) ∨ (a = k + 2 ∧ bt s (k + 1 : Nat) = 45 ∧ pre = [45])

/-- Behind the sign. -/
def XeS (a g : Nat) (s t : ByteArray) (pre : List Int) (w : World) (er ch v : Value) (W : World) : Prop :=
  er = .nilIface ∧ ch = .int .u8 (bt t 0) ∧ Bw8 w W v pre ∧ RdAt W g s (a + 1 : Nat) (-1) ∧ w.grownBy W (some g)

set_option maxHeartbeats 8000000 in
set_option maxRecDepth 100000 in
theorem xe_any (x : Int) (g k a : Nat) (s t : ByteArray) (pre : List Int) (w : World) (hT : Xt a s t) (hp : bt s k = 112) (hS : SgC a k s pre) (hpi : Lib.parseIntB 64 (strOfNums (pre ++ tb t t.size)).data.toList = .ok x) (pa : Addr) (hg : 1 < g) (hgw : g < w.heap.size) (hr : RdAt w g s k (-1)) (hev : Eof w pa) :
    Calls Tryz.prog 112 #[.iface 133 (.pointer (some ⟨g, 0, none⟩)), .bool true, .bool true] w (XeOk x g s w) := by
  have hak : k + 1 ≤ a ∧ a ≤ k + 2 := by rcases hS with h | h | h <;> omega
  have hlen := hT.len
  have hpos := hT.pos
  have HR1 := Aside0.mk (read_some g s k (-1) w hT.size (by omega) hr)
  have b0 : (bt s k == 101) = false := by rw [hp]; rfl
  have b1 : (bt s k == 69) = false := by rw [hp]; rfl
  have b2 : (bt s k == 112) = true := by rw [hp]; rfl
  have hf0 : 48 ≤ bt t 0 ∧ bt t 0 ≤ 57 := hT.fig 0 hpos
  have HF0 := Aside0.mk hf0
  have HT := Aside0.mk hT
  have HEV := Aside0.mk hev
  have HGW := Aside0.mk hgw
  have HPI := Aside0.mk hpi
  have HS := Aside0.mk hS
  have HAK := Aside0.mk (And.intro hak (And.intro hlen hpos))
  clear hr hT hp hf0 hev hpi hS hak hlen hpos
  go_enter Tryz.func112, Tryz.ntmps112
  go_wp2_with fail
  refine HR1.out.mono ?_
  rintro e w1 ⟨rfl, hr1, ho1⟩
  have HO1 := Aside0.mk ho1
  have HE1 := Aside0.mk (HEV.out.only ho1 hg)
  clear HR1
  have HR2 := Aside0.mk (read_some g s (k + 1) (-1) w1 HT.out.size (by have := HAK.out; omega) hr1)
  obtain ⟨c1, hc1⟩ : ∃ c, c = bt s (k + 1 : Nat) := ⟨_, rfl⟩
  rw [← hc1] at HR2
  have HC1 := Aside0.mk hc1
  clear hr1 ho1 hc1
  go_wp2_with fail
  refine HR2.out.mono ?_
  rintro e w2 ⟨rfl, hr2, ho2⟩
  have HRD2 := Aside0.mk hr2
  have HO2 := Aside0.mk (only_trans HO1.out ho2)
  have HE2 := Aside0.mk (HE1.out.only ho2 hg)
  clear hr2 ho2 HR2
  obtain ⟨sg, hsg⟩ : ∃ b : Bool, b = (c1 == 43 || c1 == 45) := ⟨_, rfl⟩
  have HSG := Aside0.mk hsg
  clear hsg
  go_upto_region 18 with (fail)
  go_cut [49] (fun z W => z = .bool sg ∧ W = w2)
  case first =>
    by_cases h43 : c1 = 43
    · have n43 : (c1 == 43) = true := by simp [h43]
      clear h43
      go_wp2_with fail
      go_meet
      exact ⟨by rw [HSG.out, n43]; rfl, rfl⟩
    · have n43 : (c1 == 43) = false := by simp [h43]
      clear h43
      by_cases h45 : c1 = 45
      · have n45 : (c1 == 45) = true := by simp [h45]
        clear h45
        go_wp2_with fail
        go_meet
        exact ⟨by rw [HSG.out, n45, Bool.or_true], rfl⟩
      · have n45 : (c1 == 45) = false := by simp [h45]
        clear h45
        go_wp2_with fail
        go_meet
        exact ⟨by rw [HSG.out, n43, n45]; rfl, rfl⟩
  case rest =>
    obtain ⟨rfl, hw⟩ := hcut
    subst hw
    have hwz : w.heap.size ≤ wc.heap.size := HO2.out.size
    have HWZ := Aside0.mk hwz
    go_upto_if 49 with (fail)
    go_cut [8, 9, 10] (fun er ch v W => XeS a g s t pre w er ch v W)
    case first =>
      rcases HS.out with ⟨ha, hpre⟩ | ⟨ha, h43, hpre⟩ | ⟨ha, h45, hpre⟩
      · have hce : c1 = bt t 0 := by rw [HC1.out, ← ha]; exact HT.out.at_ 0 HAK.out.2.2
        have hb : sg = false := by
          have := HF0.out
          rw [HSG.out]
          simp only [Bool.or_eq_false_iff, beq_eq_false_iff_ne]; omega
        subst hb
        have HCE := Aside0.mk hce
        have HA := Aside0.mk (And.intro ha hpre)
        clear hce ha hpre
        go_wp2_with fail
        go_meet
        refine ⟨rfl, by rw [HCE.out], ?_, ?_, HO2.out⟩
        · rw [HA.out.2]; exact own_nil _ _ _ _
        · rw [HA.out.1]; exact HRD2.out
      · have hb : sg = true := by rw [HSG.out, HC1.out, h43]; rfl
        subst hb
        have n45 : (c1 == 45) = false := by rw [HC1.out, h43]; rfl
        have n43 : (c1 == 43) = true := by rw [HC1.out, h43]; rfl
        have HR3 := Aside0.mk (read_some g s (k + 1 + 1) (-1) wc HT.out.size (by have := HAK.out; omega) HRD2.out)
        rw [show bt s (k + 1 + 1 : Nat) = bt t 0 by rw [show k + 1 + 1 = a by omega]; exact HT.out.at_ 0 HAK.out.2.2] at HR3
        have HA := Aside0.mk (And.intro ha hpre)
        clear ha hpre h43
        go_wp2_with fail
        refine HR3.out.mono ?_
        rintro e w3 ⟨rfl, hr3, ho3⟩
        have H3 := Aside0.mk (And.intro hr3 ho3)
        clear hr3 ho3
        go_wp2_with fail
        go_meet
        refine ⟨rfl, rfl, ?_, ?_, only_trans HO2.out H3.out.2⟩
        · rw [HA.out.2]; exact own_nil _ _ _ _
        · rw [HA.out.1]; exact H3.out.1
      · have hb : sg = true := by rw [HSG.out, HC1.out, h45]; rfl
        subst hb
        have n45 : (c1 == 45) = true := by rw [HC1.out, h45]; rfl
        have n43 : (c1 == 43) = false := by rw [HC1.out, h45]; rfl
        have hnil := own_nil wc w.heap.size 5 1
        have HNIL := Aside0.mk hnil
        have HA := Aside0.mk (And.intro ha hpre)
        have HBT := Aside0.mk (show bt s (k + 1 + 1 : Nat) = bt t 0 by rw [show k + 1 + 1 = a by omega]; exact HT.out.at_ 0 HAK.out.2.2)
        clear ha hpre h45 hnil
        go_wp2_with ((with_reducible refine gate_builtin (b := .append) (xs := #[.tmp 52, .tmp 53]) rfl ?_); at_builtin; refine print_append_num (w0 := wc) w.heap.size rfl (.tmp 52) (.tmp 53) 44 5 .u8 1 rfl Tryz.underlying44 info5b (by decide) (.slice none 0 0) [] 45 rfl rfl HNIL.out (Below.refl _ _) HWZ.out (by decide) ?_; intro v2 w2 hv2 hb2 hgr hat; clear hgr hat; have HV2 := Aside0.mk hv2; have HB2 := Aside0.mk hb2; clear hv2 hb2)
        refine (read_some g s (k + 1 + 1) (-1) w2 HT.out.size (by have := HAK.out; have := HA.out.1; omega) (Rd_below HRD2.out HB2.out HGW.out)).mono ?_
        rintro e w3 ⟨rfl, hr3, ho3⟩
        rw [HBT.out]
        have H3 := Aside0.mk (And.intro hr3 ho3)
        clear hr3 ho3
        go_wp2_with fail
        go_meet
        refine ⟨rfl, rfl, ?_, ?_, only_trans (only_base HO2.out HB2.out (Nat.le_refl _)) H3.out.2⟩
        · rw [HA.out.2]; exact World.ownsRow.kept HV2.out H3.out.2 (by
            rcases hv : v2.ownBlock with _ | kk
            · exact .inl rfl
            · right
              intro e
              cases e
              have := own_base HV2.out _ hv
              have := HGW.out
              omega)
        · rw [HA.out.1]; exact H3.out.1
    case rest =>
    obtain ⟨rfl, rfl, hv0, hrd0, ho0⟩ := hcut
    have HV0 := Aside0.mk hv0
    have HRD0 := Aside0.mk hrd0
    have HO0 := Aside0.mk ho0
    have HE0 := Aside0.mk (HEV.out.only ho0 hg)
    clear hv0 hrd0 ho0 HO1 HE1 HRD2 HO2 HE2 HWZ HC1
    go_wp2_with fail
    go_loopg [8, 9, 10, 11, 12, 13] (t.size + 1) (fun kq er ch v pr iv hd W => ∃ (j : Nat) (P : Int) (hb : Bool), kq + j = t.size + 1 ∧ iv = .bool false ∧ pr = .int .i32 P ∧ (P == 95) = false ∧ hd = .bool hb ∧ (hb = true ∨ j = 0) ∧ j ≤ t.size ∧ ScH a g s t pa W j er ch ∧ Bw8 w W v (pre ++ tb t j) ∧ w.grownBy W (some g))
    case atStart => exact ⟨0, 46, false, rfl, rfl, rfl, rfl, rfl, .inr rfl, Nat.zero_le _, ScH.first HAK.out.2.2 HRD0.out, by rw [tb, List.append_nil]; exact HV0.out, HO0.out⟩
    case round =>
    obtain ⟨j, P, hb, hkq, rfl, rfl, hP, rfl, hhb, hjl, hsc, hbw, hon⟩ := hrel
    have HSC := Aside0.mk hsc
    have HBW := Aside0.mk hbw
    have HON := Aside0.mk hon
    have HKQ := Aside0.mk hkq
    have HHB := Aside0.mk hhb
    have HE := Aside0.mk (HEV.out.only hon hg)
    have hwr : w.heap.size ≤ wr.heap.size := hon.size
    have HWR := Aside0.mk hwr
    rcases Nat.lt_or_ge j t.size with hj | hj
    · obtain ⟨he, hc, hrd⟩ := HSC.out.1 hj
      subst he hc
      have hfg := HT.out.fig j hj
      obtain ⟨c, hce⟩ : ∃ c, c = bt t (j : Nat) := ⟨_, rfl⟩
      rw [← hce] at hfg ⊢
      have f1 : 48 ≤ c := hfg.1
      have f2 : c ≤ 57 := hfg.2
      have HCE := Aside0.mk hce
      have HRD := Aside0.mk hrd
      have HJ := Aside0.mk hj
      have HLB := Aside0.mk (show ((pre ++ tb t j).length + 1) * 1 ≤ 140737488355328 by
        have h1 := HT.out.le
        have h2 : pre.length ≤ 1 := by rcases HS.out with h | h | h <;> (first | (rw [h.2]; decide) | (rw [h.2.2]; decide))
        rw [List.length_append, tb_len]; omega)
      clear hsc hbw hon hkq hhb hfg hce hrd hwr hj
      go_wp2_with ((with_reducible refine gate_builtin (b := .append) (xs := #[.tmp 68, .tmp 70]) rfl ?_); at_builtin; refine print_append_num (w0 := wr) w.heap.size rfl (.tmp 68) (.tmp 70) 44 5 .u8 1 rfl Tryz.underlying44 info5b (by decide) _ (pre ++ tb t j) c rfl rfl HBW.out (Below.refl _ _) HWR.out HLB.out ?_; intro v2 w2 hv2 hb2 hgr hat; clear hgr hat; have HV2 := Aside0.mk hv2; have HB2 := Aside0.mk hb2; clear hv2 hb2)
      have HRD2 := Aside0.mk (Rd_below HRD.out HB2.out HGW.out)
      have HE2 := Aside0.mk (HE.out.below HB2.out (by have := HGW.out; omega))
      have HON2 := Aside0.mk (only_base HON.out HB2.out (Nat.le_refl _))
      have HOWN := Lib.hid (fun (w3 : World) (ho : w2.grownBy w3 (some g)) => show Bw8 w w3 v2 (pre ++ tb t (j + 1)) by
        have h := HV2.out
        rw [List.append_assoc, HCE.out] at h
        exact World.ownsRow.kept (show w2.ownsRow w.heap.size 5 1 v2 (pre ++ tb t (j + 1)).length (nums .u8 (pre ++ tb t (j + 1))) from h) ho (by
          rcases hv : v2.ownBlock with _ | kk
          · exact .inl rfl
          · right
            intro e
            cases e
            have := own_base HV2.out _ hv
            have := HGW.out
            omega))
      by_cases hj1 : j + 1 < t.size
      · refine (xe_next a g s t j w2 HT.out hj1 HRD2.out).mono ?_
        rintro e w3 ⟨rfl, hh3, ho3⟩
        have H3 := Aside0.mk (And.intro hh3 ho3)
        have HJ1 := Aside0.mk hj1
        clear hh3 ho3 hj1
        go_wp2_with fail
        obtain ⟨q2, rfl⟩ : ∃ q, gk = q + 1 := ⟨gk - 1, by have := HKQ.out; have := HJ1.out; omega⟩
        go_roundg q2
        case rel => exact ⟨j + 1, 48, true, by have := HKQ.out; omega, rfl, rfl, rfl, rfl, .inl rfl, Nat.le_of_lt HJ1.out, H3.out.1.some HJ1.out, HOWN.out _ H3.out.2, only_trans HON2.out H3.out.2⟩
        case measure => omega
      · have hjl' : j + 1 = t.size := by have := HJ.out; omega
        refine (xe_last a g s t j pa w2 HT.out hjl' HRD2.out hg HE2.out).mono ?_
        rintro e w3 ⟨rfl, hh3, ho3⟩
        have H3 := Aside0.mk (And.intro hh3 ho3)
        have HJ1 := Aside0.mk hjl'
        clear hh3 ho3 hj1 hjl'
        go_wp2_with fail
        obtain ⟨q2, rfl⟩ : ∃ q, gk = q + 1 := ⟨gk - 1, by have := HKQ.out; have := HJ1.out; omega⟩
        go_roundg q2
        case rel => exact ⟨j + 1, 48, true, by have := HKQ.out; omega, rfl, rfl, rfl, rfl, .inl rfl, Nat.le_of_eq HJ1.out, H3.out.1.none HJ1.out, HOWN.out _ H3.out.2, only_trans HON2.out H3.out.2⟩
        case measure => omega
    · obtain rfl : j = t.size := by omega
      obtain ⟨he, hc, hrd⟩ := HSC.out.2 rfl
      subst he hc
      have hb1 : hb = true := by rcases hhb with h | h; exact h; exact absurd HAK.out.2.2 (by omega)
      subst hb1
      obtain ⟨h8, cap8, hv8, hc8⟩ := Bw8_form HBW.out (by
        have h1 := HAK.out.2.2
        intro h
        have h2 := congrArg List.length h
        rw [List.length_append, tb_len, List.length_nil] at h2
        omega)
      have hcv := run_convert_bytes_arg (P := Tryz.prog) wr 44 5 Tryz.underlying44 Tryz.underlying5 h8 0 (pre ++ tb t t.size).length cap8 (pre ++ tb t t.size) rfl hc8 9 Tryz.underlying9
      have heq := fun W => eof_eql pa W
      have hevw : wr.cell? ⟨1, 0, none⟩ = some (.iface 279 (.pointer (some pa))) := HE.out
      have heq2 := fun W => run_eql_iface_nil_left (P := Tryz.prog) (w := W) 279 (.pointer (some pa)) Tryz.underlying85
      have HPJ := Aside0.mk (Tryz.strconv_ParseInt_10_at64_ok (strOfNums (pre ++ tb t t.size)) (by
        have h1 := HT.out.le
        have h2 : pre.length ≤ 1 := by rcases HS.out with h | h | h <;> (first | (rw [h.2]; decide) | (rw [h.2.2]; decide))
        rw [strOfNums_size, List.length_append, tb_len]; omega) x HPI.out wr)
      obtain ⟨ln, hln⟩ : ∃ n, n = (pre ++ tb t t.size).length := ⟨_, rfl⟩
      obtain ⟨S, hSd⟩ : ∃ S, S = strOfNums (pre ++ tb t t.size) := ⟨_, rfl⟩
      rw [← hln, ← hSd] at hcv
      rw [← hln] at hv8
      rw [← hSd] at HPJ
      subst hv8
      have HRD := Aside0.mk hrd
      clear hsc hbw hon hkq hhb hrd hc8 hln hSd hwr HSC HBW hj hjl
      go_wp2_with fail
      refine HPJ.out.mono ?_
      rintro e w3 ⟨rfl, hw3⟩
      have hB3 : Below wr.heap.size wr w3 := by
        rcases hw3 with rfl | ⟨tt, rfl⟩
        · exact Below.refl _ _
        · exact ⟨rfl, rfl, rfl, by rw [Lib.bytesWorld_size]; omega, fun i hi => Lib.bytesWorld_at_old wr 5 tt i hi⟩
      have HB3 := Aside0.mk hB3
      clear hw3 hB3
      go_wp2_with fail
      refine bodyPost_ret (results_tmp3 rfl _ _ _) rfl ?_
      exact ⟨rfl, Rd_below HRD.out HB3.out (Nat.lt_of_lt_of_le HGW.out HWR.out), only_base HON.out HB3.out HWR.out⟩
end Go.Proofs.YtgpoplfgngiilaaGreatDoor
