/- Functions of the program as Lean functions, and that the Go code comes to their answers (the kit's print.py wrote it; cut into this file by pieces.py): IsS116, bigall_Int_Sign. -/
import Derived.Test.YtgpoplfgngiilaaGreatDoorS0
namespace Go.Proofs.YtgpoplfgngiilaaGreatDoor.PAll
open Go.RowKit Go.Proofs.YtgpoplfgngiilaaGreatDoorW.PrintWords Go.Proofs.YtgpoplfgngiilaaGreatDoorW.PrintLast Go.Proofs.YtgpoplfgngiilaaGreatDoorW.PrintMore
attribute [local go_sem] max2_int min2_int max_two min_two max_three min_three max_four min_four   -- for this text's walks alone
set_option linter.unusedVariables false
set_option linter.unusedSimpArgs false
def IsS116 (w0 W : World) (g : Nat) (f0 : Bool) (f1 : List Int) : Prop := ∃ A1 c1, W.heap[g]? = some (.cells #[.bool f0, .slice A1 f1.length c1] 116 (0, 0)) ∧ w0.heap.size ≤ g ∧ Kd.C (Kd.int .u64) w0 A1 f1.length f1
theorem IsS116.grown {w0 W : World} {g : Nat} {f0 : Bool} {f1 : List Int} {W1 : World} {row : Option Nat} (h : IsS116 w0 W g f0 f1) (hw : W.grownBy W1 row) (hne : some g ≠ row) : IsS116 w0 W1 g f0 f1 := by
  obtain ⟨A1, c1, hb, hg, hr1⟩ := h
  exact ⟨A1, c1, blk_grown hb hw hne, hg, hr1⟩
theorem IsS116.own_neN {w0 W : World} {g : Nat} {f0 : Bool} {f1 : List Int} {α : Type} {d : Kd α} {e : Nat} {base : Nat} {ok : Nat → Prop} {v : Value} {xs : List α} (h : IsS116 w0 W g f0 f1) (ho : Kd.N d e W base ok v xs) (ht : e ≠ 116) : some g ≠ v.ownBlock := by
  obtain ⟨A1, c1, hb, hg, hr1⟩ := h
  exact Kd.N_ne ho hb ht
theorem IsS116.fresh {w0 W : World} {g : Nat} {f0 : Bool} {f1 : List Int} (h : IsS116 w0 W g f0 f1) : ∀ k, W.heap.size ≤ k → k ≠ g := by
  obtain ⟨A1, c1, hb, hg, hr1⟩ := h
  exact Kd.freshB hb
theorem IsS116.kept {w0 W : World} {g : Nat} {f0 : Bool} {f1 : List Int} {W1 : World} {S : Nat → Prop} (h : IsS116 w0 W g f0 f1) (hk : Kept W W1 S) (hne : ¬ S g) : IsS116 w0 W1 g f0 f1 := by
  obtain ⟨A1, c1, hb, hg, hr1⟩ := h
  exact ⟨A1, c1, blk_kept hb hk hne, hg, hr1⟩
theorem IsS116.below {w0 W : World} {g : Nat} {f0 : Bool} {f1 : List Int} {W1 : World} (h : IsS116 w0 W g f0 f1) (hw : Below W.heap.size W W1) : IsS116 w0 W1 g f0 f1 := h.grown (grown_of_below hw none) (by simp)
theorem IsS116.alloc {w0 W : World} {g : Nat} {f0 : Bool} {f1 : List Int} (h : IsS116 w0 W g f0 f1) (o : Obj) : IsS116 w0 (W.alloc o) g f0 f1 := h.below (below_alloc (Below.refl _ _) o)
theorem IsS116.drewN {w0 W : World} {g : Nat} {f0 : Bool} {f1 : List Int} (h : IsS116 w0 W g f0 f1) (m : Nat) : IsS116 w0 (W.drewN m) g f0 f1 := h
theorem IsS116.drew {w0 W : World} {g : Nat} {f0 : Bool} {f1 : List Int} (h : IsS116 w0 W g f0 f1) : IsS116 w0 W.drew g f0 f1 := h
theorem IsS116.at_ {w0 W : World} {g : Nat} {f0 : Bool} {f1 : List Int} {w' : World} {m : Nat} (hq : W.drewN m = w') (h : IsS116 w0 W g f0 f1) : IsS116 w0 w' g f0 f1 := by subst hq; exact IsS116.drewN h m
theorem IsS116.apart {w0 W : World} {g : Nat} {f0 : Bool} {f1 : List Int} {α : Type} {d : Kd α} {e : Nat} {base : Nat} {ok : Nat → Prop} {v : Value} {xs : List α} (h : IsS116 w0 W g f0 f1) (ho : d.R e W base ok v xs) (ht : ∀ q, q ∈ e :: d.E → q ≠ 116) : d.R e W base (fun k => ok k ∧ k ≠ g) v xs := by
  obtain ⟨A1, c1, hb, hg, hr1⟩ := h
  exact Kd.R_types ho hb ht
theorem IsS116.own_ne {w0 W : World} {g : Nat} {f0 : Bool} {f1 : List Int} {α : Type} {d : Kd α} {e : Nat} {base : Nat} {ok : Nat → Prop} {v : Value} {xs : List α} (h : IsS116 w0 W g f0 f1) (ho : d.R e W base ok v xs) (ht : e ≠ 116) : some g ≠ v.ownBlock := by
  obtain ⟨A1, c1, hb, hg, hr1⟩ := h
  exact Kd.R_ne ho hb ht
theorem IsS116.apartQ {w0 W : World} {g : Nat} {f0 : Bool} {f1 : List Int} {α : Type} {d : Kd α} {e : Nat} {base : Nat} {ok : Nat → Prop} {v : Value} {xs : List α} (h : IsS116 w0 W g f0 f1) (ho : d.Q e W base ok v xs) (ht : ∀ q, q ∈ e :: d.E → q ≠ 116) : d.Q e W base (fun k => ok k ∧ k ≠ g) v xs := by
  obtain ⟨A1, c1, hb, hg, hr1⟩ := h
  exact Kd.Q_types ho hb ht
theorem IsS116.own_neQ {w0 W : World} {g : Nat} {f0 : Bool} {f1 : List Int} {α : Type} {d : Kd α} {e : Nat} {base : Nat} {ok : Nat → Prop} {v : Value} {xs : List α} (h : IsS116 w0 W g f0 f1) (ho : d.Q e W base ok v xs) (ht : e ≠ 116) : some g ≠ v.ownBlock := by
  obtain ⟨A1, c1, hb, hg, hr1⟩ := h
  exact Kd.Q_ne ho hb ht
theorem IsS116.apartS {w0 W : World} {g : Nat} {f0 : Bool} {f1 : List Int} {α : Type} {d : Kd α} {e : Nat} {base : Nat} {ok : Nat → Prop} {v : Value} {xs : List α} (h : IsS116 w0 W g f0 f1) (ho : d.S e W base ok v xs) (ht : ∀ q, q ∈ e :: d.E → q ≠ 116) : d.S e W base (fun k => ok k ∧ k ≠ g) v xs := by
  obtain ⟨A1, c1, hb, hg, hr1⟩ := h
  exact Kd.S_types ho hb ht
theorem IsS116.own_neS {w0 W : World} {g : Nat} {f0 : Bool} {f1 : List Int} {α : Type} {d : Kd α} {e : Nat} {base : Nat} {ok : Nat → Prop} {v : Value} {xs : List α} (h : IsS116 w0 W g f0 f1) (ho : d.S e W base ok v xs) (ht : e ≠ 116) : some g ≠ v.ownBlock := by
  obtain ⟨A1, c1, hb, hg, hr1⟩ := h
  exact Kd.S_ne ho hb ht
theorem IsS116.lt {w0 W : World} {g : Nat} {f0 : Bool} {f1 : List Int} (h : IsS116 w0 W g f0 f1) : g < W.heap.size := by
  obtain ⟨A1, c1, hb, hg, hr1⟩ := h
  exact blk_lt hb
theorem IsS116.ge {w0 W : World} {g : Nat} {f0 : Bool} {f1 : List Int} (h : IsS116 w0 W g f0 f1) : w0.heap.size ≤ g := by
  obtain ⟨A1, c1, hb, hg, hr1⟩ := h
  exact hg
theorem IsS116.ne_blk {w0 W : World} {g : Nat} {f0 : Bool} {f1 : List Int} {a : Nat} {cs : Array Value} {t : TypeId} {fr : Nat × Nat} (h : IsS116 w0 W g f0 f1) (hb2 : W.heap[a]? = some (.cells cs t fr)) (ht : t ≠ 116) : g ≠ a := by
  obtain ⟨A1, c1, hb, hg, hr1⟩ := h
  rintro rfl
  rw [hb] at hb2
  injection hb2 with hb2
  injection hb2 with _ ht2
  exact ht ht2.symm
theorem IsS116.far {w0 W : World} {g : Nat} {f0 : Bool} {f1 : List Int} {p : Addr} (h : IsS116 w0 W g f0 f1) (hne : g ≠ p.block) (u : Value) : IsS116 w0 (W.setCell p u) g f0 f1 := by
  obtain ⟨A1, c1, hb, hg, hr1⟩ := h
  exact ⟨A1, c1, blk_far hb hne u, hg, hr1⟩
theorem cellS116_0 {W : World} {g : Nat} {A1 : Option Addr} {c1 : Nat} {f0 : Bool} {f1 : List Int} (h : W.heap[g]? = some (.cells #[.bool f0, .slice A1 f1.length c1] 116 (0, 0))) : W.cell? ⟨g, 0, none⟩ = some (.bool f0) := (blk_cell h 0).trans rfl
theorem IsS116.set_0 {w0 W : World} {g : Nat} {f0 : Bool} {f1 : List Int} (h : IsS116 w0 W g f0 f1) (x : Bool) : IsS116 w0 (W.setCell ⟨g, 0, none⟩ (.bool x)) g x f1 := by
  obtain ⟨A1, c1, hb, hg, hr1⟩ := h
  exact ⟨A1, c1, by simpa using blk_set hb 0 (.bool x), hg, hr1⟩
theorem cellS116_1 {W : World} {g : Nat} {A1 : Option Addr} {c1 : Nat} {f0 : Bool} {f1 : List Int} (h : W.heap[g]? = some (.cells #[.bool f0, .slice A1 f1.length c1] 116 (0, 0))) : W.cell? ⟨g, 1, none⟩ = some (.slice A1 f1.length c1) := (blk_cell h 1).trans rfl
theorem IsS116.new (w0 W : World) (A1 : Option Addr) (c1 : Nat) (f0 : Bool) (f1 : List Int) (hB : Below w0.heap.size w0 W) (hr1 : Kd.C (Kd.int .u64) w0 A1 f1.length f1) : IsS116 w0 (W.alloc (.cells #[.bool f0, .slice A1 f1.length c1] 116)) W.heap.size f0 f1 := ⟨A1, c1, by simpa using heap_alloc_new W _, hB.size, hr1⟩
/-! ### bigall_Int_Sign: function 90 -/
def bigall_Int_Sign.f (s0_0 : Bool) (s0_1 : List Int) : Option (Int × Bool) := if (s0_1.length : Int) = 0 then (some (0, s0_0)) else (if s0_0 = true then (some ((-1), s0_0)) else (some (1, s0_0)))
set_option maxHeartbeats 8000000 in
set_option maxRecDepth 100000 in
theorem bigall_Int_Sign.calls (g : Nat) (s0_0 : Bool) (s0_1 : List Int) (r1 : Int) (r2 : Bool) (w0 w : World) (hI : IsS116 w0 w g s0_0 s0_1) (hB : Below w0.heap.size w0 w) (h : bigall_Int_Sign.f s0_0 s0_1 = some (r1, r2)) :
    Calls Tryz.prog 90 #[.pointer (some ⟨g, 0, none⟩)] w fun e w' => e = .returned (.int .i64 r1) ∧ IsS116 w0 w' g r2 s0_1 ∧ Below w0.heap.size w0 w' ∧ KeepBut w w' g none := by
  have HI0 := Aside0.mk hI
  have HK := Aside0.mk (KeepBut.refl w g none)
  have HL := Aside0.mk hB.size
  clear hI
  have HW0 := Aside0.mk hB.size
  have HB := Aside0.mk hB
  clear hB
  have H : (if (s0_1.length : Int) = 0 then (some (0, s0_0)) else (if s0_0 = true then (some ((-1), s0_0)) else (some (1, s0_0)))) = some (r1, r2) := h
  clear h
  by_cases c2 : (s0_1.length : Int) = 0
  · rw [if_pos c2] at H
    have c2b0 : ((s0_1.length : Int) == 0) = true := beq_iff_eq.mpr c2
    have c2b1 : ((s0_1.length : Int) != 0) = false := bne_eq_false_iff_eq.mpr c2
    clear c2
    simp only [Option.some.injEq, Prod.mk.injEq] at H
    obtain ⟨rfl, rfl⟩ := H
    obtain ⟨ASz3_1, cSz3_1, HGz3, hgz3, HSz3_1⟩ := HI0.out
    have hcz3_0 := cellS116_0 HGz3
    have hcz3_1 := cellS116_1 HGz3
    have hfz3_0 := blk_frozen HGz3 0
    clear HGz3 hgz3
    go_enter Tryz.func90, Tryz.ntmps90
    go_wp2
    go_ret
    exact ⟨by first | rfl | (simp [errW_none, errW_some] <;> rfl) | (simp [*, errW_none, errW_some] <;> rfl), by repeat (first | (with_reducible first | exact HI0.out | apply IsS116.alloc | apply IsS116.drewN | apply IsS116.drew | apply IsS116.set_0) | exact HI0.out), by repeat (first | (with_reducible first | exact HB.out | apply below_alloc | apply pw_below_drewN | apply below_drew1 | refine below_set ?_ (IsS116.ge HI0.out)) | exact HB.out), by repeat (first | (with_reducible first | exact HK.out | apply KeepBut.set_ | apply keep_drewN | apply keep_drew | apply keep_alloc) | exact HK.out)⟩
  · rw [if_neg c2] at H
    have c2b0 : ((s0_1.length : Int) == 0) = false := beq_eq_false_iff_ne.mpr c2
    have c2b1 : ((s0_1.length : Int) != 0) = true := bne_iff_ne.mpr c2
    have c2b2 : ¬ (s0_1 = []) := fun h_ => c2 (by rw [h_]; rfl)
    by_cases c4 : s0_0 = true
    · subst c4
      have H1 : (some ((-1), true)) = some (r1, r2) := by rw [if_pos rfl] at H; exact H
      clear H
      have H := H1
      clear H1
      simp only [Option.some.injEq, Prod.mk.injEq] at H
      obtain ⟨rfl, rfl⟩ := H
      obtain ⟨ASz5_1, cSz5_1, HGz5, hgz5, HSz5_1⟩ := HI0.out
      have hcz5_0 := cellS116_0 HGz5
      have hcz5_1 := cellS116_1 HGz5
      have hfz5_0 := blk_frozen HGz5 0
      clear HGz5 hgz5
      go_enter Tryz.func90, Tryz.ntmps90
      go_wp2
      go_ret
      exact ⟨by first | rfl | (simp [errW_none, errW_some] <;> rfl) | (simp [*, errW_none, errW_some] <;> rfl), by repeat (first | (with_reducible first | exact HI0.out | apply IsS116.alloc | apply IsS116.drewN | apply IsS116.drew | apply IsS116.set_0) | exact HI0.out), by repeat (first | (with_reducible first | exact HB.out | apply below_alloc | apply pw_below_drewN | apply below_drew1 | refine below_set ?_ (IsS116.ge HI0.out)) | exact HB.out), by repeat (first | (with_reducible first | exact HK.out | apply KeepBut.set_ | apply keep_drewN | apply keep_drew | apply keep_alloc) | exact HK.out)⟩
    · replace c4 := Bool.eq_false_iff.mpr c4
      subst c4
      have H1 : (some (1, false)) = some (r1, r2) := by rw [if_neg (show ¬ (false = true) by decide)] at H; exact H
      clear H
      have H := H1
      clear H1
      simp only [Option.some.injEq, Prod.mk.injEq] at H
      obtain ⟨rfl, rfl⟩ := H
      obtain ⟨ASz6_1, cSz6_1, HGz6, hgz6, HSz6_1⟩ := HI0.out
      have hcz6_0 := cellS116_0 HGz6
      have hcz6_1 := cellS116_1 HGz6
      have hfz6_0 := blk_frozen HGz6 0
      clear HGz6 hgz6
      go_enter Tryz.func90, Tryz.ntmps90
      go_wp2
      go_ret
      exact ⟨by first | rfl | (simp [errW_none, errW_some] <;> rfl) | (simp [*, errW_none, errW_some] <;> rfl), by repeat (first | (with_reducible first | exact HI0.out | apply IsS116.alloc | apply IsS116.drewN | apply IsS116.drew | apply IsS116.set_0) | exact HI0.out), by repeat (first | (with_reducible first | exact HB.out | apply below_alloc | apply pw_below_drewN | apply below_drew1 | refine below_set ?_ (IsS116.ge HI0.out)) | exact HB.out), by repeat (first | (with_reducible first | exact HK.out | apply KeepBut.set_ | apply keep_drewN | apply keep_drew | apply keep_alloc) | exact HK.out)⟩

-- NOT PRINTED: function 58 (impl_number)

-- NOT PRINTED: function 130 (bigall_nat_make)

-- NOT PRINTED: function 117 (bigall_nat_setWord)

-- NOT PRINTED: function 91 (bigall_nat_setUint64)

-- NOT PRINTED: function 59 (bigall_Int_SetInt64)

-- NOT PRINTED: function 60 (bigall_Rat_Num)

-- NOT PRINTED: function 62 (bigall_Rat_Denom)

-- NOT PRINTED: function 94 (bigall_nat_set)

-- NOT PRINTED: function 131 (bigall_same)

-- NOT PRINTED: function 132 (bigall_alias)

-- NOT PRINTED: function 181 (bigall_lshVU_g)

-- NOT PRINTED: function 133 (bigall_lshVU)

-- NOT PRINTED: function 134 (bigall_nat_norm)

-- NOT PRINTED: function 93 (bigall_nat_lsh)

-- NOT PRINTED: function 113 (bigall_getStack)

-- NOT PRINTED: function 154 (bigall_stackInner_free)

-- NOT PRINTED: function 114 (bigall_stack_free)

-- NOT PRINTED: function 135 (bigall_NewInt)

-- NOT PRINTED: function 189 (bigall_Int_Set)

-- NOT PRINTED: function 182 (bigall_Int_Abs)
end Go.Proofs.YtgpoplfgngiilaaGreatDoor.PAll
