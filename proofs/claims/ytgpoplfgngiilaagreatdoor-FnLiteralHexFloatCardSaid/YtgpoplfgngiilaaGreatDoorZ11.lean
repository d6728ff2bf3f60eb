/- Int's QuoRem by one word; euclidUpdate. -/
import Derived.Test.YtgpoplfgngiilaaGreatDoorZ10
import Derived.Deep.Cut
import Derived.Deep.CutRange
import Derived.Deep.DeepCutAuto
set_option linter.unusedVariables false
set_option linter.unusedSimpArgs false
namespace Go.Proofs.YtgpoplfgngiilaaGreatDoor
open Go.RowKit Go.Proofs.YtgpoplfgngiilaaGreatDoorW.PrintWords PAll Pl Dv

/-- An Int's block, not below 0. -/
def Ik (w : World) (g : Nat) (v : Value) : Prop := w.heap[g]? = some (.cells #[.bool false, v] 116 (0, 0))
theorem Ik.below {w w1 : World} {g : Nat} {v : Value} {base : Nat} (h : Ik w g v) (hb : Below base w w1) (hg : g < base) : Ik w1 g v := (hb.block g hg).trans h

/-- What QuoRem leaves in q and r. -/
def QrOk (Z y gq gr base : Nat) (w : World) (e : Ending) (w' : World) : Prop :=
  ∃ q r, e = .returned (.tuple #[.pointer (some ⟨gq, 0, none⟩), .pointer (some ⟨gr, 0, none⟩)]) ∧ Ik w' gq q ∧ Ik w' gr r ∧ Nt w' w.heap.size q (figs 18446744073709551616 (Z / y)) ∧ Nt w' w.heap.size r (figs 18446744073709551616 (Z % y)) ∧ Below base w w'

/-- Between QuoRem's two statements. -/
def QrC (Z y ga gb gq gr base : Nat) (va : Value) (gv cv : Nat) (w : World) (v0 : Value) (W : World) : Prop :=
  v0 = .pointer (some ⟨gq, 0, none⟩) ∧ ∃ qA ql qc rA rl rc, Ik W ga va ∧ Ik W gb (.slice (some ⟨gv, 0, none⟩) 1 cv) ∧ Ik W gq (.slice qA ql qc) ∧ Ik W gr (.slice rA rl rc) ∧ ql = (figs 18446744073709551616 (Z / y)).length ∧
    Nt W w.heap.size (.slice qA ql qc) (figs 18446744073709551616 (Z / y)) ∧ Nt W w.heap.size (.slice rA rl rc) (figs 18446744073709551616 (Z % y)) ∧ Below base w W

set_option maxHeartbeats 8000000 in
set_option maxRecDepth 100000 in
theorem quoRem_any (Z y ga gb gq gr base : Nat) (va : Value) (gv cv : Nat) (w : World) (ha : Ik w ga va) (hb : Ik w gb (.slice (some ⟨gv, 0, none⟩) 1 cv)) (hq : Ik w gq (.slice none 0 0)) (hr : Ik w gr (.slice none 0 0))
    (hzy : 0 < Z / y) (hne : gq ≠ gr ∧ ga ≠ gq ∧ ga ≠ gr ∧ gb ≠ gq ∧ gb ≠ gr) (hbase : base ≤ gq ∧ base ≤ gr)
    (hD : ∀ W : World, Below w.heap.size w W → W.heap.size = w.heap.size → Calls Tryz.prog 139 #[.slice none 0 0, .pointer none, .slice none 0 0, va, .slice (some ⟨gv, 0, none⟩) 1 cv] W (DivOk w.heap.size Z y W)) :
    Calls Tryz.prog 235 #[.pointer (some ⟨gq, 0, none⟩), .pointer (some ⟨ga, 0, none⟩), .pointer (some ⟨gb, 0, none⟩), .pointer (some ⟨gr, 0, none⟩)] w (QrOk Z y gq gr base w) := by
  have a0 : w.cell? ⟨ga, 0, none⟩ = some (.bool false) := blk_cell ha 0
  have a1 : w.cell? ⟨ga, 1, none⟩ = some va := blk_cell ha 1
  have b0 : w.cell? ⟨gb, 0, none⟩ = some (.bool false) := blk_cell hb 0
  have b1 : w.cell? ⟨gb, 1, none⟩ = some (.slice (some ⟨gv, 0, none⟩) 1 cv) := blk_cell hb 1
  have q1 : w.cell? ⟨gq, 1, none⟩ = some (.slice none 0 0) := blk_cell hq 1
  have r1 : w.cell? ⟨gr, 1, none⟩ = some (.slice none 0 0) := blk_cell hr 1
  have HD := Lib.hid hD
  have HA := Aside0.mk ha
  have HB := Aside0.mk hb
  have HQ := Aside0.mk hq
  have HR := Aside0.mk hr
  have HNE := Aside0.mk hne
  have HZY := Aside0.mk hzy
  have HBA := Aside0.mk hbase
  have q1 := q1
  clear ha hb hq hr hD hne hbase hzy a0 b0
  go_enter Tryz.func235, Tryz.ntmps235
  go_upto_region 1 with (fail)
  go_cut [0] (fun v0 W => QrC Z y ga gb gq gr base va gv cv w v0 W)
  case first =>
    go_wp2_with fail
    refine wp_region_noPanic ?_
    refine wp_region_held_drew (S := (fun w' => w'.cell? ⟨ga, 1, none⟩ = some va ∧ w'.cell? ⟨gb, 1, none⟩ = some (.slice (some ⟨gv, 0, none⟩) 1 cv))) (by kernel_rfl) ?_ (fun hHeld => ?_)
    · (try dsimp only); exact ⟨a1, b1⟩
    refine wpAnyH_take (i := 0) (v := ?_) rfl (by kernel_rfl) (by kernel_rfl) (by kernel_rfl) (fun _ _ _ h => h) (Or.inl ⟨by rfl, ?_⟩) (by assumption) ?_
    rotate_left
    · intro w hSw; (try dsimp only at hSw); go_simp; first | done | with_reducible rfl
    try simp only [Act.put, List.setIfInBounds_toArray, List.set_cons_zero, List.set_cons_succ]
    refine wpAnyH_take (i := 1) (v := ?_) rfl (by kernel_rfl) (by kernel_rfl) (by kernel_rfl) (fun _ _ _ h => h) (Or.inl ⟨by rfl, ?_⟩) (by assumption) ?_
    rotate_left
    · intro w hSw; (try dsimp only at hSw); go_simp; first | done | with_reducible rfl
    try simp only [Act.put, List.setIfInBounds_toArray, List.set_cons_zero, List.set_cons_succ]
    refine wpAnyH_take (i := 2) (v := ?_) rfl (by kernel_rfl) (by kernel_rfl) (by kernel_rfl) (fun _ _ _ h => h) (Or.inl ⟨by rfl, ?_⟩) (by assumption) ?_
    rotate_left
    · intro w hSw; (try dsimp only at hSw); go_simp; first | done | with_reducible rfl
    try simp only [Act.put, List.setIfInBounds_toArray, List.set_cons_zero, List.set_cons_succ]
    refine wpAnyH_take (i := 3) (v := ?_) rfl (by kernel_rfl) (by kernel_rfl) (by kernel_rfl) (fun _ _ _ h => h) (Or.inl ⟨by rfl, ?_⟩) (by assumption) ?_
    rotate_left
    · intro w hSw; (try dsimp only at hSw); go_simp; first | done | with_reducible rfl
    try simp only [Act.put, List.setIfInBounds_toArray, List.set_cons_zero, List.set_cons_succ]
    refine wpAnyH_take (i := 4) (v := ?_) rfl (by kernel_rfl) (by kernel_rfl) (by kernel_rfl) (fun _ _ _ h => h) (Or.inl ⟨by rfl, ?_⟩) (by assumption) ?_
    rotate_left
    · intro w hSw; (try dsimp only at hSw); go_simp; first | done | with_reducible rfl
    try simp only [Act.put, List.setIfInBounds_toArray, List.set_cons_zero, List.set_cons_succ]
    refine wpAnyH_take (i := 6) (v := ?_) rfl (by kernel_rfl) (by kernel_rfl) (by kernel_rfl) (fun _ _ _ h => h) (Or.inl ⟨by rfl, ?_⟩) (by assumption) ?_
    rotate_left
    · intro w hSw; (try dsimp only at hSw); go_simp; first | done | with_reducible rfl
    try simp only [Act.put, List.setIfInBounds_toArray, List.set_cons_zero, List.set_cons_succ]
    refine wpAnyH_take (i := 7) (v := ?_) rfl (by kernel_rfl) (by kernel_rfl) (by kernel_rfl) (fun _ _ _ h => h) (Or.inl ⟨by rfl, ?_⟩) (by assumption) ?_
    rotate_left
    · intro w hSw; (try dsimp only at hSw); go_simp; first | done | with_reducible rfl
    try simp only [Act.put, List.setIfInBounds_toArray, List.set_cons_zero, List.set_cons_succ]
    refine wpAnyH_take (i := 8) (v := ?_) rfl (by kernel_rfl) (by kernel_rfl) (by kernel_rfl) (fun _ _ _ h => h) (Or.inl ⟨by rfl, ?_⟩) (by assumption) ?_
    rotate_left
    · intro w hSw; (try dsimp only at hSw); go_simp; first | done | with_reducible rfl
    try simp only [Act.put, List.setIfInBounds_toArray, List.set_cons_zero, List.set_cons_succ]
    refine wpAnyH_take (i := 10) (v := ?_) rfl (by kernel_rfl) (by kernel_rfl) (by kernel_rfl) (fun _ _ _ h => h) (Or.inl ⟨by rfl, ?_⟩) (by assumption) ?_
    rotate_left
    · intro w hSw; (try dsimp only at hSw); go_simp; first | done | with_reducible rfl
    try simp only [Act.put, List.setIfInBounds_toArray, List.set_cons_zero, List.set_cons_succ]
    refine wpAnyH_take (i := 11) (v := ?_) rfl (by kernel_rfl) (by kernel_rfl) (by kernel_rfl) (fun _ _ _ h => h) (Or.inl ⟨by rfl, ?_⟩) (by assumption) ?_
    rotate_left
    · intro w hSw; (try dsimp only at hSw); go_simp; first | done | with_reducible rfl
    try simp only [Act.put, List.setIfInBounds_toArray, List.set_cons_zero, List.set_cons_succ]
    refine wpAnyH_take (i := 12) (v := ?_) rfl (by kernel_rfl) (by kernel_rfl) (by kernel_rfl) (fun _ _ _ h => h) (Or.inl ⟨by rfl, ?_⟩) (by assumption) ?_
    rotate_left
    · intro w hSw; (try dsimp only at hSw); go_simp; first | done | with_reducible rfl
    try simp only [Act.put, List.setIfInBounds_toArray, List.set_cons_zero, List.set_cons_succ]
    refine wpAnyH_take (i := 13) (v := ?_) rfl (by kernel_rfl) (by kernel_rfl) (by kernel_rfl) (fun _ _ _ h => h) (Or.inl ⟨by rfl, ?_⟩) (by assumption) ?_
    rotate_left
    · intro w hSw; (try dsimp only at hSw); go_simp; first | done | with_reducible rfl
    try simp only [Act.put, List.setIfInBounds_toArray, List.set_cons_zero, List.set_cons_succ]
    refine wpAnyH_take (i := 14) (v := ?_) rfl (by kernel_rfl) (by kernel_rfl) (by kernel_rfl) (fun _ _ _ h => h) (Or.inl ⟨by rfl, ?_⟩) (by assumption) ?_
    rotate_left
    · intro w hSw; (try dsimp only at hSw); go_simp; first | done | with_reducible rfl
    try simp only [Act.put, List.setIfInBounds_toArray, List.set_cons_zero, List.set_cons_succ]
    refine wpAnyH_take (i := 15) (v := ?_) rfl (by kernel_rfl) (by kernel_rfl) (by kernel_rfl) (fun _ _ _ h => h) (Or.inl ⟨by rfl, ?_⟩) (by assumption) ?_
    rotate_left
    · intro w hSw; (try dsimp only at hSw); go_simp; first | done | with_reducible rfl
    try simp only [Act.put, List.setIfInBounds_toArray, List.set_cons_zero, List.set_cons_succ]
    refine wpAnyH_take (i := 16) (v := ?_) rfl (by kernel_rfl) (by kernel_rfl) (by kernel_rfl) (fun _ _ _ h => h) (Or.inl ⟨by rfl, ?_⟩) (by assumption) ?_
    rotate_left
    · intro w hSw; (try dsimp only at hSw); go_simp; first | done | with_reducible rfl
    try simp only [Act.put, List.setIfInBounds_toArray, List.set_cons_zero, List.set_cons_succ]
    refine wpAnyH_take (i := 17) (v := ?_) rfl (by kernel_rfl) (by kernel_rfl) (by kernel_rfl) (fun _ _ _ h => h) (Or.inl ⟨by rfl, ?_⟩) (by assumption) ?_
    rotate_left
    · intro w hSw; (try dsimp only at hSw); go_simp; first | done | with_reducible rfl
    try simp only [Act.put, List.setIfInBounds_toArray, List.set_cons_zero, List.set_cons_succ]
    refine wpAnyH_ready (rs := [5, 9]) (by kernel_rfl) (by simp) ?_
    refine AllReadyH.cons rfl (fun K hK => ?_) (AllReadyH.cons rfl (fun K hK => ?_) AllReadyH.nil)
    · go_simp
      refine hK.out _ _ ?_ (fun hQ0 => ?_)
      · (try dsimp only); assumption
      clear hK K hHeld
      try simp only [Act.put, List.setIfInBounds_toArray, List.set_cons_zero, List.set_cons_succ]
      refine wpAnyH_ready (rs := [9]) (by kernel_rfl) (by simp) ?_
      refine AllReadyH.cons rfl (fun K hK => ?_) AllReadyH.nil
      go_simp
      refine hK.out _ _ ?_ (fun hQ00 => ?_)
      · (try dsimp only); assumption
      clear hK K hQ0
      try simp only [Act.put, List.setIfInBounds_toArray, List.set_cons_zero, List.set_cons_succ]
      refine wpAnyH_ready (rs := [18]) (by kernel_rfl) (by simp) ?_
      refine AllReadyH.cons rfl (fun K hK => ?_) AllReadyH.nil
      go_simp
      refine (HD.out w.drew (below_drew (Below.refl _ _)) rfl).mono ?_
      rintro e w1 ⟨q, r, rfl, hq, hr, hb⟩
      obtain ⟨qA, qc, rfl⟩ := Nt_slice hq
      obtain ⟨rA, rc, rfl⟩ := Nt_slice hr
      obtain ⟨ql, hql⟩ : ∃ k, k = (figs 18446744073709551616 (Z / y)).length := ⟨_, rfl⟩
      obtain ⟨rl, hrl⟩ : ∃ k, k = (figs 18446744073709551616 (Z % y)).length := ⟨_, rfl⟩
      rw [← hql] at hq ⊢
      rw [← hrl] at hr ⊢
      have HQV := Aside0.mk hq
      have HRV := Aside0.mk hr
      have HB1 := Aside0.mk hb
      have HQL := Aside0.mk hql
      have HQ1 := Aside0.mk (HQ.out.below (show Below w.heap.size w w1 from (below_drew (Below.refl _ _)).trans hb) (blk_lt HQ.out))
      have HR1 := Aside0.mk (HR.out.below (show Below w.heap.size w w1 from (below_drew (Below.refl _ _)).trans hb) (blk_lt HR.out))
      have HA1 := Aside0.mk (HA.out.below (show Below w.heap.size w w1 from (below_drew (Below.refl _ _)).trans hb) (blk_lt HA.out))
      have HBB1 := Aside0.mk (HB.out.below (show Below w.heap.size w w1 from (below_drew (Below.refl _ _)).trans hb) (blk_lt HB.out))
      have q1w : w1.cell? ⟨gq, 1, none⟩ = some (.slice none 0 0) := blk_cell HQ1.out 1
      have q1f : w1.frozen? ⟨gq, 1, none⟩ = false := blk_frozen HQ1.out 1
      have r1w : w1.cell? ⟨gr, 1, none⟩ = some (.slice none 0 0) := blk_cell HR1.out 1
      have a1w : w1.cell? ⟨ga, 1, none⟩ = some va := blk_cell HA1.out 1
      have b1w : w1.cell? ⟨gb, 1, none⟩ = some (.slice (some ⟨gv, 0, none⟩) 1 cv) := blk_cell HBB1.out 1
      clear hq hr hb hql hrl
      go_wp2_with fail
      refine hK.out _ _ ?_ (fun hQ1 => ?_)
      · (try dsimp only); exact ⟨a1w, b1w⟩
      clear hK K hQ00
      try simp only [Act.put, List.setIfInBounds_toArray, List.set_cons_zero, List.set_cons_succ]
      refine wpAnyH_take (i := 19) (v := ?_) rfl (by kernel_rfl) (by kernel_rfl) (by kernel_rfl) (fun _ _ _ h => h) (Or.inl ⟨by rfl, ?_⟩) (by assumption) ?_
      rotate_left
      · intro w hSw; (try dsimp only at hSw); go_simp; first | done | with_reducible rfl
      try simp only [Act.put, List.setIfInBounds_toArray, List.set_cons_zero, List.set_cons_succ]
      refine wpAnyH_take (i := 20) (v := ?_) rfl (by kernel_rfl) (by kernel_rfl) (by kernel_rfl) (fun _ _ _ h => h) (Or.inl ⟨by rfl, ?_⟩) (by assumption) ?_
      rotate_left
      · intro w hSw; (try dsimp only at hSw); go_simp; first | done | with_reducible rfl
      try simp only [Act.put, List.setIfInBounds_toArray, List.set_cons_zero, List.set_cons_succ]
      refine wpAnyH_take (i := 21) (v := ?_) rfl (by kernel_rfl) (by kernel_rfl) (by kernel_rfl) (fun _ _ _ h => h) (Or.inl ⟨by rfl, ?_⟩) (by assumption) ?_
      rotate_left
      · intro w hSw; (try dsimp only at hSw); go_simp; first | done | with_reducible rfl
      try simp only [Act.put, List.setIfInBounds_toArray, List.set_cons_zero, List.set_cons_succ]
      refine wpAnyH_take (i := 22) (v := ?_) rfl (by kernel_rfl) (by kernel_rfl) (by kernel_rfl) (fun _ _ _ h => h) (Or.inl ⟨by rfl, ?_⟩) (by assumption) ?_
      rotate_left
      · intro w hSw; (try dsimp only at hSw); go_simp; first | done | with_reducible rfl
      try simp only [Act.put, List.setIfInBounds_toArray, List.set_cons_zero, List.set_cons_succ]
      refine wpAnyH_take (i := 23) (v := ?_) rfl (by kernel_rfl) (by kernel_rfl) (by kernel_rfl) (fun _ _ _ h => h) (Or.inl ⟨by rfl, ?_⟩) (by assumption) ?_
      rotate_left
      · intro w hSw; (try dsimp only at hSw); go_simp; first | done | with_reducible rfl
      try simp only [Act.put, List.setIfInBounds_toArray, List.set_cons_zero, List.set_cons_succ]
      refine wpAnyH_ready (rs := [24]) (by kernel_rfl) (by simp) ?_
      refine AllReadyH.cons rfl (fun K hK => ?_) AllReadyH.nil
      go_simp
      refine hK.out _ _ ?_ (fun hQ2 => ?_)
      · (try dsimp only); exact ⟨(World.cell?_of_block (Below.heap_setCell w1 ⟨gq, 1, none⟩ _ _ HNE.out.2.1)).trans a1w, (World.cell?_of_block (Below.heap_setCell w1 ⟨gq, 1, none⟩ _ _ HNE.out.2.2.2.1)).trans b1w⟩
      clear hK K hQ1
      try simp only [Act.put, List.setIfInBounds_toArray, List.set_cons_zero, List.set_cons_succ]
      refine wpAnyH_take (i := 25) (v := ?_) rfl (by kernel_rfl) (by kernel_rfl) (by kernel_rfl) (fun _ _ _ h => h) (Or.inl ⟨by rfl, ?_⟩) (by assumption) ?_
      rotate_left
      · intro w hSw; (try dsimp only at hSw); go_simp; first | done | with_reducible rfl
      try simp only [Act.put, List.setIfInBounds_toArray, List.set_cons_zero, List.set_cons_succ]
      refine wpAnyH_take (i := 26) (v := ?_) rfl (by kernel_rfl) (by kernel_rfl) (by kernel_rfl) (fun _ _ _ h => h) (Or.inl ⟨by rfl, ?_⟩) (by assumption) ?_
      rotate_left
      · intro w hSw; (try dsimp only at hSw); go_simp; first | done | with_reducible rfl
      try simp only [Act.put, List.setIfInBounds_toArray, List.set_cons_zero, List.set_cons_succ]
      have HR2 := Aside0.mk (show Ik (w1.setCell ⟨gq, 1, none⟩ (.slice qA ql qc)) gr (.slice none 0 0) from blk_far HR1.out (fun h => HNE.out.1 h.symm) _)
      have r1f : (w1.setCell ⟨gq, 1, none⟩ (.slice qA ql qc)).frozen? ⟨gr, 1, none⟩ = false := blk_frozen HR2.out 1
      have r1w2 : (w1.setCell ⟨gq, 1, none⟩ (.slice qA ql qc)).cell? ⟨gr, 1, none⟩ = some (.slice none 0 0) := blk_cell HR2.out 1
      have HA3 := Aside0.mk (show Ik ((w1.setCell ⟨gq, 1, none⟩ (.slice qA ql qc)).setCell ⟨gr, 1, none⟩ (.slice rA rl rc)) ga va from blk_far (blk_far HA1.out HNE.out.2.1 _) HNE.out.2.2.1 _)
      have HB3 := Aside0.mk (show Ik ((w1.setCell ⟨gq, 1, none⟩ (.slice qA ql qc)).setCell ⟨gr, 1, none⟩ (.slice rA rl rc)) gb (.slice (some ⟨gv, 0, none⟩) 1 cv) from blk_far (blk_far HBB1.out HNE.out.2.2.2.1 _) HNE.out.2.2.2.2 _)
      refine wpAnyH_ready (rs := [27]) (by kernel_rfl) (by simp) ?_
      refine AllReadyH.cons rfl (fun K hK => ?_) AllReadyH.nil
      go_simp
      refine hK.out _ _ ?_ (fun hQ3 => ?_)
      · (try dsimp only); exact ⟨blk_cell HA3.out 1, blk_cell HB3.out 1⟩
      clear hK K hQ2
      try simp only [Act.put, List.setIfInBounds_toArray, List.set_cons_zero, List.set_cons_succ]
      refine wpAnyH_done (by kernel_rfl) ?_ _
      refine NoPanic.normal ?_
      have HQ3 := Aside0.mk (show Ik ((w1.setCell ⟨gq, 1, none⟩ (.slice qA ql qc)).setCell ⟨gr, 1, none⟩ (.slice rA rl rc)) gq (.slice qA ql qc) from blk_far (blk_put HQ1.out 1 (.slice qA ql qc) rfl) HNE.out.1 _)
      have HR3 := Aside0.mk (show Ik ((w1.setCell ⟨gq, 1, none⟩ (.slice qA ql qc)).setCell ⟨gr, 1, none⟩ (.slice rA rl rc)) gr (.slice rA rl rc) from blk_put HR2.out 1 (.slice rA rl rc) rfl)
      go_wp2_with fail
      go_meet
      have h1 := blk_lt HQ.out; have h2 := blk_lt HR.out
      refine ⟨rfl, qA, ql, qc, rA, rl, rc, HA3.out, HB3.out, HQ3.out, HR3.out, HQL.out, ?_, ?_, ?_⟩
      · exact Nt_far (p := ⟨gr, 1, none⟩) (Nt_far (p := ⟨gq, 1, none⟩) HQV.out h1 _) h2 _
      · exact Nt_far (p := ⟨gr, 1, none⟩) (Nt_far (p := ⟨gq, 1, none⟩) HRV.out h1 _) h2 _
      · exact ((((below_drew (Below.refl w.heap.size w)).trans HB1.out).mono (by have := HBA.out.1; omega)).setCell (by simpa using HBA.out.1) _).setCell (by simpa using HBA.out.2) _
    · go_simp
      refine hK.out _ _ ?_ (fun hQ0 => ?_)
      · (try dsimp only); assumption
      clear hK K hHeld
      try simp only [Act.put, List.setIfInBounds_toArray, List.set_cons_zero, List.set_cons_succ]
      refine wpAnyH_ready (rs := [5]) (by kernel_rfl) (by simp) ?_
      refine AllReadyH.cons rfl (fun K hK => ?_) AllReadyH.nil
      go_simp
      refine hK.out _ _ ?_ (fun hQ00 => ?_)
      · (try dsimp only); assumption
      clear hK K hQ0
      try simp only [Act.put, List.setIfInBounds_toArray, List.set_cons_zero, List.set_cons_succ]
      refine wpAnyH_ready (rs := [18]) (by kernel_rfl) (by simp) ?_
      refine AllReadyH.cons rfl (fun K hK => ?_) AllReadyH.nil
      go_simp
      refine (HD.out w.drew (below_drew (Below.refl _ _)) rfl).mono ?_
      rintro e w1 ⟨q, r, rfl, hq, hr, hb⟩
      obtain ⟨qA, qc, rfl⟩ := Nt_slice hq
      obtain ⟨rA, rc, rfl⟩ := Nt_slice hr
      obtain ⟨ql, hql⟩ : ∃ k, k = (figs 18446744073709551616 (Z / y)).length := ⟨_, rfl⟩
      obtain ⟨rl, hrl⟩ : ∃ k, k = (figs 18446744073709551616 (Z % y)).length := ⟨_, rfl⟩
      rw [← hql] at hq ⊢
      rw [← hrl] at hr ⊢
      have HQV := Aside0.mk hq
      have HRV := Aside0.mk hr
      have HB1 := Aside0.mk hb
      have HQL := Aside0.mk hql
      have HQ1 := Aside0.mk (HQ.out.below (show Below w.heap.size w w1 from (below_drew (Below.refl _ _)).trans hb) (blk_lt HQ.out))
      have HR1 := Aside0.mk (HR.out.below (show Below w.heap.size w w1 from (below_drew (Below.refl _ _)).trans hb) (blk_lt HR.out))
      have HA1 := Aside0.mk (HA.out.below (show Below w.heap.size w w1 from (below_drew (Below.refl _ _)).trans hb) (blk_lt HA.out))
      have HBB1 := Aside0.mk (HB.out.below (show Below w.heap.size w w1 from (below_drew (Below.refl _ _)).trans hb) (blk_lt HB.out))
      have q1w : w1.cell? ⟨gq, 1, none⟩ = some (.slice none 0 0) := blk_cell HQ1.out 1
      have q1f : w1.frozen? ⟨gq, 1, none⟩ = false := blk_frozen HQ1.out 1
      have r1w : w1.cell? ⟨gr, 1, none⟩ = some (.slice none 0 0) := blk_cell HR1.out 1
      have a1w : w1.cell? ⟨ga, 1, none⟩ = some va := blk_cell HA1.out 1
      have b1w : w1.cell? ⟨gb, 1, none⟩ = some (.slice (some ⟨gv, 0, none⟩) 1 cv) := blk_cell HBB1.out 1
      clear hq hr hb hql hrl
      go_wp2_with fail
      refine hK.out _ _ ?_ (fun hQ4 => ?_)
      · (try dsimp only); exact ⟨a1w, b1w⟩
      clear hK K hQ00
      try simp only [Act.put, List.setIfInBounds_toArray, List.set_cons_zero, List.set_cons_succ]
      refine wpAnyH_take (i := 19) (v := ?_) rfl (by kernel_rfl) (by kernel_rfl) (by kernel_rfl) (fun _ _ _ h => h) (Or.inl ⟨by rfl, ?_⟩) (by assumption) ?_
      rotate_left
      · intro w hSw; (try dsimp only at hSw); go_simp; first | done | with_reducible rfl
      try simp only [Act.put, List.setIfInBounds_toArray, List.set_cons_zero, List.set_cons_succ]
      refine wpAnyH_take (i := 20) (v := ?_) rfl (by kernel_rfl) (by kernel_rfl) (by kernel_rfl) (fun _ _ _ h => h) (Or.inl ⟨by rfl, ?_⟩) (by assumption) ?_
      rotate_left
      · intro w hSw; (try dsimp only at hSw); go_simp; first | done | with_reducible rfl
      try simp only [Act.put, List.setIfInBounds_toArray, List.set_cons_zero, List.set_cons_succ]
      refine wpAnyH_take (i := 21) (v := ?_) rfl (by kernel_rfl) (by kernel_rfl) (by kernel_rfl) (fun _ _ _ h => h) (Or.inl ⟨by rfl, ?_⟩) (by assumption) ?_
      rotate_left
      · intro w hSw; (try dsimp only at hSw); go_simp; first | done | with_reducible rfl
      try simp only [Act.put, List.setIfInBounds_toArray, List.set_cons_zero, List.set_cons_succ]
      refine wpAnyH_take (i := 22) (v := ?_) rfl (by kernel_rfl) (by kernel_rfl) (by kernel_rfl) (fun _ _ _ h => h) (Or.inl ⟨by rfl, ?_⟩) (by assumption) ?_
      rotate_left
      · intro w hSw; (try dsimp only at hSw); go_simp; first | done | with_reducible rfl
      try simp only [Act.put, List.setIfInBounds_toArray, List.set_cons_zero, List.set_cons_succ]
      refine wpAnyH_take (i := 23) (v := ?_) rfl (by kernel_rfl) (by kernel_rfl) (by kernel_rfl) (fun _ _ _ h => h) (Or.inl ⟨by rfl, ?_⟩) (by assumption) ?_
      rotate_left
      · intro w hSw; (try dsimp only at hSw); go_simp; first | done | with_reducible rfl
      try simp only [Act.put, List.setIfInBounds_toArray, List.set_cons_zero, List.set_cons_succ]
      refine wpAnyH_ready (rs := [24]) (by kernel_rfl) (by simp) ?_
      refine AllReadyH.cons rfl (fun K hK => ?_) AllReadyH.nil
      go_simp
      refine hK.out _ _ ?_ (fun hQ5 => ?_)
      · (try dsimp only); exact ⟨(World.cell?_of_block (Below.heap_setCell w1 ⟨gq, 1, none⟩ _ _ HNE.out.2.1)).trans a1w, (World.cell?_of_block (Below.heap_setCell w1 ⟨gq, 1, none⟩ _ _ HNE.out.2.2.2.1)).trans b1w⟩
      clear hK K hQ4
      try simp only [Act.put, List.setIfInBounds_toArray, List.set_cons_zero, List.set_cons_succ]
      refine wpAnyH_take (i := 25) (v := ?_) rfl (by kernel_rfl) (by kernel_rfl) (by kernel_rfl) (fun _ _ _ h => h) (Or.inl ⟨by rfl, ?_⟩) (by assumption) ?_
      rotate_left
      · intro w hSw; (try dsimp only at hSw); go_simp; first | done | with_reducible rfl
      try simp only [Act.put, List.setIfInBounds_toArray, List.set_cons_zero, List.set_cons_succ]
      refine wpAnyH_take (i := 26) (v := ?_) rfl (by kernel_rfl) (by kernel_rfl) (by kernel_rfl) (fun _ _ _ h => h) (Or.inl ⟨by rfl, ?_⟩) (by assumption) ?_
      rotate_left
      · intro w hSw; (try dsimp only at hSw); go_simp; first | done | with_reducible rfl
      try simp only [Act.put, List.setIfInBounds_toArray, List.set_cons_zero, List.set_cons_succ]
      have HR2 := Aside0.mk (show Ik (w1.setCell ⟨gq, 1, none⟩ (.slice qA ql qc)) gr (.slice none 0 0) from blk_far HR1.out (fun h => HNE.out.1 h.symm) _)
      have r1f : (w1.setCell ⟨gq, 1, none⟩ (.slice qA ql qc)).frozen? ⟨gr, 1, none⟩ = false := blk_frozen HR2.out 1
      have r1w2 : (w1.setCell ⟨gq, 1, none⟩ (.slice qA ql qc)).cell? ⟨gr, 1, none⟩ = some (.slice none 0 0) := blk_cell HR2.out 1
      have HA3 := Aside0.mk (show Ik ((w1.setCell ⟨gq, 1, none⟩ (.slice qA ql qc)).setCell ⟨gr, 1, none⟩ (.slice rA rl rc)) ga va from blk_far (blk_far HA1.out HNE.out.2.1 _) HNE.out.2.2.1 _)
      have HB3 := Aside0.mk (show Ik ((w1.setCell ⟨gq, 1, none⟩ (.slice qA ql qc)).setCell ⟨gr, 1, none⟩ (.slice rA rl rc)) gb (.slice (some ⟨gv, 0, none⟩) 1 cv) from blk_far (blk_far HBB1.out HNE.out.2.2.2.1 _) HNE.out.2.2.2.2 _)
      refine wpAnyH_ready (rs := [27]) (by kernel_rfl) (by simp) ?_
      refine AllReadyH.cons rfl (fun K hK => ?_) AllReadyH.nil
      go_simp
      refine hK.out _ _ ?_ (fun hQ6 => ?_)
      · (try dsimp only); exact ⟨blk_cell HA3.out 1, blk_cell HB3.out 1⟩
      clear hK K hQ5
      try simp only [Act.put, List.setIfInBounds_toArray, List.set_cons_zero, List.set_cons_succ]
      refine wpAnyH_done (by kernel_rfl) ?_ _
      refine NoPanic.normal ?_
      have HQ3 := Aside0.mk (show Ik ((w1.setCell ⟨gq, 1, none⟩ (.slice qA ql qc)).setCell ⟨gr, 1, none⟩ (.slice rA rl rc)) gq (.slice qA ql qc) from blk_far (blk_put HQ1.out 1 (.slice qA ql qc) rfl) HNE.out.1 _)
      have HR3 := Aside0.mk (show Ik ((w1.setCell ⟨gq, 1, none⟩ (.slice qA ql qc)).setCell ⟨gr, 1, none⟩ (.slice rA rl rc)) gr (.slice rA rl rc) from blk_put HR2.out 1 (.slice rA rl rc) rfl)
      go_wp2_with fail
      go_meet
      have h1 := blk_lt HQ.out; have h2 := blk_lt HR.out
      refine ⟨rfl, qA, ql, qc, rA, rl, rc, HA3.out, HB3.out, HQ3.out, HR3.out, HQL.out, ?_, ?_, ?_⟩
      · exact Nt_far (p := ⟨gr, 1, none⟩) (Nt_far (p := ⟨gq, 1, none⟩) HQV.out h1 _) h2 _
      · exact Nt_far (p := ⟨gr, 1, none⟩) (Nt_far (p := ⟨gq, 1, none⟩) HRV.out h1 _) h2 _
      · exact ((((below_drew (Below.refl w.heap.size w)).trans HB1.out).mono (by have := HBA.out.1; omega)).setCell (by simpa using HBA.out.1) _).setCell (by simpa using HBA.out.2) _
  case rest =>
    obtain ⟨rfl, qA, ql, qc, rA, rl, rc, hA, hB, hQ, hR, hql, hqv, hrv, hbw⟩ := hcut
    have HA3 := Aside0.mk hA
    have HB3 := Aside0.mk hB
    have HQ3 := Aside0.mk hQ
    have HR3 := Aside0.mk hR
    have HQL := Aside0.mk hql
    have HQV := Aside0.mk hqv
    have HRV := Aside0.mk hrv
    have HBW := Aside0.mk hbw
    clear hA hB hQ hR hql hqv hrv hbw a1 b1 q1 r1
    have hql0 : (0 : Int) < ql := by have := HQL.out; have := HZY.out; have := List.length_pos_iff.2 (figs_ne (B := 18446744073709551616) (by decide) HZY.out); omega
    have q0 : wc.cell? ⟨gq, 0, none⟩ = some (.bool false) := blk_cell HQ3.out 0
    have q1 : wc.cell? ⟨gq, 1, none⟩ = some (.slice qA ql qc) := blk_cell HQ3.out 1
    have q0f : wc.frozen? ⟨gq, 0, none⟩ = false := blk_frozen HQ3.out 0
    have r0 : wc.cell? ⟨gr, 0, none⟩ = some (.bool false) := blk_cell HR3.out 0
    have r1 : wc.cell? ⟨gr, 1, none⟩ = some (.slice rA rl rc) := blk_cell HR3.out 1
    have a0 : wc.cell? ⟨ga, 0, none⟩ = some (.bool false) := blk_cell HA3.out 0
    have b0 : wc.cell? ⟨gb, 0, none⟩ = some (.bool false) := blk_cell HB3.out 0
    have hqn : 0 < ql := by omega
    have hqb : decide (0 < ql) = true := decide_eq_true hqn
    rcases Nat.eq_zero_or_pos rl with hrl | hrl
    · have hrb : decide (0 < rl) = false := decide_eq_false (by omega)
      have hrp : ¬ 0 < rl := by omega
      go_wp2_with fail
      refine wp_region_noPanic ?_
      refine wp_region_held_drew (S := (fun w' => w'.cell? ⟨gq, 1, none⟩ = some (.slice qA ql qc) ∧ w'.cell? ⟨gr, 1, none⟩ = some (.slice rA rl rc) ∧ w'.cell? ⟨ga, 0, none⟩ = some (.bool false) ∧ w'.cell? ⟨gb, 0, none⟩ = some (.bool false))) (by kernel_rfl) ?_ (fun hHeld => ?_)
      · (try dsimp only); exact ⟨q1, r1, a0, b0⟩
      refine wpAnyH_take (i := 0) (oi := ⟨some 36, _, _, _, _, _⟩) (v := ?_) rfl (by kernel_rfl) (by kernel_rfl) (by kernel_rfl) (fun _ _ _ h => h) (Or.inl ⟨by rfl, ?_⟩) (by assumption) ?_
      rotate_left
      · intro w hSw; (try dsimp only at hSw); go_simp; first | done | with_reducible rfl
      try simp only [Act.put, List.setIfInBounds_toArray, List.set_cons_zero, List.set_cons_succ]
      refine wpAnyH_take (i := 1) (oi := ⟨some 37, _, _, _, _, _⟩) (v := ?_) rfl (by kernel_rfl) (by kernel_rfl) (by kernel_rfl) (fun _ _ _ h => h) (Or.inl ⟨by rfl, ?_⟩) (by assumption) ?_
      rotate_left
      · intro w hSw; (try dsimp only at hSw); go_simp; first | done | with_reducible rfl
      try simp only [Act.put, List.setIfInBounds_toArray, List.set_cons_zero, List.set_cons_succ]
      refine wpAnyH_take (i := 2) (oi := ⟨some 38, _, _, _, _, _⟩) (v := ?_) rfl (by kernel_rfl) (by kernel_rfl) (by kernel_rfl) (fun _ _ _ h => h) (Or.inl ⟨by rfl, ?_⟩) (by assumption) ?_
      rotate_left
      · intro w hSw; (try dsimp only at hSw); go_simp; first | done | with_reducible rfl
      try simp only [Act.put, List.setIfInBounds_toArray, List.set_cons_zero, List.set_cons_succ]
      refine wpAnyH_take (i := 3) (oi := ⟨some 39, _, _, _, _, _⟩) (v := ?_) rfl (by kernel_rfl) (by kernel_rfl) (by kernel_rfl) (fun _ _ _ h => h) (Or.inl ⟨by rfl, ?_⟩) (by assumption) ?_
      rotate_left
      · intro w hSw; (try dsimp only at hSw); go_simp; first | done | with_reducible rfl
      try simp only [Act.put, List.setIfInBounds_toArray, List.set_cons_zero, List.set_cons_succ]
      refine wpAnyH_take (i := 4) (oi := ⟨some 40, _, _, _, _, _⟩) (v := ?_) rfl (by kernel_rfl) (by kernel_rfl) (by kernel_rfl) (fun _ _ _ h => h) (Or.inl ⟨by rfl, ?_⟩) (by assumption) ?_
      rotate_left
      · intro w hSw; (try dsimp only at hSw); go_simp; first | done | with_reducible rfl
      try simp only [Act.put, List.setIfInBounds_toArray, List.set_cons_zero, List.set_cons_succ]
      refine wpAnyH_take (i := 5) (oi := ⟨some 41, _, _, _, _, _⟩) (v := ?_) rfl (by kernel_rfl) (by kernel_rfl) (by kernel_rfl) (fun _ _ _ h => h) (Or.inl ⟨by rfl, ?_⟩) (by assumption) ?_
      rotate_left
      · intro w hSw; (try dsimp only at hSw); go_simp; first | done | with_reducible rfl
      try simp only [Act.put, List.setIfInBounds_toArray, List.set_cons_zero, List.set_cons_succ]
      refine wpAnyH_take (i := 6) (oi := ⟨some 42, _, _, _, _, _⟩) (v := ?_) rfl (by kernel_rfl) (by kernel_rfl) (by kernel_rfl) (fun _ _ _ h => h) (Or.inl ⟨by rfl, ?_⟩) (by assumption) ?_
      rotate_left
      · intro w hSw; (try dsimp only at hSw); go_simp; first | done | with_reducible rfl
      try simp only [Act.put, List.setIfInBounds_toArray, List.set_cons_zero, List.set_cons_succ]
      refine wpAnyH_take (i := 7) (oi := ⟨some 43, _, _, _, _, _⟩) (v := ?_) rfl (by kernel_rfl) (by kernel_rfl) (by kernel_rfl) (fun _ _ _ h => h) (Or.inl ⟨by rfl, ?_⟩) (by assumption) ?_
      rotate_left
      · intro w hSw; (try dsimp only at hSw); go_simp; first | done | with_reducible rfl
      try simp only [Act.put, List.setIfInBounds_toArray, List.set_cons_zero, List.set_cons_succ]
      refine wpAnyH_take (i := 8) (oi := ⟨some 44, _, _, _, _, _⟩) (v := ?_) rfl (by kernel_rfl) (by kernel_rfl) (by kernel_rfl) (fun _ _ _ h => h) (Or.inl ⟨by rfl, ?_⟩) (by assumption) ?_
      rotate_left
      · intro w hSw; (try dsimp only at hSw); go_simp; first | done | with_reducible rfl
      try simp only [Act.put, List.setIfInBounds_toArray, List.set_cons_zero, List.set_cons_succ]
      refine wpAnyH_take (i := 9) (oi := ⟨some 45, _, _, _, _, _⟩) (v := ?_) rfl (by kernel_rfl) (by kernel_rfl) (by kernel_rfl) (fun _ _ _ h => h) (Or.inl ⟨by rfl, ?_⟩) (by assumption) ?_
      rotate_left
      · intro w hSw; (try dsimp only at hSw); go_simp; first | done | with_reducible rfl
      try simp only [Act.put, List.setIfInBounds_toArray, List.set_cons_zero, List.set_cons_succ]
      refine wpAnyH_take (i := 10) (oi := ⟨some 46, _, _, _, _, _⟩) (v := ?_) rfl (by kernel_rfl) (by kernel_rfl) (by kernel_rfl) (fun _ _ _ h => h) (Or.inl ⟨by rfl, ?_⟩) (by assumption) ?_
      rotate_left
      · intro w hSw; (try dsimp only at hSw); go_simp; first | done | with_reducible rfl
      try simp only [Act.put, List.setIfInBounds_toArray, List.set_cons_zero, List.set_cons_succ]
      refine wpAnyH_take (i := 11) (oi := ⟨some 47, _, _, _, _, _⟩) (v := ?_) rfl (by kernel_rfl) (by kernel_rfl) (by kernel_rfl) (fun _ _ _ h => h) (Or.inl ⟨by rfl, ?_⟩) (by assumption) ?_
      rotate_left
      · intro w hSw; (try dsimp only at hSw); go_simp; first | done | with_reducible rfl
      try simp only [Act.put, List.setIfInBounds_toArray, List.set_cons_zero, List.set_cons_succ]
      refine wpAnyH_take (i := 12) (oi := ⟨some 48, _, _, _, _, _⟩) (v := ?_) rfl (by kernel_rfl) (by kernel_rfl) (by kernel_rfl) (fun _ _ _ h => h) (Or.inl ⟨by rfl, ?_⟩) (by assumption) ?_
      rotate_left
      · intro w hSw; (try dsimp only at hSw); go_simp; first | done | with_reducible rfl
      try simp only [Act.put, List.setIfInBounds_toArray, List.set_cons_zero, List.set_cons_succ]
      refine wpAnyH_take (i := 13) (oi := ⟨some 49, _, _, _, _, _⟩) (v := ?_) rfl (by kernel_rfl) (by kernel_rfl) (by kernel_rfl) (fun _ _ _ h => h) (Or.inl ⟨by rfl, ?_⟩) (by assumption) ?_
      rotate_left
      · intro w hSw; (try dsimp only at hSw); go_simp; first | done | with_reducible rfl
      try simp only [Act.put, List.setIfInBounds_toArray, List.set_cons_zero, List.set_cons_succ]
      refine wpAnyH_take (i := 14) (oi := ⟨some 50, _, _, _, _, _⟩) (v := ?_) rfl (by kernel_rfl) (by kernel_rfl) (by kernel_rfl) (fun _ _ _ h => h) (Or.inl ⟨by rfl, ?_⟩) (by assumption) ?_
      rotate_left
      · intro w hSw; (try dsimp only at hSw); go_simp; first | done | with_reducible rfl
      try simp only [Act.put, List.setIfInBounds_toArray, List.set_cons_zero, List.set_cons_succ]
      refine wpAnyH_take (i := 15) (oi := ⟨some 51, _, _, _, _, _⟩) (v := ?_) rfl (by kernel_rfl) (by kernel_rfl) (by kernel_rfl) (fun _ _ _ h => h) (Or.inl ⟨by rfl, ?_⟩) (by assumption) ?_
      rotate_left
      · intro w hSw; (try dsimp only at hSw); go_simp; first | done | with_reducible rfl
      try simp only [Act.put, List.setIfInBounds_toArray, List.set_cons_zero, List.set_cons_succ]
      refine wpAnyH_take (i := 16) (oi := ⟨some 52, _, _, _, _, _⟩) (v := ?_) rfl (by kernel_rfl) (by kernel_rfl) (by kernel_rfl) (fun _ _ _ h => h) (Or.inl ⟨by rfl, ?_⟩) (by assumption) ?_
      rotate_left
      · intro w hSw; (try dsimp only at hSw); go_simp; first | done | with_reducible rfl
      try simp only [Act.put, List.setIfInBounds_toArray, List.set_cons_zero, List.set_cons_succ]
      refine wpAnyH_take (i := 17) (oi := ⟨some 53, _, _, _, _, _⟩) (v := ?_) rfl (by kernel_rfl) (by kernel_rfl) (by kernel_rfl) (fun _ _ _ h => h) (Or.inl ⟨by rfl, ?_⟩) (by assumption) ?_
      rotate_left
      · intro w hSw; (try dsimp only at hSw); go_simp; first | done | with_reducible rfl
      try simp only [Act.put, List.setIfInBounds_toArray, List.set_cons_zero, List.set_cons_succ]
      refine wpAnyH_take (i := 18) (oi := ⟨some 54, _, _, _, _, _⟩) (v := ?_) rfl (by kernel_rfl) (by kernel_rfl) (by kernel_rfl) (fun _ _ _ h => h) (Or.inl ⟨by rfl, ?_⟩) (by assumption) ?_
      rotate_left
      · intro w hSw; (try dsimp only at hSw); go_simp; first | done | with_reducible rfl
      try simp only [Act.put, List.setIfInBounds_toArray, List.set_cons_zero, List.set_cons_succ]
      refine wpAnyH_take (i := 19) (oi := ⟨some 55, _, _, _, _, _⟩) (v := ?_) rfl (by kernel_rfl) (by kernel_rfl) (by kernel_rfl) (fun _ _ _ h => h) (Or.inl ⟨by rfl, ?_⟩) (by assumption) ?_
      rotate_left
      · intro w hSw; (try dsimp only at hSw); go_simp; first | done | with_reducible rfl
      try simp only [Act.put, List.setIfInBounds_toArray, List.set_cons_zero, List.set_cons_succ]
      refine wpAnyH_take (i := 20) (oi := ⟨some 56, _, _, _, _, _⟩) (v := ?_) rfl (by kernel_rfl) (by kernel_rfl) (by kernel_rfl) (fun _ _ _ h => h) (Or.inl ⟨by rfl, ?_⟩) (by assumption) ?_
      rotate_left
      · intro w hSw; (try dsimp only at hSw); go_simp; first | done | with_reducible rfl
      try simp only [Act.put, List.setIfInBounds_toArray, List.set_cons_zero, List.set_cons_succ]
      refine wpAnyH_take (i := 21) (oi := ⟨some 57, _, _, _, _, _⟩) (v := ?_) rfl (by kernel_rfl) (by kernel_rfl) (by kernel_rfl) (fun _ _ _ h => h) (Or.inl ⟨by rfl, ?_⟩) (by assumption) ?_
      rotate_left
      · intro w hSw; (try dsimp only at hSw); go_simp; first | done | with_reducible rfl
      try simp only [Act.put, List.setIfInBounds_toArray, List.set_cons_zero, List.set_cons_succ]
      refine wpAnyH_take (i := 22) (oi := ⟨some 58, _, _, _, _, _⟩) (v := ?_) rfl (by kernel_rfl) (by kernel_rfl) (by kernel_rfl) (fun _ _ _ h => h) (Or.inl ⟨by rfl, ?_⟩) (by assumption) ?_
      rotate_left
      · intro w hSw; (try dsimp only at hSw); go_simp; first | done | with_reducible rfl
      try simp only [Act.put, List.setIfInBounds_toArray, List.set_cons_zero, List.set_cons_succ]
      refine wpAnyH_take (i := 23) (oi := ⟨some 59, _, _, _, _, _⟩) (v := ?_) rfl (by kernel_rfl) (by kernel_rfl) (by kernel_rfl) (fun _ _ _ h => h) (Or.inl ⟨by rfl, ?_⟩) (by assumption) ?_
      rotate_left
      · intro w hSw; (try dsimp only at hSw); go_simp; first | done | with_reducible rfl
      try simp only [Act.put, List.setIfInBounds_toArray, List.set_cons_zero, List.set_cons_succ]
      refine wpAnyH_take (i := 24) (oi := ⟨some 60, _, _, _, _, _⟩) (v := ?_) rfl (by kernel_rfl) (by kernel_rfl) (by kernel_rfl) (fun _ _ _ h => h) (Or.inl ⟨by rfl, ?_⟩) (by assumption) ?_
      rotate_left
      · intro w hSw; (try dsimp only at hSw); go_simp; first | done | with_reducible rfl
      try simp only [Act.put, List.setIfInBounds_toArray, List.set_cons_zero, List.set_cons_succ]
      refine wpAnyH_take (i := 25) (oi := ⟨some 61, _, _, _, _, _⟩) (v := ?_) rfl (by kernel_rfl) (by kernel_rfl) (by kernel_rfl) (fun _ _ _ h => h) (Or.inl ⟨by rfl, ?_⟩) (by assumption) ?_
      rotate_left
      · intro w hSw; (try dsimp only at hSw); go_simp; first | done | with_reducible rfl
      try simp only [Act.put, List.setIfInBounds_toArray, List.set_cons_zero, List.set_cons_succ]
      refine wpAnyH_ready (rs := [26]) (by kernel_rfl) (by simp) ?_
      refine AllReadyH.cons rfl (fun K hK => ?_) AllReadyH.nil
      go_simp
      refine hK.out _ _ ?_ (fun hQ7 => ?_)
      · (try dsimp only); assumption
      clear hK K hHeld
      try simp only [Act.put, List.setIfInBounds_toArray, List.set_cons_zero, List.set_cons_succ]
      refine wpAnyH_ready (rs := [27]) (by kernel_rfl) (by simp) ?_
      refine AllReadyH.cons rfl (fun K hK => ?_) AllReadyH.nil
      go_simp
      refine hK.out _ _ ?_ (fun hQ8 => ?_)
      · (try dsimp only); assumption
      clear hK K hQ7
      try simp only [Act.put, List.setIfInBounds_toArray, List.set_cons_zero, List.set_cons_succ]
      refine wpAnyH_ready (rs := [28]) (by kernel_rfl) (by simp) ?_
      refine AllReadyH.cons rfl (fun K hK => ?_) AllReadyH.nil
      go_simp
      refine hK.out _ _ ?_ (fun hQ9 => ?_)
      · (try dsimp only); assumption
      clear hK K hQ8
      try simp only [Act.put, List.setIfInBounds_toArray, List.set_cons_zero, List.set_cons_succ]
      refine wpAnyH_ready (rs := [29]) (by kernel_rfl) (by simp) ?_
      refine AllReadyH.cons rfl (fun K hK => ?_) AllReadyH.nil
      go_simp
      refine hK.out _ _ ?_ (fun hQ10 => ?_)
      · (try dsimp only); assumption
      clear hK K hQ9
      try simp only [Act.put, List.setIfInBounds_toArray, List.set_cons_zero, List.set_cons_succ]
      refine wpAnyH_take (i := 30) (oi := ⟨some 66, _, _, _, _, _⟩) (v := ?_) rfl (by kernel_rfl) (by kernel_rfl) (by kernel_rfl) (fun _ _ _ h => h) (Or.inl ⟨by rfl, ?_⟩) (by assumption) ?_
      rotate_left
      · intro w hSw; (try dsimp only at hSw); go_simp; first | done | with_reducible rfl
      try simp only [Act.put, List.setIfInBounds_toArray, List.set_cons_zero, List.set_cons_succ]
      refine wpAnyH_take (i := 31) (oi := ⟨some 67, _, _, _, _, _⟩) (v := ?_) rfl (by kernel_rfl) (by kernel_rfl) (by kernel_rfl) (fun _ _ _ h => h) (Or.inl ⟨by rfl, ?_⟩) (by assumption) ?_
      rotate_left
      · intro w hSw; (try dsimp only at hSw); go_simp; first | done | with_reducible rfl
      try simp only [Act.put, List.setIfInBounds_toArray, List.set_cons_zero, List.set_cons_succ]
      refine wpAnyH_take (i := 32) (oi := ⟨some 68, _, _, _, _, _⟩) (v := ?_) rfl (by kernel_rfl) (by kernel_rfl) (by kernel_rfl) (fun _ _ _ h => h) (Or.inl ⟨by rfl, ?_⟩) (by assumption) ?_
      rotate_left
      · intro w hSw; (try dsimp only at hSw); go_simp; first | done | with_reducible rfl
      try simp only [Act.put, List.setIfInBounds_toArray, List.set_cons_zero, List.set_cons_succ]
      have HA4 := Aside0.mk (show Ik (wc.setCell ⟨gq, 0, none⟩ (.bool false)) ga va from blk_far HA3.out HNE.out.2.1 _)
      have HB4 := Aside0.mk (show Ik (wc.setCell ⟨gq, 0, none⟩ (.bool false)) gb (.slice (some ⟨gv, 0, none⟩) 1 cv) from blk_far HB3.out HNE.out.2.2.2.1 _)
      have HQ4 := Aside0.mk (show Ik (wc.setCell ⟨gq, 0, none⟩ (.bool false)) gq (.slice qA ql qc) from blk_put HQ3.out 0 (.bool false) rfl)
      have HR4 := Aside0.mk (show Ik (wc.setCell ⟨gq, 0, none⟩ (.bool false)) gr (.slice rA rl rc) from blk_far HR3.out (fun h => HNE.out.1 h.symm) _)
      refine wpAnyH_ready (rs := [33]) (by kernel_rfl) (by simp) ?_
      refine AllReadyH.cons rfl (fun K hK => ?_) AllReadyH.nil
      go_simp
      refine hK.out _ _ ?_ (fun hQ11 => ?_)
      · (try dsimp only); exact ⟨blk_cell HQ4.out 1, blk_cell HR4.out 1, blk_cell HA4.out 0, blk_cell HB4.out 0⟩
      clear hK K hQ10
      try simp only [Act.put, List.setIfInBounds_toArray, List.set_cons_zero, List.set_cons_succ]
      have r04 : (wc.setCell ⟨gq, 0, none⟩ (.bool false)).drew.cell? ⟨gr, 0, none⟩ = some (.bool false) := blk_cell HR4.out 0
      have r0f : (wc.setCell ⟨gq, 0, none⟩ (.bool false)).drew.frozen? ⟨gr, 0, none⟩ = false := blk_frozen HR4.out 0
      refine wpAnyH_take (i := 34) (oi := ⟨some 69, _, _, _, _, _⟩) (v := ?_) rfl (by kernel_rfl) (by kernel_rfl) (by kernel_rfl) (fun _ _ _ h => h) (Or.inl ⟨by rfl, ?_⟩) (by assumption) ?_
      rotate_left
      · intro w hSw; (try dsimp only at hSw); go_simp; first | done | with_reducible rfl
      try simp only [Act.put, List.setIfInBounds_toArray, List.set_cons_zero, List.set_cons_succ]
      refine wpAnyH_take (i := 35) (oi := ⟨some 70, _, _, _, _, _⟩) (v := ?_) rfl (by kernel_rfl) (by kernel_rfl) (by kernel_rfl) (fun _ _ _ h => h) (Or.inl ⟨by rfl, ?_⟩) (by assumption) ?_
      rotate_left
      · intro w hSw; (try dsimp only at hSw); go_simp; first | done | with_reducible rfl
      try simp only [Act.put, List.setIfInBounds_toArray, List.set_cons_zero, List.set_cons_succ]
      have HA5 := Aside0.mk (show Ik ((wc.setCell ⟨gq, 0, none⟩ (.bool false)).setCell ⟨gr, 0, none⟩ (.bool false)) ga va from blk_far HA4.out HNE.out.2.2.1 _)
      have HB5 := Aside0.mk (show Ik ((wc.setCell ⟨gq, 0, none⟩ (.bool false)).setCell ⟨gr, 0, none⟩ (.bool false)) gb (.slice (some ⟨gv, 0, none⟩) 1 cv) from blk_far HB4.out HNE.out.2.2.2.2 _)
      have HQ5 := Aside0.mk (show Ik ((wc.setCell ⟨gq, 0, none⟩ (.bool false)).setCell ⟨gr, 0, none⟩ (.bool false)) gq (.slice qA ql qc) from blk_far HQ4.out HNE.out.1 _)
      have HR5 := Aside0.mk (show Ik ((wc.setCell ⟨gq, 0, none⟩ (.bool false)).setCell ⟨gr, 0, none⟩ (.bool false)) gr (.slice rA rl rc) from blk_put HR4.out 0 (.bool false) rfl)
      refine wpAnyH_ready (rs := [36]) (by kernel_rfl) (by simp) ?_
      refine AllReadyH.cons rfl (fun K hK => ?_) AllReadyH.nil
      go_simp
      refine hK.out _ _ ?_ (fun hQ12 => ?_)
      · (try dsimp only); exact ⟨blk_cell HQ5.out 1, blk_cell HR5.out 1, blk_cell HA5.out 0, blk_cell HB5.out 0⟩
      clear hK K hQ11
      try simp only [Act.put, List.setIfInBounds_toArray, List.set_cons_zero, List.set_cons_succ]
      refine wpAnyH_done (by kernel_rfl) ?_ _
      refine NoPanic.normal ?_
      go_wp2_with fail
      refine bodyPost_ret (results_tmp2 rfl _ _ _) rfl ?_
      refine ⟨_, _, rfl, HQ5.out, HR5.out, ?_, ?_, ?_⟩
      · have h1 := blk_lt HQ.out; have h2 := blk_lt HR.out; exact Nt_far (p := ⟨gr, 0, none⟩) (Nt_far (p := ⟨gq, 0, none⟩) (Nt_below HQV.out (below_drew (Below.refl _ _))) h1 _) h2 _
      · have h1 := blk_lt HQ.out; have h2 := blk_lt HR.out; exact Nt_far (p := ⟨gr, 0, none⟩) (Nt_far (p := ⟨gq, 0, none⟩) (Nt_below HRV.out (below_drew (Below.refl _ _))) h1 _) h2 _
      · exact ((HBW.out.trans (below_drew (Below.refl _ _))).setCell (by simpa using HBA.out.1) _).setCell (by simpa using HBA.out.2) _
    · have hrb : decide (0 < rl) = true := decide_eq_true (by omega)
      have hrp : 0 < rl := by omega
      go_wp2_with fail
      refine wp_region_noPanic ?_
      refine wp_region_held_drew (S := (fun w' => w'.cell? ⟨gq, 1, none⟩ = some (.slice qA ql qc) ∧ w'.cell? ⟨gr, 1, none⟩ = some (.slice rA rl rc) ∧ w'.cell? ⟨ga, 0, none⟩ = some (.bool false) ∧ w'.cell? ⟨gb, 0, none⟩ = some (.bool false))) (by kernel_rfl) ?_ (fun hHeld => ?_)
      · (try dsimp only); exact ⟨q1, r1, a0, b0⟩
      refine wpAnyH_take (i := 0) (oi := ⟨some 36, _, _, _, _, _⟩) (v := ?_) rfl (by kernel_rfl) (by kernel_rfl) (by kernel_rfl) (fun _ _ _ h => h) (Or.inl ⟨by rfl, ?_⟩) (by assumption) ?_
      rotate_left
      · intro w hSw; (try dsimp only at hSw); go_simp; first | done | with_reducible rfl
      try simp only [Act.put, List.setIfInBounds_toArray, List.set_cons_zero, List.set_cons_succ]
      refine wpAnyH_take (i := 1) (oi := ⟨some 37, _, _, _, _, _⟩) (v := ?_) rfl (by kernel_rfl) (by kernel_rfl) (by kernel_rfl) (fun _ _ _ h => h) (Or.inl ⟨by rfl, ?_⟩) (by assumption) ?_
      rotate_left
      · intro w hSw; (try dsimp only at hSw); go_simp; first | done | with_reducible rfl
      try simp only [Act.put, List.setIfInBounds_toArray, List.set_cons_zero, List.set_cons_succ]
      refine wpAnyH_take (i := 2) (oi := ⟨some 38, _, _, _, _, _⟩) (v := ?_) rfl (by kernel_rfl) (by kernel_rfl) (by kernel_rfl) (fun _ _ _ h => h) (Or.inl ⟨by rfl, ?_⟩) (by assumption) ?_
      rotate_left
      · intro w hSw; (try dsimp only at hSw); go_simp; first | done | with_reducible rfl
      try simp only [Act.put, List.setIfInBounds_toArray, List.set_cons_zero, List.set_cons_succ]
      refine wpAnyH_take (i := 3) (oi := ⟨some 39, _, _, _, _, _⟩) (v := ?_) rfl (by kernel_rfl) (by kernel_rfl) (by kernel_rfl) (fun _ _ _ h => h) (Or.inl ⟨by rfl, ?_⟩) (by assumption) ?_
      rotate_left
      · intro w hSw; (try dsimp only at hSw); go_simp; first | done | with_reducible rfl
      try simp only [Act.put, List.setIfInBounds_toArray, List.set_cons_zero, List.set_cons_succ]
      refine wpAnyH_take (i := 4) (oi := ⟨some 40, _, _, _, _, _⟩) (v := ?_) rfl (by kernel_rfl) (by kernel_rfl) (by kernel_rfl) (fun _ _ _ h => h) (Or.inl ⟨by rfl, ?_⟩) (by assumption) ?_
      rotate_left
      · intro w hSw; (try dsimp only at hSw); go_simp; first | done | with_reducible rfl
      try simp only [Act.put, List.setIfInBounds_toArray, List.set_cons_zero, List.set_cons_succ]
      refine wpAnyH_take (i := 5) (oi := ⟨some 41, _, _, _, _, _⟩) (v := ?_) rfl (by kernel_rfl) (by kernel_rfl) (by kernel_rfl) (fun _ _ _ h => h) (Or.inl ⟨by rfl, ?_⟩) (by assumption) ?_
      rotate_left
      · intro w hSw; (try dsimp only at hSw); go_simp; first | done | with_reducible rfl
      try simp only [Act.put, List.setIfInBounds_toArray, List.set_cons_zero, List.set_cons_succ]
      refine wpAnyH_take (i := 6) (oi := ⟨some 42, _, _, _, _, _⟩) (v := ?_) rfl (by kernel_rfl) (by kernel_rfl) (by kernel_rfl) (fun _ _ _ h => h) (Or.inl ⟨by rfl, ?_⟩) (by assumption) ?_
      rotate_left
      · intro w hSw; (try dsimp only at hSw); go_simp; first | done | with_reducible rfl
      try simp only [Act.put, List.setIfInBounds_toArray, List.set_cons_zero, List.set_cons_succ]
      refine wpAnyH_take (i := 7) (oi := ⟨some 43, _, _, _, _, _⟩) (v := ?_) rfl (by kernel_rfl) (by kernel_rfl) (by kernel_rfl) (fun _ _ _ h => h) (Or.inl ⟨by rfl, ?_⟩) (by assumption) ?_
      rotate_left
      · intro w hSw; (try dsimp only at hSw); go_simp; first | done | with_reducible rfl
      try simp only [Act.put, List.setIfInBounds_toArray, List.set_cons_zero, List.set_cons_succ]
      refine wpAnyH_take (i := 8) (oi := ⟨some 44, _, _, _, _, _⟩) (v := ?_) rfl (by kernel_rfl) (by kernel_rfl) (by kernel_rfl) (fun _ _ _ h => h) (Or.inl ⟨by rfl, ?_⟩) (by assumption) ?_
      rotate_left
      · intro w hSw; (try dsimp only at hSw); go_simp; first | done | with_reducible rfl
      try simp only [Act.put, List.setIfInBounds_toArray, List.set_cons_zero, List.set_cons_succ]
      refine wpAnyH_take (i := 9) (oi := ⟨some 45, _, _, _, _, _⟩) (v := ?_) rfl (by kernel_rfl) (by kernel_rfl) (by kernel_rfl) (fun _ _ _ h => h) (Or.inl ⟨by rfl, ?_⟩) (by assumption) ?_
      rotate_left
      · intro w hSw; (try dsimp only at hSw); go_simp; first | done | with_reducible rfl
      try simp only [Act.put, List.setIfInBounds_toArray, List.set_cons_zero, List.set_cons_succ]
      refine wpAnyH_take (i := 10) (oi := ⟨some 46, _, _, _, _, _⟩) (v := ?_) rfl (by kernel_rfl) (by kernel_rfl) (by kernel_rfl) (fun _ _ _ h => h) (Or.inl ⟨by rfl, ?_⟩) (by assumption) ?_
      rotate_left
      · intro w hSw; (try dsimp only at hSw); go_simp; first | done | with_reducible rfl
      try simp only [Act.put, List.setIfInBounds_toArray, List.set_cons_zero, List.set_cons_succ]
      refine wpAnyH_take (i := 11) (oi := ⟨some 47, _, _, _, _, _⟩) (v := ?_) rfl (by kernel_rfl) (by kernel_rfl) (by kernel_rfl) (fun _ _ _ h => h) (Or.inl ⟨by rfl, ?_⟩) (by assumption) ?_
      rotate_left
      · intro w hSw; (try dsimp only at hSw); go_simp; first | done | with_reducible rfl
      try simp only [Act.put, List.setIfInBounds_toArray, List.set_cons_zero, List.set_cons_succ]
      refine wpAnyH_take (i := 12) (oi := ⟨some 48, _, _, _, _, _⟩) (v := ?_) rfl (by kernel_rfl) (by kernel_rfl) (by kernel_rfl) (fun _ _ _ h => h) (Or.inl ⟨by rfl, ?_⟩) (by assumption) ?_
      rotate_left
      · intro w hSw; (try dsimp only at hSw); go_simp; first | done | with_reducible rfl
      try simp only [Act.put, List.setIfInBounds_toArray, List.set_cons_zero, List.set_cons_succ]
      refine wpAnyH_take (i := 13) (oi := ⟨some 49, _, _, _, _, _⟩) (v := ?_) rfl (by kernel_rfl) (by kernel_rfl) (by kernel_rfl) (fun _ _ _ h => h) (Or.inl ⟨by rfl, ?_⟩) (by assumption) ?_
      rotate_left
      · intro w hSw; (try dsimp only at hSw); go_simp; first | done | with_reducible rfl
      try simp only [Act.put, List.setIfInBounds_toArray, List.set_cons_zero, List.set_cons_succ]
      refine wpAnyH_take (i := 14) (oi := ⟨some 50, _, _, _, _, _⟩) (v := ?_) rfl (by kernel_rfl) (by kernel_rfl) (by kernel_rfl) (fun _ _ _ h => h) (Or.inl ⟨by rfl, ?_⟩) (by assumption) ?_
      rotate_left
      · intro w hSw; (try dsimp only at hSw); go_simp; first | done | with_reducible rfl
      try simp only [Act.put, List.setIfInBounds_toArray, List.set_cons_zero, List.set_cons_succ]
      refine wpAnyH_take (i := 15) (oi := ⟨some 51, _, _, _, _, _⟩) (v := ?_) rfl (by kernel_rfl) (by kernel_rfl) (by kernel_rfl) (fun _ _ _ h => h) (Or.inl ⟨by rfl, ?_⟩) (by assumption) ?_
      rotate_left
      · intro w hSw; (try dsimp only at hSw); go_simp; first | done | with_reducible rfl
      try simp only [Act.put, List.setIfInBounds_toArray, List.set_cons_zero, List.set_cons_succ]
      refine wpAnyH_take (i := 16) (oi := ⟨some 52, _, _, _, _, _⟩) (v := ?_) rfl (by kernel_rfl) (by kernel_rfl) (by kernel_rfl) (fun _ _ _ h => h) (Or.inl ⟨by rfl, ?_⟩) (by assumption) ?_
      rotate_left
      · intro w hSw; (try dsimp only at hSw); go_simp; first | done | with_reducible rfl
      try simp only [Act.put, List.setIfInBounds_toArray, List.set_cons_zero, List.set_cons_succ]
      refine wpAnyH_take (i := 17) (oi := ⟨some 53, _, _, _, _, _⟩) (v := ?_) rfl (by kernel_rfl) (by kernel_rfl) (by kernel_rfl) (fun _ _ _ h => h) (Or.inl ⟨by rfl, ?_⟩) (by assumption) ?_
      rotate_left
      · intro w hSw; (try dsimp only at hSw); go_simp; first | done | with_reducible rfl
      try simp only [Act.put, List.setIfInBounds_toArray, List.set_cons_zero, List.set_cons_succ]
      refine wpAnyH_take (i := 18) (oi := ⟨some 54, _, _, _, _, _⟩) (v := ?_) rfl (by kernel_rfl) (by kernel_rfl) (by kernel_rfl) (fun _ _ _ h => h) (Or.inl ⟨by rfl, ?_⟩) (by assumption) ?_
      rotate_left
      · intro w hSw; (try dsimp only at hSw); go_simp; first | done | with_reducible rfl
      try simp only [Act.put, List.setIfInBounds_toArray, List.set_cons_zero, List.set_cons_succ]
      refine wpAnyH_take (i := 19) (oi := ⟨some 55, _, _, _, _, _⟩) (v := ?_) rfl (by kernel_rfl) (by kernel_rfl) (by kernel_rfl) (fun _ _ _ h => h) (Or.inl ⟨by rfl, ?_⟩) (by assumption) ?_
      rotate_left
      · intro w hSw; (try dsimp only at hSw); go_simp; first | done | with_reducible rfl
      try simp only [Act.put, List.setIfInBounds_toArray, List.set_cons_zero, List.set_cons_succ]
      refine wpAnyH_take (i := 20) (oi := ⟨some 56, _, _, _, _, _⟩) (v := ?_) rfl (by kernel_rfl) (by kernel_rfl) (by kernel_rfl) (fun _ _ _ h => h) (Or.inl ⟨by rfl, ?_⟩) (by assumption) ?_
      rotate_left
      · intro w hSw; (try dsimp only at hSw); go_simp; first | done | with_reducible rfl
      try simp only [Act.put, List.setIfInBounds_toArray, List.set_cons_zero, List.set_cons_succ]
      refine wpAnyH_take (i := 21) (oi := ⟨some 57, _, _, _, _, _⟩) (v := ?_) rfl (by kernel_rfl) (by kernel_rfl) (by kernel_rfl) (fun _ _ _ h => h) (Or.inl ⟨by rfl, ?_⟩) (by assumption) ?_
      rotate_left
      · intro w hSw; (try dsimp only at hSw); go_simp; first | done | with_reducible rfl
      try simp only [Act.put, List.setIfInBounds_toArray, List.set_cons_zero, List.set_cons_succ]
      refine wpAnyH_take (i := 22) (oi := ⟨some 58, _, _, _, _, _⟩) (v := ?_) rfl (by kernel_rfl) (by kernel_rfl) (by kernel_rfl) (fun _ _ _ h => h) (Or.inl ⟨by rfl, ?_⟩) (by assumption) ?_
      rotate_left
      · intro w hSw; (try dsimp only at hSw); go_simp; first | done | with_reducible rfl
      try simp only [Act.put, List.setIfInBounds_toArray, List.set_cons_zero, List.set_cons_succ]
      refine wpAnyH_take (i := 23) (oi := ⟨some 59, _, _, _, _, _⟩) (v := ?_) rfl (by kernel_rfl) (by kernel_rfl) (by kernel_rfl) (fun _ _ _ h => h) (Or.inl ⟨by rfl, ?_⟩) (by assumption) ?_
      rotate_left
      · intro w hSw; (try dsimp only at hSw); go_simp; first | done | with_reducible rfl
      try simp only [Act.put, List.setIfInBounds_toArray, List.set_cons_zero, List.set_cons_succ]
      refine wpAnyH_take (i := 24) (oi := ⟨some 60, _, _, _, _, _⟩) (v := ?_) rfl (by kernel_rfl) (by kernel_rfl) (by kernel_rfl) (fun _ _ _ h => h) (Or.inl ⟨by rfl, ?_⟩) (by assumption) ?_
      rotate_left
      · intro w hSw; (try dsimp only at hSw); go_simp; first | done | with_reducible rfl
      try simp only [Act.put, List.setIfInBounds_toArray, List.set_cons_zero, List.set_cons_succ]
      refine wpAnyH_take (i := 25) (oi := ⟨some 61, _, _, _, _, _⟩) (v := ?_) rfl (by kernel_rfl) (by kernel_rfl) (by kernel_rfl) (fun _ _ _ h => h) (Or.inl ⟨by rfl, ?_⟩) (by assumption) ?_
      rotate_left
      · intro w hSw; (try dsimp only at hSw); go_simp; first | done | with_reducible rfl
      try simp only [Act.put, List.setIfInBounds_toArray, List.set_cons_zero, List.set_cons_succ]
      refine wpAnyH_take (i := 26) (oi := ⟨some 62, _, _, _, _, _⟩) (v := ?_) rfl (by kernel_rfl) (by kernel_rfl) (by kernel_rfl) (fun _ _ _ h => h) (Or.inl ⟨by rfl, ?_⟩) (by assumption) ?_
      rotate_left
      · intro w hSw; (try dsimp only at hSw); go_simp; first | done | with_reducible rfl
      try simp only [Act.put, List.setIfInBounds_toArray, List.set_cons_zero, List.set_cons_succ]
      refine wpAnyH_take (i := 27) (oi := ⟨some 63, _, _, _, _, _⟩) (v := ?_) rfl (by kernel_rfl) (by kernel_rfl) (by kernel_rfl) (fun _ _ _ h => h) (Or.inl ⟨by rfl, ?_⟩) (by assumption) ?_
      rotate_left
      · intro w hSw; (try dsimp only at hSw); go_simp; first | done | with_reducible rfl
      try simp only [Act.put, List.setIfInBounds_toArray, List.set_cons_zero, List.set_cons_succ]
      refine wpAnyH_take (i := 28) (oi := ⟨some 64, _, _, _, _, _⟩) (v := ?_) rfl (by kernel_rfl) (by kernel_rfl) (by kernel_rfl) (fun _ _ _ h => h) (Or.inl ⟨by rfl, ?_⟩) (by assumption) ?_
      rotate_left
      · intro w hSw; (try dsimp only at hSw); go_simp; first | done | with_reducible rfl
      try simp only [Act.put, List.setIfInBounds_toArray, List.set_cons_zero, List.set_cons_succ]
      refine wpAnyH_take (i := 29) (oi := ⟨some 65, _, _, _, _, _⟩) (v := ?_) rfl (by kernel_rfl) (by kernel_rfl) (by kernel_rfl) (fun _ _ _ h => h) (Or.inl ⟨by rfl, ?_⟩) (by assumption) ?_
      rotate_left
      · intro w hSw; (try dsimp only at hSw); go_simp; first | done | with_reducible rfl
      try simp only [Act.put, List.setIfInBounds_toArray, List.set_cons_zero, List.set_cons_succ]
      refine wpAnyH_take (i := 30) (oi := ⟨some 66, _, _, _, _, _⟩) (v := ?_) rfl (by kernel_rfl) (by kernel_rfl) (by kernel_rfl) (fun _ _ _ h => h) (Or.inl ⟨by rfl, ?_⟩) (by assumption) ?_
      rotate_left
      · intro w hSw; (try dsimp only at hSw); go_simp; first | done | with_reducible rfl
      try simp only [Act.put, List.setIfInBounds_toArray, List.set_cons_zero, List.set_cons_succ]
      refine wpAnyH_take (i := 31) (oi := ⟨some 67, _, _, _, _, _⟩) (v := ?_) rfl (by kernel_rfl) (by kernel_rfl) (by kernel_rfl) (fun _ _ _ h => h) (Or.inl ⟨by rfl, ?_⟩) (by assumption) ?_
      rotate_left
      · intro w hSw; (try dsimp only at hSw); go_simp; first | done | with_reducible rfl
      try simp only [Act.put, List.setIfInBounds_toArray, List.set_cons_zero, List.set_cons_succ]
      refine wpAnyH_take (i := 32) (oi := ⟨some 68, _, _, _, _, _⟩) (v := ?_) rfl (by kernel_rfl) (by kernel_rfl) (by kernel_rfl) (fun _ _ _ h => h) (Or.inl ⟨by rfl, ?_⟩) (by assumption) ?_
      rotate_left
      · intro w hSw; (try dsimp only at hSw); go_simp; first | done | with_reducible rfl
      try simp only [Act.put, List.setIfInBounds_toArray, List.set_cons_zero, List.set_cons_succ]
      have HA4 := Aside0.mk (show Ik (wc.setCell ⟨gq, 0, none⟩ (.bool false)) ga va from blk_far HA3.out HNE.out.2.1 _)
      have HB4 := Aside0.mk (show Ik (wc.setCell ⟨gq, 0, none⟩ (.bool false)) gb (.slice (some ⟨gv, 0, none⟩) 1 cv) from blk_far HB3.out HNE.out.2.2.2.1 _)
      have HQ4 := Aside0.mk (show Ik (wc.setCell ⟨gq, 0, none⟩ (.bool false)) gq (.slice qA ql qc) from blk_put HQ3.out 0 (.bool false) rfl)
      have HR4 := Aside0.mk (show Ik (wc.setCell ⟨gq, 0, none⟩ (.bool false)) gr (.slice rA rl rc) from blk_far HR3.out (fun h => HNE.out.1 h.symm) _)
      refine wpAnyH_ready (rs := [33]) (by kernel_rfl) (by simp) ?_
      refine AllReadyH.cons rfl (fun K hK => ?_) AllReadyH.nil
      go_simp
      refine hK.out _ _ ?_ (fun hQ13 => ?_)
      · (try dsimp only); exact ⟨blk_cell HQ4.out 1, blk_cell HR4.out 1, blk_cell HA4.out 0, blk_cell HB4.out 0⟩
      clear hK K hHeld
      try simp only [Act.put, List.setIfInBounds_toArray, List.set_cons_zero, List.set_cons_succ]
      have r04 : (wc.setCell ⟨gq, 0, none⟩ (.bool false)).drew.cell? ⟨gr, 0, none⟩ = some (.bool false) := blk_cell HR4.out 0
      have r0f : (wc.setCell ⟨gq, 0, none⟩ (.bool false)).drew.frozen? ⟨gr, 0, none⟩ = false := blk_frozen HR4.out 0
      refine wpAnyH_take (i := 34) (oi := ⟨some 69, _, _, _, _, _⟩) (v := ?_) rfl (by kernel_rfl) (by kernel_rfl) (by kernel_rfl) (fun _ _ _ h => h) (Or.inl ⟨by rfl, ?_⟩) (by assumption) ?_
      rotate_left
      · intro w hSw; (try dsimp only at hSw); go_simp; first | done | with_reducible rfl
      try simp only [Act.put, List.setIfInBounds_toArray, List.set_cons_zero, List.set_cons_succ]
      refine wpAnyH_take (i := 35) (oi := ⟨some 70, _, _, _, _, _⟩) (v := ?_) rfl (by kernel_rfl) (by kernel_rfl) (by kernel_rfl) (fun _ _ _ h => h) (Or.inl ⟨by rfl, ?_⟩) (by assumption) ?_
      rotate_left
      · intro w hSw; (try dsimp only at hSw); go_simp; first | done | with_reducible rfl
      try simp only [Act.put, List.setIfInBounds_toArray, List.set_cons_zero, List.set_cons_succ]
      have HA5 := Aside0.mk (show Ik ((wc.setCell ⟨gq, 0, none⟩ (.bool false)).setCell ⟨gr, 0, none⟩ (.bool false)) ga va from blk_far HA4.out HNE.out.2.2.1 _)
      have HB5 := Aside0.mk (show Ik ((wc.setCell ⟨gq, 0, none⟩ (.bool false)).setCell ⟨gr, 0, none⟩ (.bool false)) gb (.slice (some ⟨gv, 0, none⟩) 1 cv) from blk_far HB4.out HNE.out.2.2.2.2 _)
      have HQ5 := Aside0.mk (show Ik ((wc.setCell ⟨gq, 0, none⟩ (.bool false)).setCell ⟨gr, 0, none⟩ (.bool false)) gq (.slice qA ql qc) from blk_far HQ4.out HNE.out.1 _)
      have HR5 := Aside0.mk (show Ik ((wc.setCell ⟨gq, 0, none⟩ (.bool false)).setCell ⟨gr, 0, none⟩ (.bool false)) gr (.slice rA rl rc) from blk_put HR4.out 0 (.bool false) rfl)
      refine wpAnyH_ready (rs := [36]) (by kernel_rfl) (by simp) ?_
      refine AllReadyH.cons rfl (fun K hK => ?_) AllReadyH.nil
      go_simp
      refine hK.out _ _ ?_ (fun hQ14 => ?_)
      · (try dsimp only); exact ⟨blk_cell HQ5.out 1, blk_cell HR5.out 1, blk_cell HA5.out 0, blk_cell HB5.out 0⟩
      clear hK K hQ13
      try simp only [Act.put, List.setIfInBounds_toArray, List.set_cons_zero, List.set_cons_succ]
      refine wpAnyH_done (by kernel_rfl) ?_ _
      refine NoPanic.normal ?_
      go_wp2_with fail
      refine bodyPost_ret (results_tmp2 rfl _ _ _) rfl ?_
      refine ⟨_, _, rfl, HQ5.out, HR5.out, ?_, ?_, ?_⟩
      · have h1 := blk_lt HQ.out; have h2 := blk_lt HR.out; exact Nt_far (p := ⟨gr, 0, none⟩) (Nt_far (p := ⟨gq, 0, none⟩) (Nt_below HQV.out (below_drew (Below.refl _ _))) h1 _) h2 _
      · have h1 := blk_lt HQ.out; have h2 := blk_lt HR.out; exact Nt_far (p := ⟨gr, 0, none⟩) (Nt_far (p := ⟨gq, 0, none⟩) (Nt_below HRV.out (below_drew (Below.refl _ _))) h1 _) h2 _
      · exact ((HBW.out.trans (below_drew (Below.refl _ _))).setCell (by simpa using HBA.out.1) _).setCell (by simpa using HBA.out.2) _
end Go.Proofs.YtgpoplfgngiilaaGreatDoor
