/- nat's cmp where the lengths differ or both are one word; Int's Set and Abs into a new Int. -/
import Derived.Test.YtgpoplfgngiilaaGreatDoorZ09
import Derived.BigQuiet
import Derived.LaidEqlPtr
import Derived.Deep.RegionHeld3
set_option linter.unusedVariables false
set_option linter.unusedSimpArgs false
namespace Go.Proofs.YtgpoplfgngiilaaGreatDoor
open Go.RowKit Go.Proofs.YtgpoplfgngiilaaGreatDoorW.PrintWords PAll Pl Dv

theorem cmpInt_of {X Y : Nat} (B : Nat) (hB : 2 ≤ B) (h : (figs B X).length < (figs B Y).length) : X < Y := by
  have := val_mono (B := (B : Int)) (by omega) (figs_Dg hB X) (figs_Dg hB Y) (figs_Top hB Y) h
  rw [figs_val hB, figs_val hB] at this
  omega

set_option maxHeartbeats 2000000 in
set_option maxRecDepth 100000 in
theorem cmp_len (X Y : Nat) (A : Option Addr) (m c : Nat) (B : Option Addr) (n d : Nat) (w : World) (hm : m = (figs 18446744073709551616 X).length) (hn : n = (figs 18446744073709551616 Y).length) (h : m ≠ n) :
    Calls Tryz.prog 183 #[.slice A m c, .slice B n d] w fun e w' => e = .returned (.int .i64 (cmpInt X Y)) ∧ Below w.heap.size w w' := by
  rcases Nat.lt_or_ge m n with h1 | h1
  · have hlt := cmpInt_of 18446744073709551616 (by decide) (show (figs 18446744073709551616 X).length < (figs 18446744073709551616 Y).length by omega)
    have hc : cmpInt (X : Int) Y = -1 := if_pos (by omega)
    have b1 : ((m : Int) != n) = true := by simp; omega
    have b2 : decide ((m : Int) < n) = true := decide_eq_true (by omega)
    have h1i : (m : Int) < n := by omega
    rw [hc]
    clear hm hn h hlt hc
    go_enter Tryz.func183, Tryz.ntmps183
    go_wp2_with fail
    go_ret
    exact ⟨rfl, Below.refl _ _⟩
  · have hlt := cmpInt_of 18446744073709551616 (by decide) (show (figs 18446744073709551616 Y).length < (figs 18446744073709551616 X).length by omega)
    have hc : cmpInt (X : Int) Y = 1 := (if_neg (by omega)).trans (if_pos (by omega))
    have b1 : ((m : Int) != n) = true := by simp; omega
    have b2 : decide ((m : Int) < n) = false := decide_eq_false (by omega)
    have b3 : decide ((n : Int) < m) = true := decide_eq_true (by omega)
    have h1i : (n : Int) < m := by omega
    have h2i : ¬ (m : Int) < n := by omega
    rw [hc]
    clear hm hn h hlt hc
    go_enter Tryz.func183, Tryz.ntmps183
    go_wp2_with fail
    go_ret
    exact ⟨rfl, Below.refl _ _⟩

set_option maxHeartbeats 2000000 in
set_option maxRecDepth 100000 in
theorem cmp_one (X Y : Nat) (a b : Addr) (c d : Nat) (w : World) (hX : w.cell? a = some (.int .u64 X)) (hY : w.cell? b = some (.int .u64 Y)) (hc : 1 ≤ c) (hd : 1 ≤ d) :
    Calls Tryz.prog 183 #[.slice (some a) 1 c, .slice (some b) 1 d] w fun e w' => e = .returned (.int .i64 (cmpInt X Y)) ∧ Below w.heap.size w w' := by
  obtain ⟨x, hx⟩ : ∃ x : Int, x = X := ⟨_, rfl⟩
  obtain ⟨y, hy⟩ : ∃ y : Int, y = Y := ⟨_, rfl⟩
  rw [← hx] at hX ⊢
  rw [← hy] at hY ⊢
  clear hx hy
  rcases Int.lt_trichotomy x y with h | h | h
  · have hcc : cmpInt x y = -1 := if_pos h
    have b1 : decide (x < y) = true := decide_eq_true h
    rw [hcc]
    clear hcc
    go_enter Tryz.func183, Tryz.ntmps183
    go_wp2_with fail
    go_loopw [7] (fun i W => i = .int .i64 0 ∧ W = w) (fun _ _ => 0)
    case atStart => exact ⟨rfl, rfl⟩
    case round =>
    obtain ⟨rfl, rfl⟩ := hrel
    go_wp2_with fail
    go_quiet (fail)
    go_wp2_with fail
    go_quiet (fail)
    go_wp2_with fail
    go_ret
    exact ⟨rfl, by repeat (first | exact Below.refl _ _ | apply below_drew1 | apply pw_below_drewN)⟩
  · subst h
    have hcc : cmpInt x x = 0 := (if_neg (by omega)).trans (if_neg (by omega))
    have b1 : decide (x < x) = false := decide_eq_false (by omega)
    rw [hcc]
    clear hcc
    go_enter Tryz.func183, Tryz.ntmps183
    go_wp2_with fail
    go_loopw [7] (fun i W => i = .int .i64 0 ∧ W = w) (fun _ _ => 0)
    case atStart => exact ⟨rfl, rfl⟩
    case round =>
    obtain ⟨rfl, rfl⟩ := hrel
    go_wp2_with fail
    go_quiet (fail)
    go_wp2_with fail
    go_quiet (fail)
    go_wp2_with fail
    go_quiet (fail)
    go_wp2_with fail
    go_ret
    exact ⟨rfl, by repeat (first | exact Below.refl _ _ | apply below_drew1 | apply pw_below_drewN)⟩
  · have hcc : cmpInt x y = 1 := (if_neg (by omega)).trans (if_pos h)
    have b1 : decide (x < y) = false := decide_eq_false (by omega)
    have b2 : decide (y < x) = true := decide_eq_true h
    have b3 : ¬ x < y := by omega
    rw [hcc]
    clear hcc
    go_enter Tryz.func183, Tryz.ntmps183
    go_wp2_with fail
    go_loopw [7] (fun i W => i = .int .i64 0 ∧ W = w) (fun _ _ => 0)
    case atStart => exact ⟨rfl, rfl⟩
    case round =>
    obtain ⟨rfl, rfl⟩ := hrel
    go_wp2_with fail
    go_quiet (fail)
    go_wp2_with fail
    go_quiet (fail)
    go_wp2_with fail
    go_quiet (fail)
    go_wp2_with fail
    go_ret
    exact ⟨rfl, by repeat (first | exact Below.refl _ _ | apply below_drew1 | apply pw_below_drewN)⟩

/-- What Set and Abs leave in the Int at gz. -/
def AbOk (X gz : Nat) (w : World) (e : Ending) (w' : World) : Prop :=
  ∃ v, e = .returned (.pointer (some ⟨gz, 0, none⟩)) ∧ w'.heap[gz]? = some (.cells #[.bool false, v] 116 (0, 0)) ∧ Nt w' w.heap.size v (figs 18446744073709551616 X) ∧ w.grownBy w' (some gz)

theorem run_neq_ptr_other {P : Program} (w : World) {tp te : TypeId} {j : TypeInfo} {a b : Addr} {ca cb : Array Value} {ta tb : TypeId} (hp : P.underlying tp = some (.pointer te)) (hte : P.info? te = some j) (hsz : j.size ≠ 0)
    (hne : a ≠ b) (ha : w.heap[a.block]? = some (.cells ca ta (0, 0))) (hb : w.heap[b.block]? = some (.cells cb tb (0, 0))) :
    (binOp .neq tp (.pointer (some a)) (.pointer (some b))).run P w = .ok (.bool true) w := by
  have h : ∀ d : Nat, (Op.equalIn (d + 1) tp (.pointer (some a)) (.pointer (some b))).run P w = .ok false w := fun d => by
    simp [Op.equalIn, run_underlying hp, sizeOf, typeInfo, hte, hsz, run_sameAddr_other w hne ha hb]
  simp only [binOp]
  simp [Op.equal, Op.maxDepth, h 9999]
theorem info116 : ∃ j, Tryz.prog.info? 116 = some j ∧ j.size ≠ 0 := by
  have h : (Tryz.prog.info? 116).map (fun i => decide (i.size ≠ 0)) = some true := by kernel_rfl
  obtain ⟨i, hi, hc⟩ := Option.map_eq_some_iff.1 h
  exact ⟨i, hi, by simpa using hc⟩
theorem neq89 {w : World} {a b : Addr} {ca cb : Array Value} {ta tb : TypeId} (hne : a ≠ b) (ha : w.heap[a.block]? = some (.cells ca ta (0, 0))) (hb : w.heap[b.block]? = some (.cells cb tb (0, 0))) :
    (binOp .neq 89 (.pointer (some a)) (.pointer (some b))).run Tryz.prog w = .ok (.bool true) w := by
  obtain ⟨j, h1, h2⟩ := info116
  exact run_neq_ptr_other w Tryz.underlying89 h1 h2 hne ha hb
theorem eql89 {w : World} {a b : Addr} {ca cb : Array Value} {ta tb : TypeId} (hne : a ≠ b) (ha : w.heap[a.block]? = some (.cells ca ta (0, 0))) (hb : w.heap[b.block]? = some (.cells cb tb (0, 0))) :
    (binOp .eql 89 (.pointer (some a)) (.pointer (some b))).run Tryz.prog w = .ok (.bool false) w := by
  obtain ⟨j, h1, h2⟩ := info116
  exact run_eql_ptr_other w Tryz.underlying89 h1 h2 hne ha hb

set_option maxHeartbeats 2000000 in
set_option maxRecDepth 100000 in
theorem int_set (X gz gx o : Nat) (A : Option Addr) (n c : Nat) (cx : Array Value) (tx : TypeId) (w : World) (hz : w.heap[gz]? = some (.cells #[.bool false, .slice none 0 0] 116 (0, 0))) (hne : gx ≠ gz) (hx : w.heap[gx]? = some (.cells cx tx (0, 0)))
    (h0 : cx[o]? = some (.bool false)) (h1 : cx[o + 1]? = some (.slice A n c)) (hC : Kd.C (Kd.int .u64) w A n (figs 18446744073709551616 X)) (hn : n ≤ 100000) :
    Calls Tryz.prog 189 #[.pointer (some ⟨gz, 0, none⟩), .pointer (some ⟨gx, o, none⟩)] w (AbOk X gz w) := by
  have hpp := neq89 (w := w) (a := ⟨gz, 0, none⟩) (b := ⟨gx, o, none⟩) (by intro e; exact hne (congrArg Addr.block e).symm) hz hx
  have HS := Aside0.mk (set_nil w.heap.size A n c _ w.drew (C_move hC (fun ad _ k => rfl)) hn (Nat.le_refl _))
  have HZ := Aside0.mk hz
  have z0 : w.cell? ⟨gz, 0, none⟩ = some (.bool false) := blk_cell hz 0
  have z1 : w.cell? ⟨gz, 1, none⟩ = some (.slice none 0 0) := blk_cell hz 1
  have x0 : w.cell? ⟨gx, o, none⟩ = some (.bool false) := (blk_cell hx o).trans h0
  have x1 : w.cell? ⟨gx, o + 1, none⟩ = some (.slice A n c) := (blk_cell hx (o + 1)).trans h1
  have HX := Aside0.mk (And.intro hx h0)
  clear hz hC hx h0 h1
  go_enter Tryz.func189, Tryz.ntmps189
  go_wp2_with fail
  refine wp_region_noPanic ?_
  refine wp_region_held_drew (S := (fun w' => w'.cell? ⟨gx, o + 1, none⟩ = some (.slice A n c))) (by kernel_rfl) ?_ (fun hHeld => ?_)
  · (try dsimp only); exact x1
  refine wpAnyH_take (i := 0) (v := ?_) rfl (by kernel_rfl) (by kernel_rfl) (by kernel_rfl) (fun _ _ _ h => h) (Or.inl ⟨by rfl, ?_⟩) (by assumption) ?_
  rotate_left
  · intro w hSw; (try dsimp only at hSw); go_simp; first | done | with_reducible rfl
  try simp only [Act.put, List.setIfInBounds_toArray, List.set_cons_zero, List.set_cons_succ]
  refine wpAnyH_take (i := 1) (v := ?_) rfl (by kernel_rfl) (by kernel_rfl) (by kernel_rfl) (fun _ _ _ h => h) (Or.inl ⟨by rfl, ?_⟩) (by assumption) ?_
  rotate_left
  · intro w hSw; (try dsimp only at hSw); go_simp; first | done | with_reducible rfl
  try simp only [Act.put, List.setIfInBounds_toArray, List.set_cons_zero, List.set_cons_succ]
  refine wpAnyH_take (i := 2) (v := ?_) rfl (by kernel_rfl) (by kernel_rfl) (by kernel_rfl) (fun _ _ _ h => h) (Or.inl ⟨by rfl, ?_⟩) (by assumption) ?_
  rotate_left
  · intro w hSw; (try dsimp only at hSw); go_simp; first | done | with_reducible rfl
  try simp only [Act.put, List.setIfInBounds_toArray, List.set_cons_zero, List.set_cons_succ]
  refine wpAnyH_take (i := 3) (v := ?_) rfl (by kernel_rfl) (by kernel_rfl) (by kernel_rfl) (fun _ _ _ h => h) (Or.inl ⟨by rfl, ?_⟩) (by assumption) ?_
  rotate_left
  · intro w hSw; (try dsimp only at hSw); go_simp; first | done | with_reducible rfl
  try simp only [Act.put, List.setIfInBounds_toArray, List.set_cons_zero, List.set_cons_succ]
  refine wpAnyH_take (i := 5) (v := ?_) rfl (by kernel_rfl) (by kernel_rfl) (by kernel_rfl) (fun _ _ _ h => h) (Or.inl ⟨by rfl, ?_⟩) (by assumption) ?_
  rotate_left
  · intro w hSw; (try dsimp only at hSw); go_simp; first | done | with_reducible rfl
  try simp only [Act.put, List.setIfInBounds_toArray, List.set_cons_zero, List.set_cons_succ]
  refine wpAnyH_take (i := 6) (v := ?_) rfl (by kernel_rfl) (by kernel_rfl) (by kernel_rfl) (fun _ _ _ h => h) (Or.inl ⟨by rfl, ?_⟩) (by assumption) ?_
  rotate_left
  · intro w hSw; (try dsimp only at hSw); go_simp; first | done | with_reducible rfl
  try simp only [Act.put, List.setIfInBounds_toArray, List.set_cons_zero, List.set_cons_succ]
  refine wpAnyH_take (i := 7) (v := ?_) rfl (by kernel_rfl) (by kernel_rfl) (by kernel_rfl) (fun _ _ _ h => h) (Or.inl ⟨by rfl, ?_⟩) (by assumption) ?_
  rotate_left
  · intro w hSw; (try dsimp only at hSw); go_simp; first | done | with_reducible rfl
  try simp only [Act.put, List.setIfInBounds_toArray, List.set_cons_zero, List.set_cons_succ]
  refine wpAnyH_take (i := 8) (v := ?_) rfl (by kernel_rfl) (by kernel_rfl) (by kernel_rfl) (fun _ _ _ h => h) (Or.inl ⟨by rfl, ?_⟩) (by assumption) ?_
  rotate_left
  · intro w hSw; (try dsimp only at hSw); go_simp; first | done | with_reducible rfl
  try simp only [Act.put, List.setIfInBounds_toArray, List.set_cons_zero, List.set_cons_succ]
  refine wpAnyH_ready (rs := [4]) (by kernel_rfl) (by simp) ?_
  refine AllReadyH.cons rfl (fun K hK => ?_) AllReadyH.nil
  go_simp
  refine hK.out _ _ ?_ (fun hQ1 => ?_)
  · (try dsimp only); assumption
  clear hK K hHeld
  try simp only [Act.put, List.setIfInBounds_toArray, List.set_cons_zero, List.set_cons_succ]
  refine wpAnyH_ready (rs := [9]) (by kernel_rfl) (by simp) ?_
  refine AllReadyH.cons rfl (fun K hK => ?_) AllReadyH.nil
  go_simp
  refine HS.out.mono ?_
  rintro e w1 ⟨v, rfl, hv, hb⟩
  obtain ⟨vA, vc, rfl⟩ := Nt_slice hv
  have HV := Aside0.mk hv
  have HB := Aside0.mk hb
  have hz1 := blk_below (blk_drew HZ.out) hb
  have HZ1 := Aside0.mk hz1
  have x1w := pw_cell_below hb (show w.drew.cell? ⟨gx, o + 1, none⟩ = _ from x1)
  have y1 : w1.cell? ⟨gz, 1, none⟩ = some (.slice none 0 0) := blk_cell hz1 1
  have yf1 : w1.frozen? ⟨gz, 1, none⟩ = false := blk_frozen hz1 1
  clear hv hb hz1
  go_wp2_with fail
  refine hK.out _ _ ?_ (fun hQ2 => ?_)
  · (try dsimp only); exact x1w
  clear hK K hQ1
  try simp only [Act.put, List.setIfInBounds_toArray, List.set_cons_zero, List.set_cons_succ]
  refine wpAnyH_take (i := 10) (v := ?_) rfl (by kernel_rfl) (by kernel_rfl) (by kernel_rfl) (fun _ _ _ h => h) (Or.inl ⟨by rfl, ?_⟩) (by assumption) ?_
  rotate_left
  · intro w hSw; (try dsimp only at hSw); go_simp; first | done | with_reducible rfl
  try simp only [Act.put, List.setIfInBounds_toArray, List.set_cons_zero, List.set_cons_succ]
  refine wpAnyH_take (i := 11) (v := ?_) rfl (by kernel_rfl) (by kernel_rfl) (by kernel_rfl) (fun _ _ _ h => h) (Or.inl ⟨by rfl, ?_⟩) (by assumption) ?_
  rotate_left
  · intro w hSw; (try dsimp only at hSw); go_simp; first | done | with_reducible rfl
  try simp only [Act.put, List.setIfInBounds_toArray, List.set_cons_zero, List.set_cons_succ]
  refine wpAnyH_ready (rs := [12]) (by kernel_rfl) (by simp) ?_
  refine AllReadyH.cons rfl (fun K hK => ?_) AllReadyH.nil
  go_simp
  refine hK.out _ _ ?_ (fun hQ3 => ?_)
  · (try dsimp only); exact (World.cell?_of_block (Below.heap_setCell w1 ⟨gz, 1, none⟩ _ _ hne)).trans x1w
  clear hK K hQ2
  try simp only [Act.put, List.setIfInBounds_toArray, List.set_cons_zero, List.set_cons_succ]
  refine wpAnyH_done (by kernel_rfl) ?_ _
  refine NoPanic.normal ?_
  have hx2 : (w1.setCell ⟨gz, 1, none⟩ (.slice vA (figs 18446744073709551616 X).length vc)).cell? ⟨gx, o, none⟩ = some (.bool false) := (World.cell?_of_block (Below.heap_setCell w1 ⟨gz, 1, none⟩ _ _ hne)).trans (pw_cell_below HB.out (show w.drew.cell? ⟨gx, o, none⟩ = _ from x0))
  have hz2 := blk_put (cs := #[.bool false, .slice none 0 0]) HZ1.out 1 (.slice vA (figs 18446744073709551616 X).length vc) rfl
  have y0 : (w1.setCell ⟨gz, 1, none⟩ (.slice vA (figs 18446744073709551616 X).length vc)).cell? ⟨gz, 0, none⟩ = some (.bool false) := blk_cell hz2 0
  have yf0 : (w1.setCell ⟨gz, 1, none⟩ (.slice vA (figs 18446744073709551616 X).length vc)).frozen? ⟨gz, 0, none⟩ = false := blk_frozen hz2 0
  have HZ2 := Aside0.mk hz2
  clear hz2
  go_wp2_with fail
  go_ret
  refine ⟨_, rfl, blk_put (cs := #[.bool false, .slice vA (figs 18446744073709551616 X).length vc]) HZ2.out 0 (.bool false) rfl, ?_, ?_⟩
  · have h1 : gz < w.heap.size := blk_lt HZ.out
    exact Nt_far (p := ⟨gz, 0, none⟩) (Nt_far (p := ⟨gz, 1, none⟩) HV.out h1 _) h1 _
  · exact only_setCell (p := ⟨gz, 0, none⟩) (only_setCell (p := ⟨gz, 1, none⟩) (only_below (only_drewN (only_refl _ _) 1) HB.out) (.inl rfl) _) (.inl rfl) _

set_option maxHeartbeats 2000000 in
theorem int_abs (X gz gx o : Nat) (A : Option Addr) (n c : Nat) (cx : Array Value) (tx : TypeId) (w : World) (hz : w.heap[gz]? = some (.cells #[.bool false, .slice none 0 0] 116 (0, 0))) (hne : gx ≠ gz) (hx : w.heap[gx]? = some (.cells cx tx (0, 0)))
    (h0 : cx[o]? = some (.bool false)) (h1 : cx[o + 1]? = some (.slice A n c)) (hC : Kd.C (Kd.int .u64) w A n (figs 18446744073709551616 X)) (hn : n ≤ 100000) :
    Calls Tryz.prog 182 #[.pointer (some ⟨gz, 0, none⟩), .pointer (some ⟨gx, o, none⟩)] w (AbOk X gz w) := by
  have HS := Aside0.mk (int_set X gz gx o A n c cx tx w hz hne hx h0 h1 hC hn)
  have HZ := Aside0.mk (blk_lt hz)
  clear hz hne hx h0 h1 hC hn
  go_enter Tryz.func182, Tryz.ntmps182
  go_wp2_with fail
  refine HS.out.mono ?_
  rintro e w1 ⟨v, rfl, h1, h2, h3⟩
  have H1 := Aside0.mk h1
  have H2 := Aside0.mk h2
  have H3 := Aside0.mk h3
  have y0 : w1.cell? ⟨gz, 0, none⟩ = some (.bool false) := blk_cell h1 0
  have yf0 : w1.frozen? ⟨gz, 0, none⟩ = false := blk_frozen h1 0
  clear h1 h2 h3
  go_wp2_with fail
  go_ret
  exact ⟨v, rfl, blk_put (cs := #[.bool false, v]) H1.out 0 (.bool false) rfl, Nt_far (p := ⟨gz, 0, none⟩) H2.out HZ.out _, only_setCell (p := ⟨gz, 0, none⟩) H3.out (.inl rfl) _⟩
end Go.Proofs.YtgpoplfgngiilaaGreatDoor
